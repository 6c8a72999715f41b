import JvmDerived
import JvmDerived.Pilot.@@N@@Statement
import JvmDerived.Pilot.@@N@@Code
set_option linter.unusedVariables false
set_option linter.unusedSimpArgs false

namespace Jvm.Pilot.@@N@@
open Jvm Jvm.ClassFile Sem Op Lib Jvm.Free Jvm.Stand Jvm.LawKit Jvm.RoadKit Bundle Jvm.Pilot.@@N@@.Jvm.D
/-- a body that writes nothing and returns r -/
def own_Pure (r : Option Value) (h0 : Heap) (n0 : Nat) (v : Option Value) (h : Heap) (L : List Loc) : Prop := v = r ∧ Fr n0 L ∧ h = h0
theorem own_ext_refl (h : Heap) : Ext h h := ⟨Nat.le_refl _, fun _ _ q => q⟩
theorem own_ext_trans {h0 h h' : Heap} (A : Ext h0 h) (B : Ext h h') : Ext h0 h' := ⟨Nat.le_trans A.1 B.1, fun a c q => B.2 a c (A.2 a c q)⟩
theorem own_ext_keep {h0 h h' : Heap} {ws : List Addr} (A : Ext h0 h) (K : Keep h h' ws) (q : ∀ x ∈ ws, h0.size ≤ x) : Ext h0 h' :=
  ⟨Nat.le_trans A.1 K.1, fun a c r => K.2.1 a c (A.2 a c r) fun z => Nat.lt_irrefl _ (Nat.lt_of_lt_of_le (Array.getElem?_eq_some_iff.mp r).1 (q a z))⟩
theorem own_ext_wr {h0 h h' : Heap} {a : Addr} {sl : Nat} {v : Value} (A : Ext h0 h) (W : Wr h h' a sl v) (q : h0.size ≤ a) : Ext h0 h' := own_ext_keep A (Keep.of_wr W) (allS q all0)
/-- a law that may make cells -/
def own_Made (r : Option Value) (n0 : Nat) (v : Option Value) (h : Heap) (L : List Loc) : Prop := v = r ∧ Fr n0 L ∧ True
theorem own_fld_eq {args : Array Value} {Z : State} {t : Term} {a : Addr} {C n d : String} {k : Int32} (ht : t.eval args Z none [] Z = some (.ref a))
    (h : (Cond.eq (.field t C n d) (.int k)).value args Z none Z [] = some true) : Fld Z Z.heap a C n d (.int k) := by
  apply Fld.start
  have e1 : (Term.field t C n d).eval args Z none [] Z = Z.fieldOf? a C n d := fld_at ht
  rw [← e1]
  have e2 : (Term.int k).eval args Z none [] Z = some (.int k) := Term.int_eval k
  simp only [Cond.value] at h
  cases hx : (Term.field t C n d).eval args Z none [] Z with
  | none => simp [hx] at h
  | some v => cases v <;> simp [hx, e2] at h ⊢; exact h
/-- what the case says of the pinned statics -/
def own_W (Z : State) (h : Heap) (w_S w_N w_B w_BOOL w_NULL w_M w_L w_SS w_NS w_BS : Addr) : Prop :=
  Sta Z h "com/example/ovenbird/ovenbird/model/AttributeType" "S" "Lcom/example/ovenbird/ovenbird/model/AttributeType;" (.ref w_S) ∧
  Exa Z h w_S "com/example/ovenbird/ovenbird/model/AttributeType" ∧
  Fld Z h w_S "java/lang/Enum" "ordinal" "I" (.int (0 : Int32)) ∧
  Sta Z h "com/example/ovenbird/ovenbird/model/AttributeType" "N" "Lcom/example/ovenbird/ovenbird/model/AttributeType;" (.ref w_N) ∧
  Exa Z h w_N "com/example/ovenbird/ovenbird/model/AttributeType" ∧
  Fld Z h w_N "java/lang/Enum" "ordinal" "I" (.int (1 : Int32)) ∧
  Sta Z h "com/example/ovenbird/ovenbird/model/AttributeType" "B" "Lcom/example/ovenbird/ovenbird/model/AttributeType;" (.ref w_B) ∧
  Exa Z h w_B "com/example/ovenbird/ovenbird/model/AttributeType" ∧
  Fld Z h w_B "java/lang/Enum" "ordinal" "I" (.int (2 : Int32)) ∧
  Sta Z h "com/example/ovenbird/ovenbird/model/AttributeType" "BOOL" "Lcom/example/ovenbird/ovenbird/model/AttributeType;" (.ref w_BOOL) ∧
  Exa Z h w_BOOL "com/example/ovenbird/ovenbird/model/AttributeType" ∧
  Fld Z h w_BOOL "java/lang/Enum" "ordinal" "I" (.int (3 : Int32)) ∧
  Sta Z h "com/example/ovenbird/ovenbird/model/AttributeType" "NULL" "Lcom/example/ovenbird/ovenbird/model/AttributeType;" (.ref w_NULL) ∧
  Exa Z h w_NULL "com/example/ovenbird/ovenbird/model/AttributeType" ∧
  Fld Z h w_NULL "java/lang/Enum" "ordinal" "I" (.int (4 : Int32)) ∧
  Sta Z h "com/example/ovenbird/ovenbird/model/AttributeType" "M" "Lcom/example/ovenbird/ovenbird/model/AttributeType;" (.ref w_M) ∧
  Exa Z h w_M "com/example/ovenbird/ovenbird/model/AttributeType" ∧
  Fld Z h w_M "java/lang/Enum" "ordinal" "I" (.int (5 : Int32)) ∧
  Sta Z h "com/example/ovenbird/ovenbird/model/AttributeType" "L" "Lcom/example/ovenbird/ovenbird/model/AttributeType;" (.ref w_L) ∧
  Exa Z h w_L "com/example/ovenbird/ovenbird/model/AttributeType" ∧
  Fld Z h w_L "java/lang/Enum" "ordinal" "I" (.int (6 : Int32)) ∧
  Sta Z h "com/example/ovenbird/ovenbird/model/AttributeType" "SS" "Lcom/example/ovenbird/ovenbird/model/AttributeType;" (.ref w_SS) ∧
  Exa Z h w_SS "com/example/ovenbird/ovenbird/model/AttributeType" ∧
  Fld Z h w_SS "java/lang/Enum" "ordinal" "I" (.int (7 : Int32)) ∧
  Sta Z h "com/example/ovenbird/ovenbird/model/AttributeType" "NS" "Lcom/example/ovenbird/ovenbird/model/AttributeType;" (.ref w_NS) ∧
  Exa Z h w_NS "com/example/ovenbird/ovenbird/model/AttributeType" ∧
  Fld Z h w_NS "java/lang/Enum" "ordinal" "I" (.int (8 : Int32)) ∧
  Sta Z h "com/example/ovenbird/ovenbird/model/AttributeType" "BS" "Lcom/example/ovenbird/ovenbird/model/AttributeType;" (.ref w_BS) ∧
  Exa Z h w_BS "com/example/ovenbird/ovenbird/model/AttributeType" ∧
  Fld Z h w_BS "java/lang/Enum" "ordinal" "I" (.int (9 : Int32))
theorem own_W.ext {Z : State} {h h' : Heap} {w_S w_N w_B w_BOOL w_NULL w_M w_L w_SS w_NS w_BS : Addr} (E : Ext h h') (H : own_W Z h w_S w_N w_B w_BOOL w_NULL w_M w_L w_SS w_NS w_BS) : own_W Z h' w_S w_N w_B w_BOOL w_NULL w_M w_L w_SS w_NS w_BS := by
  obtain ⟨S_S, E_S, F_S_ordinal, S_N, E_N, F_N_ordinal, S_B, E_B, F_B_ordinal, S_BOOL, E_BOOL, F_BOOL_ordinal, S_NULL, E_NULL, F_NULL_ordinal, S_M, E_M, F_M_ordinal, S_L, E_L, F_L_ordinal, S_SS, E_SS, F_SS_ordinal, S_NS, E_NS, F_NS_ordinal, S_BS, E_BS, F_BS_ordinal⟩ := H
  exact ⟨S_S.ext E, E_S.ext E, F_S_ordinal.ext E, S_N.ext E, E_N.ext E, F_N_ordinal.ext E, S_B.ext E, E_B.ext E, F_B_ordinal.ext E, S_BOOL.ext E, E_BOOL.ext E, F_BOOL_ordinal.ext E, S_NULL.ext E, E_NULL.ext E, F_NULL_ordinal.ext E, S_M.ext E, E_M.ext E, F_M_ordinal.ext E, S_L.ext E, E_L.ext E, F_L_ordinal.ext E, S_SS.ext E, E_SS.ext E, F_SS_ordinal.ext E, S_NS.ext E, E_NS.ext E, F_NS_ordinal.ext E, S_BS.ext E, E_BS.ext E, F_BS_ordinal.ext E⟩
theorem own_rem10 (x : Int32) : (x &&& (2147483647 : Int32)) % (10 : Int32) = (0 : Int32) ∨ (x &&& (2147483647 : Int32)) % (10 : Int32) = (1 : Int32) ∨ (x &&& (2147483647 : Int32)) % (10 : Int32) = (2 : Int32) ∨ (x &&& (2147483647 : Int32)) % (10 : Int32) = (3 : Int32) ∨ (x &&& (2147483647 : Int32)) % (10 : Int32) = (4 : Int32) ∨ (x &&& (2147483647 : Int32)) % (10 : Int32) = (5 : Int32) ∨ (x &&& (2147483647 : Int32)) % (10 : Int32) = (6 : Int32) ∨ (x &&& (2147483647 : Int32)) % (10 : Int32) = (7 : Int32) ∨ (x &&& (2147483647 : Int32)) % (10 : Int32) = (8 : Int32) ∨ (x &&& (2147483647 : Int32)) % (10 : Int32) = (9 : Int32) := by
  have h1 : (x &&& (2147483647 : Int32)).toInt = x.toInt % 2147483648 := c_mask x 2147483647 31 (by decide) (by decide)
  have h2 := (c_irem (x &&& (2147483647 : Int32)) (10 : Int32) 10 (by decide)).1 (by omega)
  have h3 : ((x &&& (2147483647 : Int32)) % (10 : Int32)).toInt = 0 ∨ ((x &&& (2147483647 : Int32)) % (10 : Int32)).toInt = 1 ∨ ((x &&& (2147483647 : Int32)) % (10 : Int32)).toInt = 2 ∨ ((x &&& (2147483647 : Int32)) % (10 : Int32)).toInt = 3 ∨ ((x &&& (2147483647 : Int32)) % (10 : Int32)).toInt = 4 ∨ ((x &&& (2147483647 : Int32)) % (10 : Int32)).toInt = 5 ∨ ((x &&& (2147483647 : Int32)) % (10 : Int32)).toInt = 6 ∨ ((x &&& (2147483647 : Int32)) % (10 : Int32)).toInt = 7 ∨ ((x &&& (2147483647 : Int32)) % (10 : Int32)).toInt = 8 ∨ ((x &&& (2147483647 : Int32)) % (10 : Int32)).toInt = 9 := by omega
  rcases h3 with h | h | h | h | h | h | h | h | h | h
  · exact Or.inl (Int32.toInt_inj.mp (by rw [h]; decide))
  · exact Or.inr (Or.inl (Int32.toInt_inj.mp (by rw [h]; decide)))
  · exact Or.inr (Or.inr (Or.inl (Int32.toInt_inj.mp (by rw [h]; decide))))
  · exact Or.inr (Or.inr (Or.inr (Or.inl (Int32.toInt_inj.mp (by rw [h]; decide)))))
  · exact Or.inr (Or.inr (Or.inr (Or.inr (Or.inl (Int32.toInt_inj.mp (by rw [h]; decide))))))
  · exact Or.inr (Or.inr (Or.inr (Or.inr (Or.inr (Or.inl (Int32.toInt_inj.mp (by rw [h]; decide)))))))
  · exact Or.inr (Or.inr (Or.inr (Or.inr (Or.inr (Or.inr (Or.inl (Int32.toInt_inj.mp (by rw [h]; decide))))))))
  · exact Or.inr (Or.inr (Or.inr (Or.inr (Or.inr (Or.inr (Or.inr (Or.inl (Int32.toInt_inj.mp (by rw [h]; decide)))))))))
  · exact Or.inr (Or.inr (Or.inr (Or.inr (Or.inr (Or.inr (Or.inr (Or.inr (Or.inl (Int32.toInt_inj.mp (by rw [h]; decide))))))))))
  · exact Or.inr (Or.inr (Or.inr (Or.inr (Or.inr (Or.inr (Or.inr (Or.inr (Or.inr ((Int32.toInt_inj.mp (by rw [h]; decide)))))))))))
theorem d1_0 : decode prog_50_method_4_code 0 = .ok (.aload_n 0, 1) := by decide +kernel
theorem d1_1 : decode prog_50_method_4_code 1 = .ok (.getstatic 3, 3) := by decide +kernel
theorem d1_4 : decode prog_50_method_4_code 4 = .ok (.if_acmp .eq 17, 3) := by decide +kernel
theorem d1_21 : decode prog_50_method_4_code 21 = .ok (.iconst 1, 1) := by decide +kernel
theorem d1_22 : decode prog_50_method_4_code 22 = .ok (.goto 4, 3) := by decide +kernel
theorem d1_26 : decode prog_50_method_4_code 26 = .ok (.ireturn, 1) := by decide +kernel
theorem d1_7 : decode prog_50_method_4_code 7 = .ok (.aload_n 0, 1) := by decide +kernel
theorem d1_8 : decode prog_50_method_4_code 8 = .ok (.getstatic 7, 3) := by decide +kernel
theorem d1_11 : decode prog_50_method_4_code 11 = .ok (.if_acmp .eq 10, 3) := by decide +kernel
theorem d1_14 : decode prog_50_method_4_code 14 = .ok (.aload_n 0, 1) := by decide +kernel
theorem d1_15 : decode prog_50_method_4_code 15 = .ok (.getstatic 10, 3) := by decide +kernel
theorem d1_18 : decode prog_50_method_4_code 18 = .ok (.if_acmp .ne 7, 3) := by decide +kernel
theorem d1_25 : decode prog_50_method_4_code 25 = .ok (.iconst 0, 1) := by decide +kernel
theorem pn_13 : plainName "com/example/ovenbird/ovenbird/model/AttributeType" = true := by first | (simp [plainName, overriddenIn]; done) | decide +kernel
theorem ef_rm_isc (m : MethodId) (x0 : Addr) : entryFrame m #[(.ref x0)] 1 = mkF m 0 #[.val (.ref x0)] [] := by first | (simp [entryFrame, mkF, argsToLocals, Value.category]; done) | rfl
set_option maxRecDepth 65536 in
set_option maxHeartbeats 40000000 in
theorem rm_isc (l : Launch) (Z : State) (a0 : Array Value) (hw : ∀ d ∈ tables_1, d.before a0 Z = true) (ws : List Jvm.Cond) (a1 : Addr) (h0 : Heap) (n0 : Nat) (Z0 : n0 ≤ h0.size) (w_S w_N w_B w_BOOL w_NULL w_M w_L w_SS w_NS w_BS : Addr) (hWd : own_W Z h0 w_S w_N w_B w_BOOL w_NULL w_M w_L w_SS w_NS w_BS) (r : Int32) (hres : (if a1 = w_S then (1 : Int32) else if a1 = w_N then 1 else if a1 = w_B then 1 else 0) = r) :
    MetFree l (⟨"com/example/ovenbird/ovenbird/model/AttributeType", "isScalar", "()Z"⟩ : MethodName) (head1 (Jvm.Cond.code (⟨"com/example/ovenbird/ovenbird/model/AttributeType", "isScalar", "()Z"⟩ : MethodName) prog_50_method_4_code 1 (some .boolean) :: ws) ({ frames := 0, cells := 0, slots := 0, locals := 0 } : Room)) (fun aQ UQ => aQ = #[(.ref a1)] ∧ Z.Warmed39 UQ.vm ∧ UQ.heap = h0) (fun _ _ _ _ _ => True) (fun _ UQ oQ UR => ∃ vQ LQ, oQ = .returned vQ ∧ own_Pure (some (.int r)) h0 n0 vQ UR.heap LQ ∧ FrameEnd UQ oQ UR LQ ({ frames := 0, cells := 0, slots := 0, locals := 0 } : Room).cells ({ frames := 0, cells := 0, slots := 0, locals := 0 } : Room).slots) := by
  refine MetFree.of_bodySF (plainFor_of_name pn_13) hisR ?_
  intro p e s m args below meth c s₁ Bd hml0 hP hK
  obtain ⟨rfl, hZ, hh⟩ := hP
  have hx := Bd.exec
  have hby := Bd.bytes
  have hml : c.maxLocals = 1 := hml0
  have hown : s.vm.findClass "com/example/ovenbird/ovenbird/model/AttributeType" = some m.cls := findClass_of_methodNamed Bd.named
  have hnm := (name_of_methodNamed Bd.named Bd.method).1
  have X0 : Stand p l e ({ frames := 0, cells := 0, slots := 0, locals := 0 } : Room) s m #[(.ref a1)] below meth c s₁ [] 0 0 := Stand.of_body Bd
  have e0 : s₁.heap = h0 := by rw [← hh, Bd.state]; rfl
  have N0 := Fr.nil n0
  have pre0 : ∀ t, Steps p.tables e below (s₁.setTop (mkF m 0 #[.val (.ref a1)] [])) t → Steps p.tables e below (s₁.setTop (entryFrame m #[(.ref a1)] 1)) t := fun t kq => castTop (ef_rm_isc m a1) kq
  obtain ⟨S_S, E_S, F_S_ordinal, S_N, E_N, F_N_ordinal, S_B, E_B, F_B_ordinal, S_BOOL, E_BOOL, F_BOOL_ordinal, S_NULL, E_NULL, F_NULL_ordinal, S_M, E_M, F_M_ordinal, S_L, E_L, F_L_ordinal, S_SS, E_SS, F_SS_ordinal, S_NS, E_NS, F_NS_ordinal, S_BS, E_BS, F_BS_ordinal⟩ := hWd
  obtain ⟨T39, X39, e39, st39⟩ := getS2 X0 hx hZ hown (host := "") (Or.inl (hw _ (List.mem_of_getElem? (i := 30) rfl))) Via.refl e0 S_S (g := (mkF m 1 #[.val (.ref a1)] [(.ref a1)])) rfl (hb hby d1_1)
  by_cases hc4_40 : a1 = w_S
  · -- pc 4: a1 = w_S
    obtain ⟨fs, hr, hrun, hended, hW, hsame⟩ := X39.leave (v := some (.int (1 : Int32))) (fun h => by rw [Bd.returns] at h; cases h)
    refine ⟨_, _, pre0 _ ?_, hrun, hended, _, _, rfl, ?_, ⟨_, rfl⟩, hW, hsame.mono (by decide) (by decide)⟩
    · show Steps p.tables e below (s₁.setTop (mkF m 0 #[.val (.ref a1)] [])) _
      refine XS.aloadN X0.here hx rfl (hb hby d1_0) rfl rfl ?_
      show Steps p.tables e below (s₁.setTop (mkF m 1 #[.val (.ref a1)] [(.ref a1)])) _
      refine st39 _ ?_
      show Steps p.tables e below (T39.setTop (mkF m 4 #[.val (.ref a1)] [(.ref w_S), (.ref a1)])) _
      refine Jvm.RoadKit.acmp (g := (mkF m 4 #[.val (.ref a1)] [(.ref w_S), (.ref a1)])) X39 hx rfl rfl rfl (pc0 := 4) (pc' := 21) (same := true) rfl (hb hby d1_4) rfl (decide_eq_true (congrArg Value.ref hc4_40)) (by decide) (by decide) ?_
      show Steps p.tables e below (T39.setTop (mkF m 21 #[.val (.ref a1)] [])) _
      refine XS.iconst X39.here hx rfl (hb hby d1_21) ?_
      show Steps p.tables e below (T39.setTop (mkF m 22 #[.val (.ref a1)] [(.int (1 : Int32))])) _
      refine XS.goto X39.here hx rfl (pc0 := 22) (pc' := 26) rfl (hb hby d1_22) (by decide) (by decide) ?_
      show Steps p.tables e below (T39.setTop (mkF m 26 #[.val (.ref a1)] [(.int (1 : Int32))])) _
      exact retN X39 hx (t := .boolean) Bd.returns (by simp) (hb hby d1_26) hr
    · show own_Pure (some (.int r)) h0 n0 _ T39.heap _
      rw [e39]
      exact ⟨by rw [← hres]; simp only [if_pos hc4_40], N0, rfl⟩
  · -- pc 4: not a1 = w_S
    obtain ⟨T41, X41, e41, st41⟩ := getS2 X39 hx hZ hown (host := "") (Or.inl (hw _ (List.mem_of_getElem? (i := 31) rfl))) Via.refl e39 S_N (g := (mkF m 8 #[.val (.ref a1)] [(.ref a1)])) rfl (hb hby d1_8)
    have ck43 : ∀ t, Steps p.tables e below (T41.setTop (mkF m 11 #[.val (.ref a1)] [(.ref w_N), (.ref a1)])) t → Steps p.tables e below (s₁.setTop (entryFrame m #[(.ref a1)] 1)) t := by
      intro t kt
      refine pre0 _ ?_
      show Steps p.tables e below (s₁.setTop (mkF m 0 #[.val (.ref a1)] [])) _
      refine XS.aloadN X0.here hx rfl (hb hby d1_0) rfl rfl ?_
      show Steps p.tables e below (s₁.setTop (mkF m 1 #[.val (.ref a1)] [(.ref a1)])) _
      refine st39 _ ?_
      show Steps p.tables e below (T39.setTop (mkF m 4 #[.val (.ref a1)] [(.ref w_S), (.ref a1)])) _
      refine Jvm.RoadKit.acmp (g := (mkF m 4 #[.val (.ref a1)] [(.ref w_S), (.ref a1)])) X39 hx rfl rfl rfl (pc0 := 4) (pc' := 7) (same := false) rfl (hb hby d1_4) rfl (decide_eq_false fun q => hc4_40 (Value.ref.inj q)) (by decide) (by decide) ?_
      show Steps p.tables e below (T39.setTop (mkF m 7 #[.val (.ref a1)] [])) _
      refine XS.aloadN X39.here hx rfl (hb hby d1_7) rfl rfl ?_
      show Steps p.tables e below (T39.setTop (mkF m 8 #[.val (.ref a1)] [(.ref a1)])) _
      refine st41 _ ?_
      exact kt
    by_cases hc11_42 : a1 = w_N
    · -- pc 11: a1 = w_N
      obtain ⟨fs, hr, hrun, hended, hW, hsame⟩ := X41.leave (v := some (.int (1 : Int32))) (fun h => by rw [Bd.returns] at h; cases h)
      refine ⟨_, _, ck43 _ ?_, hrun, hended, _, _, rfl, ?_, ⟨_, rfl⟩, hW, hsame.mono (by decide) (by decide)⟩
      · show Steps p.tables e below (T41.setTop (mkF m 11 #[.val (.ref a1)] [(.ref w_N), (.ref a1)])) _
        refine Jvm.RoadKit.acmp (g := (mkF m 11 #[.val (.ref a1)] [(.ref w_N), (.ref a1)])) X41 hx rfl rfl rfl (pc0 := 11) (pc' := 21) (same := true) rfl (hb hby d1_11) rfl (decide_eq_true (congrArg Value.ref hc11_42)) (by decide) (by decide) ?_
        show Steps p.tables e below (T41.setTop (mkF m 21 #[.val (.ref a1)] [])) _
        refine XS.iconst X41.here hx rfl (hb hby d1_21) ?_
        show Steps p.tables e below (T41.setTop (mkF m 22 #[.val (.ref a1)] [(.int (1 : Int32))])) _
        refine XS.goto X41.here hx rfl (pc0 := 22) (pc' := 26) rfl (hb hby d1_22) (by decide) (by decide) ?_
        show Steps p.tables e below (T41.setTop (mkF m 26 #[.val (.ref a1)] [(.int (1 : Int32))])) _
        exact retN X41 hx (t := .boolean) Bd.returns (by simp) (hb hby d1_26) hr
      · show own_Pure (some (.int r)) h0 n0 _ T41.heap _
        rw [e41]
        exact ⟨by rw [← hres]; simp only [if_neg hc4_40, if_pos hc11_42], N0, rfl⟩
    · -- pc 11: not a1 = w_N
      obtain ⟨T44, X44, e44, st44⟩ := getS2 X41 hx hZ hown (host := "") (Or.inl (hw _ (List.mem_of_getElem? (i := 32) rfl))) Via.refl e41 S_B (g := (mkF m 15 #[.val (.ref a1)] [(.ref a1)])) rfl (hb hby d1_15)
      by_cases hc18_45 : a1 = w_B
      · -- pc 18: a1 = w_B
        obtain ⟨fs, hr, hrun, hended, hW, hsame⟩ := X44.leave (v := some (.int (1 : Int32))) (fun h => by rw [Bd.returns] at h; cases h)
        refine ⟨_, _, ck43 _ ?_, hrun, hended, _, _, rfl, ?_, ⟨_, rfl⟩, hW, hsame.mono (by decide) (by decide)⟩
        · show Steps p.tables e below (T41.setTop (mkF m 11 #[.val (.ref a1)] [(.ref w_N), (.ref a1)])) _
          refine Jvm.RoadKit.acmp (g := (mkF m 11 #[.val (.ref a1)] [(.ref w_N), (.ref a1)])) X41 hx rfl rfl rfl (pc0 := 11) (pc' := 14) (same := false) rfl (hb hby d1_11) rfl (decide_eq_false fun q => hc11_42 (Value.ref.inj q)) (by decide) (by decide) ?_
          show Steps p.tables e below (T41.setTop (mkF m 14 #[.val (.ref a1)] [])) _
          refine XS.aloadN X41.here hx rfl (hb hby d1_14) rfl rfl ?_
          show Steps p.tables e below (T41.setTop (mkF m 15 #[.val (.ref a1)] [(.ref a1)])) _
          refine st44 _ ?_
          show Steps p.tables e below (T44.setTop (mkF m 18 #[.val (.ref a1)] [(.ref w_B), (.ref a1)])) _
          refine Jvm.RoadKit.acmp (g := (mkF m 18 #[.val (.ref a1)] [(.ref w_B), (.ref a1)])) X44 hx rfl rfl rfl (pc0 := 18) (pc' := 21) (same := true) rfl (hb hby d1_18) rfl (decide_eq_true (congrArg Value.ref hc18_45)) (by decide) (by decide) ?_
          show Steps p.tables e below (T44.setTop (mkF m 21 #[.val (.ref a1)] [])) _
          refine XS.iconst X44.here hx rfl (hb hby d1_21) ?_
          show Steps p.tables e below (T44.setTop (mkF m 22 #[.val (.ref a1)] [(.int (1 : Int32))])) _
          refine XS.goto X44.here hx rfl (pc0 := 22) (pc' := 26) rfl (hb hby d1_22) (by decide) (by decide) ?_
          show Steps p.tables e below (T44.setTop (mkF m 26 #[.val (.ref a1)] [(.int (1 : Int32))])) _
          exact retN X44 hx (t := .boolean) Bd.returns (by simp) (hb hby d1_26) hr
        · show own_Pure (some (.int r)) h0 n0 _ T44.heap _
          rw [e44]
          exact ⟨by rw [← hres]; simp only [if_neg hc4_40, if_neg hc11_42, if_pos hc18_45], N0, rfl⟩
      · -- pc 18: not a1 = w_B
        obtain ⟨fs, hr, hrun, hended, hW, hsame⟩ := X44.leave (v := some (.int (0 : Int32))) (fun h => by rw [Bd.returns] at h; cases h)
        refine ⟨_, _, ck43 _ ?_, hrun, hended, _, _, rfl, ?_, ⟨_, rfl⟩, hW, hsame.mono (by decide) (by decide)⟩
        · show Steps p.tables e below (T41.setTop (mkF m 11 #[.val (.ref a1)] [(.ref w_N), (.ref a1)])) _
          refine Jvm.RoadKit.acmp (g := (mkF m 11 #[.val (.ref a1)] [(.ref w_N), (.ref a1)])) X41 hx rfl rfl rfl (pc0 := 11) (pc' := 14) (same := false) rfl (hb hby d1_11) rfl (decide_eq_false fun q => hc11_42 (Value.ref.inj q)) (by decide) (by decide) ?_
          show Steps p.tables e below (T41.setTop (mkF m 14 #[.val (.ref a1)] [])) _
          refine XS.aloadN X41.here hx rfl (hb hby d1_14) rfl rfl ?_
          show Steps p.tables e below (T41.setTop (mkF m 15 #[.val (.ref a1)] [(.ref a1)])) _
          refine st44 _ ?_
          show Steps p.tables e below (T44.setTop (mkF m 18 #[.val (.ref a1)] [(.ref w_B), (.ref a1)])) _
          refine Jvm.RoadKit.acmp (g := (mkF m 18 #[.val (.ref a1)] [(.ref w_B), (.ref a1)])) X44 hx rfl rfl rfl (pc0 := 18) (pc' := 25) (same := false) rfl (hb hby d1_18) rfl (decide_eq_false fun q => hc18_45 (Value.ref.inj q)) (by decide) (by decide) ?_
          show Steps p.tables e below (T44.setTop (mkF m 25 #[.val (.ref a1)] [])) _
          refine XS.iconst X44.here hx rfl (hb hby d1_25) ?_
          show Steps p.tables e below (T44.setTop (mkF m 26 #[.val (.ref a1)] [(.int (0 : Int32))])) _
          exact retN X44 hx (t := .boolean) Bd.returns (by simp) (hb hby d1_26) hr
        · show own_Pure (some (.int r)) h0 n0 _ T44.heap _
          rw [e44]
          exact ⟨by rw [← hres]; simp only [if_neg hc4_40, if_neg hc11_42, if_neg hc18_45], N0, rfl⟩
theorem d3_0 : decode jdk_37_method_2_code 0 = .ok (.aload_n 0, 1) := by decide +kernel
theorem d3_1 : decode jdk_37_method_2_code 1 = .ok (.getfield 7, 3) := by decide +kernel
theorem d3_4 : decode jdk_37_method_2_code 4 = .ok (.ireturn, 1) := by decide +kernel
theorem pn_17 : plainName "java/lang/Enum" = true := by first | (simp [plainName, overriddenIn]; done) | decide +kernel
theorem ef_rm_ord (m : MethodId) (x0 : Addr) : entryFrame m #[(.ref x0)] 1 = mkF m 0 #[.val (.ref x0)] [] := by first | (simp [entryFrame, mkF, argsToLocals, Value.category]; done) | rfl
set_option maxRecDepth 65536 in
set_option maxHeartbeats 40000000 in
theorem rm_ord (l : Launch) (Z : State) (a0 : Array Value) (hw : ∀ d ∈ tables_1, d.before a0 Z = true) (ws : List Jvm.Cond) (a1 : Addr) (h0 : Heap) (n0 : Nat) (Z0 : n0 ≤ h0.size) (r : Int32) (F : Fld Z h0 a1 "java/lang/Enum" "ordinal" "I" (.int r)) :
    MetFree l (⟨"java/lang/Enum", "ordinal", "()I"⟩ : MethodName) (head1 (Jvm.Cond.code (⟨"java/lang/Enum", "ordinal", "()I"⟩ : MethodName) jdk_37_method_2_code 1 (some .int) :: ws) ({ frames := 0, cells := 0, slots := 0, locals := 0 } : Room)) (fun aQ UQ => aQ = #[(.ref a1)] ∧ Z.Warmed39 UQ.vm ∧ UQ.heap = h0) (fun _ _ _ _ _ => True) (fun _ UQ oQ UR => ∃ vQ LQ, oQ = .returned vQ ∧ own_Pure (some (.int r)) h0 n0 vQ UR.heap LQ ∧ FrameEnd UQ oQ UR LQ ({ frames := 0, cells := 0, slots := 0, locals := 0 } : Room).cells ({ frames := 0, cells := 0, slots := 0, locals := 0 } : Room).slots) := by
  refine MetFree.of_bodySF (plainFor_of_name pn_17) hisR ?_
  intro p e s m args below meth c s₁ Bd hml0 hP hK
  obtain ⟨rfl, hZ, hh⟩ := hP
  have hx := Bd.exec
  have hby := Bd.bytes
  have hml : c.maxLocals = 1 := hml0
  have hown : s.vm.findClass "java/lang/Enum" = some m.cls := findClass_of_methodNamed Bd.named
  have hnm := (name_of_methodNamed Bd.named Bd.method).1
  have X0 : Stand p l e ({ frames := 0, cells := 0, slots := 0, locals := 0 } : Room) s m #[(.ref a1)] below meth c s₁ [] 0 0 := Stand.of_body Bd
  have e0 : s₁.heap = h0 := by rw [← hh, Bd.state]; rfl
  have N0 := Fr.nil n0
  have pre0 : ∀ t, Steps p.tables e below (s₁.setTop (mkF m 0 #[.val (.ref a1)] [])) t → Steps p.tables e below (s₁.setTop (entryFrame m #[(.ref a1)] 1)) t := fun t kq => castTop (ef_rm_ord m a1) kq
  obtain ⟨T46, X46, e46, st46⟩ := getF X0 hx hZ hown (host := "") (Or.inl (hw _ (List.mem_of_getElem? (i := 45) rfl))) Via.refl e0 F (g := (mkF m 1 #[.val (.ref a1)] [(.ref a1)])) rfl rfl (hb hby d3_1)
  obtain ⟨fs, hr, hrun, hended, hW, hsame⟩ := X46.leave (v := some (.int r)) (fun h => by rw [Bd.returns] at h; cases h)
  refine ⟨_, _, pre0 _ ?_, hrun, hended, _, _, rfl, ?_, ⟨_, rfl⟩, hW, hsame.mono (by decide) (by decide)⟩
  · show Steps p.tables e below (s₁.setTop (mkF m 0 #[.val (.ref a1)] [])) _
    refine XS.aloadN X0.here hx rfl (hb hby d3_0) rfl rfl ?_
    show Steps p.tables e below (s₁.setTop (mkF m 1 #[.val (.ref a1)] [(.ref a1)])) _
    refine st46 _ ?_
    show Steps p.tables e below (T46.setTop (mkF m 4 #[.val (.ref a1)] [(.int r)])) _
    exact retOut X46 hx Bd.returns rfl (Or.inl ⟨rfl, Or.inl rfl, _, rfl⟩) (hb hby d3_4) hr
  · show own_Pure (some (.int r)) h0 n0 _ T46.heap _
    rw [e46]
    exact ⟨rfl, N0, rfl⟩
theorem d2_0 : decode prog_50_method_6_code 0 = .ok (.aload_n 0, 1) := by decide +kernel
theorem pd_19 : parseMethodDescriptor "()I" = some ⟨[], some .int⟩ := by decide +kernel
theorem d2_1 : decode prog_50_method_6_code 1 = .ok (.invokevirtual 53, 3) := by decide +kernel
theorem d2_4 : decode prog_50_method_6_code 4 = .ok (.tableswitch 46 7 9 #[28, 34, 40], 28) := by decide +kernel
theorem d2_32 : decode prog_50_method_6_code 32 = .ok (.getstatic 3, 3) := by decide +kernel
theorem d2_35 : decode prog_50_method_6_code 35 = .ok (.goto 32, 3) := by decide +kernel
theorem d2_67 : decode prog_50_method_6_code 67 = .ok (.areturn, 1) := by decide +kernel
theorem ef_rm_el_SS (m : MethodId) (x0 : Addr) : entryFrame m #[(.ref x0)] 1 = mkF m 0 #[.val (.ref x0)] [] := by first | (simp [entryFrame, mkF, argsToLocals, Value.category]; done) | rfl
set_option maxRecDepth 65536 in
set_option maxHeartbeats 40000000 in
theorem rm_el_SS (l : Launch) (Z : State) (a0 : Array Value) (hw : ∀ d ∈ tables_1, d.before a0 Z = true) (ws : List Jvm.Cond) (w_SS : Addr) (h0 : Heap) (n0 : Nat) (Z0 : n0 ≤ h0.size) (w_S w_N w_B w_BOOL w_NULL w_M w_L w_NS w_BS : Addr) (hWd : own_W Z h0 w_S w_N w_B w_BOOL w_NULL w_M w_L w_SS w_NS w_BS) :
    MetFree l (⟨"com/example/ovenbird/ovenbird/model/AttributeType", "elementType", "()Lcom/example/ovenbird/ovenbird/model/AttributeType;"⟩ : MethodName) (head1 (Jvm.Cond.code (⟨"com/example/ovenbird/ovenbird/model/AttributeType", "elementType", "()Lcom/example/ovenbird/ovenbird/model/AttributeType;"⟩ : MethodName) prog_50_method_6_code 1 (some (.object "com/example/ovenbird/ovenbird/model/AttributeType")) :: ws) ({ frames := 1, cells := 0, slots := 0, locals := 12 } : Room)) (fun aQ UQ => aQ = #[(.ref w_SS)] ∧ Z.Warmed39 UQ.vm ∧ UQ.heap = h0) (fun _ _ _ _ _ => True) (fun _ UQ oQ UR => ∃ vQ LQ, oQ = .returned vQ ∧ own_Pure (some (.ref w_S)) h0 n0 vQ UR.heap LQ ∧ FrameEnd UQ oQ UR LQ ({ frames := 1, cells := 0, slots := 0, locals := 12 } : Room).cells ({ frames := 1, cells := 0, slots := 0, locals := 12 } : Room).slots) := by
  refine MetFree.of_bodySF (plainFor_of_name pn_13) hisR ?_
  intro p e s m args below meth c s₁ Bd hml0 hP hK
  obtain ⟨rfl, hZ, hh⟩ := hP
  have hx := Bd.exec
  have hby := Bd.bytes
  have hml : c.maxLocals = 1 := hml0
  have hown : s.vm.findClass "com/example/ovenbird/ovenbird/model/AttributeType" = some m.cls := findClass_of_methodNamed Bd.named
  have hnm := (name_of_methodNamed Bd.named Bd.method).1
  have X0 : Stand p l e ({ frames := 1, cells := 0, slots := 0, locals := 12 } : Room) s m #[(.ref w_SS)] below meth c s₁ [] 0 0 := Stand.of_body Bd
  have e0 : s₁.heap = h0 := by rw [← hh, Bd.state]; rfl
  have N0 := Fr.nil n0
  have pre0 : ∀ t, Steps p.tables e below (s₁.setTop (mkF m 0 #[.val (.ref w_SS)] [])) t → Steps p.tables e below (s₁.setTop (entryFrame m #[(.ref w_SS)] 1)) t := fun t kq => castTop (ef_rm_el_SS m w_SS) kq
  obtain ⟨S_S, E_S, F_S_ordinal, S_N, E_N, F_N_ordinal, S_B, E_B, F_B_ordinal, S_BOOL, E_BOOL, F_BOOL_ordinal, S_NULL, E_NULL, F_NULL_ordinal, S_M, E_M, F_M_ordinal, S_L, E_L, F_L_ordinal, S_SS, E_SS, F_SS_ordinal, S_NS, E_NS, F_NS_ordinal, S_BS, E_BS, F_BS_ordinal⟩ := hWd
  obtain ⟨cq47, kq47, q47a, q47b, q47c⟩ := isOf hZ e0 (E_SS)
  obtain ⟨_, _, ⟨T47, L47, k47, n47⟩, -, X47, ⟨Lc47, hQ47, l47, y47, z47⟩, st47⟩ := X0.virtualBackUp hx (owner := "java/lang/Enum") (x := (⟨"com/example/ovenbird/ovenbird/model/AttributeType", "ordinal", "()I"⟩ : MethodName)) (y := (⟨"java/lang/Enum", "ordinal", "()I"⟩ : MethodName)) hown (mvT hZ (hw _ (List.mem_of_getElem? (i := 38) rfl))) (mvT hZ (hw _ (List.mem_of_getElem? (i := 39) rfl))) (mvT hZ (hw _ (List.mem_of_getElem? (i := 40) rfl))) (by decide) (mvT hZ (hw _ (List.mem_of_getElem? (i := 42) rfl))) (mvT hZ (hw _ (List.mem_of_getElem? (i := 41) rfl))) (backOf (W := 0) (rm_ord l Z a0 hw [] w_SS h0 n0 Z0 (7 : Int32) F_SS_ordinal) hZ (hw _ (List.mem_of_getElem? (i := 44) rfl)) (hw _ (List.mem_of_getElem? (i := 43) rfl)) (by decide) (by decide)) q47a q47c (g := (mkF m 1 #[.val (.ref w_SS)] [(.ref w_SS)])) rfl (by rw [hml]; rfl) (Steps.refl _) (argsL := []) (rest := []) (lenOf pd_19 rfl) rfl (by show 2 * 0 + _ ≤ _; exact Nat.le_of_eq rfl) (hb hby d2_1) (fun _ _ => ⟨rfl, e0, (by decide : 0 + 0 ≤ _), (by decide : 0 + 0 ≤ _)⟩)
  dsimp only [Pt.U, Pt.locs, Pt.cells, Pt.slots] at X47 l47 y47 z47 st47 hQ47
  subst l47 y47 z47
  obtain ⟨rfl, N47q, e47⟩ := hQ47
  have N47 := Fr.app N0 N47q
  obtain ⟨T48, X48, e48, st48⟩ := getS2 X47 hx hZ hown (host := "") (Or.inl (hw _ (List.mem_of_getElem? (i := 30) rfl))) Via.refl e47 S_S (g := (mkF m 32 #[.val (.ref w_SS)] [])) rfl (hb hby d2_32)
  obtain ⟨fs, hr, hrun, hended, hW, hsame⟩ := X48.leave (v := some (.ref w_S)) (fun h => by rw [Bd.returns] at h; cases h)
  refine ⟨_, _, pre0 _ ?_, hrun, hended, _, _, rfl, ?_, ⟨_, rfl⟩, hW, hsame.mono (by decide) (by decide)⟩
  · show Steps p.tables e below (s₁.setTop (mkF m 0 #[.val (.ref w_SS)] [])) _
    refine XS.aloadN X0.here hx rfl (hb hby d2_0) rfl rfl ?_
    show Steps p.tables e below (s₁.setTop (mkF m 1 #[.val (.ref w_SS)] [(.ref w_SS)])) _
    refine st47.trans ?_
    show Steps p.tables e below (T47.setTop (mkF m 4 #[.val (.ref w_SS)] [(.int (7 : Int32))])) _
    refine X47.tableswitchIn hx (g := (mkF m 4 #[.val (.ref w_SS)] [(.int (7 : Int32))])) rfl rfl (hb hby d2_4) (by decide) (off := 28) (by first | rfl | decide +kernel) (by show (0 : Int) ≤ ((4 : Nat) : Int) + 28; decide) _ ?_
    show Steps p.tables e below (T47.setTop (mkF m 32 #[.val (.ref w_SS)] [])) _
    refine st48 _ ?_
    show Steps p.tables e below (T48.setTop (mkF m 35 #[.val (.ref w_SS)] [(.ref w_S)])) _
    refine XS.goto X48.here hx rfl (pc0 := 35) (pc' := 67) rfl (hb hby d2_35) (by decide) (by decide) ?_
    show Steps p.tables e below (T48.setTop (mkF m 67 #[.val (.ref w_SS)] [(.ref w_S)])) _
    exact retOut X48 hx Bd.returns rfl (Or.inr (Or.inr (Or.inr (Or.inr ⟨rfl, rfl, rfl⟩)))) (hb hby d2_67) hr
  · show own_Pure (some (.ref w_S)) h0 n0 _ T48.heap _
    rw [e48]
    exact ⟨rfl, N47, rfl⟩
theorem d2_38 : decode prog_50_method_6_code 38 = .ok (.getstatic 7, 3) := by decide +kernel
theorem d2_41 : decode prog_50_method_6_code 41 = .ok (.goto 26, 3) := by decide +kernel
theorem ef_rm_el_NS (m : MethodId) (x0 : Addr) : entryFrame m #[(.ref x0)] 1 = mkF m 0 #[.val (.ref x0)] [] := by first | (simp [entryFrame, mkF, argsToLocals, Value.category]; done) | rfl
set_option maxRecDepth 65536 in
set_option maxHeartbeats 40000000 in
theorem rm_el_NS (l : Launch) (Z : State) (a0 : Array Value) (hw : ∀ d ∈ tables_1, d.before a0 Z = true) (ws : List Jvm.Cond) (w_NS : Addr) (h0 : Heap) (n0 : Nat) (Z0 : n0 ≤ h0.size) (w_S w_N w_B w_BOOL w_NULL w_M w_L w_SS w_BS : Addr) (hWd : own_W Z h0 w_S w_N w_B w_BOOL w_NULL w_M w_L w_SS w_NS w_BS) :
    MetFree l (⟨"com/example/ovenbird/ovenbird/model/AttributeType", "elementType", "()Lcom/example/ovenbird/ovenbird/model/AttributeType;"⟩ : MethodName) (head1 (Jvm.Cond.code (⟨"com/example/ovenbird/ovenbird/model/AttributeType", "elementType", "()Lcom/example/ovenbird/ovenbird/model/AttributeType;"⟩ : MethodName) prog_50_method_6_code 1 (some (.object "com/example/ovenbird/ovenbird/model/AttributeType")) :: ws) ({ frames := 1, cells := 0, slots := 0, locals := 12 } : Room)) (fun aQ UQ => aQ = #[(.ref w_NS)] ∧ Z.Warmed39 UQ.vm ∧ UQ.heap = h0) (fun _ _ _ _ _ => True) (fun _ UQ oQ UR => ∃ vQ LQ, oQ = .returned vQ ∧ own_Pure (some (.ref w_N)) h0 n0 vQ UR.heap LQ ∧ FrameEnd UQ oQ UR LQ ({ frames := 1, cells := 0, slots := 0, locals := 12 } : Room).cells ({ frames := 1, cells := 0, slots := 0, locals := 12 } : Room).slots) := by
  refine MetFree.of_bodySF (plainFor_of_name pn_13) hisR ?_
  intro p e s m args below meth c s₁ Bd hml0 hP hK
  obtain ⟨rfl, hZ, hh⟩ := hP
  have hx := Bd.exec
  have hby := Bd.bytes
  have hml : c.maxLocals = 1 := hml0
  have hown : s.vm.findClass "com/example/ovenbird/ovenbird/model/AttributeType" = some m.cls := findClass_of_methodNamed Bd.named
  have hnm := (name_of_methodNamed Bd.named Bd.method).1
  have X0 : Stand p l e ({ frames := 1, cells := 0, slots := 0, locals := 12 } : Room) s m #[(.ref w_NS)] below meth c s₁ [] 0 0 := Stand.of_body Bd
  have e0 : s₁.heap = h0 := by rw [← hh, Bd.state]; rfl
  have N0 := Fr.nil n0
  have pre0 : ∀ t, Steps p.tables e below (s₁.setTop (mkF m 0 #[.val (.ref w_NS)] [])) t → Steps p.tables e below (s₁.setTop (entryFrame m #[(.ref w_NS)] 1)) t := fun t kq => castTop (ef_rm_el_NS m w_NS) kq
  obtain ⟨S_S, E_S, F_S_ordinal, S_N, E_N, F_N_ordinal, S_B, E_B, F_B_ordinal, S_BOOL, E_BOOL, F_BOOL_ordinal, S_NULL, E_NULL, F_NULL_ordinal, S_M, E_M, F_M_ordinal, S_L, E_L, F_L_ordinal, S_SS, E_SS, F_SS_ordinal, S_NS, E_NS, F_NS_ordinal, S_BS, E_BS, F_BS_ordinal⟩ := hWd
  obtain ⟨cq49, kq49, q49a, q49b, q49c⟩ := isOf hZ e0 (E_NS)
  obtain ⟨_, _, ⟨T49, L49, k49, n49⟩, -, X49, ⟨Lc49, hQ49, l49, y49, z49⟩, st49⟩ := X0.virtualBackUp hx (owner := "java/lang/Enum") (x := (⟨"com/example/ovenbird/ovenbird/model/AttributeType", "ordinal", "()I"⟩ : MethodName)) (y := (⟨"java/lang/Enum", "ordinal", "()I"⟩ : MethodName)) hown (mvT hZ (hw _ (List.mem_of_getElem? (i := 38) rfl))) (mvT hZ (hw _ (List.mem_of_getElem? (i := 39) rfl))) (mvT hZ (hw _ (List.mem_of_getElem? (i := 40) rfl))) (by decide) (mvT hZ (hw _ (List.mem_of_getElem? (i := 42) rfl))) (mvT hZ (hw _ (List.mem_of_getElem? (i := 41) rfl))) (backOf (W := 0) (rm_ord l Z a0 hw [] w_NS h0 n0 Z0 (8 : Int32) F_NS_ordinal) hZ (hw _ (List.mem_of_getElem? (i := 44) rfl)) (hw _ (List.mem_of_getElem? (i := 43) rfl)) (by decide) (by decide)) q49a q49c (g := (mkF m 1 #[.val (.ref w_NS)] [(.ref w_NS)])) rfl (by rw [hml]; rfl) (Steps.refl _) (argsL := []) (rest := []) (lenOf pd_19 rfl) rfl (by show 2 * 0 + _ ≤ _; exact Nat.le_of_eq rfl) (hb hby d2_1) (fun _ _ => ⟨rfl, e0, (by decide : 0 + 0 ≤ _), (by decide : 0 + 0 ≤ _)⟩)
  dsimp only [Pt.U, Pt.locs, Pt.cells, Pt.slots] at X49 l49 y49 z49 st49 hQ49
  subst l49 y49 z49
  obtain ⟨rfl, N49q, e49⟩ := hQ49
  have N49 := Fr.app N0 N49q
  obtain ⟨T50, X50, e50, st50⟩ := getS2 X49 hx hZ hown (host := "") (Or.inl (hw _ (List.mem_of_getElem? (i := 31) rfl))) Via.refl e49 S_N (g := (mkF m 38 #[.val (.ref w_NS)] [])) rfl (hb hby d2_38)
  obtain ⟨fs, hr, hrun, hended, hW, hsame⟩ := X50.leave (v := some (.ref w_N)) (fun h => by rw [Bd.returns] at h; cases h)
  refine ⟨_, _, pre0 _ ?_, hrun, hended, _, _, rfl, ?_, ⟨_, rfl⟩, hW, hsame.mono (by decide) (by decide)⟩
  · show Steps p.tables e below (s₁.setTop (mkF m 0 #[.val (.ref w_NS)] [])) _
    refine XS.aloadN X0.here hx rfl (hb hby d2_0) rfl rfl ?_
    show Steps p.tables e below (s₁.setTop (mkF m 1 #[.val (.ref w_NS)] [(.ref w_NS)])) _
    refine st49.trans ?_
    show Steps p.tables e below (T49.setTop (mkF m 4 #[.val (.ref w_NS)] [(.int (8 : Int32))])) _
    refine X49.tableswitchIn hx (g := (mkF m 4 #[.val (.ref w_NS)] [(.int (8 : Int32))])) rfl rfl (hb hby d2_4) (by decide) (off := 34) (by first | rfl | decide +kernel) (by show (0 : Int) ≤ ((4 : Nat) : Int) + 34; decide) _ ?_
    show Steps p.tables e below (T49.setTop (mkF m 38 #[.val (.ref w_NS)] [])) _
    refine st50 _ ?_
    show Steps p.tables e below (T50.setTop (mkF m 41 #[.val (.ref w_NS)] [(.ref w_N)])) _
    refine XS.goto X50.here hx rfl (pc0 := 41) (pc' := 67) rfl (hb hby d2_41) (by decide) (by decide) ?_
    show Steps p.tables e below (T50.setTop (mkF m 67 #[.val (.ref w_NS)] [(.ref w_N)])) _
    exact retOut X50 hx Bd.returns rfl (Or.inr (Or.inr (Or.inr (Or.inr ⟨rfl, rfl, rfl⟩)))) (hb hby d2_67) hr
  · show own_Pure (some (.ref w_N)) h0 n0 _ T50.heap _
    rw [e50]
    exact ⟨rfl, N49, rfl⟩
theorem d2_44 : decode prog_50_method_6_code 44 = .ok (.getstatic 10, 3) := by decide +kernel
theorem d2_47 : decode prog_50_method_6_code 47 = .ok (.goto 20, 3) := by decide +kernel
theorem ef_rm_el_BS (m : MethodId) (x0 : Addr) : entryFrame m #[(.ref x0)] 1 = mkF m 0 #[.val (.ref x0)] [] := by first | (simp [entryFrame, mkF, argsToLocals, Value.category]; done) | rfl
set_option maxRecDepth 65536 in
set_option maxHeartbeats 40000000 in
theorem rm_el_BS (l : Launch) (Z : State) (a0 : Array Value) (hw : ∀ d ∈ tables_1, d.before a0 Z = true) (ws : List Jvm.Cond) (w_BS : Addr) (h0 : Heap) (n0 : Nat) (Z0 : n0 ≤ h0.size) (w_S w_N w_B w_BOOL w_NULL w_M w_L w_SS w_NS : Addr) (hWd : own_W Z h0 w_S w_N w_B w_BOOL w_NULL w_M w_L w_SS w_NS w_BS) :
    MetFree l (⟨"com/example/ovenbird/ovenbird/model/AttributeType", "elementType", "()Lcom/example/ovenbird/ovenbird/model/AttributeType;"⟩ : MethodName) (head1 (Jvm.Cond.code (⟨"com/example/ovenbird/ovenbird/model/AttributeType", "elementType", "()Lcom/example/ovenbird/ovenbird/model/AttributeType;"⟩ : MethodName) prog_50_method_6_code 1 (some (.object "com/example/ovenbird/ovenbird/model/AttributeType")) :: ws) ({ frames := 1, cells := 0, slots := 0, locals := 12 } : Room)) (fun aQ UQ => aQ = #[(.ref w_BS)] ∧ Z.Warmed39 UQ.vm ∧ UQ.heap = h0) (fun _ _ _ _ _ => True) (fun _ UQ oQ UR => ∃ vQ LQ, oQ = .returned vQ ∧ own_Pure (some (.ref w_B)) h0 n0 vQ UR.heap LQ ∧ FrameEnd UQ oQ UR LQ ({ frames := 1, cells := 0, slots := 0, locals := 12 } : Room).cells ({ frames := 1, cells := 0, slots := 0, locals := 12 } : Room).slots) := by
  refine MetFree.of_bodySF (plainFor_of_name pn_13) hisR ?_
  intro p e s m args below meth c s₁ Bd hml0 hP hK
  obtain ⟨rfl, hZ, hh⟩ := hP
  have hx := Bd.exec
  have hby := Bd.bytes
  have hml : c.maxLocals = 1 := hml0
  have hown : s.vm.findClass "com/example/ovenbird/ovenbird/model/AttributeType" = some m.cls := findClass_of_methodNamed Bd.named
  have hnm := (name_of_methodNamed Bd.named Bd.method).1
  have X0 : Stand p l e ({ frames := 1, cells := 0, slots := 0, locals := 12 } : Room) s m #[(.ref w_BS)] below meth c s₁ [] 0 0 := Stand.of_body Bd
  have e0 : s₁.heap = h0 := by rw [← hh, Bd.state]; rfl
  have N0 := Fr.nil n0
  have pre0 : ∀ t, Steps p.tables e below (s₁.setTop (mkF m 0 #[.val (.ref w_BS)] [])) t → Steps p.tables e below (s₁.setTop (entryFrame m #[(.ref w_BS)] 1)) t := fun t kq => castTop (ef_rm_el_BS m w_BS) kq
  obtain ⟨S_S, E_S, F_S_ordinal, S_N, E_N, F_N_ordinal, S_B, E_B, F_B_ordinal, S_BOOL, E_BOOL, F_BOOL_ordinal, S_NULL, E_NULL, F_NULL_ordinal, S_M, E_M, F_M_ordinal, S_L, E_L, F_L_ordinal, S_SS, E_SS, F_SS_ordinal, S_NS, E_NS, F_NS_ordinal, S_BS, E_BS, F_BS_ordinal⟩ := hWd
  obtain ⟨cq51, kq51, q51a, q51b, q51c⟩ := isOf hZ e0 (E_BS)
  obtain ⟨_, _, ⟨T51, L51, k51, n51⟩, -, X51, ⟨Lc51, hQ51, l51, y51, z51⟩, st51⟩ := X0.virtualBackUp hx (owner := "java/lang/Enum") (x := (⟨"com/example/ovenbird/ovenbird/model/AttributeType", "ordinal", "()I"⟩ : MethodName)) (y := (⟨"java/lang/Enum", "ordinal", "()I"⟩ : MethodName)) hown (mvT hZ (hw _ (List.mem_of_getElem? (i := 38) rfl))) (mvT hZ (hw _ (List.mem_of_getElem? (i := 39) rfl))) (mvT hZ (hw _ (List.mem_of_getElem? (i := 40) rfl))) (by decide) (mvT hZ (hw _ (List.mem_of_getElem? (i := 42) rfl))) (mvT hZ (hw _ (List.mem_of_getElem? (i := 41) rfl))) (backOf (W := 0) (rm_ord l Z a0 hw [] w_BS h0 n0 Z0 (9 : Int32) F_BS_ordinal) hZ (hw _ (List.mem_of_getElem? (i := 44) rfl)) (hw _ (List.mem_of_getElem? (i := 43) rfl)) (by decide) (by decide)) q51a q51c (g := (mkF m 1 #[.val (.ref w_BS)] [(.ref w_BS)])) rfl (by rw [hml]; rfl) (Steps.refl _) (argsL := []) (rest := []) (lenOf pd_19 rfl) rfl (by show 2 * 0 + _ ≤ _; exact Nat.le_of_eq rfl) (hb hby d2_1) (fun _ _ => ⟨rfl, e0, (by decide : 0 + 0 ≤ _), (by decide : 0 + 0 ≤ _)⟩)
  dsimp only [Pt.U, Pt.locs, Pt.cells, Pt.slots] at X51 l51 y51 z51 st51 hQ51
  subst l51 y51 z51
  obtain ⟨rfl, N51q, e51⟩ := hQ51
  have N51 := Fr.app N0 N51q
  obtain ⟨T52, X52, e52, st52⟩ := getS2 X51 hx hZ hown (host := "") (Or.inl (hw _ (List.mem_of_getElem? (i := 32) rfl))) Via.refl e51 S_B (g := (mkF m 44 #[.val (.ref w_BS)] [])) rfl (hb hby d2_44)
  obtain ⟨fs, hr, hrun, hended, hW, hsame⟩ := X52.leave (v := some (.ref w_B)) (fun h => by rw [Bd.returns] at h; cases h)
  refine ⟨_, _, pre0 _ ?_, hrun, hended, _, _, rfl, ?_, ⟨_, rfl⟩, hW, hsame.mono (by decide) (by decide)⟩
  · show Steps p.tables e below (s₁.setTop (mkF m 0 #[.val (.ref w_BS)] [])) _
    refine XS.aloadN X0.here hx rfl (hb hby d2_0) rfl rfl ?_
    show Steps p.tables e below (s₁.setTop (mkF m 1 #[.val (.ref w_BS)] [(.ref w_BS)])) _
    refine st51.trans ?_
    show Steps p.tables e below (T51.setTop (mkF m 4 #[.val (.ref w_BS)] [(.int (9 : Int32))])) _
    refine X51.tableswitchIn hx (g := (mkF m 4 #[.val (.ref w_BS)] [(.int (9 : Int32))])) rfl rfl (hb hby d2_4) (by decide) (off := 40) (by first | rfl | decide +kernel) (by show (0 : Int) ≤ ((4 : Nat) : Int) + 40; decide) _ ?_
    show Steps p.tables e below (T51.setTop (mkF m 44 #[.val (.ref w_BS)] [])) _
    refine st52 _ ?_
    show Steps p.tables e below (T52.setTop (mkF m 47 #[.val (.ref w_BS)] [(.ref w_B)])) _
    refine XS.goto X52.here hx rfl (pc0 := 47) (pc' := 67) rfl (hb hby d2_47) (by decide) (by decide) ?_
    show Steps p.tables e below (T52.setTop (mkF m 67 #[.val (.ref w_BS)] [(.ref w_B)])) _
    exact retOut X52 hx Bd.returns rfl (Or.inr (Or.inr (Or.inr (Or.inr ⟨rfl, rfl, rfl⟩)))) (hb hby d2_67) hr
  · show own_Pure (some (.ref w_B)) h0 n0 _ T52.heap _
    rw [e52]
    exact ⟨rfl, N51, rfl⟩
theorem pd_29 : parseMethodDescriptor "()Z" = some ⟨[], some .boolean⟩ := by decide +kernel
theorem pd_30 : parseMethodDescriptor "()Lcom/example/ovenbird/ovenbird/model/AttributeType;" = some ⟨[], some (.object "com/example/ovenbird/ovenbird/model/AttributeType")⟩ := by decide +kernel
theorem pn_31 : plainName "com/example/ovenbird/ovenbird/model/AttributeTypeIsScalarPinLaw" = true := by first | (simp [plainName, overriddenIn]; done) | decide +kernel
theorem ef_rm_law (m : MethodId) (x0 : Int32) : entryFrame m #[(.int x0)] maxLocals = mkF m 0 #[.val (.int x0), .unset, .unset, .unset, .unset, .unset] [] := by first | (simp [entryFrame, mkF, argsToLocals, Value.category, maxLocals]; done) | rfl
set_option maxRecDepth 65536 in
set_option maxHeartbeats 40000000 in
theorem rm_law (l : Launch) (Z : State) (a0 : Array Value) (hw : ∀ d ∈ tables_1, d.before a0 Z = true) (ws : List Jvm.Cond) (p0 : Int32) (h0 : Heap) (n0 : Nat) (Z0 : n0 ≤ h0.size) (w_S w_N w_B w_BOOL w_NULL w_M w_L w_SS w_NS w_BS : Addr) (hWd : own_W Z h0 w_S w_N w_B w_BOOL w_NULL w_M w_L w_SS w_NS w_BS) :
    MetFree l x (head1 (Jvm.Cond.code x code maxLocals ret :: ws) room_1) (fun aQ UQ => aQ = #[(.int p0)] ∧ Z.Warmed39 UQ.vm ∧ UQ.heap = h0) (fun _ _ _ _ _ => True) (fun _ UQ oQ UR => ∃ vQ LQ, oQ = .returned vQ ∧ own_Made (some (.int 1)) n0 vQ UR.heap LQ ∧ FrameEnd UQ oQ UR LQ room_1.cells room_1.slots) := by
  refine MetFree.of_bodySF (plainFor_of_name pn_31) hisR ?_
  intro p e s m args below meth c s₁ Bd hml0 hP hK
  obtain ⟨rfl, hZ, hh⟩ := hP
  have hx := Bd.exec
  have hby := Bd.bytes
  have hml : c.maxLocals = 6 := hml0
  have hown : s.vm.findClass "com/example/ovenbird/ovenbird/model/AttributeTypeIsScalarPinLaw" = some m.cls := findClass_of_methodNamed Bd.named
  have hnm := (name_of_methodNamed Bd.named Bd.method).1
  have X0 : Stand p l e room_1 s m #[(.int p0)] below meth c s₁ [] 0 0 := Stand.of_body Bd
  have e0 : s₁.heap = h0 := by rw [← hh, Bd.state]; rfl
  have N0 := Fr.nil n0
  have pre0 : ∀ t, Steps p.tables e below (s₁.setTop (mkF m 0 #[.val (.int p0), .unset, .unset, .unset, .unset, .unset] [])) t → Steps p.tables e below (s₁.setTop (entryFrame m #[(.int p0)] maxLocals)) t := fun t kq => castTop (ef_rm_law m p0) kq
  have hWd' := hWd
  obtain ⟨S_S, E_S, F_S_ordinal, S_N, E_N, F_N_ordinal, S_B, E_B, F_B_ordinal, S_BOOL, E_BOOL, F_BOOL_ordinal, S_NULL, E_NULL, F_NULL_ordinal, S_M, E_M, F_M_ordinal, S_L, E_L, F_L_ordinal, S_SS, E_SS, F_SS_ordinal, S_NS, E_NS, F_NS_ordinal, S_BS, E_BS, F_BS_ordinal⟩ := hWd'
  obtain ⟨T53, h53, k53, X53, e53, E53, A53, O53, st53⟩ := newR X0 hx hZ hown (hw _ (List.mem_of_getElem? (i := 0) rfl)) (hw _ (List.mem_of_getElem? (i := 1) rfl)) e0 (g := (mkF m 2 #[.val (.int p0), .unset, .unset, .unset, .unset, .unset] [(.int (10 : Int32))])) rfl (hb hby at_2) rfl (by decide) (cap := 10) (by decide) (by decide) (by decide) (by decide)
  obtain ⟨b53, g53⟩ : ∃ z, z = h0.size := ⟨_, rfl⟩
  rw [← g53] at A53 st53
  have sz_b53 : h0.size ≤ b53 := Nat.le_trans (Keep.refl h0 []).1 (Nat.le_of_eq g53.symm)
  have gn_b53 : n0 ≤ b53 := Nat.le_trans Z0 sz_b53
  have EX53 := own_ext_trans (own_ext_refl h0) E53
  have KP53 := Keep.ext (Keep.refl h0 []) E53
  have V53 : Arv Z h53 b53 k53 (.object "com/example/ovenbird/ovenbird/model/AttributeType") (10 : Int32) [.null, .null, .null, .null, .null, .null, .null, .null, .null, .null] .null := (Arv.new A53 (by decide)).pad (pad_rep [] .null 10)
  obtain ⟨T54, X54, e54, st54⟩ := getS2 X53 hx hZ hown (host := "") (Or.inl (hw _ (List.mem_of_getElem? (i := 2) rfl))) Via.refl e53 (S_S.ext EX53) (g := (mkF m 7 #[.val (.int p0), .unset, .unset, .unset, .unset, .unset] [(.int (0 : Int32)), (.ref b53), (.ref b53)])) rfl (hb hby at_7)
  obtain ⟨cl55, Ar55, q55, S55, N55_, H55_, G55⟩ := V53
  have hin55 : ¬ ((0 : Int32) < 0 ∨ cl55.slots.size ≤ ((0 : Int32)).toNatClampNeg) := inb_of S55 ⟨by decide, by decide⟩
  obtain ⟨T56, h56, X56, e56, W56, st56⟩ := stR X54 hx hZ e54 Ar55 (j := (0 : Int32)) hin55 rfl (Sto.ofV Ar55 q55 O53 (Ins.self (E_S.ext EX53))) (g := (mkF m 10 #[.val (.int p0), .unset, .unset, .unset, .unset, .unset] [(.ref w_S), (.int (0 : Int32)), (.ref b53), (.ref b53)])) rfl rfl (hb hby at_10)
  have EX56 := own_ext_wr EX53 W56 sz_b53
  have KP56 := Keep.wr KP53 W56 (Or.inr sz_b53)
  have V56 : Arv Z h56 b53 k53 (.object "com/example/ovenbird/ovenbird/model/AttributeType") (10 : Int32) [(.ref w_S), .null, .null, .null, .null, .null, .null, .null, .null, .null] .null := Arv.set Ar55 q55 S55 N55_ H55_ G55 rfl W56 0 rfl (Nat.le_of_ble_eq_true rfl)
  have N56 := Fr.snoc X56 N0 gn_b53
  obtain ⟨T57, X57, e57, st57⟩ := getS2 X56 hx hZ hown (host := "") (Or.inl (hw _ (List.mem_of_getElem? (i := 6) rfl))) Via.refl e56 (S_N.ext EX56) (g := (mkF m 13 #[.val (.int p0), .unset, .unset, .unset, .unset, .unset] [(.int (1 : Int32)), (.ref b53), (.ref b53)])) rfl (hb hby at_13)
  obtain ⟨cl58, Ar58, q58, S58, N58_, H58_, G58⟩ := V56
  have hin58 : ¬ ((1 : Int32) < 0 ∨ cl58.slots.size ≤ ((1 : Int32)).toNatClampNeg) := inb_of S58 ⟨by decide, by decide⟩
  obtain ⟨T59, h59, X59, e59, W59, st59⟩ := stR X57 hx hZ e57 Ar58 (j := (1 : Int32)) hin58 rfl (Sto.ofV Ar58 q58 O53 (Ins.self (E_N.ext EX56))) (g := (mkF m 16 #[.val (.int p0), .unset, .unset, .unset, .unset, .unset] [(.ref w_N), (.int (1 : Int32)), (.ref b53), (.ref b53)])) rfl rfl (hb hby at_16)
  have EX59 := own_ext_wr EX56 W59 sz_b53
  have KP59 := Keep.wr KP56 W59 (Or.inr sz_b53)
  have V59 : Arv Z h59 b53 k53 (.object "com/example/ovenbird/ovenbird/model/AttributeType") (10 : Int32) [(.ref w_S), (.ref w_N), .null, .null, .null, .null, .null, .null, .null, .null] .null := Arv.set Ar58 q58 S58 N58_ H58_ G58 rfl W59 1 rfl (Nat.le_of_ble_eq_true rfl)
  have N59 := Fr.snoc X59 N56 gn_b53
  obtain ⟨T60, X60, e60, st60⟩ := getS2 X59 hx hZ hown (host := "") (Or.inl (hw _ (List.mem_of_getElem? (i := 8) rfl))) Via.refl e59 (S_B.ext EX59) (g := (mkF m 19 #[.val (.int p0), .unset, .unset, .unset, .unset, .unset] [(.int (2 : Int32)), (.ref b53), (.ref b53)])) rfl (hb hby at_19)
  obtain ⟨cl61, Ar61, q61, S61, N61_, H61_, G61⟩ := V59
  have hin61 : ¬ ((2 : Int32) < 0 ∨ cl61.slots.size ≤ ((2 : Int32)).toNatClampNeg) := inb_of S61 ⟨by decide, by decide⟩
  obtain ⟨T62, h62, X62, e62, W62, st62⟩ := stR X60 hx hZ e60 Ar61 (j := (2 : Int32)) hin61 rfl (Sto.ofV Ar61 q61 O53 (Ins.self (E_B.ext EX59))) (g := (mkF m 22 #[.val (.int p0), .unset, .unset, .unset, .unset, .unset] [(.ref w_B), (.int (2 : Int32)), (.ref b53), (.ref b53)])) rfl rfl (hb hby at_22)
  have EX62 := own_ext_wr EX59 W62 sz_b53
  have KP62 := Keep.wr KP59 W62 (Or.inr sz_b53)
  have V62 : Arv Z h62 b53 k53 (.object "com/example/ovenbird/ovenbird/model/AttributeType") (10 : Int32) [(.ref w_S), (.ref w_N), (.ref w_B), .null, .null, .null, .null, .null, .null, .null] .null := Arv.set Ar61 q61 S61 N61_ H61_ G61 rfl W62 2 rfl (Nat.le_of_ble_eq_true rfl)
  have N62 := Fr.snoc X62 N59 gn_b53
  obtain ⟨T63, X63, e63, st63⟩ := getS2 X62 hx hZ hown (host := "") (Or.inl (hw _ (List.mem_of_getElem? (i := 10) rfl))) Via.refl e62 (S_BOOL.ext EX62) (g := (mkF m 25 #[.val (.int p0), .unset, .unset, .unset, .unset, .unset] [(.int (3 : Int32)), (.ref b53), (.ref b53)])) rfl (hb hby at_25)
  obtain ⟨cl64, Ar64, q64, S64, N64_, H64_, G64⟩ := V62
  have hin64 : ¬ ((3 : Int32) < 0 ∨ cl64.slots.size ≤ ((3 : Int32)).toNatClampNeg) := inb_of S64 ⟨by decide, by decide⟩
  obtain ⟨T65, h65, X65, e65, W65, st65⟩ := stR X63 hx hZ e63 Ar64 (j := (3 : Int32)) hin64 rfl (Sto.ofV Ar64 q64 O53 (Ins.self (E_BOOL.ext EX62))) (g := (mkF m 28 #[.val (.int p0), .unset, .unset, .unset, .unset, .unset] [(.ref w_BOOL), (.int (3 : Int32)), (.ref b53), (.ref b53)])) rfl rfl (hb hby at_28)
  have EX65 := own_ext_wr EX62 W65 sz_b53
  have KP65 := Keep.wr KP62 W65 (Or.inr sz_b53)
  have V65 : Arv Z h65 b53 k53 (.object "com/example/ovenbird/ovenbird/model/AttributeType") (10 : Int32) [(.ref w_S), (.ref w_N), (.ref w_B), (.ref w_BOOL), .null, .null, .null, .null, .null, .null] .null := Arv.set Ar64 q64 S64 N64_ H64_ G64 rfl W65 3 rfl (Nat.le_of_ble_eq_true rfl)
  have N65 := Fr.snoc X65 N62 gn_b53
  obtain ⟨T66, X66, e66, st66⟩ := getS2 X65 hx hZ hown (host := "") (Or.inl (hw _ (List.mem_of_getElem? (i := 12) rfl))) Via.refl e65 (S_NULL.ext EX65) (g := (mkF m 31 #[.val (.int p0), .unset, .unset, .unset, .unset, .unset] [(.int (4 : Int32)), (.ref b53), (.ref b53)])) rfl (hb hby at_31)
  obtain ⟨cl67, Ar67, q67, S67, N67_, H67_, G67⟩ := V65
  have hin67 : ¬ ((4 : Int32) < 0 ∨ cl67.slots.size ≤ ((4 : Int32)).toNatClampNeg) := inb_of S67 ⟨by decide, by decide⟩
  obtain ⟨T68, h68, X68, e68, W68, st68⟩ := stR X66 hx hZ e66 Ar67 (j := (4 : Int32)) hin67 rfl (Sto.ofV Ar67 q67 O53 (Ins.self (E_NULL.ext EX65))) (g := (mkF m 34 #[.val (.int p0), .unset, .unset, .unset, .unset, .unset] [(.ref w_NULL), (.int (4 : Int32)), (.ref b53), (.ref b53)])) rfl rfl (hb hby at_34)
  have EX68 := own_ext_wr EX65 W68 sz_b53
  have KP68 := Keep.wr KP65 W68 (Or.inr sz_b53)
  have V68 : Arv Z h68 b53 k53 (.object "com/example/ovenbird/ovenbird/model/AttributeType") (10 : Int32) [(.ref w_S), (.ref w_N), (.ref w_B), (.ref w_BOOL), (.ref w_NULL), .null, .null, .null, .null, .null] .null := Arv.set Ar67 q67 S67 N67_ H67_ G67 rfl W68 4 rfl (Nat.le_of_ble_eq_true rfl)
  have N68 := Fr.snoc X68 N65 gn_b53
  obtain ⟨T69, X69, e69, st69⟩ := getS2 X68 hx hZ hown (host := "") (Or.inl (hw _ (List.mem_of_getElem? (i := 14) rfl))) Via.refl e68 (S_M.ext EX68) (g := (mkF m 37 #[.val (.int p0), .unset, .unset, .unset, .unset, .unset] [(.int (5 : Int32)), (.ref b53), (.ref b53)])) rfl (hb hby at_37)
  obtain ⟨cl70, Ar70, q70, S70, N70_, H70_, G70⟩ := V68
  have hin70 : ¬ ((5 : Int32) < 0 ∨ cl70.slots.size ≤ ((5 : Int32)).toNatClampNeg) := inb_of S70 ⟨by decide, by decide⟩
  obtain ⟨T71, h71, X71, e71, W71, st71⟩ := stR X69 hx hZ e69 Ar70 (j := (5 : Int32)) hin70 rfl (Sto.ofV Ar70 q70 O53 (Ins.self (E_M.ext EX68))) (g := (mkF m 40 #[.val (.int p0), .unset, .unset, .unset, .unset, .unset] [(.ref w_M), (.int (5 : Int32)), (.ref b53), (.ref b53)])) rfl rfl (hb hby at_40)
  have EX71 := own_ext_wr EX68 W71 sz_b53
  have KP71 := Keep.wr KP68 W71 (Or.inr sz_b53)
  have V71 : Arv Z h71 b53 k53 (.object "com/example/ovenbird/ovenbird/model/AttributeType") (10 : Int32) [(.ref w_S), (.ref w_N), (.ref w_B), (.ref w_BOOL), (.ref w_NULL), (.ref w_M), .null, .null, .null, .null] .null := Arv.set Ar70 q70 S70 N70_ H70_ G70 rfl W71 5 rfl (Nat.le_of_ble_eq_true rfl)
  have N71 := Fr.snoc X71 N68 gn_b53
  obtain ⟨T72, X72, e72, st72⟩ := getS2 X71 hx hZ hown (host := "") (Or.inl (hw _ (List.mem_of_getElem? (i := 16) rfl))) Via.refl e71 (S_L.ext EX71) (g := (mkF m 44 #[.val (.int p0), .unset, .unset, .unset, .unset, .unset] [(.int (6 : Int32)), (.ref b53), (.ref b53)])) rfl (hb hby at_44)
  obtain ⟨cl73, Ar73, q73, S73, N73_, H73_, G73⟩ := V71
  have hin73 : ¬ ((6 : Int32) < 0 ∨ cl73.slots.size ≤ ((6 : Int32)).toNatClampNeg) := inb_of S73 ⟨by decide, by decide⟩
  obtain ⟨T74, h74, X74, e74, W74, st74⟩ := stR X72 hx hZ e72 Ar73 (j := (6 : Int32)) hin73 rfl (Sto.ofV Ar73 q73 O53 (Ins.self (E_L.ext EX71))) (g := (mkF m 47 #[.val (.int p0), .unset, .unset, .unset, .unset, .unset] [(.ref w_L), (.int (6 : Int32)), (.ref b53), (.ref b53)])) rfl rfl (hb hby at_47)
  have EX74 := own_ext_wr EX71 W74 sz_b53
  have KP74 := Keep.wr KP71 W74 (Or.inr sz_b53)
  have V74 : Arv Z h74 b53 k53 (.object "com/example/ovenbird/ovenbird/model/AttributeType") (10 : Int32) [(.ref w_S), (.ref w_N), (.ref w_B), (.ref w_BOOL), (.ref w_NULL), (.ref w_M), (.ref w_L), .null, .null, .null] .null := Arv.set Ar73 q73 S73 N73_ H73_ G73 rfl W74 6 rfl (Nat.le_of_ble_eq_true rfl)
  have N74 := Fr.snoc X74 N71 gn_b53
  obtain ⟨T75, X75, e75, st75⟩ := getS2 X74 hx hZ hown (host := "") (Or.inl (hw _ (List.mem_of_getElem? (i := 18) rfl))) Via.refl e74 (S_SS.ext EX74) (g := (mkF m 51 #[.val (.int p0), .unset, .unset, .unset, .unset, .unset] [(.int (7 : Int32)), (.ref b53), (.ref b53)])) rfl (hb hby at_51)
  obtain ⟨cl76, Ar76, q76, S76, N76_, H76_, G76⟩ := V74
  have hin76 : ¬ ((7 : Int32) < 0 ∨ cl76.slots.size ≤ ((7 : Int32)).toNatClampNeg) := inb_of S76 ⟨by decide, by decide⟩
  obtain ⟨T77, h77, X77, e77, W77, st77⟩ := stR X75 hx hZ e75 Ar76 (j := (7 : Int32)) hin76 rfl (Sto.ofV Ar76 q76 O53 (Ins.self (E_SS.ext EX74))) (g := (mkF m 54 #[.val (.int p0), .unset, .unset, .unset, .unset, .unset] [(.ref w_SS), (.int (7 : Int32)), (.ref b53), (.ref b53)])) rfl rfl (hb hby at_54)
  have EX77 := own_ext_wr EX74 W77 sz_b53
  have KP77 := Keep.wr KP74 W77 (Or.inr sz_b53)
  have V77 : Arv Z h77 b53 k53 (.object "com/example/ovenbird/ovenbird/model/AttributeType") (10 : Int32) [(.ref w_S), (.ref w_N), (.ref w_B), (.ref w_BOOL), (.ref w_NULL), (.ref w_M), (.ref w_L), (.ref w_SS), .null, .null] .null := Arv.set Ar76 q76 S76 N76_ H76_ G76 rfl W77 7 rfl (Nat.le_of_ble_eq_true rfl)
  have N77 := Fr.snoc X77 N74 gn_b53
  obtain ⟨T78, X78, e78, st78⟩ := getS2 X77 hx hZ hown (host := "") (Or.inl (hw _ (List.mem_of_getElem? (i := 20) rfl))) Via.refl e77 (S_NS.ext EX77) (g := (mkF m 58 #[.val (.int p0), .unset, .unset, .unset, .unset, .unset] [(.int (8 : Int32)), (.ref b53), (.ref b53)])) rfl (hb hby at_58)
  obtain ⟨cl79, Ar79, q79, S79, N79_, H79_, G79⟩ := V77
  have hin79 : ¬ ((8 : Int32) < 0 ∨ cl79.slots.size ≤ ((8 : Int32)).toNatClampNeg) := inb_of S79 ⟨by decide, by decide⟩
  obtain ⟨T80, h80, X80, e80, W80, st80⟩ := stR X78 hx hZ e78 Ar79 (j := (8 : Int32)) hin79 rfl (Sto.ofV Ar79 q79 O53 (Ins.self (E_NS.ext EX77))) (g := (mkF m 61 #[.val (.int p0), .unset, .unset, .unset, .unset, .unset] [(.ref w_NS), (.int (8 : Int32)), (.ref b53), (.ref b53)])) rfl rfl (hb hby at_61)
  have EX80 := own_ext_wr EX77 W80 sz_b53
  have KP80 := Keep.wr KP77 W80 (Or.inr sz_b53)
  have V80 : Arv Z h80 b53 k53 (.object "com/example/ovenbird/ovenbird/model/AttributeType") (10 : Int32) [(.ref w_S), (.ref w_N), (.ref w_B), (.ref w_BOOL), (.ref w_NULL), (.ref w_M), (.ref w_L), (.ref w_SS), (.ref w_NS), .null] .null := Arv.set Ar79 q79 S79 N79_ H79_ G79 rfl W80 8 rfl (Nat.le_of_ble_eq_true rfl)
  have N80 := Fr.snoc X80 N77 gn_b53
  obtain ⟨T81, X81, e81, st81⟩ := getS2 X80 hx hZ hown (host := "") (Or.inl (hw _ (List.mem_of_getElem? (i := 22) rfl))) Via.refl e80 (S_BS.ext EX80) (g := (mkF m 65 #[.val (.int p0), .unset, .unset, .unset, .unset, .unset] [(.int (9 : Int32)), (.ref b53), (.ref b53)])) rfl (hb hby at_65)
  obtain ⟨cl82, Ar82, q82, S82, N82_, H82_, G82⟩ := V80
  have hin82 : ¬ ((9 : Int32) < 0 ∨ cl82.slots.size ≤ ((9 : Int32)).toNatClampNeg) := inb_of S82 ⟨by decide, by decide⟩
  obtain ⟨T83, h83, X83, e83, W83, st83⟩ := stR X81 hx hZ e81 Ar82 (j := (9 : Int32)) hin82 rfl (Sto.ofV Ar82 q82 O53 (Ins.self (E_BS.ext EX80))) (g := (mkF m 68 #[.val (.int p0), .unset, .unset, .unset, .unset, .unset] [(.ref w_BS), (.int (9 : Int32)), (.ref b53), (.ref b53)])) rfl rfl (hb hby at_68)
  have EX83 := own_ext_wr EX80 W83 sz_b53
  have KP83 := Keep.wr KP80 W83 (Or.inr sz_b53)
  have V83 : Arv Z h83 b53 k53 (.object "com/example/ovenbird/ovenbird/model/AttributeType") (10 : Int32) [(.ref w_S), (.ref w_N), (.ref w_B), (.ref w_BOOL), (.ref w_NULL), (.ref w_M), (.ref w_L), (.ref w_SS), (.ref w_NS), (.ref w_BS)] .null := Arv.set Ar82 q82 S82 N82_ H82_ G82 rfl W83 9 rfl (Nat.le_of_ble_eq_true rfl)
  have N83 := Fr.snoc X83 N80 gn_b53
  have ck84 : ∀ t, Steps p.tables e below (T83.setTop (mkF m 77 #[.val (.int p0), .val (.ref b53), .unset, .unset, .unset, .unset] [(.int ((p0 &&& (2147483647 : Int32)) % (10 : Int32)))])) t → Steps p.tables e below (s₁.setTop (entryFrame m #[(.int p0)] maxLocals)) t := by
    intro t kt
    refine pre0 _ ?_
    show Steps p.tables e below (s₁.setTop (mkF m 0 #[.val (.int p0), .unset, .unset, .unset, .unset, .unset] [])) _
    refine XS.bipush X0.here hx rfl (hb hby at_0) ?_
    show Steps p.tables e below (s₁.setTop (mkF m 2 #[.val (.int p0), .unset, .unset, .unset, .unset, .unset] [(.int (10 : Int32))])) _
    refine st53 _ ?_
    show Steps p.tables e below (T53.setTop (mkF m 5 #[.val (.int p0), .unset, .unset, .unset, .unset, .unset] [(.ref b53)])) _
    refine XS.dup X53.here hx rfl (hb hby at_5) rfl rfl ?_
    show Steps p.tables e below (T53.setTop (mkF m 6 #[.val (.int p0), .unset, .unset, .unset, .unset, .unset] [(.ref b53), (.ref b53)])) _
    refine XS.iconst X53.here hx rfl (hb hby at_6) ?_
    show Steps p.tables e below (T53.setTop (mkF m 7 #[.val (.int p0), .unset, .unset, .unset, .unset, .unset] [(.int (0 : Int32)), (.ref b53), (.ref b53)])) _
    refine st54 _ ?_
    show Steps p.tables e below (T54.setTop (mkF m 10 #[.val (.int p0), .unset, .unset, .unset, .unset, .unset] [(.ref w_S), (.int (0 : Int32)), (.ref b53), (.ref b53)])) _
    refine st56 _ ?_
    show Steps p.tables e below (T56.setTop (mkF m 11 #[.val (.int p0), .unset, .unset, .unset, .unset, .unset] [(.ref b53)])) _
    refine XS.dup X56.here hx rfl (hb hby at_11) rfl rfl ?_
    show Steps p.tables e below (T56.setTop (mkF m 12 #[.val (.int p0), .unset, .unset, .unset, .unset, .unset] [(.ref b53), (.ref b53)])) _
    refine XS.iconst X56.here hx rfl (hb hby at_12) ?_
    show Steps p.tables e below (T56.setTop (mkF m 13 #[.val (.int p0), .unset, .unset, .unset, .unset, .unset] [(.int (1 : Int32)), (.ref b53), (.ref b53)])) _
    refine st57 _ ?_
    show Steps p.tables e below (T57.setTop (mkF m 16 #[.val (.int p0), .unset, .unset, .unset, .unset, .unset] [(.ref w_N), (.int (1 : Int32)), (.ref b53), (.ref b53)])) _
    refine st59 _ ?_
    show Steps p.tables e below (T59.setTop (mkF m 17 #[.val (.int p0), .unset, .unset, .unset, .unset, .unset] [(.ref b53)])) _
    refine XS.dup X59.here hx rfl (hb hby at_17) rfl rfl ?_
    show Steps p.tables e below (T59.setTop (mkF m 18 #[.val (.int p0), .unset, .unset, .unset, .unset, .unset] [(.ref b53), (.ref b53)])) _
    refine XS.iconst X59.here hx rfl (hb hby at_18) ?_
    show Steps p.tables e below (T59.setTop (mkF m 19 #[.val (.int p0), .unset, .unset, .unset, .unset, .unset] [(.int (2 : Int32)), (.ref b53), (.ref b53)])) _
    refine st60 _ ?_
    show Steps p.tables e below (T60.setTop (mkF m 22 #[.val (.int p0), .unset, .unset, .unset, .unset, .unset] [(.ref w_B), (.int (2 : Int32)), (.ref b53), (.ref b53)])) _
    refine st62 _ ?_
    show Steps p.tables e below (T62.setTop (mkF m 23 #[.val (.int p0), .unset, .unset, .unset, .unset, .unset] [(.ref b53)])) _
    refine XS.dup X62.here hx rfl (hb hby at_23) rfl rfl ?_
    show Steps p.tables e below (T62.setTop (mkF m 24 #[.val (.int p0), .unset, .unset, .unset, .unset, .unset] [(.ref b53), (.ref b53)])) _
    refine XS.iconst X62.here hx rfl (hb hby at_24) ?_
    show Steps p.tables e below (T62.setTop (mkF m 25 #[.val (.int p0), .unset, .unset, .unset, .unset, .unset] [(.int (3 : Int32)), (.ref b53), (.ref b53)])) _
    refine st63 _ ?_
    show Steps p.tables e below (T63.setTop (mkF m 28 #[.val (.int p0), .unset, .unset, .unset, .unset, .unset] [(.ref w_BOOL), (.int (3 : Int32)), (.ref b53), (.ref b53)])) _
    refine st65 _ ?_
    show Steps p.tables e below (T65.setTop (mkF m 29 #[.val (.int p0), .unset, .unset, .unset, .unset, .unset] [(.ref b53)])) _
    refine XS.dup X65.here hx rfl (hb hby at_29) rfl rfl ?_
    show Steps p.tables e below (T65.setTop (mkF m 30 #[.val (.int p0), .unset, .unset, .unset, .unset, .unset] [(.ref b53), (.ref b53)])) _
    refine XS.iconst X65.here hx rfl (hb hby at_30) ?_
    show Steps p.tables e below (T65.setTop (mkF m 31 #[.val (.int p0), .unset, .unset, .unset, .unset, .unset] [(.int (4 : Int32)), (.ref b53), (.ref b53)])) _
    refine st66 _ ?_
    show Steps p.tables e below (T66.setTop (mkF m 34 #[.val (.int p0), .unset, .unset, .unset, .unset, .unset] [(.ref w_NULL), (.int (4 : Int32)), (.ref b53), (.ref b53)])) _
    refine st68 _ ?_
    show Steps p.tables e below (T68.setTop (mkF m 35 #[.val (.int p0), .unset, .unset, .unset, .unset, .unset] [(.ref b53)])) _
    refine XS.dup X68.here hx rfl (hb hby at_35) rfl rfl ?_
    show Steps p.tables e below (T68.setTop (mkF m 36 #[.val (.int p0), .unset, .unset, .unset, .unset, .unset] [(.ref b53), (.ref b53)])) _
    refine XS.iconst X68.here hx rfl (hb hby at_36) ?_
    show Steps p.tables e below (T68.setTop (mkF m 37 #[.val (.int p0), .unset, .unset, .unset, .unset, .unset] [(.int (5 : Int32)), (.ref b53), (.ref b53)])) _
    refine st69 _ ?_
    show Steps p.tables e below (T69.setTop (mkF m 40 #[.val (.int p0), .unset, .unset, .unset, .unset, .unset] [(.ref w_M), (.int (5 : Int32)), (.ref b53), (.ref b53)])) _
    refine st71 _ ?_
    show Steps p.tables e below (T71.setTop (mkF m 41 #[.val (.int p0), .unset, .unset, .unset, .unset, .unset] [(.ref b53)])) _
    refine XS.dup X71.here hx rfl (hb hby at_41) rfl rfl ?_
    show Steps p.tables e below (T71.setTop (mkF m 42 #[.val (.int p0), .unset, .unset, .unset, .unset, .unset] [(.ref b53), (.ref b53)])) _
    refine XS.bipush X71.here hx rfl (hb hby at_42) ?_
    show Steps p.tables e below (T71.setTop (mkF m 44 #[.val (.int p0), .unset, .unset, .unset, .unset, .unset] [(.int (6 : Int32)), (.ref b53), (.ref b53)])) _
    refine st72 _ ?_
    show Steps p.tables e below (T72.setTop (mkF m 47 #[.val (.int p0), .unset, .unset, .unset, .unset, .unset] [(.ref w_L), (.int (6 : Int32)), (.ref b53), (.ref b53)])) _
    refine st74 _ ?_
    show Steps p.tables e below (T74.setTop (mkF m 48 #[.val (.int p0), .unset, .unset, .unset, .unset, .unset] [(.ref b53)])) _
    refine XS.dup X74.here hx rfl (hb hby at_48) rfl rfl ?_
    show Steps p.tables e below (T74.setTop (mkF m 49 #[.val (.int p0), .unset, .unset, .unset, .unset, .unset] [(.ref b53), (.ref b53)])) _
    refine XS.bipush X74.here hx rfl (hb hby at_49) ?_
    show Steps p.tables e below (T74.setTop (mkF m 51 #[.val (.int p0), .unset, .unset, .unset, .unset, .unset] [(.int (7 : Int32)), (.ref b53), (.ref b53)])) _
    refine st75 _ ?_
    show Steps p.tables e below (T75.setTop (mkF m 54 #[.val (.int p0), .unset, .unset, .unset, .unset, .unset] [(.ref w_SS), (.int (7 : Int32)), (.ref b53), (.ref b53)])) _
    refine st77 _ ?_
    show Steps p.tables e below (T77.setTop (mkF m 55 #[.val (.int p0), .unset, .unset, .unset, .unset, .unset] [(.ref b53)])) _
    refine XS.dup X77.here hx rfl (hb hby at_55) rfl rfl ?_
    show Steps p.tables e below (T77.setTop (mkF m 56 #[.val (.int p0), .unset, .unset, .unset, .unset, .unset] [(.ref b53), (.ref b53)])) _
    refine XS.bipush X77.here hx rfl (hb hby at_56) ?_
    show Steps p.tables e below (T77.setTop (mkF m 58 #[.val (.int p0), .unset, .unset, .unset, .unset, .unset] [(.int (8 : Int32)), (.ref b53), (.ref b53)])) _
    refine st78 _ ?_
    show Steps p.tables e below (T78.setTop (mkF m 61 #[.val (.int p0), .unset, .unset, .unset, .unset, .unset] [(.ref w_NS), (.int (8 : Int32)), (.ref b53), (.ref b53)])) _
    refine st80 _ ?_
    show Steps p.tables e below (T80.setTop (mkF m 62 #[.val (.int p0), .unset, .unset, .unset, .unset, .unset] [(.ref b53)])) _
    refine XS.dup X80.here hx rfl (hb hby at_62) rfl rfl ?_
    show Steps p.tables e below (T80.setTop (mkF m 63 #[.val (.int p0), .unset, .unset, .unset, .unset, .unset] [(.ref b53), (.ref b53)])) _
    refine XS.bipush X80.here hx rfl (hb hby at_63) ?_
    show Steps p.tables e below (T80.setTop (mkF m 65 #[.val (.int p0), .unset, .unset, .unset, .unset, .unset] [(.int (9 : Int32)), (.ref b53), (.ref b53)])) _
    refine st81 _ ?_
    show Steps p.tables e below (T81.setTop (mkF m 68 #[.val (.int p0), .unset, .unset, .unset, .unset, .unset] [(.ref w_BS), (.int (9 : Int32)), (.ref b53), (.ref b53)])) _
    refine st83 _ ?_
    show Steps p.tables e below (T83.setTop (mkF m 69 #[.val (.int p0), .unset, .unset, .unset, .unset, .unset] [(.ref b53)])) _
    refine XS.astoreN X83.here hx rfl (hb hby at_69) rfl rfl (l' := #[.val (.int p0), .val (.ref b53), .unset, .unset, .unset, .unset]) rfl ?_
    show Steps p.tables e below (T83.setTop (mkF m 70 #[.val (.int p0), .val (.ref b53), .unset, .unset, .unset, .unset] [])) _
    refine XS.iloadN X83.here hx rfl (hb hby at_70) rfl ?_
    show Steps p.tables e below (T83.setTop (mkF m 71 #[.val (.int p0), .val (.ref b53), .unset, .unset, .unset, .unset] [(.int p0)])) _
    refine X83.ldcInt hx hown (mvT hZ (hw _ (List.mem_of_getElem? (i := 24) rfl))) (g := (mkF m 71 #[.val (.int p0), .val (.ref b53), .unset, .unset, .unset, .unset] [(.int p0)])) rfl (hb hby at_71) _ ?_
    show Steps p.tables e below (T83.setTop (mkF m 73 #[.val (.int p0), .val (.ref b53), .unset, .unset, .unset, .unset] [(.int (2147483647 : Int32)), (.int p0)])) _
    refine XS.iand X83.here hx rfl (hb hby at_73) rfl ?_
    show Steps p.tables e below (T83.setTop (mkF m 74 #[.val (.int p0), .val (.ref b53), .unset, .unset, .unset, .unset] [(.int (p0 &&& (2147483647 : Int32)))])) _
    refine XS.bipush X83.here hx rfl (hb hby at_74) ?_
    show Steps p.tables e below (T83.setTop (mkF m 76 #[.val (.int p0), .val (.ref b53), .unset, .unset, .unset, .unset] [(.int (10 : Int32)), (.int (p0 &&& (2147483647 : Int32)))])) _
    refine Jvm.RoadKit.iremM (g := (mkF m 76 #[.val (.int p0), .val (.ref b53), .unset, .unset, .unset, .unset] [(.int (10 : Int32)), (.int (p0 &&& (2147483647 : Int32)))])) X83 hx rfl (hb hby at_76) rfl (by decide) ?_
    exact kt
  rcases own_rem10 p0 with hv85 | hv86 | hv87 | hv88 | hv89 | hv90 | hv91 | hv92 | hv93 | hv94
  · -- (0 : Int32)
    obtain ⟨cl95, Ar95, q95, S95, N95_, H95_, G95⟩ := V83
    have hin95 : ¬ ((0 : Int32) < 0 ∨ cl95.slots.size ≤ ((0 : Int32)).toNatClampNeg) := inb_of S95 ⟨by decide, by decide⟩
    have hat95 : cl95.slots[((0 : Int32)).toNatClampNeg]? = some (.ref w_S) := Has.at H95_ hin95 rfl
    obtain ⟨cq96, kq96, q96a, q96b, q96c⟩ := isOf hZ e83 ((E_S.ext EX83))
    obtain ⟨_, _, ⟨T96, L96, k96, n96⟩, -, X96, ⟨Lc96, hQ96, l96, y96, z96⟩, st96⟩ := X83.virtualBack hx (y := (⟨"com/example/ovenbird/ovenbird/model/AttributeType", "isScalar", "()Z"⟩ : MethodName)) (z := (⟨"com/example/ovenbird/ovenbird/model/AttributeType", "isScalar", "()Z"⟩ : MethodName)) hown (mvT hZ (hw _ (List.mem_of_getElem? (i := 25) rfl))) (mvT hZ (hw _ (List.mem_of_getElem? (i := 26) rfl))) (notFace_of_selects (args := #[]) (mvT hZ (hw _ (List.mem_of_getElem? (i := 28) rfl)))) (mvT hZ (hw _ (List.mem_of_getElem? (i := 28) rfl))) (mvT hZ (hw _ (List.mem_of_getElem? (i := 27) rfl))) (by decide) (backOf (W := 0) (rm_isc l Z a0 hw [] w_S h83 n0 (Nat.le_trans Z0 EX83.1) w_S w_N w_B w_BOOL w_NULL w_M w_L w_SS w_NS w_BS (hWd.ext EX83) (1 : Int32) (by simp [(F_S_ordinal.ne F_N_ordinal (by decide)), (F_S_ordinal.ne F_B_ordinal (by decide))])) hZ (hw _ (List.mem_of_getElem? (i := 29) rfl)) (hw _ (List.mem_of_getElem? (i := 3) rfl)) (by decide) (by decide)) q96a q96c (g := (mkF m 95 #[.val (.int p0), .val (.ref b53), .val (.int (0 : Int32)), .val (.ref w_S), .val (.int (1 : Int32)), .unset] [(.ref w_S)])) rfl (by rw [hml]; rfl) (Steps.refl _) (argsL := []) (rest := []) (lenOf pd_29 rfl) rfl (by show 2 * 0 + _ ≤ _; exact Nat.le_of_eq rfl) (hb hby at_95) (fun _ _ => ⟨rfl, e83, (by decide : 1 + 0 ≤ _), (by decide : 10 + 0 ≤ _)⟩)
    dsimp only [Pt.U, Pt.locs, Pt.cells, Pt.slots] at X96 l96 y96 z96 st96 hQ96
    subst l96 y96 z96
    obtain ⟨rfl, N96q, e96⟩ := hQ96
    have N96 := Fr.app N83 N96q
    obtain ⟨fs, hr, hrun, hended, hW, hsame⟩ := X96.leave (v := some (.int (1 : Int32))) (fun h => by rw [Bd.returns] at h; cases h)
    refine ⟨_, _, ck84 _ ?_, hrun, hended, _, _, rfl, ?_, ⟨_, rfl⟩, hW, hsame.mono (by decide) (by decide)⟩
    · show Steps p.tables e below (T83.setTop (mkF m 77 #[.val (.int p0), .val (.ref b53), .unset, .unset, .unset, .unset] [(.int ((p0 &&& (2147483647 : Int32)) % (10 : Int32)))])) _
      rw [hv85]
      show Steps p.tables e below (T83.setTop (mkF m 77 #[.val (.int p0), .val (.ref b53), .unset, .unset, .unset, .unset] [(.int (0 : Int32))])) _
      refine XS.istoreN X83.here hx rfl (hb hby at_77) rfl (l' := #[.val (.int p0), .val (.ref b53), .val (.int (0 : Int32)), .unset, .unset, .unset]) rfl ?_
      show Steps p.tables e below (T83.setTop (mkF m 78 #[.val (.int p0), .val (.ref b53), .val (.int (0 : Int32)), .unset, .unset, .unset] [])) _
      refine XS.aloadN X83.here hx rfl (hb hby at_78) rfl rfl ?_
      show Steps p.tables e below (T83.setTop (mkF m 79 #[.val (.int p0), .val (.ref b53), .val (.int (0 : Int32)), .unset, .unset, .unset] [(.ref b53)])) _
      refine XS.iloadN X83.here hx rfl (hb hby at_79) rfl ?_
      show Steps p.tables e below (T83.setTop (mkF m 80 #[.val (.int p0), .val (.ref b53), .val (.int (0 : Int32)), .unset, .unset, .unset] [(.int (0 : Int32)), (.ref b53)])) _
      refine X83.aaload hx (j := (0 : Int32)) (v := (.ref w_S)) (by rw [e83]; exact Ar95.1) (State.isArrayOf_alike hZ.alike Ar95.2.1) rfl Ar95.2.2 hin95 hat95 (g := (mkF m 80 #[.val (.int p0), .val (.ref b53), .val (.int (0 : Int32)), .unset, .unset, .unset] [(.int (0 : Int32)), (.ref b53)])) rfl rfl (hb hby at_80) _ ?_
      show Steps p.tables e below (T83.setTop (mkF m 81 #[.val (.int p0), .val (.ref b53), .val (.int (0 : Int32)), .unset, .unset, .unset] [(.ref w_S)])) _
      refine XS.astoreN X83.here hx rfl (hb hby at_81) rfl rfl (l' := #[.val (.int p0), .val (.ref b53), .val (.int (0 : Int32)), .val (.ref w_S), .unset, .unset]) rfl ?_
      show Steps p.tables e below (T83.setTop (mkF m 82 #[.val (.int p0), .val (.ref b53), .val (.int (0 : Int32)), .val (.ref w_S), .unset, .unset] [])) _
      refine XS.iloadN X83.here hx rfl (hb hby at_82) rfl ?_
      show Steps p.tables e below (T83.setTop (mkF m 83 #[.val (.int p0), .val (.ref b53), .val (.int (0 : Int32)), .val (.ref w_S), .unset, .unset] [(.int (0 : Int32))])) _
      refine XS.iconst X83.here hx rfl (hb hby at_83) ?_
      show Steps p.tables e below (T83.setTop (mkF m 84 #[.val (.int p0), .val (.ref b53), .val (.int (0 : Int32)), .val (.ref w_S), .unset, .unset] [(.int (3 : Int32)), (.int (0 : Int32))])) _
      refine XS.icmpNo X83.here hx rfl (hb hby at_84) rfl (tlt (by decide : (0 : Int32) < (3 : Int32))).2.1 ?_
      show Steps p.tables e below (T83.setTop (mkF m 87 #[.val (.int p0), .val (.ref b53), .val (.int (0 : Int32)), .val (.ref w_S), .unset, .unset] [])) _
      refine XS.iconst X83.here hx rfl (hb hby at_87) ?_
      show Steps p.tables e below (T83.setTop (mkF m 88 #[.val (.int p0), .val (.ref b53), .val (.int (0 : Int32)), .val (.ref w_S), .unset, .unset] [(.int (1 : Int32))])) _
      refine XS.goto X83.here hx rfl (pc0 := 88) (pc' := 92) rfl (hb hby at_88) (by decide) (by decide) ?_
      show Steps p.tables e below (T83.setTop (mkF m 92 #[.val (.int p0), .val (.ref b53), .val (.int (0 : Int32)), .val (.ref w_S), .unset, .unset] [(.int (1 : Int32))])) _
      refine XS.istore X83.here hx rfl (hb hby at_92) rfl (l' := #[.val (.int p0), .val (.ref b53), .val (.int (0 : Int32)), .val (.ref w_S), .val (.int (1 : Int32)), .unset]) rfl ?_
      show Steps p.tables e below (T83.setTop (mkF m 94 #[.val (.int p0), .val (.ref b53), .val (.int (0 : Int32)), .val (.ref w_S), .val (.int (1 : Int32)), .unset] [])) _
      refine XS.aloadN X83.here hx rfl (hb hby at_94) rfl rfl ?_
      show Steps p.tables e below (T83.setTop (mkF m 95 #[.val (.int p0), .val (.ref b53), .val (.int (0 : Int32)), .val (.ref w_S), .val (.int (1 : Int32)), .unset] [(.ref w_S)])) _
      refine st96.trans ?_
      show Steps p.tables e below (T96.setTop (mkF m 98 #[.val (.int p0), .val (.ref b53), .val (.int (0 : Int32)), .val (.ref w_S), .val (.int (1 : Int32)), .unset] [(.int (1 : Int32))])) _
      refine XS.iload X96.here hx rfl (hb hby at_98) rfl ?_
      show Steps p.tables e below (T96.setTop (mkF m 100 #[.val (.int p0), .val (.ref b53), .val (.int (0 : Int32)), .val (.ref w_S), .val (.int (1 : Int32)), .unset] [(.int (1 : Int32)), (.int (1 : Int32))])) _
      refine XS.icmpYes X96.here hx rfl (pc0 := 100) (pc' := 105) rfl (hb hby at_100) rfl (teq (by decide : (1 : Int32) = (1 : Int32))).1 (by decide) (by decide) ?_
      show Steps p.tables e below (T96.setTop (mkF m 105 #[.val (.int p0), .val (.ref b53), .val (.int (0 : Int32)), .val (.ref w_S), .val (.int (1 : Int32)), .unset] [])) _
      refine XS.iloadN X96.here hx rfl (hb hby at_105) rfl ?_
      show Steps p.tables e below (T96.setTop (mkF m 106 #[.val (.int p0), .val (.ref b53), .val (.int (0 : Int32)), .val (.ref w_S), .val (.int (1 : Int32)), .unset] [(.int (0 : Int32))])) _
      refine XS.bipush X96.here hx rfl (hb hby at_106) ?_
      show Steps p.tables e below (T96.setTop (mkF m 108 #[.val (.int p0), .val (.ref b53), .val (.int (0 : Int32)), .val (.ref w_S), .val (.int (1 : Int32)), .unset] [(.int (7 : Int32)), (.int (0 : Int32))])) _
      refine XS.icmpYes X96.here hx rfl (pc0 := 108) (pc' := 127) rfl (hb hby at_108) rfl (tlt (by decide : (0 : Int32) < (7 : Int32))).1 (by decide) (by decide) ?_
      show Steps p.tables e below (T96.setTop (mkF m 127 #[.val (.int p0), .val (.ref b53), .val (.int (0 : Int32)), .val (.ref w_S), .val (.int (1 : Int32)), .unset] [])) _
      refine XS.iconst X96.here hx rfl (hb hby at_127) ?_
      show Steps p.tables e below (T96.setTop (mkF m 128 #[.val (.int p0), .val (.ref b53), .val (.int (0 : Int32)), .val (.ref w_S), .val (.int (1 : Int32)), .unset] [(.int (1 : Int32))])) _
      exact retN X96 hx (t := .boolean) Bd.returns (by simp) (hb hby at_128) hr
    · show own_Made (some (.int 1)) n0 _ T96.heap _
      rw [e96]
      exact ⟨rfl, N96, trivial⟩
  · -- (1 : Int32)
    obtain ⟨cl97, Ar97, q97, S97, N97_, H97_, G97⟩ := V83
    have hin97 : ¬ ((1 : Int32) < 0 ∨ cl97.slots.size ≤ ((1 : Int32)).toNatClampNeg) := inb_of S97 ⟨by decide, by decide⟩
    have hat97 : cl97.slots[((1 : Int32)).toNatClampNeg]? = some (.ref w_N) := Has.at H97_ hin97 rfl
    obtain ⟨cq98, kq98, q98a, q98b, q98c⟩ := isOf hZ e83 ((E_N.ext EX83))
    obtain ⟨_, _, ⟨T98, L98, k98, n98⟩, -, X98, ⟨Lc98, hQ98, l98, y98, z98⟩, st98⟩ := X83.virtualBack hx (y := (⟨"com/example/ovenbird/ovenbird/model/AttributeType", "isScalar", "()Z"⟩ : MethodName)) (z := (⟨"com/example/ovenbird/ovenbird/model/AttributeType", "isScalar", "()Z"⟩ : MethodName)) hown (mvT hZ (hw _ (List.mem_of_getElem? (i := 25) rfl))) (mvT hZ (hw _ (List.mem_of_getElem? (i := 26) rfl))) (notFace_of_selects (args := #[]) (mvT hZ (hw _ (List.mem_of_getElem? (i := 28) rfl)))) (mvT hZ (hw _ (List.mem_of_getElem? (i := 28) rfl))) (mvT hZ (hw _ (List.mem_of_getElem? (i := 27) rfl))) (by decide) (backOf (W := 0) (rm_isc l Z a0 hw [] w_N h83 n0 (Nat.le_trans Z0 EX83.1) w_S w_N w_B w_BOOL w_NULL w_M w_L w_SS w_NS w_BS (hWd.ext EX83) (1 : Int32) (by simp [(F_N_ordinal.ne F_S_ordinal (by decide)), (F_N_ordinal.ne F_B_ordinal (by decide))])) hZ (hw _ (List.mem_of_getElem? (i := 29) rfl)) (hw _ (List.mem_of_getElem? (i := 3) rfl)) (by decide) (by decide)) q98a q98c (g := (mkF m 95 #[.val (.int p0), .val (.ref b53), .val (.int (1 : Int32)), .val (.ref w_N), .val (.int (1 : Int32)), .unset] [(.ref w_N)])) rfl (by rw [hml]; rfl) (Steps.refl _) (argsL := []) (rest := []) (lenOf pd_29 rfl) rfl (by show 2 * 0 + _ ≤ _; exact Nat.le_of_eq rfl) (hb hby at_95) (fun _ _ => ⟨rfl, e83, (by decide : 1 + 0 ≤ _), (by decide : 10 + 0 ≤ _)⟩)
    dsimp only [Pt.U, Pt.locs, Pt.cells, Pt.slots] at X98 l98 y98 z98 st98 hQ98
    subst l98 y98 z98
    obtain ⟨rfl, N98q, e98⟩ := hQ98
    have N98 := Fr.app N83 N98q
    obtain ⟨fs, hr, hrun, hended, hW, hsame⟩ := X98.leave (v := some (.int (1 : Int32))) (fun h => by rw [Bd.returns] at h; cases h)
    refine ⟨_, _, ck84 _ ?_, hrun, hended, _, _, rfl, ?_, ⟨_, rfl⟩, hW, hsame.mono (by decide) (by decide)⟩
    · show Steps p.tables e below (T83.setTop (mkF m 77 #[.val (.int p0), .val (.ref b53), .unset, .unset, .unset, .unset] [(.int ((p0 &&& (2147483647 : Int32)) % (10 : Int32)))])) _
      rw [hv86]
      show Steps p.tables e below (T83.setTop (mkF m 77 #[.val (.int p0), .val (.ref b53), .unset, .unset, .unset, .unset] [(.int (1 : Int32))])) _
      refine XS.istoreN X83.here hx rfl (hb hby at_77) rfl (l' := #[.val (.int p0), .val (.ref b53), .val (.int (1 : Int32)), .unset, .unset, .unset]) rfl ?_
      show Steps p.tables e below (T83.setTop (mkF m 78 #[.val (.int p0), .val (.ref b53), .val (.int (1 : Int32)), .unset, .unset, .unset] [])) _
      refine XS.aloadN X83.here hx rfl (hb hby at_78) rfl rfl ?_
      show Steps p.tables e below (T83.setTop (mkF m 79 #[.val (.int p0), .val (.ref b53), .val (.int (1 : Int32)), .unset, .unset, .unset] [(.ref b53)])) _
      refine XS.iloadN X83.here hx rfl (hb hby at_79) rfl ?_
      show Steps p.tables e below (T83.setTop (mkF m 80 #[.val (.int p0), .val (.ref b53), .val (.int (1 : Int32)), .unset, .unset, .unset] [(.int (1 : Int32)), (.ref b53)])) _
      refine X83.aaload hx (j := (1 : Int32)) (v := (.ref w_N)) (by rw [e83]; exact Ar97.1) (State.isArrayOf_alike hZ.alike Ar97.2.1) rfl Ar97.2.2 hin97 hat97 (g := (mkF m 80 #[.val (.int p0), .val (.ref b53), .val (.int (1 : Int32)), .unset, .unset, .unset] [(.int (1 : Int32)), (.ref b53)])) rfl rfl (hb hby at_80) _ ?_
      show Steps p.tables e below (T83.setTop (mkF m 81 #[.val (.int p0), .val (.ref b53), .val (.int (1 : Int32)), .unset, .unset, .unset] [(.ref w_N)])) _
      refine XS.astoreN X83.here hx rfl (hb hby at_81) rfl rfl (l' := #[.val (.int p0), .val (.ref b53), .val (.int (1 : Int32)), .val (.ref w_N), .unset, .unset]) rfl ?_
      show Steps p.tables e below (T83.setTop (mkF m 82 #[.val (.int p0), .val (.ref b53), .val (.int (1 : Int32)), .val (.ref w_N), .unset, .unset] [])) _
      refine XS.iloadN X83.here hx rfl (hb hby at_82) rfl ?_
      show Steps p.tables e below (T83.setTop (mkF m 83 #[.val (.int p0), .val (.ref b53), .val (.int (1 : Int32)), .val (.ref w_N), .unset, .unset] [(.int (1 : Int32))])) _
      refine XS.iconst X83.here hx rfl (hb hby at_83) ?_
      show Steps p.tables e below (T83.setTop (mkF m 84 #[.val (.int p0), .val (.ref b53), .val (.int (1 : Int32)), .val (.ref w_N), .unset, .unset] [(.int (3 : Int32)), (.int (1 : Int32))])) _
      refine XS.icmpNo X83.here hx rfl (hb hby at_84) rfl (tlt (by decide : (1 : Int32) < (3 : Int32))).2.1 ?_
      show Steps p.tables e below (T83.setTop (mkF m 87 #[.val (.int p0), .val (.ref b53), .val (.int (1 : Int32)), .val (.ref w_N), .unset, .unset] [])) _
      refine XS.iconst X83.here hx rfl (hb hby at_87) ?_
      show Steps p.tables e below (T83.setTop (mkF m 88 #[.val (.int p0), .val (.ref b53), .val (.int (1 : Int32)), .val (.ref w_N), .unset, .unset] [(.int (1 : Int32))])) _
      refine XS.goto X83.here hx rfl (pc0 := 88) (pc' := 92) rfl (hb hby at_88) (by decide) (by decide) ?_
      show Steps p.tables e below (T83.setTop (mkF m 92 #[.val (.int p0), .val (.ref b53), .val (.int (1 : Int32)), .val (.ref w_N), .unset, .unset] [(.int (1 : Int32))])) _
      refine XS.istore X83.here hx rfl (hb hby at_92) rfl (l' := #[.val (.int p0), .val (.ref b53), .val (.int (1 : Int32)), .val (.ref w_N), .val (.int (1 : Int32)), .unset]) rfl ?_
      show Steps p.tables e below (T83.setTop (mkF m 94 #[.val (.int p0), .val (.ref b53), .val (.int (1 : Int32)), .val (.ref w_N), .val (.int (1 : Int32)), .unset] [])) _
      refine XS.aloadN X83.here hx rfl (hb hby at_94) rfl rfl ?_
      show Steps p.tables e below (T83.setTop (mkF m 95 #[.val (.int p0), .val (.ref b53), .val (.int (1 : Int32)), .val (.ref w_N), .val (.int (1 : Int32)), .unset] [(.ref w_N)])) _
      refine st98.trans ?_
      show Steps p.tables e below (T98.setTop (mkF m 98 #[.val (.int p0), .val (.ref b53), .val (.int (1 : Int32)), .val (.ref w_N), .val (.int (1 : Int32)), .unset] [(.int (1 : Int32))])) _
      refine XS.iload X98.here hx rfl (hb hby at_98) rfl ?_
      show Steps p.tables e below (T98.setTop (mkF m 100 #[.val (.int p0), .val (.ref b53), .val (.int (1 : Int32)), .val (.ref w_N), .val (.int (1 : Int32)), .unset] [(.int (1 : Int32)), (.int (1 : Int32))])) _
      refine XS.icmpYes X98.here hx rfl (pc0 := 100) (pc' := 105) rfl (hb hby at_100) rfl (teq (by decide : (1 : Int32) = (1 : Int32))).1 (by decide) (by decide) ?_
      show Steps p.tables e below (T98.setTop (mkF m 105 #[.val (.int p0), .val (.ref b53), .val (.int (1 : Int32)), .val (.ref w_N), .val (.int (1 : Int32)), .unset] [])) _
      refine XS.iloadN X98.here hx rfl (hb hby at_105) rfl ?_
      show Steps p.tables e below (T98.setTop (mkF m 106 #[.val (.int p0), .val (.ref b53), .val (.int (1 : Int32)), .val (.ref w_N), .val (.int (1 : Int32)), .unset] [(.int (1 : Int32))])) _
      refine XS.bipush X98.here hx rfl (hb hby at_106) ?_
      show Steps p.tables e below (T98.setTop (mkF m 108 #[.val (.int p0), .val (.ref b53), .val (.int (1 : Int32)), .val (.ref w_N), .val (.int (1 : Int32)), .unset] [(.int (7 : Int32)), (.int (1 : Int32))])) _
      refine XS.icmpYes X98.here hx rfl (pc0 := 108) (pc' := 127) rfl (hb hby at_108) rfl (tlt (by decide : (1 : Int32) < (7 : Int32))).1 (by decide) (by decide) ?_
      show Steps p.tables e below (T98.setTop (mkF m 127 #[.val (.int p0), .val (.ref b53), .val (.int (1 : Int32)), .val (.ref w_N), .val (.int (1 : Int32)), .unset] [])) _
      refine XS.iconst X98.here hx rfl (hb hby at_127) ?_
      show Steps p.tables e below (T98.setTop (mkF m 128 #[.val (.int p0), .val (.ref b53), .val (.int (1 : Int32)), .val (.ref w_N), .val (.int (1 : Int32)), .unset] [(.int (1 : Int32))])) _
      exact retN X98 hx (t := .boolean) Bd.returns (by simp) (hb hby at_128) hr
    · show own_Made (some (.int 1)) n0 _ T98.heap _
      rw [e98]
      exact ⟨rfl, N98, trivial⟩
  · -- (2 : Int32)
    obtain ⟨cl99, Ar99, q99, S99, N99_, H99_, G99⟩ := V83
    have hin99 : ¬ ((2 : Int32) < 0 ∨ cl99.slots.size ≤ ((2 : Int32)).toNatClampNeg) := inb_of S99 ⟨by decide, by decide⟩
    have hat99 : cl99.slots[((2 : Int32)).toNatClampNeg]? = some (.ref w_B) := Has.at H99_ hin99 rfl
    obtain ⟨cq100, kq100, q100a, q100b, q100c⟩ := isOf hZ e83 ((E_B.ext EX83))
    obtain ⟨_, _, ⟨T100, L100, k100, n100⟩, -, X100, ⟨Lc100, hQ100, l100, y100, z100⟩, st100⟩ := X83.virtualBack hx (y := (⟨"com/example/ovenbird/ovenbird/model/AttributeType", "isScalar", "()Z"⟩ : MethodName)) (z := (⟨"com/example/ovenbird/ovenbird/model/AttributeType", "isScalar", "()Z"⟩ : MethodName)) hown (mvT hZ (hw _ (List.mem_of_getElem? (i := 25) rfl))) (mvT hZ (hw _ (List.mem_of_getElem? (i := 26) rfl))) (notFace_of_selects (args := #[]) (mvT hZ (hw _ (List.mem_of_getElem? (i := 28) rfl)))) (mvT hZ (hw _ (List.mem_of_getElem? (i := 28) rfl))) (mvT hZ (hw _ (List.mem_of_getElem? (i := 27) rfl))) (by decide) (backOf (W := 0) (rm_isc l Z a0 hw [] w_B h83 n0 (Nat.le_trans Z0 EX83.1) w_S w_N w_B w_BOOL w_NULL w_M w_L w_SS w_NS w_BS (hWd.ext EX83) (1 : Int32) (by simp [(F_B_ordinal.ne F_S_ordinal (by decide)), (F_B_ordinal.ne F_N_ordinal (by decide))])) hZ (hw _ (List.mem_of_getElem? (i := 29) rfl)) (hw _ (List.mem_of_getElem? (i := 3) rfl)) (by decide) (by decide)) q100a q100c (g := (mkF m 95 #[.val (.int p0), .val (.ref b53), .val (.int (2 : Int32)), .val (.ref w_B), .val (.int (1 : Int32)), .unset] [(.ref w_B)])) rfl (by rw [hml]; rfl) (Steps.refl _) (argsL := []) (rest := []) (lenOf pd_29 rfl) rfl (by show 2 * 0 + _ ≤ _; exact Nat.le_of_eq rfl) (hb hby at_95) (fun _ _ => ⟨rfl, e83, (by decide : 1 + 0 ≤ _), (by decide : 10 + 0 ≤ _)⟩)
    dsimp only [Pt.U, Pt.locs, Pt.cells, Pt.slots] at X100 l100 y100 z100 st100 hQ100
    subst l100 y100 z100
    obtain ⟨rfl, N100q, e100⟩ := hQ100
    have N100 := Fr.app N83 N100q
    obtain ⟨fs, hr, hrun, hended, hW, hsame⟩ := X100.leave (v := some (.int (1 : Int32))) (fun h => by rw [Bd.returns] at h; cases h)
    refine ⟨_, _, ck84 _ ?_, hrun, hended, _, _, rfl, ?_, ⟨_, rfl⟩, hW, hsame.mono (by decide) (by decide)⟩
    · show Steps p.tables e below (T83.setTop (mkF m 77 #[.val (.int p0), .val (.ref b53), .unset, .unset, .unset, .unset] [(.int ((p0 &&& (2147483647 : Int32)) % (10 : Int32)))])) _
      rw [hv87]
      show Steps p.tables e below (T83.setTop (mkF m 77 #[.val (.int p0), .val (.ref b53), .unset, .unset, .unset, .unset] [(.int (2 : Int32))])) _
      refine XS.istoreN X83.here hx rfl (hb hby at_77) rfl (l' := #[.val (.int p0), .val (.ref b53), .val (.int (2 : Int32)), .unset, .unset, .unset]) rfl ?_
      show Steps p.tables e below (T83.setTop (mkF m 78 #[.val (.int p0), .val (.ref b53), .val (.int (2 : Int32)), .unset, .unset, .unset] [])) _
      refine XS.aloadN X83.here hx rfl (hb hby at_78) rfl rfl ?_
      show Steps p.tables e below (T83.setTop (mkF m 79 #[.val (.int p0), .val (.ref b53), .val (.int (2 : Int32)), .unset, .unset, .unset] [(.ref b53)])) _
      refine XS.iloadN X83.here hx rfl (hb hby at_79) rfl ?_
      show Steps p.tables e below (T83.setTop (mkF m 80 #[.val (.int p0), .val (.ref b53), .val (.int (2 : Int32)), .unset, .unset, .unset] [(.int (2 : Int32)), (.ref b53)])) _
      refine X83.aaload hx (j := (2 : Int32)) (v := (.ref w_B)) (by rw [e83]; exact Ar99.1) (State.isArrayOf_alike hZ.alike Ar99.2.1) rfl Ar99.2.2 hin99 hat99 (g := (mkF m 80 #[.val (.int p0), .val (.ref b53), .val (.int (2 : Int32)), .unset, .unset, .unset] [(.int (2 : Int32)), (.ref b53)])) rfl rfl (hb hby at_80) _ ?_
      show Steps p.tables e below (T83.setTop (mkF m 81 #[.val (.int p0), .val (.ref b53), .val (.int (2 : Int32)), .unset, .unset, .unset] [(.ref w_B)])) _
      refine XS.astoreN X83.here hx rfl (hb hby at_81) rfl rfl (l' := #[.val (.int p0), .val (.ref b53), .val (.int (2 : Int32)), .val (.ref w_B), .unset, .unset]) rfl ?_
      show Steps p.tables e below (T83.setTop (mkF m 82 #[.val (.int p0), .val (.ref b53), .val (.int (2 : Int32)), .val (.ref w_B), .unset, .unset] [])) _
      refine XS.iloadN X83.here hx rfl (hb hby at_82) rfl ?_
      show Steps p.tables e below (T83.setTop (mkF m 83 #[.val (.int p0), .val (.ref b53), .val (.int (2 : Int32)), .val (.ref w_B), .unset, .unset] [(.int (2 : Int32))])) _
      refine XS.iconst X83.here hx rfl (hb hby at_83) ?_
      show Steps p.tables e below (T83.setTop (mkF m 84 #[.val (.int p0), .val (.ref b53), .val (.int (2 : Int32)), .val (.ref w_B), .unset, .unset] [(.int (3 : Int32)), (.int (2 : Int32))])) _
      refine XS.icmpNo X83.here hx rfl (hb hby at_84) rfl (tlt (by decide : (2 : Int32) < (3 : Int32))).2.1 ?_
      show Steps p.tables e below (T83.setTop (mkF m 87 #[.val (.int p0), .val (.ref b53), .val (.int (2 : Int32)), .val (.ref w_B), .unset, .unset] [])) _
      refine XS.iconst X83.here hx rfl (hb hby at_87) ?_
      show Steps p.tables e below (T83.setTop (mkF m 88 #[.val (.int p0), .val (.ref b53), .val (.int (2 : Int32)), .val (.ref w_B), .unset, .unset] [(.int (1 : Int32))])) _
      refine XS.goto X83.here hx rfl (pc0 := 88) (pc' := 92) rfl (hb hby at_88) (by decide) (by decide) ?_
      show Steps p.tables e below (T83.setTop (mkF m 92 #[.val (.int p0), .val (.ref b53), .val (.int (2 : Int32)), .val (.ref w_B), .unset, .unset] [(.int (1 : Int32))])) _
      refine XS.istore X83.here hx rfl (hb hby at_92) rfl (l' := #[.val (.int p0), .val (.ref b53), .val (.int (2 : Int32)), .val (.ref w_B), .val (.int (1 : Int32)), .unset]) rfl ?_
      show Steps p.tables e below (T83.setTop (mkF m 94 #[.val (.int p0), .val (.ref b53), .val (.int (2 : Int32)), .val (.ref w_B), .val (.int (1 : Int32)), .unset] [])) _
      refine XS.aloadN X83.here hx rfl (hb hby at_94) rfl rfl ?_
      show Steps p.tables e below (T83.setTop (mkF m 95 #[.val (.int p0), .val (.ref b53), .val (.int (2 : Int32)), .val (.ref w_B), .val (.int (1 : Int32)), .unset] [(.ref w_B)])) _
      refine st100.trans ?_
      show Steps p.tables e below (T100.setTop (mkF m 98 #[.val (.int p0), .val (.ref b53), .val (.int (2 : Int32)), .val (.ref w_B), .val (.int (1 : Int32)), .unset] [(.int (1 : Int32))])) _
      refine XS.iload X100.here hx rfl (hb hby at_98) rfl ?_
      show Steps p.tables e below (T100.setTop (mkF m 100 #[.val (.int p0), .val (.ref b53), .val (.int (2 : Int32)), .val (.ref w_B), .val (.int (1 : Int32)), .unset] [(.int (1 : Int32)), (.int (1 : Int32))])) _
      refine XS.icmpYes X100.here hx rfl (pc0 := 100) (pc' := 105) rfl (hb hby at_100) rfl (teq (by decide : (1 : Int32) = (1 : Int32))).1 (by decide) (by decide) ?_
      show Steps p.tables e below (T100.setTop (mkF m 105 #[.val (.int p0), .val (.ref b53), .val (.int (2 : Int32)), .val (.ref w_B), .val (.int (1 : Int32)), .unset] [])) _
      refine XS.iloadN X100.here hx rfl (hb hby at_105) rfl ?_
      show Steps p.tables e below (T100.setTop (mkF m 106 #[.val (.int p0), .val (.ref b53), .val (.int (2 : Int32)), .val (.ref w_B), .val (.int (1 : Int32)), .unset] [(.int (2 : Int32))])) _
      refine XS.bipush X100.here hx rfl (hb hby at_106) ?_
      show Steps p.tables e below (T100.setTop (mkF m 108 #[.val (.int p0), .val (.ref b53), .val (.int (2 : Int32)), .val (.ref w_B), .val (.int (1 : Int32)), .unset] [(.int (7 : Int32)), (.int (2 : Int32))])) _
      refine XS.icmpYes X100.here hx rfl (pc0 := 108) (pc' := 127) rfl (hb hby at_108) rfl (tlt (by decide : (2 : Int32) < (7 : Int32))).1 (by decide) (by decide) ?_
      show Steps p.tables e below (T100.setTop (mkF m 127 #[.val (.int p0), .val (.ref b53), .val (.int (2 : Int32)), .val (.ref w_B), .val (.int (1 : Int32)), .unset] [])) _
      refine XS.iconst X100.here hx rfl (hb hby at_127) ?_
      show Steps p.tables e below (T100.setTop (mkF m 128 #[.val (.int p0), .val (.ref b53), .val (.int (2 : Int32)), .val (.ref w_B), .val (.int (1 : Int32)), .unset] [(.int (1 : Int32))])) _
      exact retN X100 hx (t := .boolean) Bd.returns (by simp) (hb hby at_128) hr
    · show own_Made (some (.int 1)) n0 _ T100.heap _
      rw [e100]
      exact ⟨rfl, N100, trivial⟩
  · -- (3 : Int32)
    obtain ⟨cl101, Ar101, q101, S101, N101_, H101_, G101⟩ := V83
    have hin101 : ¬ ((3 : Int32) < 0 ∨ cl101.slots.size ≤ ((3 : Int32)).toNatClampNeg) := inb_of S101 ⟨by decide, by decide⟩
    have hat101 : cl101.slots[((3 : Int32)).toNatClampNeg]? = some (.ref w_BOOL) := Has.at H101_ hin101 rfl
    obtain ⟨cq102, kq102, q102a, q102b, q102c⟩ := isOf hZ e83 ((E_BOOL.ext EX83))
    obtain ⟨_, _, ⟨T102, L102, k102, n102⟩, -, X102, ⟨Lc102, hQ102, l102, y102, z102⟩, st102⟩ := X83.virtualBack hx (y := (⟨"com/example/ovenbird/ovenbird/model/AttributeType", "isScalar", "()Z"⟩ : MethodName)) (z := (⟨"com/example/ovenbird/ovenbird/model/AttributeType", "isScalar", "()Z"⟩ : MethodName)) hown (mvT hZ (hw _ (List.mem_of_getElem? (i := 25) rfl))) (mvT hZ (hw _ (List.mem_of_getElem? (i := 26) rfl))) (notFace_of_selects (args := #[]) (mvT hZ (hw _ (List.mem_of_getElem? (i := 28) rfl)))) (mvT hZ (hw _ (List.mem_of_getElem? (i := 28) rfl))) (mvT hZ (hw _ (List.mem_of_getElem? (i := 27) rfl))) (by decide) (backOf (W := 0) (rm_isc l Z a0 hw [] w_BOOL h83 n0 (Nat.le_trans Z0 EX83.1) w_S w_N w_B w_BOOL w_NULL w_M w_L w_SS w_NS w_BS (hWd.ext EX83) (0 : Int32) (by simp [(F_BOOL_ordinal.ne F_S_ordinal (by decide)), (F_BOOL_ordinal.ne F_N_ordinal (by decide)), (F_BOOL_ordinal.ne F_B_ordinal (by decide))])) hZ (hw _ (List.mem_of_getElem? (i := 29) rfl)) (hw _ (List.mem_of_getElem? (i := 3) rfl)) (by decide) (by decide)) q102a q102c (g := (mkF m 95 #[.val (.int p0), .val (.ref b53), .val (.int (3 : Int32)), .val (.ref w_BOOL), .val (.int (0 : Int32)), .unset] [(.ref w_BOOL)])) rfl (by rw [hml]; rfl) (Steps.refl _) (argsL := []) (rest := []) (lenOf pd_29 rfl) rfl (by show 2 * 0 + _ ≤ _; exact Nat.le_of_eq rfl) (hb hby at_95) (fun _ _ => ⟨rfl, e83, (by decide : 1 + 0 ≤ _), (by decide : 10 + 0 ≤ _)⟩)
    dsimp only [Pt.U, Pt.locs, Pt.cells, Pt.slots] at X102 l102 y102 z102 st102 hQ102
    subst l102 y102 z102
    obtain ⟨rfl, N102q, e102⟩ := hQ102
    have N102 := Fr.app N83 N102q
    obtain ⟨fs, hr, hrun, hended, hW, hsame⟩ := X102.leave (v := some (.int (1 : Int32))) (fun h => by rw [Bd.returns] at h; cases h)
    refine ⟨_, _, ck84 _ ?_, hrun, hended, _, _, rfl, ?_, ⟨_, rfl⟩, hW, hsame.mono (by decide) (by decide)⟩
    · show Steps p.tables e below (T83.setTop (mkF m 77 #[.val (.int p0), .val (.ref b53), .unset, .unset, .unset, .unset] [(.int ((p0 &&& (2147483647 : Int32)) % (10 : Int32)))])) _
      rw [hv88]
      show Steps p.tables e below (T83.setTop (mkF m 77 #[.val (.int p0), .val (.ref b53), .unset, .unset, .unset, .unset] [(.int (3 : Int32))])) _
      refine XS.istoreN X83.here hx rfl (hb hby at_77) rfl (l' := #[.val (.int p0), .val (.ref b53), .val (.int (3 : Int32)), .unset, .unset, .unset]) rfl ?_
      show Steps p.tables e below (T83.setTop (mkF m 78 #[.val (.int p0), .val (.ref b53), .val (.int (3 : Int32)), .unset, .unset, .unset] [])) _
      refine XS.aloadN X83.here hx rfl (hb hby at_78) rfl rfl ?_
      show Steps p.tables e below (T83.setTop (mkF m 79 #[.val (.int p0), .val (.ref b53), .val (.int (3 : Int32)), .unset, .unset, .unset] [(.ref b53)])) _
      refine XS.iloadN X83.here hx rfl (hb hby at_79) rfl ?_
      show Steps p.tables e below (T83.setTop (mkF m 80 #[.val (.int p0), .val (.ref b53), .val (.int (3 : Int32)), .unset, .unset, .unset] [(.int (3 : Int32)), (.ref b53)])) _
      refine X83.aaload hx (j := (3 : Int32)) (v := (.ref w_BOOL)) (by rw [e83]; exact Ar101.1) (State.isArrayOf_alike hZ.alike Ar101.2.1) rfl Ar101.2.2 hin101 hat101 (g := (mkF m 80 #[.val (.int p0), .val (.ref b53), .val (.int (3 : Int32)), .unset, .unset, .unset] [(.int (3 : Int32)), (.ref b53)])) rfl rfl (hb hby at_80) _ ?_
      show Steps p.tables e below (T83.setTop (mkF m 81 #[.val (.int p0), .val (.ref b53), .val (.int (3 : Int32)), .unset, .unset, .unset] [(.ref w_BOOL)])) _
      refine XS.astoreN X83.here hx rfl (hb hby at_81) rfl rfl (l' := #[.val (.int p0), .val (.ref b53), .val (.int (3 : Int32)), .val (.ref w_BOOL), .unset, .unset]) rfl ?_
      show Steps p.tables e below (T83.setTop (mkF m 82 #[.val (.int p0), .val (.ref b53), .val (.int (3 : Int32)), .val (.ref w_BOOL), .unset, .unset] [])) _
      refine XS.iloadN X83.here hx rfl (hb hby at_82) rfl ?_
      show Steps p.tables e below (T83.setTop (mkF m 83 #[.val (.int p0), .val (.ref b53), .val (.int (3 : Int32)), .val (.ref w_BOOL), .unset, .unset] [(.int (3 : Int32))])) _
      refine XS.iconst X83.here hx rfl (hb hby at_83) ?_
      show Steps p.tables e below (T83.setTop (mkF m 84 #[.val (.int p0), .val (.ref b53), .val (.int (3 : Int32)), .val (.ref w_BOOL), .unset, .unset] [(.int (3 : Int32)), (.int (3 : Int32))])) _
      refine XS.icmpYes X83.here hx rfl (pc0 := 84) (pc' := 91) rfl (hb hby at_84) rfl (flt (by decide : ¬ ((3 : Int32) < (3 : Int32)))).2.1 (by decide) (by decide) ?_
      show Steps p.tables e below (T83.setTop (mkF m 91 #[.val (.int p0), .val (.ref b53), .val (.int (3 : Int32)), .val (.ref w_BOOL), .unset, .unset] [])) _
      refine XS.iconst X83.here hx rfl (hb hby at_91) ?_
      show Steps p.tables e below (T83.setTop (mkF m 92 #[.val (.int p0), .val (.ref b53), .val (.int (3 : Int32)), .val (.ref w_BOOL), .unset, .unset] [(.int (0 : Int32))])) _
      refine XS.istore X83.here hx rfl (hb hby at_92) rfl (l' := #[.val (.int p0), .val (.ref b53), .val (.int (3 : Int32)), .val (.ref w_BOOL), .val (.int (0 : Int32)), .unset]) rfl ?_
      show Steps p.tables e below (T83.setTop (mkF m 94 #[.val (.int p0), .val (.ref b53), .val (.int (3 : Int32)), .val (.ref w_BOOL), .val (.int (0 : Int32)), .unset] [])) _
      refine XS.aloadN X83.here hx rfl (hb hby at_94) rfl rfl ?_
      show Steps p.tables e below (T83.setTop (mkF m 95 #[.val (.int p0), .val (.ref b53), .val (.int (3 : Int32)), .val (.ref w_BOOL), .val (.int (0 : Int32)), .unset] [(.ref w_BOOL)])) _
      refine st102.trans ?_
      show Steps p.tables e below (T102.setTop (mkF m 98 #[.val (.int p0), .val (.ref b53), .val (.int (3 : Int32)), .val (.ref w_BOOL), .val (.int (0 : Int32)), .unset] [(.int (0 : Int32))])) _
      refine XS.iload X102.here hx rfl (hb hby at_98) rfl ?_
      show Steps p.tables e below (T102.setTop (mkF m 100 #[.val (.int p0), .val (.ref b53), .val (.int (3 : Int32)), .val (.ref w_BOOL), .val (.int (0 : Int32)), .unset] [(.int (0 : Int32)), (.int (0 : Int32))])) _
      refine XS.icmpYes X102.here hx rfl (pc0 := 100) (pc' := 105) rfl (hb hby at_100) rfl (teq (by decide : (0 : Int32) = (0 : Int32))).1 (by decide) (by decide) ?_
      show Steps p.tables e below (T102.setTop (mkF m 105 #[.val (.int p0), .val (.ref b53), .val (.int (3 : Int32)), .val (.ref w_BOOL), .val (.int (0 : Int32)), .unset] [])) _
      refine XS.iloadN X102.here hx rfl (hb hby at_105) rfl ?_
      show Steps p.tables e below (T102.setTop (mkF m 106 #[.val (.int p0), .val (.ref b53), .val (.int (3 : Int32)), .val (.ref w_BOOL), .val (.int (0 : Int32)), .unset] [(.int (3 : Int32))])) _
      refine XS.bipush X102.here hx rfl (hb hby at_106) ?_
      show Steps p.tables e below (T102.setTop (mkF m 108 #[.val (.int p0), .val (.ref b53), .val (.int (3 : Int32)), .val (.ref w_BOOL), .val (.int (0 : Int32)), .unset] [(.int (7 : Int32)), (.int (3 : Int32))])) _
      refine XS.icmpYes X102.here hx rfl (pc0 := 108) (pc' := 127) rfl (hb hby at_108) rfl (tlt (by decide : (3 : Int32) < (7 : Int32))).1 (by decide) (by decide) ?_
      show Steps p.tables e below (T102.setTop (mkF m 127 #[.val (.int p0), .val (.ref b53), .val (.int (3 : Int32)), .val (.ref w_BOOL), .val (.int (0 : Int32)), .unset] [])) _
      refine XS.iconst X102.here hx rfl (hb hby at_127) ?_
      show Steps p.tables e below (T102.setTop (mkF m 128 #[.val (.int p0), .val (.ref b53), .val (.int (3 : Int32)), .val (.ref w_BOOL), .val (.int (0 : Int32)), .unset] [(.int (1 : Int32))])) _
      exact retN X102 hx (t := .boolean) Bd.returns (by simp) (hb hby at_128) hr
    · show own_Made (some (.int 1)) n0 _ T102.heap _
      rw [e102]
      exact ⟨rfl, N102, trivial⟩
  · -- (4 : Int32)
    obtain ⟨cl103, Ar103, q103, S103, N103_, H103_, G103⟩ := V83
    have hin103 : ¬ ((4 : Int32) < 0 ∨ cl103.slots.size ≤ ((4 : Int32)).toNatClampNeg) := inb_of S103 ⟨by decide, by decide⟩
    have hat103 : cl103.slots[((4 : Int32)).toNatClampNeg]? = some (.ref w_NULL) := Has.at H103_ hin103 rfl
    obtain ⟨cq104, kq104, q104a, q104b, q104c⟩ := isOf hZ e83 ((E_NULL.ext EX83))
    obtain ⟨_, _, ⟨T104, L104, k104, n104⟩, -, X104, ⟨Lc104, hQ104, l104, y104, z104⟩, st104⟩ := X83.virtualBack hx (y := (⟨"com/example/ovenbird/ovenbird/model/AttributeType", "isScalar", "()Z"⟩ : MethodName)) (z := (⟨"com/example/ovenbird/ovenbird/model/AttributeType", "isScalar", "()Z"⟩ : MethodName)) hown (mvT hZ (hw _ (List.mem_of_getElem? (i := 25) rfl))) (mvT hZ (hw _ (List.mem_of_getElem? (i := 26) rfl))) (notFace_of_selects (args := #[]) (mvT hZ (hw _ (List.mem_of_getElem? (i := 28) rfl)))) (mvT hZ (hw _ (List.mem_of_getElem? (i := 28) rfl))) (mvT hZ (hw _ (List.mem_of_getElem? (i := 27) rfl))) (by decide) (backOf (W := 0) (rm_isc l Z a0 hw [] w_NULL h83 n0 (Nat.le_trans Z0 EX83.1) w_S w_N w_B w_BOOL w_NULL w_M w_L w_SS w_NS w_BS (hWd.ext EX83) (0 : Int32) (by simp [(F_NULL_ordinal.ne F_S_ordinal (by decide)), (F_NULL_ordinal.ne F_N_ordinal (by decide)), (F_NULL_ordinal.ne F_B_ordinal (by decide))])) hZ (hw _ (List.mem_of_getElem? (i := 29) rfl)) (hw _ (List.mem_of_getElem? (i := 3) rfl)) (by decide) (by decide)) q104a q104c (g := (mkF m 95 #[.val (.int p0), .val (.ref b53), .val (.int (4 : Int32)), .val (.ref w_NULL), .val (.int (0 : Int32)), .unset] [(.ref w_NULL)])) rfl (by rw [hml]; rfl) (Steps.refl _) (argsL := []) (rest := []) (lenOf pd_29 rfl) rfl (by show 2 * 0 + _ ≤ _; exact Nat.le_of_eq rfl) (hb hby at_95) (fun _ _ => ⟨rfl, e83, (by decide : 1 + 0 ≤ _), (by decide : 10 + 0 ≤ _)⟩)
    dsimp only [Pt.U, Pt.locs, Pt.cells, Pt.slots] at X104 l104 y104 z104 st104 hQ104
    subst l104 y104 z104
    obtain ⟨rfl, N104q, e104⟩ := hQ104
    have N104 := Fr.app N83 N104q
    obtain ⟨fs, hr, hrun, hended, hW, hsame⟩ := X104.leave (v := some (.int (1 : Int32))) (fun h => by rw [Bd.returns] at h; cases h)
    refine ⟨_, _, ck84 _ ?_, hrun, hended, _, _, rfl, ?_, ⟨_, rfl⟩, hW, hsame.mono (by decide) (by decide)⟩
    · show Steps p.tables e below (T83.setTop (mkF m 77 #[.val (.int p0), .val (.ref b53), .unset, .unset, .unset, .unset] [(.int ((p0 &&& (2147483647 : Int32)) % (10 : Int32)))])) _
      rw [hv89]
      show Steps p.tables e below (T83.setTop (mkF m 77 #[.val (.int p0), .val (.ref b53), .unset, .unset, .unset, .unset] [(.int (4 : Int32))])) _
      refine XS.istoreN X83.here hx rfl (hb hby at_77) rfl (l' := #[.val (.int p0), .val (.ref b53), .val (.int (4 : Int32)), .unset, .unset, .unset]) rfl ?_
      show Steps p.tables e below (T83.setTop (mkF m 78 #[.val (.int p0), .val (.ref b53), .val (.int (4 : Int32)), .unset, .unset, .unset] [])) _
      refine XS.aloadN X83.here hx rfl (hb hby at_78) rfl rfl ?_
      show Steps p.tables e below (T83.setTop (mkF m 79 #[.val (.int p0), .val (.ref b53), .val (.int (4 : Int32)), .unset, .unset, .unset] [(.ref b53)])) _
      refine XS.iloadN X83.here hx rfl (hb hby at_79) rfl ?_
      show Steps p.tables e below (T83.setTop (mkF m 80 #[.val (.int p0), .val (.ref b53), .val (.int (4 : Int32)), .unset, .unset, .unset] [(.int (4 : Int32)), (.ref b53)])) _
      refine X83.aaload hx (j := (4 : Int32)) (v := (.ref w_NULL)) (by rw [e83]; exact Ar103.1) (State.isArrayOf_alike hZ.alike Ar103.2.1) rfl Ar103.2.2 hin103 hat103 (g := (mkF m 80 #[.val (.int p0), .val (.ref b53), .val (.int (4 : Int32)), .unset, .unset, .unset] [(.int (4 : Int32)), (.ref b53)])) rfl rfl (hb hby at_80) _ ?_
      show Steps p.tables e below (T83.setTop (mkF m 81 #[.val (.int p0), .val (.ref b53), .val (.int (4 : Int32)), .unset, .unset, .unset] [(.ref w_NULL)])) _
      refine XS.astoreN X83.here hx rfl (hb hby at_81) rfl rfl (l' := #[.val (.int p0), .val (.ref b53), .val (.int (4 : Int32)), .val (.ref w_NULL), .unset, .unset]) rfl ?_
      show Steps p.tables e below (T83.setTop (mkF m 82 #[.val (.int p0), .val (.ref b53), .val (.int (4 : Int32)), .val (.ref w_NULL), .unset, .unset] [])) _
      refine XS.iloadN X83.here hx rfl (hb hby at_82) rfl ?_
      show Steps p.tables e below (T83.setTop (mkF m 83 #[.val (.int p0), .val (.ref b53), .val (.int (4 : Int32)), .val (.ref w_NULL), .unset, .unset] [(.int (4 : Int32))])) _
      refine XS.iconst X83.here hx rfl (hb hby at_83) ?_
      show Steps p.tables e below (T83.setTop (mkF m 84 #[.val (.int p0), .val (.ref b53), .val (.int (4 : Int32)), .val (.ref w_NULL), .unset, .unset] [(.int (3 : Int32)), (.int (4 : Int32))])) _
      refine XS.icmpYes X83.here hx rfl (pc0 := 84) (pc' := 91) rfl (hb hby at_84) rfl (flt (by decide : ¬ ((4 : Int32) < (3 : Int32)))).2.1 (by decide) (by decide) ?_
      show Steps p.tables e below (T83.setTop (mkF m 91 #[.val (.int p0), .val (.ref b53), .val (.int (4 : Int32)), .val (.ref w_NULL), .unset, .unset] [])) _
      refine XS.iconst X83.here hx rfl (hb hby at_91) ?_
      show Steps p.tables e below (T83.setTop (mkF m 92 #[.val (.int p0), .val (.ref b53), .val (.int (4 : Int32)), .val (.ref w_NULL), .unset, .unset] [(.int (0 : Int32))])) _
      refine XS.istore X83.here hx rfl (hb hby at_92) rfl (l' := #[.val (.int p0), .val (.ref b53), .val (.int (4 : Int32)), .val (.ref w_NULL), .val (.int (0 : Int32)), .unset]) rfl ?_
      show Steps p.tables e below (T83.setTop (mkF m 94 #[.val (.int p0), .val (.ref b53), .val (.int (4 : Int32)), .val (.ref w_NULL), .val (.int (0 : Int32)), .unset] [])) _
      refine XS.aloadN X83.here hx rfl (hb hby at_94) rfl rfl ?_
      show Steps p.tables e below (T83.setTop (mkF m 95 #[.val (.int p0), .val (.ref b53), .val (.int (4 : Int32)), .val (.ref w_NULL), .val (.int (0 : Int32)), .unset] [(.ref w_NULL)])) _
      refine st104.trans ?_
      show Steps p.tables e below (T104.setTop (mkF m 98 #[.val (.int p0), .val (.ref b53), .val (.int (4 : Int32)), .val (.ref w_NULL), .val (.int (0 : Int32)), .unset] [(.int (0 : Int32))])) _
      refine XS.iload X104.here hx rfl (hb hby at_98) rfl ?_
      show Steps p.tables e below (T104.setTop (mkF m 100 #[.val (.int p0), .val (.ref b53), .val (.int (4 : Int32)), .val (.ref w_NULL), .val (.int (0 : Int32)), .unset] [(.int (0 : Int32)), (.int (0 : Int32))])) _
      refine XS.icmpYes X104.here hx rfl (pc0 := 100) (pc' := 105) rfl (hb hby at_100) rfl (teq (by decide : (0 : Int32) = (0 : Int32))).1 (by decide) (by decide) ?_
      show Steps p.tables e below (T104.setTop (mkF m 105 #[.val (.int p0), .val (.ref b53), .val (.int (4 : Int32)), .val (.ref w_NULL), .val (.int (0 : Int32)), .unset] [])) _
      refine XS.iloadN X104.here hx rfl (hb hby at_105) rfl ?_
      show Steps p.tables e below (T104.setTop (mkF m 106 #[.val (.int p0), .val (.ref b53), .val (.int (4 : Int32)), .val (.ref w_NULL), .val (.int (0 : Int32)), .unset] [(.int (4 : Int32))])) _
      refine XS.bipush X104.here hx rfl (hb hby at_106) ?_
      show Steps p.tables e below (T104.setTop (mkF m 108 #[.val (.int p0), .val (.ref b53), .val (.int (4 : Int32)), .val (.ref w_NULL), .val (.int (0 : Int32)), .unset] [(.int (7 : Int32)), (.int (4 : Int32))])) _
      refine XS.icmpYes X104.here hx rfl (pc0 := 108) (pc' := 127) rfl (hb hby at_108) rfl (tlt (by decide : (4 : Int32) < (7 : Int32))).1 (by decide) (by decide) ?_
      show Steps p.tables e below (T104.setTop (mkF m 127 #[.val (.int p0), .val (.ref b53), .val (.int (4 : Int32)), .val (.ref w_NULL), .val (.int (0 : Int32)), .unset] [])) _
      refine XS.iconst X104.here hx rfl (hb hby at_127) ?_
      show Steps p.tables e below (T104.setTop (mkF m 128 #[.val (.int p0), .val (.ref b53), .val (.int (4 : Int32)), .val (.ref w_NULL), .val (.int (0 : Int32)), .unset] [(.int (1 : Int32))])) _
      exact retN X104 hx (t := .boolean) Bd.returns (by simp) (hb hby at_128) hr
    · show own_Made (some (.int 1)) n0 _ T104.heap _
      rw [e104]
      exact ⟨rfl, N104, trivial⟩
  · -- (5 : Int32)
    obtain ⟨cl105, Ar105, q105, S105, N105_, H105_, G105⟩ := V83
    have hin105 : ¬ ((5 : Int32) < 0 ∨ cl105.slots.size ≤ ((5 : Int32)).toNatClampNeg) := inb_of S105 ⟨by decide, by decide⟩
    have hat105 : cl105.slots[((5 : Int32)).toNatClampNeg]? = some (.ref w_M) := Has.at H105_ hin105 rfl
    obtain ⟨cq106, kq106, q106a, q106b, q106c⟩ := isOf hZ e83 ((E_M.ext EX83))
    obtain ⟨_, _, ⟨T106, L106, k106, n106⟩, -, X106, ⟨Lc106, hQ106, l106, y106, z106⟩, st106⟩ := X83.virtualBack hx (y := (⟨"com/example/ovenbird/ovenbird/model/AttributeType", "isScalar", "()Z"⟩ : MethodName)) (z := (⟨"com/example/ovenbird/ovenbird/model/AttributeType", "isScalar", "()Z"⟩ : MethodName)) hown (mvT hZ (hw _ (List.mem_of_getElem? (i := 25) rfl))) (mvT hZ (hw _ (List.mem_of_getElem? (i := 26) rfl))) (notFace_of_selects (args := #[]) (mvT hZ (hw _ (List.mem_of_getElem? (i := 28) rfl)))) (mvT hZ (hw _ (List.mem_of_getElem? (i := 28) rfl))) (mvT hZ (hw _ (List.mem_of_getElem? (i := 27) rfl))) (by decide) (backOf (W := 0) (rm_isc l Z a0 hw [] w_M h83 n0 (Nat.le_trans Z0 EX83.1) w_S w_N w_B w_BOOL w_NULL w_M w_L w_SS w_NS w_BS (hWd.ext EX83) (0 : Int32) (by simp [(F_M_ordinal.ne F_S_ordinal (by decide)), (F_M_ordinal.ne F_N_ordinal (by decide)), (F_M_ordinal.ne F_B_ordinal (by decide))])) hZ (hw _ (List.mem_of_getElem? (i := 29) rfl)) (hw _ (List.mem_of_getElem? (i := 3) rfl)) (by decide) (by decide)) q106a q106c (g := (mkF m 95 #[.val (.int p0), .val (.ref b53), .val (.int (5 : Int32)), .val (.ref w_M), .val (.int (0 : Int32)), .unset] [(.ref w_M)])) rfl (by rw [hml]; rfl) (Steps.refl _) (argsL := []) (rest := []) (lenOf pd_29 rfl) rfl (by show 2 * 0 + _ ≤ _; exact Nat.le_of_eq rfl) (hb hby at_95) (fun _ _ => ⟨rfl, e83, (by decide : 1 + 0 ≤ _), (by decide : 10 + 0 ≤ _)⟩)
    dsimp only [Pt.U, Pt.locs, Pt.cells, Pt.slots] at X106 l106 y106 z106 st106 hQ106
    subst l106 y106 z106
    obtain ⟨rfl, N106q, e106⟩ := hQ106
    have N106 := Fr.app N83 N106q
    obtain ⟨fs, hr, hrun, hended, hW, hsame⟩ := X106.leave (v := some (.int (1 : Int32))) (fun h => by rw [Bd.returns] at h; cases h)
    refine ⟨_, _, ck84 _ ?_, hrun, hended, _, _, rfl, ?_, ⟨_, rfl⟩, hW, hsame.mono (by decide) (by decide)⟩
    · show Steps p.tables e below (T83.setTop (mkF m 77 #[.val (.int p0), .val (.ref b53), .unset, .unset, .unset, .unset] [(.int ((p0 &&& (2147483647 : Int32)) % (10 : Int32)))])) _
      rw [hv90]
      show Steps p.tables e below (T83.setTop (mkF m 77 #[.val (.int p0), .val (.ref b53), .unset, .unset, .unset, .unset] [(.int (5 : Int32))])) _
      refine XS.istoreN X83.here hx rfl (hb hby at_77) rfl (l' := #[.val (.int p0), .val (.ref b53), .val (.int (5 : Int32)), .unset, .unset, .unset]) rfl ?_
      show Steps p.tables e below (T83.setTop (mkF m 78 #[.val (.int p0), .val (.ref b53), .val (.int (5 : Int32)), .unset, .unset, .unset] [])) _
      refine XS.aloadN X83.here hx rfl (hb hby at_78) rfl rfl ?_
      show Steps p.tables e below (T83.setTop (mkF m 79 #[.val (.int p0), .val (.ref b53), .val (.int (5 : Int32)), .unset, .unset, .unset] [(.ref b53)])) _
      refine XS.iloadN X83.here hx rfl (hb hby at_79) rfl ?_
      show Steps p.tables e below (T83.setTop (mkF m 80 #[.val (.int p0), .val (.ref b53), .val (.int (5 : Int32)), .unset, .unset, .unset] [(.int (5 : Int32)), (.ref b53)])) _
      refine X83.aaload hx (j := (5 : Int32)) (v := (.ref w_M)) (by rw [e83]; exact Ar105.1) (State.isArrayOf_alike hZ.alike Ar105.2.1) rfl Ar105.2.2 hin105 hat105 (g := (mkF m 80 #[.val (.int p0), .val (.ref b53), .val (.int (5 : Int32)), .unset, .unset, .unset] [(.int (5 : Int32)), (.ref b53)])) rfl rfl (hb hby at_80) _ ?_
      show Steps p.tables e below (T83.setTop (mkF m 81 #[.val (.int p0), .val (.ref b53), .val (.int (5 : Int32)), .unset, .unset, .unset] [(.ref w_M)])) _
      refine XS.astoreN X83.here hx rfl (hb hby at_81) rfl rfl (l' := #[.val (.int p0), .val (.ref b53), .val (.int (5 : Int32)), .val (.ref w_M), .unset, .unset]) rfl ?_
      show Steps p.tables e below (T83.setTop (mkF m 82 #[.val (.int p0), .val (.ref b53), .val (.int (5 : Int32)), .val (.ref w_M), .unset, .unset] [])) _
      refine XS.iloadN X83.here hx rfl (hb hby at_82) rfl ?_
      show Steps p.tables e below (T83.setTop (mkF m 83 #[.val (.int p0), .val (.ref b53), .val (.int (5 : Int32)), .val (.ref w_M), .unset, .unset] [(.int (5 : Int32))])) _
      refine XS.iconst X83.here hx rfl (hb hby at_83) ?_
      show Steps p.tables e below (T83.setTop (mkF m 84 #[.val (.int p0), .val (.ref b53), .val (.int (5 : Int32)), .val (.ref w_M), .unset, .unset] [(.int (3 : Int32)), (.int (5 : Int32))])) _
      refine XS.icmpYes X83.here hx rfl (pc0 := 84) (pc' := 91) rfl (hb hby at_84) rfl (flt (by decide : ¬ ((5 : Int32) < (3 : Int32)))).2.1 (by decide) (by decide) ?_
      show Steps p.tables e below (T83.setTop (mkF m 91 #[.val (.int p0), .val (.ref b53), .val (.int (5 : Int32)), .val (.ref w_M), .unset, .unset] [])) _
      refine XS.iconst X83.here hx rfl (hb hby at_91) ?_
      show Steps p.tables e below (T83.setTop (mkF m 92 #[.val (.int p0), .val (.ref b53), .val (.int (5 : Int32)), .val (.ref w_M), .unset, .unset] [(.int (0 : Int32))])) _
      refine XS.istore X83.here hx rfl (hb hby at_92) rfl (l' := #[.val (.int p0), .val (.ref b53), .val (.int (5 : Int32)), .val (.ref w_M), .val (.int (0 : Int32)), .unset]) rfl ?_
      show Steps p.tables e below (T83.setTop (mkF m 94 #[.val (.int p0), .val (.ref b53), .val (.int (5 : Int32)), .val (.ref w_M), .val (.int (0 : Int32)), .unset] [])) _
      refine XS.aloadN X83.here hx rfl (hb hby at_94) rfl rfl ?_
      show Steps p.tables e below (T83.setTop (mkF m 95 #[.val (.int p0), .val (.ref b53), .val (.int (5 : Int32)), .val (.ref w_M), .val (.int (0 : Int32)), .unset] [(.ref w_M)])) _
      refine st106.trans ?_
      show Steps p.tables e below (T106.setTop (mkF m 98 #[.val (.int p0), .val (.ref b53), .val (.int (5 : Int32)), .val (.ref w_M), .val (.int (0 : Int32)), .unset] [(.int (0 : Int32))])) _
      refine XS.iload X106.here hx rfl (hb hby at_98) rfl ?_
      show Steps p.tables e below (T106.setTop (mkF m 100 #[.val (.int p0), .val (.ref b53), .val (.int (5 : Int32)), .val (.ref w_M), .val (.int (0 : Int32)), .unset] [(.int (0 : Int32)), (.int (0 : Int32))])) _
      refine XS.icmpYes X106.here hx rfl (pc0 := 100) (pc' := 105) rfl (hb hby at_100) rfl (teq (by decide : (0 : Int32) = (0 : Int32))).1 (by decide) (by decide) ?_
      show Steps p.tables e below (T106.setTop (mkF m 105 #[.val (.int p0), .val (.ref b53), .val (.int (5 : Int32)), .val (.ref w_M), .val (.int (0 : Int32)), .unset] [])) _
      refine XS.iloadN X106.here hx rfl (hb hby at_105) rfl ?_
      show Steps p.tables e below (T106.setTop (mkF m 106 #[.val (.int p0), .val (.ref b53), .val (.int (5 : Int32)), .val (.ref w_M), .val (.int (0 : Int32)), .unset] [(.int (5 : Int32))])) _
      refine XS.bipush X106.here hx rfl (hb hby at_106) ?_
      show Steps p.tables e below (T106.setTop (mkF m 108 #[.val (.int p0), .val (.ref b53), .val (.int (5 : Int32)), .val (.ref w_M), .val (.int (0 : Int32)), .unset] [(.int (7 : Int32)), (.int (5 : Int32))])) _
      refine XS.icmpYes X106.here hx rfl (pc0 := 108) (pc' := 127) rfl (hb hby at_108) rfl (tlt (by decide : (5 : Int32) < (7 : Int32))).1 (by decide) (by decide) ?_
      show Steps p.tables e below (T106.setTop (mkF m 127 #[.val (.int p0), .val (.ref b53), .val (.int (5 : Int32)), .val (.ref w_M), .val (.int (0 : Int32)), .unset] [])) _
      refine XS.iconst X106.here hx rfl (hb hby at_127) ?_
      show Steps p.tables e below (T106.setTop (mkF m 128 #[.val (.int p0), .val (.ref b53), .val (.int (5 : Int32)), .val (.ref w_M), .val (.int (0 : Int32)), .unset] [(.int (1 : Int32))])) _
      exact retN X106 hx (t := .boolean) Bd.returns (by simp) (hb hby at_128) hr
    · show own_Made (some (.int 1)) n0 _ T106.heap _
      rw [e106]
      exact ⟨rfl, N106, trivial⟩
  · -- (6 : Int32)
    obtain ⟨cl107, Ar107, q107, S107, N107_, H107_, G107⟩ := V83
    have hin107 : ¬ ((6 : Int32) < 0 ∨ cl107.slots.size ≤ ((6 : Int32)).toNatClampNeg) := inb_of S107 ⟨by decide, by decide⟩
    have hat107 : cl107.slots[((6 : Int32)).toNatClampNeg]? = some (.ref w_L) := Has.at H107_ hin107 rfl
    obtain ⟨cq108, kq108, q108a, q108b, q108c⟩ := isOf hZ e83 ((E_L.ext EX83))
    obtain ⟨_, _, ⟨T108, L108, k108, n108⟩, -, X108, ⟨Lc108, hQ108, l108, y108, z108⟩, st108⟩ := X83.virtualBack hx (y := (⟨"com/example/ovenbird/ovenbird/model/AttributeType", "isScalar", "()Z"⟩ : MethodName)) (z := (⟨"com/example/ovenbird/ovenbird/model/AttributeType", "isScalar", "()Z"⟩ : MethodName)) hown (mvT hZ (hw _ (List.mem_of_getElem? (i := 25) rfl))) (mvT hZ (hw _ (List.mem_of_getElem? (i := 26) rfl))) (notFace_of_selects (args := #[]) (mvT hZ (hw _ (List.mem_of_getElem? (i := 28) rfl)))) (mvT hZ (hw _ (List.mem_of_getElem? (i := 28) rfl))) (mvT hZ (hw _ (List.mem_of_getElem? (i := 27) rfl))) (by decide) (backOf (W := 0) (rm_isc l Z a0 hw [] w_L h83 n0 (Nat.le_trans Z0 EX83.1) w_S w_N w_B w_BOOL w_NULL w_M w_L w_SS w_NS w_BS (hWd.ext EX83) (0 : Int32) (by simp [(F_L_ordinal.ne F_S_ordinal (by decide)), (F_L_ordinal.ne F_N_ordinal (by decide)), (F_L_ordinal.ne F_B_ordinal (by decide))])) hZ (hw _ (List.mem_of_getElem? (i := 29) rfl)) (hw _ (List.mem_of_getElem? (i := 3) rfl)) (by decide) (by decide)) q108a q108c (g := (mkF m 95 #[.val (.int p0), .val (.ref b53), .val (.int (6 : Int32)), .val (.ref w_L), .val (.int (0 : Int32)), .unset] [(.ref w_L)])) rfl (by rw [hml]; rfl) (Steps.refl _) (argsL := []) (rest := []) (lenOf pd_29 rfl) rfl (by show 2 * 0 + _ ≤ _; exact Nat.le_of_eq rfl) (hb hby at_95) (fun _ _ => ⟨rfl, e83, (by decide : 1 + 0 ≤ _), (by decide : 10 + 0 ≤ _)⟩)
    dsimp only [Pt.U, Pt.locs, Pt.cells, Pt.slots] at X108 l108 y108 z108 st108 hQ108
    subst l108 y108 z108
    obtain ⟨rfl, N108q, e108⟩ := hQ108
    have N108 := Fr.app N83 N108q
    obtain ⟨fs, hr, hrun, hended, hW, hsame⟩ := X108.leave (v := some (.int (1 : Int32))) (fun h => by rw [Bd.returns] at h; cases h)
    refine ⟨_, _, ck84 _ ?_, hrun, hended, _, _, rfl, ?_, ⟨_, rfl⟩, hW, hsame.mono (by decide) (by decide)⟩
    · show Steps p.tables e below (T83.setTop (mkF m 77 #[.val (.int p0), .val (.ref b53), .unset, .unset, .unset, .unset] [(.int ((p0 &&& (2147483647 : Int32)) % (10 : Int32)))])) _
      rw [hv91]
      show Steps p.tables e below (T83.setTop (mkF m 77 #[.val (.int p0), .val (.ref b53), .unset, .unset, .unset, .unset] [(.int (6 : Int32))])) _
      refine XS.istoreN X83.here hx rfl (hb hby at_77) rfl (l' := #[.val (.int p0), .val (.ref b53), .val (.int (6 : Int32)), .unset, .unset, .unset]) rfl ?_
      show Steps p.tables e below (T83.setTop (mkF m 78 #[.val (.int p0), .val (.ref b53), .val (.int (6 : Int32)), .unset, .unset, .unset] [])) _
      refine XS.aloadN X83.here hx rfl (hb hby at_78) rfl rfl ?_
      show Steps p.tables e below (T83.setTop (mkF m 79 #[.val (.int p0), .val (.ref b53), .val (.int (6 : Int32)), .unset, .unset, .unset] [(.ref b53)])) _
      refine XS.iloadN X83.here hx rfl (hb hby at_79) rfl ?_
      show Steps p.tables e below (T83.setTop (mkF m 80 #[.val (.int p0), .val (.ref b53), .val (.int (6 : Int32)), .unset, .unset, .unset] [(.int (6 : Int32)), (.ref b53)])) _
      refine X83.aaload hx (j := (6 : Int32)) (v := (.ref w_L)) (by rw [e83]; exact Ar107.1) (State.isArrayOf_alike hZ.alike Ar107.2.1) rfl Ar107.2.2 hin107 hat107 (g := (mkF m 80 #[.val (.int p0), .val (.ref b53), .val (.int (6 : Int32)), .unset, .unset, .unset] [(.int (6 : Int32)), (.ref b53)])) rfl rfl (hb hby at_80) _ ?_
      show Steps p.tables e below (T83.setTop (mkF m 81 #[.val (.int p0), .val (.ref b53), .val (.int (6 : Int32)), .unset, .unset, .unset] [(.ref w_L)])) _
      refine XS.astoreN X83.here hx rfl (hb hby at_81) rfl rfl (l' := #[.val (.int p0), .val (.ref b53), .val (.int (6 : Int32)), .val (.ref w_L), .unset, .unset]) rfl ?_
      show Steps p.tables e below (T83.setTop (mkF m 82 #[.val (.int p0), .val (.ref b53), .val (.int (6 : Int32)), .val (.ref w_L), .unset, .unset] [])) _
      refine XS.iloadN X83.here hx rfl (hb hby at_82) rfl ?_
      show Steps p.tables e below (T83.setTop (mkF m 83 #[.val (.int p0), .val (.ref b53), .val (.int (6 : Int32)), .val (.ref w_L), .unset, .unset] [(.int (6 : Int32))])) _
      refine XS.iconst X83.here hx rfl (hb hby at_83) ?_
      show Steps p.tables e below (T83.setTop (mkF m 84 #[.val (.int p0), .val (.ref b53), .val (.int (6 : Int32)), .val (.ref w_L), .unset, .unset] [(.int (3 : Int32)), (.int (6 : Int32))])) _
      refine XS.icmpYes X83.here hx rfl (pc0 := 84) (pc' := 91) rfl (hb hby at_84) rfl (flt (by decide : ¬ ((6 : Int32) < (3 : Int32)))).2.1 (by decide) (by decide) ?_
      show Steps p.tables e below (T83.setTop (mkF m 91 #[.val (.int p0), .val (.ref b53), .val (.int (6 : Int32)), .val (.ref w_L), .unset, .unset] [])) _
      refine XS.iconst X83.here hx rfl (hb hby at_91) ?_
      show Steps p.tables e below (T83.setTop (mkF m 92 #[.val (.int p0), .val (.ref b53), .val (.int (6 : Int32)), .val (.ref w_L), .unset, .unset] [(.int (0 : Int32))])) _
      refine XS.istore X83.here hx rfl (hb hby at_92) rfl (l' := #[.val (.int p0), .val (.ref b53), .val (.int (6 : Int32)), .val (.ref w_L), .val (.int (0 : Int32)), .unset]) rfl ?_
      show Steps p.tables e below (T83.setTop (mkF m 94 #[.val (.int p0), .val (.ref b53), .val (.int (6 : Int32)), .val (.ref w_L), .val (.int (0 : Int32)), .unset] [])) _
      refine XS.aloadN X83.here hx rfl (hb hby at_94) rfl rfl ?_
      show Steps p.tables e below (T83.setTop (mkF m 95 #[.val (.int p0), .val (.ref b53), .val (.int (6 : Int32)), .val (.ref w_L), .val (.int (0 : Int32)), .unset] [(.ref w_L)])) _
      refine st108.trans ?_
      show Steps p.tables e below (T108.setTop (mkF m 98 #[.val (.int p0), .val (.ref b53), .val (.int (6 : Int32)), .val (.ref w_L), .val (.int (0 : Int32)), .unset] [(.int (0 : Int32))])) _
      refine XS.iload X108.here hx rfl (hb hby at_98) rfl ?_
      show Steps p.tables e below (T108.setTop (mkF m 100 #[.val (.int p0), .val (.ref b53), .val (.int (6 : Int32)), .val (.ref w_L), .val (.int (0 : Int32)), .unset] [(.int (0 : Int32)), (.int (0 : Int32))])) _
      refine XS.icmpYes X108.here hx rfl (pc0 := 100) (pc' := 105) rfl (hb hby at_100) rfl (teq (by decide : (0 : Int32) = (0 : Int32))).1 (by decide) (by decide) ?_
      show Steps p.tables e below (T108.setTop (mkF m 105 #[.val (.int p0), .val (.ref b53), .val (.int (6 : Int32)), .val (.ref w_L), .val (.int (0 : Int32)), .unset] [])) _
      refine XS.iloadN X108.here hx rfl (hb hby at_105) rfl ?_
      show Steps p.tables e below (T108.setTop (mkF m 106 #[.val (.int p0), .val (.ref b53), .val (.int (6 : Int32)), .val (.ref w_L), .val (.int (0 : Int32)), .unset] [(.int (6 : Int32))])) _
      refine XS.bipush X108.here hx rfl (hb hby at_106) ?_
      show Steps p.tables e below (T108.setTop (mkF m 108 #[.val (.int p0), .val (.ref b53), .val (.int (6 : Int32)), .val (.ref w_L), .val (.int (0 : Int32)), .unset] [(.int (7 : Int32)), (.int (6 : Int32))])) _
      refine XS.icmpYes X108.here hx rfl (pc0 := 108) (pc' := 127) rfl (hb hby at_108) rfl (tlt (by decide : (6 : Int32) < (7 : Int32))).1 (by decide) (by decide) ?_
      show Steps p.tables e below (T108.setTop (mkF m 127 #[.val (.int p0), .val (.ref b53), .val (.int (6 : Int32)), .val (.ref w_L), .val (.int (0 : Int32)), .unset] [])) _
      refine XS.iconst X108.here hx rfl (hb hby at_127) ?_
      show Steps p.tables e below (T108.setTop (mkF m 128 #[.val (.int p0), .val (.ref b53), .val (.int (6 : Int32)), .val (.ref w_L), .val (.int (0 : Int32)), .unset] [(.int (1 : Int32))])) _
      exact retN X108 hx (t := .boolean) Bd.returns (by simp) (hb hby at_128) hr
    · show own_Made (some (.int 1)) n0 _ T108.heap _
      rw [e108]
      exact ⟨rfl, N108, trivial⟩
  · -- (7 : Int32)
    obtain ⟨cl109, Ar109, q109, S109, N109_, H109_, G109⟩ := V83
    have hin109 : ¬ ((7 : Int32) < 0 ∨ cl109.slots.size ≤ ((7 : Int32)).toNatClampNeg) := inb_of S109 ⟨by decide, by decide⟩
    have hat109 : cl109.slots[((7 : Int32)).toNatClampNeg]? = some (.ref w_SS) := Has.at H109_ hin109 rfl
    obtain ⟨cq110, kq110, q110a, q110b, q110c⟩ := isOf hZ e83 ((E_SS.ext EX83))
    obtain ⟨_, _, ⟨T110, L110, k110, n110⟩, -, X110, ⟨Lc110, hQ110, l110, y110, z110⟩, st110⟩ := X83.virtualBack hx (y := (⟨"com/example/ovenbird/ovenbird/model/AttributeType", "isScalar", "()Z"⟩ : MethodName)) (z := (⟨"com/example/ovenbird/ovenbird/model/AttributeType", "isScalar", "()Z"⟩ : MethodName)) hown (mvT hZ (hw _ (List.mem_of_getElem? (i := 25) rfl))) (mvT hZ (hw _ (List.mem_of_getElem? (i := 26) rfl))) (notFace_of_selects (args := #[]) (mvT hZ (hw _ (List.mem_of_getElem? (i := 28) rfl)))) (mvT hZ (hw _ (List.mem_of_getElem? (i := 28) rfl))) (mvT hZ (hw _ (List.mem_of_getElem? (i := 27) rfl))) (by decide) (backOf (W := 0) (rm_isc l Z a0 hw [] w_SS h83 n0 (Nat.le_trans Z0 EX83.1) w_S w_N w_B w_BOOL w_NULL w_M w_L w_SS w_NS w_BS (hWd.ext EX83) (0 : Int32) (by simp [(F_SS_ordinal.ne F_S_ordinal (by decide)), (F_SS_ordinal.ne F_N_ordinal (by decide)), (F_SS_ordinal.ne F_B_ordinal (by decide))])) hZ (hw _ (List.mem_of_getElem? (i := 29) rfl)) (hw _ (List.mem_of_getElem? (i := 3) rfl)) (by decide) (by decide)) q110a q110c (g := (mkF m 95 #[.val (.int p0), .val (.ref b53), .val (.int (7 : Int32)), .val (.ref w_SS), .val (.int (0 : Int32)), .unset] [(.ref w_SS)])) rfl (by rw [hml]; rfl) (Steps.refl _) (argsL := []) (rest := []) (lenOf pd_29 rfl) rfl (by show 2 * 0 + _ ≤ _; exact Nat.le_of_eq rfl) (hb hby at_95) (fun _ _ => ⟨rfl, e83, (by decide : 1 + 0 ≤ _), (by decide : 10 + 0 ≤ _)⟩)
    dsimp only [Pt.U, Pt.locs, Pt.cells, Pt.slots] at X110 l110 y110 z110 st110 hQ110
    subst l110 y110 z110
    obtain ⟨rfl, N110q, e110⟩ := hQ110
    have N110 := Fr.app N83 N110q
    obtain ⟨cq111, kq111, q111a, q111b, q111c⟩ := isOf hZ e110 ((E_SS.ext EX83))
    obtain ⟨_, _, ⟨T111, L111, k111, n111⟩, -, X111, ⟨Lc111, hQ111, l111, y111, z111⟩, st111⟩ := X110.virtualBack hx (y := (⟨"com/example/ovenbird/ovenbird/model/AttributeType", "elementType", "()Lcom/example/ovenbird/ovenbird/model/AttributeType;"⟩ : MethodName)) (z := (⟨"com/example/ovenbird/ovenbird/model/AttributeType", "elementType", "()Lcom/example/ovenbird/ovenbird/model/AttributeType;"⟩ : MethodName)) hown (mvT hZ (hw _ (List.mem_of_getElem? (i := 33) rfl))) (mvT hZ (hw _ (List.mem_of_getElem? (i := 34) rfl))) (notFace_of_selects (args := #[]) (mvT hZ (hw _ (List.mem_of_getElem? (i := 36) rfl)))) (mvT hZ (hw _ (List.mem_of_getElem? (i := 36) rfl))) (mvT hZ (hw _ (List.mem_of_getElem? (i := 35) rfl))) (by decide) (backOf (W := 0) (rm_el_SS l Z a0 hw [] w_SS h83 n0 (Nat.le_trans Z0 EX83.1) w_S w_N w_B w_BOOL w_NULL w_M w_L w_NS w_BS (hWd.ext EX83)) hZ (hw _ (List.mem_of_getElem? (i := 37) rfl)) (hw _ (List.mem_of_getElem? (i := 3) rfl)) (by decide) (by decide)) q111a q111c (g := (mkF m 112 #[.val (.int p0), .val (.ref b53), .val (.int (7 : Int32)), .val (.ref w_SS), .val (.int (0 : Int32)), .unset] [(.ref w_SS)])) rfl (by rw [hml]; rfl) (Steps.refl _) (argsL := []) (rest := []) (lenOf pd_30 rfl) rfl (by show 2 * 0 + _ ≤ _; exact Nat.le_of_eq rfl) (hb hby at_112) (fun _ _ => ⟨rfl, e110, (by decide : 1 + 0 ≤ _), (by decide : 10 + 0 ≤ _)⟩)
    dsimp only [Pt.U, Pt.locs, Pt.cells, Pt.slots] at X111 l111 y111 z111 st111 hQ111
    subst l111 y111 z111
    obtain ⟨rfl, N111q, e111⟩ := hQ111
    have N111 := Fr.app N110 N111q
    obtain ⟨cq112, kq112, q112a, q112b, q112c⟩ := isOf hZ e111 ((E_S.ext EX83))
    obtain ⟨_, _, ⟨T112, L112, k112, n112⟩, -, X112, ⟨Lc112, hQ112, l112, y112, z112⟩, st112⟩ := X111.virtualBack hx (y := (⟨"com/example/ovenbird/ovenbird/model/AttributeType", "isScalar", "()Z"⟩ : MethodName)) (z := (⟨"com/example/ovenbird/ovenbird/model/AttributeType", "isScalar", "()Z"⟩ : MethodName)) hown (mvT hZ (hw _ (List.mem_of_getElem? (i := 25) rfl))) (mvT hZ (hw _ (List.mem_of_getElem? (i := 26) rfl))) (notFace_of_selects (args := #[]) (mvT hZ (hw _ (List.mem_of_getElem? (i := 28) rfl)))) (mvT hZ (hw _ (List.mem_of_getElem? (i := 28) rfl))) (mvT hZ (hw _ (List.mem_of_getElem? (i := 27) rfl))) (by decide) (backOf (W := 0) (rm_isc l Z a0 hw [] w_S h83 n0 (Nat.le_trans Z0 EX83.1) w_S w_N w_B w_BOOL w_NULL w_M w_L w_SS w_NS w_BS (hWd.ext EX83) (1 : Int32) (by simp [(F_S_ordinal.ne F_N_ordinal (by decide)), (F_S_ordinal.ne F_B_ordinal (by decide))])) hZ (hw _ (List.mem_of_getElem? (i := 29) rfl)) (hw _ (List.mem_of_getElem? (i := 3) rfl)) (by decide) (by decide)) q112a q112c (g := (mkF m 119 #[.val (.int p0), .val (.ref b53), .val (.int (7 : Int32)), .val (.ref w_SS), .val (.int (0 : Int32)), .val (.ref w_S)] [(.ref w_S)])) rfl (by rw [hml]; rfl) (Steps.refl _) (argsL := []) (rest := []) (lenOf pd_29 rfl) rfl (by show 2 * 0 + _ ≤ _; exact Nat.le_of_eq rfl) (hb hby at_119) (fun _ _ => ⟨rfl, e111, (by decide : 1 + 0 ≤ _), (by decide : 10 + 0 ≤ _)⟩)
    dsimp only [Pt.U, Pt.locs, Pt.cells, Pt.slots] at X112 l112 y112 z112 st112 hQ112
    subst l112 y112 z112
    obtain ⟨rfl, N112q, e112⟩ := hQ112
    have N112 := Fr.app N111 N112q
    obtain ⟨fs, hr, hrun, hended, hW, hsame⟩ := X112.leave (v := some (.int (1 : Int32))) (fun h => by rw [Bd.returns] at h; cases h)
    refine ⟨_, _, ck84 _ ?_, hrun, hended, _, _, rfl, ?_, ⟨_, rfl⟩, hW, hsame.mono (by decide) (by decide)⟩
    · show Steps p.tables e below (T83.setTop (mkF m 77 #[.val (.int p0), .val (.ref b53), .unset, .unset, .unset, .unset] [(.int ((p0 &&& (2147483647 : Int32)) % (10 : Int32)))])) _
      rw [hv92]
      show Steps p.tables e below (T83.setTop (mkF m 77 #[.val (.int p0), .val (.ref b53), .unset, .unset, .unset, .unset] [(.int (7 : Int32))])) _
      refine XS.istoreN X83.here hx rfl (hb hby at_77) rfl (l' := #[.val (.int p0), .val (.ref b53), .val (.int (7 : Int32)), .unset, .unset, .unset]) rfl ?_
      show Steps p.tables e below (T83.setTop (mkF m 78 #[.val (.int p0), .val (.ref b53), .val (.int (7 : Int32)), .unset, .unset, .unset] [])) _
      refine XS.aloadN X83.here hx rfl (hb hby at_78) rfl rfl ?_
      show Steps p.tables e below (T83.setTop (mkF m 79 #[.val (.int p0), .val (.ref b53), .val (.int (7 : Int32)), .unset, .unset, .unset] [(.ref b53)])) _
      refine XS.iloadN X83.here hx rfl (hb hby at_79) rfl ?_
      show Steps p.tables e below (T83.setTop (mkF m 80 #[.val (.int p0), .val (.ref b53), .val (.int (7 : Int32)), .unset, .unset, .unset] [(.int (7 : Int32)), (.ref b53)])) _
      refine X83.aaload hx (j := (7 : Int32)) (v := (.ref w_SS)) (by rw [e83]; exact Ar109.1) (State.isArrayOf_alike hZ.alike Ar109.2.1) rfl Ar109.2.2 hin109 hat109 (g := (mkF m 80 #[.val (.int p0), .val (.ref b53), .val (.int (7 : Int32)), .unset, .unset, .unset] [(.int (7 : Int32)), (.ref b53)])) rfl rfl (hb hby at_80) _ ?_
      show Steps p.tables e below (T83.setTop (mkF m 81 #[.val (.int p0), .val (.ref b53), .val (.int (7 : Int32)), .unset, .unset, .unset] [(.ref w_SS)])) _
      refine XS.astoreN X83.here hx rfl (hb hby at_81) rfl rfl (l' := #[.val (.int p0), .val (.ref b53), .val (.int (7 : Int32)), .val (.ref w_SS), .unset, .unset]) rfl ?_
      show Steps p.tables e below (T83.setTop (mkF m 82 #[.val (.int p0), .val (.ref b53), .val (.int (7 : Int32)), .val (.ref w_SS), .unset, .unset] [])) _
      refine XS.iloadN X83.here hx rfl (hb hby at_82) rfl ?_
      show Steps p.tables e below (T83.setTop (mkF m 83 #[.val (.int p0), .val (.ref b53), .val (.int (7 : Int32)), .val (.ref w_SS), .unset, .unset] [(.int (7 : Int32))])) _
      refine XS.iconst X83.here hx rfl (hb hby at_83) ?_
      show Steps p.tables e below (T83.setTop (mkF m 84 #[.val (.int p0), .val (.ref b53), .val (.int (7 : Int32)), .val (.ref w_SS), .unset, .unset] [(.int (3 : Int32)), (.int (7 : Int32))])) _
      refine XS.icmpYes X83.here hx rfl (pc0 := 84) (pc' := 91) rfl (hb hby at_84) rfl (flt (by decide : ¬ ((7 : Int32) < (3 : Int32)))).2.1 (by decide) (by decide) ?_
      show Steps p.tables e below (T83.setTop (mkF m 91 #[.val (.int p0), .val (.ref b53), .val (.int (7 : Int32)), .val (.ref w_SS), .unset, .unset] [])) _
      refine XS.iconst X83.here hx rfl (hb hby at_91) ?_
      show Steps p.tables e below (T83.setTop (mkF m 92 #[.val (.int p0), .val (.ref b53), .val (.int (7 : Int32)), .val (.ref w_SS), .unset, .unset] [(.int (0 : Int32))])) _
      refine XS.istore X83.here hx rfl (hb hby at_92) rfl (l' := #[.val (.int p0), .val (.ref b53), .val (.int (7 : Int32)), .val (.ref w_SS), .val (.int (0 : Int32)), .unset]) rfl ?_
      show Steps p.tables e below (T83.setTop (mkF m 94 #[.val (.int p0), .val (.ref b53), .val (.int (7 : Int32)), .val (.ref w_SS), .val (.int (0 : Int32)), .unset] [])) _
      refine XS.aloadN X83.here hx rfl (hb hby at_94) rfl rfl ?_
      show Steps p.tables e below (T83.setTop (mkF m 95 #[.val (.int p0), .val (.ref b53), .val (.int (7 : Int32)), .val (.ref w_SS), .val (.int (0 : Int32)), .unset] [(.ref w_SS)])) _
      refine st110.trans ?_
      show Steps p.tables e below (T110.setTop (mkF m 98 #[.val (.int p0), .val (.ref b53), .val (.int (7 : Int32)), .val (.ref w_SS), .val (.int (0 : Int32)), .unset] [(.int (0 : Int32))])) _
      refine XS.iload X110.here hx rfl (hb hby at_98) rfl ?_
      show Steps p.tables e below (T110.setTop (mkF m 100 #[.val (.int p0), .val (.ref b53), .val (.int (7 : Int32)), .val (.ref w_SS), .val (.int (0 : Int32)), .unset] [(.int (0 : Int32)), (.int (0 : Int32))])) _
      refine XS.icmpYes X110.here hx rfl (pc0 := 100) (pc' := 105) rfl (hb hby at_100) rfl (teq (by decide : (0 : Int32) = (0 : Int32))).1 (by decide) (by decide) ?_
      show Steps p.tables e below (T110.setTop (mkF m 105 #[.val (.int p0), .val (.ref b53), .val (.int (7 : Int32)), .val (.ref w_SS), .val (.int (0 : Int32)), .unset] [])) _
      refine XS.iloadN X110.here hx rfl (hb hby at_105) rfl ?_
      show Steps p.tables e below (T110.setTop (mkF m 106 #[.val (.int p0), .val (.ref b53), .val (.int (7 : Int32)), .val (.ref w_SS), .val (.int (0 : Int32)), .unset] [(.int (7 : Int32))])) _
      refine XS.bipush X110.here hx rfl (hb hby at_106) ?_
      show Steps p.tables e below (T110.setTop (mkF m 108 #[.val (.int p0), .val (.ref b53), .val (.int (7 : Int32)), .val (.ref w_SS), .val (.int (0 : Int32)), .unset] [(.int (7 : Int32)), (.int (7 : Int32))])) _
      refine XS.icmpNo X110.here hx rfl (hb hby at_108) rfl (flt (by decide : ¬ ((7 : Int32) < (7 : Int32)))).1 ?_
      show Steps p.tables e below (T110.setTop (mkF m 111 #[.val (.int p0), .val (.ref b53), .val (.int (7 : Int32)), .val (.ref w_SS), .val (.int (0 : Int32)), .unset] [])) _
      refine XS.aloadN X110.here hx rfl (hb hby at_111) rfl rfl ?_
      show Steps p.tables e below (T110.setTop (mkF m 112 #[.val (.int p0), .val (.ref b53), .val (.int (7 : Int32)), .val (.ref w_SS), .val (.int (0 : Int32)), .unset] [(.ref w_SS)])) _
      refine st111.trans ?_
      show Steps p.tables e below (T111.setTop (mkF m 115 #[.val (.int p0), .val (.ref b53), .val (.int (7 : Int32)), .val (.ref w_SS), .val (.int (0 : Int32)), .unset] [(.ref w_S)])) _
      refine XS.astore X111.here hx rfl (hb hby at_115) rfl rfl (l' := #[.val (.int p0), .val (.ref b53), .val (.int (7 : Int32)), .val (.ref w_SS), .val (.int (0 : Int32)), .val (.ref w_S)]) rfl ?_
      show Steps p.tables e below (T111.setTop (mkF m 117 #[.val (.int p0), .val (.ref b53), .val (.int (7 : Int32)), .val (.ref w_SS), .val (.int (0 : Int32)), .val (.ref w_S)] [])) _
      refine XS.aload X111.here hx rfl (hb hby at_117) rfl rfl ?_
      show Steps p.tables e below (T111.setTop (mkF m 119 #[.val (.int p0), .val (.ref b53), .val (.int (7 : Int32)), .val (.ref w_SS), .val (.int (0 : Int32)), .val (.ref w_S)] [(.ref w_S)])) _
      refine st112.trans ?_
      show Steps p.tables e below (T112.setTop (mkF m 122 #[.val (.int p0), .val (.ref b53), .val (.int (7 : Int32)), .val (.ref w_SS), .val (.int (0 : Int32)), .val (.ref w_S)] [(.int (1 : Int32))])) _
      refine XS.ifYes X112.here hx rfl (pc0 := 122) (pc' := 127) rfl (hb hby at_122) rfl ((if0 _ _).trans (feq (by decide : ¬ ((1 : Int32) = (0 : Int32)))).2) (by decide) (by decide) ?_
      show Steps p.tables e below (T112.setTop (mkF m 127 #[.val (.int p0), .val (.ref b53), .val (.int (7 : Int32)), .val (.ref w_SS), .val (.int (0 : Int32)), .val (.ref w_S)] [])) _
      refine XS.iconst X112.here hx rfl (hb hby at_127) ?_
      show Steps p.tables e below (T112.setTop (mkF m 128 #[.val (.int p0), .val (.ref b53), .val (.int (7 : Int32)), .val (.ref w_SS), .val (.int (0 : Int32)), .val (.ref w_S)] [(.int (1 : Int32))])) _
      exact retN X112 hx (t := .boolean) Bd.returns (by simp) (hb hby at_128) hr
    · show own_Made (some (.int 1)) n0 _ T112.heap _
      rw [e112]
      exact ⟨rfl, N112, trivial⟩
  · -- (8 : Int32)
    obtain ⟨cl113, Ar113, q113, S113, N113_, H113_, G113⟩ := V83
    have hin113 : ¬ ((8 : Int32) < 0 ∨ cl113.slots.size ≤ ((8 : Int32)).toNatClampNeg) := inb_of S113 ⟨by decide, by decide⟩
    have hat113 : cl113.slots[((8 : Int32)).toNatClampNeg]? = some (.ref w_NS) := Has.at H113_ hin113 rfl
    obtain ⟨cq114, kq114, q114a, q114b, q114c⟩ := isOf hZ e83 ((E_NS.ext EX83))
    obtain ⟨_, _, ⟨T114, L114, k114, n114⟩, -, X114, ⟨Lc114, hQ114, l114, y114, z114⟩, st114⟩ := X83.virtualBack hx (y := (⟨"com/example/ovenbird/ovenbird/model/AttributeType", "isScalar", "()Z"⟩ : MethodName)) (z := (⟨"com/example/ovenbird/ovenbird/model/AttributeType", "isScalar", "()Z"⟩ : MethodName)) hown (mvT hZ (hw _ (List.mem_of_getElem? (i := 25) rfl))) (mvT hZ (hw _ (List.mem_of_getElem? (i := 26) rfl))) (notFace_of_selects (args := #[]) (mvT hZ (hw _ (List.mem_of_getElem? (i := 28) rfl)))) (mvT hZ (hw _ (List.mem_of_getElem? (i := 28) rfl))) (mvT hZ (hw _ (List.mem_of_getElem? (i := 27) rfl))) (by decide) (backOf (W := 0) (rm_isc l Z a0 hw [] w_NS h83 n0 (Nat.le_trans Z0 EX83.1) w_S w_N w_B w_BOOL w_NULL w_M w_L w_SS w_NS w_BS (hWd.ext EX83) (0 : Int32) (by simp [(F_NS_ordinal.ne F_S_ordinal (by decide)), (F_NS_ordinal.ne F_N_ordinal (by decide)), (F_NS_ordinal.ne F_B_ordinal (by decide))])) hZ (hw _ (List.mem_of_getElem? (i := 29) rfl)) (hw _ (List.mem_of_getElem? (i := 3) rfl)) (by decide) (by decide)) q114a q114c (g := (mkF m 95 #[.val (.int p0), .val (.ref b53), .val (.int (8 : Int32)), .val (.ref w_NS), .val (.int (0 : Int32)), .unset] [(.ref w_NS)])) rfl (by rw [hml]; rfl) (Steps.refl _) (argsL := []) (rest := []) (lenOf pd_29 rfl) rfl (by show 2 * 0 + _ ≤ _; exact Nat.le_of_eq rfl) (hb hby at_95) (fun _ _ => ⟨rfl, e83, (by decide : 1 + 0 ≤ _), (by decide : 10 + 0 ≤ _)⟩)
    dsimp only [Pt.U, Pt.locs, Pt.cells, Pt.slots] at X114 l114 y114 z114 st114 hQ114
    subst l114 y114 z114
    obtain ⟨rfl, N114q, e114⟩ := hQ114
    have N114 := Fr.app N83 N114q
    obtain ⟨cq115, kq115, q115a, q115b, q115c⟩ := isOf hZ e114 ((E_NS.ext EX83))
    obtain ⟨_, _, ⟨T115, L115, k115, n115⟩, -, X115, ⟨Lc115, hQ115, l115, y115, z115⟩, st115⟩ := X114.virtualBack hx (y := (⟨"com/example/ovenbird/ovenbird/model/AttributeType", "elementType", "()Lcom/example/ovenbird/ovenbird/model/AttributeType;"⟩ : MethodName)) (z := (⟨"com/example/ovenbird/ovenbird/model/AttributeType", "elementType", "()Lcom/example/ovenbird/ovenbird/model/AttributeType;"⟩ : MethodName)) hown (mvT hZ (hw _ (List.mem_of_getElem? (i := 33) rfl))) (mvT hZ (hw _ (List.mem_of_getElem? (i := 34) rfl))) (notFace_of_selects (args := #[]) (mvT hZ (hw _ (List.mem_of_getElem? (i := 36) rfl)))) (mvT hZ (hw _ (List.mem_of_getElem? (i := 36) rfl))) (mvT hZ (hw _ (List.mem_of_getElem? (i := 35) rfl))) (by decide) (backOf (W := 0) (rm_el_NS l Z a0 hw [] w_NS h83 n0 (Nat.le_trans Z0 EX83.1) w_S w_N w_B w_BOOL w_NULL w_M w_L w_SS w_BS (hWd.ext EX83)) hZ (hw _ (List.mem_of_getElem? (i := 37) rfl)) (hw _ (List.mem_of_getElem? (i := 3) rfl)) (by decide) (by decide)) q115a q115c (g := (mkF m 112 #[.val (.int p0), .val (.ref b53), .val (.int (8 : Int32)), .val (.ref w_NS), .val (.int (0 : Int32)), .unset] [(.ref w_NS)])) rfl (by rw [hml]; rfl) (Steps.refl _) (argsL := []) (rest := []) (lenOf pd_30 rfl) rfl (by show 2 * 0 + _ ≤ _; exact Nat.le_of_eq rfl) (hb hby at_112) (fun _ _ => ⟨rfl, e114, (by decide : 1 + 0 ≤ _), (by decide : 10 + 0 ≤ _)⟩)
    dsimp only [Pt.U, Pt.locs, Pt.cells, Pt.slots] at X115 l115 y115 z115 st115 hQ115
    subst l115 y115 z115
    obtain ⟨rfl, N115q, e115⟩ := hQ115
    have N115 := Fr.app N114 N115q
    obtain ⟨cq116, kq116, q116a, q116b, q116c⟩ := isOf hZ e115 ((E_N.ext EX83))
    obtain ⟨_, _, ⟨T116, L116, k116, n116⟩, -, X116, ⟨Lc116, hQ116, l116, y116, z116⟩, st116⟩ := X115.virtualBack hx (y := (⟨"com/example/ovenbird/ovenbird/model/AttributeType", "isScalar", "()Z"⟩ : MethodName)) (z := (⟨"com/example/ovenbird/ovenbird/model/AttributeType", "isScalar", "()Z"⟩ : MethodName)) hown (mvT hZ (hw _ (List.mem_of_getElem? (i := 25) rfl))) (mvT hZ (hw _ (List.mem_of_getElem? (i := 26) rfl))) (notFace_of_selects (args := #[]) (mvT hZ (hw _ (List.mem_of_getElem? (i := 28) rfl)))) (mvT hZ (hw _ (List.mem_of_getElem? (i := 28) rfl))) (mvT hZ (hw _ (List.mem_of_getElem? (i := 27) rfl))) (by decide) (backOf (W := 0) (rm_isc l Z a0 hw [] w_N h83 n0 (Nat.le_trans Z0 EX83.1) w_S w_N w_B w_BOOL w_NULL w_M w_L w_SS w_NS w_BS (hWd.ext EX83) (1 : Int32) (by simp [(F_N_ordinal.ne F_S_ordinal (by decide)), (F_N_ordinal.ne F_B_ordinal (by decide))])) hZ (hw _ (List.mem_of_getElem? (i := 29) rfl)) (hw _ (List.mem_of_getElem? (i := 3) rfl)) (by decide) (by decide)) q116a q116c (g := (mkF m 119 #[.val (.int p0), .val (.ref b53), .val (.int (8 : Int32)), .val (.ref w_NS), .val (.int (0 : Int32)), .val (.ref w_N)] [(.ref w_N)])) rfl (by rw [hml]; rfl) (Steps.refl _) (argsL := []) (rest := []) (lenOf pd_29 rfl) rfl (by show 2 * 0 + _ ≤ _; exact Nat.le_of_eq rfl) (hb hby at_119) (fun _ _ => ⟨rfl, e115, (by decide : 1 + 0 ≤ _), (by decide : 10 + 0 ≤ _)⟩)
    dsimp only [Pt.U, Pt.locs, Pt.cells, Pt.slots] at X116 l116 y116 z116 st116 hQ116
    subst l116 y116 z116
    obtain ⟨rfl, N116q, e116⟩ := hQ116
    have N116 := Fr.app N115 N116q
    obtain ⟨fs, hr, hrun, hended, hW, hsame⟩ := X116.leave (v := some (.int (1 : Int32))) (fun h => by rw [Bd.returns] at h; cases h)
    refine ⟨_, _, ck84 _ ?_, hrun, hended, _, _, rfl, ?_, ⟨_, rfl⟩, hW, hsame.mono (by decide) (by decide)⟩
    · show Steps p.tables e below (T83.setTop (mkF m 77 #[.val (.int p0), .val (.ref b53), .unset, .unset, .unset, .unset] [(.int ((p0 &&& (2147483647 : Int32)) % (10 : Int32)))])) _
      rw [hv93]
      show Steps p.tables e below (T83.setTop (mkF m 77 #[.val (.int p0), .val (.ref b53), .unset, .unset, .unset, .unset] [(.int (8 : Int32))])) _
      refine XS.istoreN X83.here hx rfl (hb hby at_77) rfl (l' := #[.val (.int p0), .val (.ref b53), .val (.int (8 : Int32)), .unset, .unset, .unset]) rfl ?_
      show Steps p.tables e below (T83.setTop (mkF m 78 #[.val (.int p0), .val (.ref b53), .val (.int (8 : Int32)), .unset, .unset, .unset] [])) _
      refine XS.aloadN X83.here hx rfl (hb hby at_78) rfl rfl ?_
      show Steps p.tables e below (T83.setTop (mkF m 79 #[.val (.int p0), .val (.ref b53), .val (.int (8 : Int32)), .unset, .unset, .unset] [(.ref b53)])) _
      refine XS.iloadN X83.here hx rfl (hb hby at_79) rfl ?_
      show Steps p.tables e below (T83.setTop (mkF m 80 #[.val (.int p0), .val (.ref b53), .val (.int (8 : Int32)), .unset, .unset, .unset] [(.int (8 : Int32)), (.ref b53)])) _
      refine X83.aaload hx (j := (8 : Int32)) (v := (.ref w_NS)) (by rw [e83]; exact Ar113.1) (State.isArrayOf_alike hZ.alike Ar113.2.1) rfl Ar113.2.2 hin113 hat113 (g := (mkF m 80 #[.val (.int p0), .val (.ref b53), .val (.int (8 : Int32)), .unset, .unset, .unset] [(.int (8 : Int32)), (.ref b53)])) rfl rfl (hb hby at_80) _ ?_
      show Steps p.tables e below (T83.setTop (mkF m 81 #[.val (.int p0), .val (.ref b53), .val (.int (8 : Int32)), .unset, .unset, .unset] [(.ref w_NS)])) _
      refine XS.astoreN X83.here hx rfl (hb hby at_81) rfl rfl (l' := #[.val (.int p0), .val (.ref b53), .val (.int (8 : Int32)), .val (.ref w_NS), .unset, .unset]) rfl ?_
      show Steps p.tables e below (T83.setTop (mkF m 82 #[.val (.int p0), .val (.ref b53), .val (.int (8 : Int32)), .val (.ref w_NS), .unset, .unset] [])) _
      refine XS.iloadN X83.here hx rfl (hb hby at_82) rfl ?_
      show Steps p.tables e below (T83.setTop (mkF m 83 #[.val (.int p0), .val (.ref b53), .val (.int (8 : Int32)), .val (.ref w_NS), .unset, .unset] [(.int (8 : Int32))])) _
      refine XS.iconst X83.here hx rfl (hb hby at_83) ?_
      show Steps p.tables e below (T83.setTop (mkF m 84 #[.val (.int p0), .val (.ref b53), .val (.int (8 : Int32)), .val (.ref w_NS), .unset, .unset] [(.int (3 : Int32)), (.int (8 : Int32))])) _
      refine XS.icmpYes X83.here hx rfl (pc0 := 84) (pc' := 91) rfl (hb hby at_84) rfl (flt (by decide : ¬ ((8 : Int32) < (3 : Int32)))).2.1 (by decide) (by decide) ?_
      show Steps p.tables e below (T83.setTop (mkF m 91 #[.val (.int p0), .val (.ref b53), .val (.int (8 : Int32)), .val (.ref w_NS), .unset, .unset] [])) _
      refine XS.iconst X83.here hx rfl (hb hby at_91) ?_
      show Steps p.tables e below (T83.setTop (mkF m 92 #[.val (.int p0), .val (.ref b53), .val (.int (8 : Int32)), .val (.ref w_NS), .unset, .unset] [(.int (0 : Int32))])) _
      refine XS.istore X83.here hx rfl (hb hby at_92) rfl (l' := #[.val (.int p0), .val (.ref b53), .val (.int (8 : Int32)), .val (.ref w_NS), .val (.int (0 : Int32)), .unset]) rfl ?_
      show Steps p.tables e below (T83.setTop (mkF m 94 #[.val (.int p0), .val (.ref b53), .val (.int (8 : Int32)), .val (.ref w_NS), .val (.int (0 : Int32)), .unset] [])) _
      refine XS.aloadN X83.here hx rfl (hb hby at_94) rfl rfl ?_
      show Steps p.tables e below (T83.setTop (mkF m 95 #[.val (.int p0), .val (.ref b53), .val (.int (8 : Int32)), .val (.ref w_NS), .val (.int (0 : Int32)), .unset] [(.ref w_NS)])) _
      refine st114.trans ?_
      show Steps p.tables e below (T114.setTop (mkF m 98 #[.val (.int p0), .val (.ref b53), .val (.int (8 : Int32)), .val (.ref w_NS), .val (.int (0 : Int32)), .unset] [(.int (0 : Int32))])) _
      refine XS.iload X114.here hx rfl (hb hby at_98) rfl ?_
      show Steps p.tables e below (T114.setTop (mkF m 100 #[.val (.int p0), .val (.ref b53), .val (.int (8 : Int32)), .val (.ref w_NS), .val (.int (0 : Int32)), .unset] [(.int (0 : Int32)), (.int (0 : Int32))])) _
      refine XS.icmpYes X114.here hx rfl (pc0 := 100) (pc' := 105) rfl (hb hby at_100) rfl (teq (by decide : (0 : Int32) = (0 : Int32))).1 (by decide) (by decide) ?_
      show Steps p.tables e below (T114.setTop (mkF m 105 #[.val (.int p0), .val (.ref b53), .val (.int (8 : Int32)), .val (.ref w_NS), .val (.int (0 : Int32)), .unset] [])) _
      refine XS.iloadN X114.here hx rfl (hb hby at_105) rfl ?_
      show Steps p.tables e below (T114.setTop (mkF m 106 #[.val (.int p0), .val (.ref b53), .val (.int (8 : Int32)), .val (.ref w_NS), .val (.int (0 : Int32)), .unset] [(.int (8 : Int32))])) _
      refine XS.bipush X114.here hx rfl (hb hby at_106) ?_
      show Steps p.tables e below (T114.setTop (mkF m 108 #[.val (.int p0), .val (.ref b53), .val (.int (8 : Int32)), .val (.ref w_NS), .val (.int (0 : Int32)), .unset] [(.int (7 : Int32)), (.int (8 : Int32))])) _
      refine XS.icmpNo X114.here hx rfl (hb hby at_108) rfl (flt (by decide : ¬ ((8 : Int32) < (7 : Int32)))).1 ?_
      show Steps p.tables e below (T114.setTop (mkF m 111 #[.val (.int p0), .val (.ref b53), .val (.int (8 : Int32)), .val (.ref w_NS), .val (.int (0 : Int32)), .unset] [])) _
      refine XS.aloadN X114.here hx rfl (hb hby at_111) rfl rfl ?_
      show Steps p.tables e below (T114.setTop (mkF m 112 #[.val (.int p0), .val (.ref b53), .val (.int (8 : Int32)), .val (.ref w_NS), .val (.int (0 : Int32)), .unset] [(.ref w_NS)])) _
      refine st115.trans ?_
      show Steps p.tables e below (T115.setTop (mkF m 115 #[.val (.int p0), .val (.ref b53), .val (.int (8 : Int32)), .val (.ref w_NS), .val (.int (0 : Int32)), .unset] [(.ref w_N)])) _
      refine XS.astore X115.here hx rfl (hb hby at_115) rfl rfl (l' := #[.val (.int p0), .val (.ref b53), .val (.int (8 : Int32)), .val (.ref w_NS), .val (.int (0 : Int32)), .val (.ref w_N)]) rfl ?_
      show Steps p.tables e below (T115.setTop (mkF m 117 #[.val (.int p0), .val (.ref b53), .val (.int (8 : Int32)), .val (.ref w_NS), .val (.int (0 : Int32)), .val (.ref w_N)] [])) _
      refine XS.aload X115.here hx rfl (hb hby at_117) rfl rfl ?_
      show Steps p.tables e below (T115.setTop (mkF m 119 #[.val (.int p0), .val (.ref b53), .val (.int (8 : Int32)), .val (.ref w_NS), .val (.int (0 : Int32)), .val (.ref w_N)] [(.ref w_N)])) _
      refine st116.trans ?_
      show Steps p.tables e below (T116.setTop (mkF m 122 #[.val (.int p0), .val (.ref b53), .val (.int (8 : Int32)), .val (.ref w_NS), .val (.int (0 : Int32)), .val (.ref w_N)] [(.int (1 : Int32))])) _
      refine XS.ifYes X116.here hx rfl (pc0 := 122) (pc' := 127) rfl (hb hby at_122) rfl ((if0 _ _).trans (feq (by decide : ¬ ((1 : Int32) = (0 : Int32)))).2) (by decide) (by decide) ?_
      show Steps p.tables e below (T116.setTop (mkF m 127 #[.val (.int p0), .val (.ref b53), .val (.int (8 : Int32)), .val (.ref w_NS), .val (.int (0 : Int32)), .val (.ref w_N)] [])) _
      refine XS.iconst X116.here hx rfl (hb hby at_127) ?_
      show Steps p.tables e below (T116.setTop (mkF m 128 #[.val (.int p0), .val (.ref b53), .val (.int (8 : Int32)), .val (.ref w_NS), .val (.int (0 : Int32)), .val (.ref w_N)] [(.int (1 : Int32))])) _
      exact retN X116 hx (t := .boolean) Bd.returns (by simp) (hb hby at_128) hr
    · show own_Made (some (.int 1)) n0 _ T116.heap _
      rw [e116]
      exact ⟨rfl, N116, trivial⟩
  · -- (9 : Int32)
    obtain ⟨cl117, Ar117, q117, S117, N117_, H117_, G117⟩ := V83
    have hin117 : ¬ ((9 : Int32) < 0 ∨ cl117.slots.size ≤ ((9 : Int32)).toNatClampNeg) := inb_of S117 ⟨by decide, by decide⟩
    have hat117 : cl117.slots[((9 : Int32)).toNatClampNeg]? = some (.ref w_BS) := Has.at H117_ hin117 rfl
    obtain ⟨cq118, kq118, q118a, q118b, q118c⟩ := isOf hZ e83 ((E_BS.ext EX83))
    obtain ⟨_, _, ⟨T118, L118, k118, n118⟩, -, X118, ⟨Lc118, hQ118, l118, y118, z118⟩, st118⟩ := X83.virtualBack hx (y := (⟨"com/example/ovenbird/ovenbird/model/AttributeType", "isScalar", "()Z"⟩ : MethodName)) (z := (⟨"com/example/ovenbird/ovenbird/model/AttributeType", "isScalar", "()Z"⟩ : MethodName)) hown (mvT hZ (hw _ (List.mem_of_getElem? (i := 25) rfl))) (mvT hZ (hw _ (List.mem_of_getElem? (i := 26) rfl))) (notFace_of_selects (args := #[]) (mvT hZ (hw _ (List.mem_of_getElem? (i := 28) rfl)))) (mvT hZ (hw _ (List.mem_of_getElem? (i := 28) rfl))) (mvT hZ (hw _ (List.mem_of_getElem? (i := 27) rfl))) (by decide) (backOf (W := 0) (rm_isc l Z a0 hw [] w_BS h83 n0 (Nat.le_trans Z0 EX83.1) w_S w_N w_B w_BOOL w_NULL w_M w_L w_SS w_NS w_BS (hWd.ext EX83) (0 : Int32) (by simp [(F_BS_ordinal.ne F_S_ordinal (by decide)), (F_BS_ordinal.ne F_N_ordinal (by decide)), (F_BS_ordinal.ne F_B_ordinal (by decide))])) hZ (hw _ (List.mem_of_getElem? (i := 29) rfl)) (hw _ (List.mem_of_getElem? (i := 3) rfl)) (by decide) (by decide)) q118a q118c (g := (mkF m 95 #[.val (.int p0), .val (.ref b53), .val (.int (9 : Int32)), .val (.ref w_BS), .val (.int (0 : Int32)), .unset] [(.ref w_BS)])) rfl (by rw [hml]; rfl) (Steps.refl _) (argsL := []) (rest := []) (lenOf pd_29 rfl) rfl (by show 2 * 0 + _ ≤ _; exact Nat.le_of_eq rfl) (hb hby at_95) (fun _ _ => ⟨rfl, e83, (by decide : 1 + 0 ≤ _), (by decide : 10 + 0 ≤ _)⟩)
    dsimp only [Pt.U, Pt.locs, Pt.cells, Pt.slots] at X118 l118 y118 z118 st118 hQ118
    subst l118 y118 z118
    obtain ⟨rfl, N118q, e118⟩ := hQ118
    have N118 := Fr.app N83 N118q
    obtain ⟨cq119, kq119, q119a, q119b, q119c⟩ := isOf hZ e118 ((E_BS.ext EX83))
    obtain ⟨_, _, ⟨T119, L119, k119, n119⟩, -, X119, ⟨Lc119, hQ119, l119, y119, z119⟩, st119⟩ := X118.virtualBack hx (y := (⟨"com/example/ovenbird/ovenbird/model/AttributeType", "elementType", "()Lcom/example/ovenbird/ovenbird/model/AttributeType;"⟩ : MethodName)) (z := (⟨"com/example/ovenbird/ovenbird/model/AttributeType", "elementType", "()Lcom/example/ovenbird/ovenbird/model/AttributeType;"⟩ : MethodName)) hown (mvT hZ (hw _ (List.mem_of_getElem? (i := 33) rfl))) (mvT hZ (hw _ (List.mem_of_getElem? (i := 34) rfl))) (notFace_of_selects (args := #[]) (mvT hZ (hw _ (List.mem_of_getElem? (i := 36) rfl)))) (mvT hZ (hw _ (List.mem_of_getElem? (i := 36) rfl))) (mvT hZ (hw _ (List.mem_of_getElem? (i := 35) rfl))) (by decide) (backOf (W := 0) (rm_el_BS l Z a0 hw [] w_BS h83 n0 (Nat.le_trans Z0 EX83.1) w_S w_N w_B w_BOOL w_NULL w_M w_L w_SS w_NS (hWd.ext EX83)) hZ (hw _ (List.mem_of_getElem? (i := 37) rfl)) (hw _ (List.mem_of_getElem? (i := 3) rfl)) (by decide) (by decide)) q119a q119c (g := (mkF m 112 #[.val (.int p0), .val (.ref b53), .val (.int (9 : Int32)), .val (.ref w_BS), .val (.int (0 : Int32)), .unset] [(.ref w_BS)])) rfl (by rw [hml]; rfl) (Steps.refl _) (argsL := []) (rest := []) (lenOf pd_30 rfl) rfl (by show 2 * 0 + _ ≤ _; exact Nat.le_of_eq rfl) (hb hby at_112) (fun _ _ => ⟨rfl, e118, (by decide : 1 + 0 ≤ _), (by decide : 10 + 0 ≤ _)⟩)
    dsimp only [Pt.U, Pt.locs, Pt.cells, Pt.slots] at X119 l119 y119 z119 st119 hQ119
    subst l119 y119 z119
    obtain ⟨rfl, N119q, e119⟩ := hQ119
    have N119 := Fr.app N118 N119q
    obtain ⟨cq120, kq120, q120a, q120b, q120c⟩ := isOf hZ e119 ((E_B.ext EX83))
    obtain ⟨_, _, ⟨T120, L120, k120, n120⟩, -, X120, ⟨Lc120, hQ120, l120, y120, z120⟩, st120⟩ := X119.virtualBack hx (y := (⟨"com/example/ovenbird/ovenbird/model/AttributeType", "isScalar", "()Z"⟩ : MethodName)) (z := (⟨"com/example/ovenbird/ovenbird/model/AttributeType", "isScalar", "()Z"⟩ : MethodName)) hown (mvT hZ (hw _ (List.mem_of_getElem? (i := 25) rfl))) (mvT hZ (hw _ (List.mem_of_getElem? (i := 26) rfl))) (notFace_of_selects (args := #[]) (mvT hZ (hw _ (List.mem_of_getElem? (i := 28) rfl)))) (mvT hZ (hw _ (List.mem_of_getElem? (i := 28) rfl))) (mvT hZ (hw _ (List.mem_of_getElem? (i := 27) rfl))) (by decide) (backOf (W := 0) (rm_isc l Z a0 hw [] w_B h83 n0 (Nat.le_trans Z0 EX83.1) w_S w_N w_B w_BOOL w_NULL w_M w_L w_SS w_NS w_BS (hWd.ext EX83) (1 : Int32) (by simp [(F_B_ordinal.ne F_S_ordinal (by decide)), (F_B_ordinal.ne F_N_ordinal (by decide))])) hZ (hw _ (List.mem_of_getElem? (i := 29) rfl)) (hw _ (List.mem_of_getElem? (i := 3) rfl)) (by decide) (by decide)) q120a q120c (g := (mkF m 119 #[.val (.int p0), .val (.ref b53), .val (.int (9 : Int32)), .val (.ref w_BS), .val (.int (0 : Int32)), .val (.ref w_B)] [(.ref w_B)])) rfl (by rw [hml]; rfl) (Steps.refl _) (argsL := []) (rest := []) (lenOf pd_29 rfl) rfl (by show 2 * 0 + _ ≤ _; exact Nat.le_of_eq rfl) (hb hby at_119) (fun _ _ => ⟨rfl, e119, (by decide : 1 + 0 ≤ _), (by decide : 10 + 0 ≤ _)⟩)
    dsimp only [Pt.U, Pt.locs, Pt.cells, Pt.slots] at X120 l120 y120 z120 st120 hQ120
    subst l120 y120 z120
    obtain ⟨rfl, N120q, e120⟩ := hQ120
    have N120 := Fr.app N119 N120q
    obtain ⟨fs, hr, hrun, hended, hW, hsame⟩ := X120.leave (v := some (.int (1 : Int32))) (fun h => by rw [Bd.returns] at h; cases h)
    refine ⟨_, _, ck84 _ ?_, hrun, hended, _, _, rfl, ?_, ⟨_, rfl⟩, hW, hsame.mono (by decide) (by decide)⟩
    · show Steps p.tables e below (T83.setTop (mkF m 77 #[.val (.int p0), .val (.ref b53), .unset, .unset, .unset, .unset] [(.int ((p0 &&& (2147483647 : Int32)) % (10 : Int32)))])) _
      rw [hv94]
      show Steps p.tables e below (T83.setTop (mkF m 77 #[.val (.int p0), .val (.ref b53), .unset, .unset, .unset, .unset] [(.int (9 : Int32))])) _
      refine XS.istoreN X83.here hx rfl (hb hby at_77) rfl (l' := #[.val (.int p0), .val (.ref b53), .val (.int (9 : Int32)), .unset, .unset, .unset]) rfl ?_
      show Steps p.tables e below (T83.setTop (mkF m 78 #[.val (.int p0), .val (.ref b53), .val (.int (9 : Int32)), .unset, .unset, .unset] [])) _
      refine XS.aloadN X83.here hx rfl (hb hby at_78) rfl rfl ?_
      show Steps p.tables e below (T83.setTop (mkF m 79 #[.val (.int p0), .val (.ref b53), .val (.int (9 : Int32)), .unset, .unset, .unset] [(.ref b53)])) _
      refine XS.iloadN X83.here hx rfl (hb hby at_79) rfl ?_
      show Steps p.tables e below (T83.setTop (mkF m 80 #[.val (.int p0), .val (.ref b53), .val (.int (9 : Int32)), .unset, .unset, .unset] [(.int (9 : Int32)), (.ref b53)])) _
      refine X83.aaload hx (j := (9 : Int32)) (v := (.ref w_BS)) (by rw [e83]; exact Ar117.1) (State.isArrayOf_alike hZ.alike Ar117.2.1) rfl Ar117.2.2 hin117 hat117 (g := (mkF m 80 #[.val (.int p0), .val (.ref b53), .val (.int (9 : Int32)), .unset, .unset, .unset] [(.int (9 : Int32)), (.ref b53)])) rfl rfl (hb hby at_80) _ ?_
      show Steps p.tables e below (T83.setTop (mkF m 81 #[.val (.int p0), .val (.ref b53), .val (.int (9 : Int32)), .unset, .unset, .unset] [(.ref w_BS)])) _
      refine XS.astoreN X83.here hx rfl (hb hby at_81) rfl rfl (l' := #[.val (.int p0), .val (.ref b53), .val (.int (9 : Int32)), .val (.ref w_BS), .unset, .unset]) rfl ?_
      show Steps p.tables e below (T83.setTop (mkF m 82 #[.val (.int p0), .val (.ref b53), .val (.int (9 : Int32)), .val (.ref w_BS), .unset, .unset] [])) _
      refine XS.iloadN X83.here hx rfl (hb hby at_82) rfl ?_
      show Steps p.tables e below (T83.setTop (mkF m 83 #[.val (.int p0), .val (.ref b53), .val (.int (9 : Int32)), .val (.ref w_BS), .unset, .unset] [(.int (9 : Int32))])) _
      refine XS.iconst X83.here hx rfl (hb hby at_83) ?_
      show Steps p.tables e below (T83.setTop (mkF m 84 #[.val (.int p0), .val (.ref b53), .val (.int (9 : Int32)), .val (.ref w_BS), .unset, .unset] [(.int (3 : Int32)), (.int (9 : Int32))])) _
      refine XS.icmpYes X83.here hx rfl (pc0 := 84) (pc' := 91) rfl (hb hby at_84) rfl (flt (by decide : ¬ ((9 : Int32) < (3 : Int32)))).2.1 (by decide) (by decide) ?_
      show Steps p.tables e below (T83.setTop (mkF m 91 #[.val (.int p0), .val (.ref b53), .val (.int (9 : Int32)), .val (.ref w_BS), .unset, .unset] [])) _
      refine XS.iconst X83.here hx rfl (hb hby at_91) ?_
      show Steps p.tables e below (T83.setTop (mkF m 92 #[.val (.int p0), .val (.ref b53), .val (.int (9 : Int32)), .val (.ref w_BS), .unset, .unset] [(.int (0 : Int32))])) _
      refine XS.istore X83.here hx rfl (hb hby at_92) rfl (l' := #[.val (.int p0), .val (.ref b53), .val (.int (9 : Int32)), .val (.ref w_BS), .val (.int (0 : Int32)), .unset]) rfl ?_
      show Steps p.tables e below (T83.setTop (mkF m 94 #[.val (.int p0), .val (.ref b53), .val (.int (9 : Int32)), .val (.ref w_BS), .val (.int (0 : Int32)), .unset] [])) _
      refine XS.aloadN X83.here hx rfl (hb hby at_94) rfl rfl ?_
      show Steps p.tables e below (T83.setTop (mkF m 95 #[.val (.int p0), .val (.ref b53), .val (.int (9 : Int32)), .val (.ref w_BS), .val (.int (0 : Int32)), .unset] [(.ref w_BS)])) _
      refine st118.trans ?_
      show Steps p.tables e below (T118.setTop (mkF m 98 #[.val (.int p0), .val (.ref b53), .val (.int (9 : Int32)), .val (.ref w_BS), .val (.int (0 : Int32)), .unset] [(.int (0 : Int32))])) _
      refine XS.iload X118.here hx rfl (hb hby at_98) rfl ?_
      show Steps p.tables e below (T118.setTop (mkF m 100 #[.val (.int p0), .val (.ref b53), .val (.int (9 : Int32)), .val (.ref w_BS), .val (.int (0 : Int32)), .unset] [(.int (0 : Int32)), (.int (0 : Int32))])) _
      refine XS.icmpYes X118.here hx rfl (pc0 := 100) (pc' := 105) rfl (hb hby at_100) rfl (teq (by decide : (0 : Int32) = (0 : Int32))).1 (by decide) (by decide) ?_
      show Steps p.tables e below (T118.setTop (mkF m 105 #[.val (.int p0), .val (.ref b53), .val (.int (9 : Int32)), .val (.ref w_BS), .val (.int (0 : Int32)), .unset] [])) _
      refine XS.iloadN X118.here hx rfl (hb hby at_105) rfl ?_
      show Steps p.tables e below (T118.setTop (mkF m 106 #[.val (.int p0), .val (.ref b53), .val (.int (9 : Int32)), .val (.ref w_BS), .val (.int (0 : Int32)), .unset] [(.int (9 : Int32))])) _
      refine XS.bipush X118.here hx rfl (hb hby at_106) ?_
      show Steps p.tables e below (T118.setTop (mkF m 108 #[.val (.int p0), .val (.ref b53), .val (.int (9 : Int32)), .val (.ref w_BS), .val (.int (0 : Int32)), .unset] [(.int (7 : Int32)), (.int (9 : Int32))])) _
      refine XS.icmpNo X118.here hx rfl (hb hby at_108) rfl (flt (by decide : ¬ ((9 : Int32) < (7 : Int32)))).1 ?_
      show Steps p.tables e below (T118.setTop (mkF m 111 #[.val (.int p0), .val (.ref b53), .val (.int (9 : Int32)), .val (.ref w_BS), .val (.int (0 : Int32)), .unset] [])) _
      refine XS.aloadN X118.here hx rfl (hb hby at_111) rfl rfl ?_
      show Steps p.tables e below (T118.setTop (mkF m 112 #[.val (.int p0), .val (.ref b53), .val (.int (9 : Int32)), .val (.ref w_BS), .val (.int (0 : Int32)), .unset] [(.ref w_BS)])) _
      refine st119.trans ?_
      show Steps p.tables e below (T119.setTop (mkF m 115 #[.val (.int p0), .val (.ref b53), .val (.int (9 : Int32)), .val (.ref w_BS), .val (.int (0 : Int32)), .unset] [(.ref w_B)])) _
      refine XS.astore X119.here hx rfl (hb hby at_115) rfl rfl (l' := #[.val (.int p0), .val (.ref b53), .val (.int (9 : Int32)), .val (.ref w_BS), .val (.int (0 : Int32)), .val (.ref w_B)]) rfl ?_
      show Steps p.tables e below (T119.setTop (mkF m 117 #[.val (.int p0), .val (.ref b53), .val (.int (9 : Int32)), .val (.ref w_BS), .val (.int (0 : Int32)), .val (.ref w_B)] [])) _
      refine XS.aload X119.here hx rfl (hb hby at_117) rfl rfl ?_
      show Steps p.tables e below (T119.setTop (mkF m 119 #[.val (.int p0), .val (.ref b53), .val (.int (9 : Int32)), .val (.ref w_BS), .val (.int (0 : Int32)), .val (.ref w_B)] [(.ref w_B)])) _
      refine st120.trans ?_
      show Steps p.tables e below (T120.setTop (mkF m 122 #[.val (.int p0), .val (.ref b53), .val (.int (9 : Int32)), .val (.ref w_BS), .val (.int (0 : Int32)), .val (.ref w_B)] [(.int (1 : Int32))])) _
      refine XS.ifYes X120.here hx rfl (pc0 := 122) (pc' := 127) rfl (hb hby at_122) rfl ((if0 _ _).trans (feq (by decide : ¬ ((1 : Int32) = (0 : Int32)))).2) (by decide) (by decide) ?_
      show Steps p.tables e below (T120.setTop (mkF m 127 #[.val (.int p0), .val (.ref b53), .val (.int (9 : Int32)), .val (.ref w_BS), .val (.int (0 : Int32)), .val (.ref w_B)] [])) _
      refine XS.iconst X120.here hx rfl (hb hby at_127) ?_
      show Steps p.tables e below (T120.setTop (mkF m 128 #[.val (.int p0), .val (.ref b53), .val (.int (9 : Int32)), .val (.ref w_BS), .val (.int (0 : Int32)), .val (.ref w_B)] [(.int (1 : Int32))])) _
      exact retN X120 hx (t := .boolean) Bd.returns (by simp) (hb hby at_128) hr
    · show own_Made (some (.int 1)) n0 _ T120.heap _
      rw [e120]
      exact ⟨rfl, N120, trivial⟩
set_option maxRecDepth 65536 in
set_option maxHeartbeats 40000000 in
theorem comes_1 {Post : Tables → Env → Array Value → State → Outcome → State → Prop} (hpost : ∀ tb e args s v u, (limb_1_1.after args s (.returned v) u = true ∧ limb_1_2.after args s (.returned v) u = true ∧ True) → FrameEnd s (.returned v) u (Jvm.fieldLocs frame_1_writes args s ++ Jvm.arrayLocs frame_1_arrays args s ++ Jvm.staticLocs frame_1_statics s) 16 128 → Post tb e args s (.returned v) u) :
    ArmFor flags0 classFile x code maxLocals ret World_1 tables_1 room_1 Calls_1 rest_1 Pre_1 Post := by
  intro l hfl _ _ p e ha hc hk s m args below hf hA hF happ hP
  obtain ⟨hcalls, hrest, hpre⟩ := hP
  obtain ⟨-, -, -, hnamed, -, -, -, hat⟩ := (Spec.applies_iff hf).mp happ
  obtain ⟨hg, hn⟩ := and_e (Cond.before_iff.mp (show (Jvm.Cond.and given_1 narrow_1).before args s = true from hpre))
  obtain ⟨gg0, hh0⟩ := and_e hg
  obtain ⟨w0, rfl⟩ : ∃ w0 : Value, args = #[w0] := by
    have hs : args.size = 1 := by simpa [Cond.value, given_1] using gg0
    obtain ⟨L⟩ := args
    match L, hs with
    | [w0], _ => exact ⟨w0, rfl⟩
  have hw := fun d (hd : d ∈ tables_1) => atoms_spec (ws := Jvm.Cond.code x code maxLocals ret :: tables_1) hat d (List.mem_cons_of_mem _ hd)
  have hfit : Fit s := fun {y c} hc i hi => by
    obtain ⟨ha, rfl⟩ := Array.getElem?_eq_some_iff.mp hc
    have q := List.all_eq_true.mp ((Array.all_eq_true_iff_forall_mem.mp hF) _ (Array.getElem_mem ha)) i (List.mem_range.mpr hi)
    simpa [Array.getElem?_eq_getElem hi] using q
  obtain ⟨i0, ei0⟩ := is_v hh0
  obtain rfl : w0 = (.int i0) := Option.some.inj ei0
  obtain ⟨g1, g2⟩ := and_e hn
  obtain ⟨g3, g4⟩ := and_e g2
  obtain ⟨g5, g6⟩ := and_e g4
  obtain ⟨g7, g8⟩ := and_e g6
  obtain ⟨g9, g10⟩ := and_e g8
  obtain ⟨g11, g12⟩ := and_e g10
  obtain ⟨g13, g14⟩ := and_e g12
  obtain ⟨g15, g16⟩ := and_e g14
  obtain ⟨g17, g18⟩ := and_e g16
  obtain ⟨g19, g20⟩ := and_e g18
  obtain ⟨g21, g22⟩ := and_e g20
  obtain ⟨g23, g24⟩ := and_e g22
  obtain ⟨g25, g26⟩ := and_e g24
  obtain ⟨g27, g28⟩ := and_e g26
  obtain ⟨g29, g30⟩ := and_e g28
  obtain ⟨g31, g32⟩ := and_e g30
  obtain ⟨g33, g34⟩ := and_e g32
  obtain ⟨g35, g36⟩ := and_e g34
  obtain ⟨g37, g38⟩ := and_e g36
  obtain ⟨w_S, ev_S⟩ := exa_v g1
  have E_S := Exa.start ev_S g1
  have S_S := Sta.start ev_S (Or.inr ⟨hw _ (List.mem_of_getElem? (i := 3) rfl), hw _ (List.mem_of_getElem? (i := 4) rfl)⟩)
  have F_S_ordinal := own_fld_eq ev_S g23
  obtain ⟨w_N, ev_N⟩ := exa_v g3
  have E_N := Exa.start ev_N g3
  have S_N := Sta.start ev_N (Or.inr ⟨hw _ (List.mem_of_getElem? (i := 3) rfl), hw _ (List.mem_of_getElem? (i := 7) rfl)⟩)
  have F_N_ordinal := own_fld_eq ev_N g25
  obtain ⟨w_B, ev_B⟩ := exa_v g5
  have E_B := Exa.start ev_B g5
  have S_B := Sta.start ev_B (Or.inr ⟨hw _ (List.mem_of_getElem? (i := 3) rfl), hw _ (List.mem_of_getElem? (i := 9) rfl)⟩)
  have F_B_ordinal := own_fld_eq ev_B g27
  obtain ⟨w_BOOL, ev_BOOL⟩ := exa_v g7
  have E_BOOL := Exa.start ev_BOOL g7
  have S_BOOL := Sta.start ev_BOOL (Or.inr ⟨hw _ (List.mem_of_getElem? (i := 3) rfl), hw _ (List.mem_of_getElem? (i := 11) rfl)⟩)
  have F_BOOL_ordinal := own_fld_eq ev_BOOL g21
  obtain ⟨w_NULL, ev_NULL⟩ := exa_v g9
  have E_NULL := Exa.start ev_NULL g9
  have S_NULL := Sta.start ev_NULL (Or.inr ⟨hw _ (List.mem_of_getElem? (i := 3) rfl), hw _ (List.mem_of_getElem? (i := 13) rfl)⟩)
  have F_NULL_ordinal := own_fld_eq ev_NULL g29
  obtain ⟨w_M, ev_M⟩ := exa_v g11
  have E_M := Exa.start ev_M g11
  have S_M := Sta.start ev_M (Or.inr ⟨hw _ (List.mem_of_getElem? (i := 3) rfl), hw _ (List.mem_of_getElem? (i := 15) rfl)⟩)
  have F_M_ordinal := own_fld_eq ev_M g37
  obtain ⟨w_L, ev_L⟩ := exa_v g13
  have E_L := Exa.start ev_L g13
  have S_L := Sta.start ev_L (Or.inr ⟨hw _ (List.mem_of_getElem? (i := 3) rfl), hw _ (List.mem_of_getElem? (i := 17) rfl)⟩)
  have F_L_ordinal := own_fld_eq ev_L g38
  obtain ⟨w_SS, ev_SS⟩ := exa_v g15
  have E_SS := Exa.start ev_SS g15
  have S_SS := Sta.start ev_SS (Or.inr ⟨hw _ (List.mem_of_getElem? (i := 3) rfl), hw _ (List.mem_of_getElem? (i := 19) rfl)⟩)
  have F_SS_ordinal := own_fld_eq ev_SS g31
  obtain ⟨w_NS, ev_NS⟩ := exa_v g17
  have E_NS := Exa.start ev_NS g17
  have S_NS := Sta.start ev_NS (Or.inr ⟨hw _ (List.mem_of_getElem? (i := 3) rfl), hw _ (List.mem_of_getElem? (i := 21) rfl)⟩)
  have F_NS_ordinal := own_fld_eq ev_NS g33
  obtain ⟨w_BS, ev_BS⟩ := exa_v g19
  have E_BS := Exa.start ev_BS g19
  have S_BS := Sta.start ev_BS (Or.inr ⟨hw _ (List.mem_of_getElem? (i := 3) rfl), hw _ (List.mem_of_getElem? (i := 23) rfl)⟩)
  have F_BS_ordinal := own_fld_eq ev_BS g35
  have hW0 : own_W s s.heap w_S w_N w_B w_BOOL w_NULL w_M w_L w_SS w_NS w_BS := ⟨S_S, E_S, F_S_ordinal, S_N, E_N, F_N_ordinal, S_B, E_B, F_B_ordinal, S_BOOL, E_BOOL, F_BOOL_ordinal, S_NULL, E_NULL, F_NULL_ordinal, S_M, E_M, F_M_ordinal, S_L, E_L, F_L_ordinal, S_SS, E_SS, F_SS_ordinal, S_NS, E_NS, F_NS_ordinal, S_BS, E_BS, F_BS_ordinal⟩
  obtain ⟨n, o, h1, h2, h3, _, L, rfl, hQ0, hq⟩ := rm_law l s _ hw tables_1 i0 s.heap s.heap.size (Nat.le_refl _) w_S w_N w_B w_BOOL w_NULL w_M w_L w_SS w_NS w_BS hW0 p e ha hc hk s m _ below hf ((Spec.applies_iff_loose hf).mp happ).1 ⟨rfl, State.Warmed39.refl s, rfl⟩ trivial
  have N := hQ0.2.1
  obtain rfl := hQ0.1
  refine ⟨n, _, h1, h2, h3, hpost _ _ _ _ _ _ ⟨Cond.after_iff.mpr rfl, Cond.after_iff.mpr (eq_i res_at (Term.int_eval (1)) rfl), trivial⟩ ⟨hq.1, hq.2.1, (hq.2.2.sift fun y hy => Or.inr (N y hy)).mono (by decide) (by decide)⟩⟩
theorem main_1_1 : Claimed_1_1 := comes_1 fun _ _ _ _ _ _ h hF => ⟨h.1, hF⟩
theorem main_1_2 : Claimed_1_2 := comes_1 fun _ _ _ _ _ _ h hF => ⟨h.2.1, hF⟩
end Jvm.Pilot.@@N@@
namespace Jvm.Pilot.@@N@@
open Jvm Jvm.ClassFile Sem Op Lib Jvm.Free Jvm.Stand Jvm.Pilot.@@N@@.Jvm.D
/-! MADE BY PROGRAM (witnessworld.py) out of the Statement's table words and the real class files: 13 classes; the members and pool entries that the words name. The judged class is class 1, her method 1. -/
namespace start1
open Jvm.ClassFile
def u (s : String) : CpInfo := .utf8 (stringToUtf16 s)
/-- a pool by its gaps: so many unusable entries, then the entry; so many at the end -/
def gap : Nat → List CpInfo → List CpInfo
  | 0, r => r
  | n + 1, r => .unusable :: gap n r
def poolList (es : List (Nat × CpInfo)) (last : Nat) : List CpInfo := es.foldr (fun e r => gap e.1 (e.2 :: r)) (gap last [])
def pool (es : List (Nat × CpInfo)) (last : Nat) : Array CpInfo := ⟨poolList es last⟩
def fileOf (pool : Array CpInfo) (this : Nat) (attrs : Array Attribute := #[]) (ms : Array MethodInfo := #[]) (fl : Nat := 33) (sup : Nat := 0) (ifs : Array Nat := #[]) (fds : Array FieldInfo := #[]) : ClassFile where
  minorVersion := 0
  majorVersion := 65
  constantPool := pool
  accessFlags := fl
  thisClass := this
  superClass := sup
  interfaces := ifs
  fields := fds
  methods := ms
  attributes := attrs
def plain (name : String) (sup : Option ClassId) : Class where
  name := name
  kind := .ordinary
  loader := none
  accessFlags := 33
  super := sup
  interfaces := #[]
  cf := none
  fields := #[]
  methods := #[]
  instanceTypes := #[]
  staticTypes := #[]
  resolved := #[]
  callSites := []
  init := .initialized
  statics := none
  mirror := none

def pool0 : Array CpInfo := pool [(5, u "<init>"), (0, u "()V"), (1, .class_ 10), (1, u "java/lang/Object")] 113

def k0m0 : Method := { name := "<init>", desc := "()V", sig := { parameters := [], returnType := none }, accessFlags := 1, code := none }
/-- java/lang/Object -/
def k0 : Class := { plain "java/lang/Object" none with
  accessFlags := 33
  interfaces := #[]
  cf := some (fileOf pool0 8 #[] #[{ accessFlags := 1, nameIndex := 5, descriptorIndex := 6, attributes := #[] }] 33 0 #[] #[])
  fields := #[]
  methods := #[k0m0]
  instanceTypes := #[]
  staticTypes := #[]
  resolved := Array.replicate 124 none
  statics := none }

def pool1 : Array CpInfo := pool [(2, .class_ 4), (1, u "java/lang/Object"), (0, u "<init>"), (0, u "()V"), (0, .class_ 8), (0, u "com/example/ovenbird/ovenbird/model/AttributeType"), (0, .fieldref 7 10), (0, .nameAndType 11 12), (0, u "S"), (0, u "Lcom/example/ovenbird/ovenbird/model/AttributeType;"), (0, .fieldref 7 14), (0, .nameAndType 15 12), (0, u "N"), (0, .fieldref 7 17), (0, .nameAndType 18 12), (0, u "B"), (0, .fieldref 7 20), (0, .nameAndType 21 12), (0, u "BOOL"), (0, .fieldref 7 23), (0, .nameAndType 24 12), (0, u "NULL"), (0, .fieldref 7 26), (0, .nameAndType 27 12), (0, u "M"), (0, .fieldref 7 29), (0, .nameAndType 30 12), (0, u "L"), (0, .fieldref 7 32), (0, .nameAndType 33 12), (0, u "SS"), (0, .fieldref 7 35), (0, .nameAndType 36 12), (0, u "NS"), (0, .fieldref 7 38), (0, .nameAndType 39 12), (0, u "BS"), (0, .integer 2147483647), (0, .methodref 7 42), (0, .nameAndType 43 44), (0, u "isScalar"), (0, u "()Z"), (0, .methodref 7 46), (0, .nameAndType 47 48), (0, u "elementType"), (0, u "()Lcom/example/ovenbird/ovenbird/model/AttributeType;"), (0, .class_ 50), (0, u "com/example/ovenbird/ovenbird/model/AttributeTypeIsScalarPinLaw"), (2, u "law"), (0, u "(I)Z")] 5

def k1m0 : Method := { name := "<init>", desc := "()V", sig := { parameters := [], returnType := none }, accessFlags := 1, code := none }
def k1c1 : Code := { maxStack := 4, maxLocals := 6, code := code, exceptionTable := #[], attributes := #[] }
def k1m1 : Method := { name := "law", desc := "(I)Z", sig := { parameters := [.int], returnType := some .boolean }, accessFlags := 9, code := some k1c1 }
/-- com/example/ovenbird/ovenbird/model/AttributeTypeIsScalarPinLaw -/
def k1 : Class := { plain "com/example/ovenbird/ovenbird/model/AttributeTypeIsScalarPinLaw" (some 0) with
  accessFlags := 49
  interfaces := #[]
  cf := some (fileOf pool1 49 #[] #[{ accessFlags := 1, nameIndex := 5, descriptorIndex := 6, attributes := #[] }, { accessFlags := 9, nameIndex := 53, descriptorIndex := 54, attributes := #[] }] 49 2 #[] #[])
  fields := #[]
  methods := #[k1m0, k1m1]
  instanceTypes := #[]
  staticTypes := #[]
  resolved := Array.replicate 60 none
  statics := none }

def pool2 : Array CpInfo := pool [(1, .class_ 2), (0, u "java/lang/constant/Constable"), (0, .class_ 4), (0, u "java/lang/Object")] 6

/-- java/lang/constant/Constable -/
def k2 : Class := { plain "java/lang/constant/Constable" (some 0) with
  accessFlags := 1537
  interfaces := #[]
  cf := some (fileOf pool2 1 #[] #[] 1537 3 #[] #[])
  fields := #[]
  methods := #[]
  instanceTypes := #[]
  staticTypes := #[]
  resolved := Array.replicate 11 none
  statics := none }

def pool3 : Array CpInfo := pool [(1, .class_ 2), (0, u "java/lang/Comparable"), (0, .class_ 4), (0, u "java/lang/Object")] 7

/-- java/lang/Comparable -/
def k3 : Class := { plain "java/lang/Comparable" (some 0) with
  accessFlags := 1537
  interfaces := #[]
  cf := some (fileOf pool3 1 #[] #[] 1537 3 #[] #[])
  fields := #[]
  methods := #[]
  instanceTypes := #[]
  staticTypes := #[]
  resolved := Array.replicate 12 none
  statics := none }

def pool4 : Array CpInfo := pool [(1, .class_ 2), (0, u "java/io/Serializable"), (0, .class_ 4), (0, u "java/lang/Object")] 2

/-- java/io/Serializable -/
def k4 : Class := { plain "java/io/Serializable" (some 0) with
  accessFlags := 1537
  interfaces := #[]
  cf := some (fileOf pool4 1 #[] #[] 1537 3 #[] #[])
  fields := #[]
  methods := #[]
  instanceTypes := #[]
  staticTypes := #[]
  resolved := Array.replicate 7 none
  statics := none }

def pool5 : Array CpInfo := pool [(2, .class_ 4), (1, u "java/lang/Enum"), (0, u "name"), (0, u "Ljava/lang/String;"), (0, .fieldref 2 8), (0, .nameAndType 9 10), (0, u "ordinal"), (0, u "I"), (1, .class_ 14), (1, u "java/lang/Object"), (4, u "hash"), (86, .class_ 108), (1, u "java/lang/Enum$EnumDesc"), (2, .class_ 112), (0, u "java/lang/constant/Constable"), (0, .class_ 114), (0, u "java/lang/Comparable"), (0, .class_ 116), (0, u "java/io/Serializable"), (9, u "()I")] 77

def k5c0 : Code := { maxStack := 1, maxLocals := 1, code := jdk_37_method_2_code, exceptionTable := #[], attributes := #[] }
def k5m0 : Method := { name := "ordinal", desc := "()I", sig := { parameters := [], returnType := some .int }, accessFlags := 17, code := some k5c0 }
/-- java/lang/Enum -/
def k5 : Class := { plain "java/lang/Enum" (some 0) with
  accessFlags := 1057
  interfaces := #[2, 3, 4]
  cf := some (fileOf pool5 2 #[.nestMembers #[106]] #[{ accessFlags := 17, nameIndex := 9, descriptorIndex := 126, attributes := #[] }] 1057 12 #[111, 113, 115] #[{ accessFlags := 18, nameIndex := 5, descriptorIndex := 6, attributes := #[] }, { accessFlags := 18, nameIndex := 9, descriptorIndex := 10, attributes := #[] }, { accessFlags := 2, nameIndex := 19, descriptorIndex := 10, attributes := #[] }])
  fields := #[{ name := "name", type := (.object "java/lang/String"), accessFlags := 18, slot := 0, constantValue := 0 }, { name := "ordinal", type := .int, accessFlags := 18, slot := 1, constantValue := 0 }, { name := "hash", type := .int, accessFlags := 2, slot := 2, constantValue := 0 }]
  methods := #[k5m0]
  instanceTypes := #[(.object "java/lang/String"), .int, .int]
  staticTypes := #[]
  resolved := Array.replicate 204 none
  statics := none }

def pool6 : Array CpInfo := pool [(1, .class_ 2), (0, u "com/example/ovenbird/ovenbird/model/AttributeType"), (0, .fieldref 1 4), (0, .nameAndType 5 6), (0, u "S"), (0, u "Lcom/example/ovenbird/ovenbird/model/AttributeType;"), (0, .fieldref 1 8), (0, .nameAndType 9 6), (0, u "N"), (0, .fieldref 1 11), (0, .nameAndType 12 6), (0, u "B"), (2, u "BOOL"), (2, u "NULL"), (2, u "M"), (2, u "L"), (2, u "SS"), (2, u "NS"), (2, u "BS"), (2, u "$VALUES"), (0, u "[Lcom/example/ovenbird/ovenbird/model/AttributeType;"), (6, .class_ 46), (1, u "java/lang/Enum"), (6, .methodref 1 54), (0, .nameAndType 55 56), (0, u "ordinal"), (0, u "()I"), (36, u "isScalar"), (0, u "()Z"), (2, u "elementType"), (0, u "()Lcom/example/ovenbird/ovenbird/model/AttributeType;")] 19

def k6c0 : Code := { maxStack := 2, maxLocals := 1, code := prog_50_method_4_code, exceptionTable := #[], attributes := #[] }
def k6m0 : Method := { name := "isScalar", desc := "()Z", sig := { parameters := [], returnType := some .boolean }, accessFlags := 1, code := some k6c0 }
def k6c1 : Code := { maxStack := 3, maxLocals := 1, code := prog_50_method_6_code, exceptionTable := #[], attributes := #[] }
def k6m1 : Method := { name := "elementType", desc := "()Lcom/example/ovenbird/ovenbird/model/AttributeType;", sig := { parameters := [], returnType := some (.object "com/example/ovenbird/ovenbird/model/AttributeType") }, accessFlags := 1, code := some k6c1 }
/-- com/example/ovenbird/ovenbird/model/AttributeType -/
def k6 : Class := { plain "com/example/ovenbird/ovenbird/model/AttributeType" (some 5) with
  accessFlags := 16433
  interfaces := #[]
  cf := some (fileOf pool6 1 #[] #[{ accessFlags := 1, nameIndex := 93, descriptorIndex := 94, attributes := #[] }, { accessFlags := 1, nameIndex := 97, descriptorIndex := 98, attributes := #[] }] 16433 44 #[] #[{ accessFlags := 16409, nameIndex := 5, descriptorIndex := 6, attributes := #[] }, { accessFlags := 16409, nameIndex := 9, descriptorIndex := 6, attributes := #[] }, { accessFlags := 16409, nameIndex := 12, descriptorIndex := 6, attributes := #[] }, { accessFlags := 16409, nameIndex := 15, descriptorIndex := 6, attributes := #[] }, { accessFlags := 16409, nameIndex := 18, descriptorIndex := 6, attributes := #[] }, { accessFlags := 16409, nameIndex := 21, descriptorIndex := 6, attributes := #[] }, { accessFlags := 16409, nameIndex := 24, descriptorIndex := 6, attributes := #[] }, { accessFlags := 16409, nameIndex := 27, descriptorIndex := 6, attributes := #[] }, { accessFlags := 16409, nameIndex := 30, descriptorIndex := 6, attributes := #[] }, { accessFlags := 16409, nameIndex := 33, descriptorIndex := 6, attributes := #[] }, { accessFlags := 4122, nameIndex := 36, descriptorIndex := 37, attributes := #[] }])
  fields := #[{ name := "S", type := (.object "com/example/ovenbird/ovenbird/model/AttributeType"), accessFlags := 16409, slot := 0, constantValue := 0 }, { name := "N", type := (.object "com/example/ovenbird/ovenbird/model/AttributeType"), accessFlags := 16409, slot := 1, constantValue := 0 }, { name := "B", type := (.object "com/example/ovenbird/ovenbird/model/AttributeType"), accessFlags := 16409, slot := 2, constantValue := 0 }, { name := "BOOL", type := (.object "com/example/ovenbird/ovenbird/model/AttributeType"), accessFlags := 16409, slot := 3, constantValue := 0 }, { name := "NULL", type := (.object "com/example/ovenbird/ovenbird/model/AttributeType"), accessFlags := 16409, slot := 4, constantValue := 0 }, { name := "M", type := (.object "com/example/ovenbird/ovenbird/model/AttributeType"), accessFlags := 16409, slot := 5, constantValue := 0 }, { name := "L", type := (.object "com/example/ovenbird/ovenbird/model/AttributeType"), accessFlags := 16409, slot := 6, constantValue := 0 }, { name := "SS", type := (.object "com/example/ovenbird/ovenbird/model/AttributeType"), accessFlags := 16409, slot := 7, constantValue := 0 }, { name := "NS", type := (.object "com/example/ovenbird/ovenbird/model/AttributeType"), accessFlags := 16409, slot := 8, constantValue := 0 }, { name := "BS", type := (.object "com/example/ovenbird/ovenbird/model/AttributeType"), accessFlags := 16409, slot := 9, constantValue := 0 }, { name := "$VALUES", type := (.array (.object "com/example/ovenbird/ovenbird/model/AttributeType")), accessFlags := 4122, slot := 10, constantValue := 0 }]
  methods := #[k6m0, k6m1]
  instanceTypes := #[(.object "java/lang/String"), .int, .int]
  staticTypes := #[(.object "com/example/ovenbird/ovenbird/model/AttributeType"), (.object "com/example/ovenbird/ovenbird/model/AttributeType"), (.object "com/example/ovenbird/ovenbird/model/AttributeType"), (.object "com/example/ovenbird/ovenbird/model/AttributeType"), (.object "com/example/ovenbird/ovenbird/model/AttributeType"), (.object "com/example/ovenbird/ovenbird/model/AttributeType"), (.object "com/example/ovenbird/ovenbird/model/AttributeType"), (.object "com/example/ovenbird/ovenbird/model/AttributeType"), (.object "com/example/ovenbird/ovenbird/model/AttributeType"), (.object "com/example/ovenbird/ovenbird/model/AttributeType"), (.array (.object "com/example/ovenbird/ovenbird/model/AttributeType"))]
  resolved := Array.replicate 118 none
  statics := some 0 }

def pool7 : Array CpInfo := pool [(1, u "java/lang/Cloneable"), (0, .class_ 1), (0, u "java/lang/Object"), (0, .class_ 3)] 3

/-- java/lang/Cloneable -/
def k7 : Class := { plain "java/lang/Cloneable" (some 0) with
  accessFlags := 1537
  interfaces := #[]
  cf := some (fileOf pool7 2 #[] #[] 1537 4 #[] #[])
  fields := #[]
  methods := #[]
  instanceTypes := #[]
  staticTypes := #[]
  resolved := Array.replicate 8 none
  statics := none }

/-- the primitive byte -/
def k8 : Class := { plain "byte" none with kind := .primitive 'B', accessFlags := 0x411 }
/-- [B -/
def k9 : Class := { plain "[B" (some 0) with kind := .array 8 .byte, interfaces := #[7, 4], accessFlags := 1041 }

/-- the primitive int -/
def k10 : Class := { plain "int" none with kind := .primitive 'I', accessFlags := 0x411 }
/-- [I -/
def k11 : Class := { plain "[I" (some 0) with kind := .array 10 .int, interfaces := #[7, 4], accessFlags := 1041 }

/-- [Lcom/example/ovenbird/ovenbird/model/AttributeType; -/
def k12 : Class := { plain "[Lcom/example/ovenbird/ovenbird/model/AttributeType;" (some 0) with kind := .array 6 (.object "com/example/ovenbird/ovenbird/model/AttributeType"), interfaces := #[7, 4], accessFlags := 1041 }

def heap : Heap := #[{ cls := 6, slots := #[.ref 1, .ref 2, .ref 3, .ref 4, .ref 5, .ref 6, .ref 7, .ref 8, .ref 9, .ref 10, .null], vm := .statics 6 },
  { cls := 6, slots := #[.null, .int 0, .int 0], vm := .none },
  { cls := 6, slots := #[.null, .int 1, .int 0], vm := .none },
  { cls := 6, slots := #[.null, .int 2, .int 0], vm := .none },
  { cls := 6, slots := #[.null, .int 3, .int 0], vm := .none },
  { cls := 6, slots := #[.null, .int 4, .int 0], vm := .none },
  { cls := 6, slots := #[.null, .int 5, .int 0], vm := .none },
  { cls := 6, slots := #[.null, .int 6, .int 0], vm := .none },
  { cls := 6, slots := #[.null, .int 7, .int 0], vm := .none },
  { cls := 6, slots := #[.null, .int 8, .int 0], vm := .none },
  { cls := 6, slots := #[.null, .int 9, .int 0], vm := .none }]
def classes : Array Class := #[k0, k1, k2, k3, k4, k5, k6, k7, k8, k9, k10, k11, k12]
def interned : List (Array UInt16 × Addr) := []
def slotsUsed : Nat := 41
def theMethod : MethodId := ⟨1, 1⟩
def args0 : Array Value := #[.int 5]
def aboutOver (below : List Frame) : State where
  vm := { classes := classes, interned := interned.toArray }
  heap := heap
  slotsUsed := slotsUsed
  threads := #[{ frames := .invoking theMethod args0 :: below }]
def below0 : List Frame := [.native { method := ⟨0, 0⟩, args := #[] }]
def about1 : State := aboutOver below0
def p0 : Program := .bare "" "" ""
def e0 : Env := launch0.env 0 0 0
theorem w_frames : about1.frames = Frame.invoking theMethod args0 :: below0 := rfl
set_option maxRecDepth 65536 in
theorem w_args : argsFit about1.vm theMethod args0 = true := by decide +kernel
set_option maxRecDepth 65536 in
theorem w_heap : heapFits about1 = true := by decide +kernel
set_option maxRecDepth 65536 in
theorem w_runnable : about1.curStatus? = some .runnable := by decide +kernel
set_option maxRecDepth 65536 in
theorem w_alone : about1.alone = true := by decide +kernel
set_option maxRecDepth 65536 in
theorem w_named : about1.methodNamed? x = some theMethod := by decide +kernel
set_option maxRecDepth 65536 in
theorem w_hears : about1.hears theMethod below0 = true := by decide +kernel
set_option maxRecDepth 65536 in
theorem w_ripe : about1.ripe theMethod args0 below0 = true := by decide +kernel
theorem w_running : about1.status = .running := rfl
set_option maxRecDepth 65536 in
theorem w_room : about1.hasRoom e0.platform room_1 = true :=
  launch0.hasRoom_least _ room_1 (by decide +kernel) (by decide +kernel) (by decide +kernel) (by decide +kernel) (by decide +kernel) (by decide +kernel)
theorem allAtoms_all (ts : List Jvm.Cond) (a : Array Jvm.Value) (st : Jvm.State) : (allAtoms ts).before a st = ts.all (fun c => c.before a st) := by
  induction ts with
  | nil => rfl
  | cons c t ih =>
    show (Jvm.Cond.and c (allAtoms t)).before a st = _
    rw [Jvm.Cond.before_and, ih, List.all_cons]
def words1 : List Jvm.Cond := Jvm.Cond.code x code maxLocals ret :: tables_1
/-- a 'code' word, met by the world's own term for the bytes: nothing is compared byte by byte -/
theorem code_word {y : MethodName} {bytes : ByteArray} {mx : Nat} {rt : Option FieldType} {a : Array Value} {s : State} {m : MethodId} {meth : Method} {c : Code} (h1 : s.methodNamed? y = some m) (h2 : s.vm.method? m = some meth) (h3 : meth.code = some c) (h4 : c.code = bytes)
    (h5 : (c.maxLocals == mx && c.exceptionTable.isEmpty && decide (c.maxStack ≤ mostOperands) && decide (meth.sig.returnType = rt) && !meth.locks && decide (parseMethodDescriptor y.desc = some meth.sig)) = true) : (Jvm.Cond.code y bytes mx rt).before a s = true := by
  simp only [Bool.and_eq_true, beq_iff_eq, Bool.not_eq_true', decide_eq_true_eq] at h5
  obtain ⟨⟨⟨⟨⟨g1, g2⟩, g3⟩, g4⟩, g5⟩, g6⟩ := h5
  simp [Cond.before, Cond.holds, Cond.value, h1, h2, h3, h4, g1, g2, g3, g4, g5, g6]
def isCode : Jvm.Cond → Bool
  | .code _ _ _ _ => true
  | _ => false
theorem all_split {L : List Jvm.Cond} {P : Jvm.Cond → Bool} (h1 : L.all (fun c => isCode c || P c) = true) (h2 : ∀ c ∈ L.filter isCode, P c = true) : L.all P = true := by
  refine List.all_eq_true.mpr fun c hc => ?_
  have h := List.all_eq_true.mp h1 c hc
  rcases Bool.eq_false_or_eq_true (isCode c) with hi | hi
  · exact h2 c (List.mem_filter.mpr ⟨hc, hi⟩)
  · simpa [hi] using h
set_option maxRecDepth 65536 in
theorem w_c0 : (Jvm.Cond.code x code maxLocals ret).before args0 about1 = true := code_word (m := ⟨1, 1⟩) (meth := k1m1) (c := k1c1) (by decide +kernel) rfl rfl rfl (by decide +kernel)
set_option maxRecDepth 65536 in
theorem w_c1 : (Jvm.Cond.code ({ cls := "com/example/ovenbird/ovenbird/model/AttributeType", name := "isScalar", desc := "()Z" } : Jvm.MethodName) prog_50_method_4_code (1 : Nat) (Option.some Jvm.ClassFile.FieldType.boolean)).before args0 about1 = true := code_word (m := ⟨6, 0⟩) (meth := k6m0) (c := k6c0) (by decide +kernel) rfl rfl rfl (by decide +kernel)
set_option maxRecDepth 65536 in
theorem w_c2 : (Jvm.Cond.code ({ cls := "com/example/ovenbird/ovenbird/model/AttributeType", name := "elementType", desc := "()Lcom/example/ovenbird/ovenbird/model/AttributeType;" } : Jvm.MethodName) prog_50_method_6_code (1 : Nat) (Option.some (Jvm.ClassFile.FieldType.object "com/example/ovenbird/ovenbird/model/AttributeType"))).before args0 about1 = true := code_word (m := ⟨6, 1⟩) (meth := k6m1) (c := k6c1) (by decide +kernel) rfl rfl rfl (by decide +kernel)
set_option maxRecDepth 65536 in
theorem w_c3 : (Jvm.Cond.code ({ cls := "java/lang/Enum", name := "ordinal", desc := "()I" } : Jvm.MethodName) jdk_37_method_2_code (1 : Nat) (Option.some Jvm.ClassFile.FieldType.int)).before args0 about1 = true := code_word (m := ⟨5, 0⟩) (meth := k5m0) (c := k5c0) (by decide +kernel) rfl rfl rfl (by decide +kernel)
def codes1 : List Jvm.Cond := [Jvm.Cond.code x code maxLocals ret, Jvm.Cond.code ({ cls := "com/example/ovenbird/ovenbird/model/AttributeType", name := "isScalar", desc := "()Z" } : Jvm.MethodName) prog_50_method_4_code (1 : Nat) (Option.some Jvm.ClassFile.FieldType.boolean), Jvm.Cond.code ({ cls := "com/example/ovenbird/ovenbird/model/AttributeType", name := "elementType", desc := "()Lcom/example/ovenbird/ovenbird/model/AttributeType;" } : Jvm.MethodName) prog_50_method_6_code (1 : Nat) (Option.some (Jvm.ClassFile.FieldType.object "com/example/ovenbird/ovenbird/model/AttributeType")), Jvm.Cond.code ({ cls := "java/lang/Enum", name := "ordinal", desc := "()I" } : Jvm.MethodName) jdk_37_method_2_code (1 : Nat) (Option.some Jvm.ClassFile.FieldType.int)]
set_option maxRecDepth 65536 in
theorem codes_eq : words1.filter isCode = codes1 := rfl
theorem w_codes : ∀ c ∈ words1.filter isCode, c.before args0 about1 = true := by
  rw [codes_eq]
  intro c hc
  simp only [codes1, List.mem_cons, List.not_mem_nil, or_false] at hc
  rcases hc with rfl | rfl | rfl | rfl
  · exact w_c0
  · exact w_c1
  · exact w_c2
  · exact w_c3
set_option maxRecDepth 65536 in
theorem w_t1 : (words1.take 24).all (fun c => isCode c || c.before args0 about1) = true := by decide +kernel
set_option maxRecDepth 65536 in
theorem w_t2 : (words1.drop 24).all (fun c => isCode c || c.before args0 about1) = true := by decide +kernel
theorem w_tables : (allAtoms (Jvm.Cond.code x code maxLocals ret :: tables_1)).before args0 about1 = true := by
  rw [allAtoms_all]
  show words1.all (fun c => c.before args0 about1) = true
  refine all_split ?_ w_codes
  rw [← List.take_append_drop 24 words1, List.all_append, w_t1, w_t2]
  rfl
set_option maxRecDepth 65536 in
theorem w_case : (Jvm.Cond.and given_1 narrow_1).before args0 about1 = true := by decide +kernel
theorem w_applies : (headSpec (Jvm.Cond.code x code maxLocals ret :: tables_1) room_1).applies x e0.platform about1 = true :=
  (Spec.applies_iff w_frames).mpr ⟨w_running, w_runnable, w_alone, w_named, w_hears, w_ripe, w_room, w_tables⟩
theorem atStart : AtStart classFile x code maxLocals ret World_1 tables_1 room_1 Calls_1 rest_1 Pre_1 launch0 p0 e0 about1 theMethod args0 below0 :=
  ⟨lists_1, trivial, launch0.admits_env _ _ _, launch0.least_env, fairChoices_fair.cas, fairChoices_fair.clock, w_frames, w_args, w_heap, w_applies, trivial, trivial, w_case⟩
end start1
theorem witness_1 : WitnessClaimed_1 := ⟨start1.p0, start1.e0, start1.about1, start1.theMethod, start1.args0, start1.below0, start1.atStart⟩
end Jvm.Pilot.@@N@@
