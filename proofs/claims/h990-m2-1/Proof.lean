import JvmDerived
import JvmDerived.Pilot.@@N@@Statement
import JvmDerived.Pilot.@@N@@Code
set_option linter.unusedVariables false
set_option linter.unusedSimpArgs false

namespace Jvm.Pilot.@@N@@
open Jvm Jvm.ClassFile Sem Op Lib Jvm.Free Jvm.Stand Jvm.LawKit Jvm.RoadKit Bundle Jvm.Pilot.@@N@@.Jvm.D
/-- a body that writes nothing and returns r -/
def own_Pure (r : Option Value) (h0 : Heap) (n0 : Nat) (v : Option Value) (h : Heap) (L : List Loc) : Prop := v = r ∧ Fr n0 L ∧ h = h0
theorem own_fld_eq {args : Array Value} {Z : State} {t : Term} {a : Addr} {C n d : String} {k : Int32} (ht : t.eval args Z none [] Z = some (.ref a))
    (h : (Cond.eq (.field t C n d) (.int k)).value args Z none Z [] = some true) : Fld Z Z.heap a C n d (.int k) := by
  apply Fld.start
  have e1 : (Term.field t C n d).eval args Z none [] Z = Z.fieldOf? a C n d := fld_at ht
  rw [← e1]
  have e2 : (Term.int k).eval args Z none [] Z = some (.int k) := Term.int_eval k
  simp only [Cond.value] at h
  cases hx : (Term.field t C n d).eval args Z none [] Z with
  | none => simp [hx] at h
  | some v => cases v <;> simp [hx, e2] at h ⊢; exact h
/-- what the case says of the pinned statics -/
def own_W (Z : State) (h : Heap) (w_S w_SS w_NS w_BS w_BOOL w_N w_NULL w_B w_M w_L : Addr) : Prop :=
  Sta Z h "com/example/ovenbird/ovenbird/model/AttributeType" "S" "Lcom/example/ovenbird/ovenbird/model/AttributeType;" (.ref w_S) ∧
  Exa Z h w_S "com/example/ovenbird/ovenbird/model/AttributeType" ∧
  Fld Z h w_S "java/lang/Enum" "ordinal" "I" (.int (0 : Int32)) ∧
  Sta Z h "com/example/ovenbird/ovenbird/model/AttributeType" "SS" "Lcom/example/ovenbird/ovenbird/model/AttributeType;" (.ref w_SS) ∧
  Exa Z h w_SS "com/example/ovenbird/ovenbird/model/AttributeType" ∧
  Fld Z h w_SS "java/lang/Enum" "ordinal" "I" (.int (7 : Int32)) ∧
  Sta Z h "com/example/ovenbird/ovenbird/model/AttributeType" "NS" "Lcom/example/ovenbird/ovenbird/model/AttributeType;" (.ref w_NS) ∧
  Exa Z h w_NS "com/example/ovenbird/ovenbird/model/AttributeType" ∧
  Fld Z h w_NS "java/lang/Enum" "ordinal" "I" (.int (8 : Int32)) ∧
  Sta Z h "com/example/ovenbird/ovenbird/model/AttributeType" "BS" "Lcom/example/ovenbird/ovenbird/model/AttributeType;" (.ref w_BS) ∧
  Exa Z h w_BS "com/example/ovenbird/ovenbird/model/AttributeType" ∧
  Fld Z h w_BS "java/lang/Enum" "ordinal" "I" (.int (9 : Int32)) ∧
  Sta Z h "com/example/ovenbird/ovenbird/model/AttributeType" "BOOL" "Lcom/example/ovenbird/ovenbird/model/AttributeType;" (.ref w_BOOL) ∧
  Exa Z h w_BOOL "com/example/ovenbird/ovenbird/model/AttributeType" ∧
  Fld Z h w_BOOL "java/lang/Enum" "ordinal" "I" (.int (3 : Int32)) ∧
  Sta Z h "com/example/ovenbird/ovenbird/model/AttributeType" "N" "Lcom/example/ovenbird/ovenbird/model/AttributeType;" (.ref w_N) ∧
  Exa Z h w_N "com/example/ovenbird/ovenbird/model/AttributeType" ∧
  Fld Z h w_N "java/lang/Enum" "ordinal" "I" (.int (1 : Int32)) ∧
  Sta Z h "com/example/ovenbird/ovenbird/model/AttributeType" "NULL" "Lcom/example/ovenbird/ovenbird/model/AttributeType;" (.ref w_NULL) ∧
  Exa Z h w_NULL "com/example/ovenbird/ovenbird/model/AttributeType" ∧
  Fld Z h w_NULL "java/lang/Enum" "ordinal" "I" (.int (4 : Int32)) ∧
  Sta Z h "com/example/ovenbird/ovenbird/model/AttributeType" "B" "Lcom/example/ovenbird/ovenbird/model/AttributeType;" (.ref w_B) ∧
  Exa Z h w_B "com/example/ovenbird/ovenbird/model/AttributeType" ∧
  Fld Z h w_B "java/lang/Enum" "ordinal" "I" (.int (2 : Int32)) ∧
  Sta Z h "com/example/ovenbird/ovenbird/model/AttributeType" "M" "Lcom/example/ovenbird/ovenbird/model/AttributeType;" (.ref w_M) ∧
  Exa Z h w_M "com/example/ovenbird/ovenbird/model/AttributeType" ∧
  Fld Z h w_M "java/lang/Enum" "ordinal" "I" (.int (5 : Int32)) ∧
  Sta Z h "com/example/ovenbird/ovenbird/model/AttributeType" "L" "Lcom/example/ovenbird/ovenbird/model/AttributeType;" (.ref w_L) ∧
  Exa Z h w_L "com/example/ovenbird/ovenbird/model/AttributeType" ∧
  Fld Z h w_L "java/lang/Enum" "ordinal" "I" (.int (6 : Int32))
theorem own_W.ext {Z : State} {h h' : Heap} {w_S w_SS w_NS w_BS w_BOOL w_N w_NULL w_B w_M w_L : Addr} (E : Ext h h') (H : own_W Z h w_S w_SS w_NS w_BS w_BOOL w_N w_NULL w_B w_M w_L) : own_W Z h' w_S w_SS w_NS w_BS w_BOOL w_N w_NULL w_B w_M w_L := by
  obtain ⟨S_S, E_S, F_S_ordinal, S_SS, E_SS, F_SS_ordinal, S_NS, E_NS, F_NS_ordinal, S_BS, E_BS, F_BS_ordinal, S_BOOL, E_BOOL, F_BOOL_ordinal, S_N, E_N, F_N_ordinal, S_NULL, E_NULL, F_NULL_ordinal, S_B, E_B, F_B_ordinal, S_M, E_M, F_M_ordinal, S_L, E_L, F_L_ordinal⟩ := H
  exact ⟨S_S.ext E, E_S.ext E, F_S_ordinal.ext E, S_SS.ext E, E_SS.ext E, F_SS_ordinal.ext E, S_NS.ext E, E_NS.ext E, F_NS_ordinal.ext E, S_BS.ext E, E_BS.ext E, F_BS_ordinal.ext E, S_BOOL.ext E, E_BOOL.ext E, F_BOOL_ordinal.ext E, S_N.ext E, E_N.ext E, F_N_ordinal.ext E, S_NULL.ext E, E_NULL.ext E, F_NULL_ordinal.ext E, S_B.ext E, E_B.ext E, F_B_ordinal.ext E, S_M.ext E, E_M.ext E, F_M_ordinal.ext E, S_L.ext E, E_L.ext E, F_L_ordinal.ext E⟩
theorem own_rem10 (x : Int32) : (x &&& (2147483647 : Int32)) % (10 : Int32) = (0 : Int32) ∨ (x &&& (2147483647 : Int32)) % (10 : Int32) = (1 : Int32) ∨ (x &&& (2147483647 : Int32)) % (10 : Int32) = (2 : Int32) ∨ (x &&& (2147483647 : Int32)) % (10 : Int32) = (3 : Int32) ∨ (x &&& (2147483647 : Int32)) % (10 : Int32) = (4 : Int32) ∨ (x &&& (2147483647 : Int32)) % (10 : Int32) = (5 : Int32) ∨ (x &&& (2147483647 : Int32)) % (10 : Int32) = (6 : Int32) ∨ (x &&& (2147483647 : Int32)) % (10 : Int32) = (7 : Int32) ∨ (x &&& (2147483647 : Int32)) % (10 : Int32) = (8 : Int32) ∨ (x &&& (2147483647 : Int32)) % (10 : Int32) = (9 : Int32) := by
  have h1 : (x &&& (2147483647 : Int32)).toInt = x.toInt % 2147483648 := c_mask x 2147483647 31 (by decide) (by decide)
  have h2 := (c_irem (x &&& (2147483647 : Int32)) (10 : Int32) 10 (by decide)).1 (by omega)
  have h3 : ((x &&& (2147483647 : Int32)) % (10 : Int32)).toInt = 0 ∨ ((x &&& (2147483647 : Int32)) % (10 : Int32)).toInt = 1 ∨ ((x &&& (2147483647 : Int32)) % (10 : Int32)).toInt = 2 ∨ ((x &&& (2147483647 : Int32)) % (10 : Int32)).toInt = 3 ∨ ((x &&& (2147483647 : Int32)) % (10 : Int32)).toInt = 4 ∨ ((x &&& (2147483647 : Int32)) % (10 : Int32)).toInt = 5 ∨ ((x &&& (2147483647 : Int32)) % (10 : Int32)).toInt = 6 ∨ ((x &&& (2147483647 : Int32)) % (10 : Int32)).toInt = 7 ∨ ((x &&& (2147483647 : Int32)) % (10 : Int32)).toInt = 8 ∨ ((x &&& (2147483647 : Int32)) % (10 : Int32)).toInt = 9 := by omega
  rcases h3 with h | h | h | h | h | h | h | h | h | h
  · exact Or.inl (Int32.toInt_inj.mp (by rw [h]; decide))
  · exact Or.inr (Or.inl (Int32.toInt_inj.mp (by rw [h]; decide)))
  · exact Or.inr (Or.inr (Or.inl (Int32.toInt_inj.mp (by rw [h]; decide))))
  · exact Or.inr (Or.inr (Or.inr (Or.inl (Int32.toInt_inj.mp (by rw [h]; decide)))))
  · exact Or.inr (Or.inr (Or.inr (Or.inr (Or.inl (Int32.toInt_inj.mp (by rw [h]; decide))))))
  · exact Or.inr (Or.inr (Or.inr (Or.inr (Or.inr (Or.inl (Int32.toInt_inj.mp (by rw [h]; decide)))))))
  · exact Or.inr (Or.inr (Or.inr (Or.inr (Or.inr (Or.inr (Or.inl (Int32.toInt_inj.mp (by rw [h]; decide))))))))
  · exact Or.inr (Or.inr (Or.inr (Or.inr (Or.inr (Or.inr (Or.inr (Or.inl (Int32.toInt_inj.mp (by rw [h]; decide)))))))))
  · exact Or.inr (Or.inr (Or.inr (Or.inr (Or.inr (Or.inr (Or.inr (Or.inr (Or.inl (Int32.toInt_inj.mp (by rw [h]; decide))))))))))
  · exact Or.inr (Or.inr (Or.inr (Or.inr (Or.inr (Or.inr (Or.inr (Or.inr (Or.inr ((Int32.toInt_inj.mp (by rw [h]; decide)))))))))))
theorem d1_0 : decode method_2_code 0 = .ok (.iload_n 0, 1) := by decide +kernel
theorem d1_1 : decode method_2_code 1 = .ok (.ifCond .ne 7, 3) := by decide +kernel
theorem d1_4 : decode method_2_code 4 = .ok (.getstatic 7, 3) := by decide +kernel
theorem d1_7 : decode method_2_code 7 = .ok (.areturn, 1) := by decide +kernel
theorem d1_8 : decode method_2_code 8 = .ok (.iload_n 0, 1) := by decide +kernel
theorem d1_9 : decode method_2_code 9 = .ok (.iconst 1, 1) := by decide +kernel
theorem d1_10 : decode method_2_code 10 = .ok (.if_icmp .ne 7, 3) := by decide +kernel
theorem d1_13 : decode method_2_code 13 = .ok (.getstatic 13, 3) := by decide +kernel
theorem d1_16 : decode method_2_code 16 = .ok (.areturn, 1) := by decide +kernel
theorem d1_17 : decode method_2_code 17 = .ok (.iload_n 0, 1) := by decide +kernel
theorem d1_18 : decode method_2_code 18 = .ok (.iconst 2, 1) := by decide +kernel
theorem d1_19 : decode method_2_code 19 = .ok (.if_icmp .ne 7, 3) := by decide +kernel
theorem d1_22 : decode method_2_code 22 = .ok (.getstatic 16, 3) := by decide +kernel
theorem d1_25 : decode method_2_code 25 = .ok (.areturn, 1) := by decide +kernel
theorem d1_26 : decode method_2_code 26 = .ok (.iload_n 0, 1) := by decide +kernel
theorem d1_27 : decode method_2_code 27 = .ok (.iconst 3, 1) := by decide +kernel
theorem d1_28 : decode method_2_code 28 = .ok (.if_icmp .ne 7, 3) := by decide +kernel
theorem d1_31 : decode method_2_code 31 = .ok (.getstatic 19, 3) := by decide +kernel
theorem d1_34 : decode method_2_code 34 = .ok (.areturn, 1) := by decide +kernel
theorem d1_35 : decode method_2_code 35 = .ok (.iload_n 0, 1) := by decide +kernel
theorem d1_36 : decode method_2_code 36 = .ok (.iconst 4, 1) := by decide +kernel
theorem d1_37 : decode method_2_code 37 = .ok (.if_icmp .ne 7, 3) := by decide +kernel
theorem d1_40 : decode method_2_code 40 = .ok (.getstatic 22, 3) := by decide +kernel
theorem d1_43 : decode method_2_code 43 = .ok (.areturn, 1) := by decide +kernel
theorem d1_44 : decode method_2_code 44 = .ok (.iload_n 0, 1) := by decide +kernel
theorem d1_45 : decode method_2_code 45 = .ok (.iconst 5, 1) := by decide +kernel
theorem d1_46 : decode method_2_code 46 = .ok (.if_icmp .ne 7, 3) := by decide +kernel
theorem d1_49 : decode method_2_code 49 = .ok (.getstatic 25, 3) := by decide +kernel
theorem d1_52 : decode method_2_code 52 = .ok (.areturn, 1) := by decide +kernel
theorem d1_53 : decode method_2_code 53 = .ok (.iload_n 0, 1) := by decide +kernel
theorem d1_54 : decode method_2_code 54 = .ok (.bipush 6, 2) := by decide +kernel
theorem d1_56 : decode method_2_code 56 = .ok (.if_icmp .ne 7, 3) := by decide +kernel
theorem d1_59 : decode method_2_code 59 = .ok (.getstatic 28, 3) := by decide +kernel
theorem d1_62 : decode method_2_code 62 = .ok (.areturn, 1) := by decide +kernel
theorem d1_63 : decode method_2_code 63 = .ok (.iload_n 0, 1) := by decide +kernel
theorem d1_64 : decode method_2_code 64 = .ok (.bipush 7, 2) := by decide +kernel
theorem d1_66 : decode method_2_code 66 = .ok (.if_icmp .ne 7, 3) := by decide +kernel
theorem d1_69 : decode method_2_code 69 = .ok (.getstatic 31, 3) := by decide +kernel
theorem d1_72 : decode method_2_code 72 = .ok (.areturn, 1) := by decide +kernel
theorem d1_73 : decode method_2_code 73 = .ok (.iload_n 0, 1) := by decide +kernel
theorem d1_74 : decode method_2_code 74 = .ok (.bipush 8, 2) := by decide +kernel
theorem d1_76 : decode method_2_code 76 = .ok (.if_icmp .ne 7, 3) := by decide +kernel
theorem d1_79 : decode method_2_code 79 = .ok (.getstatic 34, 3) := by decide +kernel
theorem d1_82 : decode method_2_code 82 = .ok (.areturn, 1) := by decide +kernel
theorem d1_83 : decode method_2_code 83 = .ok (.getstatic 37, 3) := by decide +kernel
theorem d1_86 : decode method_2_code 86 = .ok (.areturn, 1) := by decide +kernel
theorem pn_46 : plainName "com/example/ovenbird/ovenbird/model/AttributeTypeIsSetPinLaw" = true := by first | (simp [plainName, overriddenIn]; done) | decide +kernel
theorem ef_rm_pick (m : MethodId) (x0 : Int32) : entryFrame m #[(.int x0)] 1 = mkF m 0 #[.val (.int x0)] [] := by first | (simp [entryFrame, mkF, argsToLocals, Value.category]; done) | rfl
set_option maxRecDepth 65536 in
set_option maxHeartbeats 40000000 in
theorem rm_pick (l : Launch) (Z : State) (a0 : Array Value) (hw : ∀ d ∈ tables_1, d.before a0 Z = true) (ws : List Jvm.Cond) (k : Int32) (h0 : Heap) (n0 : Nat) (Z0 : n0 ≤ h0.size) (w_S w_SS w_NS w_BS w_BOOL w_N w_NULL w_B w_M w_L : Addr) (hWd : own_W Z h0 w_S w_SS w_NS w_BS w_BOOL w_N w_NULL w_B w_M w_L) (r : Addr) (hres : (if k = (0 : Int32) then w_S else if k = (1 : Int32) then w_N else if k = (2 : Int32) then w_B else if k = (3 : Int32) then w_BOOL else if k = (4 : Int32) then w_NULL else if k = (5 : Int32) then w_M else if k = (6 : Int32) then w_L else if k = (7 : Int32) then w_SS else if k = (8 : Int32) then w_NS else w_BS) = r) :
    MetFree l (⟨"com/example/ovenbird/ovenbird/model/AttributeTypeIsSetPinLaw", "pick", "(I)Lcom/example/ovenbird/ovenbird/model/AttributeType;"⟩ : MethodName) (head1 (Jvm.Cond.code (⟨"com/example/ovenbird/ovenbird/model/AttributeTypeIsSetPinLaw", "pick", "(I)Lcom/example/ovenbird/ovenbird/model/AttributeType;"⟩ : MethodName) method_2_code 1 (some (.object "com/example/ovenbird/ovenbird/model/AttributeType")) :: ws) ({ frames := 0, cells := 0, slots := 0, locals := 0 } : Room)) (fun aQ UQ => aQ = #[(.int k)] ∧ Z.Warmed39 UQ.vm ∧ UQ.heap = h0) (fun _ _ _ _ _ => True) (fun _ UQ oQ UR => ∃ vQ LQ, oQ = .returned vQ ∧ own_Pure (some (.ref r)) h0 n0 vQ UR.heap LQ ∧ FrameEnd UQ oQ UR LQ ({ frames := 0, cells := 0, slots := 0, locals := 0 } : Room).cells ({ frames := 0, cells := 0, slots := 0, locals := 0 } : Room).slots) := by
  refine MetFree.of_bodySF (plainFor_of_name pn_46) hisR ?_
  intro p e s m args below meth c s₁ Bd hml0 hP hK
  obtain ⟨rfl, hZ, hh⟩ := hP
  have hx := Bd.exec
  have hby := Bd.bytes
  have hml : c.maxLocals = 1 := hml0
  have hown : s.vm.findClass "com/example/ovenbird/ovenbird/model/AttributeTypeIsSetPinLaw" = some m.cls := findClass_of_methodNamed Bd.named
  have hnm := (name_of_methodNamed Bd.named Bd.method).1
  have X0 : Stand p l e ({ frames := 0, cells := 0, slots := 0, locals := 0 } : Room) s m #[(.int k)] below meth c s₁ [] 0 0 := Stand.of_body Bd
  have e0 : s₁.heap = h0 := by rw [← hh, Bd.state]; rfl
  have N0 := Fr.nil n0
  have pre0 : ∀ t, Steps p.tables e below (s₁.setTop (mkF m 0 #[.val (.int k)] [])) t → Steps p.tables e below (s₁.setTop (entryFrame m #[(.int k)] 1)) t := fun t kq => castTop (ef_rm_pick m k) kq
  obtain ⟨S_S, E_S, F_S_ordinal, S_SS, E_SS, F_SS_ordinal, S_NS, E_NS, F_NS_ordinal, S_BS, E_BS, F_BS_ordinal, S_BOOL, E_BOOL, F_BOOL_ordinal, S_N, E_N, F_N_ordinal, S_NULL, E_NULL, F_NULL_ordinal, S_B, E_B, F_B_ordinal, S_M, E_M, F_M_ordinal, S_L, E_L, F_L_ordinal⟩ := hWd
  by_cases hc1_39 : k = (0 : Int32)
  · -- pc 1: k = (0 : Int32)
    obtain ⟨T40, X40, e40, st40⟩ := getS2 X0 hx hZ hown (host := "") (Or.inl (hw _ (List.mem_of_getElem? (i := 5) rfl))) Via.refl e0 S_S (g := (mkF m 4 #[.val (.int k)] [])) rfl (hb hby d1_4)
    obtain ⟨fs, hr, hrun, hended, hW, hsame⟩ := X40.leave (v := some (.ref w_S)) (fun h => by rw [Bd.returns] at h; cases h)
    refine ⟨_, _, pre0 _ ?_, hrun, hended, _, _, rfl, ?_, ⟨_, rfl⟩, hW, hsame.mono (by decide) (by decide)⟩
    · show Steps p.tables e below (s₁.setTop (mkF m 0 #[.val (.int k)] [])) _
      refine XS.iloadN X0.here hx rfl (hb hby d1_0) rfl ?_
      show Steps p.tables e below (s₁.setTop (mkF m 1 #[.val (.int k)] [(.int k)])) _
      refine XS.ifNo X0.here hx rfl (hb hby d1_1) rfl ((if0 _ _).trans (teq hc1_39).2) ?_
      show Steps p.tables e below (s₁.setTop (mkF m 4 #[.val (.int k)] [])) _
      refine st40 _ ?_
      show Steps p.tables e below (T40.setTop (mkF m 7 #[.val (.int k)] [(.ref w_S)])) _
      exact retOut X40 hx Bd.returns rfl (Or.inr (Or.inr (Or.inr (Or.inr ⟨rfl, rfl, rfl⟩)))) (hb hby d1_7) hr
    · show own_Pure (some (.ref r)) h0 n0 _ T40.heap _
      rw [e40]
      exact ⟨by rw [← hres]; simp only [if_pos hc1_39], N0, rfl⟩
  · -- pc 1: not k = (0 : Int32)
    have ck42 : ∀ t, Steps p.tables e below (s₁.setTop (mkF m 10 #[.val (.int k)] [(.int (1 : Int32)), (.int k)])) t → Steps p.tables e below (s₁.setTop (entryFrame m #[(.int k)] 1)) t := by
      intro t kt
      refine pre0 _ ?_
      show Steps p.tables e below (s₁.setTop (mkF m 0 #[.val (.int k)] [])) _
      refine XS.iloadN X0.here hx rfl (hb hby d1_0) rfl ?_
      show Steps p.tables e below (s₁.setTop (mkF m 1 #[.val (.int k)] [(.int k)])) _
      refine XS.ifYes X0.here hx rfl (pc0 := 1) (pc' := 8) rfl (hb hby d1_1) rfl ((if0 _ _).trans (feq hc1_39).2) (by decide) (by decide) ?_
      show Steps p.tables e below (s₁.setTop (mkF m 8 #[.val (.int k)] [])) _
      refine XS.iloadN X0.here hx rfl (hb hby d1_8) rfl ?_
      show Steps p.tables e below (s₁.setTop (mkF m 9 #[.val (.int k)] [(.int k)])) _
      refine XS.iconst X0.here hx rfl (hb hby d1_9) ?_
      exact kt
    by_cases hc10_41 : k = (1 : Int32)
    · -- pc 10: k = (1 : Int32)
      obtain ⟨T43, X43, e43, st43⟩ := getS2 X0 hx hZ hown (host := "") (Or.inl (hw _ (List.mem_of_getElem? (i := 21) rfl))) Via.refl e0 S_N (g := (mkF m 13 #[.val (.int k)] [])) rfl (hb hby d1_13)
      obtain ⟨fs, hr, hrun, hended, hW, hsame⟩ := X43.leave (v := some (.ref w_N)) (fun h => by rw [Bd.returns] at h; cases h)
      refine ⟨_, _, ck42 _ ?_, hrun, hended, _, _, rfl, ?_, ⟨_, rfl⟩, hW, hsame.mono (by decide) (by decide)⟩
      · show Steps p.tables e below (s₁.setTop (mkF m 10 #[.val (.int k)] [(.int (1 : Int32)), (.int k)])) _
        refine XS.icmpNo X0.here hx rfl (hb hby d1_10) rfl (teq hc10_41).2 ?_
        show Steps p.tables e below (s₁.setTop (mkF m 13 #[.val (.int k)] [])) _
        refine st43 _ ?_
        show Steps p.tables e below (T43.setTop (mkF m 16 #[.val (.int k)] [(.ref w_N)])) _
        exact retOut X43 hx Bd.returns rfl (Or.inr (Or.inr (Or.inr (Or.inr ⟨rfl, rfl, rfl⟩)))) (hb hby d1_16) hr
      · show own_Pure (some (.ref r)) h0 n0 _ T43.heap _
        rw [e43]
        exact ⟨by rw [← hres]; simp only [if_neg hc1_39, if_pos hc10_41], N0, rfl⟩
    · -- pc 10: not k = (1 : Int32)
      by_cases hc19_44 : k = (2 : Int32)
      · -- pc 19: k = (2 : Int32)
        obtain ⟨T45, X45, e45, st45⟩ := getS2 X0 hx hZ hown (host := "") (Or.inl (hw _ (List.mem_of_getElem? (i := 26) rfl))) Via.refl e0 S_B (g := (mkF m 22 #[.val (.int k)] [])) rfl (hb hby d1_22)
        obtain ⟨fs, hr, hrun, hended, hW, hsame⟩ := X45.leave (v := some (.ref w_B)) (fun h => by rw [Bd.returns] at h; cases h)
        refine ⟨_, _, ck42 _ ?_, hrun, hended, _, _, rfl, ?_, ⟨_, rfl⟩, hW, hsame.mono (by decide) (by decide)⟩
        · show Steps p.tables e below (s₁.setTop (mkF m 10 #[.val (.int k)] [(.int (1 : Int32)), (.int k)])) _
          refine XS.icmpYes X0.here hx rfl (pc0 := 10) (pc' := 17) rfl (hb hby d1_10) rfl (feq hc10_41).2 (by decide) (by decide) ?_
          show Steps p.tables e below (s₁.setTop (mkF m 17 #[.val (.int k)] [])) _
          refine XS.iloadN X0.here hx rfl (hb hby d1_17) rfl ?_
          show Steps p.tables e below (s₁.setTop (mkF m 18 #[.val (.int k)] [(.int k)])) _
          refine XS.iconst X0.here hx rfl (hb hby d1_18) ?_
          show Steps p.tables e below (s₁.setTop (mkF m 19 #[.val (.int k)] [(.int (2 : Int32)), (.int k)])) _
          refine XS.icmpNo X0.here hx rfl (hb hby d1_19) rfl (teq hc19_44).2 ?_
          show Steps p.tables e below (s₁.setTop (mkF m 22 #[.val (.int k)] [])) _
          refine st45 _ ?_
          show Steps p.tables e below (T45.setTop (mkF m 25 #[.val (.int k)] [(.ref w_B)])) _
          exact retOut X45 hx Bd.returns rfl (Or.inr (Or.inr (Or.inr (Or.inr ⟨rfl, rfl, rfl⟩)))) (hb hby d1_25) hr
        · show own_Pure (some (.ref r)) h0 n0 _ T45.heap _
          rw [e45]
          exact ⟨by rw [← hres]; simp only [if_neg hc1_39, if_neg hc10_41, if_pos hc19_44], N0, rfl⟩
      · -- pc 19: not k = (2 : Int32)
        have ck47 : ∀ t, Steps p.tables e below (s₁.setTop (mkF m 28 #[.val (.int k)] [(.int (3 : Int32)), (.int k)])) t → Steps p.tables e below (s₁.setTop (entryFrame m #[(.int k)] 1)) t := by
          intro t kt
          refine ck42 _ ?_
          show Steps p.tables e below (s₁.setTop (mkF m 10 #[.val (.int k)] [(.int (1 : Int32)), (.int k)])) _
          refine XS.icmpYes X0.here hx rfl (pc0 := 10) (pc' := 17) rfl (hb hby d1_10) rfl (feq hc10_41).2 (by decide) (by decide) ?_
          show Steps p.tables e below (s₁.setTop (mkF m 17 #[.val (.int k)] [])) _
          refine XS.iloadN X0.here hx rfl (hb hby d1_17) rfl ?_
          show Steps p.tables e below (s₁.setTop (mkF m 18 #[.val (.int k)] [(.int k)])) _
          refine XS.iconst X0.here hx rfl (hb hby d1_18) ?_
          show Steps p.tables e below (s₁.setTop (mkF m 19 #[.val (.int k)] [(.int (2 : Int32)), (.int k)])) _
          refine XS.icmpYes X0.here hx rfl (pc0 := 19) (pc' := 26) rfl (hb hby d1_19) rfl (feq hc19_44).2 (by decide) (by decide) ?_
          show Steps p.tables e below (s₁.setTop (mkF m 26 #[.val (.int k)] [])) _
          refine XS.iloadN X0.here hx rfl (hb hby d1_26) rfl ?_
          show Steps p.tables e below (s₁.setTop (mkF m 27 #[.val (.int k)] [(.int k)])) _
          refine XS.iconst X0.here hx rfl (hb hby d1_27) ?_
          exact kt
        by_cases hc28_46 : k = (3 : Int32)
        · -- pc 28: k = (3 : Int32)
          obtain ⟨T48, X48, e48, st48⟩ := getS2 X0 hx hZ hown (host := "") (Or.inl (hw _ (List.mem_of_getElem? (i := 19) rfl))) Via.refl e0 S_BOOL (g := (mkF m 31 #[.val (.int k)] [])) rfl (hb hby d1_31)
          obtain ⟨fs, hr, hrun, hended, hW, hsame⟩ := X48.leave (v := some (.ref w_BOOL)) (fun h => by rw [Bd.returns] at h; cases h)
          refine ⟨_, _, ck47 _ ?_, hrun, hended, _, _, rfl, ?_, ⟨_, rfl⟩, hW, hsame.mono (by decide) (by decide)⟩
          · show Steps p.tables e below (s₁.setTop (mkF m 28 #[.val (.int k)] [(.int (3 : Int32)), (.int k)])) _
            refine XS.icmpNo X0.here hx rfl (hb hby d1_28) rfl (teq hc28_46).2 ?_
            show Steps p.tables e below (s₁.setTop (mkF m 31 #[.val (.int k)] [])) _
            refine st48 _ ?_
            show Steps p.tables e below (T48.setTop (mkF m 34 #[.val (.int k)] [(.ref w_BOOL)])) _
            exact retOut X48 hx Bd.returns rfl (Or.inr (Or.inr (Or.inr (Or.inr ⟨rfl, rfl, rfl⟩)))) (hb hby d1_34) hr
          · show own_Pure (some (.ref r)) h0 n0 _ T48.heap _
            rw [e48]
            exact ⟨by rw [← hres]; simp only [if_neg hc1_39, if_neg hc10_41, if_neg hc19_44, if_pos hc28_46], N0, rfl⟩
        · -- pc 28: not k = (3 : Int32)
          by_cases hc37_49 : k = (4 : Int32)
          · -- pc 37: k = (4 : Int32)
            obtain ⟨T50, X50, e50, st50⟩ := getS2 X0 hx hZ hown (host := "") (Or.inl (hw _ (List.mem_of_getElem? (i := 23) rfl))) Via.refl e0 S_NULL (g := (mkF m 40 #[.val (.int k)] [])) rfl (hb hby d1_40)
            obtain ⟨fs, hr, hrun, hended, hW, hsame⟩ := X50.leave (v := some (.ref w_NULL)) (fun h => by rw [Bd.returns] at h; cases h)
            refine ⟨_, _, ck47 _ ?_, hrun, hended, _, _, rfl, ?_, ⟨_, rfl⟩, hW, hsame.mono (by decide) (by decide)⟩
            · show Steps p.tables e below (s₁.setTop (mkF m 28 #[.val (.int k)] [(.int (3 : Int32)), (.int k)])) _
              refine XS.icmpYes X0.here hx rfl (pc0 := 28) (pc' := 35) rfl (hb hby d1_28) rfl (feq hc28_46).2 (by decide) (by decide) ?_
              show Steps p.tables e below (s₁.setTop (mkF m 35 #[.val (.int k)] [])) _
              refine XS.iloadN X0.here hx rfl (hb hby d1_35) rfl ?_
              show Steps p.tables e below (s₁.setTop (mkF m 36 #[.val (.int k)] [(.int k)])) _
              refine XS.iconst X0.here hx rfl (hb hby d1_36) ?_
              show Steps p.tables e below (s₁.setTop (mkF m 37 #[.val (.int k)] [(.int (4 : Int32)), (.int k)])) _
              refine XS.icmpNo X0.here hx rfl (hb hby d1_37) rfl (teq hc37_49).2 ?_
              show Steps p.tables e below (s₁.setTop (mkF m 40 #[.val (.int k)] [])) _
              refine st50 _ ?_
              show Steps p.tables e below (T50.setTop (mkF m 43 #[.val (.int k)] [(.ref w_NULL)])) _
              exact retOut X50 hx Bd.returns rfl (Or.inr (Or.inr (Or.inr (Or.inr ⟨rfl, rfl, rfl⟩)))) (hb hby d1_43) hr
            · show own_Pure (some (.ref r)) h0 n0 _ T50.heap _
              rw [e50]
              exact ⟨by rw [← hres]; simp only [if_neg hc1_39, if_neg hc10_41, if_neg hc19_44, if_neg hc28_46, if_pos hc37_49], N0, rfl⟩
          · -- pc 37: not k = (4 : Int32)
            have ck52 : ∀ t, Steps p.tables e below (s₁.setTop (mkF m 46 #[.val (.int k)] [(.int (5 : Int32)), (.int k)])) t → Steps p.tables e below (s₁.setTop (entryFrame m #[(.int k)] 1)) t := by
              intro t kt
              refine ck47 _ ?_
              show Steps p.tables e below (s₁.setTop (mkF m 28 #[.val (.int k)] [(.int (3 : Int32)), (.int k)])) _
              refine XS.icmpYes X0.here hx rfl (pc0 := 28) (pc' := 35) rfl (hb hby d1_28) rfl (feq hc28_46).2 (by decide) (by decide) ?_
              show Steps p.tables e below (s₁.setTop (mkF m 35 #[.val (.int k)] [])) _
              refine XS.iloadN X0.here hx rfl (hb hby d1_35) rfl ?_
              show Steps p.tables e below (s₁.setTop (mkF m 36 #[.val (.int k)] [(.int k)])) _
              refine XS.iconst X0.here hx rfl (hb hby d1_36) ?_
              show Steps p.tables e below (s₁.setTop (mkF m 37 #[.val (.int k)] [(.int (4 : Int32)), (.int k)])) _
              refine XS.icmpYes X0.here hx rfl (pc0 := 37) (pc' := 44) rfl (hb hby d1_37) rfl (feq hc37_49).2 (by decide) (by decide) ?_
              show Steps p.tables e below (s₁.setTop (mkF m 44 #[.val (.int k)] [])) _
              refine XS.iloadN X0.here hx rfl (hb hby d1_44) rfl ?_
              show Steps p.tables e below (s₁.setTop (mkF m 45 #[.val (.int k)] [(.int k)])) _
              refine XS.iconst X0.here hx rfl (hb hby d1_45) ?_
              exact kt
            by_cases hc46_51 : k = (5 : Int32)
            · -- pc 46: k = (5 : Int32)
              obtain ⟨T53, X53, e53, st53⟩ := getS2 X0 hx hZ hown (host := "") (Or.inl (hw _ (List.mem_of_getElem? (i := 30) rfl))) Via.refl e0 S_M (g := (mkF m 49 #[.val (.int k)] [])) rfl (hb hby d1_49)
              obtain ⟨fs, hr, hrun, hended, hW, hsame⟩ := X53.leave (v := some (.ref w_M)) (fun h => by rw [Bd.returns] at h; cases h)
              refine ⟨_, _, ck52 _ ?_, hrun, hended, _, _, rfl, ?_, ⟨_, rfl⟩, hW, hsame.mono (by decide) (by decide)⟩
              · show Steps p.tables e below (s₁.setTop (mkF m 46 #[.val (.int k)] [(.int (5 : Int32)), (.int k)])) _
                refine XS.icmpNo X0.here hx rfl (hb hby d1_46) rfl (teq hc46_51).2 ?_
                show Steps p.tables e below (s₁.setTop (mkF m 49 #[.val (.int k)] [])) _
                refine st53 _ ?_
                show Steps p.tables e below (T53.setTop (mkF m 52 #[.val (.int k)] [(.ref w_M)])) _
                exact retOut X53 hx Bd.returns rfl (Or.inr (Or.inr (Or.inr (Or.inr ⟨rfl, rfl, rfl⟩)))) (hb hby d1_52) hr
              · show own_Pure (some (.ref r)) h0 n0 _ T53.heap _
                rw [e53]
                exact ⟨by rw [← hres]; simp only [if_neg hc1_39, if_neg hc10_41, if_neg hc19_44, if_neg hc28_46, if_neg hc37_49, if_pos hc46_51], N0, rfl⟩
            · -- pc 46: not k = (5 : Int32)
              by_cases hc56_54 : k = (6 : Int32)
              · -- pc 56: k = (6 : Int32)
                obtain ⟨T55, X55, e55, st55⟩ := getS2 X0 hx hZ hown (host := "") (Or.inl (hw _ (List.mem_of_getElem? (i := 32) rfl))) Via.refl e0 S_L (g := (mkF m 59 #[.val (.int k)] [])) rfl (hb hby d1_59)
                obtain ⟨fs, hr, hrun, hended, hW, hsame⟩ := X55.leave (v := some (.ref w_L)) (fun h => by rw [Bd.returns] at h; cases h)
                refine ⟨_, _, ck52 _ ?_, hrun, hended, _, _, rfl, ?_, ⟨_, rfl⟩, hW, hsame.mono (by decide) (by decide)⟩
                · show Steps p.tables e below (s₁.setTop (mkF m 46 #[.val (.int k)] [(.int (5 : Int32)), (.int k)])) _
                  refine XS.icmpYes X0.here hx rfl (pc0 := 46) (pc' := 53) rfl (hb hby d1_46) rfl (feq hc46_51).2 (by decide) (by decide) ?_
                  show Steps p.tables e below (s₁.setTop (mkF m 53 #[.val (.int k)] [])) _
                  refine XS.iloadN X0.here hx rfl (hb hby d1_53) rfl ?_
                  show Steps p.tables e below (s₁.setTop (mkF m 54 #[.val (.int k)] [(.int k)])) _
                  refine XS.bipush X0.here hx rfl (hb hby d1_54) ?_
                  show Steps p.tables e below (s₁.setTop (mkF m 56 #[.val (.int k)] [(.int (6 : Int32)), (.int k)])) _
                  refine XS.icmpNo X0.here hx rfl (hb hby d1_56) rfl (teq hc56_54).2 ?_
                  show Steps p.tables e below (s₁.setTop (mkF m 59 #[.val (.int k)] [])) _
                  refine st55 _ ?_
                  show Steps p.tables e below (T55.setTop (mkF m 62 #[.val (.int k)] [(.ref w_L)])) _
                  exact retOut X55 hx Bd.returns rfl (Or.inr (Or.inr (Or.inr (Or.inr ⟨rfl, rfl, rfl⟩)))) (hb hby d1_62) hr
                · show own_Pure (some (.ref r)) h0 n0 _ T55.heap _
                  rw [e55]
                  exact ⟨by rw [← hres]; simp only [if_neg hc1_39, if_neg hc10_41, if_neg hc19_44, if_neg hc28_46, if_neg hc37_49, if_neg hc46_51, if_pos hc56_54], N0, rfl⟩
              · -- pc 56: not k = (6 : Int32)
                have ck57 : ∀ t, Steps p.tables e below (s₁.setTop (mkF m 66 #[.val (.int k)] [(.int (7 : Int32)), (.int k)])) t → Steps p.tables e below (s₁.setTop (entryFrame m #[(.int k)] 1)) t := by
                  intro t kt
                  refine ck52 _ ?_
                  show Steps p.tables e below (s₁.setTop (mkF m 46 #[.val (.int k)] [(.int (5 : Int32)), (.int k)])) _
                  refine XS.icmpYes X0.here hx rfl (pc0 := 46) (pc' := 53) rfl (hb hby d1_46) rfl (feq hc46_51).2 (by decide) (by decide) ?_
                  show Steps p.tables e below (s₁.setTop (mkF m 53 #[.val (.int k)] [])) _
                  refine XS.iloadN X0.here hx rfl (hb hby d1_53) rfl ?_
                  show Steps p.tables e below (s₁.setTop (mkF m 54 #[.val (.int k)] [(.int k)])) _
                  refine XS.bipush X0.here hx rfl (hb hby d1_54) ?_
                  show Steps p.tables e below (s₁.setTop (mkF m 56 #[.val (.int k)] [(.int (6 : Int32)), (.int k)])) _
                  refine XS.icmpYes X0.here hx rfl (pc0 := 56) (pc' := 63) rfl (hb hby d1_56) rfl (feq hc56_54).2 (by decide) (by decide) ?_
                  show Steps p.tables e below (s₁.setTop (mkF m 63 #[.val (.int k)] [])) _
                  refine XS.iloadN X0.here hx rfl (hb hby d1_63) rfl ?_
                  show Steps p.tables e below (s₁.setTop (mkF m 64 #[.val (.int k)] [(.int k)])) _
                  refine XS.bipush X0.here hx rfl (hb hby d1_64) ?_
                  exact kt
                by_cases hc66_56 : k = (7 : Int32)
                · -- pc 66: k = (7 : Int32)
                  obtain ⟨T58, X58, e58, st58⟩ := getS2 X0 hx hZ hown (host := "") (Or.inl (hw _ (List.mem_of_getElem? (i := 25) rfl))) Via.refl e0 S_SS (g := (mkF m 69 #[.val (.int k)] [])) rfl (hb hby d1_69)
                  obtain ⟨fs, hr, hrun, hended, hW, hsame⟩ := X58.leave (v := some (.ref w_SS)) (fun h => by rw [Bd.returns] at h; cases h)
                  refine ⟨_, _, ck57 _ ?_, hrun, hended, _, _, rfl, ?_, ⟨_, rfl⟩, hW, hsame.mono (by decide) (by decide)⟩
                  · show Steps p.tables e below (s₁.setTop (mkF m 66 #[.val (.int k)] [(.int (7 : Int32)), (.int k)])) _
                    refine XS.icmpNo X0.here hx rfl (hb hby d1_66) rfl (teq hc66_56).2 ?_
                    show Steps p.tables e below (s₁.setTop (mkF m 69 #[.val (.int k)] [])) _
                    refine st58 _ ?_
                    show Steps p.tables e below (T58.setTop (mkF m 72 #[.val (.int k)] [(.ref w_SS)])) _
                    exact retOut X58 hx Bd.returns rfl (Or.inr (Or.inr (Or.inr (Or.inr ⟨rfl, rfl, rfl⟩)))) (hb hby d1_72) hr
                  · show own_Pure (some (.ref r)) h0 n0 _ T58.heap _
                    rw [e58]
                    exact ⟨by rw [← hres]; simp only [if_neg hc1_39, if_neg hc10_41, if_neg hc19_44, if_neg hc28_46, if_neg hc37_49, if_neg hc46_51, if_neg hc56_54, if_pos hc66_56], N0, rfl⟩
                · -- pc 66: not k = (7 : Int32)
                  by_cases hc76_59 : k = (8 : Int32)
                  · -- pc 76: k = (8 : Int32)
                    obtain ⟨T60, X60, e60, st60⟩ := getS2 X0 hx hZ hown (host := "") (Or.inl (hw _ (List.mem_of_getElem? (i := 28) rfl))) Via.refl e0 S_NS (g := (mkF m 79 #[.val (.int k)] [])) rfl (hb hby d1_79)
                    obtain ⟨fs, hr, hrun, hended, hW, hsame⟩ := X60.leave (v := some (.ref w_NS)) (fun h => by rw [Bd.returns] at h; cases h)
                    refine ⟨_, _, ck57 _ ?_, hrun, hended, _, _, rfl, ?_, ⟨_, rfl⟩, hW, hsame.mono (by decide) (by decide)⟩
                    · show Steps p.tables e below (s₁.setTop (mkF m 66 #[.val (.int k)] [(.int (7 : Int32)), (.int k)])) _
                      refine XS.icmpYes X0.here hx rfl (pc0 := 66) (pc' := 73) rfl (hb hby d1_66) rfl (feq hc66_56).2 (by decide) (by decide) ?_
                      show Steps p.tables e below (s₁.setTop (mkF m 73 #[.val (.int k)] [])) _
                      refine XS.iloadN X0.here hx rfl (hb hby d1_73) rfl ?_
                      show Steps p.tables e below (s₁.setTop (mkF m 74 #[.val (.int k)] [(.int k)])) _
                      refine XS.bipush X0.here hx rfl (hb hby d1_74) ?_
                      show Steps p.tables e below (s₁.setTop (mkF m 76 #[.val (.int k)] [(.int (8 : Int32)), (.int k)])) _
                      refine XS.icmpNo X0.here hx rfl (hb hby d1_76) rfl (teq hc76_59).2 ?_
                      show Steps p.tables e below (s₁.setTop (mkF m 79 #[.val (.int k)] [])) _
                      refine st60 _ ?_
                      show Steps p.tables e below (T60.setTop (mkF m 82 #[.val (.int k)] [(.ref w_NS)])) _
                      exact retOut X60 hx Bd.returns rfl (Or.inr (Or.inr (Or.inr (Or.inr ⟨rfl, rfl, rfl⟩)))) (hb hby d1_82) hr
                    · show own_Pure (some (.ref r)) h0 n0 _ T60.heap _
                      rw [e60]
                      exact ⟨by rw [← hres]; simp only [if_neg hc1_39, if_neg hc10_41, if_neg hc19_44, if_neg hc28_46, if_neg hc37_49, if_neg hc46_51, if_neg hc56_54, if_neg hc66_56, if_pos hc76_59], N0, rfl⟩
                  · -- pc 76: not k = (8 : Int32)
                    obtain ⟨T61, X61, e61, st61⟩ := getS2 X0 hx hZ hown (host := "") (Or.inl (hw _ (List.mem_of_getElem? (i := 29) rfl))) Via.refl e0 S_BS (g := (mkF m 83 #[.val (.int k)] [])) rfl (hb hby d1_83)
                    obtain ⟨fs, hr, hrun, hended, hW, hsame⟩ := X61.leave (v := some (.ref w_BS)) (fun h => by rw [Bd.returns] at h; cases h)
                    refine ⟨_, _, ck57 _ ?_, hrun, hended, _, _, rfl, ?_, ⟨_, rfl⟩, hW, hsame.mono (by decide) (by decide)⟩
                    · show Steps p.tables e below (s₁.setTop (mkF m 66 #[.val (.int k)] [(.int (7 : Int32)), (.int k)])) _
                      refine XS.icmpYes X0.here hx rfl (pc0 := 66) (pc' := 73) rfl (hb hby d1_66) rfl (feq hc66_56).2 (by decide) (by decide) ?_
                      show Steps p.tables e below (s₁.setTop (mkF m 73 #[.val (.int k)] [])) _
                      refine XS.iloadN X0.here hx rfl (hb hby d1_73) rfl ?_
                      show Steps p.tables e below (s₁.setTop (mkF m 74 #[.val (.int k)] [(.int k)])) _
                      refine XS.bipush X0.here hx rfl (hb hby d1_74) ?_
                      show Steps p.tables e below (s₁.setTop (mkF m 76 #[.val (.int k)] [(.int (8 : Int32)), (.int k)])) _
                      refine XS.icmpYes X0.here hx rfl (pc0 := 76) (pc' := 83) rfl (hb hby d1_76) rfl (feq hc76_59).2 (by decide) (by decide) ?_
                      show Steps p.tables e below (s₁.setTop (mkF m 83 #[.val (.int k)] [])) _
                      refine st61 _ ?_
                      show Steps p.tables e below (T61.setTop (mkF m 86 #[.val (.int k)] [(.ref w_BS)])) _
                      exact retOut X61 hx Bd.returns rfl (Or.inr (Or.inr (Or.inr (Or.inr ⟨rfl, rfl, rfl⟩)))) (hb hby d1_86) hr
                    · show own_Pure (some (.ref r)) h0 n0 _ T61.heap _
                      rw [e61]
                      exact ⟨by rw [← hres]; simp only [if_neg hc1_39, if_neg hc10_41, if_neg hc19_44, if_neg hc28_46, if_neg hc37_49, if_neg hc46_51, if_neg hc56_54, if_neg hc66_56, if_neg hc76_59], N0, rfl⟩
theorem d2_0 : decode prog_50_method_5_code 0 = .ok (.aload_n 0, 1) := by decide +kernel
theorem d2_1 : decode prog_50_method_5_code 1 = .ok (.getstatic 25, 3) := by decide +kernel
theorem d2_4 : decode prog_50_method_5_code 4 = .ok (.if_acmp .eq 17, 3) := by decide +kernel
theorem d2_21 : decode prog_50_method_5_code 21 = .ok (.iconst 1, 1) := by decide +kernel
theorem d2_22 : decode prog_50_method_5_code 22 = .ok (.goto 4, 3) := by decide +kernel
theorem d2_26 : decode prog_50_method_5_code 26 = .ok (.ireturn, 1) := by decide +kernel
theorem d2_7 : decode prog_50_method_5_code 7 = .ok (.aload_n 0, 1) := by decide +kernel
theorem d2_8 : decode prog_50_method_5_code 8 = .ok (.getstatic 28, 3) := by decide +kernel
theorem d2_11 : decode prog_50_method_5_code 11 = .ok (.if_acmp .eq 10, 3) := by decide +kernel
theorem d2_14 : decode prog_50_method_5_code 14 = .ok (.aload_n 0, 1) := by decide +kernel
theorem d2_15 : decode prog_50_method_5_code 15 = .ok (.getstatic 31, 3) := by decide +kernel
theorem d2_18 : decode prog_50_method_5_code 18 = .ok (.if_acmp .ne 7, 3) := by decide +kernel
theorem d2_25 : decode prog_50_method_5_code 25 = .ok (.iconst 0, 1) := by decide +kernel
theorem pn_60 : plainName "com/example/ovenbird/ovenbird/model/AttributeType" = true := by first | (simp [plainName, overriddenIn]; done) | decide +kernel
theorem ef_rm_isSet (m : MethodId) (x0 : Addr) : entryFrame m #[(.ref x0)] 1 = mkF m 0 #[.val (.ref x0)] [] := by first | (simp [entryFrame, mkF, argsToLocals, Value.category]; done) | rfl
set_option maxRecDepth 65536 in
set_option maxHeartbeats 40000000 in
theorem rm_isSet (l : Launch) (Z : State) (a0 : Array Value) (hw : ∀ d ∈ tables_1, d.before a0 Z = true) (ws : List Jvm.Cond) (a1 : Addr) (h0 : Heap) (n0 : Nat) (Z0 : n0 ≤ h0.size) (w_S w_SS w_NS w_BS w_BOOL w_N w_NULL w_B w_M w_L : Addr) (hWd : own_W Z h0 w_S w_SS w_NS w_BS w_BOOL w_N w_NULL w_B w_M w_L) (r : Int32) (hres : (if a1 = w_SS then (1 : Int32) else if a1 = w_NS then 1 else if a1 = w_BS then 1 else 0) = r) :
    MetFree l (⟨"com/example/ovenbird/ovenbird/model/AttributeType", "isSet", "()Z"⟩ : MethodName) (head1 (Jvm.Cond.code (⟨"com/example/ovenbird/ovenbird/model/AttributeType", "isSet", "()Z"⟩ : MethodName) prog_50_method_5_code 1 (some .boolean) :: ws) ({ frames := 0, cells := 0, slots := 0, locals := 0 } : Room)) (fun aQ UQ => aQ = #[(.ref a1)] ∧ Z.Warmed39 UQ.vm ∧ UQ.heap = h0) (fun _ _ _ _ _ => True) (fun _ UQ oQ UR => ∃ vQ LQ, oQ = .returned vQ ∧ own_Pure (some (.int r)) h0 n0 vQ UR.heap LQ ∧ FrameEnd UQ oQ UR LQ ({ frames := 0, cells := 0, slots := 0, locals := 0 } : Room).cells ({ frames := 0, cells := 0, slots := 0, locals := 0 } : Room).slots) := by
  refine MetFree.of_bodySF (plainFor_of_name pn_60) hisR ?_
  intro p e s m args below meth c s₁ Bd hml0 hP hK
  obtain ⟨rfl, hZ, hh⟩ := hP
  have hx := Bd.exec
  have hby := Bd.bytes
  have hml : c.maxLocals = 1 := hml0
  have hown : s.vm.findClass "com/example/ovenbird/ovenbird/model/AttributeType" = some m.cls := findClass_of_methodNamed Bd.named
  have hnm := (name_of_methodNamed Bd.named Bd.method).1
  have X0 : Stand p l e ({ frames := 0, cells := 0, slots := 0, locals := 0 } : Room) s m #[(.ref a1)] below meth c s₁ [] 0 0 := Stand.of_body Bd
  have e0 : s₁.heap = h0 := by rw [← hh, Bd.state]; rfl
  have N0 := Fr.nil n0
  have pre0 : ∀ t, Steps p.tables e below (s₁.setTop (mkF m 0 #[.val (.ref a1)] [])) t → Steps p.tables e below (s₁.setTop (entryFrame m #[(.ref a1)] 1)) t := fun t kq => castTop (ef_rm_isSet m a1) kq
  obtain ⟨S_S, E_S, F_S_ordinal, S_SS, E_SS, F_SS_ordinal, S_NS, E_NS, F_NS_ordinal, S_BS, E_BS, F_BS_ordinal, S_BOOL, E_BOOL, F_BOOL_ordinal, S_N, E_N, F_N_ordinal, S_NULL, E_NULL, F_NULL_ordinal, S_B, E_B, F_B_ordinal, S_M, E_M, F_M_ordinal, S_L, E_L, F_L_ordinal⟩ := hWd
  obtain ⟨T62, X62, e62, st62⟩ := getS2 X0 hx hZ hown (host := "") (Or.inl (hw _ (List.mem_of_getElem? (i := 13) rfl))) Via.refl e0 S_SS (g := (mkF m 1 #[.val (.ref a1)] [(.ref a1)])) rfl (hb hby d2_1)
  by_cases hc4_63 : a1 = w_SS
  · -- pc 4: a1 = w_SS
    obtain ⟨fs, hr, hrun, hended, hW, hsame⟩ := X62.leave (v := some (.int (1 : Int32))) (fun h => by rw [Bd.returns] at h; cases h)
    refine ⟨_, _, pre0 _ ?_, hrun, hended, _, _, rfl, ?_, ⟨_, rfl⟩, hW, hsame.mono (by decide) (by decide)⟩
    · show Steps p.tables e below (s₁.setTop (mkF m 0 #[.val (.ref a1)] [])) _
      refine XS.aloadN X0.here hx rfl (hb hby d2_0) rfl rfl ?_
      show Steps p.tables e below (s₁.setTop (mkF m 1 #[.val (.ref a1)] [(.ref a1)])) _
      refine st62 _ ?_
      show Steps p.tables e below (T62.setTop (mkF m 4 #[.val (.ref a1)] [(.ref w_SS), (.ref a1)])) _
      refine Jvm.RoadKit.acmp (g := (mkF m 4 #[.val (.ref a1)] [(.ref w_SS), (.ref a1)])) X62 hx rfl rfl rfl (pc0 := 4) (pc' := 21) (same := true) rfl (hb hby d2_4) rfl (decide_eq_true (congrArg Value.ref hc4_63)) (by decide) (by decide) ?_
      show Steps p.tables e below (T62.setTop (mkF m 21 #[.val (.ref a1)] [])) _
      refine XS.iconst X62.here hx rfl (hb hby d2_21) ?_
      show Steps p.tables e below (T62.setTop (mkF m 22 #[.val (.ref a1)] [(.int (1 : Int32))])) _
      refine XS.goto X62.here hx rfl (pc0 := 22) (pc' := 26) rfl (hb hby d2_22) (by decide) (by decide) ?_
      show Steps p.tables e below (T62.setTop (mkF m 26 #[.val (.ref a1)] [(.int (1 : Int32))])) _
      exact retN X62 hx (t := .boolean) Bd.returns (by simp) (hb hby d2_26) hr
    · show own_Pure (some (.int r)) h0 n0 _ T62.heap _
      rw [e62]
      exact ⟨by rw [← hres]; simp only [if_pos hc4_63], N0, rfl⟩
  · -- pc 4: not a1 = w_SS
    obtain ⟨T64, X64, e64, st64⟩ := getS2 X62 hx hZ hown (host := "") (Or.inl (hw _ (List.mem_of_getElem? (i := 15) rfl))) Via.refl e62 S_NS (g := (mkF m 8 #[.val (.ref a1)] [(.ref a1)])) rfl (hb hby d2_8)
    have ck66 : ∀ t, Steps p.tables e below (T64.setTop (mkF m 11 #[.val (.ref a1)] [(.ref w_NS), (.ref a1)])) t → Steps p.tables e below (s₁.setTop (entryFrame m #[(.ref a1)] 1)) t := by
      intro t kt
      refine pre0 _ ?_
      show Steps p.tables e below (s₁.setTop (mkF m 0 #[.val (.ref a1)] [])) _
      refine XS.aloadN X0.here hx rfl (hb hby d2_0) rfl rfl ?_
      show Steps p.tables e below (s₁.setTop (mkF m 1 #[.val (.ref a1)] [(.ref a1)])) _
      refine st62 _ ?_
      show Steps p.tables e below (T62.setTop (mkF m 4 #[.val (.ref a1)] [(.ref w_SS), (.ref a1)])) _
      refine Jvm.RoadKit.acmp (g := (mkF m 4 #[.val (.ref a1)] [(.ref w_SS), (.ref a1)])) X62 hx rfl rfl rfl (pc0 := 4) (pc' := 7) (same := false) rfl (hb hby d2_4) rfl (decide_eq_false fun q => hc4_63 (Value.ref.inj q)) (by decide) (by decide) ?_
      show Steps p.tables e below (T62.setTop (mkF m 7 #[.val (.ref a1)] [])) _
      refine XS.aloadN X62.here hx rfl (hb hby d2_7) rfl rfl ?_
      show Steps p.tables e below (T62.setTop (mkF m 8 #[.val (.ref a1)] [(.ref a1)])) _
      refine st64 _ ?_
      exact kt
    by_cases hc11_65 : a1 = w_NS
    · -- pc 11: a1 = w_NS
      obtain ⟨fs, hr, hrun, hended, hW, hsame⟩ := X64.leave (v := some (.int (1 : Int32))) (fun h => by rw [Bd.returns] at h; cases h)
      refine ⟨_, _, ck66 _ ?_, hrun, hended, _, _, rfl, ?_, ⟨_, rfl⟩, hW, hsame.mono (by decide) (by decide)⟩
      · show Steps p.tables e below (T64.setTop (mkF m 11 #[.val (.ref a1)] [(.ref w_NS), (.ref a1)])) _
        refine Jvm.RoadKit.acmp (g := (mkF m 11 #[.val (.ref a1)] [(.ref w_NS), (.ref a1)])) X64 hx rfl rfl rfl (pc0 := 11) (pc' := 21) (same := true) rfl (hb hby d2_11) rfl (decide_eq_true (congrArg Value.ref hc11_65)) (by decide) (by decide) ?_
        show Steps p.tables e below (T64.setTop (mkF m 21 #[.val (.ref a1)] [])) _
        refine XS.iconst X64.here hx rfl (hb hby d2_21) ?_
        show Steps p.tables e below (T64.setTop (mkF m 22 #[.val (.ref a1)] [(.int (1 : Int32))])) _
        refine XS.goto X64.here hx rfl (pc0 := 22) (pc' := 26) rfl (hb hby d2_22) (by decide) (by decide) ?_
        show Steps p.tables e below (T64.setTop (mkF m 26 #[.val (.ref a1)] [(.int (1 : Int32))])) _
        exact retN X64 hx (t := .boolean) Bd.returns (by simp) (hb hby d2_26) hr
      · show own_Pure (some (.int r)) h0 n0 _ T64.heap _
        rw [e64]
        exact ⟨by rw [← hres]; simp only [if_neg hc4_63, if_pos hc11_65], N0, rfl⟩
    · -- pc 11: not a1 = w_NS
      obtain ⟨T67, X67, e67, st67⟩ := getS2 X64 hx hZ hown (host := "") (Or.inl (hw _ (List.mem_of_getElem? (i := 17) rfl))) Via.refl e64 S_BS (g := (mkF m 15 #[.val (.ref a1)] [(.ref a1)])) rfl (hb hby d2_15)
      by_cases hc18_68 : a1 = w_BS
      · -- pc 18: a1 = w_BS
        obtain ⟨fs, hr, hrun, hended, hW, hsame⟩ := X67.leave (v := some (.int (1 : Int32))) (fun h => by rw [Bd.returns] at h; cases h)
        refine ⟨_, _, ck66 _ ?_, hrun, hended, _, _, rfl, ?_, ⟨_, rfl⟩, hW, hsame.mono (by decide) (by decide)⟩
        · show Steps p.tables e below (T64.setTop (mkF m 11 #[.val (.ref a1)] [(.ref w_NS), (.ref a1)])) _
          refine Jvm.RoadKit.acmp (g := (mkF m 11 #[.val (.ref a1)] [(.ref w_NS), (.ref a1)])) X64 hx rfl rfl rfl (pc0 := 11) (pc' := 14) (same := false) rfl (hb hby d2_11) rfl (decide_eq_false fun q => hc11_65 (Value.ref.inj q)) (by decide) (by decide) ?_
          show Steps p.tables e below (T64.setTop (mkF m 14 #[.val (.ref a1)] [])) _
          refine XS.aloadN X64.here hx rfl (hb hby d2_14) rfl rfl ?_
          show Steps p.tables e below (T64.setTop (mkF m 15 #[.val (.ref a1)] [(.ref a1)])) _
          refine st67 _ ?_
          show Steps p.tables e below (T67.setTop (mkF m 18 #[.val (.ref a1)] [(.ref w_BS), (.ref a1)])) _
          refine Jvm.RoadKit.acmp (g := (mkF m 18 #[.val (.ref a1)] [(.ref w_BS), (.ref a1)])) X67 hx rfl rfl rfl (pc0 := 18) (pc' := 21) (same := true) rfl (hb hby d2_18) rfl (decide_eq_true (congrArg Value.ref hc18_68)) (by decide) (by decide) ?_
          show Steps p.tables e below (T67.setTop (mkF m 21 #[.val (.ref a1)] [])) _
          refine XS.iconst X67.here hx rfl (hb hby d2_21) ?_
          show Steps p.tables e below (T67.setTop (mkF m 22 #[.val (.ref a1)] [(.int (1 : Int32))])) _
          refine XS.goto X67.here hx rfl (pc0 := 22) (pc' := 26) rfl (hb hby d2_22) (by decide) (by decide) ?_
          show Steps p.tables e below (T67.setTop (mkF m 26 #[.val (.ref a1)] [(.int (1 : Int32))])) _
          exact retN X67 hx (t := .boolean) Bd.returns (by simp) (hb hby d2_26) hr
        · show own_Pure (some (.int r)) h0 n0 _ T67.heap _
          rw [e67]
          exact ⟨by rw [← hres]; simp only [if_neg hc4_63, if_neg hc11_65, if_pos hc18_68], N0, rfl⟩
      · -- pc 18: not a1 = w_BS
        obtain ⟨fs, hr, hrun, hended, hW, hsame⟩ := X67.leave (v := some (.int (0 : Int32))) (fun h => by rw [Bd.returns] at h; cases h)
        refine ⟨_, _, ck66 _ ?_, hrun, hended, _, _, rfl, ?_, ⟨_, rfl⟩, hW, hsame.mono (by decide) (by decide)⟩
        · show Steps p.tables e below (T64.setTop (mkF m 11 #[.val (.ref a1)] [(.ref w_NS), (.ref a1)])) _
          refine Jvm.RoadKit.acmp (g := (mkF m 11 #[.val (.ref a1)] [(.ref w_NS), (.ref a1)])) X64 hx rfl rfl rfl (pc0 := 11) (pc' := 14) (same := false) rfl (hb hby d2_11) rfl (decide_eq_false fun q => hc11_65 (Value.ref.inj q)) (by decide) (by decide) ?_
          show Steps p.tables e below (T64.setTop (mkF m 14 #[.val (.ref a1)] [])) _
          refine XS.aloadN X64.here hx rfl (hb hby d2_14) rfl rfl ?_
          show Steps p.tables e below (T64.setTop (mkF m 15 #[.val (.ref a1)] [(.ref a1)])) _
          refine st67 _ ?_
          show Steps p.tables e below (T67.setTop (mkF m 18 #[.val (.ref a1)] [(.ref w_BS), (.ref a1)])) _
          refine Jvm.RoadKit.acmp (g := (mkF m 18 #[.val (.ref a1)] [(.ref w_BS), (.ref a1)])) X67 hx rfl rfl rfl (pc0 := 18) (pc' := 25) (same := false) rfl (hb hby d2_18) rfl (decide_eq_false fun q => hc18_68 (Value.ref.inj q)) (by decide) (by decide) ?_
          show Steps p.tables e below (T67.setTop (mkF m 25 #[.val (.ref a1)] [])) _
          refine XS.iconst X67.here hx rfl (hb hby d2_25) ?_
          show Steps p.tables e below (T67.setTop (mkF m 26 #[.val (.ref a1)] [(.int (0 : Int32))])) _
          exact retN X67 hx (t := .boolean) Bd.returns (by simp) (hb hby d2_26) hr
        · show own_Pure (some (.int r)) h0 n0 _ T67.heap _
          rw [e67]
          exact ⟨by rw [← hres]; simp only [if_neg hc4_63, if_neg hc11_65, if_neg hc18_68], N0, rfl⟩
theorem pd_61 : parseMethodDescriptor "(I)Lcom/example/ovenbird/ovenbird/model/AttributeType;" = some ⟨[.int], some (.object "com/example/ovenbird/ovenbird/model/AttributeType")⟩ := by decide +kernel
theorem pd_62 : parseMethodDescriptor "()Z" = some ⟨[], some .boolean⟩ := by decide +kernel
theorem ef_rm_law (m : MethodId) (x0 : Int32) : entryFrame m #[(.int x0)] maxLocals = mkF m 0 #[.val (.int x0), .unset, .unset, .unset] [] := by first | (simp [entryFrame, mkF, argsToLocals, Value.category, maxLocals]; done) | rfl
set_option maxRecDepth 65536 in
set_option maxHeartbeats 40000000 in
theorem rm_law (l : Launch) (Z : State) (a0 : Array Value) (hw : ∀ d ∈ tables_1, d.before a0 Z = true) (ws : List Jvm.Cond) (p0 : Int32) (h0 : Heap) (n0 : Nat) (Z0 : n0 ≤ h0.size) (w_S w_SS w_NS w_BS w_BOOL w_N w_NULL w_B w_M w_L : Addr) (hWd : own_W Z h0 w_S w_SS w_NS w_BS w_BOOL w_N w_NULL w_B w_M w_L) :
    MetFree l x (head1 (Jvm.Cond.code x code maxLocals ret :: ws) room_1) (fun aQ UQ => aQ = #[(.int p0)] ∧ Z.Warmed39 UQ.vm ∧ UQ.heap = h0) (fun _ _ _ _ _ => True) (fun _ UQ oQ UR => ∃ vQ LQ, oQ = .returned vQ ∧ own_Pure (some (.int 1)) h0 n0 vQ UR.heap LQ ∧ FrameEnd UQ oQ UR LQ room_1.cells room_1.slots) := by
  refine MetFree.of_bodySF (plainFor_of_name pn_46) hisR ?_
  intro p e s m args below meth c s₁ Bd hml0 hP hK
  obtain ⟨rfl, hZ, hh⟩ := hP
  have hx := Bd.exec
  have hby := Bd.bytes
  have hml : c.maxLocals = 4 := hml0
  have hown : s.vm.findClass "com/example/ovenbird/ovenbird/model/AttributeTypeIsSetPinLaw" = some m.cls := findClass_of_methodNamed Bd.named
  have hnm := (name_of_methodNamed Bd.named Bd.method).1
  have X0 : Stand p l e room_1 s m #[(.int p0)] below meth c s₁ [] 0 0 := Stand.of_body Bd
  have e0 : s₁.heap = h0 := by rw [← hh, Bd.state]; rfl
  have N0 := Fr.nil n0
  have pre0 : ∀ t, Steps p.tables e below (s₁.setTop (mkF m 0 #[.val (.int p0), .unset, .unset, .unset] [])) t → Steps p.tables e below (s₁.setTop (entryFrame m #[(.int p0)] maxLocals)) t := fun t kq => castTop (ef_rm_law m p0) kq
  have hWd' := hWd
  obtain ⟨S_S, E_S, F_S_ordinal, S_SS, E_SS, F_SS_ordinal, S_NS, E_NS, F_NS_ordinal, S_BS, E_BS, F_BS_ordinal, S_BOOL, E_BOOL, F_BOOL_ordinal, S_N, E_N, F_N_ordinal, S_NULL, E_NULL, F_NULL_ordinal, S_B, E_B, F_B_ordinal, S_M, E_M, F_M_ordinal, S_L, E_L, F_L_ordinal⟩ := hWd'
  have ck69 : ∀ t, Steps p.tables e below (s₁.setTop (mkF m 7 #[.val (.int p0), .unset, .unset, .unset] [(.int ((p0 &&& (2147483647 : Int32)) % (10 : Int32)))])) t → Steps p.tables e below (s₁.setTop (entryFrame m #[(.int p0)] maxLocals)) t := by
    intro t kt
    refine pre0 _ ?_
    show Steps p.tables e below (s₁.setTop (mkF m 0 #[.val (.int p0), .unset, .unset, .unset] [])) _
    refine XS.iloadN X0.here hx rfl (hb hby at_0) rfl ?_
    show Steps p.tables e below (s₁.setTop (mkF m 1 #[.val (.int p0), .unset, .unset, .unset] [(.int p0)])) _
    refine X0.ldcInt hx hown (mvT hZ (hw _ (List.mem_of_getElem? (i := 0) rfl))) (g := (mkF m 1 #[.val (.int p0), .unset, .unset, .unset] [(.int p0)])) rfl (hb hby at_1) _ ?_
    show Steps p.tables e below (s₁.setTop (mkF m 3 #[.val (.int p0), .unset, .unset, .unset] [(.int (2147483647 : Int32)), (.int p0)])) _
    refine XS.iand X0.here hx rfl (hb hby at_3) rfl ?_
    show Steps p.tables e below (s₁.setTop (mkF m 4 #[.val (.int p0), .unset, .unset, .unset] [(.int (p0 &&& (2147483647 : Int32)))])) _
    refine XS.bipush X0.here hx rfl (hb hby at_4) ?_
    show Steps p.tables e below (s₁.setTop (mkF m 6 #[.val (.int p0), .unset, .unset, .unset] [(.int (10 : Int32)), (.int (p0 &&& (2147483647 : Int32)))])) _
    refine Jvm.RoadKit.iremM (g := (mkF m 6 #[.val (.int p0), .unset, .unset, .unset] [(.int (10 : Int32)), (.int (p0 &&& (2147483647 : Int32)))])) X0 hx rfl (hb hby at_6) rfl (by decide) ?_
    exact kt
  rcases own_rem10 p0 with hv70 | hv71 | hv72 | hv73 | hv74 | hv75 | hv76 | hv77 | hv78 | hv79
  · -- (0 : Int32)
    obtain ⟨_, _, ⟨T80, L80, k80, n80⟩, -, X80, ⟨Lc80, hQ80, l80, y80, z80⟩, st80⟩ := Jvm.LawKit.callS X0 hx (y := (⟨"com/example/ovenbird/ovenbird/model/AttributeTypeIsSetPinLaw", "pick", "(I)Lcom/example/ovenbird/ovenbird/model/AttributeType;"⟩ : MethodName)) hown (mvT hZ (hw _ (List.mem_of_getElem? (i := 1) rfl))) (mvT hZ (hw _ (List.mem_of_getElem? (i := 2) rfl))) (mvT hZ (hw _ (List.mem_of_getElem? (i := 3) rfl))) (mvT hZ (hw _ (List.mem_of_getElem? (i := 4) rfl))) (by decide) (backOf (W := 0) (rm_pick l Z a0 hw [] (0 : Int32) h0 n0 Z0 w_S w_SS w_NS w_BS w_BOOL w_N w_NULL w_B w_M w_L hWd w_S (by first | rfl | decide | simp)) hZ (hw _ (List.mem_of_getElem? (i := 4) rfl)) (hw _ (List.mem_of_getElem? (i := 3) rfl)) (by decide) (by decide)) (g := (mkF m 9 #[.val (.int p0), .val (.int (0 : Int32)), .unset, .unset] [(.int (0 : Int32))])) rfl (by rw [hml]; rfl) (argsL := [(.int (0 : Int32))]) (rest := []) (lenOf pd_61 rfl) rfl (by show 2 * 0 + _ ≤ _; exact Nat.le_of_eq rfl) (hb hby at_9) (fun _ _ => ⟨rfl, e0, (by decide : 0 + 0 ≤ _), (by decide : 0 + 0 ≤ _)⟩)
    dsimp only [Pt.U, Pt.locs, Pt.cells, Pt.slots] at X80 l80 y80 z80 st80 hQ80
    subst l80 y80 z80
    obtain ⟨rfl, N80q, e80⟩ := hQ80
    have N80 := Fr.app N0 N80q
    obtain ⟨cq81, kq81, q81a, q81b, q81c⟩ := isOf hZ e80 (E_S)
    obtain ⟨_, _, ⟨T81, L81, k81, n81⟩, -, X81, ⟨Lc81, hQ81, l81, y81, z81⟩, st81⟩ := X80.virtualBack hx (y := (⟨"com/example/ovenbird/ovenbird/model/AttributeType", "isSet", "()Z"⟩ : MethodName)) (z := (⟨"com/example/ovenbird/ovenbird/model/AttributeType", "isSet", "()Z"⟩ : MethodName)) hown (mvT hZ (hw _ (List.mem_of_getElem? (i := 8) rfl))) (mvT hZ (hw _ (List.mem_of_getElem? (i := 9) rfl))) (notFace_of_selects (args := #[]) (mvT hZ (hw _ (List.mem_of_getElem? (i := 11) rfl)))) (mvT hZ (hw _ (List.mem_of_getElem? (i := 11) rfl))) (mvT hZ (hw _ (List.mem_of_getElem? (i := 10) rfl))) (by decide) (backOf (W := 0) (rm_isSet l Z a0 hw [] w_S h0 n0 Z0 w_S w_SS w_NS w_BS w_BOOL w_N w_NULL w_B w_M w_L hWd (0 : Int32) (by simp [(F_S_ordinal.ne F_SS_ordinal (by decide)), (F_S_ordinal.ne F_NS_ordinal (by decide)), (F_S_ordinal.ne F_BS_ordinal (by decide))])) hZ (hw _ (List.mem_of_getElem? (i := 12) rfl)) (hw _ (List.mem_of_getElem? (i := 6) rfl)) (by decide) (by decide)) q81a q81c (g := (mkF m 26 #[.val (.int p0), .val (.int (0 : Int32)), .val (.ref w_S), .val (.int (0 : Int32))] [(.ref w_S)])) rfl (by rw [hml]; rfl) (Steps.refl _) (argsL := []) (rest := []) (lenOf pd_62 rfl) rfl (by show 2 * 0 + _ ≤ _; exact Nat.le_of_eq rfl) (hb hby at_26) (fun _ _ => ⟨rfl, e80, (by decide : 0 + 0 ≤ _), (by decide : 0 + 0 ≤ _)⟩)
    dsimp only [Pt.U, Pt.locs, Pt.cells, Pt.slots] at X81 l81 y81 z81 st81 hQ81
    subst l81 y81 z81
    obtain ⟨rfl, N81q, e81⟩ := hQ81
    have N81 := Fr.app N80 N81q
    obtain ⟨fs, hr, hrun, hended, hW, hsame⟩ := X81.leave (v := some (.int (1 : Int32))) (fun h => by rw [Bd.returns] at h; cases h)
    refine ⟨_, _, ck69 _ ?_, hrun, hended, _, _, rfl, ?_, ⟨_, rfl⟩, hW, hsame.mono (by decide) (by decide)⟩
    · show Steps p.tables e below (s₁.setTop (mkF m 7 #[.val (.int p0), .unset, .unset, .unset] [(.int ((p0 &&& (2147483647 : Int32)) % (10 : Int32)))])) _
      rw [hv70]
      show Steps p.tables e below (s₁.setTop (mkF m 7 #[.val (.int p0), .unset, .unset, .unset] [(.int (0 : Int32))])) _
      refine XS.istoreN X0.here hx rfl (hb hby at_7) rfl (l' := #[.val (.int p0), .val (.int (0 : Int32)), .unset, .unset]) rfl ?_
      show Steps p.tables e below (s₁.setTop (mkF m 8 #[.val (.int p0), .val (.int (0 : Int32)), .unset, .unset] [])) _
      refine XS.iloadN X0.here hx rfl (hb hby at_8) rfl ?_
      show Steps p.tables e below (s₁.setTop (mkF m 9 #[.val (.int p0), .val (.int (0 : Int32)), .unset, .unset] [(.int (0 : Int32))])) _
      refine st80 _ ?_
      show Steps p.tables e below (T80.setTop (mkF m 12 #[.val (.int p0), .val (.int (0 : Int32)), .unset, .unset] [(.ref w_S)])) _
      refine XS.astoreN X80.here hx rfl (hb hby at_12) rfl rfl (l' := #[.val (.int p0), .val (.int (0 : Int32)), .val (.ref w_S), .unset]) rfl ?_
      show Steps p.tables e below (T80.setTop (mkF m 13 #[.val (.int p0), .val (.int (0 : Int32)), .val (.ref w_S), .unset] [])) _
      refine XS.iloadN X80.here hx rfl (hb hby at_13) rfl ?_
      show Steps p.tables e below (T80.setTop (mkF m 14 #[.val (.int p0), .val (.int (0 : Int32)), .val (.ref w_S), .unset] [(.int (0 : Int32))])) _
      refine XS.bipush X80.here hx rfl (hb hby at_14) ?_
      show Steps p.tables e below (T80.setTop (mkF m 16 #[.val (.int p0), .val (.int (0 : Int32)), .val (.ref w_S), .unset] [(.int (7 : Int32)), (.int (0 : Int32))])) _
      refine XS.icmpYes X80.here hx rfl (pc0 := 16) (pc' := 23) rfl (hb hby at_16) rfl (tlt (by decide : (0 : Int32) < (7 : Int32))).1 (by decide) (by decide) ?_
      show Steps p.tables e below (T80.setTop (mkF m 23 #[.val (.int p0), .val (.int (0 : Int32)), .val (.ref w_S), .unset] [])) _
      refine XS.iconst X80.here hx rfl (hb hby at_23) ?_
      show Steps p.tables e below (T80.setTop (mkF m 24 #[.val (.int p0), .val (.int (0 : Int32)), .val (.ref w_S), .unset] [(.int (0 : Int32))])) _
      refine XS.istoreN X80.here hx rfl (hb hby at_24) rfl (l' := #[.val (.int p0), .val (.int (0 : Int32)), .val (.ref w_S), .val (.int (0 : Int32))]) rfl ?_
      show Steps p.tables e below (T80.setTop (mkF m 25 #[.val (.int p0), .val (.int (0 : Int32)), .val (.ref w_S), .val (.int (0 : Int32))] [])) _
      refine XS.aloadN X80.here hx rfl (hb hby at_25) rfl rfl ?_
      show Steps p.tables e below (T80.setTop (mkF m 26 #[.val (.int p0), .val (.int (0 : Int32)), .val (.ref w_S), .val (.int (0 : Int32))] [(.ref w_S)])) _
      refine st81.trans ?_
      show Steps p.tables e below (T81.setTop (mkF m 29 #[.val (.int p0), .val (.int (0 : Int32)), .val (.ref w_S), .val (.int (0 : Int32))] [(.int (0 : Int32))])) _
      refine XS.iloadN X81.here hx rfl (hb hby at_29) rfl ?_
      show Steps p.tables e below (T81.setTop (mkF m 30 #[.val (.int p0), .val (.int (0 : Int32)), .val (.ref w_S), .val (.int (0 : Int32))] [(.int (0 : Int32)), (.int (0 : Int32))])) _
      refine XS.icmpNo X81.here hx rfl (hb hby at_30) rfl (teq (by decide : (0 : Int32) = (0 : Int32))).2 ?_
      show Steps p.tables e below (T81.setTop (mkF m 33 #[.val (.int p0), .val (.int (0 : Int32)), .val (.ref w_S), .val (.int (0 : Int32))] [])) _
      refine XS.iconst X81.here hx rfl (hb hby at_33) ?_
      show Steps p.tables e below (T81.setTop (mkF m 34 #[.val (.int p0), .val (.int (0 : Int32)), .val (.ref w_S), .val (.int (0 : Int32))] [(.int (1 : Int32))])) _
      refine XS.goto X81.here hx rfl (pc0 := 34) (pc' := 38) rfl (hb hby at_34) (by decide) (by decide) ?_
      show Steps p.tables e below (T81.setTop (mkF m 38 #[.val (.int p0), .val (.int (0 : Int32)), .val (.ref w_S), .val (.int (0 : Int32))] [(.int (1 : Int32))])) _
      exact retN X81 hx (t := .boolean) Bd.returns (by simp) (hb hby at_38) hr
    · show own_Pure (some (.int 1)) h0 n0 _ T81.heap _
      rw [e81]
      exact ⟨rfl, N81, rfl⟩
  · -- (1 : Int32)
    obtain ⟨_, _, ⟨T82, L82, k82, n82⟩, -, X82, ⟨Lc82, hQ82, l82, y82, z82⟩, st82⟩ := Jvm.LawKit.callS X0 hx (y := (⟨"com/example/ovenbird/ovenbird/model/AttributeTypeIsSetPinLaw", "pick", "(I)Lcom/example/ovenbird/ovenbird/model/AttributeType;"⟩ : MethodName)) hown (mvT hZ (hw _ (List.mem_of_getElem? (i := 1) rfl))) (mvT hZ (hw _ (List.mem_of_getElem? (i := 2) rfl))) (mvT hZ (hw _ (List.mem_of_getElem? (i := 3) rfl))) (mvT hZ (hw _ (List.mem_of_getElem? (i := 4) rfl))) (by decide) (backOf (W := 0) (rm_pick l Z a0 hw [] (1 : Int32) h0 n0 Z0 w_S w_SS w_NS w_BS w_BOOL w_N w_NULL w_B w_M w_L hWd w_N (by first | rfl | decide | simp)) hZ (hw _ (List.mem_of_getElem? (i := 4) rfl)) (hw _ (List.mem_of_getElem? (i := 3) rfl)) (by decide) (by decide)) (g := (mkF m 9 #[.val (.int p0), .val (.int (1 : Int32)), .unset, .unset] [(.int (1 : Int32))])) rfl (by rw [hml]; rfl) (argsL := [(.int (1 : Int32))]) (rest := []) (lenOf pd_61 rfl) rfl (by show 2 * 0 + _ ≤ _; exact Nat.le_of_eq rfl) (hb hby at_9) (fun _ _ => ⟨rfl, e0, (by decide : 0 + 0 ≤ _), (by decide : 0 + 0 ≤ _)⟩)
    dsimp only [Pt.U, Pt.locs, Pt.cells, Pt.slots] at X82 l82 y82 z82 st82 hQ82
    subst l82 y82 z82
    obtain ⟨rfl, N82q, e82⟩ := hQ82
    have N82 := Fr.app N0 N82q
    obtain ⟨cq83, kq83, q83a, q83b, q83c⟩ := isOf hZ e82 (E_N)
    obtain ⟨_, _, ⟨T83, L83, k83, n83⟩, -, X83, ⟨Lc83, hQ83, l83, y83, z83⟩, st83⟩ := X82.virtualBack hx (y := (⟨"com/example/ovenbird/ovenbird/model/AttributeType", "isSet", "()Z"⟩ : MethodName)) (z := (⟨"com/example/ovenbird/ovenbird/model/AttributeType", "isSet", "()Z"⟩ : MethodName)) hown (mvT hZ (hw _ (List.mem_of_getElem? (i := 8) rfl))) (mvT hZ (hw _ (List.mem_of_getElem? (i := 9) rfl))) (notFace_of_selects (args := #[]) (mvT hZ (hw _ (List.mem_of_getElem? (i := 11) rfl)))) (mvT hZ (hw _ (List.mem_of_getElem? (i := 11) rfl))) (mvT hZ (hw _ (List.mem_of_getElem? (i := 10) rfl))) (by decide) (backOf (W := 0) (rm_isSet l Z a0 hw [] w_N h0 n0 Z0 w_S w_SS w_NS w_BS w_BOOL w_N w_NULL w_B w_M w_L hWd (0 : Int32) (by simp [(F_N_ordinal.ne F_SS_ordinal (by decide)), (F_N_ordinal.ne F_NS_ordinal (by decide)), (F_N_ordinal.ne F_BS_ordinal (by decide))])) hZ (hw _ (List.mem_of_getElem? (i := 12) rfl)) (hw _ (List.mem_of_getElem? (i := 6) rfl)) (by decide) (by decide)) q83a q83c (g := (mkF m 26 #[.val (.int p0), .val (.int (1 : Int32)), .val (.ref w_N), .val (.int (0 : Int32))] [(.ref w_N)])) rfl (by rw [hml]; rfl) (Steps.refl _) (argsL := []) (rest := []) (lenOf pd_62 rfl) rfl (by show 2 * 0 + _ ≤ _; exact Nat.le_of_eq rfl) (hb hby at_26) (fun _ _ => ⟨rfl, e82, (by decide : 0 + 0 ≤ _), (by decide : 0 + 0 ≤ _)⟩)
    dsimp only [Pt.U, Pt.locs, Pt.cells, Pt.slots] at X83 l83 y83 z83 st83 hQ83
    subst l83 y83 z83
    obtain ⟨rfl, N83q, e83⟩ := hQ83
    have N83 := Fr.app N82 N83q
    obtain ⟨fs, hr, hrun, hended, hW, hsame⟩ := X83.leave (v := some (.int (1 : Int32))) (fun h => by rw [Bd.returns] at h; cases h)
    refine ⟨_, _, ck69 _ ?_, hrun, hended, _, _, rfl, ?_, ⟨_, rfl⟩, hW, hsame.mono (by decide) (by decide)⟩
    · show Steps p.tables e below (s₁.setTop (mkF m 7 #[.val (.int p0), .unset, .unset, .unset] [(.int ((p0 &&& (2147483647 : Int32)) % (10 : Int32)))])) _
      rw [hv71]
      show Steps p.tables e below (s₁.setTop (mkF m 7 #[.val (.int p0), .unset, .unset, .unset] [(.int (1 : Int32))])) _
      refine XS.istoreN X0.here hx rfl (hb hby at_7) rfl (l' := #[.val (.int p0), .val (.int (1 : Int32)), .unset, .unset]) rfl ?_
      show Steps p.tables e below (s₁.setTop (mkF m 8 #[.val (.int p0), .val (.int (1 : Int32)), .unset, .unset] [])) _
      refine XS.iloadN X0.here hx rfl (hb hby at_8) rfl ?_
      show Steps p.tables e below (s₁.setTop (mkF m 9 #[.val (.int p0), .val (.int (1 : Int32)), .unset, .unset] [(.int (1 : Int32))])) _
      refine st82 _ ?_
      show Steps p.tables e below (T82.setTop (mkF m 12 #[.val (.int p0), .val (.int (1 : Int32)), .unset, .unset] [(.ref w_N)])) _
      refine XS.astoreN X82.here hx rfl (hb hby at_12) rfl rfl (l' := #[.val (.int p0), .val (.int (1 : Int32)), .val (.ref w_N), .unset]) rfl ?_
      show Steps p.tables e below (T82.setTop (mkF m 13 #[.val (.int p0), .val (.int (1 : Int32)), .val (.ref w_N), .unset] [])) _
      refine XS.iloadN X82.here hx rfl (hb hby at_13) rfl ?_
      show Steps p.tables e below (T82.setTop (mkF m 14 #[.val (.int p0), .val (.int (1 : Int32)), .val (.ref w_N), .unset] [(.int (1 : Int32))])) _
      refine XS.bipush X82.here hx rfl (hb hby at_14) ?_
      show Steps p.tables e below (T82.setTop (mkF m 16 #[.val (.int p0), .val (.int (1 : Int32)), .val (.ref w_N), .unset] [(.int (7 : Int32)), (.int (1 : Int32))])) _
      refine XS.icmpYes X82.here hx rfl (pc0 := 16) (pc' := 23) rfl (hb hby at_16) rfl (tlt (by decide : (1 : Int32) < (7 : Int32))).1 (by decide) (by decide) ?_
      show Steps p.tables e below (T82.setTop (mkF m 23 #[.val (.int p0), .val (.int (1 : Int32)), .val (.ref w_N), .unset] [])) _
      refine XS.iconst X82.here hx rfl (hb hby at_23) ?_
      show Steps p.tables e below (T82.setTop (mkF m 24 #[.val (.int p0), .val (.int (1 : Int32)), .val (.ref w_N), .unset] [(.int (0 : Int32))])) _
      refine XS.istoreN X82.here hx rfl (hb hby at_24) rfl (l' := #[.val (.int p0), .val (.int (1 : Int32)), .val (.ref w_N), .val (.int (0 : Int32))]) rfl ?_
      show Steps p.tables e below (T82.setTop (mkF m 25 #[.val (.int p0), .val (.int (1 : Int32)), .val (.ref w_N), .val (.int (0 : Int32))] [])) _
      refine XS.aloadN X82.here hx rfl (hb hby at_25) rfl rfl ?_
      show Steps p.tables e below (T82.setTop (mkF m 26 #[.val (.int p0), .val (.int (1 : Int32)), .val (.ref w_N), .val (.int (0 : Int32))] [(.ref w_N)])) _
      refine st83.trans ?_
      show Steps p.tables e below (T83.setTop (mkF m 29 #[.val (.int p0), .val (.int (1 : Int32)), .val (.ref w_N), .val (.int (0 : Int32))] [(.int (0 : Int32))])) _
      refine XS.iloadN X83.here hx rfl (hb hby at_29) rfl ?_
      show Steps p.tables e below (T83.setTop (mkF m 30 #[.val (.int p0), .val (.int (1 : Int32)), .val (.ref w_N), .val (.int (0 : Int32))] [(.int (0 : Int32)), (.int (0 : Int32))])) _
      refine XS.icmpNo X83.here hx rfl (hb hby at_30) rfl (teq (by decide : (0 : Int32) = (0 : Int32))).2 ?_
      show Steps p.tables e below (T83.setTop (mkF m 33 #[.val (.int p0), .val (.int (1 : Int32)), .val (.ref w_N), .val (.int (0 : Int32))] [])) _
      refine XS.iconst X83.here hx rfl (hb hby at_33) ?_
      show Steps p.tables e below (T83.setTop (mkF m 34 #[.val (.int p0), .val (.int (1 : Int32)), .val (.ref w_N), .val (.int (0 : Int32))] [(.int (1 : Int32))])) _
      refine XS.goto X83.here hx rfl (pc0 := 34) (pc' := 38) rfl (hb hby at_34) (by decide) (by decide) ?_
      show Steps p.tables e below (T83.setTop (mkF m 38 #[.val (.int p0), .val (.int (1 : Int32)), .val (.ref w_N), .val (.int (0 : Int32))] [(.int (1 : Int32))])) _
      exact retN X83 hx (t := .boolean) Bd.returns (by simp) (hb hby at_38) hr
    · show own_Pure (some (.int 1)) h0 n0 _ T83.heap _
      rw [e83]
      exact ⟨rfl, N83, rfl⟩
  · -- (2 : Int32)
    obtain ⟨_, _, ⟨T84, L84, k84, n84⟩, -, X84, ⟨Lc84, hQ84, l84, y84, z84⟩, st84⟩ := Jvm.LawKit.callS X0 hx (y := (⟨"com/example/ovenbird/ovenbird/model/AttributeTypeIsSetPinLaw", "pick", "(I)Lcom/example/ovenbird/ovenbird/model/AttributeType;"⟩ : MethodName)) hown (mvT hZ (hw _ (List.mem_of_getElem? (i := 1) rfl))) (mvT hZ (hw _ (List.mem_of_getElem? (i := 2) rfl))) (mvT hZ (hw _ (List.mem_of_getElem? (i := 3) rfl))) (mvT hZ (hw _ (List.mem_of_getElem? (i := 4) rfl))) (by decide) (backOf (W := 0) (rm_pick l Z a0 hw [] (2 : Int32) h0 n0 Z0 w_S w_SS w_NS w_BS w_BOOL w_N w_NULL w_B w_M w_L hWd w_B (by first | rfl | decide | simp)) hZ (hw _ (List.mem_of_getElem? (i := 4) rfl)) (hw _ (List.mem_of_getElem? (i := 3) rfl)) (by decide) (by decide)) (g := (mkF m 9 #[.val (.int p0), .val (.int (2 : Int32)), .unset, .unset] [(.int (2 : Int32))])) rfl (by rw [hml]; rfl) (argsL := [(.int (2 : Int32))]) (rest := []) (lenOf pd_61 rfl) rfl (by show 2 * 0 + _ ≤ _; exact Nat.le_of_eq rfl) (hb hby at_9) (fun _ _ => ⟨rfl, e0, (by decide : 0 + 0 ≤ _), (by decide : 0 + 0 ≤ _)⟩)
    dsimp only [Pt.U, Pt.locs, Pt.cells, Pt.slots] at X84 l84 y84 z84 st84 hQ84
    subst l84 y84 z84
    obtain ⟨rfl, N84q, e84⟩ := hQ84
    have N84 := Fr.app N0 N84q
    obtain ⟨cq85, kq85, q85a, q85b, q85c⟩ := isOf hZ e84 (E_B)
    obtain ⟨_, _, ⟨T85, L85, k85, n85⟩, -, X85, ⟨Lc85, hQ85, l85, y85, z85⟩, st85⟩ := X84.virtualBack hx (y := (⟨"com/example/ovenbird/ovenbird/model/AttributeType", "isSet", "()Z"⟩ : MethodName)) (z := (⟨"com/example/ovenbird/ovenbird/model/AttributeType", "isSet", "()Z"⟩ : MethodName)) hown (mvT hZ (hw _ (List.mem_of_getElem? (i := 8) rfl))) (mvT hZ (hw _ (List.mem_of_getElem? (i := 9) rfl))) (notFace_of_selects (args := #[]) (mvT hZ (hw _ (List.mem_of_getElem? (i := 11) rfl)))) (mvT hZ (hw _ (List.mem_of_getElem? (i := 11) rfl))) (mvT hZ (hw _ (List.mem_of_getElem? (i := 10) rfl))) (by decide) (backOf (W := 0) (rm_isSet l Z a0 hw [] w_B h0 n0 Z0 w_S w_SS w_NS w_BS w_BOOL w_N w_NULL w_B w_M w_L hWd (0 : Int32) (by simp [(F_B_ordinal.ne F_SS_ordinal (by decide)), (F_B_ordinal.ne F_NS_ordinal (by decide)), (F_B_ordinal.ne F_BS_ordinal (by decide))])) hZ (hw _ (List.mem_of_getElem? (i := 12) rfl)) (hw _ (List.mem_of_getElem? (i := 6) rfl)) (by decide) (by decide)) q85a q85c (g := (mkF m 26 #[.val (.int p0), .val (.int (2 : Int32)), .val (.ref w_B), .val (.int (0 : Int32))] [(.ref w_B)])) rfl (by rw [hml]; rfl) (Steps.refl _) (argsL := []) (rest := []) (lenOf pd_62 rfl) rfl (by show 2 * 0 + _ ≤ _; exact Nat.le_of_eq rfl) (hb hby at_26) (fun _ _ => ⟨rfl, e84, (by decide : 0 + 0 ≤ _), (by decide : 0 + 0 ≤ _)⟩)
    dsimp only [Pt.U, Pt.locs, Pt.cells, Pt.slots] at X85 l85 y85 z85 st85 hQ85
    subst l85 y85 z85
    obtain ⟨rfl, N85q, e85⟩ := hQ85
    have N85 := Fr.app N84 N85q
    obtain ⟨fs, hr, hrun, hended, hW, hsame⟩ := X85.leave (v := some (.int (1 : Int32))) (fun h => by rw [Bd.returns] at h; cases h)
    refine ⟨_, _, ck69 _ ?_, hrun, hended, _, _, rfl, ?_, ⟨_, rfl⟩, hW, hsame.mono (by decide) (by decide)⟩
    · show Steps p.tables e below (s₁.setTop (mkF m 7 #[.val (.int p0), .unset, .unset, .unset] [(.int ((p0 &&& (2147483647 : Int32)) % (10 : Int32)))])) _
      rw [hv72]
      show Steps p.tables e below (s₁.setTop (mkF m 7 #[.val (.int p0), .unset, .unset, .unset] [(.int (2 : Int32))])) _
      refine XS.istoreN X0.here hx rfl (hb hby at_7) rfl (l' := #[.val (.int p0), .val (.int (2 : Int32)), .unset, .unset]) rfl ?_
      show Steps p.tables e below (s₁.setTop (mkF m 8 #[.val (.int p0), .val (.int (2 : Int32)), .unset, .unset] [])) _
      refine XS.iloadN X0.here hx rfl (hb hby at_8) rfl ?_
      show Steps p.tables e below (s₁.setTop (mkF m 9 #[.val (.int p0), .val (.int (2 : Int32)), .unset, .unset] [(.int (2 : Int32))])) _
      refine st84 _ ?_
      show Steps p.tables e below (T84.setTop (mkF m 12 #[.val (.int p0), .val (.int (2 : Int32)), .unset, .unset] [(.ref w_B)])) _
      refine XS.astoreN X84.here hx rfl (hb hby at_12) rfl rfl (l' := #[.val (.int p0), .val (.int (2 : Int32)), .val (.ref w_B), .unset]) rfl ?_
      show Steps p.tables e below (T84.setTop (mkF m 13 #[.val (.int p0), .val (.int (2 : Int32)), .val (.ref w_B), .unset] [])) _
      refine XS.iloadN X84.here hx rfl (hb hby at_13) rfl ?_
      show Steps p.tables e below (T84.setTop (mkF m 14 #[.val (.int p0), .val (.int (2 : Int32)), .val (.ref w_B), .unset] [(.int (2 : Int32))])) _
      refine XS.bipush X84.here hx rfl (hb hby at_14) ?_
      show Steps p.tables e below (T84.setTop (mkF m 16 #[.val (.int p0), .val (.int (2 : Int32)), .val (.ref w_B), .unset] [(.int (7 : Int32)), (.int (2 : Int32))])) _
      refine XS.icmpYes X84.here hx rfl (pc0 := 16) (pc' := 23) rfl (hb hby at_16) rfl (tlt (by decide : (2 : Int32) < (7 : Int32))).1 (by decide) (by decide) ?_
      show Steps p.tables e below (T84.setTop (mkF m 23 #[.val (.int p0), .val (.int (2 : Int32)), .val (.ref w_B), .unset] [])) _
      refine XS.iconst X84.here hx rfl (hb hby at_23) ?_
      show Steps p.tables e below (T84.setTop (mkF m 24 #[.val (.int p0), .val (.int (2 : Int32)), .val (.ref w_B), .unset] [(.int (0 : Int32))])) _
      refine XS.istoreN X84.here hx rfl (hb hby at_24) rfl (l' := #[.val (.int p0), .val (.int (2 : Int32)), .val (.ref w_B), .val (.int (0 : Int32))]) rfl ?_
      show Steps p.tables e below (T84.setTop (mkF m 25 #[.val (.int p0), .val (.int (2 : Int32)), .val (.ref w_B), .val (.int (0 : Int32))] [])) _
      refine XS.aloadN X84.here hx rfl (hb hby at_25) rfl rfl ?_
      show Steps p.tables e below (T84.setTop (mkF m 26 #[.val (.int p0), .val (.int (2 : Int32)), .val (.ref w_B), .val (.int (0 : Int32))] [(.ref w_B)])) _
      refine st85.trans ?_
      show Steps p.tables e below (T85.setTop (mkF m 29 #[.val (.int p0), .val (.int (2 : Int32)), .val (.ref w_B), .val (.int (0 : Int32))] [(.int (0 : Int32))])) _
      refine XS.iloadN X85.here hx rfl (hb hby at_29) rfl ?_
      show Steps p.tables e below (T85.setTop (mkF m 30 #[.val (.int p0), .val (.int (2 : Int32)), .val (.ref w_B), .val (.int (0 : Int32))] [(.int (0 : Int32)), (.int (0 : Int32))])) _
      refine XS.icmpNo X85.here hx rfl (hb hby at_30) rfl (teq (by decide : (0 : Int32) = (0 : Int32))).2 ?_
      show Steps p.tables e below (T85.setTop (mkF m 33 #[.val (.int p0), .val (.int (2 : Int32)), .val (.ref w_B), .val (.int (0 : Int32))] [])) _
      refine XS.iconst X85.here hx rfl (hb hby at_33) ?_
      show Steps p.tables e below (T85.setTop (mkF m 34 #[.val (.int p0), .val (.int (2 : Int32)), .val (.ref w_B), .val (.int (0 : Int32))] [(.int (1 : Int32))])) _
      refine XS.goto X85.here hx rfl (pc0 := 34) (pc' := 38) rfl (hb hby at_34) (by decide) (by decide) ?_
      show Steps p.tables e below (T85.setTop (mkF m 38 #[.val (.int p0), .val (.int (2 : Int32)), .val (.ref w_B), .val (.int (0 : Int32))] [(.int (1 : Int32))])) _
      exact retN X85 hx (t := .boolean) Bd.returns (by simp) (hb hby at_38) hr
    · show own_Pure (some (.int 1)) h0 n0 _ T85.heap _
      rw [e85]
      exact ⟨rfl, N85, rfl⟩
  · -- (3 : Int32)
    obtain ⟨_, _, ⟨T86, L86, k86, n86⟩, -, X86, ⟨Lc86, hQ86, l86, y86, z86⟩, st86⟩ := Jvm.LawKit.callS X0 hx (y := (⟨"com/example/ovenbird/ovenbird/model/AttributeTypeIsSetPinLaw", "pick", "(I)Lcom/example/ovenbird/ovenbird/model/AttributeType;"⟩ : MethodName)) hown (mvT hZ (hw _ (List.mem_of_getElem? (i := 1) rfl))) (mvT hZ (hw _ (List.mem_of_getElem? (i := 2) rfl))) (mvT hZ (hw _ (List.mem_of_getElem? (i := 3) rfl))) (mvT hZ (hw _ (List.mem_of_getElem? (i := 4) rfl))) (by decide) (backOf (W := 0) (rm_pick l Z a0 hw [] (3 : Int32) h0 n0 Z0 w_S w_SS w_NS w_BS w_BOOL w_N w_NULL w_B w_M w_L hWd w_BOOL (by first | rfl | decide | simp)) hZ (hw _ (List.mem_of_getElem? (i := 4) rfl)) (hw _ (List.mem_of_getElem? (i := 3) rfl)) (by decide) (by decide)) (g := (mkF m 9 #[.val (.int p0), .val (.int (3 : Int32)), .unset, .unset] [(.int (3 : Int32))])) rfl (by rw [hml]; rfl) (argsL := [(.int (3 : Int32))]) (rest := []) (lenOf pd_61 rfl) rfl (by show 2 * 0 + _ ≤ _; exact Nat.le_of_eq rfl) (hb hby at_9) (fun _ _ => ⟨rfl, e0, (by decide : 0 + 0 ≤ _), (by decide : 0 + 0 ≤ _)⟩)
    dsimp only [Pt.U, Pt.locs, Pt.cells, Pt.slots] at X86 l86 y86 z86 st86 hQ86
    subst l86 y86 z86
    obtain ⟨rfl, N86q, e86⟩ := hQ86
    have N86 := Fr.app N0 N86q
    obtain ⟨cq87, kq87, q87a, q87b, q87c⟩ := isOf hZ e86 (E_BOOL)
    obtain ⟨_, _, ⟨T87, L87, k87, n87⟩, -, X87, ⟨Lc87, hQ87, l87, y87, z87⟩, st87⟩ := X86.virtualBack hx (y := (⟨"com/example/ovenbird/ovenbird/model/AttributeType", "isSet", "()Z"⟩ : MethodName)) (z := (⟨"com/example/ovenbird/ovenbird/model/AttributeType", "isSet", "()Z"⟩ : MethodName)) hown (mvT hZ (hw _ (List.mem_of_getElem? (i := 8) rfl))) (mvT hZ (hw _ (List.mem_of_getElem? (i := 9) rfl))) (notFace_of_selects (args := #[]) (mvT hZ (hw _ (List.mem_of_getElem? (i := 11) rfl)))) (mvT hZ (hw _ (List.mem_of_getElem? (i := 11) rfl))) (mvT hZ (hw _ (List.mem_of_getElem? (i := 10) rfl))) (by decide) (backOf (W := 0) (rm_isSet l Z a0 hw [] w_BOOL h0 n0 Z0 w_S w_SS w_NS w_BS w_BOOL w_N w_NULL w_B w_M w_L hWd (0 : Int32) (by simp [(F_BOOL_ordinal.ne F_SS_ordinal (by decide)), (F_BOOL_ordinal.ne F_NS_ordinal (by decide)), (F_BOOL_ordinal.ne F_BS_ordinal (by decide))])) hZ (hw _ (List.mem_of_getElem? (i := 12) rfl)) (hw _ (List.mem_of_getElem? (i := 6) rfl)) (by decide) (by decide)) q87a q87c (g := (mkF m 26 #[.val (.int p0), .val (.int (3 : Int32)), .val (.ref w_BOOL), .val (.int (0 : Int32))] [(.ref w_BOOL)])) rfl (by rw [hml]; rfl) (Steps.refl _) (argsL := []) (rest := []) (lenOf pd_62 rfl) rfl (by show 2 * 0 + _ ≤ _; exact Nat.le_of_eq rfl) (hb hby at_26) (fun _ _ => ⟨rfl, e86, (by decide : 0 + 0 ≤ _), (by decide : 0 + 0 ≤ _)⟩)
    dsimp only [Pt.U, Pt.locs, Pt.cells, Pt.slots] at X87 l87 y87 z87 st87 hQ87
    subst l87 y87 z87
    obtain ⟨rfl, N87q, e87⟩ := hQ87
    have N87 := Fr.app N86 N87q
    obtain ⟨fs, hr, hrun, hended, hW, hsame⟩ := X87.leave (v := some (.int (1 : Int32))) (fun h => by rw [Bd.returns] at h; cases h)
    refine ⟨_, _, ck69 _ ?_, hrun, hended, _, _, rfl, ?_, ⟨_, rfl⟩, hW, hsame.mono (by decide) (by decide)⟩
    · show Steps p.tables e below (s₁.setTop (mkF m 7 #[.val (.int p0), .unset, .unset, .unset] [(.int ((p0 &&& (2147483647 : Int32)) % (10 : Int32)))])) _
      rw [hv73]
      show Steps p.tables e below (s₁.setTop (mkF m 7 #[.val (.int p0), .unset, .unset, .unset] [(.int (3 : Int32))])) _
      refine XS.istoreN X0.here hx rfl (hb hby at_7) rfl (l' := #[.val (.int p0), .val (.int (3 : Int32)), .unset, .unset]) rfl ?_
      show Steps p.tables e below (s₁.setTop (mkF m 8 #[.val (.int p0), .val (.int (3 : Int32)), .unset, .unset] [])) _
      refine XS.iloadN X0.here hx rfl (hb hby at_8) rfl ?_
      show Steps p.tables e below (s₁.setTop (mkF m 9 #[.val (.int p0), .val (.int (3 : Int32)), .unset, .unset] [(.int (3 : Int32))])) _
      refine st86 _ ?_
      show Steps p.tables e below (T86.setTop (mkF m 12 #[.val (.int p0), .val (.int (3 : Int32)), .unset, .unset] [(.ref w_BOOL)])) _
      refine XS.astoreN X86.here hx rfl (hb hby at_12) rfl rfl (l' := #[.val (.int p0), .val (.int (3 : Int32)), .val (.ref w_BOOL), .unset]) rfl ?_
      show Steps p.tables e below (T86.setTop (mkF m 13 #[.val (.int p0), .val (.int (3 : Int32)), .val (.ref w_BOOL), .unset] [])) _
      refine XS.iloadN X86.here hx rfl (hb hby at_13) rfl ?_
      show Steps p.tables e below (T86.setTop (mkF m 14 #[.val (.int p0), .val (.int (3 : Int32)), .val (.ref w_BOOL), .unset] [(.int (3 : Int32))])) _
      refine XS.bipush X86.here hx rfl (hb hby at_14) ?_
      show Steps p.tables e below (T86.setTop (mkF m 16 #[.val (.int p0), .val (.int (3 : Int32)), .val (.ref w_BOOL), .unset] [(.int (7 : Int32)), (.int (3 : Int32))])) _
      refine XS.icmpYes X86.here hx rfl (pc0 := 16) (pc' := 23) rfl (hb hby at_16) rfl (tlt (by decide : (3 : Int32) < (7 : Int32))).1 (by decide) (by decide) ?_
      show Steps p.tables e below (T86.setTop (mkF m 23 #[.val (.int p0), .val (.int (3 : Int32)), .val (.ref w_BOOL), .unset] [])) _
      refine XS.iconst X86.here hx rfl (hb hby at_23) ?_
      show Steps p.tables e below (T86.setTop (mkF m 24 #[.val (.int p0), .val (.int (3 : Int32)), .val (.ref w_BOOL), .unset] [(.int (0 : Int32))])) _
      refine XS.istoreN X86.here hx rfl (hb hby at_24) rfl (l' := #[.val (.int p0), .val (.int (3 : Int32)), .val (.ref w_BOOL), .val (.int (0 : Int32))]) rfl ?_
      show Steps p.tables e below (T86.setTop (mkF m 25 #[.val (.int p0), .val (.int (3 : Int32)), .val (.ref w_BOOL), .val (.int (0 : Int32))] [])) _
      refine XS.aloadN X86.here hx rfl (hb hby at_25) rfl rfl ?_
      show Steps p.tables e below (T86.setTop (mkF m 26 #[.val (.int p0), .val (.int (3 : Int32)), .val (.ref w_BOOL), .val (.int (0 : Int32))] [(.ref w_BOOL)])) _
      refine st87.trans ?_
      show Steps p.tables e below (T87.setTop (mkF m 29 #[.val (.int p0), .val (.int (3 : Int32)), .val (.ref w_BOOL), .val (.int (0 : Int32))] [(.int (0 : Int32))])) _
      refine XS.iloadN X87.here hx rfl (hb hby at_29) rfl ?_
      show Steps p.tables e below (T87.setTop (mkF m 30 #[.val (.int p0), .val (.int (3 : Int32)), .val (.ref w_BOOL), .val (.int (0 : Int32))] [(.int (0 : Int32)), (.int (0 : Int32))])) _
      refine XS.icmpNo X87.here hx rfl (hb hby at_30) rfl (teq (by decide : (0 : Int32) = (0 : Int32))).2 ?_
      show Steps p.tables e below (T87.setTop (mkF m 33 #[.val (.int p0), .val (.int (3 : Int32)), .val (.ref w_BOOL), .val (.int (0 : Int32))] [])) _
      refine XS.iconst X87.here hx rfl (hb hby at_33) ?_
      show Steps p.tables e below (T87.setTop (mkF m 34 #[.val (.int p0), .val (.int (3 : Int32)), .val (.ref w_BOOL), .val (.int (0 : Int32))] [(.int (1 : Int32))])) _
      refine XS.goto X87.here hx rfl (pc0 := 34) (pc' := 38) rfl (hb hby at_34) (by decide) (by decide) ?_
      show Steps p.tables e below (T87.setTop (mkF m 38 #[.val (.int p0), .val (.int (3 : Int32)), .val (.ref w_BOOL), .val (.int (0 : Int32))] [(.int (1 : Int32))])) _
      exact retN X87 hx (t := .boolean) Bd.returns (by simp) (hb hby at_38) hr
    · show own_Pure (some (.int 1)) h0 n0 _ T87.heap _
      rw [e87]
      exact ⟨rfl, N87, rfl⟩
  · -- (4 : Int32)
    obtain ⟨_, _, ⟨T88, L88, k88, n88⟩, -, X88, ⟨Lc88, hQ88, l88, y88, z88⟩, st88⟩ := Jvm.LawKit.callS X0 hx (y := (⟨"com/example/ovenbird/ovenbird/model/AttributeTypeIsSetPinLaw", "pick", "(I)Lcom/example/ovenbird/ovenbird/model/AttributeType;"⟩ : MethodName)) hown (mvT hZ (hw _ (List.mem_of_getElem? (i := 1) rfl))) (mvT hZ (hw _ (List.mem_of_getElem? (i := 2) rfl))) (mvT hZ (hw _ (List.mem_of_getElem? (i := 3) rfl))) (mvT hZ (hw _ (List.mem_of_getElem? (i := 4) rfl))) (by decide) (backOf (W := 0) (rm_pick l Z a0 hw [] (4 : Int32) h0 n0 Z0 w_S w_SS w_NS w_BS w_BOOL w_N w_NULL w_B w_M w_L hWd w_NULL (by first | rfl | decide | simp)) hZ (hw _ (List.mem_of_getElem? (i := 4) rfl)) (hw _ (List.mem_of_getElem? (i := 3) rfl)) (by decide) (by decide)) (g := (mkF m 9 #[.val (.int p0), .val (.int (4 : Int32)), .unset, .unset] [(.int (4 : Int32))])) rfl (by rw [hml]; rfl) (argsL := [(.int (4 : Int32))]) (rest := []) (lenOf pd_61 rfl) rfl (by show 2 * 0 + _ ≤ _; exact Nat.le_of_eq rfl) (hb hby at_9) (fun _ _ => ⟨rfl, e0, (by decide : 0 + 0 ≤ _), (by decide : 0 + 0 ≤ _)⟩)
    dsimp only [Pt.U, Pt.locs, Pt.cells, Pt.slots] at X88 l88 y88 z88 st88 hQ88
    subst l88 y88 z88
    obtain ⟨rfl, N88q, e88⟩ := hQ88
    have N88 := Fr.app N0 N88q
    obtain ⟨cq89, kq89, q89a, q89b, q89c⟩ := isOf hZ e88 (E_NULL)
    obtain ⟨_, _, ⟨T89, L89, k89, n89⟩, -, X89, ⟨Lc89, hQ89, l89, y89, z89⟩, st89⟩ := X88.virtualBack hx (y := (⟨"com/example/ovenbird/ovenbird/model/AttributeType", "isSet", "()Z"⟩ : MethodName)) (z := (⟨"com/example/ovenbird/ovenbird/model/AttributeType", "isSet", "()Z"⟩ : MethodName)) hown (mvT hZ (hw _ (List.mem_of_getElem? (i := 8) rfl))) (mvT hZ (hw _ (List.mem_of_getElem? (i := 9) rfl))) (notFace_of_selects (args := #[]) (mvT hZ (hw _ (List.mem_of_getElem? (i := 11) rfl)))) (mvT hZ (hw _ (List.mem_of_getElem? (i := 11) rfl))) (mvT hZ (hw _ (List.mem_of_getElem? (i := 10) rfl))) (by decide) (backOf (W := 0) (rm_isSet l Z a0 hw [] w_NULL h0 n0 Z0 w_S w_SS w_NS w_BS w_BOOL w_N w_NULL w_B w_M w_L hWd (0 : Int32) (by simp [(F_NULL_ordinal.ne F_SS_ordinal (by decide)), (F_NULL_ordinal.ne F_NS_ordinal (by decide)), (F_NULL_ordinal.ne F_BS_ordinal (by decide))])) hZ (hw _ (List.mem_of_getElem? (i := 12) rfl)) (hw _ (List.mem_of_getElem? (i := 6) rfl)) (by decide) (by decide)) q89a q89c (g := (mkF m 26 #[.val (.int p0), .val (.int (4 : Int32)), .val (.ref w_NULL), .val (.int (0 : Int32))] [(.ref w_NULL)])) rfl (by rw [hml]; rfl) (Steps.refl _) (argsL := []) (rest := []) (lenOf pd_62 rfl) rfl (by show 2 * 0 + _ ≤ _; exact Nat.le_of_eq rfl) (hb hby at_26) (fun _ _ => ⟨rfl, e88, (by decide : 0 + 0 ≤ _), (by decide : 0 + 0 ≤ _)⟩)
    dsimp only [Pt.U, Pt.locs, Pt.cells, Pt.slots] at X89 l89 y89 z89 st89 hQ89
    subst l89 y89 z89
    obtain ⟨rfl, N89q, e89⟩ := hQ89
    have N89 := Fr.app N88 N89q
    obtain ⟨fs, hr, hrun, hended, hW, hsame⟩ := X89.leave (v := some (.int (1 : Int32))) (fun h => by rw [Bd.returns] at h; cases h)
    refine ⟨_, _, ck69 _ ?_, hrun, hended, _, _, rfl, ?_, ⟨_, rfl⟩, hW, hsame.mono (by decide) (by decide)⟩
    · show Steps p.tables e below (s₁.setTop (mkF m 7 #[.val (.int p0), .unset, .unset, .unset] [(.int ((p0 &&& (2147483647 : Int32)) % (10 : Int32)))])) _
      rw [hv74]
      show Steps p.tables e below (s₁.setTop (mkF m 7 #[.val (.int p0), .unset, .unset, .unset] [(.int (4 : Int32))])) _
      refine XS.istoreN X0.here hx rfl (hb hby at_7) rfl (l' := #[.val (.int p0), .val (.int (4 : Int32)), .unset, .unset]) rfl ?_
      show Steps p.tables e below (s₁.setTop (mkF m 8 #[.val (.int p0), .val (.int (4 : Int32)), .unset, .unset] [])) _
      refine XS.iloadN X0.here hx rfl (hb hby at_8) rfl ?_
      show Steps p.tables e below (s₁.setTop (mkF m 9 #[.val (.int p0), .val (.int (4 : Int32)), .unset, .unset] [(.int (4 : Int32))])) _
      refine st88 _ ?_
      show Steps p.tables e below (T88.setTop (mkF m 12 #[.val (.int p0), .val (.int (4 : Int32)), .unset, .unset] [(.ref w_NULL)])) _
      refine XS.astoreN X88.here hx rfl (hb hby at_12) rfl rfl (l' := #[.val (.int p0), .val (.int (4 : Int32)), .val (.ref w_NULL), .unset]) rfl ?_
      show Steps p.tables e below (T88.setTop (mkF m 13 #[.val (.int p0), .val (.int (4 : Int32)), .val (.ref w_NULL), .unset] [])) _
      refine XS.iloadN X88.here hx rfl (hb hby at_13) rfl ?_
      show Steps p.tables e below (T88.setTop (mkF m 14 #[.val (.int p0), .val (.int (4 : Int32)), .val (.ref w_NULL), .unset] [(.int (4 : Int32))])) _
      refine XS.bipush X88.here hx rfl (hb hby at_14) ?_
      show Steps p.tables e below (T88.setTop (mkF m 16 #[.val (.int p0), .val (.int (4 : Int32)), .val (.ref w_NULL), .unset] [(.int (7 : Int32)), (.int (4 : Int32))])) _
      refine XS.icmpYes X88.here hx rfl (pc0 := 16) (pc' := 23) rfl (hb hby at_16) rfl (tlt (by decide : (4 : Int32) < (7 : Int32))).1 (by decide) (by decide) ?_
      show Steps p.tables e below (T88.setTop (mkF m 23 #[.val (.int p0), .val (.int (4 : Int32)), .val (.ref w_NULL), .unset] [])) _
      refine XS.iconst X88.here hx rfl (hb hby at_23) ?_
      show Steps p.tables e below (T88.setTop (mkF m 24 #[.val (.int p0), .val (.int (4 : Int32)), .val (.ref w_NULL), .unset] [(.int (0 : Int32))])) _
      refine XS.istoreN X88.here hx rfl (hb hby at_24) rfl (l' := #[.val (.int p0), .val (.int (4 : Int32)), .val (.ref w_NULL), .val (.int (0 : Int32))]) rfl ?_
      show Steps p.tables e below (T88.setTop (mkF m 25 #[.val (.int p0), .val (.int (4 : Int32)), .val (.ref w_NULL), .val (.int (0 : Int32))] [])) _
      refine XS.aloadN X88.here hx rfl (hb hby at_25) rfl rfl ?_
      show Steps p.tables e below (T88.setTop (mkF m 26 #[.val (.int p0), .val (.int (4 : Int32)), .val (.ref w_NULL), .val (.int (0 : Int32))] [(.ref w_NULL)])) _
      refine st89.trans ?_
      show Steps p.tables e below (T89.setTop (mkF m 29 #[.val (.int p0), .val (.int (4 : Int32)), .val (.ref w_NULL), .val (.int (0 : Int32))] [(.int (0 : Int32))])) _
      refine XS.iloadN X89.here hx rfl (hb hby at_29) rfl ?_
      show Steps p.tables e below (T89.setTop (mkF m 30 #[.val (.int p0), .val (.int (4 : Int32)), .val (.ref w_NULL), .val (.int (0 : Int32))] [(.int (0 : Int32)), (.int (0 : Int32))])) _
      refine XS.icmpNo X89.here hx rfl (hb hby at_30) rfl (teq (by decide : (0 : Int32) = (0 : Int32))).2 ?_
      show Steps p.tables e below (T89.setTop (mkF m 33 #[.val (.int p0), .val (.int (4 : Int32)), .val (.ref w_NULL), .val (.int (0 : Int32))] [])) _
      refine XS.iconst X89.here hx rfl (hb hby at_33) ?_
      show Steps p.tables e below (T89.setTop (mkF m 34 #[.val (.int p0), .val (.int (4 : Int32)), .val (.ref w_NULL), .val (.int (0 : Int32))] [(.int (1 : Int32))])) _
      refine XS.goto X89.here hx rfl (pc0 := 34) (pc' := 38) rfl (hb hby at_34) (by decide) (by decide) ?_
      show Steps p.tables e below (T89.setTop (mkF m 38 #[.val (.int p0), .val (.int (4 : Int32)), .val (.ref w_NULL), .val (.int (0 : Int32))] [(.int (1 : Int32))])) _
      exact retN X89 hx (t := .boolean) Bd.returns (by simp) (hb hby at_38) hr
    · show own_Pure (some (.int 1)) h0 n0 _ T89.heap _
      rw [e89]
      exact ⟨rfl, N89, rfl⟩
  · -- (5 : Int32)
    obtain ⟨_, _, ⟨T90, L90, k90, n90⟩, -, X90, ⟨Lc90, hQ90, l90, y90, z90⟩, st90⟩ := Jvm.LawKit.callS X0 hx (y := (⟨"com/example/ovenbird/ovenbird/model/AttributeTypeIsSetPinLaw", "pick", "(I)Lcom/example/ovenbird/ovenbird/model/AttributeType;"⟩ : MethodName)) hown (mvT hZ (hw _ (List.mem_of_getElem? (i := 1) rfl))) (mvT hZ (hw _ (List.mem_of_getElem? (i := 2) rfl))) (mvT hZ (hw _ (List.mem_of_getElem? (i := 3) rfl))) (mvT hZ (hw _ (List.mem_of_getElem? (i := 4) rfl))) (by decide) (backOf (W := 0) (rm_pick l Z a0 hw [] (5 : Int32) h0 n0 Z0 w_S w_SS w_NS w_BS w_BOOL w_N w_NULL w_B w_M w_L hWd w_M (by first | rfl | decide | simp)) hZ (hw _ (List.mem_of_getElem? (i := 4) rfl)) (hw _ (List.mem_of_getElem? (i := 3) rfl)) (by decide) (by decide)) (g := (mkF m 9 #[.val (.int p0), .val (.int (5 : Int32)), .unset, .unset] [(.int (5 : Int32))])) rfl (by rw [hml]; rfl) (argsL := [(.int (5 : Int32))]) (rest := []) (lenOf pd_61 rfl) rfl (by show 2 * 0 + _ ≤ _; exact Nat.le_of_eq rfl) (hb hby at_9) (fun _ _ => ⟨rfl, e0, (by decide : 0 + 0 ≤ _), (by decide : 0 + 0 ≤ _)⟩)
    dsimp only [Pt.U, Pt.locs, Pt.cells, Pt.slots] at X90 l90 y90 z90 st90 hQ90
    subst l90 y90 z90
    obtain ⟨rfl, N90q, e90⟩ := hQ90
    have N90 := Fr.app N0 N90q
    obtain ⟨cq91, kq91, q91a, q91b, q91c⟩ := isOf hZ e90 (E_M)
    obtain ⟨_, _, ⟨T91, L91, k91, n91⟩, -, X91, ⟨Lc91, hQ91, l91, y91, z91⟩, st91⟩ := X90.virtualBack hx (y := (⟨"com/example/ovenbird/ovenbird/model/AttributeType", "isSet", "()Z"⟩ : MethodName)) (z := (⟨"com/example/ovenbird/ovenbird/model/AttributeType", "isSet", "()Z"⟩ : MethodName)) hown (mvT hZ (hw _ (List.mem_of_getElem? (i := 8) rfl))) (mvT hZ (hw _ (List.mem_of_getElem? (i := 9) rfl))) (notFace_of_selects (args := #[]) (mvT hZ (hw _ (List.mem_of_getElem? (i := 11) rfl)))) (mvT hZ (hw _ (List.mem_of_getElem? (i := 11) rfl))) (mvT hZ (hw _ (List.mem_of_getElem? (i := 10) rfl))) (by decide) (backOf (W := 0) (rm_isSet l Z a0 hw [] w_M h0 n0 Z0 w_S w_SS w_NS w_BS w_BOOL w_N w_NULL w_B w_M w_L hWd (0 : Int32) (by simp [(F_M_ordinal.ne F_SS_ordinal (by decide)), (F_M_ordinal.ne F_NS_ordinal (by decide)), (F_M_ordinal.ne F_BS_ordinal (by decide))])) hZ (hw _ (List.mem_of_getElem? (i := 12) rfl)) (hw _ (List.mem_of_getElem? (i := 6) rfl)) (by decide) (by decide)) q91a q91c (g := (mkF m 26 #[.val (.int p0), .val (.int (5 : Int32)), .val (.ref w_M), .val (.int (0 : Int32))] [(.ref w_M)])) rfl (by rw [hml]; rfl) (Steps.refl _) (argsL := []) (rest := []) (lenOf pd_62 rfl) rfl (by show 2 * 0 + _ ≤ _; exact Nat.le_of_eq rfl) (hb hby at_26) (fun _ _ => ⟨rfl, e90, (by decide : 0 + 0 ≤ _), (by decide : 0 + 0 ≤ _)⟩)
    dsimp only [Pt.U, Pt.locs, Pt.cells, Pt.slots] at X91 l91 y91 z91 st91 hQ91
    subst l91 y91 z91
    obtain ⟨rfl, N91q, e91⟩ := hQ91
    have N91 := Fr.app N90 N91q
    obtain ⟨fs, hr, hrun, hended, hW, hsame⟩ := X91.leave (v := some (.int (1 : Int32))) (fun h => by rw [Bd.returns] at h; cases h)
    refine ⟨_, _, ck69 _ ?_, hrun, hended, _, _, rfl, ?_, ⟨_, rfl⟩, hW, hsame.mono (by decide) (by decide)⟩
    · show Steps p.tables e below (s₁.setTop (mkF m 7 #[.val (.int p0), .unset, .unset, .unset] [(.int ((p0 &&& (2147483647 : Int32)) % (10 : Int32)))])) _
      rw [hv75]
      show Steps p.tables e below (s₁.setTop (mkF m 7 #[.val (.int p0), .unset, .unset, .unset] [(.int (5 : Int32))])) _
      refine XS.istoreN X0.here hx rfl (hb hby at_7) rfl (l' := #[.val (.int p0), .val (.int (5 : Int32)), .unset, .unset]) rfl ?_
      show Steps p.tables e below (s₁.setTop (mkF m 8 #[.val (.int p0), .val (.int (5 : Int32)), .unset, .unset] [])) _
      refine XS.iloadN X0.here hx rfl (hb hby at_8) rfl ?_
      show Steps p.tables e below (s₁.setTop (mkF m 9 #[.val (.int p0), .val (.int (5 : Int32)), .unset, .unset] [(.int (5 : Int32))])) _
      refine st90 _ ?_
      show Steps p.tables e below (T90.setTop (mkF m 12 #[.val (.int p0), .val (.int (5 : Int32)), .unset, .unset] [(.ref w_M)])) _
      refine XS.astoreN X90.here hx rfl (hb hby at_12) rfl rfl (l' := #[.val (.int p0), .val (.int (5 : Int32)), .val (.ref w_M), .unset]) rfl ?_
      show Steps p.tables e below (T90.setTop (mkF m 13 #[.val (.int p0), .val (.int (5 : Int32)), .val (.ref w_M), .unset] [])) _
      refine XS.iloadN X90.here hx rfl (hb hby at_13) rfl ?_
      show Steps p.tables e below (T90.setTop (mkF m 14 #[.val (.int p0), .val (.int (5 : Int32)), .val (.ref w_M), .unset] [(.int (5 : Int32))])) _
      refine XS.bipush X90.here hx rfl (hb hby at_14) ?_
      show Steps p.tables e below (T90.setTop (mkF m 16 #[.val (.int p0), .val (.int (5 : Int32)), .val (.ref w_M), .unset] [(.int (7 : Int32)), (.int (5 : Int32))])) _
      refine XS.icmpYes X90.here hx rfl (pc0 := 16) (pc' := 23) rfl (hb hby at_16) rfl (tlt (by decide : (5 : Int32) < (7 : Int32))).1 (by decide) (by decide) ?_
      show Steps p.tables e below (T90.setTop (mkF m 23 #[.val (.int p0), .val (.int (5 : Int32)), .val (.ref w_M), .unset] [])) _
      refine XS.iconst X90.here hx rfl (hb hby at_23) ?_
      show Steps p.tables e below (T90.setTop (mkF m 24 #[.val (.int p0), .val (.int (5 : Int32)), .val (.ref w_M), .unset] [(.int (0 : Int32))])) _
      refine XS.istoreN X90.here hx rfl (hb hby at_24) rfl (l' := #[.val (.int p0), .val (.int (5 : Int32)), .val (.ref w_M), .val (.int (0 : Int32))]) rfl ?_
      show Steps p.tables e below (T90.setTop (mkF m 25 #[.val (.int p0), .val (.int (5 : Int32)), .val (.ref w_M), .val (.int (0 : Int32))] [])) _
      refine XS.aloadN X90.here hx rfl (hb hby at_25) rfl rfl ?_
      show Steps p.tables e below (T90.setTop (mkF m 26 #[.val (.int p0), .val (.int (5 : Int32)), .val (.ref w_M), .val (.int (0 : Int32))] [(.ref w_M)])) _
      refine st91.trans ?_
      show Steps p.tables e below (T91.setTop (mkF m 29 #[.val (.int p0), .val (.int (5 : Int32)), .val (.ref w_M), .val (.int (0 : Int32))] [(.int (0 : Int32))])) _
      refine XS.iloadN X91.here hx rfl (hb hby at_29) rfl ?_
      show Steps p.tables e below (T91.setTop (mkF m 30 #[.val (.int p0), .val (.int (5 : Int32)), .val (.ref w_M), .val (.int (0 : Int32))] [(.int (0 : Int32)), (.int (0 : Int32))])) _
      refine XS.icmpNo X91.here hx rfl (hb hby at_30) rfl (teq (by decide : (0 : Int32) = (0 : Int32))).2 ?_
      show Steps p.tables e below (T91.setTop (mkF m 33 #[.val (.int p0), .val (.int (5 : Int32)), .val (.ref w_M), .val (.int (0 : Int32))] [])) _
      refine XS.iconst X91.here hx rfl (hb hby at_33) ?_
      show Steps p.tables e below (T91.setTop (mkF m 34 #[.val (.int p0), .val (.int (5 : Int32)), .val (.ref w_M), .val (.int (0 : Int32))] [(.int (1 : Int32))])) _
      refine XS.goto X91.here hx rfl (pc0 := 34) (pc' := 38) rfl (hb hby at_34) (by decide) (by decide) ?_
      show Steps p.tables e below (T91.setTop (mkF m 38 #[.val (.int p0), .val (.int (5 : Int32)), .val (.ref w_M), .val (.int (0 : Int32))] [(.int (1 : Int32))])) _
      exact retN X91 hx (t := .boolean) Bd.returns (by simp) (hb hby at_38) hr
    · show own_Pure (some (.int 1)) h0 n0 _ T91.heap _
      rw [e91]
      exact ⟨rfl, N91, rfl⟩
  · -- (6 : Int32)
    obtain ⟨_, _, ⟨T92, L92, k92, n92⟩, -, X92, ⟨Lc92, hQ92, l92, y92, z92⟩, st92⟩ := Jvm.LawKit.callS X0 hx (y := (⟨"com/example/ovenbird/ovenbird/model/AttributeTypeIsSetPinLaw", "pick", "(I)Lcom/example/ovenbird/ovenbird/model/AttributeType;"⟩ : MethodName)) hown (mvT hZ (hw _ (List.mem_of_getElem? (i := 1) rfl))) (mvT hZ (hw _ (List.mem_of_getElem? (i := 2) rfl))) (mvT hZ (hw _ (List.mem_of_getElem? (i := 3) rfl))) (mvT hZ (hw _ (List.mem_of_getElem? (i := 4) rfl))) (by decide) (backOf (W := 0) (rm_pick l Z a0 hw [] (6 : Int32) h0 n0 Z0 w_S w_SS w_NS w_BS w_BOOL w_N w_NULL w_B w_M w_L hWd w_L (by first | rfl | decide | simp)) hZ (hw _ (List.mem_of_getElem? (i := 4) rfl)) (hw _ (List.mem_of_getElem? (i := 3) rfl)) (by decide) (by decide)) (g := (mkF m 9 #[.val (.int p0), .val (.int (6 : Int32)), .unset, .unset] [(.int (6 : Int32))])) rfl (by rw [hml]; rfl) (argsL := [(.int (6 : Int32))]) (rest := []) (lenOf pd_61 rfl) rfl (by show 2 * 0 + _ ≤ _; exact Nat.le_of_eq rfl) (hb hby at_9) (fun _ _ => ⟨rfl, e0, (by decide : 0 + 0 ≤ _), (by decide : 0 + 0 ≤ _)⟩)
    dsimp only [Pt.U, Pt.locs, Pt.cells, Pt.slots] at X92 l92 y92 z92 st92 hQ92
    subst l92 y92 z92
    obtain ⟨rfl, N92q, e92⟩ := hQ92
    have N92 := Fr.app N0 N92q
    obtain ⟨cq93, kq93, q93a, q93b, q93c⟩ := isOf hZ e92 (E_L)
    obtain ⟨_, _, ⟨T93, L93, k93, n93⟩, -, X93, ⟨Lc93, hQ93, l93, y93, z93⟩, st93⟩ := X92.virtualBack hx (y := (⟨"com/example/ovenbird/ovenbird/model/AttributeType", "isSet", "()Z"⟩ : MethodName)) (z := (⟨"com/example/ovenbird/ovenbird/model/AttributeType", "isSet", "()Z"⟩ : MethodName)) hown (mvT hZ (hw _ (List.mem_of_getElem? (i := 8) rfl))) (mvT hZ (hw _ (List.mem_of_getElem? (i := 9) rfl))) (notFace_of_selects (args := #[]) (mvT hZ (hw _ (List.mem_of_getElem? (i := 11) rfl)))) (mvT hZ (hw _ (List.mem_of_getElem? (i := 11) rfl))) (mvT hZ (hw _ (List.mem_of_getElem? (i := 10) rfl))) (by decide) (backOf (W := 0) (rm_isSet l Z a0 hw [] w_L h0 n0 Z0 w_S w_SS w_NS w_BS w_BOOL w_N w_NULL w_B w_M w_L hWd (0 : Int32) (by simp [(F_L_ordinal.ne F_SS_ordinal (by decide)), (F_L_ordinal.ne F_NS_ordinal (by decide)), (F_L_ordinal.ne F_BS_ordinal (by decide))])) hZ (hw _ (List.mem_of_getElem? (i := 12) rfl)) (hw _ (List.mem_of_getElem? (i := 6) rfl)) (by decide) (by decide)) q93a q93c (g := (mkF m 26 #[.val (.int p0), .val (.int (6 : Int32)), .val (.ref w_L), .val (.int (0 : Int32))] [(.ref w_L)])) rfl (by rw [hml]; rfl) (Steps.refl _) (argsL := []) (rest := []) (lenOf pd_62 rfl) rfl (by show 2 * 0 + _ ≤ _; exact Nat.le_of_eq rfl) (hb hby at_26) (fun _ _ => ⟨rfl, e92, (by decide : 0 + 0 ≤ _), (by decide : 0 + 0 ≤ _)⟩)
    dsimp only [Pt.U, Pt.locs, Pt.cells, Pt.slots] at X93 l93 y93 z93 st93 hQ93
    subst l93 y93 z93
    obtain ⟨rfl, N93q, e93⟩ := hQ93
    have N93 := Fr.app N92 N93q
    obtain ⟨fs, hr, hrun, hended, hW, hsame⟩ := X93.leave (v := some (.int (1 : Int32))) (fun h => by rw [Bd.returns] at h; cases h)
    refine ⟨_, _, ck69 _ ?_, hrun, hended, _, _, rfl, ?_, ⟨_, rfl⟩, hW, hsame.mono (by decide) (by decide)⟩
    · show Steps p.tables e below (s₁.setTop (mkF m 7 #[.val (.int p0), .unset, .unset, .unset] [(.int ((p0 &&& (2147483647 : Int32)) % (10 : Int32)))])) _
      rw [hv76]
      show Steps p.tables e below (s₁.setTop (mkF m 7 #[.val (.int p0), .unset, .unset, .unset] [(.int (6 : Int32))])) _
      refine XS.istoreN X0.here hx rfl (hb hby at_7) rfl (l' := #[.val (.int p0), .val (.int (6 : Int32)), .unset, .unset]) rfl ?_
      show Steps p.tables e below (s₁.setTop (mkF m 8 #[.val (.int p0), .val (.int (6 : Int32)), .unset, .unset] [])) _
      refine XS.iloadN X0.here hx rfl (hb hby at_8) rfl ?_
      show Steps p.tables e below (s₁.setTop (mkF m 9 #[.val (.int p0), .val (.int (6 : Int32)), .unset, .unset] [(.int (6 : Int32))])) _
      refine st92 _ ?_
      show Steps p.tables e below (T92.setTop (mkF m 12 #[.val (.int p0), .val (.int (6 : Int32)), .unset, .unset] [(.ref w_L)])) _
      refine XS.astoreN X92.here hx rfl (hb hby at_12) rfl rfl (l' := #[.val (.int p0), .val (.int (6 : Int32)), .val (.ref w_L), .unset]) rfl ?_
      show Steps p.tables e below (T92.setTop (mkF m 13 #[.val (.int p0), .val (.int (6 : Int32)), .val (.ref w_L), .unset] [])) _
      refine XS.iloadN X92.here hx rfl (hb hby at_13) rfl ?_
      show Steps p.tables e below (T92.setTop (mkF m 14 #[.val (.int p0), .val (.int (6 : Int32)), .val (.ref w_L), .unset] [(.int (6 : Int32))])) _
      refine XS.bipush X92.here hx rfl (hb hby at_14) ?_
      show Steps p.tables e below (T92.setTop (mkF m 16 #[.val (.int p0), .val (.int (6 : Int32)), .val (.ref w_L), .unset] [(.int (7 : Int32)), (.int (6 : Int32))])) _
      refine XS.icmpYes X92.here hx rfl (pc0 := 16) (pc' := 23) rfl (hb hby at_16) rfl (tlt (by decide : (6 : Int32) < (7 : Int32))).1 (by decide) (by decide) ?_
      show Steps p.tables e below (T92.setTop (mkF m 23 #[.val (.int p0), .val (.int (6 : Int32)), .val (.ref w_L), .unset] [])) _
      refine XS.iconst X92.here hx rfl (hb hby at_23) ?_
      show Steps p.tables e below (T92.setTop (mkF m 24 #[.val (.int p0), .val (.int (6 : Int32)), .val (.ref w_L), .unset] [(.int (0 : Int32))])) _
      refine XS.istoreN X92.here hx rfl (hb hby at_24) rfl (l' := #[.val (.int p0), .val (.int (6 : Int32)), .val (.ref w_L), .val (.int (0 : Int32))]) rfl ?_
      show Steps p.tables e below (T92.setTop (mkF m 25 #[.val (.int p0), .val (.int (6 : Int32)), .val (.ref w_L), .val (.int (0 : Int32))] [])) _
      refine XS.aloadN X92.here hx rfl (hb hby at_25) rfl rfl ?_
      show Steps p.tables e below (T92.setTop (mkF m 26 #[.val (.int p0), .val (.int (6 : Int32)), .val (.ref w_L), .val (.int (0 : Int32))] [(.ref w_L)])) _
      refine st93.trans ?_
      show Steps p.tables e below (T93.setTop (mkF m 29 #[.val (.int p0), .val (.int (6 : Int32)), .val (.ref w_L), .val (.int (0 : Int32))] [(.int (0 : Int32))])) _
      refine XS.iloadN X93.here hx rfl (hb hby at_29) rfl ?_
      show Steps p.tables e below (T93.setTop (mkF m 30 #[.val (.int p0), .val (.int (6 : Int32)), .val (.ref w_L), .val (.int (0 : Int32))] [(.int (0 : Int32)), (.int (0 : Int32))])) _
      refine XS.icmpNo X93.here hx rfl (hb hby at_30) rfl (teq (by decide : (0 : Int32) = (0 : Int32))).2 ?_
      show Steps p.tables e below (T93.setTop (mkF m 33 #[.val (.int p0), .val (.int (6 : Int32)), .val (.ref w_L), .val (.int (0 : Int32))] [])) _
      refine XS.iconst X93.here hx rfl (hb hby at_33) ?_
      show Steps p.tables e below (T93.setTop (mkF m 34 #[.val (.int p0), .val (.int (6 : Int32)), .val (.ref w_L), .val (.int (0 : Int32))] [(.int (1 : Int32))])) _
      refine XS.goto X93.here hx rfl (pc0 := 34) (pc' := 38) rfl (hb hby at_34) (by decide) (by decide) ?_
      show Steps p.tables e below (T93.setTop (mkF m 38 #[.val (.int p0), .val (.int (6 : Int32)), .val (.ref w_L), .val (.int (0 : Int32))] [(.int (1 : Int32))])) _
      exact retN X93 hx (t := .boolean) Bd.returns (by simp) (hb hby at_38) hr
    · show own_Pure (some (.int 1)) h0 n0 _ T93.heap _
      rw [e93]
      exact ⟨rfl, N93, rfl⟩
  · -- (7 : Int32)
    obtain ⟨_, _, ⟨T94, L94, k94, n94⟩, -, X94, ⟨Lc94, hQ94, l94, y94, z94⟩, st94⟩ := Jvm.LawKit.callS X0 hx (y := (⟨"com/example/ovenbird/ovenbird/model/AttributeTypeIsSetPinLaw", "pick", "(I)Lcom/example/ovenbird/ovenbird/model/AttributeType;"⟩ : MethodName)) hown (mvT hZ (hw _ (List.mem_of_getElem? (i := 1) rfl))) (mvT hZ (hw _ (List.mem_of_getElem? (i := 2) rfl))) (mvT hZ (hw _ (List.mem_of_getElem? (i := 3) rfl))) (mvT hZ (hw _ (List.mem_of_getElem? (i := 4) rfl))) (by decide) (backOf (W := 0) (rm_pick l Z a0 hw [] (7 : Int32) h0 n0 Z0 w_S w_SS w_NS w_BS w_BOOL w_N w_NULL w_B w_M w_L hWd w_SS (by first | rfl | decide | simp)) hZ (hw _ (List.mem_of_getElem? (i := 4) rfl)) (hw _ (List.mem_of_getElem? (i := 3) rfl)) (by decide) (by decide)) (g := (mkF m 9 #[.val (.int p0), .val (.int (7 : Int32)), .unset, .unset] [(.int (7 : Int32))])) rfl (by rw [hml]; rfl) (argsL := [(.int (7 : Int32))]) (rest := []) (lenOf pd_61 rfl) rfl (by show 2 * 0 + _ ≤ _; exact Nat.le_of_eq rfl) (hb hby at_9) (fun _ _ => ⟨rfl, e0, (by decide : 0 + 0 ≤ _), (by decide : 0 + 0 ≤ _)⟩)
    dsimp only [Pt.U, Pt.locs, Pt.cells, Pt.slots] at X94 l94 y94 z94 st94 hQ94
    subst l94 y94 z94
    obtain ⟨rfl, N94q, e94⟩ := hQ94
    have N94 := Fr.app N0 N94q
    obtain ⟨cq95, kq95, q95a, q95b, q95c⟩ := isOf hZ e94 (E_SS)
    obtain ⟨_, _, ⟨T95, L95, k95, n95⟩, -, X95, ⟨Lc95, hQ95, l95, y95, z95⟩, st95⟩ := X94.virtualBack hx (y := (⟨"com/example/ovenbird/ovenbird/model/AttributeType", "isSet", "()Z"⟩ : MethodName)) (z := (⟨"com/example/ovenbird/ovenbird/model/AttributeType", "isSet", "()Z"⟩ : MethodName)) hown (mvT hZ (hw _ (List.mem_of_getElem? (i := 8) rfl))) (mvT hZ (hw _ (List.mem_of_getElem? (i := 9) rfl))) (notFace_of_selects (args := #[]) (mvT hZ (hw _ (List.mem_of_getElem? (i := 11) rfl)))) (mvT hZ (hw _ (List.mem_of_getElem? (i := 11) rfl))) (mvT hZ (hw _ (List.mem_of_getElem? (i := 10) rfl))) (by decide) (backOf (W := 0) (rm_isSet l Z a0 hw [] w_SS h0 n0 Z0 w_S w_SS w_NS w_BS w_BOOL w_N w_NULL w_B w_M w_L hWd (1 : Int32) (by simp [(F_SS_ordinal.ne F_NS_ordinal (by decide)), (F_SS_ordinal.ne F_BS_ordinal (by decide))])) hZ (hw _ (List.mem_of_getElem? (i := 12) rfl)) (hw _ (List.mem_of_getElem? (i := 6) rfl)) (by decide) (by decide)) q95a q95c (g := (mkF m 26 #[.val (.int p0), .val (.int (7 : Int32)), .val (.ref w_SS), .val (.int (1 : Int32))] [(.ref w_SS)])) rfl (by rw [hml]; rfl) (Steps.refl _) (argsL := []) (rest := []) (lenOf pd_62 rfl) rfl (by show 2 * 0 + _ ≤ _; exact Nat.le_of_eq rfl) (hb hby at_26) (fun _ _ => ⟨rfl, e94, (by decide : 0 + 0 ≤ _), (by decide : 0 + 0 ≤ _)⟩)
    dsimp only [Pt.U, Pt.locs, Pt.cells, Pt.slots] at X95 l95 y95 z95 st95 hQ95
    subst l95 y95 z95
    obtain ⟨rfl, N95q, e95⟩ := hQ95
    have N95 := Fr.app N94 N95q
    obtain ⟨fs, hr, hrun, hended, hW, hsame⟩ := X95.leave (v := some (.int (1 : Int32))) (fun h => by rw [Bd.returns] at h; cases h)
    refine ⟨_, _, ck69 _ ?_, hrun, hended, _, _, rfl, ?_, ⟨_, rfl⟩, hW, hsame.mono (by decide) (by decide)⟩
    · show Steps p.tables e below (s₁.setTop (mkF m 7 #[.val (.int p0), .unset, .unset, .unset] [(.int ((p0 &&& (2147483647 : Int32)) % (10 : Int32)))])) _
      rw [hv77]
      show Steps p.tables e below (s₁.setTop (mkF m 7 #[.val (.int p0), .unset, .unset, .unset] [(.int (7 : Int32))])) _
      refine XS.istoreN X0.here hx rfl (hb hby at_7) rfl (l' := #[.val (.int p0), .val (.int (7 : Int32)), .unset, .unset]) rfl ?_
      show Steps p.tables e below (s₁.setTop (mkF m 8 #[.val (.int p0), .val (.int (7 : Int32)), .unset, .unset] [])) _
      refine XS.iloadN X0.here hx rfl (hb hby at_8) rfl ?_
      show Steps p.tables e below (s₁.setTop (mkF m 9 #[.val (.int p0), .val (.int (7 : Int32)), .unset, .unset] [(.int (7 : Int32))])) _
      refine st94 _ ?_
      show Steps p.tables e below (T94.setTop (mkF m 12 #[.val (.int p0), .val (.int (7 : Int32)), .unset, .unset] [(.ref w_SS)])) _
      refine XS.astoreN X94.here hx rfl (hb hby at_12) rfl rfl (l' := #[.val (.int p0), .val (.int (7 : Int32)), .val (.ref w_SS), .unset]) rfl ?_
      show Steps p.tables e below (T94.setTop (mkF m 13 #[.val (.int p0), .val (.int (7 : Int32)), .val (.ref w_SS), .unset] [])) _
      refine XS.iloadN X94.here hx rfl (hb hby at_13) rfl ?_
      show Steps p.tables e below (T94.setTop (mkF m 14 #[.val (.int p0), .val (.int (7 : Int32)), .val (.ref w_SS), .unset] [(.int (7 : Int32))])) _
      refine XS.bipush X94.here hx rfl (hb hby at_14) ?_
      show Steps p.tables e below (T94.setTop (mkF m 16 #[.val (.int p0), .val (.int (7 : Int32)), .val (.ref w_SS), .unset] [(.int (7 : Int32)), (.int (7 : Int32))])) _
      refine XS.icmpNo X94.here hx rfl (hb hby at_16) rfl (flt (by decide : ¬ ((7 : Int32) < (7 : Int32)))).1 ?_
      show Steps p.tables e below (T94.setTop (mkF m 19 #[.val (.int p0), .val (.int (7 : Int32)), .val (.ref w_SS), .unset] [])) _
      refine XS.iconst X94.here hx rfl (hb hby at_19) ?_
      show Steps p.tables e below (T94.setTop (mkF m 20 #[.val (.int p0), .val (.int (7 : Int32)), .val (.ref w_SS), .unset] [(.int (1 : Int32))])) _
      refine XS.goto X94.here hx rfl (pc0 := 20) (pc' := 24) rfl (hb hby at_20) (by decide) (by decide) ?_
      show Steps p.tables e below (T94.setTop (mkF m 24 #[.val (.int p0), .val (.int (7 : Int32)), .val (.ref w_SS), .unset] [(.int (1 : Int32))])) _
      refine XS.istoreN X94.here hx rfl (hb hby at_24) rfl (l' := #[.val (.int p0), .val (.int (7 : Int32)), .val (.ref w_SS), .val (.int (1 : Int32))]) rfl ?_
      show Steps p.tables e below (T94.setTop (mkF m 25 #[.val (.int p0), .val (.int (7 : Int32)), .val (.ref w_SS), .val (.int (1 : Int32))] [])) _
      refine XS.aloadN X94.here hx rfl (hb hby at_25) rfl rfl ?_
      show Steps p.tables e below (T94.setTop (mkF m 26 #[.val (.int p0), .val (.int (7 : Int32)), .val (.ref w_SS), .val (.int (1 : Int32))] [(.ref w_SS)])) _
      refine st95.trans ?_
      show Steps p.tables e below (T95.setTop (mkF m 29 #[.val (.int p0), .val (.int (7 : Int32)), .val (.ref w_SS), .val (.int (1 : Int32))] [(.int (1 : Int32))])) _
      refine XS.iloadN X95.here hx rfl (hb hby at_29) rfl ?_
      show Steps p.tables e below (T95.setTop (mkF m 30 #[.val (.int p0), .val (.int (7 : Int32)), .val (.ref w_SS), .val (.int (1 : Int32))] [(.int (1 : Int32)), (.int (1 : Int32))])) _
      refine XS.icmpNo X95.here hx rfl (hb hby at_30) rfl (teq (by decide : (1 : Int32) = (1 : Int32))).2 ?_
      show Steps p.tables e below (T95.setTop (mkF m 33 #[.val (.int p0), .val (.int (7 : Int32)), .val (.ref w_SS), .val (.int (1 : Int32))] [])) _
      refine XS.iconst X95.here hx rfl (hb hby at_33) ?_
      show Steps p.tables e below (T95.setTop (mkF m 34 #[.val (.int p0), .val (.int (7 : Int32)), .val (.ref w_SS), .val (.int (1 : Int32))] [(.int (1 : Int32))])) _
      refine XS.goto X95.here hx rfl (pc0 := 34) (pc' := 38) rfl (hb hby at_34) (by decide) (by decide) ?_
      show Steps p.tables e below (T95.setTop (mkF m 38 #[.val (.int p0), .val (.int (7 : Int32)), .val (.ref w_SS), .val (.int (1 : Int32))] [(.int (1 : Int32))])) _
      exact retN X95 hx (t := .boolean) Bd.returns (by simp) (hb hby at_38) hr
    · show own_Pure (some (.int 1)) h0 n0 _ T95.heap _
      rw [e95]
      exact ⟨rfl, N95, rfl⟩
  · -- (8 : Int32)
    obtain ⟨_, _, ⟨T96, L96, k96, n96⟩, -, X96, ⟨Lc96, hQ96, l96, y96, z96⟩, st96⟩ := Jvm.LawKit.callS X0 hx (y := (⟨"com/example/ovenbird/ovenbird/model/AttributeTypeIsSetPinLaw", "pick", "(I)Lcom/example/ovenbird/ovenbird/model/AttributeType;"⟩ : MethodName)) hown (mvT hZ (hw _ (List.mem_of_getElem? (i := 1) rfl))) (mvT hZ (hw _ (List.mem_of_getElem? (i := 2) rfl))) (mvT hZ (hw _ (List.mem_of_getElem? (i := 3) rfl))) (mvT hZ (hw _ (List.mem_of_getElem? (i := 4) rfl))) (by decide) (backOf (W := 0) (rm_pick l Z a0 hw [] (8 : Int32) h0 n0 Z0 w_S w_SS w_NS w_BS w_BOOL w_N w_NULL w_B w_M w_L hWd w_NS (by first | rfl | decide | simp)) hZ (hw _ (List.mem_of_getElem? (i := 4) rfl)) (hw _ (List.mem_of_getElem? (i := 3) rfl)) (by decide) (by decide)) (g := (mkF m 9 #[.val (.int p0), .val (.int (8 : Int32)), .unset, .unset] [(.int (8 : Int32))])) rfl (by rw [hml]; rfl) (argsL := [(.int (8 : Int32))]) (rest := []) (lenOf pd_61 rfl) rfl (by show 2 * 0 + _ ≤ _; exact Nat.le_of_eq rfl) (hb hby at_9) (fun _ _ => ⟨rfl, e0, (by decide : 0 + 0 ≤ _), (by decide : 0 + 0 ≤ _)⟩)
    dsimp only [Pt.U, Pt.locs, Pt.cells, Pt.slots] at X96 l96 y96 z96 st96 hQ96
    subst l96 y96 z96
    obtain ⟨rfl, N96q, e96⟩ := hQ96
    have N96 := Fr.app N0 N96q
    obtain ⟨cq97, kq97, q97a, q97b, q97c⟩ := isOf hZ e96 (E_NS)
    obtain ⟨_, _, ⟨T97, L97, k97, n97⟩, -, X97, ⟨Lc97, hQ97, l97, y97, z97⟩, st97⟩ := X96.virtualBack hx (y := (⟨"com/example/ovenbird/ovenbird/model/AttributeType", "isSet", "()Z"⟩ : MethodName)) (z := (⟨"com/example/ovenbird/ovenbird/model/AttributeType", "isSet", "()Z"⟩ : MethodName)) hown (mvT hZ (hw _ (List.mem_of_getElem? (i := 8) rfl))) (mvT hZ (hw _ (List.mem_of_getElem? (i := 9) rfl))) (notFace_of_selects (args := #[]) (mvT hZ (hw _ (List.mem_of_getElem? (i := 11) rfl)))) (mvT hZ (hw _ (List.mem_of_getElem? (i := 11) rfl))) (mvT hZ (hw _ (List.mem_of_getElem? (i := 10) rfl))) (by decide) (backOf (W := 0) (rm_isSet l Z a0 hw [] w_NS h0 n0 Z0 w_S w_SS w_NS w_BS w_BOOL w_N w_NULL w_B w_M w_L hWd (1 : Int32) (by simp [(F_NS_ordinal.ne F_SS_ordinal (by decide)), (F_NS_ordinal.ne F_BS_ordinal (by decide))])) hZ (hw _ (List.mem_of_getElem? (i := 12) rfl)) (hw _ (List.mem_of_getElem? (i := 6) rfl)) (by decide) (by decide)) q97a q97c (g := (mkF m 26 #[.val (.int p0), .val (.int (8 : Int32)), .val (.ref w_NS), .val (.int (1 : Int32))] [(.ref w_NS)])) rfl (by rw [hml]; rfl) (Steps.refl _) (argsL := []) (rest := []) (lenOf pd_62 rfl) rfl (by show 2 * 0 + _ ≤ _; exact Nat.le_of_eq rfl) (hb hby at_26) (fun _ _ => ⟨rfl, e96, (by decide : 0 + 0 ≤ _), (by decide : 0 + 0 ≤ _)⟩)
    dsimp only [Pt.U, Pt.locs, Pt.cells, Pt.slots] at X97 l97 y97 z97 st97 hQ97
    subst l97 y97 z97
    obtain ⟨rfl, N97q, e97⟩ := hQ97
    have N97 := Fr.app N96 N97q
    obtain ⟨fs, hr, hrun, hended, hW, hsame⟩ := X97.leave (v := some (.int (1 : Int32))) (fun h => by rw [Bd.returns] at h; cases h)
    refine ⟨_, _, ck69 _ ?_, hrun, hended, _, _, rfl, ?_, ⟨_, rfl⟩, hW, hsame.mono (by decide) (by decide)⟩
    · show Steps p.tables e below (s₁.setTop (mkF m 7 #[.val (.int p0), .unset, .unset, .unset] [(.int ((p0 &&& (2147483647 : Int32)) % (10 : Int32)))])) _
      rw [hv78]
      show Steps p.tables e below (s₁.setTop (mkF m 7 #[.val (.int p0), .unset, .unset, .unset] [(.int (8 : Int32))])) _
      refine XS.istoreN X0.here hx rfl (hb hby at_7) rfl (l' := #[.val (.int p0), .val (.int (8 : Int32)), .unset, .unset]) rfl ?_
      show Steps p.tables e below (s₁.setTop (mkF m 8 #[.val (.int p0), .val (.int (8 : Int32)), .unset, .unset] [])) _
      refine XS.iloadN X0.here hx rfl (hb hby at_8) rfl ?_
      show Steps p.tables e below (s₁.setTop (mkF m 9 #[.val (.int p0), .val (.int (8 : Int32)), .unset, .unset] [(.int (8 : Int32))])) _
      refine st96 _ ?_
      show Steps p.tables e below (T96.setTop (mkF m 12 #[.val (.int p0), .val (.int (8 : Int32)), .unset, .unset] [(.ref w_NS)])) _
      refine XS.astoreN X96.here hx rfl (hb hby at_12) rfl rfl (l' := #[.val (.int p0), .val (.int (8 : Int32)), .val (.ref w_NS), .unset]) rfl ?_
      show Steps p.tables e below (T96.setTop (mkF m 13 #[.val (.int p0), .val (.int (8 : Int32)), .val (.ref w_NS), .unset] [])) _
      refine XS.iloadN X96.here hx rfl (hb hby at_13) rfl ?_
      show Steps p.tables e below (T96.setTop (mkF m 14 #[.val (.int p0), .val (.int (8 : Int32)), .val (.ref w_NS), .unset] [(.int (8 : Int32))])) _
      refine XS.bipush X96.here hx rfl (hb hby at_14) ?_
      show Steps p.tables e below (T96.setTop (mkF m 16 #[.val (.int p0), .val (.int (8 : Int32)), .val (.ref w_NS), .unset] [(.int (7 : Int32)), (.int (8 : Int32))])) _
      refine XS.icmpNo X96.here hx rfl (hb hby at_16) rfl (flt (by decide : ¬ ((8 : Int32) < (7 : Int32)))).1 ?_
      show Steps p.tables e below (T96.setTop (mkF m 19 #[.val (.int p0), .val (.int (8 : Int32)), .val (.ref w_NS), .unset] [])) _
      refine XS.iconst X96.here hx rfl (hb hby at_19) ?_
      show Steps p.tables e below (T96.setTop (mkF m 20 #[.val (.int p0), .val (.int (8 : Int32)), .val (.ref w_NS), .unset] [(.int (1 : Int32))])) _
      refine XS.goto X96.here hx rfl (pc0 := 20) (pc' := 24) rfl (hb hby at_20) (by decide) (by decide) ?_
      show Steps p.tables e below (T96.setTop (mkF m 24 #[.val (.int p0), .val (.int (8 : Int32)), .val (.ref w_NS), .unset] [(.int (1 : Int32))])) _
      refine XS.istoreN X96.here hx rfl (hb hby at_24) rfl (l' := #[.val (.int p0), .val (.int (8 : Int32)), .val (.ref w_NS), .val (.int (1 : Int32))]) rfl ?_
      show Steps p.tables e below (T96.setTop (mkF m 25 #[.val (.int p0), .val (.int (8 : Int32)), .val (.ref w_NS), .val (.int (1 : Int32))] [])) _
      refine XS.aloadN X96.here hx rfl (hb hby at_25) rfl rfl ?_
      show Steps p.tables e below (T96.setTop (mkF m 26 #[.val (.int p0), .val (.int (8 : Int32)), .val (.ref w_NS), .val (.int (1 : Int32))] [(.ref w_NS)])) _
      refine st97.trans ?_
      show Steps p.tables e below (T97.setTop (mkF m 29 #[.val (.int p0), .val (.int (8 : Int32)), .val (.ref w_NS), .val (.int (1 : Int32))] [(.int (1 : Int32))])) _
      refine XS.iloadN X97.here hx rfl (hb hby at_29) rfl ?_
      show Steps p.tables e below (T97.setTop (mkF m 30 #[.val (.int p0), .val (.int (8 : Int32)), .val (.ref w_NS), .val (.int (1 : Int32))] [(.int (1 : Int32)), (.int (1 : Int32))])) _
      refine XS.icmpNo X97.here hx rfl (hb hby at_30) rfl (teq (by decide : (1 : Int32) = (1 : Int32))).2 ?_
      show Steps p.tables e below (T97.setTop (mkF m 33 #[.val (.int p0), .val (.int (8 : Int32)), .val (.ref w_NS), .val (.int (1 : Int32))] [])) _
      refine XS.iconst X97.here hx rfl (hb hby at_33) ?_
      show Steps p.tables e below (T97.setTop (mkF m 34 #[.val (.int p0), .val (.int (8 : Int32)), .val (.ref w_NS), .val (.int (1 : Int32))] [(.int (1 : Int32))])) _
      refine XS.goto X97.here hx rfl (pc0 := 34) (pc' := 38) rfl (hb hby at_34) (by decide) (by decide) ?_
      show Steps p.tables e below (T97.setTop (mkF m 38 #[.val (.int p0), .val (.int (8 : Int32)), .val (.ref w_NS), .val (.int (1 : Int32))] [(.int (1 : Int32))])) _
      exact retN X97 hx (t := .boolean) Bd.returns (by simp) (hb hby at_38) hr
    · show own_Pure (some (.int 1)) h0 n0 _ T97.heap _
      rw [e97]
      exact ⟨rfl, N97, rfl⟩
  · -- (9 : Int32)
    obtain ⟨_, _, ⟨T98, L98, k98, n98⟩, -, X98, ⟨Lc98, hQ98, l98, y98, z98⟩, st98⟩ := Jvm.LawKit.callS X0 hx (y := (⟨"com/example/ovenbird/ovenbird/model/AttributeTypeIsSetPinLaw", "pick", "(I)Lcom/example/ovenbird/ovenbird/model/AttributeType;"⟩ : MethodName)) hown (mvT hZ (hw _ (List.mem_of_getElem? (i := 1) rfl))) (mvT hZ (hw _ (List.mem_of_getElem? (i := 2) rfl))) (mvT hZ (hw _ (List.mem_of_getElem? (i := 3) rfl))) (mvT hZ (hw _ (List.mem_of_getElem? (i := 4) rfl))) (by decide) (backOf (W := 0) (rm_pick l Z a0 hw [] (9 : Int32) h0 n0 Z0 w_S w_SS w_NS w_BS w_BOOL w_N w_NULL w_B w_M w_L hWd w_BS (by first | rfl | decide | simp)) hZ (hw _ (List.mem_of_getElem? (i := 4) rfl)) (hw _ (List.mem_of_getElem? (i := 3) rfl)) (by decide) (by decide)) (g := (mkF m 9 #[.val (.int p0), .val (.int (9 : Int32)), .unset, .unset] [(.int (9 : Int32))])) rfl (by rw [hml]; rfl) (argsL := [(.int (9 : Int32))]) (rest := []) (lenOf pd_61 rfl) rfl (by show 2 * 0 + _ ≤ _; exact Nat.le_of_eq rfl) (hb hby at_9) (fun _ _ => ⟨rfl, e0, (by decide : 0 + 0 ≤ _), (by decide : 0 + 0 ≤ _)⟩)
    dsimp only [Pt.U, Pt.locs, Pt.cells, Pt.slots] at X98 l98 y98 z98 st98 hQ98
    subst l98 y98 z98
    obtain ⟨rfl, N98q, e98⟩ := hQ98
    have N98 := Fr.app N0 N98q
    obtain ⟨cq99, kq99, q99a, q99b, q99c⟩ := isOf hZ e98 (E_BS)
    obtain ⟨_, _, ⟨T99, L99, k99, n99⟩, -, X99, ⟨Lc99, hQ99, l99, y99, z99⟩, st99⟩ := X98.virtualBack hx (y := (⟨"com/example/ovenbird/ovenbird/model/AttributeType", "isSet", "()Z"⟩ : MethodName)) (z := (⟨"com/example/ovenbird/ovenbird/model/AttributeType", "isSet", "()Z"⟩ : MethodName)) hown (mvT hZ (hw _ (List.mem_of_getElem? (i := 8) rfl))) (mvT hZ (hw _ (List.mem_of_getElem? (i := 9) rfl))) (notFace_of_selects (args := #[]) (mvT hZ (hw _ (List.mem_of_getElem? (i := 11) rfl)))) (mvT hZ (hw _ (List.mem_of_getElem? (i := 11) rfl))) (mvT hZ (hw _ (List.mem_of_getElem? (i := 10) rfl))) (by decide) (backOf (W := 0) (rm_isSet l Z a0 hw [] w_BS h0 n0 Z0 w_S w_SS w_NS w_BS w_BOOL w_N w_NULL w_B w_M w_L hWd (1 : Int32) (by simp [(F_BS_ordinal.ne F_SS_ordinal (by decide)), (F_BS_ordinal.ne F_NS_ordinal (by decide))])) hZ (hw _ (List.mem_of_getElem? (i := 12) rfl)) (hw _ (List.mem_of_getElem? (i := 6) rfl)) (by decide) (by decide)) q99a q99c (g := (mkF m 26 #[.val (.int p0), .val (.int (9 : Int32)), .val (.ref w_BS), .val (.int (1 : Int32))] [(.ref w_BS)])) rfl (by rw [hml]; rfl) (Steps.refl _) (argsL := []) (rest := []) (lenOf pd_62 rfl) rfl (by show 2 * 0 + _ ≤ _; exact Nat.le_of_eq rfl) (hb hby at_26) (fun _ _ => ⟨rfl, e98, (by decide : 0 + 0 ≤ _), (by decide : 0 + 0 ≤ _)⟩)
    dsimp only [Pt.U, Pt.locs, Pt.cells, Pt.slots] at X99 l99 y99 z99 st99 hQ99
    subst l99 y99 z99
    obtain ⟨rfl, N99q, e99⟩ := hQ99
    have N99 := Fr.app N98 N99q
    obtain ⟨fs, hr, hrun, hended, hW, hsame⟩ := X99.leave (v := some (.int (1 : Int32))) (fun h => by rw [Bd.returns] at h; cases h)
    refine ⟨_, _, ck69 _ ?_, hrun, hended, _, _, rfl, ?_, ⟨_, rfl⟩, hW, hsame.mono (by decide) (by decide)⟩
    · show Steps p.tables e below (s₁.setTop (mkF m 7 #[.val (.int p0), .unset, .unset, .unset] [(.int ((p0 &&& (2147483647 : Int32)) % (10 : Int32)))])) _
      rw [hv79]
      show Steps p.tables e below (s₁.setTop (mkF m 7 #[.val (.int p0), .unset, .unset, .unset] [(.int (9 : Int32))])) _
      refine XS.istoreN X0.here hx rfl (hb hby at_7) rfl (l' := #[.val (.int p0), .val (.int (9 : Int32)), .unset, .unset]) rfl ?_
      show Steps p.tables e below (s₁.setTop (mkF m 8 #[.val (.int p0), .val (.int (9 : Int32)), .unset, .unset] [])) _
      refine XS.iloadN X0.here hx rfl (hb hby at_8) rfl ?_
      show Steps p.tables e below (s₁.setTop (mkF m 9 #[.val (.int p0), .val (.int (9 : Int32)), .unset, .unset] [(.int (9 : Int32))])) _
      refine st98 _ ?_
      show Steps p.tables e below (T98.setTop (mkF m 12 #[.val (.int p0), .val (.int (9 : Int32)), .unset, .unset] [(.ref w_BS)])) _
      refine XS.astoreN X98.here hx rfl (hb hby at_12) rfl rfl (l' := #[.val (.int p0), .val (.int (9 : Int32)), .val (.ref w_BS), .unset]) rfl ?_
      show Steps p.tables e below (T98.setTop (mkF m 13 #[.val (.int p0), .val (.int (9 : Int32)), .val (.ref w_BS), .unset] [])) _
      refine XS.iloadN X98.here hx rfl (hb hby at_13) rfl ?_
      show Steps p.tables e below (T98.setTop (mkF m 14 #[.val (.int p0), .val (.int (9 : Int32)), .val (.ref w_BS), .unset] [(.int (9 : Int32))])) _
      refine XS.bipush X98.here hx rfl (hb hby at_14) ?_
      show Steps p.tables e below (T98.setTop (mkF m 16 #[.val (.int p0), .val (.int (9 : Int32)), .val (.ref w_BS), .unset] [(.int (7 : Int32)), (.int (9 : Int32))])) _
      refine XS.icmpNo X98.here hx rfl (hb hby at_16) rfl (flt (by decide : ¬ ((9 : Int32) < (7 : Int32)))).1 ?_
      show Steps p.tables e below (T98.setTop (mkF m 19 #[.val (.int p0), .val (.int (9 : Int32)), .val (.ref w_BS), .unset] [])) _
      refine XS.iconst X98.here hx rfl (hb hby at_19) ?_
      show Steps p.tables e below (T98.setTop (mkF m 20 #[.val (.int p0), .val (.int (9 : Int32)), .val (.ref w_BS), .unset] [(.int (1 : Int32))])) _
      refine XS.goto X98.here hx rfl (pc0 := 20) (pc' := 24) rfl (hb hby at_20) (by decide) (by decide) ?_
      show Steps p.tables e below (T98.setTop (mkF m 24 #[.val (.int p0), .val (.int (9 : Int32)), .val (.ref w_BS), .unset] [(.int (1 : Int32))])) _
      refine XS.istoreN X98.here hx rfl (hb hby at_24) rfl (l' := #[.val (.int p0), .val (.int (9 : Int32)), .val (.ref w_BS), .val (.int (1 : Int32))]) rfl ?_
      show Steps p.tables e below (T98.setTop (mkF m 25 #[.val (.int p0), .val (.int (9 : Int32)), .val (.ref w_BS), .val (.int (1 : Int32))] [])) _
      refine XS.aloadN X98.here hx rfl (hb hby at_25) rfl rfl ?_
      show Steps p.tables e below (T98.setTop (mkF m 26 #[.val (.int p0), .val (.int (9 : Int32)), .val (.ref w_BS), .val (.int (1 : Int32))] [(.ref w_BS)])) _
      refine st99.trans ?_
      show Steps p.tables e below (T99.setTop (mkF m 29 #[.val (.int p0), .val (.int (9 : Int32)), .val (.ref w_BS), .val (.int (1 : Int32))] [(.int (1 : Int32))])) _
      refine XS.iloadN X99.here hx rfl (hb hby at_29) rfl ?_
      show Steps p.tables e below (T99.setTop (mkF m 30 #[.val (.int p0), .val (.int (9 : Int32)), .val (.ref w_BS), .val (.int (1 : Int32))] [(.int (1 : Int32)), (.int (1 : Int32))])) _
      refine XS.icmpNo X99.here hx rfl (hb hby at_30) rfl (teq (by decide : (1 : Int32) = (1 : Int32))).2 ?_
      show Steps p.tables e below (T99.setTop (mkF m 33 #[.val (.int p0), .val (.int (9 : Int32)), .val (.ref w_BS), .val (.int (1 : Int32))] [])) _
      refine XS.iconst X99.here hx rfl (hb hby at_33) ?_
      show Steps p.tables e below (T99.setTop (mkF m 34 #[.val (.int p0), .val (.int (9 : Int32)), .val (.ref w_BS), .val (.int (1 : Int32))] [(.int (1 : Int32))])) _
      refine XS.goto X99.here hx rfl (pc0 := 34) (pc' := 38) rfl (hb hby at_34) (by decide) (by decide) ?_
      show Steps p.tables e below (T99.setTop (mkF m 38 #[.val (.int p0), .val (.int (9 : Int32)), .val (.ref w_BS), .val (.int (1 : Int32))] [(.int (1 : Int32))])) _
      exact retN X99 hx (t := .boolean) Bd.returns (by simp) (hb hby at_38) hr
    · show own_Pure (some (.int 1)) h0 n0 _ T99.heap _
      rw [e99]
      exact ⟨rfl, N99, rfl⟩
set_option maxRecDepth 65536 in
set_option maxHeartbeats 40000000 in
theorem comes_1 {Post : Tables → Env → Array Value → State → Outcome → State → Prop} (hpost : ∀ tb e args s v u, (limb_1_1.after args s (.returned v) u = true ∧ limb_1_2.after args s (.returned v) u = true ∧ True) → FrameEnd s (.returned v) u (Jvm.fieldLocs frame_1_writes args s ++ Jvm.arrayLocs frame_1_arrays args s ++ Jvm.staticLocs frame_1_statics s) 0 0 → Post tb e args s (.returned v) u) :
    ArmFor flags0 classFile x code maxLocals ret World_1 tables_1 room_1 Calls_1 rest_1 Pre_1 Post := by
  intro l hfl _ _ p e ha hc hk s m args below hf hA hF happ hP
  obtain ⟨hcalls, hrest, hpre⟩ := hP
  obtain ⟨-, -, -, hnamed, -, -, -, hat⟩ := (Spec.applies_iff hf).mp happ
  obtain ⟨hg, hn⟩ := and_e (Cond.before_iff.mp (show (Jvm.Cond.and given_1 narrow_1).before args s = true from hpre))
  obtain ⟨gg0, hh0⟩ := and_e hg
  obtain ⟨w0, rfl⟩ : ∃ w0 : Value, args = #[w0] := by
    have hs : args.size = 1 := by simpa [Cond.value, given_1] using gg0
    obtain ⟨L⟩ := args
    match L, hs with
    | [w0], _ => exact ⟨w0, rfl⟩
  have hw := fun d (hd : d ∈ tables_1) => atoms_spec (ws := Jvm.Cond.code x code maxLocals ret :: tables_1) hat d (List.mem_cons_of_mem _ hd)
  have hfit : Fit s := fun {y c} hc i hi => by
    obtain ⟨ha, rfl⟩ := Array.getElem?_eq_some_iff.mp hc
    have q := List.all_eq_true.mp ((Array.all_eq_true_iff_forall_mem.mp hF) _ (Array.getElem_mem ha)) i (List.mem_range.mpr hi)
    simpa [Array.getElem?_eq_getElem hi] using q
  obtain ⟨i0, ei0⟩ := is_v hh0
  obtain rfl : w0 = (.int i0) := Option.some.inj ei0
  obtain ⟨g1, g2⟩ := and_e hn
  obtain ⟨g3, g4⟩ := and_e g2
  obtain ⟨g5, g6⟩ := and_e g4
  obtain ⟨g7, g8⟩ := and_e g6
  obtain ⟨g9, g10⟩ := and_e g8
  obtain ⟨g11, g12⟩ := and_e g10
  obtain ⟨g13, g14⟩ := and_e g12
  obtain ⟨g15, g16⟩ := and_e g14
  obtain ⟨g17, g18⟩ := and_e g16
  obtain ⟨g19, g20⟩ := and_e g18
  obtain ⟨g21, g22⟩ := and_e g20
  obtain ⟨g23, g24⟩ := and_e g22
  obtain ⟨g25, g26⟩ := and_e g24
  obtain ⟨g27, g28⟩ := and_e g26
  obtain ⟨g29, g30⟩ := and_e g28
  obtain ⟨g31, g32⟩ := and_e g30
  obtain ⟨g33, g34⟩ := and_e g32
  obtain ⟨g35, g36⟩ := and_e g34
  obtain ⟨g37, g38⟩ := and_e g36
  obtain ⟨w_S, ev_S⟩ := exa_v g1
  have E_S := Exa.start ev_S g1
  have S_S := Sta.start ev_S (Or.inr ⟨hw _ (List.mem_of_getElem? (i := 6) rfl), hw _ (List.mem_of_getElem? (i := 7) rfl)⟩)
  have F_S_ordinal := own_fld_eq ev_S g5
  obtain ⟨w_SS, ev_SS⟩ := exa_v g3
  have E_SS := Exa.start ev_SS g3
  have S_SS := Sta.start ev_SS (Or.inr ⟨hw _ (List.mem_of_getElem? (i := 6) rfl), hw _ (List.mem_of_getElem? (i := 14) rfl)⟩)
  have F_SS_ordinal := own_fld_eq ev_SS g7
  obtain ⟨w_NS, ev_NS⟩ := exa_v g9
  have E_NS := Exa.start ev_NS g9
  have S_NS := Sta.start ev_NS (Or.inr ⟨hw _ (List.mem_of_getElem? (i := 6) rfl), hw _ (List.mem_of_getElem? (i := 16) rfl)⟩)
  have F_NS_ordinal := own_fld_eq ev_NS g11
  obtain ⟨w_BS, ev_BS⟩ := exa_v g13
  have E_BS := Exa.start ev_BS g13
  have S_BS := Sta.start ev_BS (Or.inr ⟨hw _ (List.mem_of_getElem? (i := 6) rfl), hw _ (List.mem_of_getElem? (i := 18) rfl)⟩)
  have F_BS_ordinal := own_fld_eq ev_BS g15
  obtain ⟨w_BOOL, ev_BOOL⟩ := exa_v g17
  have E_BOOL := Exa.start ev_BOOL g17
  have S_BOOL := Sta.start ev_BOOL (Or.inr ⟨hw _ (List.mem_of_getElem? (i := 6) rfl), hw _ (List.mem_of_getElem? (i := 20) rfl)⟩)
  have F_BOOL_ordinal := own_fld_eq ev_BOOL g19
  obtain ⟨w_N, ev_N⟩ := exa_v g21
  have E_N := Exa.start ev_N g21
  have S_N := Sta.start ev_N (Or.inr ⟨hw _ (List.mem_of_getElem? (i := 6) rfl), hw _ (List.mem_of_getElem? (i := 22) rfl)⟩)
  have F_N_ordinal := own_fld_eq ev_N g23
  obtain ⟨w_NULL, ev_NULL⟩ := exa_v g25
  have E_NULL := Exa.start ev_NULL g25
  have S_NULL := Sta.start ev_NULL (Or.inr ⟨hw _ (List.mem_of_getElem? (i := 6) rfl), hw _ (List.mem_of_getElem? (i := 24) rfl)⟩)
  have F_NULL_ordinal := own_fld_eq ev_NULL g27
  obtain ⟨w_B, ev_B⟩ := exa_v g29
  have E_B := Exa.start ev_B g29
  have S_B := Sta.start ev_B (Or.inr ⟨hw _ (List.mem_of_getElem? (i := 6) rfl), hw _ (List.mem_of_getElem? (i := 27) rfl)⟩)
  have F_B_ordinal := own_fld_eq ev_B g31
  obtain ⟨w_M, ev_M⟩ := exa_v g33
  have E_M := Exa.start ev_M g33
  have S_M := Sta.start ev_M (Or.inr ⟨hw _ (List.mem_of_getElem? (i := 6) rfl), hw _ (List.mem_of_getElem? (i := 31) rfl)⟩)
  have F_M_ordinal := own_fld_eq ev_M g35
  obtain ⟨w_L, ev_L⟩ := exa_v g37
  have E_L := Exa.start ev_L g37
  have S_L := Sta.start ev_L (Or.inr ⟨hw _ (List.mem_of_getElem? (i := 6) rfl), hw _ (List.mem_of_getElem? (i := 33) rfl)⟩)
  have F_L_ordinal := own_fld_eq ev_L g38
  have hW0 : own_W s s.heap w_S w_SS w_NS w_BS w_BOOL w_N w_NULL w_B w_M w_L := ⟨S_S, E_S, F_S_ordinal, S_SS, E_SS, F_SS_ordinal, S_NS, E_NS, F_NS_ordinal, S_BS, E_BS, F_BS_ordinal, S_BOOL, E_BOOL, F_BOOL_ordinal, S_N, E_N, F_N_ordinal, S_NULL, E_NULL, F_NULL_ordinal, S_B, E_B, F_B_ordinal, S_M, E_M, F_M_ordinal, S_L, E_L, F_L_ordinal⟩
  obtain ⟨n, o, h1, h2, h3, _, L, rfl, hQ0, hq⟩ := rm_law l s _ hw tables_1 i0 s.heap s.heap.size (Nat.le_refl _) w_S w_SS w_NS w_BS w_BOOL w_N w_NULL w_B w_M w_L hW0 p e ha hc hk s m _ below hf ((Spec.applies_iff_loose hf).mp happ).1 ⟨rfl, State.Warmed39.refl s, rfl⟩ trivial
  have N := hQ0.2.1
  obtain rfl := hQ0.1
  refine ⟨n, _, h1, h2, h3, hpost _ _ _ _ _ _ ⟨Cond.after_iff.mpr rfl, Cond.after_iff.mpr (eq_i res_at (Term.int_eval (1)) rfl), trivial⟩ ⟨hq.1, hq.2.1, (hq.2.2.sift fun y hy => Or.inr (N y hy)).mono (by decide) (by decide)⟩⟩
theorem main_1_1 : Claimed_1_1 := comes_1 fun _ _ _ _ _ _ h hF => ⟨h.1, hF⟩
theorem main_1_2 : Claimed_1_2 := comes_1 fun _ _ _ _ _ _ h hF => ⟨h.2.1, hF⟩
end Jvm.Pilot.@@N@@
namespace Jvm.Pilot.@@N@@
open Jvm Jvm.ClassFile Sem Op Lib Jvm.Free Jvm.Stand Jvm.Pilot.@@N@@.Jvm.D
/-! MADE BY PROGRAM (witnessworld.py) out of the Statement's table words and the real class files: 12 classes; the members and pool entries that the words name. The judged class is class 1, her method 2. -/
namespace start1
open Jvm.ClassFile
def u (s : String) : CpInfo := .utf8 (stringToUtf16 s)
/-- a pool by its gaps: so many unusable entries, then the entry; so many at the end -/
def gap : Nat → List CpInfo → List CpInfo
  | 0, r => r
  | n + 1, r => .unusable :: gap n r
def poolList (es : List (Nat × CpInfo)) (last : Nat) : List CpInfo := es.foldr (fun e r => gap e.1 (e.2 :: r)) (gap last [])
def pool (es : List (Nat × CpInfo)) (last : Nat) : Array CpInfo := ⟨poolList es last⟩
def fileOf (pool : Array CpInfo) (this : Nat) (attrs : Array Attribute := #[]) (ms : Array MethodInfo := #[]) (fl : Nat := 33) (sup : Nat := 0) (ifs : Array Nat := #[]) (fds : Array FieldInfo := #[]) : ClassFile where
  minorVersion := 0
  majorVersion := 65
  constantPool := pool
  accessFlags := fl
  thisClass := this
  superClass := sup
  interfaces := ifs
  fields := fds
  methods := ms
  attributes := attrs
def plain (name : String) (sup : Option ClassId) : Class where
  name := name
  kind := .ordinary
  loader := none
  accessFlags := 33
  super := sup
  interfaces := #[]
  cf := none
  fields := #[]
  methods := #[]
  instanceTypes := #[]
  staticTypes := #[]
  resolved := #[]
  callSites := []
  init := .initialized
  statics := none
  mirror := none

def pool0 : Array CpInfo := pool [(5, u "<init>"), (0, u "()V"), (1, .class_ 10), (1, u "java/lang/Object")] 113

def k0m0 : Method := { name := "<init>", desc := "()V", sig := { parameters := [], returnType := none }, accessFlags := 1, code := none }
/-- java/lang/Object -/
def k0 : Class := { plain "java/lang/Object" none with
  accessFlags := 33
  interfaces := #[]
  cf := some (fileOf pool0 8 #[] #[{ accessFlags := 1, nameIndex := 5, descriptorIndex := 6, attributes := #[] }] 33 0 #[] #[])
  fields := #[]
  methods := #[k0m0]
  instanceTypes := #[]
  staticTypes := #[]
  resolved := Array.replicate 124 none
  statics := none }

def pool1 : Array CpInfo := pool [(2, .class_ 4), (1, u "java/lang/Object"), (0, u "<init>"), (0, u "()V"), (0, .fieldref 8 9), (0, .class_ 10), (0, .nameAndType 11 12), (0, u "com/example/ovenbird/ovenbird/model/AttributeType"), (0, u "S"), (0, u "Lcom/example/ovenbird/ovenbird/model/AttributeType;"), (0, .fieldref 8 14), (0, .nameAndType 15 12), (0, u "N"), (0, .fieldref 8 17), (0, .nameAndType 18 12), (0, u "B"), (0, .fieldref 8 20), (0, .nameAndType 21 12), (0, u "BOOL"), (0, .fieldref 8 23), (0, .nameAndType 24 12), (0, u "NULL"), (0, .fieldref 8 26), (0, .nameAndType 27 12), (0, u "M"), (0, .fieldref 8 29), (0, .nameAndType 30 12), (0, u "L"), (0, .fieldref 8 32), (0, .nameAndType 33 12), (0, u "SS"), (0, .fieldref 8 35), (0, .nameAndType 36 12), (0, u "NS"), (0, .fieldref 8 38), (0, .nameAndType 39 12), (0, u "BS"), (0, .integer 2147483647), (0, .methodref 42 43), (0, .class_ 44), (0, .nameAndType 45 46), (0, u "com/example/ovenbird/ovenbird/model/AttributeTypeIsSetPinLaw"), (0, u "pick"), (0, u "(I)Lcom/example/ovenbird/ovenbird/model/AttributeType;"), (0, .methodref 8 48), (0, .nameAndType 49 50), (0, u "isSet"), (0, u "()Z"), (3, u "law"), (0, u "(I)Z")] 2

def k1m0 : Method := { name := "<init>", desc := "()V", sig := { parameters := [], returnType := none }, accessFlags := 2, code := none }
def k1c1 : Code := { maxStack := 2, maxLocals := 1, code := method_2_code, exceptionTable := #[], attributes := #[] }
def k1m1 : Method := { name := "pick", desc := "(I)Lcom/example/ovenbird/ovenbird/model/AttributeType;", sig := { parameters := [.int], returnType := some (.object "com/example/ovenbird/ovenbird/model/AttributeType") }, accessFlags := 10, code := some k1c1 }
def k1c2 : Code := { maxStack := 2, maxLocals := 4, code := code, exceptionTable := #[], attributes := #[] }
def k1m2 : Method := { name := "law", desc := "(I)Z", sig := { parameters := [.int], returnType := some .boolean }, accessFlags := 9, code := some k1c2 }
/-- com/example/ovenbird/ovenbird/model/AttributeTypeIsSetPinLaw -/
def k1 : Class := { plain "com/example/ovenbird/ovenbird/model/AttributeTypeIsSetPinLaw" (some 0) with
  accessFlags := 49
  interfaces := #[]
  cf := some (fileOf pool1 42 #[] #[{ accessFlags := 2, nameIndex := 5, descriptorIndex := 6, attributes := #[] }, { accessFlags := 10, nameIndex := 45, descriptorIndex := 46, attributes := #[] }, { accessFlags := 9, nameIndex := 54, descriptorIndex := 55, attributes := #[] }] 49 2 #[] #[])
  fields := #[]
  methods := #[k1m0, k1m1, k1m2]
  instanceTypes := #[]
  staticTypes := #[]
  resolved := Array.replicate 58 none
  statics := none }

def pool2 : Array CpInfo := pool [(1, .class_ 2), (0, u "java/lang/constant/Constable"), (0, .class_ 4), (0, u "java/lang/Object")] 6

/-- java/lang/constant/Constable -/
def k2 : Class := { plain "java/lang/constant/Constable" (some 0) with
  accessFlags := 1537
  interfaces := #[]
  cf := some (fileOf pool2 1 #[] #[] 1537 3 #[] #[])
  fields := #[]
  methods := #[]
  instanceTypes := #[]
  staticTypes := #[]
  resolved := Array.replicate 11 none
  statics := none }

def pool3 : Array CpInfo := pool [(1, .class_ 2), (0, u "java/lang/Comparable"), (0, .class_ 4), (0, u "java/lang/Object")] 7

/-- java/lang/Comparable -/
def k3 : Class := { plain "java/lang/Comparable" (some 0) with
  accessFlags := 1537
  interfaces := #[]
  cf := some (fileOf pool3 1 #[] #[] 1537 3 #[] #[])
  fields := #[]
  methods := #[]
  instanceTypes := #[]
  staticTypes := #[]
  resolved := Array.replicate 12 none
  statics := none }

def pool4 : Array CpInfo := pool [(1, .class_ 2), (0, u "java/io/Serializable"), (0, .class_ 4), (0, u "java/lang/Object")] 2

/-- java/io/Serializable -/
def k4 : Class := { plain "java/io/Serializable" (some 0) with
  accessFlags := 1537
  interfaces := #[]
  cf := some (fileOf pool4 1 #[] #[] 1537 3 #[] #[])
  fields := #[]
  methods := #[]
  instanceTypes := #[]
  staticTypes := #[]
  resolved := Array.replicate 7 none
  statics := none }

def pool5 : Array CpInfo := pool [(2, .class_ 4), (1, u "java/lang/Enum"), (0, u "name"), (0, u "Ljava/lang/String;"), (2, u "ordinal"), (0, u "I"), (1, .class_ 14), (1, u "java/lang/Object"), (4, u "hash"), (86, .class_ 108), (1, u "java/lang/Enum$EnumDesc"), (2, .class_ 112), (0, u "java/lang/constant/Constable"), (0, .class_ 114), (0, u "java/lang/Comparable"), (0, .class_ 116), (0, u "java/io/Serializable")] 87

/-- java/lang/Enum -/
def k5 : Class := { plain "java/lang/Enum" (some 0) with
  accessFlags := 1057
  interfaces := #[2, 3, 4]
  cf := some (fileOf pool5 2 #[.nestMembers #[106]] #[] 1057 12 #[111, 113, 115] #[{ accessFlags := 18, nameIndex := 5, descriptorIndex := 6, attributes := #[] }, { accessFlags := 18, nameIndex := 9, descriptorIndex := 10, attributes := #[] }, { accessFlags := 2, nameIndex := 19, descriptorIndex := 10, attributes := #[] }])
  fields := #[{ name := "name", type := (.object "java/lang/String"), accessFlags := 18, slot := 0, constantValue := 0 }, { name := "ordinal", type := .int, accessFlags := 18, slot := 1, constantValue := 0 }, { name := "hash", type := .int, accessFlags := 2, slot := 2, constantValue := 0 }]
  methods := #[]
  instanceTypes := #[(.object "java/lang/String"), .int, .int]
  staticTypes := #[]
  resolved := Array.replicate 204 none
  statics := none }

def pool6 : Array CpInfo := pool [(1, .class_ 2), (0, u "com/example/ovenbird/ovenbird/model/AttributeType"), (2, u "S"), (0, u "Lcom/example/ovenbird/ovenbird/model/AttributeType;"), (2, u "N"), (2, u "B"), (2, u "BOOL"), (2, u "NULL"), (2, u "M"), (2, u "L"), (0, .fieldref 1 26), (0, .nameAndType 27 6), (0, u "SS"), (0, .fieldref 1 29), (0, .nameAndType 30 6), (0, u "NS"), (0, .fieldref 1 32), (0, .nameAndType 33 6), (0, u "BS"), (2, u "$VALUES"), (0, u "[Lcom/example/ovenbird/ovenbird/model/AttributeType;"), (6, .class_ 46), (1, u "java/lang/Enum"), (47, u "()Z"), (1, u "isSet")] 21

def k6c0 : Code := { maxStack := 2, maxLocals := 1, code := prog_50_method_5_code, exceptionTable := #[], attributes := #[] }
def k6m0 : Method := { name := "isSet", desc := "()Z", sig := { parameters := [], returnType := some .boolean }, accessFlags := 1, code := some k6c0 }
/-- com/example/ovenbird/ovenbird/model/AttributeType -/
def k6 : Class := { plain "com/example/ovenbird/ovenbird/model/AttributeType" (some 5) with
  accessFlags := 16433
  interfaces := #[]
  cf := some (fileOf pool6 1 #[] #[{ accessFlags := 1, nameIndex := 96, descriptorIndex := 94, attributes := #[] }] 16433 44 #[] #[{ accessFlags := 16409, nameIndex := 5, descriptorIndex := 6, attributes := #[] }, { accessFlags := 16409, nameIndex := 9, descriptorIndex := 6, attributes := #[] }, { accessFlags := 16409, nameIndex := 12, descriptorIndex := 6, attributes := #[] }, { accessFlags := 16409, nameIndex := 15, descriptorIndex := 6, attributes := #[] }, { accessFlags := 16409, nameIndex := 18, descriptorIndex := 6, attributes := #[] }, { accessFlags := 16409, nameIndex := 21, descriptorIndex := 6, attributes := #[] }, { accessFlags := 16409, nameIndex := 24, descriptorIndex := 6, attributes := #[] }, { accessFlags := 16409, nameIndex := 27, descriptorIndex := 6, attributes := #[] }, { accessFlags := 16409, nameIndex := 30, descriptorIndex := 6, attributes := #[] }, { accessFlags := 16409, nameIndex := 33, descriptorIndex := 6, attributes := #[] }, { accessFlags := 4122, nameIndex := 36, descriptorIndex := 37, attributes := #[] }])
  fields := #[{ name := "S", type := (.object "com/example/ovenbird/ovenbird/model/AttributeType"), accessFlags := 16409, slot := 0, constantValue := 0 }, { name := "N", type := (.object "com/example/ovenbird/ovenbird/model/AttributeType"), accessFlags := 16409, slot := 1, constantValue := 0 }, { name := "B", type := (.object "com/example/ovenbird/ovenbird/model/AttributeType"), accessFlags := 16409, slot := 2, constantValue := 0 }, { name := "BOOL", type := (.object "com/example/ovenbird/ovenbird/model/AttributeType"), accessFlags := 16409, slot := 3, constantValue := 0 }, { name := "NULL", type := (.object "com/example/ovenbird/ovenbird/model/AttributeType"), accessFlags := 16409, slot := 4, constantValue := 0 }, { name := "M", type := (.object "com/example/ovenbird/ovenbird/model/AttributeType"), accessFlags := 16409, slot := 5, constantValue := 0 }, { name := "L", type := (.object "com/example/ovenbird/ovenbird/model/AttributeType"), accessFlags := 16409, slot := 6, constantValue := 0 }, { name := "SS", type := (.object "com/example/ovenbird/ovenbird/model/AttributeType"), accessFlags := 16409, slot := 7, constantValue := 0 }, { name := "NS", type := (.object "com/example/ovenbird/ovenbird/model/AttributeType"), accessFlags := 16409, slot := 8, constantValue := 0 }, { name := "BS", type := (.object "com/example/ovenbird/ovenbird/model/AttributeType"), accessFlags := 16409, slot := 9, constantValue := 0 }, { name := "$VALUES", type := (.array (.object "com/example/ovenbird/ovenbird/model/AttributeType")), accessFlags := 4122, slot := 10, constantValue := 0 }]
  methods := #[k6m0]
  instanceTypes := #[(.object "java/lang/String"), .int, .int]
  staticTypes := #[(.object "com/example/ovenbird/ovenbird/model/AttributeType"), (.object "com/example/ovenbird/ovenbird/model/AttributeType"), (.object "com/example/ovenbird/ovenbird/model/AttributeType"), (.object "com/example/ovenbird/ovenbird/model/AttributeType"), (.object "com/example/ovenbird/ovenbird/model/AttributeType"), (.object "com/example/ovenbird/ovenbird/model/AttributeType"), (.object "com/example/ovenbird/ovenbird/model/AttributeType"), (.object "com/example/ovenbird/ovenbird/model/AttributeType"), (.object "com/example/ovenbird/ovenbird/model/AttributeType"), (.object "com/example/ovenbird/ovenbird/model/AttributeType"), (.array (.object "com/example/ovenbird/ovenbird/model/AttributeType"))]
  resolved := Array.replicate 118 none
  statics := some 0 }

def pool7 : Array CpInfo := pool [(1, u "java/lang/Cloneable"), (0, .class_ 1), (0, u "java/lang/Object"), (0, .class_ 3)] 3

/-- java/lang/Cloneable -/
def k7 : Class := { plain "java/lang/Cloneable" (some 0) with
  accessFlags := 1537
  interfaces := #[]
  cf := some (fileOf pool7 2 #[] #[] 1537 4 #[] #[])
  fields := #[]
  methods := #[]
  instanceTypes := #[]
  staticTypes := #[]
  resolved := Array.replicate 8 none
  statics := none }

/-- the primitive byte -/
def k8 : Class := { plain "byte" none with kind := .primitive 'B', accessFlags := 0x411 }
/-- [B -/
def k9 : Class := { plain "[B" (some 0) with kind := .array 8 .byte, interfaces := #[7, 4], accessFlags := 1041 }

/-- the primitive int -/
def k10 : Class := { plain "int" none with kind := .primitive 'I', accessFlags := 0x411 }
/-- [I -/
def k11 : Class := { plain "[I" (some 0) with kind := .array 10 .int, interfaces := #[7, 4], accessFlags := 1041 }

def heap : Heap := #[{ cls := 6, slots := #[.ref 1, .ref 6, .ref 8, .ref 5, .ref 7, .ref 9, .ref 10, .ref 2, .ref 3, .ref 4, .null], vm := .statics 6 },
  { cls := 6, slots := #[.null, .int 0, .int 0], vm := .none },
  { cls := 6, slots := #[.null, .int 7, .int 0], vm := .none },
  { cls := 6, slots := #[.null, .int 8, .int 0], vm := .none },
  { cls := 6, slots := #[.null, .int 9, .int 0], vm := .none },
  { cls := 6, slots := #[.null, .int 3, .int 0], vm := .none },
  { cls := 6, slots := #[.null, .int 1, .int 0], vm := .none },
  { cls := 6, slots := #[.null, .int 4, .int 0], vm := .none },
  { cls := 6, slots := #[.null, .int 2, .int 0], vm := .none },
  { cls := 6, slots := #[.null, .int 5, .int 0], vm := .none },
  { cls := 6, slots := #[.null, .int 6, .int 0], vm := .none }]
def classes : Array Class := #[k0, k1, k2, k3, k4, k5, k6, k7, k8, k9, k10, k11]
def interned : List (Array UInt16 × Addr) := []
def slotsUsed : Nat := 41
def theMethod : MethodId := ⟨1, 2⟩
def args0 : Array Value := #[.int 5]
def aboutOver (below : List Frame) : State where
  vm := { classes := classes, interned := interned.toArray }
  heap := heap
  slotsUsed := slotsUsed
  threads := #[{ frames := .invoking theMethod args0 :: below }]
def below0 : List Frame := [.native { method := ⟨0, 0⟩, args := #[] }]
def about1 : State := aboutOver below0
def p0 : Program := .bare "" "" ""
def e0 : Env := launch0.env 0 0 0
theorem w_frames : about1.frames = Frame.invoking theMethod args0 :: below0 := rfl
set_option maxRecDepth 65536 in
theorem w_args : argsFit about1.vm theMethod args0 = true := by decide +kernel
set_option maxRecDepth 65536 in
theorem w_heap : heapFits about1 = true := by decide +kernel
set_option maxRecDepth 65536 in
theorem w_runnable : about1.curStatus? = some .runnable := by decide +kernel
set_option maxRecDepth 65536 in
theorem w_alone : about1.alone = true := by decide +kernel
set_option maxRecDepth 65536 in
theorem w_named : about1.methodNamed? x = some theMethod := by decide +kernel
set_option maxRecDepth 65536 in
theorem w_hears : about1.hears theMethod below0 = true := by decide +kernel
set_option maxRecDepth 65536 in
theorem w_ripe : about1.ripe theMethod args0 below0 = true := by decide +kernel
theorem w_running : about1.status = .running := rfl
set_option maxRecDepth 65536 in
theorem w_room : about1.hasRoom e0.platform room_1 = true :=
  launch0.hasRoom_least _ room_1 (by decide +kernel) (by decide +kernel) (by decide +kernel) (by decide +kernel) (by decide +kernel) (by decide +kernel)
theorem allAtoms_all (ts : List Jvm.Cond) (a : Array Jvm.Value) (st : Jvm.State) : (allAtoms ts).before a st = ts.all (fun c => c.before a st) := by
  induction ts with
  | nil => rfl
  | cons c t ih =>
    show (Jvm.Cond.and c (allAtoms t)).before a st = _
    rw [Jvm.Cond.before_and, ih, List.all_cons]
def words1 : List Jvm.Cond := Jvm.Cond.code x code maxLocals ret :: tables_1
/-- a 'code' word, met by the world's own term for the bytes: nothing is compared byte by byte -/
theorem code_word {y : MethodName} {bytes : ByteArray} {mx : Nat} {rt : Option FieldType} {a : Array Value} {s : State} {m : MethodId} {meth : Method} {c : Code} (h1 : s.methodNamed? y = some m) (h2 : s.vm.method? m = some meth) (h3 : meth.code = some c) (h4 : c.code = bytes)
    (h5 : (c.maxLocals == mx && c.exceptionTable.isEmpty && decide (c.maxStack ≤ mostOperands) && decide (meth.sig.returnType = rt) && !meth.locks && decide (parseMethodDescriptor y.desc = some meth.sig)) = true) : (Jvm.Cond.code y bytes mx rt).before a s = true := by
  simp only [Bool.and_eq_true, beq_iff_eq, Bool.not_eq_true', decide_eq_true_eq] at h5
  obtain ⟨⟨⟨⟨⟨g1, g2⟩, g3⟩, g4⟩, g5⟩, g6⟩ := h5
  simp [Cond.before, Cond.holds, Cond.value, h1, h2, h3, h4, g1, g2, g3, g4, g5, g6]
def isCode : Jvm.Cond → Bool
  | .code _ _ _ _ => true
  | _ => false
theorem all_split {L : List Jvm.Cond} {P : Jvm.Cond → Bool} (h1 : L.all (fun c => isCode c || P c) = true) (h2 : ∀ c ∈ L.filter isCode, P c = true) : L.all P = true := by
  refine List.all_eq_true.mpr fun c hc => ?_
  have h := List.all_eq_true.mp h1 c hc
  rcases Bool.eq_false_or_eq_true (isCode c) with hi | hi
  · exact h2 c (List.mem_filter.mpr ⟨hc, hi⟩)
  · simpa [hi] using h
set_option maxRecDepth 65536 in
theorem w_c0 : (Jvm.Cond.code x code maxLocals ret).before args0 about1 = true := code_word (m := ⟨1, 2⟩) (meth := k1m2) (c := k1c2) (by decide +kernel) rfl rfl rfl (by decide +kernel)
set_option maxRecDepth 65536 in
theorem w_c1 : (Jvm.Cond.code ({ cls := "com/example/ovenbird/ovenbird/model/AttributeTypeIsSetPinLaw", name := "pick", desc := "(I)Lcom/example/ovenbird/ovenbird/model/AttributeType;" } : Jvm.MethodName) method_2_code (1 : Nat) (Option.some (Jvm.ClassFile.FieldType.object "com/example/ovenbird/ovenbird/model/AttributeType"))).before args0 about1 = true := code_word (m := ⟨1, 1⟩) (meth := k1m1) (c := k1c1) (by decide +kernel) rfl rfl rfl (by decide +kernel)
set_option maxRecDepth 65536 in
theorem w_c2 : (Jvm.Cond.code ({ cls := "com/example/ovenbird/ovenbird/model/AttributeType", name := "isSet", desc := "()Z" } : Jvm.MethodName) prog_50_method_5_code (1 : Nat) (Option.some Jvm.ClassFile.FieldType.boolean)).before args0 about1 = true := code_word (m := ⟨6, 0⟩) (meth := k6m0) (c := k6c0) (by decide +kernel) rfl rfl rfl (by decide +kernel)
def codes1 : List Jvm.Cond := [Jvm.Cond.code x code maxLocals ret, Jvm.Cond.code ({ cls := "com/example/ovenbird/ovenbird/model/AttributeTypeIsSetPinLaw", name := "pick", desc := "(I)Lcom/example/ovenbird/ovenbird/model/AttributeType;" } : Jvm.MethodName) method_2_code (1 : Nat) (Option.some (Jvm.ClassFile.FieldType.object "com/example/ovenbird/ovenbird/model/AttributeType")), Jvm.Cond.code ({ cls := "com/example/ovenbird/ovenbird/model/AttributeType", name := "isSet", desc := "()Z" } : Jvm.MethodName) prog_50_method_5_code (1 : Nat) (Option.some Jvm.ClassFile.FieldType.boolean)]
set_option maxRecDepth 65536 in
theorem codes_eq : words1.filter isCode = codes1 := rfl
theorem w_codes : ∀ c ∈ words1.filter isCode, c.before args0 about1 = true := by
  rw [codes_eq]
  intro c hc
  simp only [codes1, List.mem_cons, List.not_mem_nil, or_false] at hc
  rcases hc with rfl | rfl | rfl
  · exact w_c0
  · exact w_c1
  · exact w_c2
set_option maxRecDepth 65536 in
theorem w_t1 : (words1.take 24).all (fun c => isCode c || c.before args0 about1) = true := by decide +kernel
set_option maxRecDepth 65536 in
theorem w_t2 : (words1.drop 24).all (fun c => isCode c || c.before args0 about1) = true := by decide +kernel
theorem w_tables : (allAtoms (Jvm.Cond.code x code maxLocals ret :: tables_1)).before args0 about1 = true := by
  rw [allAtoms_all]
  show words1.all (fun c => c.before args0 about1) = true
  refine all_split ?_ w_codes
  rw [← List.take_append_drop 24 words1, List.all_append, w_t1, w_t2]
  rfl
set_option maxRecDepth 65536 in
theorem w_case : (Jvm.Cond.and given_1 narrow_1).before args0 about1 = true := by decide +kernel
theorem w_applies : (headSpec (Jvm.Cond.code x code maxLocals ret :: tables_1) room_1).applies x e0.platform about1 = true :=
  (Spec.applies_iff w_frames).mpr ⟨w_running, w_runnable, w_alone, w_named, w_hears, w_ripe, w_room, w_tables⟩
theorem atStart : AtStart classFile x code maxLocals ret World_1 tables_1 room_1 Calls_1 rest_1 Pre_1 launch0 p0 e0 about1 theMethod args0 below0 :=
  ⟨lists_1, trivial, launch0.admits_env _ _ _, launch0.least_env, fairChoices_fair.cas, fairChoices_fair.clock, w_frames, w_args, w_heap, w_applies, trivial, trivial, w_case⟩
end start1
theorem witness_1 : WitnessClaimed_1 := ⟨start1.p0, start1.e0, start1.about1, start1.theMethod, start1.args0, start1.below0, start1.atStart⟩
end Jvm.Pilot.@@N@@
