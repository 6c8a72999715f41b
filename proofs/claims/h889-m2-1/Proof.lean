import JvmDerived
import JvmDerived.Pilot.@@N@@Statement
import JvmDerived.Pilot.@@N@@Code
set_option linter.unusedVariables false
set_option linter.unusedSimpArgs false

namespace Jvm.Pilot.@@N@@
open Jvm Jvm.ClassFile Sem Op Lib Jvm.Free Jvm.Stand Jvm.LawKit Jvm.RoadKit Bundle Jvm.Pilot.@@N@@.Jvm.D
/-- a body that writes nothing and returns r -/
def own_Pure (r : Option Value) (h0 : Heap) (n0 : Nat) (v : Option Value) (h : Heap) (L : List Loc) : Prop := v = r ∧ Fr n0 L ∧ h = h0
theorem own_fld_eq {args : Array Value} {Z : State} {t : Term} {a : Addr} {C n d : String} {k : Int32} (ht : t.eval args Z none [] Z = some (.ref a))
    (h : (Cond.eq (.field t C n d) (.int k)).value args Z none Z [] = some true) : Fld Z Z.heap a C n d (.int k) := by
  apply Fld.start
  have e1 : (Term.field t C n d).eval args Z none [] Z = Z.fieldOf? a C n d := fld_at ht
  rw [← e1]
  have e2 : (Term.int k).eval args Z none [] Z = some (.int k) := Term.int_eval k
  simp only [Cond.value] at h
  cases hx : (Term.field t C n d).eval args Z none [] Z with
  | none => simp [hx] at h
  | some v => cases v <;> simp [hx, e2] at h ⊢; exact h
/-- what the case says of the pinned statics -/
def own_W (Z : State) (h : Heap) (w_CURRENT w_EXPIRED_CURRENT w_EXPIRED_ROTATED w_WRONG w_ROTATED : Addr) : Prop :=
  Sta Z h "com/example/escrowd/escrowd/client/SecretMatch" "CURRENT" "Lcom/example/escrowd/escrowd/client/SecretMatch;" (.ref w_CURRENT) ∧
  Exa Z h w_CURRENT "com/example/escrowd/escrowd/client/SecretMatch" ∧
  Fld Z h w_CURRENT "java/lang/Enum" "ordinal" "I" (.int (0 : Int32)) ∧
  Sta Z h "com/example/escrowd/escrowd/client/SecretMatch" "EXPIRED_CURRENT" "Lcom/example/escrowd/escrowd/client/SecretMatch;" (.ref w_EXPIRED_CURRENT) ∧
  Exa Z h w_EXPIRED_CURRENT "com/example/escrowd/escrowd/client/SecretMatch" ∧
  Fld Z h w_EXPIRED_CURRENT "java/lang/Enum" "ordinal" "I" (.int (2 : Int32)) ∧
  Sta Z h "com/example/escrowd/escrowd/client/SecretMatch" "EXPIRED_ROTATED" "Lcom/example/escrowd/escrowd/client/SecretMatch;" (.ref w_EXPIRED_ROTATED) ∧
  Exa Z h w_EXPIRED_ROTATED "com/example/escrowd/escrowd/client/SecretMatch" ∧
  Fld Z h w_EXPIRED_ROTATED "java/lang/Enum" "ordinal" "I" (.int (3 : Int32)) ∧
  Sta Z h "com/example/escrowd/escrowd/client/SecretMatch" "WRONG" "Lcom/example/escrowd/escrowd/client/SecretMatch;" (.ref w_WRONG) ∧
  Exa Z h w_WRONG "com/example/escrowd/escrowd/client/SecretMatch" ∧
  Fld Z h w_WRONG "java/lang/Enum" "ordinal" "I" (.int (4 : Int32)) ∧
  Sta Z h "com/example/escrowd/escrowd/client/SecretMatch" "ROTATED" "Lcom/example/escrowd/escrowd/client/SecretMatch;" (.ref w_ROTATED) ∧
  Exa Z h w_ROTATED "com/example/escrowd/escrowd/client/SecretMatch" ∧
  Fld Z h w_ROTATED "java/lang/Enum" "ordinal" "I" (.int (1 : Int32))
theorem own_W.ext {Z : State} {h h' : Heap} {w_CURRENT w_EXPIRED_CURRENT w_EXPIRED_ROTATED w_WRONG w_ROTATED : Addr} (E : Ext h h') (H : own_W Z h w_CURRENT w_EXPIRED_CURRENT w_EXPIRED_ROTATED w_WRONG w_ROTATED) : own_W Z h' w_CURRENT w_EXPIRED_CURRENT w_EXPIRED_ROTATED w_WRONG w_ROTATED := by
  obtain ⟨S_CURRENT, E_CURRENT, F_CURRENT_ordinal, S_EXPIRED_CURRENT, E_EXPIRED_CURRENT, F_EXPIRED_CURRENT_ordinal, S_EXPIRED_ROTATED, E_EXPIRED_ROTATED, F_EXPIRED_ROTATED_ordinal, S_WRONG, E_WRONG, F_WRONG_ordinal, S_ROTATED, E_ROTATED, F_ROTATED_ordinal⟩ := H
  exact ⟨S_CURRENT.ext E, E_CURRENT.ext E, F_CURRENT_ordinal.ext E, S_EXPIRED_CURRENT.ext E, E_EXPIRED_CURRENT.ext E, F_EXPIRED_CURRENT_ordinal.ext E, S_EXPIRED_ROTATED.ext E, E_EXPIRED_ROTATED.ext E, F_EXPIRED_ROTATED_ordinal.ext E, S_WRONG.ext E, E_WRONG.ext E, F_WRONG_ordinal.ext E, S_ROTATED.ext E, E_ROTATED.ext E, F_ROTATED_ordinal.ext E⟩
theorem own_rem5 (x : Int32) : (x &&& (2147483647 : Int32)) % (5 : Int32) = (0 : Int32) ∨ (x &&& (2147483647 : Int32)) % (5 : Int32) = (1 : Int32) ∨ (x &&& (2147483647 : Int32)) % (5 : Int32) = (2 : Int32) ∨ (x &&& (2147483647 : Int32)) % (5 : Int32) = (3 : Int32) ∨ (x &&& (2147483647 : Int32)) % (5 : Int32) = (4 : Int32) := by
  have h1 : (x &&& (2147483647 : Int32)).toInt = x.toInt % 2147483648 := c_mask x 2147483647 31 (by decide) (by decide)
  have h2 := (c_irem (x &&& (2147483647 : Int32)) (5 : Int32) 5 (by decide)).1 (by omega)
  have h3 : ((x &&& (2147483647 : Int32)) % (5 : Int32)).toInt = 0 ∨ ((x &&& (2147483647 : Int32)) % (5 : Int32)).toInt = 1 ∨ ((x &&& (2147483647 : Int32)) % (5 : Int32)).toInt = 2 ∨ ((x &&& (2147483647 : Int32)) % (5 : Int32)).toInt = 3 ∨ ((x &&& (2147483647 : Int32)) % (5 : Int32)).toInt = 4 := by omega
  rcases h3 with h | h | h | h | h
  · exact Or.inl (Int32.toInt_inj.mp (by rw [h]; decide))
  · exact Or.inr (Or.inl (Int32.toInt_inj.mp (by rw [h]; decide)))
  · exact Or.inr (Or.inr (Or.inl (Int32.toInt_inj.mp (by rw [h]; decide))))
  · exact Or.inr (Or.inr (Or.inr (Or.inl (Int32.toInt_inj.mp (by rw [h]; decide)))))
  · exact Or.inr (Or.inr (Or.inr (Or.inr ((Int32.toInt_inj.mp (by rw [h]; decide))))))
theorem d1_0 : decode method_2_code 0 = .ok (.iload_n 0, 1) := by decide +kernel
theorem d1_1 : decode method_2_code 1 = .ok (.ifCond .ne 7, 3) := by decide +kernel
theorem d1_4 : decode method_2_code 4 = .ok (.getstatic 7, 3) := by decide +kernel
theorem d1_7 : decode method_2_code 7 = .ok (.areturn, 1) := by decide +kernel
theorem d1_8 : decode method_2_code 8 = .ok (.iload_n 0, 1) := by decide +kernel
theorem d1_9 : decode method_2_code 9 = .ok (.iconst 1, 1) := by decide +kernel
theorem d1_10 : decode method_2_code 10 = .ok (.if_icmp .ne 7, 3) := by decide +kernel
theorem d1_13 : decode method_2_code 13 = .ok (.getstatic 13, 3) := by decide +kernel
theorem d1_16 : decode method_2_code 16 = .ok (.areturn, 1) := by decide +kernel
theorem d1_17 : decode method_2_code 17 = .ok (.iload_n 0, 1) := by decide +kernel
theorem d1_18 : decode method_2_code 18 = .ok (.iconst 2, 1) := by decide +kernel
theorem d1_19 : decode method_2_code 19 = .ok (.if_icmp .ne 7, 3) := by decide +kernel
theorem d1_22 : decode method_2_code 22 = .ok (.getstatic 16, 3) := by decide +kernel
theorem d1_25 : decode method_2_code 25 = .ok (.areturn, 1) := by decide +kernel
theorem d1_26 : decode method_2_code 26 = .ok (.iload_n 0, 1) := by decide +kernel
theorem d1_27 : decode method_2_code 27 = .ok (.iconst 3, 1) := by decide +kernel
theorem d1_28 : decode method_2_code 28 = .ok (.if_icmp .ne 7, 3) := by decide +kernel
theorem d1_31 : decode method_2_code 31 = .ok (.getstatic 19, 3) := by decide +kernel
theorem d1_34 : decode method_2_code 34 = .ok (.areturn, 1) := by decide +kernel
theorem d1_35 : decode method_2_code 35 = .ok (.getstatic 22, 3) := by decide +kernel
theorem d1_38 : decode method_2_code 38 = .ok (.areturn, 1) := by decide +kernel
theorem pn_21 : plainName "com/example/escrowd/escrowd/client/SecretMatchIsExpiredPinLaw" = true := by first | (simp [plainName, overriddenIn]; done) | decide +kernel
theorem ef_rm_pick (m : MethodId) (x0 : Int32) : entryFrame m #[(.int x0)] 1 = mkF m 0 #[.val (.int x0)] [] := by first | (simp [entryFrame, mkF, argsToLocals, Value.category]; done) | rfl
set_option maxRecDepth 65536 in
set_option maxHeartbeats 40000000 in
theorem rm_pick (l : Launch) (Z : State) (a0 : Array Value) (hw : ∀ d ∈ tables_1, d.before a0 Z = true) (ws : List Jvm.Cond) (k : Int32) (h0 : Heap) (n0 : Nat) (Z0 : n0 ≤ h0.size) (w_CURRENT w_EXPIRED_CURRENT w_EXPIRED_ROTATED w_WRONG w_ROTATED : Addr) (hWd : own_W Z h0 w_CURRENT w_EXPIRED_CURRENT w_EXPIRED_ROTATED w_WRONG w_ROTATED) (r : Addr) (hres : (if k = (0 : Int32) then w_CURRENT else if k = (1 : Int32) then w_ROTATED else if k = (2 : Int32) then w_EXPIRED_CURRENT else if k = (3 : Int32) then w_EXPIRED_ROTATED else w_WRONG) = r) :
    MetFree l (⟨"com/example/escrowd/escrowd/client/SecretMatchIsExpiredPinLaw", "pick", "(I)Lcom/example/escrowd/escrowd/client/SecretMatch;"⟩ : MethodName) (head1 (Jvm.Cond.code (⟨"com/example/escrowd/escrowd/client/SecretMatchIsExpiredPinLaw", "pick", "(I)Lcom/example/escrowd/escrowd/client/SecretMatch;"⟩ : MethodName) method_2_code 1 (some (.object "com/example/escrowd/escrowd/client/SecretMatch")) :: ws) ({ frames := 0, cells := 0, slots := 0, locals := 0 } : Room)) (fun aQ UQ => aQ = #[(.int k)] ∧ Z.Warmed39 UQ.vm ∧ UQ.heap = h0) (fun _ _ _ _ _ => True) (fun _ UQ oQ UR => ∃ vQ LQ, oQ = .returned vQ ∧ own_Pure (some (.ref r)) h0 n0 vQ UR.heap LQ ∧ FrameEnd UQ oQ UR LQ ({ frames := 0, cells := 0, slots := 0, locals := 0 } : Room).cells ({ frames := 0, cells := 0, slots := 0, locals := 0 } : Room).slots) := by
  refine MetFree.of_bodySF (plainFor_of_name pn_21) hisR ?_
  intro p e s m args below meth c s₁ Bd hml0 hP hK
  obtain ⟨rfl, hZ, hh⟩ := hP
  have hx := Bd.exec
  have hby := Bd.bytes
  have hml : c.maxLocals = 1 := hml0
  have hown : s.vm.findClass "com/example/escrowd/escrowd/client/SecretMatchIsExpiredPinLaw" = some m.cls := findClass_of_methodNamed Bd.named
  have hnm := (name_of_methodNamed Bd.named Bd.method).1
  have X0 : Stand p l e ({ frames := 0, cells := 0, slots := 0, locals := 0 } : Room) s m #[(.int k)] below meth c s₁ [] 0 0 := Stand.of_body Bd
  have e0 : s₁.heap = h0 := by rw [← hh, Bd.state]; rfl
  have N0 := Fr.nil n0
  have pre0 : ∀ t, Steps p.tables e below (s₁.setTop (mkF m 0 #[.val (.int k)] [])) t → Steps p.tables e below (s₁.setTop (entryFrame m #[(.int k)] 1)) t := fun t kq => castTop (ef_rm_pick m k) kq
  obtain ⟨S_CURRENT, E_CURRENT, F_CURRENT_ordinal, S_EXPIRED_CURRENT, E_EXPIRED_CURRENT, F_EXPIRED_CURRENT_ordinal, S_EXPIRED_ROTATED, E_EXPIRED_ROTATED, F_EXPIRED_ROTATED_ordinal, S_WRONG, E_WRONG, F_WRONG_ordinal, S_ROTATED, E_ROTATED, F_ROTATED_ordinal⟩ := hWd
  by_cases hc1_19 : k = (0 : Int32)
  · -- pc 1: k = (0 : Int32)
    obtain ⟨T20, X20, e20, st20⟩ := getS2 X0 hx hZ hown (host := "") (Or.inl (hw _ (List.mem_of_getElem? (i := 5) rfl))) Via.refl e0 S_CURRENT (g := (mkF m 4 #[.val (.int k)] [])) rfl (hb hby d1_4)
    obtain ⟨fs, hr, hrun, hended, hW, hsame⟩ := X20.leave (v := some (.ref w_CURRENT)) (fun h => by rw [Bd.returns] at h; cases h)
    refine ⟨_, _, pre0 _ ?_, hrun, hended, _, _, rfl, ?_, ⟨_, rfl⟩, hW, hsame.mono (by decide) (by decide)⟩
    · show Steps p.tables e below (s₁.setTop (mkF m 0 #[.val (.int k)] [])) _
      refine XS.iloadN X0.here hx rfl (hb hby d1_0) rfl ?_
      show Steps p.tables e below (s₁.setTop (mkF m 1 #[.val (.int k)] [(.int k)])) _
      refine XS.ifNo X0.here hx rfl (hb hby d1_1) rfl ((if0 _ _).trans (teq hc1_19).2) ?_
      show Steps p.tables e below (s₁.setTop (mkF m 4 #[.val (.int k)] [])) _
      refine st20 _ ?_
      show Steps p.tables e below (T20.setTop (mkF m 7 #[.val (.int k)] [(.ref w_CURRENT)])) _
      exact retOut X20 hx Bd.returns rfl (Or.inr (Or.inr (Or.inr (Or.inr ⟨rfl, rfl, rfl⟩)))) (hb hby d1_7) hr
    · show own_Pure (some (.ref r)) h0 n0 _ T20.heap _
      rw [e20]
      exact ⟨by rw [← hres]; simp only [if_pos hc1_19], N0, rfl⟩
  · -- pc 1: not k = (0 : Int32)
    have ck22 : ∀ t, Steps p.tables e below (s₁.setTop (mkF m 10 #[.val (.int k)] [(.int (1 : Int32)), (.int k)])) t → Steps p.tables e below (s₁.setTop (entryFrame m #[(.int k)] 1)) t := by
      intro t kt
      refine pre0 _ ?_
      show Steps p.tables e below (s₁.setTop (mkF m 0 #[.val (.int k)] [])) _
      refine XS.iloadN X0.here hx rfl (hb hby d1_0) rfl ?_
      show Steps p.tables e below (s₁.setTop (mkF m 1 #[.val (.int k)] [(.int k)])) _
      refine XS.ifYes X0.here hx rfl (pc0 := 1) (pc' := 8) rfl (hb hby d1_1) rfl ((if0 _ _).trans (feq hc1_19).2) (by decide) (by decide) ?_
      show Steps p.tables e below (s₁.setTop (mkF m 8 #[.val (.int k)] [])) _
      refine XS.iloadN X0.here hx rfl (hb hby d1_8) rfl ?_
      show Steps p.tables e below (s₁.setTop (mkF m 9 #[.val (.int k)] [(.int k)])) _
      refine XS.iconst X0.here hx rfl (hb hby d1_9) ?_
      exact kt
    by_cases hc10_21 : k = (1 : Int32)
    · -- pc 10: k = (1 : Int32)
      obtain ⟨T23, X23, e23, st23⟩ := getS2 X0 hx hZ hown (host := "") (Or.inl (hw _ (List.mem_of_getElem? (i := 28) rfl))) Via.refl e0 S_ROTATED (g := (mkF m 13 #[.val (.int k)] [])) rfl (hb hby d1_13)
      obtain ⟨fs, hr, hrun, hended, hW, hsame⟩ := X23.leave (v := some (.ref w_ROTATED)) (fun h => by rw [Bd.returns] at h; cases h)
      refine ⟨_, _, ck22 _ ?_, hrun, hended, _, _, rfl, ?_, ⟨_, rfl⟩, hW, hsame.mono (by decide) (by decide)⟩
      · show Steps p.tables e below (s₁.setTop (mkF m 10 #[.val (.int k)] [(.int (1 : Int32)), (.int k)])) _
        refine XS.icmpNo X0.here hx rfl (hb hby d1_10) rfl (teq hc10_21).2 ?_
        show Steps p.tables e below (s₁.setTop (mkF m 13 #[.val (.int k)] [])) _
        refine st23 _ ?_
        show Steps p.tables e below (T23.setTop (mkF m 16 #[.val (.int k)] [(.ref w_ROTATED)])) _
        exact retOut X23 hx Bd.returns rfl (Or.inr (Or.inr (Or.inr (Or.inr ⟨rfl, rfl, rfl⟩)))) (hb hby d1_16) hr
      · show own_Pure (some (.ref r)) h0 n0 _ T23.heap _
        rw [e23]
        exact ⟨by rw [← hres]; simp only [if_neg hc1_19, if_pos hc10_21], N0, rfl⟩
    · -- pc 10: not k = (1 : Int32)
      by_cases hc19_24 : k = (2 : Int32)
      · -- pc 19: k = (2 : Int32)
        obtain ⟨T25, X25, e25, st25⟩ := getS2 X0 hx hZ hown (host := "") (Or.inl (hw _ (List.mem_of_getElem? (i := 29) rfl))) Via.refl e0 S_EXPIRED_CURRENT (g := (mkF m 22 #[.val (.int k)] [])) rfl (hb hby d1_22)
        obtain ⟨fs, hr, hrun, hended, hW, hsame⟩ := X25.leave (v := some (.ref w_EXPIRED_CURRENT)) (fun h => by rw [Bd.returns] at h; cases h)
        refine ⟨_, _, ck22 _ ?_, hrun, hended, _, _, rfl, ?_, ⟨_, rfl⟩, hW, hsame.mono (by decide) (by decide)⟩
        · show Steps p.tables e below (s₁.setTop (mkF m 10 #[.val (.int k)] [(.int (1 : Int32)), (.int k)])) _
          refine XS.icmpYes X0.here hx rfl (pc0 := 10) (pc' := 17) rfl (hb hby d1_10) rfl (feq hc10_21).2 (by decide) (by decide) ?_
          show Steps p.tables e below (s₁.setTop (mkF m 17 #[.val (.int k)] [])) _
          refine XS.iloadN X0.here hx rfl (hb hby d1_17) rfl ?_
          show Steps p.tables e below (s₁.setTop (mkF m 18 #[.val (.int k)] [(.int k)])) _
          refine XS.iconst X0.here hx rfl (hb hby d1_18) ?_
          show Steps p.tables e below (s₁.setTop (mkF m 19 #[.val (.int k)] [(.int (2 : Int32)), (.int k)])) _
          refine XS.icmpNo X0.here hx rfl (hb hby d1_19) rfl (teq hc19_24).2 ?_
          show Steps p.tables e below (s₁.setTop (mkF m 22 #[.val (.int k)] [])) _
          refine st25 _ ?_
          show Steps p.tables e below (T25.setTop (mkF m 25 #[.val (.int k)] [(.ref w_EXPIRED_CURRENT)])) _
          exact retOut X25 hx Bd.returns rfl (Or.inr (Or.inr (Or.inr (Or.inr ⟨rfl, rfl, rfl⟩)))) (hb hby d1_25) hr
        · show own_Pure (some (.ref r)) h0 n0 _ T25.heap _
          rw [e25]
          exact ⟨by rw [← hres]; simp only [if_neg hc1_19, if_neg hc10_21, if_pos hc19_24], N0, rfl⟩
      · -- pc 19: not k = (2 : Int32)
        have ck27 : ∀ t, Steps p.tables e below (s₁.setTop (mkF m 28 #[.val (.int k)] [(.int (3 : Int32)), (.int k)])) t → Steps p.tables e below (s₁.setTop (entryFrame m #[(.int k)] 1)) t := by
          intro t kt
          refine ck22 _ ?_
          show Steps p.tables e below (s₁.setTop (mkF m 10 #[.val (.int k)] [(.int (1 : Int32)), (.int k)])) _
          refine XS.icmpYes X0.here hx rfl (pc0 := 10) (pc' := 17) rfl (hb hby d1_10) rfl (feq hc10_21).2 (by decide) (by decide) ?_
          show Steps p.tables e below (s₁.setTop (mkF m 17 #[.val (.int k)] [])) _
          refine XS.iloadN X0.here hx rfl (hb hby d1_17) rfl ?_
          show Steps p.tables e below (s₁.setTop (mkF m 18 #[.val (.int k)] [(.int k)])) _
          refine XS.iconst X0.here hx rfl (hb hby d1_18) ?_
          show Steps p.tables e below (s₁.setTop (mkF m 19 #[.val (.int k)] [(.int (2 : Int32)), (.int k)])) _
          refine XS.icmpYes X0.here hx rfl (pc0 := 19) (pc' := 26) rfl (hb hby d1_19) rfl (feq hc19_24).2 (by decide) (by decide) ?_
          show Steps p.tables e below (s₁.setTop (mkF m 26 #[.val (.int k)] [])) _
          refine XS.iloadN X0.here hx rfl (hb hby d1_26) rfl ?_
          show Steps p.tables e below (s₁.setTop (mkF m 27 #[.val (.int k)] [(.int k)])) _
          refine XS.iconst X0.here hx rfl (hb hby d1_27) ?_
          exact kt
        by_cases hc28_26 : k = (3 : Int32)
        · -- pc 28: k = (3 : Int32)
          obtain ⟨T28, X28, e28, st28⟩ := getS2 X0 hx hZ hown (host := "") (Or.inl (hw _ (List.mem_of_getElem? (i := 25) rfl))) Via.refl e0 S_EXPIRED_ROTATED (g := (mkF m 31 #[.val (.int k)] [])) rfl (hb hby d1_31)
          obtain ⟨fs, hr, hrun, hended, hW, hsame⟩ := X28.leave (v := some (.ref w_EXPIRED_ROTATED)) (fun h => by rw [Bd.returns] at h; cases h)
          refine ⟨_, _, ck27 _ ?_, hrun, hended, _, _, rfl, ?_, ⟨_, rfl⟩, hW, hsame.mono (by decide) (by decide)⟩
          · show Steps p.tables e below (s₁.setTop (mkF m 28 #[.val (.int k)] [(.int (3 : Int32)), (.int k)])) _
            refine XS.icmpNo X0.here hx rfl (hb hby d1_28) rfl (teq hc28_26).2 ?_
            show Steps p.tables e below (s₁.setTop (mkF m 31 #[.val (.int k)] [])) _
            refine st28 _ ?_
            show Steps p.tables e below (T28.setTop (mkF m 34 #[.val (.int k)] [(.ref w_EXPIRED_ROTATED)])) _
            exact retOut X28 hx Bd.returns rfl (Or.inr (Or.inr (Or.inr (Or.inr ⟨rfl, rfl, rfl⟩)))) (hb hby d1_34) hr
          · show own_Pure (some (.ref r)) h0 n0 _ T28.heap _
            rw [e28]
            exact ⟨by rw [← hres]; simp only [if_neg hc1_19, if_neg hc10_21, if_neg hc19_24, if_pos hc28_26], N0, rfl⟩
        · -- pc 28: not k = (3 : Int32)
          obtain ⟨T29, X29, e29, st29⟩ := getS2 X0 hx hZ hown (host := "") (Or.inl (hw _ (List.mem_of_getElem? (i := 23) rfl))) Via.refl e0 S_WRONG (g := (mkF m 35 #[.val (.int k)] [])) rfl (hb hby d1_35)
          obtain ⟨fs, hr, hrun, hended, hW, hsame⟩ := X29.leave (v := some (.ref w_WRONG)) (fun h => by rw [Bd.returns] at h; cases h)
          refine ⟨_, _, ck27 _ ?_, hrun, hended, _, _, rfl, ?_, ⟨_, rfl⟩, hW, hsame.mono (by decide) (by decide)⟩
          · show Steps p.tables e below (s₁.setTop (mkF m 28 #[.val (.int k)] [(.int (3 : Int32)), (.int k)])) _
            refine XS.icmpYes X0.here hx rfl (pc0 := 28) (pc' := 35) rfl (hb hby d1_28) rfl (feq hc28_26).2 (by decide) (by decide) ?_
            show Steps p.tables e below (s₁.setTop (mkF m 35 #[.val (.int k)] [])) _
            refine st29 _ ?_
            show Steps p.tables e below (T29.setTop (mkF m 38 #[.val (.int k)] [(.ref w_WRONG)])) _
            exact retOut X29 hx Bd.returns rfl (Or.inr (Or.inr (Or.inr (Or.inr ⟨rfl, rfl, rfl⟩)))) (hb hby d1_38) hr
          · show own_Pure (some (.ref r)) h0 n0 _ T29.heap _
            rw [e29]
            exact ⟨by rw [← hres]; simp only [if_neg hc1_19, if_neg hc10_21, if_neg hc19_24, if_neg hc28_26], N0, rfl⟩
theorem d3_0 : decode prog_24_method_4_code 0 = .ok (.aload_n 0, 1) := by decide +kernel
theorem d3_1 : decode prog_24_method_4_code 1 = .ok (.getstatic 3, 3) := by decide +kernel
theorem d3_4 : decode prog_24_method_4_code 4 = .ok (.if_acmp .eq 10, 3) := by decide +kernel
theorem d3_14 : decode prog_24_method_4_code 14 = .ok (.iconst 1, 1) := by decide +kernel
theorem d3_15 : decode prog_24_method_4_code 15 = .ok (.goto 4, 3) := by decide +kernel
theorem d3_19 : decode prog_24_method_4_code 19 = .ok (.ireturn, 1) := by decide +kernel
theorem d3_7 : decode prog_24_method_4_code 7 = .ok (.aload_n 0, 1) := by decide +kernel
theorem d3_8 : decode prog_24_method_4_code 8 = .ok (.getstatic 7, 3) := by decide +kernel
theorem d3_11 : decode prog_24_method_4_code 11 = .ok (.if_acmp .ne 7, 3) := by decide +kernel
theorem d3_18 : decode prog_24_method_4_code 18 = .ok (.iconst 0, 1) := by decide +kernel
theorem pn_32 : plainName "com/example/escrowd/escrowd/client/SecretMatch" = true := by first | (simp [plainName, overriddenIn]; done) | decide +kernel
theorem ef_rm_auth (m : MethodId) (x0 : Addr) : entryFrame m #[(.ref x0)] 1 = mkF m 0 #[.val (.ref x0)] [] := by first | (simp [entryFrame, mkF, argsToLocals, Value.category]; done) | rfl
set_option maxRecDepth 65536 in
set_option maxHeartbeats 40000000 in
theorem rm_auth (l : Launch) (Z : State) (a0 : Array Value) (hw : ∀ d ∈ tables_1, d.before a0 Z = true) (ws : List Jvm.Cond) (a1 : Addr) (h0 : Heap) (n0 : Nat) (Z0 : n0 ≤ h0.size) (w_CURRENT w_EXPIRED_CURRENT w_EXPIRED_ROTATED w_WRONG w_ROTATED : Addr) (hWd : own_W Z h0 w_CURRENT w_EXPIRED_CURRENT w_EXPIRED_ROTATED w_WRONG w_ROTATED) (r : Int32) (hres : (if a1 = w_CURRENT then (1 : Int32) else if a1 = w_ROTATED then 1 else 0) = r) :
    MetFree l (⟨"com/example/escrowd/escrowd/client/SecretMatch", "authenticates", "()Z"⟩ : MethodName) (head1 (Jvm.Cond.code (⟨"com/example/escrowd/escrowd/client/SecretMatch", "authenticates", "()Z"⟩ : MethodName) prog_24_method_4_code 1 (some .boolean) :: ws) ({ frames := 0, cells := 0, slots := 0, locals := 0 } : Room)) (fun aQ UQ => aQ = #[(.ref a1)] ∧ Z.Warmed39 UQ.vm ∧ UQ.heap = h0) (fun _ _ _ _ _ => True) (fun _ UQ oQ UR => ∃ vQ LQ, oQ = .returned vQ ∧ own_Pure (some (.int r)) h0 n0 vQ UR.heap LQ ∧ FrameEnd UQ oQ UR LQ ({ frames := 0, cells := 0, slots := 0, locals := 0 } : Room).cells ({ frames := 0, cells := 0, slots := 0, locals := 0 } : Room).slots) := by
  refine MetFree.of_bodySF (plainFor_of_name pn_32) hisR ?_
  intro p e s m args below meth c s₁ Bd hml0 hP hK
  obtain ⟨rfl, hZ, hh⟩ := hP
  have hx := Bd.exec
  have hby := Bd.bytes
  have hml : c.maxLocals = 1 := hml0
  have hown : s.vm.findClass "com/example/escrowd/escrowd/client/SecretMatch" = some m.cls := findClass_of_methodNamed Bd.named
  have hnm := (name_of_methodNamed Bd.named Bd.method).1
  have X0 : Stand p l e ({ frames := 0, cells := 0, slots := 0, locals := 0 } : Room) s m #[(.ref a1)] below meth c s₁ [] 0 0 := Stand.of_body Bd
  have e0 : s₁.heap = h0 := by rw [← hh, Bd.state]; rfl
  have N0 := Fr.nil n0
  have pre0 : ∀ t, Steps p.tables e below (s₁.setTop (mkF m 0 #[.val (.ref a1)] [])) t → Steps p.tables e below (s₁.setTop (entryFrame m #[(.ref a1)] 1)) t := fun t kq => castTop (ef_rm_auth m a1) kq
  obtain ⟨S_CURRENT, E_CURRENT, F_CURRENT_ordinal, S_EXPIRED_CURRENT, E_EXPIRED_CURRENT, F_EXPIRED_CURRENT_ordinal, S_EXPIRED_ROTATED, E_EXPIRED_ROTATED, F_EXPIRED_ROTATED_ordinal, S_WRONG, E_WRONG, F_WRONG_ordinal, S_ROTATED, E_ROTATED, F_ROTATED_ordinal⟩ := hWd
  obtain ⟨T30, X30, e30, st30⟩ := getS2 X0 hx hZ hown (host := "") (Or.inl (hw _ (List.mem_of_getElem? (i := 22) rfl))) Via.refl e0 S_CURRENT (g := (mkF m 1 #[.val (.ref a1)] [(.ref a1)])) rfl (hb hby d3_1)
  by_cases hc4_31 : a1 = w_CURRENT
  · -- pc 4: a1 = w_CURRENT
    obtain ⟨fs, hr, hrun, hended, hW, hsame⟩ := X30.leave (v := some (.int (1 : Int32))) (fun h => by rw [Bd.returns] at h; cases h)
    refine ⟨_, _, pre0 _ ?_, hrun, hended, _, _, rfl, ?_, ⟨_, rfl⟩, hW, hsame.mono (by decide) (by decide)⟩
    · show Steps p.tables e below (s₁.setTop (mkF m 0 #[.val (.ref a1)] [])) _
      refine XS.aloadN X0.here hx rfl (hb hby d3_0) rfl rfl ?_
      show Steps p.tables e below (s₁.setTop (mkF m 1 #[.val (.ref a1)] [(.ref a1)])) _
      refine st30 _ ?_
      show Steps p.tables e below (T30.setTop (mkF m 4 #[.val (.ref a1)] [(.ref w_CURRENT), (.ref a1)])) _
      refine Jvm.RoadKit.acmp (g := (mkF m 4 #[.val (.ref a1)] [(.ref w_CURRENT), (.ref a1)])) X30 hx rfl rfl rfl (pc0 := 4) (pc' := 14) (same := true) rfl (hb hby d3_4) rfl (decide_eq_true (congrArg Value.ref hc4_31)) (by decide) (by decide) ?_
      show Steps p.tables e below (T30.setTop (mkF m 14 #[.val (.ref a1)] [])) _
      refine XS.iconst X30.here hx rfl (hb hby d3_14) ?_
      show Steps p.tables e below (T30.setTop (mkF m 15 #[.val (.ref a1)] [(.int (1 : Int32))])) _
      refine XS.goto X30.here hx rfl (pc0 := 15) (pc' := 19) rfl (hb hby d3_15) (by decide) (by decide) ?_
      show Steps p.tables e below (T30.setTop (mkF m 19 #[.val (.ref a1)] [(.int (1 : Int32))])) _
      exact retN X30 hx (t := .boolean) Bd.returns (by simp) (hb hby d3_19) hr
    · show own_Pure (some (.int r)) h0 n0 _ T30.heap _
      rw [e30]
      exact ⟨by rw [← hres]; simp only [if_pos hc4_31], N0, rfl⟩
  · -- pc 4: not a1 = w_CURRENT
    obtain ⟨T32, X32, e32, st32⟩ := getS2 X30 hx hZ hown (host := "") (Or.inl (hw _ (List.mem_of_getElem? (i := 26) rfl))) Via.refl e30 S_ROTATED (g := (mkF m 8 #[.val (.ref a1)] [(.ref a1)])) rfl (hb hby d3_8)
    have ck34 : ∀ t, Steps p.tables e below (T32.setTop (mkF m 11 #[.val (.ref a1)] [(.ref w_ROTATED), (.ref a1)])) t → Steps p.tables e below (s₁.setTop (entryFrame m #[(.ref a1)] 1)) t := by
      intro t kt
      refine pre0 _ ?_
      show Steps p.tables e below (s₁.setTop (mkF m 0 #[.val (.ref a1)] [])) _
      refine XS.aloadN X0.here hx rfl (hb hby d3_0) rfl rfl ?_
      show Steps p.tables e below (s₁.setTop (mkF m 1 #[.val (.ref a1)] [(.ref a1)])) _
      refine st30 _ ?_
      show Steps p.tables e below (T30.setTop (mkF m 4 #[.val (.ref a1)] [(.ref w_CURRENT), (.ref a1)])) _
      refine Jvm.RoadKit.acmp (g := (mkF m 4 #[.val (.ref a1)] [(.ref w_CURRENT), (.ref a1)])) X30 hx rfl rfl rfl (pc0 := 4) (pc' := 7) (same := false) rfl (hb hby d3_4) rfl (decide_eq_false fun q => hc4_31 (Value.ref.inj q)) (by decide) (by decide) ?_
      show Steps p.tables e below (T30.setTop (mkF m 7 #[.val (.ref a1)] [])) _
      refine XS.aloadN X30.here hx rfl (hb hby d3_7) rfl rfl ?_
      show Steps p.tables e below (T30.setTop (mkF m 8 #[.val (.ref a1)] [(.ref a1)])) _
      refine st32 _ ?_
      exact kt
    by_cases hc11_33 : a1 = w_ROTATED
    · -- pc 11: a1 = w_ROTATED
      obtain ⟨fs, hr, hrun, hended, hW, hsame⟩ := X32.leave (v := some (.int (1 : Int32))) (fun h => by rw [Bd.returns] at h; cases h)
      refine ⟨_, _, ck34 _ ?_, hrun, hended, _, _, rfl, ?_, ⟨_, rfl⟩, hW, hsame.mono (by decide) (by decide)⟩
      · show Steps p.tables e below (T32.setTop (mkF m 11 #[.val (.ref a1)] [(.ref w_ROTATED), (.ref a1)])) _
        refine Jvm.RoadKit.acmp (g := (mkF m 11 #[.val (.ref a1)] [(.ref w_ROTATED), (.ref a1)])) X32 hx rfl rfl rfl (pc0 := 11) (pc' := 14) (same := true) rfl (hb hby d3_11) rfl (decide_eq_true (congrArg Value.ref hc11_33)) (by decide) (by decide) ?_
        show Steps p.tables e below (T32.setTop (mkF m 14 #[.val (.ref a1)] [])) _
        refine XS.iconst X32.here hx rfl (hb hby d3_14) ?_
        show Steps p.tables e below (T32.setTop (mkF m 15 #[.val (.ref a1)] [(.int (1 : Int32))])) _
        refine XS.goto X32.here hx rfl (pc0 := 15) (pc' := 19) rfl (hb hby d3_15) (by decide) (by decide) ?_
        show Steps p.tables e below (T32.setTop (mkF m 19 #[.val (.ref a1)] [(.int (1 : Int32))])) _
        exact retN X32 hx (t := .boolean) Bd.returns (by simp) (hb hby d3_19) hr
      · show own_Pure (some (.int r)) h0 n0 _ T32.heap _
        rw [e32]
        exact ⟨by rw [← hres]; simp only [if_neg hc4_31, if_pos hc11_33], N0, rfl⟩
    · -- pc 11: not a1 = w_ROTATED
      obtain ⟨fs, hr, hrun, hended, hW, hsame⟩ := X32.leave (v := some (.int (0 : Int32))) (fun h => by rw [Bd.returns] at h; cases h)
      refine ⟨_, _, ck34 _ ?_, hrun, hended, _, _, rfl, ?_, ⟨_, rfl⟩, hW, hsame.mono (by decide) (by decide)⟩
      · show Steps p.tables e below (T32.setTop (mkF m 11 #[.val (.ref a1)] [(.ref w_ROTATED), (.ref a1)])) _
        refine Jvm.RoadKit.acmp (g := (mkF m 11 #[.val (.ref a1)] [(.ref w_ROTATED), (.ref a1)])) X32 hx rfl rfl rfl (pc0 := 11) (pc' := 18) (same := false) rfl (hb hby d3_11) rfl (decide_eq_false fun q => hc11_33 (Value.ref.inj q)) (by decide) (by decide) ?_
        show Steps p.tables e below (T32.setTop (mkF m 18 #[.val (.ref a1)] [])) _
        refine XS.iconst X32.here hx rfl (hb hby d3_18) ?_
        show Steps p.tables e below (T32.setTop (mkF m 19 #[.val (.ref a1)] [(.int (0 : Int32))])) _
        exact retN X32 hx (t := .boolean) Bd.returns (by simp) (hb hby d3_19) hr
      · show own_Pure (some (.int r)) h0 n0 _ T32.heap _
        rw [e32]
        exact ⟨by rw [← hres]; simp only [if_neg hc4_31, if_neg hc11_33], N0, rfl⟩
theorem d2_0 : decode prog_24_method_5_code 0 = .ok (.aload_n 0, 1) := by decide +kernel
theorem d2_1 : decode prog_24_method_5_code 1 = .ok (.getstatic 10, 3) := by decide +kernel
theorem d2_4 : decode prog_24_method_5_code 4 = .ok (.if_acmp .eq 10, 3) := by decide +kernel
theorem d2_14 : decode prog_24_method_5_code 14 = .ok (.iconst 1, 1) := by decide +kernel
theorem d2_15 : decode prog_24_method_5_code 15 = .ok (.goto 4, 3) := by decide +kernel
theorem d2_19 : decode prog_24_method_5_code 19 = .ok (.ireturn, 1) := by decide +kernel
theorem d2_7 : decode prog_24_method_5_code 7 = .ok (.aload_n 0, 1) := by decide +kernel
theorem d2_8 : decode prog_24_method_5_code 8 = .ok (.getstatic 13, 3) := by decide +kernel
theorem d2_11 : decode prog_24_method_5_code 11 = .ok (.if_acmp .ne 7, 3) := by decide +kernel
theorem d2_18 : decode prog_24_method_5_code 18 = .ok (.iconst 0, 1) := by decide +kernel
theorem ef_rm_exp (m : MethodId) (x0 : Addr) : entryFrame m #[(.ref x0)] 1 = mkF m 0 #[.val (.ref x0)] [] := by first | (simp [entryFrame, mkF, argsToLocals, Value.category]; done) | rfl
set_option maxRecDepth 65536 in
set_option maxHeartbeats 40000000 in
theorem rm_exp (l : Launch) (Z : State) (a0 : Array Value) (hw : ∀ d ∈ tables_1, d.before a0 Z = true) (ws : List Jvm.Cond) (a1 : Addr) (h0 : Heap) (n0 : Nat) (Z0 : n0 ≤ h0.size) (w_CURRENT w_EXPIRED_CURRENT w_EXPIRED_ROTATED w_WRONG w_ROTATED : Addr) (hWd : own_W Z h0 w_CURRENT w_EXPIRED_CURRENT w_EXPIRED_ROTATED w_WRONG w_ROTATED) (r : Int32) (hres : (if a1 = w_EXPIRED_CURRENT then (1 : Int32) else if a1 = w_EXPIRED_ROTATED then 1 else 0) = r) :
    MetFree l (⟨"com/example/escrowd/escrowd/client/SecretMatch", "isExpired", "()Z"⟩ : MethodName) (head1 (Jvm.Cond.code (⟨"com/example/escrowd/escrowd/client/SecretMatch", "isExpired", "()Z"⟩ : MethodName) prog_24_method_5_code 1 (some .boolean) :: ws) ({ frames := 0, cells := 0, slots := 0, locals := 0 } : Room)) (fun aQ UQ => aQ = #[(.ref a1)] ∧ Z.Warmed39 UQ.vm ∧ UQ.heap = h0) (fun _ _ _ _ _ => True) (fun _ UQ oQ UR => ∃ vQ LQ, oQ = .returned vQ ∧ own_Pure (some (.int r)) h0 n0 vQ UR.heap LQ ∧ FrameEnd UQ oQ UR LQ ({ frames := 0, cells := 0, slots := 0, locals := 0 } : Room).cells ({ frames := 0, cells := 0, slots := 0, locals := 0 } : Room).slots) := by
  refine MetFree.of_bodySF (plainFor_of_name pn_32) hisR ?_
  intro p e s m args below meth c s₁ Bd hml0 hP hK
  obtain ⟨rfl, hZ, hh⟩ := hP
  have hx := Bd.exec
  have hby := Bd.bytes
  have hml : c.maxLocals = 1 := hml0
  have hown : s.vm.findClass "com/example/escrowd/escrowd/client/SecretMatch" = some m.cls := findClass_of_methodNamed Bd.named
  have hnm := (name_of_methodNamed Bd.named Bd.method).1
  have X0 : Stand p l e ({ frames := 0, cells := 0, slots := 0, locals := 0 } : Room) s m #[(.ref a1)] below meth c s₁ [] 0 0 := Stand.of_body Bd
  have e0 : s₁.heap = h0 := by rw [← hh, Bd.state]; rfl
  have N0 := Fr.nil n0
  have pre0 : ∀ t, Steps p.tables e below (s₁.setTop (mkF m 0 #[.val (.ref a1)] [])) t → Steps p.tables e below (s₁.setTop (entryFrame m #[(.ref a1)] 1)) t := fun t kq => castTop (ef_rm_exp m a1) kq
  obtain ⟨S_CURRENT, E_CURRENT, F_CURRENT_ordinal, S_EXPIRED_CURRENT, E_EXPIRED_CURRENT, F_EXPIRED_CURRENT_ordinal, S_EXPIRED_ROTATED, E_EXPIRED_ROTATED, F_EXPIRED_ROTATED_ordinal, S_WRONG, E_WRONG, F_WRONG_ordinal, S_ROTATED, E_ROTATED, F_ROTATED_ordinal⟩ := hWd
  obtain ⟨T35, X35, e35, st35⟩ := getS2 X0 hx hZ hown (host := "") (Or.inl (hw _ (List.mem_of_getElem? (i := 13) rfl))) Via.refl e0 S_EXPIRED_CURRENT (g := (mkF m 1 #[.val (.ref a1)] [(.ref a1)])) rfl (hb hby d2_1)
  by_cases hc4_36 : a1 = w_EXPIRED_CURRENT
  · -- pc 4: a1 = w_EXPIRED_CURRENT
    obtain ⟨fs, hr, hrun, hended, hW, hsame⟩ := X35.leave (v := some (.int (1 : Int32))) (fun h => by rw [Bd.returns] at h; cases h)
    refine ⟨_, _, pre0 _ ?_, hrun, hended, _, _, rfl, ?_, ⟨_, rfl⟩, hW, hsame.mono (by decide) (by decide)⟩
    · show Steps p.tables e below (s₁.setTop (mkF m 0 #[.val (.ref a1)] [])) _
      refine XS.aloadN X0.here hx rfl (hb hby d2_0) rfl rfl ?_
      show Steps p.tables e below (s₁.setTop (mkF m 1 #[.val (.ref a1)] [(.ref a1)])) _
      refine st35 _ ?_
      show Steps p.tables e below (T35.setTop (mkF m 4 #[.val (.ref a1)] [(.ref w_EXPIRED_CURRENT), (.ref a1)])) _
      refine Jvm.RoadKit.acmp (g := (mkF m 4 #[.val (.ref a1)] [(.ref w_EXPIRED_CURRENT), (.ref a1)])) X35 hx rfl rfl rfl (pc0 := 4) (pc' := 14) (same := true) rfl (hb hby d2_4) rfl (decide_eq_true (congrArg Value.ref hc4_36)) (by decide) (by decide) ?_
      show Steps p.tables e below (T35.setTop (mkF m 14 #[.val (.ref a1)] [])) _
      refine XS.iconst X35.here hx rfl (hb hby d2_14) ?_
      show Steps p.tables e below (T35.setTop (mkF m 15 #[.val (.ref a1)] [(.int (1 : Int32))])) _
      refine XS.goto X35.here hx rfl (pc0 := 15) (pc' := 19) rfl (hb hby d2_15) (by decide) (by decide) ?_
      show Steps p.tables e below (T35.setTop (mkF m 19 #[.val (.ref a1)] [(.int (1 : Int32))])) _
      exact retN X35 hx (t := .boolean) Bd.returns (by simp) (hb hby d2_19) hr
    · show own_Pure (some (.int r)) h0 n0 _ T35.heap _
      rw [e35]
      exact ⟨by rw [← hres]; simp only [if_pos hc4_36], N0, rfl⟩
  · -- pc 4: not a1 = w_EXPIRED_CURRENT
    obtain ⟨T37, X37, e37, st37⟩ := getS2 X35 hx hZ hown (host := "") (Or.inl (hw _ (List.mem_of_getElem? (i := 15) rfl))) Via.refl e35 S_EXPIRED_ROTATED (g := (mkF m 8 #[.val (.ref a1)] [(.ref a1)])) rfl (hb hby d2_8)
    have ck39 : ∀ t, Steps p.tables e below (T37.setTop (mkF m 11 #[.val (.ref a1)] [(.ref w_EXPIRED_ROTATED), (.ref a1)])) t → Steps p.tables e below (s₁.setTop (entryFrame m #[(.ref a1)] 1)) t := by
      intro t kt
      refine pre0 _ ?_
      show Steps p.tables e below (s₁.setTop (mkF m 0 #[.val (.ref a1)] [])) _
      refine XS.aloadN X0.here hx rfl (hb hby d2_0) rfl rfl ?_
      show Steps p.tables e below (s₁.setTop (mkF m 1 #[.val (.ref a1)] [(.ref a1)])) _
      refine st35 _ ?_
      show Steps p.tables e below (T35.setTop (mkF m 4 #[.val (.ref a1)] [(.ref w_EXPIRED_CURRENT), (.ref a1)])) _
      refine Jvm.RoadKit.acmp (g := (mkF m 4 #[.val (.ref a1)] [(.ref w_EXPIRED_CURRENT), (.ref a1)])) X35 hx rfl rfl rfl (pc0 := 4) (pc' := 7) (same := false) rfl (hb hby d2_4) rfl (decide_eq_false fun q => hc4_36 (Value.ref.inj q)) (by decide) (by decide) ?_
      show Steps p.tables e below (T35.setTop (mkF m 7 #[.val (.ref a1)] [])) _
      refine XS.aloadN X35.here hx rfl (hb hby d2_7) rfl rfl ?_
      show Steps p.tables e below (T35.setTop (mkF m 8 #[.val (.ref a1)] [(.ref a1)])) _
      refine st37 _ ?_
      exact kt
    by_cases hc11_38 : a1 = w_EXPIRED_ROTATED
    · -- pc 11: a1 = w_EXPIRED_ROTATED
      obtain ⟨fs, hr, hrun, hended, hW, hsame⟩ := X37.leave (v := some (.int (1 : Int32))) (fun h => by rw [Bd.returns] at h; cases h)
      refine ⟨_, _, ck39 _ ?_, hrun, hended, _, _, rfl, ?_, ⟨_, rfl⟩, hW, hsame.mono (by decide) (by decide)⟩
      · show Steps p.tables e below (T37.setTop (mkF m 11 #[.val (.ref a1)] [(.ref w_EXPIRED_ROTATED), (.ref a1)])) _
        refine Jvm.RoadKit.acmp (g := (mkF m 11 #[.val (.ref a1)] [(.ref w_EXPIRED_ROTATED), (.ref a1)])) X37 hx rfl rfl rfl (pc0 := 11) (pc' := 14) (same := true) rfl (hb hby d2_11) rfl (decide_eq_true (congrArg Value.ref hc11_38)) (by decide) (by decide) ?_
        show Steps p.tables e below (T37.setTop (mkF m 14 #[.val (.ref a1)] [])) _
        refine XS.iconst X37.here hx rfl (hb hby d2_14) ?_
        show Steps p.tables e below (T37.setTop (mkF m 15 #[.val (.ref a1)] [(.int (1 : Int32))])) _
        refine XS.goto X37.here hx rfl (pc0 := 15) (pc' := 19) rfl (hb hby d2_15) (by decide) (by decide) ?_
        show Steps p.tables e below (T37.setTop (mkF m 19 #[.val (.ref a1)] [(.int (1 : Int32))])) _
        exact retN X37 hx (t := .boolean) Bd.returns (by simp) (hb hby d2_19) hr
      · show own_Pure (some (.int r)) h0 n0 _ T37.heap _
        rw [e37]
        exact ⟨by rw [← hres]; simp only [if_neg hc4_36, if_pos hc11_38], N0, rfl⟩
    · -- pc 11: not a1 = w_EXPIRED_ROTATED
      obtain ⟨fs, hr, hrun, hended, hW, hsame⟩ := X37.leave (v := some (.int (0 : Int32))) (fun h => by rw [Bd.returns] at h; cases h)
      refine ⟨_, _, ck39 _ ?_, hrun, hended, _, _, rfl, ?_, ⟨_, rfl⟩, hW, hsame.mono (by decide) (by decide)⟩
      · show Steps p.tables e below (T37.setTop (mkF m 11 #[.val (.ref a1)] [(.ref w_EXPIRED_ROTATED), (.ref a1)])) _
        refine Jvm.RoadKit.acmp (g := (mkF m 11 #[.val (.ref a1)] [(.ref w_EXPIRED_ROTATED), (.ref a1)])) X37 hx rfl rfl rfl (pc0 := 11) (pc' := 18) (same := false) rfl (hb hby d2_11) rfl (decide_eq_false fun q => hc11_38 (Value.ref.inj q)) (by decide) (by decide) ?_
        show Steps p.tables e below (T37.setTop (mkF m 18 #[.val (.ref a1)] [])) _
        refine XS.iconst X37.here hx rfl (hb hby d2_18) ?_
        show Steps p.tables e below (T37.setTop (mkF m 19 #[.val (.ref a1)] [(.int (0 : Int32))])) _
        exact retN X37 hx (t := .boolean) Bd.returns (by simp) (hb hby d2_19) hr
      · show own_Pure (some (.int r)) h0 n0 _ T37.heap _
        rw [e37]
        exact ⟨by rw [← hres]; simp only [if_neg hc4_36, if_neg hc11_38], N0, rfl⟩
theorem pd_43 : parseMethodDescriptor "(I)Lcom/example/escrowd/escrowd/client/SecretMatch;" = some ⟨[.int], some (.object "com/example/escrowd/escrowd/client/SecretMatch")⟩ := by decide +kernel
theorem pd_44 : parseMethodDescriptor "()Z" = some ⟨[], some .boolean⟩ := by decide +kernel
theorem ef_rm_law (m : MethodId) (x0 : Int32) : entryFrame m #[(.int x0)] maxLocals = mkF m 0 #[.val (.int x0), .unset, .unset, .unset, .unset, .unset, .unset] [] := by first | (simp [entryFrame, mkF, argsToLocals, Value.category, maxLocals]; done) | rfl
set_option maxRecDepth 65536 in
set_option maxHeartbeats 40000000 in
theorem rm_law (l : Launch) (Z : State) (a0 : Array Value) (hw : ∀ d ∈ tables_1, d.before a0 Z = true) (ws : List Jvm.Cond) (p0 : Int32) (h0 : Heap) (n0 : Nat) (Z0 : n0 ≤ h0.size) (w_CURRENT w_EXPIRED_CURRENT w_EXPIRED_ROTATED w_WRONG w_ROTATED : Addr) (hWd : own_W Z h0 w_CURRENT w_EXPIRED_CURRENT w_EXPIRED_ROTATED w_WRONG w_ROTATED) :
    MetFree l x (head1 (Jvm.Cond.code x code maxLocals ret :: ws) room_1) (fun aQ UQ => aQ = #[(.int p0)] ∧ Z.Warmed39 UQ.vm ∧ UQ.heap = h0) (fun _ _ _ _ _ => True) (fun _ UQ oQ UR => ∃ vQ LQ, oQ = .returned vQ ∧ own_Pure (some (.int 1)) h0 n0 vQ UR.heap LQ ∧ FrameEnd UQ oQ UR LQ room_1.cells room_1.slots) := by
  refine MetFree.of_bodySF (plainFor_of_name pn_21) hisR ?_
  intro p e s m args below meth c s₁ Bd hml0 hP hK
  obtain ⟨rfl, hZ, hh⟩ := hP
  have hx := Bd.exec
  have hby := Bd.bytes
  have hml : c.maxLocals = 7 := hml0
  have hown : s.vm.findClass "com/example/escrowd/escrowd/client/SecretMatchIsExpiredPinLaw" = some m.cls := findClass_of_methodNamed Bd.named
  have hnm := (name_of_methodNamed Bd.named Bd.method).1
  have X0 : Stand p l e room_1 s m #[(.int p0)] below meth c s₁ [] 0 0 := Stand.of_body Bd
  have e0 : s₁.heap = h0 := by rw [← hh, Bd.state]; rfl
  have N0 := Fr.nil n0
  have pre0 : ∀ t, Steps p.tables e below (s₁.setTop (mkF m 0 #[.val (.int p0), .unset, .unset, .unset, .unset, .unset, .unset] [])) t → Steps p.tables e below (s₁.setTop (entryFrame m #[(.int p0)] maxLocals)) t := fun t kq => castTop (ef_rm_law m p0) kq
  have hWd' := hWd
  obtain ⟨S_CURRENT, E_CURRENT, F_CURRENT_ordinal, S_EXPIRED_CURRENT, E_EXPIRED_CURRENT, F_EXPIRED_CURRENT_ordinal, S_EXPIRED_ROTATED, E_EXPIRED_ROTATED, F_EXPIRED_ROTATED_ordinal, S_WRONG, E_WRONG, F_WRONG_ordinal, S_ROTATED, E_ROTATED, F_ROTATED_ordinal⟩ := hWd'
  have ck40 : ∀ t, Steps p.tables e below (s₁.setTop (mkF m 6 #[.val (.int p0), .unset, .unset, .unset, .unset, .unset, .unset] [(.int ((p0 &&& (2147483647 : Int32)) % (5 : Int32)))])) t → Steps p.tables e below (s₁.setTop (entryFrame m #[(.int p0)] maxLocals)) t := by
    intro t kt
    refine pre0 _ ?_
    show Steps p.tables e below (s₁.setTop (mkF m 0 #[.val (.int p0), .unset, .unset, .unset, .unset, .unset, .unset] [])) _
    refine XS.iloadN X0.here hx rfl (hb hby at_0) rfl ?_
    show Steps p.tables e below (s₁.setTop (mkF m 1 #[.val (.int p0), .unset, .unset, .unset, .unset, .unset, .unset] [(.int p0)])) _
    refine X0.ldcInt hx hown (mvT hZ (hw _ (List.mem_of_getElem? (i := 0) rfl))) (g := (mkF m 1 #[.val (.int p0), .unset, .unset, .unset, .unset, .unset, .unset] [(.int p0)])) rfl (hb hby at_1) _ ?_
    show Steps p.tables e below (s₁.setTop (mkF m 3 #[.val (.int p0), .unset, .unset, .unset, .unset, .unset, .unset] [(.int (2147483647 : Int32)), (.int p0)])) _
    refine XS.iand X0.here hx rfl (hb hby at_3) rfl ?_
    show Steps p.tables e below (s₁.setTop (mkF m 4 #[.val (.int p0), .unset, .unset, .unset, .unset, .unset, .unset] [(.int (p0 &&& (2147483647 : Int32)))])) _
    refine XS.iconst X0.here hx rfl (hb hby at_4) ?_
    show Steps p.tables e below (s₁.setTop (mkF m 5 #[.val (.int p0), .unset, .unset, .unset, .unset, .unset, .unset] [(.int (5 : Int32)), (.int (p0 &&& (2147483647 : Int32)))])) _
    refine Jvm.RoadKit.iremM (g := (mkF m 5 #[.val (.int p0), .unset, .unset, .unset, .unset, .unset, .unset] [(.int (5 : Int32)), (.int (p0 &&& (2147483647 : Int32)))])) X0 hx rfl (hb hby at_5) rfl (by decide) ?_
    exact kt
  rcases own_rem5 p0 with hv41 | hv42 | hv43 | hv44 | hv45
  · -- (0 : Int32)
    obtain ⟨_, _, ⟨T46, L46, k46, n46⟩, -, X46, ⟨Lc46, hQ46, l46, y46, z46⟩, st46⟩ := Jvm.LawKit.callS X0 hx (y := (⟨"com/example/escrowd/escrowd/client/SecretMatchIsExpiredPinLaw", "pick", "(I)Lcom/example/escrowd/escrowd/client/SecretMatch;"⟩ : MethodName)) hown (mvT hZ (hw _ (List.mem_of_getElem? (i := 1) rfl))) (mvT hZ (hw _ (List.mem_of_getElem? (i := 2) rfl))) (mvT hZ (hw _ (List.mem_of_getElem? (i := 3) rfl))) (mvT hZ (hw _ (List.mem_of_getElem? (i := 4) rfl))) (by decide) (backOf (W := 0) (rm_pick l Z a0 hw [] (0 : Int32) h0 n0 Z0 w_CURRENT w_EXPIRED_CURRENT w_EXPIRED_ROTATED w_WRONG w_ROTATED hWd w_CURRENT (by first | rfl | decide | simp)) hZ (hw _ (List.mem_of_getElem? (i := 4) rfl)) (hw _ (List.mem_of_getElem? (i := 3) rfl)) (by decide) (by decide)) (g := (mkF m 8 #[.val (.int p0), .val (.int (0 : Int32)), .unset, .unset, .unset, .unset, .unset] [(.int (0 : Int32))])) rfl (by rw [hml]; rfl) (argsL := [(.int (0 : Int32))]) (rest := []) (lenOf pd_43 rfl) rfl (by show 2 * 0 + _ ≤ _; exact Nat.le_of_eq rfl) (hb hby at_8) (fun _ _ => ⟨rfl, e0, (by decide : 0 + 0 ≤ _), (by decide : 0 + 0 ≤ _)⟩)
    dsimp only [Pt.U, Pt.locs, Pt.cells, Pt.slots] at X46 l46 y46 z46 st46 hQ46
    subst l46 y46 z46
    obtain ⟨rfl, N46q, e46⟩ := hQ46
    have N46 := Fr.app N0 N46q
    obtain ⟨cq47, kq47, q47a, q47b, q47c⟩ := isOf hZ e46 (E_CURRENT)
    obtain ⟨_, _, ⟨T47, L47, k47, n47⟩, -, X47, ⟨Lc47, hQ47, l47, y47, z47⟩, st47⟩ := X46.virtualBack hx (y := (⟨"com/example/escrowd/escrowd/client/SecretMatch", "isExpired", "()Z"⟩ : MethodName)) (z := (⟨"com/example/escrowd/escrowd/client/SecretMatch", "isExpired", "()Z"⟩ : MethodName)) hown (mvT hZ (hw _ (List.mem_of_getElem? (i := 8) rfl))) (mvT hZ (hw _ (List.mem_of_getElem? (i := 9) rfl))) (notFace_of_selects (args := #[]) (mvT hZ (hw _ (List.mem_of_getElem? (i := 11) rfl)))) (mvT hZ (hw _ (List.mem_of_getElem? (i := 11) rfl))) (mvT hZ (hw _ (List.mem_of_getElem? (i := 10) rfl))) (by decide) (backOf (W := 0) (rm_exp l Z a0 hw [] w_CURRENT h0 n0 Z0 w_CURRENT w_EXPIRED_CURRENT w_EXPIRED_ROTATED w_WRONG w_ROTATED hWd (0 : Int32) (by simp [(F_CURRENT_ordinal.ne F_EXPIRED_CURRENT_ordinal (by decide)), (F_CURRENT_ordinal.ne F_EXPIRED_ROTATED_ordinal (by decide))])) hZ (hw _ (List.mem_of_getElem? (i := 12) rfl)) (hw _ (List.mem_of_getElem? (i := 6) rfl)) (by decide) (by decide)) q47a q47c (g := (mkF m 13 #[.val (.int p0), .val (.int (0 : Int32)), .val (.ref w_CURRENT), .unset, .unset, .unset, .unset] [(.ref w_CURRENT)])) rfl (by rw [hml]; rfl) (Steps.refl _) (argsL := []) (rest := []) (lenOf pd_44 rfl) rfl (by show 2 * 0 + _ ≤ _; exact Nat.le_of_eq rfl) (hb hby at_13) (fun _ _ => ⟨rfl, e46, (by decide : 0 + 0 ≤ _), (by decide : 0 + 0 ≤ _)⟩)
    dsimp only [Pt.U, Pt.locs, Pt.cells, Pt.slots] at X47 l47 y47 z47 st47 hQ47
    subst l47 y47 z47
    obtain ⟨rfl, N47q, e47⟩ := hQ47
    have N47 := Fr.app N46 N47q
    obtain ⟨cq48, kq48, q48a, q48b, q48c⟩ := isOf hZ e47 (E_CURRENT)
    obtain ⟨_, _, ⟨T48, L48, k48, n48⟩, -, X48, ⟨Lc48, hQ48, l48, y48, z48⟩, st48⟩ := X47.virtualBack hx (y := (⟨"com/example/escrowd/escrowd/client/SecretMatch", "authenticates", "()Z"⟩ : MethodName)) (z := (⟨"com/example/escrowd/escrowd/client/SecretMatch", "authenticates", "()Z"⟩ : MethodName)) hown (mvT hZ (hw _ (List.mem_of_getElem? (i := 17) rfl))) (mvT hZ (hw _ (List.mem_of_getElem? (i := 18) rfl))) (notFace_of_selects (args := #[]) (mvT hZ (hw _ (List.mem_of_getElem? (i := 20) rfl)))) (mvT hZ (hw _ (List.mem_of_getElem? (i := 20) rfl))) (mvT hZ (hw _ (List.mem_of_getElem? (i := 19) rfl))) (by decide) (backOf (W := 0) (rm_auth l Z a0 hw [] w_CURRENT h0 n0 Z0 w_CURRENT w_EXPIRED_CURRENT w_EXPIRED_ROTATED w_WRONG w_ROTATED hWd (1 : Int32) (by simp [(F_CURRENT_ordinal.ne F_ROTATED_ordinal (by decide))])) hZ (hw _ (List.mem_of_getElem? (i := 21) rfl)) (hw _ (List.mem_of_getElem? (i := 6) rfl)) (by decide) (by decide)) q48a q48c (g := (mkF m 18 #[.val (.int p0), .val (.int (0 : Int32)), .val (.ref w_CURRENT), .val (.int (0 : Int32)), .unset, .unset, .unset] [(.ref w_CURRENT)])) rfl (by rw [hml]; rfl) (Steps.refl _) (argsL := []) (rest := []) (lenOf pd_44 rfl) rfl (by show 2 * 0 + _ ≤ _; exact Nat.le_of_eq rfl) (hb hby at_18) (fun _ _ => ⟨rfl, e47, (by decide : 0 + 0 ≤ _), (by decide : 0 + 0 ≤ _)⟩)
    dsimp only [Pt.U, Pt.locs, Pt.cells, Pt.slots] at X48 l48 y48 z48 st48 hQ48
    subst l48 y48 z48
    obtain ⟨rfl, N48q, e48⟩ := hQ48
    have N48 := Fr.app N47 N48q
    obtain ⟨T49, X49, e49, st49⟩ := getS2 X48 hx hZ hown (host := "") (Or.inl (hw _ (List.mem_of_getElem? (i := 23) rfl))) Via.refl e48 S_WRONG (g := (mkF m 24 #[.val (.int p0), .val (.int (0 : Int32)), .val (.ref w_CURRENT), .val (.int (0 : Int32)), .val (.int (1 : Int32)), .unset, .unset] [(.ref w_CURRENT)])) rfl (hb hby at_24)
    obtain ⟨fs, hr, hrun, hended, hW, hsame⟩ := X49.leave (v := some (.int (1 : Int32))) (fun h => by rw [Bd.returns] at h; cases h)
    refine ⟨_, _, ck40 _ ?_, hrun, hended, _, _, rfl, ?_, ⟨_, rfl⟩, hW, hsame.mono (by decide) (by decide)⟩
    · show Steps p.tables e below (s₁.setTop (mkF m 6 #[.val (.int p0), .unset, .unset, .unset, .unset, .unset, .unset] [(.int ((p0 &&& (2147483647 : Int32)) % (5 : Int32)))])) _
      rw [hv41]
      show Steps p.tables e below (s₁.setTop (mkF m 6 #[.val (.int p0), .unset, .unset, .unset, .unset, .unset, .unset] [(.int (0 : Int32))])) _
      refine XS.istoreN X0.here hx rfl (hb hby at_6) rfl (l' := #[.val (.int p0), .val (.int (0 : Int32)), .unset, .unset, .unset, .unset, .unset]) rfl ?_
      show Steps p.tables e below (s₁.setTop (mkF m 7 #[.val (.int p0), .val (.int (0 : Int32)), .unset, .unset, .unset, .unset, .unset] [])) _
      refine XS.iloadN X0.here hx rfl (hb hby at_7) rfl ?_
      show Steps p.tables e below (s₁.setTop (mkF m 8 #[.val (.int p0), .val (.int (0 : Int32)), .unset, .unset, .unset, .unset, .unset] [(.int (0 : Int32))])) _
      refine st46 _ ?_
      show Steps p.tables e below (T46.setTop (mkF m 11 #[.val (.int p0), .val (.int (0 : Int32)), .unset, .unset, .unset, .unset, .unset] [(.ref w_CURRENT)])) _
      refine XS.astoreN X46.here hx rfl (hb hby at_11) rfl rfl (l' := #[.val (.int p0), .val (.int (0 : Int32)), .val (.ref w_CURRENT), .unset, .unset, .unset, .unset]) rfl ?_
      show Steps p.tables e below (T46.setTop (mkF m 12 #[.val (.int p0), .val (.int (0 : Int32)), .val (.ref w_CURRENT), .unset, .unset, .unset, .unset] [])) _
      refine XS.aloadN X46.here hx rfl (hb hby at_12) rfl rfl ?_
      show Steps p.tables e below (T46.setTop (mkF m 13 #[.val (.int p0), .val (.int (0 : Int32)), .val (.ref w_CURRENT), .unset, .unset, .unset, .unset] [(.ref w_CURRENT)])) _
      refine st47.trans ?_
      show Steps p.tables e below (T47.setTop (mkF m 16 #[.val (.int p0), .val (.int (0 : Int32)), .val (.ref w_CURRENT), .unset, .unset, .unset, .unset] [(.int (0 : Int32))])) _
      refine XS.istoreN X47.here hx rfl (hb hby at_16) rfl (l' := #[.val (.int p0), .val (.int (0 : Int32)), .val (.ref w_CURRENT), .val (.int (0 : Int32)), .unset, .unset, .unset]) rfl ?_
      show Steps p.tables e below (T47.setTop (mkF m 17 #[.val (.int p0), .val (.int (0 : Int32)), .val (.ref w_CURRENT), .val (.int (0 : Int32)), .unset, .unset, .unset] [])) _
      refine XS.aloadN X47.here hx rfl (hb hby at_17) rfl rfl ?_
      show Steps p.tables e below (T47.setTop (mkF m 18 #[.val (.int p0), .val (.int (0 : Int32)), .val (.ref w_CURRENT), .val (.int (0 : Int32)), .unset, .unset, .unset] [(.ref w_CURRENT)])) _
      refine st48.trans ?_
      show Steps p.tables e below (T48.setTop (mkF m 21 #[.val (.int p0), .val (.int (0 : Int32)), .val (.ref w_CURRENT), .val (.int (0 : Int32)), .unset, .unset, .unset] [(.int (1 : Int32))])) _
      refine XS.istore X48.here hx rfl (hb hby at_21) rfl (l' := #[.val (.int p0), .val (.int (0 : Int32)), .val (.ref w_CURRENT), .val (.int (0 : Int32)), .val (.int (1 : Int32)), .unset, .unset]) rfl ?_
      show Steps p.tables e below (T48.setTop (mkF m 23 #[.val (.int p0), .val (.int (0 : Int32)), .val (.ref w_CURRENT), .val (.int (0 : Int32)), .val (.int (1 : Int32)), .unset, .unset] [])) _
      refine XS.aloadN X48.here hx rfl (hb hby at_23) rfl rfl ?_
      show Steps p.tables e below (T48.setTop (mkF m 24 #[.val (.int p0), .val (.int (0 : Int32)), .val (.ref w_CURRENT), .val (.int (0 : Int32)), .val (.int (1 : Int32)), .unset, .unset] [(.ref w_CURRENT)])) _
      refine st49 _ ?_
      show Steps p.tables e below (T49.setTop (mkF m 27 #[.val (.int p0), .val (.int (0 : Int32)), .val (.ref w_CURRENT), .val (.int (0 : Int32)), .val (.int (1 : Int32)), .unset, .unset] [(.ref w_WRONG), (.ref w_CURRENT)])) _
      refine Jvm.RoadKit.acmp (g := (mkF m 27 #[.val (.int p0), .val (.int (0 : Int32)), .val (.ref w_CURRENT), .val (.int (0 : Int32)), .val (.int (1 : Int32)), .unset, .unset] [(.ref w_WRONG), (.ref w_CURRENT)])) X49 hx rfl rfl rfl (pc0 := 27) (pc' := 34) (same := false) rfl (hb hby at_27) rfl (decide_eq_false fun q => (F_CURRENT_ordinal.ne F_WRONG_ordinal (by decide)) (Value.ref.inj q)) (by decide) (by decide) ?_
      show Steps p.tables e below (T49.setTop (mkF m 34 #[.val (.int p0), .val (.int (0 : Int32)), .val (.ref w_CURRENT), .val (.int (0 : Int32)), .val (.int (1 : Int32)), .unset, .unset] [])) _
      refine XS.iconst X49.here hx rfl (hb hby at_34) ?_
      show Steps p.tables e below (T49.setTop (mkF m 35 #[.val (.int p0), .val (.int (0 : Int32)), .val (.ref w_CURRENT), .val (.int (0 : Int32)), .val (.int (1 : Int32)), .unset, .unset] [(.int (0 : Int32))])) _
      refine XS.istore X49.here hx rfl (hb hby at_35) rfl (l' := #[.val (.int p0), .val (.int (0 : Int32)), .val (.ref w_CURRENT), .val (.int (0 : Int32)), .val (.int (1 : Int32)), .val (.int (0 : Int32)), .unset]) rfl ?_
      show Steps p.tables e below (T49.setTop (mkF m 37 #[.val (.int p0), .val (.int (0 : Int32)), .val (.ref w_CURRENT), .val (.int (0 : Int32)), .val (.int (1 : Int32)), .val (.int (0 : Int32)), .unset] [])) _
      refine XS.iloadN X49.here hx rfl (hb hby at_37) rfl ?_
      show Steps p.tables e below (T49.setTop (mkF m 38 #[.val (.int p0), .val (.int (0 : Int32)), .val (.ref w_CURRENT), .val (.int (0 : Int32)), .val (.int (1 : Int32)), .val (.int (0 : Int32)), .unset] [(.int (0 : Int32))])) _
      refine XS.ifYes X49.here hx rfl (pc0 := 38) (pc' := 45) rfl (hb hby at_38) rfl ((if0 _ _).trans (teq (by decide : (0 : Int32) = (0 : Int32))).1) (by decide) (by decide) ?_
      show Steps p.tables e below (T49.setTop (mkF m 45 #[.val (.int p0), .val (.int (0 : Int32)), .val (.ref w_CURRENT), .val (.int (0 : Int32)), .val (.int (1 : Int32)), .val (.int (0 : Int32)), .unset] [])) _
      refine XS.iconst X49.here hx rfl (hb hby at_45) ?_
      show Steps p.tables e below (T49.setTop (mkF m 46 #[.val (.int p0), .val (.int (0 : Int32)), .val (.ref w_CURRENT), .val (.int (0 : Int32)), .val (.int (1 : Int32)), .val (.int (0 : Int32)), .unset] [(.int (0 : Int32))])) _
      refine XS.iload X49.here hx rfl (hb hby at_46) rfl ?_
      show Steps p.tables e below (T49.setTop (mkF m 48 #[.val (.int p0), .val (.int (0 : Int32)), .val (.ref w_CURRENT), .val (.int (0 : Int32)), .val (.int (1 : Int32)), .val (.int (0 : Int32)), .unset] [(.int (1 : Int32)), (.int (0 : Int32))])) _
      refine XS.ifNo X49.here hx rfl (hb hby at_48) rfl ((if0 _ _).trans (feq (by decide : ¬ ((1 : Int32) = (0 : Int32)))).1) ?_
      show Steps p.tables e below (T49.setTop (mkF m 51 #[.val (.int p0), .val (.int (0 : Int32)), .val (.ref w_CURRENT), .val (.int (0 : Int32)), .val (.int (1 : Int32)), .val (.int (0 : Int32)), .unset] [(.int (0 : Int32))])) _
      refine XS.iconst X49.here hx rfl (hb hby at_51) ?_
      show Steps p.tables e below (T49.setTop (mkF m 52 #[.val (.int p0), .val (.int (0 : Int32)), .val (.ref w_CURRENT), .val (.int (0 : Int32)), .val (.int (1 : Int32)), .val (.int (0 : Int32)), .unset] [(.int (1 : Int32)), (.int (0 : Int32))])) _
      refine XS.goto X49.here hx rfl (pc0 := 52) (pc' := 56) rfl (hb hby at_52) (by decide) (by decide) ?_
      show Steps p.tables e below (T49.setTop (mkF m 56 #[.val (.int p0), .val (.int (0 : Int32)), .val (.ref w_CURRENT), .val (.int (0 : Int32)), .val (.int (1 : Int32)), .val (.int (0 : Int32)), .unset] [(.int (1 : Int32)), (.int (0 : Int32))])) _
      refine XS.iadd X49.here hx rfl (hb hby at_56) rfl ?_
      show Steps p.tables e below (T49.setTop (mkF m 57 #[.val (.int p0), .val (.int (0 : Int32)), .val (.ref w_CURRENT), .val (.int (0 : Int32)), .val (.int (1 : Int32)), .val (.int (0 : Int32)), .unset] [(.int (1 : Int32))])) _
      refine XS.iload X49.here hx rfl (hb hby at_57) rfl ?_
      show Steps p.tables e below (T49.setTop (mkF m 59 #[.val (.int p0), .val (.int (0 : Int32)), .val (.ref w_CURRENT), .val (.int (0 : Int32)), .val (.int (1 : Int32)), .val (.int (0 : Int32)), .unset] [(.int (0 : Int32)), (.int (1 : Int32))])) _
      refine XS.ifYes X49.here hx rfl (pc0 := 59) (pc' := 66) rfl (hb hby at_59) rfl ((if0 _ _).trans (teq (by decide : (0 : Int32) = (0 : Int32))).1) (by decide) (by decide) ?_
      show Steps p.tables e below (T49.setTop (mkF m 66 #[.val (.int p0), .val (.int (0 : Int32)), .val (.ref w_CURRENT), .val (.int (0 : Int32)), .val (.int (1 : Int32)), .val (.int (0 : Int32)), .unset] [(.int (1 : Int32))])) _
      refine XS.iconst X49.here hx rfl (hb hby at_66) ?_
      show Steps p.tables e below (T49.setTop (mkF m 67 #[.val (.int p0), .val (.int (0 : Int32)), .val (.ref w_CURRENT), .val (.int (0 : Int32)), .val (.int (1 : Int32)), .val (.int (0 : Int32)), .unset] [(.int (0 : Int32)), (.int (1 : Int32))])) _
      refine XS.iadd X49.here hx rfl (hb hby at_67) rfl ?_
      show Steps p.tables e below (T49.setTop (mkF m 68 #[.val (.int p0), .val (.int (0 : Int32)), .val (.ref w_CURRENT), .val (.int (0 : Int32)), .val (.int (1 : Int32)), .val (.int (0 : Int32)), .unset] [(.int (1 : Int32))])) _
      refine XS.istore X49.here hx rfl (hb hby at_68) rfl (l' := #[.val (.int p0), .val (.int (0 : Int32)), .val (.ref w_CURRENT), .val (.int (0 : Int32)), .val (.int (1 : Int32)), .val (.int (0 : Int32)), .val (.int (1 : Int32))]) rfl ?_
      show Steps p.tables e below (T49.setTop (mkF m 70 #[.val (.int p0), .val (.int (0 : Int32)), .val (.ref w_CURRENT), .val (.int (0 : Int32)), .val (.int (1 : Int32)), .val (.int (0 : Int32)), .val (.int (1 : Int32))] [])) _
      refine XS.iload X49.here hx rfl (hb hby at_70) rfl ?_
      show Steps p.tables e below (T49.setTop (mkF m 72 #[.val (.int p0), .val (.int (0 : Int32)), .val (.ref w_CURRENT), .val (.int (0 : Int32)), .val (.int (1 : Int32)), .val (.int (0 : Int32)), .val (.int (1 : Int32))] [(.int (1 : Int32))])) _
      refine XS.iconst X49.here hx rfl (hb hby at_72) ?_
      show Steps p.tables e below (T49.setTop (mkF m 73 #[.val (.int p0), .val (.int (0 : Int32)), .val (.ref w_CURRENT), .val (.int (0 : Int32)), .val (.int (1 : Int32)), .val (.int (0 : Int32)), .val (.int (1 : Int32))] [(.int (1 : Int32)), (.int (1 : Int32))])) _
      refine XS.icmpNo X49.here hx rfl (hb hby at_73) rfl (teq (by decide : (1 : Int32) = (1 : Int32))).2 ?_
      show Steps p.tables e below (T49.setTop (mkF m 76 #[.val (.int p0), .val (.int (0 : Int32)), .val (.ref w_CURRENT), .val (.int (0 : Int32)), .val (.int (1 : Int32)), .val (.int (0 : Int32)), .val (.int (1 : Int32))] [])) _
      refine XS.iconst X49.here hx rfl (hb hby at_76) ?_
      show Steps p.tables e below (T49.setTop (mkF m 77 #[.val (.int p0), .val (.int (0 : Int32)), .val (.ref w_CURRENT), .val (.int (0 : Int32)), .val (.int (1 : Int32)), .val (.int (0 : Int32)), .val (.int (1 : Int32))] [(.int (1 : Int32))])) _
      refine XS.goto X49.here hx rfl (pc0 := 77) (pc' := 81) rfl (hb hby at_77) (by decide) (by decide) ?_
      show Steps p.tables e below (T49.setTop (mkF m 81 #[.val (.int p0), .val (.int (0 : Int32)), .val (.ref w_CURRENT), .val (.int (0 : Int32)), .val (.int (1 : Int32)), .val (.int (0 : Int32)), .val (.int (1 : Int32))] [(.int (1 : Int32))])) _
      exact retN X49 hx (t := .boolean) Bd.returns (by simp) (hb hby at_81) hr
    · show own_Pure (some (.int 1)) h0 n0 _ T49.heap _
      rw [e49]
      exact ⟨rfl, N48, rfl⟩
  · -- (1 : Int32)
    obtain ⟨_, _, ⟨T50, L50, k50, n50⟩, -, X50, ⟨Lc50, hQ50, l50, y50, z50⟩, st50⟩ := Jvm.LawKit.callS X0 hx (y := (⟨"com/example/escrowd/escrowd/client/SecretMatchIsExpiredPinLaw", "pick", "(I)Lcom/example/escrowd/escrowd/client/SecretMatch;"⟩ : MethodName)) hown (mvT hZ (hw _ (List.mem_of_getElem? (i := 1) rfl))) (mvT hZ (hw _ (List.mem_of_getElem? (i := 2) rfl))) (mvT hZ (hw _ (List.mem_of_getElem? (i := 3) rfl))) (mvT hZ (hw _ (List.mem_of_getElem? (i := 4) rfl))) (by decide) (backOf (W := 0) (rm_pick l Z a0 hw [] (1 : Int32) h0 n0 Z0 w_CURRENT w_EXPIRED_CURRENT w_EXPIRED_ROTATED w_WRONG w_ROTATED hWd w_ROTATED (by first | rfl | decide | simp)) hZ (hw _ (List.mem_of_getElem? (i := 4) rfl)) (hw _ (List.mem_of_getElem? (i := 3) rfl)) (by decide) (by decide)) (g := (mkF m 8 #[.val (.int p0), .val (.int (1 : Int32)), .unset, .unset, .unset, .unset, .unset] [(.int (1 : Int32))])) rfl (by rw [hml]; rfl) (argsL := [(.int (1 : Int32))]) (rest := []) (lenOf pd_43 rfl) rfl (by show 2 * 0 + _ ≤ _; exact Nat.le_of_eq rfl) (hb hby at_8) (fun _ _ => ⟨rfl, e0, (by decide : 0 + 0 ≤ _), (by decide : 0 + 0 ≤ _)⟩)
    dsimp only [Pt.U, Pt.locs, Pt.cells, Pt.slots] at X50 l50 y50 z50 st50 hQ50
    subst l50 y50 z50
    obtain ⟨rfl, N50q, e50⟩ := hQ50
    have N50 := Fr.app N0 N50q
    obtain ⟨cq51, kq51, q51a, q51b, q51c⟩ := isOf hZ e50 (E_ROTATED)
    obtain ⟨_, _, ⟨T51, L51, k51, n51⟩, -, X51, ⟨Lc51, hQ51, l51, y51, z51⟩, st51⟩ := X50.virtualBack hx (y := (⟨"com/example/escrowd/escrowd/client/SecretMatch", "isExpired", "()Z"⟩ : MethodName)) (z := (⟨"com/example/escrowd/escrowd/client/SecretMatch", "isExpired", "()Z"⟩ : MethodName)) hown (mvT hZ (hw _ (List.mem_of_getElem? (i := 8) rfl))) (mvT hZ (hw _ (List.mem_of_getElem? (i := 9) rfl))) (notFace_of_selects (args := #[]) (mvT hZ (hw _ (List.mem_of_getElem? (i := 11) rfl)))) (mvT hZ (hw _ (List.mem_of_getElem? (i := 11) rfl))) (mvT hZ (hw _ (List.mem_of_getElem? (i := 10) rfl))) (by decide) (backOf (W := 0) (rm_exp l Z a0 hw [] w_ROTATED h0 n0 Z0 w_CURRENT w_EXPIRED_CURRENT w_EXPIRED_ROTATED w_WRONG w_ROTATED hWd (0 : Int32) (by simp [(F_ROTATED_ordinal.ne F_EXPIRED_CURRENT_ordinal (by decide)), (F_ROTATED_ordinal.ne F_EXPIRED_ROTATED_ordinal (by decide))])) hZ (hw _ (List.mem_of_getElem? (i := 12) rfl)) (hw _ (List.mem_of_getElem? (i := 6) rfl)) (by decide) (by decide)) q51a q51c (g := (mkF m 13 #[.val (.int p0), .val (.int (1 : Int32)), .val (.ref w_ROTATED), .unset, .unset, .unset, .unset] [(.ref w_ROTATED)])) rfl (by rw [hml]; rfl) (Steps.refl _) (argsL := []) (rest := []) (lenOf pd_44 rfl) rfl (by show 2 * 0 + _ ≤ _; exact Nat.le_of_eq rfl) (hb hby at_13) (fun _ _ => ⟨rfl, e50, (by decide : 0 + 0 ≤ _), (by decide : 0 + 0 ≤ _)⟩)
    dsimp only [Pt.U, Pt.locs, Pt.cells, Pt.slots] at X51 l51 y51 z51 st51 hQ51
    subst l51 y51 z51
    obtain ⟨rfl, N51q, e51⟩ := hQ51
    have N51 := Fr.app N50 N51q
    obtain ⟨cq52, kq52, q52a, q52b, q52c⟩ := isOf hZ e51 (E_ROTATED)
    obtain ⟨_, _, ⟨T52, L52, k52, n52⟩, -, X52, ⟨Lc52, hQ52, l52, y52, z52⟩, st52⟩ := X51.virtualBack hx (y := (⟨"com/example/escrowd/escrowd/client/SecretMatch", "authenticates", "()Z"⟩ : MethodName)) (z := (⟨"com/example/escrowd/escrowd/client/SecretMatch", "authenticates", "()Z"⟩ : MethodName)) hown (mvT hZ (hw _ (List.mem_of_getElem? (i := 17) rfl))) (mvT hZ (hw _ (List.mem_of_getElem? (i := 18) rfl))) (notFace_of_selects (args := #[]) (mvT hZ (hw _ (List.mem_of_getElem? (i := 20) rfl)))) (mvT hZ (hw _ (List.mem_of_getElem? (i := 20) rfl))) (mvT hZ (hw _ (List.mem_of_getElem? (i := 19) rfl))) (by decide) (backOf (W := 0) (rm_auth l Z a0 hw [] w_ROTATED h0 n0 Z0 w_CURRENT w_EXPIRED_CURRENT w_EXPIRED_ROTATED w_WRONG w_ROTATED hWd (1 : Int32) (by simp [(F_ROTATED_ordinal.ne F_CURRENT_ordinal (by decide))])) hZ (hw _ (List.mem_of_getElem? (i := 21) rfl)) (hw _ (List.mem_of_getElem? (i := 6) rfl)) (by decide) (by decide)) q52a q52c (g := (mkF m 18 #[.val (.int p0), .val (.int (1 : Int32)), .val (.ref w_ROTATED), .val (.int (0 : Int32)), .unset, .unset, .unset] [(.ref w_ROTATED)])) rfl (by rw [hml]; rfl) (Steps.refl _) (argsL := []) (rest := []) (lenOf pd_44 rfl) rfl (by show 2 * 0 + _ ≤ _; exact Nat.le_of_eq rfl) (hb hby at_18) (fun _ _ => ⟨rfl, e51, (by decide : 0 + 0 ≤ _), (by decide : 0 + 0 ≤ _)⟩)
    dsimp only [Pt.U, Pt.locs, Pt.cells, Pt.slots] at X52 l52 y52 z52 st52 hQ52
    subst l52 y52 z52
    obtain ⟨rfl, N52q, e52⟩ := hQ52
    have N52 := Fr.app N51 N52q
    obtain ⟨T53, X53, e53, st53⟩ := getS2 X52 hx hZ hown (host := "") (Or.inl (hw _ (List.mem_of_getElem? (i := 23) rfl))) Via.refl e52 S_WRONG (g := (mkF m 24 #[.val (.int p0), .val (.int (1 : Int32)), .val (.ref w_ROTATED), .val (.int (0 : Int32)), .val (.int (1 : Int32)), .unset, .unset] [(.ref w_ROTATED)])) rfl (hb hby at_24)
    obtain ⟨fs, hr, hrun, hended, hW, hsame⟩ := X53.leave (v := some (.int (1 : Int32))) (fun h => by rw [Bd.returns] at h; cases h)
    refine ⟨_, _, ck40 _ ?_, hrun, hended, _, _, rfl, ?_, ⟨_, rfl⟩, hW, hsame.mono (by decide) (by decide)⟩
    · show Steps p.tables e below (s₁.setTop (mkF m 6 #[.val (.int p0), .unset, .unset, .unset, .unset, .unset, .unset] [(.int ((p0 &&& (2147483647 : Int32)) % (5 : Int32)))])) _
      rw [hv42]
      show Steps p.tables e below (s₁.setTop (mkF m 6 #[.val (.int p0), .unset, .unset, .unset, .unset, .unset, .unset] [(.int (1 : Int32))])) _
      refine XS.istoreN X0.here hx rfl (hb hby at_6) rfl (l' := #[.val (.int p0), .val (.int (1 : Int32)), .unset, .unset, .unset, .unset, .unset]) rfl ?_
      show Steps p.tables e below (s₁.setTop (mkF m 7 #[.val (.int p0), .val (.int (1 : Int32)), .unset, .unset, .unset, .unset, .unset] [])) _
      refine XS.iloadN X0.here hx rfl (hb hby at_7) rfl ?_
      show Steps p.tables e below (s₁.setTop (mkF m 8 #[.val (.int p0), .val (.int (1 : Int32)), .unset, .unset, .unset, .unset, .unset] [(.int (1 : Int32))])) _
      refine st50 _ ?_
      show Steps p.tables e below (T50.setTop (mkF m 11 #[.val (.int p0), .val (.int (1 : Int32)), .unset, .unset, .unset, .unset, .unset] [(.ref w_ROTATED)])) _
      refine XS.astoreN X50.here hx rfl (hb hby at_11) rfl rfl (l' := #[.val (.int p0), .val (.int (1 : Int32)), .val (.ref w_ROTATED), .unset, .unset, .unset, .unset]) rfl ?_
      show Steps p.tables e below (T50.setTop (mkF m 12 #[.val (.int p0), .val (.int (1 : Int32)), .val (.ref w_ROTATED), .unset, .unset, .unset, .unset] [])) _
      refine XS.aloadN X50.here hx rfl (hb hby at_12) rfl rfl ?_
      show Steps p.tables e below (T50.setTop (mkF m 13 #[.val (.int p0), .val (.int (1 : Int32)), .val (.ref w_ROTATED), .unset, .unset, .unset, .unset] [(.ref w_ROTATED)])) _
      refine st51.trans ?_
      show Steps p.tables e below (T51.setTop (mkF m 16 #[.val (.int p0), .val (.int (1 : Int32)), .val (.ref w_ROTATED), .unset, .unset, .unset, .unset] [(.int (0 : Int32))])) _
      refine XS.istoreN X51.here hx rfl (hb hby at_16) rfl (l' := #[.val (.int p0), .val (.int (1 : Int32)), .val (.ref w_ROTATED), .val (.int (0 : Int32)), .unset, .unset, .unset]) rfl ?_
      show Steps p.tables e below (T51.setTop (mkF m 17 #[.val (.int p0), .val (.int (1 : Int32)), .val (.ref w_ROTATED), .val (.int (0 : Int32)), .unset, .unset, .unset] [])) _
      refine XS.aloadN X51.here hx rfl (hb hby at_17) rfl rfl ?_
      show Steps p.tables e below (T51.setTop (mkF m 18 #[.val (.int p0), .val (.int (1 : Int32)), .val (.ref w_ROTATED), .val (.int (0 : Int32)), .unset, .unset, .unset] [(.ref w_ROTATED)])) _
      refine st52.trans ?_
      show Steps p.tables e below (T52.setTop (mkF m 21 #[.val (.int p0), .val (.int (1 : Int32)), .val (.ref w_ROTATED), .val (.int (0 : Int32)), .unset, .unset, .unset] [(.int (1 : Int32))])) _
      refine XS.istore X52.here hx rfl (hb hby at_21) rfl (l' := #[.val (.int p0), .val (.int (1 : Int32)), .val (.ref w_ROTATED), .val (.int (0 : Int32)), .val (.int (1 : Int32)), .unset, .unset]) rfl ?_
      show Steps p.tables e below (T52.setTop (mkF m 23 #[.val (.int p0), .val (.int (1 : Int32)), .val (.ref w_ROTATED), .val (.int (0 : Int32)), .val (.int (1 : Int32)), .unset, .unset] [])) _
      refine XS.aloadN X52.here hx rfl (hb hby at_23) rfl rfl ?_
      show Steps p.tables e below (T52.setTop (mkF m 24 #[.val (.int p0), .val (.int (1 : Int32)), .val (.ref w_ROTATED), .val (.int (0 : Int32)), .val (.int (1 : Int32)), .unset, .unset] [(.ref w_ROTATED)])) _
      refine st53 _ ?_
      show Steps p.tables e below (T53.setTop (mkF m 27 #[.val (.int p0), .val (.int (1 : Int32)), .val (.ref w_ROTATED), .val (.int (0 : Int32)), .val (.int (1 : Int32)), .unset, .unset] [(.ref w_WRONG), (.ref w_ROTATED)])) _
      refine Jvm.RoadKit.acmp (g := (mkF m 27 #[.val (.int p0), .val (.int (1 : Int32)), .val (.ref w_ROTATED), .val (.int (0 : Int32)), .val (.int (1 : Int32)), .unset, .unset] [(.ref w_WRONG), (.ref w_ROTATED)])) X53 hx rfl rfl rfl (pc0 := 27) (pc' := 34) (same := false) rfl (hb hby at_27) rfl (decide_eq_false fun q => (F_ROTATED_ordinal.ne F_WRONG_ordinal (by decide)) (Value.ref.inj q)) (by decide) (by decide) ?_
      show Steps p.tables e below (T53.setTop (mkF m 34 #[.val (.int p0), .val (.int (1 : Int32)), .val (.ref w_ROTATED), .val (.int (0 : Int32)), .val (.int (1 : Int32)), .unset, .unset] [])) _
      refine XS.iconst X53.here hx rfl (hb hby at_34) ?_
      show Steps p.tables e below (T53.setTop (mkF m 35 #[.val (.int p0), .val (.int (1 : Int32)), .val (.ref w_ROTATED), .val (.int (0 : Int32)), .val (.int (1 : Int32)), .unset, .unset] [(.int (0 : Int32))])) _
      refine XS.istore X53.here hx rfl (hb hby at_35) rfl (l' := #[.val (.int p0), .val (.int (1 : Int32)), .val (.ref w_ROTATED), .val (.int (0 : Int32)), .val (.int (1 : Int32)), .val (.int (0 : Int32)), .unset]) rfl ?_
      show Steps p.tables e below (T53.setTop (mkF m 37 #[.val (.int p0), .val (.int (1 : Int32)), .val (.ref w_ROTATED), .val (.int (0 : Int32)), .val (.int (1 : Int32)), .val (.int (0 : Int32)), .unset] [])) _
      refine XS.iloadN X53.here hx rfl (hb hby at_37) rfl ?_
      show Steps p.tables e below (T53.setTop (mkF m 38 #[.val (.int p0), .val (.int (1 : Int32)), .val (.ref w_ROTATED), .val (.int (0 : Int32)), .val (.int (1 : Int32)), .val (.int (0 : Int32)), .unset] [(.int (0 : Int32))])) _
      refine XS.ifYes X53.here hx rfl (pc0 := 38) (pc' := 45) rfl (hb hby at_38) rfl ((if0 _ _).trans (teq (by decide : (0 : Int32) = (0 : Int32))).1) (by decide) (by decide) ?_
      show Steps p.tables e below (T53.setTop (mkF m 45 #[.val (.int p0), .val (.int (1 : Int32)), .val (.ref w_ROTATED), .val (.int (0 : Int32)), .val (.int (1 : Int32)), .val (.int (0 : Int32)), .unset] [])) _
      refine XS.iconst X53.here hx rfl (hb hby at_45) ?_
      show Steps p.tables e below (T53.setTop (mkF m 46 #[.val (.int p0), .val (.int (1 : Int32)), .val (.ref w_ROTATED), .val (.int (0 : Int32)), .val (.int (1 : Int32)), .val (.int (0 : Int32)), .unset] [(.int (0 : Int32))])) _
      refine XS.iload X53.here hx rfl (hb hby at_46) rfl ?_
      show Steps p.tables e below (T53.setTop (mkF m 48 #[.val (.int p0), .val (.int (1 : Int32)), .val (.ref w_ROTATED), .val (.int (0 : Int32)), .val (.int (1 : Int32)), .val (.int (0 : Int32)), .unset] [(.int (1 : Int32)), (.int (0 : Int32))])) _
      refine XS.ifNo X53.here hx rfl (hb hby at_48) rfl ((if0 _ _).trans (feq (by decide : ¬ ((1 : Int32) = (0 : Int32)))).1) ?_
      show Steps p.tables e below (T53.setTop (mkF m 51 #[.val (.int p0), .val (.int (1 : Int32)), .val (.ref w_ROTATED), .val (.int (0 : Int32)), .val (.int (1 : Int32)), .val (.int (0 : Int32)), .unset] [(.int (0 : Int32))])) _
      refine XS.iconst X53.here hx rfl (hb hby at_51) ?_
      show Steps p.tables e below (T53.setTop (mkF m 52 #[.val (.int p0), .val (.int (1 : Int32)), .val (.ref w_ROTATED), .val (.int (0 : Int32)), .val (.int (1 : Int32)), .val (.int (0 : Int32)), .unset] [(.int (1 : Int32)), (.int (0 : Int32))])) _
      refine XS.goto X53.here hx rfl (pc0 := 52) (pc' := 56) rfl (hb hby at_52) (by decide) (by decide) ?_
      show Steps p.tables e below (T53.setTop (mkF m 56 #[.val (.int p0), .val (.int (1 : Int32)), .val (.ref w_ROTATED), .val (.int (0 : Int32)), .val (.int (1 : Int32)), .val (.int (0 : Int32)), .unset] [(.int (1 : Int32)), (.int (0 : Int32))])) _
      refine XS.iadd X53.here hx rfl (hb hby at_56) rfl ?_
      show Steps p.tables e below (T53.setTop (mkF m 57 #[.val (.int p0), .val (.int (1 : Int32)), .val (.ref w_ROTATED), .val (.int (0 : Int32)), .val (.int (1 : Int32)), .val (.int (0 : Int32)), .unset] [(.int (1 : Int32))])) _
      refine XS.iload X53.here hx rfl (hb hby at_57) rfl ?_
      show Steps p.tables e below (T53.setTop (mkF m 59 #[.val (.int p0), .val (.int (1 : Int32)), .val (.ref w_ROTATED), .val (.int (0 : Int32)), .val (.int (1 : Int32)), .val (.int (0 : Int32)), .unset] [(.int (0 : Int32)), (.int (1 : Int32))])) _
      refine XS.ifYes X53.here hx rfl (pc0 := 59) (pc' := 66) rfl (hb hby at_59) rfl ((if0 _ _).trans (teq (by decide : (0 : Int32) = (0 : Int32))).1) (by decide) (by decide) ?_
      show Steps p.tables e below (T53.setTop (mkF m 66 #[.val (.int p0), .val (.int (1 : Int32)), .val (.ref w_ROTATED), .val (.int (0 : Int32)), .val (.int (1 : Int32)), .val (.int (0 : Int32)), .unset] [(.int (1 : Int32))])) _
      refine XS.iconst X53.here hx rfl (hb hby at_66) ?_
      show Steps p.tables e below (T53.setTop (mkF m 67 #[.val (.int p0), .val (.int (1 : Int32)), .val (.ref w_ROTATED), .val (.int (0 : Int32)), .val (.int (1 : Int32)), .val (.int (0 : Int32)), .unset] [(.int (0 : Int32)), (.int (1 : Int32))])) _
      refine XS.iadd X53.here hx rfl (hb hby at_67) rfl ?_
      show Steps p.tables e below (T53.setTop (mkF m 68 #[.val (.int p0), .val (.int (1 : Int32)), .val (.ref w_ROTATED), .val (.int (0 : Int32)), .val (.int (1 : Int32)), .val (.int (0 : Int32)), .unset] [(.int (1 : Int32))])) _
      refine XS.istore X53.here hx rfl (hb hby at_68) rfl (l' := #[.val (.int p0), .val (.int (1 : Int32)), .val (.ref w_ROTATED), .val (.int (0 : Int32)), .val (.int (1 : Int32)), .val (.int (0 : Int32)), .val (.int (1 : Int32))]) rfl ?_
      show Steps p.tables e below (T53.setTop (mkF m 70 #[.val (.int p0), .val (.int (1 : Int32)), .val (.ref w_ROTATED), .val (.int (0 : Int32)), .val (.int (1 : Int32)), .val (.int (0 : Int32)), .val (.int (1 : Int32))] [])) _
      refine XS.iload X53.here hx rfl (hb hby at_70) rfl ?_
      show Steps p.tables e below (T53.setTop (mkF m 72 #[.val (.int p0), .val (.int (1 : Int32)), .val (.ref w_ROTATED), .val (.int (0 : Int32)), .val (.int (1 : Int32)), .val (.int (0 : Int32)), .val (.int (1 : Int32))] [(.int (1 : Int32))])) _
      refine XS.iconst X53.here hx rfl (hb hby at_72) ?_
      show Steps p.tables e below (T53.setTop (mkF m 73 #[.val (.int p0), .val (.int (1 : Int32)), .val (.ref w_ROTATED), .val (.int (0 : Int32)), .val (.int (1 : Int32)), .val (.int (0 : Int32)), .val (.int (1 : Int32))] [(.int (1 : Int32)), (.int (1 : Int32))])) _
      refine XS.icmpNo X53.here hx rfl (hb hby at_73) rfl (teq (by decide : (1 : Int32) = (1 : Int32))).2 ?_
      show Steps p.tables e below (T53.setTop (mkF m 76 #[.val (.int p0), .val (.int (1 : Int32)), .val (.ref w_ROTATED), .val (.int (0 : Int32)), .val (.int (1 : Int32)), .val (.int (0 : Int32)), .val (.int (1 : Int32))] [])) _
      refine XS.iconst X53.here hx rfl (hb hby at_76) ?_
      show Steps p.tables e below (T53.setTop (mkF m 77 #[.val (.int p0), .val (.int (1 : Int32)), .val (.ref w_ROTATED), .val (.int (0 : Int32)), .val (.int (1 : Int32)), .val (.int (0 : Int32)), .val (.int (1 : Int32))] [(.int (1 : Int32))])) _
      refine XS.goto X53.here hx rfl (pc0 := 77) (pc' := 81) rfl (hb hby at_77) (by decide) (by decide) ?_
      show Steps p.tables e below (T53.setTop (mkF m 81 #[.val (.int p0), .val (.int (1 : Int32)), .val (.ref w_ROTATED), .val (.int (0 : Int32)), .val (.int (1 : Int32)), .val (.int (0 : Int32)), .val (.int (1 : Int32))] [(.int (1 : Int32))])) _
      exact retN X53 hx (t := .boolean) Bd.returns (by simp) (hb hby at_81) hr
    · show own_Pure (some (.int 1)) h0 n0 _ T53.heap _
      rw [e53]
      exact ⟨rfl, N52, rfl⟩
  · -- (2 : Int32)
    obtain ⟨_, _, ⟨T54, L54, k54, n54⟩, -, X54, ⟨Lc54, hQ54, l54, y54, z54⟩, st54⟩ := Jvm.LawKit.callS X0 hx (y := (⟨"com/example/escrowd/escrowd/client/SecretMatchIsExpiredPinLaw", "pick", "(I)Lcom/example/escrowd/escrowd/client/SecretMatch;"⟩ : MethodName)) hown (mvT hZ (hw _ (List.mem_of_getElem? (i := 1) rfl))) (mvT hZ (hw _ (List.mem_of_getElem? (i := 2) rfl))) (mvT hZ (hw _ (List.mem_of_getElem? (i := 3) rfl))) (mvT hZ (hw _ (List.mem_of_getElem? (i := 4) rfl))) (by decide) (backOf (W := 0) (rm_pick l Z a0 hw [] (2 : Int32) h0 n0 Z0 w_CURRENT w_EXPIRED_CURRENT w_EXPIRED_ROTATED w_WRONG w_ROTATED hWd w_EXPIRED_CURRENT (by first | rfl | decide | simp)) hZ (hw _ (List.mem_of_getElem? (i := 4) rfl)) (hw _ (List.mem_of_getElem? (i := 3) rfl)) (by decide) (by decide)) (g := (mkF m 8 #[.val (.int p0), .val (.int (2 : Int32)), .unset, .unset, .unset, .unset, .unset] [(.int (2 : Int32))])) rfl (by rw [hml]; rfl) (argsL := [(.int (2 : Int32))]) (rest := []) (lenOf pd_43 rfl) rfl (by show 2 * 0 + _ ≤ _; exact Nat.le_of_eq rfl) (hb hby at_8) (fun _ _ => ⟨rfl, e0, (by decide : 0 + 0 ≤ _), (by decide : 0 + 0 ≤ _)⟩)
    dsimp only [Pt.U, Pt.locs, Pt.cells, Pt.slots] at X54 l54 y54 z54 st54 hQ54
    subst l54 y54 z54
    obtain ⟨rfl, N54q, e54⟩ := hQ54
    have N54 := Fr.app N0 N54q
    obtain ⟨cq55, kq55, q55a, q55b, q55c⟩ := isOf hZ e54 (E_EXPIRED_CURRENT)
    obtain ⟨_, _, ⟨T55, L55, k55, n55⟩, -, X55, ⟨Lc55, hQ55, l55, y55, z55⟩, st55⟩ := X54.virtualBack hx (y := (⟨"com/example/escrowd/escrowd/client/SecretMatch", "isExpired", "()Z"⟩ : MethodName)) (z := (⟨"com/example/escrowd/escrowd/client/SecretMatch", "isExpired", "()Z"⟩ : MethodName)) hown (mvT hZ (hw _ (List.mem_of_getElem? (i := 8) rfl))) (mvT hZ (hw _ (List.mem_of_getElem? (i := 9) rfl))) (notFace_of_selects (args := #[]) (mvT hZ (hw _ (List.mem_of_getElem? (i := 11) rfl)))) (mvT hZ (hw _ (List.mem_of_getElem? (i := 11) rfl))) (mvT hZ (hw _ (List.mem_of_getElem? (i := 10) rfl))) (by decide) (backOf (W := 0) (rm_exp l Z a0 hw [] w_EXPIRED_CURRENT h0 n0 Z0 w_CURRENT w_EXPIRED_CURRENT w_EXPIRED_ROTATED w_WRONG w_ROTATED hWd (1 : Int32) (by simp [(F_EXPIRED_CURRENT_ordinal.ne F_EXPIRED_ROTATED_ordinal (by decide))])) hZ (hw _ (List.mem_of_getElem? (i := 12) rfl)) (hw _ (List.mem_of_getElem? (i := 6) rfl)) (by decide) (by decide)) q55a q55c (g := (mkF m 13 #[.val (.int p0), .val (.int (2 : Int32)), .val (.ref w_EXPIRED_CURRENT), .unset, .unset, .unset, .unset] [(.ref w_EXPIRED_CURRENT)])) rfl (by rw [hml]; rfl) (Steps.refl _) (argsL := []) (rest := []) (lenOf pd_44 rfl) rfl (by show 2 * 0 + _ ≤ _; exact Nat.le_of_eq rfl) (hb hby at_13) (fun _ _ => ⟨rfl, e54, (by decide : 0 + 0 ≤ _), (by decide : 0 + 0 ≤ _)⟩)
    dsimp only [Pt.U, Pt.locs, Pt.cells, Pt.slots] at X55 l55 y55 z55 st55 hQ55
    subst l55 y55 z55
    obtain ⟨rfl, N55q, e55⟩ := hQ55
    have N55 := Fr.app N54 N55q
    obtain ⟨cq56, kq56, q56a, q56b, q56c⟩ := isOf hZ e55 (E_EXPIRED_CURRENT)
    obtain ⟨_, _, ⟨T56, L56, k56, n56⟩, -, X56, ⟨Lc56, hQ56, l56, y56, z56⟩, st56⟩ := X55.virtualBack hx (y := (⟨"com/example/escrowd/escrowd/client/SecretMatch", "authenticates", "()Z"⟩ : MethodName)) (z := (⟨"com/example/escrowd/escrowd/client/SecretMatch", "authenticates", "()Z"⟩ : MethodName)) hown (mvT hZ (hw _ (List.mem_of_getElem? (i := 17) rfl))) (mvT hZ (hw _ (List.mem_of_getElem? (i := 18) rfl))) (notFace_of_selects (args := #[]) (mvT hZ (hw _ (List.mem_of_getElem? (i := 20) rfl)))) (mvT hZ (hw _ (List.mem_of_getElem? (i := 20) rfl))) (mvT hZ (hw _ (List.mem_of_getElem? (i := 19) rfl))) (by decide) (backOf (W := 0) (rm_auth l Z a0 hw [] w_EXPIRED_CURRENT h0 n0 Z0 w_CURRENT w_EXPIRED_CURRENT w_EXPIRED_ROTATED w_WRONG w_ROTATED hWd (0 : Int32) (by simp [(F_EXPIRED_CURRENT_ordinal.ne F_CURRENT_ordinal (by decide)), (F_EXPIRED_CURRENT_ordinal.ne F_ROTATED_ordinal (by decide))])) hZ (hw _ (List.mem_of_getElem? (i := 21) rfl)) (hw _ (List.mem_of_getElem? (i := 6) rfl)) (by decide) (by decide)) q56a q56c (g := (mkF m 18 #[.val (.int p0), .val (.int (2 : Int32)), .val (.ref w_EXPIRED_CURRENT), .val (.int (1 : Int32)), .unset, .unset, .unset] [(.ref w_EXPIRED_CURRENT)])) rfl (by rw [hml]; rfl) (Steps.refl _) (argsL := []) (rest := []) (lenOf pd_44 rfl) rfl (by show 2 * 0 + _ ≤ _; exact Nat.le_of_eq rfl) (hb hby at_18) (fun _ _ => ⟨rfl, e55, (by decide : 0 + 0 ≤ _), (by decide : 0 + 0 ≤ _)⟩)
    dsimp only [Pt.U, Pt.locs, Pt.cells, Pt.slots] at X56 l56 y56 z56 st56 hQ56
    subst l56 y56 z56
    obtain ⟨rfl, N56q, e56⟩ := hQ56
    have N56 := Fr.app N55 N56q
    obtain ⟨T57, X57, e57, st57⟩ := getS2 X56 hx hZ hown (host := "") (Or.inl (hw _ (List.mem_of_getElem? (i := 23) rfl))) Via.refl e56 S_WRONG (g := (mkF m 24 #[.val (.int p0), .val (.int (2 : Int32)), .val (.ref w_EXPIRED_CURRENT), .val (.int (1 : Int32)), .val (.int (0 : Int32)), .unset, .unset] [(.ref w_EXPIRED_CURRENT)])) rfl (hb hby at_24)
    obtain ⟨fs, hr, hrun, hended, hW, hsame⟩ := X57.leave (v := some (.int (1 : Int32))) (fun h => by rw [Bd.returns] at h; cases h)
    refine ⟨_, _, ck40 _ ?_, hrun, hended, _, _, rfl, ?_, ⟨_, rfl⟩, hW, hsame.mono (by decide) (by decide)⟩
    · show Steps p.tables e below (s₁.setTop (mkF m 6 #[.val (.int p0), .unset, .unset, .unset, .unset, .unset, .unset] [(.int ((p0 &&& (2147483647 : Int32)) % (5 : Int32)))])) _
      rw [hv43]
      show Steps p.tables e below (s₁.setTop (mkF m 6 #[.val (.int p0), .unset, .unset, .unset, .unset, .unset, .unset] [(.int (2 : Int32))])) _
      refine XS.istoreN X0.here hx rfl (hb hby at_6) rfl (l' := #[.val (.int p0), .val (.int (2 : Int32)), .unset, .unset, .unset, .unset, .unset]) rfl ?_
      show Steps p.tables e below (s₁.setTop (mkF m 7 #[.val (.int p0), .val (.int (2 : Int32)), .unset, .unset, .unset, .unset, .unset] [])) _
      refine XS.iloadN X0.here hx rfl (hb hby at_7) rfl ?_
      show Steps p.tables e below (s₁.setTop (mkF m 8 #[.val (.int p0), .val (.int (2 : Int32)), .unset, .unset, .unset, .unset, .unset] [(.int (2 : Int32))])) _
      refine st54 _ ?_
      show Steps p.tables e below (T54.setTop (mkF m 11 #[.val (.int p0), .val (.int (2 : Int32)), .unset, .unset, .unset, .unset, .unset] [(.ref w_EXPIRED_CURRENT)])) _
      refine XS.astoreN X54.here hx rfl (hb hby at_11) rfl rfl (l' := #[.val (.int p0), .val (.int (2 : Int32)), .val (.ref w_EXPIRED_CURRENT), .unset, .unset, .unset, .unset]) rfl ?_
      show Steps p.tables e below (T54.setTop (mkF m 12 #[.val (.int p0), .val (.int (2 : Int32)), .val (.ref w_EXPIRED_CURRENT), .unset, .unset, .unset, .unset] [])) _
      refine XS.aloadN X54.here hx rfl (hb hby at_12) rfl rfl ?_
      show Steps p.tables e below (T54.setTop (mkF m 13 #[.val (.int p0), .val (.int (2 : Int32)), .val (.ref w_EXPIRED_CURRENT), .unset, .unset, .unset, .unset] [(.ref w_EXPIRED_CURRENT)])) _
      refine st55.trans ?_
      show Steps p.tables e below (T55.setTop (mkF m 16 #[.val (.int p0), .val (.int (2 : Int32)), .val (.ref w_EXPIRED_CURRENT), .unset, .unset, .unset, .unset] [(.int (1 : Int32))])) _
      refine XS.istoreN X55.here hx rfl (hb hby at_16) rfl (l' := #[.val (.int p0), .val (.int (2 : Int32)), .val (.ref w_EXPIRED_CURRENT), .val (.int (1 : Int32)), .unset, .unset, .unset]) rfl ?_
      show Steps p.tables e below (T55.setTop (mkF m 17 #[.val (.int p0), .val (.int (2 : Int32)), .val (.ref w_EXPIRED_CURRENT), .val (.int (1 : Int32)), .unset, .unset, .unset] [])) _
      refine XS.aloadN X55.here hx rfl (hb hby at_17) rfl rfl ?_
      show Steps p.tables e below (T55.setTop (mkF m 18 #[.val (.int p0), .val (.int (2 : Int32)), .val (.ref w_EXPIRED_CURRENT), .val (.int (1 : Int32)), .unset, .unset, .unset] [(.ref w_EXPIRED_CURRENT)])) _
      refine st56.trans ?_
      show Steps p.tables e below (T56.setTop (mkF m 21 #[.val (.int p0), .val (.int (2 : Int32)), .val (.ref w_EXPIRED_CURRENT), .val (.int (1 : Int32)), .unset, .unset, .unset] [(.int (0 : Int32))])) _
      refine XS.istore X56.here hx rfl (hb hby at_21) rfl (l' := #[.val (.int p0), .val (.int (2 : Int32)), .val (.ref w_EXPIRED_CURRENT), .val (.int (1 : Int32)), .val (.int (0 : Int32)), .unset, .unset]) rfl ?_
      show Steps p.tables e below (T56.setTop (mkF m 23 #[.val (.int p0), .val (.int (2 : Int32)), .val (.ref w_EXPIRED_CURRENT), .val (.int (1 : Int32)), .val (.int (0 : Int32)), .unset, .unset] [])) _
      refine XS.aloadN X56.here hx rfl (hb hby at_23) rfl rfl ?_
      show Steps p.tables e below (T56.setTop (mkF m 24 #[.val (.int p0), .val (.int (2 : Int32)), .val (.ref w_EXPIRED_CURRENT), .val (.int (1 : Int32)), .val (.int (0 : Int32)), .unset, .unset] [(.ref w_EXPIRED_CURRENT)])) _
      refine st57 _ ?_
      show Steps p.tables e below (T57.setTop (mkF m 27 #[.val (.int p0), .val (.int (2 : Int32)), .val (.ref w_EXPIRED_CURRENT), .val (.int (1 : Int32)), .val (.int (0 : Int32)), .unset, .unset] [(.ref w_WRONG), (.ref w_EXPIRED_CURRENT)])) _
      refine Jvm.RoadKit.acmp (g := (mkF m 27 #[.val (.int p0), .val (.int (2 : Int32)), .val (.ref w_EXPIRED_CURRENT), .val (.int (1 : Int32)), .val (.int (0 : Int32)), .unset, .unset] [(.ref w_WRONG), (.ref w_EXPIRED_CURRENT)])) X57 hx rfl rfl rfl (pc0 := 27) (pc' := 34) (same := false) rfl (hb hby at_27) rfl (decide_eq_false fun q => (F_EXPIRED_CURRENT_ordinal.ne F_WRONG_ordinal (by decide)) (Value.ref.inj q)) (by decide) (by decide) ?_
      show Steps p.tables e below (T57.setTop (mkF m 34 #[.val (.int p0), .val (.int (2 : Int32)), .val (.ref w_EXPIRED_CURRENT), .val (.int (1 : Int32)), .val (.int (0 : Int32)), .unset, .unset] [])) _
      refine XS.iconst X57.here hx rfl (hb hby at_34) ?_
      show Steps p.tables e below (T57.setTop (mkF m 35 #[.val (.int p0), .val (.int (2 : Int32)), .val (.ref w_EXPIRED_CURRENT), .val (.int (1 : Int32)), .val (.int (0 : Int32)), .unset, .unset] [(.int (0 : Int32))])) _
      refine XS.istore X57.here hx rfl (hb hby at_35) rfl (l' := #[.val (.int p0), .val (.int (2 : Int32)), .val (.ref w_EXPIRED_CURRENT), .val (.int (1 : Int32)), .val (.int (0 : Int32)), .val (.int (0 : Int32)), .unset]) rfl ?_
      show Steps p.tables e below (T57.setTop (mkF m 37 #[.val (.int p0), .val (.int (2 : Int32)), .val (.ref w_EXPIRED_CURRENT), .val (.int (1 : Int32)), .val (.int (0 : Int32)), .val (.int (0 : Int32)), .unset] [])) _
      refine XS.iloadN X57.here hx rfl (hb hby at_37) rfl ?_
      show Steps p.tables e below (T57.setTop (mkF m 38 #[.val (.int p0), .val (.int (2 : Int32)), .val (.ref w_EXPIRED_CURRENT), .val (.int (1 : Int32)), .val (.int (0 : Int32)), .val (.int (0 : Int32)), .unset] [(.int (1 : Int32))])) _
      refine XS.ifNo X57.here hx rfl (hb hby at_38) rfl ((if0 _ _).trans (feq (by decide : ¬ ((1 : Int32) = (0 : Int32)))).1) ?_
      show Steps p.tables e below (T57.setTop (mkF m 41 #[.val (.int p0), .val (.int (2 : Int32)), .val (.ref w_EXPIRED_CURRENT), .val (.int (1 : Int32)), .val (.int (0 : Int32)), .val (.int (0 : Int32)), .unset] [])) _
      refine XS.iconst X57.here hx rfl (hb hby at_41) ?_
      show Steps p.tables e below (T57.setTop (mkF m 42 #[.val (.int p0), .val (.int (2 : Int32)), .val (.ref w_EXPIRED_CURRENT), .val (.int (1 : Int32)), .val (.int (0 : Int32)), .val (.int (0 : Int32)), .unset] [(.int (1 : Int32))])) _
      refine XS.goto X57.here hx rfl (pc0 := 42) (pc' := 46) rfl (hb hby at_42) (by decide) (by decide) ?_
      show Steps p.tables e below (T57.setTop (mkF m 46 #[.val (.int p0), .val (.int (2 : Int32)), .val (.ref w_EXPIRED_CURRENT), .val (.int (1 : Int32)), .val (.int (0 : Int32)), .val (.int (0 : Int32)), .unset] [(.int (1 : Int32))])) _
      refine XS.iload X57.here hx rfl (hb hby at_46) rfl ?_
      show Steps p.tables e below (T57.setTop (mkF m 48 #[.val (.int p0), .val (.int (2 : Int32)), .val (.ref w_EXPIRED_CURRENT), .val (.int (1 : Int32)), .val (.int (0 : Int32)), .val (.int (0 : Int32)), .unset] [(.int (0 : Int32)), (.int (1 : Int32))])) _
      refine XS.ifYes X57.here hx rfl (pc0 := 48) (pc' := 55) rfl (hb hby at_48) rfl ((if0 _ _).trans (teq (by decide : (0 : Int32) = (0 : Int32))).1) (by decide) (by decide) ?_
      show Steps p.tables e below (T57.setTop (mkF m 55 #[.val (.int p0), .val (.int (2 : Int32)), .val (.ref w_EXPIRED_CURRENT), .val (.int (1 : Int32)), .val (.int (0 : Int32)), .val (.int (0 : Int32)), .unset] [(.int (1 : Int32))])) _
      refine XS.iconst X57.here hx rfl (hb hby at_55) ?_
      show Steps p.tables e below (T57.setTop (mkF m 56 #[.val (.int p0), .val (.int (2 : Int32)), .val (.ref w_EXPIRED_CURRENT), .val (.int (1 : Int32)), .val (.int (0 : Int32)), .val (.int (0 : Int32)), .unset] [(.int (0 : Int32)), (.int (1 : Int32))])) _
      refine XS.iadd X57.here hx rfl (hb hby at_56) rfl ?_
      show Steps p.tables e below (T57.setTop (mkF m 57 #[.val (.int p0), .val (.int (2 : Int32)), .val (.ref w_EXPIRED_CURRENT), .val (.int (1 : Int32)), .val (.int (0 : Int32)), .val (.int (0 : Int32)), .unset] [(.int (1 : Int32))])) _
      refine XS.iload X57.here hx rfl (hb hby at_57) rfl ?_
      show Steps p.tables e below (T57.setTop (mkF m 59 #[.val (.int p0), .val (.int (2 : Int32)), .val (.ref w_EXPIRED_CURRENT), .val (.int (1 : Int32)), .val (.int (0 : Int32)), .val (.int (0 : Int32)), .unset] [(.int (0 : Int32)), (.int (1 : Int32))])) _
      refine XS.ifYes X57.here hx rfl (pc0 := 59) (pc' := 66) rfl (hb hby at_59) rfl ((if0 _ _).trans (teq (by decide : (0 : Int32) = (0 : Int32))).1) (by decide) (by decide) ?_
      show Steps p.tables e below (T57.setTop (mkF m 66 #[.val (.int p0), .val (.int (2 : Int32)), .val (.ref w_EXPIRED_CURRENT), .val (.int (1 : Int32)), .val (.int (0 : Int32)), .val (.int (0 : Int32)), .unset] [(.int (1 : Int32))])) _
      refine XS.iconst X57.here hx rfl (hb hby at_66) ?_
      show Steps p.tables e below (T57.setTop (mkF m 67 #[.val (.int p0), .val (.int (2 : Int32)), .val (.ref w_EXPIRED_CURRENT), .val (.int (1 : Int32)), .val (.int (0 : Int32)), .val (.int (0 : Int32)), .unset] [(.int (0 : Int32)), (.int (1 : Int32))])) _
      refine XS.iadd X57.here hx rfl (hb hby at_67) rfl ?_
      show Steps p.tables e below (T57.setTop (mkF m 68 #[.val (.int p0), .val (.int (2 : Int32)), .val (.ref w_EXPIRED_CURRENT), .val (.int (1 : Int32)), .val (.int (0 : Int32)), .val (.int (0 : Int32)), .unset] [(.int (1 : Int32))])) _
      refine XS.istore X57.here hx rfl (hb hby at_68) rfl (l' := #[.val (.int p0), .val (.int (2 : Int32)), .val (.ref w_EXPIRED_CURRENT), .val (.int (1 : Int32)), .val (.int (0 : Int32)), .val (.int (0 : Int32)), .val (.int (1 : Int32))]) rfl ?_
      show Steps p.tables e below (T57.setTop (mkF m 70 #[.val (.int p0), .val (.int (2 : Int32)), .val (.ref w_EXPIRED_CURRENT), .val (.int (1 : Int32)), .val (.int (0 : Int32)), .val (.int (0 : Int32)), .val (.int (1 : Int32))] [])) _
      refine XS.iload X57.here hx rfl (hb hby at_70) rfl ?_
      show Steps p.tables e below (T57.setTop (mkF m 72 #[.val (.int p0), .val (.int (2 : Int32)), .val (.ref w_EXPIRED_CURRENT), .val (.int (1 : Int32)), .val (.int (0 : Int32)), .val (.int (0 : Int32)), .val (.int (1 : Int32))] [(.int (1 : Int32))])) _
      refine XS.iconst X57.here hx rfl (hb hby at_72) ?_
      show Steps p.tables e below (T57.setTop (mkF m 73 #[.val (.int p0), .val (.int (2 : Int32)), .val (.ref w_EXPIRED_CURRENT), .val (.int (1 : Int32)), .val (.int (0 : Int32)), .val (.int (0 : Int32)), .val (.int (1 : Int32))] [(.int (1 : Int32)), (.int (1 : Int32))])) _
      refine XS.icmpNo X57.here hx rfl (hb hby at_73) rfl (teq (by decide : (1 : Int32) = (1 : Int32))).2 ?_
      show Steps p.tables e below (T57.setTop (mkF m 76 #[.val (.int p0), .val (.int (2 : Int32)), .val (.ref w_EXPIRED_CURRENT), .val (.int (1 : Int32)), .val (.int (0 : Int32)), .val (.int (0 : Int32)), .val (.int (1 : Int32))] [])) _
      refine XS.iconst X57.here hx rfl (hb hby at_76) ?_
      show Steps p.tables e below (T57.setTop (mkF m 77 #[.val (.int p0), .val (.int (2 : Int32)), .val (.ref w_EXPIRED_CURRENT), .val (.int (1 : Int32)), .val (.int (0 : Int32)), .val (.int (0 : Int32)), .val (.int (1 : Int32))] [(.int (1 : Int32))])) _
      refine XS.goto X57.here hx rfl (pc0 := 77) (pc' := 81) rfl (hb hby at_77) (by decide) (by decide) ?_
      show Steps p.tables e below (T57.setTop (mkF m 81 #[.val (.int p0), .val (.int (2 : Int32)), .val (.ref w_EXPIRED_CURRENT), .val (.int (1 : Int32)), .val (.int (0 : Int32)), .val (.int (0 : Int32)), .val (.int (1 : Int32))] [(.int (1 : Int32))])) _
      exact retN X57 hx (t := .boolean) Bd.returns (by simp) (hb hby at_81) hr
    · show own_Pure (some (.int 1)) h0 n0 _ T57.heap _
      rw [e57]
      exact ⟨rfl, N56, rfl⟩
  · -- (3 : Int32)
    obtain ⟨_, _, ⟨T58, L58, k58, n58⟩, -, X58, ⟨Lc58, hQ58, l58, y58, z58⟩, st58⟩ := Jvm.LawKit.callS X0 hx (y := (⟨"com/example/escrowd/escrowd/client/SecretMatchIsExpiredPinLaw", "pick", "(I)Lcom/example/escrowd/escrowd/client/SecretMatch;"⟩ : MethodName)) hown (mvT hZ (hw _ (List.mem_of_getElem? (i := 1) rfl))) (mvT hZ (hw _ (List.mem_of_getElem? (i := 2) rfl))) (mvT hZ (hw _ (List.mem_of_getElem? (i := 3) rfl))) (mvT hZ (hw _ (List.mem_of_getElem? (i := 4) rfl))) (by decide) (backOf (W := 0) (rm_pick l Z a0 hw [] (3 : Int32) h0 n0 Z0 w_CURRENT w_EXPIRED_CURRENT w_EXPIRED_ROTATED w_WRONG w_ROTATED hWd w_EXPIRED_ROTATED (by first | rfl | decide | simp)) hZ (hw _ (List.mem_of_getElem? (i := 4) rfl)) (hw _ (List.mem_of_getElem? (i := 3) rfl)) (by decide) (by decide)) (g := (mkF m 8 #[.val (.int p0), .val (.int (3 : Int32)), .unset, .unset, .unset, .unset, .unset] [(.int (3 : Int32))])) rfl (by rw [hml]; rfl) (argsL := [(.int (3 : Int32))]) (rest := []) (lenOf pd_43 rfl) rfl (by show 2 * 0 + _ ≤ _; exact Nat.le_of_eq rfl) (hb hby at_8) (fun _ _ => ⟨rfl, e0, (by decide : 0 + 0 ≤ _), (by decide : 0 + 0 ≤ _)⟩)
    dsimp only [Pt.U, Pt.locs, Pt.cells, Pt.slots] at X58 l58 y58 z58 st58 hQ58
    subst l58 y58 z58
    obtain ⟨rfl, N58q, e58⟩ := hQ58
    have N58 := Fr.app N0 N58q
    obtain ⟨cq59, kq59, q59a, q59b, q59c⟩ := isOf hZ e58 (E_EXPIRED_ROTATED)
    obtain ⟨_, _, ⟨T59, L59, k59, n59⟩, -, X59, ⟨Lc59, hQ59, l59, y59, z59⟩, st59⟩ := X58.virtualBack hx (y := (⟨"com/example/escrowd/escrowd/client/SecretMatch", "isExpired", "()Z"⟩ : MethodName)) (z := (⟨"com/example/escrowd/escrowd/client/SecretMatch", "isExpired", "()Z"⟩ : MethodName)) hown (mvT hZ (hw _ (List.mem_of_getElem? (i := 8) rfl))) (mvT hZ (hw _ (List.mem_of_getElem? (i := 9) rfl))) (notFace_of_selects (args := #[]) (mvT hZ (hw _ (List.mem_of_getElem? (i := 11) rfl)))) (mvT hZ (hw _ (List.mem_of_getElem? (i := 11) rfl))) (mvT hZ (hw _ (List.mem_of_getElem? (i := 10) rfl))) (by decide) (backOf (W := 0) (rm_exp l Z a0 hw [] w_EXPIRED_ROTATED h0 n0 Z0 w_CURRENT w_EXPIRED_CURRENT w_EXPIRED_ROTATED w_WRONG w_ROTATED hWd (1 : Int32) (by simp [(F_EXPIRED_ROTATED_ordinal.ne F_EXPIRED_CURRENT_ordinal (by decide))])) hZ (hw _ (List.mem_of_getElem? (i := 12) rfl)) (hw _ (List.mem_of_getElem? (i := 6) rfl)) (by decide) (by decide)) q59a q59c (g := (mkF m 13 #[.val (.int p0), .val (.int (3 : Int32)), .val (.ref w_EXPIRED_ROTATED), .unset, .unset, .unset, .unset] [(.ref w_EXPIRED_ROTATED)])) rfl (by rw [hml]; rfl) (Steps.refl _) (argsL := []) (rest := []) (lenOf pd_44 rfl) rfl (by show 2 * 0 + _ ≤ _; exact Nat.le_of_eq rfl) (hb hby at_13) (fun _ _ => ⟨rfl, e58, (by decide : 0 + 0 ≤ _), (by decide : 0 + 0 ≤ _)⟩)
    dsimp only [Pt.U, Pt.locs, Pt.cells, Pt.slots] at X59 l59 y59 z59 st59 hQ59
    subst l59 y59 z59
    obtain ⟨rfl, N59q, e59⟩ := hQ59
    have N59 := Fr.app N58 N59q
    obtain ⟨cq60, kq60, q60a, q60b, q60c⟩ := isOf hZ e59 (E_EXPIRED_ROTATED)
    obtain ⟨_, _, ⟨T60, L60, k60, n60⟩, -, X60, ⟨Lc60, hQ60, l60, y60, z60⟩, st60⟩ := X59.virtualBack hx (y := (⟨"com/example/escrowd/escrowd/client/SecretMatch", "authenticates", "()Z"⟩ : MethodName)) (z := (⟨"com/example/escrowd/escrowd/client/SecretMatch", "authenticates", "()Z"⟩ : MethodName)) hown (mvT hZ (hw _ (List.mem_of_getElem? (i := 17) rfl))) (mvT hZ (hw _ (List.mem_of_getElem? (i := 18) rfl))) (notFace_of_selects (args := #[]) (mvT hZ (hw _ (List.mem_of_getElem? (i := 20) rfl)))) (mvT hZ (hw _ (List.mem_of_getElem? (i := 20) rfl))) (mvT hZ (hw _ (List.mem_of_getElem? (i := 19) rfl))) (by decide) (backOf (W := 0) (rm_auth l Z a0 hw [] w_EXPIRED_ROTATED h0 n0 Z0 w_CURRENT w_EXPIRED_CURRENT w_EXPIRED_ROTATED w_WRONG w_ROTATED hWd (0 : Int32) (by simp [(F_EXPIRED_ROTATED_ordinal.ne F_CURRENT_ordinal (by decide)), (F_EXPIRED_ROTATED_ordinal.ne F_ROTATED_ordinal (by decide))])) hZ (hw _ (List.mem_of_getElem? (i := 21) rfl)) (hw _ (List.mem_of_getElem? (i := 6) rfl)) (by decide) (by decide)) q60a q60c (g := (mkF m 18 #[.val (.int p0), .val (.int (3 : Int32)), .val (.ref w_EXPIRED_ROTATED), .val (.int (1 : Int32)), .unset, .unset, .unset] [(.ref w_EXPIRED_ROTATED)])) rfl (by rw [hml]; rfl) (Steps.refl _) (argsL := []) (rest := []) (lenOf pd_44 rfl) rfl (by show 2 * 0 + _ ≤ _; exact Nat.le_of_eq rfl) (hb hby at_18) (fun _ _ => ⟨rfl, e59, (by decide : 0 + 0 ≤ _), (by decide : 0 + 0 ≤ _)⟩)
    dsimp only [Pt.U, Pt.locs, Pt.cells, Pt.slots] at X60 l60 y60 z60 st60 hQ60
    subst l60 y60 z60
    obtain ⟨rfl, N60q, e60⟩ := hQ60
    have N60 := Fr.app N59 N60q
    obtain ⟨T61, X61, e61, st61⟩ := getS2 X60 hx hZ hown (host := "") (Or.inl (hw _ (List.mem_of_getElem? (i := 23) rfl))) Via.refl e60 S_WRONG (g := (mkF m 24 #[.val (.int p0), .val (.int (3 : Int32)), .val (.ref w_EXPIRED_ROTATED), .val (.int (1 : Int32)), .val (.int (0 : Int32)), .unset, .unset] [(.ref w_EXPIRED_ROTATED)])) rfl (hb hby at_24)
    obtain ⟨fs, hr, hrun, hended, hW, hsame⟩ := X61.leave (v := some (.int (1 : Int32))) (fun h => by rw [Bd.returns] at h; cases h)
    refine ⟨_, _, ck40 _ ?_, hrun, hended, _, _, rfl, ?_, ⟨_, rfl⟩, hW, hsame.mono (by decide) (by decide)⟩
    · show Steps p.tables e below (s₁.setTop (mkF m 6 #[.val (.int p0), .unset, .unset, .unset, .unset, .unset, .unset] [(.int ((p0 &&& (2147483647 : Int32)) % (5 : Int32)))])) _
      rw [hv44]
      show Steps p.tables e below (s₁.setTop (mkF m 6 #[.val (.int p0), .unset, .unset, .unset, .unset, .unset, .unset] [(.int (3 : Int32))])) _
      refine XS.istoreN X0.here hx rfl (hb hby at_6) rfl (l' := #[.val (.int p0), .val (.int (3 : Int32)), .unset, .unset, .unset, .unset, .unset]) rfl ?_
      show Steps p.tables e below (s₁.setTop (mkF m 7 #[.val (.int p0), .val (.int (3 : Int32)), .unset, .unset, .unset, .unset, .unset] [])) _
      refine XS.iloadN X0.here hx rfl (hb hby at_7) rfl ?_
      show Steps p.tables e below (s₁.setTop (mkF m 8 #[.val (.int p0), .val (.int (3 : Int32)), .unset, .unset, .unset, .unset, .unset] [(.int (3 : Int32))])) _
      refine st58 _ ?_
      show Steps p.tables e below (T58.setTop (mkF m 11 #[.val (.int p0), .val (.int (3 : Int32)), .unset, .unset, .unset, .unset, .unset] [(.ref w_EXPIRED_ROTATED)])) _
      refine XS.astoreN X58.here hx rfl (hb hby at_11) rfl rfl (l' := #[.val (.int p0), .val (.int (3 : Int32)), .val (.ref w_EXPIRED_ROTATED), .unset, .unset, .unset, .unset]) rfl ?_
      show Steps p.tables e below (T58.setTop (mkF m 12 #[.val (.int p0), .val (.int (3 : Int32)), .val (.ref w_EXPIRED_ROTATED), .unset, .unset, .unset, .unset] [])) _
      refine XS.aloadN X58.here hx rfl (hb hby at_12) rfl rfl ?_
      show Steps p.tables e below (T58.setTop (mkF m 13 #[.val (.int p0), .val (.int (3 : Int32)), .val (.ref w_EXPIRED_ROTATED), .unset, .unset, .unset, .unset] [(.ref w_EXPIRED_ROTATED)])) _
      refine st59.trans ?_
      show Steps p.tables e below (T59.setTop (mkF m 16 #[.val (.int p0), .val (.int (3 : Int32)), .val (.ref w_EXPIRED_ROTATED), .unset, .unset, .unset, .unset] [(.int (1 : Int32))])) _
      refine XS.istoreN X59.here hx rfl (hb hby at_16) rfl (l' := #[.val (.int p0), .val (.int (3 : Int32)), .val (.ref w_EXPIRED_ROTATED), .val (.int (1 : Int32)), .unset, .unset, .unset]) rfl ?_
      show Steps p.tables e below (T59.setTop (mkF m 17 #[.val (.int p0), .val (.int (3 : Int32)), .val (.ref w_EXPIRED_ROTATED), .val (.int (1 : Int32)), .unset, .unset, .unset] [])) _
      refine XS.aloadN X59.here hx rfl (hb hby at_17) rfl rfl ?_
      show Steps p.tables e below (T59.setTop (mkF m 18 #[.val (.int p0), .val (.int (3 : Int32)), .val (.ref w_EXPIRED_ROTATED), .val (.int (1 : Int32)), .unset, .unset, .unset] [(.ref w_EXPIRED_ROTATED)])) _
      refine st60.trans ?_
      show Steps p.tables e below (T60.setTop (mkF m 21 #[.val (.int p0), .val (.int (3 : Int32)), .val (.ref w_EXPIRED_ROTATED), .val (.int (1 : Int32)), .unset, .unset, .unset] [(.int (0 : Int32))])) _
      refine XS.istore X60.here hx rfl (hb hby at_21) rfl (l' := #[.val (.int p0), .val (.int (3 : Int32)), .val (.ref w_EXPIRED_ROTATED), .val (.int (1 : Int32)), .val (.int (0 : Int32)), .unset, .unset]) rfl ?_
      show Steps p.tables e below (T60.setTop (mkF m 23 #[.val (.int p0), .val (.int (3 : Int32)), .val (.ref w_EXPIRED_ROTATED), .val (.int (1 : Int32)), .val (.int (0 : Int32)), .unset, .unset] [])) _
      refine XS.aloadN X60.here hx rfl (hb hby at_23) rfl rfl ?_
      show Steps p.tables e below (T60.setTop (mkF m 24 #[.val (.int p0), .val (.int (3 : Int32)), .val (.ref w_EXPIRED_ROTATED), .val (.int (1 : Int32)), .val (.int (0 : Int32)), .unset, .unset] [(.ref w_EXPIRED_ROTATED)])) _
      refine st61 _ ?_
      show Steps p.tables e below (T61.setTop (mkF m 27 #[.val (.int p0), .val (.int (3 : Int32)), .val (.ref w_EXPIRED_ROTATED), .val (.int (1 : Int32)), .val (.int (0 : Int32)), .unset, .unset] [(.ref w_WRONG), (.ref w_EXPIRED_ROTATED)])) _
      refine Jvm.RoadKit.acmp (g := (mkF m 27 #[.val (.int p0), .val (.int (3 : Int32)), .val (.ref w_EXPIRED_ROTATED), .val (.int (1 : Int32)), .val (.int (0 : Int32)), .unset, .unset] [(.ref w_WRONG), (.ref w_EXPIRED_ROTATED)])) X61 hx rfl rfl rfl (pc0 := 27) (pc' := 34) (same := false) rfl (hb hby at_27) rfl (decide_eq_false fun q => (F_EXPIRED_ROTATED_ordinal.ne F_WRONG_ordinal (by decide)) (Value.ref.inj q)) (by decide) (by decide) ?_
      show Steps p.tables e below (T61.setTop (mkF m 34 #[.val (.int p0), .val (.int (3 : Int32)), .val (.ref w_EXPIRED_ROTATED), .val (.int (1 : Int32)), .val (.int (0 : Int32)), .unset, .unset] [])) _
      refine XS.iconst X61.here hx rfl (hb hby at_34) ?_
      show Steps p.tables e below (T61.setTop (mkF m 35 #[.val (.int p0), .val (.int (3 : Int32)), .val (.ref w_EXPIRED_ROTATED), .val (.int (1 : Int32)), .val (.int (0 : Int32)), .unset, .unset] [(.int (0 : Int32))])) _
      refine XS.istore X61.here hx rfl (hb hby at_35) rfl (l' := #[.val (.int p0), .val (.int (3 : Int32)), .val (.ref w_EXPIRED_ROTATED), .val (.int (1 : Int32)), .val (.int (0 : Int32)), .val (.int (0 : Int32)), .unset]) rfl ?_
      show Steps p.tables e below (T61.setTop (mkF m 37 #[.val (.int p0), .val (.int (3 : Int32)), .val (.ref w_EXPIRED_ROTATED), .val (.int (1 : Int32)), .val (.int (0 : Int32)), .val (.int (0 : Int32)), .unset] [])) _
      refine XS.iloadN X61.here hx rfl (hb hby at_37) rfl ?_
      show Steps p.tables e below (T61.setTop (mkF m 38 #[.val (.int p0), .val (.int (3 : Int32)), .val (.ref w_EXPIRED_ROTATED), .val (.int (1 : Int32)), .val (.int (0 : Int32)), .val (.int (0 : Int32)), .unset] [(.int (1 : Int32))])) _
      refine XS.ifNo X61.here hx rfl (hb hby at_38) rfl ((if0 _ _).trans (feq (by decide : ¬ ((1 : Int32) = (0 : Int32)))).1) ?_
      show Steps p.tables e below (T61.setTop (mkF m 41 #[.val (.int p0), .val (.int (3 : Int32)), .val (.ref w_EXPIRED_ROTATED), .val (.int (1 : Int32)), .val (.int (0 : Int32)), .val (.int (0 : Int32)), .unset] [])) _
      refine XS.iconst X61.here hx rfl (hb hby at_41) ?_
      show Steps p.tables e below (T61.setTop (mkF m 42 #[.val (.int p0), .val (.int (3 : Int32)), .val (.ref w_EXPIRED_ROTATED), .val (.int (1 : Int32)), .val (.int (0 : Int32)), .val (.int (0 : Int32)), .unset] [(.int (1 : Int32))])) _
      refine XS.goto X61.here hx rfl (pc0 := 42) (pc' := 46) rfl (hb hby at_42) (by decide) (by decide) ?_
      show Steps p.tables e below (T61.setTop (mkF m 46 #[.val (.int p0), .val (.int (3 : Int32)), .val (.ref w_EXPIRED_ROTATED), .val (.int (1 : Int32)), .val (.int (0 : Int32)), .val (.int (0 : Int32)), .unset] [(.int (1 : Int32))])) _
      refine XS.iload X61.here hx rfl (hb hby at_46) rfl ?_
      show Steps p.tables e below (T61.setTop (mkF m 48 #[.val (.int p0), .val (.int (3 : Int32)), .val (.ref w_EXPIRED_ROTATED), .val (.int (1 : Int32)), .val (.int (0 : Int32)), .val (.int (0 : Int32)), .unset] [(.int (0 : Int32)), (.int (1 : Int32))])) _
      refine XS.ifYes X61.here hx rfl (pc0 := 48) (pc' := 55) rfl (hb hby at_48) rfl ((if0 _ _).trans (teq (by decide : (0 : Int32) = (0 : Int32))).1) (by decide) (by decide) ?_
      show Steps p.tables e below (T61.setTop (mkF m 55 #[.val (.int p0), .val (.int (3 : Int32)), .val (.ref w_EXPIRED_ROTATED), .val (.int (1 : Int32)), .val (.int (0 : Int32)), .val (.int (0 : Int32)), .unset] [(.int (1 : Int32))])) _
      refine XS.iconst X61.here hx rfl (hb hby at_55) ?_
      show Steps p.tables e below (T61.setTop (mkF m 56 #[.val (.int p0), .val (.int (3 : Int32)), .val (.ref w_EXPIRED_ROTATED), .val (.int (1 : Int32)), .val (.int (0 : Int32)), .val (.int (0 : Int32)), .unset] [(.int (0 : Int32)), (.int (1 : Int32))])) _
      refine XS.iadd X61.here hx rfl (hb hby at_56) rfl ?_
      show Steps p.tables e below (T61.setTop (mkF m 57 #[.val (.int p0), .val (.int (3 : Int32)), .val (.ref w_EXPIRED_ROTATED), .val (.int (1 : Int32)), .val (.int (0 : Int32)), .val (.int (0 : Int32)), .unset] [(.int (1 : Int32))])) _
      refine XS.iload X61.here hx rfl (hb hby at_57) rfl ?_
      show Steps p.tables e below (T61.setTop (mkF m 59 #[.val (.int p0), .val (.int (3 : Int32)), .val (.ref w_EXPIRED_ROTATED), .val (.int (1 : Int32)), .val (.int (0 : Int32)), .val (.int (0 : Int32)), .unset] [(.int (0 : Int32)), (.int (1 : Int32))])) _
      refine XS.ifYes X61.here hx rfl (pc0 := 59) (pc' := 66) rfl (hb hby at_59) rfl ((if0 _ _).trans (teq (by decide : (0 : Int32) = (0 : Int32))).1) (by decide) (by decide) ?_
      show Steps p.tables e below (T61.setTop (mkF m 66 #[.val (.int p0), .val (.int (3 : Int32)), .val (.ref w_EXPIRED_ROTATED), .val (.int (1 : Int32)), .val (.int (0 : Int32)), .val (.int (0 : Int32)), .unset] [(.int (1 : Int32))])) _
      refine XS.iconst X61.here hx rfl (hb hby at_66) ?_
      show Steps p.tables e below (T61.setTop (mkF m 67 #[.val (.int p0), .val (.int (3 : Int32)), .val (.ref w_EXPIRED_ROTATED), .val (.int (1 : Int32)), .val (.int (0 : Int32)), .val (.int (0 : Int32)), .unset] [(.int (0 : Int32)), (.int (1 : Int32))])) _
      refine XS.iadd X61.here hx rfl (hb hby at_67) rfl ?_
      show Steps p.tables e below (T61.setTop (mkF m 68 #[.val (.int p0), .val (.int (3 : Int32)), .val (.ref w_EXPIRED_ROTATED), .val (.int (1 : Int32)), .val (.int (0 : Int32)), .val (.int (0 : Int32)), .unset] [(.int (1 : Int32))])) _
      refine XS.istore X61.here hx rfl (hb hby at_68) rfl (l' := #[.val (.int p0), .val (.int (3 : Int32)), .val (.ref w_EXPIRED_ROTATED), .val (.int (1 : Int32)), .val (.int (0 : Int32)), .val (.int (0 : Int32)), .val (.int (1 : Int32))]) rfl ?_
      show Steps p.tables e below (T61.setTop (mkF m 70 #[.val (.int p0), .val (.int (3 : Int32)), .val (.ref w_EXPIRED_ROTATED), .val (.int (1 : Int32)), .val (.int (0 : Int32)), .val (.int (0 : Int32)), .val (.int (1 : Int32))] [])) _
      refine XS.iload X61.here hx rfl (hb hby at_70) rfl ?_
      show Steps p.tables e below (T61.setTop (mkF m 72 #[.val (.int p0), .val (.int (3 : Int32)), .val (.ref w_EXPIRED_ROTATED), .val (.int (1 : Int32)), .val (.int (0 : Int32)), .val (.int (0 : Int32)), .val (.int (1 : Int32))] [(.int (1 : Int32))])) _
      refine XS.iconst X61.here hx rfl (hb hby at_72) ?_
      show Steps p.tables e below (T61.setTop (mkF m 73 #[.val (.int p0), .val (.int (3 : Int32)), .val (.ref w_EXPIRED_ROTATED), .val (.int (1 : Int32)), .val (.int (0 : Int32)), .val (.int (0 : Int32)), .val (.int (1 : Int32))] [(.int (1 : Int32)), (.int (1 : Int32))])) _
      refine XS.icmpNo X61.here hx rfl (hb hby at_73) rfl (teq (by decide : (1 : Int32) = (1 : Int32))).2 ?_
      show Steps p.tables e below (T61.setTop (mkF m 76 #[.val (.int p0), .val (.int (3 : Int32)), .val (.ref w_EXPIRED_ROTATED), .val (.int (1 : Int32)), .val (.int (0 : Int32)), .val (.int (0 : Int32)), .val (.int (1 : Int32))] [])) _
      refine XS.iconst X61.here hx rfl (hb hby at_76) ?_
      show Steps p.tables e below (T61.setTop (mkF m 77 #[.val (.int p0), .val (.int (3 : Int32)), .val (.ref w_EXPIRED_ROTATED), .val (.int (1 : Int32)), .val (.int (0 : Int32)), .val (.int (0 : Int32)), .val (.int (1 : Int32))] [(.int (1 : Int32))])) _
      refine XS.goto X61.here hx rfl (pc0 := 77) (pc' := 81) rfl (hb hby at_77) (by decide) (by decide) ?_
      show Steps p.tables e below (T61.setTop (mkF m 81 #[.val (.int p0), .val (.int (3 : Int32)), .val (.ref w_EXPIRED_ROTATED), .val (.int (1 : Int32)), .val (.int (0 : Int32)), .val (.int (0 : Int32)), .val (.int (1 : Int32))] [(.int (1 : Int32))])) _
      exact retN X61 hx (t := .boolean) Bd.returns (by simp) (hb hby at_81) hr
    · show own_Pure (some (.int 1)) h0 n0 _ T61.heap _
      rw [e61]
      exact ⟨rfl, N60, rfl⟩
  · -- (4 : Int32)
    obtain ⟨_, _, ⟨T62, L62, k62, n62⟩, -, X62, ⟨Lc62, hQ62, l62, y62, z62⟩, st62⟩ := Jvm.LawKit.callS X0 hx (y := (⟨"com/example/escrowd/escrowd/client/SecretMatchIsExpiredPinLaw", "pick", "(I)Lcom/example/escrowd/escrowd/client/SecretMatch;"⟩ : MethodName)) hown (mvT hZ (hw _ (List.mem_of_getElem? (i := 1) rfl))) (mvT hZ (hw _ (List.mem_of_getElem? (i := 2) rfl))) (mvT hZ (hw _ (List.mem_of_getElem? (i := 3) rfl))) (mvT hZ (hw _ (List.mem_of_getElem? (i := 4) rfl))) (by decide) (backOf (W := 0) (rm_pick l Z a0 hw [] (4 : Int32) h0 n0 Z0 w_CURRENT w_EXPIRED_CURRENT w_EXPIRED_ROTATED w_WRONG w_ROTATED hWd w_WRONG (by first | rfl | decide | simp)) hZ (hw _ (List.mem_of_getElem? (i := 4) rfl)) (hw _ (List.mem_of_getElem? (i := 3) rfl)) (by decide) (by decide)) (g := (mkF m 8 #[.val (.int p0), .val (.int (4 : Int32)), .unset, .unset, .unset, .unset, .unset] [(.int (4 : Int32))])) rfl (by rw [hml]; rfl) (argsL := [(.int (4 : Int32))]) (rest := []) (lenOf pd_43 rfl) rfl (by show 2 * 0 + _ ≤ _; exact Nat.le_of_eq rfl) (hb hby at_8) (fun _ _ => ⟨rfl, e0, (by decide : 0 + 0 ≤ _), (by decide : 0 + 0 ≤ _)⟩)
    dsimp only [Pt.U, Pt.locs, Pt.cells, Pt.slots] at X62 l62 y62 z62 st62 hQ62
    subst l62 y62 z62
    obtain ⟨rfl, N62q, e62⟩ := hQ62
    have N62 := Fr.app N0 N62q
    obtain ⟨cq63, kq63, q63a, q63b, q63c⟩ := isOf hZ e62 (E_WRONG)
    obtain ⟨_, _, ⟨T63, L63, k63, n63⟩, -, X63, ⟨Lc63, hQ63, l63, y63, z63⟩, st63⟩ := X62.virtualBack hx (y := (⟨"com/example/escrowd/escrowd/client/SecretMatch", "isExpired", "()Z"⟩ : MethodName)) (z := (⟨"com/example/escrowd/escrowd/client/SecretMatch", "isExpired", "()Z"⟩ : MethodName)) hown (mvT hZ (hw _ (List.mem_of_getElem? (i := 8) rfl))) (mvT hZ (hw _ (List.mem_of_getElem? (i := 9) rfl))) (notFace_of_selects (args := #[]) (mvT hZ (hw _ (List.mem_of_getElem? (i := 11) rfl)))) (mvT hZ (hw _ (List.mem_of_getElem? (i := 11) rfl))) (mvT hZ (hw _ (List.mem_of_getElem? (i := 10) rfl))) (by decide) (backOf (W := 0) (rm_exp l Z a0 hw [] w_WRONG h0 n0 Z0 w_CURRENT w_EXPIRED_CURRENT w_EXPIRED_ROTATED w_WRONG w_ROTATED hWd (0 : Int32) (by simp [(F_WRONG_ordinal.ne F_EXPIRED_CURRENT_ordinal (by decide)), (F_WRONG_ordinal.ne F_EXPIRED_ROTATED_ordinal (by decide))])) hZ (hw _ (List.mem_of_getElem? (i := 12) rfl)) (hw _ (List.mem_of_getElem? (i := 6) rfl)) (by decide) (by decide)) q63a q63c (g := (mkF m 13 #[.val (.int p0), .val (.int (4 : Int32)), .val (.ref w_WRONG), .unset, .unset, .unset, .unset] [(.ref w_WRONG)])) rfl (by rw [hml]; rfl) (Steps.refl _) (argsL := []) (rest := []) (lenOf pd_44 rfl) rfl (by show 2 * 0 + _ ≤ _; exact Nat.le_of_eq rfl) (hb hby at_13) (fun _ _ => ⟨rfl, e62, (by decide : 0 + 0 ≤ _), (by decide : 0 + 0 ≤ _)⟩)
    dsimp only [Pt.U, Pt.locs, Pt.cells, Pt.slots] at X63 l63 y63 z63 st63 hQ63
    subst l63 y63 z63
    obtain ⟨rfl, N63q, e63⟩ := hQ63
    have N63 := Fr.app N62 N63q
    obtain ⟨cq64, kq64, q64a, q64b, q64c⟩ := isOf hZ e63 (E_WRONG)
    obtain ⟨_, _, ⟨T64, L64, k64, n64⟩, -, X64, ⟨Lc64, hQ64, l64, y64, z64⟩, st64⟩ := X63.virtualBack hx (y := (⟨"com/example/escrowd/escrowd/client/SecretMatch", "authenticates", "()Z"⟩ : MethodName)) (z := (⟨"com/example/escrowd/escrowd/client/SecretMatch", "authenticates", "()Z"⟩ : MethodName)) hown (mvT hZ (hw _ (List.mem_of_getElem? (i := 17) rfl))) (mvT hZ (hw _ (List.mem_of_getElem? (i := 18) rfl))) (notFace_of_selects (args := #[]) (mvT hZ (hw _ (List.mem_of_getElem? (i := 20) rfl)))) (mvT hZ (hw _ (List.mem_of_getElem? (i := 20) rfl))) (mvT hZ (hw _ (List.mem_of_getElem? (i := 19) rfl))) (by decide) (backOf (W := 0) (rm_auth l Z a0 hw [] w_WRONG h0 n0 Z0 w_CURRENT w_EXPIRED_CURRENT w_EXPIRED_ROTATED w_WRONG w_ROTATED hWd (0 : Int32) (by simp [(F_WRONG_ordinal.ne F_CURRENT_ordinal (by decide)), (F_WRONG_ordinal.ne F_ROTATED_ordinal (by decide))])) hZ (hw _ (List.mem_of_getElem? (i := 21) rfl)) (hw _ (List.mem_of_getElem? (i := 6) rfl)) (by decide) (by decide)) q64a q64c (g := (mkF m 18 #[.val (.int p0), .val (.int (4 : Int32)), .val (.ref w_WRONG), .val (.int (0 : Int32)), .unset, .unset, .unset] [(.ref w_WRONG)])) rfl (by rw [hml]; rfl) (Steps.refl _) (argsL := []) (rest := []) (lenOf pd_44 rfl) rfl (by show 2 * 0 + _ ≤ _; exact Nat.le_of_eq rfl) (hb hby at_18) (fun _ _ => ⟨rfl, e63, (by decide : 0 + 0 ≤ _), (by decide : 0 + 0 ≤ _)⟩)
    dsimp only [Pt.U, Pt.locs, Pt.cells, Pt.slots] at X64 l64 y64 z64 st64 hQ64
    subst l64 y64 z64
    obtain ⟨rfl, N64q, e64⟩ := hQ64
    have N64 := Fr.app N63 N64q
    obtain ⟨T65, X65, e65, st65⟩ := getS2 X64 hx hZ hown (host := "") (Or.inl (hw _ (List.mem_of_getElem? (i := 23) rfl))) Via.refl e64 S_WRONG (g := (mkF m 24 #[.val (.int p0), .val (.int (4 : Int32)), .val (.ref w_WRONG), .val (.int (0 : Int32)), .val (.int (0 : Int32)), .unset, .unset] [(.ref w_WRONG)])) rfl (hb hby at_24)
    obtain ⟨fs, hr, hrun, hended, hW, hsame⟩ := X65.leave (v := some (.int (1 : Int32))) (fun h => by rw [Bd.returns] at h; cases h)
    refine ⟨_, _, ck40 _ ?_, hrun, hended, _, _, rfl, ?_, ⟨_, rfl⟩, hW, hsame.mono (by decide) (by decide)⟩
    · show Steps p.tables e below (s₁.setTop (mkF m 6 #[.val (.int p0), .unset, .unset, .unset, .unset, .unset, .unset] [(.int ((p0 &&& (2147483647 : Int32)) % (5 : Int32)))])) _
      rw [hv45]
      show Steps p.tables e below (s₁.setTop (mkF m 6 #[.val (.int p0), .unset, .unset, .unset, .unset, .unset, .unset] [(.int (4 : Int32))])) _
      refine XS.istoreN X0.here hx rfl (hb hby at_6) rfl (l' := #[.val (.int p0), .val (.int (4 : Int32)), .unset, .unset, .unset, .unset, .unset]) rfl ?_
      show Steps p.tables e below (s₁.setTop (mkF m 7 #[.val (.int p0), .val (.int (4 : Int32)), .unset, .unset, .unset, .unset, .unset] [])) _
      refine XS.iloadN X0.here hx rfl (hb hby at_7) rfl ?_
      show Steps p.tables e below (s₁.setTop (mkF m 8 #[.val (.int p0), .val (.int (4 : Int32)), .unset, .unset, .unset, .unset, .unset] [(.int (4 : Int32))])) _
      refine st62 _ ?_
      show Steps p.tables e below (T62.setTop (mkF m 11 #[.val (.int p0), .val (.int (4 : Int32)), .unset, .unset, .unset, .unset, .unset] [(.ref w_WRONG)])) _
      refine XS.astoreN X62.here hx rfl (hb hby at_11) rfl rfl (l' := #[.val (.int p0), .val (.int (4 : Int32)), .val (.ref w_WRONG), .unset, .unset, .unset, .unset]) rfl ?_
      show Steps p.tables e below (T62.setTop (mkF m 12 #[.val (.int p0), .val (.int (4 : Int32)), .val (.ref w_WRONG), .unset, .unset, .unset, .unset] [])) _
      refine XS.aloadN X62.here hx rfl (hb hby at_12) rfl rfl ?_
      show Steps p.tables e below (T62.setTop (mkF m 13 #[.val (.int p0), .val (.int (4 : Int32)), .val (.ref w_WRONG), .unset, .unset, .unset, .unset] [(.ref w_WRONG)])) _
      refine st63.trans ?_
      show Steps p.tables e below (T63.setTop (mkF m 16 #[.val (.int p0), .val (.int (4 : Int32)), .val (.ref w_WRONG), .unset, .unset, .unset, .unset] [(.int (0 : Int32))])) _
      refine XS.istoreN X63.here hx rfl (hb hby at_16) rfl (l' := #[.val (.int p0), .val (.int (4 : Int32)), .val (.ref w_WRONG), .val (.int (0 : Int32)), .unset, .unset, .unset]) rfl ?_
      show Steps p.tables e below (T63.setTop (mkF m 17 #[.val (.int p0), .val (.int (4 : Int32)), .val (.ref w_WRONG), .val (.int (0 : Int32)), .unset, .unset, .unset] [])) _
      refine XS.aloadN X63.here hx rfl (hb hby at_17) rfl rfl ?_
      show Steps p.tables e below (T63.setTop (mkF m 18 #[.val (.int p0), .val (.int (4 : Int32)), .val (.ref w_WRONG), .val (.int (0 : Int32)), .unset, .unset, .unset] [(.ref w_WRONG)])) _
      refine st64.trans ?_
      show Steps p.tables e below (T64.setTop (mkF m 21 #[.val (.int p0), .val (.int (4 : Int32)), .val (.ref w_WRONG), .val (.int (0 : Int32)), .unset, .unset, .unset] [(.int (0 : Int32))])) _
      refine XS.istore X64.here hx rfl (hb hby at_21) rfl (l' := #[.val (.int p0), .val (.int (4 : Int32)), .val (.ref w_WRONG), .val (.int (0 : Int32)), .val (.int (0 : Int32)), .unset, .unset]) rfl ?_
      show Steps p.tables e below (T64.setTop (mkF m 23 #[.val (.int p0), .val (.int (4 : Int32)), .val (.ref w_WRONG), .val (.int (0 : Int32)), .val (.int (0 : Int32)), .unset, .unset] [])) _
      refine XS.aloadN X64.here hx rfl (hb hby at_23) rfl rfl ?_
      show Steps p.tables e below (T64.setTop (mkF m 24 #[.val (.int p0), .val (.int (4 : Int32)), .val (.ref w_WRONG), .val (.int (0 : Int32)), .val (.int (0 : Int32)), .unset, .unset] [(.ref w_WRONG)])) _
      refine st65 _ ?_
      show Steps p.tables e below (T65.setTop (mkF m 27 #[.val (.int p0), .val (.int (4 : Int32)), .val (.ref w_WRONG), .val (.int (0 : Int32)), .val (.int (0 : Int32)), .unset, .unset] [(.ref w_WRONG), (.ref w_WRONG)])) _
      refine Jvm.RoadKit.acmp (g := (mkF m 27 #[.val (.int p0), .val (.int (4 : Int32)), .val (.ref w_WRONG), .val (.int (0 : Int32)), .val (.int (0 : Int32)), .unset, .unset] [(.ref w_WRONG), (.ref w_WRONG)])) X65 hx rfl rfl rfl (pc0 := 27) (pc' := 30) (same := true) rfl (hb hby at_27) rfl (decide_eq_true rfl) (by decide) (by decide) ?_
      show Steps p.tables e below (T65.setTop (mkF m 30 #[.val (.int p0), .val (.int (4 : Int32)), .val (.ref w_WRONG), .val (.int (0 : Int32)), .val (.int (0 : Int32)), .unset, .unset] [])) _
      refine XS.iconst X65.here hx rfl (hb hby at_30) ?_
      show Steps p.tables e below (T65.setTop (mkF m 31 #[.val (.int p0), .val (.int (4 : Int32)), .val (.ref w_WRONG), .val (.int (0 : Int32)), .val (.int (0 : Int32)), .unset, .unset] [(.int (1 : Int32))])) _
      refine XS.goto X65.here hx rfl (pc0 := 31) (pc' := 35) rfl (hb hby at_31) (by decide) (by decide) ?_
      show Steps p.tables e below (T65.setTop (mkF m 35 #[.val (.int p0), .val (.int (4 : Int32)), .val (.ref w_WRONG), .val (.int (0 : Int32)), .val (.int (0 : Int32)), .unset, .unset] [(.int (1 : Int32))])) _
      refine XS.istore X65.here hx rfl (hb hby at_35) rfl (l' := #[.val (.int p0), .val (.int (4 : Int32)), .val (.ref w_WRONG), .val (.int (0 : Int32)), .val (.int (0 : Int32)), .val (.int (1 : Int32)), .unset]) rfl ?_
      show Steps p.tables e below (T65.setTop (mkF m 37 #[.val (.int p0), .val (.int (4 : Int32)), .val (.ref w_WRONG), .val (.int (0 : Int32)), .val (.int (0 : Int32)), .val (.int (1 : Int32)), .unset] [])) _
      refine XS.iloadN X65.here hx rfl (hb hby at_37) rfl ?_
      show Steps p.tables e below (T65.setTop (mkF m 38 #[.val (.int p0), .val (.int (4 : Int32)), .val (.ref w_WRONG), .val (.int (0 : Int32)), .val (.int (0 : Int32)), .val (.int (1 : Int32)), .unset] [(.int (0 : Int32))])) _
      refine XS.ifYes X65.here hx rfl (pc0 := 38) (pc' := 45) rfl (hb hby at_38) rfl ((if0 _ _).trans (teq (by decide : (0 : Int32) = (0 : Int32))).1) (by decide) (by decide) ?_
      show Steps p.tables e below (T65.setTop (mkF m 45 #[.val (.int p0), .val (.int (4 : Int32)), .val (.ref w_WRONG), .val (.int (0 : Int32)), .val (.int (0 : Int32)), .val (.int (1 : Int32)), .unset] [])) _
      refine XS.iconst X65.here hx rfl (hb hby at_45) ?_
      show Steps p.tables e below (T65.setTop (mkF m 46 #[.val (.int p0), .val (.int (4 : Int32)), .val (.ref w_WRONG), .val (.int (0 : Int32)), .val (.int (0 : Int32)), .val (.int (1 : Int32)), .unset] [(.int (0 : Int32))])) _
      refine XS.iload X65.here hx rfl (hb hby at_46) rfl ?_
      show Steps p.tables e below (T65.setTop (mkF m 48 #[.val (.int p0), .val (.int (4 : Int32)), .val (.ref w_WRONG), .val (.int (0 : Int32)), .val (.int (0 : Int32)), .val (.int (1 : Int32)), .unset] [(.int (0 : Int32)), (.int (0 : Int32))])) _
      refine XS.ifYes X65.here hx rfl (pc0 := 48) (pc' := 55) rfl (hb hby at_48) rfl ((if0 _ _).trans (teq (by decide : (0 : Int32) = (0 : Int32))).1) (by decide) (by decide) ?_
      show Steps p.tables e below (T65.setTop (mkF m 55 #[.val (.int p0), .val (.int (4 : Int32)), .val (.ref w_WRONG), .val (.int (0 : Int32)), .val (.int (0 : Int32)), .val (.int (1 : Int32)), .unset] [(.int (0 : Int32))])) _
      refine XS.iconst X65.here hx rfl (hb hby at_55) ?_
      show Steps p.tables e below (T65.setTop (mkF m 56 #[.val (.int p0), .val (.int (4 : Int32)), .val (.ref w_WRONG), .val (.int (0 : Int32)), .val (.int (0 : Int32)), .val (.int (1 : Int32)), .unset] [(.int (0 : Int32)), (.int (0 : Int32))])) _
      refine XS.iadd X65.here hx rfl (hb hby at_56) rfl ?_
      show Steps p.tables e below (T65.setTop (mkF m 57 #[.val (.int p0), .val (.int (4 : Int32)), .val (.ref w_WRONG), .val (.int (0 : Int32)), .val (.int (0 : Int32)), .val (.int (1 : Int32)), .unset] [(.int (0 : Int32))])) _
      refine XS.iload X65.here hx rfl (hb hby at_57) rfl ?_
      show Steps p.tables e below (T65.setTop (mkF m 59 #[.val (.int p0), .val (.int (4 : Int32)), .val (.ref w_WRONG), .val (.int (0 : Int32)), .val (.int (0 : Int32)), .val (.int (1 : Int32)), .unset] [(.int (1 : Int32)), (.int (0 : Int32))])) _
      refine XS.ifNo X65.here hx rfl (hb hby at_59) rfl ((if0 _ _).trans (feq (by decide : ¬ ((1 : Int32) = (0 : Int32)))).1) ?_
      show Steps p.tables e below (T65.setTop (mkF m 62 #[.val (.int p0), .val (.int (4 : Int32)), .val (.ref w_WRONG), .val (.int (0 : Int32)), .val (.int (0 : Int32)), .val (.int (1 : Int32)), .unset] [(.int (0 : Int32))])) _
      refine XS.iconst X65.here hx rfl (hb hby at_62) ?_
      show Steps p.tables e below (T65.setTop (mkF m 63 #[.val (.int p0), .val (.int (4 : Int32)), .val (.ref w_WRONG), .val (.int (0 : Int32)), .val (.int (0 : Int32)), .val (.int (1 : Int32)), .unset] [(.int (1 : Int32)), (.int (0 : Int32))])) _
      refine XS.goto X65.here hx rfl (pc0 := 63) (pc' := 67) rfl (hb hby at_63) (by decide) (by decide) ?_
      show Steps p.tables e below (T65.setTop (mkF m 67 #[.val (.int p0), .val (.int (4 : Int32)), .val (.ref w_WRONG), .val (.int (0 : Int32)), .val (.int (0 : Int32)), .val (.int (1 : Int32)), .unset] [(.int (1 : Int32)), (.int (0 : Int32))])) _
      refine XS.iadd X65.here hx rfl (hb hby at_67) rfl ?_
      show Steps p.tables e below (T65.setTop (mkF m 68 #[.val (.int p0), .val (.int (4 : Int32)), .val (.ref w_WRONG), .val (.int (0 : Int32)), .val (.int (0 : Int32)), .val (.int (1 : Int32)), .unset] [(.int (1 : Int32))])) _
      refine XS.istore X65.here hx rfl (hb hby at_68) rfl (l' := #[.val (.int p0), .val (.int (4 : Int32)), .val (.ref w_WRONG), .val (.int (0 : Int32)), .val (.int (0 : Int32)), .val (.int (1 : Int32)), .val (.int (1 : Int32))]) rfl ?_
      show Steps p.tables e below (T65.setTop (mkF m 70 #[.val (.int p0), .val (.int (4 : Int32)), .val (.ref w_WRONG), .val (.int (0 : Int32)), .val (.int (0 : Int32)), .val (.int (1 : Int32)), .val (.int (1 : Int32))] [])) _
      refine XS.iload X65.here hx rfl (hb hby at_70) rfl ?_
      show Steps p.tables e below (T65.setTop (mkF m 72 #[.val (.int p0), .val (.int (4 : Int32)), .val (.ref w_WRONG), .val (.int (0 : Int32)), .val (.int (0 : Int32)), .val (.int (1 : Int32)), .val (.int (1 : Int32))] [(.int (1 : Int32))])) _
      refine XS.iconst X65.here hx rfl (hb hby at_72) ?_
      show Steps p.tables e below (T65.setTop (mkF m 73 #[.val (.int p0), .val (.int (4 : Int32)), .val (.ref w_WRONG), .val (.int (0 : Int32)), .val (.int (0 : Int32)), .val (.int (1 : Int32)), .val (.int (1 : Int32))] [(.int (1 : Int32)), (.int (1 : Int32))])) _
      refine XS.icmpNo X65.here hx rfl (hb hby at_73) rfl (teq (by decide : (1 : Int32) = (1 : Int32))).2 ?_
      show Steps p.tables e below (T65.setTop (mkF m 76 #[.val (.int p0), .val (.int (4 : Int32)), .val (.ref w_WRONG), .val (.int (0 : Int32)), .val (.int (0 : Int32)), .val (.int (1 : Int32)), .val (.int (1 : Int32))] [])) _
      refine XS.iconst X65.here hx rfl (hb hby at_76) ?_
      show Steps p.tables e below (T65.setTop (mkF m 77 #[.val (.int p0), .val (.int (4 : Int32)), .val (.ref w_WRONG), .val (.int (0 : Int32)), .val (.int (0 : Int32)), .val (.int (1 : Int32)), .val (.int (1 : Int32))] [(.int (1 : Int32))])) _
      refine XS.goto X65.here hx rfl (pc0 := 77) (pc' := 81) rfl (hb hby at_77) (by decide) (by decide) ?_
      show Steps p.tables e below (T65.setTop (mkF m 81 #[.val (.int p0), .val (.int (4 : Int32)), .val (.ref w_WRONG), .val (.int (0 : Int32)), .val (.int (0 : Int32)), .val (.int (1 : Int32)), .val (.int (1 : Int32))] [(.int (1 : Int32))])) _
      exact retN X65 hx (t := .boolean) Bd.returns (by simp) (hb hby at_81) hr
    · show own_Pure (some (.int 1)) h0 n0 _ T65.heap _
      rw [e65]
      exact ⟨rfl, N64, rfl⟩
set_option maxRecDepth 65536 in
set_option maxHeartbeats 40000000 in
theorem comes_1 {Post : Tables → Env → Array Value → State → Outcome → State → Prop} (hpost : ∀ tb e args s v u, (limb_1_1.after args s (.returned v) u = true ∧ limb_1_2.after args s (.returned v) u = true ∧ True) → FrameEnd s (.returned v) u (Jvm.fieldLocs frame_1_writes args s ++ Jvm.arrayLocs frame_1_arrays args s ++ Jvm.staticLocs frame_1_statics s) 0 0 → Post tb e args s (.returned v) u) :
    ArmFor flags0 classFile x code maxLocals ret World_1 tables_1 room_1 Calls_1 rest_1 Pre_1 Post := by
  intro l hfl _ _ p e ha hc hk s m args below hf hA hF happ hP
  obtain ⟨hcalls, hrest, hpre⟩ := hP
  obtain ⟨-, -, -, hnamed, -, -, -, hat⟩ := (Spec.applies_iff hf).mp happ
  obtain ⟨hg, hn⟩ := and_e (Cond.before_iff.mp (show (Jvm.Cond.and given_1 narrow_1).before args s = true from hpre))
  obtain ⟨gg0, hh0⟩ := and_e hg
  obtain ⟨w0, rfl⟩ : ∃ w0 : Value, args = #[w0] := by
    have hs : args.size = 1 := by simpa [Cond.value, given_1] using gg0
    obtain ⟨L⟩ := args
    match L, hs with
    | [w0], _ => exact ⟨w0, rfl⟩
  have hw := fun d (hd : d ∈ tables_1) => atoms_spec (ws := Jvm.Cond.code x code maxLocals ret :: tables_1) hat d (List.mem_cons_of_mem _ hd)
  have hfit : Fit s := fun {y c} hc i hi => by
    obtain ⟨ha, rfl⟩ := Array.getElem?_eq_some_iff.mp hc
    have q := List.all_eq_true.mp ((Array.all_eq_true_iff_forall_mem.mp hF) _ (Array.getElem_mem ha)) i (List.mem_range.mpr hi)
    simpa [Array.getElem?_eq_getElem hi] using q
  obtain ⟨i0, ei0⟩ := is_v hh0
  obtain rfl : w0 = (.int i0) := Option.some.inj ei0
  obtain ⟨g1, g2⟩ := and_e hn
  obtain ⟨g3, g4⟩ := and_e g2
  obtain ⟨g5, g6⟩ := and_e g4
  obtain ⟨g7, g8⟩ := and_e g6
  obtain ⟨g9, g10⟩ := and_e g8
  obtain ⟨g11, g12⟩ := and_e g10
  obtain ⟨g13, g14⟩ := and_e g12
  obtain ⟨g15, g16⟩ := and_e g14
  obtain ⟨g17, g18⟩ := and_e g16
  obtain ⟨w_CURRENT, ev_CURRENT⟩ := exa_v g1
  have E_CURRENT := Exa.start ev_CURRENT g1
  have S_CURRENT := Sta.start ev_CURRENT (Or.inr ⟨hw _ (List.mem_of_getElem? (i := 6) rfl), hw _ (List.mem_of_getElem? (i := 7) rfl)⟩)
  have F_CURRENT_ordinal := own_fld_eq ev_CURRENT g5
  obtain ⟨w_EXPIRED_CURRENT, ev_EXPIRED_CURRENT⟩ := exa_v g3
  have E_EXPIRED_CURRENT := Exa.start ev_EXPIRED_CURRENT g3
  have S_EXPIRED_CURRENT := Sta.start ev_EXPIRED_CURRENT (Or.inr ⟨hw _ (List.mem_of_getElem? (i := 6) rfl), hw _ (List.mem_of_getElem? (i := 14) rfl)⟩)
  have F_EXPIRED_CURRENT_ordinal := own_fld_eq ev_EXPIRED_CURRENT g7
  obtain ⟨w_EXPIRED_ROTATED, ev_EXPIRED_ROTATED⟩ := exa_v g9
  have E_EXPIRED_ROTATED := Exa.start ev_EXPIRED_ROTATED g9
  have S_EXPIRED_ROTATED := Sta.start ev_EXPIRED_ROTATED (Or.inr ⟨hw _ (List.mem_of_getElem? (i := 6) rfl), hw _ (List.mem_of_getElem? (i := 16) rfl)⟩)
  have F_EXPIRED_ROTATED_ordinal := own_fld_eq ev_EXPIRED_ROTATED g11
  obtain ⟨w_WRONG, ev_WRONG⟩ := exa_v g13
  have E_WRONG := Exa.start ev_WRONG g13
  have S_WRONG := Sta.start ev_WRONG (Or.inr ⟨hw _ (List.mem_of_getElem? (i := 6) rfl), hw _ (List.mem_of_getElem? (i := 24) rfl)⟩)
  have F_WRONG_ordinal := own_fld_eq ev_WRONG g15
  obtain ⟨w_ROTATED, ev_ROTATED⟩ := exa_v g17
  have E_ROTATED := Exa.start ev_ROTATED g17
  have S_ROTATED := Sta.start ev_ROTATED (Or.inr ⟨hw _ (List.mem_of_getElem? (i := 6) rfl), hw _ (List.mem_of_getElem? (i := 27) rfl)⟩)
  have F_ROTATED_ordinal := own_fld_eq ev_ROTATED g18
  have hW0 : own_W s s.heap w_CURRENT w_EXPIRED_CURRENT w_EXPIRED_ROTATED w_WRONG w_ROTATED := ⟨S_CURRENT, E_CURRENT, F_CURRENT_ordinal, S_EXPIRED_CURRENT, E_EXPIRED_CURRENT, F_EXPIRED_CURRENT_ordinal, S_EXPIRED_ROTATED, E_EXPIRED_ROTATED, F_EXPIRED_ROTATED_ordinal, S_WRONG, E_WRONG, F_WRONG_ordinal, S_ROTATED, E_ROTATED, F_ROTATED_ordinal⟩
  obtain ⟨n, o, h1, h2, h3, _, L, rfl, hQ0, hq⟩ := rm_law l s _ hw tables_1 i0 s.heap s.heap.size (Nat.le_refl _) w_CURRENT w_EXPIRED_CURRENT w_EXPIRED_ROTATED w_WRONG w_ROTATED hW0 p e ha hc hk s m _ below hf ((Spec.applies_iff_loose hf).mp happ).1 ⟨rfl, State.Warmed39.refl s, rfl⟩ trivial
  have N := hQ0.2.1
  obtain rfl := hQ0.1
  refine ⟨n, _, h1, h2, h3, hpost _ _ _ _ _ _ ⟨Cond.after_iff.mpr rfl, Cond.after_iff.mpr (eq_i res_at (Term.int_eval (1)) rfl), trivial⟩ ⟨hq.1, hq.2.1, (hq.2.2.sift fun y hy => Or.inr (N y hy)).mono (by decide) (by decide)⟩⟩
theorem main_1_1 : Claimed_1_1 := comes_1 fun _ _ _ _ _ _ h hF => ⟨h.1, hF⟩
theorem main_1_2 : Claimed_1_2 := comes_1 fun _ _ _ _ _ _ h hF => ⟨h.2.1, hF⟩
end Jvm.Pilot.@@N@@
namespace Jvm.Pilot.@@N@@
open Jvm Jvm.ClassFile Sem Op Lib Jvm.Free Jvm.Stand Jvm.Pilot.@@N@@.Jvm.D
/-! MADE BY PROGRAM (witnessworld.py) out of the Statement's table words and the real class files: 12 classes; the members and pool entries that the words name. The judged class is class 1, her method 2. -/
namespace start1
open Jvm.ClassFile
def u (s : String) : CpInfo := .utf8 (stringToUtf16 s)
/-- a pool by its gaps: so many unusable entries, then the entry; so many at the end -/
def gap : Nat → List CpInfo → List CpInfo
  | 0, r => r
  | n + 1, r => .unusable :: gap n r
def poolList (es : List (Nat × CpInfo)) (last : Nat) : List CpInfo := es.foldr (fun e r => gap e.1 (e.2 :: r)) (gap last [])
def pool (es : List (Nat × CpInfo)) (last : Nat) : Array CpInfo := ⟨poolList es last⟩
def fileOf (pool : Array CpInfo) (this : Nat) (attrs : Array Attribute := #[]) (ms : Array MethodInfo := #[]) (fl : Nat := 33) (sup : Nat := 0) (ifs : Array Nat := #[]) (fds : Array FieldInfo := #[]) : ClassFile where
  minorVersion := 0
  majorVersion := 65
  constantPool := pool
  accessFlags := fl
  thisClass := this
  superClass := sup
  interfaces := ifs
  fields := fds
  methods := ms
  attributes := attrs
def plain (name : String) (sup : Option ClassId) : Class where
  name := name
  kind := .ordinary
  loader := none
  accessFlags := 33
  super := sup
  interfaces := #[]
  cf := none
  fields := #[]
  methods := #[]
  instanceTypes := #[]
  staticTypes := #[]
  resolved := #[]
  callSites := []
  init := .initialized
  statics := none
  mirror := none

def pool0 : Array CpInfo := pool [(5, u "<init>"), (0, u "()V"), (1, .class_ 10), (1, u "java/lang/Object")] 113

def k0m0 : Method := { name := "<init>", desc := "()V", sig := { parameters := [], returnType := none }, accessFlags := 1, code := none }
/-- java/lang/Object -/
def k0 : Class := { plain "java/lang/Object" none with
  accessFlags := 33
  interfaces := #[]
  cf := some (fileOf pool0 8 #[] #[{ accessFlags := 1, nameIndex := 5, descriptorIndex := 6, attributes := #[] }] 33 0 #[] #[])
  fields := #[]
  methods := #[k0m0]
  instanceTypes := #[]
  staticTypes := #[]
  resolved := Array.replicate 124 none
  statics := none }

def pool1 : Array CpInfo := pool [(2, .class_ 4), (1, u "java/lang/Object"), (0, u "<init>"), (0, u "()V"), (0, .fieldref 8 9), (0, .class_ 10), (0, .nameAndType 11 12), (0, u "com/example/escrowd/escrowd/client/SecretMatch"), (0, u "CURRENT"), (0, u "Lcom/example/escrowd/escrowd/client/SecretMatch;"), (0, .fieldref 8 14), (0, .nameAndType 15 12), (0, u "ROTATED"), (0, .fieldref 8 17), (0, .nameAndType 18 12), (0, u "EXPIRED_CURRENT"), (0, .fieldref 8 20), (0, .nameAndType 21 12), (0, u "EXPIRED_ROTATED"), (0, .fieldref 8 23), (0, .nameAndType 24 12), (0, u "WRONG"), (0, .integer 2147483647), (0, .methodref 27 28), (0, .class_ 29), (0, .nameAndType 30 31), (0, u "com/example/escrowd/escrowd/client/SecretMatchIsExpiredPinLaw"), (0, u "pick"), (0, u "(I)Lcom/example/escrowd/escrowd/client/SecretMatch;"), (0, .methodref 8 33), (0, .nameAndType 34 35), (0, u "isExpired"), (0, u "()Z"), (0, .methodref 8 37), (0, .nameAndType 38 35), (0, u "authenticates"), (3, u "law"), (0, u "(I)Z")] 2

def k1m0 : Method := { name := "<init>", desc := "()V", sig := { parameters := [], returnType := none }, accessFlags := 1, code := none }
def k1c1 : Code := { maxStack := 2, maxLocals := 1, code := method_2_code, exceptionTable := #[], attributes := #[] }
def k1m1 : Method := { name := "pick", desc := "(I)Lcom/example/escrowd/escrowd/client/SecretMatch;", sig := { parameters := [.int], returnType := some (.object "com/example/escrowd/escrowd/client/SecretMatch") }, accessFlags := 10, code := some k1c1 }
def k1c2 : Code := { maxStack := 2, maxLocals := 7, code := code, exceptionTable := #[], attributes := #[] }
def k1m2 : Method := { name := "law", desc := "(I)Z", sig := { parameters := [.int], returnType := some .boolean }, accessFlags := 9, code := some k1c2 }
/-- com/example/escrowd/escrowd/client/SecretMatchIsExpiredPinLaw -/
def k1 : Class := { plain "com/example/escrowd/escrowd/client/SecretMatchIsExpiredPinLaw" (some 0) with
  accessFlags := 49
  interfaces := #[]
  cf := some (fileOf pool1 27 #[] #[{ accessFlags := 1, nameIndex := 5, descriptorIndex := 6, attributes := #[] }, { accessFlags := 10, nameIndex := 30, descriptorIndex := 31, attributes := #[] }, { accessFlags := 9, nameIndex := 42, descriptorIndex := 43, attributes := #[] }] 49 2 #[] #[])
  fields := #[]
  methods := #[k1m0, k1m1, k1m2]
  instanceTypes := #[]
  staticTypes := #[]
  resolved := Array.replicate 46 none
  statics := none }

def pool2 : Array CpInfo := pool [(1, .class_ 2), (0, u "java/lang/constant/Constable"), (0, .class_ 4), (0, u "java/lang/Object")] 6

/-- java/lang/constant/Constable -/
def k2 : Class := { plain "java/lang/constant/Constable" (some 0) with
  accessFlags := 1537
  interfaces := #[]
  cf := some (fileOf pool2 1 #[] #[] 1537 3 #[] #[])
  fields := #[]
  methods := #[]
  instanceTypes := #[]
  staticTypes := #[]
  resolved := Array.replicate 11 none
  statics := none }

def pool3 : Array CpInfo := pool [(1, .class_ 2), (0, u "java/lang/Comparable"), (0, .class_ 4), (0, u "java/lang/Object")] 7

/-- java/lang/Comparable -/
def k3 : Class := { plain "java/lang/Comparable" (some 0) with
  accessFlags := 1537
  interfaces := #[]
  cf := some (fileOf pool3 1 #[] #[] 1537 3 #[] #[])
  fields := #[]
  methods := #[]
  instanceTypes := #[]
  staticTypes := #[]
  resolved := Array.replicate 12 none
  statics := none }

def pool4 : Array CpInfo := pool [(1, .class_ 2), (0, u "java/io/Serializable"), (0, .class_ 4), (0, u "java/lang/Object")] 2

/-- java/io/Serializable -/
def k4 : Class := { plain "java/io/Serializable" (some 0) with
  accessFlags := 1537
  interfaces := #[]
  cf := some (fileOf pool4 1 #[] #[] 1537 3 #[] #[])
  fields := #[]
  methods := #[]
  instanceTypes := #[]
  staticTypes := #[]
  resolved := Array.replicate 7 none
  statics := none }

def pool5 : Array CpInfo := pool [(2, .class_ 4), (1, u "java/lang/Enum"), (0, u "name"), (0, u "Ljava/lang/String;"), (2, u "ordinal"), (0, u "I"), (1, .class_ 14), (1, u "java/lang/Object"), (4, u "hash"), (86, .class_ 108), (1, u "java/lang/Enum$EnumDesc"), (2, .class_ 112), (0, u "java/lang/constant/Constable"), (0, .class_ 114), (0, u "java/lang/Comparable"), (0, .class_ 116), (0, u "java/io/Serializable")] 87

/-- java/lang/Enum -/
def k5 : Class := { plain "java/lang/Enum" (some 0) with
  accessFlags := 1057
  interfaces := #[2, 3, 4]
  cf := some (fileOf pool5 2 #[.nestMembers #[106]] #[] 1057 12 #[111, 113, 115] #[{ accessFlags := 18, nameIndex := 5, descriptorIndex := 6, attributes := #[] }, { accessFlags := 18, nameIndex := 9, descriptorIndex := 10, attributes := #[] }, { accessFlags := 2, nameIndex := 19, descriptorIndex := 10, attributes := #[] }])
  fields := #[{ name := "name", type := (.object "java/lang/String"), accessFlags := 18, slot := 0, constantValue := 0 }, { name := "ordinal", type := .int, accessFlags := 18, slot := 1, constantValue := 0 }, { name := "hash", type := .int, accessFlags := 2, slot := 2, constantValue := 0 }]
  methods := #[]
  instanceTypes := #[(.object "java/lang/String"), .int, .int]
  staticTypes := #[]
  resolved := Array.replicate 204 none
  statics := none }

def pool6 : Array CpInfo := pool [(1, .class_ 2), (0, u "com/example/escrowd/escrowd/client/SecretMatch"), (0, .fieldref 1 4), (0, .nameAndType 5 6), (0, u "CURRENT"), (0, u "Lcom/example/escrowd/escrowd/client/SecretMatch;"), (0, .fieldref 1 8), (0, .nameAndType 9 6), (0, u "ROTATED"), (0, .fieldref 1 11), (0, .nameAndType 12 6), (0, u "EXPIRED_CURRENT"), (0, .fieldref 1 14), (0, .nameAndType 15 6), (0, u "EXPIRED_ROTATED"), (2, u "WRONG"), (2, u "$VALUES"), (0, u "[Lcom/example/escrowd/escrowd/client/SecretMatch;"), (6, .class_ 31), (1, u "java/lang/Enum"), (23, u "authenticates"), (0, u "()Z"), (1, u "isExpired")] 4

def k6c0 : Code := { maxStack := 2, maxLocals := 1, code := prog_24_method_4_code, exceptionTable := #[], attributes := #[] }
def k6m0 : Method := { name := "authenticates", desc := "()Z", sig := { parameters := [], returnType := some .boolean }, accessFlags := 1, code := some k6c0 }
def k6c1 : Code := { maxStack := 2, maxLocals := 1, code := prog_24_method_5_code, exceptionTable := #[], attributes := #[] }
def k6m1 : Method := { name := "isExpired", desc := "()Z", sig := { parameters := [], returnType := some .boolean }, accessFlags := 1, code := some k6c1 }
/-- com/example/escrowd/escrowd/client/SecretMatch -/
def k6 : Class := { plain "com/example/escrowd/escrowd/client/SecretMatch" (some 5) with
  accessFlags := 16433
  interfaces := #[]
  cf := some (fileOf pool6 1 #[] #[{ accessFlags := 1, nameIndex := 55, descriptorIndex := 56, attributes := #[] }, { accessFlags := 1, nameIndex := 58, descriptorIndex := 56, attributes := #[] }] 16433 29 #[] #[{ accessFlags := 16409, nameIndex := 5, descriptorIndex := 6, attributes := #[] }, { accessFlags := 16409, nameIndex := 9, descriptorIndex := 6, attributes := #[] }, { accessFlags := 16409, nameIndex := 12, descriptorIndex := 6, attributes := #[] }, { accessFlags := 16409, nameIndex := 15, descriptorIndex := 6, attributes := #[] }, { accessFlags := 16409, nameIndex := 18, descriptorIndex := 6, attributes := #[] }, { accessFlags := 4122, nameIndex := 21, descriptorIndex := 22, attributes := #[] }])
  fields := #[{ name := "CURRENT", type := (.object "com/example/escrowd/escrowd/client/SecretMatch"), accessFlags := 16409, slot := 0, constantValue := 0 }, { name := "ROTATED", type := (.object "com/example/escrowd/escrowd/client/SecretMatch"), accessFlags := 16409, slot := 1, constantValue := 0 }, { name := "EXPIRED_CURRENT", type := (.object "com/example/escrowd/escrowd/client/SecretMatch"), accessFlags := 16409, slot := 2, constantValue := 0 }, { name := "EXPIRED_ROTATED", type := (.object "com/example/escrowd/escrowd/client/SecretMatch"), accessFlags := 16409, slot := 3, constantValue := 0 }, { name := "WRONG", type := (.object "com/example/escrowd/escrowd/client/SecretMatch"), accessFlags := 16409, slot := 4, constantValue := 0 }, { name := "$VALUES", type := (.array (.object "com/example/escrowd/escrowd/client/SecretMatch")), accessFlags := 4122, slot := 5, constantValue := 0 }]
  methods := #[k6m0, k6m1]
  instanceTypes := #[(.object "java/lang/String"), .int, .int]
  staticTypes := #[(.object "com/example/escrowd/escrowd/client/SecretMatch"), (.object "com/example/escrowd/escrowd/client/SecretMatch"), (.object "com/example/escrowd/escrowd/client/SecretMatch"), (.object "com/example/escrowd/escrowd/client/SecretMatch"), (.object "com/example/escrowd/escrowd/client/SecretMatch"), (.array (.object "com/example/escrowd/escrowd/client/SecretMatch"))]
  resolved := Array.replicate 63 none
  statics := some 0 }

def pool7 : Array CpInfo := pool [(1, u "java/lang/Cloneable"), (0, .class_ 1), (0, u "java/lang/Object"), (0, .class_ 3)] 3

/-- java/lang/Cloneable -/
def k7 : Class := { plain "java/lang/Cloneable" (some 0) with
  accessFlags := 1537
  interfaces := #[]
  cf := some (fileOf pool7 2 #[] #[] 1537 4 #[] #[])
  fields := #[]
  methods := #[]
  instanceTypes := #[]
  staticTypes := #[]
  resolved := Array.replicate 8 none
  statics := none }

/-- the primitive byte -/
def k8 : Class := { plain "byte" none with kind := .primitive 'B', accessFlags := 0x411 }
/-- [B -/
def k9 : Class := { plain "[B" (some 0) with kind := .array 8 .byte, interfaces := #[7, 4], accessFlags := 1041 }

/-- the primitive int -/
def k10 : Class := { plain "int" none with kind := .primitive 'I', accessFlags := 0x411 }
/-- [I -/
def k11 : Class := { plain "[I" (some 0) with kind := .array 10 .int, interfaces := #[7, 4], accessFlags := 1041 }

def heap : Heap := #[{ cls := 6, slots := #[.ref 1, .ref 5, .ref 2, .ref 3, .ref 4, .null], vm := .statics 6 },
  { cls := 6, slots := #[.null, .int 0, .int 0], vm := .none },
  { cls := 6, slots := #[.null, .int 2, .int 0], vm := .none },
  { cls := 6, slots := #[.null, .int 3, .int 0], vm := .none },
  { cls := 6, slots := #[.null, .int 4, .int 0], vm := .none },
  { cls := 6, slots := #[.null, .int 1, .int 0], vm := .none }]
def classes : Array Class := #[k0, k1, k2, k3, k4, k5, k6, k7, k8, k9, k10, k11]
def interned : List (Array UInt16 × Addr) := []
def slotsUsed : Nat := 21
def theMethod : MethodId := ⟨1, 2⟩
def args0 : Array Value := #[.int 5]
def aboutOver (below : List Frame) : State where
  vm := { classes := classes, interned := interned.toArray }
  heap := heap
  slotsUsed := slotsUsed
  threads := #[{ frames := .invoking theMethod args0 :: below }]
def below0 : List Frame := [.native { method := ⟨0, 0⟩, args := #[] }]
def about1 : State := aboutOver below0
def p0 : Program := .bare "" "" ""
def e0 : Env := launch0.env 0 0 0
theorem w_frames : about1.frames = Frame.invoking theMethod args0 :: below0 := rfl
set_option maxRecDepth 65536 in
theorem w_args : argsFit about1.vm theMethod args0 = true := by decide +kernel
set_option maxRecDepth 65536 in
theorem w_heap : heapFits about1 = true := by decide +kernel
set_option maxRecDepth 65536 in
theorem w_runnable : about1.curStatus? = some .runnable := by decide +kernel
set_option maxRecDepth 65536 in
theorem w_alone : about1.alone = true := by decide +kernel
set_option maxRecDepth 65536 in
theorem w_named : about1.methodNamed? x = some theMethod := by decide +kernel
set_option maxRecDepth 65536 in
theorem w_hears : about1.hears theMethod below0 = true := by decide +kernel
set_option maxRecDepth 65536 in
theorem w_ripe : about1.ripe theMethod args0 below0 = true := by decide +kernel
theorem w_running : about1.status = .running := rfl
set_option maxRecDepth 65536 in
theorem w_room : about1.hasRoom e0.platform room_1 = true :=
  launch0.hasRoom_least _ room_1 (by decide +kernel) (by decide +kernel) (by decide +kernel) (by decide +kernel) (by decide +kernel) (by decide +kernel)
theorem allAtoms_all (ts : List Jvm.Cond) (a : Array Jvm.Value) (st : Jvm.State) : (allAtoms ts).before a st = ts.all (fun c => c.before a st) := by
  induction ts with
  | nil => rfl
  | cons c t ih =>
    show (Jvm.Cond.and c (allAtoms t)).before a st = _
    rw [Jvm.Cond.before_and, ih, List.all_cons]
def words1 : List Jvm.Cond := Jvm.Cond.code x code maxLocals ret :: tables_1
/-- a 'code' word, met by the world's own term for the bytes: nothing is compared byte by byte -/
theorem code_word {y : MethodName} {bytes : ByteArray} {mx : Nat} {rt : Option FieldType} {a : Array Value} {s : State} {m : MethodId} {meth : Method} {c : Code} (h1 : s.methodNamed? y = some m) (h2 : s.vm.method? m = some meth) (h3 : meth.code = some c) (h4 : c.code = bytes)
    (h5 : (c.maxLocals == mx && c.exceptionTable.isEmpty && decide (c.maxStack ≤ mostOperands) && decide (meth.sig.returnType = rt) && !meth.locks && decide (parseMethodDescriptor y.desc = some meth.sig)) = true) : (Jvm.Cond.code y bytes mx rt).before a s = true := by
  simp only [Bool.and_eq_true, beq_iff_eq, Bool.not_eq_true', decide_eq_true_eq] at h5
  obtain ⟨⟨⟨⟨⟨g1, g2⟩, g3⟩, g4⟩, g5⟩, g6⟩ := h5
  simp [Cond.before, Cond.holds, Cond.value, h1, h2, h3, h4, g1, g2, g3, g4, g5, g6]
def isCode : Jvm.Cond → Bool
  | .code _ _ _ _ => true
  | _ => false
theorem all_split {L : List Jvm.Cond} {P : Jvm.Cond → Bool} (h1 : L.all (fun c => isCode c || P c) = true) (h2 : ∀ c ∈ L.filter isCode, P c = true) : L.all P = true := by
  refine List.all_eq_true.mpr fun c hc => ?_
  have h := List.all_eq_true.mp h1 c hc
  rcases Bool.eq_false_or_eq_true (isCode c) with hi | hi
  · exact h2 c (List.mem_filter.mpr ⟨hc, hi⟩)
  · simpa [hi] using h
set_option maxRecDepth 65536 in
theorem w_c0 : (Jvm.Cond.code x code maxLocals ret).before args0 about1 = true := code_word (m := ⟨1, 2⟩) (meth := k1m2) (c := k1c2) (by decide +kernel) rfl rfl rfl (by decide +kernel)
set_option maxRecDepth 65536 in
theorem w_c1 : (Jvm.Cond.code ({ cls := "com/example/escrowd/escrowd/client/SecretMatchIsExpiredPinLaw", name := "pick", desc := "(I)Lcom/example/escrowd/escrowd/client/SecretMatch;" } : Jvm.MethodName) method_2_code (1 : Nat) (Option.some (Jvm.ClassFile.FieldType.object "com/example/escrowd/escrowd/client/SecretMatch"))).before args0 about1 = true := code_word (m := ⟨1, 1⟩) (meth := k1m1) (c := k1c1) (by decide +kernel) rfl rfl rfl (by decide +kernel)
set_option maxRecDepth 65536 in
theorem w_c2 : (Jvm.Cond.code ({ cls := "com/example/escrowd/escrowd/client/SecretMatch", name := "isExpired", desc := "()Z" } : Jvm.MethodName) prog_24_method_5_code (1 : Nat) (Option.some Jvm.ClassFile.FieldType.boolean)).before args0 about1 = true := code_word (m := ⟨6, 1⟩) (meth := k6m1) (c := k6c1) (by decide +kernel) rfl rfl rfl (by decide +kernel)
set_option maxRecDepth 65536 in
theorem w_c3 : (Jvm.Cond.code ({ cls := "com/example/escrowd/escrowd/client/SecretMatch", name := "authenticates", desc := "()Z" } : Jvm.MethodName) prog_24_method_4_code (1 : Nat) (Option.some Jvm.ClassFile.FieldType.boolean)).before args0 about1 = true := code_word (m := ⟨6, 0⟩) (meth := k6m0) (c := k6c0) (by decide +kernel) rfl rfl rfl (by decide +kernel)
def codes1 : List Jvm.Cond := [Jvm.Cond.code x code maxLocals ret, Jvm.Cond.code ({ cls := "com/example/escrowd/escrowd/client/SecretMatchIsExpiredPinLaw", name := "pick", desc := "(I)Lcom/example/escrowd/escrowd/client/SecretMatch;" } : Jvm.MethodName) method_2_code (1 : Nat) (Option.some (Jvm.ClassFile.FieldType.object "com/example/escrowd/escrowd/client/SecretMatch")), Jvm.Cond.code ({ cls := "com/example/escrowd/escrowd/client/SecretMatch", name := "isExpired", desc := "()Z" } : Jvm.MethodName) prog_24_method_5_code (1 : Nat) (Option.some Jvm.ClassFile.FieldType.boolean), Jvm.Cond.code ({ cls := "com/example/escrowd/escrowd/client/SecretMatch", name := "authenticates", desc := "()Z" } : Jvm.MethodName) prog_24_method_4_code (1 : Nat) (Option.some Jvm.ClassFile.FieldType.boolean)]
set_option maxRecDepth 65536 in
theorem codes_eq : words1.filter isCode = codes1 := rfl
theorem w_codes : ∀ c ∈ words1.filter isCode, c.before args0 about1 = true := by
  rw [codes_eq]
  intro c hc
  simp only [codes1, List.mem_cons, List.not_mem_nil, or_false] at hc
  rcases hc with rfl | rfl | rfl | rfl
  · exact w_c0
  · exact w_c1
  · exact w_c2
  · exact w_c3
set_option maxRecDepth 65536 in
theorem w_t1 : (words1.take 24).all (fun c => isCode c || c.before args0 about1) = true := by decide +kernel
set_option maxRecDepth 65536 in
theorem w_t2 : (words1.drop 24).all (fun c => isCode c || c.before args0 about1) = true := by decide +kernel
theorem w_tables : (allAtoms (Jvm.Cond.code x code maxLocals ret :: tables_1)).before args0 about1 = true := by
  rw [allAtoms_all]
  show words1.all (fun c => c.before args0 about1) = true
  refine all_split ?_ w_codes
  rw [← List.take_append_drop 24 words1, List.all_append, w_t1, w_t2]
  rfl
set_option maxRecDepth 65536 in
theorem w_case : (Jvm.Cond.and given_1 narrow_1).before args0 about1 = true := by decide +kernel
theorem w_applies : (headSpec (Jvm.Cond.code x code maxLocals ret :: tables_1) room_1).applies x e0.platform about1 = true :=
  (Spec.applies_iff w_frames).mpr ⟨w_running, w_runnable, w_alone, w_named, w_hears, w_ripe, w_room, w_tables⟩
theorem atStart : AtStart classFile x code maxLocals ret World_1 tables_1 room_1 Calls_1 rest_1 Pre_1 launch0 p0 e0 about1 theMethod args0 below0 :=
  ⟨lists_1, trivial, launch0.admits_env _ _ _, launch0.least_env, fairChoices_fair.cas, fairChoices_fair.clock, w_frames, w_args, w_heap, w_applies, trivial, trivial, w_case⟩
end start1
theorem witness_1 : WitnessClaimed_1 := ⟨start1.p0, start1.e0, start1.about1, start1.theMethod, start1.args0, start1.below0, start1.atStart⟩
end Jvm.Pilot.@@N@@
