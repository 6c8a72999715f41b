import JvmDerived
import JvmDerived.Pilot.@@N@@Statement
import JvmDerived.Pilot.@@N@@Code
set_option linter.unusedVariables false
set_option linter.unusedSimpArgs false

namespace Jvm.Pilot.@@N@@
open Jvm Jvm.ClassFile Sem Op Lib Jvm.Free Jvm.Stand Jvm.LawKit Jvm.RoadKit Bundle Jvm.Pilot.@@N@@.Jvm.D
/-- a body that writes nothing and returns r -/
def own_Pure (r : Option Value) (h0 : Heap) (n0 : Nat) (v : Option Value) (h : Heap) (L : List Loc) : Prop := v = r ∧ Fr n0 L ∧ h = h0
theorem own_fld_eq {args : Array Value} {Z : State} {t : Term} {a : Addr} {C n d : String} {k : Int32} (ht : t.eval args Z none [] Z = some (.ref a))
    (h : (Cond.eq (.field t C n d) (.int k)).value args Z none Z [] = some true) : Fld Z Z.heap a C n d (.int k) := by
  apply Fld.start
  have e1 : (Term.field t C n d).eval args Z none [] Z = Z.fieldOf? a C n d := fld_at ht
  rw [← e1]
  have e2 : (Term.int k).eval args Z none [] Z = some (.int k) := Term.int_eval k
  simp only [Cond.value] at h
  cases hx : (Term.field t C n d).eval args Z none [] Z with
  | none => simp [hx] at h
  | some v => cases v <;> simp [hx, e2] at h ⊢; exact h
/-- what the case says of the pinned statics -/
def own_W (Z : State) (h : Heap) (w_X w_Z w_Y : Addr) : Prop :=
  Sta Z h "com/example/gimbalwise/gimbalwise/Axis" "X" "Lcom/example/gimbalwise/gimbalwise/Axis;" (.ref w_X) ∧
  Exa Z h w_X "com/example/gimbalwise/gimbalwise/Axis" ∧
  Fld Z h w_X "java/lang/Enum" "ordinal" "I" (.int (0 : Int32)) ∧
  Sta Z h "com/example/gimbalwise/gimbalwise/Axis" "Z" "Lcom/example/gimbalwise/gimbalwise/Axis;" (.ref w_Z) ∧
  Exa Z h w_Z "com/example/gimbalwise/gimbalwise/Axis" ∧
  Fld Z h w_Z "java/lang/Enum" "ordinal" "I" (.int (2 : Int32)) ∧
  Sta Z h "com/example/gimbalwise/gimbalwise/Axis" "Y" "Lcom/example/gimbalwise/gimbalwise/Axis;" (.ref w_Y) ∧
  Exa Z h w_Y "com/example/gimbalwise/gimbalwise/Axis" ∧
  Fld Z h w_Y "java/lang/Enum" "ordinal" "I" (.int (1 : Int32))
theorem own_W.ext {Z : State} {h h' : Heap} {w_X w_Z w_Y : Addr} (E : Ext h h') (H : own_W Z h w_X w_Z w_Y) : own_W Z h' w_X w_Z w_Y := by
  obtain ⟨S_X, E_X, F_X_ordinal, S_Z, E_Z, F_Z_ordinal, S_Y, E_Y, F_Y_ordinal⟩ := H
  exact ⟨S_X.ext E, E_X.ext E, F_X_ordinal.ext E, S_Z.ext E, E_Z.ext E, F_Z_ordinal.ext E, S_Y.ext E, E_Y.ext E, F_Y_ordinal.ext E⟩
theorem own_rem3 (x : Int32) : (x &&& (2147483647 : Int32)) % (3 : Int32) = (0 : Int32) ∨ (x &&& (2147483647 : Int32)) % (3 : Int32) = (1 : Int32) ∨ (x &&& (2147483647 : Int32)) % (3 : Int32) = (2 : Int32) := by
  have h1 : (x &&& (2147483647 : Int32)).toInt = x.toInt % 2147483648 := c_mask x 2147483647 31 (by decide) (by decide)
  have h2 := (c_irem (x &&& (2147483647 : Int32)) (3 : Int32) 3 (by decide)).1 (by omega)
  have h3 : ((x &&& (2147483647 : Int32)) % (3 : Int32)).toInt = 0 ∨ ((x &&& (2147483647 : Int32)) % (3 : Int32)).toInt = 1 ∨ ((x &&& (2147483647 : Int32)) % (3 : Int32)).toInt = 2 := by omega
  rcases h3 with h | h | h
  · exact Or.inl (Int32.toInt_inj.mp (by rw [h]; decide))
  · exact Or.inr (Or.inl (Int32.toInt_inj.mp (by rw [h]; decide)))
  · exact Or.inr (Or.inr ((Int32.toInt_inj.mp (by rw [h]; decide))))
theorem own_and1 (x : Int32) : x &&& (1 : Int32) = (0 : Int32) ∨ x &&& (1 : Int32) = (1 : Int32) := by
  have h1 : (x &&& (1 : Int32)).toInt = x.toInt % 2 := c_mask x (1 : Int32) 1 (by decide) (by decide)
  have h3 : (x &&& (1 : Int32)).toInt = 0 ∨ (x &&& (1 : Int32)).toInt = 1 := by omega
  rcases h3 with h | h
  · exact Or.inl (Int32.toInt_inj.mp (by rw [h]; decide))
  · exact Or.inr ((Int32.toInt_inj.mp (by rw [h]; decide)))
theorem d1_0 : decode method_2_code 0 = .ok (.iload_n 0, 1) := by decide +kernel
theorem d1_1 : decode method_2_code 1 = .ok (.ifCond .ne 7, 3) := by decide +kernel
theorem d1_4 : decode method_2_code 4 = .ok (.getstatic 7, 3) := by decide +kernel
theorem d1_7 : decode method_2_code 7 = .ok (.areturn, 1) := by decide +kernel
theorem d1_8 : decode method_2_code 8 = .ok (.iload_n 0, 1) := by decide +kernel
theorem d1_9 : decode method_2_code 9 = .ok (.iconst 1, 1) := by decide +kernel
theorem d1_10 : decode method_2_code 10 = .ok (.if_icmp .ne 7, 3) := by decide +kernel
theorem d1_13 : decode method_2_code 13 = .ok (.getstatic 13, 3) := by decide +kernel
theorem d1_16 : decode method_2_code 16 = .ok (.areturn, 1) := by decide +kernel
theorem d1_17 : decode method_2_code 17 = .ok (.getstatic 16, 3) := by decide +kernel
theorem d1_20 : decode method_2_code 20 = .ok (.areturn, 1) := by decide +kernel
theorem pn_11 : plainName "com/example/gimbalwise/gimbalwise/AxisRemainingPinLaw" = true := by first | (simp [plainName, overriddenIn]; done) | decide +kernel
theorem ef_rm_axis (m : MethodId) (x0 : Int32) : entryFrame m #[(.int x0)] 1 = mkF m 0 #[.val (.int x0)] [] := by first | (simp [entryFrame, mkF, argsToLocals, Value.category]; done) | rfl
set_option maxRecDepth 65536 in
set_option maxHeartbeats 40000000 in
theorem rm_axis (l : Launch) (Z : State) (a0 : Array Value) (hw : ∀ d ∈ tables_1, d.before a0 Z = true) (ws : List Jvm.Cond) (k : Int32) (h0 : Heap) (n0 : Nat) (Z0 : n0 ≤ h0.size) (w_X w_Z w_Y : Addr) (hWd : own_W Z h0 w_X w_Z w_Y) (r : Addr) (hres : (if k = (0 : Int32) then w_X else if k = (1 : Int32) then w_Y else w_Z) = r) :
    MetFree l (⟨"com/example/gimbalwise/gimbalwise/AxisRemainingPinLaw", "axis", "(I)Lcom/example/gimbalwise/gimbalwise/Axis;"⟩ : MethodName) (head1 (Jvm.Cond.code (⟨"com/example/gimbalwise/gimbalwise/AxisRemainingPinLaw", "axis", "(I)Lcom/example/gimbalwise/gimbalwise/Axis;"⟩ : MethodName) method_2_code 1 (some (.object "com/example/gimbalwise/gimbalwise/Axis")) :: ws) ({ frames := 0, cells := 0, slots := 0, locals := 0 } : Room)) (fun aQ UQ => aQ = #[(.int k)] ∧ Z.Warmed39 UQ.vm ∧ UQ.heap = h0) (fun _ _ _ _ _ => True) (fun _ UQ oQ UR => ∃ vQ LQ, oQ = .returned vQ ∧ own_Pure (some (.ref r)) h0 n0 vQ UR.heap LQ ∧ FrameEnd UQ oQ UR LQ ({ frames := 0, cells := 0, slots := 0, locals := 0 } : Room).cells ({ frames := 0, cells := 0, slots := 0, locals := 0 } : Room).slots) := by
  refine MetFree.of_bodySF (plainFor_of_name pn_11) hisR ?_
  intro p e s m args below meth c s₁ Bd hml0 hP hK
  obtain ⟨rfl, hZ, hh⟩ := hP
  have hx := Bd.exec
  have hby := Bd.bytes
  have hml : c.maxLocals = 1 := hml0
  have hown : s.vm.findClass "com/example/gimbalwise/gimbalwise/AxisRemainingPinLaw" = some m.cls := findClass_of_methodNamed Bd.named
  have hnm := (name_of_methodNamed Bd.named Bd.method).1
  have X0 : Stand p l e ({ frames := 0, cells := 0, slots := 0, locals := 0 } : Room) s m #[(.int k)] below meth c s₁ [] 0 0 := Stand.of_body Bd
  have e0 : s₁.heap = h0 := by rw [← hh, Bd.state]; rfl
  have N0 := Fr.nil n0
  have pre0 : ∀ t, Steps p.tables e below (s₁.setTop (mkF m 0 #[.val (.int k)] [])) t → Steps p.tables e below (s₁.setTop (entryFrame m #[(.int k)] 1)) t := fun t kq => castTop (ef_rm_axis m k) kq
  obtain ⟨S_X, E_X, F_X_ordinal, S_Z, E_Z, F_Z_ordinal, S_Y, E_Y, F_Y_ordinal⟩ := hWd
  by_cases hc1_11 : k = (0 : Int32)
  · -- pc 1: k = (0 : Int32)
    obtain ⟨T12, X12, e12, st12⟩ := getS2 X0 hx hZ hown (host := "") (Or.inl (hw _ (List.mem_of_getElem? (i := 5) rfl))) Via.refl e0 S_X (g := (mkF m 4 #[.val (.int k)] [])) rfl (hb hby d1_4)
    obtain ⟨fs, hr, hrun, hended, hW, hsame⟩ := X12.leave (v := some (.ref w_X)) (fun h => by rw [Bd.returns] at h; cases h)
    refine ⟨_, _, pre0 _ ?_, hrun, hended, _, _, rfl, ?_, ⟨_, rfl⟩, hW, hsame.mono (by decide) (by decide)⟩
    · show Steps p.tables e below (s₁.setTop (mkF m 0 #[.val (.int k)] [])) _
      refine XS.iloadN X0.here hx rfl (hb hby d1_0) rfl ?_
      show Steps p.tables e below (s₁.setTop (mkF m 1 #[.val (.int k)] [(.int k)])) _
      refine XS.ifNo X0.here hx rfl (hb hby d1_1) rfl ((if0 _ _).trans (teq hc1_11).2) ?_
      show Steps p.tables e below (s₁.setTop (mkF m 4 #[.val (.int k)] [])) _
      refine st12 _ ?_
      show Steps p.tables e below (T12.setTop (mkF m 7 #[.val (.int k)] [(.ref w_X)])) _
      exact retOut X12 hx Bd.returns rfl (Or.inr (Or.inr (Or.inr (Or.inr ⟨rfl, rfl, rfl⟩)))) (hb hby d1_7) hr
    · show own_Pure (some (.ref r)) h0 n0 _ T12.heap _
      rw [e12]
      exact ⟨by rw [← hres]; simp only [if_pos hc1_11], N0, rfl⟩
  · -- pc 1: not k = (0 : Int32)
    have ck14 : ∀ t, Steps p.tables e below (s₁.setTop (mkF m 10 #[.val (.int k)] [(.int (1 : Int32)), (.int k)])) t → Steps p.tables e below (s₁.setTop (entryFrame m #[(.int k)] 1)) t := by
      intro t kt
      refine pre0 _ ?_
      show Steps p.tables e below (s₁.setTop (mkF m 0 #[.val (.int k)] [])) _
      refine XS.iloadN X0.here hx rfl (hb hby d1_0) rfl ?_
      show Steps p.tables e below (s₁.setTop (mkF m 1 #[.val (.int k)] [(.int k)])) _
      refine XS.ifYes X0.here hx rfl (pc0 := 1) (pc' := 8) rfl (hb hby d1_1) rfl ((if0 _ _).trans (feq hc1_11).2) (by decide) (by decide) ?_
      show Steps p.tables e below (s₁.setTop (mkF m 8 #[.val (.int k)] [])) _
      refine XS.iloadN X0.here hx rfl (hb hby d1_8) rfl ?_
      show Steps p.tables e below (s₁.setTop (mkF m 9 #[.val (.int k)] [(.int k)])) _
      refine XS.iconst X0.here hx rfl (hb hby d1_9) ?_
      exact kt
    by_cases hc10_13 : k = (1 : Int32)
    · -- pc 10: k = (1 : Int32)
      obtain ⟨T15, X15, e15, st15⟩ := getS2 X0 hx hZ hown (host := "") (Or.inl (hw _ (List.mem_of_getElem? (i := 16) rfl))) Via.refl e0 S_Y (g := (mkF m 13 #[.val (.int k)] [])) rfl (hb hby d1_13)
      obtain ⟨fs, hr, hrun, hended, hW, hsame⟩ := X15.leave (v := some (.ref w_Y)) (fun h => by rw [Bd.returns] at h; cases h)
      refine ⟨_, _, ck14 _ ?_, hrun, hended, _, _, rfl, ?_, ⟨_, rfl⟩, hW, hsame.mono (by decide) (by decide)⟩
      · show Steps p.tables e below (s₁.setTop (mkF m 10 #[.val (.int k)] [(.int (1 : Int32)), (.int k)])) _
        refine XS.icmpNo X0.here hx rfl (hb hby d1_10) rfl (teq hc10_13).2 ?_
        show Steps p.tables e below (s₁.setTop (mkF m 13 #[.val (.int k)] [])) _
        refine st15 _ ?_
        show Steps p.tables e below (T15.setTop (mkF m 16 #[.val (.int k)] [(.ref w_Y)])) _
        exact retOut X15 hx Bd.returns rfl (Or.inr (Or.inr (Or.inr (Or.inr ⟨rfl, rfl, rfl⟩)))) (hb hby d1_16) hr
      · show own_Pure (some (.ref r)) h0 n0 _ T15.heap _
        rw [e15]
        exact ⟨by rw [← hres]; simp only [if_neg hc1_11, if_pos hc10_13], N0, rfl⟩
    · -- pc 10: not k = (1 : Int32)
      obtain ⟨T16, X16, e16, st16⟩ := getS2 X0 hx hZ hown (host := "") (Or.inl (hw _ (List.mem_of_getElem? (i := 8) rfl))) Via.refl e0 S_Z (g := (mkF m 17 #[.val (.int k)] [])) rfl (hb hby d1_17)
      obtain ⟨fs, hr, hrun, hended, hW, hsame⟩ := X16.leave (v := some (.ref w_Z)) (fun h => by rw [Bd.returns] at h; cases h)
      refine ⟨_, _, ck14 _ ?_, hrun, hended, _, _, rfl, ?_, ⟨_, rfl⟩, hW, hsame.mono (by decide) (by decide)⟩
      · show Steps p.tables e below (s₁.setTop (mkF m 10 #[.val (.int k)] [(.int (1 : Int32)), (.int k)])) _
        refine XS.icmpYes X0.here hx rfl (pc0 := 10) (pc' := 17) rfl (hb hby d1_10) rfl (feq hc10_13).2 (by decide) (by decide) ?_
        show Steps p.tables e below (s₁.setTop (mkF m 17 #[.val (.int k)] [])) _
        refine st16 _ ?_
        show Steps p.tables e below (T16.setTop (mkF m 20 #[.val (.int k)] [(.ref w_Z)])) _
        exact retOut X16 hx Bd.returns rfl (Or.inr (Or.inr (Or.inr (Or.inr ⟨rfl, rfl, rfl⟩)))) (hb hby d1_20) hr
      · show own_Pure (some (.ref r)) h0 n0 _ T16.heap _
        rw [e16]
        exact ⟨by rw [← hres]; simp only [if_neg hc1_11, if_neg hc10_13], N0, rfl⟩
theorem d2_0 : decode prog_5_method_5_code 0 = .ok (.aload_n 0, 1) := by decide +kernel
theorem d2_1 : decode prog_5_method_5_code 1 = .ok (.getstatic 3, 3) := by decide +kernel
theorem d2_4 : decode prog_5_method_5_code 4 = .ok (.if_acmp .eq 14, 3) := by decide +kernel
theorem d2_18 : decode prog_5_method_5_code 18 = .ok (.aload_n 0, 1) := by decide +kernel
theorem d2_19 : decode prog_5_method_5_code 19 = .ok (.getstatic 7, 3) := by decide +kernel
theorem d2_22 : decode prog_5_method_5_code 22 = .ok (.if_acmp .eq 14, 3) := by decide +kernel
theorem d2_36 : decode prog_5_method_5_code 36 = .ok (.getstatic 10, 3) := by decide +kernel
theorem d2_39 : decode prog_5_method_5_code 39 = .ok (.areturn, 1) := by decide +kernel
theorem d2_25 : decode prog_5_method_5_code 25 = .ok (.aload_n 1, 1) := by decide +kernel
theorem d2_26 : decode prog_5_method_5_code 26 = .ok (.getstatic 7, 3) := by decide +kernel
theorem d2_29 : decode prog_5_method_5_code 29 = .ok (.if_acmp .eq 7, 3) := by decide +kernel
theorem d2_32 : decode prog_5_method_5_code 32 = .ok (.getstatic 7, 3) := by decide +kernel
theorem d2_35 : decode prog_5_method_5_code 35 = .ok (.areturn, 1) := by decide +kernel
theorem d2_7 : decode prog_5_method_5_code 7 = .ok (.aload_n 1, 1) := by decide +kernel
theorem d2_8 : decode prog_5_method_5_code 8 = .ok (.getstatic 3, 3) := by decide +kernel
theorem d2_11 : decode prog_5_method_5_code 11 = .ok (.if_acmp .eq 7, 3) := by decide +kernel
theorem d2_14 : decode prog_5_method_5_code 14 = .ok (.getstatic 3, 3) := by decide +kernel
theorem d2_17 : decode prog_5_method_5_code 17 = .ok (.areturn, 1) := by decide +kernel
theorem pn_30 : plainName "com/example/gimbalwise/gimbalwise/Axis" = true := by first | (simp [plainName, overriddenIn]; done) | decide +kernel
theorem ef_rm_rem (m : MethodId) (x0 : Addr) (x1 : Addr) : entryFrame m #[(.ref x0), (.ref x1)] 2 = mkF m 0 #[.val (.ref x0), .val (.ref x1)] [] := by first | (simp [entryFrame, mkF, argsToLocals, Value.category]; done) | rfl
set_option maxRecDepth 65536 in
set_option maxHeartbeats 40000000 in
theorem rm_rem (l : Launch) (Z : State) (a0 : Array Value) (hw : ∀ d ∈ tables_1, d.before a0 Z = true) (ws : List Jvm.Cond) (a : Addr) (b : Addr) (h0 : Heap) (n0 : Nat) (Z0 : n0 ≤ h0.size) (w_X w_Z w_Y : Addr) (hWd : own_W Z h0 w_X w_Z w_Y) (r : Addr) (hres : (if a = w_X then (if a = w_Y then w_Z else if b = w_Y then w_Z else w_Y) else if b = w_X then (if a = w_Y then w_Z else if b = w_Y then w_Z else w_Y) else w_X) = r) :
    MetFree l (⟨"com/example/gimbalwise/gimbalwise/Axis", "remaining", "(Lcom/example/gimbalwise/gimbalwise/Axis;Lcom/example/gimbalwise/gimbalwise/Axis;)Lcom/example/gimbalwise/gimbalwise/Axis;"⟩ : MethodName) (head1 (Jvm.Cond.code (⟨"com/example/gimbalwise/gimbalwise/Axis", "remaining", "(Lcom/example/gimbalwise/gimbalwise/Axis;Lcom/example/gimbalwise/gimbalwise/Axis;)Lcom/example/gimbalwise/gimbalwise/Axis;"⟩ : MethodName) prog_5_method_5_code 2 (some (.object "com/example/gimbalwise/gimbalwise/Axis")) :: ws) ({ frames := 0, cells := 0, slots := 0, locals := 0 } : Room)) (fun aQ UQ => aQ = #[(.ref a), (.ref b)] ∧ Z.Warmed39 UQ.vm ∧ UQ.heap = h0) (fun _ _ _ _ _ => True) (fun _ UQ oQ UR => ∃ vQ LQ, oQ = .returned vQ ∧ own_Pure (some (.ref r)) h0 n0 vQ UR.heap LQ ∧ FrameEnd UQ oQ UR LQ ({ frames := 0, cells := 0, slots := 0, locals := 0 } : Room).cells ({ frames := 0, cells := 0, slots := 0, locals := 0 } : Room).slots) := by
  refine MetFree.of_bodySF (plainFor_of_name pn_30) hisR ?_
  intro p e s m args below meth c s₁ Bd hml0 hP hK
  obtain ⟨rfl, hZ, hh⟩ := hP
  have hx := Bd.exec
  have hby := Bd.bytes
  have hml : c.maxLocals = 2 := hml0
  have hown : s.vm.findClass "com/example/gimbalwise/gimbalwise/Axis" = some m.cls := findClass_of_methodNamed Bd.named
  have hnm := (name_of_methodNamed Bd.named Bd.method).1
  have X0 : Stand p l e ({ frames := 0, cells := 0, slots := 0, locals := 0 } : Room) s m #[(.ref a), (.ref b)] below meth c s₁ [] 0 0 := Stand.of_body Bd
  have e0 : s₁.heap = h0 := by rw [← hh, Bd.state]; rfl
  have N0 := Fr.nil n0
  have pre0 : ∀ t, Steps p.tables e below (s₁.setTop (mkF m 0 #[.val (.ref a), .val (.ref b)] [])) t → Steps p.tables e below (s₁.setTop (entryFrame m #[(.ref a), (.ref b)] 2)) t := fun t kq => castTop (ef_rm_rem m a b) kq
  obtain ⟨S_X, E_X, F_X_ordinal, S_Z, E_Z, F_Z_ordinal, S_Y, E_Y, F_Y_ordinal⟩ := hWd
  obtain ⟨T17, X17, e17, st17⟩ := getS2 X0 hx hZ hown (host := "") (Or.inl (hw _ (List.mem_of_getElem? (i := 13) rfl))) Via.refl e0 S_X (g := (mkF m 1 #[.val (.ref a), .val (.ref b)] [(.ref a)])) rfl (hb hby d2_1)
  by_cases hc4_18 : a = w_X
  · -- pc 4: a = w_X
    obtain ⟨T19, X19, e19, st19⟩ := getS2 X17 hx hZ hown (host := "") (Or.inl (hw _ (List.mem_of_getElem? (i := 14) rfl))) Via.refl e17 S_Y (g := (mkF m 19 #[.val (.ref a), .val (.ref b)] [(.ref a)])) rfl (hb hby d2_19)
    have ck21 : ∀ t, Steps p.tables e below (T19.setTop (mkF m 22 #[.val (.ref a), .val (.ref b)] [(.ref w_Y), (.ref a)])) t → Steps p.tables e below (s₁.setTop (entryFrame m #[(.ref a), (.ref b)] 2)) t := by
      intro t kt
      refine pre0 _ ?_
      show Steps p.tables e below (s₁.setTop (mkF m 0 #[.val (.ref a), .val (.ref b)] [])) _
      refine XS.aloadN X0.here hx rfl (hb hby d2_0) rfl rfl ?_
      show Steps p.tables e below (s₁.setTop (mkF m 1 #[.val (.ref a), .val (.ref b)] [(.ref a)])) _
      refine st17 _ ?_
      show Steps p.tables e below (T17.setTop (mkF m 4 #[.val (.ref a), .val (.ref b)] [(.ref w_X), (.ref a)])) _
      refine Jvm.RoadKit.acmp (g := (mkF m 4 #[.val (.ref a), .val (.ref b)] [(.ref w_X), (.ref a)])) X17 hx rfl rfl rfl (pc0 := 4) (pc' := 18) (same := true) rfl (hb hby d2_4) rfl (decide_eq_true (congrArg Value.ref hc4_18)) (by decide) (by decide) ?_
      show Steps p.tables e below (T17.setTop (mkF m 18 #[.val (.ref a), .val (.ref b)] [])) _
      refine XS.aloadN X17.here hx rfl (hb hby d2_18) rfl rfl ?_
      show Steps p.tables e below (T17.setTop (mkF m 19 #[.val (.ref a), .val (.ref b)] [(.ref a)])) _
      refine st19 _ ?_
      exact kt
    by_cases hc22_20 : a = w_Y
    · -- pc 22: a = w_Y
      obtain ⟨T22, X22, e22, st22⟩ := getS2 X19 hx hZ hown (host := "") (Or.inl (hw _ (List.mem_of_getElem? (i := 17) rfl))) Via.refl e19 S_Z (g := (mkF m 36 #[.val (.ref a), .val (.ref b)] [])) rfl (hb hby d2_36)
      obtain ⟨fs, hr, hrun, hended, hW, hsame⟩ := X22.leave (v := some (.ref w_Z)) (fun h => by rw [Bd.returns] at h; cases h)
      refine ⟨_, _, ck21 _ ?_, hrun, hended, _, _, rfl, ?_, ⟨_, rfl⟩, hW, hsame.mono (by decide) (by decide)⟩
      · show Steps p.tables e below (T19.setTop (mkF m 22 #[.val (.ref a), .val (.ref b)] [(.ref w_Y), (.ref a)])) _
        refine Jvm.RoadKit.acmp (g := (mkF m 22 #[.val (.ref a), .val (.ref b)] [(.ref w_Y), (.ref a)])) X19 hx rfl rfl rfl (pc0 := 22) (pc' := 36) (same := true) rfl (hb hby d2_22) rfl (decide_eq_true (congrArg Value.ref hc22_20)) (by decide) (by decide) ?_
        show Steps p.tables e below (T19.setTop (mkF m 36 #[.val (.ref a), .val (.ref b)] [])) _
        refine st22 _ ?_
        show Steps p.tables e below (T22.setTop (mkF m 39 #[.val (.ref a), .val (.ref b)] [(.ref w_Z)])) _
        exact retOut X22 hx Bd.returns rfl (Or.inr (Or.inr (Or.inr (Or.inr ⟨rfl, rfl, rfl⟩)))) (hb hby d2_39) hr
      · show own_Pure (some (.ref r)) h0 n0 _ T22.heap _
        rw [e22]
        exact ⟨by rw [← hres]; simp only [if_pos hc4_18, if_pos hc22_20], N0, rfl⟩
    · -- pc 22: not a = w_Y
      obtain ⟨T23, X23, e23, st23⟩ := getS2 X19 hx hZ hown (host := "") (Or.inl (hw _ (List.mem_of_getElem? (i := 14) rfl))) Via.refl e19 S_Y (g := (mkF m 26 #[.val (.ref a), .val (.ref b)] [(.ref b)])) rfl (hb hby d2_26)
      by_cases hc29_24 : b = w_Y
      · -- pc 29: b = w_Y
        obtain ⟨T25, X25, e25, st25⟩ := getS2 X23 hx hZ hown (host := "") (Or.inl (hw _ (List.mem_of_getElem? (i := 17) rfl))) Via.refl e23 S_Z (g := (mkF m 36 #[.val (.ref a), .val (.ref b)] [])) rfl (hb hby d2_36)
        obtain ⟨fs, hr, hrun, hended, hW, hsame⟩ := X25.leave (v := some (.ref w_Z)) (fun h => by rw [Bd.returns] at h; cases h)
        refine ⟨_, _, ck21 _ ?_, hrun, hended, _, _, rfl, ?_, ⟨_, rfl⟩, hW, hsame.mono (by decide) (by decide)⟩
        · show Steps p.tables e below (T19.setTop (mkF m 22 #[.val (.ref a), .val (.ref b)] [(.ref w_Y), (.ref a)])) _
          refine Jvm.RoadKit.acmp (g := (mkF m 22 #[.val (.ref a), .val (.ref b)] [(.ref w_Y), (.ref a)])) X19 hx rfl rfl rfl (pc0 := 22) (pc' := 25) (same := false) rfl (hb hby d2_22) rfl (decide_eq_false fun q => hc22_20 (Value.ref.inj q)) (by decide) (by decide) ?_
          show Steps p.tables e below (T19.setTop (mkF m 25 #[.val (.ref a), .val (.ref b)] [])) _
          refine XS.aloadN X19.here hx rfl (hb hby d2_25) rfl rfl ?_
          show Steps p.tables e below (T19.setTop (mkF m 26 #[.val (.ref a), .val (.ref b)] [(.ref b)])) _
          refine st23 _ ?_
          show Steps p.tables e below (T23.setTop (mkF m 29 #[.val (.ref a), .val (.ref b)] [(.ref w_Y), (.ref b)])) _
          refine Jvm.RoadKit.acmp (g := (mkF m 29 #[.val (.ref a), .val (.ref b)] [(.ref w_Y), (.ref b)])) X23 hx rfl rfl rfl (pc0 := 29) (pc' := 36) (same := true) rfl (hb hby d2_29) rfl (decide_eq_true (congrArg Value.ref hc29_24)) (by decide) (by decide) ?_
          show Steps p.tables e below (T23.setTop (mkF m 36 #[.val (.ref a), .val (.ref b)] [])) _
          refine st25 _ ?_
          show Steps p.tables e below (T25.setTop (mkF m 39 #[.val (.ref a), .val (.ref b)] [(.ref w_Z)])) _
          exact retOut X25 hx Bd.returns rfl (Or.inr (Or.inr (Or.inr (Or.inr ⟨rfl, rfl, rfl⟩)))) (hb hby d2_39) hr
        · show own_Pure (some (.ref r)) h0 n0 _ T25.heap _
          rw [e25]
          exact ⟨by rw [← hres]; simp only [if_pos hc4_18, if_neg hc22_20, if_pos hc29_24], N0, rfl⟩
      · -- pc 29: not b = w_Y
        obtain ⟨T26, X26, e26, st26⟩ := getS2 X23 hx hZ hown (host := "") (Or.inl (hw _ (List.mem_of_getElem? (i := 14) rfl))) Via.refl e23 S_Y (g := (mkF m 32 #[.val (.ref a), .val (.ref b)] [])) rfl (hb hby d2_32)
        obtain ⟨fs, hr, hrun, hended, hW, hsame⟩ := X26.leave (v := some (.ref w_Y)) (fun h => by rw [Bd.returns] at h; cases h)
        refine ⟨_, _, ck21 _ ?_, hrun, hended, _, _, rfl, ?_, ⟨_, rfl⟩, hW, hsame.mono (by decide) (by decide)⟩
        · show Steps p.tables e below (T19.setTop (mkF m 22 #[.val (.ref a), .val (.ref b)] [(.ref w_Y), (.ref a)])) _
          refine Jvm.RoadKit.acmp (g := (mkF m 22 #[.val (.ref a), .val (.ref b)] [(.ref w_Y), (.ref a)])) X19 hx rfl rfl rfl (pc0 := 22) (pc' := 25) (same := false) rfl (hb hby d2_22) rfl (decide_eq_false fun q => hc22_20 (Value.ref.inj q)) (by decide) (by decide) ?_
          show Steps p.tables e below (T19.setTop (mkF m 25 #[.val (.ref a), .val (.ref b)] [])) _
          refine XS.aloadN X19.here hx rfl (hb hby d2_25) rfl rfl ?_
          show Steps p.tables e below (T19.setTop (mkF m 26 #[.val (.ref a), .val (.ref b)] [(.ref b)])) _
          refine st23 _ ?_
          show Steps p.tables e below (T23.setTop (mkF m 29 #[.val (.ref a), .val (.ref b)] [(.ref w_Y), (.ref b)])) _
          refine Jvm.RoadKit.acmp (g := (mkF m 29 #[.val (.ref a), .val (.ref b)] [(.ref w_Y), (.ref b)])) X23 hx rfl rfl rfl (pc0 := 29) (pc' := 32) (same := false) rfl (hb hby d2_29) rfl (decide_eq_false fun q => hc29_24 (Value.ref.inj q)) (by decide) (by decide) ?_
          show Steps p.tables e below (T23.setTop (mkF m 32 #[.val (.ref a), .val (.ref b)] [])) _
          refine st26 _ ?_
          show Steps p.tables e below (T26.setTop (mkF m 35 #[.val (.ref a), .val (.ref b)] [(.ref w_Y)])) _
          exact retOut X26 hx Bd.returns rfl (Or.inr (Or.inr (Or.inr (Or.inr ⟨rfl, rfl, rfl⟩)))) (hb hby d2_35) hr
        · show own_Pure (some (.ref r)) h0 n0 _ T26.heap _
          rw [e26]
          exact ⟨by rw [← hres]; simp only [if_pos hc4_18, if_neg hc22_20, if_neg hc29_24], N0, rfl⟩
  · -- pc 4: not a = w_X
    obtain ⟨T27, X27, e27, st27⟩ := getS2 X17 hx hZ hown (host := "") (Or.inl (hw _ (List.mem_of_getElem? (i := 13) rfl))) Via.refl e17 S_X (g := (mkF m 8 #[.val (.ref a), .val (.ref b)] [(.ref b)])) rfl (hb hby d2_8)
    have ck29 : ∀ t, Steps p.tables e below (T27.setTop (mkF m 11 #[.val (.ref a), .val (.ref b)] [(.ref w_X), (.ref b)])) t → Steps p.tables e below (s₁.setTop (entryFrame m #[(.ref a), (.ref b)] 2)) t := by
      intro t kt
      refine pre0 _ ?_
      show Steps p.tables e below (s₁.setTop (mkF m 0 #[.val (.ref a), .val (.ref b)] [])) _
      refine XS.aloadN X0.here hx rfl (hb hby d2_0) rfl rfl ?_
      show Steps p.tables e below (s₁.setTop (mkF m 1 #[.val (.ref a), .val (.ref b)] [(.ref a)])) _
      refine st17 _ ?_
      show Steps p.tables e below (T17.setTop (mkF m 4 #[.val (.ref a), .val (.ref b)] [(.ref w_X), (.ref a)])) _
      refine Jvm.RoadKit.acmp (g := (mkF m 4 #[.val (.ref a), .val (.ref b)] [(.ref w_X), (.ref a)])) X17 hx rfl rfl rfl (pc0 := 4) (pc' := 7) (same := false) rfl (hb hby d2_4) rfl (decide_eq_false fun q => hc4_18 (Value.ref.inj q)) (by decide) (by decide) ?_
      show Steps p.tables e below (T17.setTop (mkF m 7 #[.val (.ref a), .val (.ref b)] [])) _
      refine XS.aloadN X17.here hx rfl (hb hby d2_7) rfl rfl ?_
      show Steps p.tables e below (T17.setTop (mkF m 8 #[.val (.ref a), .val (.ref b)] [(.ref b)])) _
      refine st27 _ ?_
      exact kt
    by_cases hc11_28 : b = w_X
    · -- pc 11: b = w_X
      obtain ⟨T30, X30, e30, st30⟩ := getS2 X27 hx hZ hown (host := "") (Or.inl (hw _ (List.mem_of_getElem? (i := 14) rfl))) Via.refl e27 S_Y (g := (mkF m 19 #[.val (.ref a), .val (.ref b)] [(.ref a)])) rfl (hb hby d2_19)
      by_cases hc22_31 : a = w_Y
      · -- pc 22: a = w_Y
        obtain ⟨T32, X32, e32, st32⟩ := getS2 X30 hx hZ hown (host := "") (Or.inl (hw _ (List.mem_of_getElem? (i := 17) rfl))) Via.refl e30 S_Z (g := (mkF m 36 #[.val (.ref a), .val (.ref b)] [])) rfl (hb hby d2_36)
        obtain ⟨fs, hr, hrun, hended, hW, hsame⟩ := X32.leave (v := some (.ref w_Z)) (fun h => by rw [Bd.returns] at h; cases h)
        refine ⟨_, _, ck29 _ ?_, hrun, hended, _, _, rfl, ?_, ⟨_, rfl⟩, hW, hsame.mono (by decide) (by decide)⟩
        · show Steps p.tables e below (T27.setTop (mkF m 11 #[.val (.ref a), .val (.ref b)] [(.ref w_X), (.ref b)])) _
          refine Jvm.RoadKit.acmp (g := (mkF m 11 #[.val (.ref a), .val (.ref b)] [(.ref w_X), (.ref b)])) X27 hx rfl rfl rfl (pc0 := 11) (pc' := 18) (same := true) rfl (hb hby d2_11) rfl (decide_eq_true (congrArg Value.ref hc11_28)) (by decide) (by decide) ?_
          show Steps p.tables e below (T27.setTop (mkF m 18 #[.val (.ref a), .val (.ref b)] [])) _
          refine XS.aloadN X27.here hx rfl (hb hby d2_18) rfl rfl ?_
          show Steps p.tables e below (T27.setTop (mkF m 19 #[.val (.ref a), .val (.ref b)] [(.ref a)])) _
          refine st30 _ ?_
          show Steps p.tables e below (T30.setTop (mkF m 22 #[.val (.ref a), .val (.ref b)] [(.ref w_Y), (.ref a)])) _
          refine Jvm.RoadKit.acmp (g := (mkF m 22 #[.val (.ref a), .val (.ref b)] [(.ref w_Y), (.ref a)])) X30 hx rfl rfl rfl (pc0 := 22) (pc' := 36) (same := true) rfl (hb hby d2_22) rfl (decide_eq_true (congrArg Value.ref hc22_31)) (by decide) (by decide) ?_
          show Steps p.tables e below (T30.setTop (mkF m 36 #[.val (.ref a), .val (.ref b)] [])) _
          refine st32 _ ?_
          show Steps p.tables e below (T32.setTop (mkF m 39 #[.val (.ref a), .val (.ref b)] [(.ref w_Z)])) _
          exact retOut X32 hx Bd.returns rfl (Or.inr (Or.inr (Or.inr (Or.inr ⟨rfl, rfl, rfl⟩)))) (hb hby d2_39) hr
        · show own_Pure (some (.ref r)) h0 n0 _ T32.heap _
          rw [e32]
          exact ⟨by rw [← hres]; simp only [if_neg hc4_18, if_pos hc11_28, if_pos hc22_31], N0, rfl⟩
      · -- pc 22: not a = w_Y
        obtain ⟨T33, X33, e33, st33⟩ := getS2 X30 hx hZ hown (host := "") (Or.inl (hw _ (List.mem_of_getElem? (i := 14) rfl))) Via.refl e30 S_Y (g := (mkF m 26 #[.val (.ref a), .val (.ref b)] [(.ref b)])) rfl (hb hby d2_26)
        have ck35 : ∀ t, Steps p.tables e below (T33.setTop (mkF m 29 #[.val (.ref a), .val (.ref b)] [(.ref w_Y), (.ref b)])) t → Steps p.tables e below (s₁.setTop (entryFrame m #[(.ref a), (.ref b)] 2)) t := by
          intro t kt
          refine ck29 _ ?_
          show Steps p.tables e below (T27.setTop (mkF m 11 #[.val (.ref a), .val (.ref b)] [(.ref w_X), (.ref b)])) _
          refine Jvm.RoadKit.acmp (g := (mkF m 11 #[.val (.ref a), .val (.ref b)] [(.ref w_X), (.ref b)])) X27 hx rfl rfl rfl (pc0 := 11) (pc' := 18) (same := true) rfl (hb hby d2_11) rfl (decide_eq_true (congrArg Value.ref hc11_28)) (by decide) (by decide) ?_
          show Steps p.tables e below (T27.setTop (mkF m 18 #[.val (.ref a), .val (.ref b)] [])) _
          refine XS.aloadN X27.here hx rfl (hb hby d2_18) rfl rfl ?_
          show Steps p.tables e below (T27.setTop (mkF m 19 #[.val (.ref a), .val (.ref b)] [(.ref a)])) _
          refine st30 _ ?_
          show Steps p.tables e below (T30.setTop (mkF m 22 #[.val (.ref a), .val (.ref b)] [(.ref w_Y), (.ref a)])) _
          refine Jvm.RoadKit.acmp (g := (mkF m 22 #[.val (.ref a), .val (.ref b)] [(.ref w_Y), (.ref a)])) X30 hx rfl rfl rfl (pc0 := 22) (pc' := 25) (same := false) rfl (hb hby d2_22) rfl (decide_eq_false fun q => hc22_31 (Value.ref.inj q)) (by decide) (by decide) ?_
          show Steps p.tables e below (T30.setTop (mkF m 25 #[.val (.ref a), .val (.ref b)] [])) _
          refine XS.aloadN X30.here hx rfl (hb hby d2_25) rfl rfl ?_
          show Steps p.tables e below (T30.setTop (mkF m 26 #[.val (.ref a), .val (.ref b)] [(.ref b)])) _
          refine st33 _ ?_
          exact kt
        by_cases hc29_34 : b = w_Y
        · -- pc 29: b = w_Y
          obtain ⟨T36, X36, e36, st36⟩ := getS2 X33 hx hZ hown (host := "") (Or.inl (hw _ (List.mem_of_getElem? (i := 17) rfl))) Via.refl e33 S_Z (g := (mkF m 36 #[.val (.ref a), .val (.ref b)] [])) rfl (hb hby d2_36)
          obtain ⟨fs, hr, hrun, hended, hW, hsame⟩ := X36.leave (v := some (.ref w_Z)) (fun h => by rw [Bd.returns] at h; cases h)
          refine ⟨_, _, ck35 _ ?_, hrun, hended, _, _, rfl, ?_, ⟨_, rfl⟩, hW, hsame.mono (by decide) (by decide)⟩
          · show Steps p.tables e below (T33.setTop (mkF m 29 #[.val (.ref a), .val (.ref b)] [(.ref w_Y), (.ref b)])) _
            refine Jvm.RoadKit.acmp (g := (mkF m 29 #[.val (.ref a), .val (.ref b)] [(.ref w_Y), (.ref b)])) X33 hx rfl rfl rfl (pc0 := 29) (pc' := 36) (same := true) rfl (hb hby d2_29) rfl (decide_eq_true (congrArg Value.ref hc29_34)) (by decide) (by decide) ?_
            show Steps p.tables e below (T33.setTop (mkF m 36 #[.val (.ref a), .val (.ref b)] [])) _
            refine st36 _ ?_
            show Steps p.tables e below (T36.setTop (mkF m 39 #[.val (.ref a), .val (.ref b)] [(.ref w_Z)])) _
            exact retOut X36 hx Bd.returns rfl (Or.inr (Or.inr (Or.inr (Or.inr ⟨rfl, rfl, rfl⟩)))) (hb hby d2_39) hr
          · show own_Pure (some (.ref r)) h0 n0 _ T36.heap _
            rw [e36]
            exact ⟨by rw [← hres]; simp only [if_neg hc4_18, if_pos hc11_28, if_neg hc22_31, if_pos hc29_34], N0, rfl⟩
        · -- pc 29: not b = w_Y
          obtain ⟨T37, X37, e37, st37⟩ := getS2 X33 hx hZ hown (host := "") (Or.inl (hw _ (List.mem_of_getElem? (i := 14) rfl))) Via.refl e33 S_Y (g := (mkF m 32 #[.val (.ref a), .val (.ref b)] [])) rfl (hb hby d2_32)
          obtain ⟨fs, hr, hrun, hended, hW, hsame⟩ := X37.leave (v := some (.ref w_Y)) (fun h => by rw [Bd.returns] at h; cases h)
          refine ⟨_, _, ck35 _ ?_, hrun, hended, _, _, rfl, ?_, ⟨_, rfl⟩, hW, hsame.mono (by decide) (by decide)⟩
          · show Steps p.tables e below (T33.setTop (mkF m 29 #[.val (.ref a), .val (.ref b)] [(.ref w_Y), (.ref b)])) _
            refine Jvm.RoadKit.acmp (g := (mkF m 29 #[.val (.ref a), .val (.ref b)] [(.ref w_Y), (.ref b)])) X33 hx rfl rfl rfl (pc0 := 29) (pc' := 32) (same := false) rfl (hb hby d2_29) rfl (decide_eq_false fun q => hc29_34 (Value.ref.inj q)) (by decide) (by decide) ?_
            show Steps p.tables e below (T33.setTop (mkF m 32 #[.val (.ref a), .val (.ref b)] [])) _
            refine st37 _ ?_
            show Steps p.tables e below (T37.setTop (mkF m 35 #[.val (.ref a), .val (.ref b)] [(.ref w_Y)])) _
            exact retOut X37 hx Bd.returns rfl (Or.inr (Or.inr (Or.inr (Or.inr ⟨rfl, rfl, rfl⟩)))) (hb hby d2_35) hr
          · show own_Pure (some (.ref r)) h0 n0 _ T37.heap _
            rw [e37]
            exact ⟨by rw [← hres]; simp only [if_neg hc4_18, if_pos hc11_28, if_neg hc22_31, if_neg hc29_34], N0, rfl⟩
    · -- pc 11: not b = w_X
      obtain ⟨T38, X38, e38, st38⟩ := getS2 X27 hx hZ hown (host := "") (Or.inl (hw _ (List.mem_of_getElem? (i := 13) rfl))) Via.refl e27 S_X (g := (mkF m 14 #[.val (.ref a), .val (.ref b)] [])) rfl (hb hby d2_14)
      obtain ⟨fs, hr, hrun, hended, hW, hsame⟩ := X38.leave (v := some (.ref w_X)) (fun h => by rw [Bd.returns] at h; cases h)
      refine ⟨_, _, ck29 _ ?_, hrun, hended, _, _, rfl, ?_, ⟨_, rfl⟩, hW, hsame.mono (by decide) (by decide)⟩
      · show Steps p.tables e below (T27.setTop (mkF m 11 #[.val (.ref a), .val (.ref b)] [(.ref w_X), (.ref b)])) _
        refine Jvm.RoadKit.acmp (g := (mkF m 11 #[.val (.ref a), .val (.ref b)] [(.ref w_X), (.ref b)])) X27 hx rfl rfl rfl (pc0 := 11) (pc' := 14) (same := false) rfl (hb hby d2_11) rfl (decide_eq_false fun q => hc11_28 (Value.ref.inj q)) (by decide) (by decide) ?_
        show Steps p.tables e below (T27.setTop (mkF m 14 #[.val (.ref a), .val (.ref b)] [])) _
        refine st38 _ ?_
        show Steps p.tables e below (T38.setTop (mkF m 17 #[.val (.ref a), .val (.ref b)] [(.ref w_X)])) _
        exact retOut X38 hx Bd.returns rfl (Or.inr (Or.inr (Or.inr (Or.inr ⟨rfl, rfl, rfl⟩)))) (hb hby d2_17) hr
      · show own_Pure (some (.ref r)) h0 n0 _ T38.heap _
        rw [e38]
        exact ⟨by rw [← hres]; simp only [if_neg hc4_18, if_neg hc11_28], N0, rfl⟩
theorem pd_31 : parseMethodDescriptor "(I)Lcom/example/gimbalwise/gimbalwise/Axis;" = some ⟨[.int], some (.object "com/example/gimbalwise/gimbalwise/Axis")⟩ := by decide +kernel
theorem pd_32 : parseMethodDescriptor "(Lcom/example/gimbalwise/gimbalwise/Axis;Lcom/example/gimbalwise/gimbalwise/Axis;)Lcom/example/gimbalwise/gimbalwise/Axis;" = some ⟨[(.object "com/example/gimbalwise/gimbalwise/Axis"), (.object "com/example/gimbalwise/gimbalwise/Axis")], some (.object "com/example/gimbalwise/gimbalwise/Axis")⟩ := by decide +kernel
theorem ef_rm_law (m : MethodId) (x0 : Int32) (x1 : Int32) : entryFrame m #[(.int x0), (.int x1)] maxLocals = mkF m 0 #[.val (.int x0), .val (.int x1), .unset, .unset, .unset, .unset, .unset, .unset] [] := by first | (simp [entryFrame, mkF, argsToLocals, Value.category, maxLocals]; done) | rfl
set_option maxRecDepth 65536 in
set_option maxHeartbeats 40000000 in
theorem rm_law (l : Launch) (Z : State) (a0 : Array Value) (hw : ∀ d ∈ tables_1, d.before a0 Z = true) (ws : List Jvm.Cond) (p0 : Int32) (p1 : Int32) (h0 : Heap) (n0 : Nat) (Z0 : n0 ≤ h0.size) (w_X w_Z w_Y : Addr) (hWd : own_W Z h0 w_X w_Z w_Y) :
    MetFree l x (head1 (Jvm.Cond.code x code maxLocals ret :: ws) room_1) (fun aQ UQ => aQ = #[(.int p0), (.int p1)] ∧ Z.Warmed39 UQ.vm ∧ UQ.heap = h0) (fun _ _ _ _ _ => True) (fun _ UQ oQ UR => ∃ vQ LQ, oQ = .returned vQ ∧ own_Pure (some (.int 1)) h0 n0 vQ UR.heap LQ ∧ FrameEnd UQ oQ UR LQ room_1.cells room_1.slots) := by
  refine MetFree.of_bodySF (plainFor_of_name pn_11) hisR ?_
  intro p e s m args below meth c s₁ Bd hml0 hP hK
  obtain ⟨rfl, hZ, hh⟩ := hP
  have hx := Bd.exec
  have hby := Bd.bytes
  have hml : c.maxLocals = 8 := hml0
  have hown : s.vm.findClass "com/example/gimbalwise/gimbalwise/AxisRemainingPinLaw" = some m.cls := findClass_of_methodNamed Bd.named
  have hnm := (name_of_methodNamed Bd.named Bd.method).1
  have X0 : Stand p l e room_1 s m #[(.int p0), (.int p1)] below meth c s₁ [] 0 0 := Stand.of_body Bd
  have e0 : s₁.heap = h0 := by rw [← hh, Bd.state]; rfl
  have N0 := Fr.nil n0
  have pre0 : ∀ t, Steps p.tables e below (s₁.setTop (mkF m 0 #[.val (.int p0), .val (.int p1), .unset, .unset, .unset, .unset, .unset, .unset] [])) t → Steps p.tables e below (s₁.setTop (entryFrame m #[(.int p0), (.int p1)] maxLocals)) t := fun t kq => castTop (ef_rm_law m p0 p1) kq
  have hWd' := hWd
  obtain ⟨S_X, E_X, F_X_ordinal, S_Z, E_Z, F_Z_ordinal, S_Y, E_Y, F_Y_ordinal⟩ := hWd'
  have ck39 : ∀ t, Steps p.tables e below (s₁.setTop (mkF m 6 #[.val (.int p0), .val (.int p1), .unset, .unset, .unset, .unset, .unset, .unset] [(.int ((p0 &&& (2147483647 : Int32)) % (3 : Int32)))])) t → Steps p.tables e below (s₁.setTop (entryFrame m #[(.int p0), (.int p1)] maxLocals)) t := by
    intro t kt
    refine pre0 _ ?_
    show Steps p.tables e below (s₁.setTop (mkF m 0 #[.val (.int p0), .val (.int p1), .unset, .unset, .unset, .unset, .unset, .unset] [])) _
    refine XS.iloadN X0.here hx rfl (hb hby at_0) rfl ?_
    show Steps p.tables e below (s₁.setTop (mkF m 1 #[.val (.int p0), .val (.int p1), .unset, .unset, .unset, .unset, .unset, .unset] [(.int p0)])) _
    refine X0.ldcInt hx hown (mvT hZ (hw _ (List.mem_of_getElem? (i := 0) rfl))) (g := (mkF m 1 #[.val (.int p0), .val (.int p1), .unset, .unset, .unset, .unset, .unset, .unset] [(.int p0)])) rfl (hb hby at_1) _ ?_
    show Steps p.tables e below (s₁.setTop (mkF m 3 #[.val (.int p0), .val (.int p1), .unset, .unset, .unset, .unset, .unset, .unset] [(.int (2147483647 : Int32)), (.int p0)])) _
    refine XS.iand X0.here hx rfl (hb hby at_3) rfl ?_
    show Steps p.tables e below (s₁.setTop (mkF m 4 #[.val (.int p0), .val (.int p1), .unset, .unset, .unset, .unset, .unset, .unset] [(.int (p0 &&& (2147483647 : Int32)))])) _
    refine XS.iconst X0.here hx rfl (hb hby at_4) ?_
    show Steps p.tables e below (s₁.setTop (mkF m 5 #[.val (.int p0), .val (.int p1), .unset, .unset, .unset, .unset, .unset, .unset] [(.int (3 : Int32)), (.int (p0 &&& (2147483647 : Int32)))])) _
    refine Jvm.RoadKit.iremM (g := (mkF m 5 #[.val (.int p0), .val (.int p1), .unset, .unset, .unset, .unset, .unset, .unset] [(.int (3 : Int32)), (.int (p0 &&& (2147483647 : Int32)))])) X0 hx rfl (hb hby at_5) rfl (by decide) ?_
    exact kt
  rcases own_rem3 p0 with hv40 | hv41 | hv42
  · -- (0 : Int32)
    have ck43 : ∀ t, Steps p.tables e below (s₁.setTop (mkF m 11 #[.val (.int p0), .val (.int p1), .val (.int (0 : Int32)), .unset, .unset, .unset, .unset, .unset] [(.int (p1 &&& (1 : Int32))), (.int (1 : Int32))])) t → Steps p.tables e below (s₁.setTop (entryFrame m #[(.int p0), (.int p1)] maxLocals)) t := by
      intro t kt
      refine ck39 _ ?_
      show Steps p.tables e below (s₁.setTop (mkF m 6 #[.val (.int p0), .val (.int p1), .unset, .unset, .unset, .unset, .unset, .unset] [(.int ((p0 &&& (2147483647 : Int32)) % (3 : Int32)))])) _
      rw [hv40]
      show Steps p.tables e below (s₁.setTop (mkF m 6 #[.val (.int p0), .val (.int p1), .unset, .unset, .unset, .unset, .unset, .unset] [(.int (0 : Int32))])) _
      refine XS.istoreN X0.here hx rfl (hb hby at_6) rfl (l' := #[.val (.int p0), .val (.int p1), .val (.int (0 : Int32)), .unset, .unset, .unset, .unset, .unset]) rfl ?_
      show Steps p.tables e below (s₁.setTop (mkF m 7 #[.val (.int p0), .val (.int p1), .val (.int (0 : Int32)), .unset, .unset, .unset, .unset, .unset] [])) _
      refine XS.iconst X0.here hx rfl (hb hby at_7) ?_
      show Steps p.tables e below (s₁.setTop (mkF m 8 #[.val (.int p0), .val (.int p1), .val (.int (0 : Int32)), .unset, .unset, .unset, .unset, .unset] [(.int (1 : Int32))])) _
      refine XS.iloadN X0.here hx rfl (hb hby at_8) rfl ?_
      show Steps p.tables e below (s₁.setTop (mkF m 9 #[.val (.int p0), .val (.int p1), .val (.int (0 : Int32)), .unset, .unset, .unset, .unset, .unset] [(.int p1), (.int (1 : Int32))])) _
      refine XS.iconst X0.here hx rfl (hb hby at_9) ?_
      show Steps p.tables e below (s₁.setTop (mkF m 10 #[.val (.int p0), .val (.int p1), .val (.int (0 : Int32)), .unset, .unset, .unset, .unset, .unset] [(.int (1 : Int32)), (.int p1), (.int (1 : Int32))])) _
      refine XS.iand X0.here hx rfl (hb hby at_10) rfl ?_
      exact kt
    rcases own_and1 p1 with hv44 | hv45
    · -- (0 : Int32)
      obtain ⟨_, _, ⟨T46, L46, k46, n46⟩, -, X46, ⟨Lc46, hQ46, l46, y46, z46⟩, st46⟩ := Jvm.LawKit.callS X0 hx (y := (⟨"com/example/gimbalwise/gimbalwise/AxisRemainingPinLaw", "axis", "(I)Lcom/example/gimbalwise/gimbalwise/Axis;"⟩ : MethodName)) hown (mvT hZ (hw _ (List.mem_of_getElem? (i := 1) rfl))) (mvT hZ (hw _ (List.mem_of_getElem? (i := 2) rfl))) (mvT hZ (hw _ (List.mem_of_getElem? (i := 3) rfl))) (mvT hZ (hw _ (List.mem_of_getElem? (i := 4) rfl))) (by decide) (backOf (W := 0) (rm_axis l Z a0 hw [] (0 : Int32) h0 n0 Z0 w_X w_Z w_Y hWd w_X (by first | rfl | decide | simp)) hZ (hw _ (List.mem_of_getElem? (i := 4) rfl)) (hw _ (List.mem_of_getElem? (i := 3) rfl)) (by decide) (by decide)) (g := (mkF m 21 #[.val (.int p0), .val (.int p1), .val (.int (0 : Int32)), .val (.int (1 : Int32)), .val (.int (1 : Int32)), .unset, .unset, .unset] [(.int (0 : Int32))])) rfl (by rw [hml]; rfl) (argsL := [(.int (0 : Int32))]) (rest := []) (lenOf pd_31 rfl) rfl (by show 2 * 0 + _ ≤ _; exact Nat.le_of_eq rfl) (hb hby at_21) (fun _ _ => ⟨rfl, e0, (by decide : 0 + 0 ≤ _), (by decide : 0 + 0 ≤ _)⟩)
      dsimp only [Pt.U, Pt.locs, Pt.cells, Pt.slots] at X46 l46 y46 z46 st46 hQ46
      subst l46 y46 z46
      obtain ⟨rfl, N46q, e46⟩ := hQ46
      have N46 := Fr.app N0 N46q
      obtain ⟨_, _, ⟨T47, L47, k47, n47⟩, -, X47, ⟨Lc47, hQ47, l47, y47, z47⟩, st47⟩ := Jvm.LawKit.callS X46 hx (y := (⟨"com/example/gimbalwise/gimbalwise/AxisRemainingPinLaw", "axis", "(I)Lcom/example/gimbalwise/gimbalwise/Axis;"⟩ : MethodName)) hown (mvT hZ (hw _ (List.mem_of_getElem? (i := 1) rfl))) (mvT hZ (hw _ (List.mem_of_getElem? (i := 2) rfl))) (mvT hZ (hw _ (List.mem_of_getElem? (i := 3) rfl))) (mvT hZ (hw _ (List.mem_of_getElem? (i := 4) rfl))) (by decide) (backOf (W := 0) (rm_axis l Z a0 hw [] (1 : Int32) h0 n0 Z0 w_X w_Z w_Y hWd w_Y (by first | rfl | decide | simp)) hZ (hw _ (List.mem_of_getElem? (i := 4) rfl)) (hw _ (List.mem_of_getElem? (i := 3) rfl)) (by decide) (by decide)) (g := (mkF m 28 #[.val (.int p0), .val (.int p1), .val (.int (0 : Int32)), .val (.int (1 : Int32)), .val (.int (1 : Int32)), .val (.ref w_X), .unset, .unset] [(.int (1 : Int32))])) rfl (by rw [hml]; rfl) (argsL := [(.int (1 : Int32))]) (rest := []) (lenOf pd_31 rfl) rfl (by show 2 * 0 + _ ≤ _; exact Nat.le_of_eq rfl) (hb hby at_28) (fun _ _ => ⟨rfl, e46, (by decide : 0 + 0 ≤ _), (by decide : 0 + 0 ≤ _)⟩)
      dsimp only [Pt.U, Pt.locs, Pt.cells, Pt.slots] at X47 l47 y47 z47 st47 hQ47
      subst l47 y47 z47
      obtain ⟨rfl, N47q, e47⟩ := hQ47
      have N47 := Fr.app N46 N47q
      obtain ⟨_, _, ⟨T48, L48, k48, n48⟩, -, X48, ⟨Lc48, hQ48, l48, y48, z48⟩, st48⟩ := Jvm.LawKit.callS X47 hx (y := (⟨"com/example/gimbalwise/gimbalwise/Axis", "remaining", "(Lcom/example/gimbalwise/gimbalwise/Axis;Lcom/example/gimbalwise/gimbalwise/Axis;)Lcom/example/gimbalwise/gimbalwise/Axis;"⟩ : MethodName)) hown (mvT hZ (hw _ (List.mem_of_getElem? (i := 10) rfl))) (mvT hZ (hw _ (List.mem_of_getElem? (i := 11) rfl))) (mvT hZ (hw _ (List.mem_of_getElem? (i := 6) rfl))) (mvT hZ (hw _ (List.mem_of_getElem? (i := 12) rfl))) (by decide) (backOf (W := 0) (rm_rem l Z a0 hw [] w_X w_Y h0 n0 Z0 w_X w_Z w_Y hWd w_Z (by simp [(F_X_ordinal.ne F_Y_ordinal (by decide)), (F_X_ordinal.ne F_Z_ordinal (by decide)), (F_Y_ordinal.ne F_X_ordinal (by decide)), (F_Y_ordinal.ne F_Z_ordinal (by decide)), (F_Z_ordinal.ne F_X_ordinal (by decide)), (F_Z_ordinal.ne F_Y_ordinal (by decide))])) hZ (hw _ (List.mem_of_getElem? (i := 12) rfl)) (hw _ (List.mem_of_getElem? (i := 6) rfl)) (by decide) (by decide)) (g := (mkF m 37 #[.val (.int p0), .val (.int p1), .val (.int (0 : Int32)), .val (.int (1 : Int32)), .val (.int (1 : Int32)), .val (.ref w_X), .val (.ref w_Y), .unset] [(.ref w_Y), (.ref w_X)])) rfl (by rw [hml]; rfl) (argsL := [(.ref w_X), (.ref w_Y)]) (rest := []) (lenOf pd_32 rfl) rfl (by show 2 * 0 + _ ≤ _; exact Nat.le_of_eq rfl) (hb hby at_37) (fun _ _ => ⟨rfl, e47, (by decide : 0 + 0 ≤ _), (by decide : 0 + 0 ≤ _)⟩)
      dsimp only [Pt.U, Pt.locs, Pt.cells, Pt.slots] at X48 l48 y48 z48 st48 hQ48
      subst l48 y48 z48
      obtain ⟨rfl, N48q, e48⟩ := hQ48
      have N48 := Fr.app N47 N48q
      obtain ⟨fs, hr, hrun, hended, hW, hsame⟩ := X48.leave (v := some (.int (1 : Int32))) (fun h => by rw [Bd.returns] at h; cases h)
      refine ⟨_, _, ck43 _ ?_, hrun, hended, _, _, rfl, ?_, ⟨_, rfl⟩, hW, hsame.mono (by decide) (by decide)⟩
      · show Steps p.tables e below (s₁.setTop (mkF m 11 #[.val (.int p0), .val (.int p1), .val (.int (0 : Int32)), .unset, .unset, .unset, .unset, .unset] [(.int (p1 &&& (1 : Int32))), (.int (1 : Int32))])) _
        rw [hv44]
        show Steps p.tables e below (s₁.setTop (mkF m 11 #[.val (.int p0), .val (.int p1), .val (.int (0 : Int32)), .unset, .unset, .unset, .unset, .unset] [(.int (0 : Int32)), (.int (1 : Int32))])) _
        refine XS.iadd X0.here hx rfl (hb hby at_11) rfl ?_
        show Steps p.tables e below (s₁.setTop (mkF m 12 #[.val (.int p0), .val (.int p1), .val (.int (0 : Int32)), .unset, .unset, .unset, .unset, .unset] [(.int (1 : Int32))])) _
        refine XS.istoreN X0.here hx rfl (hb hby at_12) rfl (l' := #[.val (.int p0), .val (.int p1), .val (.int (0 : Int32)), .val (.int (1 : Int32)), .unset, .unset, .unset, .unset]) rfl ?_
        show Steps p.tables e below (s₁.setTop (mkF m 13 #[.val (.int p0), .val (.int p1), .val (.int (0 : Int32)), .val (.int (1 : Int32)), .unset, .unset, .unset, .unset] [])) _
        refine XS.iloadN X0.here hx rfl (hb hby at_13) rfl ?_
        show Steps p.tables e below (s₁.setTop (mkF m 14 #[.val (.int p0), .val (.int p1), .val (.int (0 : Int32)), .val (.int (1 : Int32)), .unset, .unset, .unset, .unset] [(.int (0 : Int32))])) _
        refine XS.iloadN X0.here hx rfl (hb hby at_14) rfl ?_
        show Steps p.tables e below (s₁.setTop (mkF m 15 #[.val (.int p0), .val (.int p1), .val (.int (0 : Int32)), .val (.int (1 : Int32)), .unset, .unset, .unset, .unset] [(.int (1 : Int32)), (.int (0 : Int32))])) _
        refine XS.iadd X0.here hx rfl (hb hby at_15) rfl ?_
        show Steps p.tables e below (s₁.setTop (mkF m 16 #[.val (.int p0), .val (.int p1), .val (.int (0 : Int32)), .val (.int (1 : Int32)), .unset, .unset, .unset, .unset] [(.int (1 : Int32))])) _
        refine XS.iconst X0.here hx rfl (hb hby at_16) ?_
        show Steps p.tables e below (s₁.setTop (mkF m 17 #[.val (.int p0), .val (.int p1), .val (.int (0 : Int32)), .val (.int (1 : Int32)), .unset, .unset, .unset, .unset] [(.int (3 : Int32)), (.int (1 : Int32))])) _
        refine Jvm.RoadKit.iremM (g := (mkF m 17 #[.val (.int p0), .val (.int p1), .val (.int (0 : Int32)), .val (.int (1 : Int32)), .unset, .unset, .unset, .unset] [(.int (3 : Int32)), (.int (1 : Int32))])) X0 hx rfl (hb hby at_17) rfl (by decide) ?_
        show Steps p.tables e below (s₁.setTop (mkF m 18 #[.val (.int p0), .val (.int p1), .val (.int (0 : Int32)), .val (.int (1 : Int32)), .unset, .unset, .unset, .unset] [(.int (1 : Int32))])) _
        refine XS.istore X0.here hx rfl (hb hby at_18) rfl (l' := #[.val (.int p0), .val (.int p1), .val (.int (0 : Int32)), .val (.int (1 : Int32)), .val (.int (1 : Int32)), .unset, .unset, .unset]) rfl ?_
        show Steps p.tables e below (s₁.setTop (mkF m 20 #[.val (.int p0), .val (.int p1), .val (.int (0 : Int32)), .val (.int (1 : Int32)), .val (.int (1 : Int32)), .unset, .unset, .unset] [])) _
        refine XS.iloadN X0.here hx rfl (hb hby at_20) rfl ?_
        show Steps p.tables e below (s₁.setTop (mkF m 21 #[.val (.int p0), .val (.int p1), .val (.int (0 : Int32)), .val (.int (1 : Int32)), .val (.int (1 : Int32)), .unset, .unset, .unset] [(.int (0 : Int32))])) _
        refine st46 _ ?_
        show Steps p.tables e below (T46.setTop (mkF m 24 #[.val (.int p0), .val (.int p1), .val (.int (0 : Int32)), .val (.int (1 : Int32)), .val (.int (1 : Int32)), .unset, .unset, .unset] [(.ref w_X)])) _
        refine XS.astore X46.here hx rfl (hb hby at_24) rfl rfl (l' := #[.val (.int p0), .val (.int p1), .val (.int (0 : Int32)), .val (.int (1 : Int32)), .val (.int (1 : Int32)), .val (.ref w_X), .unset, .unset]) rfl ?_
        show Steps p.tables e below (T46.setTop (mkF m 26 #[.val (.int p0), .val (.int p1), .val (.int (0 : Int32)), .val (.int (1 : Int32)), .val (.int (1 : Int32)), .val (.ref w_X), .unset, .unset] [])) _
        refine XS.iload X46.here hx rfl (hb hby at_26) rfl ?_
        show Steps p.tables e below (T46.setTop (mkF m 28 #[.val (.int p0), .val (.int p1), .val (.int (0 : Int32)), .val (.int (1 : Int32)), .val (.int (1 : Int32)), .val (.ref w_X), .unset, .unset] [(.int (1 : Int32))])) _
        refine st47 _ ?_
        show Steps p.tables e below (T47.setTop (mkF m 31 #[.val (.int p0), .val (.int p1), .val (.int (0 : Int32)), .val (.int (1 : Int32)), .val (.int (1 : Int32)), .val (.ref w_X), .unset, .unset] [(.ref w_Y)])) _
        refine XS.astore X47.here hx rfl (hb hby at_31) rfl rfl (l' := #[.val (.int p0), .val (.int p1), .val (.int (0 : Int32)), .val (.int (1 : Int32)), .val (.int (1 : Int32)), .val (.ref w_X), .val (.ref w_Y), .unset]) rfl ?_
        show Steps p.tables e below (T47.setTop (mkF m 33 #[.val (.int p0), .val (.int p1), .val (.int (0 : Int32)), .val (.int (1 : Int32)), .val (.int (1 : Int32)), .val (.ref w_X), .val (.ref w_Y), .unset] [])) _
        refine XS.aload X47.here hx rfl (hb hby at_33) rfl rfl ?_
        show Steps p.tables e below (T47.setTop (mkF m 35 #[.val (.int p0), .val (.int p1), .val (.int (0 : Int32)), .val (.int (1 : Int32)), .val (.int (1 : Int32)), .val (.ref w_X), .val (.ref w_Y), .unset] [(.ref w_X)])) _
        refine XS.aload X47.here hx rfl (hb hby at_35) rfl rfl ?_
        show Steps p.tables e below (T47.setTop (mkF m 37 #[.val (.int p0), .val (.int p1), .val (.int (0 : Int32)), .val (.int (1 : Int32)), .val (.int (1 : Int32)), .val (.ref w_X), .val (.ref w_Y), .unset] [(.ref w_Y), (.ref w_X)])) _
        refine st48 _ ?_
        show Steps p.tables e below (T48.setTop (mkF m 40 #[.val (.int p0), .val (.int p1), .val (.int (0 : Int32)), .val (.int (1 : Int32)), .val (.int (1 : Int32)), .val (.ref w_X), .val (.ref w_Y), .unset] [(.ref w_Z)])) _
        refine XS.astore X48.here hx rfl (hb hby at_40) rfl rfl (l' := #[.val (.int p0), .val (.int p1), .val (.int (0 : Int32)), .val (.int (1 : Int32)), .val (.int (1 : Int32)), .val (.ref w_X), .val (.ref w_Y), .val (.ref w_Z)]) rfl ?_
        show Steps p.tables e below (T48.setTop (mkF m 42 #[.val (.int p0), .val (.int p1), .val (.int (0 : Int32)), .val (.int (1 : Int32)), .val (.int (1 : Int32)), .val (.ref w_X), .val (.ref w_Y), .val (.ref w_Z)] [])) _
        refine XS.aload X48.here hx rfl (hb hby at_42) rfl rfl ?_
        show Steps p.tables e below (T48.setTop (mkF m 44 #[.val (.int p0), .val (.int p1), .val (.int (0 : Int32)), .val (.int (1 : Int32)), .val (.int (1 : Int32)), .val (.ref w_X), .val (.ref w_Y), .val (.ref w_Z)] [(.ref w_Z)])) _
        refine XS.ifnullNo X48.here hx rfl (hb hby at_44) rfl ?_
        show Steps p.tables e below (T48.setTop (mkF m 47 #[.val (.int p0), .val (.int p1), .val (.int (0 : Int32)), .val (.int (1 : Int32)), .val (.int (1 : Int32)), .val (.ref w_X), .val (.ref w_Y), .val (.ref w_Z)] [])) _
        refine XS.aload X48.here hx rfl (hb hby at_47) rfl rfl ?_
        show Steps p.tables e below (T48.setTop (mkF m 49 #[.val (.int p0), .val (.int p1), .val (.int (0 : Int32)), .val (.int (1 : Int32)), .val (.int (1 : Int32)), .val (.ref w_X), .val (.ref w_Y), .val (.ref w_Z)] [(.ref w_Z)])) _
        refine XS.aload X48.here hx rfl (hb hby at_49) rfl rfl ?_
        show Steps p.tables e below (T48.setTop (mkF m 51 #[.val (.int p0), .val (.int p1), .val (.int (0 : Int32)), .val (.int (1 : Int32)), .val (.int (1 : Int32)), .val (.ref w_X), .val (.ref w_Y), .val (.ref w_Z)] [(.ref w_X), (.ref w_Z)])) _
        refine Jvm.RoadKit.acmp (g := (mkF m 51 #[.val (.int p0), .val (.int p1), .val (.int (0 : Int32)), .val (.int (1 : Int32)), .val (.int (1 : Int32)), .val (.ref w_X), .val (.ref w_Y), .val (.ref w_Z)] [(.ref w_X), (.ref w_Z)])) X48 hx rfl rfl rfl (pc0 := 51) (pc' := 54) (same := false) rfl (hb hby at_51) rfl (decide_eq_false fun q => (F_Z_ordinal.ne F_X_ordinal (by decide)) (Value.ref.inj q)) (by decide) (by decide) ?_
        show Steps p.tables e below (T48.setTop (mkF m 54 #[.val (.int p0), .val (.int p1), .val (.int (0 : Int32)), .val (.int (1 : Int32)), .val (.int (1 : Int32)), .val (.ref w_X), .val (.ref w_Y), .val (.ref w_Z)] [])) _
        refine XS.aload X48.here hx rfl (hb hby at_54) rfl rfl ?_
        show Steps p.tables e below (T48.setTop (mkF m 56 #[.val (.int p0), .val (.int p1), .val (.int (0 : Int32)), .val (.int (1 : Int32)), .val (.int (1 : Int32)), .val (.ref w_X), .val (.ref w_Y), .val (.ref w_Z)] [(.ref w_Z)])) _
        refine XS.aload X48.here hx rfl (hb hby at_56) rfl rfl ?_
        show Steps p.tables e below (T48.setTop (mkF m 58 #[.val (.int p0), .val (.int p1), .val (.int (0 : Int32)), .val (.int (1 : Int32)), .val (.int (1 : Int32)), .val (.ref w_X), .val (.ref w_Y), .val (.ref w_Z)] [(.ref w_Y), (.ref w_Z)])) _
        refine Jvm.RoadKit.acmp (g := (mkF m 58 #[.val (.int p0), .val (.int p1), .val (.int (0 : Int32)), .val (.int (1 : Int32)), .val (.int (1 : Int32)), .val (.ref w_X), .val (.ref w_Y), .val (.ref w_Z)] [(.ref w_Y), (.ref w_Z)])) X48 hx rfl rfl rfl (pc0 := 58) (pc' := 61) (same := false) rfl (hb hby at_58) rfl (decide_eq_false fun q => (F_Z_ordinal.ne F_Y_ordinal (by decide)) (Value.ref.inj q)) (by decide) (by decide) ?_
        show Steps p.tables e below (T48.setTop (mkF m 61 #[.val (.int p0), .val (.int p1), .val (.int (0 : Int32)), .val (.int (1 : Int32)), .val (.int (1 : Int32)), .val (.ref w_X), .val (.ref w_Y), .val (.ref w_Z)] [])) _
        refine XS.iconst X48.here hx rfl (hb hby at_61) ?_
        show Steps p.tables e below (T48.setTop (mkF m 62 #[.val (.int p0), .val (.int p1), .val (.int (0 : Int32)), .val (.int (1 : Int32)), .val (.int (1 : Int32)), .val (.ref w_X), .val (.ref w_Y), .val (.ref w_Z)] [(.int (1 : Int32))])) _
        refine XS.goto X48.here hx rfl (pc0 := 62) (pc' := 66) rfl (hb hby at_62) (by decide) (by decide) ?_
        show Steps p.tables e below (T48.setTop (mkF m 66 #[.val (.int p0), .val (.int p1), .val (.int (0 : Int32)), .val (.int (1 : Int32)), .val (.int (1 : Int32)), .val (.ref w_X), .val (.ref w_Y), .val (.ref w_Z)] [(.int (1 : Int32))])) _
        exact retN X48 hx (t := .boolean) Bd.returns (by simp) (hb hby at_66) hr
      · show own_Pure (some (.int 1)) h0 n0 _ T48.heap _
        rw [e48]
        exact ⟨rfl, N48, rfl⟩
    · -- (1 : Int32)
      obtain ⟨_, _, ⟨T49, L49, k49, n49⟩, -, X49, ⟨Lc49, hQ49, l49, y49, z49⟩, st49⟩ := Jvm.LawKit.callS X0 hx (y := (⟨"com/example/gimbalwise/gimbalwise/AxisRemainingPinLaw", "axis", "(I)Lcom/example/gimbalwise/gimbalwise/Axis;"⟩ : MethodName)) hown (mvT hZ (hw _ (List.mem_of_getElem? (i := 1) rfl))) (mvT hZ (hw _ (List.mem_of_getElem? (i := 2) rfl))) (mvT hZ (hw _ (List.mem_of_getElem? (i := 3) rfl))) (mvT hZ (hw _ (List.mem_of_getElem? (i := 4) rfl))) (by decide) (backOf (W := 0) (rm_axis l Z a0 hw [] (0 : Int32) h0 n0 Z0 w_X w_Z w_Y hWd w_X (by first | rfl | decide | simp)) hZ (hw _ (List.mem_of_getElem? (i := 4) rfl)) (hw _ (List.mem_of_getElem? (i := 3) rfl)) (by decide) (by decide)) (g := (mkF m 21 #[.val (.int p0), .val (.int p1), .val (.int (0 : Int32)), .val (.int (2 : Int32)), .val (.int (2 : Int32)), .unset, .unset, .unset] [(.int (0 : Int32))])) rfl (by rw [hml]; rfl) (argsL := [(.int (0 : Int32))]) (rest := []) (lenOf pd_31 rfl) rfl (by show 2 * 0 + _ ≤ _; exact Nat.le_of_eq rfl) (hb hby at_21) (fun _ _ => ⟨rfl, e0, (by decide : 0 + 0 ≤ _), (by decide : 0 + 0 ≤ _)⟩)
      dsimp only [Pt.U, Pt.locs, Pt.cells, Pt.slots] at X49 l49 y49 z49 st49 hQ49
      subst l49 y49 z49
      obtain ⟨rfl, N49q, e49⟩ := hQ49
      have N49 := Fr.app N0 N49q
      obtain ⟨_, _, ⟨T50, L50, k50, n50⟩, -, X50, ⟨Lc50, hQ50, l50, y50, z50⟩, st50⟩ := Jvm.LawKit.callS X49 hx (y := (⟨"com/example/gimbalwise/gimbalwise/AxisRemainingPinLaw", "axis", "(I)Lcom/example/gimbalwise/gimbalwise/Axis;"⟩ : MethodName)) hown (mvT hZ (hw _ (List.mem_of_getElem? (i := 1) rfl))) (mvT hZ (hw _ (List.mem_of_getElem? (i := 2) rfl))) (mvT hZ (hw _ (List.mem_of_getElem? (i := 3) rfl))) (mvT hZ (hw _ (List.mem_of_getElem? (i := 4) rfl))) (by decide) (backOf (W := 0) (rm_axis l Z a0 hw [] (2 : Int32) h0 n0 Z0 w_X w_Z w_Y hWd w_Z (by first | rfl | decide | simp)) hZ (hw _ (List.mem_of_getElem? (i := 4) rfl)) (hw _ (List.mem_of_getElem? (i := 3) rfl)) (by decide) (by decide)) (g := (mkF m 28 #[.val (.int p0), .val (.int p1), .val (.int (0 : Int32)), .val (.int (2 : Int32)), .val (.int (2 : Int32)), .val (.ref w_X), .unset, .unset] [(.int (2 : Int32))])) rfl (by rw [hml]; rfl) (argsL := [(.int (2 : Int32))]) (rest := []) (lenOf pd_31 rfl) rfl (by show 2 * 0 + _ ≤ _; exact Nat.le_of_eq rfl) (hb hby at_28) (fun _ _ => ⟨rfl, e49, (by decide : 0 + 0 ≤ _), (by decide : 0 + 0 ≤ _)⟩)
      dsimp only [Pt.U, Pt.locs, Pt.cells, Pt.slots] at X50 l50 y50 z50 st50 hQ50
      subst l50 y50 z50
      obtain ⟨rfl, N50q, e50⟩ := hQ50
      have N50 := Fr.app N49 N50q
      obtain ⟨_, _, ⟨T51, L51, k51, n51⟩, -, X51, ⟨Lc51, hQ51, l51, y51, z51⟩, st51⟩ := Jvm.LawKit.callS X50 hx (y := (⟨"com/example/gimbalwise/gimbalwise/Axis", "remaining", "(Lcom/example/gimbalwise/gimbalwise/Axis;Lcom/example/gimbalwise/gimbalwise/Axis;)Lcom/example/gimbalwise/gimbalwise/Axis;"⟩ : MethodName)) hown (mvT hZ (hw _ (List.mem_of_getElem? (i := 10) rfl))) (mvT hZ (hw _ (List.mem_of_getElem? (i := 11) rfl))) (mvT hZ (hw _ (List.mem_of_getElem? (i := 6) rfl))) (mvT hZ (hw _ (List.mem_of_getElem? (i := 12) rfl))) (by decide) (backOf (W := 0) (rm_rem l Z a0 hw [] w_X w_Z h0 n0 Z0 w_X w_Z w_Y hWd w_Y (by simp [(F_X_ordinal.ne F_Y_ordinal (by decide)), (F_X_ordinal.ne F_Z_ordinal (by decide)), (F_Y_ordinal.ne F_X_ordinal (by decide)), (F_Y_ordinal.ne F_Z_ordinal (by decide)), (F_Z_ordinal.ne F_X_ordinal (by decide)), (F_Z_ordinal.ne F_Y_ordinal (by decide))])) hZ (hw _ (List.mem_of_getElem? (i := 12) rfl)) (hw _ (List.mem_of_getElem? (i := 6) rfl)) (by decide) (by decide)) (g := (mkF m 37 #[.val (.int p0), .val (.int p1), .val (.int (0 : Int32)), .val (.int (2 : Int32)), .val (.int (2 : Int32)), .val (.ref w_X), .val (.ref w_Z), .unset] [(.ref w_Z), (.ref w_X)])) rfl (by rw [hml]; rfl) (argsL := [(.ref w_X), (.ref w_Z)]) (rest := []) (lenOf pd_32 rfl) rfl (by show 2 * 0 + _ ≤ _; exact Nat.le_of_eq rfl) (hb hby at_37) (fun _ _ => ⟨rfl, e50, (by decide : 0 + 0 ≤ _), (by decide : 0 + 0 ≤ _)⟩)
      dsimp only [Pt.U, Pt.locs, Pt.cells, Pt.slots] at X51 l51 y51 z51 st51 hQ51
      subst l51 y51 z51
      obtain ⟨rfl, N51q, e51⟩ := hQ51
      have N51 := Fr.app N50 N51q
      obtain ⟨fs, hr, hrun, hended, hW, hsame⟩ := X51.leave (v := some (.int (1 : Int32))) (fun h => by rw [Bd.returns] at h; cases h)
      refine ⟨_, _, ck43 _ ?_, hrun, hended, _, _, rfl, ?_, ⟨_, rfl⟩, hW, hsame.mono (by decide) (by decide)⟩
      · show Steps p.tables e below (s₁.setTop (mkF m 11 #[.val (.int p0), .val (.int p1), .val (.int (0 : Int32)), .unset, .unset, .unset, .unset, .unset] [(.int (p1 &&& (1 : Int32))), (.int (1 : Int32))])) _
        rw [hv45]
        show Steps p.tables e below (s₁.setTop (mkF m 11 #[.val (.int p0), .val (.int p1), .val (.int (0 : Int32)), .unset, .unset, .unset, .unset, .unset] [(.int (1 : Int32)), (.int (1 : Int32))])) _
        refine XS.iadd X0.here hx rfl (hb hby at_11) rfl ?_
        show Steps p.tables e below (s₁.setTop (mkF m 12 #[.val (.int p0), .val (.int p1), .val (.int (0 : Int32)), .unset, .unset, .unset, .unset, .unset] [(.int (2 : Int32))])) _
        refine XS.istoreN X0.here hx rfl (hb hby at_12) rfl (l' := #[.val (.int p0), .val (.int p1), .val (.int (0 : Int32)), .val (.int (2 : Int32)), .unset, .unset, .unset, .unset]) rfl ?_
        show Steps p.tables e below (s₁.setTop (mkF m 13 #[.val (.int p0), .val (.int p1), .val (.int (0 : Int32)), .val (.int (2 : Int32)), .unset, .unset, .unset, .unset] [])) _
        refine XS.iloadN X0.here hx rfl (hb hby at_13) rfl ?_
        show Steps p.tables e below (s₁.setTop (mkF m 14 #[.val (.int p0), .val (.int p1), .val (.int (0 : Int32)), .val (.int (2 : Int32)), .unset, .unset, .unset, .unset] [(.int (0 : Int32))])) _
        refine XS.iloadN X0.here hx rfl (hb hby at_14) rfl ?_
        show Steps p.tables e below (s₁.setTop (mkF m 15 #[.val (.int p0), .val (.int p1), .val (.int (0 : Int32)), .val (.int (2 : Int32)), .unset, .unset, .unset, .unset] [(.int (2 : Int32)), (.int (0 : Int32))])) _
        refine XS.iadd X0.here hx rfl (hb hby at_15) rfl ?_
        show Steps p.tables e below (s₁.setTop (mkF m 16 #[.val (.int p0), .val (.int p1), .val (.int (0 : Int32)), .val (.int (2 : Int32)), .unset, .unset, .unset, .unset] [(.int (2 : Int32))])) _
        refine XS.iconst X0.here hx rfl (hb hby at_16) ?_
        show Steps p.tables e below (s₁.setTop (mkF m 17 #[.val (.int p0), .val (.int p1), .val (.int (0 : Int32)), .val (.int (2 : Int32)), .unset, .unset, .unset, .unset] [(.int (3 : Int32)), (.int (2 : Int32))])) _
        refine Jvm.RoadKit.iremM (g := (mkF m 17 #[.val (.int p0), .val (.int p1), .val (.int (0 : Int32)), .val (.int (2 : Int32)), .unset, .unset, .unset, .unset] [(.int (3 : Int32)), (.int (2 : Int32))])) X0 hx rfl (hb hby at_17) rfl (by decide) ?_
        show Steps p.tables e below (s₁.setTop (mkF m 18 #[.val (.int p0), .val (.int p1), .val (.int (0 : Int32)), .val (.int (2 : Int32)), .unset, .unset, .unset, .unset] [(.int (2 : Int32))])) _
        refine XS.istore X0.here hx rfl (hb hby at_18) rfl (l' := #[.val (.int p0), .val (.int p1), .val (.int (0 : Int32)), .val (.int (2 : Int32)), .val (.int (2 : Int32)), .unset, .unset, .unset]) rfl ?_
        show Steps p.tables e below (s₁.setTop (mkF m 20 #[.val (.int p0), .val (.int p1), .val (.int (0 : Int32)), .val (.int (2 : Int32)), .val (.int (2 : Int32)), .unset, .unset, .unset] [])) _
        refine XS.iloadN X0.here hx rfl (hb hby at_20) rfl ?_
        show Steps p.tables e below (s₁.setTop (mkF m 21 #[.val (.int p0), .val (.int p1), .val (.int (0 : Int32)), .val (.int (2 : Int32)), .val (.int (2 : Int32)), .unset, .unset, .unset] [(.int (0 : Int32))])) _
        refine st49 _ ?_
        show Steps p.tables e below (T49.setTop (mkF m 24 #[.val (.int p0), .val (.int p1), .val (.int (0 : Int32)), .val (.int (2 : Int32)), .val (.int (2 : Int32)), .unset, .unset, .unset] [(.ref w_X)])) _
        refine XS.astore X49.here hx rfl (hb hby at_24) rfl rfl (l' := #[.val (.int p0), .val (.int p1), .val (.int (0 : Int32)), .val (.int (2 : Int32)), .val (.int (2 : Int32)), .val (.ref w_X), .unset, .unset]) rfl ?_
        show Steps p.tables e below (T49.setTop (mkF m 26 #[.val (.int p0), .val (.int p1), .val (.int (0 : Int32)), .val (.int (2 : Int32)), .val (.int (2 : Int32)), .val (.ref w_X), .unset, .unset] [])) _
        refine XS.iload X49.here hx rfl (hb hby at_26) rfl ?_
        show Steps p.tables e below (T49.setTop (mkF m 28 #[.val (.int p0), .val (.int p1), .val (.int (0 : Int32)), .val (.int (2 : Int32)), .val (.int (2 : Int32)), .val (.ref w_X), .unset, .unset] [(.int (2 : Int32))])) _
        refine st50 _ ?_
        show Steps p.tables e below (T50.setTop (mkF m 31 #[.val (.int p0), .val (.int p1), .val (.int (0 : Int32)), .val (.int (2 : Int32)), .val (.int (2 : Int32)), .val (.ref w_X), .unset, .unset] [(.ref w_Z)])) _
        refine XS.astore X50.here hx rfl (hb hby at_31) rfl rfl (l' := #[.val (.int p0), .val (.int p1), .val (.int (0 : Int32)), .val (.int (2 : Int32)), .val (.int (2 : Int32)), .val (.ref w_X), .val (.ref w_Z), .unset]) rfl ?_
        show Steps p.tables e below (T50.setTop (mkF m 33 #[.val (.int p0), .val (.int p1), .val (.int (0 : Int32)), .val (.int (2 : Int32)), .val (.int (2 : Int32)), .val (.ref w_X), .val (.ref w_Z), .unset] [])) _
        refine XS.aload X50.here hx rfl (hb hby at_33) rfl rfl ?_
        show Steps p.tables e below (T50.setTop (mkF m 35 #[.val (.int p0), .val (.int p1), .val (.int (0 : Int32)), .val (.int (2 : Int32)), .val (.int (2 : Int32)), .val (.ref w_X), .val (.ref w_Z), .unset] [(.ref w_X)])) _
        refine XS.aload X50.here hx rfl (hb hby at_35) rfl rfl ?_
        show Steps p.tables e below (T50.setTop (mkF m 37 #[.val (.int p0), .val (.int p1), .val (.int (0 : Int32)), .val (.int (2 : Int32)), .val (.int (2 : Int32)), .val (.ref w_X), .val (.ref w_Z), .unset] [(.ref w_Z), (.ref w_X)])) _
        refine st51 _ ?_
        show Steps p.tables e below (T51.setTop (mkF m 40 #[.val (.int p0), .val (.int p1), .val (.int (0 : Int32)), .val (.int (2 : Int32)), .val (.int (2 : Int32)), .val (.ref w_X), .val (.ref w_Z), .unset] [(.ref w_Y)])) _
        refine XS.astore X51.here hx rfl (hb hby at_40) rfl rfl (l' := #[.val (.int p0), .val (.int p1), .val (.int (0 : Int32)), .val (.int (2 : Int32)), .val (.int (2 : Int32)), .val (.ref w_X), .val (.ref w_Z), .val (.ref w_Y)]) rfl ?_
        show Steps p.tables e below (T51.setTop (mkF m 42 #[.val (.int p0), .val (.int p1), .val (.int (0 : Int32)), .val (.int (2 : Int32)), .val (.int (2 : Int32)), .val (.ref w_X), .val (.ref w_Z), .val (.ref w_Y)] [])) _
        refine XS.aload X51.here hx rfl (hb hby at_42) rfl rfl ?_
        show Steps p.tables e below (T51.setTop (mkF m 44 #[.val (.int p0), .val (.int p1), .val (.int (0 : Int32)), .val (.int (2 : Int32)), .val (.int (2 : Int32)), .val (.ref w_X), .val (.ref w_Z), .val (.ref w_Y)] [(.ref w_Y)])) _
        refine XS.ifnullNo X51.here hx rfl (hb hby at_44) rfl ?_
        show Steps p.tables e below (T51.setTop (mkF m 47 #[.val (.int p0), .val (.int p1), .val (.int (0 : Int32)), .val (.int (2 : Int32)), .val (.int (2 : Int32)), .val (.ref w_X), .val (.ref w_Z), .val (.ref w_Y)] [])) _
        refine XS.aload X51.here hx rfl (hb hby at_47) rfl rfl ?_
        show Steps p.tables e below (T51.setTop (mkF m 49 #[.val (.int p0), .val (.int p1), .val (.int (0 : Int32)), .val (.int (2 : Int32)), .val (.int (2 : Int32)), .val (.ref w_X), .val (.ref w_Z), .val (.ref w_Y)] [(.ref w_Y)])) _
        refine XS.aload X51.here hx rfl (hb hby at_49) rfl rfl ?_
        show Steps p.tables e below (T51.setTop (mkF m 51 #[.val (.int p0), .val (.int p1), .val (.int (0 : Int32)), .val (.int (2 : Int32)), .val (.int (2 : Int32)), .val (.ref w_X), .val (.ref w_Z), .val (.ref w_Y)] [(.ref w_X), (.ref w_Y)])) _
        refine Jvm.RoadKit.acmp (g := (mkF m 51 #[.val (.int p0), .val (.int p1), .val (.int (0 : Int32)), .val (.int (2 : Int32)), .val (.int (2 : Int32)), .val (.ref w_X), .val (.ref w_Z), .val (.ref w_Y)] [(.ref w_X), (.ref w_Y)])) X51 hx rfl rfl rfl (pc0 := 51) (pc' := 54) (same := false) rfl (hb hby at_51) rfl (decide_eq_false fun q => (F_Y_ordinal.ne F_X_ordinal (by decide)) (Value.ref.inj q)) (by decide) (by decide) ?_
        show Steps p.tables e below (T51.setTop (mkF m 54 #[.val (.int p0), .val (.int p1), .val (.int (0 : Int32)), .val (.int (2 : Int32)), .val (.int (2 : Int32)), .val (.ref w_X), .val (.ref w_Z), .val (.ref w_Y)] [])) _
        refine XS.aload X51.here hx rfl (hb hby at_54) rfl rfl ?_
        show Steps p.tables e below (T51.setTop (mkF m 56 #[.val (.int p0), .val (.int p1), .val (.int (0 : Int32)), .val (.int (2 : Int32)), .val (.int (2 : Int32)), .val (.ref w_X), .val (.ref w_Z), .val (.ref w_Y)] [(.ref w_Y)])) _
        refine XS.aload X51.here hx rfl (hb hby at_56) rfl rfl ?_
        show Steps p.tables e below (T51.setTop (mkF m 58 #[.val (.int p0), .val (.int p1), .val (.int (0 : Int32)), .val (.int (2 : Int32)), .val (.int (2 : Int32)), .val (.ref w_X), .val (.ref w_Z), .val (.ref w_Y)] [(.ref w_Z), (.ref w_Y)])) _
        refine Jvm.RoadKit.acmp (g := (mkF m 58 #[.val (.int p0), .val (.int p1), .val (.int (0 : Int32)), .val (.int (2 : Int32)), .val (.int (2 : Int32)), .val (.ref w_X), .val (.ref w_Z), .val (.ref w_Y)] [(.ref w_Z), (.ref w_Y)])) X51 hx rfl rfl rfl (pc0 := 58) (pc' := 61) (same := false) rfl (hb hby at_58) rfl (decide_eq_false fun q => (F_Y_ordinal.ne F_Z_ordinal (by decide)) (Value.ref.inj q)) (by decide) (by decide) ?_
        show Steps p.tables e below (T51.setTop (mkF m 61 #[.val (.int p0), .val (.int p1), .val (.int (0 : Int32)), .val (.int (2 : Int32)), .val (.int (2 : Int32)), .val (.ref w_X), .val (.ref w_Z), .val (.ref w_Y)] [])) _
        refine XS.iconst X51.here hx rfl (hb hby at_61) ?_
        show Steps p.tables e below (T51.setTop (mkF m 62 #[.val (.int p0), .val (.int p1), .val (.int (0 : Int32)), .val (.int (2 : Int32)), .val (.int (2 : Int32)), .val (.ref w_X), .val (.ref w_Z), .val (.ref w_Y)] [(.int (1 : Int32))])) _
        refine XS.goto X51.here hx rfl (pc0 := 62) (pc' := 66) rfl (hb hby at_62) (by decide) (by decide) ?_
        show Steps p.tables e below (T51.setTop (mkF m 66 #[.val (.int p0), .val (.int p1), .val (.int (0 : Int32)), .val (.int (2 : Int32)), .val (.int (2 : Int32)), .val (.ref w_X), .val (.ref w_Z), .val (.ref w_Y)] [(.int (1 : Int32))])) _
        exact retN X51 hx (t := .boolean) Bd.returns (by simp) (hb hby at_66) hr
      · show own_Pure (some (.int 1)) h0 n0 _ T51.heap _
        rw [e51]
        exact ⟨rfl, N51, rfl⟩
  · -- (1 : Int32)
    have ck52 : ∀ t, Steps p.tables e below (s₁.setTop (mkF m 11 #[.val (.int p0), .val (.int p1), .val (.int (1 : Int32)), .unset, .unset, .unset, .unset, .unset] [(.int (p1 &&& (1 : Int32))), (.int (1 : Int32))])) t → Steps p.tables e below (s₁.setTop (entryFrame m #[(.int p0), (.int p1)] maxLocals)) t := by
      intro t kt
      refine ck39 _ ?_
      show Steps p.tables e below (s₁.setTop (mkF m 6 #[.val (.int p0), .val (.int p1), .unset, .unset, .unset, .unset, .unset, .unset] [(.int ((p0 &&& (2147483647 : Int32)) % (3 : Int32)))])) _
      rw [hv41]
      show Steps p.tables e below (s₁.setTop (mkF m 6 #[.val (.int p0), .val (.int p1), .unset, .unset, .unset, .unset, .unset, .unset] [(.int (1 : Int32))])) _
      refine XS.istoreN X0.here hx rfl (hb hby at_6) rfl (l' := #[.val (.int p0), .val (.int p1), .val (.int (1 : Int32)), .unset, .unset, .unset, .unset, .unset]) rfl ?_
      show Steps p.tables e below (s₁.setTop (mkF m 7 #[.val (.int p0), .val (.int p1), .val (.int (1 : Int32)), .unset, .unset, .unset, .unset, .unset] [])) _
      refine XS.iconst X0.here hx rfl (hb hby at_7) ?_
      show Steps p.tables e below (s₁.setTop (mkF m 8 #[.val (.int p0), .val (.int p1), .val (.int (1 : Int32)), .unset, .unset, .unset, .unset, .unset] [(.int (1 : Int32))])) _
      refine XS.iloadN X0.here hx rfl (hb hby at_8) rfl ?_
      show Steps p.tables e below (s₁.setTop (mkF m 9 #[.val (.int p0), .val (.int p1), .val (.int (1 : Int32)), .unset, .unset, .unset, .unset, .unset] [(.int p1), (.int (1 : Int32))])) _
      refine XS.iconst X0.here hx rfl (hb hby at_9) ?_
      show Steps p.tables e below (s₁.setTop (mkF m 10 #[.val (.int p0), .val (.int p1), .val (.int (1 : Int32)), .unset, .unset, .unset, .unset, .unset] [(.int (1 : Int32)), (.int p1), (.int (1 : Int32))])) _
      refine XS.iand X0.here hx rfl (hb hby at_10) rfl ?_
      exact kt
    rcases own_and1 p1 with hv53 | hv54
    · -- (0 : Int32)
      obtain ⟨_, _, ⟨T55, L55, k55, n55⟩, -, X55, ⟨Lc55, hQ55, l55, y55, z55⟩, st55⟩ := Jvm.LawKit.callS X0 hx (y := (⟨"com/example/gimbalwise/gimbalwise/AxisRemainingPinLaw", "axis", "(I)Lcom/example/gimbalwise/gimbalwise/Axis;"⟩ : MethodName)) hown (mvT hZ (hw _ (List.mem_of_getElem? (i := 1) rfl))) (mvT hZ (hw _ (List.mem_of_getElem? (i := 2) rfl))) (mvT hZ (hw _ (List.mem_of_getElem? (i := 3) rfl))) (mvT hZ (hw _ (List.mem_of_getElem? (i := 4) rfl))) (by decide) (backOf (W := 0) (rm_axis l Z a0 hw [] (1 : Int32) h0 n0 Z0 w_X w_Z w_Y hWd w_Y (by first | rfl | decide | simp)) hZ (hw _ (List.mem_of_getElem? (i := 4) rfl)) (hw _ (List.mem_of_getElem? (i := 3) rfl)) (by decide) (by decide)) (g := (mkF m 21 #[.val (.int p0), .val (.int p1), .val (.int (1 : Int32)), .val (.int (1 : Int32)), .val (.int (2 : Int32)), .unset, .unset, .unset] [(.int (1 : Int32))])) rfl (by rw [hml]; rfl) (argsL := [(.int (1 : Int32))]) (rest := []) (lenOf pd_31 rfl) rfl (by show 2 * 0 + _ ≤ _; exact Nat.le_of_eq rfl) (hb hby at_21) (fun _ _ => ⟨rfl, e0, (by decide : 0 + 0 ≤ _), (by decide : 0 + 0 ≤ _)⟩)
      dsimp only [Pt.U, Pt.locs, Pt.cells, Pt.slots] at X55 l55 y55 z55 st55 hQ55
      subst l55 y55 z55
      obtain ⟨rfl, N55q, e55⟩ := hQ55
      have N55 := Fr.app N0 N55q
      obtain ⟨_, _, ⟨T56, L56, k56, n56⟩, -, X56, ⟨Lc56, hQ56, l56, y56, z56⟩, st56⟩ := Jvm.LawKit.callS X55 hx (y := (⟨"com/example/gimbalwise/gimbalwise/AxisRemainingPinLaw", "axis", "(I)Lcom/example/gimbalwise/gimbalwise/Axis;"⟩ : MethodName)) hown (mvT hZ (hw _ (List.mem_of_getElem? (i := 1) rfl))) (mvT hZ (hw _ (List.mem_of_getElem? (i := 2) rfl))) (mvT hZ (hw _ (List.mem_of_getElem? (i := 3) rfl))) (mvT hZ (hw _ (List.mem_of_getElem? (i := 4) rfl))) (by decide) (backOf (W := 0) (rm_axis l Z a0 hw [] (2 : Int32) h0 n0 Z0 w_X w_Z w_Y hWd w_Z (by first | rfl | decide | simp)) hZ (hw _ (List.mem_of_getElem? (i := 4) rfl)) (hw _ (List.mem_of_getElem? (i := 3) rfl)) (by decide) (by decide)) (g := (mkF m 28 #[.val (.int p0), .val (.int p1), .val (.int (1 : Int32)), .val (.int (1 : Int32)), .val (.int (2 : Int32)), .val (.ref w_Y), .unset, .unset] [(.int (2 : Int32))])) rfl (by rw [hml]; rfl) (argsL := [(.int (2 : Int32))]) (rest := []) (lenOf pd_31 rfl) rfl (by show 2 * 0 + _ ≤ _; exact Nat.le_of_eq rfl) (hb hby at_28) (fun _ _ => ⟨rfl, e55, (by decide : 0 + 0 ≤ _), (by decide : 0 + 0 ≤ _)⟩)
      dsimp only [Pt.U, Pt.locs, Pt.cells, Pt.slots] at X56 l56 y56 z56 st56 hQ56
      subst l56 y56 z56
      obtain ⟨rfl, N56q, e56⟩ := hQ56
      have N56 := Fr.app N55 N56q
      obtain ⟨_, _, ⟨T57, L57, k57, n57⟩, -, X57, ⟨Lc57, hQ57, l57, y57, z57⟩, st57⟩ := Jvm.LawKit.callS X56 hx (y := (⟨"com/example/gimbalwise/gimbalwise/Axis", "remaining", "(Lcom/example/gimbalwise/gimbalwise/Axis;Lcom/example/gimbalwise/gimbalwise/Axis;)Lcom/example/gimbalwise/gimbalwise/Axis;"⟩ : MethodName)) hown (mvT hZ (hw _ (List.mem_of_getElem? (i := 10) rfl))) (mvT hZ (hw _ (List.mem_of_getElem? (i := 11) rfl))) (mvT hZ (hw _ (List.mem_of_getElem? (i := 6) rfl))) (mvT hZ (hw _ (List.mem_of_getElem? (i := 12) rfl))) (by decide) (backOf (W := 0) (rm_rem l Z a0 hw [] w_Y w_Z h0 n0 Z0 w_X w_Z w_Y hWd w_X (by simp [(F_X_ordinal.ne F_Y_ordinal (by decide)), (F_X_ordinal.ne F_Z_ordinal (by decide)), (F_Y_ordinal.ne F_X_ordinal (by decide)), (F_Y_ordinal.ne F_Z_ordinal (by decide)), (F_Z_ordinal.ne F_X_ordinal (by decide)), (F_Z_ordinal.ne F_Y_ordinal (by decide))])) hZ (hw _ (List.mem_of_getElem? (i := 12) rfl)) (hw _ (List.mem_of_getElem? (i := 6) rfl)) (by decide) (by decide)) (g := (mkF m 37 #[.val (.int p0), .val (.int p1), .val (.int (1 : Int32)), .val (.int (1 : Int32)), .val (.int (2 : Int32)), .val (.ref w_Y), .val (.ref w_Z), .unset] [(.ref w_Z), (.ref w_Y)])) rfl (by rw [hml]; rfl) (argsL := [(.ref w_Y), (.ref w_Z)]) (rest := []) (lenOf pd_32 rfl) rfl (by show 2 * 0 + _ ≤ _; exact Nat.le_of_eq rfl) (hb hby at_37) (fun _ _ => ⟨rfl, e56, (by decide : 0 + 0 ≤ _), (by decide : 0 + 0 ≤ _)⟩)
      dsimp only [Pt.U, Pt.locs, Pt.cells, Pt.slots] at X57 l57 y57 z57 st57 hQ57
      subst l57 y57 z57
      obtain ⟨rfl, N57q, e57⟩ := hQ57
      have N57 := Fr.app N56 N57q
      obtain ⟨fs, hr, hrun, hended, hW, hsame⟩ := X57.leave (v := some (.int (1 : Int32))) (fun h => by rw [Bd.returns] at h; cases h)
      refine ⟨_, _, ck52 _ ?_, hrun, hended, _, _, rfl, ?_, ⟨_, rfl⟩, hW, hsame.mono (by decide) (by decide)⟩
      · show Steps p.tables e below (s₁.setTop (mkF m 11 #[.val (.int p0), .val (.int p1), .val (.int (1 : Int32)), .unset, .unset, .unset, .unset, .unset] [(.int (p1 &&& (1 : Int32))), (.int (1 : Int32))])) _
        rw [hv53]
        show Steps p.tables e below (s₁.setTop (mkF m 11 #[.val (.int p0), .val (.int p1), .val (.int (1 : Int32)), .unset, .unset, .unset, .unset, .unset] [(.int (0 : Int32)), (.int (1 : Int32))])) _
        refine XS.iadd X0.here hx rfl (hb hby at_11) rfl ?_
        show Steps p.tables e below (s₁.setTop (mkF m 12 #[.val (.int p0), .val (.int p1), .val (.int (1 : Int32)), .unset, .unset, .unset, .unset, .unset] [(.int (1 : Int32))])) _
        refine XS.istoreN X0.here hx rfl (hb hby at_12) rfl (l' := #[.val (.int p0), .val (.int p1), .val (.int (1 : Int32)), .val (.int (1 : Int32)), .unset, .unset, .unset, .unset]) rfl ?_
        show Steps p.tables e below (s₁.setTop (mkF m 13 #[.val (.int p0), .val (.int p1), .val (.int (1 : Int32)), .val (.int (1 : Int32)), .unset, .unset, .unset, .unset] [])) _
        refine XS.iloadN X0.here hx rfl (hb hby at_13) rfl ?_
        show Steps p.tables e below (s₁.setTop (mkF m 14 #[.val (.int p0), .val (.int p1), .val (.int (1 : Int32)), .val (.int (1 : Int32)), .unset, .unset, .unset, .unset] [(.int (1 : Int32))])) _
        refine XS.iloadN X0.here hx rfl (hb hby at_14) rfl ?_
        show Steps p.tables e below (s₁.setTop (mkF m 15 #[.val (.int p0), .val (.int p1), .val (.int (1 : Int32)), .val (.int (1 : Int32)), .unset, .unset, .unset, .unset] [(.int (1 : Int32)), (.int (1 : Int32))])) _
        refine XS.iadd X0.here hx rfl (hb hby at_15) rfl ?_
        show Steps p.tables e below (s₁.setTop (mkF m 16 #[.val (.int p0), .val (.int p1), .val (.int (1 : Int32)), .val (.int (1 : Int32)), .unset, .unset, .unset, .unset] [(.int (2 : Int32))])) _
        refine XS.iconst X0.here hx rfl (hb hby at_16) ?_
        show Steps p.tables e below (s₁.setTop (mkF m 17 #[.val (.int p0), .val (.int p1), .val (.int (1 : Int32)), .val (.int (1 : Int32)), .unset, .unset, .unset, .unset] [(.int (3 : Int32)), (.int (2 : Int32))])) _
        refine Jvm.RoadKit.iremM (g := (mkF m 17 #[.val (.int p0), .val (.int p1), .val (.int (1 : Int32)), .val (.int (1 : Int32)), .unset, .unset, .unset, .unset] [(.int (3 : Int32)), (.int (2 : Int32))])) X0 hx rfl (hb hby at_17) rfl (by decide) ?_
        show Steps p.tables e below (s₁.setTop (mkF m 18 #[.val (.int p0), .val (.int p1), .val (.int (1 : Int32)), .val (.int (1 : Int32)), .unset, .unset, .unset, .unset] [(.int (2 : Int32))])) _
        refine XS.istore X0.here hx rfl (hb hby at_18) rfl (l' := #[.val (.int p0), .val (.int p1), .val (.int (1 : Int32)), .val (.int (1 : Int32)), .val (.int (2 : Int32)), .unset, .unset, .unset]) rfl ?_
        show Steps p.tables e below (s₁.setTop (mkF m 20 #[.val (.int p0), .val (.int p1), .val (.int (1 : Int32)), .val (.int (1 : Int32)), .val (.int (2 : Int32)), .unset, .unset, .unset] [])) _
        refine XS.iloadN X0.here hx rfl (hb hby at_20) rfl ?_
        show Steps p.tables e below (s₁.setTop (mkF m 21 #[.val (.int p0), .val (.int p1), .val (.int (1 : Int32)), .val (.int (1 : Int32)), .val (.int (2 : Int32)), .unset, .unset, .unset] [(.int (1 : Int32))])) _
        refine st55 _ ?_
        show Steps p.tables e below (T55.setTop (mkF m 24 #[.val (.int p0), .val (.int p1), .val (.int (1 : Int32)), .val (.int (1 : Int32)), .val (.int (2 : Int32)), .unset, .unset, .unset] [(.ref w_Y)])) _
        refine XS.astore X55.here hx rfl (hb hby at_24) rfl rfl (l' := #[.val (.int p0), .val (.int p1), .val (.int (1 : Int32)), .val (.int (1 : Int32)), .val (.int (2 : Int32)), .val (.ref w_Y), .unset, .unset]) rfl ?_
        show Steps p.tables e below (T55.setTop (mkF m 26 #[.val (.int p0), .val (.int p1), .val (.int (1 : Int32)), .val (.int (1 : Int32)), .val (.int (2 : Int32)), .val (.ref w_Y), .unset, .unset] [])) _
        refine XS.iload X55.here hx rfl (hb hby at_26) rfl ?_
        show Steps p.tables e below (T55.setTop (mkF m 28 #[.val (.int p0), .val (.int p1), .val (.int (1 : Int32)), .val (.int (1 : Int32)), .val (.int (2 : Int32)), .val (.ref w_Y), .unset, .unset] [(.int (2 : Int32))])) _
        refine st56 _ ?_
        show Steps p.tables e below (T56.setTop (mkF m 31 #[.val (.int p0), .val (.int p1), .val (.int (1 : Int32)), .val (.int (1 : Int32)), .val (.int (2 : Int32)), .val (.ref w_Y), .unset, .unset] [(.ref w_Z)])) _
        refine XS.astore X56.here hx rfl (hb hby at_31) rfl rfl (l' := #[.val (.int p0), .val (.int p1), .val (.int (1 : Int32)), .val (.int (1 : Int32)), .val (.int (2 : Int32)), .val (.ref w_Y), .val (.ref w_Z), .unset]) rfl ?_
        show Steps p.tables e below (T56.setTop (mkF m 33 #[.val (.int p0), .val (.int p1), .val (.int (1 : Int32)), .val (.int (1 : Int32)), .val (.int (2 : Int32)), .val (.ref w_Y), .val (.ref w_Z), .unset] [])) _
        refine XS.aload X56.here hx rfl (hb hby at_33) rfl rfl ?_
        show Steps p.tables e below (T56.setTop (mkF m 35 #[.val (.int p0), .val (.int p1), .val (.int (1 : Int32)), .val (.int (1 : Int32)), .val (.int (2 : Int32)), .val (.ref w_Y), .val (.ref w_Z), .unset] [(.ref w_Y)])) _
        refine XS.aload X56.here hx rfl (hb hby at_35) rfl rfl ?_
        show Steps p.tables e below (T56.setTop (mkF m 37 #[.val (.int p0), .val (.int p1), .val (.int (1 : Int32)), .val (.int (1 : Int32)), .val (.int (2 : Int32)), .val (.ref w_Y), .val (.ref w_Z), .unset] [(.ref w_Z), (.ref w_Y)])) _
        refine st57 _ ?_
        show Steps p.tables e below (T57.setTop (mkF m 40 #[.val (.int p0), .val (.int p1), .val (.int (1 : Int32)), .val (.int (1 : Int32)), .val (.int (2 : Int32)), .val (.ref w_Y), .val (.ref w_Z), .unset] [(.ref w_X)])) _
        refine XS.astore X57.here hx rfl (hb hby at_40) rfl rfl (l' := #[.val (.int p0), .val (.int p1), .val (.int (1 : Int32)), .val (.int (1 : Int32)), .val (.int (2 : Int32)), .val (.ref w_Y), .val (.ref w_Z), .val (.ref w_X)]) rfl ?_
        show Steps p.tables e below (T57.setTop (mkF m 42 #[.val (.int p0), .val (.int p1), .val (.int (1 : Int32)), .val (.int (1 : Int32)), .val (.int (2 : Int32)), .val (.ref w_Y), .val (.ref w_Z), .val (.ref w_X)] [])) _
        refine XS.aload X57.here hx rfl (hb hby at_42) rfl rfl ?_
        show Steps p.tables e below (T57.setTop (mkF m 44 #[.val (.int p0), .val (.int p1), .val (.int (1 : Int32)), .val (.int (1 : Int32)), .val (.int (2 : Int32)), .val (.ref w_Y), .val (.ref w_Z), .val (.ref w_X)] [(.ref w_X)])) _
        refine XS.ifnullNo X57.here hx rfl (hb hby at_44) rfl ?_
        show Steps p.tables e below (T57.setTop (mkF m 47 #[.val (.int p0), .val (.int p1), .val (.int (1 : Int32)), .val (.int (1 : Int32)), .val (.int (2 : Int32)), .val (.ref w_Y), .val (.ref w_Z), .val (.ref w_X)] [])) _
        refine XS.aload X57.here hx rfl (hb hby at_47) rfl rfl ?_
        show Steps p.tables e below (T57.setTop (mkF m 49 #[.val (.int p0), .val (.int p1), .val (.int (1 : Int32)), .val (.int (1 : Int32)), .val (.int (2 : Int32)), .val (.ref w_Y), .val (.ref w_Z), .val (.ref w_X)] [(.ref w_X)])) _
        refine XS.aload X57.here hx rfl (hb hby at_49) rfl rfl ?_
        show Steps p.tables e below (T57.setTop (mkF m 51 #[.val (.int p0), .val (.int p1), .val (.int (1 : Int32)), .val (.int (1 : Int32)), .val (.int (2 : Int32)), .val (.ref w_Y), .val (.ref w_Z), .val (.ref w_X)] [(.ref w_Y), (.ref w_X)])) _
        refine Jvm.RoadKit.acmp (g := (mkF m 51 #[.val (.int p0), .val (.int p1), .val (.int (1 : Int32)), .val (.int (1 : Int32)), .val (.int (2 : Int32)), .val (.ref w_Y), .val (.ref w_Z), .val (.ref w_X)] [(.ref w_Y), (.ref w_X)])) X57 hx rfl rfl rfl (pc0 := 51) (pc' := 54) (same := false) rfl (hb hby at_51) rfl (decide_eq_false fun q => (F_X_ordinal.ne F_Y_ordinal (by decide)) (Value.ref.inj q)) (by decide) (by decide) ?_
        show Steps p.tables e below (T57.setTop (mkF m 54 #[.val (.int p0), .val (.int p1), .val (.int (1 : Int32)), .val (.int (1 : Int32)), .val (.int (2 : Int32)), .val (.ref w_Y), .val (.ref w_Z), .val (.ref w_X)] [])) _
        refine XS.aload X57.here hx rfl (hb hby at_54) rfl rfl ?_
        show Steps p.tables e below (T57.setTop (mkF m 56 #[.val (.int p0), .val (.int p1), .val (.int (1 : Int32)), .val (.int (1 : Int32)), .val (.int (2 : Int32)), .val (.ref w_Y), .val (.ref w_Z), .val (.ref w_X)] [(.ref w_X)])) _
        refine XS.aload X57.here hx rfl (hb hby at_56) rfl rfl ?_
        show Steps p.tables e below (T57.setTop (mkF m 58 #[.val (.int p0), .val (.int p1), .val (.int (1 : Int32)), .val (.int (1 : Int32)), .val (.int (2 : Int32)), .val (.ref w_Y), .val (.ref w_Z), .val (.ref w_X)] [(.ref w_Z), (.ref w_X)])) _
        refine Jvm.RoadKit.acmp (g := (mkF m 58 #[.val (.int p0), .val (.int p1), .val (.int (1 : Int32)), .val (.int (1 : Int32)), .val (.int (2 : Int32)), .val (.ref w_Y), .val (.ref w_Z), .val (.ref w_X)] [(.ref w_Z), (.ref w_X)])) X57 hx rfl rfl rfl (pc0 := 58) (pc' := 61) (same := false) rfl (hb hby at_58) rfl (decide_eq_false fun q => (F_X_ordinal.ne F_Z_ordinal (by decide)) (Value.ref.inj q)) (by decide) (by decide) ?_
        show Steps p.tables e below (T57.setTop (mkF m 61 #[.val (.int p0), .val (.int p1), .val (.int (1 : Int32)), .val (.int (1 : Int32)), .val (.int (2 : Int32)), .val (.ref w_Y), .val (.ref w_Z), .val (.ref w_X)] [])) _
        refine XS.iconst X57.here hx rfl (hb hby at_61) ?_
        show Steps p.tables e below (T57.setTop (mkF m 62 #[.val (.int p0), .val (.int p1), .val (.int (1 : Int32)), .val (.int (1 : Int32)), .val (.int (2 : Int32)), .val (.ref w_Y), .val (.ref w_Z), .val (.ref w_X)] [(.int (1 : Int32))])) _
        refine XS.goto X57.here hx rfl (pc0 := 62) (pc' := 66) rfl (hb hby at_62) (by decide) (by decide) ?_
        show Steps p.tables e below (T57.setTop (mkF m 66 #[.val (.int p0), .val (.int p1), .val (.int (1 : Int32)), .val (.int (1 : Int32)), .val (.int (2 : Int32)), .val (.ref w_Y), .val (.ref w_Z), .val (.ref w_X)] [(.int (1 : Int32))])) _
        exact retN X57 hx (t := .boolean) Bd.returns (by simp) (hb hby at_66) hr
      · show own_Pure (some (.int 1)) h0 n0 _ T57.heap _
        rw [e57]
        exact ⟨rfl, N57, rfl⟩
    · -- (1 : Int32)
      obtain ⟨_, _, ⟨T58, L58, k58, n58⟩, -, X58, ⟨Lc58, hQ58, l58, y58, z58⟩, st58⟩ := Jvm.LawKit.callS X0 hx (y := (⟨"com/example/gimbalwise/gimbalwise/AxisRemainingPinLaw", "axis", "(I)Lcom/example/gimbalwise/gimbalwise/Axis;"⟩ : MethodName)) hown (mvT hZ (hw _ (List.mem_of_getElem? (i := 1) rfl))) (mvT hZ (hw _ (List.mem_of_getElem? (i := 2) rfl))) (mvT hZ (hw _ (List.mem_of_getElem? (i := 3) rfl))) (mvT hZ (hw _ (List.mem_of_getElem? (i := 4) rfl))) (by decide) (backOf (W := 0) (rm_axis l Z a0 hw [] (1 : Int32) h0 n0 Z0 w_X w_Z w_Y hWd w_Y (by first | rfl | decide | simp)) hZ (hw _ (List.mem_of_getElem? (i := 4) rfl)) (hw _ (List.mem_of_getElem? (i := 3) rfl)) (by decide) (by decide)) (g := (mkF m 21 #[.val (.int p0), .val (.int p1), .val (.int (1 : Int32)), .val (.int (2 : Int32)), .val (.int (0 : Int32)), .unset, .unset, .unset] [(.int (1 : Int32))])) rfl (by rw [hml]; rfl) (argsL := [(.int (1 : Int32))]) (rest := []) (lenOf pd_31 rfl) rfl (by show 2 * 0 + _ ≤ _; exact Nat.le_of_eq rfl) (hb hby at_21) (fun _ _ => ⟨rfl, e0, (by decide : 0 + 0 ≤ _), (by decide : 0 + 0 ≤ _)⟩)
      dsimp only [Pt.U, Pt.locs, Pt.cells, Pt.slots] at X58 l58 y58 z58 st58 hQ58
      subst l58 y58 z58
      obtain ⟨rfl, N58q, e58⟩ := hQ58
      have N58 := Fr.app N0 N58q
      obtain ⟨_, _, ⟨T59, L59, k59, n59⟩, -, X59, ⟨Lc59, hQ59, l59, y59, z59⟩, st59⟩ := Jvm.LawKit.callS X58 hx (y := (⟨"com/example/gimbalwise/gimbalwise/AxisRemainingPinLaw", "axis", "(I)Lcom/example/gimbalwise/gimbalwise/Axis;"⟩ : MethodName)) hown (mvT hZ (hw _ (List.mem_of_getElem? (i := 1) rfl))) (mvT hZ (hw _ (List.mem_of_getElem? (i := 2) rfl))) (mvT hZ (hw _ (List.mem_of_getElem? (i := 3) rfl))) (mvT hZ (hw _ (List.mem_of_getElem? (i := 4) rfl))) (by decide) (backOf (W := 0) (rm_axis l Z a0 hw [] (0 : Int32) h0 n0 Z0 w_X w_Z w_Y hWd w_X (by first | rfl | decide | simp)) hZ (hw _ (List.mem_of_getElem? (i := 4) rfl)) (hw _ (List.mem_of_getElem? (i := 3) rfl)) (by decide) (by decide)) (g := (mkF m 28 #[.val (.int p0), .val (.int p1), .val (.int (1 : Int32)), .val (.int (2 : Int32)), .val (.int (0 : Int32)), .val (.ref w_Y), .unset, .unset] [(.int (0 : Int32))])) rfl (by rw [hml]; rfl) (argsL := [(.int (0 : Int32))]) (rest := []) (lenOf pd_31 rfl) rfl (by show 2 * 0 + _ ≤ _; exact Nat.le_of_eq rfl) (hb hby at_28) (fun _ _ => ⟨rfl, e58, (by decide : 0 + 0 ≤ _), (by decide : 0 + 0 ≤ _)⟩)
      dsimp only [Pt.U, Pt.locs, Pt.cells, Pt.slots] at X59 l59 y59 z59 st59 hQ59
      subst l59 y59 z59
      obtain ⟨rfl, N59q, e59⟩ := hQ59
      have N59 := Fr.app N58 N59q
      obtain ⟨_, _, ⟨T60, L60, k60, n60⟩, -, X60, ⟨Lc60, hQ60, l60, y60, z60⟩, st60⟩ := Jvm.LawKit.callS X59 hx (y := (⟨"com/example/gimbalwise/gimbalwise/Axis", "remaining", "(Lcom/example/gimbalwise/gimbalwise/Axis;Lcom/example/gimbalwise/gimbalwise/Axis;)Lcom/example/gimbalwise/gimbalwise/Axis;"⟩ : MethodName)) hown (mvT hZ (hw _ (List.mem_of_getElem? (i := 10) rfl))) (mvT hZ (hw _ (List.mem_of_getElem? (i := 11) rfl))) (mvT hZ (hw _ (List.mem_of_getElem? (i := 6) rfl))) (mvT hZ (hw _ (List.mem_of_getElem? (i := 12) rfl))) (by decide) (backOf (W := 0) (rm_rem l Z a0 hw [] w_Y w_X h0 n0 Z0 w_X w_Z w_Y hWd w_Z (by simp [(F_X_ordinal.ne F_Y_ordinal (by decide)), (F_X_ordinal.ne F_Z_ordinal (by decide)), (F_Y_ordinal.ne F_X_ordinal (by decide)), (F_Y_ordinal.ne F_Z_ordinal (by decide)), (F_Z_ordinal.ne F_X_ordinal (by decide)), (F_Z_ordinal.ne F_Y_ordinal (by decide))])) hZ (hw _ (List.mem_of_getElem? (i := 12) rfl)) (hw _ (List.mem_of_getElem? (i := 6) rfl)) (by decide) (by decide)) (g := (mkF m 37 #[.val (.int p0), .val (.int p1), .val (.int (1 : Int32)), .val (.int (2 : Int32)), .val (.int (0 : Int32)), .val (.ref w_Y), .val (.ref w_X), .unset] [(.ref w_X), (.ref w_Y)])) rfl (by rw [hml]; rfl) (argsL := [(.ref w_Y), (.ref w_X)]) (rest := []) (lenOf pd_32 rfl) rfl (by show 2 * 0 + _ ≤ _; exact Nat.le_of_eq rfl) (hb hby at_37) (fun _ _ => ⟨rfl, e59, (by decide : 0 + 0 ≤ _), (by decide : 0 + 0 ≤ _)⟩)
      dsimp only [Pt.U, Pt.locs, Pt.cells, Pt.slots] at X60 l60 y60 z60 st60 hQ60
      subst l60 y60 z60
      obtain ⟨rfl, N60q, e60⟩ := hQ60
      have N60 := Fr.app N59 N60q
      obtain ⟨fs, hr, hrun, hended, hW, hsame⟩ := X60.leave (v := some (.int (1 : Int32))) (fun h => by rw [Bd.returns] at h; cases h)
      refine ⟨_, _, ck52 _ ?_, hrun, hended, _, _, rfl, ?_, ⟨_, rfl⟩, hW, hsame.mono (by decide) (by decide)⟩
      · show Steps p.tables e below (s₁.setTop (mkF m 11 #[.val (.int p0), .val (.int p1), .val (.int (1 : Int32)), .unset, .unset, .unset, .unset, .unset] [(.int (p1 &&& (1 : Int32))), (.int (1 : Int32))])) _
        rw [hv54]
        show Steps p.tables e below (s₁.setTop (mkF m 11 #[.val (.int p0), .val (.int p1), .val (.int (1 : Int32)), .unset, .unset, .unset, .unset, .unset] [(.int (1 : Int32)), (.int (1 : Int32))])) _
        refine XS.iadd X0.here hx rfl (hb hby at_11) rfl ?_
        show Steps p.tables e below (s₁.setTop (mkF m 12 #[.val (.int p0), .val (.int p1), .val (.int (1 : Int32)), .unset, .unset, .unset, .unset, .unset] [(.int (2 : Int32))])) _
        refine XS.istoreN X0.here hx rfl (hb hby at_12) rfl (l' := #[.val (.int p0), .val (.int p1), .val (.int (1 : Int32)), .val (.int (2 : Int32)), .unset, .unset, .unset, .unset]) rfl ?_
        show Steps p.tables e below (s₁.setTop (mkF m 13 #[.val (.int p0), .val (.int p1), .val (.int (1 : Int32)), .val (.int (2 : Int32)), .unset, .unset, .unset, .unset] [])) _
        refine XS.iloadN X0.here hx rfl (hb hby at_13) rfl ?_
        show Steps p.tables e below (s₁.setTop (mkF m 14 #[.val (.int p0), .val (.int p1), .val (.int (1 : Int32)), .val (.int (2 : Int32)), .unset, .unset, .unset, .unset] [(.int (1 : Int32))])) _
        refine XS.iloadN X0.here hx rfl (hb hby at_14) rfl ?_
        show Steps p.tables e below (s₁.setTop (mkF m 15 #[.val (.int p0), .val (.int p1), .val (.int (1 : Int32)), .val (.int (2 : Int32)), .unset, .unset, .unset, .unset] [(.int (2 : Int32)), (.int (1 : Int32))])) _
        refine XS.iadd X0.here hx rfl (hb hby at_15) rfl ?_
        show Steps p.tables e below (s₁.setTop (mkF m 16 #[.val (.int p0), .val (.int p1), .val (.int (1 : Int32)), .val (.int (2 : Int32)), .unset, .unset, .unset, .unset] [(.int (3 : Int32))])) _
        refine XS.iconst X0.here hx rfl (hb hby at_16) ?_
        show Steps p.tables e below (s₁.setTop (mkF m 17 #[.val (.int p0), .val (.int p1), .val (.int (1 : Int32)), .val (.int (2 : Int32)), .unset, .unset, .unset, .unset] [(.int (3 : Int32)), (.int (3 : Int32))])) _
        refine Jvm.RoadKit.iremM (g := (mkF m 17 #[.val (.int p0), .val (.int p1), .val (.int (1 : Int32)), .val (.int (2 : Int32)), .unset, .unset, .unset, .unset] [(.int (3 : Int32)), (.int (3 : Int32))])) X0 hx rfl (hb hby at_17) rfl (by decide) ?_
        show Steps p.tables e below (s₁.setTop (mkF m 18 #[.val (.int p0), .val (.int p1), .val (.int (1 : Int32)), .val (.int (2 : Int32)), .unset, .unset, .unset, .unset] [(.int (0 : Int32))])) _
        refine XS.istore X0.here hx rfl (hb hby at_18) rfl (l' := #[.val (.int p0), .val (.int p1), .val (.int (1 : Int32)), .val (.int (2 : Int32)), .val (.int (0 : Int32)), .unset, .unset, .unset]) rfl ?_
        show Steps p.tables e below (s₁.setTop (mkF m 20 #[.val (.int p0), .val (.int p1), .val (.int (1 : Int32)), .val (.int (2 : Int32)), .val (.int (0 : Int32)), .unset, .unset, .unset] [])) _
        refine XS.iloadN X0.here hx rfl (hb hby at_20) rfl ?_
        show Steps p.tables e below (s₁.setTop (mkF m 21 #[.val (.int p0), .val (.int p1), .val (.int (1 : Int32)), .val (.int (2 : Int32)), .val (.int (0 : Int32)), .unset, .unset, .unset] [(.int (1 : Int32))])) _
        refine st58 _ ?_
        show Steps p.tables e below (T58.setTop (mkF m 24 #[.val (.int p0), .val (.int p1), .val (.int (1 : Int32)), .val (.int (2 : Int32)), .val (.int (0 : Int32)), .unset, .unset, .unset] [(.ref w_Y)])) _
        refine XS.astore X58.here hx rfl (hb hby at_24) rfl rfl (l' := #[.val (.int p0), .val (.int p1), .val (.int (1 : Int32)), .val (.int (2 : Int32)), .val (.int (0 : Int32)), .val (.ref w_Y), .unset, .unset]) rfl ?_
        show Steps p.tables e below (T58.setTop (mkF m 26 #[.val (.int p0), .val (.int p1), .val (.int (1 : Int32)), .val (.int (2 : Int32)), .val (.int (0 : Int32)), .val (.ref w_Y), .unset, .unset] [])) _
        refine XS.iload X58.here hx rfl (hb hby at_26) rfl ?_
        show Steps p.tables e below (T58.setTop (mkF m 28 #[.val (.int p0), .val (.int p1), .val (.int (1 : Int32)), .val (.int (2 : Int32)), .val (.int (0 : Int32)), .val (.ref w_Y), .unset, .unset] [(.int (0 : Int32))])) _
        refine st59 _ ?_
        show Steps p.tables e below (T59.setTop (mkF m 31 #[.val (.int p0), .val (.int p1), .val (.int (1 : Int32)), .val (.int (2 : Int32)), .val (.int (0 : Int32)), .val (.ref w_Y), .unset, .unset] [(.ref w_X)])) _
        refine XS.astore X59.here hx rfl (hb hby at_31) rfl rfl (l' := #[.val (.int p0), .val (.int p1), .val (.int (1 : Int32)), .val (.int (2 : Int32)), .val (.int (0 : Int32)), .val (.ref w_Y), .val (.ref w_X), .unset]) rfl ?_
        show Steps p.tables e below (T59.setTop (mkF m 33 #[.val (.int p0), .val (.int p1), .val (.int (1 : Int32)), .val (.int (2 : Int32)), .val (.int (0 : Int32)), .val (.ref w_Y), .val (.ref w_X), .unset] [])) _
        refine XS.aload X59.here hx rfl (hb hby at_33) rfl rfl ?_
        show Steps p.tables e below (T59.setTop (mkF m 35 #[.val (.int p0), .val (.int p1), .val (.int (1 : Int32)), .val (.int (2 : Int32)), .val (.int (0 : Int32)), .val (.ref w_Y), .val (.ref w_X), .unset] [(.ref w_Y)])) _
        refine XS.aload X59.here hx rfl (hb hby at_35) rfl rfl ?_
        show Steps p.tables e below (T59.setTop (mkF m 37 #[.val (.int p0), .val (.int p1), .val (.int (1 : Int32)), .val (.int (2 : Int32)), .val (.int (0 : Int32)), .val (.ref w_Y), .val (.ref w_X), .unset] [(.ref w_X), (.ref w_Y)])) _
        refine st60 _ ?_
        show Steps p.tables e below (T60.setTop (mkF m 40 #[.val (.int p0), .val (.int p1), .val (.int (1 : Int32)), .val (.int (2 : Int32)), .val (.int (0 : Int32)), .val (.ref w_Y), .val (.ref w_X), .unset] [(.ref w_Z)])) _
        refine XS.astore X60.here hx rfl (hb hby at_40) rfl rfl (l' := #[.val (.int p0), .val (.int p1), .val (.int (1 : Int32)), .val (.int (2 : Int32)), .val (.int (0 : Int32)), .val (.ref w_Y), .val (.ref w_X), .val (.ref w_Z)]) rfl ?_
        show Steps p.tables e below (T60.setTop (mkF m 42 #[.val (.int p0), .val (.int p1), .val (.int (1 : Int32)), .val (.int (2 : Int32)), .val (.int (0 : Int32)), .val (.ref w_Y), .val (.ref w_X), .val (.ref w_Z)] [])) _
        refine XS.aload X60.here hx rfl (hb hby at_42) rfl rfl ?_
        show Steps p.tables e below (T60.setTop (mkF m 44 #[.val (.int p0), .val (.int p1), .val (.int (1 : Int32)), .val (.int (2 : Int32)), .val (.int (0 : Int32)), .val (.ref w_Y), .val (.ref w_X), .val (.ref w_Z)] [(.ref w_Z)])) _
        refine XS.ifnullNo X60.here hx rfl (hb hby at_44) rfl ?_
        show Steps p.tables e below (T60.setTop (mkF m 47 #[.val (.int p0), .val (.int p1), .val (.int (1 : Int32)), .val (.int (2 : Int32)), .val (.int (0 : Int32)), .val (.ref w_Y), .val (.ref w_X), .val (.ref w_Z)] [])) _
        refine XS.aload X60.here hx rfl (hb hby at_47) rfl rfl ?_
        show Steps p.tables e below (T60.setTop (mkF m 49 #[.val (.int p0), .val (.int p1), .val (.int (1 : Int32)), .val (.int (2 : Int32)), .val (.int (0 : Int32)), .val (.ref w_Y), .val (.ref w_X), .val (.ref w_Z)] [(.ref w_Z)])) _
        refine XS.aload X60.here hx rfl (hb hby at_49) rfl rfl ?_
        show Steps p.tables e below (T60.setTop (mkF m 51 #[.val (.int p0), .val (.int p1), .val (.int (1 : Int32)), .val (.int (2 : Int32)), .val (.int (0 : Int32)), .val (.ref w_Y), .val (.ref w_X), .val (.ref w_Z)] [(.ref w_Y), (.ref w_Z)])) _
        refine Jvm.RoadKit.acmp (g := (mkF m 51 #[.val (.int p0), .val (.int p1), .val (.int (1 : Int32)), .val (.int (2 : Int32)), .val (.int (0 : Int32)), .val (.ref w_Y), .val (.ref w_X), .val (.ref w_Z)] [(.ref w_Y), (.ref w_Z)])) X60 hx rfl rfl rfl (pc0 := 51) (pc' := 54) (same := false) rfl (hb hby at_51) rfl (decide_eq_false fun q => (F_Z_ordinal.ne F_Y_ordinal (by decide)) (Value.ref.inj q)) (by decide) (by decide) ?_
        show Steps p.tables e below (T60.setTop (mkF m 54 #[.val (.int p0), .val (.int p1), .val (.int (1 : Int32)), .val (.int (2 : Int32)), .val (.int (0 : Int32)), .val (.ref w_Y), .val (.ref w_X), .val (.ref w_Z)] [])) _
        refine XS.aload X60.here hx rfl (hb hby at_54) rfl rfl ?_
        show Steps p.tables e below (T60.setTop (mkF m 56 #[.val (.int p0), .val (.int p1), .val (.int (1 : Int32)), .val (.int (2 : Int32)), .val (.int (0 : Int32)), .val (.ref w_Y), .val (.ref w_X), .val (.ref w_Z)] [(.ref w_Z)])) _
        refine XS.aload X60.here hx rfl (hb hby at_56) rfl rfl ?_
        show Steps p.tables e below (T60.setTop (mkF m 58 #[.val (.int p0), .val (.int p1), .val (.int (1 : Int32)), .val (.int (2 : Int32)), .val (.int (0 : Int32)), .val (.ref w_Y), .val (.ref w_X), .val (.ref w_Z)] [(.ref w_X), (.ref w_Z)])) _
        refine Jvm.RoadKit.acmp (g := (mkF m 58 #[.val (.int p0), .val (.int p1), .val (.int (1 : Int32)), .val (.int (2 : Int32)), .val (.int (0 : Int32)), .val (.ref w_Y), .val (.ref w_X), .val (.ref w_Z)] [(.ref w_X), (.ref w_Z)])) X60 hx rfl rfl rfl (pc0 := 58) (pc' := 61) (same := false) rfl (hb hby at_58) rfl (decide_eq_false fun q => (F_Z_ordinal.ne F_X_ordinal (by decide)) (Value.ref.inj q)) (by decide) (by decide) ?_
        show Steps p.tables e below (T60.setTop (mkF m 61 #[.val (.int p0), .val (.int p1), .val (.int (1 : Int32)), .val (.int (2 : Int32)), .val (.int (0 : Int32)), .val (.ref w_Y), .val (.ref w_X), .val (.ref w_Z)] [])) _
        refine XS.iconst X60.here hx rfl (hb hby at_61) ?_
        show Steps p.tables e below (T60.setTop (mkF m 62 #[.val (.int p0), .val (.int p1), .val (.int (1 : Int32)), .val (.int (2 : Int32)), .val (.int (0 : Int32)), .val (.ref w_Y), .val (.ref w_X), .val (.ref w_Z)] [(.int (1 : Int32))])) _
        refine XS.goto X60.here hx rfl (pc0 := 62) (pc' := 66) rfl (hb hby at_62) (by decide) (by decide) ?_
        show Steps p.tables e below (T60.setTop (mkF m 66 #[.val (.int p0), .val (.int p1), .val (.int (1 : Int32)), .val (.int (2 : Int32)), .val (.int (0 : Int32)), .val (.ref w_Y), .val (.ref w_X), .val (.ref w_Z)] [(.int (1 : Int32))])) _
        exact retN X60 hx (t := .boolean) Bd.returns (by simp) (hb hby at_66) hr
      · show own_Pure (some (.int 1)) h0 n0 _ T60.heap _
        rw [e60]
        exact ⟨rfl, N60, rfl⟩
  · -- (2 : Int32)
    have ck61 : ∀ t, Steps p.tables e below (s₁.setTop (mkF m 11 #[.val (.int p0), .val (.int p1), .val (.int (2 : Int32)), .unset, .unset, .unset, .unset, .unset] [(.int (p1 &&& (1 : Int32))), (.int (1 : Int32))])) t → Steps p.tables e below (s₁.setTop (entryFrame m #[(.int p0), (.int p1)] maxLocals)) t := by
      intro t kt
      refine ck39 _ ?_
      show Steps p.tables e below (s₁.setTop (mkF m 6 #[.val (.int p0), .val (.int p1), .unset, .unset, .unset, .unset, .unset, .unset] [(.int ((p0 &&& (2147483647 : Int32)) % (3 : Int32)))])) _
      rw [hv42]
      show Steps p.tables e below (s₁.setTop (mkF m 6 #[.val (.int p0), .val (.int p1), .unset, .unset, .unset, .unset, .unset, .unset] [(.int (2 : Int32))])) _
      refine XS.istoreN X0.here hx rfl (hb hby at_6) rfl (l' := #[.val (.int p0), .val (.int p1), .val (.int (2 : Int32)), .unset, .unset, .unset, .unset, .unset]) rfl ?_
      show Steps p.tables e below (s₁.setTop (mkF m 7 #[.val (.int p0), .val (.int p1), .val (.int (2 : Int32)), .unset, .unset, .unset, .unset, .unset] [])) _
      refine XS.iconst X0.here hx rfl (hb hby at_7) ?_
      show Steps p.tables e below (s₁.setTop (mkF m 8 #[.val (.int p0), .val (.int p1), .val (.int (2 : Int32)), .unset, .unset, .unset, .unset, .unset] [(.int (1 : Int32))])) _
      refine XS.iloadN X0.here hx rfl (hb hby at_8) rfl ?_
      show Steps p.tables e below (s₁.setTop (mkF m 9 #[.val (.int p0), .val (.int p1), .val (.int (2 : Int32)), .unset, .unset, .unset, .unset, .unset] [(.int p1), (.int (1 : Int32))])) _
      refine XS.iconst X0.here hx rfl (hb hby at_9) ?_
      show Steps p.tables e below (s₁.setTop (mkF m 10 #[.val (.int p0), .val (.int p1), .val (.int (2 : Int32)), .unset, .unset, .unset, .unset, .unset] [(.int (1 : Int32)), (.int p1), (.int (1 : Int32))])) _
      refine XS.iand X0.here hx rfl (hb hby at_10) rfl ?_
      exact kt
    rcases own_and1 p1 with hv62 | hv63
    · -- (0 : Int32)
      obtain ⟨_, _, ⟨T64, L64, k64, n64⟩, -, X64, ⟨Lc64, hQ64, l64, y64, z64⟩, st64⟩ := Jvm.LawKit.callS X0 hx (y := (⟨"com/example/gimbalwise/gimbalwise/AxisRemainingPinLaw", "axis", "(I)Lcom/example/gimbalwise/gimbalwise/Axis;"⟩ : MethodName)) hown (mvT hZ (hw _ (List.mem_of_getElem? (i := 1) rfl))) (mvT hZ (hw _ (List.mem_of_getElem? (i := 2) rfl))) (mvT hZ (hw _ (List.mem_of_getElem? (i := 3) rfl))) (mvT hZ (hw _ (List.mem_of_getElem? (i := 4) rfl))) (by decide) (backOf (W := 0) (rm_axis l Z a0 hw [] (2 : Int32) h0 n0 Z0 w_X w_Z w_Y hWd w_Z (by first | rfl | decide | simp)) hZ (hw _ (List.mem_of_getElem? (i := 4) rfl)) (hw _ (List.mem_of_getElem? (i := 3) rfl)) (by decide) (by decide)) (g := (mkF m 21 #[.val (.int p0), .val (.int p1), .val (.int (2 : Int32)), .val (.int (1 : Int32)), .val (.int (0 : Int32)), .unset, .unset, .unset] [(.int (2 : Int32))])) rfl (by rw [hml]; rfl) (argsL := [(.int (2 : Int32))]) (rest := []) (lenOf pd_31 rfl) rfl (by show 2 * 0 + _ ≤ _; exact Nat.le_of_eq rfl) (hb hby at_21) (fun _ _ => ⟨rfl, e0, (by decide : 0 + 0 ≤ _), (by decide : 0 + 0 ≤ _)⟩)
      dsimp only [Pt.U, Pt.locs, Pt.cells, Pt.slots] at X64 l64 y64 z64 st64 hQ64
      subst l64 y64 z64
      obtain ⟨rfl, N64q, e64⟩ := hQ64
      have N64 := Fr.app N0 N64q
      obtain ⟨_, _, ⟨T65, L65, k65, n65⟩, -, X65, ⟨Lc65, hQ65, l65, y65, z65⟩, st65⟩ := Jvm.LawKit.callS X64 hx (y := (⟨"com/example/gimbalwise/gimbalwise/AxisRemainingPinLaw", "axis", "(I)Lcom/example/gimbalwise/gimbalwise/Axis;"⟩ : MethodName)) hown (mvT hZ (hw _ (List.mem_of_getElem? (i := 1) rfl))) (mvT hZ (hw _ (List.mem_of_getElem? (i := 2) rfl))) (mvT hZ (hw _ (List.mem_of_getElem? (i := 3) rfl))) (mvT hZ (hw _ (List.mem_of_getElem? (i := 4) rfl))) (by decide) (backOf (W := 0) (rm_axis l Z a0 hw [] (0 : Int32) h0 n0 Z0 w_X w_Z w_Y hWd w_X (by first | rfl | decide | simp)) hZ (hw _ (List.mem_of_getElem? (i := 4) rfl)) (hw _ (List.mem_of_getElem? (i := 3) rfl)) (by decide) (by decide)) (g := (mkF m 28 #[.val (.int p0), .val (.int p1), .val (.int (2 : Int32)), .val (.int (1 : Int32)), .val (.int (0 : Int32)), .val (.ref w_Z), .unset, .unset] [(.int (0 : Int32))])) rfl (by rw [hml]; rfl) (argsL := [(.int (0 : Int32))]) (rest := []) (lenOf pd_31 rfl) rfl (by show 2 * 0 + _ ≤ _; exact Nat.le_of_eq rfl) (hb hby at_28) (fun _ _ => ⟨rfl, e64, (by decide : 0 + 0 ≤ _), (by decide : 0 + 0 ≤ _)⟩)
      dsimp only [Pt.U, Pt.locs, Pt.cells, Pt.slots] at X65 l65 y65 z65 st65 hQ65
      subst l65 y65 z65
      obtain ⟨rfl, N65q, e65⟩ := hQ65
      have N65 := Fr.app N64 N65q
      obtain ⟨_, _, ⟨T66, L66, k66, n66⟩, -, X66, ⟨Lc66, hQ66, l66, y66, z66⟩, st66⟩ := Jvm.LawKit.callS X65 hx (y := (⟨"com/example/gimbalwise/gimbalwise/Axis", "remaining", "(Lcom/example/gimbalwise/gimbalwise/Axis;Lcom/example/gimbalwise/gimbalwise/Axis;)Lcom/example/gimbalwise/gimbalwise/Axis;"⟩ : MethodName)) hown (mvT hZ (hw _ (List.mem_of_getElem? (i := 10) rfl))) (mvT hZ (hw _ (List.mem_of_getElem? (i := 11) rfl))) (mvT hZ (hw _ (List.mem_of_getElem? (i := 6) rfl))) (mvT hZ (hw _ (List.mem_of_getElem? (i := 12) rfl))) (by decide) (backOf (W := 0) (rm_rem l Z a0 hw [] w_Z w_X h0 n0 Z0 w_X w_Z w_Y hWd w_Y (by simp [(F_X_ordinal.ne F_Y_ordinal (by decide)), (F_X_ordinal.ne F_Z_ordinal (by decide)), (F_Y_ordinal.ne F_X_ordinal (by decide)), (F_Y_ordinal.ne F_Z_ordinal (by decide)), (F_Z_ordinal.ne F_X_ordinal (by decide)), (F_Z_ordinal.ne F_Y_ordinal (by decide))])) hZ (hw _ (List.mem_of_getElem? (i := 12) rfl)) (hw _ (List.mem_of_getElem? (i := 6) rfl)) (by decide) (by decide)) (g := (mkF m 37 #[.val (.int p0), .val (.int p1), .val (.int (2 : Int32)), .val (.int (1 : Int32)), .val (.int (0 : Int32)), .val (.ref w_Z), .val (.ref w_X), .unset] [(.ref w_X), (.ref w_Z)])) rfl (by rw [hml]; rfl) (argsL := [(.ref w_Z), (.ref w_X)]) (rest := []) (lenOf pd_32 rfl) rfl (by show 2 * 0 + _ ≤ _; exact Nat.le_of_eq rfl) (hb hby at_37) (fun _ _ => ⟨rfl, e65, (by decide : 0 + 0 ≤ _), (by decide : 0 + 0 ≤ _)⟩)
      dsimp only [Pt.U, Pt.locs, Pt.cells, Pt.slots] at X66 l66 y66 z66 st66 hQ66
      subst l66 y66 z66
      obtain ⟨rfl, N66q, e66⟩ := hQ66
      have N66 := Fr.app N65 N66q
      obtain ⟨fs, hr, hrun, hended, hW, hsame⟩ := X66.leave (v := some (.int (1 : Int32))) (fun h => by rw [Bd.returns] at h; cases h)
      refine ⟨_, _, ck61 _ ?_, hrun, hended, _, _, rfl, ?_, ⟨_, rfl⟩, hW, hsame.mono (by decide) (by decide)⟩
      · show Steps p.tables e below (s₁.setTop (mkF m 11 #[.val (.int p0), .val (.int p1), .val (.int (2 : Int32)), .unset, .unset, .unset, .unset, .unset] [(.int (p1 &&& (1 : Int32))), (.int (1 : Int32))])) _
        rw [hv62]
        show Steps p.tables e below (s₁.setTop (mkF m 11 #[.val (.int p0), .val (.int p1), .val (.int (2 : Int32)), .unset, .unset, .unset, .unset, .unset] [(.int (0 : Int32)), (.int (1 : Int32))])) _
        refine XS.iadd X0.here hx rfl (hb hby at_11) rfl ?_
        show Steps p.tables e below (s₁.setTop (mkF m 12 #[.val (.int p0), .val (.int p1), .val (.int (2 : Int32)), .unset, .unset, .unset, .unset, .unset] [(.int (1 : Int32))])) _
        refine XS.istoreN X0.here hx rfl (hb hby at_12) rfl (l' := #[.val (.int p0), .val (.int p1), .val (.int (2 : Int32)), .val (.int (1 : Int32)), .unset, .unset, .unset, .unset]) rfl ?_
        show Steps p.tables e below (s₁.setTop (mkF m 13 #[.val (.int p0), .val (.int p1), .val (.int (2 : Int32)), .val (.int (1 : Int32)), .unset, .unset, .unset, .unset] [])) _
        refine XS.iloadN X0.here hx rfl (hb hby at_13) rfl ?_
        show Steps p.tables e below (s₁.setTop (mkF m 14 #[.val (.int p0), .val (.int p1), .val (.int (2 : Int32)), .val (.int (1 : Int32)), .unset, .unset, .unset, .unset] [(.int (2 : Int32))])) _
        refine XS.iloadN X0.here hx rfl (hb hby at_14) rfl ?_
        show Steps p.tables e below (s₁.setTop (mkF m 15 #[.val (.int p0), .val (.int p1), .val (.int (2 : Int32)), .val (.int (1 : Int32)), .unset, .unset, .unset, .unset] [(.int (1 : Int32)), (.int (2 : Int32))])) _
        refine XS.iadd X0.here hx rfl (hb hby at_15) rfl ?_
        show Steps p.tables e below (s₁.setTop (mkF m 16 #[.val (.int p0), .val (.int p1), .val (.int (2 : Int32)), .val (.int (1 : Int32)), .unset, .unset, .unset, .unset] [(.int (3 : Int32))])) _
        refine XS.iconst X0.here hx rfl (hb hby at_16) ?_
        show Steps p.tables e below (s₁.setTop (mkF m 17 #[.val (.int p0), .val (.int p1), .val (.int (2 : Int32)), .val (.int (1 : Int32)), .unset, .unset, .unset, .unset] [(.int (3 : Int32)), (.int (3 : Int32))])) _
        refine Jvm.RoadKit.iremM (g := (mkF m 17 #[.val (.int p0), .val (.int p1), .val (.int (2 : Int32)), .val (.int (1 : Int32)), .unset, .unset, .unset, .unset] [(.int (3 : Int32)), (.int (3 : Int32))])) X0 hx rfl (hb hby at_17) rfl (by decide) ?_
        show Steps p.tables e below (s₁.setTop (mkF m 18 #[.val (.int p0), .val (.int p1), .val (.int (2 : Int32)), .val (.int (1 : Int32)), .unset, .unset, .unset, .unset] [(.int (0 : Int32))])) _
        refine XS.istore X0.here hx rfl (hb hby at_18) rfl (l' := #[.val (.int p0), .val (.int p1), .val (.int (2 : Int32)), .val (.int (1 : Int32)), .val (.int (0 : Int32)), .unset, .unset, .unset]) rfl ?_
        show Steps p.tables e below (s₁.setTop (mkF m 20 #[.val (.int p0), .val (.int p1), .val (.int (2 : Int32)), .val (.int (1 : Int32)), .val (.int (0 : Int32)), .unset, .unset, .unset] [])) _
        refine XS.iloadN X0.here hx rfl (hb hby at_20) rfl ?_
        show Steps p.tables e below (s₁.setTop (mkF m 21 #[.val (.int p0), .val (.int p1), .val (.int (2 : Int32)), .val (.int (1 : Int32)), .val (.int (0 : Int32)), .unset, .unset, .unset] [(.int (2 : Int32))])) _
        refine st64 _ ?_
        show Steps p.tables e below (T64.setTop (mkF m 24 #[.val (.int p0), .val (.int p1), .val (.int (2 : Int32)), .val (.int (1 : Int32)), .val (.int (0 : Int32)), .unset, .unset, .unset] [(.ref w_Z)])) _
        refine XS.astore X64.here hx rfl (hb hby at_24) rfl rfl (l' := #[.val (.int p0), .val (.int p1), .val (.int (2 : Int32)), .val (.int (1 : Int32)), .val (.int (0 : Int32)), .val (.ref w_Z), .unset, .unset]) rfl ?_
        show Steps p.tables e below (T64.setTop (mkF m 26 #[.val (.int p0), .val (.int p1), .val (.int (2 : Int32)), .val (.int (1 : Int32)), .val (.int (0 : Int32)), .val (.ref w_Z), .unset, .unset] [])) _
        refine XS.iload X64.here hx rfl (hb hby at_26) rfl ?_
        show Steps p.tables e below (T64.setTop (mkF m 28 #[.val (.int p0), .val (.int p1), .val (.int (2 : Int32)), .val (.int (1 : Int32)), .val (.int (0 : Int32)), .val (.ref w_Z), .unset, .unset] [(.int (0 : Int32))])) _
        refine st65 _ ?_
        show Steps p.tables e below (T65.setTop (mkF m 31 #[.val (.int p0), .val (.int p1), .val (.int (2 : Int32)), .val (.int (1 : Int32)), .val (.int (0 : Int32)), .val (.ref w_Z), .unset, .unset] [(.ref w_X)])) _
        refine XS.astore X65.here hx rfl (hb hby at_31) rfl rfl (l' := #[.val (.int p0), .val (.int p1), .val (.int (2 : Int32)), .val (.int (1 : Int32)), .val (.int (0 : Int32)), .val (.ref w_Z), .val (.ref w_X), .unset]) rfl ?_
        show Steps p.tables e below (T65.setTop (mkF m 33 #[.val (.int p0), .val (.int p1), .val (.int (2 : Int32)), .val (.int (1 : Int32)), .val (.int (0 : Int32)), .val (.ref w_Z), .val (.ref w_X), .unset] [])) _
        refine XS.aload X65.here hx rfl (hb hby at_33) rfl rfl ?_
        show Steps p.tables e below (T65.setTop (mkF m 35 #[.val (.int p0), .val (.int p1), .val (.int (2 : Int32)), .val (.int (1 : Int32)), .val (.int (0 : Int32)), .val (.ref w_Z), .val (.ref w_X), .unset] [(.ref w_Z)])) _
        refine XS.aload X65.here hx rfl (hb hby at_35) rfl rfl ?_
        show Steps p.tables e below (T65.setTop (mkF m 37 #[.val (.int p0), .val (.int p1), .val (.int (2 : Int32)), .val (.int (1 : Int32)), .val (.int (0 : Int32)), .val (.ref w_Z), .val (.ref w_X), .unset] [(.ref w_X), (.ref w_Z)])) _
        refine st66 _ ?_
        show Steps p.tables e below (T66.setTop (mkF m 40 #[.val (.int p0), .val (.int p1), .val (.int (2 : Int32)), .val (.int (1 : Int32)), .val (.int (0 : Int32)), .val (.ref w_Z), .val (.ref w_X), .unset] [(.ref w_Y)])) _
        refine XS.astore X66.here hx rfl (hb hby at_40) rfl rfl (l' := #[.val (.int p0), .val (.int p1), .val (.int (2 : Int32)), .val (.int (1 : Int32)), .val (.int (0 : Int32)), .val (.ref w_Z), .val (.ref w_X), .val (.ref w_Y)]) rfl ?_
        show Steps p.tables e below (T66.setTop (mkF m 42 #[.val (.int p0), .val (.int p1), .val (.int (2 : Int32)), .val (.int (1 : Int32)), .val (.int (0 : Int32)), .val (.ref w_Z), .val (.ref w_X), .val (.ref w_Y)] [])) _
        refine XS.aload X66.here hx rfl (hb hby at_42) rfl rfl ?_
        show Steps p.tables e below (T66.setTop (mkF m 44 #[.val (.int p0), .val (.int p1), .val (.int (2 : Int32)), .val (.int (1 : Int32)), .val (.int (0 : Int32)), .val (.ref w_Z), .val (.ref w_X), .val (.ref w_Y)] [(.ref w_Y)])) _
        refine XS.ifnullNo X66.here hx rfl (hb hby at_44) rfl ?_
        show Steps p.tables e below (T66.setTop (mkF m 47 #[.val (.int p0), .val (.int p1), .val (.int (2 : Int32)), .val (.int (1 : Int32)), .val (.int (0 : Int32)), .val (.ref w_Z), .val (.ref w_X), .val (.ref w_Y)] [])) _
        refine XS.aload X66.here hx rfl (hb hby at_47) rfl rfl ?_
        show Steps p.tables e below (T66.setTop (mkF m 49 #[.val (.int p0), .val (.int p1), .val (.int (2 : Int32)), .val (.int (1 : Int32)), .val (.int (0 : Int32)), .val (.ref w_Z), .val (.ref w_X), .val (.ref w_Y)] [(.ref w_Y)])) _
        refine XS.aload X66.here hx rfl (hb hby at_49) rfl rfl ?_
        show Steps p.tables e below (T66.setTop (mkF m 51 #[.val (.int p0), .val (.int p1), .val (.int (2 : Int32)), .val (.int (1 : Int32)), .val (.int (0 : Int32)), .val (.ref w_Z), .val (.ref w_X), .val (.ref w_Y)] [(.ref w_Z), (.ref w_Y)])) _
        refine Jvm.RoadKit.acmp (g := (mkF m 51 #[.val (.int p0), .val (.int p1), .val (.int (2 : Int32)), .val (.int (1 : Int32)), .val (.int (0 : Int32)), .val (.ref w_Z), .val (.ref w_X), .val (.ref w_Y)] [(.ref w_Z), (.ref w_Y)])) X66 hx rfl rfl rfl (pc0 := 51) (pc' := 54) (same := false) rfl (hb hby at_51) rfl (decide_eq_false fun q => (F_Y_ordinal.ne F_Z_ordinal (by decide)) (Value.ref.inj q)) (by decide) (by decide) ?_
        show Steps p.tables e below (T66.setTop (mkF m 54 #[.val (.int p0), .val (.int p1), .val (.int (2 : Int32)), .val (.int (1 : Int32)), .val (.int (0 : Int32)), .val (.ref w_Z), .val (.ref w_X), .val (.ref w_Y)] [])) _
        refine XS.aload X66.here hx rfl (hb hby at_54) rfl rfl ?_
        show Steps p.tables e below (T66.setTop (mkF m 56 #[.val (.int p0), .val (.int p1), .val (.int (2 : Int32)), .val (.int (1 : Int32)), .val (.int (0 : Int32)), .val (.ref w_Z), .val (.ref w_X), .val (.ref w_Y)] [(.ref w_Y)])) _
        refine XS.aload X66.here hx rfl (hb hby at_56) rfl rfl ?_
        show Steps p.tables e below (T66.setTop (mkF m 58 #[.val (.int p0), .val (.int p1), .val (.int (2 : Int32)), .val (.int (1 : Int32)), .val (.int (0 : Int32)), .val (.ref w_Z), .val (.ref w_X), .val (.ref w_Y)] [(.ref w_X), (.ref w_Y)])) _
        refine Jvm.RoadKit.acmp (g := (mkF m 58 #[.val (.int p0), .val (.int p1), .val (.int (2 : Int32)), .val (.int (1 : Int32)), .val (.int (0 : Int32)), .val (.ref w_Z), .val (.ref w_X), .val (.ref w_Y)] [(.ref w_X), (.ref w_Y)])) X66 hx rfl rfl rfl (pc0 := 58) (pc' := 61) (same := false) rfl (hb hby at_58) rfl (decide_eq_false fun q => (F_Y_ordinal.ne F_X_ordinal (by decide)) (Value.ref.inj q)) (by decide) (by decide) ?_
        show Steps p.tables e below (T66.setTop (mkF m 61 #[.val (.int p0), .val (.int p1), .val (.int (2 : Int32)), .val (.int (1 : Int32)), .val (.int (0 : Int32)), .val (.ref w_Z), .val (.ref w_X), .val (.ref w_Y)] [])) _
        refine XS.iconst X66.here hx rfl (hb hby at_61) ?_
        show Steps p.tables e below (T66.setTop (mkF m 62 #[.val (.int p0), .val (.int p1), .val (.int (2 : Int32)), .val (.int (1 : Int32)), .val (.int (0 : Int32)), .val (.ref w_Z), .val (.ref w_X), .val (.ref w_Y)] [(.int (1 : Int32))])) _
        refine XS.goto X66.here hx rfl (pc0 := 62) (pc' := 66) rfl (hb hby at_62) (by decide) (by decide) ?_
        show Steps p.tables e below (T66.setTop (mkF m 66 #[.val (.int p0), .val (.int p1), .val (.int (2 : Int32)), .val (.int (1 : Int32)), .val (.int (0 : Int32)), .val (.ref w_Z), .val (.ref w_X), .val (.ref w_Y)] [(.int (1 : Int32))])) _
        exact retN X66 hx (t := .boolean) Bd.returns (by simp) (hb hby at_66) hr
      · show own_Pure (some (.int 1)) h0 n0 _ T66.heap _
        rw [e66]
        exact ⟨rfl, N66, rfl⟩
    · -- (1 : Int32)
      obtain ⟨_, _, ⟨T67, L67, k67, n67⟩, -, X67, ⟨Lc67, hQ67, l67, y67, z67⟩, st67⟩ := Jvm.LawKit.callS X0 hx (y := (⟨"com/example/gimbalwise/gimbalwise/AxisRemainingPinLaw", "axis", "(I)Lcom/example/gimbalwise/gimbalwise/Axis;"⟩ : MethodName)) hown (mvT hZ (hw _ (List.mem_of_getElem? (i := 1) rfl))) (mvT hZ (hw _ (List.mem_of_getElem? (i := 2) rfl))) (mvT hZ (hw _ (List.mem_of_getElem? (i := 3) rfl))) (mvT hZ (hw _ (List.mem_of_getElem? (i := 4) rfl))) (by decide) (backOf (W := 0) (rm_axis l Z a0 hw [] (2 : Int32) h0 n0 Z0 w_X w_Z w_Y hWd w_Z (by first | rfl | decide | simp)) hZ (hw _ (List.mem_of_getElem? (i := 4) rfl)) (hw _ (List.mem_of_getElem? (i := 3) rfl)) (by decide) (by decide)) (g := (mkF m 21 #[.val (.int p0), .val (.int p1), .val (.int (2 : Int32)), .val (.int (2 : Int32)), .val (.int (1 : Int32)), .unset, .unset, .unset] [(.int (2 : Int32))])) rfl (by rw [hml]; rfl) (argsL := [(.int (2 : Int32))]) (rest := []) (lenOf pd_31 rfl) rfl (by show 2 * 0 + _ ≤ _; exact Nat.le_of_eq rfl) (hb hby at_21) (fun _ _ => ⟨rfl, e0, (by decide : 0 + 0 ≤ _), (by decide : 0 + 0 ≤ _)⟩)
      dsimp only [Pt.U, Pt.locs, Pt.cells, Pt.slots] at X67 l67 y67 z67 st67 hQ67
      subst l67 y67 z67
      obtain ⟨rfl, N67q, e67⟩ := hQ67
      have N67 := Fr.app N0 N67q
      obtain ⟨_, _, ⟨T68, L68, k68, n68⟩, -, X68, ⟨Lc68, hQ68, l68, y68, z68⟩, st68⟩ := Jvm.LawKit.callS X67 hx (y := (⟨"com/example/gimbalwise/gimbalwise/AxisRemainingPinLaw", "axis", "(I)Lcom/example/gimbalwise/gimbalwise/Axis;"⟩ : MethodName)) hown (mvT hZ (hw _ (List.mem_of_getElem? (i := 1) rfl))) (mvT hZ (hw _ (List.mem_of_getElem? (i := 2) rfl))) (mvT hZ (hw _ (List.mem_of_getElem? (i := 3) rfl))) (mvT hZ (hw _ (List.mem_of_getElem? (i := 4) rfl))) (by decide) (backOf (W := 0) (rm_axis l Z a0 hw [] (1 : Int32) h0 n0 Z0 w_X w_Z w_Y hWd w_Y (by first | rfl | decide | simp)) hZ (hw _ (List.mem_of_getElem? (i := 4) rfl)) (hw _ (List.mem_of_getElem? (i := 3) rfl)) (by decide) (by decide)) (g := (mkF m 28 #[.val (.int p0), .val (.int p1), .val (.int (2 : Int32)), .val (.int (2 : Int32)), .val (.int (1 : Int32)), .val (.ref w_Z), .unset, .unset] [(.int (1 : Int32))])) rfl (by rw [hml]; rfl) (argsL := [(.int (1 : Int32))]) (rest := []) (lenOf pd_31 rfl) rfl (by show 2 * 0 + _ ≤ _; exact Nat.le_of_eq rfl) (hb hby at_28) (fun _ _ => ⟨rfl, e67, (by decide : 0 + 0 ≤ _), (by decide : 0 + 0 ≤ _)⟩)
      dsimp only [Pt.U, Pt.locs, Pt.cells, Pt.slots] at X68 l68 y68 z68 st68 hQ68
      subst l68 y68 z68
      obtain ⟨rfl, N68q, e68⟩ := hQ68
      have N68 := Fr.app N67 N68q
      obtain ⟨_, _, ⟨T69, L69, k69, n69⟩, -, X69, ⟨Lc69, hQ69, l69, y69, z69⟩, st69⟩ := Jvm.LawKit.callS X68 hx (y := (⟨"com/example/gimbalwise/gimbalwise/Axis", "remaining", "(Lcom/example/gimbalwise/gimbalwise/Axis;Lcom/example/gimbalwise/gimbalwise/Axis;)Lcom/example/gimbalwise/gimbalwise/Axis;"⟩ : MethodName)) hown (mvT hZ (hw _ (List.mem_of_getElem? (i := 10) rfl))) (mvT hZ (hw _ (List.mem_of_getElem? (i := 11) rfl))) (mvT hZ (hw _ (List.mem_of_getElem? (i := 6) rfl))) (mvT hZ (hw _ (List.mem_of_getElem? (i := 12) rfl))) (by decide) (backOf (W := 0) (rm_rem l Z a0 hw [] w_Z w_Y h0 n0 Z0 w_X w_Z w_Y hWd w_X (by simp [(F_X_ordinal.ne F_Y_ordinal (by decide)), (F_X_ordinal.ne F_Z_ordinal (by decide)), (F_Y_ordinal.ne F_X_ordinal (by decide)), (F_Y_ordinal.ne F_Z_ordinal (by decide)), (F_Z_ordinal.ne F_X_ordinal (by decide)), (F_Z_ordinal.ne F_Y_ordinal (by decide))])) hZ (hw _ (List.mem_of_getElem? (i := 12) rfl)) (hw _ (List.mem_of_getElem? (i := 6) rfl)) (by decide) (by decide)) (g := (mkF m 37 #[.val (.int p0), .val (.int p1), .val (.int (2 : Int32)), .val (.int (2 : Int32)), .val (.int (1 : Int32)), .val (.ref w_Z), .val (.ref w_Y), .unset] [(.ref w_Y), (.ref w_Z)])) rfl (by rw [hml]; rfl) (argsL := [(.ref w_Z), (.ref w_Y)]) (rest := []) (lenOf pd_32 rfl) rfl (by show 2 * 0 + _ ≤ _; exact Nat.le_of_eq rfl) (hb hby at_37) (fun _ _ => ⟨rfl, e68, (by decide : 0 + 0 ≤ _), (by decide : 0 + 0 ≤ _)⟩)
      dsimp only [Pt.U, Pt.locs, Pt.cells, Pt.slots] at X69 l69 y69 z69 st69 hQ69
      subst l69 y69 z69
      obtain ⟨rfl, N69q, e69⟩ := hQ69
      have N69 := Fr.app N68 N69q
      obtain ⟨fs, hr, hrun, hended, hW, hsame⟩ := X69.leave (v := some (.int (1 : Int32))) (fun h => by rw [Bd.returns] at h; cases h)
      refine ⟨_, _, ck61 _ ?_, hrun, hended, _, _, rfl, ?_, ⟨_, rfl⟩, hW, hsame.mono (by decide) (by decide)⟩
      · show Steps p.tables e below (s₁.setTop (mkF m 11 #[.val (.int p0), .val (.int p1), .val (.int (2 : Int32)), .unset, .unset, .unset, .unset, .unset] [(.int (p1 &&& (1 : Int32))), (.int (1 : Int32))])) _
        rw [hv63]
        show Steps p.tables e below (s₁.setTop (mkF m 11 #[.val (.int p0), .val (.int p1), .val (.int (2 : Int32)), .unset, .unset, .unset, .unset, .unset] [(.int (1 : Int32)), (.int (1 : Int32))])) _
        refine XS.iadd X0.here hx rfl (hb hby at_11) rfl ?_
        show Steps p.tables e below (s₁.setTop (mkF m 12 #[.val (.int p0), .val (.int p1), .val (.int (2 : Int32)), .unset, .unset, .unset, .unset, .unset] [(.int (2 : Int32))])) _
        refine XS.istoreN X0.here hx rfl (hb hby at_12) rfl (l' := #[.val (.int p0), .val (.int p1), .val (.int (2 : Int32)), .val (.int (2 : Int32)), .unset, .unset, .unset, .unset]) rfl ?_
        show Steps p.tables e below (s₁.setTop (mkF m 13 #[.val (.int p0), .val (.int p1), .val (.int (2 : Int32)), .val (.int (2 : Int32)), .unset, .unset, .unset, .unset] [])) _
        refine XS.iloadN X0.here hx rfl (hb hby at_13) rfl ?_
        show Steps p.tables e below (s₁.setTop (mkF m 14 #[.val (.int p0), .val (.int p1), .val (.int (2 : Int32)), .val (.int (2 : Int32)), .unset, .unset, .unset, .unset] [(.int (2 : Int32))])) _
        refine XS.iloadN X0.here hx rfl (hb hby at_14) rfl ?_
        show Steps p.tables e below (s₁.setTop (mkF m 15 #[.val (.int p0), .val (.int p1), .val (.int (2 : Int32)), .val (.int (2 : Int32)), .unset, .unset, .unset, .unset] [(.int (2 : Int32)), (.int (2 : Int32))])) _
        refine XS.iadd X0.here hx rfl (hb hby at_15) rfl ?_
        show Steps p.tables e below (s₁.setTop (mkF m 16 #[.val (.int p0), .val (.int p1), .val (.int (2 : Int32)), .val (.int (2 : Int32)), .unset, .unset, .unset, .unset] [(.int (4 : Int32))])) _
        refine XS.iconst X0.here hx rfl (hb hby at_16) ?_
        show Steps p.tables e below (s₁.setTop (mkF m 17 #[.val (.int p0), .val (.int p1), .val (.int (2 : Int32)), .val (.int (2 : Int32)), .unset, .unset, .unset, .unset] [(.int (3 : Int32)), (.int (4 : Int32))])) _
        refine Jvm.RoadKit.iremM (g := (mkF m 17 #[.val (.int p0), .val (.int p1), .val (.int (2 : Int32)), .val (.int (2 : Int32)), .unset, .unset, .unset, .unset] [(.int (3 : Int32)), (.int (4 : Int32))])) X0 hx rfl (hb hby at_17) rfl (by decide) ?_
        show Steps p.tables e below (s₁.setTop (mkF m 18 #[.val (.int p0), .val (.int p1), .val (.int (2 : Int32)), .val (.int (2 : Int32)), .unset, .unset, .unset, .unset] [(.int (1 : Int32))])) _
        refine XS.istore X0.here hx rfl (hb hby at_18) rfl (l' := #[.val (.int p0), .val (.int p1), .val (.int (2 : Int32)), .val (.int (2 : Int32)), .val (.int (1 : Int32)), .unset, .unset, .unset]) rfl ?_
        show Steps p.tables e below (s₁.setTop (mkF m 20 #[.val (.int p0), .val (.int p1), .val (.int (2 : Int32)), .val (.int (2 : Int32)), .val (.int (1 : Int32)), .unset, .unset, .unset] [])) _
        refine XS.iloadN X0.here hx rfl (hb hby at_20) rfl ?_
        show Steps p.tables e below (s₁.setTop (mkF m 21 #[.val (.int p0), .val (.int p1), .val (.int (2 : Int32)), .val (.int (2 : Int32)), .val (.int (1 : Int32)), .unset, .unset, .unset] [(.int (2 : Int32))])) _
        refine st67 _ ?_
        show Steps p.tables e below (T67.setTop (mkF m 24 #[.val (.int p0), .val (.int p1), .val (.int (2 : Int32)), .val (.int (2 : Int32)), .val (.int (1 : Int32)), .unset, .unset, .unset] [(.ref w_Z)])) _
        refine XS.astore X67.here hx rfl (hb hby at_24) rfl rfl (l' := #[.val (.int p0), .val (.int p1), .val (.int (2 : Int32)), .val (.int (2 : Int32)), .val (.int (1 : Int32)), .val (.ref w_Z), .unset, .unset]) rfl ?_
        show Steps p.tables e below (T67.setTop (mkF m 26 #[.val (.int p0), .val (.int p1), .val (.int (2 : Int32)), .val (.int (2 : Int32)), .val (.int (1 : Int32)), .val (.ref w_Z), .unset, .unset] [])) _
        refine XS.iload X67.here hx rfl (hb hby at_26) rfl ?_
        show Steps p.tables e below (T67.setTop (mkF m 28 #[.val (.int p0), .val (.int p1), .val (.int (2 : Int32)), .val (.int (2 : Int32)), .val (.int (1 : Int32)), .val (.ref w_Z), .unset, .unset] [(.int (1 : Int32))])) _
        refine st68 _ ?_
        show Steps p.tables e below (T68.setTop (mkF m 31 #[.val (.int p0), .val (.int p1), .val (.int (2 : Int32)), .val (.int (2 : Int32)), .val (.int (1 : Int32)), .val (.ref w_Z), .unset, .unset] [(.ref w_Y)])) _
        refine XS.astore X68.here hx rfl (hb hby at_31) rfl rfl (l' := #[.val (.int p0), .val (.int p1), .val (.int (2 : Int32)), .val (.int (2 : Int32)), .val (.int (1 : Int32)), .val (.ref w_Z), .val (.ref w_Y), .unset]) rfl ?_
        show Steps p.tables e below (T68.setTop (mkF m 33 #[.val (.int p0), .val (.int p1), .val (.int (2 : Int32)), .val (.int (2 : Int32)), .val (.int (1 : Int32)), .val (.ref w_Z), .val (.ref w_Y), .unset] [])) _
        refine XS.aload X68.here hx rfl (hb hby at_33) rfl rfl ?_
        show Steps p.tables e below (T68.setTop (mkF m 35 #[.val (.int p0), .val (.int p1), .val (.int (2 : Int32)), .val (.int (2 : Int32)), .val (.int (1 : Int32)), .val (.ref w_Z), .val (.ref w_Y), .unset] [(.ref w_Z)])) _
        refine XS.aload X68.here hx rfl (hb hby at_35) rfl rfl ?_
        show Steps p.tables e below (T68.setTop (mkF m 37 #[.val (.int p0), .val (.int p1), .val (.int (2 : Int32)), .val (.int (2 : Int32)), .val (.int (1 : Int32)), .val (.ref w_Z), .val (.ref w_Y), .unset] [(.ref w_Y), (.ref w_Z)])) _
        refine st69 _ ?_
        show Steps p.tables e below (T69.setTop (mkF m 40 #[.val (.int p0), .val (.int p1), .val (.int (2 : Int32)), .val (.int (2 : Int32)), .val (.int (1 : Int32)), .val (.ref w_Z), .val (.ref w_Y), .unset] [(.ref w_X)])) _
        refine XS.astore X69.here hx rfl (hb hby at_40) rfl rfl (l' := #[.val (.int p0), .val (.int p1), .val (.int (2 : Int32)), .val (.int (2 : Int32)), .val (.int (1 : Int32)), .val (.ref w_Z), .val (.ref w_Y), .val (.ref w_X)]) rfl ?_
        show Steps p.tables e below (T69.setTop (mkF m 42 #[.val (.int p0), .val (.int p1), .val (.int (2 : Int32)), .val (.int (2 : Int32)), .val (.int (1 : Int32)), .val (.ref w_Z), .val (.ref w_Y), .val (.ref w_X)] [])) _
        refine XS.aload X69.here hx rfl (hb hby at_42) rfl rfl ?_
        show Steps p.tables e below (T69.setTop (mkF m 44 #[.val (.int p0), .val (.int p1), .val (.int (2 : Int32)), .val (.int (2 : Int32)), .val (.int (1 : Int32)), .val (.ref w_Z), .val (.ref w_Y), .val (.ref w_X)] [(.ref w_X)])) _
        refine XS.ifnullNo X69.here hx rfl (hb hby at_44) rfl ?_
        show Steps p.tables e below (T69.setTop (mkF m 47 #[.val (.int p0), .val (.int p1), .val (.int (2 : Int32)), .val (.int (2 : Int32)), .val (.int (1 : Int32)), .val (.ref w_Z), .val (.ref w_Y), .val (.ref w_X)] [])) _
        refine XS.aload X69.here hx rfl (hb hby at_47) rfl rfl ?_
        show Steps p.tables e below (T69.setTop (mkF m 49 #[.val (.int p0), .val (.int p1), .val (.int (2 : Int32)), .val (.int (2 : Int32)), .val (.int (1 : Int32)), .val (.ref w_Z), .val (.ref w_Y), .val (.ref w_X)] [(.ref w_X)])) _
        refine XS.aload X69.here hx rfl (hb hby at_49) rfl rfl ?_
        show Steps p.tables e below (T69.setTop (mkF m 51 #[.val (.int p0), .val (.int p1), .val (.int (2 : Int32)), .val (.int (2 : Int32)), .val (.int (1 : Int32)), .val (.ref w_Z), .val (.ref w_Y), .val (.ref w_X)] [(.ref w_Z), (.ref w_X)])) _
        refine Jvm.RoadKit.acmp (g := (mkF m 51 #[.val (.int p0), .val (.int p1), .val (.int (2 : Int32)), .val (.int (2 : Int32)), .val (.int (1 : Int32)), .val (.ref w_Z), .val (.ref w_Y), .val (.ref w_X)] [(.ref w_Z), (.ref w_X)])) X69 hx rfl rfl rfl (pc0 := 51) (pc' := 54) (same := false) rfl (hb hby at_51) rfl (decide_eq_false fun q => (F_X_ordinal.ne F_Z_ordinal (by decide)) (Value.ref.inj q)) (by decide) (by decide) ?_
        show Steps p.tables e below (T69.setTop (mkF m 54 #[.val (.int p0), .val (.int p1), .val (.int (2 : Int32)), .val (.int (2 : Int32)), .val (.int (1 : Int32)), .val (.ref w_Z), .val (.ref w_Y), .val (.ref w_X)] [])) _
        refine XS.aload X69.here hx rfl (hb hby at_54) rfl rfl ?_
        show Steps p.tables e below (T69.setTop (mkF m 56 #[.val (.int p0), .val (.int p1), .val (.int (2 : Int32)), .val (.int (2 : Int32)), .val (.int (1 : Int32)), .val (.ref w_Z), .val (.ref w_Y), .val (.ref w_X)] [(.ref w_X)])) _
        refine XS.aload X69.here hx rfl (hb hby at_56) rfl rfl ?_
        show Steps p.tables e below (T69.setTop (mkF m 58 #[.val (.int p0), .val (.int p1), .val (.int (2 : Int32)), .val (.int (2 : Int32)), .val (.int (1 : Int32)), .val (.ref w_Z), .val (.ref w_Y), .val (.ref w_X)] [(.ref w_Y), (.ref w_X)])) _
        refine Jvm.RoadKit.acmp (g := (mkF m 58 #[.val (.int p0), .val (.int p1), .val (.int (2 : Int32)), .val (.int (2 : Int32)), .val (.int (1 : Int32)), .val (.ref w_Z), .val (.ref w_Y), .val (.ref w_X)] [(.ref w_Y), (.ref w_X)])) X69 hx rfl rfl rfl (pc0 := 58) (pc' := 61) (same := false) rfl (hb hby at_58) rfl (decide_eq_false fun q => (F_X_ordinal.ne F_Y_ordinal (by decide)) (Value.ref.inj q)) (by decide) (by decide) ?_
        show Steps p.tables e below (T69.setTop (mkF m 61 #[.val (.int p0), .val (.int p1), .val (.int (2 : Int32)), .val (.int (2 : Int32)), .val (.int (1 : Int32)), .val (.ref w_Z), .val (.ref w_Y), .val (.ref w_X)] [])) _
        refine XS.iconst X69.here hx rfl (hb hby at_61) ?_
        show Steps p.tables e below (T69.setTop (mkF m 62 #[.val (.int p0), .val (.int p1), .val (.int (2 : Int32)), .val (.int (2 : Int32)), .val (.int (1 : Int32)), .val (.ref w_Z), .val (.ref w_Y), .val (.ref w_X)] [(.int (1 : Int32))])) _
        refine XS.goto X69.here hx rfl (pc0 := 62) (pc' := 66) rfl (hb hby at_62) (by decide) (by decide) ?_
        show Steps p.tables e below (T69.setTop (mkF m 66 #[.val (.int p0), .val (.int p1), .val (.int (2 : Int32)), .val (.int (2 : Int32)), .val (.int (1 : Int32)), .val (.ref w_Z), .val (.ref w_Y), .val (.ref w_X)] [(.int (1 : Int32))])) _
        exact retN X69 hx (t := .boolean) Bd.returns (by simp) (hb hby at_66) hr
      · show own_Pure (some (.int 1)) h0 n0 _ T69.heap _
        rw [e69]
        exact ⟨rfl, N69, rfl⟩
set_option maxRecDepth 65536 in
set_option maxHeartbeats 40000000 in
theorem comes_1 {Post : Tables → Env → Array Value → State → Outcome → State → Prop} (hpost : ∀ tb e args s v u, (limb_1_1.after args s (.returned v) u = true ∧ limb_1_2.after args s (.returned v) u = true ∧ True) → FrameEnd s (.returned v) u (Jvm.fieldLocs frame_1_writes args s ++ Jvm.arrayLocs frame_1_arrays args s ++ Jvm.staticLocs frame_1_statics s) 0 0 → Post tb e args s (.returned v) u) :
    ArmFor flags0 classFile x code maxLocals ret World_1 tables_1 room_1 Calls_1 rest_1 Pre_1 Post := by
  intro l hfl _ _ p e ha hc hk s m args below hf hA hF happ hP
  obtain ⟨hcalls, hrest, hpre⟩ := hP
  obtain ⟨-, -, -, hnamed, -, -, -, hat⟩ := (Spec.applies_iff hf).mp happ
  obtain ⟨hg, hn⟩ := and_e (Cond.before_iff.mp (show (Jvm.Cond.and given_1 narrow_1).before args s = true from hpre))
  obtain ⟨gg0, hh0⟩ := and_e hg
  obtain ⟨gg1, hh1⟩ := and_e hh0
  obtain ⟨w0, w1, rfl⟩ : ∃ w0 w1 : Value, args = #[w0, w1] := by
    have hs : args.size = 2 := by simpa [Cond.value, given_1] using gg0
    obtain ⟨L⟩ := args
    match L, hs with
    | [w0, w1], _ => exact ⟨w0, w1, rfl⟩
  have hw := fun d (hd : d ∈ tables_1) => atoms_spec (ws := Jvm.Cond.code x code maxLocals ret :: tables_1) hat d (List.mem_cons_of_mem _ hd)
  have hfit : Fit s := fun {y c} hc i hi => by
    obtain ⟨ha, rfl⟩ := Array.getElem?_eq_some_iff.mp hc
    have q := List.all_eq_true.mp ((Array.all_eq_true_iff_forall_mem.mp hF) _ (Array.getElem_mem ha)) i (List.mem_range.mpr hi)
    simpa [Array.getElem?_eq_getElem hi] using q
  obtain ⟨i0, ei0⟩ := is_v gg1
  obtain rfl : w0 = (.int i0) := Option.some.inj ei0
  obtain ⟨i1, ei1⟩ := is_v hh1
  obtain rfl : w1 = (.int i1) := Option.some.inj ei1
  obtain ⟨g1, g2⟩ := and_e hn
  obtain ⟨g3, g4⟩ := and_e g2
  obtain ⟨g5, g6⟩ := and_e g4
  obtain ⟨g7, g8⟩ := and_e g6
  obtain ⟨g9, g10⟩ := and_e g8
  obtain ⟨w_X, ev_X⟩ := exa_v g1
  have E_X := Exa.start ev_X g1
  have S_X := Sta.start ev_X (Or.inr ⟨hw _ (List.mem_of_getElem? (i := 6) rfl), hw _ (List.mem_of_getElem? (i := 7) rfl)⟩)
  have F_X_ordinal := own_fld_eq ev_X g7
  obtain ⟨w_Z, ev_Z⟩ := exa_v g3
  have E_Z := Exa.start ev_Z g3
  have S_Z := Sta.start ev_Z (Or.inr ⟨hw _ (List.mem_of_getElem? (i := 6) rfl), hw _ (List.mem_of_getElem? (i := 9) rfl)⟩)
  have F_Z_ordinal := own_fld_eq ev_Z g10
  obtain ⟨w_Y, ev_Y⟩ := exa_v g5
  have E_Y := Exa.start ev_Y g5
  have S_Y := Sta.start ev_Y (Or.inr ⟨hw _ (List.mem_of_getElem? (i := 6) rfl), hw _ (List.mem_of_getElem? (i := 15) rfl)⟩)
  have F_Y_ordinal := own_fld_eq ev_Y g9
  have hW0 : own_W s s.heap w_X w_Z w_Y := ⟨S_X, E_X, F_X_ordinal, S_Z, E_Z, F_Z_ordinal, S_Y, E_Y, F_Y_ordinal⟩
  obtain ⟨n, o, h1, h2, h3, _, L, rfl, hQ0, hq⟩ := rm_law l s _ hw tables_1 i0 i1 s.heap s.heap.size (Nat.le_refl _) w_X w_Z w_Y hW0 p e ha hc hk s m _ below hf ((Spec.applies_iff_loose hf).mp happ).1 ⟨rfl, State.Warmed39.refl s, rfl⟩ trivial
  have N := hQ0.2.1
  obtain rfl := hQ0.1
  refine ⟨n, _, h1, h2, h3, hpost _ _ _ _ _ _ ⟨Cond.after_iff.mpr rfl, Cond.after_iff.mpr (eq_i res_at (Term.int_eval (1)) rfl), trivial⟩ ⟨hq.1, hq.2.1, (hq.2.2.sift fun y hy => Or.inr (N y hy)).mono (by decide) (by decide)⟩⟩
theorem main_1_1 : Claimed_1_1 := comes_1 fun _ _ _ _ _ _ h hF => ⟨h.1, hF⟩
theorem main_1_2 : Claimed_1_2 := comes_1 fun _ _ _ _ _ _ h hF => ⟨h.2.1, hF⟩
end Jvm.Pilot.@@N@@
namespace Jvm.Pilot.@@N@@
open Jvm Jvm.ClassFile Sem Op Lib Jvm.Free Jvm.Stand Jvm.Pilot.@@N@@.Jvm.D
/-! MADE BY PROGRAM (witnessworld.py) out of the Statement's table words and the real class files: 12 classes; the members and pool entries that the words name. The judged class is class 1, her method 2. -/
namespace start1
open Jvm.ClassFile
def u (s : String) : CpInfo := .utf8 (stringToUtf16 s)
/-- a pool by its gaps: so many unusable entries, then the entry; so many at the end -/
def gap : Nat → List CpInfo → List CpInfo
  | 0, r => r
  | n + 1, r => .unusable :: gap n r
def poolList (es : List (Nat × CpInfo)) (last : Nat) : List CpInfo := es.foldr (fun e r => gap e.1 (e.2 :: r)) (gap last [])
def pool (es : List (Nat × CpInfo)) (last : Nat) : Array CpInfo := ⟨poolList es last⟩
def fileOf (pool : Array CpInfo) (this : Nat) (attrs : Array Attribute := #[]) (ms : Array MethodInfo := #[]) (fl : Nat := 33) (sup : Nat := 0) (ifs : Array Nat := #[]) (fds : Array FieldInfo := #[]) : ClassFile where
  minorVersion := 0
  majorVersion := 65
  constantPool := pool
  accessFlags := fl
  thisClass := this
  superClass := sup
  interfaces := ifs
  fields := fds
  methods := ms
  attributes := attrs
def plain (name : String) (sup : Option ClassId) : Class where
  name := name
  kind := .ordinary
  loader := none
  accessFlags := 33
  super := sup
  interfaces := #[]
  cf := none
  fields := #[]
  methods := #[]
  instanceTypes := #[]
  staticTypes := #[]
  resolved := #[]
  callSites := []
  init := .initialized
  statics := none
  mirror := none

def pool0 : Array CpInfo := pool [(5, u "<init>"), (0, u "()V"), (1, .class_ 10), (1, u "java/lang/Object")] 113

def k0m0 : Method := { name := "<init>", desc := "()V", sig := { parameters := [], returnType := none }, accessFlags := 1, code := none }
/-- java/lang/Object -/
def k0 : Class := { plain "java/lang/Object" none with
  accessFlags := 33
  interfaces := #[]
  cf := some (fileOf pool0 8 #[] #[{ accessFlags := 1, nameIndex := 5, descriptorIndex := 6, attributes := #[] }] 33 0 #[] #[])
  fields := #[]
  methods := #[k0m0]
  instanceTypes := #[]
  staticTypes := #[]
  resolved := Array.replicate 124 none
  statics := none }

def pool1 : Array CpInfo := pool [(2, .class_ 4), (1, u "java/lang/Object"), (0, u "<init>"), (0, u "()V"), (0, .fieldref 8 9), (0, .class_ 10), (0, .nameAndType 11 12), (0, u "com/example/gimbalwise/gimbalwise/Axis"), (0, u "X"), (0, u "Lcom/example/gimbalwise/gimbalwise/Axis;"), (0, .fieldref 8 14), (0, .nameAndType 15 12), (0, u "Y"), (0, .fieldref 8 17), (0, .nameAndType 18 12), (0, u "Z"), (0, .integer 2147483647), (0, .methodref 21 22), (0, .class_ 23), (0, .nameAndType 24 25), (0, u "com/example/gimbalwise/gimbalwise/AxisRemainingPinLaw"), (0, u "axis"), (0, u "(I)Lcom/example/gimbalwise/gimbalwise/Axis;"), (0, .methodref 8 27), (0, .nameAndType 28 29), (0, u "remaining"), (0, u "(Lcom/example/gimbalwise/gimbalwise/Axis;Lcom/example/gimbalwise/gimbalwise/Axis;)Lcom/example/gimbalwise/gimbalwise/Axis;"), (3, u "law"), (0, u "(II)Z")] 2

def k1m0 : Method := { name := "<init>", desc := "()V", sig := { parameters := [], returnType := none }, accessFlags := 1, code := none }
def k1c1 : Code := { maxStack := 2, maxLocals := 1, code := method_2_code, exceptionTable := #[], attributes := #[] }
def k1m1 : Method := { name := "axis", desc := "(I)Lcom/example/gimbalwise/gimbalwise/Axis;", sig := { parameters := [.int], returnType := some (.object "com/example/gimbalwise/gimbalwise/Axis") }, accessFlags := 10, code := some k1c1 }
def k1c2 : Code := { maxStack := 3, maxLocals := 8, code := code, exceptionTable := #[], attributes := #[] }
def k1m2 : Method := { name := "law", desc := "(II)Z", sig := { parameters := [.int, .int], returnType := some .boolean }, accessFlags := 9, code := some k1c2 }
/-- com/example/gimbalwise/gimbalwise/AxisRemainingPinLaw -/
def k1 : Class := { plain "com/example/gimbalwise/gimbalwise/AxisRemainingPinLaw" (some 0) with
  accessFlags := 49
  interfaces := #[]
  cf := some (fileOf pool1 21 #[] #[{ accessFlags := 1, nameIndex := 5, descriptorIndex := 6, attributes := #[] }, { accessFlags := 10, nameIndex := 24, descriptorIndex := 25, attributes := #[] }, { accessFlags := 9, nameIndex := 33, descriptorIndex := 34, attributes := #[] }] 49 2 #[] #[])
  fields := #[]
  methods := #[k1m0, k1m1, k1m2]
  instanceTypes := #[]
  staticTypes := #[]
  resolved := Array.replicate 37 none
  statics := none }

def pool2 : Array CpInfo := pool [(1, .class_ 2), (0, u "java/lang/constant/Constable"), (0, .class_ 4), (0, u "java/lang/Object")] 6

/-- java/lang/constant/Constable -/
def k2 : Class := { plain "java/lang/constant/Constable" (some 0) with
  accessFlags := 1537
  interfaces := #[]
  cf := some (fileOf pool2 1 #[] #[] 1537 3 #[] #[])
  fields := #[]
  methods := #[]
  instanceTypes := #[]
  staticTypes := #[]
  resolved := Array.replicate 11 none
  statics := none }

def pool3 : Array CpInfo := pool [(1, .class_ 2), (0, u "java/lang/Comparable"), (0, .class_ 4), (0, u "java/lang/Object")] 7

/-- java/lang/Comparable -/
def k3 : Class := { plain "java/lang/Comparable" (some 0) with
  accessFlags := 1537
  interfaces := #[]
  cf := some (fileOf pool3 1 #[] #[] 1537 3 #[] #[])
  fields := #[]
  methods := #[]
  instanceTypes := #[]
  staticTypes := #[]
  resolved := Array.replicate 12 none
  statics := none }

def pool4 : Array CpInfo := pool [(1, .class_ 2), (0, u "java/io/Serializable"), (0, .class_ 4), (0, u "java/lang/Object")] 2

/-- java/io/Serializable -/
def k4 : Class := { plain "java/io/Serializable" (some 0) with
  accessFlags := 1537
  interfaces := #[]
  cf := some (fileOf pool4 1 #[] #[] 1537 3 #[] #[])
  fields := #[]
  methods := #[]
  instanceTypes := #[]
  staticTypes := #[]
  resolved := Array.replicate 7 none
  statics := none }

def pool5 : Array CpInfo := pool [(2, .class_ 4), (1, u "java/lang/Enum"), (0, u "name"), (0, u "Ljava/lang/String;"), (2, u "ordinal"), (0, u "I"), (1, .class_ 14), (1, u "java/lang/Object"), (4, u "hash"), (86, .class_ 108), (1, u "java/lang/Enum$EnumDesc"), (2, .class_ 112), (0, u "java/lang/constant/Constable"), (0, .class_ 114), (0, u "java/lang/Comparable"), (0, .class_ 116), (0, u "java/io/Serializable")] 87

/-- java/lang/Enum -/
def k5 : Class := { plain "java/lang/Enum" (some 0) with
  accessFlags := 1057
  interfaces := #[2, 3, 4]
  cf := some (fileOf pool5 2 #[.nestMembers #[106]] #[] 1057 12 #[111, 113, 115] #[{ accessFlags := 18, nameIndex := 5, descriptorIndex := 6, attributes := #[] }, { accessFlags := 18, nameIndex := 9, descriptorIndex := 10, attributes := #[] }, { accessFlags := 2, nameIndex := 19, descriptorIndex := 10, attributes := #[] }])
  fields := #[{ name := "name", type := (.object "java/lang/String"), accessFlags := 18, slot := 0, constantValue := 0 }, { name := "ordinal", type := .int, accessFlags := 18, slot := 1, constantValue := 0 }, { name := "hash", type := .int, accessFlags := 2, slot := 2, constantValue := 0 }]
  methods := #[]
  instanceTypes := #[(.object "java/lang/String"), .int, .int]
  staticTypes := #[]
  resolved := Array.replicate 204 none
  statics := none }

def pool6 : Array CpInfo := pool [(1, .class_ 2), (0, u "com/example/gimbalwise/gimbalwise/Axis"), (0, .fieldref 1 4), (0, .nameAndType 5 6), (0, u "X"), (0, u "Lcom/example/gimbalwise/gimbalwise/Axis;"), (0, .fieldref 1 8), (0, .nameAndType 9 6), (0, u "Y"), (0, .fieldref 1 11), (0, .nameAndType 12 6), (0, u "Z"), (2, u "$VALUES"), (0, u "[Lcom/example/gimbalwise/gimbalwise/Axis;"), (6, .class_ 25), (1, u "java/lang/Enum"), (33, u "remaining"), (0, u "(Lcom/example/gimbalwise/gimbalwise/Axis;Lcom/example/gimbalwise/gimbalwise/Axis;)Lcom/example/gimbalwise/gimbalwise/Axis;")] 4

def k6c0 : Code := { maxStack := 2, maxLocals := 2, code := prog_5_method_5_code, exceptionTable := #[], attributes := #[] }
def k6m0 : Method := { name := "remaining", desc := "(Lcom/example/gimbalwise/gimbalwise/Axis;Lcom/example/gimbalwise/gimbalwise/Axis;)Lcom/example/gimbalwise/gimbalwise/Axis;", sig := { parameters := [(.object "com/example/gimbalwise/gimbalwise/Axis"), (.object "com/example/gimbalwise/gimbalwise/Axis")], returnType := some (.object "com/example/gimbalwise/gimbalwise/Axis") }, accessFlags := 8, code := some k6c0 }
/-- com/example/gimbalwise/gimbalwise/Axis -/
def k6 : Class := { plain "com/example/gimbalwise/gimbalwise/Axis" (some 5) with
  accessFlags := 16433
  interfaces := #[]
  cf := some (fileOf pool6 1 #[] #[{ accessFlags := 8, nameIndex := 59, descriptorIndex := 60, attributes := #[] }] 16433 23 #[] #[{ accessFlags := 16409, nameIndex := 5, descriptorIndex := 6, attributes := #[] }, { accessFlags := 16409, nameIndex := 9, descriptorIndex := 6, attributes := #[] }, { accessFlags := 16409, nameIndex := 12, descriptorIndex := 6, attributes := #[] }, { accessFlags := 4122, nameIndex := 15, descriptorIndex := 16, attributes := #[] }])
  fields := #[{ name := "X", type := (.object "com/example/gimbalwise/gimbalwise/Axis"), accessFlags := 16409, slot := 0, constantValue := 0 }, { name := "Y", type := (.object "com/example/gimbalwise/gimbalwise/Axis"), accessFlags := 16409, slot := 1, constantValue := 0 }, { name := "Z", type := (.object "com/example/gimbalwise/gimbalwise/Axis"), accessFlags := 16409, slot := 2, constantValue := 0 }, { name := "$VALUES", type := (.array (.object "com/example/gimbalwise/gimbalwise/Axis")), accessFlags := 4122, slot := 3, constantValue := 0 }]
  methods := #[k6m0]
  instanceTypes := #[(.object "java/lang/String"), .int, .int]
  staticTypes := #[(.object "com/example/gimbalwise/gimbalwise/Axis"), (.object "com/example/gimbalwise/gimbalwise/Axis"), (.object "com/example/gimbalwise/gimbalwise/Axis"), (.array (.object "com/example/gimbalwise/gimbalwise/Axis"))]
  resolved := Array.replicate 65 none
  statics := some 0 }

def pool7 : Array CpInfo := pool [(1, u "java/lang/Cloneable"), (0, .class_ 1), (0, u "java/lang/Object"), (0, .class_ 3)] 3

/-- java/lang/Cloneable -/
def k7 : Class := { plain "java/lang/Cloneable" (some 0) with
  accessFlags := 1537
  interfaces := #[]
  cf := some (fileOf pool7 2 #[] #[] 1537 4 #[] #[])
  fields := #[]
  methods := #[]
  instanceTypes := #[]
  staticTypes := #[]
  resolved := Array.replicate 8 none
  statics := none }

/-- the primitive byte -/
def k8 : Class := { plain "byte" none with kind := .primitive 'B', accessFlags := 0x411 }
/-- [B -/
def k9 : Class := { plain "[B" (some 0) with kind := .array 8 .byte, interfaces := #[7, 4], accessFlags := 1041 }

/-- the primitive int -/
def k10 : Class := { plain "int" none with kind := .primitive 'I', accessFlags := 0x411 }
/-- [I -/
def k11 : Class := { plain "[I" (some 0) with kind := .array 10 .int, interfaces := #[7, 4], accessFlags := 1041 }

def heap : Heap := #[{ cls := 6, slots := #[.ref 1, .ref 3, .ref 2, .null], vm := .statics 6 },
  { cls := 6, slots := #[.null, .int 0, .int 0], vm := .none },
  { cls := 6, slots := #[.null, .int 2, .int 0], vm := .none },
  { cls := 6, slots := #[.null, .int 1, .int 0], vm := .none }]
def classes : Array Class := #[k0, k1, k2, k3, k4, k5, k6, k7, k8, k9, k10, k11]
def interned : List (Array UInt16 × Addr) := []
def slotsUsed : Nat := 13
def theMethod : MethodId := ⟨1, 2⟩
def args0 : Array Value := #[.int 5, .int 7]
def aboutOver (below : List Frame) : State where
  vm := { classes := classes, interned := interned.toArray }
  heap := heap
  slotsUsed := slotsUsed
  threads := #[{ frames := .invoking theMethod args0 :: below }]
def below0 : List Frame := [.native { method := ⟨0, 0⟩, args := #[] }]
def about1 : State := aboutOver below0
def p0 : Program := .bare "" "" ""
def e0 : Env := launch0.env 0 0 0
theorem w_frames : about1.frames = Frame.invoking theMethod args0 :: below0 := rfl
set_option maxRecDepth 65536 in
theorem w_args : argsFit about1.vm theMethod args0 = true := by decide +kernel
set_option maxRecDepth 65536 in
theorem w_heap : heapFits about1 = true := by decide +kernel
set_option maxRecDepth 65536 in
theorem w_runnable : about1.curStatus? = some .runnable := by decide +kernel
set_option maxRecDepth 65536 in
theorem w_alone : about1.alone = true := by decide +kernel
set_option maxRecDepth 65536 in
theorem w_named : about1.methodNamed? x = some theMethod := by decide +kernel
set_option maxRecDepth 65536 in
theorem w_hears : about1.hears theMethod below0 = true := by decide +kernel
set_option maxRecDepth 65536 in
theorem w_ripe : about1.ripe theMethod args0 below0 = true := by decide +kernel
theorem w_running : about1.status = .running := rfl
set_option maxRecDepth 65536 in
theorem w_room : about1.hasRoom e0.platform room_1 = true :=
  launch0.hasRoom_least _ room_1 (by decide +kernel) (by decide +kernel) (by decide +kernel) (by decide +kernel) (by decide +kernel) (by decide +kernel)
theorem allAtoms_all (ts : List Jvm.Cond) (a : Array Jvm.Value) (st : Jvm.State) : (allAtoms ts).before a st = ts.all (fun c => c.before a st) := by
  induction ts with
  | nil => rfl
  | cons c t ih =>
    show (Jvm.Cond.and c (allAtoms t)).before a st = _
    rw [Jvm.Cond.before_and, ih, List.all_cons]
def words1 : List Jvm.Cond := Jvm.Cond.code x code maxLocals ret :: tables_1
/-- a 'code' word, met by the world's own term for the bytes: nothing is compared byte by byte -/
theorem code_word {y : MethodName} {bytes : ByteArray} {mx : Nat} {rt : Option FieldType} {a : Array Value} {s : State} {m : MethodId} {meth : Method} {c : Code} (h1 : s.methodNamed? y = some m) (h2 : s.vm.method? m = some meth) (h3 : meth.code = some c) (h4 : c.code = bytes)
    (h5 : (c.maxLocals == mx && c.exceptionTable.isEmpty && decide (c.maxStack ≤ mostOperands) && decide (meth.sig.returnType = rt) && !meth.locks && decide (parseMethodDescriptor y.desc = some meth.sig)) = true) : (Jvm.Cond.code y bytes mx rt).before a s = true := by
  simp only [Bool.and_eq_true, beq_iff_eq, Bool.not_eq_true', decide_eq_true_eq] at h5
  obtain ⟨⟨⟨⟨⟨g1, g2⟩, g3⟩, g4⟩, g5⟩, g6⟩ := h5
  simp [Cond.before, Cond.holds, Cond.value, h1, h2, h3, h4, g1, g2, g3, g4, g5, g6]
def isCode : Jvm.Cond → Bool
  | .code _ _ _ _ => true
  | _ => false
theorem all_split {L : List Jvm.Cond} {P : Jvm.Cond → Bool} (h1 : L.all (fun c => isCode c || P c) = true) (h2 : ∀ c ∈ L.filter isCode, P c = true) : L.all P = true := by
  refine List.all_eq_true.mpr fun c hc => ?_
  have h := List.all_eq_true.mp h1 c hc
  rcases Bool.eq_false_or_eq_true (isCode c) with hi | hi
  · exact h2 c (List.mem_filter.mpr ⟨hc, hi⟩)
  · simpa [hi] using h
set_option maxRecDepth 65536 in
theorem w_c0 : (Jvm.Cond.code x code maxLocals ret).before args0 about1 = true := code_word (m := ⟨1, 2⟩) (meth := k1m2) (c := k1c2) (by decide +kernel) rfl rfl rfl (by decide +kernel)
set_option maxRecDepth 65536 in
theorem w_c1 : (Jvm.Cond.code ({ cls := "com/example/gimbalwise/gimbalwise/AxisRemainingPinLaw", name := "axis", desc := "(I)Lcom/example/gimbalwise/gimbalwise/Axis;" } : Jvm.MethodName) method_2_code (1 : Nat) (Option.some (Jvm.ClassFile.FieldType.object "com/example/gimbalwise/gimbalwise/Axis"))).before args0 about1 = true := code_word (m := ⟨1, 1⟩) (meth := k1m1) (c := k1c1) (by decide +kernel) rfl rfl rfl (by decide +kernel)
set_option maxRecDepth 65536 in
theorem w_c2 : (Jvm.Cond.code ({ cls := "com/example/gimbalwise/gimbalwise/Axis", name := "remaining", desc := "(Lcom/example/gimbalwise/gimbalwise/Axis;Lcom/example/gimbalwise/gimbalwise/Axis;)Lcom/example/gimbalwise/gimbalwise/Axis;" } : Jvm.MethodName) prog_5_method_5_code (2 : Nat) (Option.some (Jvm.ClassFile.FieldType.object "com/example/gimbalwise/gimbalwise/Axis"))).before args0 about1 = true := code_word (m := ⟨6, 0⟩) (meth := k6m0) (c := k6c0) (by decide +kernel) rfl rfl rfl (by decide +kernel)
def codes1 : List Jvm.Cond := [Jvm.Cond.code x code maxLocals ret, Jvm.Cond.code ({ cls := "com/example/gimbalwise/gimbalwise/AxisRemainingPinLaw", name := "axis", desc := "(I)Lcom/example/gimbalwise/gimbalwise/Axis;" } : Jvm.MethodName) method_2_code (1 : Nat) (Option.some (Jvm.ClassFile.FieldType.object "com/example/gimbalwise/gimbalwise/Axis")), Jvm.Cond.code ({ cls := "com/example/gimbalwise/gimbalwise/Axis", name := "remaining", desc := "(Lcom/example/gimbalwise/gimbalwise/Axis;Lcom/example/gimbalwise/gimbalwise/Axis;)Lcom/example/gimbalwise/gimbalwise/Axis;" } : Jvm.MethodName) prog_5_method_5_code (2 : Nat) (Option.some (Jvm.ClassFile.FieldType.object "com/example/gimbalwise/gimbalwise/Axis"))]
set_option maxRecDepth 65536 in
theorem codes_eq : words1.filter isCode = codes1 := rfl
theorem w_codes : ∀ c ∈ words1.filter isCode, c.before args0 about1 = true := by
  rw [codes_eq]
  intro c hc
  simp only [codes1, List.mem_cons, List.not_mem_nil, or_false] at hc
  rcases hc with rfl | rfl | rfl
  · exact w_c0
  · exact w_c1
  · exact w_c2
set_option maxRecDepth 65536 in
theorem w_t1 : words1.all (fun c => isCode c || c.before args0 about1) = true := by decide +kernel
theorem w_tables : (allAtoms (Jvm.Cond.code x code maxLocals ret :: tables_1)).before args0 about1 = true := by
  rw [allAtoms_all]
  show words1.all (fun c => c.before args0 about1) = true
  refine all_split ?_ w_codes
  rw [w_t1]
set_option maxRecDepth 65536 in
theorem w_case : (Jvm.Cond.and given_1 narrow_1).before args0 about1 = true := by decide +kernel
theorem w_applies : (headSpec (Jvm.Cond.code x code maxLocals ret :: tables_1) room_1).applies x e0.platform about1 = true :=
  (Spec.applies_iff w_frames).mpr ⟨w_running, w_runnable, w_alone, w_named, w_hears, w_ripe, w_room, w_tables⟩
theorem atStart : AtStart classFile x code maxLocals ret World_1 tables_1 room_1 Calls_1 rest_1 Pre_1 launch0 p0 e0 about1 theMethod args0 below0 :=
  ⟨lists_1, trivial, launch0.admits_env _ _ _, launch0.least_env, fairChoices_fair.cas, fairChoices_fair.clock, w_frames, w_args, w_heap, w_applies, trivial, trivial, w_case⟩
end start1
theorem witness_1 : WitnessClaimed_1 := ⟨start1.p0, start1.e0, start1.about1, start1.theMethod, start1.args0, start1.below0, start1.atStart⟩
end Jvm.Pilot.@@N@@
