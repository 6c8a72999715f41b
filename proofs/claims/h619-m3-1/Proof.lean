import JvmDerived
import JvmDerived.Pilot.@@N@@Statement
import JvmDerived.Pilot.@@N@@Code
set_option linter.unusedVariables false
set_option linter.unusedSimpArgs false

namespace Jvm.Pilot.@@N@@
open Jvm Jvm.ClassFile Sem Op Lib Jvm.Free Jvm.Stand Jvm.LawKit Jvm.RoadKit Bundle Jvm.Pilot.@@N@@.Jvm.D
/-- a body that writes nothing and returns r -/
def own_Pure (r : Option Value) (h0 : Heap) (n0 : Nat) (v : Option Value) (h : Heap) (L : List Loc) : Prop := v = r ∧ Fr n0 L ∧ h = h0
theorem own_fld_eq {args : Array Value} {Z : State} {t : Term} {a : Addr} {C n d : String} {k : Int32} (ht : t.eval args Z none [] Z = some (.ref a))
    (h : (Cond.eq (.field t C n d) (.int k)).value args Z none Z [] = some true) : Fld Z Z.heap a C n d (.int k) := by
  apply Fld.start
  have e1 : (Term.field t C n d).eval args Z none [] Z = Z.fieldOf? a C n d := fld_at ht
  rw [← e1]
  have e2 : (Term.int k).eval args Z none [] Z = some (.int k) := Term.int_eval k
  simp only [Cond.value] at h
  cases hx : (Term.field t C n d).eval args Z none [] Z with
  | none => simp [hx] at h
  | some v => cases v <;> simp [hx, e2] at h ⊢; exact h
/-- what the case says of the pinned statics -/
def own_W (Z : State) (h : Heap) (w_X w_Y w_Z : Addr) : Prop :=
  Sta Z h "com/example/gimbalwise/gimbalwise/Axis" "X" "Lcom/example/gimbalwise/gimbalwise/Axis;" (.ref w_X) ∧
  Exa Z h w_X "com/example/gimbalwise/gimbalwise/Axis" ∧
  Fld Z h w_X "java/lang/Enum" "ordinal" "I" (.int (0 : Int32)) ∧
  Sta Z h "com/example/gimbalwise/gimbalwise/Axis" "Y" "Lcom/example/gimbalwise/gimbalwise/Axis;" (.ref w_Y) ∧
  Exa Z h w_Y "com/example/gimbalwise/gimbalwise/Axis" ∧
  Fld Z h w_Y "java/lang/Enum" "ordinal" "I" (.int (1 : Int32)) ∧
  Sta Z h "com/example/gimbalwise/gimbalwise/Axis" "Z" "Lcom/example/gimbalwise/gimbalwise/Axis;" (.ref w_Z) ∧
  Exa Z h w_Z "com/example/gimbalwise/gimbalwise/Axis" ∧
  Fld Z h w_Z "java/lang/Enum" "ordinal" "I" (.int (2 : Int32))
theorem own_W.ext {Z : State} {h h' : Heap} {w_X w_Y w_Z : Addr} (E : Ext h h') (H : own_W Z h w_X w_Y w_Z) : own_W Z h' w_X w_Y w_Z := by
  obtain ⟨S_X, E_X, F_X_ordinal, S_Y, E_Y, F_Y_ordinal, S_Z, E_Z, F_Z_ordinal⟩ := H
  exact ⟨S_X.ext E, E_X.ext E, F_X_ordinal.ext E, S_Y.ext E, E_Y.ext E, F_Y_ordinal.ext E, S_Z.ext E, E_Z.ext E, F_Z_ordinal.ext E⟩
theorem own_rem3 (x : Int32) : (x &&& (2147483647 : Int32)) % (3 : Int32) = (0 : Int32) ∨ (x &&& (2147483647 : Int32)) % (3 : Int32) = (1 : Int32) ∨ (x &&& (2147483647 : Int32)) % (3 : Int32) = (2 : Int32) := by
  have h1 : (x &&& (2147483647 : Int32)).toInt = x.toInt % 2147483648 := c_mask x 2147483647 31 (by decide) (by decide)
  have h2 := (c_irem (x &&& (2147483647 : Int32)) (3 : Int32) 3 (by decide)).1 (by omega)
  have h3 : ((x &&& (2147483647 : Int32)) % (3 : Int32)).toInt = 0 ∨ ((x &&& (2147483647 : Int32)) % (3 : Int32)).toInt = 1 ∨ ((x &&& (2147483647 : Int32)) % (3 : Int32)).toInt = 2 := by omega
  rcases h3 with h | h | h
  · exact Or.inl (Int32.toInt_inj.mp (by rw [h]; decide))
  · exact Or.inr (Or.inl (Int32.toInt_inj.mp (by rw [h]; decide)))
  · exact Or.inr (Or.inr ((Int32.toInt_inj.mp (by rw [h]; decide))))
theorem d1_0 : decode method_2_code 0 = .ok (.iload_n 0, 1) := by decide +kernel
theorem d1_1 : decode method_2_code 1 = .ok (.ifCond .ne 7, 3) := by decide +kernel
theorem d1_4 : decode method_2_code 4 = .ok (.getstatic 7, 3) := by decide +kernel
theorem d1_7 : decode method_2_code 7 = .ok (.areturn, 1) := by decide +kernel
theorem d1_8 : decode method_2_code 8 = .ok (.iload_n 0, 1) := by decide +kernel
theorem d1_9 : decode method_2_code 9 = .ok (.iconst 1, 1) := by decide +kernel
theorem d1_10 : decode method_2_code 10 = .ok (.if_icmp .ne 7, 3) := by decide +kernel
theorem d1_13 : decode method_2_code 13 = .ok (.getstatic 13, 3) := by decide +kernel
theorem d1_16 : decode method_2_code 16 = .ok (.areturn, 1) := by decide +kernel
theorem d1_17 : decode method_2_code 17 = .ok (.getstatic 16, 3) := by decide +kernel
theorem d1_20 : decode method_2_code 20 = .ok (.areturn, 1) := by decide +kernel
theorem pn_11 : plainName "com/example/gimbalwise/gimbalwise/AxisNextPinLaw" = true := by first | (simp [plainName, overriddenIn]; done) | decide +kernel
theorem ef_rm_axis (m : MethodId) (x0 : Int32) : entryFrame m #[(.int x0)] 1 = mkF m 0 #[.val (.int x0)] [] := by first | (simp [entryFrame, mkF, argsToLocals, Value.category]; done) | rfl
set_option maxRecDepth 65536 in
set_option maxHeartbeats 40000000 in
theorem rm_axis (l : Launch) (Z : State) (a0 : Array Value) (hw : ∀ d ∈ tables_1, d.before a0 Z = true) (ws : List Jvm.Cond) (k : Int32) (h0 : Heap) (n0 : Nat) (Z0 : n0 ≤ h0.size) (w_X w_Y w_Z : Addr) (hWd : own_W Z h0 w_X w_Y w_Z) (r : Addr) (hres : (if k = (0 : Int32) then w_X else if k = (1 : Int32) then w_Y else w_Z) = r) :
    MetFree l (⟨"com/example/gimbalwise/gimbalwise/AxisNextPinLaw", "axisOf", "(I)Lcom/example/gimbalwise/gimbalwise/Axis;"⟩ : MethodName) (head1 (Jvm.Cond.code (⟨"com/example/gimbalwise/gimbalwise/AxisNextPinLaw", "axisOf", "(I)Lcom/example/gimbalwise/gimbalwise/Axis;"⟩ : MethodName) method_2_code 1 (some (.object "com/example/gimbalwise/gimbalwise/Axis")) :: ws) ({ frames := 0, cells := 0, slots := 0, locals := 0 } : Room)) (fun aQ UQ => aQ = #[(.int k)] ∧ Z.Warmed39 UQ.vm ∧ UQ.heap = h0) (fun _ _ _ _ _ => True) (fun _ UQ oQ UR => ∃ vQ LQ, oQ = .returned vQ ∧ own_Pure (some (.ref r)) h0 n0 vQ UR.heap LQ ∧ FrameEnd UQ oQ UR LQ ({ frames := 0, cells := 0, slots := 0, locals := 0 } : Room).cells ({ frames := 0, cells := 0, slots := 0, locals := 0 } : Room).slots) := by
  refine MetFree.of_bodySF (plainFor_of_name pn_11) hisR ?_
  intro p e s m args below meth c s₁ Bd hml0 hP hK
  obtain ⟨rfl, hZ, hh⟩ := hP
  have hx := Bd.exec
  have hby := Bd.bytes
  have hml : c.maxLocals = 1 := hml0
  have hown : s.vm.findClass "com/example/gimbalwise/gimbalwise/AxisNextPinLaw" = some m.cls := findClass_of_methodNamed Bd.named
  have hnm := (name_of_methodNamed Bd.named Bd.method).1
  have X0 : Stand p l e ({ frames := 0, cells := 0, slots := 0, locals := 0 } : Room) s m #[(.int k)] below meth c s₁ [] 0 0 := Stand.of_body Bd
  have e0 : s₁.heap = h0 := by rw [← hh, Bd.state]; rfl
  have N0 := Fr.nil n0
  have pre0 : ∀ t, Steps p.tables e below (s₁.setTop (mkF m 0 #[.val (.int k)] [])) t → Steps p.tables e below (s₁.setTop (entryFrame m #[(.int k)] 1)) t := fun t kq => castTop (ef_rm_axis m k) kq
  obtain ⟨S_X, E_X, F_X_ordinal, S_Y, E_Y, F_Y_ordinal, S_Z, E_Z, F_Z_ordinal⟩ := hWd
  by_cases hc1_11 : k = (0 : Int32)
  · -- pc 1: k = (0 : Int32)
    obtain ⟨T12, X12, e12, st12⟩ := getS2 X0 hx hZ hown (host := "") (Or.inl (hw _ (List.mem_of_getElem? (i := 5) rfl))) Via.refl e0 S_X (g := (mkF m 4 #[.val (.int k)] [])) rfl (hb hby d1_4)
    obtain ⟨fs, hr, hrun, hended, hW, hsame⟩ := X12.leave (v := some (.ref w_X)) (fun h => by rw [Bd.returns] at h; cases h)
    refine ⟨_, _, pre0 _ ?_, hrun, hended, _, _, rfl, ?_, ⟨_, rfl⟩, hW, hsame.mono (by decide) (by decide)⟩
    · show Steps p.tables e below (s₁.setTop (mkF m 0 #[.val (.int k)] [])) _
      refine XS.iloadN X0.here hx rfl (hb hby d1_0) rfl ?_
      show Steps p.tables e below (s₁.setTop (mkF m 1 #[.val (.int k)] [(.int k)])) _
      refine XS.ifNo X0.here hx rfl (hb hby d1_1) rfl ((if0 _ _).trans (teq hc1_11).2) ?_
      show Steps p.tables e below (s₁.setTop (mkF m 4 #[.val (.int k)] [])) _
      refine st12 _ ?_
      show Steps p.tables e below (T12.setTop (mkF m 7 #[.val (.int k)] [(.ref w_X)])) _
      exact retOut X12 hx Bd.returns rfl (Or.inr (Or.inr (Or.inr (Or.inr ⟨rfl, rfl, rfl⟩)))) (hb hby d1_7) hr
    · show own_Pure (some (.ref r)) h0 n0 _ T12.heap _
      rw [e12]
      exact ⟨by rw [← hres]; simp only [if_pos hc1_11], N0, rfl⟩
  · -- pc 1: not k = (0 : Int32)
    have ck14 : ∀ t, Steps p.tables e below (s₁.setTop (mkF m 10 #[.val (.int k)] [(.int (1 : Int32)), (.int k)])) t → Steps p.tables e below (s₁.setTop (entryFrame m #[(.int k)] 1)) t := by
      intro t kt
      refine pre0 _ ?_
      show Steps p.tables e below (s₁.setTop (mkF m 0 #[.val (.int k)] [])) _
      refine XS.iloadN X0.here hx rfl (hb hby d1_0) rfl ?_
      show Steps p.tables e below (s₁.setTop (mkF m 1 #[.val (.int k)] [(.int k)])) _
      refine XS.ifYes X0.here hx rfl (pc0 := 1) (pc' := 8) rfl (hb hby d1_1) rfl ((if0 _ _).trans (feq hc1_11).2) (by decide) (by decide) ?_
      show Steps p.tables e below (s₁.setTop (mkF m 8 #[.val (.int k)] [])) _
      refine XS.iloadN X0.here hx rfl (hb hby d1_8) rfl ?_
      show Steps p.tables e below (s₁.setTop (mkF m 9 #[.val (.int k)] [(.int k)])) _
      refine XS.iconst X0.here hx rfl (hb hby d1_9) ?_
      exact kt
    by_cases hc10_13 : k = (1 : Int32)
    · -- pc 10: k = (1 : Int32)
      obtain ⟨T15, X15, e15, st15⟩ := getS2 X0 hx hZ hown (host := "") (Or.inl (hw _ (List.mem_of_getElem? (i := 8) rfl))) Via.refl e0 S_Y (g := (mkF m 13 #[.val (.int k)] [])) rfl (hb hby d1_13)
      obtain ⟨fs, hr, hrun, hended, hW, hsame⟩ := X15.leave (v := some (.ref w_Y)) (fun h => by rw [Bd.returns] at h; cases h)
      refine ⟨_, _, ck14 _ ?_, hrun, hended, _, _, rfl, ?_, ⟨_, rfl⟩, hW, hsame.mono (by decide) (by decide)⟩
      · show Steps p.tables e below (s₁.setTop (mkF m 10 #[.val (.int k)] [(.int (1 : Int32)), (.int k)])) _
        refine XS.icmpNo X0.here hx rfl (hb hby d1_10) rfl (teq hc10_13).2 ?_
        show Steps p.tables e below (s₁.setTop (mkF m 13 #[.val (.int k)] [])) _
        refine st15 _ ?_
        show Steps p.tables e below (T15.setTop (mkF m 16 #[.val (.int k)] [(.ref w_Y)])) _
        exact retOut X15 hx Bd.returns rfl (Or.inr (Or.inr (Or.inr (Or.inr ⟨rfl, rfl, rfl⟩)))) (hb hby d1_16) hr
      · show own_Pure (some (.ref r)) h0 n0 _ T15.heap _
        rw [e15]
        exact ⟨by rw [← hres]; simp only [if_neg hc1_11, if_pos hc10_13], N0, rfl⟩
    · -- pc 10: not k = (1 : Int32)
      obtain ⟨T16, X16, e16, st16⟩ := getS2 X0 hx hZ hown (host := "") (Or.inl (hw _ (List.mem_of_getElem? (i := 25) rfl))) Via.refl e0 S_Z (g := (mkF m 17 #[.val (.int k)] [])) rfl (hb hby d1_17)
      obtain ⟨fs, hr, hrun, hended, hW, hsame⟩ := X16.leave (v := some (.ref w_Z)) (fun h => by rw [Bd.returns] at h; cases h)
      refine ⟨_, _, ck14 _ ?_, hrun, hended, _, _, rfl, ?_, ⟨_, rfl⟩, hW, hsame.mono (by decide) (by decide)⟩
      · show Steps p.tables e below (s₁.setTop (mkF m 10 #[.val (.int k)] [(.int (1 : Int32)), (.int k)])) _
        refine XS.icmpYes X0.here hx rfl (pc0 := 10) (pc' := 17) rfl (hb hby d1_10) rfl (feq hc10_13).2 (by decide) (by decide) ?_
        show Steps p.tables e below (s₁.setTop (mkF m 17 #[.val (.int k)] [])) _
        refine st16 _ ?_
        show Steps p.tables e below (T16.setTop (mkF m 20 #[.val (.int k)] [(.ref w_Z)])) _
        exact retOut X16 hx Bd.returns rfl (Or.inr (Or.inr (Or.inr (Or.inr ⟨rfl, rfl, rfl⟩)))) (hb hby d1_20) hr
      · show own_Pure (some (.ref r)) h0 n0 _ T16.heap _
        rw [e16]
        exact ⟨by rw [← hres]; simp only [if_neg hc1_11, if_neg hc10_13], N0, rfl⟩
theorem d3_0 : decode jdk_37_method_2_code 0 = .ok (.aload_n 0, 1) := by decide +kernel
theorem d3_1 : decode jdk_37_method_2_code 1 = .ok (.getfield 7, 3) := by decide +kernel
theorem d3_4 : decode jdk_37_method_2_code 4 = .ok (.ireturn, 1) := by decide +kernel
theorem pn_15 : plainName "java/lang/Enum" = true := by first | (simp [plainName, overriddenIn]; done) | decide +kernel
theorem ef_rm_ord (m : MethodId) (x0 : Addr) : entryFrame m #[(.ref x0)] 1 = mkF m 0 #[.val (.ref x0)] [] := by first | (simp [entryFrame, mkF, argsToLocals, Value.category]; done) | rfl
set_option maxRecDepth 65536 in
set_option maxHeartbeats 40000000 in
theorem rm_ord (l : Launch) (Z : State) (a0 : Array Value) (hw : ∀ d ∈ tables_1, d.before a0 Z = true) (ws : List Jvm.Cond) (a1 : Addr) (h0 : Heap) (n0 : Nat) (Z0 : n0 ≤ h0.size) (r : Int32) (F : Fld Z h0 a1 "java/lang/Enum" "ordinal" "I" (.int r)) :
    MetFree l (⟨"java/lang/Enum", "ordinal", "()I"⟩ : MethodName) (head1 (Jvm.Cond.code (⟨"java/lang/Enum", "ordinal", "()I"⟩ : MethodName) jdk_37_method_2_code 1 (some .int) :: ws) ({ frames := 0, cells := 0, slots := 0, locals := 0 } : Room)) (fun aQ UQ => aQ = #[(.ref a1)] ∧ Z.Warmed39 UQ.vm ∧ UQ.heap = h0) (fun _ _ _ _ _ => True) (fun _ UQ oQ UR => ∃ vQ LQ, oQ = .returned vQ ∧ own_Pure (some (.int r)) h0 n0 vQ UR.heap LQ ∧ FrameEnd UQ oQ UR LQ ({ frames := 0, cells := 0, slots := 0, locals := 0 } : Room).cells ({ frames := 0, cells := 0, slots := 0, locals := 0 } : Room).slots) := by
  refine MetFree.of_bodySF (plainFor_of_name pn_15) hisR ?_
  intro p e s m args below meth c s₁ Bd hml0 hP hK
  obtain ⟨rfl, hZ, hh⟩ := hP
  have hx := Bd.exec
  have hby := Bd.bytes
  have hml : c.maxLocals = 1 := hml0
  have hown : s.vm.findClass "java/lang/Enum" = some m.cls := findClass_of_methodNamed Bd.named
  have hnm := (name_of_methodNamed Bd.named Bd.method).1
  have X0 : Stand p l e ({ frames := 0, cells := 0, slots := 0, locals := 0 } : Room) s m #[(.ref a1)] below meth c s₁ [] 0 0 := Stand.of_body Bd
  have e0 : s₁.heap = h0 := by rw [← hh, Bd.state]; rfl
  have N0 := Fr.nil n0
  have pre0 : ∀ t, Steps p.tables e below (s₁.setTop (mkF m 0 #[.val (.ref a1)] [])) t → Steps p.tables e below (s₁.setTop (entryFrame m #[(.ref a1)] 1)) t := fun t kq => castTop (ef_rm_ord m a1) kq
  obtain ⟨T17, X17, e17, st17⟩ := getF X0 hx hZ hown (host := "") (Or.inl (hw _ (List.mem_of_getElem? (i := 22) rfl))) Via.refl e0 F (g := (mkF m 1 #[.val (.ref a1)] [(.ref a1)])) rfl rfl (hb hby d3_1)
  obtain ⟨fs, hr, hrun, hended, hW, hsame⟩ := X17.leave (v := some (.int r)) (fun h => by rw [Bd.returns] at h; cases h)
  refine ⟨_, _, pre0 _ ?_, hrun, hended, _, _, rfl, ?_, ⟨_, rfl⟩, hW, hsame.mono (by decide) (by decide)⟩
  · show Steps p.tables e below (s₁.setTop (mkF m 0 #[.val (.ref a1)] [])) _
    refine XS.aloadN X0.here hx rfl (hb hby d3_0) rfl rfl ?_
    show Steps p.tables e below (s₁.setTop (mkF m 1 #[.val (.ref a1)] [(.ref a1)])) _
    refine st17 _ ?_
    show Steps p.tables e below (T17.setTop (mkF m 4 #[.val (.ref a1)] [(.int r)])) _
    exact retOut X17 hx Bd.returns rfl (Or.inl ⟨rfl, Or.inl rfl, _, rfl⟩) (hb hby d3_4) hr
  · show own_Pure (some (.int r)) h0 n0 _ T17.heap _
    rw [e17]
    exact ⟨rfl, N0, rfl⟩
theorem d2_0 : decode prog_5_method_4_code 0 = .ok (.aload_n 0, 1) := by decide +kernel
theorem pd_17 : parseMethodDescriptor "()I" = some ⟨[], some .int⟩ := by decide +kernel
theorem d2_1 : decode prog_5_method_4_code 1 = .ok (.invokevirtual 32, 3) := by decide +kernel
theorem d2_4 : decode prog_5_method_4_code 4 = .ok (.tableswitch 28 0 2 #[38, 44, 50], 28) := by decide +kernel
theorem d2_42 : decode prog_5_method_4_code 42 = .ok (.getstatic 7, 3) := by decide +kernel
theorem d2_45 : decode prog_5_method_4_code 45 = .ok (.goto 12, 3) := by decide +kernel
theorem d2_57 : decode prog_5_method_4_code 57 = .ok (.areturn, 1) := by decide +kernel
theorem pn_23 : plainName "com/example/gimbalwise/gimbalwise/Axis" = true := by first | (simp [plainName, overriddenIn]; done) | decide +kernel
theorem ef_rm_next_X (m : MethodId) (x0 : Addr) : entryFrame m #[(.ref x0)] 1 = mkF m 0 #[.val (.ref x0)] [] := by first | (simp [entryFrame, mkF, argsToLocals, Value.category]; done) | rfl
set_option maxRecDepth 65536 in
set_option maxHeartbeats 40000000 in
theorem rm_next_X (l : Launch) (Z : State) (a0 : Array Value) (hw : ∀ d ∈ tables_1, d.before a0 Z = true) (ws : List Jvm.Cond) (w_X : Addr) (h0 : Heap) (n0 : Nat) (Z0 : n0 ≤ h0.size) (w_Y w_Z : Addr) (hWd : own_W Z h0 w_X w_Y w_Z) :
    MetFree l (⟨"com/example/gimbalwise/gimbalwise/Axis", "next", "()Lcom/example/gimbalwise/gimbalwise/Axis;"⟩ : MethodName) (head1 (Jvm.Cond.code (⟨"com/example/gimbalwise/gimbalwise/Axis", "next", "()Lcom/example/gimbalwise/gimbalwise/Axis;"⟩ : MethodName) prog_5_method_4_code 1 (some (.object "com/example/gimbalwise/gimbalwise/Axis")) :: ws) ({ frames := 1, cells := 0, slots := 0, locals := 12 } : Room)) (fun aQ UQ => aQ = #[(.ref w_X)] ∧ Z.Warmed39 UQ.vm ∧ UQ.heap = h0) (fun _ _ _ _ _ => True) (fun _ UQ oQ UR => ∃ vQ LQ, oQ = .returned vQ ∧ own_Pure (some (.ref w_Y)) h0 n0 vQ UR.heap LQ ∧ FrameEnd UQ oQ UR LQ ({ frames := 1, cells := 0, slots := 0, locals := 12 } : Room).cells ({ frames := 1, cells := 0, slots := 0, locals := 12 } : Room).slots) := by
  refine MetFree.of_bodySF (plainFor_of_name pn_23) hisR ?_
  intro p e s m args below meth c s₁ Bd hml0 hP hK
  obtain ⟨rfl, hZ, hh⟩ := hP
  have hx := Bd.exec
  have hby := Bd.bytes
  have hml : c.maxLocals = 1 := hml0
  have hown : s.vm.findClass "com/example/gimbalwise/gimbalwise/Axis" = some m.cls := findClass_of_methodNamed Bd.named
  have hnm := (name_of_methodNamed Bd.named Bd.method).1
  have X0 : Stand p l e ({ frames := 1, cells := 0, slots := 0, locals := 12 } : Room) s m #[(.ref w_X)] below meth c s₁ [] 0 0 := Stand.of_body Bd
  have e0 : s₁.heap = h0 := by rw [← hh, Bd.state]; rfl
  have N0 := Fr.nil n0
  have pre0 : ∀ t, Steps p.tables e below (s₁.setTop (mkF m 0 #[.val (.ref w_X)] [])) t → Steps p.tables e below (s₁.setTop (entryFrame m #[(.ref w_X)] 1)) t := fun t kq => castTop (ef_rm_next_X m w_X) kq
  obtain ⟨S_X, E_X, F_X_ordinal, S_Y, E_Y, F_Y_ordinal, S_Z, E_Z, F_Z_ordinal⟩ := hWd
  obtain ⟨cq18, kq18, q18a, q18b, q18c⟩ := isOf hZ e0 (E_X)
  obtain ⟨_, _, ⟨T18, L18, k18, n18⟩, -, X18, ⟨Lc18, hQ18, l18, y18, z18⟩, st18⟩ := X0.virtualBackUp hx (owner := "java/lang/Enum") (x := (⟨"com/example/gimbalwise/gimbalwise/Axis", "ordinal", "()I"⟩ : MethodName)) (y := (⟨"java/lang/Enum", "ordinal", "()I"⟩ : MethodName)) hown (mvT hZ (hw _ (List.mem_of_getElem? (i := 15) rfl))) (mvT hZ (hw _ (List.mem_of_getElem? (i := 16) rfl))) (mvT hZ (hw _ (List.mem_of_getElem? (i := 17) rfl))) (by decide) (mvT hZ (hw _ (List.mem_of_getElem? (i := 19) rfl))) (mvT hZ (hw _ (List.mem_of_getElem? (i := 18) rfl))) (backOf (W := 0) (rm_ord l Z a0 hw [] w_X h0 n0 Z0 (0 : Int32) F_X_ordinal) hZ (hw _ (List.mem_of_getElem? (i := 21) rfl)) (hw _ (List.mem_of_getElem? (i := 20) rfl)) (by decide) (by decide)) q18a q18c (g := (mkF m 1 #[.val (.ref w_X)] [(.ref w_X)])) rfl (by rw [hml]; rfl) (Steps.refl _) (argsL := []) (rest := []) (lenOf pd_17 rfl) rfl (by show 2 * 0 + _ ≤ _; exact Nat.le_of_eq rfl) (hb hby d2_1) (fun _ _ => ⟨rfl, e0, (by decide : 0 + 0 ≤ _), (by decide : 0 + 0 ≤ _)⟩)
  dsimp only [Pt.U, Pt.locs, Pt.cells, Pt.slots] at X18 l18 y18 z18 st18 hQ18
  subst l18 y18 z18
  obtain ⟨rfl, N18q, e18⟩ := hQ18
  have N18 := Fr.app N0 N18q
  obtain ⟨T19, X19, e19, st19⟩ := getS2 X18 hx hZ hown (host := "") (Or.inl (hw _ (List.mem_of_getElem? (i := 24) rfl))) Via.refl e18 S_Y (g := (mkF m 42 #[.val (.ref w_X)] [])) rfl (hb hby d2_42)
  obtain ⟨fs, hr, hrun, hended, hW, hsame⟩ := X19.leave (v := some (.ref w_Y)) (fun h => by rw [Bd.returns] at h; cases h)
  refine ⟨_, _, pre0 _ ?_, hrun, hended, _, _, rfl, ?_, ⟨_, rfl⟩, hW, hsame.mono (by decide) (by decide)⟩
  · show Steps p.tables e below (s₁.setTop (mkF m 0 #[.val (.ref w_X)] [])) _
    refine XS.aloadN X0.here hx rfl (hb hby d2_0) rfl rfl ?_
    show Steps p.tables e below (s₁.setTop (mkF m 1 #[.val (.ref w_X)] [(.ref w_X)])) _
    refine st18.trans ?_
    show Steps p.tables e below (T18.setTop (mkF m 4 #[.val (.ref w_X)] [(.int (0 : Int32))])) _
    refine X18.tableswitchIn hx (g := (mkF m 4 #[.val (.ref w_X)] [(.int (0 : Int32))])) rfl rfl (hb hby d2_4) (by decide) (off := 38) (by first | rfl | decide +kernel) (by show (0 : Int) ≤ ((4 : Nat) : Int) + 38; decide) _ ?_
    show Steps p.tables e below (T18.setTop (mkF m 42 #[.val (.ref w_X)] [])) _
    refine st19 _ ?_
    show Steps p.tables e below (T19.setTop (mkF m 45 #[.val (.ref w_X)] [(.ref w_Y)])) _
    refine XS.goto X19.here hx rfl (pc0 := 45) (pc' := 57) rfl (hb hby d2_45) (by decide) (by decide) ?_
    show Steps p.tables e below (T19.setTop (mkF m 57 #[.val (.ref w_X)] [(.ref w_Y)])) _
    exact retOut X19 hx Bd.returns rfl (Or.inr (Or.inr (Or.inr (Or.inr ⟨rfl, rfl, rfl⟩)))) (hb hby d2_57) hr
  · show own_Pure (some (.ref w_Y)) h0 n0 _ T19.heap _
    rw [e19]
    exact ⟨rfl, N18, rfl⟩
theorem d2_48 : decode prog_5_method_4_code 48 = .ok (.getstatic 10, 3) := by decide +kernel
theorem d2_51 : decode prog_5_method_4_code 51 = .ok (.goto 6, 3) := by decide +kernel
theorem ef_rm_next_Y (m : MethodId) (x0 : Addr) : entryFrame m #[(.ref x0)] 1 = mkF m 0 #[.val (.ref x0)] [] := by first | (simp [entryFrame, mkF, argsToLocals, Value.category]; done) | rfl
set_option maxRecDepth 65536 in
set_option maxHeartbeats 40000000 in
theorem rm_next_Y (l : Launch) (Z : State) (a0 : Array Value) (hw : ∀ d ∈ tables_1, d.before a0 Z = true) (ws : List Jvm.Cond) (w_Y : Addr) (h0 : Heap) (n0 : Nat) (Z0 : n0 ≤ h0.size) (w_X w_Z : Addr) (hWd : own_W Z h0 w_X w_Y w_Z) :
    MetFree l (⟨"com/example/gimbalwise/gimbalwise/Axis", "next", "()Lcom/example/gimbalwise/gimbalwise/Axis;"⟩ : MethodName) (head1 (Jvm.Cond.code (⟨"com/example/gimbalwise/gimbalwise/Axis", "next", "()Lcom/example/gimbalwise/gimbalwise/Axis;"⟩ : MethodName) prog_5_method_4_code 1 (some (.object "com/example/gimbalwise/gimbalwise/Axis")) :: ws) ({ frames := 1, cells := 0, slots := 0, locals := 12 } : Room)) (fun aQ UQ => aQ = #[(.ref w_Y)] ∧ Z.Warmed39 UQ.vm ∧ UQ.heap = h0) (fun _ _ _ _ _ => True) (fun _ UQ oQ UR => ∃ vQ LQ, oQ = .returned vQ ∧ own_Pure (some (.ref w_Z)) h0 n0 vQ UR.heap LQ ∧ FrameEnd UQ oQ UR LQ ({ frames := 1, cells := 0, slots := 0, locals := 12 } : Room).cells ({ frames := 1, cells := 0, slots := 0, locals := 12 } : Room).slots) := by
  refine MetFree.of_bodySF (plainFor_of_name pn_23) hisR ?_
  intro p e s m args below meth c s₁ Bd hml0 hP hK
  obtain ⟨rfl, hZ, hh⟩ := hP
  have hx := Bd.exec
  have hby := Bd.bytes
  have hml : c.maxLocals = 1 := hml0
  have hown : s.vm.findClass "com/example/gimbalwise/gimbalwise/Axis" = some m.cls := findClass_of_methodNamed Bd.named
  have hnm := (name_of_methodNamed Bd.named Bd.method).1
  have X0 : Stand p l e ({ frames := 1, cells := 0, slots := 0, locals := 12 } : Room) s m #[(.ref w_Y)] below meth c s₁ [] 0 0 := Stand.of_body Bd
  have e0 : s₁.heap = h0 := by rw [← hh, Bd.state]; rfl
  have N0 := Fr.nil n0
  have pre0 : ∀ t, Steps p.tables e below (s₁.setTop (mkF m 0 #[.val (.ref w_Y)] [])) t → Steps p.tables e below (s₁.setTop (entryFrame m #[(.ref w_Y)] 1)) t := fun t kq => castTop (ef_rm_next_Y m w_Y) kq
  obtain ⟨S_X, E_X, F_X_ordinal, S_Y, E_Y, F_Y_ordinal, S_Z, E_Z, F_Z_ordinal⟩ := hWd
  obtain ⟨cq20, kq20, q20a, q20b, q20c⟩ := isOf hZ e0 (E_Y)
  obtain ⟨_, _, ⟨T20, L20, k20, n20⟩, -, X20, ⟨Lc20, hQ20, l20, y20, z20⟩, st20⟩ := X0.virtualBackUp hx (owner := "java/lang/Enum") (x := (⟨"com/example/gimbalwise/gimbalwise/Axis", "ordinal", "()I"⟩ : MethodName)) (y := (⟨"java/lang/Enum", "ordinal", "()I"⟩ : MethodName)) hown (mvT hZ (hw _ (List.mem_of_getElem? (i := 15) rfl))) (mvT hZ (hw _ (List.mem_of_getElem? (i := 16) rfl))) (mvT hZ (hw _ (List.mem_of_getElem? (i := 17) rfl))) (by decide) (mvT hZ (hw _ (List.mem_of_getElem? (i := 19) rfl))) (mvT hZ (hw _ (List.mem_of_getElem? (i := 18) rfl))) (backOf (W := 0) (rm_ord l Z a0 hw [] w_Y h0 n0 Z0 (1 : Int32) F_Y_ordinal) hZ (hw _ (List.mem_of_getElem? (i := 21) rfl)) (hw _ (List.mem_of_getElem? (i := 20) rfl)) (by decide) (by decide)) q20a q20c (g := (mkF m 1 #[.val (.ref w_Y)] [(.ref w_Y)])) rfl (by rw [hml]; rfl) (Steps.refl _) (argsL := []) (rest := []) (lenOf pd_17 rfl) rfl (by show 2 * 0 + _ ≤ _; exact Nat.le_of_eq rfl) (hb hby d2_1) (fun _ _ => ⟨rfl, e0, (by decide : 0 + 0 ≤ _), (by decide : 0 + 0 ≤ _)⟩)
  dsimp only [Pt.U, Pt.locs, Pt.cells, Pt.slots] at X20 l20 y20 z20 st20 hQ20
  subst l20 y20 z20
  obtain ⟨rfl, N20q, e20⟩ := hQ20
  have N20 := Fr.app N0 N20q
  obtain ⟨T21, X21, e21, st21⟩ := getS2 X20 hx hZ hown (host := "") (Or.inl (hw _ (List.mem_of_getElem? (i := 28) rfl))) Via.refl e20 S_Z (g := (mkF m 48 #[.val (.ref w_Y)] [])) rfl (hb hby d2_48)
  obtain ⟨fs, hr, hrun, hended, hW, hsame⟩ := X21.leave (v := some (.ref w_Z)) (fun h => by rw [Bd.returns] at h; cases h)
  refine ⟨_, _, pre0 _ ?_, hrun, hended, _, _, rfl, ?_, ⟨_, rfl⟩, hW, hsame.mono (by decide) (by decide)⟩
  · show Steps p.tables e below (s₁.setTop (mkF m 0 #[.val (.ref w_Y)] [])) _
    refine XS.aloadN X0.here hx rfl (hb hby d2_0) rfl rfl ?_
    show Steps p.tables e below (s₁.setTop (mkF m 1 #[.val (.ref w_Y)] [(.ref w_Y)])) _
    refine st20.trans ?_
    show Steps p.tables e below (T20.setTop (mkF m 4 #[.val (.ref w_Y)] [(.int (1 : Int32))])) _
    refine X20.tableswitchIn hx (g := (mkF m 4 #[.val (.ref w_Y)] [(.int (1 : Int32))])) rfl rfl (hb hby d2_4) (by decide) (off := 44) (by first | rfl | decide +kernel) (by show (0 : Int) ≤ ((4 : Nat) : Int) + 44; decide) _ ?_
    show Steps p.tables e below (T20.setTop (mkF m 48 #[.val (.ref w_Y)] [])) _
    refine st21 _ ?_
    show Steps p.tables e below (T21.setTop (mkF m 51 #[.val (.ref w_Y)] [(.ref w_Z)])) _
    refine XS.goto X21.here hx rfl (pc0 := 51) (pc' := 57) rfl (hb hby d2_51) (by decide) (by decide) ?_
    show Steps p.tables e below (T21.setTop (mkF m 57 #[.val (.ref w_Y)] [(.ref w_Z)])) _
    exact retOut X21 hx Bd.returns rfl (Or.inr (Or.inr (Or.inr (Or.inr ⟨rfl, rfl, rfl⟩)))) (hb hby d2_57) hr
  · show own_Pure (some (.ref w_Z)) h0 n0 _ T21.heap _
    rw [e21]
    exact ⟨rfl, N20, rfl⟩
theorem d2_54 : decode prog_5_method_4_code 54 = .ok (.getstatic 3, 3) := by decide +kernel
theorem ef_rm_next_Z (m : MethodId) (x0 : Addr) : entryFrame m #[(.ref x0)] 1 = mkF m 0 #[.val (.ref x0)] [] := by first | (simp [entryFrame, mkF, argsToLocals, Value.category]; done) | rfl
set_option maxRecDepth 65536 in
set_option maxHeartbeats 40000000 in
theorem rm_next_Z (l : Launch) (Z : State) (a0 : Array Value) (hw : ∀ d ∈ tables_1, d.before a0 Z = true) (ws : List Jvm.Cond) (w_Z : Addr) (h0 : Heap) (n0 : Nat) (Z0 : n0 ≤ h0.size) (w_X w_Y : Addr) (hWd : own_W Z h0 w_X w_Y w_Z) :
    MetFree l (⟨"com/example/gimbalwise/gimbalwise/Axis", "next", "()Lcom/example/gimbalwise/gimbalwise/Axis;"⟩ : MethodName) (head1 (Jvm.Cond.code (⟨"com/example/gimbalwise/gimbalwise/Axis", "next", "()Lcom/example/gimbalwise/gimbalwise/Axis;"⟩ : MethodName) prog_5_method_4_code 1 (some (.object "com/example/gimbalwise/gimbalwise/Axis")) :: ws) ({ frames := 1, cells := 0, slots := 0, locals := 12 } : Room)) (fun aQ UQ => aQ = #[(.ref w_Z)] ∧ Z.Warmed39 UQ.vm ∧ UQ.heap = h0) (fun _ _ _ _ _ => True) (fun _ UQ oQ UR => ∃ vQ LQ, oQ = .returned vQ ∧ own_Pure (some (.ref w_X)) h0 n0 vQ UR.heap LQ ∧ FrameEnd UQ oQ UR LQ ({ frames := 1, cells := 0, slots := 0, locals := 12 } : Room).cells ({ frames := 1, cells := 0, slots := 0, locals := 12 } : Room).slots) := by
  refine MetFree.of_bodySF (plainFor_of_name pn_23) hisR ?_
  intro p e s m args below meth c s₁ Bd hml0 hP hK
  obtain ⟨rfl, hZ, hh⟩ := hP
  have hx := Bd.exec
  have hby := Bd.bytes
  have hml : c.maxLocals = 1 := hml0
  have hown : s.vm.findClass "com/example/gimbalwise/gimbalwise/Axis" = some m.cls := findClass_of_methodNamed Bd.named
  have hnm := (name_of_methodNamed Bd.named Bd.method).1
  have X0 : Stand p l e ({ frames := 1, cells := 0, slots := 0, locals := 12 } : Room) s m #[(.ref w_Z)] below meth c s₁ [] 0 0 := Stand.of_body Bd
  have e0 : s₁.heap = h0 := by rw [← hh, Bd.state]; rfl
  have N0 := Fr.nil n0
  have pre0 : ∀ t, Steps p.tables e below (s₁.setTop (mkF m 0 #[.val (.ref w_Z)] [])) t → Steps p.tables e below (s₁.setTop (entryFrame m #[(.ref w_Z)] 1)) t := fun t kq => castTop (ef_rm_next_Z m w_Z) kq
  obtain ⟨S_X, E_X, F_X_ordinal, S_Y, E_Y, F_Y_ordinal, S_Z, E_Z, F_Z_ordinal⟩ := hWd
  obtain ⟨cq22, kq22, q22a, q22b, q22c⟩ := isOf hZ e0 (E_Z)
  obtain ⟨_, _, ⟨T22, L22, k22, n22⟩, -, X22, ⟨Lc22, hQ22, l22, y22, z22⟩, st22⟩ := X0.virtualBackUp hx (owner := "java/lang/Enum") (x := (⟨"com/example/gimbalwise/gimbalwise/Axis", "ordinal", "()I"⟩ : MethodName)) (y := (⟨"java/lang/Enum", "ordinal", "()I"⟩ : MethodName)) hown (mvT hZ (hw _ (List.mem_of_getElem? (i := 15) rfl))) (mvT hZ (hw _ (List.mem_of_getElem? (i := 16) rfl))) (mvT hZ (hw _ (List.mem_of_getElem? (i := 17) rfl))) (by decide) (mvT hZ (hw _ (List.mem_of_getElem? (i := 19) rfl))) (mvT hZ (hw _ (List.mem_of_getElem? (i := 18) rfl))) (backOf (W := 0) (rm_ord l Z a0 hw [] w_Z h0 n0 Z0 (2 : Int32) F_Z_ordinal) hZ (hw _ (List.mem_of_getElem? (i := 21) rfl)) (hw _ (List.mem_of_getElem? (i := 20) rfl)) (by decide) (by decide)) q22a q22c (g := (mkF m 1 #[.val (.ref w_Z)] [(.ref w_Z)])) rfl (by rw [hml]; rfl) (Steps.refl _) (argsL := []) (rest := []) (lenOf pd_17 rfl) rfl (by show 2 * 0 + _ ≤ _; exact Nat.le_of_eq rfl) (hb hby d2_1) (fun _ _ => ⟨rfl, e0, (by decide : 0 + 0 ≤ _), (by decide : 0 + 0 ≤ _)⟩)
  dsimp only [Pt.U, Pt.locs, Pt.cells, Pt.slots] at X22 l22 y22 z22 st22 hQ22
  subst l22 y22 z22
  obtain ⟨rfl, N22q, e22⟩ := hQ22
  have N22 := Fr.app N0 N22q
  obtain ⟨T23, X23, e23, st23⟩ := getS2 X22 hx hZ hown (host := "") (Or.inl (hw _ (List.mem_of_getElem? (i := 27) rfl))) Via.refl e22 S_X (g := (mkF m 54 #[.val (.ref w_Z)] [])) rfl (hb hby d2_54)
  obtain ⟨fs, hr, hrun, hended, hW, hsame⟩ := X23.leave (v := some (.ref w_X)) (fun h => by rw [Bd.returns] at h; cases h)
  refine ⟨_, _, pre0 _ ?_, hrun, hended, _, _, rfl, ?_, ⟨_, rfl⟩, hW, hsame.mono (by decide) (by decide)⟩
  · show Steps p.tables e below (s₁.setTop (mkF m 0 #[.val (.ref w_Z)] [])) _
    refine XS.aloadN X0.here hx rfl (hb hby d2_0) rfl rfl ?_
    show Steps p.tables e below (s₁.setTop (mkF m 1 #[.val (.ref w_Z)] [(.ref w_Z)])) _
    refine st22.trans ?_
    show Steps p.tables e below (T22.setTop (mkF m 4 #[.val (.ref w_Z)] [(.int (2 : Int32))])) _
    refine X22.tableswitchIn hx (g := (mkF m 4 #[.val (.ref w_Z)] [(.int (2 : Int32))])) rfl rfl (hb hby d2_4) (by decide) (off := 50) (by first | rfl | decide +kernel) (by show (0 : Int) ≤ ((4 : Nat) : Int) + 50; decide) _ ?_
    show Steps p.tables e below (T22.setTop (mkF m 54 #[.val (.ref w_Z)] [])) _
    refine st23 _ ?_
    show Steps p.tables e below (T23.setTop (mkF m 57 #[.val (.ref w_Z)] [(.ref w_X)])) _
    exact retOut X23 hx Bd.returns rfl (Or.inr (Or.inr (Or.inr (Or.inr ⟨rfl, rfl, rfl⟩)))) (hb hby d2_57) hr
  · show own_Pure (some (.ref w_X)) h0 n0 _ T23.heap _
    rw [e23]
    exact ⟨rfl, N22, rfl⟩
theorem pd_27 : parseMethodDescriptor "(I)Lcom/example/gimbalwise/gimbalwise/Axis;" = some ⟨[.int], some (.object "com/example/gimbalwise/gimbalwise/Axis")⟩ := by decide +kernel
theorem pd_28 : parseMethodDescriptor "()Lcom/example/gimbalwise/gimbalwise/Axis;" = some ⟨[], some (.object "com/example/gimbalwise/gimbalwise/Axis")⟩ := by decide +kernel
theorem ef_rm_law (m : MethodId) (x0 : Int32) : entryFrame m #[(.int x0)] maxLocals = mkF m 0 #[.val (.int x0), .unset, .unset, .unset] [] := by first | (simp [entryFrame, mkF, argsToLocals, Value.category, maxLocals]; done) | rfl
set_option maxRecDepth 65536 in
set_option maxHeartbeats 40000000 in
theorem rm_law (l : Launch) (Z : State) (a0 : Array Value) (hw : ∀ d ∈ tables_1, d.before a0 Z = true) (ws : List Jvm.Cond) (p0 : Int32) (h0 : Heap) (n0 : Nat) (Z0 : n0 ≤ h0.size) (w_X w_Y w_Z : Addr) (hWd : own_W Z h0 w_X w_Y w_Z) :
    MetFree l x (head1 (Jvm.Cond.code x code maxLocals ret :: ws) room_1) (fun aQ UQ => aQ = #[(.int p0)] ∧ Z.Warmed39 UQ.vm ∧ UQ.heap = h0) (fun _ _ _ _ _ => True) (fun _ UQ oQ UR => ∃ vQ LQ, oQ = .returned vQ ∧ own_Pure (some (.int 1)) h0 n0 vQ UR.heap LQ ∧ FrameEnd UQ oQ UR LQ room_1.cells room_1.slots) := by
  refine MetFree.of_bodySF (plainFor_of_name pn_11) hisR ?_
  intro p e s m args below meth c s₁ Bd hml0 hP hK
  obtain ⟨rfl, hZ, hh⟩ := hP
  have hx := Bd.exec
  have hby := Bd.bytes
  have hml : c.maxLocals = 4 := hml0
  have hown : s.vm.findClass "com/example/gimbalwise/gimbalwise/AxisNextPinLaw" = some m.cls := findClass_of_methodNamed Bd.named
  have hnm := (name_of_methodNamed Bd.named Bd.method).1
  have X0 : Stand p l e room_1 s m #[(.int p0)] below meth c s₁ [] 0 0 := Stand.of_body Bd
  have e0 : s₁.heap = h0 := by rw [← hh, Bd.state]; rfl
  have N0 := Fr.nil n0
  have pre0 : ∀ t, Steps p.tables e below (s₁.setTop (mkF m 0 #[.val (.int p0), .unset, .unset, .unset] [])) t → Steps p.tables e below (s₁.setTop (entryFrame m #[(.int p0)] maxLocals)) t := fun t kq => castTop (ef_rm_law m p0) kq
  have hWd' := hWd
  obtain ⟨S_X, E_X, F_X_ordinal, S_Y, E_Y, F_Y_ordinal, S_Z, E_Z, F_Z_ordinal⟩ := hWd'
  have ck24 : ∀ t, Steps p.tables e below (s₁.setTop (mkF m 6 #[.val (.int p0), .unset, .unset, .unset] [(.int ((p0 &&& (2147483647 : Int32)) % (3 : Int32)))])) t → Steps p.tables e below (s₁.setTop (entryFrame m #[(.int p0)] maxLocals)) t := by
    intro t kt
    refine pre0 _ ?_
    show Steps p.tables e below (s₁.setTop (mkF m 0 #[.val (.int p0), .unset, .unset, .unset] [])) _
    refine XS.iloadN X0.here hx rfl (hb hby at_0) rfl ?_
    show Steps p.tables e below (s₁.setTop (mkF m 1 #[.val (.int p0), .unset, .unset, .unset] [(.int p0)])) _
    refine X0.ldcInt hx hown (mvT hZ (hw _ (List.mem_of_getElem? (i := 0) rfl))) (g := (mkF m 1 #[.val (.int p0), .unset, .unset, .unset] [(.int p0)])) rfl (hb hby at_1) _ ?_
    show Steps p.tables e below (s₁.setTop (mkF m 3 #[.val (.int p0), .unset, .unset, .unset] [(.int (2147483647 : Int32)), (.int p0)])) _
    refine XS.iand X0.here hx rfl (hb hby at_3) rfl ?_
    show Steps p.tables e below (s₁.setTop (mkF m 4 #[.val (.int p0), .unset, .unset, .unset] [(.int (p0 &&& (2147483647 : Int32)))])) _
    refine XS.iconst X0.here hx rfl (hb hby at_4) ?_
    show Steps p.tables e below (s₁.setTop (mkF m 5 #[.val (.int p0), .unset, .unset, .unset] [(.int (3 : Int32)), (.int (p0 &&& (2147483647 : Int32)))])) _
    refine Jvm.RoadKit.iremM (g := (mkF m 5 #[.val (.int p0), .unset, .unset, .unset] [(.int (3 : Int32)), (.int (p0 &&& (2147483647 : Int32)))])) X0 hx rfl (hb hby at_5) rfl (by decide) ?_
    exact kt
  rcases own_rem3 p0 with hv25 | hv26 | hv27
  · -- (0 : Int32)
    obtain ⟨_, _, ⟨T28, L28, k28, n28⟩, -, X28, ⟨Lc28, hQ28, l28, y28, z28⟩, st28⟩ := Jvm.LawKit.callS X0 hx (y := (⟨"com/example/gimbalwise/gimbalwise/AxisNextPinLaw", "axisOf", "(I)Lcom/example/gimbalwise/gimbalwise/Axis;"⟩ : MethodName)) hown (mvT hZ (hw _ (List.mem_of_getElem? (i := 1) rfl))) (mvT hZ (hw _ (List.mem_of_getElem? (i := 2) rfl))) (mvT hZ (hw _ (List.mem_of_getElem? (i := 3) rfl))) (mvT hZ (hw _ (List.mem_of_getElem? (i := 4) rfl))) (by decide) (backOf (W := 0) (rm_axis l Z a0 hw [] (0 : Int32) h0 n0 Z0 w_X w_Y w_Z hWd w_X (by first | rfl | decide | simp)) hZ (hw _ (List.mem_of_getElem? (i := 4) rfl)) (hw _ (List.mem_of_getElem? (i := 3) rfl)) (by decide) (by decide)) (g := (mkF m 8 #[.val (.int p0), .val (.int (0 : Int32)), .unset, .unset] [(.int (0 : Int32))])) rfl (by rw [hml]; rfl) (argsL := [(.int (0 : Int32))]) (rest := []) (lenOf pd_27 rfl) rfl (by show 2 * 0 + _ ≤ _; exact Nat.le_of_eq rfl) (hb hby at_8) (fun _ _ => ⟨rfl, e0, (by decide : 0 + 0 ≤ _), (by decide : 0 + 0 ≤ _)⟩)
    dsimp only [Pt.U, Pt.locs, Pt.cells, Pt.slots] at X28 l28 y28 z28 st28 hQ28
    subst l28 y28 z28
    obtain ⟨rfl, N28q, e28⟩ := hQ28
    have N28 := Fr.app N0 N28q
    obtain ⟨_, _, ⟨T29, L29, k29, n29⟩, -, X29, ⟨Lc29, hQ29, l29, y29, z29⟩, st29⟩ := Jvm.LawKit.callS X28 hx (y := (⟨"com/example/gimbalwise/gimbalwise/AxisNextPinLaw", "axisOf", "(I)Lcom/example/gimbalwise/gimbalwise/Axis;"⟩ : MethodName)) hown (mvT hZ (hw _ (List.mem_of_getElem? (i := 1) rfl))) (mvT hZ (hw _ (List.mem_of_getElem? (i := 2) rfl))) (mvT hZ (hw _ (List.mem_of_getElem? (i := 3) rfl))) (mvT hZ (hw _ (List.mem_of_getElem? (i := 4) rfl))) (by decide) (backOf (W := 0) (rm_axis l Z a0 hw [] (1 : Int32) h0 n0 Z0 w_X w_Y w_Z hWd w_Y (by first | rfl | decide | simp)) hZ (hw _ (List.mem_of_getElem? (i := 4) rfl)) (hw _ (List.mem_of_getElem? (i := 3) rfl)) (by decide) (by decide)) (g := (mkF m 17 #[.val (.int p0), .val (.int (0 : Int32)), .val (.ref w_X), .unset] [(.int (1 : Int32))])) rfl (by rw [hml]; rfl) (argsL := [(.int (1 : Int32))]) (rest := []) (lenOf pd_27 rfl) rfl (by show 2 * 0 + _ ≤ _; exact Nat.le_of_eq rfl) (hb hby at_17) (fun _ _ => ⟨rfl, e28, (by decide : 0 + 0 ≤ _), (by decide : 0 + 0 ≤ _)⟩)
    dsimp only [Pt.U, Pt.locs, Pt.cells, Pt.slots] at X29 l29 y29 z29 st29 hQ29
    subst l29 y29 z29
    obtain ⟨rfl, N29q, e29⟩ := hQ29
    have N29 := Fr.app N28 N29q
    obtain ⟨cq30, kq30, q30a, q30b, q30c⟩ := isOf hZ e29 (E_X)
    obtain ⟨_, _, ⟨T30, L30, k30, n30⟩, -, X30, ⟨Lc30, hQ30, l30, y30, z30⟩, st30⟩ := X29.virtualBack hx (y := (⟨"com/example/gimbalwise/gimbalwise/Axis", "next", "()Lcom/example/gimbalwise/gimbalwise/Axis;"⟩ : MethodName)) (z := (⟨"com/example/gimbalwise/gimbalwise/Axis", "next", "()Lcom/example/gimbalwise/gimbalwise/Axis;"⟩ : MethodName)) hown (mvT hZ (hw _ (List.mem_of_getElem? (i := 10) rfl))) (mvT hZ (hw _ (List.mem_of_getElem? (i := 11) rfl))) (notFace_of_selects (args := #[]) (mvT hZ (hw _ (List.mem_of_getElem? (i := 13) rfl)))) (mvT hZ (hw _ (List.mem_of_getElem? (i := 13) rfl))) (mvT hZ (hw _ (List.mem_of_getElem? (i := 12) rfl))) (by decide) (backOf (W := 0) (rm_next_X l Z a0 hw [] w_X h0 n0 Z0 w_Y w_Z hWd) hZ (hw _ (List.mem_of_getElem? (i := 14) rfl)) (hw _ (List.mem_of_getElem? (i := 6) rfl)) (by decide) (by decide)) q30a q30c (g := (mkF m 22 #[.val (.int p0), .val (.int (0 : Int32)), .val (.ref w_X), .val (.ref w_Y)] [(.ref w_X)])) rfl (by rw [hml]; rfl) (Steps.refl _) (argsL := []) (rest := []) (lenOf pd_28 rfl) rfl (by show 2 * 0 + _ ≤ _; exact Nat.le_of_eq rfl) (hb hby at_22) (fun _ _ => ⟨rfl, e29, (by decide : 0 + 0 ≤ _), (by decide : 0 + 0 ≤ _)⟩)
    dsimp only [Pt.U, Pt.locs, Pt.cells, Pt.slots] at X30 l30 y30 z30 st30 hQ30
    subst l30 y30 z30
    obtain ⟨rfl, N30q, e30⟩ := hQ30
    have N30 := Fr.app N29 N30q
    obtain ⟨fs, hr, hrun, hended, hW, hsame⟩ := X30.leave (v := some (.int (1 : Int32))) (fun h => by rw [Bd.returns] at h; cases h)
    refine ⟨_, _, ck24 _ ?_, hrun, hended, _, _, rfl, ?_, ⟨_, rfl⟩, hW, hsame.mono (by decide) (by decide)⟩
    · show Steps p.tables e below (s₁.setTop (mkF m 6 #[.val (.int p0), .unset, .unset, .unset] [(.int ((p0 &&& (2147483647 : Int32)) % (3 : Int32)))])) _
      rw [hv25]
      show Steps p.tables e below (s₁.setTop (mkF m 6 #[.val (.int p0), .unset, .unset, .unset] [(.int (0 : Int32))])) _
      refine XS.istoreN X0.here hx rfl (hb hby at_6) rfl (l' := #[.val (.int p0), .val (.int (0 : Int32)), .unset, .unset]) rfl ?_
      show Steps p.tables e below (s₁.setTop (mkF m 7 #[.val (.int p0), .val (.int (0 : Int32)), .unset, .unset] [])) _
      refine XS.iloadN X0.here hx rfl (hb hby at_7) rfl ?_
      show Steps p.tables e below (s₁.setTop (mkF m 8 #[.val (.int p0), .val (.int (0 : Int32)), .unset, .unset] [(.int (0 : Int32))])) _
      refine st28 _ ?_
      show Steps p.tables e below (T28.setTop (mkF m 11 #[.val (.int p0), .val (.int (0 : Int32)), .unset, .unset] [(.ref w_X)])) _
      refine XS.astoreN X28.here hx rfl (hb hby at_11) rfl rfl (l' := #[.val (.int p0), .val (.int (0 : Int32)), .val (.ref w_X), .unset]) rfl ?_
      show Steps p.tables e below (T28.setTop (mkF m 12 #[.val (.int p0), .val (.int (0 : Int32)), .val (.ref w_X), .unset] [])) _
      refine XS.iloadN X28.here hx rfl (hb hby at_12) rfl ?_
      show Steps p.tables e below (T28.setTop (mkF m 13 #[.val (.int p0), .val (.int (0 : Int32)), .val (.ref w_X), .unset] [(.int (0 : Int32))])) _
      refine XS.iconst X28.here hx rfl (hb hby at_13) ?_
      show Steps p.tables e below (T28.setTop (mkF m 14 #[.val (.int p0), .val (.int (0 : Int32)), .val (.ref w_X), .unset] [(.int (1 : Int32)), (.int (0 : Int32))])) _
      refine XS.iadd X28.here hx rfl (hb hby at_14) rfl ?_
      show Steps p.tables e below (T28.setTop (mkF m 15 #[.val (.int p0), .val (.int (0 : Int32)), .val (.ref w_X), .unset] [(.int (1 : Int32))])) _
      refine XS.iconst X28.here hx rfl (hb hby at_15) ?_
      show Steps p.tables e below (T28.setTop (mkF m 16 #[.val (.int p0), .val (.int (0 : Int32)), .val (.ref w_X), .unset] [(.int (3 : Int32)), (.int (1 : Int32))])) _
      refine Jvm.RoadKit.iremM (g := (mkF m 16 #[.val (.int p0), .val (.int (0 : Int32)), .val (.ref w_X), .unset] [(.int (3 : Int32)), (.int (1 : Int32))])) X28 hx rfl (hb hby at_16) rfl (by decide) ?_
      show Steps p.tables e below (T28.setTop (mkF m 17 #[.val (.int p0), .val (.int (0 : Int32)), .val (.ref w_X), .unset] [(.int (1 : Int32))])) _
      refine st29 _ ?_
      show Steps p.tables e below (T29.setTop (mkF m 20 #[.val (.int p0), .val (.int (0 : Int32)), .val (.ref w_X), .unset] [(.ref w_Y)])) _
      refine XS.astoreN X29.here hx rfl (hb hby at_20) rfl rfl (l' := #[.val (.int p0), .val (.int (0 : Int32)), .val (.ref w_X), .val (.ref w_Y)]) rfl ?_
      show Steps p.tables e below (T29.setTop (mkF m 21 #[.val (.int p0), .val (.int (0 : Int32)), .val (.ref w_X), .val (.ref w_Y)] [])) _
      refine XS.aloadN X29.here hx rfl (hb hby at_21) rfl rfl ?_
      show Steps p.tables e below (T29.setTop (mkF m 22 #[.val (.int p0), .val (.int (0 : Int32)), .val (.ref w_X), .val (.ref w_Y)] [(.ref w_X)])) _
      refine st30.trans ?_
      show Steps p.tables e below (T30.setTop (mkF m 25 #[.val (.int p0), .val (.int (0 : Int32)), .val (.ref w_X), .val (.ref w_Y)] [(.ref w_Y)])) _
      refine XS.aloadN X30.here hx rfl (hb hby at_25) rfl rfl ?_
      show Steps p.tables e below (T30.setTop (mkF m 26 #[.val (.int p0), .val (.int (0 : Int32)), .val (.ref w_X), .val (.ref w_Y)] [(.ref w_Y), (.ref w_Y)])) _
      refine Jvm.RoadKit.acmp (g := (mkF m 26 #[.val (.int p0), .val (.int (0 : Int32)), .val (.ref w_X), .val (.ref w_Y)] [(.ref w_Y), (.ref w_Y)])) X30 hx rfl rfl rfl (pc0 := 26) (pc' := 29) (same := true) rfl (hb hby at_26) rfl (decide_eq_true rfl) (by decide) (by decide) ?_
      show Steps p.tables e below (T30.setTop (mkF m 29 #[.val (.int p0), .val (.int (0 : Int32)), .val (.ref w_X), .val (.ref w_Y)] [])) _
      refine XS.iconst X30.here hx rfl (hb hby at_29) ?_
      show Steps p.tables e below (T30.setTop (mkF m 30 #[.val (.int p0), .val (.int (0 : Int32)), .val (.ref w_X), .val (.ref w_Y)] [(.int (1 : Int32))])) _
      refine XS.goto X30.here hx rfl (pc0 := 30) (pc' := 34) rfl (hb hby at_30) (by decide) (by decide) ?_
      show Steps p.tables e below (T30.setTop (mkF m 34 #[.val (.int p0), .val (.int (0 : Int32)), .val (.ref w_X), .val (.ref w_Y)] [(.int (1 : Int32))])) _
      exact retN X30 hx (t := .boolean) Bd.returns (by simp) (hb hby at_34) hr
    · show own_Pure (some (.int 1)) h0 n0 _ T30.heap _
      rw [e30]
      exact ⟨rfl, N30, rfl⟩
  · -- (1 : Int32)
    obtain ⟨_, _, ⟨T31, L31, k31, n31⟩, -, X31, ⟨Lc31, hQ31, l31, y31, z31⟩, st31⟩ := Jvm.LawKit.callS X0 hx (y := (⟨"com/example/gimbalwise/gimbalwise/AxisNextPinLaw", "axisOf", "(I)Lcom/example/gimbalwise/gimbalwise/Axis;"⟩ : MethodName)) hown (mvT hZ (hw _ (List.mem_of_getElem? (i := 1) rfl))) (mvT hZ (hw _ (List.mem_of_getElem? (i := 2) rfl))) (mvT hZ (hw _ (List.mem_of_getElem? (i := 3) rfl))) (mvT hZ (hw _ (List.mem_of_getElem? (i := 4) rfl))) (by decide) (backOf (W := 0) (rm_axis l Z a0 hw [] (1 : Int32) h0 n0 Z0 w_X w_Y w_Z hWd w_Y (by first | rfl | decide | simp)) hZ (hw _ (List.mem_of_getElem? (i := 4) rfl)) (hw _ (List.mem_of_getElem? (i := 3) rfl)) (by decide) (by decide)) (g := (mkF m 8 #[.val (.int p0), .val (.int (1 : Int32)), .unset, .unset] [(.int (1 : Int32))])) rfl (by rw [hml]; rfl) (argsL := [(.int (1 : Int32))]) (rest := []) (lenOf pd_27 rfl) rfl (by show 2 * 0 + _ ≤ _; exact Nat.le_of_eq rfl) (hb hby at_8) (fun _ _ => ⟨rfl, e0, (by decide : 0 + 0 ≤ _), (by decide : 0 + 0 ≤ _)⟩)
    dsimp only [Pt.U, Pt.locs, Pt.cells, Pt.slots] at X31 l31 y31 z31 st31 hQ31
    subst l31 y31 z31
    obtain ⟨rfl, N31q, e31⟩ := hQ31
    have N31 := Fr.app N0 N31q
    obtain ⟨_, _, ⟨T32, L32, k32, n32⟩, -, X32, ⟨Lc32, hQ32, l32, y32, z32⟩, st32⟩ := Jvm.LawKit.callS X31 hx (y := (⟨"com/example/gimbalwise/gimbalwise/AxisNextPinLaw", "axisOf", "(I)Lcom/example/gimbalwise/gimbalwise/Axis;"⟩ : MethodName)) hown (mvT hZ (hw _ (List.mem_of_getElem? (i := 1) rfl))) (mvT hZ (hw _ (List.mem_of_getElem? (i := 2) rfl))) (mvT hZ (hw _ (List.mem_of_getElem? (i := 3) rfl))) (mvT hZ (hw _ (List.mem_of_getElem? (i := 4) rfl))) (by decide) (backOf (W := 0) (rm_axis l Z a0 hw [] (2 : Int32) h0 n0 Z0 w_X w_Y w_Z hWd w_Z (by first | rfl | decide | simp)) hZ (hw _ (List.mem_of_getElem? (i := 4) rfl)) (hw _ (List.mem_of_getElem? (i := 3) rfl)) (by decide) (by decide)) (g := (mkF m 17 #[.val (.int p0), .val (.int (1 : Int32)), .val (.ref w_Y), .unset] [(.int (2 : Int32))])) rfl (by rw [hml]; rfl) (argsL := [(.int (2 : Int32))]) (rest := []) (lenOf pd_27 rfl) rfl (by show 2 * 0 + _ ≤ _; exact Nat.le_of_eq rfl) (hb hby at_17) (fun _ _ => ⟨rfl, e31, (by decide : 0 + 0 ≤ _), (by decide : 0 + 0 ≤ _)⟩)
    dsimp only [Pt.U, Pt.locs, Pt.cells, Pt.slots] at X32 l32 y32 z32 st32 hQ32
    subst l32 y32 z32
    obtain ⟨rfl, N32q, e32⟩ := hQ32
    have N32 := Fr.app N31 N32q
    obtain ⟨cq33, kq33, q33a, q33b, q33c⟩ := isOf hZ e32 (E_Y)
    obtain ⟨_, _, ⟨T33, L33, k33, n33⟩, -, X33, ⟨Lc33, hQ33, l33, y33, z33⟩, st33⟩ := X32.virtualBack hx (y := (⟨"com/example/gimbalwise/gimbalwise/Axis", "next", "()Lcom/example/gimbalwise/gimbalwise/Axis;"⟩ : MethodName)) (z := (⟨"com/example/gimbalwise/gimbalwise/Axis", "next", "()Lcom/example/gimbalwise/gimbalwise/Axis;"⟩ : MethodName)) hown (mvT hZ (hw _ (List.mem_of_getElem? (i := 10) rfl))) (mvT hZ (hw _ (List.mem_of_getElem? (i := 11) rfl))) (notFace_of_selects (args := #[]) (mvT hZ (hw _ (List.mem_of_getElem? (i := 13) rfl)))) (mvT hZ (hw _ (List.mem_of_getElem? (i := 13) rfl))) (mvT hZ (hw _ (List.mem_of_getElem? (i := 12) rfl))) (by decide) (backOf (W := 0) (rm_next_Y l Z a0 hw [] w_Y h0 n0 Z0 w_X w_Z hWd) hZ (hw _ (List.mem_of_getElem? (i := 14) rfl)) (hw _ (List.mem_of_getElem? (i := 6) rfl)) (by decide) (by decide)) q33a q33c (g := (mkF m 22 #[.val (.int p0), .val (.int (1 : Int32)), .val (.ref w_Y), .val (.ref w_Z)] [(.ref w_Y)])) rfl (by rw [hml]; rfl) (Steps.refl _) (argsL := []) (rest := []) (lenOf pd_28 rfl) rfl (by show 2 * 0 + _ ≤ _; exact Nat.le_of_eq rfl) (hb hby at_22) (fun _ _ => ⟨rfl, e32, (by decide : 0 + 0 ≤ _), (by decide : 0 + 0 ≤ _)⟩)
    dsimp only [Pt.U, Pt.locs, Pt.cells, Pt.slots] at X33 l33 y33 z33 st33 hQ33
    subst l33 y33 z33
    obtain ⟨rfl, N33q, e33⟩ := hQ33
    have N33 := Fr.app N32 N33q
    obtain ⟨fs, hr, hrun, hended, hW, hsame⟩ := X33.leave (v := some (.int (1 : Int32))) (fun h => by rw [Bd.returns] at h; cases h)
    refine ⟨_, _, ck24 _ ?_, hrun, hended, _, _, rfl, ?_, ⟨_, rfl⟩, hW, hsame.mono (by decide) (by decide)⟩
    · show Steps p.tables e below (s₁.setTop (mkF m 6 #[.val (.int p0), .unset, .unset, .unset] [(.int ((p0 &&& (2147483647 : Int32)) % (3 : Int32)))])) _
      rw [hv26]
      show Steps p.tables e below (s₁.setTop (mkF m 6 #[.val (.int p0), .unset, .unset, .unset] [(.int (1 : Int32))])) _
      refine XS.istoreN X0.here hx rfl (hb hby at_6) rfl (l' := #[.val (.int p0), .val (.int (1 : Int32)), .unset, .unset]) rfl ?_
      show Steps p.tables e below (s₁.setTop (mkF m 7 #[.val (.int p0), .val (.int (1 : Int32)), .unset, .unset] [])) _
      refine XS.iloadN X0.here hx rfl (hb hby at_7) rfl ?_
      show Steps p.tables e below (s₁.setTop (mkF m 8 #[.val (.int p0), .val (.int (1 : Int32)), .unset, .unset] [(.int (1 : Int32))])) _
      refine st31 _ ?_
      show Steps p.tables e below (T31.setTop (mkF m 11 #[.val (.int p0), .val (.int (1 : Int32)), .unset, .unset] [(.ref w_Y)])) _
      refine XS.astoreN X31.here hx rfl (hb hby at_11) rfl rfl (l' := #[.val (.int p0), .val (.int (1 : Int32)), .val (.ref w_Y), .unset]) rfl ?_
      show Steps p.tables e below (T31.setTop (mkF m 12 #[.val (.int p0), .val (.int (1 : Int32)), .val (.ref w_Y), .unset] [])) _
      refine XS.iloadN X31.here hx rfl (hb hby at_12) rfl ?_
      show Steps p.tables e below (T31.setTop (mkF m 13 #[.val (.int p0), .val (.int (1 : Int32)), .val (.ref w_Y), .unset] [(.int (1 : Int32))])) _
      refine XS.iconst X31.here hx rfl (hb hby at_13) ?_
      show Steps p.tables e below (T31.setTop (mkF m 14 #[.val (.int p0), .val (.int (1 : Int32)), .val (.ref w_Y), .unset] [(.int (1 : Int32)), (.int (1 : Int32))])) _
      refine XS.iadd X31.here hx rfl (hb hby at_14) rfl ?_
      show Steps p.tables e below (T31.setTop (mkF m 15 #[.val (.int p0), .val (.int (1 : Int32)), .val (.ref w_Y), .unset] [(.int (2 : Int32))])) _
      refine XS.iconst X31.here hx rfl (hb hby at_15) ?_
      show Steps p.tables e below (T31.setTop (mkF m 16 #[.val (.int p0), .val (.int (1 : Int32)), .val (.ref w_Y), .unset] [(.int (3 : Int32)), (.int (2 : Int32))])) _
      refine Jvm.RoadKit.iremM (g := (mkF m 16 #[.val (.int p0), .val (.int (1 : Int32)), .val (.ref w_Y), .unset] [(.int (3 : Int32)), (.int (2 : Int32))])) X31 hx rfl (hb hby at_16) rfl (by decide) ?_
      show Steps p.tables e below (T31.setTop (mkF m 17 #[.val (.int p0), .val (.int (1 : Int32)), .val (.ref w_Y), .unset] [(.int (2 : Int32))])) _
      refine st32 _ ?_
      show Steps p.tables e below (T32.setTop (mkF m 20 #[.val (.int p0), .val (.int (1 : Int32)), .val (.ref w_Y), .unset] [(.ref w_Z)])) _
      refine XS.astoreN X32.here hx rfl (hb hby at_20) rfl rfl (l' := #[.val (.int p0), .val (.int (1 : Int32)), .val (.ref w_Y), .val (.ref w_Z)]) rfl ?_
      show Steps p.tables e below (T32.setTop (mkF m 21 #[.val (.int p0), .val (.int (1 : Int32)), .val (.ref w_Y), .val (.ref w_Z)] [])) _
      refine XS.aloadN X32.here hx rfl (hb hby at_21) rfl rfl ?_
      show Steps p.tables e below (T32.setTop (mkF m 22 #[.val (.int p0), .val (.int (1 : Int32)), .val (.ref w_Y), .val (.ref w_Z)] [(.ref w_Y)])) _
      refine st33.trans ?_
      show Steps p.tables e below (T33.setTop (mkF m 25 #[.val (.int p0), .val (.int (1 : Int32)), .val (.ref w_Y), .val (.ref w_Z)] [(.ref w_Z)])) _
      refine XS.aloadN X33.here hx rfl (hb hby at_25) rfl rfl ?_
      show Steps p.tables e below (T33.setTop (mkF m 26 #[.val (.int p0), .val (.int (1 : Int32)), .val (.ref w_Y), .val (.ref w_Z)] [(.ref w_Z), (.ref w_Z)])) _
      refine Jvm.RoadKit.acmp (g := (mkF m 26 #[.val (.int p0), .val (.int (1 : Int32)), .val (.ref w_Y), .val (.ref w_Z)] [(.ref w_Z), (.ref w_Z)])) X33 hx rfl rfl rfl (pc0 := 26) (pc' := 29) (same := true) rfl (hb hby at_26) rfl (decide_eq_true rfl) (by decide) (by decide) ?_
      show Steps p.tables e below (T33.setTop (mkF m 29 #[.val (.int p0), .val (.int (1 : Int32)), .val (.ref w_Y), .val (.ref w_Z)] [])) _
      refine XS.iconst X33.here hx rfl (hb hby at_29) ?_
      show Steps p.tables e below (T33.setTop (mkF m 30 #[.val (.int p0), .val (.int (1 : Int32)), .val (.ref w_Y), .val (.ref w_Z)] [(.int (1 : Int32))])) _
      refine XS.goto X33.here hx rfl (pc0 := 30) (pc' := 34) rfl (hb hby at_30) (by decide) (by decide) ?_
      show Steps p.tables e below (T33.setTop (mkF m 34 #[.val (.int p0), .val (.int (1 : Int32)), .val (.ref w_Y), .val (.ref w_Z)] [(.int (1 : Int32))])) _
      exact retN X33 hx (t := .boolean) Bd.returns (by simp) (hb hby at_34) hr
    · show own_Pure (some (.int 1)) h0 n0 _ T33.heap _
      rw [e33]
      exact ⟨rfl, N33, rfl⟩
  · -- (2 : Int32)
    obtain ⟨_, _, ⟨T34, L34, k34, n34⟩, -, X34, ⟨Lc34, hQ34, l34, y34, z34⟩, st34⟩ := Jvm.LawKit.callS X0 hx (y := (⟨"com/example/gimbalwise/gimbalwise/AxisNextPinLaw", "axisOf", "(I)Lcom/example/gimbalwise/gimbalwise/Axis;"⟩ : MethodName)) hown (mvT hZ (hw _ (List.mem_of_getElem? (i := 1) rfl))) (mvT hZ (hw _ (List.mem_of_getElem? (i := 2) rfl))) (mvT hZ (hw _ (List.mem_of_getElem? (i := 3) rfl))) (mvT hZ (hw _ (List.mem_of_getElem? (i := 4) rfl))) (by decide) (backOf (W := 0) (rm_axis l Z a0 hw [] (2 : Int32) h0 n0 Z0 w_X w_Y w_Z hWd w_Z (by first | rfl | decide | simp)) hZ (hw _ (List.mem_of_getElem? (i := 4) rfl)) (hw _ (List.mem_of_getElem? (i := 3) rfl)) (by decide) (by decide)) (g := (mkF m 8 #[.val (.int p0), .val (.int (2 : Int32)), .unset, .unset] [(.int (2 : Int32))])) rfl (by rw [hml]; rfl) (argsL := [(.int (2 : Int32))]) (rest := []) (lenOf pd_27 rfl) rfl (by show 2 * 0 + _ ≤ _; exact Nat.le_of_eq rfl) (hb hby at_8) (fun _ _ => ⟨rfl, e0, (by decide : 0 + 0 ≤ _), (by decide : 0 + 0 ≤ _)⟩)
    dsimp only [Pt.U, Pt.locs, Pt.cells, Pt.slots] at X34 l34 y34 z34 st34 hQ34
    subst l34 y34 z34
    obtain ⟨rfl, N34q, e34⟩ := hQ34
    have N34 := Fr.app N0 N34q
    obtain ⟨_, _, ⟨T35, L35, k35, n35⟩, -, X35, ⟨Lc35, hQ35, l35, y35, z35⟩, st35⟩ := Jvm.LawKit.callS X34 hx (y := (⟨"com/example/gimbalwise/gimbalwise/AxisNextPinLaw", "axisOf", "(I)Lcom/example/gimbalwise/gimbalwise/Axis;"⟩ : MethodName)) hown (mvT hZ (hw _ (List.mem_of_getElem? (i := 1) rfl))) (mvT hZ (hw _ (List.mem_of_getElem? (i := 2) rfl))) (mvT hZ (hw _ (List.mem_of_getElem? (i := 3) rfl))) (mvT hZ (hw _ (List.mem_of_getElem? (i := 4) rfl))) (by decide) (backOf (W := 0) (rm_axis l Z a0 hw [] (0 : Int32) h0 n0 Z0 w_X w_Y w_Z hWd w_X (by first | rfl | decide | simp)) hZ (hw _ (List.mem_of_getElem? (i := 4) rfl)) (hw _ (List.mem_of_getElem? (i := 3) rfl)) (by decide) (by decide)) (g := (mkF m 17 #[.val (.int p0), .val (.int (2 : Int32)), .val (.ref w_Z), .unset] [(.int (0 : Int32))])) rfl (by rw [hml]; rfl) (argsL := [(.int (0 : Int32))]) (rest := []) (lenOf pd_27 rfl) rfl (by show 2 * 0 + _ ≤ _; exact Nat.le_of_eq rfl) (hb hby at_17) (fun _ _ => ⟨rfl, e34, (by decide : 0 + 0 ≤ _), (by decide : 0 + 0 ≤ _)⟩)
    dsimp only [Pt.U, Pt.locs, Pt.cells, Pt.slots] at X35 l35 y35 z35 st35 hQ35
    subst l35 y35 z35
    obtain ⟨rfl, N35q, e35⟩ := hQ35
    have N35 := Fr.app N34 N35q
    obtain ⟨cq36, kq36, q36a, q36b, q36c⟩ := isOf hZ e35 (E_Z)
    obtain ⟨_, _, ⟨T36, L36, k36, n36⟩, -, X36, ⟨Lc36, hQ36, l36, y36, z36⟩, st36⟩ := X35.virtualBack hx (y := (⟨"com/example/gimbalwise/gimbalwise/Axis", "next", "()Lcom/example/gimbalwise/gimbalwise/Axis;"⟩ : MethodName)) (z := (⟨"com/example/gimbalwise/gimbalwise/Axis", "next", "()Lcom/example/gimbalwise/gimbalwise/Axis;"⟩ : MethodName)) hown (mvT hZ (hw _ (List.mem_of_getElem? (i := 10) rfl))) (mvT hZ (hw _ (List.mem_of_getElem? (i := 11) rfl))) (notFace_of_selects (args := #[]) (mvT hZ (hw _ (List.mem_of_getElem? (i := 13) rfl)))) (mvT hZ (hw _ (List.mem_of_getElem? (i := 13) rfl))) (mvT hZ (hw _ (List.mem_of_getElem? (i := 12) rfl))) (by decide) (backOf (W := 0) (rm_next_Z l Z a0 hw [] w_Z h0 n0 Z0 w_X w_Y hWd) hZ (hw _ (List.mem_of_getElem? (i := 14) rfl)) (hw _ (List.mem_of_getElem? (i := 6) rfl)) (by decide) (by decide)) q36a q36c (g := (mkF m 22 #[.val (.int p0), .val (.int (2 : Int32)), .val (.ref w_Z), .val (.ref w_X)] [(.ref w_Z)])) rfl (by rw [hml]; rfl) (Steps.refl _) (argsL := []) (rest := []) (lenOf pd_28 rfl) rfl (by show 2 * 0 + _ ≤ _; exact Nat.le_of_eq rfl) (hb hby at_22) (fun _ _ => ⟨rfl, e35, (by decide : 0 + 0 ≤ _), (by decide : 0 + 0 ≤ _)⟩)
    dsimp only [Pt.U, Pt.locs, Pt.cells, Pt.slots] at X36 l36 y36 z36 st36 hQ36
    subst l36 y36 z36
    obtain ⟨rfl, N36q, e36⟩ := hQ36
    have N36 := Fr.app N35 N36q
    obtain ⟨fs, hr, hrun, hended, hW, hsame⟩ := X36.leave (v := some (.int (1 : Int32))) (fun h => by rw [Bd.returns] at h; cases h)
    refine ⟨_, _, ck24 _ ?_, hrun, hended, _, _, rfl, ?_, ⟨_, rfl⟩, hW, hsame.mono (by decide) (by decide)⟩
    · show Steps p.tables e below (s₁.setTop (mkF m 6 #[.val (.int p0), .unset, .unset, .unset] [(.int ((p0 &&& (2147483647 : Int32)) % (3 : Int32)))])) _
      rw [hv27]
      show Steps p.tables e below (s₁.setTop (mkF m 6 #[.val (.int p0), .unset, .unset, .unset] [(.int (2 : Int32))])) _
      refine XS.istoreN X0.here hx rfl (hb hby at_6) rfl (l' := #[.val (.int p0), .val (.int (2 : Int32)), .unset, .unset]) rfl ?_
      show Steps p.tables e below (s₁.setTop (mkF m 7 #[.val (.int p0), .val (.int (2 : Int32)), .unset, .unset] [])) _
      refine XS.iloadN X0.here hx rfl (hb hby at_7) rfl ?_
      show Steps p.tables e below (s₁.setTop (mkF m 8 #[.val (.int p0), .val (.int (2 : Int32)), .unset, .unset] [(.int (2 : Int32))])) _
      refine st34 _ ?_
      show Steps p.tables e below (T34.setTop (mkF m 11 #[.val (.int p0), .val (.int (2 : Int32)), .unset, .unset] [(.ref w_Z)])) _
      refine XS.astoreN X34.here hx rfl (hb hby at_11) rfl rfl (l' := #[.val (.int p0), .val (.int (2 : Int32)), .val (.ref w_Z), .unset]) rfl ?_
      show Steps p.tables e below (T34.setTop (mkF m 12 #[.val (.int p0), .val (.int (2 : Int32)), .val (.ref w_Z), .unset] [])) _
      refine XS.iloadN X34.here hx rfl (hb hby at_12) rfl ?_
      show Steps p.tables e below (T34.setTop (mkF m 13 #[.val (.int p0), .val (.int (2 : Int32)), .val (.ref w_Z), .unset] [(.int (2 : Int32))])) _
      refine XS.iconst X34.here hx rfl (hb hby at_13) ?_
      show Steps p.tables e below (T34.setTop (mkF m 14 #[.val (.int p0), .val (.int (2 : Int32)), .val (.ref w_Z), .unset] [(.int (1 : Int32)), (.int (2 : Int32))])) _
      refine XS.iadd X34.here hx rfl (hb hby at_14) rfl ?_
      show Steps p.tables e below (T34.setTop (mkF m 15 #[.val (.int p0), .val (.int (2 : Int32)), .val (.ref w_Z), .unset] [(.int (3 : Int32))])) _
      refine XS.iconst X34.here hx rfl (hb hby at_15) ?_
      show Steps p.tables e below (T34.setTop (mkF m 16 #[.val (.int p0), .val (.int (2 : Int32)), .val (.ref w_Z), .unset] [(.int (3 : Int32)), (.int (3 : Int32))])) _
      refine Jvm.RoadKit.iremM (g := (mkF m 16 #[.val (.int p0), .val (.int (2 : Int32)), .val (.ref w_Z), .unset] [(.int (3 : Int32)), (.int (3 : Int32))])) X34 hx rfl (hb hby at_16) rfl (by decide) ?_
      show Steps p.tables e below (T34.setTop (mkF m 17 #[.val (.int p0), .val (.int (2 : Int32)), .val (.ref w_Z), .unset] [(.int (0 : Int32))])) _
      refine st35 _ ?_
      show Steps p.tables e below (T35.setTop (mkF m 20 #[.val (.int p0), .val (.int (2 : Int32)), .val (.ref w_Z), .unset] [(.ref w_X)])) _
      refine XS.astoreN X35.here hx rfl (hb hby at_20) rfl rfl (l' := #[.val (.int p0), .val (.int (2 : Int32)), .val (.ref w_Z), .val (.ref w_X)]) rfl ?_
      show Steps p.tables e below (T35.setTop (mkF m 21 #[.val (.int p0), .val (.int (2 : Int32)), .val (.ref w_Z), .val (.ref w_X)] [])) _
      refine XS.aloadN X35.here hx rfl (hb hby at_21) rfl rfl ?_
      show Steps p.tables e below (T35.setTop (mkF m 22 #[.val (.int p0), .val (.int (2 : Int32)), .val (.ref w_Z), .val (.ref w_X)] [(.ref w_Z)])) _
      refine st36.trans ?_
      show Steps p.tables e below (T36.setTop (mkF m 25 #[.val (.int p0), .val (.int (2 : Int32)), .val (.ref w_Z), .val (.ref w_X)] [(.ref w_X)])) _
      refine XS.aloadN X36.here hx rfl (hb hby at_25) rfl rfl ?_
      show Steps p.tables e below (T36.setTop (mkF m 26 #[.val (.int p0), .val (.int (2 : Int32)), .val (.ref w_Z), .val (.ref w_X)] [(.ref w_X), (.ref w_X)])) _
      refine Jvm.RoadKit.acmp (g := (mkF m 26 #[.val (.int p0), .val (.int (2 : Int32)), .val (.ref w_Z), .val (.ref w_X)] [(.ref w_X), (.ref w_X)])) X36 hx rfl rfl rfl (pc0 := 26) (pc' := 29) (same := true) rfl (hb hby at_26) rfl (decide_eq_true rfl) (by decide) (by decide) ?_
      show Steps p.tables e below (T36.setTop (mkF m 29 #[.val (.int p0), .val (.int (2 : Int32)), .val (.ref w_Z), .val (.ref w_X)] [])) _
      refine XS.iconst X36.here hx rfl (hb hby at_29) ?_
      show Steps p.tables e below (T36.setTop (mkF m 30 #[.val (.int p0), .val (.int (2 : Int32)), .val (.ref w_Z), .val (.ref w_X)] [(.int (1 : Int32))])) _
      refine XS.goto X36.here hx rfl (pc0 := 30) (pc' := 34) rfl (hb hby at_30) (by decide) (by decide) ?_
      show Steps p.tables e below (T36.setTop (mkF m 34 #[.val (.int p0), .val (.int (2 : Int32)), .val (.ref w_Z), .val (.ref w_X)] [(.int (1 : Int32))])) _
      exact retN X36 hx (t := .boolean) Bd.returns (by simp) (hb hby at_34) hr
    · show own_Pure (some (.int 1)) h0 n0 _ T36.heap _
      rw [e36]
      exact ⟨rfl, N36, rfl⟩
set_option maxRecDepth 65536 in
set_option maxHeartbeats 40000000 in
theorem comes_1 {Post : Tables → Env → Array Value → State → Outcome → State → Prop} (hpost : ∀ tb e args s v u, (limb_1_1.after args s (.returned v) u = true ∧ limb_1_2.after args s (.returned v) u = true ∧ True) → FrameEnd s (.returned v) u (Jvm.fieldLocs frame_1_writes args s ++ Jvm.arrayLocs frame_1_arrays args s ++ Jvm.staticLocs frame_1_statics s) 0 0 → Post tb e args s (.returned v) u) :
    ArmFor flags0 classFile x code maxLocals ret World_1 tables_1 room_1 Calls_1 rest_1 Pre_1 Post := by
  intro l hfl _ _ p e ha hc hk s m args below hf hA hF happ hP
  obtain ⟨hcalls, hrest, hpre⟩ := hP
  obtain ⟨-, -, -, hnamed, -, -, -, hat⟩ := (Spec.applies_iff hf).mp happ
  obtain ⟨hg, hn⟩ := and_e (Cond.before_iff.mp (show (Jvm.Cond.and given_1 narrow_1).before args s = true from hpre))
  obtain ⟨gg0, hh0⟩ := and_e hg
  obtain ⟨w0, rfl⟩ : ∃ w0 : Value, args = #[w0] := by
    have hs : args.size = 1 := by simpa [Cond.value, given_1] using gg0
    obtain ⟨L⟩ := args
    match L, hs with
    | [w0], _ => exact ⟨w0, rfl⟩
  have hw := fun d (hd : d ∈ tables_1) => atoms_spec (ws := Jvm.Cond.code x code maxLocals ret :: tables_1) hat d (List.mem_cons_of_mem _ hd)
  have hfit : Fit s := fun {y c} hc i hi => by
    obtain ⟨ha, rfl⟩ := Array.getElem?_eq_some_iff.mp hc
    have q := List.all_eq_true.mp ((Array.all_eq_true_iff_forall_mem.mp hF) _ (Array.getElem_mem ha)) i (List.mem_range.mpr hi)
    simpa [Array.getElem?_eq_getElem hi] using q
  obtain ⟨i0, ei0⟩ := is_v hh0
  obtain rfl : w0 = (.int i0) := Option.some.inj ei0
  obtain ⟨g1, g2⟩ := and_e hn
  obtain ⟨g3, g4⟩ := and_e g2
  obtain ⟨g5, g6⟩ := and_e g4
  obtain ⟨g7, g8⟩ := and_e g6
  obtain ⟨g9, g10⟩ := and_e g8
  obtain ⟨w_X, ev_X⟩ := exa_v g1
  have E_X := Exa.start ev_X g1
  have S_X := Sta.start ev_X (Or.inr ⟨hw _ (List.mem_of_getElem? (i := 6) rfl), hw _ (List.mem_of_getElem? (i := 7) rfl)⟩)
  have F_X_ordinal := own_fld_eq ev_X g5
  obtain ⟨w_Y, ev_Y⟩ := exa_v g3
  have E_Y := Exa.start ev_Y g3
  have S_Y := Sta.start ev_Y (Or.inr ⟨hw _ (List.mem_of_getElem? (i := 6) rfl), hw _ (List.mem_of_getElem? (i := 9) rfl)⟩)
  have F_Y_ordinal := own_fld_eq ev_Y g10
  obtain ⟨w_Z, ev_Z⟩ := exa_v g7
  have E_Z := Exa.start ev_Z g7
  have S_Z := Sta.start ev_Z (Or.inr ⟨hw _ (List.mem_of_getElem? (i := 6) rfl), hw _ (List.mem_of_getElem? (i := 26) rfl)⟩)
  have F_Z_ordinal := own_fld_eq ev_Z g9
  have hW0 : own_W s s.heap w_X w_Y w_Z := ⟨S_X, E_X, F_X_ordinal, S_Y, E_Y, F_Y_ordinal, S_Z, E_Z, F_Z_ordinal⟩
  obtain ⟨n, o, h1, h2, h3, _, L, rfl, hQ0, hq⟩ := rm_law l s _ hw tables_1 i0 s.heap s.heap.size (Nat.le_refl _) w_X w_Y w_Z hW0 p e ha hc hk s m _ below hf ((Spec.applies_iff_loose hf).mp happ).1 ⟨rfl, State.Warmed39.refl s, rfl⟩ trivial
  have N := hQ0.2.1
  obtain rfl := hQ0.1
  refine ⟨n, _, h1, h2, h3, hpost _ _ _ _ _ _ ⟨Cond.after_iff.mpr rfl, Cond.after_iff.mpr (eq_i res_at (Term.int_eval (1)) rfl), trivial⟩ ⟨hq.1, hq.2.1, (hq.2.2.sift fun y hy => Or.inr (N y hy)).mono (by decide) (by decide)⟩⟩
theorem main_1_1 : Claimed_1_1 := comes_1 fun _ _ _ _ _ _ h hF => ⟨h.1, hF⟩
theorem main_1_2 : Claimed_1_2 := comes_1 fun _ _ _ _ _ _ h hF => ⟨h.2.1, hF⟩
end Jvm.Pilot.@@N@@
namespace Jvm.Pilot.@@N@@
open Jvm Jvm.ClassFile Sem Op Lib Jvm.Free Jvm.Stand Jvm.Pilot.@@N@@.Jvm.D
/-! MADE BY PROGRAM (witnessworld.py) out of the Statement's table words and the real class files: 12 classes; the members and pool entries that the words name. The judged class is class 1, her method 2. -/
namespace start1
open Jvm.ClassFile
def u (s : String) : CpInfo := .utf8 (stringToUtf16 s)
/-- a pool by its gaps: so many unusable entries, then the entry; so many at the end -/
def gap : Nat → List CpInfo → List CpInfo
  | 0, r => r
  | n + 1, r => .unusable :: gap n r
def poolList (es : List (Nat × CpInfo)) (last : Nat) : List CpInfo := es.foldr (fun e r => gap e.1 (e.2 :: r)) (gap last [])
def pool (es : List (Nat × CpInfo)) (last : Nat) : Array CpInfo := ⟨poolList es last⟩
def fileOf (pool : Array CpInfo) (this : Nat) (attrs : Array Attribute := #[]) (ms : Array MethodInfo := #[]) (fl : Nat := 33) (sup : Nat := 0) (ifs : Array Nat := #[]) (fds : Array FieldInfo := #[]) : ClassFile where
  minorVersion := 0
  majorVersion := 65
  constantPool := pool
  accessFlags := fl
  thisClass := this
  superClass := sup
  interfaces := ifs
  fields := fds
  methods := ms
  attributes := attrs
def plain (name : String) (sup : Option ClassId) : Class where
  name := name
  kind := .ordinary
  loader := none
  accessFlags := 33
  super := sup
  interfaces := #[]
  cf := none
  fields := #[]
  methods := #[]
  instanceTypes := #[]
  staticTypes := #[]
  resolved := #[]
  callSites := []
  init := .initialized
  statics := none
  mirror := none

def pool0 : Array CpInfo := pool [(5, u "<init>"), (0, u "()V"), (1, .class_ 10), (1, u "java/lang/Object")] 113

def k0m0 : Method := { name := "<init>", desc := "()V", sig := { parameters := [], returnType := none }, accessFlags := 1, code := none }
/-- java/lang/Object -/
def k0 : Class := { plain "java/lang/Object" none with
  accessFlags := 33
  interfaces := #[]
  cf := some (fileOf pool0 8 #[] #[{ accessFlags := 1, nameIndex := 5, descriptorIndex := 6, attributes := #[] }] 33 0 #[] #[])
  fields := #[]
  methods := #[k0m0]
  instanceTypes := #[]
  staticTypes := #[]
  resolved := Array.replicate 124 none
  statics := none }

def pool1 : Array CpInfo := pool [(2, .class_ 4), (1, u "java/lang/Object"), (0, u "<init>"), (0, u "()V"), (0, .fieldref 8 9), (0, .class_ 10), (0, .nameAndType 11 12), (0, u "com/example/gimbalwise/gimbalwise/Axis"), (0, u "X"), (0, u "Lcom/example/gimbalwise/gimbalwise/Axis;"), (0, .fieldref 8 14), (0, .nameAndType 15 12), (0, u "Y"), (0, .fieldref 8 17), (0, .nameAndType 18 12), (0, u "Z"), (0, .integer 2147483647), (0, .methodref 21 22), (0, .class_ 23), (0, .nameAndType 24 25), (0, u "com/example/gimbalwise/gimbalwise/AxisNextPinLaw"), (0, u "axisOf"), (0, u "(I)Lcom/example/gimbalwise/gimbalwise/Axis;"), (0, .methodref 8 27), (0, .nameAndType 28 29), (0, u "next"), (0, u "()Lcom/example/gimbalwise/gimbalwise/Axis;"), (3, u "law"), (0, u "(I)Z")] 2

def k1m0 : Method := { name := "<init>", desc := "()V", sig := { parameters := [], returnType := none }, accessFlags := 1, code := none }
def k1c1 : Code := { maxStack := 2, maxLocals := 1, code := method_2_code, exceptionTable := #[], attributes := #[] }
def k1m1 : Method := { name := "axisOf", desc := "(I)Lcom/example/gimbalwise/gimbalwise/Axis;", sig := { parameters := [.int], returnType := some (.object "com/example/gimbalwise/gimbalwise/Axis") }, accessFlags := 10, code := some k1c1 }
def k1c2 : Code := { maxStack := 2, maxLocals := 4, code := code, exceptionTable := #[], attributes := #[] }
def k1m2 : Method := { name := "law", desc := "(I)Z", sig := { parameters := [.int], returnType := some .boolean }, accessFlags := 9, code := some k1c2 }
/-- com/example/gimbalwise/gimbalwise/AxisNextPinLaw -/
def k1 : Class := { plain "com/example/gimbalwise/gimbalwise/AxisNextPinLaw" (some 0) with
  accessFlags := 49
  interfaces := #[]
  cf := some (fileOf pool1 21 #[] #[{ accessFlags := 1, nameIndex := 5, descriptorIndex := 6, attributes := #[] }, { accessFlags := 10, nameIndex := 24, descriptorIndex := 25, attributes := #[] }, { accessFlags := 9, nameIndex := 33, descriptorIndex := 34, attributes := #[] }] 49 2 #[] #[])
  fields := #[]
  methods := #[k1m0, k1m1, k1m2]
  instanceTypes := #[]
  staticTypes := #[]
  resolved := Array.replicate 37 none
  statics := none }

def pool2 : Array CpInfo := pool [(1, .class_ 2), (0, u "java/lang/constant/Constable"), (0, .class_ 4), (0, u "java/lang/Object")] 6

/-- java/lang/constant/Constable -/
def k2 : Class := { plain "java/lang/constant/Constable" (some 0) with
  accessFlags := 1537
  interfaces := #[]
  cf := some (fileOf pool2 1 #[] #[] 1537 3 #[] #[])
  fields := #[]
  methods := #[]
  instanceTypes := #[]
  staticTypes := #[]
  resolved := Array.replicate 11 none
  statics := none }

def pool3 : Array CpInfo := pool [(1, .class_ 2), (0, u "java/lang/Comparable"), (0, .class_ 4), (0, u "java/lang/Object")] 7

/-- java/lang/Comparable -/
def k3 : Class := { plain "java/lang/Comparable" (some 0) with
  accessFlags := 1537
  interfaces := #[]
  cf := some (fileOf pool3 1 #[] #[] 1537 3 #[] #[])
  fields := #[]
  methods := #[]
  instanceTypes := #[]
  staticTypes := #[]
  resolved := Array.replicate 12 none
  statics := none }

def pool4 : Array CpInfo := pool [(1, .class_ 2), (0, u "java/io/Serializable"), (0, .class_ 4), (0, u "java/lang/Object")] 2

/-- java/io/Serializable -/
def k4 : Class := { plain "java/io/Serializable" (some 0) with
  accessFlags := 1537
  interfaces := #[]
  cf := some (fileOf pool4 1 #[] #[] 1537 3 #[] #[])
  fields := #[]
  methods := #[]
  instanceTypes := #[]
  staticTypes := #[]
  resolved := Array.replicate 7 none
  statics := none }

def pool5 : Array CpInfo := pool [(2, .class_ 4), (1, u "java/lang/Enum"), (0, u "name"), (0, u "Ljava/lang/String;"), (0, .fieldref 2 8), (0, .nameAndType 9 10), (0, u "ordinal"), (0, u "I"), (1, .class_ 14), (1, u "java/lang/Object"), (4, u "hash"), (86, .class_ 108), (1, u "java/lang/Enum$EnumDesc"), (2, .class_ 112), (0, u "java/lang/constant/Constable"), (0, .class_ 114), (0, u "java/lang/Comparable"), (0, .class_ 116), (0, u "java/io/Serializable"), (9, u "()I")] 77

def k5c0 : Code := { maxStack := 1, maxLocals := 1, code := jdk_37_method_2_code, exceptionTable := #[], attributes := #[] }
def k5m0 : Method := { name := "ordinal", desc := "()I", sig := { parameters := [], returnType := some .int }, accessFlags := 17, code := some k5c0 }
/-- java/lang/Enum -/
def k5 : Class := { plain "java/lang/Enum" (some 0) with
  accessFlags := 1057
  interfaces := #[2, 3, 4]
  cf := some (fileOf pool5 2 #[.nestMembers #[106]] #[{ accessFlags := 17, nameIndex := 9, descriptorIndex := 126, attributes := #[] }] 1057 12 #[111, 113, 115] #[{ accessFlags := 18, nameIndex := 5, descriptorIndex := 6, attributes := #[] }, { accessFlags := 18, nameIndex := 9, descriptorIndex := 10, attributes := #[] }, { accessFlags := 2, nameIndex := 19, descriptorIndex := 10, attributes := #[] }])
  fields := #[{ name := "name", type := (.object "java/lang/String"), accessFlags := 18, slot := 0, constantValue := 0 }, { name := "ordinal", type := .int, accessFlags := 18, slot := 1, constantValue := 0 }, { name := "hash", type := .int, accessFlags := 2, slot := 2, constantValue := 0 }]
  methods := #[k5m0]
  instanceTypes := #[(.object "java/lang/String"), .int, .int]
  staticTypes := #[]
  resolved := Array.replicate 204 none
  statics := none }

def pool6 : Array CpInfo := pool [(1, .class_ 2), (0, u "com/example/gimbalwise/gimbalwise/Axis"), (0, .fieldref 1 4), (0, .nameAndType 5 6), (0, u "X"), (0, u "Lcom/example/gimbalwise/gimbalwise/Axis;"), (0, .fieldref 1 8), (0, .nameAndType 9 6), (0, u "Y"), (0, .fieldref 1 11), (0, .nameAndType 12 6), (0, u "Z"), (2, u "$VALUES"), (0, u "[Lcom/example/gimbalwise/gimbalwise/Axis;"), (6, .class_ 25), (1, u "java/lang/Enum"), (6, .methodref 1 33), (0, .nameAndType 34 35), (0, u "ordinal"), (0, u "()I"), (20, u "next"), (0, u "()Lcom/example/gimbalwise/gimbalwise/Axis;")] 7

def k6c0 : Code := { maxStack := 4, maxLocals := 1, code := prog_5_method_4_code, exceptionTable := #[], attributes := #[] }
def k6m0 : Method := { name := "next", desc := "()Lcom/example/gimbalwise/gimbalwise/Axis;", sig := { parameters := [], returnType := some (.object "com/example/gimbalwise/gimbalwise/Axis") }, accessFlags := 0, code := some k6c0 }
/-- com/example/gimbalwise/gimbalwise/Axis -/
def k6 : Class := { plain "com/example/gimbalwise/gimbalwise/Axis" (some 5) with
  accessFlags := 16433
  interfaces := #[]
  cf := some (fileOf pool6 1 #[] #[{ accessFlags := 0, nameIndex := 56, descriptorIndex := 57, attributes := #[] }] 16433 23 #[] #[{ accessFlags := 16409, nameIndex := 5, descriptorIndex := 6, attributes := #[] }, { accessFlags := 16409, nameIndex := 9, descriptorIndex := 6, attributes := #[] }, { accessFlags := 16409, nameIndex := 12, descriptorIndex := 6, attributes := #[] }, { accessFlags := 4122, nameIndex := 15, descriptorIndex := 16, attributes := #[] }])
  fields := #[{ name := "X", type := (.object "com/example/gimbalwise/gimbalwise/Axis"), accessFlags := 16409, slot := 0, constantValue := 0 }, { name := "Y", type := (.object "com/example/gimbalwise/gimbalwise/Axis"), accessFlags := 16409, slot := 1, constantValue := 0 }, { name := "Z", type := (.object "com/example/gimbalwise/gimbalwise/Axis"), accessFlags := 16409, slot := 2, constantValue := 0 }, { name := "$VALUES", type := (.array (.object "com/example/gimbalwise/gimbalwise/Axis")), accessFlags := 4122, slot := 3, constantValue := 0 }]
  methods := #[k6m0]
  instanceTypes := #[(.object "java/lang/String"), .int, .int]
  staticTypes := #[(.object "com/example/gimbalwise/gimbalwise/Axis"), (.object "com/example/gimbalwise/gimbalwise/Axis"), (.object "com/example/gimbalwise/gimbalwise/Axis"), (.array (.object "com/example/gimbalwise/gimbalwise/Axis"))]
  resolved := Array.replicate 65 none
  statics := some 0 }

def pool7 : Array CpInfo := pool [(1, u "java/lang/Cloneable"), (0, .class_ 1), (0, u "java/lang/Object"), (0, .class_ 3)] 3

/-- java/lang/Cloneable -/
def k7 : Class := { plain "java/lang/Cloneable" (some 0) with
  accessFlags := 1537
  interfaces := #[]
  cf := some (fileOf pool7 2 #[] #[] 1537 4 #[] #[])
  fields := #[]
  methods := #[]
  instanceTypes := #[]
  staticTypes := #[]
  resolved := Array.replicate 8 none
  statics := none }

/-- the primitive byte -/
def k8 : Class := { plain "byte" none with kind := .primitive 'B', accessFlags := 0x411 }
/-- [B -/
def k9 : Class := { plain "[B" (some 0) with kind := .array 8 .byte, interfaces := #[7, 4], accessFlags := 1041 }

/-- the primitive int -/
def k10 : Class := { plain "int" none with kind := .primitive 'I', accessFlags := 0x411 }
/-- [I -/
def k11 : Class := { plain "[I" (some 0) with kind := .array 10 .int, interfaces := #[7, 4], accessFlags := 1041 }

def heap : Heap := #[{ cls := 6, slots := #[.ref 1, .ref 2, .ref 3, .null], vm := .statics 6 },
  { cls := 6, slots := #[.null, .int 0, .int 0], vm := .none },
  { cls := 6, slots := #[.null, .int 1, .int 0], vm := .none },
  { cls := 6, slots := #[.null, .int 2, .int 0], vm := .none }]
def classes : Array Class := #[k0, k1, k2, k3, k4, k5, k6, k7, k8, k9, k10, k11]
def interned : List (Array UInt16 × Addr) := []
def slotsUsed : Nat := 13
def theMethod : MethodId := ⟨1, 2⟩
def args0 : Array Value := #[.int 5]
def aboutOver (below : List Frame) : State where
  vm := { classes := classes, interned := interned.toArray }
  heap := heap
  slotsUsed := slotsUsed
  threads := #[{ frames := .invoking theMethod args0 :: below }]
def below0 : List Frame := [.native { method := ⟨0, 0⟩, args := #[] }]
def about1 : State := aboutOver below0
def p0 : Program := .bare "" "" ""
def e0 : Env := launch0.env 0 0 0
theorem w_frames : about1.frames = Frame.invoking theMethod args0 :: below0 := rfl
set_option maxRecDepth 65536 in
theorem w_args : argsFit about1.vm theMethod args0 = true := by decide +kernel
set_option maxRecDepth 65536 in
theorem w_heap : heapFits about1 = true := by decide +kernel
set_option maxRecDepth 65536 in
theorem w_runnable : about1.curStatus? = some .runnable := by decide +kernel
set_option maxRecDepth 65536 in
theorem w_alone : about1.alone = true := by decide +kernel
set_option maxRecDepth 65536 in
theorem w_named : about1.methodNamed? x = some theMethod := by decide +kernel
set_option maxRecDepth 65536 in
theorem w_hears : about1.hears theMethod below0 = true := by decide +kernel
set_option maxRecDepth 65536 in
theorem w_ripe : about1.ripe theMethod args0 below0 = true := by decide +kernel
theorem w_running : about1.status = .running := rfl
set_option maxRecDepth 65536 in
theorem w_room : about1.hasRoom e0.platform room_1 = true :=
  launch0.hasRoom_least _ room_1 (by decide +kernel) (by decide +kernel) (by decide +kernel) (by decide +kernel) (by decide +kernel) (by decide +kernel)
theorem allAtoms_all (ts : List Jvm.Cond) (a : Array Jvm.Value) (st : Jvm.State) : (allAtoms ts).before a st = ts.all (fun c => c.before a st) := by
  induction ts with
  | nil => rfl
  | cons c t ih =>
    show (Jvm.Cond.and c (allAtoms t)).before a st = _
    rw [Jvm.Cond.before_and, ih, List.all_cons]
def words1 : List Jvm.Cond := Jvm.Cond.code x code maxLocals ret :: tables_1
/-- a 'code' word, met by the world's own term for the bytes: nothing is compared byte by byte -/
theorem code_word {y : MethodName} {bytes : ByteArray} {mx : Nat} {rt : Option FieldType} {a : Array Value} {s : State} {m : MethodId} {meth : Method} {c : Code} (h1 : s.methodNamed? y = some m) (h2 : s.vm.method? m = some meth) (h3 : meth.code = some c) (h4 : c.code = bytes)
    (h5 : (c.maxLocals == mx && c.exceptionTable.isEmpty && decide (c.maxStack ≤ mostOperands) && decide (meth.sig.returnType = rt) && !meth.locks && decide (parseMethodDescriptor y.desc = some meth.sig)) = true) : (Jvm.Cond.code y bytes mx rt).before a s = true := by
  simp only [Bool.and_eq_true, beq_iff_eq, Bool.not_eq_true', decide_eq_true_eq] at h5
  obtain ⟨⟨⟨⟨⟨g1, g2⟩, g3⟩, g4⟩, g5⟩, g6⟩ := h5
  simp [Cond.before, Cond.holds, Cond.value, h1, h2, h3, h4, g1, g2, g3, g4, g5, g6]
def isCode : Jvm.Cond → Bool
  | .code _ _ _ _ => true
  | _ => false
theorem all_split {L : List Jvm.Cond} {P : Jvm.Cond → Bool} (h1 : L.all (fun c => isCode c || P c) = true) (h2 : ∀ c ∈ L.filter isCode, P c = true) : L.all P = true := by
  refine List.all_eq_true.mpr fun c hc => ?_
  have h := List.all_eq_true.mp h1 c hc
  rcases Bool.eq_false_or_eq_true (isCode c) with hi | hi
  · exact h2 c (List.mem_filter.mpr ⟨hc, hi⟩)
  · simpa [hi] using h
set_option maxRecDepth 65536 in
theorem w_c0 : (Jvm.Cond.code x code maxLocals ret).before args0 about1 = true := code_word (m := ⟨1, 2⟩) (meth := k1m2) (c := k1c2) (by decide +kernel) rfl rfl rfl (by decide +kernel)
set_option maxRecDepth 65536 in
theorem w_c1 : (Jvm.Cond.code ({ cls := "com/example/gimbalwise/gimbalwise/AxisNextPinLaw", name := "axisOf", desc := "(I)Lcom/example/gimbalwise/gimbalwise/Axis;" } : Jvm.MethodName) method_2_code (1 : Nat) (Option.some (Jvm.ClassFile.FieldType.object "com/example/gimbalwise/gimbalwise/Axis"))).before args0 about1 = true := code_word (m := ⟨1, 1⟩) (meth := k1m1) (c := k1c1) (by decide +kernel) rfl rfl rfl (by decide +kernel)
set_option maxRecDepth 65536 in
theorem w_c2 : (Jvm.Cond.code ({ cls := "com/example/gimbalwise/gimbalwise/Axis", name := "next", desc := "()Lcom/example/gimbalwise/gimbalwise/Axis;" } : Jvm.MethodName) prog_5_method_4_code (1 : Nat) (Option.some (Jvm.ClassFile.FieldType.object "com/example/gimbalwise/gimbalwise/Axis"))).before args0 about1 = true := code_word (m := ⟨6, 0⟩) (meth := k6m0) (c := k6c0) (by decide +kernel) rfl rfl rfl (by decide +kernel)
set_option maxRecDepth 65536 in
theorem w_c3 : (Jvm.Cond.code ({ cls := "java/lang/Enum", name := "ordinal", desc := "()I" } : Jvm.MethodName) jdk_37_method_2_code (1 : Nat) (Option.some Jvm.ClassFile.FieldType.int)).before args0 about1 = true := code_word (m := ⟨5, 0⟩) (meth := k5m0) (c := k5c0) (by decide +kernel) rfl rfl rfl (by decide +kernel)
def codes1 : List Jvm.Cond := [Jvm.Cond.code x code maxLocals ret, Jvm.Cond.code ({ cls := "com/example/gimbalwise/gimbalwise/AxisNextPinLaw", name := "axisOf", desc := "(I)Lcom/example/gimbalwise/gimbalwise/Axis;" } : Jvm.MethodName) method_2_code (1 : Nat) (Option.some (Jvm.ClassFile.FieldType.object "com/example/gimbalwise/gimbalwise/Axis")), Jvm.Cond.code ({ cls := "com/example/gimbalwise/gimbalwise/Axis", name := "next", desc := "()Lcom/example/gimbalwise/gimbalwise/Axis;" } : Jvm.MethodName) prog_5_method_4_code (1 : Nat) (Option.some (Jvm.ClassFile.FieldType.object "com/example/gimbalwise/gimbalwise/Axis")), Jvm.Cond.code ({ cls := "java/lang/Enum", name := "ordinal", desc := "()I" } : Jvm.MethodName) jdk_37_method_2_code (1 : Nat) (Option.some Jvm.ClassFile.FieldType.int)]
set_option maxRecDepth 65536 in
theorem codes_eq : words1.filter isCode = codes1 := rfl
theorem w_codes : ∀ c ∈ words1.filter isCode, c.before args0 about1 = true := by
  rw [codes_eq]
  intro c hc
  simp only [codes1, List.mem_cons, List.not_mem_nil, or_false] at hc
  rcases hc with rfl | rfl | rfl | rfl
  · exact w_c0
  · exact w_c1
  · exact w_c2
  · exact w_c3
set_option maxRecDepth 65536 in
theorem w_t1 : (words1.take 24).all (fun c => isCode c || c.before args0 about1) = true := by decide +kernel
set_option maxRecDepth 65536 in
theorem w_t2 : (words1.drop 24).all (fun c => isCode c || c.before args0 about1) = true := by decide +kernel
theorem w_tables : (allAtoms (Jvm.Cond.code x code maxLocals ret :: tables_1)).before args0 about1 = true := by
  rw [allAtoms_all]
  show words1.all (fun c => c.before args0 about1) = true
  refine all_split ?_ w_codes
  rw [← List.take_append_drop 24 words1, List.all_append, w_t1, w_t2]
  rfl
set_option maxRecDepth 65536 in
theorem w_case : (Jvm.Cond.and given_1 narrow_1).before args0 about1 = true := by decide +kernel
theorem w_applies : (headSpec (Jvm.Cond.code x code maxLocals ret :: tables_1) room_1).applies x e0.platform about1 = true :=
  (Spec.applies_iff w_frames).mpr ⟨w_running, w_runnable, w_alone, w_named, w_hears, w_ripe, w_room, w_tables⟩
theorem atStart : AtStart classFile x code maxLocals ret World_1 tables_1 room_1 Calls_1 rest_1 Pre_1 launch0 p0 e0 about1 theMethod args0 below0 :=
  ⟨lists_1, trivial, launch0.admits_env _ _ _, launch0.least_env, fairChoices_fair.cas, fairChoices_fair.clock, w_frames, w_args, w_heap, w_applies, trivial, trivial, w_case⟩
end start1
theorem witness_1 : WitnessClaimed_1 := ⟨start1.p0, start1.e0, start1.about1, start1.theMethod, start1.args0, start1.below0, start1.atStart⟩
end Jvm.Pilot.@@N@@
