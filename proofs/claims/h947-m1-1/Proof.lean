import JvmDerived
import JvmDerived.Pilot.@@N@@Statement
import JvmDerived.Pilot.@@N@@Code
set_option linter.unusedVariables false
set_option linter.unusedSimpArgs false

namespace Jvm.Pilot.@@N@@
open Jvm Jvm.ClassFile Sem Op Lib Jvm.Free Jvm.Stand Jvm.LawKit Jvm.RoadKit Bundle Jvm.Pilot.@@N@@.Jvm.D
/-- a body that writes nothing and returns r -/
def own_Pure (r : Option Value) (h0 : Heap) (n0 : Nat) (v : Option Value) (h : Heap) (L : List Loc) : Prop := v = r ∧ Fr n0 L ∧ h = h0
theorem own_fld_eq {args : Array Value} {Z : State} {t : Term} {a : Addr} {C n d : String} {k : Int32} (ht : t.eval args Z none [] Z = some (.ref a))
    (h : (Cond.eq (.field t C n d) (.int k)).value args Z none Z [] = some true) : Fld Z Z.heap a C n d (.int k) := by
  apply Fld.start
  have e1 : (Term.field t C n d).eval args Z none [] Z = Z.fieldOf? a C n d := fld_at ht
  rw [← e1]
  have e2 : (Term.int k).eval args Z none [] Z = some (.int k) := Term.int_eval k
  simp only [Cond.value] at h
  cases hx : (Term.field t C n d).eval args Z none [] Z with
  | none => simp [hx] at h
  | some v => cases v <;> simp [hx, e2] at h ⊢; exact h
/-- what the case says of the pinned statics -/
def own_W (Z : State) (h : Heap) (w_BC w_AD : Addr) : Prop :=
  Sta Z h "com/example/cutover/cutover/HybridEra" "BC" "Lcom/example/cutover/cutover/HybridEra;" (.ref w_BC) ∧
  Exa Z h w_BC "com/example/cutover/cutover/HybridEra" ∧
  Fld Z h w_BC "java/lang/Enum" "ordinal" "I" (.int (0 : Int32)) ∧
  Sta Z h "com/example/cutover/cutover/HybridEra" "AD" "Lcom/example/cutover/cutover/HybridEra;" (.ref w_AD) ∧
  Exa Z h w_AD "com/example/cutover/cutover/HybridEra" ∧
  Fld Z h w_AD "java/lang/Enum" "ordinal" "I" (.int (1 : Int32))
theorem own_W.ext {Z : State} {h h' : Heap} {w_BC w_AD : Addr} (E : Ext h h') (H : own_W Z h w_BC w_AD) : own_W Z h' w_BC w_AD := by
  obtain ⟨S_BC, E_BC, F_BC_ordinal, S_AD, E_AD, F_AD_ordinal⟩ := H
  exact ⟨S_BC.ext E, E_BC.ext E, F_BC_ordinal.ext E, S_AD.ext E, E_AD.ext E, F_AD_ordinal.ext E⟩
theorem own_and1 (x : Int32) : x &&& (1 : Int32) = (0 : Int32) ∨ x &&& (1 : Int32) = (1 : Int32) := by
  have h1 : (x &&& (1 : Int32)).toInt = x.toInt % 2 := c_mask x (1 : Int32) 1 (by decide) (by decide)
  have h3 : (x &&& (1 : Int32)).toInt = 0 ∨ (x &&& (1 : Int32)).toInt = 1 := by omega
  rcases h3 with h | h
  · exact Or.inl (Int32.toInt_inj.mp (by rw [h]; decide))
  · exact Or.inr ((Int32.toInt_inj.mp (by rw [h]; decide)))
theorem d1_0 : decode prog_17_method_4_code 0 = .ok (.iload_n 0, 1) := by decide +kernel
theorem d1_1 : decode prog_17_method_4_code 1 = .ok (.lookupswitch 39 #[(0, 27), (1, 33)], 27) := by decide +kernel
theorem d1_28 : decode prog_17_method_4_code 28 = .ok (.getstatic 3, 3) := by decide +kernel
theorem d1_31 : decode prog_17_method_4_code 31 = .ok (.goto 23, 3) := by decide +kernel
theorem d1_54 : decode prog_17_method_4_code 54 = .ok (.areturn, 1) := by decide +kernel
theorem pn_5 : plainName "com/example/cutover/cutover/HybridEra" = true := by first | (simp [plainName, overriddenIn]; done) | decide +kernel
theorem ef_rm_of0 (m : MethodId)  : entryFrame m #[(.int (0 : Int32))] 1 = mkF m 0 #[.val (.int (0 : Int32))] [] := by first | (simp [entryFrame, mkF, argsToLocals, Value.category]; done) | rfl
set_option maxRecDepth 65536 in
set_option maxHeartbeats 40000000 in
theorem rm_of0 (l : Launch) (Z : State) (a0 : Array Value) (hw : ∀ d ∈ tables_1, d.before a0 Z = true) (ws : List Jvm.Cond)  (h0 : Heap) (n0 : Nat) (Z0 : n0 ≤ h0.size) (w_BC w_AD : Addr) (hWd : own_W Z h0 w_BC w_AD) :
    MetFree l (⟨"com/example/cutover/cutover/HybridEra", "of", "(I)Lcom/example/cutover/cutover/HybridEra;"⟩ : MethodName) (head1 (Jvm.Cond.code (⟨"com/example/cutover/cutover/HybridEra", "of", "(I)Lcom/example/cutover/cutover/HybridEra;"⟩ : MethodName) prog_17_method_4_code 1 (some (.object "com/example/cutover/cutover/HybridEra")) :: ws) ({ frames := 0, cells := 0, slots := 0, locals := 0 } : Room)) (fun aQ UQ => aQ = #[(.int (0 : Int32))] ∧ Z.Warmed39 UQ.vm ∧ UQ.heap = h0) (fun _ _ _ _ _ => True) (fun _ UQ oQ UR => ∃ vQ LQ, oQ = .returned vQ ∧ own_Pure (some (.ref w_BC)) h0 n0 vQ UR.heap LQ ∧ FrameEnd UQ oQ UR LQ ({ frames := 0, cells := 0, slots := 0, locals := 0 } : Room).cells ({ frames := 0, cells := 0, slots := 0, locals := 0 } : Room).slots) := by
  refine MetFree.of_bodySF (plainFor_of_name pn_5) hisR ?_
  intro p e s m args below meth c s₁ Bd hml0 hP hK
  obtain ⟨rfl, hZ, hh⟩ := hP
  have hx := Bd.exec
  have hby := Bd.bytes
  have hml : c.maxLocals = 1 := hml0
  have hown : s.vm.findClass "com/example/cutover/cutover/HybridEra" = some m.cls := findClass_of_methodNamed Bd.named
  have hnm := (name_of_methodNamed Bd.named Bd.method).1
  have X0 : Stand p l e ({ frames := 0, cells := 0, slots := 0, locals := 0 } : Room) s m #[(.int (0 : Int32))] below meth c s₁ [] 0 0 := Stand.of_body Bd
  have e0 : s₁.heap = h0 := by rw [← hh, Bd.state]; rfl
  have N0 := Fr.nil n0
  have pre0 : ∀ t, Steps p.tables e below (s₁.setTop (mkF m 0 #[.val (.int (0 : Int32))] [])) t → Steps p.tables e below (s₁.setTop (entryFrame m #[(.int (0 : Int32))] 1)) t := fun t kq => castTop (ef_rm_of0 m ) kq
  obtain ⟨S_BC, E_BC, F_BC_ordinal, S_AD, E_AD, F_AD_ordinal⟩ := hWd
  obtain ⟨T7, X7, e7, st7⟩ := getS2 X0 hx hZ hown (host := "") (Or.inl (hw _ (List.mem_of_getElem? (i := 4) rfl))) Via.refl e0 S_BC (g := (mkF m 28 #[.val (.int (0 : Int32))] [])) rfl (hb hby d1_28)
  obtain ⟨fs, hr, hrun, hended, hW, hsame⟩ := X7.leave (v := some (.ref w_BC)) (fun h => by rw [Bd.returns] at h; cases h)
  refine ⟨_, _, pre0 _ ?_, hrun, hended, _, _, rfl, ?_, ⟨_, rfl⟩, hW, hsame.mono (by decide) (by decide)⟩
  · show Steps p.tables e below (s₁.setTop (mkF m 0 #[.val (.int (0 : Int32))] [])) _
    refine XS.iloadN X0.here hx rfl (hb hby d1_0) rfl ?_
    show Steps p.tables e below (s₁.setTop (mkF m 1 #[.val (.int (0 : Int32))] [(.int (0 : Int32))])) _
    refine X0.lookupswitchHit hx (g := (mkF m 1 #[.val (.int (0 : Int32))] [(.int (0 : Int32))])) rfl rfl (hb hby d1_1) (by decide) (a := 0) (off := 27) (by first | rfl | decide +kernel) (by show (0 : Int) ≤ ((1 : Nat) : Int) + 27; decide) _ ?_
    show Steps p.tables e below (s₁.setTop (mkF m 28 #[.val (.int (0 : Int32))] [])) _
    refine st7 _ ?_
    show Steps p.tables e below (T7.setTop (mkF m 31 #[.val (.int (0 : Int32))] [(.ref w_BC)])) _
    refine XS.goto X7.here hx rfl (pc0 := 31) (pc' := 54) rfl (hb hby d1_31) (by decide) (by decide) ?_
    show Steps p.tables e below (T7.setTop (mkF m 54 #[.val (.int (0 : Int32))] [(.ref w_BC)])) _
    exact retOut X7 hx Bd.returns rfl (Or.inr (Or.inr (Or.inr (Or.inr ⟨rfl, rfl, rfl⟩)))) (hb hby d1_54) hr
  · show own_Pure (some (.ref w_BC)) h0 n0 _ T7.heap _
    rw [e7]
    exact ⟨rfl, N0, rfl⟩
theorem d1_34 : decode prog_17_method_4_code 34 = .ok (.getstatic 7, 3) := by decide +kernel
theorem d1_37 : decode prog_17_method_4_code 37 = .ok (.goto 17, 3) := by decide +kernel
theorem ef_rm_of1 (m : MethodId)  : entryFrame m #[(.int (1 : Int32))] 1 = mkF m 0 #[.val (.int (1 : Int32))] [] := by first | (simp [entryFrame, mkF, argsToLocals, Value.category]; done) | rfl
set_option maxRecDepth 65536 in
set_option maxHeartbeats 40000000 in
theorem rm_of1 (l : Launch) (Z : State) (a0 : Array Value) (hw : ∀ d ∈ tables_1, d.before a0 Z = true) (ws : List Jvm.Cond)  (h0 : Heap) (n0 : Nat) (Z0 : n0 ≤ h0.size) (w_BC w_AD : Addr) (hWd : own_W Z h0 w_BC w_AD) :
    MetFree l (⟨"com/example/cutover/cutover/HybridEra", "of", "(I)Lcom/example/cutover/cutover/HybridEra;"⟩ : MethodName) (head1 (Jvm.Cond.code (⟨"com/example/cutover/cutover/HybridEra", "of", "(I)Lcom/example/cutover/cutover/HybridEra;"⟩ : MethodName) prog_17_method_4_code 1 (some (.object "com/example/cutover/cutover/HybridEra")) :: ws) ({ frames := 0, cells := 0, slots := 0, locals := 0 } : Room)) (fun aQ UQ => aQ = #[(.int (1 : Int32))] ∧ Z.Warmed39 UQ.vm ∧ UQ.heap = h0) (fun _ _ _ _ _ => True) (fun _ UQ oQ UR => ∃ vQ LQ, oQ = .returned vQ ∧ own_Pure (some (.ref w_AD)) h0 n0 vQ UR.heap LQ ∧ FrameEnd UQ oQ UR LQ ({ frames := 0, cells := 0, slots := 0, locals := 0 } : Room).cells ({ frames := 0, cells := 0, slots := 0, locals := 0 } : Room).slots) := by
  refine MetFree.of_bodySF (plainFor_of_name pn_5) hisR ?_
  intro p e s m args below meth c s₁ Bd hml0 hP hK
  obtain ⟨rfl, hZ, hh⟩ := hP
  have hx := Bd.exec
  have hby := Bd.bytes
  have hml : c.maxLocals = 1 := hml0
  have hown : s.vm.findClass "com/example/cutover/cutover/HybridEra" = some m.cls := findClass_of_methodNamed Bd.named
  have hnm := (name_of_methodNamed Bd.named Bd.method).1
  have X0 : Stand p l e ({ frames := 0, cells := 0, slots := 0, locals := 0 } : Room) s m #[(.int (1 : Int32))] below meth c s₁ [] 0 0 := Stand.of_body Bd
  have e0 : s₁.heap = h0 := by rw [← hh, Bd.state]; rfl
  have N0 := Fr.nil n0
  have pre0 : ∀ t, Steps p.tables e below (s₁.setTop (mkF m 0 #[.val (.int (1 : Int32))] [])) t → Steps p.tables e below (s₁.setTop (entryFrame m #[(.int (1 : Int32))] 1)) t := fun t kq => castTop (ef_rm_of1 m ) kq
  obtain ⟨S_BC, E_BC, F_BC_ordinal, S_AD, E_AD, F_AD_ordinal⟩ := hWd
  obtain ⟨T8, X8, e8, st8⟩ := getS2 X0 hx hZ hown (host := "") (Or.inl (hw _ (List.mem_of_getElem? (i := 21) rfl))) Via.refl e0 S_AD (g := (mkF m 34 #[.val (.int (1 : Int32))] [])) rfl (hb hby d1_34)
  obtain ⟨fs, hr, hrun, hended, hW, hsame⟩ := X8.leave (v := some (.ref w_AD)) (fun h => by rw [Bd.returns] at h; cases h)
  refine ⟨_, _, pre0 _ ?_, hrun, hended, _, _, rfl, ?_, ⟨_, rfl⟩, hW, hsame.mono (by decide) (by decide)⟩
  · show Steps p.tables e below (s₁.setTop (mkF m 0 #[.val (.int (1 : Int32))] [])) _
    refine XS.iloadN X0.here hx rfl (hb hby d1_0) rfl ?_
    show Steps p.tables e below (s₁.setTop (mkF m 1 #[.val (.int (1 : Int32))] [(.int (1 : Int32))])) _
    refine X0.lookupswitchHit hx (g := (mkF m 1 #[.val (.int (1 : Int32))] [(.int (1 : Int32))])) rfl rfl (hb hby d1_1) (by decide) (a := 1) (off := 33) (by first | rfl | decide +kernel) (by show (0 : Int) ≤ ((1 : Nat) : Int) + 33; decide) _ ?_
    show Steps p.tables e below (s₁.setTop (mkF m 34 #[.val (.int (1 : Int32))] [])) _
    refine st8 _ ?_
    show Steps p.tables e below (T8.setTop (mkF m 37 #[.val (.int (1 : Int32))] [(.ref w_AD)])) _
    refine XS.goto X8.here hx rfl (pc0 := 37) (pc' := 54) rfl (hb hby d1_37) (by decide) (by decide) ?_
    show Steps p.tables e below (T8.setTop (mkF m 54 #[.val (.int (1 : Int32))] [(.ref w_AD)])) _
    exact retOut X8 hx Bd.returns rfl (Or.inr (Or.inr (Or.inr (Or.inr ⟨rfl, rfl, rfl⟩)))) (hb hby d1_54) hr
  · show own_Pure (some (.ref w_AD)) h0 n0 _ T8.heap _
    rw [e8]
    exact ⟨rfl, N0, rfl⟩
theorem d3_0 : decode jdk_37_method_2_code 0 = .ok (.aload_n 0, 1) := by decide +kernel
theorem d3_1 : decode jdk_37_method_2_code 1 = .ok (.getfield 7, 3) := by decide +kernel
theorem d3_4 : decode jdk_37_method_2_code 4 = .ok (.ireturn, 1) := by decide +kernel
theorem pn_11 : plainName "java/lang/Enum" = true := by first | (simp [plainName, overriddenIn]; done) | decide +kernel
theorem ef_rm_ord (m : MethodId) (x0 : Addr) : entryFrame m #[(.ref x0)] 1 = mkF m 0 #[.val (.ref x0)] [] := by first | (simp [entryFrame, mkF, argsToLocals, Value.category]; done) | rfl
set_option maxRecDepth 65536 in
set_option maxHeartbeats 40000000 in
theorem rm_ord (l : Launch) (Z : State) (a0 : Array Value) (hw : ∀ d ∈ tables_1, d.before a0 Z = true) (ws : List Jvm.Cond) (a1 : Addr) (h0 : Heap) (n0 : Nat) (Z0 : n0 ≤ h0.size) (r : Int32) (F : Fld Z h0 a1 "java/lang/Enum" "ordinal" "I" (.int r)) :
    MetFree l (⟨"java/lang/Enum", "ordinal", "()I"⟩ : MethodName) (head1 (Jvm.Cond.code (⟨"java/lang/Enum", "ordinal", "()I"⟩ : MethodName) jdk_37_method_2_code 1 (some .int) :: ws) ({ frames := 0, cells := 0, slots := 0, locals := 0 } : Room)) (fun aQ UQ => aQ = #[(.ref a1)] ∧ Z.Warmed39 UQ.vm ∧ UQ.heap = h0) (fun _ _ _ _ _ => True) (fun _ UQ oQ UR => ∃ vQ LQ, oQ = .returned vQ ∧ own_Pure (some (.int r)) h0 n0 vQ UR.heap LQ ∧ FrameEnd UQ oQ UR LQ ({ frames := 0, cells := 0, slots := 0, locals := 0 } : Room).cells ({ frames := 0, cells := 0, slots := 0, locals := 0 } : Room).slots) := by
  refine MetFree.of_bodySF (plainFor_of_name pn_11) hisR ?_
  intro p e s m args below meth c s₁ Bd hml0 hP hK
  obtain ⟨rfl, hZ, hh⟩ := hP
  have hx := Bd.exec
  have hby := Bd.bytes
  have hml : c.maxLocals = 1 := hml0
  have hown : s.vm.findClass "java/lang/Enum" = some m.cls := findClass_of_methodNamed Bd.named
  have hnm := (name_of_methodNamed Bd.named Bd.method).1
  have X0 : Stand p l e ({ frames := 0, cells := 0, slots := 0, locals := 0 } : Room) s m #[(.ref a1)] below meth c s₁ [] 0 0 := Stand.of_body Bd
  have e0 : s₁.heap = h0 := by rw [← hh, Bd.state]; rfl
  have N0 := Fr.nil n0
  have pre0 : ∀ t, Steps p.tables e below (s₁.setTop (mkF m 0 #[.val (.ref a1)] [])) t → Steps p.tables e below (s₁.setTop (entryFrame m #[(.ref a1)] 1)) t := fun t kq => castTop (ef_rm_ord m a1) kq
  obtain ⟨T9, X9, e9, st9⟩ := getF X0 hx hZ hown (host := "") (Or.inl (hw _ (List.mem_of_getElem? (i := 19) rfl))) Via.refl e0 F (g := (mkF m 1 #[.val (.ref a1)] [(.ref a1)])) rfl rfl (hb hby d3_1)
  obtain ⟨fs, hr, hrun, hended, hW, hsame⟩ := X9.leave (v := some (.int r)) (fun h => by rw [Bd.returns] at h; cases h)
  refine ⟨_, _, pre0 _ ?_, hrun, hended, _, _, rfl, ?_, ⟨_, rfl⟩, hW, hsame.mono (by decide) (by decide)⟩
  · show Steps p.tables e below (s₁.setTop (mkF m 0 #[.val (.ref a1)] [])) _
    refine XS.aloadN X0.here hx rfl (hb hby d3_0) rfl rfl ?_
    show Steps p.tables e below (s₁.setTop (mkF m 1 #[.val (.ref a1)] [(.ref a1)])) _
    refine st9 _ ?_
    show Steps p.tables e below (T9.setTop (mkF m 4 #[.val (.ref a1)] [(.int r)])) _
    exact retOut X9 hx Bd.returns rfl (Or.inl ⟨rfl, Or.inl rfl, _, rfl⟩) (hb hby d3_4) hr
  · show own_Pure (some (.int r)) h0 n0 _ T9.heap _
    rw [e9]
    exact ⟨rfl, N0, rfl⟩
theorem d2_0 : decode prog_17_method_8_code 0 = .ok (.aload_n 0, 1) := by decide +kernel
theorem pd_13 : parseMethodDescriptor "()I" = some ⟨[], some .int⟩ := by decide +kernel
theorem d2_1 : decode prog_17_method_8_code 1 = .ok (.invokevirtual 38, 3) := by decide +kernel
theorem d2_4 : decode prog_17_method_8_code 4 = .ok (.ireturn, 1) := by decide +kernel
theorem ef_rm_gv (m : MethodId) (x0 : Addr) : entryFrame m #[(.ref x0)] 1 = mkF m 0 #[.val (.ref x0)] [] := by first | (simp [entryFrame, mkF, argsToLocals, Value.category]; done) | rfl
set_option maxRecDepth 65536 in
set_option maxHeartbeats 40000000 in
theorem rm_gv (l : Launch) (Z : State) (a0 : Array Value) (hw : ∀ d ∈ tables_1, d.before a0 Z = true) (ws : List Jvm.Cond) (a1 : Addr) (h0 : Heap) (n0 : Nat) (Z0 : n0 ≤ h0.size) (r : Int32) (F : Fld Z h0 a1 "java/lang/Enum" "ordinal" "I" (.int r)) (E : Exa Z h0 a1 "com/example/cutover/cutover/HybridEra") :
    MetFree l (⟨"com/example/cutover/cutover/HybridEra", "getValue", "()I"⟩ : MethodName) (head1 (Jvm.Cond.code (⟨"com/example/cutover/cutover/HybridEra", "getValue", "()I"⟩ : MethodName) prog_17_method_8_code 1 (some .int) :: ws) ({ frames := 1, cells := 0, slots := 0, locals := 12 } : Room)) (fun aQ UQ => aQ = #[(.ref a1)] ∧ Z.Warmed39 UQ.vm ∧ UQ.heap = h0) (fun _ _ _ _ _ => True) (fun _ UQ oQ UR => ∃ vQ LQ, oQ = .returned vQ ∧ own_Pure (some (.int r)) h0 n0 vQ UR.heap LQ ∧ FrameEnd UQ oQ UR LQ ({ frames := 1, cells := 0, slots := 0, locals := 12 } : Room).cells ({ frames := 1, cells := 0, slots := 0, locals := 12 } : Room).slots) := by
  refine MetFree.of_bodySF (plainFor_of_name pn_5) hisR ?_
  intro p e s m args below meth c s₁ Bd hml0 hP hK
  obtain ⟨rfl, hZ, hh⟩ := hP
  have hx := Bd.exec
  have hby := Bd.bytes
  have hml : c.maxLocals = 1 := hml0
  have hown : s.vm.findClass "com/example/cutover/cutover/HybridEra" = some m.cls := findClass_of_methodNamed Bd.named
  have hnm := (name_of_methodNamed Bd.named Bd.method).1
  have X0 : Stand p l e ({ frames := 1, cells := 0, slots := 0, locals := 12 } : Room) s m #[(.ref a1)] below meth c s₁ [] 0 0 := Stand.of_body Bd
  have e0 : s₁.heap = h0 := by rw [← hh, Bd.state]; rfl
  have N0 := Fr.nil n0
  have pre0 : ∀ t, Steps p.tables e below (s₁.setTop (mkF m 0 #[.val (.ref a1)] [])) t → Steps p.tables e below (s₁.setTop (entryFrame m #[(.ref a1)] 1)) t := fun t kq => castTop (ef_rm_gv m a1) kq
  obtain ⟨cq10, kq10, q10a, q10b, q10c⟩ := isOf hZ e0 (E)
  obtain ⟨_, _, ⟨T10, L10, k10, n10⟩, -, X10, ⟨Lc10, hQ10, l10, y10, z10⟩, st10⟩ := X0.virtualBackUp hx (owner := "java/lang/Enum") (x := (⟨"com/example/cutover/cutover/HybridEra", "ordinal", "()I"⟩ : MethodName)) (y := (⟨"java/lang/Enum", "ordinal", "()I"⟩ : MethodName)) hown (mvT hZ (hw _ (List.mem_of_getElem? (i := 12) rfl))) (mvT hZ (hw _ (List.mem_of_getElem? (i := 13) rfl))) (mvT hZ (hw _ (List.mem_of_getElem? (i := 14) rfl))) (by decide) (mvT hZ (hw _ (List.mem_of_getElem? (i := 16) rfl))) (mvT hZ (hw _ (List.mem_of_getElem? (i := 15) rfl))) (backOf (W := 0) (rm_ord l Z a0 hw [] a1 h0 n0 Z0 r F) hZ (hw _ (List.mem_of_getElem? (i := 18) rfl)) (hw _ (List.mem_of_getElem? (i := 17) rfl)) (by decide) (by decide)) q10a q10c (g := (mkF m 1 #[.val (.ref a1)] [(.ref a1)])) rfl (by rw [hml]; rfl) (Steps.refl _) (argsL := []) (rest := []) (lenOf pd_13 rfl) rfl (by show 2 * 0 + _ ≤ _; exact Nat.le_of_eq rfl) (hb hby d2_1) (fun _ _ => ⟨rfl, e0, (by decide : 0 + 0 ≤ _), (by decide : 0 + 0 ≤ _)⟩)
  dsimp only [Pt.U, Pt.locs, Pt.cells, Pt.slots] at X10 l10 y10 z10 st10 hQ10
  subst l10 y10 z10
  obtain ⟨rfl, N10q, e10⟩ := hQ10
  have N10 := Fr.app N0 N10q
  obtain ⟨fs, hr, hrun, hended, hW, hsame⟩ := X10.leave (v := some (.int r)) (fun h => by rw [Bd.returns] at h; cases h)
  refine ⟨_, _, pre0 _ ?_, hrun, hended, _, _, rfl, ?_, ⟨_, rfl⟩, hW, hsame.mono (by decide) (by decide)⟩
  · show Steps p.tables e below (s₁.setTop (mkF m 0 #[.val (.ref a1)] [])) _
    refine XS.aloadN X0.here hx rfl (hb hby d2_0) rfl rfl ?_
    show Steps p.tables e below (s₁.setTop (mkF m 1 #[.val (.ref a1)] [(.ref a1)])) _
    refine st10.trans ?_
    show Steps p.tables e below (T10.setTop (mkF m 4 #[.val (.ref a1)] [(.int r)])) _
    exact retOut X10 hx Bd.returns rfl (Or.inl ⟨rfl, Or.inl rfl, _, rfl⟩) (hb hby d2_4) hr
  · show own_Pure (some (.int r)) h0 n0 _ T10.heap _
    rw [e10]
    exact ⟨rfl, N10, rfl⟩
theorem pd_16 : parseMethodDescriptor "(I)Lcom/example/cutover/cutover/HybridEra;" = some ⟨[.int], some (.object "com/example/cutover/cutover/HybridEra")⟩ := by decide +kernel
theorem pn_17 : plainName "com/example/cutover/cutover/HybridEraOfPinLaw" = true := by first | (simp [plainName, overriddenIn]; done) | decide +kernel
theorem ef_rm_law (m : MethodId) (x0 : Int32) : entryFrame m #[(.int x0)] maxLocals = mkF m 0 #[.val (.int x0), .unset, .unset, .unset] [] := by first | (simp [entryFrame, mkF, argsToLocals, Value.category, maxLocals]; done) | rfl
set_option maxRecDepth 65536 in
set_option maxHeartbeats 40000000 in
theorem rm_law (l : Launch) (Z : State) (a0 : Array Value) (hw : ∀ d ∈ tables_1, d.before a0 Z = true) (ws : List Jvm.Cond) (p0 : Int32) (h0 : Heap) (n0 : Nat) (Z0 : n0 ≤ h0.size) (w_BC w_AD : Addr) (hWd : own_W Z h0 w_BC w_AD) :
    MetFree l x (head1 (Jvm.Cond.code x code maxLocals ret :: ws) room_1) (fun aQ UQ => aQ = #[(.int p0)] ∧ Z.Warmed39 UQ.vm ∧ UQ.heap = h0) (fun _ _ _ _ _ => True) (fun _ UQ oQ UR => ∃ vQ LQ, oQ = .returned vQ ∧ own_Pure (some (.int 1)) h0 n0 vQ UR.heap LQ ∧ FrameEnd UQ oQ UR LQ room_1.cells room_1.slots) := by
  refine MetFree.of_bodySF (plainFor_of_name pn_17) hisR ?_
  intro p e s m args below meth c s₁ Bd hml0 hP hK
  obtain ⟨rfl, hZ, hh⟩ := hP
  have hx := Bd.exec
  have hby := Bd.bytes
  have hml : c.maxLocals = 4 := hml0
  have hown : s.vm.findClass "com/example/cutover/cutover/HybridEraOfPinLaw" = some m.cls := findClass_of_methodNamed Bd.named
  have hnm := (name_of_methodNamed Bd.named Bd.method).1
  have X0 : Stand p l e room_1 s m #[(.int p0)] below meth c s₁ [] 0 0 := Stand.of_body Bd
  have e0 : s₁.heap = h0 := by rw [← hh, Bd.state]; rfl
  have N0 := Fr.nil n0
  have pre0 : ∀ t, Steps p.tables e below (s₁.setTop (mkF m 0 #[.val (.int p0), .unset, .unset, .unset] [])) t → Steps p.tables e below (s₁.setTop (entryFrame m #[(.int p0)] maxLocals)) t := fun t kq => castTop (ef_rm_law m p0) kq
  have hWd' := hWd
  obtain ⟨S_BC, E_BC, F_BC_ordinal, S_AD, E_AD, F_AD_ordinal⟩ := hWd'
  rcases own_and1 p0 with hv11 | hv12
  · -- (0 : Int32)
    obtain ⟨_, _, ⟨T13, L13, k13, n13⟩, -, X13, ⟨Lc13, hQ13, l13, y13, z13⟩, st13⟩ := Jvm.LawKit.callS X0 hx (y := (⟨"com/example/cutover/cutover/HybridEra", "of", "(I)Lcom/example/cutover/cutover/HybridEra;"⟩ : MethodName)) hown (mvT hZ (hw _ (List.mem_of_getElem? (i := 0) rfl))) (mvT hZ (hw _ (List.mem_of_getElem? (i := 1) rfl))) (mvT hZ (hw _ (List.mem_of_getElem? (i := 2) rfl))) (mvT hZ (hw _ (List.mem_of_getElem? (i := 3) rfl))) (by decide) (backOf (W := 0) (rm_of0 l Z a0 hw [] h0 n0 Z0 w_BC w_AD hWd) hZ (hw _ (List.mem_of_getElem? (i := 3) rfl)) (hw _ (List.mem_of_getElem? (i := 2) rfl)) (by decide) (by decide)) (g := (mkF m 5 #[.val (.int p0), .val (.int (0 : Int32)), .unset, .unset] [(.int (0 : Int32))])) rfl (by rw [hml]; rfl) (argsL := [(.int (0 : Int32))]) (rest := []) (lenOf pd_16 rfl) rfl (by show 2 * 0 + _ ≤ _; exact Nat.le_of_eq rfl) (hb hby at_5) (fun _ _ => ⟨rfl, e0, (by decide : 0 + 0 ≤ _), (by decide : 0 + 0 ≤ _)⟩)
    dsimp only [Pt.U, Pt.locs, Pt.cells, Pt.slots] at X13 l13 y13 z13 st13 hQ13
    subst l13 y13 z13
    obtain ⟨rfl, N13q, e13⟩ := hQ13
    have N13 := Fr.app N0 N13q
    obtain ⟨T14, X14, e14, st14⟩ := getS2 X13 hx hZ hown (host := "") (Or.inl (hw _ (List.mem_of_getElem? (i := 6) rfl))) Via.refl e13 S_BC (g := (mkF m 13 #[.val (.int p0), .val (.int (0 : Int32)), .val (.ref w_BC), .unset] [])) rfl (hb hby at_13)
    obtain ⟨cq15, kq15, q15a, q15b, q15c⟩ := isOf hZ e14 (E_BC)
    obtain ⟨_, _, ⟨T15, L15, k15, n15⟩, -, X15, ⟨Lc15, hQ15, l15, y15, z15⟩, st15⟩ := X14.virtualBack hx (y := (⟨"com/example/cutover/cutover/HybridEra", "getValue", "()I"⟩ : MethodName)) (z := (⟨"com/example/cutover/cutover/HybridEra", "getValue", "()I"⟩ : MethodName)) hown (mvT hZ (hw _ (List.mem_of_getElem? (i := 7) rfl))) (mvT hZ (hw _ (List.mem_of_getElem? (i := 8) rfl))) (notFace_of_selects (args := #[]) (mvT hZ (hw _ (List.mem_of_getElem? (i := 10) rfl)))) (mvT hZ (hw _ (List.mem_of_getElem? (i := 10) rfl))) (mvT hZ (hw _ (List.mem_of_getElem? (i := 9) rfl))) (by decide) (backOf (W := 0) (rm_gv l Z a0 hw [] w_BC h0 n0 Z0 (0 : Int32) F_BC_ordinal E_BC) hZ (hw _ (List.mem_of_getElem? (i := 11) rfl)) (hw _ (List.mem_of_getElem? (i := 2) rfl)) (by decide) (by decide)) q15a q15c (g := (mkF m 29 #[.val (.int p0), .val (.int (0 : Int32)), .val (.ref w_BC), .val (.ref w_BC)] [(.ref w_BC)])) rfl (by rw [hml]; rfl) (Steps.refl _) (argsL := []) (rest := []) (lenOf pd_13 rfl) rfl (by show 2 * 0 + _ ≤ _; exact Nat.le_of_eq rfl) (hb hby at_29) (fun _ _ => ⟨rfl, e14, (by decide : 0 + 0 ≤ _), (by decide : 0 + 0 ≤ _)⟩)
    dsimp only [Pt.U, Pt.locs, Pt.cells, Pt.slots] at X15 l15 y15 z15 st15 hQ15
    subst l15 y15 z15
    obtain ⟨rfl, N15q, e15⟩ := hQ15
    have N15 := Fr.app N13 N15q
    obtain ⟨fs, hr, hrun, hended, hW, hsame⟩ := X15.leave (v := some (.int (1 : Int32))) (fun h => by rw [Bd.returns] at h; cases h)
    refine ⟨_, _, pre0 _ ?_, hrun, hended, _, _, rfl, ?_, ⟨_, rfl⟩, hW, hsame.mono (by decide) (by decide)⟩
    · show Steps p.tables e below (s₁.setTop (mkF m 0 #[.val (.int p0), .unset, .unset, .unset] [])) _
      refine XS.iloadN X0.here hx rfl (hb hby at_0) rfl ?_
      show Steps p.tables e below (s₁.setTop (mkF m 1 #[.val (.int p0), .unset, .unset, .unset] [(.int p0)])) _
      refine XS.iconst X0.here hx rfl (hb hby at_1) ?_
      show Steps p.tables e below (s₁.setTop (mkF m 2 #[.val (.int p0), .unset, .unset, .unset] [(.int (1 : Int32)), (.int p0)])) _
      refine XS.iand X0.here hx rfl (hb hby at_2) rfl ?_
      show Steps p.tables e below (s₁.setTop (mkF m 3 #[.val (.int p0), .unset, .unset, .unset] [(.int (p0 &&& (1 : Int32)))])) _
      rw [hv11]
      show Steps p.tables e below (s₁.setTop (mkF m 3 #[.val (.int p0), .unset, .unset, .unset] [(.int (0 : Int32))])) _
      refine XS.istoreN X0.here hx rfl (hb hby at_3) rfl (l' := #[.val (.int p0), .val (.int (0 : Int32)), .unset, .unset]) rfl ?_
      show Steps p.tables e below (s₁.setTop (mkF m 4 #[.val (.int p0), .val (.int (0 : Int32)), .unset, .unset] [])) _
      refine XS.iloadN X0.here hx rfl (hb hby at_4) rfl ?_
      show Steps p.tables e below (s₁.setTop (mkF m 5 #[.val (.int p0), .val (.int (0 : Int32)), .unset, .unset] [(.int (0 : Int32))])) _
      refine st13 _ ?_
      show Steps p.tables e below (T13.setTop (mkF m 8 #[.val (.int p0), .val (.int (0 : Int32)), .unset, .unset] [(.ref w_BC)])) _
      refine XS.astoreN X13.here hx rfl (hb hby at_8) rfl rfl (l' := #[.val (.int p0), .val (.int (0 : Int32)), .val (.ref w_BC), .unset]) rfl ?_
      show Steps p.tables e below (T13.setTop (mkF m 9 #[.val (.int p0), .val (.int (0 : Int32)), .val (.ref w_BC), .unset] [])) _
      refine XS.iloadN X13.here hx rfl (hb hby at_9) rfl ?_
      show Steps p.tables e below (T13.setTop (mkF m 10 #[.val (.int p0), .val (.int (0 : Int32)), .val (.ref w_BC), .unset] [(.int (0 : Int32))])) _
      refine XS.ifNo X13.here hx rfl (hb hby at_10) rfl ((if0 _ _).trans (teq (by decide : (0 : Int32) = (0 : Int32))).2) ?_
      show Steps p.tables e below (T13.setTop (mkF m 13 #[.val (.int p0), .val (.int (0 : Int32)), .val (.ref w_BC), .unset] [])) _
      refine st14 _ ?_
      show Steps p.tables e below (T14.setTop (mkF m 16 #[.val (.int p0), .val (.int (0 : Int32)), .val (.ref w_BC), .unset] [(.ref w_BC)])) _
      refine XS.goto X14.here hx rfl (pc0 := 16) (pc' := 22) rfl (hb hby at_16) (by decide) (by decide) ?_
      show Steps p.tables e below (T14.setTop (mkF m 22 #[.val (.int p0), .val (.int (0 : Int32)), .val (.ref w_BC), .unset] [(.ref w_BC)])) _
      refine XS.astoreN X14.here hx rfl (hb hby at_22) rfl rfl (l' := #[.val (.int p0), .val (.int (0 : Int32)), .val (.ref w_BC), .val (.ref w_BC)]) rfl ?_
      show Steps p.tables e below (T14.setTop (mkF m 23 #[.val (.int p0), .val (.int (0 : Int32)), .val (.ref w_BC), .val (.ref w_BC)] [])) _
      refine XS.aloadN X14.here hx rfl (hb hby at_23) rfl rfl ?_
      show Steps p.tables e below (T14.setTop (mkF m 24 #[.val (.int p0), .val (.int (0 : Int32)), .val (.ref w_BC), .val (.ref w_BC)] [(.ref w_BC)])) _
      refine XS.aloadN X14.here hx rfl (hb hby at_24) rfl rfl ?_
      show Steps p.tables e below (T14.setTop (mkF m 25 #[.val (.int p0), .val (.int (0 : Int32)), .val (.ref w_BC), .val (.ref w_BC)] [(.ref w_BC), (.ref w_BC)])) _
      refine Jvm.RoadKit.acmp (g := (mkF m 25 #[.val (.int p0), .val (.int (0 : Int32)), .val (.ref w_BC), .val (.ref w_BC)] [(.ref w_BC), (.ref w_BC)])) X14 hx rfl rfl rfl (pc0 := 25) (pc' := 28) (same := true) rfl (hb hby at_25) rfl (decide_eq_true rfl) (by decide) (by decide) ?_
      show Steps p.tables e below (T14.setTop (mkF m 28 #[.val (.int p0), .val (.int (0 : Int32)), .val (.ref w_BC), .val (.ref w_BC)] [])) _
      refine XS.aloadN X14.here hx rfl (hb hby at_28) rfl rfl ?_
      show Steps p.tables e below (T14.setTop (mkF m 29 #[.val (.int p0), .val (.int (0 : Int32)), .val (.ref w_BC), .val (.ref w_BC)] [(.ref w_BC)])) _
      refine st15.trans ?_
      show Steps p.tables e below (T15.setTop (mkF m 32 #[.val (.int p0), .val (.int (0 : Int32)), .val (.ref w_BC), .val (.ref w_BC)] [(.int (0 : Int32))])) _
      refine XS.iloadN X15.here hx rfl (hb hby at_32) rfl ?_
      show Steps p.tables e below (T15.setTop (mkF m 33 #[.val (.int p0), .val (.int (0 : Int32)), .val (.ref w_BC), .val (.ref w_BC)] [(.int (0 : Int32)), (.int (0 : Int32))])) _
      refine XS.icmpNo X15.here hx rfl (hb hby at_33) rfl (teq (by decide : (0 : Int32) = (0 : Int32))).2 ?_
      show Steps p.tables e below (T15.setTop (mkF m 36 #[.val (.int p0), .val (.int (0 : Int32)), .val (.ref w_BC), .val (.ref w_BC)] [])) _
      refine XS.iconst X15.here hx rfl (hb hby at_36) ?_
      show Steps p.tables e below (T15.setTop (mkF m 37 #[.val (.int p0), .val (.int (0 : Int32)), .val (.ref w_BC), .val (.ref w_BC)] [(.int (1 : Int32))])) _
      refine XS.goto X15.here hx rfl (pc0 := 37) (pc' := 41) rfl (hb hby at_37) (by decide) (by decide) ?_
      show Steps p.tables e below (T15.setTop (mkF m 41 #[.val (.int p0), .val (.int (0 : Int32)), .val (.ref w_BC), .val (.ref w_BC)] [(.int (1 : Int32))])) _
      exact retN X15 hx (t := .boolean) Bd.returns (by simp) (hb hby at_41) hr
    · show own_Pure (some (.int 1)) h0 n0 _ T15.heap _
      rw [e15]
      exact ⟨rfl, N15, rfl⟩
  · -- (1 : Int32)
    obtain ⟨_, _, ⟨T16, L16, k16, n16⟩, -, X16, ⟨Lc16, hQ16, l16, y16, z16⟩, st16⟩ := Jvm.LawKit.callS X0 hx (y := (⟨"com/example/cutover/cutover/HybridEra", "of", "(I)Lcom/example/cutover/cutover/HybridEra;"⟩ : MethodName)) hown (mvT hZ (hw _ (List.mem_of_getElem? (i := 0) rfl))) (mvT hZ (hw _ (List.mem_of_getElem? (i := 1) rfl))) (mvT hZ (hw _ (List.mem_of_getElem? (i := 2) rfl))) (mvT hZ (hw _ (List.mem_of_getElem? (i := 3) rfl))) (by decide) (backOf (W := 0) (rm_of1 l Z a0 hw [] h0 n0 Z0 w_BC w_AD hWd) hZ (hw _ (List.mem_of_getElem? (i := 3) rfl)) (hw _ (List.mem_of_getElem? (i := 2) rfl)) (by decide) (by decide)) (g := (mkF m 5 #[.val (.int p0), .val (.int (1 : Int32)), .unset, .unset] [(.int (1 : Int32))])) rfl (by rw [hml]; rfl) (argsL := [(.int (1 : Int32))]) (rest := []) (lenOf pd_16 rfl) rfl (by show 2 * 0 + _ ≤ _; exact Nat.le_of_eq rfl) (hb hby at_5) (fun _ _ => ⟨rfl, e0, (by decide : 0 + 0 ≤ _), (by decide : 0 + 0 ≤ _)⟩)
    dsimp only [Pt.U, Pt.locs, Pt.cells, Pt.slots] at X16 l16 y16 z16 st16 hQ16
    subst l16 y16 z16
    obtain ⟨rfl, N16q, e16⟩ := hQ16
    have N16 := Fr.app N0 N16q
    obtain ⟨T17, X17, e17, st17⟩ := getS2 X16 hx hZ hown (host := "") (Or.inl (hw _ (List.mem_of_getElem? (i := 23) rfl))) Via.refl e16 S_AD (g := (mkF m 19 #[.val (.int p0), .val (.int (1 : Int32)), .val (.ref w_AD), .unset] [])) rfl (hb hby at_19)
    obtain ⟨cq18, kq18, q18a, q18b, q18c⟩ := isOf hZ e17 (E_AD)
    obtain ⟨_, _, ⟨T18, L18, k18, n18⟩, -, X18, ⟨Lc18, hQ18, l18, y18, z18⟩, st18⟩ := X17.virtualBack hx (y := (⟨"com/example/cutover/cutover/HybridEra", "getValue", "()I"⟩ : MethodName)) (z := (⟨"com/example/cutover/cutover/HybridEra", "getValue", "()I"⟩ : MethodName)) hown (mvT hZ (hw _ (List.mem_of_getElem? (i := 7) rfl))) (mvT hZ (hw _ (List.mem_of_getElem? (i := 8) rfl))) (notFace_of_selects (args := #[]) (mvT hZ (hw _ (List.mem_of_getElem? (i := 10) rfl)))) (mvT hZ (hw _ (List.mem_of_getElem? (i := 10) rfl))) (mvT hZ (hw _ (List.mem_of_getElem? (i := 9) rfl))) (by decide) (backOf (W := 0) (rm_gv l Z a0 hw [] w_AD h0 n0 Z0 (1 : Int32) F_AD_ordinal E_AD) hZ (hw _ (List.mem_of_getElem? (i := 11) rfl)) (hw _ (List.mem_of_getElem? (i := 2) rfl)) (by decide) (by decide)) q18a q18c (g := (mkF m 29 #[.val (.int p0), .val (.int (1 : Int32)), .val (.ref w_AD), .val (.ref w_AD)] [(.ref w_AD)])) rfl (by rw [hml]; rfl) (Steps.refl _) (argsL := []) (rest := []) (lenOf pd_13 rfl) rfl (by show 2 * 0 + _ ≤ _; exact Nat.le_of_eq rfl) (hb hby at_29) (fun _ _ => ⟨rfl, e17, (by decide : 0 + 0 ≤ _), (by decide : 0 + 0 ≤ _)⟩)
    dsimp only [Pt.U, Pt.locs, Pt.cells, Pt.slots] at X18 l18 y18 z18 st18 hQ18
    subst l18 y18 z18
    obtain ⟨rfl, N18q, e18⟩ := hQ18
    have N18 := Fr.app N16 N18q
    obtain ⟨fs, hr, hrun, hended, hW, hsame⟩ := X18.leave (v := some (.int (1 : Int32))) (fun h => by rw [Bd.returns] at h; cases h)
    refine ⟨_, _, pre0 _ ?_, hrun, hended, _, _, rfl, ?_, ⟨_, rfl⟩, hW, hsame.mono (by decide) (by decide)⟩
    · show Steps p.tables e below (s₁.setTop (mkF m 0 #[.val (.int p0), .unset, .unset, .unset] [])) _
      refine XS.iloadN X0.here hx rfl (hb hby at_0) rfl ?_
      show Steps p.tables e below (s₁.setTop (mkF m 1 #[.val (.int p0), .unset, .unset, .unset] [(.int p0)])) _
      refine XS.iconst X0.here hx rfl (hb hby at_1) ?_
      show Steps p.tables e below (s₁.setTop (mkF m 2 #[.val (.int p0), .unset, .unset, .unset] [(.int (1 : Int32)), (.int p0)])) _
      refine XS.iand X0.here hx rfl (hb hby at_2) rfl ?_
      show Steps p.tables e below (s₁.setTop (mkF m 3 #[.val (.int p0), .unset, .unset, .unset] [(.int (p0 &&& (1 : Int32)))])) _
      rw [hv12]
      show Steps p.tables e below (s₁.setTop (mkF m 3 #[.val (.int p0), .unset, .unset, .unset] [(.int (1 : Int32))])) _
      refine XS.istoreN X0.here hx rfl (hb hby at_3) rfl (l' := #[.val (.int p0), .val (.int (1 : Int32)), .unset, .unset]) rfl ?_
      show Steps p.tables e below (s₁.setTop (mkF m 4 #[.val (.int p0), .val (.int (1 : Int32)), .unset, .unset] [])) _
      refine XS.iloadN X0.here hx rfl (hb hby at_4) rfl ?_
      show Steps p.tables e below (s₁.setTop (mkF m 5 #[.val (.int p0), .val (.int (1 : Int32)), .unset, .unset] [(.int (1 : Int32))])) _
      refine st16 _ ?_
      show Steps p.tables e below (T16.setTop (mkF m 8 #[.val (.int p0), .val (.int (1 : Int32)), .unset, .unset] [(.ref w_AD)])) _
      refine XS.astoreN X16.here hx rfl (hb hby at_8) rfl rfl (l' := #[.val (.int p0), .val (.int (1 : Int32)), .val (.ref w_AD), .unset]) rfl ?_
      show Steps p.tables e below (T16.setTop (mkF m 9 #[.val (.int p0), .val (.int (1 : Int32)), .val (.ref w_AD), .unset] [])) _
      refine XS.iloadN X16.here hx rfl (hb hby at_9) rfl ?_
      show Steps p.tables e below (T16.setTop (mkF m 10 #[.val (.int p0), .val (.int (1 : Int32)), .val (.ref w_AD), .unset] [(.int (1 : Int32))])) _
      refine XS.ifYes X16.here hx rfl (pc0 := 10) (pc' := 19) rfl (hb hby at_10) rfl ((if0 _ _).trans (feq (by decide : ¬ ((1 : Int32) = (0 : Int32)))).2) (by decide) (by decide) ?_
      show Steps p.tables e below (T16.setTop (mkF m 19 #[.val (.int p0), .val (.int (1 : Int32)), .val (.ref w_AD), .unset] [])) _
      refine st17 _ ?_
      show Steps p.tables e below (T17.setTop (mkF m 22 #[.val (.int p0), .val (.int (1 : Int32)), .val (.ref w_AD), .unset] [(.ref w_AD)])) _
      refine XS.astoreN X17.here hx rfl (hb hby at_22) rfl rfl (l' := #[.val (.int p0), .val (.int (1 : Int32)), .val (.ref w_AD), .val (.ref w_AD)]) rfl ?_
      show Steps p.tables e below (T17.setTop (mkF m 23 #[.val (.int p0), .val (.int (1 : Int32)), .val (.ref w_AD), .val (.ref w_AD)] [])) _
      refine XS.aloadN X17.here hx rfl (hb hby at_23) rfl rfl ?_
      show Steps p.tables e below (T17.setTop (mkF m 24 #[.val (.int p0), .val (.int (1 : Int32)), .val (.ref w_AD), .val (.ref w_AD)] [(.ref w_AD)])) _
      refine XS.aloadN X17.here hx rfl (hb hby at_24) rfl rfl ?_
      show Steps p.tables e below (T17.setTop (mkF m 25 #[.val (.int p0), .val (.int (1 : Int32)), .val (.ref w_AD), .val (.ref w_AD)] [(.ref w_AD), (.ref w_AD)])) _
      refine Jvm.RoadKit.acmp (g := (mkF m 25 #[.val (.int p0), .val (.int (1 : Int32)), .val (.ref w_AD), .val (.ref w_AD)] [(.ref w_AD), (.ref w_AD)])) X17 hx rfl rfl rfl (pc0 := 25) (pc' := 28) (same := true) rfl (hb hby at_25) rfl (decide_eq_true rfl) (by decide) (by decide) ?_
      show Steps p.tables e below (T17.setTop (mkF m 28 #[.val (.int p0), .val (.int (1 : Int32)), .val (.ref w_AD), .val (.ref w_AD)] [])) _
      refine XS.aloadN X17.here hx rfl (hb hby at_28) rfl rfl ?_
      show Steps p.tables e below (T17.setTop (mkF m 29 #[.val (.int p0), .val (.int (1 : Int32)), .val (.ref w_AD), .val (.ref w_AD)] [(.ref w_AD)])) _
      refine st18.trans ?_
      show Steps p.tables e below (T18.setTop (mkF m 32 #[.val (.int p0), .val (.int (1 : Int32)), .val (.ref w_AD), .val (.ref w_AD)] [(.int (1 : Int32))])) _
      refine XS.iloadN X18.here hx rfl (hb hby at_32) rfl ?_
      show Steps p.tables e below (T18.setTop (mkF m 33 #[.val (.int p0), .val (.int (1 : Int32)), .val (.ref w_AD), .val (.ref w_AD)] [(.int (1 : Int32)), (.int (1 : Int32))])) _
      refine XS.icmpNo X18.here hx rfl (hb hby at_33) rfl (teq (by decide : (1 : Int32) = (1 : Int32))).2 ?_
      show Steps p.tables e below (T18.setTop (mkF m 36 #[.val (.int p0), .val (.int (1 : Int32)), .val (.ref w_AD), .val (.ref w_AD)] [])) _
      refine XS.iconst X18.here hx rfl (hb hby at_36) ?_
      show Steps p.tables e below (T18.setTop (mkF m 37 #[.val (.int p0), .val (.int (1 : Int32)), .val (.ref w_AD), .val (.ref w_AD)] [(.int (1 : Int32))])) _
      refine XS.goto X18.here hx rfl (pc0 := 37) (pc' := 41) rfl (hb hby at_37) (by decide) (by decide) ?_
      show Steps p.tables e below (T18.setTop (mkF m 41 #[.val (.int p0), .val (.int (1 : Int32)), .val (.ref w_AD), .val (.ref w_AD)] [(.int (1 : Int32))])) _
      exact retN X18 hx (t := .boolean) Bd.returns (by simp) (hb hby at_41) hr
    · show own_Pure (some (.int 1)) h0 n0 _ T18.heap _
      rw [e18]
      exact ⟨rfl, N18, rfl⟩
set_option maxRecDepth 65536 in
set_option maxHeartbeats 40000000 in
theorem comes_1 {Post : Tables → Env → Array Value → State → Outcome → State → Prop} (hpost : ∀ tb e args s v u, (limb_1_1.after args s (.returned v) u = true ∧ limb_1_2.after args s (.returned v) u = true ∧ True) → FrameEnd s (.returned v) u (Jvm.fieldLocs frame_1_writes args s ++ Jvm.arrayLocs frame_1_arrays args s ++ Jvm.staticLocs frame_1_statics s) 0 0 → Post tb e args s (.returned v) u) :
    ArmFor flags0 classFile x code maxLocals ret World_1 tables_1 room_1 Calls_1 rest_1 Pre_1 Post := by
  intro l hfl _ _ p e ha hc hk s m args below hf hA hF happ hP
  obtain ⟨hcalls, hrest, hpre⟩ := hP
  obtain ⟨-, -, -, hnamed, -, -, -, hat⟩ := (Spec.applies_iff hf).mp happ
  obtain ⟨hg, hn⟩ := and_e (Cond.before_iff.mp (show (Jvm.Cond.and given_1 narrow_1).before args s = true from hpre))
  obtain ⟨gg0, hh0⟩ := and_e hg
  obtain ⟨w0, rfl⟩ : ∃ w0 : Value, args = #[w0] := by
    have hs : args.size = 1 := by simpa [Cond.value, given_1] using gg0
    obtain ⟨L⟩ := args
    match L, hs with
    | [w0], _ => exact ⟨w0, rfl⟩
  have hw := fun d (hd : d ∈ tables_1) => atoms_spec (ws := Jvm.Cond.code x code maxLocals ret :: tables_1) hat d (List.mem_cons_of_mem _ hd)
  have hfit : Fit s := fun {y c} hc i hi => by
    obtain ⟨ha, rfl⟩ := Array.getElem?_eq_some_iff.mp hc
    have q := List.all_eq_true.mp ((Array.all_eq_true_iff_forall_mem.mp hF) _ (Array.getElem_mem ha)) i (List.mem_range.mpr hi)
    simpa [Array.getElem?_eq_getElem hi] using q
  obtain ⟨i0, ei0⟩ := is_v hh0
  obtain rfl : w0 = (.int i0) := Option.some.inj ei0
  obtain ⟨g1, g2⟩ := and_e hn
  obtain ⟨g3, g4⟩ := and_e g2
  obtain ⟨g5, g6⟩ := and_e g4
  obtain ⟨w_BC, ev_BC⟩ := exa_v g1
  have E_BC := Exa.start ev_BC g1
  have S_BC := Sta.start ev_BC (Or.inr ⟨hw _ (List.mem_of_getElem? (i := 2) rfl), hw _ (List.mem_of_getElem? (i := 5) rfl)⟩)
  have F_BC_ordinal := own_fld_eq ev_BC g3
  obtain ⟨w_AD, ev_AD⟩ := exa_v g5
  have E_AD := Exa.start ev_AD g5
  have S_AD := Sta.start ev_AD (Or.inr ⟨hw _ (List.mem_of_getElem? (i := 2) rfl), hw _ (List.mem_of_getElem? (i := 22) rfl)⟩)
  have F_AD_ordinal := own_fld_eq ev_AD g6
  have hW0 : own_W s s.heap w_BC w_AD := ⟨S_BC, E_BC, F_BC_ordinal, S_AD, E_AD, F_AD_ordinal⟩
  obtain ⟨n, o, h1, h2, h3, _, L, rfl, hQ0, hq⟩ := rm_law l s _ hw tables_1 i0 s.heap s.heap.size (Nat.le_refl _) w_BC w_AD hW0 p e ha hc hk s m _ below hf ((Spec.applies_iff_loose hf).mp happ).1 ⟨rfl, State.Warmed39.refl s, rfl⟩ trivial
  have N := hQ0.2.1
  obtain rfl := hQ0.1
  refine ⟨n, _, h1, h2, h3, hpost _ _ _ _ _ _ ⟨Cond.after_iff.mpr rfl, Cond.after_iff.mpr (eq_i res_at (Term.int_eval (1)) rfl), trivial⟩ ⟨hq.1, hq.2.1, (hq.2.2.sift fun y hy => Or.inr (N y hy)).mono (by decide) (by decide)⟩⟩
theorem main_1_1 : Claimed_1_1 := comes_1 fun _ _ _ _ _ _ h hF => ⟨h.1, hF⟩
theorem main_1_2 : Claimed_1_2 := comes_1 fun _ _ _ _ _ _ h hF => ⟨h.2.1, hF⟩
end Jvm.Pilot.@@N@@
namespace Jvm.Pilot.@@N@@
open Jvm Jvm.ClassFile Sem Op Lib Jvm.Free Jvm.Stand Jvm.Pilot.@@N@@.Jvm.D
/-! MADE BY PROGRAM (witnessworld.py) out of the Statement's table words and the real class files: 15 classes; the members and pool entries that the words name. The judged class is class 1, her method 1. -/
namespace start1
open Jvm.ClassFile
def u (s : String) : CpInfo := .utf8 (stringToUtf16 s)
/-- a pool by its gaps: so many unusable entries, then the entry; so many at the end -/
def gap : Nat → List CpInfo → List CpInfo
  | 0, r => r
  | n + 1, r => .unusable :: gap n r
def poolList (es : List (Nat × CpInfo)) (last : Nat) : List CpInfo := es.foldr (fun e r => gap e.1 (e.2 :: r)) (gap last [])
def pool (es : List (Nat × CpInfo)) (last : Nat) : Array CpInfo := ⟨poolList es last⟩
def fileOf (pool : Array CpInfo) (this : Nat) (attrs : Array Attribute := #[]) (ms : Array MethodInfo := #[]) (fl : Nat := 33) (sup : Nat := 0) (ifs : Array Nat := #[]) (fds : Array FieldInfo := #[]) : ClassFile where
  minorVersion := 0
  majorVersion := 65
  constantPool := pool
  accessFlags := fl
  thisClass := this
  superClass := sup
  interfaces := ifs
  fields := fds
  methods := ms
  attributes := attrs
def plain (name : String) (sup : Option ClassId) : Class where
  name := name
  kind := .ordinary
  loader := none
  accessFlags := 33
  super := sup
  interfaces := #[]
  cf := none
  fields := #[]
  methods := #[]
  instanceTypes := #[]
  staticTypes := #[]
  resolved := #[]
  callSites := []
  init := .initialized
  statics := none
  mirror := none

def pool0 : Array CpInfo := pool [(5, u "<init>"), (0, u "()V"), (1, .class_ 10), (1, u "java/lang/Object")] 113

def k0m0 : Method := { name := "<init>", desc := "()V", sig := { parameters := [], returnType := none }, accessFlags := 1, code := none }
/-- java/lang/Object -/
def k0 : Class := { plain "java/lang/Object" none with
  accessFlags := 33
  interfaces := #[]
  cf := some (fileOf pool0 8 #[] #[{ accessFlags := 1, nameIndex := 5, descriptorIndex := 6, attributes := #[] }] 33 0 #[] #[])
  fields := #[]
  methods := #[k0m0]
  instanceTypes := #[]
  staticTypes := #[]
  resolved := Array.replicate 124 none
  statics := none }

def pool1 : Array CpInfo := pool [(2, .class_ 4), (1, u "java/lang/Object"), (0, u "<init>"), (0, u "()V"), (0, .methodref 8 9), (0, .class_ 10), (0, .nameAndType 11 12), (0, u "com/example/cutover/cutover/HybridEra"), (0, u "of"), (0, u "(I)Lcom/example/cutover/cutover/HybridEra;"), (0, .fieldref 8 14), (0, .nameAndType 15 16), (0, u "BC"), (0, u "Lcom/example/cutover/cutover/HybridEra;"), (0, .fieldref 8 18), (0, .nameAndType 19 16), (0, u "AD"), (0, .methodref 8 21), (0, .nameAndType 22 23), (0, u "getValue"), (0, u "()I"), (0, .class_ 25), (0, u "com/example/cutover/cutover/HybridEraOfPinLaw"), (2, u "law"), (0, u "(I)Z")] 3

def k1m0 : Method := { name := "<init>", desc := "()V", sig := { parameters := [], returnType := none }, accessFlags := 1, code := none }
def k1c1 : Code := { maxStack := 2, maxLocals := 4, code := code, exceptionTable := #[], attributes := #[] }
def k1m1 : Method := { name := "law", desc := "(I)Z", sig := { parameters := [.int], returnType := some .boolean }, accessFlags := 9, code := some k1c1 }
/-- com/example/cutover/cutover/HybridEraOfPinLaw -/
def k1 : Class := { plain "com/example/cutover/cutover/HybridEraOfPinLaw" (some 0) with
  accessFlags := 49
  interfaces := #[]
  cf := some (fileOf pool1 24 #[] #[{ accessFlags := 1, nameIndex := 5, descriptorIndex := 6, attributes := #[] }, { accessFlags := 9, nameIndex := 28, descriptorIndex := 29, attributes := #[] }] 49 2 #[] #[])
  fields := #[]
  methods := #[k1m0, k1m1]
  instanceTypes := #[]
  staticTypes := #[]
  resolved := Array.replicate 33 none
  statics := none }

def pool2 : Array CpInfo := pool [(1, .class_ 2), (0, u "java/lang/constant/Constable"), (0, .class_ 4), (0, u "java/lang/Object")] 6

/-- java/lang/constant/Constable -/
def k2 : Class := { plain "java/lang/constant/Constable" (some 0) with
  accessFlags := 1537
  interfaces := #[]
  cf := some (fileOf pool2 1 #[] #[] 1537 3 #[] #[])
  fields := #[]
  methods := #[]
  instanceTypes := #[]
  staticTypes := #[]
  resolved := Array.replicate 11 none
  statics := none }

def pool3 : Array CpInfo := pool [(1, .class_ 2), (0, u "java/lang/Comparable"), (0, .class_ 4), (0, u "java/lang/Object")] 7

/-- java/lang/Comparable -/
def k3 : Class := { plain "java/lang/Comparable" (some 0) with
  accessFlags := 1537
  interfaces := #[]
  cf := some (fileOf pool3 1 #[] #[] 1537 3 #[] #[])
  fields := #[]
  methods := #[]
  instanceTypes := #[]
  staticTypes := #[]
  resolved := Array.replicate 12 none
  statics := none }

def pool4 : Array CpInfo := pool [(1, .class_ 2), (0, u "java/io/Serializable"), (0, .class_ 4), (0, u "java/lang/Object")] 2

/-- java/io/Serializable -/
def k4 : Class := { plain "java/io/Serializable" (some 0) with
  accessFlags := 1537
  interfaces := #[]
  cf := some (fileOf pool4 1 #[] #[] 1537 3 #[] #[])
  fields := #[]
  methods := #[]
  instanceTypes := #[]
  staticTypes := #[]
  resolved := Array.replicate 7 none
  statics := none }

def pool5 : Array CpInfo := pool [(2, .class_ 4), (1, u "java/lang/Enum"), (0, u "name"), (0, u "Ljava/lang/String;"), (0, .fieldref 2 8), (0, .nameAndType 9 10), (0, u "ordinal"), (0, u "I"), (1, .class_ 14), (1, u "java/lang/Object"), (4, u "hash"), (86, .class_ 108), (1, u "java/lang/Enum$EnumDesc"), (2, .class_ 112), (0, u "java/lang/constant/Constable"), (0, .class_ 114), (0, u "java/lang/Comparable"), (0, .class_ 116), (0, u "java/io/Serializable"), (9, u "()I")] 77

def k5c0 : Code := { maxStack := 1, maxLocals := 1, code := jdk_37_method_2_code, exceptionTable := #[], attributes := #[] }
def k5m0 : Method := { name := "ordinal", desc := "()I", sig := { parameters := [], returnType := some .int }, accessFlags := 17, code := some k5c0 }
/-- java/lang/Enum -/
def k5 : Class := { plain "java/lang/Enum" (some 0) with
  accessFlags := 1057
  interfaces := #[2, 3, 4]
  cf := some (fileOf pool5 2 #[.nestMembers #[106]] #[{ accessFlags := 17, nameIndex := 9, descriptorIndex := 126, attributes := #[] }] 1057 12 #[111, 113, 115] #[{ accessFlags := 18, nameIndex := 5, descriptorIndex := 6, attributes := #[] }, { accessFlags := 18, nameIndex := 9, descriptorIndex := 10, attributes := #[] }, { accessFlags := 2, nameIndex := 19, descriptorIndex := 10, attributes := #[] }])
  fields := #[{ name := "name", type := (.object "java/lang/String"), accessFlags := 18, slot := 0, constantValue := 0 }, { name := "ordinal", type := .int, accessFlags := 18, slot := 1, constantValue := 0 }, { name := "hash", type := .int, accessFlags := 2, slot := 2, constantValue := 0 }]
  methods := #[k5m0]
  instanceTypes := #[(.object "java/lang/String"), .int, .int]
  staticTypes := #[]
  resolved := Array.replicate 204 none
  statics := none }

def pool6 : Array CpInfo := pool [(4, .class_ 6), (1, u "java/time/temporal/TemporalAccessor"), (95, .class_ 103), (0, u "java/lang/Object")] 21

/-- java/time/temporal/TemporalAccessor -/
def k6 : Class := { plain "java/time/temporal/TemporalAccessor" (some 0) with
  accessFlags := 1537
  interfaces := #[]
  cf := some (fileOf pool6 4 #[] #[] 1537 102 #[] #[])
  fields := #[]
  methods := #[]
  instanceTypes := #[]
  staticTypes := #[]
  resolved := Array.replicate 125 none
  statics := none }

def pool7 : Array CpInfo := pool [(1, .class_ 2), (0, u "java/time/temporal/TemporalAdjuster"), (0, .class_ 4), (0, u "java/lang/Object")] 6

/-- java/time/temporal/TemporalAdjuster -/
def k7 : Class := { plain "java/time/temporal/TemporalAdjuster" (some 0) with
  accessFlags := 1537
  interfaces := #[]
  cf := some (fileOf pool7 1 #[] #[] 1537 3 #[] #[])
  fields := #[]
  methods := #[]
  instanceTypes := #[]
  staticTypes := #[]
  resolved := Array.replicate 11 none
  statics := none }

def pool8 : Array CpInfo := pool [(14, .class_ 16), (1, u "java/time/temporal/TemporalAccessor"), (3, .class_ 22), (1, u "java/time/chrono/Era"), (73, .class_ 97), (0, u "java/lang/Object"), (0, .class_ 99), (0, u "java/time/temporal/TemporalAdjuster")] 29

/-- java/time/chrono/Era -/
def k8 : Class := { plain "java/time/chrono/Era" (some 0) with
  accessFlags := 1537
  interfaces := #[6, 7]
  cf := some (fileOf pool8 20 #[] #[] 1537 96 #[14, 98] #[])
  fields := #[]
  methods := #[]
  instanceTypes := #[]
  staticTypes := #[]
  resolved := Array.replicate 129 none
  statics := none }

def pool9 : Array CpInfo := pool [(1, .class_ 2), (0, u "com/example/cutover/cutover/HybridEra"), (0, .fieldref 1 4), (0, .nameAndType 5 6), (0, u "BC"), (0, u "Lcom/example/cutover/cutover/HybridEra;"), (0, .fieldref 1 8), (0, .nameAndType 9 6), (0, u "AD"), (2, u "$VALUES"), (0, u "[Lcom/example/cutover/cutover/HybridEra;"), (6, .class_ 22), (1, u "java/lang/Enum"), (15, .methodref 1 39), (0, .nameAndType 40 41), (0, u "ordinal"), (0, u "()I"), (7, .class_ 50), (0, u "java/time/chrono/Era"), (7, u "of"), (0, u "(I)Lcom/example/cutover/cutover/HybridEra;"), (5, u "getValue")] 19

def k9c0 : Code := { maxStack := 3, maxLocals := 1, code := prog_17_method_4_code, exceptionTable := #[], attributes := #[] }
def k9m0 : Method := { name := "of", desc := "(I)Lcom/example/cutover/cutover/HybridEra;", sig := { parameters := [.int], returnType := some (.object "com/example/cutover/cutover/HybridEra") }, accessFlags := 9, code := some k9c0 }
def k9c1 : Code := { maxStack := 1, maxLocals := 1, code := prog_17_method_8_code, exceptionTable := #[], attributes := #[] }
def k9m1 : Method := { name := "getValue", desc := "()I", sig := { parameters := [], returnType := some .int }, accessFlags := 1, code := some k9c1 }
/-- com/example/cutover/cutover/HybridEra -/
def k9 : Class := { plain "com/example/cutover/cutover/HybridEra" (some 5) with
  accessFlags := 16433
  interfaces := #[8]
  cf := some (fileOf pool9 1 #[] #[{ accessFlags := 9, nameIndex := 58, descriptorIndex := 59, attributes := #[] }, { accessFlags := 1, nameIndex := 65, descriptorIndex := 41, attributes := #[] }] 16433 20 #[49] #[{ accessFlags := 16409, nameIndex := 5, descriptorIndex := 6, attributes := #[] }, { accessFlags := 16409, nameIndex := 9, descriptorIndex := 6, attributes := #[] }, { accessFlags := 4122, nameIndex := 12, descriptorIndex := 13, attributes := #[] }])
  fields := #[{ name := "BC", type := (.object "com/example/cutover/cutover/HybridEra"), accessFlags := 16409, slot := 0, constantValue := 0 }, { name := "AD", type := (.object "com/example/cutover/cutover/HybridEra"), accessFlags := 16409, slot := 1, constantValue := 0 }, { name := "$VALUES", type := (.array (.object "com/example/cutover/cutover/HybridEra")), accessFlags := 4122, slot := 2, constantValue := 0 }]
  methods := #[k9m0, k9m1]
  instanceTypes := #[(.object "java/lang/String"), .int, .int]
  staticTypes := #[(.object "com/example/cutover/cutover/HybridEra"), (.object "com/example/cutover/cutover/HybridEra"), (.array (.object "com/example/cutover/cutover/HybridEra"))]
  resolved := Array.replicate 85 none
  statics := some 0 }

def pool10 : Array CpInfo := pool [(1, u "java/lang/Cloneable"), (0, .class_ 1), (0, u "java/lang/Object"), (0, .class_ 3)] 3

/-- java/lang/Cloneable -/
def k10 : Class := { plain "java/lang/Cloneable" (some 0) with
  accessFlags := 1537
  interfaces := #[]
  cf := some (fileOf pool10 2 #[] #[] 1537 4 #[] #[])
  fields := #[]
  methods := #[]
  instanceTypes := #[]
  staticTypes := #[]
  resolved := Array.replicate 8 none
  statics := none }

/-- the primitive byte -/
def k11 : Class := { plain "byte" none with kind := .primitive 'B', accessFlags := 0x411 }
/-- [B -/
def k12 : Class := { plain "[B" (some 0) with kind := .array 11 .byte, interfaces := #[10, 4], accessFlags := 1041 }

/-- the primitive int -/
def k13 : Class := { plain "int" none with kind := .primitive 'I', accessFlags := 0x411 }
/-- [I -/
def k14 : Class := { plain "[I" (some 0) with kind := .array 13 .int, interfaces := #[10, 4], accessFlags := 1041 }

def heap : Heap := #[{ cls := 9, slots := #[.ref 1, .ref 2, .null], vm := .statics 9 },
  { cls := 9, slots := #[.null, .int 0, .int 0], vm := .none },
  { cls := 9, slots := #[.null, .int 1, .int 0], vm := .none }]
def classes : Array Class := #[k0, k1, k2, k3, k4, k5, k6, k7, k8, k9, k10, k11, k12, k13, k14]
def interned : List (Array UInt16 × Addr) := []
def slotsUsed : Nat := 9
def theMethod : MethodId := ⟨1, 1⟩
def args0 : Array Value := #[.int 5]
def aboutOver (below : List Frame) : State where
  vm := { classes := classes, interned := interned.toArray }
  heap := heap
  slotsUsed := slotsUsed
  threads := #[{ frames := .invoking theMethod args0 :: below }]
def below0 : List Frame := [.native { method := ⟨0, 0⟩, args := #[] }]
def about1 : State := aboutOver below0
def p0 : Program := .bare "" "" ""
def e0 : Env := launch0.env 0 0 0
theorem w_frames : about1.frames = Frame.invoking theMethod args0 :: below0 := rfl
set_option maxRecDepth 65536 in
theorem w_args : argsFit about1.vm theMethod args0 = true := by decide +kernel
set_option maxRecDepth 65536 in
theorem w_heap : heapFits about1 = true := by decide +kernel
set_option maxRecDepth 65536 in
theorem w_runnable : about1.curStatus? = some .runnable := by decide +kernel
set_option maxRecDepth 65536 in
theorem w_alone : about1.alone = true := by decide +kernel
set_option maxRecDepth 65536 in
theorem w_named : about1.methodNamed? x = some theMethod := by decide +kernel
set_option maxRecDepth 65536 in
theorem w_hears : about1.hears theMethod below0 = true := by decide +kernel
set_option maxRecDepth 65536 in
theorem w_ripe : about1.ripe theMethod args0 below0 = true := by decide +kernel
theorem w_running : about1.status = .running := rfl
set_option maxRecDepth 65536 in
theorem w_room : about1.hasRoom e0.platform room_1 = true :=
  launch0.hasRoom_least _ room_1 (by decide +kernel) (by decide +kernel) (by decide +kernel) (by decide +kernel) (by decide +kernel) (by decide +kernel)
theorem allAtoms_all (ts : List Jvm.Cond) (a : Array Jvm.Value) (st : Jvm.State) : (allAtoms ts).before a st = ts.all (fun c => c.before a st) := by
  induction ts with
  | nil => rfl
  | cons c t ih =>
    show (Jvm.Cond.and c (allAtoms t)).before a st = _
    rw [Jvm.Cond.before_and, ih, List.all_cons]
def words1 : List Jvm.Cond := Jvm.Cond.code x code maxLocals ret :: tables_1
/-- a 'code' word, met by the world's own term for the bytes: nothing is compared byte by byte -/
theorem code_word {y : MethodName} {bytes : ByteArray} {mx : Nat} {rt : Option FieldType} {a : Array Value} {s : State} {m : MethodId} {meth : Method} {c : Code} (h1 : s.methodNamed? y = some m) (h2 : s.vm.method? m = some meth) (h3 : meth.code = some c) (h4 : c.code = bytes)
    (h5 : (c.maxLocals == mx && c.exceptionTable.isEmpty && decide (c.maxStack ≤ mostOperands) && decide (meth.sig.returnType = rt) && !meth.locks && decide (parseMethodDescriptor y.desc = some meth.sig)) = true) : (Jvm.Cond.code y bytes mx rt).before a s = true := by
  simp only [Bool.and_eq_true, beq_iff_eq, Bool.not_eq_true', decide_eq_true_eq] at h5
  obtain ⟨⟨⟨⟨⟨g1, g2⟩, g3⟩, g4⟩, g5⟩, g6⟩ := h5
  simp [Cond.before, Cond.holds, Cond.value, h1, h2, h3, h4, g1, g2, g3, g4, g5, g6]
def isCode : Jvm.Cond → Bool
  | .code _ _ _ _ => true
  | _ => false
theorem all_split {L : List Jvm.Cond} {P : Jvm.Cond → Bool} (h1 : L.all (fun c => isCode c || P c) = true) (h2 : ∀ c ∈ L.filter isCode, P c = true) : L.all P = true := by
  refine List.all_eq_true.mpr fun c hc => ?_
  have h := List.all_eq_true.mp h1 c hc
  rcases Bool.eq_false_or_eq_true (isCode c) with hi | hi
  · exact h2 c (List.mem_filter.mpr ⟨hc, hi⟩)
  · simpa [hi] using h
set_option maxRecDepth 65536 in
theorem w_c0 : (Jvm.Cond.code x code maxLocals ret).before args0 about1 = true := code_word (m := ⟨1, 1⟩) (meth := k1m1) (c := k1c1) (by decide +kernel) rfl rfl rfl (by decide +kernel)
set_option maxRecDepth 65536 in
theorem w_c1 : (Jvm.Cond.code ({ cls := "com/example/cutover/cutover/HybridEra", name := "of", desc := "(I)Lcom/example/cutover/cutover/HybridEra;" } : Jvm.MethodName) prog_17_method_4_code (1 : Nat) (Option.some (Jvm.ClassFile.FieldType.object "com/example/cutover/cutover/HybridEra"))).before args0 about1 = true := code_word (m := ⟨9, 0⟩) (meth := k9m0) (c := k9c0) (by decide +kernel) rfl rfl rfl (by decide +kernel)
set_option maxRecDepth 65536 in
theorem w_c2 : (Jvm.Cond.code ({ cls := "com/example/cutover/cutover/HybridEra", name := "getValue", desc := "()I" } : Jvm.MethodName) prog_17_method_8_code (1 : Nat) (Option.some Jvm.ClassFile.FieldType.int)).before args0 about1 = true := code_word (m := ⟨9, 1⟩) (meth := k9m1) (c := k9c1) (by decide +kernel) rfl rfl rfl (by decide +kernel)
set_option maxRecDepth 65536 in
theorem w_c3 : (Jvm.Cond.code ({ cls := "java/lang/Enum", name := "ordinal", desc := "()I" } : Jvm.MethodName) jdk_37_method_2_code (1 : Nat) (Option.some Jvm.ClassFile.FieldType.int)).before args0 about1 = true := code_word (m := ⟨5, 0⟩) (meth := k5m0) (c := k5c0) (by decide +kernel) rfl rfl rfl (by decide +kernel)
def codes1 : List Jvm.Cond := [Jvm.Cond.code x code maxLocals ret, Jvm.Cond.code ({ cls := "com/example/cutover/cutover/HybridEra", name := "of", desc := "(I)Lcom/example/cutover/cutover/HybridEra;" } : Jvm.MethodName) prog_17_method_4_code (1 : Nat) (Option.some (Jvm.ClassFile.FieldType.object "com/example/cutover/cutover/HybridEra")), Jvm.Cond.code ({ cls := "com/example/cutover/cutover/HybridEra", name := "getValue", desc := "()I" } : Jvm.MethodName) prog_17_method_8_code (1 : Nat) (Option.some Jvm.ClassFile.FieldType.int), Jvm.Cond.code ({ cls := "java/lang/Enum", name := "ordinal", desc := "()I" } : Jvm.MethodName) jdk_37_method_2_code (1 : Nat) (Option.some Jvm.ClassFile.FieldType.int)]
set_option maxRecDepth 65536 in
theorem codes_eq : words1.filter isCode = codes1 := rfl
theorem w_codes : ∀ c ∈ words1.filter isCode, c.before args0 about1 = true := by
  rw [codes_eq]
  intro c hc
  simp only [codes1, List.mem_cons, List.not_mem_nil, or_false] at hc
  rcases hc with rfl | rfl | rfl | rfl
  · exact w_c0
  · exact w_c1
  · exact w_c2
  · exact w_c3
set_option maxRecDepth 65536 in
theorem w_t1 : (words1.take 24).all (fun c => isCode c || c.before args0 about1) = true := by decide +kernel
set_option maxRecDepth 65536 in
theorem w_t2 : (words1.drop 24).all (fun c => isCode c || c.before args0 about1) = true := by decide +kernel
theorem w_tables : (allAtoms (Jvm.Cond.code x code maxLocals ret :: tables_1)).before args0 about1 = true := by
  rw [allAtoms_all]
  show words1.all (fun c => c.before args0 about1) = true
  refine all_split ?_ w_codes
  rw [← List.take_append_drop 24 words1, List.all_append, w_t1, w_t2]
  rfl
set_option maxRecDepth 65536 in
theorem w_case : (Jvm.Cond.and given_1 narrow_1).before args0 about1 = true := by decide +kernel
theorem w_applies : (headSpec (Jvm.Cond.code x code maxLocals ret :: tables_1) room_1).applies x e0.platform about1 = true :=
  (Spec.applies_iff w_frames).mpr ⟨w_running, w_runnable, w_alone, w_named, w_hears, w_ripe, w_room, w_tables⟩
theorem atStart : AtStart classFile x code maxLocals ret World_1 tables_1 room_1 Calls_1 rest_1 Pre_1 launch0 p0 e0 about1 theMethod args0 below0 :=
  ⟨lists_1, trivial, launch0.admits_env _ _ _, launch0.least_env, fairChoices_fair.cas, fairChoices_fair.clock, w_frames, w_args, w_heap, w_applies, trivial, trivial, w_case⟩
end start1
theorem witness_1 : WitnessClaimed_1 := ⟨start1.p0, start1.e0, start1.about1, start1.theMethod, start1.args0, start1.below0, start1.atStart⟩
end Jvm.Pilot.@@N@@
