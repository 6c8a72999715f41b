import JvmDerived
import JvmDerived.Pilot.@@N@@Statement
import JvmDerived.Pilot.@@N@@Code
set_option linter.unusedVariables false
set_option linter.unusedSimpArgs false

namespace Jvm.Pilot.@@N@@
open Jvm Jvm.ClassFile Sem Op Lib Jvm.Free Jvm.Stand Jvm.LawKit Jvm.RoadKit Bundle Jvm.Pilot.@@N@@.Jvm.D
/-- a body that writes nothing and returns r -/
def own_Pure (r : Option Value) (h0 : Heap) (n0 : Nat) (v : Option Value) (h : Heap) (L : List Loc) : Prop := v = r ∧ Fr n0 L ∧ h = h0
theorem own_fld_eq {args : Array Value} {Z : State} {t : Term} {a : Addr} {C n d : String} {k : Int32} (ht : t.eval args Z none [] Z = some (.ref a))
    (h : (Cond.eq (.field t C n d) (.int k)).value args Z none Z [] = some true) : Fld Z Z.heap a C n d (.int k) := by
  apply Fld.start
  have e1 : (Term.field t C n d).eval args Z none [] Z = Z.fieldOf? a C n d := fld_at ht
  rw [← e1]
  have e2 : (Term.int k).eval args Z none [] Z = some (.int k) := Term.int_eval k
  simp only [Cond.value] at h
  cases hx : (Term.field t C n d).eval args Z none [] Z with
  | none => simp [hx] at h
  | some v => cases v <;> simp [hx, e2] at h ⊢; exact h
/-- what the case says of the pinned statics -/
def own_W (Z : State) (h : Heap) (w_BC w_AD : Addr) : Prop :=
  Sta Z h "com/example/cutover/cutover/HybridEra" "BC" "Lcom/example/cutover/cutover/HybridEra;" (.ref w_BC) ∧
  Exa Z h w_BC "com/example/cutover/cutover/HybridEra" ∧
  Fld Z h w_BC "java/lang/Enum" "ordinal" "I" (.int (0 : Int32)) ∧
  Sta Z h "com/example/cutover/cutover/HybridEra" "AD" "Lcom/example/cutover/cutover/HybridEra;" (.ref w_AD) ∧
  Exa Z h w_AD "com/example/cutover/cutover/HybridEra" ∧
  Fld Z h w_AD "java/lang/Enum" "ordinal" "I" (.int (1 : Int32))
theorem own_W.ext {Z : State} {h h' : Heap} {w_BC w_AD : Addr} (E : Ext h h') (H : own_W Z h w_BC w_AD) : own_W Z h' w_BC w_AD := by
  obtain ⟨S_BC, E_BC, F_BC_ordinal, S_AD, E_AD, F_AD_ordinal⟩ := H
  exact ⟨S_BC.ext E, E_BC.ext E, F_BC_ordinal.ext E, S_AD.ext E, E_AD.ext E, F_AD_ordinal.ext E⟩
theorem own_ad (x : Int32) (h : ¬ x < (1 : Int32)) : ¬ ((lcmpW (x.toInt64) (1 : Int64)) < (0 : Int32)) := by
  rw [lw_lt, Int64.lt_iff_toInt_lt, c_i2l]
  rw [Int32.lt_iff_toInt_lt] at h
  have e1 : (1 : Int32).toInt = 1 := by decide
  have e2 : (1 : Int64).toInt = 1 := by decide
  omega
theorem own_bc (x : Int32) (h : x < (1 : Int32)) : ¬ ((lcmpW ((1 : Int64) - (x.toInt64)) (1 : Int64)) < (0 : Int32)) := by
  rw [lw_lt, Int64.lt_iff_toInt_lt]
  rw [Int32.lt_iff_toInt_lt] at h
  have e1 : (1 : Int32).toInt = 1 := by decide
  have e2 : (1 : Int64).toInt = 1 := by decide
  have h1 := c_lsub (1 : Int64) x.toInt64
  have h2 := c_i2l x
  have h3 := rng64 ((1 : Int64) - x.toInt64)
  have h4 := rng32 x
  omega
theorem d1_0 : decode prog_17_method_5_code 0 = .ok (.iload_n 0, 1) := by decide +kernel
theorem d1_1 : decode prog_17_method_5_code 1 = .ok (.iconst 1, 1) := by decide +kernel
theorem d1_2 : decode prog_17_method_5_code 2 = .ok (.if_icmp .lt 9, 3) := by decide +kernel
theorem d1_11 : decode prog_17_method_5_code 11 = .ok (.getstatic 3, 3) := by decide +kernel
theorem d1_14 : decode prog_17_method_5_code 14 = .ok (.areturn, 1) := by decide +kernel
theorem d1_5 : decode prog_17_method_5_code 5 = .ok (.getstatic 7, 3) := by decide +kernel
theorem d1_8 : decode prog_17_method_5_code 8 = .ok (.goto 6, 3) := by decide +kernel
theorem pn_7 : plainName "com/example/cutover/cutover/HybridEra" = true := by first | (simp [plainName, overriddenIn]; done) | decide +kernel
theorem ef_rm_of (m : MethodId) (x0 : Int32) : entryFrame m #[(.int x0)] 1 = mkF m 0 #[.val (.int x0)] [] := by first | (simp [entryFrame, mkF, argsToLocals, Value.category]; done) | rfl
set_option maxRecDepth 65536 in
set_option maxHeartbeats 40000000 in
theorem rm_of (l : Launch) (Z : State) (a0 : Array Value) (hw : ∀ d ∈ tables_1, d.before a0 Z = true) (ws : List Jvm.Cond) (k : Int32) (h0 : Heap) (n0 : Nat) (Z0 : n0 ≤ h0.size) (w_BC w_AD : Addr) (hWd : own_W Z h0 w_BC w_AD) (r : Addr) (hres : (if k < (1 : Int32) then w_BC else w_AD) = r) :
    MetFree l (⟨"com/example/cutover/cutover/HybridEra", "ofProlepticYear", "(I)Lcom/example/cutover/cutover/HybridEra;"⟩ : MethodName) (head1 (Jvm.Cond.code (⟨"com/example/cutover/cutover/HybridEra", "ofProlepticYear", "(I)Lcom/example/cutover/cutover/HybridEra;"⟩ : MethodName) prog_17_method_5_code 1 (some (.object "com/example/cutover/cutover/HybridEra")) :: ws) ({ frames := 0, cells := 0, slots := 0, locals := 0 } : Room)) (fun a U => a = #[(.int k)] ∧ Z.Warmed39 U.vm ∧ U.heap = h0) (fun _ _ _ _ _ => True) (fun _ U o U' => ∃ v L, o = .returned v ∧ own_Pure (some (.ref r)) h0 n0 v U'.heap L ∧ FrameEnd U o U' L ({ frames := 0, cells := 0, slots := 0, locals := 0 } : Room).cells ({ frames := 0, cells := 0, slots := 0, locals := 0 } : Room).slots) := by
  refine MetFree.of_bodySF (plainFor_of_name pn_7) hisR ?_
  intro p e s m args below meth c s₁ Bd hml0 hP hK
  obtain ⟨rfl, hZ, hh⟩ := hP
  have hx := Bd.exec
  have hby := Bd.bytes
  have hml : c.maxLocals = 1 := hml0
  have hown : s.vm.findClass "com/example/cutover/cutover/HybridEra" = some m.cls := findClass_of_methodNamed Bd.named
  have hnm := (name_of_methodNamed Bd.named Bd.method).1
  have X0 : Stand p l e ({ frames := 0, cells := 0, slots := 0, locals := 0 } : Room) s m #[(.int k)] below meth c s₁ [] 0 0 := Stand.of_body Bd
  have e0 : s₁.heap = h0 := by rw [← hh, Bd.state]; rfl
  have N0 := Fr.nil n0
  have pre0 : ∀ t, Steps p.tables e below (s₁.setTop (mkF m 0 #[.val (.int k)] [])) t → Steps p.tables e below (s₁.setTop (entryFrame m #[(.int k)] 1)) t := fun t kq => castTop (ef_rm_of m k) kq
  obtain ⟨S_BC, E_BC, F_BC_ordinal, S_AD, E_AD, F_AD_ordinal⟩ := hWd
  by_cases hc2_7 : k < (1 : Int32)
  · -- pc 2: k < (1 : Int32)
    obtain ⟨T8, X8, e8, st8⟩ := getS2 X0 hx hZ hown (host := "") (Or.inl (hw _ (List.mem_of_getElem? (i := 4) rfl))) Via.refl e0 S_BC (g := (mkF m 11 #[.val (.int k)] [])) rfl (hb hby d1_11)
    obtain ⟨fs, hr, hrun, hended, hW, hsame⟩ := X8.leave (v := some (.ref w_BC)) (fun h => by rw [Bd.returns] at h; cases h)
    refine ⟨_, _, pre0 _ ?_, hrun, hended, _, _, rfl, ?_, ⟨_, rfl⟩, hW, hsame.mono (by decide) (by decide)⟩
    · show Steps p.tables e below (s₁.setTop (mkF m 0 #[.val (.int k)] [])) _
      refine XS.iloadN X0.here hx rfl (hb hby d1_0) rfl ?_
      show Steps p.tables e below (s₁.setTop (mkF m 1 #[.val (.int k)] [(.int k)])) _
      refine XS.iconst X0.here hx rfl (hb hby d1_1) ?_
      show Steps p.tables e below (s₁.setTop (mkF m 2 #[.val (.int k)] [(.int (1 : Int32)), (.int k)])) _
      refine XS.icmpYes X0.here hx rfl (pc0 := 2) (pc' := 11) rfl (hb hby d1_2) rfl (tlt hc2_7).1 (by decide) (by decide) ?_
      show Steps p.tables e below (s₁.setTop (mkF m 11 #[.val (.int k)] [])) _
      refine st8 _ ?_
      show Steps p.tables e below (T8.setTop (mkF m 14 #[.val (.int k)] [(.ref w_BC)])) _
      exact retOut X8 hx Bd.returns rfl (Or.inr (Or.inr (Or.inr (Or.inr ⟨rfl, rfl, rfl⟩)))) (hb hby d1_14) hr
    · show own_Pure (some (.ref r)) h0 n0 _ T8.heap _
      rw [e8]
      exact ⟨by rw [← hres]; simp only [if_pos hc2_7], N0, rfl⟩
  · -- pc 2: not k < (1 : Int32)
    obtain ⟨T9, X9, e9, st9⟩ := getS2 X0 hx hZ hown (host := "") (Or.inl (hw _ (List.mem_of_getElem? (i := 9) rfl))) Via.refl e0 S_AD (g := (mkF m 5 #[.val (.int k)] [])) rfl (hb hby d1_5)
    obtain ⟨fs, hr, hrun, hended, hW, hsame⟩ := X9.leave (v := some (.ref w_AD)) (fun h => by rw [Bd.returns] at h; cases h)
    refine ⟨_, _, pre0 _ ?_, hrun, hended, _, _, rfl, ?_, ⟨_, rfl⟩, hW, hsame.mono (by decide) (by decide)⟩
    · show Steps p.tables e below (s₁.setTop (mkF m 0 #[.val (.int k)] [])) _
      refine XS.iloadN X0.here hx rfl (hb hby d1_0) rfl ?_
      show Steps p.tables e below (s₁.setTop (mkF m 1 #[.val (.int k)] [(.int k)])) _
      refine XS.iconst X0.here hx rfl (hb hby d1_1) ?_
      show Steps p.tables e below (s₁.setTop (mkF m 2 #[.val (.int k)] [(.int (1 : Int32)), (.int k)])) _
      refine XS.icmpNo X0.here hx rfl (hb hby d1_2) rfl (flt hc2_7).1 ?_
      show Steps p.tables e below (s₁.setTop (mkF m 5 #[.val (.int k)] [])) _
      refine st9 _ ?_
      show Steps p.tables e below (T9.setTop (mkF m 8 #[.val (.int k)] [(.ref w_AD)])) _
      refine XS.goto X9.here hx rfl (pc0 := 8) (pc' := 14) rfl (hb hby d1_8) (by decide) (by decide) ?_
      show Steps p.tables e below (T9.setTop (mkF m 14 #[.val (.int k)] [(.ref w_AD)])) _
      exact retOut X9 hx Bd.returns rfl (Or.inr (Or.inr (Or.inr (Or.inr ⟨rfl, rfl, rfl⟩)))) (hb hby d1_14) hr
    · show own_Pure (some (.ref r)) h0 n0 _ T9.heap _
      rw [e9]
      exact ⟨by rw [← hres]; simp only [if_neg hc2_7], N0, rfl⟩
theorem pd_8 : parseMethodDescriptor "(I)Lcom/example/cutover/cutover/HybridEra;" = some ⟨[.int], some (.object "com/example/cutover/cutover/HybridEra")⟩ := by decide +kernel
theorem pn_9 : plainName "com/example/cutover/cutover/HybridEraOfProlepticYearPinLaw" = true := by first | (simp [plainName, overriddenIn]; done) | decide +kernel
theorem ef_rm_law (m : MethodId) (x0 : Int32) : entryFrame m #[(.int x0)] maxLocals = mkF m 0 #[.val (.int x0), .unset, .unset, .unset] [] := by first | (simp [entryFrame, mkF, argsToLocals, Value.category, maxLocals]; done) | rfl
set_option maxRecDepth 65536 in
set_option maxHeartbeats 40000000 in
theorem rm_law (l : Launch) (Z : State) (a0 : Array Value) (hw : ∀ d ∈ tables_1, d.before a0 Z = true) (ws : List Jvm.Cond) (p0 : Int32) (h0 : Heap) (n0 : Nat) (Z0 : n0 ≤ h0.size) (w_BC w_AD : Addr) (hWd : own_W Z h0 w_BC w_AD) :
    MetFree l x (head1 (Jvm.Cond.code x code maxLocals ret :: ws) room_1) (fun a U => a = #[(.int p0)] ∧ Z.Warmed39 U.vm ∧ U.heap = h0) (fun _ _ _ _ _ => True) (fun _ U o U' => ∃ v L, o = .returned v ∧ own_Pure (some (.int 1)) h0 n0 v U'.heap L ∧ FrameEnd U o U' L room_1.cells room_1.slots) := by
  refine MetFree.of_bodySF (plainFor_of_name pn_9) hisR ?_
  intro p e s m args below meth c s₁ Bd hml0 hP hK
  obtain ⟨rfl, hZ, hh⟩ := hP
  have hx := Bd.exec
  have hby := Bd.bytes
  have hml : c.maxLocals = 4 := hml0
  have hown : s.vm.findClass "com/example/cutover/cutover/HybridEraOfProlepticYearPinLaw" = some m.cls := findClass_of_methodNamed Bd.named
  have hnm := (name_of_methodNamed Bd.named Bd.method).1
  have X0 : Stand p l e room_1 s m #[(.int p0)] below meth c s₁ [] 0 0 := Stand.of_body Bd
  have e0 : s₁.heap = h0 := by rw [← hh, Bd.state]; rfl
  have N0 := Fr.nil n0
  have pre0 : ∀ t, Steps p.tables e below (s₁.setTop (mkF m 0 #[.val (.int p0), .unset, .unset, .unset] [])) t → Steps p.tables e below (s₁.setTop (entryFrame m #[(.int p0)] maxLocals)) t := fun t kq => castTop (ef_rm_law m p0) kq
  have hWd' := hWd
  obtain ⟨S_BC, E_BC, F_BC_ordinal, S_AD, E_AD, F_AD_ordinal⟩ := hWd'
  by_cases hlt : p0 < (1 : Int32)
  · skip
    obtain ⟨_, _, ⟨T10, L10, k10, n10⟩, -, X10, ⟨Lc10, hQ10, l10, y10, z10⟩, st10⟩ := Jvm.LawKit.callS X0 hx (y := (⟨"com/example/cutover/cutover/HybridEra", "ofProlepticYear", "(I)Lcom/example/cutover/cutover/HybridEra;"⟩ : MethodName)) hown (mvT hZ (hw _ (List.mem_of_getElem? (i := 0) rfl))) (mvT hZ (hw _ (List.mem_of_getElem? (i := 1) rfl))) (mvT hZ (hw _ (List.mem_of_getElem? (i := 2) rfl))) (mvT hZ (hw _ (List.mem_of_getElem? (i := 3) rfl))) (by decide) (backOf (W := 0) (rm_of l Z a0 hw [] p0 h0 n0 Z0 w_BC w_AD hWd w_BC (if_pos hlt)) hZ (hw _ (List.mem_of_getElem? (i := 3) rfl)) (hw _ (List.mem_of_getElem? (i := 2) rfl)) (by decide) (by decide)) (g := (mkF m 1 #[.val (.int p0), .unset, .unset, .unset] [(.int p0)])) rfl (by rw [hml]; rfl) (argsL := [(.int p0)]) (rest := []) (lenOf pd_8 rfl) rfl (by show 2 * 0 + _ ≤ _; exact Nat.le_of_eq rfl) (hb hby at_1) (fun _ _ => ⟨rfl, e0, (by decide : 0 + 0 ≤ _), (by decide : 0 + 0 ≤ _)⟩)
    dsimp only [Pt.U, Pt.locs, Pt.cells, Pt.slots] at X10 l10 y10 z10 st10 hQ10
    subst l10 y10 z10
    obtain ⟨rfl, N10q, e10⟩ := hQ10
    have N10 := Fr.app N0 N10q
    obtain ⟨T11, X11, e11, st11⟩ := getS2 X10 hx hZ hown (host := "") (Or.inl (hw _ (List.mem_of_getElem? (i := 6) rfl))) Via.refl e10 S_AD (g := (mkF m 6 #[.val (.int p0), .val (.ref w_BC), .unset, .unset] [(.ref w_BC)])) rfl (hb hby at_6)
    obtain ⟨T12, X12, e12, st12⟩ := getS2 X11 hx hZ hown (host := "") (Or.inl (hw _ (List.mem_of_getElem? (i := 8) rfl))) Via.refl e11 S_BC (g := (mkF m 19 #[.val (.int p0), .val (.ref w_BC), .unset, .unset] [(.ref w_BC)])) rfl (hb hby at_19)
    obtain ⟨fs, hr, hrun, hended, hW, hsame⟩ := X12.leave (v := some (.int (1 : Int32))) (fun h => by rw [Bd.returns] at h; cases h)
    refine ⟨_, _, pre0 _ ?_, hrun, hended, _, _, rfl, ?_, ⟨_, rfl⟩, hW, hsame.mono (by decide) (by decide)⟩
    · show Steps p.tables e below (s₁.setTop (mkF m 0 #[.val (.int p0), .unset, .unset, .unset] [])) _
      refine XS.iloadN X0.here hx rfl (hb hby at_0) rfl ?_
      show Steps p.tables e below (s₁.setTop (mkF m 1 #[.val (.int p0), .unset, .unset, .unset] [(.int p0)])) _
      refine st10 _ ?_
      show Steps p.tables e below (T10.setTop (mkF m 4 #[.val (.int p0), .unset, .unset, .unset] [(.ref w_BC)])) _
      refine XS.astoreN X10.here hx rfl (hb hby at_4) rfl rfl (l' := #[.val (.int p0), .val (.ref w_BC), .unset, .unset]) rfl ?_
      show Steps p.tables e below (T10.setTop (mkF m 5 #[.val (.int p0), .val (.ref w_BC), .unset, .unset] [])) _
      refine XS.aloadN X10.here hx rfl (hb hby at_5) rfl rfl ?_
      show Steps p.tables e below (T10.setTop (mkF m 6 #[.val (.int p0), .val (.ref w_BC), .unset, .unset] [(.ref w_BC)])) _
      refine st11 _ ?_
      show Steps p.tables e below (T11.setTop (mkF m 9 #[.val (.int p0), .val (.ref w_BC), .unset, .unset] [(.ref w_AD), (.ref w_BC)])) _
      refine Jvm.RoadKit.acmp (g := (mkF m 9 #[.val (.int p0), .val (.ref w_BC), .unset, .unset] [(.ref w_AD), (.ref w_BC)])) X11 hx rfl rfl rfl (pc0 := 9) (pc' := 18) (same := false) rfl (hb hby at_9) rfl (decide_eq_false fun q => (F_BC_ordinal.ne F_AD_ordinal (by decide)) (Value.ref.inj q)) (by decide) (by decide) ?_
      show Steps p.tables e below (T11.setTop (mkF m 18 #[.val (.int p0), .val (.ref w_BC), .unset, .unset] [])) _
      refine XS.aloadN X11.here hx rfl (hb hby at_18) rfl rfl ?_
      show Steps p.tables e below (T11.setTop (mkF m 19 #[.val (.int p0), .val (.ref w_BC), .unset, .unset] [(.ref w_BC)])) _
      refine st12 _ ?_
      show Steps p.tables e below (T12.setTop (mkF m 22 #[.val (.int p0), .val (.ref w_BC), .unset, .unset] [(.ref w_BC), (.ref w_BC)])) _
      refine Jvm.RoadKit.acmp (g := (mkF m 22 #[.val (.int p0), .val (.ref w_BC), .unset, .unset] [(.ref w_BC), (.ref w_BC)])) X12 hx rfl rfl rfl (pc0 := 22) (pc' := 25) (same := true) rfl (hb hby at_22) rfl (decide_eq_true rfl) (by decide) (by decide) ?_
      show Steps p.tables e below (T12.setTop (mkF m 25 #[.val (.int p0), .val (.ref w_BC), .unset, .unset] [])) _
      refine XS.lconst X12.here hx rfl (hb hby at_25) ?_
      show Steps p.tables e below (T12.setTop (mkF m 26 #[.val (.int p0), .val (.ref w_BC), .unset, .unset] [(.long (1 : Int64))])) _
      refine XS.iloadN X12.here hx rfl (hb hby at_26) rfl ?_
      show Steps p.tables e below (T12.setTop (mkF m 27 #[.val (.int p0), .val (.ref w_BC), .unset, .unset] [(.int p0), (.long (1 : Int64))])) _
      refine XS.i2l X12.here hx rfl (hb hby at_27) rfl ?_
      show Steps p.tables e below (T12.setTop (mkF m 28 #[.val (.int p0), .val (.ref w_BC), .unset, .unset] [(.long (p0.toInt64)), (.long (1 : Int64))])) _
      refine XS.lsub X12.here hx rfl (hb hby at_28) rfl ?_
      show Steps p.tables e below (T12.setTop (mkF m 29 #[.val (.int p0), .val (.ref w_BC), .unset, .unset] [(.long ((1 : Int64) - (p0.toInt64)))])) _
      refine XS.lstoreN X12.here hx rfl (hb hby at_29) rfl (l' := #[.val (.int p0), .val (.ref w_BC), .val (.long ((1 : Int64) - (p0.toInt64))), .second]) rfl ?_
      show Steps p.tables e below (T12.setTop (mkF m 30 #[.val (.int p0), .val (.ref w_BC), .val (.long ((1 : Int64) - (p0.toInt64))), .second] [])) _
      refine XS.goto X12.here hx rfl (pc0 := 30) (pc' := 35) rfl (hb hby at_30) (by decide) (by decide) ?_
      show Steps p.tables e below (T12.setTop (mkF m 35 #[.val (.int p0), .val (.ref w_BC), .val (.long ((1 : Int64) - (p0.toInt64))), .second] [])) _
      refine XS.lloadN X12.here hx rfl (hb hby at_35) rfl ?_
      show Steps p.tables e below (T12.setTop (mkF m 36 #[.val (.int p0), .val (.ref w_BC), .val (.long ((1 : Int64) - (p0.toInt64))), .second] [(.long ((1 : Int64) - (p0.toInt64)))])) _
      refine XS.lconst X12.here hx rfl (hb hby at_36) ?_
      show Steps p.tables e below (T12.setTop (mkF m 37 #[.val (.int p0), .val (.ref w_BC), .val (.long ((1 : Int64) - (p0.toInt64))), .second] [(.long (1 : Int64)), (.long ((1 : Int64) - (p0.toInt64)))])) _
      refine XS.lcmp X12.here hx rfl (hb hby at_37) rfl ?_
      show Steps p.tables e below (T12.setTop (mkF m 38 #[.val (.int p0), .val (.ref w_BC), .val (.long ((1 : Int64) - (p0.toInt64))), .second] [(.int (lcmpW ((1 : Int64) - (p0.toInt64)) (1 : Int64)))])) _
      refine XS.ifNo X12.here hx rfl (hb hby at_38) rfl ((if0 _ _).trans (flt (own_bc p0 hlt)).1) ?_
      show Steps p.tables e below (T12.setTop (mkF m 41 #[.val (.int p0), .val (.ref w_BC), .val (.long ((1 : Int64) - (p0.toInt64))), .second] [])) _
      refine XS.iconst X12.here hx rfl (hb hby at_41) ?_
      show Steps p.tables e below (T12.setTop (mkF m 42 #[.val (.int p0), .val (.ref w_BC), .val (.long ((1 : Int64) - (p0.toInt64))), .second] [(.int (1 : Int32))])) _
      refine XS.goto X12.here hx rfl (pc0 := 42) (pc' := 46) rfl (hb hby at_42) (by decide) (by decide) ?_
      show Steps p.tables e below (T12.setTop (mkF m 46 #[.val (.int p0), .val (.ref w_BC), .val (.long ((1 : Int64) - (p0.toInt64))), .second] [(.int (1 : Int32))])) _
      exact retN X12 hx (t := .boolean) Bd.returns (by simp) (hb hby at_46) hr
    · show own_Pure (some (.int 1)) h0 n0 _ T12.heap _
      rw [e12]
      exact ⟨rfl, N10, rfl⟩
  · skip
    obtain ⟨_, _, ⟨T13, L13, k13, n13⟩, -, X13, ⟨Lc13, hQ13, l13, y13, z13⟩, st13⟩ := Jvm.LawKit.callS X0 hx (y := (⟨"com/example/cutover/cutover/HybridEra", "ofProlepticYear", "(I)Lcom/example/cutover/cutover/HybridEra;"⟩ : MethodName)) hown (mvT hZ (hw _ (List.mem_of_getElem? (i := 0) rfl))) (mvT hZ (hw _ (List.mem_of_getElem? (i := 1) rfl))) (mvT hZ (hw _ (List.mem_of_getElem? (i := 2) rfl))) (mvT hZ (hw _ (List.mem_of_getElem? (i := 3) rfl))) (by decide) (backOf (W := 0) (rm_of l Z a0 hw [] p0 h0 n0 Z0 w_BC w_AD hWd w_AD (if_neg hlt)) hZ (hw _ (List.mem_of_getElem? (i := 3) rfl)) (hw _ (List.mem_of_getElem? (i := 2) rfl)) (by decide) (by decide)) (g := (mkF m 1 #[.val (.int p0), .unset, .unset, .unset] [(.int p0)])) rfl (by rw [hml]; rfl) (argsL := [(.int p0)]) (rest := []) (lenOf pd_8 rfl) rfl (by show 2 * 0 + _ ≤ _; exact Nat.le_of_eq rfl) (hb hby at_1) (fun _ _ => ⟨rfl, e0, (by decide : 0 + 0 ≤ _), (by decide : 0 + 0 ≤ _)⟩)
    dsimp only [Pt.U, Pt.locs, Pt.cells, Pt.slots] at X13 l13 y13 z13 st13 hQ13
    subst l13 y13 z13
    obtain ⟨rfl, N13q, e13⟩ := hQ13
    have N13 := Fr.app N0 N13q
    obtain ⟨T14, X14, e14, st14⟩ := getS2 X13 hx hZ hown (host := "") (Or.inl (hw _ (List.mem_of_getElem? (i := 6) rfl))) Via.refl e13 S_AD (g := (mkF m 6 #[.val (.int p0), .val (.ref w_AD), .unset, .unset] [(.ref w_AD)])) rfl (hb hby at_6)
    obtain ⟨fs, hr, hrun, hended, hW, hsame⟩ := X14.leave (v := some (.int (1 : Int32))) (fun h => by rw [Bd.returns] at h; cases h)
    refine ⟨_, _, pre0 _ ?_, hrun, hended, _, _, rfl, ?_, ⟨_, rfl⟩, hW, hsame.mono (by decide) (by decide)⟩
    · show Steps p.tables e below (s₁.setTop (mkF m 0 #[.val (.int p0), .unset, .unset, .unset] [])) _
      refine XS.iloadN X0.here hx rfl (hb hby at_0) rfl ?_
      show Steps p.tables e below (s₁.setTop (mkF m 1 #[.val (.int p0), .unset, .unset, .unset] [(.int p0)])) _
      refine st13 _ ?_
      show Steps p.tables e below (T13.setTop (mkF m 4 #[.val (.int p0), .unset, .unset, .unset] [(.ref w_AD)])) _
      refine XS.astoreN X13.here hx rfl (hb hby at_4) rfl rfl (l' := #[.val (.int p0), .val (.ref w_AD), .unset, .unset]) rfl ?_
      show Steps p.tables e below (T13.setTop (mkF m 5 #[.val (.int p0), .val (.ref w_AD), .unset, .unset] [])) _
      refine XS.aloadN X13.here hx rfl (hb hby at_5) rfl rfl ?_
      show Steps p.tables e below (T13.setTop (mkF m 6 #[.val (.int p0), .val (.ref w_AD), .unset, .unset] [(.ref w_AD)])) _
      refine st14 _ ?_
      show Steps p.tables e below (T14.setTop (mkF m 9 #[.val (.int p0), .val (.ref w_AD), .unset, .unset] [(.ref w_AD), (.ref w_AD)])) _
      refine Jvm.RoadKit.acmp (g := (mkF m 9 #[.val (.int p0), .val (.ref w_AD), .unset, .unset] [(.ref w_AD), (.ref w_AD)])) X14 hx rfl rfl rfl (pc0 := 9) (pc' := 12) (same := true) rfl (hb hby at_9) rfl (decide_eq_true rfl) (by decide) (by decide) ?_
      show Steps p.tables e below (T14.setTop (mkF m 12 #[.val (.int p0), .val (.ref w_AD), .unset, .unset] [])) _
      refine XS.iloadN X14.here hx rfl (hb hby at_12) rfl ?_
      show Steps p.tables e below (T14.setTop (mkF m 13 #[.val (.int p0), .val (.ref w_AD), .unset, .unset] [(.int p0)])) _
      refine XS.i2l X14.here hx rfl (hb hby at_13) rfl ?_
      show Steps p.tables e below (T14.setTop (mkF m 14 #[.val (.int p0), .val (.ref w_AD), .unset, .unset] [(.long (p0.toInt64))])) _
      refine XS.lstoreN X14.here hx rfl (hb hby at_14) rfl (l' := #[.val (.int p0), .val (.ref w_AD), .val (.long (p0.toInt64)), .second]) rfl ?_
      show Steps p.tables e below (T14.setTop (mkF m 15 #[.val (.int p0), .val (.ref w_AD), .val (.long (p0.toInt64)), .second] [])) _
      refine XS.goto X14.here hx rfl (pc0 := 15) (pc' := 35) rfl (hb hby at_15) (by decide) (by decide) ?_
      show Steps p.tables e below (T14.setTop (mkF m 35 #[.val (.int p0), .val (.ref w_AD), .val (.long (p0.toInt64)), .second] [])) _
      refine XS.lloadN X14.here hx rfl (hb hby at_35) rfl ?_
      show Steps p.tables e below (T14.setTop (mkF m 36 #[.val (.int p0), .val (.ref w_AD), .val (.long (p0.toInt64)), .second] [(.long (p0.toInt64))])) _
      refine XS.lconst X14.here hx rfl (hb hby at_36) ?_
      show Steps p.tables e below (T14.setTop (mkF m 37 #[.val (.int p0), .val (.ref w_AD), .val (.long (p0.toInt64)), .second] [(.long (1 : Int64)), (.long (p0.toInt64))])) _
      refine XS.lcmp X14.here hx rfl (hb hby at_37) rfl ?_
      show Steps p.tables e below (T14.setTop (mkF m 38 #[.val (.int p0), .val (.ref w_AD), .val (.long (p0.toInt64)), .second] [(.int (lcmpW (p0.toInt64) (1 : Int64)))])) _
      refine XS.ifNo X14.here hx rfl (hb hby at_38) rfl ((if0 _ _).trans (flt (own_ad p0 hlt)).1) ?_
      show Steps p.tables e below (T14.setTop (mkF m 41 #[.val (.int p0), .val (.ref w_AD), .val (.long (p0.toInt64)), .second] [])) _
      refine XS.iconst X14.here hx rfl (hb hby at_41) ?_
      show Steps p.tables e below (T14.setTop (mkF m 42 #[.val (.int p0), .val (.ref w_AD), .val (.long (p0.toInt64)), .second] [(.int (1 : Int32))])) _
      refine XS.goto X14.here hx rfl (pc0 := 42) (pc' := 46) rfl (hb hby at_42) (by decide) (by decide) ?_
      show Steps p.tables e below (T14.setTop (mkF m 46 #[.val (.int p0), .val (.ref w_AD), .val (.long (p0.toInt64)), .second] [(.int (1 : Int32))])) _
      exact retN X14 hx (t := .boolean) Bd.returns (by simp) (hb hby at_46) hr
    · show own_Pure (some (.int 1)) h0 n0 _ T14.heap _
      rw [e14]
      exact ⟨rfl, N13, rfl⟩
set_option maxRecDepth 65536 in
set_option maxHeartbeats 40000000 in
theorem comes_1 {Post : Tables → Env → Array Value → State → Outcome → State → Prop} (hpost : ∀ tb e args s v u, (limb_1_1.after args s (.returned v) u = true ∧ limb_1_2.after args s (.returned v) u = true ∧ True) → FrameEnd s (.returned v) u (Jvm.fieldLocs frame_1_writes args s ++ Jvm.arrayLocs frame_1_arrays args s ++ Jvm.staticLocs frame_1_statics s) 0 0 → Post tb e args s (.returned v) u) :
    ArmFor flags0 classFile x code maxLocals ret World_1 tables_1 room_1 Calls_1 rest_1 Pre_1 Post := by
  intro l hfl _ _ p e ha hc hk s m args below hf hA hF happ hP
  obtain ⟨hcalls, hrest, hpre⟩ := hP
  obtain ⟨-, -, -, hnamed, -, -, -, hat⟩ := (Spec.applies_iff hf).mp happ
  obtain ⟨hg, hn⟩ := and_e (Cond.before_iff.mp (show (Jvm.Cond.and given_1 narrow_1).before args s = true from hpre))
  obtain ⟨gg0, hh0⟩ := and_e hg
  obtain ⟨w0, rfl⟩ : ∃ w0 : Value, args = #[w0] := by
    have hs : args.size = 1 := by simpa [Cond.value, given_1] using gg0
    obtain ⟨L⟩ := args
    match L, hs with
    | [w0], _ => exact ⟨w0, rfl⟩
  have hw := fun d (hd : d ∈ tables_1) => atoms_spec (ws := Jvm.Cond.code x code maxLocals ret :: tables_1) hat d (List.mem_cons_of_mem _ hd)
  have hfit : Fit s := fun {y c} hc i hi => by
    obtain ⟨ha, rfl⟩ := Array.getElem?_eq_some_iff.mp hc
    have q := List.all_eq_true.mp ((Array.all_eq_true_iff_forall_mem.mp hF) _ (Array.getElem_mem ha)) i (List.mem_range.mpr hi)
    simpa [Array.getElem?_eq_getElem hi] using q
  obtain ⟨i0, ei0⟩ := is_v hh0
  obtain rfl : w0 = (.int i0) := Option.some.inj ei0
  obtain ⟨g1, g2⟩ := and_e hn
  obtain ⟨g3, g4⟩ := and_e g2
  obtain ⟨g5, g6⟩ := and_e g4
  obtain ⟨w_BC, ev_BC⟩ := exa_v g1
  have E_BC := Exa.start ev_BC g1
  have S_BC := Sta.start ev_BC (Or.inr ⟨hw _ (List.mem_of_getElem? (i := 2) rfl), hw _ (List.mem_of_getElem? (i := 5) rfl)⟩)
  have F_BC_ordinal := own_fld_eq ev_BC g5
  obtain ⟨w_AD, ev_AD⟩ := exa_v g3
  have E_AD := Exa.start ev_AD g3
  have S_AD := Sta.start ev_AD (Or.inr ⟨hw _ (List.mem_of_getElem? (i := 2) rfl), hw _ (List.mem_of_getElem? (i := 7) rfl)⟩)
  have F_AD_ordinal := own_fld_eq ev_AD g6
  have hW0 : own_W s s.heap w_BC w_AD := ⟨S_BC, E_BC, F_BC_ordinal, S_AD, E_AD, F_AD_ordinal⟩
  obtain ⟨n, o, h1, h2, h3, _, L, rfl, hQ0, hq⟩ := rm_law l s _ hw tables_1 i0 s.heap s.heap.size (Nat.le_refl _) w_BC w_AD hW0 p e ha hc hk s m _ below hf ((Spec.applies_iff_loose hf).mp happ).1 ⟨rfl, State.Warmed39.refl s, rfl⟩ trivial
  have N := hQ0.2.1
  obtain rfl := hQ0.1
  refine ⟨n, _, h1, h2, h3, hpost _ _ _ _ _ _ ⟨Cond.after_iff.mpr rfl, Cond.after_iff.mpr (eq_i res_at (Term.int_eval (1)) rfl), trivial⟩ ⟨hq.1, hq.2.1, (hq.2.2.sift fun y hy => Or.inr (N y hy)).mono (by decide) (by decide)⟩⟩
theorem main_1_1 : Claimed_1_1 := comes_1 fun _ _ _ _ _ _ h hF => ⟨h.1, hF⟩
theorem main_1_2 : Claimed_1_2 := comes_1 fun _ _ _ _ _ _ h hF => ⟨h.2.1, hF⟩
end Jvm.Pilot.@@N@@
namespace Jvm.Pilot.@@N@@
open Jvm Jvm.ClassFile Sem Op Lib Jvm.Free Jvm.Stand Jvm.Pilot.@@N@@.Jvm.D
/-! MADE BY PROGRAM (witnessworld.py) out of the Statement's table words and the real class files: 15 classes; the members and pool entries that the words name. The judged class is class 1, her method 1. -/
namespace start1
open Jvm.ClassFile
def u (s : String) : CpInfo := .utf8 (stringToUtf16 s)
/-- a pool by its gaps: so many unusable entries, then the entry; so many at the end -/
def gap : Nat → List CpInfo → List CpInfo
  | 0, r => r
  | n + 1, r => .unusable :: gap n r
def poolList (es : List (Nat × CpInfo)) (last : Nat) : List CpInfo := es.foldr (fun e r => gap e.1 (e.2 :: r)) (gap last [])
def pool (es : List (Nat × CpInfo)) (last : Nat) : Array CpInfo := ⟨poolList es last⟩
def fileOf (pool : Array CpInfo) (this : Nat) (attrs : Array Attribute := #[]) (ms : Array MethodInfo := #[]) (fl : Nat := 33) (sup : Nat := 0) (ifs : Array Nat := #[]) (fds : Array FieldInfo := #[]) : ClassFile where
  minorVersion := 0
  majorVersion := 65
  constantPool := pool
  accessFlags := fl
  thisClass := this
  superClass := sup
  interfaces := ifs
  fields := fds
  methods := ms
  attributes := attrs
def plain (name : String) (sup : Option ClassId) : Class where
  name := name
  kind := .ordinary
  loader := none
  accessFlags := 33
  super := sup
  interfaces := #[]
  cf := none
  fields := #[]
  methods := #[]
  instanceTypes := #[]
  staticTypes := #[]
  resolved := #[]
  callSites := []
  init := .initialized
  statics := none
  mirror := none

def pool0 : Array CpInfo := pool [(5, u "<init>"), (0, u "()V"), (1, .class_ 10), (1, u "java/lang/Object")] 113

def k0m0 : Method := { name := "<init>", desc := "()V", sig := { parameters := [], returnType := none }, accessFlags := 1, code := none }
/-- java/lang/Object -/
def k0 : Class := { plain "java/lang/Object" none with
  accessFlags := 33
  interfaces := #[]
  cf := some (fileOf pool0 8 #[] #[{ accessFlags := 1, nameIndex := 5, descriptorIndex := 6, attributes := #[] }] 33 0 #[] #[])
  fields := #[]
  methods := #[k0m0]
  instanceTypes := #[]
  staticTypes := #[]
  resolved := Array.replicate 124 none
  statics := none }

def pool1 : Array CpInfo := pool [(2, .class_ 4), (1, u "java/lang/Object"), (0, u "<init>"), (0, u "()V"), (0, .methodref 8 9), (0, .class_ 10), (0, .nameAndType 11 12), (0, u "com/example/cutover/cutover/HybridEra"), (0, u "ofProlepticYear"), (0, u "(I)Lcom/example/cutover/cutover/HybridEra;"), (0, .fieldref 8 14), (0, .nameAndType 15 16), (0, u "AD"), (0, u "Lcom/example/cutover/cutover/HybridEra;"), (0, .fieldref 8 18), (0, .nameAndType 19 16), (0, u "BC"), (0, .class_ 21), (0, u "com/example/cutover/cutover/HybridEraOfProlepticYearPinLaw"), (2, u "law"), (0, u "(I)Z")] 3

def k1m0 : Method := { name := "<init>", desc := "()V", sig := { parameters := [], returnType := none }, accessFlags := 1, code := none }
def k1c1 : Code := { maxStack := 4, maxLocals := 4, code := code, exceptionTable := #[], attributes := #[] }
def k1m1 : Method := { name := "law", desc := "(I)Z", sig := { parameters := [.int], returnType := some .boolean }, accessFlags := 9, code := some k1c1 }
/-- com/example/cutover/cutover/HybridEraOfProlepticYearPinLaw -/
def k1 : Class := { plain "com/example/cutover/cutover/HybridEraOfProlepticYearPinLaw" (some 0) with
  accessFlags := 49
  interfaces := #[]
  cf := some (fileOf pool1 20 #[] #[{ accessFlags := 1, nameIndex := 5, descriptorIndex := 6, attributes := #[] }, { accessFlags := 9, nameIndex := 24, descriptorIndex := 25, attributes := #[] }] 49 2 #[] #[])
  fields := #[]
  methods := #[k1m0, k1m1]
  instanceTypes := #[]
  staticTypes := #[]
  resolved := Array.replicate 29 none
  statics := none }

def pool2 : Array CpInfo := pool [(1, .class_ 2), (0, u "java/lang/constant/Constable"), (0, .class_ 4), (0, u "java/lang/Object")] 6

/-- java/lang/constant/Constable -/
def k2 : Class := { plain "java/lang/constant/Constable" (some 0) with
  accessFlags := 1537
  interfaces := #[]
  cf := some (fileOf pool2 1 #[] #[] 1537 3 #[] #[])
  fields := #[]
  methods := #[]
  instanceTypes := #[]
  staticTypes := #[]
  resolved := Array.replicate 11 none
  statics := none }

def pool3 : Array CpInfo := pool [(1, .class_ 2), (0, u "java/lang/Comparable"), (0, .class_ 4), (0, u "java/lang/Object")] 7

/-- java/lang/Comparable -/
def k3 : Class := { plain "java/lang/Comparable" (some 0) with
  accessFlags := 1537
  interfaces := #[]
  cf := some (fileOf pool3 1 #[] #[] 1537 3 #[] #[])
  fields := #[]
  methods := #[]
  instanceTypes := #[]
  staticTypes := #[]
  resolved := Array.replicate 12 none
  statics := none }

def pool4 : Array CpInfo := pool [(1, .class_ 2), (0, u "java/io/Serializable"), (0, .class_ 4), (0, u "java/lang/Object")] 2

/-- java/io/Serializable -/
def k4 : Class := { plain "java/io/Serializable" (some 0) with
  accessFlags := 1537
  interfaces := #[]
  cf := some (fileOf pool4 1 #[] #[] 1537 3 #[] #[])
  fields := #[]
  methods := #[]
  instanceTypes := #[]
  staticTypes := #[]
  resolved := Array.replicate 7 none
  statics := none }

def pool5 : Array CpInfo := pool [(2, .class_ 4), (1, u "java/lang/Enum"), (0, u "name"), (0, u "Ljava/lang/String;"), (2, u "ordinal"), (0, u "I"), (1, .class_ 14), (1, u "java/lang/Object"), (4, u "hash"), (86, .class_ 108), (1, u "java/lang/Enum$EnumDesc"), (2, .class_ 112), (0, u "java/lang/constant/Constable"), (0, .class_ 114), (0, u "java/lang/Comparable"), (0, .class_ 116), (0, u "java/io/Serializable")] 87

/-- java/lang/Enum -/
def k5 : Class := { plain "java/lang/Enum" (some 0) with
  accessFlags := 1057
  interfaces := #[2, 3, 4]
  cf := some (fileOf pool5 2 #[.nestMembers #[106]] #[] 1057 12 #[111, 113, 115] #[{ accessFlags := 18, nameIndex := 5, descriptorIndex := 6, attributes := #[] }, { accessFlags := 18, nameIndex := 9, descriptorIndex := 10, attributes := #[] }, { accessFlags := 2, nameIndex := 19, descriptorIndex := 10, attributes := #[] }])
  fields := #[{ name := "name", type := (.object "java/lang/String"), accessFlags := 18, slot := 0, constantValue := 0 }, { name := "ordinal", type := .int, accessFlags := 18, slot := 1, constantValue := 0 }, { name := "hash", type := .int, accessFlags := 2, slot := 2, constantValue := 0 }]
  methods := #[]
  instanceTypes := #[(.object "java/lang/String"), .int, .int]
  staticTypes := #[]
  resolved := Array.replicate 204 none
  statics := none }

def pool6 : Array CpInfo := pool [(4, .class_ 6), (1, u "java/time/temporal/TemporalAccessor"), (95, .class_ 103), (0, u "java/lang/Object")] 21

/-- java/time/temporal/TemporalAccessor -/
def k6 : Class := { plain "java/time/temporal/TemporalAccessor" (some 0) with
  accessFlags := 1537
  interfaces := #[]
  cf := some (fileOf pool6 4 #[] #[] 1537 102 #[] #[])
  fields := #[]
  methods := #[]
  instanceTypes := #[]
  staticTypes := #[]
  resolved := Array.replicate 125 none
  statics := none }

def pool7 : Array CpInfo := pool [(1, .class_ 2), (0, u "java/time/temporal/TemporalAdjuster"), (0, .class_ 4), (0, u "java/lang/Object")] 6

/-- java/time/temporal/TemporalAdjuster -/
def k7 : Class := { plain "java/time/temporal/TemporalAdjuster" (some 0) with
  accessFlags := 1537
  interfaces := #[]
  cf := some (fileOf pool7 1 #[] #[] 1537 3 #[] #[])
  fields := #[]
  methods := #[]
  instanceTypes := #[]
  staticTypes := #[]
  resolved := Array.replicate 11 none
  statics := none }

def pool8 : Array CpInfo := pool [(14, .class_ 16), (1, u "java/time/temporal/TemporalAccessor"), (3, .class_ 22), (1, u "java/time/chrono/Era"), (73, .class_ 97), (0, u "java/lang/Object"), (0, .class_ 99), (0, u "java/time/temporal/TemporalAdjuster")] 29

/-- java/time/chrono/Era -/
def k8 : Class := { plain "java/time/chrono/Era" (some 0) with
  accessFlags := 1537
  interfaces := #[6, 7]
  cf := some (fileOf pool8 20 #[] #[] 1537 96 #[14, 98] #[])
  fields := #[]
  methods := #[]
  instanceTypes := #[]
  staticTypes := #[]
  resolved := Array.replicate 129 none
  statics := none }

def pool9 : Array CpInfo := pool [(1, .class_ 2), (0, u "com/example/cutover/cutover/HybridEra"), (0, .fieldref 1 4), (0, .nameAndType 5 6), (0, u "BC"), (0, u "Lcom/example/cutover/cutover/HybridEra;"), (0, .fieldref 1 8), (0, .nameAndType 9 6), (0, u "AD"), (2, u "$VALUES"), (0, u "[Lcom/example/cutover/cutover/HybridEra;"), (6, .class_ 22), (1, u "java/lang/Enum"), (26, .class_ 50), (0, u "java/time/chrono/Era"), (8, u "(I)Lcom/example/cutover/cutover/HybridEra;"), (1, u "ofProlepticYear")] 23

def k9c0 : Code := { maxStack := 2, maxLocals := 1, code := prog_17_method_5_code, exceptionTable := #[], attributes := #[] }
def k9m0 : Method := { name := "ofProlepticYear", desc := "(I)Lcom/example/cutover/cutover/HybridEra;", sig := { parameters := [.int], returnType := some (.object "com/example/cutover/cutover/HybridEra") }, accessFlags := 8, code := some k9c0 }
/-- com/example/cutover/cutover/HybridEra -/
def k9 : Class := { plain "com/example/cutover/cutover/HybridEra" (some 5) with
  accessFlags := 16433
  interfaces := #[8]
  cf := some (fileOf pool9 1 #[] #[{ accessFlags := 8, nameIndex := 61, descriptorIndex := 59, attributes := #[] }] 16433 20 #[49] #[{ accessFlags := 16409, nameIndex := 5, descriptorIndex := 6, attributes := #[] }, { accessFlags := 16409, nameIndex := 9, descriptorIndex := 6, attributes := #[] }, { accessFlags := 4122, nameIndex := 12, descriptorIndex := 13, attributes := #[] }])
  fields := #[{ name := "BC", type := (.object "com/example/cutover/cutover/HybridEra"), accessFlags := 16409, slot := 0, constantValue := 0 }, { name := "AD", type := (.object "com/example/cutover/cutover/HybridEra"), accessFlags := 16409, slot := 1, constantValue := 0 }, { name := "$VALUES", type := (.array (.object "com/example/cutover/cutover/HybridEra")), accessFlags := 4122, slot := 2, constantValue := 0 }]
  methods := #[k9m0]
  instanceTypes := #[(.object "java/lang/String"), .int, .int]
  staticTypes := #[(.object "com/example/cutover/cutover/HybridEra"), (.object "com/example/cutover/cutover/HybridEra"), (.array (.object "com/example/cutover/cutover/HybridEra"))]
  resolved := Array.replicate 85 none
  statics := some 0 }

def pool10 : Array CpInfo := pool [(1, u "java/lang/Cloneable"), (0, .class_ 1), (0, u "java/lang/Object"), (0, .class_ 3)] 3

/-- java/lang/Cloneable -/
def k10 : Class := { plain "java/lang/Cloneable" (some 0) with
  accessFlags := 1537
  interfaces := #[]
  cf := some (fileOf pool10 2 #[] #[] 1537 4 #[] #[])
  fields := #[]
  methods := #[]
  instanceTypes := #[]
  staticTypes := #[]
  resolved := Array.replicate 8 none
  statics := none }

/-- the primitive byte -/
def k11 : Class := { plain "byte" none with kind := .primitive 'B', accessFlags := 0x411 }
/-- [B -/
def k12 : Class := { plain "[B" (some 0) with kind := .array 11 .byte, interfaces := #[10, 4], accessFlags := 1041 }

/-- the primitive int -/
def k13 : Class := { plain "int" none with kind := .primitive 'I', accessFlags := 0x411 }
/-- [I -/
def k14 : Class := { plain "[I" (some 0) with kind := .array 13 .int, interfaces := #[10, 4], accessFlags := 1041 }

def heap : Heap := #[{ cls := 9, slots := #[.ref 1, .ref 2, .null], vm := .statics 9 },
  { cls := 9, slots := #[.null, .int 0, .int 0], vm := .none },
  { cls := 9, slots := #[.null, .int 1, .int 0], vm := .none }]
def classes : Array Class := #[k0, k1, k2, k3, k4, k5, k6, k7, k8, k9, k10, k11, k12, k13, k14]
def interned : List (Array UInt16 × Addr) := []
def slotsUsed : Nat := 9
def theMethod : MethodId := ⟨1, 1⟩
def args0 : Array Value := #[.int 5]
def aboutOver (below : List Frame) : State where
  vm := { classes := classes, interned := interned.toArray }
  heap := heap
  slotsUsed := slotsUsed
  threads := #[{ frames := .invoking theMethod args0 :: below }]
def below0 : List Frame := [.native { method := ⟨0, 0⟩, args := #[] }]
def about1 : State := aboutOver below0
def p0 : Program := .bare "" "" ""
def e0 : Env := launch0.env 0 0 0
theorem w_frames : about1.frames = Frame.invoking theMethod args0 :: below0 := rfl
set_option maxRecDepth 65536 in
theorem w_args : argsFit about1.vm theMethod args0 = true := by decide +kernel
set_option maxRecDepth 65536 in
theorem w_heap : heapFits about1 = true := by decide +kernel
set_option maxRecDepth 65536 in
theorem w_runnable : about1.curStatus? = some .runnable := by decide +kernel
set_option maxRecDepth 65536 in
theorem w_alone : about1.alone = true := by decide +kernel
set_option maxRecDepth 65536 in
theorem w_named : about1.methodNamed? x = some theMethod := by decide +kernel
set_option maxRecDepth 65536 in
theorem w_hears : about1.hears theMethod below0 = true := by decide +kernel
set_option maxRecDepth 65536 in
theorem w_ripe : about1.ripe theMethod args0 below0 = true := by decide +kernel
theorem w_running : about1.status = .running := rfl
set_option maxRecDepth 65536 in
theorem w_room : about1.hasRoom e0.platform room_1 = true :=
  launch0.hasRoom_least _ room_1 (by decide +kernel) (by decide +kernel) (by decide +kernel) (by decide +kernel) (by decide +kernel) (by decide +kernel)
theorem allAtoms_all (ts : List Jvm.Cond) (a : Array Jvm.Value) (st : Jvm.State) : (allAtoms ts).before a st = ts.all (fun c => c.before a st) := by
  induction ts with
  | nil => rfl
  | cons c t ih =>
    show (Jvm.Cond.and c (allAtoms t)).before a st = _
    rw [Jvm.Cond.before_and, ih, List.all_cons]
def words1 : List Jvm.Cond := Jvm.Cond.code x code maxLocals ret :: tables_1
/-- a 'code' word, met by the world's own term for the bytes: nothing is compared byte by byte -/
theorem code_word {y : MethodName} {bytes : ByteArray} {mx : Nat} {rt : Option FieldType} {a : Array Value} {s : State} {m : MethodId} {meth : Method} {c : Code} (h1 : s.methodNamed? y = some m) (h2 : s.vm.method? m = some meth) (h3 : meth.code = some c) (h4 : c.code = bytes)
    (h5 : (c.maxLocals == mx && c.exceptionTable.isEmpty && decide (c.maxStack ≤ mostOperands) && decide (meth.sig.returnType = rt) && !meth.locks && decide (parseMethodDescriptor y.desc = some meth.sig)) = true) : (Jvm.Cond.code y bytes mx rt).before a s = true := by
  simp only [Bool.and_eq_true, beq_iff_eq, Bool.not_eq_true', decide_eq_true_eq] at h5
  obtain ⟨⟨⟨⟨⟨g1, g2⟩, g3⟩, g4⟩, g5⟩, g6⟩ := h5
  simp [Cond.before, Cond.holds, Cond.value, h1, h2, h3, h4, g1, g2, g3, g4, g5, g6]
def isCode : Jvm.Cond → Bool
  | .code _ _ _ _ => true
  | _ => false
theorem all_split {L : List Jvm.Cond} {P : Jvm.Cond → Bool} (h1 : L.all (fun c => isCode c || P c) = true) (h2 : ∀ c ∈ L.filter isCode, P c = true) : L.all P = true := by
  refine List.all_eq_true.mpr fun c hc => ?_
  have h := List.all_eq_true.mp h1 c hc
  rcases Bool.eq_false_or_eq_true (isCode c) with hi | hi
  · exact h2 c (List.mem_filter.mpr ⟨hc, hi⟩)
  · simpa [hi] using h
set_option maxRecDepth 65536 in
theorem w_c0 : (Jvm.Cond.code x code maxLocals ret).before args0 about1 = true := code_word (m := ⟨1, 1⟩) (meth := k1m1) (c := k1c1) (by decide +kernel) rfl rfl rfl (by decide +kernel)
set_option maxRecDepth 65536 in
theorem w_c1 : (Jvm.Cond.code ({ cls := "com/example/cutover/cutover/HybridEra", name := "ofProlepticYear", desc := "(I)Lcom/example/cutover/cutover/HybridEra;" } : Jvm.MethodName) prog_17_method_5_code (1 : Nat) (Option.some (Jvm.ClassFile.FieldType.object "com/example/cutover/cutover/HybridEra"))).before args0 about1 = true := code_word (m := ⟨9, 0⟩) (meth := k9m0) (c := k9c0) (by decide +kernel) rfl rfl rfl (by decide +kernel)
def codes1 : List Jvm.Cond := [Jvm.Cond.code x code maxLocals ret, Jvm.Cond.code ({ cls := "com/example/cutover/cutover/HybridEra", name := "ofProlepticYear", desc := "(I)Lcom/example/cutover/cutover/HybridEra;" } : Jvm.MethodName) prog_17_method_5_code (1 : Nat) (Option.some (Jvm.ClassFile.FieldType.object "com/example/cutover/cutover/HybridEra"))]
set_option maxRecDepth 65536 in
theorem codes_eq : words1.filter isCode = codes1 := rfl
theorem w_codes : ∀ c ∈ words1.filter isCode, c.before args0 about1 = true := by
  rw [codes_eq]
  intro c hc
  simp only [codes1, List.mem_cons, List.not_mem_nil, or_false] at hc
  rcases hc with rfl | rfl
  · exact w_c0
  · exact w_c1
set_option maxRecDepth 65536 in
theorem w_t1 : words1.all (fun c => isCode c || c.before args0 about1) = true := by decide +kernel
theorem w_tables : (allAtoms (Jvm.Cond.code x code maxLocals ret :: tables_1)).before args0 about1 = true := by
  rw [allAtoms_all]
  show words1.all (fun c => c.before args0 about1) = true
  refine all_split ?_ w_codes
  rw [w_t1]
set_option maxRecDepth 65536 in
theorem w_case : (Jvm.Cond.and given_1 narrow_1).before args0 about1 = true := by decide +kernel
theorem w_applies : (headSpec (Jvm.Cond.code x code maxLocals ret :: tables_1) room_1).applies x e0.platform about1 = true :=
  (Spec.applies_iff w_frames).mpr ⟨w_running, w_runnable, w_alone, w_named, w_hears, w_ripe, w_room, w_tables⟩
theorem atStart : AtStart classFile x code maxLocals ret World_1 tables_1 room_1 Calls_1 rest_1 Pre_1 launch0 p0 e0 about1 theMethod args0 below0 :=
  ⟨lists_1, trivial, launch0.admits_env _ _ _, launch0.least_env, fairChoices_fair.cas, fairChoices_fair.clock, w_frames, w_args, w_heap, w_applies, trivial, trivial, w_case⟩
end start1
theorem witness_1 : WitnessClaimed_1 := ⟨start1.p0, start1.e0, start1.about1, start1.theMethod, start1.args0, start1.below0, start1.atStart⟩
end Jvm.Pilot.@@N@@
