import JvmDerived
import JvmDerived.Pilot.@@N@@Statement
import JvmDerived.Pilot.@@N@@Code
set_option linter.unusedVariables false
set_option linter.unusedSimpArgs false

namespace Jvm.Pilot.@@N@@
open Jvm Jvm.ClassFile Sem Op Lib Jvm.Free Jvm.Stand Jvm.LawKit Jvm.RoadKit Bundle Jvm.Pilot.@@N@@.Jvm.D
/-- a body that writes nothing and returns r -/
def own_Pure (r : Option Value) (h0 : Heap) (n0 : Nat) (v : Option Value) (h : Heap) (L : List Loc) : Prop := v = r ∧ Fr n0 L ∧ h = h0
theorem own_fld_eq {args : Array Value} {Z : State} {t : Term} {a : Addr} {C n d : String} {k : Int32} (ht : t.eval args Z none [] Z = some (.ref a))
    (h : (Cond.eq (.field t C n d) (.int k)).value args Z none Z [] = some true) : Fld Z Z.heap a C n d (.int k) := by
  apply Fld.start
  have e1 : (Term.field t C n d).eval args Z none [] Z = Z.fieldOf? a C n d := fld_at ht
  rw [← e1]
  have e2 : (Term.int k).eval args Z none [] Z = some (.int k) := Term.int_eval k
  simp only [Cond.value] at h
  cases hx : (Term.field t C n d).eval args Z none [] Z with
  | none => simp [hx] at h
  | some v => cases v <;> simp [hx, e2] at h ⊢; exact h
/-- what the case says of the pinned statics -/
def own_W (Z : State) (h : Heap) (w_CURRENT w_EXPIRED_ROTATED w_ROTATED w_WRONG w_EXPIRED_CURRENT : Addr) : Prop :=
  Sta Z h "com/example/escrowd/escrowd/client/SecretMatch" "CURRENT" "Lcom/example/escrowd/escrowd/client/SecretMatch;" (.ref w_CURRENT) ∧
  Exa Z h w_CURRENT "com/example/escrowd/escrowd/client/SecretMatch" ∧
  Fld Z h w_CURRENT "java/lang/Enum" "ordinal" "I" (.int (0 : Int32)) ∧
  Sta Z h "com/example/escrowd/escrowd/client/SecretMatch" "EXPIRED_ROTATED" "Lcom/example/escrowd/escrowd/client/SecretMatch;" (.ref w_EXPIRED_ROTATED) ∧
  Exa Z h w_EXPIRED_ROTATED "com/example/escrowd/escrowd/client/SecretMatch" ∧
  Fld Z h w_EXPIRED_ROTATED "java/lang/Enum" "ordinal" "I" (.int (3 : Int32)) ∧
  Sta Z h "com/example/escrowd/escrowd/client/SecretMatch" "ROTATED" "Lcom/example/escrowd/escrowd/client/SecretMatch;" (.ref w_ROTATED) ∧
  Exa Z h w_ROTATED "com/example/escrowd/escrowd/client/SecretMatch" ∧
  Fld Z h w_ROTATED "java/lang/Enum" "ordinal" "I" (.int (1 : Int32)) ∧
  Sta Z h "com/example/escrowd/escrowd/client/SecretMatch" "WRONG" "Lcom/example/escrowd/escrowd/client/SecretMatch;" (.ref w_WRONG) ∧
  Exa Z h w_WRONG "com/example/escrowd/escrowd/client/SecretMatch" ∧
  Fld Z h w_WRONG "java/lang/Enum" "ordinal" "I" (.int (4 : Int32)) ∧
  Sta Z h "com/example/escrowd/escrowd/client/SecretMatch" "EXPIRED_CURRENT" "Lcom/example/escrowd/escrowd/client/SecretMatch;" (.ref w_EXPIRED_CURRENT) ∧
  Exa Z h w_EXPIRED_CURRENT "com/example/escrowd/escrowd/client/SecretMatch" ∧
  Fld Z h w_EXPIRED_CURRENT "java/lang/Enum" "ordinal" "I" (.int (2 : Int32))
theorem own_W.ext {Z : State} {h h' : Heap} {w_CURRENT w_EXPIRED_ROTATED w_ROTATED w_WRONG w_EXPIRED_CURRENT : Addr} (E : Ext h h') (H : own_W Z h w_CURRENT w_EXPIRED_ROTATED w_ROTATED w_WRONG w_EXPIRED_CURRENT) : own_W Z h' w_CURRENT w_EXPIRED_ROTATED w_ROTATED w_WRONG w_EXPIRED_CURRENT := by
  obtain ⟨S_CURRENT, E_CURRENT, F_CURRENT_ordinal, S_EXPIRED_ROTATED, E_EXPIRED_ROTATED, F_EXPIRED_ROTATED_ordinal, S_ROTATED, E_ROTATED, F_ROTATED_ordinal, S_WRONG, E_WRONG, F_WRONG_ordinal, S_EXPIRED_CURRENT, E_EXPIRED_CURRENT, F_EXPIRED_CURRENT_ordinal⟩ := H
  exact ⟨S_CURRENT.ext E, E_CURRENT.ext E, F_CURRENT_ordinal.ext E, S_EXPIRED_ROTATED.ext E, E_EXPIRED_ROTATED.ext E, F_EXPIRED_ROTATED_ordinal.ext E, S_ROTATED.ext E, E_ROTATED.ext E, F_ROTATED_ordinal.ext E, S_WRONG.ext E, E_WRONG.ext E, F_WRONG_ordinal.ext E, S_EXPIRED_CURRENT.ext E, E_EXPIRED_CURRENT.ext E, F_EXPIRED_CURRENT_ordinal.ext E⟩
theorem d1_0 : decode prog_24_method_4_code 0 = .ok (.aload_n 0, 1) := by decide +kernel
theorem d1_1 : decode prog_24_method_4_code 1 = .ok (.getstatic 3, 3) := by decide +kernel
theorem d1_4 : decode prog_24_method_4_code 4 = .ok (.if_acmp .eq 10, 3) := by decide +kernel
theorem d1_14 : decode prog_24_method_4_code 14 = .ok (.iconst 1, 1) := by decide +kernel
theorem d1_15 : decode prog_24_method_4_code 15 = .ok (.goto 4, 3) := by decide +kernel
theorem d1_19 : decode prog_24_method_4_code 19 = .ok (.ireturn, 1) := by decide +kernel
theorem d1_7 : decode prog_24_method_4_code 7 = .ok (.aload_n 0, 1) := by decide +kernel
theorem d1_8 : decode prog_24_method_4_code 8 = .ok (.getstatic 7, 3) := by decide +kernel
theorem d1_11 : decode prog_24_method_4_code 11 = .ok (.if_acmp .ne 7, 3) := by decide +kernel
theorem d1_18 : decode prog_24_method_4_code 18 = .ok (.iconst 0, 1) := by decide +kernel
theorem pn_10 : plainName "com/example/escrowd/escrowd/client/SecretMatch" = true := by first | (simp [plainName, overriddenIn]; done) | decide +kernel
theorem ef_rm_auth (m : MethodId) (x0 : Addr) : entryFrame m #[(.ref x0)] 1 = mkF m 0 #[.val (.ref x0)] [] := by first | (simp [entryFrame, mkF, argsToLocals, Value.category]; done) | rfl
set_option maxRecDepth 65536 in
set_option maxHeartbeats 40000000 in
theorem rm_auth (l : Launch) (Z : State) (a0 : Array Value) (hw : ∀ d ∈ tables_1, d.before a0 Z = true) (ws : List Jvm.Cond) (a1 : Addr) (h0 : Heap) (n0 : Nat) (Z0 : n0 ≤ h0.size) (w_CURRENT w_EXPIRED_ROTATED w_ROTATED w_WRONG w_EXPIRED_CURRENT : Addr) (hWd : own_W Z h0 w_CURRENT w_EXPIRED_ROTATED w_ROTATED w_WRONG w_EXPIRED_CURRENT) (r : Int32) (hres : (if a1 = w_CURRENT then (1 : Int32) else if a1 = w_ROTATED then 1 else 0) = r) :
    MetFree l (⟨"com/example/escrowd/escrowd/client/SecretMatch", "authenticates", "()Z"⟩ : MethodName) (head1 (Jvm.Cond.code (⟨"com/example/escrowd/escrowd/client/SecretMatch", "authenticates", "()Z"⟩ : MethodName) prog_24_method_4_code 1 (some .boolean) :: ws) ({ frames := 0, cells := 0, slots := 0, locals := 0 } : Room)) (fun a U => a = #[(.ref a1)] ∧ Z.Warmed39 U.vm ∧ U.heap = h0) (fun _ _ _ _ _ => True) (fun _ U o U' => ∃ v L, o = .returned v ∧ own_Pure (some (.int r)) h0 n0 v U'.heap L ∧ FrameEnd U o U' L ({ frames := 0, cells := 0, slots := 0, locals := 0 } : Room).cells ({ frames := 0, cells := 0, slots := 0, locals := 0 } : Room).slots) := by
  refine MetFree.of_bodySF (plainFor_of_name pn_10) hisR ?_
  intro p e s m args below meth c s₁ Bd hml0 hP hK
  obtain ⟨rfl, hZ, hh⟩ := hP
  have hx := Bd.exec
  have hby := Bd.bytes
  have hml : c.maxLocals = 1 := hml0
  have hown : s.vm.findClass "com/example/escrowd/escrowd/client/SecretMatch" = some m.cls := findClass_of_methodNamed Bd.named
  have hnm := (name_of_methodNamed Bd.named Bd.method).1
  have X0 : Stand p l e ({ frames := 0, cells := 0, slots := 0, locals := 0 } : Room) s m #[(.ref a1)] below meth c s₁ [] 0 0 := Stand.of_body Bd
  have e0 : s₁.heap = h0 := by rw [← hh, Bd.state]; rfl
  have N0 := Fr.nil n0
  have pre0 : ∀ t, Steps p.tables e below (s₁.setTop (mkF m 0 #[.val (.ref a1)] [])) t → Steps p.tables e below (s₁.setTop (entryFrame m #[(.ref a1)] 1)) t := fun t kq => castTop (ef_rm_auth m a1) kq
  obtain ⟨S_CURRENT, E_CURRENT, F_CURRENT_ordinal, S_EXPIRED_ROTATED, E_EXPIRED_ROTATED, F_EXPIRED_ROTATED_ordinal, S_ROTATED, E_ROTATED, F_ROTATED_ordinal, S_WRONG, E_WRONG, F_WRONG_ordinal, S_EXPIRED_CURRENT, E_EXPIRED_CURRENT, F_EXPIRED_CURRENT_ordinal⟩ := hWd
  obtain ⟨T19, X19, e19, st19⟩ := getS2 X0 hx hZ hown (host := "") (Or.inl (hw _ (List.mem_of_getElem? (i := 9) rfl))) Via.refl e0 S_CURRENT (g := (mkF m 1 #[.val (.ref a1)] [(.ref a1)])) rfl (hb hby d1_1)
  by_cases hc4_20 : a1 = w_CURRENT
  · -- pc 4: a1 = w_CURRENT
    obtain ⟨fs, hr, hrun, hended, hW, hsame⟩ := X19.leave (v := some (.int (1 : Int32))) (fun h => by rw [Bd.returns] at h; cases h)
    refine ⟨_, _, pre0 _ ?_, hrun, hended, _, _, rfl, ?_, ⟨_, rfl⟩, hW, hsame.mono (by decide) (by decide)⟩
    · show Steps p.tables e below (s₁.setTop (mkF m 0 #[.val (.ref a1)] [])) _
      refine XS.aloadN X0.here hx rfl (hb hby d1_0) rfl rfl ?_
      show Steps p.tables e below (s₁.setTop (mkF m 1 #[.val (.ref a1)] [(.ref a1)])) _
      refine st19 _ ?_
      show Steps p.tables e below (T19.setTop (mkF m 4 #[.val (.ref a1)] [(.ref w_CURRENT), (.ref a1)])) _
      refine Jvm.RoadKit.acmp (g := (mkF m 4 #[.val (.ref a1)] [(.ref w_CURRENT), (.ref a1)])) X19 hx rfl rfl rfl (pc0 := 4) (pc' := 14) (same := true) rfl (hb hby d1_4) rfl (decide_eq_true (congrArg Value.ref hc4_20)) (by decide) (by decide) ?_
      show Steps p.tables e below (T19.setTop (mkF m 14 #[.val (.ref a1)] [])) _
      refine XS.iconst X19.here hx rfl (hb hby d1_14) ?_
      show Steps p.tables e below (T19.setTop (mkF m 15 #[.val (.ref a1)] [(.int (1 : Int32))])) _
      refine XS.goto X19.here hx rfl (pc0 := 15) (pc' := 19) rfl (hb hby d1_15) (by decide) (by decide) ?_
      show Steps p.tables e below (T19.setTop (mkF m 19 #[.val (.ref a1)] [(.int (1 : Int32))])) _
      exact retN X19 hx (t := .boolean) Bd.returns (by simp) (hb hby d1_19) hr
    · show own_Pure (some (.int r)) h0 n0 _ T19.heap _
      rw [e19]
      exact ⟨by rw [← hres]; simp [hc4_20], N0, rfl⟩
  · -- pc 4: not a1 = w_CURRENT
    obtain ⟨T21, X21, e21, st21⟩ := getS2 X19 hx hZ hown (host := "") (Or.inl (hw _ (List.mem_of_getElem? (i := 12) rfl))) Via.refl e19 S_ROTATED (g := (mkF m 8 #[.val (.ref a1)] [(.ref a1)])) rfl (hb hby d1_8)
    have ck23 : ∀ t, Steps p.tables e below (T21.setTop (mkF m 11 #[.val (.ref a1)] [(.ref w_ROTATED), (.ref a1)])) t → Steps p.tables e below (s₁.setTop (entryFrame m #[(.ref a1)] 1)) t := by
      intro t kt
      refine pre0 _ ?_
      show Steps p.tables e below (s₁.setTop (mkF m 0 #[.val (.ref a1)] [])) _
      refine XS.aloadN X0.here hx rfl (hb hby d1_0) rfl rfl ?_
      show Steps p.tables e below (s₁.setTop (mkF m 1 #[.val (.ref a1)] [(.ref a1)])) _
      refine st19 _ ?_
      show Steps p.tables e below (T19.setTop (mkF m 4 #[.val (.ref a1)] [(.ref w_CURRENT), (.ref a1)])) _
      refine Jvm.RoadKit.acmp (g := (mkF m 4 #[.val (.ref a1)] [(.ref w_CURRENT), (.ref a1)])) X19 hx rfl rfl rfl (pc0 := 4) (pc' := 7) (same := false) rfl (hb hby d1_4) rfl (decide_eq_false fun q => hc4_20 (Value.ref.inj q)) (by decide) (by decide) ?_
      show Steps p.tables e below (T19.setTop (mkF m 7 #[.val (.ref a1)] [])) _
      refine XS.aloadN X19.here hx rfl (hb hby d1_7) rfl rfl ?_
      show Steps p.tables e below (T19.setTop (mkF m 8 #[.val (.ref a1)] [(.ref a1)])) _
      refine st21 _ ?_
      exact kt
    by_cases hc11_22 : a1 = w_ROTATED
    · -- pc 11: a1 = w_ROTATED
      obtain ⟨fs, hr, hrun, hended, hW, hsame⟩ := X21.leave (v := some (.int (1 : Int32))) (fun h => by rw [Bd.returns] at h; cases h)
      refine ⟨_, _, ck23 _ ?_, hrun, hended, _, _, rfl, ?_, ⟨_, rfl⟩, hW, hsame.mono (by decide) (by decide)⟩
      · show Steps p.tables e below (T21.setTop (mkF m 11 #[.val (.ref a1)] [(.ref w_ROTATED), (.ref a1)])) _
        refine Jvm.RoadKit.acmp (g := (mkF m 11 #[.val (.ref a1)] [(.ref w_ROTATED), (.ref a1)])) X21 hx rfl rfl rfl (pc0 := 11) (pc' := 14) (same := true) rfl (hb hby d1_11) rfl (decide_eq_true (congrArg Value.ref hc11_22)) (by decide) (by decide) ?_
        show Steps p.tables e below (T21.setTop (mkF m 14 #[.val (.ref a1)] [])) _
        refine XS.iconst X21.here hx rfl (hb hby d1_14) ?_
        show Steps p.tables e below (T21.setTop (mkF m 15 #[.val (.ref a1)] [(.int (1 : Int32))])) _
        refine XS.goto X21.here hx rfl (pc0 := 15) (pc' := 19) rfl (hb hby d1_15) (by decide) (by decide) ?_
        show Steps p.tables e below (T21.setTop (mkF m 19 #[.val (.ref a1)] [(.int (1 : Int32))])) _
        exact retN X21 hx (t := .boolean) Bd.returns (by simp) (hb hby d1_19) hr
      · show own_Pure (some (.int r)) h0 n0 _ T21.heap _
        rw [e21]
        exact ⟨by rw [← hres]; simp [hc4_20, hc11_22], N0, rfl⟩
    · -- pc 11: not a1 = w_ROTATED
      obtain ⟨fs, hr, hrun, hended, hW, hsame⟩ := X21.leave (v := some (.int (0 : Int32))) (fun h => by rw [Bd.returns] at h; cases h)
      refine ⟨_, _, ck23 _ ?_, hrun, hended, _, _, rfl, ?_, ⟨_, rfl⟩, hW, hsame.mono (by decide) (by decide)⟩
      · show Steps p.tables e below (T21.setTop (mkF m 11 #[.val (.ref a1)] [(.ref w_ROTATED), (.ref a1)])) _
        refine Jvm.RoadKit.acmp (g := (mkF m 11 #[.val (.ref a1)] [(.ref w_ROTATED), (.ref a1)])) X21 hx rfl rfl rfl (pc0 := 11) (pc' := 18) (same := false) rfl (hb hby d1_11) rfl (decide_eq_false fun q => hc11_22 (Value.ref.inj q)) (by decide) (by decide) ?_
        show Steps p.tables e below (T21.setTop (mkF m 18 #[.val (.ref a1)] [])) _
        refine XS.iconst X21.here hx rfl (hb hby d1_18) ?_
        show Steps p.tables e below (T21.setTop (mkF m 19 #[.val (.ref a1)] [(.int (0 : Int32))])) _
        exact retN X21 hx (t := .boolean) Bd.returns (by simp) (hb hby d1_19) hr
      · show own_Pure (some (.int r)) h0 n0 _ T21.heap _
        rw [e21]
        exact ⟨by rw [← hres]; simp [hc4_20, hc11_22], N0, rfl⟩
theorem pd_11 : parseMethodDescriptor "()Z" = some ⟨[], some .boolean⟩ := by decide +kernel
theorem pn_12 : plainName "com/example/escrowd/escrowd/client/SecretMatchAuthenticatesPinLaw" = true := by first | (simp [plainName, overriddenIn]; done) | decide +kernel
theorem ef_rm_law (m : MethodId) (x0 : Int32) : entryFrame m #[(.int x0)] maxLocals = mkF m 0 #[.val (.int x0), .unset, .unset, .unset] [] := by first | (simp [entryFrame, mkF, argsToLocals, Value.category, maxLocals]; done) | rfl
set_option maxRecDepth 65536 in
set_option maxHeartbeats 40000000 in
theorem rm_law (l : Launch) (Z : State) (a0 : Array Value) (hw : ∀ d ∈ tables_1, d.before a0 Z = true) (ws : List Jvm.Cond) (p0 : Int32) (h0 : Heap) (n0 : Nat) (Z0 : n0 ≤ h0.size) (w_CURRENT w_EXPIRED_ROTATED w_ROTATED w_WRONG w_EXPIRED_CURRENT : Addr) (hWd : own_W Z h0 w_CURRENT w_EXPIRED_ROTATED w_ROTATED w_WRONG w_EXPIRED_CURRENT) :
    MetFree l x (head1 (Jvm.Cond.code x code maxLocals ret :: ws) room_1) (fun a U => a = #[(.int p0)] ∧ Z.Warmed39 U.vm ∧ U.heap = h0) (fun _ _ _ _ _ => True) (fun _ U o U' => ∃ v L, o = .returned v ∧ own_Pure (some (.int 1)) h0 n0 v U'.heap L ∧ FrameEnd U o U' L room_1.cells room_1.slots) := by
  refine MetFree.of_bodySF (plainFor_of_name pn_12) hisR ?_
  intro p e s m args below meth c s₁ Bd hml0 hP hK
  obtain ⟨rfl, hZ, hh⟩ := hP
  have hx := Bd.exec
  have hby := Bd.bytes
  have hml : c.maxLocals = 4 := hml0
  have hown : s.vm.findClass "com/example/escrowd/escrowd/client/SecretMatchAuthenticatesPinLaw" = some m.cls := findClass_of_methodNamed Bd.named
  have hnm := (name_of_methodNamed Bd.named Bd.method).1
  have X0 : Stand p l e room_1 s m #[(.int p0)] below meth c s₁ [] 0 0 := Stand.of_body Bd
  have e0 : s₁.heap = h0 := by rw [← hh, Bd.state]; rfl
  have N0 := Fr.nil n0
  have pre0 : ∀ t, Steps p.tables e below (s₁.setTop (mkF m 0 #[.val (.int p0), .unset, .unset, .unset] [])) t → Steps p.tables e below (s₁.setTop (entryFrame m #[(.int p0)] maxLocals)) t := fun t kq => castTop (ef_rm_law m p0) kq
  have hWd' := hWd
  obtain ⟨S_CURRENT, E_CURRENT, F_CURRENT_ordinal, S_EXPIRED_ROTATED, E_EXPIRED_ROTATED, F_EXPIRED_ROTATED_ordinal, S_ROTATED, E_ROTATED, F_ROTATED_ordinal, S_WRONG, E_WRONG, F_WRONG_ordinal, S_EXPIRED_CURRENT, E_EXPIRED_CURRENT, F_EXPIRED_CURRENT_ordinal⟩ := hWd'
  have ck25 : ∀ t, Steps p.tables e below (s₁.setTop (mkF m 8 #[.val (.int p0), .val (.int ((p0 &&& (2147483647 : Int32)) % (5 : Int32))), .unset, .unset] [(.int ((p0 &&& (2147483647 : Int32)) % (5 : Int32)))])) t → Steps p.tables e below (s₁.setTop (entryFrame m #[(.int p0)] maxLocals)) t := by
    intro t kt
    refine pre0 _ ?_
    show Steps p.tables e below (s₁.setTop (mkF m 0 #[.val (.int p0), .unset, .unset, .unset] [])) _
    refine XS.iloadN X0.here hx rfl (hb hby at_0) rfl ?_
    show Steps p.tables e below (s₁.setTop (mkF m 1 #[.val (.int p0), .unset, .unset, .unset] [(.int p0)])) _
    refine X0.ldcInt hx hown (mvT hZ (hw _ (List.mem_of_getElem? (i := 0) rfl))) (g := (mkF m 1 #[.val (.int p0), .unset, .unset, .unset] [(.int p0)])) rfl (hb hby at_1) _ ?_
    show Steps p.tables e below (s₁.setTop (mkF m 3 #[.val (.int p0), .unset, .unset, .unset] [(.int (2147483647 : Int32)), (.int p0)])) _
    refine XS.iand X0.here hx rfl (hb hby at_3) rfl ?_
    show Steps p.tables e below (s₁.setTop (mkF m 4 #[.val (.int p0), .unset, .unset, .unset] [(.int (p0 &&& (2147483647 : Int32)))])) _
    refine XS.iconst X0.here hx rfl (hb hby at_4) ?_
    show Steps p.tables e below (s₁.setTop (mkF m 5 #[.val (.int p0), .unset, .unset, .unset] [(.int (5 : Int32)), (.int (p0 &&& (2147483647 : Int32)))])) _
    refine Jvm.RoadKit.iremM (g := (mkF m 5 #[.val (.int p0), .unset, .unset, .unset] [(.int (5 : Int32)), (.int (p0 &&& (2147483647 : Int32)))])) X0 hx rfl (hb hby at_5) rfl (by decide) ?_
    show Steps p.tables e below (s₁.setTop (mkF m 6 #[.val (.int p0), .unset, .unset, .unset] [(.int ((p0 &&& (2147483647 : Int32)) % (5 : Int32)))])) _
    refine XS.istoreN X0.here hx rfl (hb hby at_6) rfl (l' := #[.val (.int p0), .val (.int ((p0 &&& (2147483647 : Int32)) % (5 : Int32))), .unset, .unset]) rfl ?_
    show Steps p.tables e below (s₁.setTop (mkF m 7 #[.val (.int p0), .val (.int ((p0 &&& (2147483647 : Int32)) % (5 : Int32))), .unset, .unset] [])) _
    refine XS.iloadN X0.here hx rfl (hb hby at_7) rfl ?_
    exact kt
  by_cases hc8_24 : ((p0 &&& (2147483647 : Int32)) % (5 : Int32)) = (0 : Int32)
  · -- pc 8: ((p0 &&& (2147483647 : Int32)) % (5 : Int32)) = (0 : Int32)
    obtain ⟨T26, X26, e26, st26⟩ := getS2 X0 hx hZ hown (host := "") (Or.inl (hw _ (List.mem_of_getElem? (i := 1) rfl))) Via.refl e0 S_CURRENT (g := (mkF m 11 #[.val (.int p0), .val (.int ((p0 &&& (2147483647 : Int32)) % (5 : Int32))), .unset, .unset] [])) rfl (hb hby at_11)
    obtain ⟨cq27, kq27, q27a, q27b, q27c⟩ := isOf hZ e26 (E_CURRENT)
    obtain ⟨_, _, ⟨T27, L27, k27, n27⟩, -, X27, ⟨Lc27, hQ27, l27, y27, z27⟩, st27⟩ := X26.virtualBack hx (y := (⟨"com/example/escrowd/escrowd/client/SecretMatch", "authenticates", "()Z"⟩ : MethodName)) (z := (⟨"com/example/escrowd/escrowd/client/SecretMatch", "authenticates", "()Z"⟩ : MethodName)) hown (mvT hZ (hw _ (List.mem_of_getElem? (i := 4) rfl))) (mvT hZ (hw _ (List.mem_of_getElem? (i := 5) rfl))) (notFace_of_selects (args := #[]) (mvT hZ (hw _ (List.mem_of_getElem? (i := 7) rfl)))) (mvT hZ (hw _ (List.mem_of_getElem? (i := 7) rfl))) (mvT hZ (hw _ (List.mem_of_getElem? (i := 6) rfl))) (by decide) (backOf (W := 0) (rm_auth l Z a0 hw [] w_CURRENT h0 n0 Z0 w_CURRENT w_EXPIRED_ROTATED w_ROTATED w_WRONG w_EXPIRED_CURRENT hWd (1 : Int32) (by simp [])) hZ (hw _ (List.mem_of_getElem? (i := 8) rfl)) (hw _ (List.mem_of_getElem? (i := 2) rfl)) (by decide) (by decide)) q27a q27c (g := (mkF m 69 #[.val (.int p0), .val (.int ((p0 &&& (2147483647 : Int32)) % (5 : Int32))), .val (.ref w_CURRENT), .val (.int (1 : Int32))] [(.ref w_CURRENT)])) rfl (by rw [hml]; rfl) (Steps.refl _) (argsL := []) (rest := []) (lenOf pd_11 rfl) rfl (by show 2 * 0 + _ ≤ _; exact Nat.le_of_eq rfl) (hb hby at_69) (fun _ _ => ⟨rfl, e26, (by decide : 0 + 0 ≤ _), (by decide : 0 + 0 ≤ _)⟩)
    dsimp only [Pt.U, Pt.locs, Pt.cells, Pt.slots] at X27 l27 y27 z27 st27 hQ27
    subst l27 y27 z27
    obtain ⟨rfl, N27q, e27⟩ := hQ27
    have N27 := Fr.app N0 N27q
    obtain ⟨fs, hr, hrun, hended, hW, hsame⟩ := X27.leave (v := some (.int (1 : Int32))) (fun h => by rw [Bd.returns] at h; cases h)
    refine ⟨_, _, ck25 _ ?_, hrun, hended, _, _, rfl, ?_, ⟨_, rfl⟩, hW, hsame.mono (by decide) (by decide)⟩
    · show Steps p.tables e below (s₁.setTop (mkF m 8 #[.val (.int p0), .val (.int ((p0 &&& (2147483647 : Int32)) % (5 : Int32))), .unset, .unset] [(.int ((p0 &&& (2147483647 : Int32)) % (5 : Int32)))])) _
      refine XS.ifNo X0.here hx rfl (hb hby at_8) rfl ((if0 _ _).trans (teq hc8_24).2) ?_
      show Steps p.tables e below (s₁.setTop (mkF m 11 #[.val (.int p0), .val (.int ((p0 &&& (2147483647 : Int32)) % (5 : Int32))), .unset, .unset] [])) _
      refine st26 _ ?_
      show Steps p.tables e below (T26.setTop (mkF m 14 #[.val (.int p0), .val (.int ((p0 &&& (2147483647 : Int32)) % (5 : Int32))), .unset, .unset] [(.ref w_CURRENT)])) _
      refine XS.astoreN X26.here hx rfl (hb hby at_14) rfl rfl (l' := #[.val (.int p0), .val (.int ((p0 &&& (2147483647 : Int32)) % (5 : Int32))), .val (.ref w_CURRENT), .unset]) rfl ?_
      show Steps p.tables e below (T26.setTop (mkF m 15 #[.val (.int p0), .val (.int ((p0 &&& (2147483647 : Int32)) % (5 : Int32))), .val (.ref w_CURRENT), .unset] [])) _
      refine XS.iconst X26.here hx rfl (hb hby at_15) ?_
      show Steps p.tables e below (T26.setTop (mkF m 16 #[.val (.int p0), .val (.int ((p0 &&& (2147483647 : Int32)) % (5 : Int32))), .val (.ref w_CURRENT), .unset] [(.int (1 : Int32))])) _
      refine XS.istoreN X26.here hx rfl (hb hby at_16) rfl (l' := #[.val (.int p0), .val (.int ((p0 &&& (2147483647 : Int32)) % (5 : Int32))), .val (.ref w_CURRENT), .val (.int (1 : Int32))]) rfl ?_
      show Steps p.tables e below (T26.setTop (mkF m 17 #[.val (.int p0), .val (.int ((p0 &&& (2147483647 : Int32)) % (5 : Int32))), .val (.ref w_CURRENT), .val (.int (1 : Int32))] [])) _
      refine XS.goto X26.here hx rfl (pc0 := 17) (pc' := 68) rfl (hb hby at_17) (by decide) (by decide) ?_
      show Steps p.tables e below (T26.setTop (mkF m 68 #[.val (.int p0), .val (.int ((p0 &&& (2147483647 : Int32)) % (5 : Int32))), .val (.ref w_CURRENT), .val (.int (1 : Int32))] [])) _
      refine XS.aloadN X26.here hx rfl (hb hby at_68) rfl rfl ?_
      show Steps p.tables e below (T26.setTop (mkF m 69 #[.val (.int p0), .val (.int ((p0 &&& (2147483647 : Int32)) % (5 : Int32))), .val (.ref w_CURRENT), .val (.int (1 : Int32))] [(.ref w_CURRENT)])) _
      refine st27.trans ?_
      show Steps p.tables e below (T27.setTop (mkF m 72 #[.val (.int p0), .val (.int ((p0 &&& (2147483647 : Int32)) % (5 : Int32))), .val (.ref w_CURRENT), .val (.int (1 : Int32))] [(.int (1 : Int32))])) _
      refine XS.iloadN X27.here hx rfl (hb hby at_72) rfl ?_
      show Steps p.tables e below (T27.setTop (mkF m 73 #[.val (.int p0), .val (.int ((p0 &&& (2147483647 : Int32)) % (5 : Int32))), .val (.ref w_CURRENT), .val (.int (1 : Int32))] [(.int (1 : Int32)), (.int (1 : Int32))])) _
      refine XS.icmpNo X27.here hx rfl (hb hby at_73) rfl (teq (by decide : (1 : Int32) = (1 : Int32))).2 ?_
      show Steps p.tables e below (T27.setTop (mkF m 76 #[.val (.int p0), .val (.int ((p0 &&& (2147483647 : Int32)) % (5 : Int32))), .val (.ref w_CURRENT), .val (.int (1 : Int32))] [])) _
      refine XS.iconst X27.here hx rfl (hb hby at_76) ?_
      show Steps p.tables e below (T27.setTop (mkF m 77 #[.val (.int p0), .val (.int ((p0 &&& (2147483647 : Int32)) % (5 : Int32))), .val (.ref w_CURRENT), .val (.int (1 : Int32))] [(.int (1 : Int32))])) _
      refine XS.goto X27.here hx rfl (pc0 := 77) (pc' := 81) rfl (hb hby at_77) (by decide) (by decide) ?_
      show Steps p.tables e below (T27.setTop (mkF m 81 #[.val (.int p0), .val (.int ((p0 &&& (2147483647 : Int32)) % (5 : Int32))), .val (.ref w_CURRENT), .val (.int (1 : Int32))] [(.int (1 : Int32))])) _
      exact retN X27 hx (t := .boolean) Bd.returns (by simp) (hb hby at_81) hr
    · show own_Pure (some (.int 1)) h0 n0 _ T27.heap _
      rw [e27]
      exact ⟨rfl, N27, rfl⟩
  · -- pc 8: not ((p0 &&& (2147483647 : Int32)) % (5 : Int32)) = (0 : Int32)
    by_cases hc22_28 : ((p0 &&& (2147483647 : Int32)) % (5 : Int32)) = (1 : Int32)
    · -- pc 22: ((p0 &&& (2147483647 : Int32)) % (5 : Int32)) = (1 : Int32)
      obtain ⟨T29, X29, e29, st29⟩ := getS2 X0 hx hZ hown (host := "") (Or.inl (hw _ (List.mem_of_getElem? (i := 14) rfl))) Via.refl e0 S_ROTATED (g := (mkF m 25 #[.val (.int p0), .val (.int ((p0 &&& (2147483647 : Int32)) % (5 : Int32))), .unset, .unset] [])) rfl (hb hby at_25)
      obtain ⟨cq30, kq30, q30a, q30b, q30c⟩ := isOf hZ e29 (E_ROTATED)
      obtain ⟨_, _, ⟨T30, L30, k30, n30⟩, -, X30, ⟨Lc30, hQ30, l30, y30, z30⟩, st30⟩ := X29.virtualBack hx (y := (⟨"com/example/escrowd/escrowd/client/SecretMatch", "authenticates", "()Z"⟩ : MethodName)) (z := (⟨"com/example/escrowd/escrowd/client/SecretMatch", "authenticates", "()Z"⟩ : MethodName)) hown (mvT hZ (hw _ (List.mem_of_getElem? (i := 4) rfl))) (mvT hZ (hw _ (List.mem_of_getElem? (i := 5) rfl))) (notFace_of_selects (args := #[]) (mvT hZ (hw _ (List.mem_of_getElem? (i := 7) rfl)))) (mvT hZ (hw _ (List.mem_of_getElem? (i := 7) rfl))) (mvT hZ (hw _ (List.mem_of_getElem? (i := 6) rfl))) (by decide) (backOf (W := 0) (rm_auth l Z a0 hw [] w_ROTATED h0 n0 Z0 w_CURRENT w_EXPIRED_ROTATED w_ROTATED w_WRONG w_EXPIRED_CURRENT hWd (1 : Int32) (by simp [(F_ROTATED_ordinal.ne F_CURRENT_ordinal (by decide))])) hZ (hw _ (List.mem_of_getElem? (i := 8) rfl)) (hw _ (List.mem_of_getElem? (i := 2) rfl)) (by decide) (by decide)) q30a q30c (g := (mkF m 69 #[.val (.int p0), .val (.int ((p0 &&& (2147483647 : Int32)) % (5 : Int32))), .val (.ref w_ROTATED), .val (.int (1 : Int32))] [(.ref w_ROTATED)])) rfl (by rw [hml]; rfl) (Steps.refl _) (argsL := []) (rest := []) (lenOf pd_11 rfl) rfl (by show 2 * 0 + _ ≤ _; exact Nat.le_of_eq rfl) (hb hby at_69) (fun _ _ => ⟨rfl, e29, (by decide : 0 + 0 ≤ _), (by decide : 0 + 0 ≤ _)⟩)
      dsimp only [Pt.U, Pt.locs, Pt.cells, Pt.slots] at X30 l30 y30 z30 st30 hQ30
      subst l30 y30 z30
      obtain ⟨rfl, N30q, e30⟩ := hQ30
      have N30 := Fr.app N0 N30q
      obtain ⟨fs, hr, hrun, hended, hW, hsame⟩ := X30.leave (v := some (.int (1 : Int32))) (fun h => by rw [Bd.returns] at h; cases h)
      refine ⟨_, _, ck25 _ ?_, hrun, hended, _, _, rfl, ?_, ⟨_, rfl⟩, hW, hsame.mono (by decide) (by decide)⟩
      · show Steps p.tables e below (s₁.setTop (mkF m 8 #[.val (.int p0), .val (.int ((p0 &&& (2147483647 : Int32)) % (5 : Int32))), .unset, .unset] [(.int ((p0 &&& (2147483647 : Int32)) % (5 : Int32)))])) _
        refine XS.ifYes X0.here hx rfl (pc0 := 8) (pc' := 20) rfl (hb hby at_8) rfl ((if0 _ _).trans (feq hc8_24).2) (by decide) (by decide) ?_
        show Steps p.tables e below (s₁.setTop (mkF m 20 #[.val (.int p0), .val (.int ((p0 &&& (2147483647 : Int32)) % (5 : Int32))), .unset, .unset] [])) _
        refine XS.iloadN X0.here hx rfl (hb hby at_20) rfl ?_
        show Steps p.tables e below (s₁.setTop (mkF m 21 #[.val (.int p0), .val (.int ((p0 &&& (2147483647 : Int32)) % (5 : Int32))), .unset, .unset] [(.int ((p0 &&& (2147483647 : Int32)) % (5 : Int32)))])) _
        refine XS.iconst X0.here hx rfl (hb hby at_21) ?_
        show Steps p.tables e below (s₁.setTop (mkF m 22 #[.val (.int p0), .val (.int ((p0 &&& (2147483647 : Int32)) % (5 : Int32))), .unset, .unset] [(.int (1 : Int32)), (.int ((p0 &&& (2147483647 : Int32)) % (5 : Int32)))])) _
        refine XS.icmpNo X0.here hx rfl (hb hby at_22) rfl (teq hc22_28).2 ?_
        show Steps p.tables e below (s₁.setTop (mkF m 25 #[.val (.int p0), .val (.int ((p0 &&& (2147483647 : Int32)) % (5 : Int32))), .unset, .unset] [])) _
        refine st29 _ ?_
        show Steps p.tables e below (T29.setTop (mkF m 28 #[.val (.int p0), .val (.int ((p0 &&& (2147483647 : Int32)) % (5 : Int32))), .unset, .unset] [(.ref w_ROTATED)])) _
        refine XS.astoreN X29.here hx rfl (hb hby at_28) rfl rfl (l' := #[.val (.int p0), .val (.int ((p0 &&& (2147483647 : Int32)) % (5 : Int32))), .val (.ref w_ROTATED), .unset]) rfl ?_
        show Steps p.tables e below (T29.setTop (mkF m 29 #[.val (.int p0), .val (.int ((p0 &&& (2147483647 : Int32)) % (5 : Int32))), .val (.ref w_ROTATED), .unset] [])) _
        refine XS.iconst X29.here hx rfl (hb hby at_29) ?_
        show Steps p.tables e below (T29.setTop (mkF m 30 #[.val (.int p0), .val (.int ((p0 &&& (2147483647 : Int32)) % (5 : Int32))), .val (.ref w_ROTATED), .unset] [(.int (1 : Int32))])) _
        refine XS.istoreN X29.here hx rfl (hb hby at_30) rfl (l' := #[.val (.int p0), .val (.int ((p0 &&& (2147483647 : Int32)) % (5 : Int32))), .val (.ref w_ROTATED), .val (.int (1 : Int32))]) rfl ?_
        show Steps p.tables e below (T29.setTop (mkF m 31 #[.val (.int p0), .val (.int ((p0 &&& (2147483647 : Int32)) % (5 : Int32))), .val (.ref w_ROTATED), .val (.int (1 : Int32))] [])) _
        refine XS.goto X29.here hx rfl (pc0 := 31) (pc' := 68) rfl (hb hby at_31) (by decide) (by decide) ?_
        show Steps p.tables e below (T29.setTop (mkF m 68 #[.val (.int p0), .val (.int ((p0 &&& (2147483647 : Int32)) % (5 : Int32))), .val (.ref w_ROTATED), .val (.int (1 : Int32))] [])) _
        refine XS.aloadN X29.here hx rfl (hb hby at_68) rfl rfl ?_
        show Steps p.tables e below (T29.setTop (mkF m 69 #[.val (.int p0), .val (.int ((p0 &&& (2147483647 : Int32)) % (5 : Int32))), .val (.ref w_ROTATED), .val (.int (1 : Int32))] [(.ref w_ROTATED)])) _
        refine st30.trans ?_
        show Steps p.tables e below (T30.setTop (mkF m 72 #[.val (.int p0), .val (.int ((p0 &&& (2147483647 : Int32)) % (5 : Int32))), .val (.ref w_ROTATED), .val (.int (1 : Int32))] [(.int (1 : Int32))])) _
        refine XS.iloadN X30.here hx rfl (hb hby at_72) rfl ?_
        show Steps p.tables e below (T30.setTop (mkF m 73 #[.val (.int p0), .val (.int ((p0 &&& (2147483647 : Int32)) % (5 : Int32))), .val (.ref w_ROTATED), .val (.int (1 : Int32))] [(.int (1 : Int32)), (.int (1 : Int32))])) _
        refine XS.icmpNo X30.here hx rfl (hb hby at_73) rfl (teq (by decide : (1 : Int32) = (1 : Int32))).2 ?_
        show Steps p.tables e below (T30.setTop (mkF m 76 #[.val (.int p0), .val (.int ((p0 &&& (2147483647 : Int32)) % (5 : Int32))), .val (.ref w_ROTATED), .val (.int (1 : Int32))] [])) _
        refine XS.iconst X30.here hx rfl (hb hby at_76) ?_
        show Steps p.tables e below (T30.setTop (mkF m 77 #[.val (.int p0), .val (.int ((p0 &&& (2147483647 : Int32)) % (5 : Int32))), .val (.ref w_ROTATED), .val (.int (1 : Int32))] [(.int (1 : Int32))])) _
        refine XS.goto X30.here hx rfl (pc0 := 77) (pc' := 81) rfl (hb hby at_77) (by decide) (by decide) ?_
        show Steps p.tables e below (T30.setTop (mkF m 81 #[.val (.int p0), .val (.int ((p0 &&& (2147483647 : Int32)) % (5 : Int32))), .val (.ref w_ROTATED), .val (.int (1 : Int32))] [(.int (1 : Int32))])) _
        exact retN X30 hx (t := .boolean) Bd.returns (by simp) (hb hby at_81) hr
      · show own_Pure (some (.int 1)) h0 n0 _ T30.heap _
        rw [e30]
        exact ⟨rfl, N30, rfl⟩
    · -- pc 22: not ((p0 &&& (2147483647 : Int32)) % (5 : Int32)) = (1 : Int32)
      have ck32 : ∀ t, Steps p.tables e below (s₁.setTop (mkF m 36 #[.val (.int p0), .val (.int ((p0 &&& (2147483647 : Int32)) % (5 : Int32))), .unset, .unset] [(.int (2 : Int32)), (.int ((p0 &&& (2147483647 : Int32)) % (5 : Int32)))])) t → Steps p.tables e below (s₁.setTop (entryFrame m #[(.int p0)] maxLocals)) t := by
        intro t kt
        refine ck25 _ ?_
        show Steps p.tables e below (s₁.setTop (mkF m 8 #[.val (.int p0), .val (.int ((p0 &&& (2147483647 : Int32)) % (5 : Int32))), .unset, .unset] [(.int ((p0 &&& (2147483647 : Int32)) % (5 : Int32)))])) _
        refine XS.ifYes X0.here hx rfl (pc0 := 8) (pc' := 20) rfl (hb hby at_8) rfl ((if0 _ _).trans (feq hc8_24).2) (by decide) (by decide) ?_
        show Steps p.tables e below (s₁.setTop (mkF m 20 #[.val (.int p0), .val (.int ((p0 &&& (2147483647 : Int32)) % (5 : Int32))), .unset, .unset] [])) _
        refine XS.iloadN X0.here hx rfl (hb hby at_20) rfl ?_
        show Steps p.tables e below (s₁.setTop (mkF m 21 #[.val (.int p0), .val (.int ((p0 &&& (2147483647 : Int32)) % (5 : Int32))), .unset, .unset] [(.int ((p0 &&& (2147483647 : Int32)) % (5 : Int32)))])) _
        refine XS.iconst X0.here hx rfl (hb hby at_21) ?_
        show Steps p.tables e below (s₁.setTop (mkF m 22 #[.val (.int p0), .val (.int ((p0 &&& (2147483647 : Int32)) % (5 : Int32))), .unset, .unset] [(.int (1 : Int32)), (.int ((p0 &&& (2147483647 : Int32)) % (5 : Int32)))])) _
        refine XS.icmpYes X0.here hx rfl (pc0 := 22) (pc' := 34) rfl (hb hby at_22) rfl (feq hc22_28).2 (by decide) (by decide) ?_
        show Steps p.tables e below (s₁.setTop (mkF m 34 #[.val (.int p0), .val (.int ((p0 &&& (2147483647 : Int32)) % (5 : Int32))), .unset, .unset] [])) _
        refine XS.iloadN X0.here hx rfl (hb hby at_34) rfl ?_
        show Steps p.tables e below (s₁.setTop (mkF m 35 #[.val (.int p0), .val (.int ((p0 &&& (2147483647 : Int32)) % (5 : Int32))), .unset, .unset] [(.int ((p0 &&& (2147483647 : Int32)) % (5 : Int32)))])) _
        refine XS.iconst X0.here hx rfl (hb hby at_35) ?_
        exact kt
      by_cases hc36_31 : ((p0 &&& (2147483647 : Int32)) % (5 : Int32)) = (2 : Int32)
      · -- pc 36: ((p0 &&& (2147483647 : Int32)) % (5 : Int32)) = (2 : Int32)
        obtain ⟨T33, X33, e33, st33⟩ := getS2 X0 hx hZ hown (host := "") (Or.inl (hw _ (List.mem_of_getElem? (i := 17) rfl))) Via.refl e0 S_EXPIRED_CURRENT (g := (mkF m 39 #[.val (.int p0), .val (.int ((p0 &&& (2147483647 : Int32)) % (5 : Int32))), .unset, .unset] [])) rfl (hb hby at_39)
        obtain ⟨cq34, kq34, q34a, q34b, q34c⟩ := isOf hZ e33 (E_EXPIRED_CURRENT)
        obtain ⟨_, _, ⟨T34, L34, k34, n34⟩, -, X34, ⟨Lc34, hQ34, l34, y34, z34⟩, st34⟩ := X33.virtualBack hx (y := (⟨"com/example/escrowd/escrowd/client/SecretMatch", "authenticates", "()Z"⟩ : MethodName)) (z := (⟨"com/example/escrowd/escrowd/client/SecretMatch", "authenticates", "()Z"⟩ : MethodName)) hown (mvT hZ (hw _ (List.mem_of_getElem? (i := 4) rfl))) (mvT hZ (hw _ (List.mem_of_getElem? (i := 5) rfl))) (notFace_of_selects (args := #[]) (mvT hZ (hw _ (List.mem_of_getElem? (i := 7) rfl)))) (mvT hZ (hw _ (List.mem_of_getElem? (i := 7) rfl))) (mvT hZ (hw _ (List.mem_of_getElem? (i := 6) rfl))) (by decide) (backOf (W := 0) (rm_auth l Z a0 hw [] w_EXPIRED_CURRENT h0 n0 Z0 w_CURRENT w_EXPIRED_ROTATED w_ROTATED w_WRONG w_EXPIRED_CURRENT hWd (0 : Int32) (by simp [(F_EXPIRED_CURRENT_ordinal.ne F_CURRENT_ordinal (by decide)), (F_EXPIRED_CURRENT_ordinal.ne F_ROTATED_ordinal (by decide))])) hZ (hw _ (List.mem_of_getElem? (i := 8) rfl)) (hw _ (List.mem_of_getElem? (i := 2) rfl)) (by decide) (by decide)) q34a q34c (g := (mkF m 69 #[.val (.int p0), .val (.int ((p0 &&& (2147483647 : Int32)) % (5 : Int32))), .val (.ref w_EXPIRED_CURRENT), .val (.int (0 : Int32))] [(.ref w_EXPIRED_CURRENT)])) rfl (by rw [hml]; rfl) (Steps.refl _) (argsL := []) (rest := []) (lenOf pd_11 rfl) rfl (by show 2 * 0 + _ ≤ _; exact Nat.le_of_eq rfl) (hb hby at_69) (fun _ _ => ⟨rfl, e33, (by decide : 0 + 0 ≤ _), (by decide : 0 + 0 ≤ _)⟩)
        dsimp only [Pt.U, Pt.locs, Pt.cells, Pt.slots] at X34 l34 y34 z34 st34 hQ34
        subst l34 y34 z34
        obtain ⟨rfl, N34q, e34⟩ := hQ34
        have N34 := Fr.app N0 N34q
        obtain ⟨fs, hr, hrun, hended, hW, hsame⟩ := X34.leave (v := some (.int (1 : Int32))) (fun h => by rw [Bd.returns] at h; cases h)
        refine ⟨_, _, ck32 _ ?_, hrun, hended, _, _, rfl, ?_, ⟨_, rfl⟩, hW, hsame.mono (by decide) (by decide)⟩
        · show Steps p.tables e below (s₁.setTop (mkF m 36 #[.val (.int p0), .val (.int ((p0 &&& (2147483647 : Int32)) % (5 : Int32))), .unset, .unset] [(.int (2 : Int32)), (.int ((p0 &&& (2147483647 : Int32)) % (5 : Int32)))])) _
          refine XS.icmpNo X0.here hx rfl (hb hby at_36) rfl (teq hc36_31).2 ?_
          show Steps p.tables e below (s₁.setTop (mkF m 39 #[.val (.int p0), .val (.int ((p0 &&& (2147483647 : Int32)) % (5 : Int32))), .unset, .unset] [])) _
          refine st33 _ ?_
          show Steps p.tables e below (T33.setTop (mkF m 42 #[.val (.int p0), .val (.int ((p0 &&& (2147483647 : Int32)) % (5 : Int32))), .unset, .unset] [(.ref w_EXPIRED_CURRENT)])) _
          refine XS.astoreN X33.here hx rfl (hb hby at_42) rfl rfl (l' := #[.val (.int p0), .val (.int ((p0 &&& (2147483647 : Int32)) % (5 : Int32))), .val (.ref w_EXPIRED_CURRENT), .unset]) rfl ?_
          show Steps p.tables e below (T33.setTop (mkF m 43 #[.val (.int p0), .val (.int ((p0 &&& (2147483647 : Int32)) % (5 : Int32))), .val (.ref w_EXPIRED_CURRENT), .unset] [])) _
          refine XS.iconst X33.here hx rfl (hb hby at_43) ?_
          show Steps p.tables e below (T33.setTop (mkF m 44 #[.val (.int p0), .val (.int ((p0 &&& (2147483647 : Int32)) % (5 : Int32))), .val (.ref w_EXPIRED_CURRENT), .unset] [(.int (0 : Int32))])) _
          refine XS.istoreN X33.here hx rfl (hb hby at_44) rfl (l' := #[.val (.int p0), .val (.int ((p0 &&& (2147483647 : Int32)) % (5 : Int32))), .val (.ref w_EXPIRED_CURRENT), .val (.int (0 : Int32))]) rfl ?_
          show Steps p.tables e below (T33.setTop (mkF m 45 #[.val (.int p0), .val (.int ((p0 &&& (2147483647 : Int32)) % (5 : Int32))), .val (.ref w_EXPIRED_CURRENT), .val (.int (0 : Int32))] [])) _
          refine XS.goto X33.here hx rfl (pc0 := 45) (pc' := 68) rfl (hb hby at_45) (by decide) (by decide) ?_
          show Steps p.tables e below (T33.setTop (mkF m 68 #[.val (.int p0), .val (.int ((p0 &&& (2147483647 : Int32)) % (5 : Int32))), .val (.ref w_EXPIRED_CURRENT), .val (.int (0 : Int32))] [])) _
          refine XS.aloadN X33.here hx rfl (hb hby at_68) rfl rfl ?_
          show Steps p.tables e below (T33.setTop (mkF m 69 #[.val (.int p0), .val (.int ((p0 &&& (2147483647 : Int32)) % (5 : Int32))), .val (.ref w_EXPIRED_CURRENT), .val (.int (0 : Int32))] [(.ref w_EXPIRED_CURRENT)])) _
          refine st34.trans ?_
          show Steps p.tables e below (T34.setTop (mkF m 72 #[.val (.int p0), .val (.int ((p0 &&& (2147483647 : Int32)) % (5 : Int32))), .val (.ref w_EXPIRED_CURRENT), .val (.int (0 : Int32))] [(.int (0 : Int32))])) _
          refine XS.iloadN X34.here hx rfl (hb hby at_72) rfl ?_
          show Steps p.tables e below (T34.setTop (mkF m 73 #[.val (.int p0), .val (.int ((p0 &&& (2147483647 : Int32)) % (5 : Int32))), .val (.ref w_EXPIRED_CURRENT), .val (.int (0 : Int32))] [(.int (0 : Int32)), (.int (0 : Int32))])) _
          refine XS.icmpNo X34.here hx rfl (hb hby at_73) rfl (teq (by decide : (0 : Int32) = (0 : Int32))).2 ?_
          show Steps p.tables e below (T34.setTop (mkF m 76 #[.val (.int p0), .val (.int ((p0 &&& (2147483647 : Int32)) % (5 : Int32))), .val (.ref w_EXPIRED_CURRENT), .val (.int (0 : Int32))] [])) _
          refine XS.iconst X34.here hx rfl (hb hby at_76) ?_
          show Steps p.tables e below (T34.setTop (mkF m 77 #[.val (.int p0), .val (.int ((p0 &&& (2147483647 : Int32)) % (5 : Int32))), .val (.ref w_EXPIRED_CURRENT), .val (.int (0 : Int32))] [(.int (1 : Int32))])) _
          refine XS.goto X34.here hx rfl (pc0 := 77) (pc' := 81) rfl (hb hby at_77) (by decide) (by decide) ?_
          show Steps p.tables e below (T34.setTop (mkF m 81 #[.val (.int p0), .val (.int ((p0 &&& (2147483647 : Int32)) % (5 : Int32))), .val (.ref w_EXPIRED_CURRENT), .val (.int (0 : Int32))] [(.int (1 : Int32))])) _
          exact retN X34 hx (t := .boolean) Bd.returns (by simp) (hb hby at_81) hr
        · show own_Pure (some (.int 1)) h0 n0 _ T34.heap _
          rw [e34]
          exact ⟨rfl, N34, rfl⟩
      · -- pc 36: not ((p0 &&& (2147483647 : Int32)) % (5 : Int32)) = (2 : Int32)
        by_cases hc50_35 : ((p0 &&& (2147483647 : Int32)) % (5 : Int32)) = (3 : Int32)
        · -- pc 50: ((p0 &&& (2147483647 : Int32)) % (5 : Int32)) = (3 : Int32)
          obtain ⟨T36, X36, e36, st36⟩ := getS2 X0 hx hZ hown (host := "") (Or.inl (hw _ (List.mem_of_getElem? (i := 10) rfl))) Via.refl e0 S_EXPIRED_ROTATED (g := (mkF m 53 #[.val (.int p0), .val (.int ((p0 &&& (2147483647 : Int32)) % (5 : Int32))), .unset, .unset] [])) rfl (hb hby at_53)
          obtain ⟨cq37, kq37, q37a, q37b, q37c⟩ := isOf hZ e36 (E_EXPIRED_ROTATED)
          obtain ⟨_, _, ⟨T37, L37, k37, n37⟩, -, X37, ⟨Lc37, hQ37, l37, y37, z37⟩, st37⟩ := X36.virtualBack hx (y := (⟨"com/example/escrowd/escrowd/client/SecretMatch", "authenticates", "()Z"⟩ : MethodName)) (z := (⟨"com/example/escrowd/escrowd/client/SecretMatch", "authenticates", "()Z"⟩ : MethodName)) hown (mvT hZ (hw _ (List.mem_of_getElem? (i := 4) rfl))) (mvT hZ (hw _ (List.mem_of_getElem? (i := 5) rfl))) (notFace_of_selects (args := #[]) (mvT hZ (hw _ (List.mem_of_getElem? (i := 7) rfl)))) (mvT hZ (hw _ (List.mem_of_getElem? (i := 7) rfl))) (mvT hZ (hw _ (List.mem_of_getElem? (i := 6) rfl))) (by decide) (backOf (W := 0) (rm_auth l Z a0 hw [] w_EXPIRED_ROTATED h0 n0 Z0 w_CURRENT w_EXPIRED_ROTATED w_ROTATED w_WRONG w_EXPIRED_CURRENT hWd (0 : Int32) (by simp [(F_EXPIRED_ROTATED_ordinal.ne F_CURRENT_ordinal (by decide)), (F_EXPIRED_ROTATED_ordinal.ne F_ROTATED_ordinal (by decide))])) hZ (hw _ (List.mem_of_getElem? (i := 8) rfl)) (hw _ (List.mem_of_getElem? (i := 2) rfl)) (by decide) (by decide)) q37a q37c (g := (mkF m 69 #[.val (.int p0), .val (.int ((p0 &&& (2147483647 : Int32)) % (5 : Int32))), .val (.ref w_EXPIRED_ROTATED), .val (.int (0 : Int32))] [(.ref w_EXPIRED_ROTATED)])) rfl (by rw [hml]; rfl) (Steps.refl _) (argsL := []) (rest := []) (lenOf pd_11 rfl) rfl (by show 2 * 0 + _ ≤ _; exact Nat.le_of_eq rfl) (hb hby at_69) (fun _ _ => ⟨rfl, e36, (by decide : 0 + 0 ≤ _), (by decide : 0 + 0 ≤ _)⟩)
          dsimp only [Pt.U, Pt.locs, Pt.cells, Pt.slots] at X37 l37 y37 z37 st37 hQ37
          subst l37 y37 z37
          obtain ⟨rfl, N37q, e37⟩ := hQ37
          have N37 := Fr.app N0 N37q
          obtain ⟨fs, hr, hrun, hended, hW, hsame⟩ := X37.leave (v := some (.int (1 : Int32))) (fun h => by rw [Bd.returns] at h; cases h)
          refine ⟨_, _, ck32 _ ?_, hrun, hended, _, _, rfl, ?_, ⟨_, rfl⟩, hW, hsame.mono (by decide) (by decide)⟩
          · show Steps p.tables e below (s₁.setTop (mkF m 36 #[.val (.int p0), .val (.int ((p0 &&& (2147483647 : Int32)) % (5 : Int32))), .unset, .unset] [(.int (2 : Int32)), (.int ((p0 &&& (2147483647 : Int32)) % (5 : Int32)))])) _
            refine XS.icmpYes X0.here hx rfl (pc0 := 36) (pc' := 48) rfl (hb hby at_36) rfl (feq hc36_31).2 (by decide) (by decide) ?_
            show Steps p.tables e below (s₁.setTop (mkF m 48 #[.val (.int p0), .val (.int ((p0 &&& (2147483647 : Int32)) % (5 : Int32))), .unset, .unset] [])) _
            refine XS.iloadN X0.here hx rfl (hb hby at_48) rfl ?_
            show Steps p.tables e below (s₁.setTop (mkF m 49 #[.val (.int p0), .val (.int ((p0 &&& (2147483647 : Int32)) % (5 : Int32))), .unset, .unset] [(.int ((p0 &&& (2147483647 : Int32)) % (5 : Int32)))])) _
            refine XS.iconst X0.here hx rfl (hb hby at_49) ?_
            show Steps p.tables e below (s₁.setTop (mkF m 50 #[.val (.int p0), .val (.int ((p0 &&& (2147483647 : Int32)) % (5 : Int32))), .unset, .unset] [(.int (3 : Int32)), (.int ((p0 &&& (2147483647 : Int32)) % (5 : Int32)))])) _
            refine XS.icmpNo X0.here hx rfl (hb hby at_50) rfl (teq hc50_35).2 ?_
            show Steps p.tables e below (s₁.setTop (mkF m 53 #[.val (.int p0), .val (.int ((p0 &&& (2147483647 : Int32)) % (5 : Int32))), .unset, .unset] [])) _
            refine st36 _ ?_
            show Steps p.tables e below (T36.setTop (mkF m 56 #[.val (.int p0), .val (.int ((p0 &&& (2147483647 : Int32)) % (5 : Int32))), .unset, .unset] [(.ref w_EXPIRED_ROTATED)])) _
            refine XS.astoreN X36.here hx rfl (hb hby at_56) rfl rfl (l' := #[.val (.int p0), .val (.int ((p0 &&& (2147483647 : Int32)) % (5 : Int32))), .val (.ref w_EXPIRED_ROTATED), .unset]) rfl ?_
            show Steps p.tables e below (T36.setTop (mkF m 57 #[.val (.int p0), .val (.int ((p0 &&& (2147483647 : Int32)) % (5 : Int32))), .val (.ref w_EXPIRED_ROTATED), .unset] [])) _
            refine XS.iconst X36.here hx rfl (hb hby at_57) ?_
            show Steps p.tables e below (T36.setTop (mkF m 58 #[.val (.int p0), .val (.int ((p0 &&& (2147483647 : Int32)) % (5 : Int32))), .val (.ref w_EXPIRED_ROTATED), .unset] [(.int (0 : Int32))])) _
            refine XS.istoreN X36.here hx rfl (hb hby at_58) rfl (l' := #[.val (.int p0), .val (.int ((p0 &&& (2147483647 : Int32)) % (5 : Int32))), .val (.ref w_EXPIRED_ROTATED), .val (.int (0 : Int32))]) rfl ?_
            show Steps p.tables e below (T36.setTop (mkF m 59 #[.val (.int p0), .val (.int ((p0 &&& (2147483647 : Int32)) % (5 : Int32))), .val (.ref w_EXPIRED_ROTATED), .val (.int (0 : Int32))] [])) _
            refine XS.goto X36.here hx rfl (pc0 := 59) (pc' := 68) rfl (hb hby at_59) (by decide) (by decide) ?_
            show Steps p.tables e below (T36.setTop (mkF m 68 #[.val (.int p0), .val (.int ((p0 &&& (2147483647 : Int32)) % (5 : Int32))), .val (.ref w_EXPIRED_ROTATED), .val (.int (0 : Int32))] [])) _
            refine XS.aloadN X36.here hx rfl (hb hby at_68) rfl rfl ?_
            show Steps p.tables e below (T36.setTop (mkF m 69 #[.val (.int p0), .val (.int ((p0 &&& (2147483647 : Int32)) % (5 : Int32))), .val (.ref w_EXPIRED_ROTATED), .val (.int (0 : Int32))] [(.ref w_EXPIRED_ROTATED)])) _
            refine st37.trans ?_
            show Steps p.tables e below (T37.setTop (mkF m 72 #[.val (.int p0), .val (.int ((p0 &&& (2147483647 : Int32)) % (5 : Int32))), .val (.ref w_EXPIRED_ROTATED), .val (.int (0 : Int32))] [(.int (0 : Int32))])) _
            refine XS.iloadN X37.here hx rfl (hb hby at_72) rfl ?_
            show Steps p.tables e below (T37.setTop (mkF m 73 #[.val (.int p0), .val (.int ((p0 &&& (2147483647 : Int32)) % (5 : Int32))), .val (.ref w_EXPIRED_ROTATED), .val (.int (0 : Int32))] [(.int (0 : Int32)), (.int (0 : Int32))])) _
            refine XS.icmpNo X37.here hx rfl (hb hby at_73) rfl (teq (by decide : (0 : Int32) = (0 : Int32))).2 ?_
            show Steps p.tables e below (T37.setTop (mkF m 76 #[.val (.int p0), .val (.int ((p0 &&& (2147483647 : Int32)) % (5 : Int32))), .val (.ref w_EXPIRED_ROTATED), .val (.int (0 : Int32))] [])) _
            refine XS.iconst X37.here hx rfl (hb hby at_76) ?_
            show Steps p.tables e below (T37.setTop (mkF m 77 #[.val (.int p0), .val (.int ((p0 &&& (2147483647 : Int32)) % (5 : Int32))), .val (.ref w_EXPIRED_ROTATED), .val (.int (0 : Int32))] [(.int (1 : Int32))])) _
            refine XS.goto X37.here hx rfl (pc0 := 77) (pc' := 81) rfl (hb hby at_77) (by decide) (by decide) ?_
            show Steps p.tables e below (T37.setTop (mkF m 81 #[.val (.int p0), .val (.int ((p0 &&& (2147483647 : Int32)) % (5 : Int32))), .val (.ref w_EXPIRED_ROTATED), .val (.int (0 : Int32))] [(.int (1 : Int32))])) _
            exact retN X37 hx (t := .boolean) Bd.returns (by simp) (hb hby at_81) hr
          · show own_Pure (some (.int 1)) h0 n0 _ T37.heap _
            rw [e37]
            exact ⟨rfl, N37, rfl⟩
        · -- pc 50: not ((p0 &&& (2147483647 : Int32)) % (5 : Int32)) = (3 : Int32)
          obtain ⟨T38, X38, e38, st38⟩ := getS2 X0 hx hZ hown (host := "") (Or.inl (hw _ (List.mem_of_getElem? (i := 15) rfl))) Via.refl e0 S_WRONG (g := (mkF m 62 #[.val (.int p0), .val (.int ((p0 &&& (2147483647 : Int32)) % (5 : Int32))), .unset, .unset] [])) rfl (hb hby at_62)
          obtain ⟨cq39, kq39, q39a, q39b, q39c⟩ := isOf hZ e38 (E_WRONG)
          obtain ⟨_, _, ⟨T39, L39, k39, n39⟩, -, X39, ⟨Lc39, hQ39, l39, y39, z39⟩, st39⟩ := X38.virtualBack hx (y := (⟨"com/example/escrowd/escrowd/client/SecretMatch", "authenticates", "()Z"⟩ : MethodName)) (z := (⟨"com/example/escrowd/escrowd/client/SecretMatch", "authenticates", "()Z"⟩ : MethodName)) hown (mvT hZ (hw _ (List.mem_of_getElem? (i := 4) rfl))) (mvT hZ (hw _ (List.mem_of_getElem? (i := 5) rfl))) (notFace_of_selects (args := #[]) (mvT hZ (hw _ (List.mem_of_getElem? (i := 7) rfl)))) (mvT hZ (hw _ (List.mem_of_getElem? (i := 7) rfl))) (mvT hZ (hw _ (List.mem_of_getElem? (i := 6) rfl))) (by decide) (backOf (W := 0) (rm_auth l Z a0 hw [] w_WRONG h0 n0 Z0 w_CURRENT w_EXPIRED_ROTATED w_ROTATED w_WRONG w_EXPIRED_CURRENT hWd (0 : Int32) (by simp [(F_WRONG_ordinal.ne F_CURRENT_ordinal (by decide)), (F_WRONG_ordinal.ne F_ROTATED_ordinal (by decide))])) hZ (hw _ (List.mem_of_getElem? (i := 8) rfl)) (hw _ (List.mem_of_getElem? (i := 2) rfl)) (by decide) (by decide)) q39a q39c (g := (mkF m 69 #[.val (.int p0), .val (.int ((p0 &&& (2147483647 : Int32)) % (5 : Int32))), .val (.ref w_WRONG), .val (.int (0 : Int32))] [(.ref w_WRONG)])) rfl (by rw [hml]; rfl) (Steps.refl _) (argsL := []) (rest := []) (lenOf pd_11 rfl) rfl (by show 2 * 0 + _ ≤ _; exact Nat.le_of_eq rfl) (hb hby at_69) (fun _ _ => ⟨rfl, e38, (by decide : 0 + 0 ≤ _), (by decide : 0 + 0 ≤ _)⟩)
          dsimp only [Pt.U, Pt.locs, Pt.cells, Pt.slots] at X39 l39 y39 z39 st39 hQ39
          subst l39 y39 z39
          obtain ⟨rfl, N39q, e39⟩ := hQ39
          have N39 := Fr.app N0 N39q
          obtain ⟨fs, hr, hrun, hended, hW, hsame⟩ := X39.leave (v := some (.int (1 : Int32))) (fun h => by rw [Bd.returns] at h; cases h)
          refine ⟨_, _, ck32 _ ?_, hrun, hended, _, _, rfl, ?_, ⟨_, rfl⟩, hW, hsame.mono (by decide) (by decide)⟩
          · show Steps p.tables e below (s₁.setTop (mkF m 36 #[.val (.int p0), .val (.int ((p0 &&& (2147483647 : Int32)) % (5 : Int32))), .unset, .unset] [(.int (2 : Int32)), (.int ((p0 &&& (2147483647 : Int32)) % (5 : Int32)))])) _
            refine XS.icmpYes X0.here hx rfl (pc0 := 36) (pc' := 48) rfl (hb hby at_36) rfl (feq hc36_31).2 (by decide) (by decide) ?_
            show Steps p.tables e below (s₁.setTop (mkF m 48 #[.val (.int p0), .val (.int ((p0 &&& (2147483647 : Int32)) % (5 : Int32))), .unset, .unset] [])) _
            refine XS.iloadN X0.here hx rfl (hb hby at_48) rfl ?_
            show Steps p.tables e below (s₁.setTop (mkF m 49 #[.val (.int p0), .val (.int ((p0 &&& (2147483647 : Int32)) % (5 : Int32))), .unset, .unset] [(.int ((p0 &&& (2147483647 : Int32)) % (5 : Int32)))])) _
            refine XS.iconst X0.here hx rfl (hb hby at_49) ?_
            show Steps p.tables e below (s₁.setTop (mkF m 50 #[.val (.int p0), .val (.int ((p0 &&& (2147483647 : Int32)) % (5 : Int32))), .unset, .unset] [(.int (3 : Int32)), (.int ((p0 &&& (2147483647 : Int32)) % (5 : Int32)))])) _
            refine XS.icmpYes X0.here hx rfl (pc0 := 50) (pc' := 62) rfl (hb hby at_50) rfl (feq hc50_35).2 (by decide) (by decide) ?_
            show Steps p.tables e below (s₁.setTop (mkF m 62 #[.val (.int p0), .val (.int ((p0 &&& (2147483647 : Int32)) % (5 : Int32))), .unset, .unset] [])) _
            refine st38 _ ?_
            show Steps p.tables e below (T38.setTop (mkF m 65 #[.val (.int p0), .val (.int ((p0 &&& (2147483647 : Int32)) % (5 : Int32))), .unset, .unset] [(.ref w_WRONG)])) _
            refine XS.astoreN X38.here hx rfl (hb hby at_65) rfl rfl (l' := #[.val (.int p0), .val (.int ((p0 &&& (2147483647 : Int32)) % (5 : Int32))), .val (.ref w_WRONG), .unset]) rfl ?_
            show Steps p.tables e below (T38.setTop (mkF m 66 #[.val (.int p0), .val (.int ((p0 &&& (2147483647 : Int32)) % (5 : Int32))), .val (.ref w_WRONG), .unset] [])) _
            refine XS.iconst X38.here hx rfl (hb hby at_66) ?_
            show Steps p.tables e below (T38.setTop (mkF m 67 #[.val (.int p0), .val (.int ((p0 &&& (2147483647 : Int32)) % (5 : Int32))), .val (.ref w_WRONG), .unset] [(.int (0 : Int32))])) _
            refine XS.istoreN X38.here hx rfl (hb hby at_67) rfl (l' := #[.val (.int p0), .val (.int ((p0 &&& (2147483647 : Int32)) % (5 : Int32))), .val (.ref w_WRONG), .val (.int (0 : Int32))]) rfl ?_
            show Steps p.tables e below (T38.setTop (mkF m 68 #[.val (.int p0), .val (.int ((p0 &&& (2147483647 : Int32)) % (5 : Int32))), .val (.ref w_WRONG), .val (.int (0 : Int32))] [])) _
            refine XS.aloadN X38.here hx rfl (hb hby at_68) rfl rfl ?_
            show Steps p.tables e below (T38.setTop (mkF m 69 #[.val (.int p0), .val (.int ((p0 &&& (2147483647 : Int32)) % (5 : Int32))), .val (.ref w_WRONG), .val (.int (0 : Int32))] [(.ref w_WRONG)])) _
            refine st39.trans ?_
            show Steps p.tables e below (T39.setTop (mkF m 72 #[.val (.int p0), .val (.int ((p0 &&& (2147483647 : Int32)) % (5 : Int32))), .val (.ref w_WRONG), .val (.int (0 : Int32))] [(.int (0 : Int32))])) _
            refine XS.iloadN X39.here hx rfl (hb hby at_72) rfl ?_
            show Steps p.tables e below (T39.setTop (mkF m 73 #[.val (.int p0), .val (.int ((p0 &&& (2147483647 : Int32)) % (5 : Int32))), .val (.ref w_WRONG), .val (.int (0 : Int32))] [(.int (0 : Int32)), (.int (0 : Int32))])) _
            refine XS.icmpNo X39.here hx rfl (hb hby at_73) rfl (teq (by decide : (0 : Int32) = (0 : Int32))).2 ?_
            show Steps p.tables e below (T39.setTop (mkF m 76 #[.val (.int p0), .val (.int ((p0 &&& (2147483647 : Int32)) % (5 : Int32))), .val (.ref w_WRONG), .val (.int (0 : Int32))] [])) _
            refine XS.iconst X39.here hx rfl (hb hby at_76) ?_
            show Steps p.tables e below (T39.setTop (mkF m 77 #[.val (.int p0), .val (.int ((p0 &&& (2147483647 : Int32)) % (5 : Int32))), .val (.ref w_WRONG), .val (.int (0 : Int32))] [(.int (1 : Int32))])) _
            refine XS.goto X39.here hx rfl (pc0 := 77) (pc' := 81) rfl (hb hby at_77) (by decide) (by decide) ?_
            show Steps p.tables e below (T39.setTop (mkF m 81 #[.val (.int p0), .val (.int ((p0 &&& (2147483647 : Int32)) % (5 : Int32))), .val (.ref w_WRONG), .val (.int (0 : Int32))] [(.int (1 : Int32))])) _
            exact retN X39 hx (t := .boolean) Bd.returns (by simp) (hb hby at_81) hr
          · show own_Pure (some (.int 1)) h0 n0 _ T39.heap _
            rw [e39]
            exact ⟨rfl, N39, rfl⟩
set_option maxRecDepth 65536 in
set_option maxHeartbeats 40000000 in
theorem comes_1 {Post : Tables → Env → Array Value → State → Outcome → State → Prop} (hpost : ∀ tb e args s v u, (limb_1_1.after args s (.returned v) u = true ∧ limb_1_2.after args s (.returned v) u = true ∧ True) → FrameEnd s (.returned v) u (Jvm.fieldLocs frame_1_writes args s ++ Jvm.arrayLocs frame_1_arrays args s ++ Jvm.staticLocs frame_1_statics s) 0 0 → Post tb e args s (.returned v) u) :
    ArmFor flags0 classFile x code maxLocals ret World_1 tables_1 room_1 Calls_1 rest_1 Pre_1 Post := by
  intro l hfl _ _ p e ha hc hk s m args below hf hA hF happ hP
  obtain ⟨hcalls, hrest, hpre⟩ := hP
  obtain ⟨-, -, -, hnamed, -, -, -, hat⟩ := (Spec.applies_iff hf).mp happ
  obtain ⟨hg, hn⟩ := and_e (Cond.before_iff.mp (show (Jvm.Cond.and given_1 narrow_1).before args s = true from hpre))
  obtain ⟨gg0, hh0⟩ := and_e hg
  obtain ⟨w0, rfl⟩ : ∃ w0 : Value, args = #[w0] := by
    have hs : args.size = 1 := by simpa [Cond.value, given_1] using gg0
    obtain ⟨L⟩ := args
    match L, hs with
    | [w0], _ => exact ⟨w0, rfl⟩
  have hw := fun d (hd : d ∈ tables_1) => atoms_spec (ws := Jvm.Cond.code x code maxLocals ret :: tables_1) hat d (List.mem_cons_of_mem _ hd)
  have hfit : Fit s := fun {y c} hc i hi => by
    obtain ⟨ha, rfl⟩ := Array.getElem?_eq_some_iff.mp hc
    have q := List.all_eq_true.mp ((Array.all_eq_true_iff_forall_mem.mp hF) _ (Array.getElem_mem ha)) i (List.mem_range.mpr hi)
    simpa [Array.getElem?_eq_getElem hi] using q
  obtain ⟨i0, ei0⟩ := is_v hh0
  obtain rfl : w0 = (.int i0) := Option.some.inj ei0
  obtain ⟨g1, g2⟩ := and_e hn
  obtain ⟨g3, g4⟩ := and_e g2
  obtain ⟨g5, g6⟩ := and_e g4
  obtain ⟨g7, g8⟩ := and_e g6
  obtain ⟨g9, g10⟩ := and_e g8
  obtain ⟨g11, g12⟩ := and_e g10
  obtain ⟨g13, g14⟩ := and_e g12
  obtain ⟨g15, g16⟩ := and_e g14
  obtain ⟨g17, g18⟩ := and_e g16
  obtain ⟨w_CURRENT, ev_CURRENT⟩ := exa_v g1
  have E_CURRENT := Exa.start ev_CURRENT g1
  have S_CURRENT := Sta.start ev_CURRENT (Or.inr ⟨hw _ (List.mem_of_getElem? (i := 2) rfl), hw _ (List.mem_of_getElem? (i := 3) rfl)⟩)
  have F_CURRENT_ordinal := own_fld_eq ev_CURRENT g7
  obtain ⟨w_EXPIRED_ROTATED, ev_EXPIRED_ROTATED⟩ := exa_v g3
  have E_EXPIRED_ROTATED := Exa.start ev_EXPIRED_ROTATED g3
  have S_EXPIRED_ROTATED := Sta.start ev_EXPIRED_ROTATED (Or.inr ⟨hw _ (List.mem_of_getElem? (i := 2) rfl), hw _ (List.mem_of_getElem? (i := 11) rfl)⟩)
  have F_EXPIRED_ROTATED_ordinal := own_fld_eq ev_EXPIRED_ROTATED g5
  obtain ⟨w_ROTATED, ev_ROTATED⟩ := exa_v g9
  have E_ROTATED := Exa.start ev_ROTATED g9
  have S_ROTATED := Sta.start ev_ROTATED (Or.inr ⟨hw _ (List.mem_of_getElem? (i := 2) rfl), hw _ (List.mem_of_getElem? (i := 13) rfl)⟩)
  have F_ROTATED_ordinal := own_fld_eq ev_ROTATED g11
  obtain ⟨w_WRONG, ev_WRONG⟩ := exa_v g13
  have E_WRONG := Exa.start ev_WRONG g13
  have S_WRONG := Sta.start ev_WRONG (Or.inr ⟨hw _ (List.mem_of_getElem? (i := 2) rfl), hw _ (List.mem_of_getElem? (i := 16) rfl)⟩)
  have F_WRONG_ordinal := own_fld_eq ev_WRONG g15
  obtain ⟨w_EXPIRED_CURRENT, ev_EXPIRED_CURRENT⟩ := exa_v g17
  have E_EXPIRED_CURRENT := Exa.start ev_EXPIRED_CURRENT g17
  have S_EXPIRED_CURRENT := Sta.start ev_EXPIRED_CURRENT (Or.inr ⟨hw _ (List.mem_of_getElem? (i := 2) rfl), hw _ (List.mem_of_getElem? (i := 18) rfl)⟩)
  have F_EXPIRED_CURRENT_ordinal := own_fld_eq ev_EXPIRED_CURRENT g18
  have hW0 : own_W s s.heap w_CURRENT w_EXPIRED_ROTATED w_ROTATED w_WRONG w_EXPIRED_CURRENT := ⟨S_CURRENT, E_CURRENT, F_CURRENT_ordinal, S_EXPIRED_ROTATED, E_EXPIRED_ROTATED, F_EXPIRED_ROTATED_ordinal, S_ROTATED, E_ROTATED, F_ROTATED_ordinal, S_WRONG, E_WRONG, F_WRONG_ordinal, S_EXPIRED_CURRENT, E_EXPIRED_CURRENT, F_EXPIRED_CURRENT_ordinal⟩
  obtain ⟨n, o, h1, h2, h3, _, L, rfl, hQ0, hq⟩ := rm_law l s _ hw tables_1 i0 s.heap s.heap.size (Nat.le_refl _) w_CURRENT w_EXPIRED_ROTATED w_ROTATED w_WRONG w_EXPIRED_CURRENT hW0 p e ha hc hk s m _ below hf ((Spec.applies_iff_loose hf).mp happ).1 ⟨rfl, State.Warmed39.refl s, rfl⟩ trivial
  have N := hQ0.2.1
  obtain rfl := hQ0.1
  refine ⟨n, _, h1, h2, h3, hpost _ _ _ _ _ _ ⟨Cond.after_iff.mpr rfl, Cond.after_iff.mpr (eq_i res_at (Term.int_eval (1)) rfl), trivial⟩ ⟨hq.1, hq.2.1, (hq.2.2.sift fun y hy => Or.inr (N y hy)).mono (by decide) (by decide)⟩⟩
theorem main_1_1 : Claimed_1_1 := comes_1 fun _ _ _ _ _ _ h hF => ⟨h.1, hF⟩
theorem main_1_2 : Claimed_1_2 := comes_1 fun _ _ _ _ _ _ h hF => ⟨h.2.1, hF⟩
end Jvm.Pilot.@@N@@
namespace Jvm.Pilot.@@N@@
open Jvm Jvm.ClassFile Sem Op Lib Jvm.Free Jvm.Stand Jvm.Pilot.@@N@@.Jvm.D
/-! MADE BY PROGRAM (witnessworld.py) out of the Statement's table words and the real class files: 12 classes; the members and pool entries that the words name. The judged class is class 1, her method 1. -/
namespace start1
open Jvm.ClassFile
def u (s : String) : CpInfo := .utf8 (stringToUtf16 s)
/-- a pool by its gaps: so many unusable entries, then the entry; so many at the end -/
def gap : Nat → List CpInfo → List CpInfo
  | 0, r => r
  | n + 1, r => .unusable :: gap n r
def poolList (es : List (Nat × CpInfo)) (last : Nat) : List CpInfo := es.foldr (fun e r => gap e.1 (e.2 :: r)) (gap last [])
def pool (es : List (Nat × CpInfo)) (last : Nat) : Array CpInfo := ⟨poolList es last⟩
def fileOf (pool : Array CpInfo) (this : Nat) (attrs : Array Attribute := #[]) (ms : Array MethodInfo := #[]) (fl : Nat := 33) (sup : Nat := 0) (ifs : Array Nat := #[]) (fds : Array FieldInfo := #[]) : ClassFile where
  minorVersion := 0
  majorVersion := 65
  constantPool := pool
  accessFlags := fl
  thisClass := this
  superClass := sup
  interfaces := ifs
  fields := fds
  methods := ms
  attributes := attrs
def plain (name : String) (sup : Option ClassId) : Class where
  name := name
  kind := .ordinary
  loader := none
  accessFlags := 33
  super := sup
  interfaces := #[]
  cf := none
  fields := #[]
  methods := #[]
  instanceTypes := #[]
  staticTypes := #[]
  resolved := #[]
  callSites := []
  init := .initialized
  statics := none
  mirror := none

def pool0 : Array CpInfo := pool [(5, u "<init>"), (0, u "()V"), (1, .class_ 10), (1, u "java/lang/Object")] 113

def k0m0 : Method := { name := "<init>", desc := "()V", sig := { parameters := [], returnType := none }, accessFlags := 1, code := none }
/-- java/lang/Object -/
def k0 : Class := { plain "java/lang/Object" none with
  accessFlags := 33
  interfaces := #[]
  cf := some (fileOf pool0 8 #[] #[{ accessFlags := 1, nameIndex := 5, descriptorIndex := 6, attributes := #[] }] 33 0 #[] #[])
  fields := #[]
  methods := #[k0m0]
  instanceTypes := #[]
  staticTypes := #[]
  resolved := Array.replicate 124 none
  statics := none }

def pool1 : Array CpInfo := pool [(2, .class_ 4), (1, u "java/lang/Object"), (0, u "<init>"), (0, u "()V"), (0, .integer 2147483647), (0, .fieldref 9 10), (0, .class_ 11), (0, .nameAndType 12 13), (0, u "com/example/escrowd/escrowd/client/SecretMatch"), (0, u "CURRENT"), (0, u "Lcom/example/escrowd/escrowd/client/SecretMatch;"), (0, .fieldref 9 15), (0, .nameAndType 16 13), (0, u "ROTATED"), (0, .fieldref 9 18), (0, .nameAndType 19 13), (0, u "EXPIRED_CURRENT"), (0, .fieldref 9 21), (0, .nameAndType 22 13), (0, u "EXPIRED_ROTATED"), (0, .fieldref 9 24), (0, .nameAndType 25 13), (0, u "WRONG"), (0, .methodref 9 27), (0, .nameAndType 28 29), (0, u "authenticates"), (0, u "()Z"), (0, .class_ 31), (0, u "com/example/escrowd/escrowd/client/SecretMatchAuthenticatesPinLaw"), (2, u "law"), (0, u "(I)Z")] 3

def k1m0 : Method := { name := "<init>", desc := "()V", sig := { parameters := [], returnType := none }, accessFlags := 1, code := none }
def k1c1 : Code := { maxStack := 2, maxLocals := 4, code := code, exceptionTable := #[], attributes := #[] }
def k1m1 : Method := { name := "law", desc := "(I)Z", sig := { parameters := [.int], returnType := some .boolean }, accessFlags := 9, code := some k1c1 }
/-- com/example/escrowd/escrowd/client/SecretMatchAuthenticatesPinLaw -/
def k1 : Class := { plain "com/example/escrowd/escrowd/client/SecretMatchAuthenticatesPinLaw" (some 0) with
  accessFlags := 49
  interfaces := #[]
  cf := some (fileOf pool1 30 #[] #[{ accessFlags := 1, nameIndex := 5, descriptorIndex := 6, attributes := #[] }, { accessFlags := 9, nameIndex := 34, descriptorIndex := 35, attributes := #[] }] 49 2 #[] #[])
  fields := #[]
  methods := #[k1m0, k1m1]
  instanceTypes := #[]
  staticTypes := #[]
  resolved := Array.replicate 39 none
  statics := none }

def pool2 : Array CpInfo := pool [(1, .class_ 2), (0, u "java/lang/constant/Constable"), (0, .class_ 4), (0, u "java/lang/Object")] 6

/-- java/lang/constant/Constable -/
def k2 : Class := { plain "java/lang/constant/Constable" (some 0) with
  accessFlags := 1537
  interfaces := #[]
  cf := some (fileOf pool2 1 #[] #[] 1537 3 #[] #[])
  fields := #[]
  methods := #[]
  instanceTypes := #[]
  staticTypes := #[]
  resolved := Array.replicate 11 none
  statics := none }

def pool3 : Array CpInfo := pool [(1, .class_ 2), (0, u "java/lang/Comparable"), (0, .class_ 4), (0, u "java/lang/Object")] 7

/-- java/lang/Comparable -/
def k3 : Class := { plain "java/lang/Comparable" (some 0) with
  accessFlags := 1537
  interfaces := #[]
  cf := some (fileOf pool3 1 #[] #[] 1537 3 #[] #[])
  fields := #[]
  methods := #[]
  instanceTypes := #[]
  staticTypes := #[]
  resolved := Array.replicate 12 none
  statics := none }

def pool4 : Array CpInfo := pool [(1, .class_ 2), (0, u "java/io/Serializable"), (0, .class_ 4), (0, u "java/lang/Object")] 2

/-- java/io/Serializable -/
def k4 : Class := { plain "java/io/Serializable" (some 0) with
  accessFlags := 1537
  interfaces := #[]
  cf := some (fileOf pool4 1 #[] #[] 1537 3 #[] #[])
  fields := #[]
  methods := #[]
  instanceTypes := #[]
  staticTypes := #[]
  resolved := Array.replicate 7 none
  statics := none }

def pool5 : Array CpInfo := pool [(2, .class_ 4), (1, u "java/lang/Enum"), (0, u "name"), (0, u "Ljava/lang/String;"), (2, u "ordinal"), (0, u "I"), (1, .class_ 14), (1, u "java/lang/Object"), (4, u "hash"), (86, .class_ 108), (1, u "java/lang/Enum$EnumDesc"), (2, .class_ 112), (0, u "java/lang/constant/Constable"), (0, .class_ 114), (0, u "java/lang/Comparable"), (0, .class_ 116), (0, u "java/io/Serializable")] 87

/-- java/lang/Enum -/
def k5 : Class := { plain "java/lang/Enum" (some 0) with
  accessFlags := 1057
  interfaces := #[2, 3, 4]
  cf := some (fileOf pool5 2 #[.nestMembers #[106]] #[] 1057 12 #[111, 113, 115] #[{ accessFlags := 18, nameIndex := 5, descriptorIndex := 6, attributes := #[] }, { accessFlags := 18, nameIndex := 9, descriptorIndex := 10, attributes := #[] }, { accessFlags := 2, nameIndex := 19, descriptorIndex := 10, attributes := #[] }])
  fields := #[{ name := "name", type := (.object "java/lang/String"), accessFlags := 18, slot := 0, constantValue := 0 }, { name := "ordinal", type := .int, accessFlags := 18, slot := 1, constantValue := 0 }, { name := "hash", type := .int, accessFlags := 2, slot := 2, constantValue := 0 }]
  methods := #[]
  instanceTypes := #[(.object "java/lang/String"), .int, .int]
  staticTypes := #[]
  resolved := Array.replicate 204 none
  statics := none }

def pool6 : Array CpInfo := pool [(1, .class_ 2), (0, u "com/example/escrowd/escrowd/client/SecretMatch"), (0, .fieldref 1 4), (0, .nameAndType 5 6), (0, u "CURRENT"), (0, u "Lcom/example/escrowd/escrowd/client/SecretMatch;"), (0, .fieldref 1 8), (0, .nameAndType 9 6), (0, u "ROTATED"), (2, u "EXPIRED_CURRENT"), (2, u "EXPIRED_ROTATED"), (2, u "WRONG"), (2, u "$VALUES"), (0, u "[Lcom/example/escrowd/escrowd/client/SecretMatch;"), (6, .class_ 31), (1, u "java/lang/Enum"), (23, u "authenticates"), (0, u "()Z")] 6

def k6c0 : Code := { maxStack := 2, maxLocals := 1, code := prog_24_method_4_code, exceptionTable := #[], attributes := #[] }
def k6m0 : Method := { name := "authenticates", desc := "()Z", sig := { parameters := [], returnType := some .boolean }, accessFlags := 1, code := some k6c0 }
/-- com/example/escrowd/escrowd/client/SecretMatch -/
def k6 : Class := { plain "com/example/escrowd/escrowd/client/SecretMatch" (some 5) with
  accessFlags := 16433
  interfaces := #[]
  cf := some (fileOf pool6 1 #[] #[{ accessFlags := 1, nameIndex := 55, descriptorIndex := 56, attributes := #[] }] 16433 29 #[] #[{ accessFlags := 16409, nameIndex := 5, descriptorIndex := 6, attributes := #[] }, { accessFlags := 16409, nameIndex := 9, descriptorIndex := 6, attributes := #[] }, { accessFlags := 16409, nameIndex := 12, descriptorIndex := 6, attributes := #[] }, { accessFlags := 16409, nameIndex := 15, descriptorIndex := 6, attributes := #[] }, { accessFlags := 16409, nameIndex := 18, descriptorIndex := 6, attributes := #[] }, { accessFlags := 4122, nameIndex := 21, descriptorIndex := 22, attributes := #[] }])
  fields := #[{ name := "CURRENT", type := (.object "com/example/escrowd/escrowd/client/SecretMatch"), accessFlags := 16409, slot := 0, constantValue := 0 }, { name := "ROTATED", type := (.object "com/example/escrowd/escrowd/client/SecretMatch"), accessFlags := 16409, slot := 1, constantValue := 0 }, { name := "EXPIRED_CURRENT", type := (.object "com/example/escrowd/escrowd/client/SecretMatch"), accessFlags := 16409, slot := 2, constantValue := 0 }, { name := "EXPIRED_ROTATED", type := (.object "com/example/escrowd/escrowd/client/SecretMatch"), accessFlags := 16409, slot := 3, constantValue := 0 }, { name := "WRONG", type := (.object "com/example/escrowd/escrowd/client/SecretMatch"), accessFlags := 16409, slot := 4, constantValue := 0 }, { name := "$VALUES", type := (.array (.object "com/example/escrowd/escrowd/client/SecretMatch")), accessFlags := 4122, slot := 5, constantValue := 0 }]
  methods := #[k6m0]
  instanceTypes := #[(.object "java/lang/String"), .int, .int]
  staticTypes := #[(.object "com/example/escrowd/escrowd/client/SecretMatch"), (.object "com/example/escrowd/escrowd/client/SecretMatch"), (.object "com/example/escrowd/escrowd/client/SecretMatch"), (.object "com/example/escrowd/escrowd/client/SecretMatch"), (.object "com/example/escrowd/escrowd/client/SecretMatch"), (.array (.object "com/example/escrowd/escrowd/client/SecretMatch"))]
  resolved := Array.replicate 63 none
  statics := some 0 }

def pool7 : Array CpInfo := pool [(1, u "java/lang/Cloneable"), (0, .class_ 1), (0, u "java/lang/Object"), (0, .class_ 3)] 3

/-- java/lang/Cloneable -/
def k7 : Class := { plain "java/lang/Cloneable" (some 0) with
  accessFlags := 1537
  interfaces := #[]
  cf := some (fileOf pool7 2 #[] #[] 1537 4 #[] #[])
  fields := #[]
  methods := #[]
  instanceTypes := #[]
  staticTypes := #[]
  resolved := Array.replicate 8 none
  statics := none }

/-- the primitive byte -/
def k8 : Class := { plain "byte" none with kind := .primitive 'B', accessFlags := 0x411 }
/-- [B -/
def k9 : Class := { plain "[B" (some 0) with kind := .array 8 .byte, interfaces := #[7, 4], accessFlags := 1041 }

/-- the primitive int -/
def k10 : Class := { plain "int" none with kind := .primitive 'I', accessFlags := 0x411 }
/-- [I -/
def k11 : Class := { plain "[I" (some 0) with kind := .array 10 .int, interfaces := #[7, 4], accessFlags := 1041 }

def heap : Heap := #[{ cls := 6, slots := #[.ref 1, .ref 3, .ref 5, .ref 2, .ref 4, .null], vm := .statics 6 },
  { cls := 6, slots := #[.null, .int 0, .int 0], vm := .none },
  { cls := 6, slots := #[.null, .int 3, .int 0], vm := .none },
  { cls := 6, slots := #[.null, .int 1, .int 0], vm := .none },
  { cls := 6, slots := #[.null, .int 4, .int 0], vm := .none },
  { cls := 6, slots := #[.null, .int 2, .int 0], vm := .none }]
def classes : Array Class := #[k0, k1, k2, k3, k4, k5, k6, k7, k8, k9, k10, k11]
def interned : List (Array UInt16 × Addr) := []
def slotsUsed : Nat := 21
def theMethod : MethodId := ⟨1, 1⟩
def args0 : Array Value := #[.int 5]
def aboutOver (below : List Frame) : State where
  vm := { classes := classes, interned := interned.toArray }
  heap := heap
  slotsUsed := slotsUsed
  threads := #[{ frames := .invoking theMethod args0 :: below }]
def below0 : List Frame := [.native { method := ⟨0, 0⟩, args := #[] }]
def about1 : State := aboutOver below0
def p0 : Program := .bare "" "" ""
def e0 : Env := launch0.env 0 0 0
theorem w_frames : about1.frames = Frame.invoking theMethod args0 :: below0 := rfl
set_option maxRecDepth 65536 in
theorem w_args : argsFit about1.vm theMethod args0 = true := by decide +kernel
set_option maxRecDepth 65536 in
theorem w_heap : heapFits about1 = true := by decide +kernel
set_option maxRecDepth 65536 in
theorem w_runnable : about1.curStatus? = some .runnable := by decide +kernel
set_option maxRecDepth 65536 in
theorem w_alone : about1.alone = true := by decide +kernel
set_option maxRecDepth 65536 in
theorem w_named : about1.methodNamed? x = some theMethod := by decide +kernel
set_option maxRecDepth 65536 in
theorem w_hears : about1.hears theMethod below0 = true := by decide +kernel
set_option maxRecDepth 65536 in
theorem w_ripe : about1.ripe theMethod args0 below0 = true := by decide +kernel
theorem w_running : about1.status = .running := rfl
set_option maxRecDepth 65536 in
theorem w_room : about1.hasRoom e0.platform room_1 = true :=
  launch0.hasRoom_least _ room_1 (by decide +kernel) (by decide +kernel) (by decide +kernel) (by decide +kernel) (by decide +kernel) (by decide +kernel)
theorem allAtoms_all (ts : List Jvm.Cond) (a : Array Jvm.Value) (st : Jvm.State) : (allAtoms ts).before a st = ts.all (fun c => c.before a st) := by
  induction ts with
  | nil => rfl
  | cons c t ih =>
    show (Jvm.Cond.and c (allAtoms t)).before a st = _
    rw [Jvm.Cond.before_and, ih, List.all_cons]
def words1 : List Jvm.Cond := Jvm.Cond.code x code maxLocals ret :: tables_1
/-- a 'code' word, met by the world's own term for the bytes: nothing is compared byte by byte -/
theorem code_word {y : MethodName} {bytes : ByteArray} {mx : Nat} {rt : Option FieldType} {a : Array Value} {s : State} {m : MethodId} {meth : Method} {c : Code} (h1 : s.methodNamed? y = some m) (h2 : s.vm.method? m = some meth) (h3 : meth.code = some c) (h4 : c.code = bytes)
    (h5 : (c.maxLocals == mx && c.exceptionTable.isEmpty && decide (c.maxStack ≤ mostOperands) && decide (meth.sig.returnType = rt) && !meth.locks && decide (parseMethodDescriptor y.desc = some meth.sig)) = true) : (Jvm.Cond.code y bytes mx rt).before a s = true := by
  simp only [Bool.and_eq_true, beq_iff_eq, Bool.not_eq_true', decide_eq_true_eq] at h5
  obtain ⟨⟨⟨⟨⟨g1, g2⟩, g3⟩, g4⟩, g5⟩, g6⟩ := h5
  simp [Cond.before, Cond.holds, Cond.value, h1, h2, h3, h4, g1, g2, g3, g4, g5, g6]
def isCode : Jvm.Cond → Bool
  | .code _ _ _ _ => true
  | _ => false
theorem all_split {L : List Jvm.Cond} {P : Jvm.Cond → Bool} (h1 : L.all (fun c => isCode c || P c) = true) (h2 : ∀ c ∈ L.filter isCode, P c = true) : L.all P = true := by
  refine List.all_eq_true.mpr fun c hc => ?_
  have h := List.all_eq_true.mp h1 c hc
  rcases Bool.eq_false_or_eq_true (isCode c) with hi | hi
  · exact h2 c (List.mem_filter.mpr ⟨hc, hi⟩)
  · simpa [hi] using h
set_option maxRecDepth 65536 in
theorem w_c0 : (Jvm.Cond.code x code maxLocals ret).before args0 about1 = true := code_word (m := ⟨1, 1⟩) (meth := k1m1) (c := k1c1) (by decide +kernel) rfl rfl rfl (by decide +kernel)
set_option maxRecDepth 65536 in
theorem w_c1 : (Jvm.Cond.code ({ cls := "com/example/escrowd/escrowd/client/SecretMatch", name := "authenticates", desc := "()Z" } : Jvm.MethodName) prog_24_method_4_code (1 : Nat) (Option.some Jvm.ClassFile.FieldType.boolean)).before args0 about1 = true := code_word (m := ⟨6, 0⟩) (meth := k6m0) (c := k6c0) (by decide +kernel) rfl rfl rfl (by decide +kernel)
def codes1 : List Jvm.Cond := [Jvm.Cond.code x code maxLocals ret, Jvm.Cond.code ({ cls := "com/example/escrowd/escrowd/client/SecretMatch", name := "authenticates", desc := "()Z" } : Jvm.MethodName) prog_24_method_4_code (1 : Nat) (Option.some Jvm.ClassFile.FieldType.boolean)]
set_option maxRecDepth 65536 in
theorem codes_eq : words1.filter isCode = codes1 := rfl
theorem w_codes : ∀ c ∈ words1.filter isCode, c.before args0 about1 = true := by
  rw [codes_eq]
  intro c hc
  simp only [codes1, List.mem_cons, List.not_mem_nil, or_false] at hc
  rcases hc with rfl | rfl
  · exact w_c0
  · exact w_c1
set_option maxRecDepth 65536 in
theorem w_t1 : words1.all (fun c => isCode c || c.before args0 about1) = true := by decide +kernel
theorem w_tables : (allAtoms (Jvm.Cond.code x code maxLocals ret :: tables_1)).before args0 about1 = true := by
  rw [allAtoms_all]
  show words1.all (fun c => c.before args0 about1) = true
  refine all_split ?_ w_codes
  rw [w_t1]
set_option maxRecDepth 65536 in
theorem w_case : (Jvm.Cond.and given_1 narrow_1).before args0 about1 = true := by decide +kernel
theorem w_applies : (headSpec (Jvm.Cond.code x code maxLocals ret :: tables_1) room_1).applies x e0.platform about1 = true :=
  (Spec.applies_iff w_frames).mpr ⟨w_running, w_runnable, w_alone, w_named, w_hears, w_ripe, w_room, w_tables⟩
theorem atStart : AtStart classFile x code maxLocals ret World_1 tables_1 room_1 Calls_1 rest_1 Pre_1 launch0 p0 e0 about1 theMethod args0 below0 :=
  ⟨lists_1, trivial, launch0.admits_env _ _ _, launch0.least_env, fairChoices_fair.cas, fairChoices_fair.clock, w_frames, w_args, w_heap, w_applies, trivial, trivial, w_case⟩
end start1
theorem witness_1 : WitnessClaimed_1 := ⟨start1.p0, start1.e0, start1.about1, start1.theMethod, start1.args0, start1.below0, start1.atStart⟩
end Jvm.Pilot.@@N@@
