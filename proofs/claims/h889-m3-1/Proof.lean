import JvmDerived
import JvmDerived.Pilot.@@N@@Statement
import JvmDerived.Pilot.@@N@@Code
set_option linter.unusedVariables false
set_option linter.unusedSimpArgs false

namespace Jvm.Pilot.@@N@@
open Jvm Jvm.ClassFile Sem Op Lib Jvm.Free Jvm.Stand Jvm.LawKit Jvm.RoadKit Bundle Jvm.Pilot.@@N@@.Jvm.D
/-- a body that writes nothing and returns r -/
def own_Pure (r : Option Value) (h0 : Heap) (n0 : Nat) (v : Option Value) (h : Heap) (L : List Loc) : Prop := v = r ∧ Fr n0 L ∧ h = h0
theorem own_ext_refl (h : Heap) : Ext h h := ⟨Nat.le_refl _, fun _ _ q => q⟩
theorem own_ext_trans {h0 h h' : Heap} (A : Ext h0 h) (B : Ext h h') : Ext h0 h' := ⟨Nat.le_trans A.1 B.1, fun a c q => B.2 a c (A.2 a c q)⟩
theorem own_ext_keep {h0 h h' : Heap} {ws : List Addr} (A : Ext h0 h) (K : Keep h h' ws) (q : ∀ x ∈ ws, h0.size ≤ x) : Ext h0 h' :=
  ⟨Nat.le_trans A.1 K.1, fun a c r => K.2.1 a c (A.2 a c r) fun z => Nat.lt_irrefl _ (Nat.lt_of_lt_of_le (Array.getElem?_eq_some_iff.mp r).1 (q a z))⟩
theorem own_ext_wr {h0 h h' : Heap} {a : Addr} {sl : Nat} {v : Value} (A : Ext h0 h) (W : Wr h h' a sl v) (q : h0.size ≤ a) : Ext h0 h' := own_ext_keep A (Keep.of_wr W) (allS q all0)
/-- a law that may make cells -/
def own_Made (r : Option Value) (n0 : Nat) (v : Option Value) (h : Heap) (L : List Loc) : Prop := v = r ∧ Fr n0 L ∧ True
theorem own_fld_eq {args : Array Value} {Z : State} {t : Term} {a : Addr} {C n d : String} {k : Int32} (ht : t.eval args Z none [] Z = some (.ref a))
    (h : (Cond.eq (.field t C n d) (.int k)).value args Z none Z [] = some true) : Fld Z Z.heap a C n d (.int k) := by
  apply Fld.start
  have e1 : (Term.field t C n d).eval args Z none [] Z = Z.fieldOf? a C n d := fld_at ht
  rw [← e1]
  have e2 : (Term.int k).eval args Z none [] Z = some (.int k) := Term.int_eval k
  simp only [Cond.value] at h
  cases hx : (Term.field t C n d).eval args Z none [] Z with
  | none => simp [hx] at h
  | some v => cases v <;> simp [hx, e2] at h ⊢; exact h
theorem own_lc_ge {x y : Int64} (h : y.toInt ≤ x.toInt) : ¬ ((lcmpW x y) < (0 : Int32)) := by
  rw [lw_lt, Int64.lt_iff_toInt_lt]; omega
theorem own_lc_lt {x y : Int64} (h : x.toInt < y.toInt) : (lcmpW x y) < (0 : Int32) := by
  rw [lw_lt, Int64.lt_iff_toInt_lt]; omega
theorem own_lc_le {x y : Int64} (h : x.toInt ≤ y.toInt) : ¬ ((0 : Int32) < (lcmpW x y)) := by
  rw [lw_gt, Int64.lt_iff_toInt_lt]; omega
theorem own_lc_gt {x y : Int64} (h : y.toInt < x.toInt) : (0 : Int32) < (lcmpW x y) := by
  rw [lw_gt, Int64.lt_iff_toInt_lt]; omega
theorem own_lc_eq {x y : Int64} (h : x.toInt = y.toInt) : (lcmpW x y) = (0 : Int32) := by
  rw [lw_eq]; exact Int64.toInt_inj.mp h
theorem own_lc_ne {x y : Int64} (h : x.toInt ≠ y.toInt) : ¬ ((lcmpW x y) = (0 : Int32)) := by
  rw [lw_eq]; intro q; exact h (congrArg Int64.toInt q)
theorem own_lt_lc {x y : Int64} (h : (lcmpW x y) < (0 : Int32)) : x.toInt < y.toInt := by
  rw [lw_lt, Int64.lt_iff_toInt_lt] at h; exact h
theorem own_ge_lc {x y : Int64} (h : ¬ ((lcmpW x y) < (0 : Int32))) : y.toInt ≤ x.toInt := by
  rw [lw_lt, Int64.lt_iff_toInt_lt] at h; omega
theorem own_gt_lc {x y : Int64} (h : (0 : Int32) < (lcmpW x y)) : y.toInt < x.toInt := by
  rw [lw_gt, Int64.lt_iff_toInt_lt] at h; exact h
theorem own_le_lc {x y : Int64} (h : ¬ ((0 : Int32) < (lcmpW x y))) : x.toInt ≤ y.toInt := by
  rw [lw_gt, Int64.lt_iff_toInt_lt] at h; omega
theorem own_eq_lc {x y : Int64} (h : (lcmpW x y) = (0 : Int32)) : x.toInt = y.toInt := by
  rw [lw_eq] at h; rw [h]
theorem own_ne_lc {x y : Int64} (h : ¬ ((lcmpW x y) = (0 : Int32))) : x.toInt ≠ y.toInt := by
  rw [lw_eq] at h; exact fun q => h (Int64.toInt_inj.mp q)
theorem own_lrem {x y : Int64} (hx : 0 ≤ x.toInt) (hy : 0 < y.toInt) : 0 ≤ (x % y).toInt ∧ (x % y).toInt < y.toInt := by
  rw [Int64.toInt_mod]; exact ⟨Int.tmod_nonneg _ hx, Int.tmod_lt_of_pos _ hy⟩
theorem own_nz {x : Int64} (h : 1 ≤ x.toInt) : x ≠ 0 := fun q => by
  rw [q] at h; exact absurd h (by decide)
def own_Init (Z : State) (a : Addr) (r : Int64) (h0 : Heap) (n0 : Nat) (v : Option Value) (h : Heap) (L : List Loc) : Prop := v = none ∧ Fr n0 L ∧ Keep h0 h [a] ∧ Exa Z h a "com/example/escrowd/escrowd/client/SecretPolicy" ∧ Fld Z h a "com/example/escrowd/escrowd/client/SecretPolicy" "rotatedSecretExpiration" "J" (.long r)
theorem own_s (x : Int64) : 1 ≤ (((x &&& (9223372036854775807 : Int64)) % (3155760000 : Int64)) + (1 : Int64)).toInt ∧ (((x &&& (9223372036854775807 : Int64)) % (3155760000 : Int64)) + (1 : Int64)).toInt ≤ 3155760000 := by
  have h1 : (x &&& (9223372036854775807 : Int64)).toInt = x.toInt % 9223372036854775808 := c_maskL x 9223372036854775807 63 (by decide) (by decide)
  have h2 := own_lrem (x := (x &&& (9223372036854775807 : Int64))) (y := (3155760000 : Int64)) (by omega) (by decide)
  have h3 : (3155760000 : Int64).toInt = 3155760000 := by decide
  have h4 := c_ladd ((x &&& (9223372036854775807 : Int64)) % (3155760000 : Int64)) (1 : Int64)
  have h5 : (1 : Int64).toInt = 1 := by decide
  have h6 := rng64 (((x &&& (9223372036854775807 : Int64)) % (3155760000 : Int64)) + (1 : Int64))
  omega
theorem own_s1 {x : Int64} (h : 1 ≤ x.toInt) : (x - (1 : Int64)).toInt = x.toInt - 1 := by
  have h4 := c_lsub x (1 : Int64)
  have h5 : (1 : Int64).toInt = 1 := by decide
  have h6 := rng64 (x - (1 : Int64))
  have rg7 := rng64 x
  omega
theorem own_msk (x : Int64) : 0 ≤ (x &&& (9223372036854775807 : Int64)).toInt := by
  have h1 : (x &&& (9223372036854775807 : Int64)).toInt = x.toInt % 9223372036854775808 := c_maskL x 9223372036854775807 63 (by decide) (by decide)
  omega
theorem own_ush (x : Int64) : 0 ≤ ((x.toUInt64 >>> ((2 : Int32) &&& 0x3f).toInt64.toUInt64).toInt64).toInt := by
  have h := c_lushr x (2 : Int32) 2 (by decide) (by decide)
  have h2 := rng64 x
  omega
theorem own_0 : (0 : Int64).toInt = 0 := by decide
theorem own_1 : (1 : Int64).toInt = 1 := by decide
theorem own_M : (3155760000 : Int64).toInt = 3155760000 := by decide
theorem d8_0 : decode jdk_29_method_70_code 0 = .ok (.lload_n 0, 1) := by decide +kernel
theorem d8_1 : decode jdk_29_method_70_code 1 = .ok (.lload_n 2, 1) := by decide +kernel
theorem d8_2 : decode jdk_29_method_70_code 2 = .ok (.lcmp, 1) := by decide +kernel
theorem d8_3 : decode jdk_29_method_70_code 3 = .ok (.ifCond .gt 7, 3) := by decide +kernel
theorem d8_10 : decode jdk_29_method_70_code 10 = .ok (.lload_n 2, 1) := by decide +kernel
theorem d8_11 : decode jdk_29_method_70_code 11 = .ok (.lreturn, 1) := by decide +kernel
theorem d8_6 : decode jdk_29_method_70_code 6 = .ok (.lload_n 0, 1) := by decide +kernel
theorem d8_7 : decode jdk_29_method_70_code 7 = .ok (.goto 4, 3) := by decide +kernel
theorem ef_rm_min (m : MethodId) (x0 : Int64) (x1 : Int64) : entryFrame m #[(.long x0), (.long x1)] 4 = mkF m 0 #[.val (.long x0), .second, .val (.long x1), .second] [] := by first | (simp [entryFrame, mkF, argsToLocals, Value.category]; done) | rfl
set_option maxRecDepth 65536 in
set_option maxHeartbeats 40000000 in
theorem rm_min (l : Launch) (Z : State) (a0 : Array Value) (hw : ∀ d ∈ tables_1, d.before a0 Z = true) (ws : List Jvm.Cond) (a : Int64) (b : Int64) (h0 : Heap) (n0 : Nat) (Z0 : n0 ≤ h0.size) (r : Int64) (hres : (if (0 : Int32) < (lcmpW a b) then b else a) = r) :
    MetFree l (⟨"java/lang/Math", "min", "(JJ)J"⟩ : MethodName) (head1 (Jvm.Cond.code (⟨"java/lang/Math", "min", "(JJ)J"⟩ : MethodName) jdk_29_method_70_code 4 (some .long) :: ws) ({ frames := 0, cells := 0, slots := 0, locals := 0 } : Room)) (fun aQ UQ => aQ = #[(.long a), (.long b)] ∧ Z.Warmed39 UQ.vm ∧ UQ.heap = h0) (fun _ _ _ _ _ => True) (fun _ UQ oQ UR => ∃ vQ LQ, oQ = .returned vQ ∧ own_Pure (some (.long r)) h0 n0 vQ UR.heap LQ ∧ FrameEnd UQ oQ UR LQ ({ frames := 0, cells := 0, slots := 0, locals := 0 } : Room).cells ({ frames := 0, cells := 0, slots := 0, locals := 0 } : Room).slots) := by
  refine MetFree.of_bodySF (Jvm.Free.JP.mathPlain rfl (by decide +kernel)) hisR ?_
  intro p e s m args below meth c s₁ Bd hml0 hP hK
  obtain ⟨rfl, hZ, hh⟩ := hP
  have hx := Bd.exec
  have hby := Bd.bytes
  have hml : c.maxLocals = 4 := hml0
  have hown : s.vm.findClass "java/lang/Math" = some m.cls := findClass_of_methodNamed Bd.named
  have hnm := (name_of_methodNamed Bd.named Bd.method).1
  have X0 : Stand p l e ({ frames := 0, cells := 0, slots := 0, locals := 0 } : Room) s m #[(.long a), (.long b)] below meth c s₁ [] 0 0 := Stand.of_body Bd
  have e0 : s₁.heap = h0 := by rw [← hh, Bd.state]; rfl
  have N0 := Fr.nil n0
  have pre0 : ∀ t, Steps p.tables e below (s₁.setTop (mkF m 0 #[.val (.long a), .second, .val (.long b), .second] [])) t → Steps p.tables e below (s₁.setTop (entryFrame m #[(.long a), (.long b)] 4)) t := fun t kq => castTop (ef_rm_min m a b) kq
  by_cases hc3_1 : (0 : Int32) < (lcmpW a b)
  · -- pc 3: (0 : Int32) < (lcmpW a b)
    obtain ⟨fs, hr, hrun, hended, hW, hsame⟩ := X0.leave (v := some (.long b)) (fun h => by rw [Bd.returns] at h; cases h)
    refine ⟨_, _, pre0 _ ?_, hrun, hended, _, _, rfl, ?_, ⟨_, rfl⟩, hW, hsame.mono (by decide) (by decide)⟩
    · show Steps p.tables e below (s₁.setTop (mkF m 0 #[.val (.long a), .second, .val (.long b), .second] [])) _
      refine XS.lloadN X0.here hx rfl (hb hby d8_0) rfl ?_
      show Steps p.tables e below (s₁.setTop (mkF m 1 #[.val (.long a), .second, .val (.long b), .second] [(.long a)])) _
      refine XS.lloadN X0.here hx rfl (hb hby d8_1) rfl ?_
      show Steps p.tables e below (s₁.setTop (mkF m 2 #[.val (.long a), .second, .val (.long b), .second] [(.long b), (.long a)])) _
      refine XS.lcmp X0.here hx rfl (hb hby d8_2) rfl ?_
      show Steps p.tables e below (s₁.setTop (mkF m 3 #[.val (.long a), .second, .val (.long b), .second] [(.int (lcmpW a b))])) _
      refine XS.ifYes X0.here hx rfl (pc0 := 3) (pc' := 10) rfl (hb hby d8_3) rfl ((if0 _ _).trans (tlt hc3_1).2.2.1) (by decide) (by decide) ?_
      show Steps p.tables e below (s₁.setTop (mkF m 10 #[.val (.long a), .second, .val (.long b), .second] [])) _
      refine XS.lloadN X0.here hx rfl (hb hby d8_10) rfl ?_
      show Steps p.tables e below (s₁.setTop (mkF m 11 #[.val (.long a), .second, .val (.long b), .second] [(.long b)])) _
      exact retOut X0 hx Bd.returns rfl (Or.inr (Or.inl ⟨rfl, rfl, _, rfl⟩)) (hb hby d8_11) hr
    · show own_Pure (some (.long r)) h0 n0 _ s₁.heap _
      rw [e0]
      exact ⟨by rw [← hres]; simp only [if_pos hc3_1], N0, rfl⟩
  · -- pc 3: not (0 : Int32) < (lcmpW a b)
    obtain ⟨fs, hr, hrun, hended, hW, hsame⟩ := X0.leave (v := some (.long a)) (fun h => by rw [Bd.returns] at h; cases h)
    refine ⟨_, _, pre0 _ ?_, hrun, hended, _, _, rfl, ?_, ⟨_, rfl⟩, hW, hsame.mono (by decide) (by decide)⟩
    · show Steps p.tables e below (s₁.setTop (mkF m 0 #[.val (.long a), .second, .val (.long b), .second] [])) _
      refine XS.lloadN X0.here hx rfl (hb hby d8_0) rfl ?_
      show Steps p.tables e below (s₁.setTop (mkF m 1 #[.val (.long a), .second, .val (.long b), .second] [(.long a)])) _
      refine XS.lloadN X0.here hx rfl (hb hby d8_1) rfl ?_
      show Steps p.tables e below (s₁.setTop (mkF m 2 #[.val (.long a), .second, .val (.long b), .second] [(.long b), (.long a)])) _
      refine XS.lcmp X0.here hx rfl (hb hby d8_2) rfl ?_
      show Steps p.tables e below (s₁.setTop (mkF m 3 #[.val (.long a), .second, .val (.long b), .second] [(.int (lcmpW a b))])) _
      refine XS.ifNo X0.here hx rfl (hb hby d8_3) rfl ((if0 _ _).trans (flt hc3_1).2.2.1) ?_
      show Steps p.tables e below (s₁.setTop (mkF m 6 #[.val (.long a), .second, .val (.long b), .second] [])) _
      refine XS.lloadN X0.here hx rfl (hb hby d8_6) rfl ?_
      show Steps p.tables e below (s₁.setTop (mkF m 7 #[.val (.long a), .second, .val (.long b), .second] [(.long a)])) _
      refine XS.goto X0.here hx rfl (pc0 := 7) (pc' := 11) rfl (hb hby d8_7) (by decide) (by decide) ?_
      show Steps p.tables e below (s₁.setTop (mkF m 11 #[.val (.long a), .second, .val (.long b), .second] [(.long a)])) _
      exact retOut X0 hx Bd.returns rfl (Or.inr (Or.inl ⟨rfl, rfl, _, rfl⟩)) (hb hby d8_11) hr
    · show own_Pure (some (.long r)) h0 n0 _ s₁.heap _
      rw [e0]
      exact ⟨by rw [← hres]; simp only [if_neg hc3_1], N0, rfl⟩
theorem d2_0 : decode jdk_2650_method_2_code 0 = .ok (.getstatic 17, 3) := by decide +kernel
theorem d2_3 : decode jdk_2650_method_2_code 3 = .ok (.areturn, 1) := by decide +kernel
theorem pn_10 : plainName "java/util/OptionalLong" = true := by first | (simp [plainName, overriddenIn]; done) | decide +kernel
theorem ef_rm_empty (m : MethodId)  : entryFrame m #[] 0 = mkF m 0 #[] [] := by first | (simp [entryFrame, mkF, argsToLocals, Value.category]; done) | rfl
set_option maxRecDepth 65536 in
set_option maxHeartbeats 40000000 in
theorem rm_empty (l : Launch) (Z : State) (a0 : Array Value) (hw : ∀ d ∈ tables_1, d.before a0 Z = true) (ws : List Jvm.Cond)  (h0 : Heap) (n0 : Nat) (Z0 : n0 ≤ h0.size) (w : Addr) (S_E : Sta Z h0 "java/util/OptionalLong" "EMPTY" "Ljava/util/OptionalLong;" (.ref w)) (E_E : Exa Z h0 w "java/util/OptionalLong") (F_E : Fld Z h0 w "java/util/OptionalLong" "isPresent" "Z" (.int (0 : Int32))) :
    MetFree l (⟨"java/util/OptionalLong", "empty", "()Ljava/util/OptionalLong;"⟩ : MethodName) (head1 (Jvm.Cond.code (⟨"java/util/OptionalLong", "empty", "()Ljava/util/OptionalLong;"⟩ : MethodName) jdk_2650_method_2_code 0 (some (.object "java/util/OptionalLong")) :: ws) ({ frames := 0, cells := 0, slots := 0, locals := 0 } : Room)) (fun aQ UQ => aQ = #[] ∧ Z.Warmed39 UQ.vm ∧ UQ.heap = h0) (fun _ _ _ _ _ => True) (fun _ UQ oQ UR => ∃ vQ LQ, oQ = .returned vQ ∧ own_Pure (some (.ref w)) h0 n0 vQ UR.heap LQ ∧ FrameEnd UQ oQ UR LQ ({ frames := 0, cells := 0, slots := 0, locals := 0 } : Room).cells ({ frames := 0, cells := 0, slots := 0, locals := 0 } : Room).slots) := by
  refine MetFree.of_bodySF (plainFor_of_name pn_10) hisR ?_
  intro p e s m args below meth c s₁ Bd hml0 hP hK
  obtain ⟨rfl, hZ, hh⟩ := hP
  have hx := Bd.exec
  have hby := Bd.bytes
  have hml : c.maxLocals = 0 := hml0
  have hown : s.vm.findClass "java/util/OptionalLong" = some m.cls := findClass_of_methodNamed Bd.named
  have hnm := (name_of_methodNamed Bd.named Bd.method).1
  have X0 : Stand p l e ({ frames := 0, cells := 0, slots := 0, locals := 0 } : Room) s m #[] below meth c s₁ [] 0 0 := Stand.of_body Bd
  have e0 : s₁.heap = h0 := by rw [← hh, Bd.state]; rfl
  have N0 := Fr.nil n0
  have pre0 : ∀ t, Steps p.tables e below (s₁.setTop (mkF m 0 #[] [])) t → Steps p.tables e below (s₁.setTop (entryFrame m #[] 0)) t := fun t kq => castTop (ef_rm_empty m ) kq
  obtain ⟨T2, X2, e2, st2⟩ := getS2 X0 hx hZ hown (host := "") (Or.inl (hw _ (List.mem_of_getElem? (i := 13) rfl))) Via.refl e0 S_E (g := (mkF m 0 #[] [])) rfl (hb hby d2_0)
  obtain ⟨fs, hr, hrun, hended, hW, hsame⟩ := X2.leave (v := some (.ref w)) (fun h => by rw [Bd.returns] at h; cases h)
  refine ⟨_, _, pre0 _ ?_, hrun, hended, _, _, rfl, ?_, ⟨_, rfl⟩, hW, hsame.mono (by decide) (by decide)⟩
  · show Steps p.tables e below (s₁.setTop (mkF m 0 #[] [])) _
    refine st2 _ ?_
    show Steps p.tables e below (T2.setTop (mkF m 3 #[] [(.ref w)])) _
    exact retOut X2 hx Bd.returns rfl (Or.inr (Or.inr (Or.inr (Or.inr ⟨rfl, rfl, rfl⟩)))) (hb hby d2_3) hr
  · show own_Pure (some (.ref w)) h0 n0 _ T2.heap _
    rw [e2]
    exact ⟨rfl, N0, rfl⟩
theorem d4_0 : decode jdk_30_method_1_code 0 = .ok (.aload_n 0, 1) := by decide +kernel
theorem d4_1 : decode jdk_30_method_1_code 1 = .ok (.invokespecial 1, 3) := by decide +kernel
theorem d4_4 : decode jdk_30_method_1_code 4 = .ok (.return_, 1) := by decide +kernel
theorem pn_14 : plainName "java/lang/Record" = true := by first | (simp [plainName, overriddenIn]; done) | decide +kernel
theorem ef_rm_rec (m : MethodId) (x0 : Addr) : entryFrame m #[(.ref x0)] 1 = mkF m 0 #[.val (.ref x0)] [] := by first | (simp [entryFrame, mkF, argsToLocals, Value.category]; done) | rfl
set_option maxRecDepth 65536 in
set_option maxHeartbeats 40000000 in
theorem rm_rec (l : Launch) (Z : State) (a0 : Array Value) (hw : ∀ d ∈ tables_1, d.before a0 Z = true) (ws : List Jvm.Cond) (a1 : Addr) (h0 : Heap) (n0 : Nat) (Z0 : n0 ≤ h0.size)  :
    MetFree l (⟨"java/lang/Record", "<init>", "()V"⟩ : MethodName) (head1 (Jvm.Cond.code (⟨"java/lang/Record", "<init>", "()V"⟩ : MethodName) jdk_30_method_1_code 1 none :: ws) ({ frames := 1, cells := 0, slots := 0, locals := 12 } : Room)) (fun aQ UQ => aQ = #[(.ref a1)] ∧ Z.Warmed39 UQ.vm ∧ UQ.heap = h0) (fun _ _ _ _ _ => True) (fun _ UQ oQ UR => ∃ vQ LQ, oQ = .returned vQ ∧ own_Pure none h0 n0 vQ UR.heap LQ ∧ FrameEnd UQ oQ UR LQ ({ frames := 1, cells := 0, slots := 0, locals := 12 } : Room).cells ({ frames := 1, cells := 0, slots := 0, locals := 12 } : Room).slots) := by
  refine MetFree.of_bodySF (plainFor_of_name pn_14) hisR ?_
  intro p e s m args below meth c s₁ Bd hml0 hP hK
  obtain ⟨rfl, hZ, hh⟩ := hP
  have hx := Bd.exec
  have hby := Bd.bytes
  have hml : c.maxLocals = 1 := hml0
  have hown : s.vm.findClass "java/lang/Record" = some m.cls := findClass_of_methodNamed Bd.named
  have hnm := (name_of_methodNamed Bd.named Bd.method).1
  have X0 : Stand p l e ({ frames := 1, cells := 0, slots := 0, locals := 12 } : Room) s m #[(.ref a1)] below meth c s₁ [] 0 0 := Stand.of_body Bd
  have e0 : s₁.heap = h0 := by rw [← hh, Bd.state]; rfl
  have N0 := Fr.nil n0
  have pre0 : ∀ t, Steps p.tables e below (s₁.setTop (mkF m 0 #[.val (.ref a1)] [])) t → Steps p.tables e below (s₁.setTop (entryFrame m #[(.ref a1)] 1)) t := fun t kq => castTop (ef_rm_rec m a1) kq
  obtain ⟨T3, X3, e3, st3⟩ := initO X0 hx hZ hown (hw _ (List.mem_of_getElem? (i := 22) rfl)) (hw _ (List.mem_of_getElem? (i := 23) rfl)) (hw _ (List.mem_of_getElem? (i := 24) rfl)) e0 (g := (mkF m 1 #[.val (.ref a1)] [(.ref a1)])) rfl (by rw [hml]; rfl) rfl (hb hby d4_1) (by decide) (W := 0) (by show 2 * 0 + _ ≤ _; exact Nat.le_of_eq rfl) (by decide)
  obtain ⟨fs, hr, hrun, hended, hW, hsame⟩ := X3.leave (v := none) (fun _ => rfl)
  refine ⟨_, _, pre0 _ ?_, hrun, hended, _, _, rfl, ?_, ⟨_, rfl⟩, hW, hsame.mono (by decide) (by decide)⟩
  · show Steps p.tables e below (s₁.setTop (mkF m 0 #[.val (.ref a1)] [])) _
    refine XS.aloadN X0.here hx rfl (hb hby d4_0) rfl rfl ?_
    show Steps p.tables e below (s₁.setTop (mkF m 1 #[.val (.ref a1)] [(.ref a1)])) _
    refine st3 _ ?_
    show Steps p.tables e below (T3.setTop (mkF m 4 #[.val (.ref a1)] [])) _
    exact X3.returnOut hx Bd.returns (hb hby d4_4) hr
  · show own_Pure none h0 n0 _ T3.heap _
    rw [e3]
    exact ⟨rfl, N0, rfl⟩
theorem d6_0 : decode jdk_2650_method_6_code 0 = .ok (.aload_n 0, 1) := by decide +kernel
theorem d6_1 : decode jdk_2650_method_6_code 1 = .ok (.getfield 7, 3) := by decide +kernel
theorem d6_4 : decode jdk_2650_method_6_code 4 = .ok (.ireturn, 1) := by decide +kernel
theorem ef_rm_isp (m : MethodId) (x0 : Addr) : entryFrame m #[(.ref x0)] 1 = mkF m 0 #[.val (.ref x0)] [] := by first | (simp [entryFrame, mkF, argsToLocals, Value.category]; done) | rfl
set_option maxRecDepth 65536 in
set_option maxHeartbeats 40000000 in
theorem rm_isp (l : Launch) (Z : State) (a0 : Array Value) (hw : ∀ d ∈ tables_1, d.before a0 Z = true) (ws : List Jvm.Cond) (a1 : Addr) (h0 : Heap) (n0 : Nat) (Z0 : n0 ≤ h0.size) (F_E : Fld Z h0 a1 "java/util/OptionalLong" "isPresent" "Z" (.int (0 : Int32))) :
    MetFree l (⟨"java/util/OptionalLong", "isPresent", "()Z"⟩ : MethodName) (head1 (Jvm.Cond.code (⟨"java/util/OptionalLong", "isPresent", "()Z"⟩ : MethodName) jdk_2650_method_6_code 1 (some .boolean) :: ws) ({ frames := 0, cells := 0, slots := 0, locals := 0 } : Room)) (fun aQ UQ => aQ = #[(.ref a1)] ∧ Z.Warmed39 UQ.vm ∧ UQ.heap = h0) (fun _ _ _ _ _ => True) (fun _ UQ oQ UR => ∃ vQ LQ, oQ = .returned vQ ∧ own_Pure (some (.int 0)) h0 n0 vQ UR.heap LQ ∧ FrameEnd UQ oQ UR LQ ({ frames := 0, cells := 0, slots := 0, locals := 0 } : Room).cells ({ frames := 0, cells := 0, slots := 0, locals := 0 } : Room).slots) := by
  refine MetFree.of_bodySF (plainFor_of_name pn_10) hisR ?_
  intro p e s m args below meth c s₁ Bd hml0 hP hK
  obtain ⟨rfl, hZ, hh⟩ := hP
  have hx := Bd.exec
  have hby := Bd.bytes
  have hml : c.maxLocals = 1 := hml0
  have hown : s.vm.findClass "java/util/OptionalLong" = some m.cls := findClass_of_methodNamed Bd.named
  have hnm := (name_of_methodNamed Bd.named Bd.method).1
  have X0 : Stand p l e ({ frames := 0, cells := 0, slots := 0, locals := 0 } : Room) s m #[(.ref a1)] below meth c s₁ [] 0 0 := Stand.of_body Bd
  have e0 : s₁.heap = h0 := by rw [← hh, Bd.state]; rfl
  have N0 := Fr.nil n0
  have pre0 : ∀ t, Steps p.tables e below (s₁.setTop (mkF m 0 #[.val (.ref a1)] [])) t → Steps p.tables e below (s₁.setTop (entryFrame m #[(.ref a1)] 1)) t := fun t kq => castTop (ef_rm_isp m a1) kq
  obtain ⟨T4, X4, e4, st4⟩ := getF X0 hx hZ hown (host := "") (Or.inl (hw _ (List.mem_of_getElem? (i := 31) rfl))) Via.refl e0 F_E (g := (mkF m 1 #[.val (.ref a1)] [(.ref a1)])) rfl rfl (hb hby d6_1)
  obtain ⟨fs, hr, hrun, hended, hW, hsame⟩ := X4.leave (v := some (.int (0 : Int32))) (fun h => by rw [Bd.returns] at h; cases h)
  refine ⟨_, _, pre0 _ ?_, hrun, hended, _, _, rfl, ?_, ⟨_, rfl⟩, hW, hsame.mono (by decide) (by decide)⟩
  · show Steps p.tables e below (s₁.setTop (mkF m 0 #[.val (.ref a1)] [])) _
    refine XS.aloadN X0.here hx rfl (hb hby d6_0) rfl rfl ?_
    show Steps p.tables e below (s₁.setTop (mkF m 1 #[.val (.ref a1)] [(.ref a1)])) _
    refine st4 _ ?_
    show Steps p.tables e below (T4.setTop (mkF m 4 #[.val (.ref a1)] [(.int (0 : Int32))])) _
    exact retN X4 hx (t := .boolean) Bd.returns (by simp) (hb hby d6_4) hr
  · show own_Pure (some (.int 0)) h0 n0 _ T4.heap _
    rw [e4]
    exact ⟨rfl, N0, rfl⟩
theorem d3_0 : decode prog_25_method_1_code 0 = .ok (.aload_n 0, 1) := by decide +kernel
theorem pd_19 : parseMethodDescriptor "()V" = some ⟨[], none⟩ := by decide +kernel
theorem d3_1 : decode prog_25_method_1_code 1 = .ok (.invokespecial 1, 3) := by decide +kernel
theorem d3_4 : decode prog_25_method_1_code 4 = .ok (.lload_n 1, 1) := by decide +kernel
theorem d3_5 : decode prog_25_method_1_code 5 = .ok (.lconst 1, 1) := by decide +kernel
theorem d3_6 : decode prog_25_method_1_code 6 = .ok (.lcmp, 1) := by decide +kernel
theorem d3_7 : decode prog_25_method_1_code 7 = .ok (.ifCond .lt 11, 3) := by decide +kernel
theorem d3_10 : decode prog_25_method_1_code 10 = .ok (.lload_n 1, 1) := by decide +kernel
theorem d3_11 : decode prog_25_method_1_code 11 = .ok (.ldc2_w 9, 3) := by decide +kernel
theorem d3_14 : decode prog_25_method_1_code 14 = .ok (.lcmp, 1) := by decide +kernel
theorem d3_15 : decode prog_25_method_1_code 15 = .ok (.ifCond .le 13, 3) := by decide +kernel
theorem d3_28 : decode prog_25_method_1_code 28 = .ok (.lload_n 3, 1) := by decide +kernel
theorem d3_29 : decode prog_25_method_1_code 29 = .ok (.lconst 0, 1) := by decide +kernel
theorem d3_30 : decode prog_25_method_1_code 30 = .ok (.lcmp, 1) := by decide +kernel
theorem d3_31 : decode prog_25_method_1_code 31 = .ok (.ifCond .lt 9, 3) := by decide +kernel
theorem d3_34 : decode prog_25_method_1_code 34 = .ok (.lload_n 3, 1) := by decide +kernel
theorem d3_35 : decode prog_25_method_1_code 35 = .ok (.lload_n 1, 1) := by decide +kernel
theorem d3_36 : decode prog_25_method_1_code 36 = .ok (.lcmp, 1) := by decide +kernel
theorem d3_37 : decode prog_25_method_1_code 37 = .ok (.ifCond .lt 13, 3) := by decide +kernel
theorem d3_50 : decode prog_25_method_1_code 50 = .ok (.lload 5, 2) := by decide +kernel
theorem d3_52 : decode prog_25_method_1_code 52 = .ok (.lconst 0, 1) := by decide +kernel
theorem d3_53 : decode prog_25_method_1_code 53 = .ok (.lcmp, 1) := by decide +kernel
theorem d3_54 : decode prog_25_method_1_code 54 = .ok (.ifCond .lt 10, 3) := by decide +kernel
theorem d3_57 : decode prog_25_method_1_code 57 = .ok (.lload 5, 2) := by decide +kernel
theorem d3_59 : decode prog_25_method_1_code 59 = .ok (.lload_n 1, 1) := by decide +kernel
theorem d3_60 : decode prog_25_method_1_code 60 = .ok (.lcmp, 1) := by decide +kernel
theorem d3_61 : decode prog_25_method_1_code 61 = .ok (.ifCond .lt 13, 3) := by decide +kernel
theorem d3_74 : decode prog_25_method_1_code 74 = .ok (.aload 7, 2) := by decide +kernel
theorem pd_46 : parseMethodDescriptor "()Z" = some ⟨[], some .boolean⟩ := by decide +kernel
theorem d3_76 : decode prog_25_method_1_code 76 = .ok (.invokevirtual 22, 3) := by decide +kernel
theorem d3_79 : decode prog_25_method_1_code 79 = .ok (.ifCond .eq 33, 3) := by decide +kernel
theorem d3_112 : decode prog_25_method_1_code 112 = .ok (.aload_n 0, 1) := by decide +kernel
theorem d3_113 : decode prog_25_method_1_code 113 = .ok (.lload_n 1, 1) := by decide +kernel
theorem d3_114 : decode prog_25_method_1_code 114 = .ok (.putfield 34, 3) := by decide +kernel
theorem d3_117 : decode prog_25_method_1_code 117 = .ok (.aload_n 0, 1) := by decide +kernel
theorem d3_118 : decode prog_25_method_1_code 118 = .ok (.lload_n 3, 1) := by decide +kernel
theorem d3_119 : decode prog_25_method_1_code 119 = .ok (.putfield 38, 3) := by decide +kernel
theorem d3_122 : decode prog_25_method_1_code 122 = .ok (.aload_n 0, 1) := by decide +kernel
theorem d3_123 : decode prog_25_method_1_code 123 = .ok (.lload 5, 2) := by decide +kernel
theorem d3_125 : decode prog_25_method_1_code 125 = .ok (.putfield 41, 3) := by decide +kernel
theorem d3_128 : decode prog_25_method_1_code 128 = .ok (.aload_n 0, 1) := by decide +kernel
theorem d3_129 : decode prog_25_method_1_code 129 = .ok (.aload 7, 2) := by decide +kernel
theorem d3_131 : decode prog_25_method_1_code 131 = .ok (.putfield 44, 3) := by decide +kernel
theorem d3_134 : decode prog_25_method_1_code 134 = .ok (.return_, 1) := by decide +kernel
theorem pn_62 : plainName "com/example/escrowd/escrowd/client/SecretPolicy" = true := by first | (simp [plainName, overriddenIn]; done) | decide +kernel
theorem ef_rm_init4 (m : MethodId) (x0 : Addr) (x1 : Int64) (x2 : Int64) (x3 : Int64) (x4 : Addr) : entryFrame m #[(.ref x0), (.long x1), (.long x2), (.long x3), (.ref x4)] 8 = mkF m 0 #[.val (.ref x0), .val (.long x1), .second, .val (.long x2), .second, .val (.long x3), .second, .val (.ref x4)] [] := by first | (simp [entryFrame, mkF, argsToLocals, Value.category]; done) | rfl
set_option maxRecDepth 65536 in
set_option maxHeartbeats 40000000 in
theorem rm_init4 (l : Launch) (Z : State) (a0 : Array Value) (hw : ∀ d ∈ tables_1, d.before a0 Z = true) (ws : List Jvm.Cond) (a1 : Addr) (q1 : Int64) (q2 : Int64) (q3 : Int64) (w : Addr) (h0 : Heap) (n0 : Nat) (Z0 : n0 ≤ h0.size) (E_a1 : Exa Z h0 a1 "com/example/escrowd/escrowd/client/SecretPolicy") (F_secretExpiration : Fld Z h0 a1 "com/example/escrowd/escrowd/client/SecretPolicy" "secretExpiration" "J" (.long (0 : Int64))) (F_rotatedSecretExpiration : Fld Z h0 a1 "com/example/escrowd/escrowd/client/SecretPolicy" "rotatedSecretExpiration" "J" (.long (0 : Int64))) (F_remainingExpirationForRotation : Fld Z h0 a1 "com/example/escrowd/escrowd/client/SecretPolicy" "remainingExpirationForRotation" "J" (.long (0 : Int64))) (F_notifyBeforeExpiration : Fld Z h0 a1 "com/example/escrowd/escrowd/client/SecretPolicy" "notifyBeforeExpiration" "Ljava/util/OptionalLong;" .null) (gn_a1 : n0 ≤ a1) (E_E : Exa Z h0 w "java/util/OptionalLong") (F_E : Fld Z h0 w "java/util/OptionalLong" "isPresent" "Z" (.int (0 : Int32))) (rg7 : ¬ ((lcmpW q1 (1 : Int64)) < (0 : Int32))) (rg15 : ¬ ((0 : Int32) < (lcmpW q1 (3155760000 : Int64)))) (rg31 : ¬ ((lcmpW q2 (0 : Int64)) < (0 : Int32))) (rg37 : (lcmpW q2 q1) < (0 : Int32)) (rg54 : ¬ ((lcmpW q3 (0 : Int64)) < (0 : Int32))) (rg61 : (lcmpW q3 q1) < (0 : Int32)) :
    MetFree l (⟨"com/example/escrowd/escrowd/client/SecretPolicy", "<init>", "(JJJLjava/util/OptionalLong;)V"⟩ : MethodName) (head1 (Jvm.Cond.code (⟨"com/example/escrowd/escrowd/client/SecretPolicy", "<init>", "(JJJLjava/util/OptionalLong;)V"⟩ : MethodName) prog_25_method_1_code 8 none :: ws) ({ frames := 2, cells := 0, slots := 0, locals := 24 } : Room)) (fun aQ UQ => aQ = #[(.ref a1), (.long q1), (.long q2), (.long q3), (.ref w)] ∧ Z.Warmed39 UQ.vm ∧ UQ.heap = h0) (fun _ _ _ _ _ => True) (fun _ UQ oQ UR => ∃ vQ LQ, oQ = .returned vQ ∧ own_Init Z a1 q2 h0 n0 vQ UR.heap LQ ∧ FrameEnd UQ oQ UR LQ ({ frames := 2, cells := 0, slots := 0, locals := 24 } : Room).cells ({ frames := 2, cells := 0, slots := 0, locals := 24 } : Room).slots) := by
  refine MetFree.of_bodySF (plainFor_of_name pn_62) hisR ?_
  intro p e s m args below meth c s₁ Bd hml0 hP hK
  obtain ⟨rfl, hZ, hh⟩ := hP
  have hx := Bd.exec
  have hby := Bd.bytes
  have hml : c.maxLocals = 8 := hml0
  have hown : s.vm.findClass "com/example/escrowd/escrowd/client/SecretPolicy" = some m.cls := findClass_of_methodNamed Bd.named
  have hnm := (name_of_methodNamed Bd.named Bd.method).1
  have X0 : Stand p l e ({ frames := 2, cells := 0, slots := 0, locals := 24 } : Room) s m #[(.ref a1), (.long q1), (.long q2), (.long q3), (.ref w)] below meth c s₁ [] 0 0 := Stand.of_body Bd
  have e0 : s₁.heap = h0 := by rw [← hh, Bd.state]; rfl
  have N0 := Fr.nil n0
  have pre0 : ∀ t, Steps p.tables e below (s₁.setTop (mkF m 0 #[.val (.ref a1), .val (.long q1), .second, .val (.long q2), .second, .val (.long q3), .second, .val (.ref w)] [])) t → Steps p.tables e below (s₁.setTop (entryFrame m #[(.ref a1), (.long q1), (.long q2), (.long q3), (.ref w)] 8)) t := fun t kq => castTop (ef_rm_init4 m a1 q1 q2 q3 w) kq
  obtain ⟨_, _, ⟨T5, L5, k5, n5⟩, -, X5, ⟨Lc5, hQ5, l5, y5, z5⟩, st5⟩ := X0.specialBack hx (y := (⟨"java/lang/Record", "<init>", "()V"⟩ : MethodName)) rfl hown (mvT hZ (hw _ (List.mem_of_getElem? (i := 17) rfl))) (mvT hZ (hw _ (List.mem_of_getElem? (i := 18) rfl))) (mvT hZ (hw _ (List.mem_of_getElem? (i := 21) rfl))) (by decide) (backOf (W := 0) (rm_rec l Z a0 hw [] a1 h0 n0 Z0) hZ (hw _ (List.mem_of_getElem? (i := 21) rfl)) (hw _ (List.mem_of_getElem? (i := 20) rfl)) (by decide) (by decide)) (g := (mkF m 1 #[.val (.ref a1), .val (.long q1), .second, .val (.long q2), .second, .val (.long q3), .second, .val (.ref w)] [(.ref a1)])) rfl (by rw [hml]; rfl) (Steps.refl _) (a := a1) (argsL := []) (rest := []) (lenOf pd_19 rfl) rfl (by show 2 * 0 + _ ≤ _; exact Nat.le_of_eq rfl) (hb hby d3_1) (fun _ _ => ⟨rfl, e0, (by decide : 0 + 0 ≤ _), (by decide : 0 + 0 ≤ _)⟩)
  dsimp only [Pt.U, Pt.locs, Pt.cells, Pt.slots] at X5 l5 y5 z5 st5 hQ5
  subst l5 y5 z5
  obtain ⟨rfl, N5q, e5⟩ := hQ5
  have N5 := Fr.app N0 N5q
  obtain ⟨cq6, kq6, q6a, q6b, q6c⟩ := isOf hZ e5 (E_E)
  obtain ⟨_, _, ⟨T6, L6, k6, n6⟩, -, X6, ⟨Lc6, hQ6, l6, y6, z6⟩, st6⟩ := X5.virtualBack hx (y := (⟨"java/util/OptionalLong", "isPresent", "()Z"⟩ : MethodName)) (z := (⟨"java/util/OptionalLong", "isPresent", "()Z"⟩ : MethodName)) hown (mvT hZ (hw _ (List.mem_of_getElem? (i := 26) rfl))) (mvT hZ (hw _ (List.mem_of_getElem? (i := 27) rfl))) (notFace_of_selects (args := #[]) (mvT hZ (hw _ (List.mem_of_getElem? (i := 29) rfl)))) (mvT hZ (hw _ (List.mem_of_getElem? (i := 29) rfl))) (mvT hZ (hw _ (List.mem_of_getElem? (i := 28) rfl))) (by decide) (backOf (W := 0) (rm_isp l Z a0 hw [] w h0 n0 Z0 F_E) hZ (hw _ (List.mem_of_getElem? (i := 30) rfl)) (hw _ (List.mem_of_getElem? (i := 11) rfl)) (by decide) (by decide)) q6a q6c (g := (mkF m 76 #[.val (.ref a1), .val (.long q1), .second, .val (.long q2), .second, .val (.long q3), .second, .val (.ref w)] [(.ref w)])) rfl (by rw [hml]; rfl) (Steps.refl _) (argsL := []) (rest := []) (lenOf pd_46 rfl) rfl (by show 2 * 0 + _ ≤ _; exact Nat.le_of_eq rfl) (hb hby d3_76) (fun _ _ => ⟨rfl, e5, (by decide : 0 + 0 ≤ _), (by decide : 0 + 0 ≤ _)⟩)
  dsimp only [Pt.U, Pt.locs, Pt.cells, Pt.slots] at X6 l6 y6 z6 st6 hQ6
  subst l6 y6 z6
  obtain ⟨rfl, N6q, e6⟩ := hQ6
  have N6 := Fr.app N5 N6q
  obtain ⟨T7, h7, X7, e7, W7, st7⟩ := putF X6 hx hZ hown (host := "") (Or.inl (hw _ (List.mem_of_getElem? (i := 33) rfl))) Via.refl e6 F_secretExpiration E_a1 (Or.inr ⟨(hw _ (List.mem_of_getElem? (i := 34) rfl)), rfl, hnm⟩) (hw _ (List.mem_of_getElem? (i := 4) rfl)) (ty := .long) (by decide) rfl rfl (g := (mkF m 114 #[.val (.ref a1), .val (.long q1), .second, .val (.long q2), .second, .val (.long q3), .second, .val (.ref w)] [(.long q1), (.ref a1)])) rfl rfl (hb hby d3_114)
  have KP7 := Keep.wr (Keep.refl h0 [a1]) W7 (Or.inl (List.mem_of_getElem? (i := 0) rfl))
  have Fw7 := F_secretExpiration.same W7
  have N7 := Fr.snoc X7 N6 gn_a1
  have Fx8 := (E_a1.wr W7)
  have Fx9 := (F_rotatedSecretExpiration.other W7 (Or.inr (slot_ne (Or.inr (hw _ (List.mem_of_getElem? (i := 36) rfl))) (Or.inr (hw _ (List.mem_of_getElem? (i := 34) rfl))) (by decide) (t := .long) (t' := .long) (by decide) (by decide))))
  obtain ⟨T10, h10, X10, e10, W10, st10⟩ := putF X7 hx hZ hown (host := "") (Or.inl (hw _ (List.mem_of_getElem? (i := 35) rfl))) Via.refl e7 Fx9 Fx8 (Or.inr ⟨(hw _ (List.mem_of_getElem? (i := 36) rfl)), rfl, hnm⟩) (hw _ (List.mem_of_getElem? (i := 4) rfl)) (ty := .long) (by decide) rfl rfl (g := (mkF m 119 #[.val (.ref a1), .val (.long q1), .second, .val (.long q2), .second, .val (.long q3), .second, .val (.ref w)] [(.long q2), (.ref a1)])) rfl rfl (hb hby d3_119)
  have KP10 := Keep.wr KP7 W10 (Or.inl (List.mem_of_getElem? (i := 0) rfl))
  have Fw10 := Fx9.same W10
  have N10 := Fr.snoc X10 N7 gn_a1
  have Fx11 := (Fx8.wr W10)
  have Fx12 := ((F_remainingExpirationForRotation.other W7 (Or.inr (slot_ne (Or.inr (hw _ (List.mem_of_getElem? (i := 38) rfl))) (Or.inr (hw _ (List.mem_of_getElem? (i := 34) rfl))) (by decide) (t := .long) (t' := .long) (by decide) (by decide)))).other W10 (Or.inr (slot_ne (Or.inr (hw _ (List.mem_of_getElem? (i := 38) rfl))) (Or.inr (hw _ (List.mem_of_getElem? (i := 36) rfl))) (by decide) (t := .long) (t' := .long) (by decide) (by decide))))
  obtain ⟨T13, h13, X13, e13, W13, st13⟩ := putF X10 hx hZ hown (host := "") (Or.inl (hw _ (List.mem_of_getElem? (i := 37) rfl))) Via.refl e10 Fx12 Fx11 (Or.inr ⟨(hw _ (List.mem_of_getElem? (i := 38) rfl)), rfl, hnm⟩) (hw _ (List.mem_of_getElem? (i := 4) rfl)) (ty := .long) (by decide) rfl rfl (g := (mkF m 125 #[.val (.ref a1), .val (.long q1), .second, .val (.long q2), .second, .val (.long q3), .second, .val (.ref w)] [(.long q3), (.ref a1)])) rfl rfl (hb hby d3_125)
  have KP13 := Keep.wr KP10 W13 (Or.inl (List.mem_of_getElem? (i := 0) rfl))
  have Fw13 := Fx12.same W13
  have N13 := Fr.snoc X13 N10 gn_a1
  have Fx14 := (Fx11.wr W13)
  have Fx15 := (((F_notifyBeforeExpiration.other W7 (Or.inr (slot_ne (Or.inr (hw _ (List.mem_of_getElem? (i := 40) rfl))) (Or.inr (hw _ (List.mem_of_getElem? (i := 34) rfl))) (by decide) (t := (.object "java/util/OptionalLong")) (t' := .long) (by decide) (by decide)))).other W10 (Or.inr (slot_ne (Or.inr (hw _ (List.mem_of_getElem? (i := 40) rfl))) (Or.inr (hw _ (List.mem_of_getElem? (i := 36) rfl))) (by decide) (t := (.object "java/util/OptionalLong")) (t' := .long) (by decide) (by decide)))).other W13 (Or.inr (slot_ne (Or.inr (hw _ (List.mem_of_getElem? (i := 40) rfl))) (Or.inr (hw _ (List.mem_of_getElem? (i := 38) rfl))) (by decide) (t := (.object "java/util/OptionalLong")) (t' := .long) (by decide) (by decide))))
  obtain ⟨T16, h16, X16, e16, W16, st16⟩ := putF X13 hx hZ hown (host := "") (Or.inl (hw _ (List.mem_of_getElem? (i := 39) rfl))) Via.refl e13 Fx15 Fx14 (Or.inr ⟨(hw _ (List.mem_of_getElem? (i := 40) rfl)), rfl, hnm⟩) (hw _ (List.mem_of_getElem? (i := 4) rfl)) (ty := (.object "java/util/OptionalLong")) (by decide) rfl rfl (g := (mkF m 131 #[.val (.ref a1), .val (.long q1), .second, .val (.long q2), .second, .val (.long q3), .second, .val (.ref w)] [(.ref w), (.ref a1)])) rfl rfl (hb hby d3_131)
  have KP16 := Keep.wr KP13 W16 (Or.inl (List.mem_of_getElem? (i := 0) rfl))
  have Fw16 := Fx15.same W16
  have N16 := Fr.snoc X16 N13 gn_a1
  have Fx17 := (Fx14.wr W16)
  have Fx18 := ((Fw10.other W13 (Or.inr (slot_ne (Or.inr (hw _ (List.mem_of_getElem? (i := 36) rfl))) (Or.inr (hw _ (List.mem_of_getElem? (i := 38) rfl))) (by decide) (t := .long) (t' := .long) (by decide) (by decide)))).other W16 (Or.inr (slot_ne (Or.inr (hw _ (List.mem_of_getElem? (i := 36) rfl))) (Or.inr (hw _ (List.mem_of_getElem? (i := 40) rfl))) (by decide) (t := .long) (t' := (.object "java/util/OptionalLong")) (by decide) (by decide))))
  obtain ⟨fs, hr, hrun, hended, hW, hsame⟩ := X16.leave (v := none) (fun _ => rfl)
  refine ⟨_, _, pre0 _ ?_, hrun, hended, _, _, rfl, ?_, ⟨_, rfl⟩, hW, hsame.mono (by decide) (by decide)⟩
  · show Steps p.tables e below (s₁.setTop (mkF m 0 #[.val (.ref a1), .val (.long q1), .second, .val (.long q2), .second, .val (.long q3), .second, .val (.ref w)] [])) _
    refine XS.aloadN X0.here hx rfl (hb hby d3_0) rfl rfl ?_
    show Steps p.tables e below (s₁.setTop (mkF m 1 #[.val (.ref a1), .val (.long q1), .second, .val (.long q2), .second, .val (.long q3), .second, .val (.ref w)] [(.ref a1)])) _
    refine st5.trans ?_
    show Steps p.tables e below (T5.setTop (mkF m 4 #[.val (.ref a1), .val (.long q1), .second, .val (.long q2), .second, .val (.long q3), .second, .val (.ref w)] [])) _
    refine XS.lloadN X5.here hx rfl (hb hby d3_4) rfl ?_
    show Steps p.tables e below (T5.setTop (mkF m 5 #[.val (.ref a1), .val (.long q1), .second, .val (.long q2), .second, .val (.long q3), .second, .val (.ref w)] [(.long q1)])) _
    refine XS.lconst X5.here hx rfl (hb hby d3_5) ?_
    show Steps p.tables e below (T5.setTop (mkF m 6 #[.val (.ref a1), .val (.long q1), .second, .val (.long q2), .second, .val (.long q3), .second, .val (.ref w)] [(.long (1 : Int64)), (.long q1)])) _
    refine XS.lcmp X5.here hx rfl (hb hby d3_6) rfl ?_
    show Steps p.tables e below (T5.setTop (mkF m 7 #[.val (.ref a1), .val (.long q1), .second, .val (.long q2), .second, .val (.long q3), .second, .val (.ref w)] [(.int (lcmpW q1 (1 : Int64)))])) _
    refine XS.ifNo X5.here hx rfl (hb hby d3_7) rfl ((if0 _ _).trans (flt rg7).1) ?_
    show Steps p.tables e below (T5.setTop (mkF m 10 #[.val (.ref a1), .val (.long q1), .second, .val (.long q2), .second, .val (.long q3), .second, .val (.ref w)] [])) _
    refine XS.lloadN X5.here hx rfl (hb hby d3_10) rfl ?_
    show Steps p.tables e below (T5.setTop (mkF m 11 #[.val (.ref a1), .val (.long q1), .second, .val (.long q2), .second, .val (.long q3), .second, .val (.ref w)] [(.long q1)])) _
    refine X5.ldc2Long hx hown (mvT hZ (hw _ (List.mem_of_getElem? (i := 25) rfl))) (g := (mkF m 11 #[.val (.ref a1), .val (.long q1), .second, .val (.long q2), .second, .val (.long q3), .second, .val (.ref w)] [(.long q1)])) rfl (hb hby d3_11) _ ?_
    show Steps p.tables e below (T5.setTop (mkF m 14 #[.val (.ref a1), .val (.long q1), .second, .val (.long q2), .second, .val (.long q3), .second, .val (.ref w)] [(.long (3155760000 : Int64)), (.long q1)])) _
    refine XS.lcmp X5.here hx rfl (hb hby d3_14) rfl ?_
    show Steps p.tables e below (T5.setTop (mkF m 15 #[.val (.ref a1), .val (.long q1), .second, .val (.long q2), .second, .val (.long q3), .second, .val (.ref w)] [(.int (lcmpW q1 (3155760000 : Int64)))])) _
    refine XS.ifYes X5.here hx rfl (pc0 := 15) (pc' := 28) rfl (hb hby d3_15) rfl ((if0 _ _).trans (flt rg15).2.2.2) (by decide) (by decide) ?_
    show Steps p.tables e below (T5.setTop (mkF m 28 #[.val (.ref a1), .val (.long q1), .second, .val (.long q2), .second, .val (.long q3), .second, .val (.ref w)] [])) _
    refine XS.lloadN X5.here hx rfl (hb hby d3_28) rfl ?_
    show Steps p.tables e below (T5.setTop (mkF m 29 #[.val (.ref a1), .val (.long q1), .second, .val (.long q2), .second, .val (.long q3), .second, .val (.ref w)] [(.long q2)])) _
    refine XS.lconst X5.here hx rfl (hb hby d3_29) ?_
    show Steps p.tables e below (T5.setTop (mkF m 30 #[.val (.ref a1), .val (.long q1), .second, .val (.long q2), .second, .val (.long q3), .second, .val (.ref w)] [(.long (0 : Int64)), (.long q2)])) _
    refine XS.lcmp X5.here hx rfl (hb hby d3_30) rfl ?_
    show Steps p.tables e below (T5.setTop (mkF m 31 #[.val (.ref a1), .val (.long q1), .second, .val (.long q2), .second, .val (.long q3), .second, .val (.ref w)] [(.int (lcmpW q2 (0 : Int64)))])) _
    refine XS.ifNo X5.here hx rfl (hb hby d3_31) rfl ((if0 _ _).trans (flt rg31).1) ?_
    show Steps p.tables e below (T5.setTop (mkF m 34 #[.val (.ref a1), .val (.long q1), .second, .val (.long q2), .second, .val (.long q3), .second, .val (.ref w)] [])) _
    refine XS.lloadN X5.here hx rfl (hb hby d3_34) rfl ?_
    show Steps p.tables e below (T5.setTop (mkF m 35 #[.val (.ref a1), .val (.long q1), .second, .val (.long q2), .second, .val (.long q3), .second, .val (.ref w)] [(.long q2)])) _
    refine XS.lloadN X5.here hx rfl (hb hby d3_35) rfl ?_
    show Steps p.tables e below (T5.setTop (mkF m 36 #[.val (.ref a1), .val (.long q1), .second, .val (.long q2), .second, .val (.long q3), .second, .val (.ref w)] [(.long q1), (.long q2)])) _
    refine XS.lcmp X5.here hx rfl (hb hby d3_36) rfl ?_
    show Steps p.tables e below (T5.setTop (mkF m 37 #[.val (.ref a1), .val (.long q1), .second, .val (.long q2), .second, .val (.long q3), .second, .val (.ref w)] [(.int (lcmpW q2 q1))])) _
    refine XS.ifYes X5.here hx rfl (pc0 := 37) (pc' := 50) rfl (hb hby d3_37) rfl ((if0 _ _).trans (tlt rg37).1) (by decide) (by decide) ?_
    show Steps p.tables e below (T5.setTop (mkF m 50 #[.val (.ref a1), .val (.long q1), .second, .val (.long q2), .second, .val (.long q3), .second, .val (.ref w)] [])) _
    refine XS.lload X5.here hx rfl (hb hby d3_50) rfl ?_
    show Steps p.tables e below (T5.setTop (mkF m 52 #[.val (.ref a1), .val (.long q1), .second, .val (.long q2), .second, .val (.long q3), .second, .val (.ref w)] [(.long q3)])) _
    refine XS.lconst X5.here hx rfl (hb hby d3_52) ?_
    show Steps p.tables e below (T5.setTop (mkF m 53 #[.val (.ref a1), .val (.long q1), .second, .val (.long q2), .second, .val (.long q3), .second, .val (.ref w)] [(.long (0 : Int64)), (.long q3)])) _
    refine XS.lcmp X5.here hx rfl (hb hby d3_53) rfl ?_
    show Steps p.tables e below (T5.setTop (mkF m 54 #[.val (.ref a1), .val (.long q1), .second, .val (.long q2), .second, .val (.long q3), .second, .val (.ref w)] [(.int (lcmpW q3 (0 : Int64)))])) _
    refine XS.ifNo X5.here hx rfl (hb hby d3_54) rfl ((if0 _ _).trans (flt rg54).1) ?_
    show Steps p.tables e below (T5.setTop (mkF m 57 #[.val (.ref a1), .val (.long q1), .second, .val (.long q2), .second, .val (.long q3), .second, .val (.ref w)] [])) _
    refine XS.lload X5.here hx rfl (hb hby d3_57) rfl ?_
    show Steps p.tables e below (T5.setTop (mkF m 59 #[.val (.ref a1), .val (.long q1), .second, .val (.long q2), .second, .val (.long q3), .second, .val (.ref w)] [(.long q3)])) _
    refine XS.lloadN X5.here hx rfl (hb hby d3_59) rfl ?_
    show Steps p.tables e below (T5.setTop (mkF m 60 #[.val (.ref a1), .val (.long q1), .second, .val (.long q2), .second, .val (.long q3), .second, .val (.ref w)] [(.long q1), (.long q3)])) _
    refine XS.lcmp X5.here hx rfl (hb hby d3_60) rfl ?_
    show Steps p.tables e below (T5.setTop (mkF m 61 #[.val (.ref a1), .val (.long q1), .second, .val (.long q2), .second, .val (.long q3), .second, .val (.ref w)] [(.int (lcmpW q3 q1))])) _
    refine XS.ifYes X5.here hx rfl (pc0 := 61) (pc' := 74) rfl (hb hby d3_61) rfl ((if0 _ _).trans (tlt rg61).1) (by decide) (by decide) ?_
    show Steps p.tables e below (T5.setTop (mkF m 74 #[.val (.ref a1), .val (.long q1), .second, .val (.long q2), .second, .val (.long q3), .second, .val (.ref w)] [])) _
    refine XS.aload X5.here hx rfl (hb hby d3_74) rfl rfl ?_
    show Steps p.tables e below (T5.setTop (mkF m 76 #[.val (.ref a1), .val (.long q1), .second, .val (.long q2), .second, .val (.long q3), .second, .val (.ref w)] [(.ref w)])) _
    refine st6.trans ?_
    show Steps p.tables e below (T6.setTop (mkF m 79 #[.val (.ref a1), .val (.long q1), .second, .val (.long q2), .second, .val (.long q3), .second, .val (.ref w)] [(.int (0 : Int32))])) _
    refine XS.ifYes X6.here hx rfl (pc0 := 79) (pc' := 112) rfl (hb hby d3_79) rfl ((if0 _ _).trans (teq (by decide : (0 : Int32) = (0 : Int32))).1) (by decide) (by decide) ?_
    show Steps p.tables e below (T6.setTop (mkF m 112 #[.val (.ref a1), .val (.long q1), .second, .val (.long q2), .second, .val (.long q3), .second, .val (.ref w)] [])) _
    refine XS.aloadN X6.here hx rfl (hb hby d3_112) rfl rfl ?_
    show Steps p.tables e below (T6.setTop (mkF m 113 #[.val (.ref a1), .val (.long q1), .second, .val (.long q2), .second, .val (.long q3), .second, .val (.ref w)] [(.ref a1)])) _
    refine XS.lloadN X6.here hx rfl (hb hby d3_113) rfl ?_
    show Steps p.tables e below (T6.setTop (mkF m 114 #[.val (.ref a1), .val (.long q1), .second, .val (.long q2), .second, .val (.long q3), .second, .val (.ref w)] [(.long q1), (.ref a1)])) _
    refine st7 _ ?_
    show Steps p.tables e below (T7.setTop (mkF m 117 #[.val (.ref a1), .val (.long q1), .second, .val (.long q2), .second, .val (.long q3), .second, .val (.ref w)] [])) _
    refine XS.aloadN X7.here hx rfl (hb hby d3_117) rfl rfl ?_
    show Steps p.tables e below (T7.setTop (mkF m 118 #[.val (.ref a1), .val (.long q1), .second, .val (.long q2), .second, .val (.long q3), .second, .val (.ref w)] [(.ref a1)])) _
    refine XS.lloadN X7.here hx rfl (hb hby d3_118) rfl ?_
    show Steps p.tables e below (T7.setTop (mkF m 119 #[.val (.ref a1), .val (.long q1), .second, .val (.long q2), .second, .val (.long q3), .second, .val (.ref w)] [(.long q2), (.ref a1)])) _
    refine st10 _ ?_
    show Steps p.tables e below (T10.setTop (mkF m 122 #[.val (.ref a1), .val (.long q1), .second, .val (.long q2), .second, .val (.long q3), .second, .val (.ref w)] [])) _
    refine XS.aloadN X10.here hx rfl (hb hby d3_122) rfl rfl ?_
    show Steps p.tables e below (T10.setTop (mkF m 123 #[.val (.ref a1), .val (.long q1), .second, .val (.long q2), .second, .val (.long q3), .second, .val (.ref w)] [(.ref a1)])) _
    refine XS.lload X10.here hx rfl (hb hby d3_123) rfl ?_
    show Steps p.tables e below (T10.setTop (mkF m 125 #[.val (.ref a1), .val (.long q1), .second, .val (.long q2), .second, .val (.long q3), .second, .val (.ref w)] [(.long q3), (.ref a1)])) _
    refine st13 _ ?_
    show Steps p.tables e below (T13.setTop (mkF m 128 #[.val (.ref a1), .val (.long q1), .second, .val (.long q2), .second, .val (.long q3), .second, .val (.ref w)] [])) _
    refine XS.aloadN X13.here hx rfl (hb hby d3_128) rfl rfl ?_
    show Steps p.tables e below (T13.setTop (mkF m 129 #[.val (.ref a1), .val (.long q1), .second, .val (.long q2), .second, .val (.long q3), .second, .val (.ref w)] [(.ref a1)])) _
    refine XS.aload X13.here hx rfl (hb hby d3_129) rfl rfl ?_
    show Steps p.tables e below (T13.setTop (mkF m 131 #[.val (.ref a1), .val (.long q1), .second, .val (.long q2), .second, .val (.long q3), .second, .val (.ref w)] [(.ref w), (.ref a1)])) _
    refine st16 _ ?_
    show Steps p.tables e below (T16.setTop (mkF m 134 #[.val (.ref a1), .val (.long q1), .second, .val (.long q2), .second, .val (.long q3), .second, .val (.ref w)] [])) _
    exact X16.returnOut hx Bd.returns (hb hby d3_134) hr
  · show own_Init Z a1 q2 h0 n0 _ T16.heap _
    rw [e16]
    exact ⟨rfl, N16, KP16, Fx17, Fx18⟩
theorem d1_0 : decode prog_25_method_2_code 0 = .ok (.aload_n 0, 1) := by decide +kernel
theorem d1_1 : decode prog_25_method_2_code 1 = .ok (.lload_n 1, 1) := by decide +kernel
theorem d1_2 : decode prog_25_method_2_code 2 = .ok (.lload_n 3, 1) := by decide +kernel
theorem d1_3 : decode prog_25_method_2_code 3 = .ok (.lload 5, 2) := by decide +kernel
theorem pd_67 : parseMethodDescriptor "()Ljava/util/OptionalLong;" = some ⟨[], some (.object "java/util/OptionalLong")⟩ := by decide +kernel
theorem d1_5 : decode prog_25_method_2_code 5 = .ok (.invokestatic 48, 3) := by decide +kernel
theorem pd_69 : parseMethodDescriptor "(JJJLjava/util/OptionalLong;)V" = some ⟨[.long, .long, .long, (.object "java/util/OptionalLong")], none⟩ := by decide +kernel
theorem d1_8 : decode prog_25_method_2_code 8 = .ok (.invokespecial 52, 3) := by decide +kernel
theorem d1_11 : decode prog_25_method_2_code 11 = .ok (.return_, 1) := by decide +kernel
theorem ef_rm_init3 (m : MethodId) (x0 : Addr) (x1 : Int64) (x2 : Int64) (x3 : Int64) : entryFrame m #[(.ref x0), (.long x1), (.long x2), (.long x3)] 7 = mkF m 0 #[.val (.ref x0), .val (.long x1), .second, .val (.long x2), .second, .val (.long x3), .second] [] := by first | (simp [entryFrame, mkF, argsToLocals, Value.category]; done) | rfl
set_option maxRecDepth 65536 in
set_option maxHeartbeats 40000000 in
theorem rm_init3 (l : Launch) (Z : State) (a0 : Array Value) (hw : ∀ d ∈ tables_1, d.before a0 Z = true) (ws : List Jvm.Cond) (a1 : Addr) (q1 : Int64) (q2 : Int64) (q3 : Int64) (h0 : Heap) (n0 : Nat) (Z0 : n0 ≤ h0.size) (w : Addr) (S_E : Sta Z h0 "java/util/OptionalLong" "EMPTY" "Ljava/util/OptionalLong;" (.ref w)) (E_E : Exa Z h0 w "java/util/OptionalLong") (F_E : Fld Z h0 w "java/util/OptionalLong" "isPresent" "Z" (.int (0 : Int32))) (E_a1 : Exa Z h0 a1 "com/example/escrowd/escrowd/client/SecretPolicy") (F_secretExpiration : Fld Z h0 a1 "com/example/escrowd/escrowd/client/SecretPolicy" "secretExpiration" "J" (.long (0 : Int64))) (F_rotatedSecretExpiration : Fld Z h0 a1 "com/example/escrowd/escrowd/client/SecretPolicy" "rotatedSecretExpiration" "J" (.long (0 : Int64))) (F_remainingExpirationForRotation : Fld Z h0 a1 "com/example/escrowd/escrowd/client/SecretPolicy" "remainingExpirationForRotation" "J" (.long (0 : Int64))) (F_notifyBeforeExpiration : Fld Z h0 a1 "com/example/escrowd/escrowd/client/SecretPolicy" "notifyBeforeExpiration" "Ljava/util/OptionalLong;" .null) (gn_a1 : n0 ≤ a1) (rg7 : ¬ ((lcmpW q1 (1 : Int64)) < (0 : Int32))) (rg15 : ¬ ((0 : Int32) < (lcmpW q1 (3155760000 : Int64)))) (rg31 : ¬ ((lcmpW q2 (0 : Int64)) < (0 : Int32))) (rg37 : (lcmpW q2 q1) < (0 : Int32)) (rg54 : ¬ ((lcmpW q3 (0 : Int64)) < (0 : Int32))) (rg61 : (lcmpW q3 q1) < (0 : Int32)) :
    MetFree l (⟨"com/example/escrowd/escrowd/client/SecretPolicy", "<init>", "(JJJ)V"⟩ : MethodName) (head1 (Jvm.Cond.code (⟨"com/example/escrowd/escrowd/client/SecretPolicy", "<init>", "(JJJ)V"⟩ : MethodName) prog_25_method_2_code 7 none :: ws) ({ frames := 3, cells := 0, slots := 0, locals := 43 } : Room)) (fun aQ UQ => aQ = #[(.ref a1), (.long q1), (.long q2), (.long q3)] ∧ Z.Warmed39 UQ.vm ∧ UQ.heap = h0) (fun _ _ _ _ _ => True) (fun _ UQ oQ UR => ∃ vQ LQ, oQ = .returned vQ ∧ own_Init Z a1 q2 h0 n0 vQ UR.heap LQ ∧ FrameEnd UQ oQ UR LQ ({ frames := 3, cells := 0, slots := 0, locals := 43 } : Room).cells ({ frames := 3, cells := 0, slots := 0, locals := 43 } : Room).slots) := by
  refine MetFree.of_bodySF (plainFor_of_name pn_62) hisR ?_
  intro p e s m args below meth c s₁ Bd hml0 hP hK
  obtain ⟨rfl, hZ, hh⟩ := hP
  have hx := Bd.exec
  have hby := Bd.bytes
  have hml : c.maxLocals = 7 := hml0
  have hown : s.vm.findClass "com/example/escrowd/escrowd/client/SecretPolicy" = some m.cls := findClass_of_methodNamed Bd.named
  have hnm := (name_of_methodNamed Bd.named Bd.method).1
  have X0 : Stand p l e ({ frames := 3, cells := 0, slots := 0, locals := 43 } : Room) s m #[(.ref a1), (.long q1), (.long q2), (.long q3)] below meth c s₁ [] 0 0 := Stand.of_body Bd
  have e0 : s₁.heap = h0 := by rw [← hh, Bd.state]; rfl
  have N0 := Fr.nil n0
  have pre0 : ∀ t, Steps p.tables e below (s₁.setTop (mkF m 0 #[.val (.ref a1), .val (.long q1), .second, .val (.long q2), .second, .val (.long q3), .second] [])) t → Steps p.tables e below (s₁.setTop (entryFrame m #[(.ref a1), (.long q1), (.long q2), (.long q3)] 7)) t := fun t kq => castTop (ef_rm_init3 m a1 q1 q2 q3) kq
  obtain ⟨_, _, ⟨T19, L19, k19, n19⟩, -, X19, ⟨Lc19, hQ19, l19, y19, z19⟩, st19⟩ := Jvm.LawKit.callS X0 hx (y := (⟨"java/util/OptionalLong", "empty", "()Ljava/util/OptionalLong;"⟩ : MethodName)) hown (mvT hZ (hw _ (List.mem_of_getElem? (i := 9) rfl))) (mvT hZ (hw _ (List.mem_of_getElem? (i := 10) rfl))) (mvT hZ (hw _ (List.mem_of_getElem? (i := 11) rfl))) (mvT hZ (hw _ (List.mem_of_getElem? (i := 12) rfl))) (by decide) (backOf (W := 7) (rm_empty l Z a0 hw [] h0 n0 Z0 w S_E E_E F_E) hZ (hw _ (List.mem_of_getElem? (i := 12) rfl)) (hw _ (List.mem_of_getElem? (i := 11) rfl)) (by decide) (by decide)) (g := (mkF m 5 #[.val (.ref a1), .val (.long q1), .second, .val (.long q2), .second, .val (.long q3), .second] [(.long q3), (.long q2), (.long q1), (.ref a1)])) rfl (by rw [hml]; rfl) (argsL := []) (rest := [(.long q3), (.long q2), (.long q1), (.ref a1)]) (lenOf pd_67 rfl) rfl (by show 2 * 0 + _ ≤ _; exact Nat.le_of_eq rfl) (hb hby d1_5) (fun _ _ => ⟨rfl, e0, (by decide : 0 + 0 ≤ _), (by decide : 0 + 0 ≤ _)⟩)
  dsimp only [Pt.U, Pt.locs, Pt.cells, Pt.slots] at X19 l19 y19 z19 st19 hQ19
  subst l19 y19 z19
  obtain ⟨rfl, N19q, e19⟩ := hQ19
  have N19 := Fr.app N0 N19q
  obtain ⟨_, _, ⟨T20, L20, k20, n20⟩, -, X20, ⟨Lc20, hQ20, l20, y20, z20⟩, st20⟩ := X19.specialBack hx (y := (⟨"com/example/escrowd/escrowd/client/SecretPolicy", "<init>", "(JJJLjava/util/OptionalLong;)V"⟩ : MethodName)) rfl hown (mvT hZ (hw _ (List.mem_of_getElem? (i := 14) rfl))) (mvT hZ (hw _ (List.mem_of_getElem? (i := 15) rfl))) (mvT hZ (hw _ (List.mem_of_getElem? (i := 16) rfl))) (by decide) (backOf (W := 0) (rm_init4 l Z a0 hw [] a1 q1 q2 q3 w h0 n0 Z0 E_a1 F_secretExpiration F_rotatedSecretExpiration F_remainingExpirationForRotation F_notifyBeforeExpiration gn_a1 E_E F_E rg7 rg15 rg31 rg37 rg54 rg61) hZ (hw _ (List.mem_of_getElem? (i := 16) rfl)) (hw _ (List.mem_of_getElem? (i := 5) rfl)) (by decide) (by decide)) (g := (mkF m 8 #[.val (.ref a1), .val (.long q1), .second, .val (.long q2), .second, .val (.long q3), .second] [(.ref w), (.long q3), (.long q2), (.long q1), (.ref a1)])) rfl (by rw [hml]; rfl) (Steps.refl _) (a := a1) (argsL := [(.long q1), (.long q2), (.long q3), (.ref w)]) (rest := []) (lenOf pd_69 rfl) rfl (by show 2 * 0 + _ ≤ _; exact Nat.le_of_eq rfl) (hb hby d1_8) (fun _ _ => ⟨rfl, e19, (by decide : 0 + 0 ≤ _), (by decide : 0 + 0 ≤ _)⟩)
  dsimp only [Pt.U, Pt.locs, Pt.cells, Pt.slots] at X20 l20 y20 z20 st20 hQ20
  subst l20 y20 z20
  obtain ⟨rfl, N20q, K20, q20_0, q20_1⟩ := hQ20
  have N20 := Fr.app N19 N20q
  have e20 : T20.heap = T20.heap := rfl
  have KP20 := Keep.trans (Keep.refl h0 [a1]) K20 (allS (Or.inl (List.mem_of_getElem? (i := 0) rfl)) all0)
  obtain ⟨fs, hr, hrun, hended, hW, hsame⟩ := X20.leave (v := none) (fun _ => rfl)
  refine ⟨_, _, pre0 _ ?_, hrun, hended, _, _, rfl, ?_, ⟨_, rfl⟩, hW, hsame.mono (by decide) (by decide)⟩
  · show Steps p.tables e below (s₁.setTop (mkF m 0 #[.val (.ref a1), .val (.long q1), .second, .val (.long q2), .second, .val (.long q3), .second] [])) _
    refine XS.aloadN X0.here hx rfl (hb hby d1_0) rfl rfl ?_
    show Steps p.tables e below (s₁.setTop (mkF m 1 #[.val (.ref a1), .val (.long q1), .second, .val (.long q2), .second, .val (.long q3), .second] [(.ref a1)])) _
    refine XS.lloadN X0.here hx rfl (hb hby d1_1) rfl ?_
    show Steps p.tables e below (s₁.setTop (mkF m 2 #[.val (.ref a1), .val (.long q1), .second, .val (.long q2), .second, .val (.long q3), .second] [(.long q1), (.ref a1)])) _
    refine XS.lloadN X0.here hx rfl (hb hby d1_2) rfl ?_
    show Steps p.tables e below (s₁.setTop (mkF m 3 #[.val (.ref a1), .val (.long q1), .second, .val (.long q2), .second, .val (.long q3), .second] [(.long q2), (.long q1), (.ref a1)])) _
    refine XS.lload X0.here hx rfl (hb hby d1_3) rfl ?_
    show Steps p.tables e below (s₁.setTop (mkF m 5 #[.val (.ref a1), .val (.long q1), .second, .val (.long q2), .second, .val (.long q3), .second] [(.long q3), (.long q2), (.long q1), (.ref a1)])) _
    refine st19 _ ?_
    show Steps p.tables e below (T19.setTop (mkF m 8 #[.val (.ref a1), .val (.long q1), .second, .val (.long q2), .second, .val (.long q3), .second] [(.ref w), (.long q3), (.long q2), (.long q1), (.ref a1)])) _
    refine st20.trans ?_
    show Steps p.tables e below (T20.setTop (mkF m 11 #[.val (.ref a1), .val (.long q1), .second, .val (.long q2), .second, .val (.long q3), .second] [])) _
    exact X20.returnOut hx Bd.returns (hb hby d1_11) hr
  · show own_Init Z a1 q2 h0 n0 _ T20.heap _
    exact ⟨rfl, N20, KP20, q20_0, q20_1⟩
theorem d7_0 : decode prog_25_method_5_code 0 = .ok (.aload_n 0, 1) := by decide +kernel
theorem d7_1 : decode prog_25_method_5_code 1 = .ok (.getfield 38, 3) := by decide +kernel
theorem d7_4 : decode prog_25_method_5_code 4 = .ok (.lconst 0, 1) := by decide +kernel
theorem d7_5 : decode prog_25_method_5_code 5 = .ok (.lcmp, 1) := by decide +kernel
theorem d7_6 : decode prog_25_method_5_code 6 = .ok (.ifCond .le 7, 3) := by decide +kernel
theorem d7_9 : decode prog_25_method_5_code 9 = .ok (.iconst 1, 1) := by decide +kernel
theorem d7_10 : decode prog_25_method_5_code 10 = .ok (.goto 4, 3) := by decide +kernel
theorem d7_14 : decode prog_25_method_5_code 14 = .ok (.ireturn, 1) := by decide +kernel
theorem d7_13 : decode prog_25_method_5_code 13 = .ok (.iconst 0, 1) := by decide +kernel
theorem ef_rm_keeps (m : MethodId) (x0 : Addr) : entryFrame m #[(.ref x0)] 1 = mkF m 0 #[.val (.ref x0)] [] := by first | (simp [entryFrame, mkF, argsToLocals, Value.category]; done) | rfl
set_option maxRecDepth 65536 in
set_option maxHeartbeats 40000000 in
theorem rm_keeps (l : Launch) (Z : State) (a0 : Array Value) (hw : ∀ d ∈ tables_1, d.before a0 Z = true) (ws : List Jvm.Cond) (a1 : Addr) (h0 : Heap) (n0 : Nat) (Z0 : n0 ≤ h0.size) (x : Int64) (F : Fld Z h0 a1 "com/example/escrowd/escrowd/client/SecretPolicy" "rotatedSecretExpiration" "J" (.long x)) (r : Int32) (hres : (if (0 : Int32) < (lcmpW x (0 : Int64)) then (1 : Int32) else 0) = r) :
    MetFree l (⟨"com/example/escrowd/escrowd/client/SecretPolicy", "keepsRotatedSecrets", "()Z"⟩ : MethodName) (head1 (Jvm.Cond.code (⟨"com/example/escrowd/escrowd/client/SecretPolicy", "keepsRotatedSecrets", "()Z"⟩ : MethodName) prog_25_method_5_code 1 (some .boolean) :: ws) ({ frames := 0, cells := 0, slots := 0, locals := 0 } : Room)) (fun aQ UQ => aQ = #[(.ref a1)] ∧ Z.Warmed39 UQ.vm ∧ UQ.heap = h0) (fun _ _ _ _ _ => True) (fun _ UQ oQ UR => ∃ vQ LQ, oQ = .returned vQ ∧ own_Pure (some (.int r)) h0 n0 vQ UR.heap LQ ∧ FrameEnd UQ oQ UR LQ ({ frames := 0, cells := 0, slots := 0, locals := 0 } : Room).cells ({ frames := 0, cells := 0, slots := 0, locals := 0 } : Room).slots) := by
  refine MetFree.of_bodySF (plainFor_of_name pn_62) hisR ?_
  intro p e s m args below meth c s₁ Bd hml0 hP hK
  obtain ⟨rfl, hZ, hh⟩ := hP
  have hx := Bd.exec
  have hby := Bd.bytes
  have hml : c.maxLocals = 1 := hml0
  have hown : s.vm.findClass "com/example/escrowd/escrowd/client/SecretPolicy" = some m.cls := findClass_of_methodNamed Bd.named
  have hnm := (name_of_methodNamed Bd.named Bd.method).1
  have X0 : Stand p l e ({ frames := 0, cells := 0, slots := 0, locals := 0 } : Room) s m #[(.ref a1)] below meth c s₁ [] 0 0 := Stand.of_body Bd
  have e0 : s₁.heap = h0 := by rw [← hh, Bd.state]; rfl
  have N0 := Fr.nil n0
  have pre0 : ∀ t, Steps p.tables e below (s₁.setTop (mkF m 0 #[.val (.ref a1)] [])) t → Steps p.tables e below (s₁.setTop (entryFrame m #[(.ref a1)] 1)) t := fun t kq => castTop (ef_rm_keeps m a1) kq
  obtain ⟨T21, X21, e21, st21⟩ := getF X0 hx hZ hown (host := "") (Or.inl (hw _ (List.mem_of_getElem? (i := 35) rfl))) Via.refl e0 F (g := (mkF m 1 #[.val (.ref a1)] [(.ref a1)])) rfl rfl (hb hby d7_1)
  have ck23 : ∀ t, Steps p.tables e below (T21.setTop (mkF m 6 #[.val (.ref a1)] [(.int (lcmpW x (0 : Int64)))])) t → Steps p.tables e below (s₁.setTop (entryFrame m #[(.ref a1)] 1)) t := by
    intro t kt
    refine pre0 _ ?_
    show Steps p.tables e below (s₁.setTop (mkF m 0 #[.val (.ref a1)] [])) _
    refine XS.aloadN X0.here hx rfl (hb hby d7_0) rfl rfl ?_
    show Steps p.tables e below (s₁.setTop (mkF m 1 #[.val (.ref a1)] [(.ref a1)])) _
    refine st21 _ ?_
    show Steps p.tables e below (T21.setTop (mkF m 4 #[.val (.ref a1)] [(.long x)])) _
    refine XS.lconst X21.here hx rfl (hb hby d7_4) ?_
    show Steps p.tables e below (T21.setTop (mkF m 5 #[.val (.ref a1)] [(.long (0 : Int64)), (.long x)])) _
    refine XS.lcmp X21.here hx rfl (hb hby d7_5) rfl ?_
    exact kt
  by_cases hc6_22 : (0 : Int32) < (lcmpW x (0 : Int64))
  · -- pc 6: (0 : Int32) < (lcmpW x (0 : Int64))
    obtain ⟨fs, hr, hrun, hended, hW, hsame⟩ := X21.leave (v := some (.int (1 : Int32))) (fun h => by rw [Bd.returns] at h; cases h)
    refine ⟨_, _, ck23 _ ?_, hrun, hended, _, _, rfl, ?_, ⟨_, rfl⟩, hW, hsame.mono (by decide) (by decide)⟩
    · show Steps p.tables e below (T21.setTop (mkF m 6 #[.val (.ref a1)] [(.int (lcmpW x (0 : Int64)))])) _
      refine XS.ifNo X21.here hx rfl (hb hby d7_6) rfl ((if0 _ _).trans (tlt hc6_22).2.2.2) ?_
      show Steps p.tables e below (T21.setTop (mkF m 9 #[.val (.ref a1)] [])) _
      refine XS.iconst X21.here hx rfl (hb hby d7_9) ?_
      show Steps p.tables e below (T21.setTop (mkF m 10 #[.val (.ref a1)] [(.int (1 : Int32))])) _
      refine XS.goto X21.here hx rfl (pc0 := 10) (pc' := 14) rfl (hb hby d7_10) (by decide) (by decide) ?_
      show Steps p.tables e below (T21.setTop (mkF m 14 #[.val (.ref a1)] [(.int (1 : Int32))])) _
      exact retN X21 hx (t := .boolean) Bd.returns (by simp) (hb hby d7_14) hr
    · show own_Pure (some (.int r)) h0 n0 _ T21.heap _
      rw [e21]
      exact ⟨by rw [← hres]; simp only [if_pos hc6_22], N0, rfl⟩
  · -- pc 6: not (0 : Int32) < (lcmpW x (0 : Int64))
    obtain ⟨fs, hr, hrun, hended, hW, hsame⟩ := X21.leave (v := some (.int (0 : Int32))) (fun h => by rw [Bd.returns] at h; cases h)
    refine ⟨_, _, ck23 _ ?_, hrun, hended, _, _, rfl, ?_, ⟨_, rfl⟩, hW, hsame.mono (by decide) (by decide)⟩
    · show Steps p.tables e below (T21.setTop (mkF m 6 #[.val (.ref a1)] [(.int (lcmpW x (0 : Int64)))])) _
      refine XS.ifYes X21.here hx rfl (pc0 := 6) (pc' := 13) rfl (hb hby d7_6) rfl ((if0 _ _).trans (flt hc6_22).2.2.2) (by decide) (by decide) ?_
      show Steps p.tables e below (T21.setTop (mkF m 13 #[.val (.ref a1)] [])) _
      refine XS.iconst X21.here hx rfl (hb hby d7_13) ?_
      show Steps p.tables e below (T21.setTop (mkF m 14 #[.val (.ref a1)] [(.int (0 : Int32))])) _
      exact retN X21 hx (t := .boolean) Bd.returns (by simp) (hb hby d7_14) hr
    · show own_Pure (some (.int r)) h0 n0 _ T21.heap _
      rw [e21]
      exact ⟨by rw [← hres]; simp only [if_neg hc6_22], N0, rfl⟩
theorem pd_81 : parseMethodDescriptor "(JJJ)V" = some ⟨[.long, .long, .long], none⟩ := by decide +kernel
theorem pd_82 : parseMethodDescriptor "(JJ)J" = some ⟨[.long, .long], some .long⟩ := by decide +kernel
theorem pn_83 : plainName "com/example/escrowd/escrowd/client/SecretPolicyKeepsRotatedSecretsPinLaw" = true := by first | (simp [plainName, overriddenIn]; done) | decide +kernel
theorem ef_rm_law (m : MethodId) (x0 : Int64) (x1 : Int64) (x2 : Int64) : entryFrame m #[(.long x0), (.long x1), (.long x2)] maxLocals = mkF m 0 #[.val (.long x0), .second, .val (.long x1), .second, .val (.long x2), .second, .unset, .unset, .unset, .unset, .unset, .unset, .unset, .unset, .unset] [] := by first | (simp [entryFrame, mkF, argsToLocals, Value.category, maxLocals]; done) | rfl
set_option maxRecDepth 65536 in
set_option maxHeartbeats 40000000 in
theorem rm_law (l : Launch) (Z : State) (a0 : Array Value) (hw : ∀ d ∈ tables_1, d.before a0 Z = true) (ws : List Jvm.Cond) (p0 : Int64) (p1 : Int64) (p2 : Int64) (h0 : Heap) (n0 : Nat) (Z0 : n0 ≤ h0.size) (w : Addr) (S_E : Sta Z h0 "java/util/OptionalLong" "EMPTY" "Ljava/util/OptionalLong;" (.ref w)) (E_E : Exa Z h0 w "java/util/OptionalLong") (F_E : Fld Z h0 w "java/util/OptionalLong" "isPresent" "Z" (.int (0 : Int32))) :
    MetFree l x (head1 (Jvm.Cond.code x code maxLocals ret :: ws) room_1) (fun aQ UQ => aQ = #[(.long p0), (.long p1), (.long p2)] ∧ Z.Warmed39 UQ.vm ∧ UQ.heap = h0) (fun _ _ _ _ _ => True) (fun _ UQ oQ UR => ∃ vQ LQ, oQ = .returned vQ ∧ own_Made (some (.int 1)) n0 vQ UR.heap LQ ∧ FrameEnd UQ oQ UR LQ room_1.cells room_1.slots) := by
  refine MetFree.of_bodySF (plainFor_of_name pn_83) hisR ?_
  intro p e s m args below meth c s₁ Bd hml0 hP hK
  obtain ⟨rfl, hZ, hh⟩ := hP
  have hx := Bd.exec
  have hby := Bd.bytes
  have hml : c.maxLocals = 15 := hml0
  have hown : s.vm.findClass "com/example/escrowd/escrowd/client/SecretPolicyKeepsRotatedSecretsPinLaw" = some m.cls := findClass_of_methodNamed Bd.named
  have hnm := (name_of_methodNamed Bd.named Bd.method).1
  have X0 : Stand p l e room_1 s m #[(.long p0), (.long p1), (.long p2)] below meth c s₁ [] 0 0 := Stand.of_body Bd
  have e0 : s₁.heap = h0 := by rw [← hh, Bd.state]; rfl
  have N0 := Fr.nil n0
  have pre0 : ∀ t, Steps p.tables e below (s₁.setTop (mkF m 0 #[.val (.long p0), .second, .val (.long p1), .second, .val (.long p2), .second, .unset, .unset, .unset, .unset, .unset, .unset, .unset, .unset, .unset] [])) t → Steps p.tables e below (s₁.setTop (entryFrame m #[(.long p0), (.long p1), (.long p2)] maxLocals)) t := fun t kq => castTop (ef_rm_law m p0 p1 p2) kq
  obtain ⟨sv, h_sv⟩ : ∃ z : Int64, (((p0 &&& (9223372036854775807 : Int64)) % (3155760000 : Int64)) + (1 : Int64)) = z := ⟨_, rfl⟩
  have hs : 1 ≤ sv.toInt ∧ sv.toInt ≤ 3155760000 := by rw [← h_sv]; exact own_s p0
  obtain ⟨md, h_md⟩ : ∃ z : Int32, ((p2 &&& (3 : Int64)).toInt32) = z := ⟨_, rfl⟩
  have ck25 : ∀ t, Steps p.tables e below (s₁.setTop (mkF m 24 #[.val (.long p0), .second, .val (.long p1), .second, .val (.long p2), .second, .val (.long sv), .second, .val (.int md), .unset, .unset, .unset, .unset, .unset, .unset] [(.int md)])) t → Steps p.tables e below (s₁.setTop (entryFrame m #[(.long p0), (.long p1), (.long p2)] maxLocals)) t := by
    intro t kt
    refine pre0 _ ?_
    show Steps p.tables e below (s₁.setTop (mkF m 0 #[.val (.long p0), .second, .val (.long p1), .second, .val (.long p2), .second, .unset, .unset, .unset, .unset, .unset, .unset, .unset, .unset, .unset] [])) _
    refine XS.lloadN X0.here hx rfl (hb hby at_0) rfl ?_
    show Steps p.tables e below (s₁.setTop (mkF m 1 #[.val (.long p0), .second, .val (.long p1), .second, .val (.long p2), .second, .unset, .unset, .unset, .unset, .unset, .unset, .unset, .unset, .unset] [(.long p0)])) _
    refine X0.ldc2Long hx hown (mvT hZ (hw _ (List.mem_of_getElem? (i := 0) rfl))) (g := (mkF m 1 #[.val (.long p0), .second, .val (.long p1), .second, .val (.long p2), .second, .unset, .unset, .unset, .unset, .unset, .unset, .unset, .unset, .unset] [(.long p0)])) rfl (hb hby at_1) _ ?_
    show Steps p.tables e below (s₁.setTop (mkF m 4 #[.val (.long p0), .second, .val (.long p1), .second, .val (.long p2), .second, .unset, .unset, .unset, .unset, .unset, .unset, .unset, .unset, .unset] [(.long (9223372036854775807 : Int64)), (.long p0)])) _
    refine XS.land X0.here hx rfl (hb hby at_4) rfl ?_
    show Steps p.tables e below (s₁.setTop (mkF m 5 #[.val (.long p0), .second, .val (.long p1), .second, .val (.long p2), .second, .unset, .unset, .unset, .unset, .unset, .unset, .unset, .unset, .unset] [(.long (p0 &&& (9223372036854775807 : Int64)))])) _
    refine X0.ldc2Long hx hown (mvT hZ (hw _ (List.mem_of_getElem? (i := 1) rfl))) (g := (mkF m 5 #[.val (.long p0), .second, .val (.long p1), .second, .val (.long p2), .second, .unset, .unset, .unset, .unset, .unset, .unset, .unset, .unset, .unset] [(.long (p0 &&& (9223372036854775807 : Int64)))])) rfl (hb hby at_5) _ ?_
    show Steps p.tables e below (s₁.setTop (mkF m 8 #[.val (.long p0), .second, .val (.long p1), .second, .val (.long p2), .second, .unset, .unset, .unset, .unset, .unset, .unset, .unset, .unset, .unset] [(.long (3155760000 : Int64)), (.long (p0 &&& (9223372036854775807 : Int64)))])) _
    refine XS.lrem X0.here hx rfl (hb hby at_8) rfl (by decide) ?_
    show Steps p.tables e below (s₁.setTop (mkF m 9 #[.val (.long p0), .second, .val (.long p1), .second, .val (.long p2), .second, .unset, .unset, .unset, .unset, .unset, .unset, .unset, .unset, .unset] [(.long ((p0 &&& (9223372036854775807 : Int64)) - ((p0 &&& (9223372036854775807 : Int64)) / (3155760000 : Int64)) * (3155760000 : Int64)))])) _
    rw [lrem_mod]
    show Steps p.tables e below (s₁.setTop (mkF m 9 #[.val (.long p0), .second, .val (.long p1), .second, .val (.long p2), .second, .unset, .unset, .unset, .unset, .unset, .unset, .unset, .unset, .unset] [(.long ((p0 &&& (9223372036854775807 : Int64)) % (3155760000 : Int64)))])) _
    refine XS.lconst X0.here hx rfl (hb hby at_9) ?_
    show Steps p.tables e below (s₁.setTop (mkF m 10 #[.val (.long p0), .second, .val (.long p1), .second, .val (.long p2), .second, .unset, .unset, .unset, .unset, .unset, .unset, .unset, .unset, .unset] [(.long (1 : Int64)), (.long ((p0 &&& (9223372036854775807 : Int64)) % (3155760000 : Int64)))])) _
    refine XS.ladd X0.here hx rfl (hb hby at_10) rfl ?_
    show Steps p.tables e below (s₁.setTop (mkF m 11 #[.val (.long p0), .second, .val (.long p1), .second, .val (.long p2), .second, .unset, .unset, .unset, .unset, .unset, .unset, .unset, .unset, .unset] [(.long (((p0 &&& (9223372036854775807 : Int64)) % (3155760000 : Int64)) + (1 : Int64)))])) _
    rw [h_sv]
    show Steps p.tables e below (s₁.setTop (mkF m 11 #[.val (.long p0), .second, .val (.long p1), .second, .val (.long p2), .second, .unset, .unset, .unset, .unset, .unset, .unset, .unset, .unset, .unset] [(.long sv)])) _
    refine XS.lstore X0.here hx rfl (hb hby at_11) rfl (l' := #[.val (.long p0), .second, .val (.long p1), .second, .val (.long p2), .second, .val (.long sv), .second, .unset, .unset, .unset, .unset, .unset, .unset, .unset]) rfl ?_
    show Steps p.tables e below (s₁.setTop (mkF m 13 #[.val (.long p0), .second, .val (.long p1), .second, .val (.long p2), .second, .val (.long sv), .second, .unset, .unset, .unset, .unset, .unset, .unset, .unset] [])) _
    refine XS.lload X0.here hx rfl (hb hby at_13) rfl ?_
    show Steps p.tables e below (s₁.setTop (mkF m 15 #[.val (.long p0), .second, .val (.long p1), .second, .val (.long p2), .second, .val (.long sv), .second, .unset, .unset, .unset, .unset, .unset, .unset, .unset] [(.long p2)])) _
    refine X0.ldc2Long hx hown (mvT hZ (hw _ (List.mem_of_getElem? (i := 2) rfl))) (g := (mkF m 15 #[.val (.long p0), .second, .val (.long p1), .second, .val (.long p2), .second, .val (.long sv), .second, .unset, .unset, .unset, .unset, .unset, .unset, .unset] [(.long p2)])) rfl (hb hby at_15) _ ?_
    show Steps p.tables e below (s₁.setTop (mkF m 18 #[.val (.long p0), .second, .val (.long p1), .second, .val (.long p2), .second, .val (.long sv), .second, .unset, .unset, .unset, .unset, .unset, .unset, .unset] [(.long (3 : Int64)), (.long p2)])) _
    refine XS.land X0.here hx rfl (hb hby at_18) rfl ?_
    show Steps p.tables e below (s₁.setTop (mkF m 19 #[.val (.long p0), .second, .val (.long p1), .second, .val (.long p2), .second, .val (.long sv), .second, .unset, .unset, .unset, .unset, .unset, .unset, .unset] [(.long (p2 &&& (3 : Int64)))])) _
    refine XS.l2i X0.here hx rfl (hb hby at_19) rfl ?_
    show Steps p.tables e below (s₁.setTop (mkF m 20 #[.val (.long p0), .second, .val (.long p1), .second, .val (.long p2), .second, .val (.long sv), .second, .unset, .unset, .unset, .unset, .unset, .unset, .unset] [(.int ((p2 &&& (3 : Int64)).toInt32))])) _
    rw [h_md]
    show Steps p.tables e below (s₁.setTop (mkF m 20 #[.val (.long p0), .second, .val (.long p1), .second, .val (.long p2), .second, .val (.long sv), .second, .unset, .unset, .unset, .unset, .unset, .unset, .unset] [(.int md)])) _
    refine XS.istore X0.here hx rfl (hb hby at_20) rfl (l' := #[.val (.long p0), .second, .val (.long p1), .second, .val (.long p2), .second, .val (.long sv), .second, .val (.int md), .unset, .unset, .unset, .unset, .unset, .unset]) rfl ?_
    show Steps p.tables e below (s₁.setTop (mkF m 22 #[.val (.long p0), .second, .val (.long p1), .second, .val (.long p2), .second, .val (.long sv), .second, .val (.int md), .unset, .unset, .unset, .unset, .unset, .unset] [])) _
    refine XS.iload X0.here hx rfl (hb hby at_22) rfl ?_
    exact kt
  by_cases hc24_24 : md = (0 : Int32)
  · -- pc 24: md = (0 : Int32)
    have hr1 : 0 ≤ (0 : Int64).toInt ∧ (0 : Int64).toInt < sv.toInt := by have := own_0; omega
    obtain ⟨mv, h_mv⟩ : ∃ z : Int64, (((p2.toUInt64 >>> ((2 : Int32) &&& 0x3f).toInt64.toUInt64).toInt64) % sv) = z := ⟨_, rfl⟩
    have hm1 : 0 ≤ mv.toInt ∧ mv.toInt < sv.toInt := by rw [← h_mv]; exact own_lrem (own_ush p2) (by omega)
    obtain ⟨T26, h26, X26, e26, E26, A26, D26, -, st26⟩ := newO X0 hx hZ hown (hw _ (List.mem_of_getElem? (i := 3) rfl)) (hw _ (List.mem_of_getElem? (i := 4) rfl)) (hw _ (List.mem_of_getElem? (i := 5) rfl)) e0 (g := (mkF m 71 #[.val (.long p0), .second, .val (.long p1), .second, .val (.long p2), .second, .val (.long sv), .second, .val (.int md), .val (.long (0 : Int64)), .second, .val (.long mv), .second, .unset, .unset] [])) rfl (hb hby at_71) (by decide) (by decide)
    obtain ⟨b26, g26⟩ : ∃ z, z = h0.size := ⟨_, rfl⟩
    rw [← g26] at A26 D26 st26
    have sz_b26 : h0.size ≤ b26 := Nat.le_trans (Keep.refl h0 []).1 (Nat.le_of_eq g26.symm)
    have gn_b26 : n0 ≤ b26 := Nat.le_trans Z0 sz_b26
    have EX26 := own_ext_trans (own_ext_refl h0) E26
    have KP26 := Keep.ext (Keep.refl h0 []) E26
    have F26_secretExpiration : Fld Z h26 b26 "com/example/escrowd/escrowd/client/SecretPolicy" "secretExpiration" "J" (.long (0 : Int64)) := D26 (Or.inr (hw _ (List.mem_of_getElem? (i := 34) rfl))) (ty := .long) (by decide)
    have F26_rotatedSecretExpiration : Fld Z h26 b26 "com/example/escrowd/escrowd/client/SecretPolicy" "rotatedSecretExpiration" "J" (.long (0 : Int64)) := D26 (Or.inr (hw _ (List.mem_of_getElem? (i := 36) rfl))) (ty := .long) (by decide)
    have F26_remainingExpirationForRotation : Fld Z h26 b26 "com/example/escrowd/escrowd/client/SecretPolicy" "remainingExpirationForRotation" "J" (.long (0 : Int64)) := D26 (Or.inr (hw _ (List.mem_of_getElem? (i := 38) rfl))) (ty := .long) (by decide)
    have F26_notifyBeforeExpiration : Fld Z h26 b26 "com/example/escrowd/escrowd/client/SecretPolicy" "notifyBeforeExpiration" "Ljava/util/OptionalLong;" .null := D26 (Or.inr (hw _ (List.mem_of_getElem? (i := 40) rfl))) (ty := (.object "java/util/OptionalLong")) (by decide)
    obtain ⟨_, _, ⟨T27, L27, k27, n27⟩, -, X27, ⟨Lc27, hQ27, l27, y27, z27⟩, st27⟩ := X26.specialBack hx (y := (⟨"com/example/escrowd/escrowd/client/SecretPolicy", "<init>", "(JJJ)V"⟩ : MethodName)) rfl hown (mvT hZ (hw _ (List.mem_of_getElem? (i := 6) rfl))) (mvT hZ (hw _ (List.mem_of_getElem? (i := 7) rfl))) (mvT hZ (hw _ (List.mem_of_getElem? (i := 8) rfl))) (by decide) (backOf (W := 1) (rm_init3 l Z a0 hw [] b26 sv (0 : Int64) mv h26 n0 (Nat.le_trans Z0 EX26.1) w (S_E.ext EX26) (E_E.ext EX26) (F_E.ext EX26) A26 F26_secretExpiration F26_rotatedSecretExpiration F26_remainingExpirationForRotation F26_notifyBeforeExpiration gn_b26 (own_lc_ge (by have := own_1; omega)) (own_lc_le (by have := own_M; omega)) (own_lc_ge (by have := own_0; omega)) (own_lc_lt hr1.2) (own_lc_ge (by have := own_0; omega)) (own_lc_lt hm1.2)) hZ (hw _ (List.mem_of_getElem? (i := 8) rfl)) (hw _ (List.mem_of_getElem? (i := 5) rfl)) (by decide) (by decide)) (g := (mkF m 81 #[.val (.long p0), .second, .val (.long p1), .second, .val (.long p2), .second, .val (.long sv), .second, .val (.int md), .val (.long (0 : Int64)), .second, .val (.long mv), .second, .unset, .unset] [(.long mv), (.long (0 : Int64)), (.long sv), (.ref b26), (.ref b26)])) rfl (by rw [hml]; rfl) (Steps.refl _) (a := b26) (argsL := [(.long sv), (.long (0 : Int64)), (.long mv)]) (rest := [(.ref b26)]) (lenOf pd_81 rfl) rfl (by show 2 * 0 + _ ≤ _; exact Nat.le_of_eq rfl) (hb hby at_81) (fun _ _ => ⟨rfl, e26, (by decide : 1 + 0 ≤ _), (by decide : 4 + 0 ≤ _)⟩)
    dsimp only [Pt.U, Pt.locs, Pt.cells, Pt.slots] at X27 l27 y27 z27 st27 hQ27
    subst l27 y27 z27
    obtain ⟨rfl, N27q, K27, q27_0, q27_1⟩ := hQ27
    have N27 := Fr.app N0 N27q
    have e27 : T27.heap = T27.heap := rfl
    have EX27 := own_ext_keep EX26 K27 (allS sz_b26 all0)
    have KP27 := Keep.trans KP26 K27 (allS (Or.inr sz_b26) all0)
    have ck29 : ∀ t, Steps p.tables e below (T27.setTop (mkF m 90 #[.val (.long p0), .second, .val (.long p1), .second, .val (.long p2), .second, .val (.long sv), .second, .val (.int md), .val (.long (0 : Int64)), .second, .val (.long mv), .second, .val (.ref b26), .unset] [(.int (lcmpW (0 : Int64) (0 : Int64)))])) t → Steps p.tables e below (s₁.setTop (entryFrame m #[(.long p0), (.long p1), (.long p2)] maxLocals)) t := by
      intro t kt
      refine ck25 _ ?_
      show Steps p.tables e below (s₁.setTop (mkF m 24 #[.val (.long p0), .second, .val (.long p1), .second, .val (.long p2), .second, .val (.long sv), .second, .val (.int md), .unset, .unset, .unset, .unset, .unset, .unset] [(.int md)])) _
      refine XS.ifNo X0.here hx rfl (hb hby at_24) rfl ((if0 _ _).trans (teq hc24_24).2) ?_
      show Steps p.tables e below (s₁.setTop (mkF m 27 #[.val (.long p0), .second, .val (.long p1), .second, .val (.long p2), .second, .val (.long sv), .second, .val (.int md), .unset, .unset, .unset, .unset, .unset, .unset] [])) _
      refine XS.lconst X0.here hx rfl (hb hby at_27) ?_
      show Steps p.tables e below (s₁.setTop (mkF m 28 #[.val (.long p0), .second, .val (.long p1), .second, .val (.long p2), .second, .val (.long sv), .second, .val (.int md), .unset, .unset, .unset, .unset, .unset, .unset] [(.long (0 : Int64))])) _
      refine XS.lstore X0.here hx rfl (hb hby at_28) rfl (l' := #[.val (.long p0), .second, .val (.long p1), .second, .val (.long p2), .second, .val (.long sv), .second, .val (.int md), .val (.long (0 : Int64)), .second, .unset, .unset, .unset, .unset]) rfl ?_
      show Steps p.tables e below (s₁.setTop (mkF m 30 #[.val (.long p0), .second, .val (.long p1), .second, .val (.long p2), .second, .val (.long sv), .second, .val (.int md), .val (.long (0 : Int64)), .second, .unset, .unset, .unset, .unset] [])) _
      refine XS.goto X0.here hx rfl (pc0 := 30) (pc' := 62) rfl (hb hby at_30) (by decide) (by decide) ?_
      show Steps p.tables e below (s₁.setTop (mkF m 62 #[.val (.long p0), .second, .val (.long p1), .second, .val (.long p2), .second, .val (.long sv), .second, .val (.int md), .val (.long (0 : Int64)), .second, .unset, .unset, .unset, .unset] [])) _
      refine XS.lload X0.here hx rfl (hb hby at_62) rfl ?_
      show Steps p.tables e below (s₁.setTop (mkF m 64 #[.val (.long p0), .second, .val (.long p1), .second, .val (.long p2), .second, .val (.long sv), .second, .val (.int md), .val (.long (0 : Int64)), .second, .unset, .unset, .unset, .unset] [(.long p2)])) _
      refine XS.iconst X0.here hx rfl (hb hby at_64) ?_
      show Steps p.tables e below (s₁.setTop (mkF m 65 #[.val (.long p0), .second, .val (.long p1), .second, .val (.long p2), .second, .val (.long sv), .second, .val (.int md), .val (.long (0 : Int64)), .second, .unset, .unset, .unset, .unset] [(.int (2 : Int32)), (.long p2)])) _
      refine XS.lushr X0.here hx rfl (hb hby at_65) rfl ?_
      show Steps p.tables e below (s₁.setTop (mkF m 66 #[.val (.long p0), .second, .val (.long p1), .second, .val (.long p2), .second, .val (.long sv), .second, .val (.int md), .val (.long (0 : Int64)), .second, .unset, .unset, .unset, .unset] [(.long ((p2.toUInt64 >>> ((2 : Int32) &&& 0x3f).toInt64.toUInt64).toInt64))])) _
      refine XS.lload X0.here hx rfl (hb hby at_66) rfl ?_
      show Steps p.tables e below (s₁.setTop (mkF m 68 #[.val (.long p0), .second, .val (.long p1), .second, .val (.long p2), .second, .val (.long sv), .second, .val (.int md), .val (.long (0 : Int64)), .second, .unset, .unset, .unset, .unset] [(.long sv), (.long ((p2.toUInt64 >>> ((2 : Int32) &&& 0x3f).toInt64.toUInt64).toInt64))])) _
      refine XS.lrem X0.here hx rfl (hb hby at_68) rfl (own_nz hs.1) ?_
      show Steps p.tables e below (s₁.setTop (mkF m 69 #[.val (.long p0), .second, .val (.long p1), .second, .val (.long p2), .second, .val (.long sv), .second, .val (.int md), .val (.long (0 : Int64)), .second, .unset, .unset, .unset, .unset] [(.long (((p2.toUInt64 >>> ((2 : Int32) &&& 0x3f).toInt64.toUInt64).toInt64) - (((p2.toUInt64 >>> ((2 : Int32) &&& 0x3f).toInt64.toUInt64).toInt64) / sv) * sv))])) _
      rw [lrem_mod]
      show Steps p.tables e below (s₁.setTop (mkF m 69 #[.val (.long p0), .second, .val (.long p1), .second, .val (.long p2), .second, .val (.long sv), .second, .val (.int md), .val (.long (0 : Int64)), .second, .unset, .unset, .unset, .unset] [(.long (((p2.toUInt64 >>> ((2 : Int32) &&& 0x3f).toInt64.toUInt64).toInt64) % sv))])) _
      rw [h_mv]
      show Steps p.tables e below (s₁.setTop (mkF m 69 #[.val (.long p0), .second, .val (.long p1), .second, .val (.long p2), .second, .val (.long sv), .second, .val (.int md), .val (.long (0 : Int64)), .second, .unset, .unset, .unset, .unset] [(.long mv)])) _
      refine XS.lstore X0.here hx rfl (hb hby at_69) rfl (l' := #[.val (.long p0), .second, .val (.long p1), .second, .val (.long p2), .second, .val (.long sv), .second, .val (.int md), .val (.long (0 : Int64)), .second, .val (.long mv), .second, .unset, .unset]) rfl ?_
      show Steps p.tables e below (s₁.setTop (mkF m 71 #[.val (.long p0), .second, .val (.long p1), .second, .val (.long p2), .second, .val (.long sv), .second, .val (.int md), .val (.long (0 : Int64)), .second, .val (.long mv), .second, .unset, .unset] [])) _
      refine st26 _ ?_
      show Steps p.tables e below (T26.setTop (mkF m 74 #[.val (.long p0), .second, .val (.long p1), .second, .val (.long p2), .second, .val (.long sv), .second, .val (.int md), .val (.long (0 : Int64)), .second, .val (.long mv), .second, .unset, .unset] [(.ref b26)])) _
      refine XS.dup X26.here hx rfl (hb hby at_74) rfl rfl ?_
      show Steps p.tables e below (T26.setTop (mkF m 75 #[.val (.long p0), .second, .val (.long p1), .second, .val (.long p2), .second, .val (.long sv), .second, .val (.int md), .val (.long (0 : Int64)), .second, .val (.long mv), .second, .unset, .unset] [(.ref b26), (.ref b26)])) _
      refine XS.lload X26.here hx rfl (hb hby at_75) rfl ?_
      show Steps p.tables e below (T26.setTop (mkF m 77 #[.val (.long p0), .second, .val (.long p1), .second, .val (.long p2), .second, .val (.long sv), .second, .val (.int md), .val (.long (0 : Int64)), .second, .val (.long mv), .second, .unset, .unset] [(.long sv), (.ref b26), (.ref b26)])) _
      refine XS.lload X26.here hx rfl (hb hby at_77) rfl ?_
      show Steps p.tables e below (T26.setTop (mkF m 79 #[.val (.long p0), .second, .val (.long p1), .second, .val (.long p2), .second, .val (.long sv), .second, .val (.int md), .val (.long (0 : Int64)), .second, .val (.long mv), .second, .unset, .unset] [(.long (0 : Int64)), (.long sv), (.ref b26), (.ref b26)])) _
      refine XS.lload X26.here hx rfl (hb hby at_79) rfl ?_
      show Steps p.tables e below (T26.setTop (mkF m 81 #[.val (.long p0), .second, .val (.long p1), .second, .val (.long p2), .second, .val (.long sv), .second, .val (.int md), .val (.long (0 : Int64)), .second, .val (.long mv), .second, .unset, .unset] [(.long mv), (.long (0 : Int64)), (.long sv), (.ref b26), (.ref b26)])) _
      refine st27.trans ?_
      show Steps p.tables e below (T27.setTop (mkF m 84 #[.val (.long p0), .second, .val (.long p1), .second, .val (.long p2), .second, .val (.long sv), .second, .val (.int md), .val (.long (0 : Int64)), .second, .val (.long mv), .second, .unset, .unset] [(.ref b26)])) _
      refine XS.astore X27.here hx rfl (hb hby at_84) rfl rfl (l' := #[.val (.long p0), .second, .val (.long p1), .second, .val (.long p2), .second, .val (.long sv), .second, .val (.int md), .val (.long (0 : Int64)), .second, .val (.long mv), .second, .val (.ref b26), .unset]) rfl ?_
      show Steps p.tables e below (T27.setTop (mkF m 86 #[.val (.long p0), .second, .val (.long p1), .second, .val (.long p2), .second, .val (.long sv), .second, .val (.int md), .val (.long (0 : Int64)), .second, .val (.long mv), .second, .val (.ref b26), .unset] [])) _
      refine XS.lload X27.here hx rfl (hb hby at_86) rfl ?_
      show Steps p.tables e below (T27.setTop (mkF m 88 #[.val (.long p0), .second, .val (.long p1), .second, .val (.long p2), .second, .val (.long sv), .second, .val (.int md), .val (.long (0 : Int64)), .second, .val (.long mv), .second, .val (.ref b26), .unset] [(.long (0 : Int64))])) _
      refine XS.lconst X27.here hx rfl (hb hby at_88) ?_
      show Steps p.tables e below (T27.setTop (mkF m 89 #[.val (.long p0), .second, .val (.long p1), .second, .val (.long p2), .second, .val (.long sv), .second, .val (.int md), .val (.long (0 : Int64)), .second, .val (.long mv), .second, .val (.ref b26), .unset] [(.long (0 : Int64)), (.long (0 : Int64))])) _
      refine XS.lcmp X27.here hx rfl (hb hby at_89) rfl ?_
      exact kt
    by_cases hc90_28 : (lcmpW (0 : Int64) (0 : Int64)) = (0 : Int32)
    · -- pc 90: (lcmpW (0 : Int64) (0 : Int64)) = (0 : Int32)
      obtain ⟨cq30, kq30, q30a, q30b, q30c⟩ := isOf hZ e27 (q27_0)
      obtain ⟨_, _, ⟨T30, L30, k30, n30⟩, -, X30, ⟨Lc30, hQ30, l30, y30, z30⟩, st30⟩ := X27.virtualBack hx (y := (⟨"com/example/escrowd/escrowd/client/SecretPolicy", "keepsRotatedSecrets", "()Z"⟩ : MethodName)) (z := (⟨"com/example/escrowd/escrowd/client/SecretPolicy", "keepsRotatedSecrets", "()Z"⟩ : MethodName)) hown (mvT hZ (hw _ (List.mem_of_getElem? (i := 41) rfl))) (mvT hZ (hw _ (List.mem_of_getElem? (i := 42) rfl))) (notFace_of_selects (args := #[]) (mvT hZ (hw _ (List.mem_of_getElem? (i := 44) rfl)))) (mvT hZ (hw _ (List.mem_of_getElem? (i := 44) rfl))) (mvT hZ (hw _ (List.mem_of_getElem? (i := 43) rfl))) (by decide) (backOf (W := 0) (rm_keeps l Z a0 hw [] b26 T27.heap n0 (Nat.le_trans Z0 EX27.1) (0 : Int64) q27_1 (0 : Int32) (if_neg (own_lc_le (by have := own_eq_lc hc90_28; omega)))) hZ (hw _ (List.mem_of_getElem? (i := 45) rfl)) (hw _ (List.mem_of_getElem? (i := 5) rfl)) (by decide) (by decide)) q30a q30c (g := (mkF m 102 #[.val (.long p0), .second, .val (.long p1), .second, .val (.long p2), .second, .val (.long sv), .second, .val (.int md), .val (.long (0 : Int64)), .second, .val (.long mv), .second, .val (.ref b26), .val (.int (0 : Int32))] [(.ref b26)])) rfl (by rw [hml]; rfl) (Steps.refl _) (argsL := []) (rest := []) (lenOf pd_46 rfl) rfl (by show 2 * 0 + _ ≤ _; exact Nat.le_of_eq rfl) (hb hby at_102) (fun _ _ => ⟨rfl, e27, (by decide : 1 + 0 ≤ _), (by decide : 4 + 0 ≤ _)⟩)
      dsimp only [Pt.U, Pt.locs, Pt.cells, Pt.slots] at X30 l30 y30 z30 st30 hQ30
      subst l30 y30 z30
      obtain ⟨rfl, N30q, e30⟩ := hQ30
      have N30 := Fr.app N27 N30q
      obtain ⟨fs, hr, hrun, hended, hW, hsame⟩ := X30.leave (v := some (.int (1 : Int32))) (fun h => by rw [Bd.returns] at h; cases h)
      refine ⟨_, _, ck29 _ ?_, hrun, hended, _, _, rfl, ?_, ⟨_, rfl⟩, hW, hsame.mono (by decide) (by decide)⟩
      · show Steps p.tables e below (T27.setTop (mkF m 90 #[.val (.long p0), .second, .val (.long p1), .second, .val (.long p2), .second, .val (.long sv), .second, .val (.int md), .val (.long (0 : Int64)), .second, .val (.long mv), .second, .val (.ref b26), .unset] [(.int (lcmpW (0 : Int64) (0 : Int64)))])) _
        refine XS.ifYes X27.here hx rfl (pc0 := 90) (pc' := 97) rfl (hb hby at_90) rfl ((if0 _ _).trans (teq hc90_28).1) (by decide) (by decide) ?_
        show Steps p.tables e below (T27.setTop (mkF m 97 #[.val (.long p0), .second, .val (.long p1), .second, .val (.long p2), .second, .val (.long sv), .second, .val (.int md), .val (.long (0 : Int64)), .second, .val (.long mv), .second, .val (.ref b26), .unset] [])) _
        refine XS.iconst X27.here hx rfl (hb hby at_97) ?_
        show Steps p.tables e below (T27.setTop (mkF m 98 #[.val (.long p0), .second, .val (.long p1), .second, .val (.long p2), .second, .val (.long sv), .second, .val (.int md), .val (.long (0 : Int64)), .second, .val (.long mv), .second, .val (.ref b26), .unset] [(.int (0 : Int32))])) _
        refine XS.istore X27.here hx rfl (hb hby at_98) rfl (l' := #[.val (.long p0), .second, .val (.long p1), .second, .val (.long p2), .second, .val (.long sv), .second, .val (.int md), .val (.long (0 : Int64)), .second, .val (.long mv), .second, .val (.ref b26), .val (.int (0 : Int32))]) rfl ?_
        show Steps p.tables e below (T27.setTop (mkF m 100 #[.val (.long p0), .second, .val (.long p1), .second, .val (.long p2), .second, .val (.long sv), .second, .val (.int md), .val (.long (0 : Int64)), .second, .val (.long mv), .second, .val (.ref b26), .val (.int (0 : Int32))] [])) _
        refine XS.aload X27.here hx rfl (hb hby at_100) rfl rfl ?_
        show Steps p.tables e below (T27.setTop (mkF m 102 #[.val (.long p0), .second, .val (.long p1), .second, .val (.long p2), .second, .val (.long sv), .second, .val (.int md), .val (.long (0 : Int64)), .second, .val (.long mv), .second, .val (.ref b26), .val (.int (0 : Int32))] [(.ref b26)])) _
        refine st30.trans ?_
        show Steps p.tables e below (T30.setTop (mkF m 105 #[.val (.long p0), .second, .val (.long p1), .second, .val (.long p2), .second, .val (.long sv), .second, .val (.int md), .val (.long (0 : Int64)), .second, .val (.long mv), .second, .val (.ref b26), .val (.int (0 : Int32))] [(.int (0 : Int32))])) _
        refine XS.iload X30.here hx rfl (hb hby at_105) rfl ?_
        show Steps p.tables e below (T30.setTop (mkF m 107 #[.val (.long p0), .second, .val (.long p1), .second, .val (.long p2), .second, .val (.long sv), .second, .val (.int md), .val (.long (0 : Int64)), .second, .val (.long mv), .second, .val (.ref b26), .val (.int (0 : Int32))] [(.int (0 : Int32)), (.int (0 : Int32))])) _
        refine XS.icmpNo X30.here hx rfl (hb hby at_107) rfl (teq (by decide : (0 : Int32) = (0 : Int32))).2 ?_
        show Steps p.tables e below (T30.setTop (mkF m 110 #[.val (.long p0), .second, .val (.long p1), .second, .val (.long p2), .second, .val (.long sv), .second, .val (.int md), .val (.long (0 : Int64)), .second, .val (.long mv), .second, .val (.ref b26), .val (.int (0 : Int32))] [])) _
        refine XS.iconst X30.here hx rfl (hb hby at_110) ?_
        show Steps p.tables e below (T30.setTop (mkF m 111 #[.val (.long p0), .second, .val (.long p1), .second, .val (.long p2), .second, .val (.long sv), .second, .val (.int md), .val (.long (0 : Int64)), .second, .val (.long mv), .second, .val (.ref b26), .val (.int (0 : Int32))] [(.int (1 : Int32))])) _
        refine XS.goto X30.here hx rfl (pc0 := 111) (pc' := 115) rfl (hb hby at_111) (by decide) (by decide) ?_
        show Steps p.tables e below (T30.setTop (mkF m 115 #[.val (.long p0), .second, .val (.long p1), .second, .val (.long p2), .second, .val (.long sv), .second, .val (.int md), .val (.long (0 : Int64)), .second, .val (.long mv), .second, .val (.ref b26), .val (.int (0 : Int32))] [(.int (1 : Int32))])) _
        exact retN X30 hx (t := .boolean) Bd.returns (by simp) (hb hby at_115) hr
      · show own_Made (some (.int 1)) n0 _ T30.heap _
        rw [e30]
        exact ⟨rfl, N30, trivial⟩
    · -- pc 90: not (lcmpW (0 : Int64) (0 : Int64)) = (0 : Int32)
      exact absurd (own_lc_eq (x := (0 : Int64)) (y := (0 : Int64)) rfl) hc90_28
  · -- pc 24: not md = (0 : Int32)
    by_cases hc36_31 : md = (1 : Int32)
    · -- pc 36: md = (1 : Int32)
      obtain ⟨s1, h_s1⟩ : ∃ z : Int64, (sv - (1 : Int64)) = z := ⟨_, rfl⟩
      have hs1 : s1.toInt = sv.toInt - 1 := by rw [← h_s1]; exact own_s1 hs.1
      have ck32 : ∀ t, Steps p.tables e below (s₁.setTop (mkF m 44 #[.val (.long p0), .second, .val (.long p1), .second, .val (.long p2), .second, .val (.long sv), .second, .val (.int md), .unset, .unset, .unset, .unset, .unset, .unset] [(.long s1), (.long (1 : Int64))])) t → Steps p.tables e below (s₁.setTop (entryFrame m #[(.long p0), (.long p1), (.long p2)] maxLocals)) t := by
        intro t kt
        refine ck25 _ ?_
        show Steps p.tables e below (s₁.setTop (mkF m 24 #[.val (.long p0), .second, .val (.long p1), .second, .val (.long p2), .second, .val (.long sv), .second, .val (.int md), .unset, .unset, .unset, .unset, .unset, .unset] [(.int md)])) _
        refine XS.ifYes X0.here hx rfl (pc0 := 24) (pc' := 33) rfl (hb hby at_24) rfl ((if0 _ _).trans (feq hc24_24).2) (by decide) (by decide) ?_
        show Steps p.tables e below (s₁.setTop (mkF m 33 #[.val (.long p0), .second, .val (.long p1), .second, .val (.long p2), .second, .val (.long sv), .second, .val (.int md), .unset, .unset, .unset, .unset, .unset, .unset] [])) _
        refine XS.iload X0.here hx rfl (hb hby at_33) rfl ?_
        show Steps p.tables e below (s₁.setTop (mkF m 35 #[.val (.long p0), .second, .val (.long p1), .second, .val (.long p2), .second, .val (.long sv), .second, .val (.int md), .unset, .unset, .unset, .unset, .unset, .unset] [(.int md)])) _
        refine XS.iconst X0.here hx rfl (hb hby at_35) ?_
        show Steps p.tables e below (s₁.setTop (mkF m 36 #[.val (.long p0), .second, .val (.long p1), .second, .val (.long p2), .second, .val (.long sv), .second, .val (.int md), .unset, .unset, .unset, .unset, .unset, .unset] [(.int (1 : Int32)), (.int md)])) _
        refine XS.icmpNo X0.here hx rfl (hb hby at_36) rfl (teq hc36_31).2 ?_
        show Steps p.tables e below (s₁.setTop (mkF m 39 #[.val (.long p0), .second, .val (.long p1), .second, .val (.long p2), .second, .val (.long sv), .second, .val (.int md), .unset, .unset, .unset, .unset, .unset, .unset] [])) _
        refine XS.lconst X0.here hx rfl (hb hby at_39) ?_
        show Steps p.tables e below (s₁.setTop (mkF m 40 #[.val (.long p0), .second, .val (.long p1), .second, .val (.long p2), .second, .val (.long sv), .second, .val (.int md), .unset, .unset, .unset, .unset, .unset, .unset] [(.long (1 : Int64))])) _
        refine XS.lload X0.here hx rfl (hb hby at_40) rfl ?_
        show Steps p.tables e below (s₁.setTop (mkF m 42 #[.val (.long p0), .second, .val (.long p1), .second, .val (.long p2), .second, .val (.long sv), .second, .val (.int md), .unset, .unset, .unset, .unset, .unset, .unset] [(.long sv), (.long (1 : Int64))])) _
        refine XS.lconst X0.here hx rfl (hb hby at_42) ?_
        show Steps p.tables e below (s₁.setTop (mkF m 43 #[.val (.long p0), .second, .val (.long p1), .second, .val (.long p2), .second, .val (.long sv), .second, .val (.int md), .unset, .unset, .unset, .unset, .unset, .unset] [(.long (1 : Int64)), (.long sv), (.long (1 : Int64))])) _
        refine XS.lsub X0.here hx rfl (hb hby at_43) rfl ?_
        show Steps p.tables e below (s₁.setTop (mkF m 44 #[.val (.long p0), .second, .val (.long p1), .second, .val (.long p2), .second, .val (.long sv), .second, .val (.int md), .unset, .unset, .unset, .unset, .unset, .unset] [(.long (sv - (1 : Int64))), (.long (1 : Int64))])) _
        rw [h_s1]
        exact kt
      by_cases hmn : (0 : Int32) < (lcmpW (1 : Int64) s1)
      · skip
        have hmn_ := own_gt_lc hmn
        have hr1 : 0 ≤ (s1).toInt ∧ (s1).toInt < sv.toInt := by have := own_1; omega
        obtain ⟨_, _, ⟨T33, L33, k33, n33⟩, -, X33, ⟨Lc33, hQ33, l33, y33, z33⟩, st33⟩ := Jvm.LawKit.callS X0 hx (y := (⟨"java/lang/Math", "min", "(JJ)J"⟩ : MethodName)) hown (mvT hZ (hw _ (List.mem_of_getElem? (i := 46) rfl))) (mvT hZ (hw _ (List.mem_of_getElem? (i := 47) rfl))) (mvT hZ (hw _ (List.mem_of_getElem? (i := 48) rfl))) (mvT hZ (hw _ (List.mem_of_getElem? (i := 49) rfl))) (by decide) (backOf (W := 0) (rm_min l Z a0 hw [] (1 : Int64) s1 h0 n0 Z0 s1 (if_pos hmn)) hZ (hw _ (List.mem_of_getElem? (i := 49) rfl)) (hw _ (List.mem_of_getElem? (i := 48) rfl)) (by decide) (by decide)) (g := (mkF m 44 #[.val (.long p0), .second, .val (.long p1), .second, .val (.long p2), .second, .val (.long sv), .second, .val (.int md), .unset, .unset, .unset, .unset, .unset, .unset] [(.long s1), (.long (1 : Int64))])) rfl (by rw [hml]; rfl) (argsL := [(.long (1 : Int64)), (.long s1)]) (rest := []) (lenOf pd_82 rfl) rfl (by show 2 * 0 + _ ≤ _; exact Nat.le_of_eq rfl) (hb hby at_44) (fun _ _ => ⟨rfl, e0, (by decide : 0 + 0 ≤ _), (by decide : 0 + 0 ≤ _)⟩)
        dsimp only [Pt.U, Pt.locs, Pt.cells, Pt.slots] at X33 l33 y33 z33 st33 hQ33
        subst l33 y33 z33
        obtain ⟨rfl, N33q, e33⟩ := hQ33
        have N33 := Fr.app N0 N33q
        obtain ⟨mv, h_mv⟩ : ∃ z : Int64, (((p2.toUInt64 >>> ((2 : Int32) &&& 0x3f).toInt64.toUInt64).toInt64) % sv) = z := ⟨_, rfl⟩
        have hm1 : 0 ≤ mv.toInt ∧ mv.toInt < sv.toInt := by rw [← h_mv]; exact own_lrem (own_ush p2) (by omega)
        obtain ⟨T34, h34, X34, e34, E34, A34, D34, -, st34⟩ := newO X33 hx hZ hown (hw _ (List.mem_of_getElem? (i := 3) rfl)) (hw _ (List.mem_of_getElem? (i := 4) rfl)) (hw _ (List.mem_of_getElem? (i := 5) rfl)) e33 (g := (mkF m 71 #[.val (.long p0), .second, .val (.long p1), .second, .val (.long p2), .second, .val (.long sv), .second, .val (.int md), .val (.long s1), .second, .val (.long mv), .second, .unset, .unset] [])) rfl (hb hby at_71) (by decide) (by decide)
        obtain ⟨b34, g34⟩ : ∃ z, z = h0.size := ⟨_, rfl⟩
        rw [← g34] at A34 D34 st34
        have sz_b34 : h0.size ≤ b34 := Nat.le_trans (Keep.refl h0 []).1 (Nat.le_of_eq g34.symm)
        have gn_b34 : n0 ≤ b34 := Nat.le_trans Z0 sz_b34
        have EX34 := own_ext_trans (own_ext_refl h0) E34
        have KP34 := Keep.ext (Keep.refl h0 []) E34
        have F34_secretExpiration : Fld Z h34 b34 "com/example/escrowd/escrowd/client/SecretPolicy" "secretExpiration" "J" (.long (0 : Int64)) := D34 (Or.inr (hw _ (List.mem_of_getElem? (i := 34) rfl))) (ty := .long) (by decide)
        have F34_rotatedSecretExpiration : Fld Z h34 b34 "com/example/escrowd/escrowd/client/SecretPolicy" "rotatedSecretExpiration" "J" (.long (0 : Int64)) := D34 (Or.inr (hw _ (List.mem_of_getElem? (i := 36) rfl))) (ty := .long) (by decide)
        have F34_remainingExpirationForRotation : Fld Z h34 b34 "com/example/escrowd/escrowd/client/SecretPolicy" "remainingExpirationForRotation" "J" (.long (0 : Int64)) := D34 (Or.inr (hw _ (List.mem_of_getElem? (i := 38) rfl))) (ty := .long) (by decide)
        have F34_notifyBeforeExpiration : Fld Z h34 b34 "com/example/escrowd/escrowd/client/SecretPolicy" "notifyBeforeExpiration" "Ljava/util/OptionalLong;" .null := D34 (Or.inr (hw _ (List.mem_of_getElem? (i := 40) rfl))) (ty := (.object "java/util/OptionalLong")) (by decide)
        obtain ⟨_, _, ⟨T35, L35, k35, n35⟩, -, X35, ⟨Lc35, hQ35, l35, y35, z35⟩, st35⟩ := X34.specialBack hx (y := (⟨"com/example/escrowd/escrowd/client/SecretPolicy", "<init>", "(JJJ)V"⟩ : MethodName)) rfl hown (mvT hZ (hw _ (List.mem_of_getElem? (i := 6) rfl))) (mvT hZ (hw _ (List.mem_of_getElem? (i := 7) rfl))) (mvT hZ (hw _ (List.mem_of_getElem? (i := 8) rfl))) (by decide) (backOf (W := 1) (rm_init3 l Z a0 hw [] b34 sv s1 mv h34 n0 (Nat.le_trans Z0 EX34.1) w (S_E.ext EX34) (E_E.ext EX34) (F_E.ext EX34) A34 F34_secretExpiration F34_rotatedSecretExpiration F34_remainingExpirationForRotation F34_notifyBeforeExpiration gn_b34 (own_lc_ge (by have := own_1; omega)) (own_lc_le (by have := own_M; omega)) (own_lc_ge (by have := own_0; omega)) (own_lc_lt hr1.2) (own_lc_ge (by have := own_0; omega)) (own_lc_lt hm1.2)) hZ (hw _ (List.mem_of_getElem? (i := 8) rfl)) (hw _ (List.mem_of_getElem? (i := 5) rfl)) (by decide) (by decide)) (g := (mkF m 81 #[.val (.long p0), .second, .val (.long p1), .second, .val (.long p2), .second, .val (.long sv), .second, .val (.int md), .val (.long s1), .second, .val (.long mv), .second, .unset, .unset] [(.long mv), (.long s1), (.long sv), (.ref b34), (.ref b34)])) rfl (by rw [hml]; rfl) (Steps.refl _) (a := b34) (argsL := [(.long sv), (.long s1), (.long mv)]) (rest := [(.ref b34)]) (lenOf pd_81 rfl) rfl (by show 2 * 0 + _ ≤ _; exact Nat.le_of_eq rfl) (hb hby at_81) (fun _ _ => ⟨rfl, e34, (by decide : 1 + 0 ≤ _), (by decide : 4 + 0 ≤ _)⟩)
        dsimp only [Pt.U, Pt.locs, Pt.cells, Pt.slots] at X35 l35 y35 z35 st35 hQ35
        subst l35 y35 z35
        obtain ⟨rfl, N35q, K35, q35_0, q35_1⟩ := hQ35
        have N35 := Fr.app N33 N35q
        have e35 : T35.heap = T35.heap := rfl
        have EX35 := own_ext_keep EX34 K35 (allS sz_b34 all0)
        have KP35 := Keep.trans KP34 K35 (allS (Or.inr sz_b34) all0)
        have ck37 : ∀ t, Steps p.tables e below (T35.setTop (mkF m 90 #[.val (.long p0), .second, .val (.long p1), .second, .val (.long p2), .second, .val (.long sv), .second, .val (.int md), .val (.long s1), .second, .val (.long mv), .second, .val (.ref b34), .unset] [(.int (lcmpW s1 (0 : Int64)))])) t → Steps p.tables e below (s₁.setTop (entryFrame m #[(.long p0), (.long p1), (.long p2)] maxLocals)) t := by
          intro t kt
          refine ck32 _ ?_
          show Steps p.tables e below (s₁.setTop (mkF m 44 #[.val (.long p0), .second, .val (.long p1), .second, .val (.long p2), .second, .val (.long sv), .second, .val (.int md), .unset, .unset, .unset, .unset, .unset, .unset] [(.long s1), (.long (1 : Int64))])) _
          refine st33 _ ?_
          show Steps p.tables e below (T33.setTop (mkF m 47 #[.val (.long p0), .second, .val (.long p1), .second, .val (.long p2), .second, .val (.long sv), .second, .val (.int md), .unset, .unset, .unset, .unset, .unset, .unset] [(.long s1)])) _
          refine XS.lstore X33.here hx rfl (hb hby at_47) rfl (l' := #[.val (.long p0), .second, .val (.long p1), .second, .val (.long p2), .second, .val (.long sv), .second, .val (.int md), .val (.long s1), .second, .unset, .unset, .unset, .unset]) rfl ?_
          show Steps p.tables e below (T33.setTop (mkF m 49 #[.val (.long p0), .second, .val (.long p1), .second, .val (.long p2), .second, .val (.long sv), .second, .val (.int md), .val (.long s1), .second, .unset, .unset, .unset, .unset] [])) _
          refine XS.goto X33.here hx rfl (pc0 := 49) (pc' := 62) rfl (hb hby at_49) (by decide) (by decide) ?_
          show Steps p.tables e below (T33.setTop (mkF m 62 #[.val (.long p0), .second, .val (.long p1), .second, .val (.long p2), .second, .val (.long sv), .second, .val (.int md), .val (.long s1), .second, .unset, .unset, .unset, .unset] [])) _
          refine XS.lload X33.here hx rfl (hb hby at_62) rfl ?_
          show Steps p.tables e below (T33.setTop (mkF m 64 #[.val (.long p0), .second, .val (.long p1), .second, .val (.long p2), .second, .val (.long sv), .second, .val (.int md), .val (.long s1), .second, .unset, .unset, .unset, .unset] [(.long p2)])) _
          refine XS.iconst X33.here hx rfl (hb hby at_64) ?_
          show Steps p.tables e below (T33.setTop (mkF m 65 #[.val (.long p0), .second, .val (.long p1), .second, .val (.long p2), .second, .val (.long sv), .second, .val (.int md), .val (.long s1), .second, .unset, .unset, .unset, .unset] [(.int (2 : Int32)), (.long p2)])) _
          refine XS.lushr X33.here hx rfl (hb hby at_65) rfl ?_
          show Steps p.tables e below (T33.setTop (mkF m 66 #[.val (.long p0), .second, .val (.long p1), .second, .val (.long p2), .second, .val (.long sv), .second, .val (.int md), .val (.long s1), .second, .unset, .unset, .unset, .unset] [(.long ((p2.toUInt64 >>> ((2 : Int32) &&& 0x3f).toInt64.toUInt64).toInt64))])) _
          refine XS.lload X33.here hx rfl (hb hby at_66) rfl ?_
          show Steps p.tables e below (T33.setTop (mkF m 68 #[.val (.long p0), .second, .val (.long p1), .second, .val (.long p2), .second, .val (.long sv), .second, .val (.int md), .val (.long s1), .second, .unset, .unset, .unset, .unset] [(.long sv), (.long ((p2.toUInt64 >>> ((2 : Int32) &&& 0x3f).toInt64.toUInt64).toInt64))])) _
          refine XS.lrem X33.here hx rfl (hb hby at_68) rfl (own_nz hs.1) ?_
          show Steps p.tables e below (T33.setTop (mkF m 69 #[.val (.long p0), .second, .val (.long p1), .second, .val (.long p2), .second, .val (.long sv), .second, .val (.int md), .val (.long s1), .second, .unset, .unset, .unset, .unset] [(.long (((p2.toUInt64 >>> ((2 : Int32) &&& 0x3f).toInt64.toUInt64).toInt64) - (((p2.toUInt64 >>> ((2 : Int32) &&& 0x3f).toInt64.toUInt64).toInt64) / sv) * sv))])) _
          rw [lrem_mod]
          show Steps p.tables e below (T33.setTop (mkF m 69 #[.val (.long p0), .second, .val (.long p1), .second, .val (.long p2), .second, .val (.long sv), .second, .val (.int md), .val (.long s1), .second, .unset, .unset, .unset, .unset] [(.long (((p2.toUInt64 >>> ((2 : Int32) &&& 0x3f).toInt64.toUInt64).toInt64) % sv))])) _
          rw [h_mv]
          show Steps p.tables e below (T33.setTop (mkF m 69 #[.val (.long p0), .second, .val (.long p1), .second, .val (.long p2), .second, .val (.long sv), .second, .val (.int md), .val (.long s1), .second, .unset, .unset, .unset, .unset] [(.long mv)])) _
          refine XS.lstore X33.here hx rfl (hb hby at_69) rfl (l' := #[.val (.long p0), .second, .val (.long p1), .second, .val (.long p2), .second, .val (.long sv), .second, .val (.int md), .val (.long s1), .second, .val (.long mv), .second, .unset, .unset]) rfl ?_
          show Steps p.tables e below (T33.setTop (mkF m 71 #[.val (.long p0), .second, .val (.long p1), .second, .val (.long p2), .second, .val (.long sv), .second, .val (.int md), .val (.long s1), .second, .val (.long mv), .second, .unset, .unset] [])) _
          refine st34 _ ?_
          show Steps p.tables e below (T34.setTop (mkF m 74 #[.val (.long p0), .second, .val (.long p1), .second, .val (.long p2), .second, .val (.long sv), .second, .val (.int md), .val (.long s1), .second, .val (.long mv), .second, .unset, .unset] [(.ref b34)])) _
          refine XS.dup X34.here hx rfl (hb hby at_74) rfl rfl ?_
          show Steps p.tables e below (T34.setTop (mkF m 75 #[.val (.long p0), .second, .val (.long p1), .second, .val (.long p2), .second, .val (.long sv), .second, .val (.int md), .val (.long s1), .second, .val (.long mv), .second, .unset, .unset] [(.ref b34), (.ref b34)])) _
          refine XS.lload X34.here hx rfl (hb hby at_75) rfl ?_
          show Steps p.tables e below (T34.setTop (mkF m 77 #[.val (.long p0), .second, .val (.long p1), .second, .val (.long p2), .second, .val (.long sv), .second, .val (.int md), .val (.long s1), .second, .val (.long mv), .second, .unset, .unset] [(.long sv), (.ref b34), (.ref b34)])) _
          refine XS.lload X34.here hx rfl (hb hby at_77) rfl ?_
          show Steps p.tables e below (T34.setTop (mkF m 79 #[.val (.long p0), .second, .val (.long p1), .second, .val (.long p2), .second, .val (.long sv), .second, .val (.int md), .val (.long s1), .second, .val (.long mv), .second, .unset, .unset] [(.long s1), (.long sv), (.ref b34), (.ref b34)])) _
          refine XS.lload X34.here hx rfl (hb hby at_79) rfl ?_
          show Steps p.tables e below (T34.setTop (mkF m 81 #[.val (.long p0), .second, .val (.long p1), .second, .val (.long p2), .second, .val (.long sv), .second, .val (.int md), .val (.long s1), .second, .val (.long mv), .second, .unset, .unset] [(.long mv), (.long s1), (.long sv), (.ref b34), (.ref b34)])) _
          refine st35.trans ?_
          show Steps p.tables e below (T35.setTop (mkF m 84 #[.val (.long p0), .second, .val (.long p1), .second, .val (.long p2), .second, .val (.long sv), .second, .val (.int md), .val (.long s1), .second, .val (.long mv), .second, .unset, .unset] [(.ref b34)])) _
          refine XS.astore X35.here hx rfl (hb hby at_84) rfl rfl (l' := #[.val (.long p0), .second, .val (.long p1), .second, .val (.long p2), .second, .val (.long sv), .second, .val (.int md), .val (.long s1), .second, .val (.long mv), .second, .val (.ref b34), .unset]) rfl ?_
          show Steps p.tables e below (T35.setTop (mkF m 86 #[.val (.long p0), .second, .val (.long p1), .second, .val (.long p2), .second, .val (.long sv), .second, .val (.int md), .val (.long s1), .second, .val (.long mv), .second, .val (.ref b34), .unset] [])) _
          refine XS.lload X35.here hx rfl (hb hby at_86) rfl ?_
          show Steps p.tables e below (T35.setTop (mkF m 88 #[.val (.long p0), .second, .val (.long p1), .second, .val (.long p2), .second, .val (.long sv), .second, .val (.int md), .val (.long s1), .second, .val (.long mv), .second, .val (.ref b34), .unset] [(.long s1)])) _
          refine XS.lconst X35.here hx rfl (hb hby at_88) ?_
          show Steps p.tables e below (T35.setTop (mkF m 89 #[.val (.long p0), .second, .val (.long p1), .second, .val (.long p2), .second, .val (.long sv), .second, .val (.int md), .val (.long s1), .second, .val (.long mv), .second, .val (.ref b34), .unset] [(.long (0 : Int64)), (.long s1)])) _
          refine XS.lcmp X35.here hx rfl (hb hby at_89) rfl ?_
          exact kt
        by_cases hc90_36 : (lcmpW s1 (0 : Int64)) = (0 : Int32)
        · -- pc 90: (lcmpW s1 (0 : Int64)) = (0 : Int32)
          obtain ⟨cq38, kq38, q38a, q38b, q38c⟩ := isOf hZ e35 (q35_0)
          obtain ⟨_, _, ⟨T38, L38, k38, n38⟩, -, X38, ⟨Lc38, hQ38, l38, y38, z38⟩, st38⟩ := X35.virtualBack hx (y := (⟨"com/example/escrowd/escrowd/client/SecretPolicy", "keepsRotatedSecrets", "()Z"⟩ : MethodName)) (z := (⟨"com/example/escrowd/escrowd/client/SecretPolicy", "keepsRotatedSecrets", "()Z"⟩ : MethodName)) hown (mvT hZ (hw _ (List.mem_of_getElem? (i := 41) rfl))) (mvT hZ (hw _ (List.mem_of_getElem? (i := 42) rfl))) (notFace_of_selects (args := #[]) (mvT hZ (hw _ (List.mem_of_getElem? (i := 44) rfl)))) (mvT hZ (hw _ (List.mem_of_getElem? (i := 44) rfl))) (mvT hZ (hw _ (List.mem_of_getElem? (i := 43) rfl))) (by decide) (backOf (W := 0) (rm_keeps l Z a0 hw [] b34 T35.heap n0 (Nat.le_trans Z0 EX35.1) s1 q35_1 (0 : Int32) (if_neg (own_lc_le (by have := own_eq_lc hc90_36; omega)))) hZ (hw _ (List.mem_of_getElem? (i := 45) rfl)) (hw _ (List.mem_of_getElem? (i := 5) rfl)) (by decide) (by decide)) q38a q38c (g := (mkF m 102 #[.val (.long p0), .second, .val (.long p1), .second, .val (.long p2), .second, .val (.long sv), .second, .val (.int md), .val (.long s1), .second, .val (.long mv), .second, .val (.ref b34), .val (.int (0 : Int32))] [(.ref b34)])) rfl (by rw [hml]; rfl) (Steps.refl _) (argsL := []) (rest := []) (lenOf pd_46 rfl) rfl (by show 2 * 0 + _ ≤ _; exact Nat.le_of_eq rfl) (hb hby at_102) (fun _ _ => ⟨rfl, e35, (by decide : 1 + 0 ≤ _), (by decide : 4 + 0 ≤ _)⟩)
          dsimp only [Pt.U, Pt.locs, Pt.cells, Pt.slots] at X38 l38 y38 z38 st38 hQ38
          subst l38 y38 z38
          obtain ⟨rfl, N38q, e38⟩ := hQ38
          have N38 := Fr.app N35 N38q
          obtain ⟨fs, hr, hrun, hended, hW, hsame⟩ := X38.leave (v := some (.int (1 : Int32))) (fun h => by rw [Bd.returns] at h; cases h)
          refine ⟨_, _, ck37 _ ?_, hrun, hended, _, _, rfl, ?_, ⟨_, rfl⟩, hW, hsame.mono (by decide) (by decide)⟩
          · show Steps p.tables e below (T35.setTop (mkF m 90 #[.val (.long p0), .second, .val (.long p1), .second, .val (.long p2), .second, .val (.long sv), .second, .val (.int md), .val (.long s1), .second, .val (.long mv), .second, .val (.ref b34), .unset] [(.int (lcmpW s1 (0 : Int64)))])) _
            refine XS.ifYes X35.here hx rfl (pc0 := 90) (pc' := 97) rfl (hb hby at_90) rfl ((if0 _ _).trans (teq hc90_36).1) (by decide) (by decide) ?_
            show Steps p.tables e below (T35.setTop (mkF m 97 #[.val (.long p0), .second, .val (.long p1), .second, .val (.long p2), .second, .val (.long sv), .second, .val (.int md), .val (.long s1), .second, .val (.long mv), .second, .val (.ref b34), .unset] [])) _
            refine XS.iconst X35.here hx rfl (hb hby at_97) ?_
            show Steps p.tables e below (T35.setTop (mkF m 98 #[.val (.long p0), .second, .val (.long p1), .second, .val (.long p2), .second, .val (.long sv), .second, .val (.int md), .val (.long s1), .second, .val (.long mv), .second, .val (.ref b34), .unset] [(.int (0 : Int32))])) _
            refine XS.istore X35.here hx rfl (hb hby at_98) rfl (l' := #[.val (.long p0), .second, .val (.long p1), .second, .val (.long p2), .second, .val (.long sv), .second, .val (.int md), .val (.long s1), .second, .val (.long mv), .second, .val (.ref b34), .val (.int (0 : Int32))]) rfl ?_
            show Steps p.tables e below (T35.setTop (mkF m 100 #[.val (.long p0), .second, .val (.long p1), .second, .val (.long p2), .second, .val (.long sv), .second, .val (.int md), .val (.long s1), .second, .val (.long mv), .second, .val (.ref b34), .val (.int (0 : Int32))] [])) _
            refine XS.aload X35.here hx rfl (hb hby at_100) rfl rfl ?_
            show Steps p.tables e below (T35.setTop (mkF m 102 #[.val (.long p0), .second, .val (.long p1), .second, .val (.long p2), .second, .val (.long sv), .second, .val (.int md), .val (.long s1), .second, .val (.long mv), .second, .val (.ref b34), .val (.int (0 : Int32))] [(.ref b34)])) _
            refine st38.trans ?_
            show Steps p.tables e below (T38.setTop (mkF m 105 #[.val (.long p0), .second, .val (.long p1), .second, .val (.long p2), .second, .val (.long sv), .second, .val (.int md), .val (.long s1), .second, .val (.long mv), .second, .val (.ref b34), .val (.int (0 : Int32))] [(.int (0 : Int32))])) _
            refine XS.iload X38.here hx rfl (hb hby at_105) rfl ?_
            show Steps p.tables e below (T38.setTop (mkF m 107 #[.val (.long p0), .second, .val (.long p1), .second, .val (.long p2), .second, .val (.long sv), .second, .val (.int md), .val (.long s1), .second, .val (.long mv), .second, .val (.ref b34), .val (.int (0 : Int32))] [(.int (0 : Int32)), (.int (0 : Int32))])) _
            refine XS.icmpNo X38.here hx rfl (hb hby at_107) rfl (teq (by decide : (0 : Int32) = (0 : Int32))).2 ?_
            show Steps p.tables e below (T38.setTop (mkF m 110 #[.val (.long p0), .second, .val (.long p1), .second, .val (.long p2), .second, .val (.long sv), .second, .val (.int md), .val (.long s1), .second, .val (.long mv), .second, .val (.ref b34), .val (.int (0 : Int32))] [])) _
            refine XS.iconst X38.here hx rfl (hb hby at_110) ?_
            show Steps p.tables e below (T38.setTop (mkF m 111 #[.val (.long p0), .second, .val (.long p1), .second, .val (.long p2), .second, .val (.long sv), .second, .val (.int md), .val (.long s1), .second, .val (.long mv), .second, .val (.ref b34), .val (.int (0 : Int32))] [(.int (1 : Int32))])) _
            refine XS.goto X38.here hx rfl (pc0 := 111) (pc' := 115) rfl (hb hby at_111) (by decide) (by decide) ?_
            show Steps p.tables e below (T38.setTop (mkF m 115 #[.val (.long p0), .second, .val (.long p1), .second, .val (.long p2), .second, .val (.long sv), .second, .val (.int md), .val (.long s1), .second, .val (.long mv), .second, .val (.ref b34), .val (.int (0 : Int32))] [(.int (1 : Int32))])) _
            exact retN X38 hx (t := .boolean) Bd.returns (by simp) (hb hby at_115) hr
          · show own_Made (some (.int 1)) n0 _ T38.heap _
            rw [e38]
            exact ⟨rfl, N38, trivial⟩
        · -- pc 90: not (lcmpW s1 (0 : Int64)) = (0 : Int32)
          obtain ⟨cq39, kq39, q39a, q39b, q39c⟩ := isOf hZ e35 (q35_0)
          obtain ⟨_, _, ⟨T39, L39, k39, n39⟩, -, X39, ⟨Lc39, hQ39, l39, y39, z39⟩, st39⟩ := X35.virtualBack hx (y := (⟨"com/example/escrowd/escrowd/client/SecretPolicy", "keepsRotatedSecrets", "()Z"⟩ : MethodName)) (z := (⟨"com/example/escrowd/escrowd/client/SecretPolicy", "keepsRotatedSecrets", "()Z"⟩ : MethodName)) hown (mvT hZ (hw _ (List.mem_of_getElem? (i := 41) rfl))) (mvT hZ (hw _ (List.mem_of_getElem? (i := 42) rfl))) (notFace_of_selects (args := #[]) (mvT hZ (hw _ (List.mem_of_getElem? (i := 44) rfl)))) (mvT hZ (hw _ (List.mem_of_getElem? (i := 44) rfl))) (mvT hZ (hw _ (List.mem_of_getElem? (i := 43) rfl))) (by decide) (backOf (W := 0) (rm_keeps l Z a0 hw [] b34 T35.heap n0 (Nat.le_trans Z0 EX35.1) s1 q35_1 (1 : Int32) (if_pos (own_lc_gt (by have := own_ne_lc hc90_36; have := own_0; omega)))) hZ (hw _ (List.mem_of_getElem? (i := 45) rfl)) (hw _ (List.mem_of_getElem? (i := 5) rfl)) (by decide) (by decide)) q39a q39c (g := (mkF m 102 #[.val (.long p0), .second, .val (.long p1), .second, .val (.long p2), .second, .val (.long sv), .second, .val (.int md), .val (.long s1), .second, .val (.long mv), .second, .val (.ref b34), .val (.int (1 : Int32))] [(.ref b34)])) rfl (by rw [hml]; rfl) (Steps.refl _) (argsL := []) (rest := []) (lenOf pd_46 rfl) rfl (by show 2 * 0 + _ ≤ _; exact Nat.le_of_eq rfl) (hb hby at_102) (fun _ _ => ⟨rfl, e35, (by decide : 1 + 0 ≤ _), (by decide : 4 + 0 ≤ _)⟩)
          dsimp only [Pt.U, Pt.locs, Pt.cells, Pt.slots] at X39 l39 y39 z39 st39 hQ39
          subst l39 y39 z39
          obtain ⟨rfl, N39q, e39⟩ := hQ39
          have N39 := Fr.app N35 N39q
          obtain ⟨fs, hr, hrun, hended, hW, hsame⟩ := X39.leave (v := some (.int (1 : Int32))) (fun h => by rw [Bd.returns] at h; cases h)
          refine ⟨_, _, ck37 _ ?_, hrun, hended, _, _, rfl, ?_, ⟨_, rfl⟩, hW, hsame.mono (by decide) (by decide)⟩
          · show Steps p.tables e below (T35.setTop (mkF m 90 #[.val (.long p0), .second, .val (.long p1), .second, .val (.long p2), .second, .val (.long sv), .second, .val (.int md), .val (.long s1), .second, .val (.long mv), .second, .val (.ref b34), .unset] [(.int (lcmpW s1 (0 : Int64)))])) _
            refine XS.ifNo X35.here hx rfl (hb hby at_90) rfl ((if0 _ _).trans (feq hc90_36).1) ?_
            show Steps p.tables e below (T35.setTop (mkF m 93 #[.val (.long p0), .second, .val (.long p1), .second, .val (.long p2), .second, .val (.long sv), .second, .val (.int md), .val (.long s1), .second, .val (.long mv), .second, .val (.ref b34), .unset] [])) _
            refine XS.iconst X35.here hx rfl (hb hby at_93) ?_
            show Steps p.tables e below (T35.setTop (mkF m 94 #[.val (.long p0), .second, .val (.long p1), .second, .val (.long p2), .second, .val (.long sv), .second, .val (.int md), .val (.long s1), .second, .val (.long mv), .second, .val (.ref b34), .unset] [(.int (1 : Int32))])) _
            refine XS.goto X35.here hx rfl (pc0 := 94) (pc' := 98) rfl (hb hby at_94) (by decide) (by decide) ?_
            show Steps p.tables e below (T35.setTop (mkF m 98 #[.val (.long p0), .second, .val (.long p1), .second, .val (.long p2), .second, .val (.long sv), .second, .val (.int md), .val (.long s1), .second, .val (.long mv), .second, .val (.ref b34), .unset] [(.int (1 : Int32))])) _
            refine XS.istore X35.here hx rfl (hb hby at_98) rfl (l' := #[.val (.long p0), .second, .val (.long p1), .second, .val (.long p2), .second, .val (.long sv), .second, .val (.int md), .val (.long s1), .second, .val (.long mv), .second, .val (.ref b34), .val (.int (1 : Int32))]) rfl ?_
            show Steps p.tables e below (T35.setTop (mkF m 100 #[.val (.long p0), .second, .val (.long p1), .second, .val (.long p2), .second, .val (.long sv), .second, .val (.int md), .val (.long s1), .second, .val (.long mv), .second, .val (.ref b34), .val (.int (1 : Int32))] [])) _
            refine XS.aload X35.here hx rfl (hb hby at_100) rfl rfl ?_
            show Steps p.tables e below (T35.setTop (mkF m 102 #[.val (.long p0), .second, .val (.long p1), .second, .val (.long p2), .second, .val (.long sv), .second, .val (.int md), .val (.long s1), .second, .val (.long mv), .second, .val (.ref b34), .val (.int (1 : Int32))] [(.ref b34)])) _
            refine st39.trans ?_
            show Steps p.tables e below (T39.setTop (mkF m 105 #[.val (.long p0), .second, .val (.long p1), .second, .val (.long p2), .second, .val (.long sv), .second, .val (.int md), .val (.long s1), .second, .val (.long mv), .second, .val (.ref b34), .val (.int (1 : Int32))] [(.int (1 : Int32))])) _
            refine XS.iload X39.here hx rfl (hb hby at_105) rfl ?_
            show Steps p.tables e below (T39.setTop (mkF m 107 #[.val (.long p0), .second, .val (.long p1), .second, .val (.long p2), .second, .val (.long sv), .second, .val (.int md), .val (.long s1), .second, .val (.long mv), .second, .val (.ref b34), .val (.int (1 : Int32))] [(.int (1 : Int32)), (.int (1 : Int32))])) _
            refine XS.icmpNo X39.here hx rfl (hb hby at_107) rfl (teq (by decide : (1 : Int32) = (1 : Int32))).2 ?_
            show Steps p.tables e below (T39.setTop (mkF m 110 #[.val (.long p0), .second, .val (.long p1), .second, .val (.long p2), .second, .val (.long sv), .second, .val (.int md), .val (.long s1), .second, .val (.long mv), .second, .val (.ref b34), .val (.int (1 : Int32))] [])) _
            refine XS.iconst X39.here hx rfl (hb hby at_110) ?_
            show Steps p.tables e below (T39.setTop (mkF m 111 #[.val (.long p0), .second, .val (.long p1), .second, .val (.long p2), .second, .val (.long sv), .second, .val (.int md), .val (.long s1), .second, .val (.long mv), .second, .val (.ref b34), .val (.int (1 : Int32))] [(.int (1 : Int32))])) _
            refine XS.goto X39.here hx rfl (pc0 := 111) (pc' := 115) rfl (hb hby at_111) (by decide) (by decide) ?_
            show Steps p.tables e below (T39.setTop (mkF m 115 #[.val (.long p0), .second, .val (.long p1), .second, .val (.long p2), .second, .val (.long sv), .second, .val (.int md), .val (.long s1), .second, .val (.long mv), .second, .val (.ref b34), .val (.int (1 : Int32))] [(.int (1 : Int32))])) _
            exact retN X39 hx (t := .boolean) Bd.returns (by simp) (hb hby at_115) hr
          · show own_Made (some (.int 1)) n0 _ T39.heap _
            rw [e39]
            exact ⟨rfl, N39, trivial⟩
      · skip
        have hmn_ := own_le_lc hmn
        have hr1 : 0 ≤ ((1 : Int64)).toInt ∧ ((1 : Int64)).toInt < sv.toInt := by have := own_1; omega
        obtain ⟨_, _, ⟨T40, L40, k40, n40⟩, -, X40, ⟨Lc40, hQ40, l40, y40, z40⟩, st40⟩ := Jvm.LawKit.callS X0 hx (y := (⟨"java/lang/Math", "min", "(JJ)J"⟩ : MethodName)) hown (mvT hZ (hw _ (List.mem_of_getElem? (i := 46) rfl))) (mvT hZ (hw _ (List.mem_of_getElem? (i := 47) rfl))) (mvT hZ (hw _ (List.mem_of_getElem? (i := 48) rfl))) (mvT hZ (hw _ (List.mem_of_getElem? (i := 49) rfl))) (by decide) (backOf (W := 0) (rm_min l Z a0 hw [] (1 : Int64) s1 h0 n0 Z0 (1 : Int64) (if_neg hmn)) hZ (hw _ (List.mem_of_getElem? (i := 49) rfl)) (hw _ (List.mem_of_getElem? (i := 48) rfl)) (by decide) (by decide)) (g := (mkF m 44 #[.val (.long p0), .second, .val (.long p1), .second, .val (.long p2), .second, .val (.long sv), .second, .val (.int md), .unset, .unset, .unset, .unset, .unset, .unset] [(.long s1), (.long (1 : Int64))])) rfl (by rw [hml]; rfl) (argsL := [(.long (1 : Int64)), (.long s1)]) (rest := []) (lenOf pd_82 rfl) rfl (by show 2 * 0 + _ ≤ _; exact Nat.le_of_eq rfl) (hb hby at_44) (fun _ _ => ⟨rfl, e0, (by decide : 0 + 0 ≤ _), (by decide : 0 + 0 ≤ _)⟩)
        dsimp only [Pt.U, Pt.locs, Pt.cells, Pt.slots] at X40 l40 y40 z40 st40 hQ40
        subst l40 y40 z40
        obtain ⟨rfl, N40q, e40⟩ := hQ40
        have N40 := Fr.app N0 N40q
        obtain ⟨mv, h_mv⟩ : ∃ z : Int64, (((p2.toUInt64 >>> ((2 : Int32) &&& 0x3f).toInt64.toUInt64).toInt64) % sv) = z := ⟨_, rfl⟩
        have hm1 : 0 ≤ mv.toInt ∧ mv.toInt < sv.toInt := by rw [← h_mv]; exact own_lrem (own_ush p2) (by omega)
        obtain ⟨T41, h41, X41, e41, E41, A41, D41, -, st41⟩ := newO X40 hx hZ hown (hw _ (List.mem_of_getElem? (i := 3) rfl)) (hw _ (List.mem_of_getElem? (i := 4) rfl)) (hw _ (List.mem_of_getElem? (i := 5) rfl)) e40 (g := (mkF m 71 #[.val (.long p0), .second, .val (.long p1), .second, .val (.long p2), .second, .val (.long sv), .second, .val (.int md), .val (.long (1 : Int64)), .second, .val (.long mv), .second, .unset, .unset] [])) rfl (hb hby at_71) (by decide) (by decide)
        obtain ⟨b41, g41⟩ : ∃ z, z = h0.size := ⟨_, rfl⟩
        rw [← g41] at A41 D41 st41
        have sz_b41 : h0.size ≤ b41 := Nat.le_trans (Keep.refl h0 []).1 (Nat.le_of_eq g41.symm)
        have gn_b41 : n0 ≤ b41 := Nat.le_trans Z0 sz_b41
        have EX41 := own_ext_trans (own_ext_refl h0) E41
        have KP41 := Keep.ext (Keep.refl h0 []) E41
        have F41_secretExpiration : Fld Z h41 b41 "com/example/escrowd/escrowd/client/SecretPolicy" "secretExpiration" "J" (.long (0 : Int64)) := D41 (Or.inr (hw _ (List.mem_of_getElem? (i := 34) rfl))) (ty := .long) (by decide)
        have F41_rotatedSecretExpiration : Fld Z h41 b41 "com/example/escrowd/escrowd/client/SecretPolicy" "rotatedSecretExpiration" "J" (.long (0 : Int64)) := D41 (Or.inr (hw _ (List.mem_of_getElem? (i := 36) rfl))) (ty := .long) (by decide)
        have F41_remainingExpirationForRotation : Fld Z h41 b41 "com/example/escrowd/escrowd/client/SecretPolicy" "remainingExpirationForRotation" "J" (.long (0 : Int64)) := D41 (Or.inr (hw _ (List.mem_of_getElem? (i := 38) rfl))) (ty := .long) (by decide)
        have F41_notifyBeforeExpiration : Fld Z h41 b41 "com/example/escrowd/escrowd/client/SecretPolicy" "notifyBeforeExpiration" "Ljava/util/OptionalLong;" .null := D41 (Or.inr (hw _ (List.mem_of_getElem? (i := 40) rfl))) (ty := (.object "java/util/OptionalLong")) (by decide)
        obtain ⟨_, _, ⟨T42, L42, k42, n42⟩, -, X42, ⟨Lc42, hQ42, l42, y42, z42⟩, st42⟩ := X41.specialBack hx (y := (⟨"com/example/escrowd/escrowd/client/SecretPolicy", "<init>", "(JJJ)V"⟩ : MethodName)) rfl hown (mvT hZ (hw _ (List.mem_of_getElem? (i := 6) rfl))) (mvT hZ (hw _ (List.mem_of_getElem? (i := 7) rfl))) (mvT hZ (hw _ (List.mem_of_getElem? (i := 8) rfl))) (by decide) (backOf (W := 1) (rm_init3 l Z a0 hw [] b41 sv (1 : Int64) mv h41 n0 (Nat.le_trans Z0 EX41.1) w (S_E.ext EX41) (E_E.ext EX41) (F_E.ext EX41) A41 F41_secretExpiration F41_rotatedSecretExpiration F41_remainingExpirationForRotation F41_notifyBeforeExpiration gn_b41 (own_lc_ge (by have := own_1; omega)) (own_lc_le (by have := own_M; omega)) (own_lc_ge (by have := own_0; omega)) (own_lc_lt hr1.2) (own_lc_ge (by have := own_0; omega)) (own_lc_lt hm1.2)) hZ (hw _ (List.mem_of_getElem? (i := 8) rfl)) (hw _ (List.mem_of_getElem? (i := 5) rfl)) (by decide) (by decide)) (g := (mkF m 81 #[.val (.long p0), .second, .val (.long p1), .second, .val (.long p2), .second, .val (.long sv), .second, .val (.int md), .val (.long (1 : Int64)), .second, .val (.long mv), .second, .unset, .unset] [(.long mv), (.long (1 : Int64)), (.long sv), (.ref b41), (.ref b41)])) rfl (by rw [hml]; rfl) (Steps.refl _) (a := b41) (argsL := [(.long sv), (.long (1 : Int64)), (.long mv)]) (rest := [(.ref b41)]) (lenOf pd_81 rfl) rfl (by show 2 * 0 + _ ≤ _; exact Nat.le_of_eq rfl) (hb hby at_81) (fun _ _ => ⟨rfl, e41, (by decide : 1 + 0 ≤ _), (by decide : 4 + 0 ≤ _)⟩)
        dsimp only [Pt.U, Pt.locs, Pt.cells, Pt.slots] at X42 l42 y42 z42 st42 hQ42
        subst l42 y42 z42
        obtain ⟨rfl, N42q, K42, q42_0, q42_1⟩ := hQ42
        have N42 := Fr.app N40 N42q
        have e42 : T42.heap = T42.heap := rfl
        have EX42 := own_ext_keep EX41 K42 (allS sz_b41 all0)
        have KP42 := Keep.trans KP41 K42 (allS (Or.inr sz_b41) all0)
        have ck44 : ∀ t, Steps p.tables e below (T42.setTop (mkF m 90 #[.val (.long p0), .second, .val (.long p1), .second, .val (.long p2), .second, .val (.long sv), .second, .val (.int md), .val (.long (1 : Int64)), .second, .val (.long mv), .second, .val (.ref b41), .unset] [(.int (lcmpW (1 : Int64) (0 : Int64)))])) t → Steps p.tables e below (s₁.setTop (entryFrame m #[(.long p0), (.long p1), (.long p2)] maxLocals)) t := by
          intro t kt
          refine ck32 _ ?_
          show Steps p.tables e below (s₁.setTop (mkF m 44 #[.val (.long p0), .second, .val (.long p1), .second, .val (.long p2), .second, .val (.long sv), .second, .val (.int md), .unset, .unset, .unset, .unset, .unset, .unset] [(.long s1), (.long (1 : Int64))])) _
          refine st40 _ ?_
          show Steps p.tables e below (T40.setTop (mkF m 47 #[.val (.long p0), .second, .val (.long p1), .second, .val (.long p2), .second, .val (.long sv), .second, .val (.int md), .unset, .unset, .unset, .unset, .unset, .unset] [(.long (1 : Int64))])) _
          refine XS.lstore X40.here hx rfl (hb hby at_47) rfl (l' := #[.val (.long p0), .second, .val (.long p1), .second, .val (.long p2), .second, .val (.long sv), .second, .val (.int md), .val (.long (1 : Int64)), .second, .unset, .unset, .unset, .unset]) rfl ?_
          show Steps p.tables e below (T40.setTop (mkF m 49 #[.val (.long p0), .second, .val (.long p1), .second, .val (.long p2), .second, .val (.long sv), .second, .val (.int md), .val (.long (1 : Int64)), .second, .unset, .unset, .unset, .unset] [])) _
          refine XS.goto X40.here hx rfl (pc0 := 49) (pc' := 62) rfl (hb hby at_49) (by decide) (by decide) ?_
          show Steps p.tables e below (T40.setTop (mkF m 62 #[.val (.long p0), .second, .val (.long p1), .second, .val (.long p2), .second, .val (.long sv), .second, .val (.int md), .val (.long (1 : Int64)), .second, .unset, .unset, .unset, .unset] [])) _
          refine XS.lload X40.here hx rfl (hb hby at_62) rfl ?_
          show Steps p.tables e below (T40.setTop (mkF m 64 #[.val (.long p0), .second, .val (.long p1), .second, .val (.long p2), .second, .val (.long sv), .second, .val (.int md), .val (.long (1 : Int64)), .second, .unset, .unset, .unset, .unset] [(.long p2)])) _
          refine XS.iconst X40.here hx rfl (hb hby at_64) ?_
          show Steps p.tables e below (T40.setTop (mkF m 65 #[.val (.long p0), .second, .val (.long p1), .second, .val (.long p2), .second, .val (.long sv), .second, .val (.int md), .val (.long (1 : Int64)), .second, .unset, .unset, .unset, .unset] [(.int (2 : Int32)), (.long p2)])) _
          refine XS.lushr X40.here hx rfl (hb hby at_65) rfl ?_
          show Steps p.tables e below (T40.setTop (mkF m 66 #[.val (.long p0), .second, .val (.long p1), .second, .val (.long p2), .second, .val (.long sv), .second, .val (.int md), .val (.long (1 : Int64)), .second, .unset, .unset, .unset, .unset] [(.long ((p2.toUInt64 >>> ((2 : Int32) &&& 0x3f).toInt64.toUInt64).toInt64))])) _
          refine XS.lload X40.here hx rfl (hb hby at_66) rfl ?_
          show Steps p.tables e below (T40.setTop (mkF m 68 #[.val (.long p0), .second, .val (.long p1), .second, .val (.long p2), .second, .val (.long sv), .second, .val (.int md), .val (.long (1 : Int64)), .second, .unset, .unset, .unset, .unset] [(.long sv), (.long ((p2.toUInt64 >>> ((2 : Int32) &&& 0x3f).toInt64.toUInt64).toInt64))])) _
          refine XS.lrem X40.here hx rfl (hb hby at_68) rfl (own_nz hs.1) ?_
          show Steps p.tables e below (T40.setTop (mkF m 69 #[.val (.long p0), .second, .val (.long p1), .second, .val (.long p2), .second, .val (.long sv), .second, .val (.int md), .val (.long (1 : Int64)), .second, .unset, .unset, .unset, .unset] [(.long (((p2.toUInt64 >>> ((2 : Int32) &&& 0x3f).toInt64.toUInt64).toInt64) - (((p2.toUInt64 >>> ((2 : Int32) &&& 0x3f).toInt64.toUInt64).toInt64) / sv) * sv))])) _
          rw [lrem_mod]
          show Steps p.tables e below (T40.setTop (mkF m 69 #[.val (.long p0), .second, .val (.long p1), .second, .val (.long p2), .second, .val (.long sv), .second, .val (.int md), .val (.long (1 : Int64)), .second, .unset, .unset, .unset, .unset] [(.long (((p2.toUInt64 >>> ((2 : Int32) &&& 0x3f).toInt64.toUInt64).toInt64) % sv))])) _
          rw [h_mv]
          show Steps p.tables e below (T40.setTop (mkF m 69 #[.val (.long p0), .second, .val (.long p1), .second, .val (.long p2), .second, .val (.long sv), .second, .val (.int md), .val (.long (1 : Int64)), .second, .unset, .unset, .unset, .unset] [(.long mv)])) _
          refine XS.lstore X40.here hx rfl (hb hby at_69) rfl (l' := #[.val (.long p0), .second, .val (.long p1), .second, .val (.long p2), .second, .val (.long sv), .second, .val (.int md), .val (.long (1 : Int64)), .second, .val (.long mv), .second, .unset, .unset]) rfl ?_
          show Steps p.tables e below (T40.setTop (mkF m 71 #[.val (.long p0), .second, .val (.long p1), .second, .val (.long p2), .second, .val (.long sv), .second, .val (.int md), .val (.long (1 : Int64)), .second, .val (.long mv), .second, .unset, .unset] [])) _
          refine st41 _ ?_
          show Steps p.tables e below (T41.setTop (mkF m 74 #[.val (.long p0), .second, .val (.long p1), .second, .val (.long p2), .second, .val (.long sv), .second, .val (.int md), .val (.long (1 : Int64)), .second, .val (.long mv), .second, .unset, .unset] [(.ref b41)])) _
          refine XS.dup X41.here hx rfl (hb hby at_74) rfl rfl ?_
          show Steps p.tables e below (T41.setTop (mkF m 75 #[.val (.long p0), .second, .val (.long p1), .second, .val (.long p2), .second, .val (.long sv), .second, .val (.int md), .val (.long (1 : Int64)), .second, .val (.long mv), .second, .unset, .unset] [(.ref b41), (.ref b41)])) _
          refine XS.lload X41.here hx rfl (hb hby at_75) rfl ?_
          show Steps p.tables e below (T41.setTop (mkF m 77 #[.val (.long p0), .second, .val (.long p1), .second, .val (.long p2), .second, .val (.long sv), .second, .val (.int md), .val (.long (1 : Int64)), .second, .val (.long mv), .second, .unset, .unset] [(.long sv), (.ref b41), (.ref b41)])) _
          refine XS.lload X41.here hx rfl (hb hby at_77) rfl ?_
          show Steps p.tables e below (T41.setTop (mkF m 79 #[.val (.long p0), .second, .val (.long p1), .second, .val (.long p2), .second, .val (.long sv), .second, .val (.int md), .val (.long (1 : Int64)), .second, .val (.long mv), .second, .unset, .unset] [(.long (1 : Int64)), (.long sv), (.ref b41), (.ref b41)])) _
          refine XS.lload X41.here hx rfl (hb hby at_79) rfl ?_
          show Steps p.tables e below (T41.setTop (mkF m 81 #[.val (.long p0), .second, .val (.long p1), .second, .val (.long p2), .second, .val (.long sv), .second, .val (.int md), .val (.long (1 : Int64)), .second, .val (.long mv), .second, .unset, .unset] [(.long mv), (.long (1 : Int64)), (.long sv), (.ref b41), (.ref b41)])) _
          refine st42.trans ?_
          show Steps p.tables e below (T42.setTop (mkF m 84 #[.val (.long p0), .second, .val (.long p1), .second, .val (.long p2), .second, .val (.long sv), .second, .val (.int md), .val (.long (1 : Int64)), .second, .val (.long mv), .second, .unset, .unset] [(.ref b41)])) _
          refine XS.astore X42.here hx rfl (hb hby at_84) rfl rfl (l' := #[.val (.long p0), .second, .val (.long p1), .second, .val (.long p2), .second, .val (.long sv), .second, .val (.int md), .val (.long (1 : Int64)), .second, .val (.long mv), .second, .val (.ref b41), .unset]) rfl ?_
          show Steps p.tables e below (T42.setTop (mkF m 86 #[.val (.long p0), .second, .val (.long p1), .second, .val (.long p2), .second, .val (.long sv), .second, .val (.int md), .val (.long (1 : Int64)), .second, .val (.long mv), .second, .val (.ref b41), .unset] [])) _
          refine XS.lload X42.here hx rfl (hb hby at_86) rfl ?_
          show Steps p.tables e below (T42.setTop (mkF m 88 #[.val (.long p0), .second, .val (.long p1), .second, .val (.long p2), .second, .val (.long sv), .second, .val (.int md), .val (.long (1 : Int64)), .second, .val (.long mv), .second, .val (.ref b41), .unset] [(.long (1 : Int64))])) _
          refine XS.lconst X42.here hx rfl (hb hby at_88) ?_
          show Steps p.tables e below (T42.setTop (mkF m 89 #[.val (.long p0), .second, .val (.long p1), .second, .val (.long p2), .second, .val (.long sv), .second, .val (.int md), .val (.long (1 : Int64)), .second, .val (.long mv), .second, .val (.ref b41), .unset] [(.long (0 : Int64)), (.long (1 : Int64))])) _
          refine XS.lcmp X42.here hx rfl (hb hby at_89) rfl ?_
          exact kt
        by_cases hc90_43 : (lcmpW (1 : Int64) (0 : Int64)) = (0 : Int32)
        · -- pc 90: (lcmpW (1 : Int64) (0 : Int64)) = (0 : Int32)
          exact absurd (own_eq_lc hc90_43) (by decide)
        · -- pc 90: not (lcmpW (1 : Int64) (0 : Int64)) = (0 : Int32)
          obtain ⟨cq45, kq45, q45a, q45b, q45c⟩ := isOf hZ e42 (q42_0)
          obtain ⟨_, _, ⟨T45, L45, k45, n45⟩, -, X45, ⟨Lc45, hQ45, l45, y45, z45⟩, st45⟩ := X42.virtualBack hx (y := (⟨"com/example/escrowd/escrowd/client/SecretPolicy", "keepsRotatedSecrets", "()Z"⟩ : MethodName)) (z := (⟨"com/example/escrowd/escrowd/client/SecretPolicy", "keepsRotatedSecrets", "()Z"⟩ : MethodName)) hown (mvT hZ (hw _ (List.mem_of_getElem? (i := 41) rfl))) (mvT hZ (hw _ (List.mem_of_getElem? (i := 42) rfl))) (notFace_of_selects (args := #[]) (mvT hZ (hw _ (List.mem_of_getElem? (i := 44) rfl)))) (mvT hZ (hw _ (List.mem_of_getElem? (i := 44) rfl))) (mvT hZ (hw _ (List.mem_of_getElem? (i := 43) rfl))) (by decide) (backOf (W := 0) (rm_keeps l Z a0 hw [] b41 T42.heap n0 (Nat.le_trans Z0 EX42.1) (1 : Int64) q42_1 (1 : Int32) (if_pos (own_lc_gt (by have := own_ne_lc hc90_43; have := own_0; omega)))) hZ (hw _ (List.mem_of_getElem? (i := 45) rfl)) (hw _ (List.mem_of_getElem? (i := 5) rfl)) (by decide) (by decide)) q45a q45c (g := (mkF m 102 #[.val (.long p0), .second, .val (.long p1), .second, .val (.long p2), .second, .val (.long sv), .second, .val (.int md), .val (.long (1 : Int64)), .second, .val (.long mv), .second, .val (.ref b41), .val (.int (1 : Int32))] [(.ref b41)])) rfl (by rw [hml]; rfl) (Steps.refl _) (argsL := []) (rest := []) (lenOf pd_46 rfl) rfl (by show 2 * 0 + _ ≤ _; exact Nat.le_of_eq rfl) (hb hby at_102) (fun _ _ => ⟨rfl, e42, (by decide : 1 + 0 ≤ _), (by decide : 4 + 0 ≤ _)⟩)
          dsimp only [Pt.U, Pt.locs, Pt.cells, Pt.slots] at X45 l45 y45 z45 st45 hQ45
          subst l45 y45 z45
          obtain ⟨rfl, N45q, e45⟩ := hQ45
          have N45 := Fr.app N42 N45q
          obtain ⟨fs, hr, hrun, hended, hW, hsame⟩ := X45.leave (v := some (.int (1 : Int32))) (fun h => by rw [Bd.returns] at h; cases h)
          refine ⟨_, _, ck44 _ ?_, hrun, hended, _, _, rfl, ?_, ⟨_, rfl⟩, hW, hsame.mono (by decide) (by decide)⟩
          · show Steps p.tables e below (T42.setTop (mkF m 90 #[.val (.long p0), .second, .val (.long p1), .second, .val (.long p2), .second, .val (.long sv), .second, .val (.int md), .val (.long (1 : Int64)), .second, .val (.long mv), .second, .val (.ref b41), .unset] [(.int (lcmpW (1 : Int64) (0 : Int64)))])) _
            refine XS.ifNo X42.here hx rfl (hb hby at_90) rfl ((if0 _ _).trans (feq hc90_43).1) ?_
            show Steps p.tables e below (T42.setTop (mkF m 93 #[.val (.long p0), .second, .val (.long p1), .second, .val (.long p2), .second, .val (.long sv), .second, .val (.int md), .val (.long (1 : Int64)), .second, .val (.long mv), .second, .val (.ref b41), .unset] [])) _
            refine XS.iconst X42.here hx rfl (hb hby at_93) ?_
            show Steps p.tables e below (T42.setTop (mkF m 94 #[.val (.long p0), .second, .val (.long p1), .second, .val (.long p2), .second, .val (.long sv), .second, .val (.int md), .val (.long (1 : Int64)), .second, .val (.long mv), .second, .val (.ref b41), .unset] [(.int (1 : Int32))])) _
            refine XS.goto X42.here hx rfl (pc0 := 94) (pc' := 98) rfl (hb hby at_94) (by decide) (by decide) ?_
            show Steps p.tables e below (T42.setTop (mkF m 98 #[.val (.long p0), .second, .val (.long p1), .second, .val (.long p2), .second, .val (.long sv), .second, .val (.int md), .val (.long (1 : Int64)), .second, .val (.long mv), .second, .val (.ref b41), .unset] [(.int (1 : Int32))])) _
            refine XS.istore X42.here hx rfl (hb hby at_98) rfl (l' := #[.val (.long p0), .second, .val (.long p1), .second, .val (.long p2), .second, .val (.long sv), .second, .val (.int md), .val (.long (1 : Int64)), .second, .val (.long mv), .second, .val (.ref b41), .val (.int (1 : Int32))]) rfl ?_
            show Steps p.tables e below (T42.setTop (mkF m 100 #[.val (.long p0), .second, .val (.long p1), .second, .val (.long p2), .second, .val (.long sv), .second, .val (.int md), .val (.long (1 : Int64)), .second, .val (.long mv), .second, .val (.ref b41), .val (.int (1 : Int32))] [])) _
            refine XS.aload X42.here hx rfl (hb hby at_100) rfl rfl ?_
            show Steps p.tables e below (T42.setTop (mkF m 102 #[.val (.long p0), .second, .val (.long p1), .second, .val (.long p2), .second, .val (.long sv), .second, .val (.int md), .val (.long (1 : Int64)), .second, .val (.long mv), .second, .val (.ref b41), .val (.int (1 : Int32))] [(.ref b41)])) _
            refine st45.trans ?_
            show Steps p.tables e below (T45.setTop (mkF m 105 #[.val (.long p0), .second, .val (.long p1), .second, .val (.long p2), .second, .val (.long sv), .second, .val (.int md), .val (.long (1 : Int64)), .second, .val (.long mv), .second, .val (.ref b41), .val (.int (1 : Int32))] [(.int (1 : Int32))])) _
            refine XS.iload X45.here hx rfl (hb hby at_105) rfl ?_
            show Steps p.tables e below (T45.setTop (mkF m 107 #[.val (.long p0), .second, .val (.long p1), .second, .val (.long p2), .second, .val (.long sv), .second, .val (.int md), .val (.long (1 : Int64)), .second, .val (.long mv), .second, .val (.ref b41), .val (.int (1 : Int32))] [(.int (1 : Int32)), (.int (1 : Int32))])) _
            refine XS.icmpNo X45.here hx rfl (hb hby at_107) rfl (teq (by decide : (1 : Int32) = (1 : Int32))).2 ?_
            show Steps p.tables e below (T45.setTop (mkF m 110 #[.val (.long p0), .second, .val (.long p1), .second, .val (.long p2), .second, .val (.long sv), .second, .val (.int md), .val (.long (1 : Int64)), .second, .val (.long mv), .second, .val (.ref b41), .val (.int (1 : Int32))] [])) _
            refine XS.iconst X45.here hx rfl (hb hby at_110) ?_
            show Steps p.tables e below (T45.setTop (mkF m 111 #[.val (.long p0), .second, .val (.long p1), .second, .val (.long p2), .second, .val (.long sv), .second, .val (.int md), .val (.long (1 : Int64)), .second, .val (.long mv), .second, .val (.ref b41), .val (.int (1 : Int32))] [(.int (1 : Int32))])) _
            refine XS.goto X45.here hx rfl (pc0 := 111) (pc' := 115) rfl (hb hby at_111) (by decide) (by decide) ?_
            show Steps p.tables e below (T45.setTop (mkF m 115 #[.val (.long p0), .second, .val (.long p1), .second, .val (.long p2), .second, .val (.long sv), .second, .val (.int md), .val (.long (1 : Int64)), .second, .val (.long mv), .second, .val (.ref b41), .val (.int (1 : Int32))] [(.int (1 : Int32))])) _
            exact retN X45 hx (t := .boolean) Bd.returns (by simp) (hb hby at_115) hr
          · show own_Made (some (.int 1)) n0 _ T45.heap _
            rw [e45]
            exact ⟨rfl, N45, trivial⟩
    · -- pc 36: not md = (1 : Int32)
      obtain ⟨rv, h_rv⟩ : ∃ z : Int64, ((p1 &&& (9223372036854775807 : Int64)) % sv) = z := ⟨_, rfl⟩
      have hr1 : 0 ≤ rv.toInt ∧ rv.toInt < sv.toInt := by rw [← h_rv]; exact own_lrem (own_msk p1) (by omega)
      obtain ⟨mv, h_mv⟩ : ∃ z : Int64, (((p2.toUInt64 >>> ((2 : Int32) &&& 0x3f).toInt64.toUInt64).toInt64) % sv) = z := ⟨_, rfl⟩
      have hm1 : 0 ≤ mv.toInt ∧ mv.toInt < sv.toInt := by rw [← h_mv]; exact own_lrem (own_ush p2) (by omega)
      obtain ⟨T46, h46, X46, e46, E46, A46, D46, -, st46⟩ := newO X0 hx hZ hown (hw _ (List.mem_of_getElem? (i := 3) rfl)) (hw _ (List.mem_of_getElem? (i := 4) rfl)) (hw _ (List.mem_of_getElem? (i := 5) rfl)) e0 (g := (mkF m 71 #[.val (.long p0), .second, .val (.long p1), .second, .val (.long p2), .second, .val (.long sv), .second, .val (.int md), .val (.long rv), .second, .val (.long mv), .second, .unset, .unset] [])) rfl (hb hby at_71) (by decide) (by decide)
      obtain ⟨b46, g46⟩ : ∃ z, z = h0.size := ⟨_, rfl⟩
      rw [← g46] at A46 D46 st46
      have sz_b46 : h0.size ≤ b46 := Nat.le_trans (Keep.refl h0 []).1 (Nat.le_of_eq g46.symm)
      have gn_b46 : n0 ≤ b46 := Nat.le_trans Z0 sz_b46
      have EX46 := own_ext_trans (own_ext_refl h0) E46
      have KP46 := Keep.ext (Keep.refl h0 []) E46
      have F46_secretExpiration : Fld Z h46 b46 "com/example/escrowd/escrowd/client/SecretPolicy" "secretExpiration" "J" (.long (0 : Int64)) := D46 (Or.inr (hw _ (List.mem_of_getElem? (i := 34) rfl))) (ty := .long) (by decide)
      have F46_rotatedSecretExpiration : Fld Z h46 b46 "com/example/escrowd/escrowd/client/SecretPolicy" "rotatedSecretExpiration" "J" (.long (0 : Int64)) := D46 (Or.inr (hw _ (List.mem_of_getElem? (i := 36) rfl))) (ty := .long) (by decide)
      have F46_remainingExpirationForRotation : Fld Z h46 b46 "com/example/escrowd/escrowd/client/SecretPolicy" "remainingExpirationForRotation" "J" (.long (0 : Int64)) := D46 (Or.inr (hw _ (List.mem_of_getElem? (i := 38) rfl))) (ty := .long) (by decide)
      have F46_notifyBeforeExpiration : Fld Z h46 b46 "com/example/escrowd/escrowd/client/SecretPolicy" "notifyBeforeExpiration" "Ljava/util/OptionalLong;" .null := D46 (Or.inr (hw _ (List.mem_of_getElem? (i := 40) rfl))) (ty := (.object "java/util/OptionalLong")) (by decide)
      obtain ⟨_, _, ⟨T47, L47, k47, n47⟩, -, X47, ⟨Lc47, hQ47, l47, y47, z47⟩, st47⟩ := X46.specialBack hx (y := (⟨"com/example/escrowd/escrowd/client/SecretPolicy", "<init>", "(JJJ)V"⟩ : MethodName)) rfl hown (mvT hZ (hw _ (List.mem_of_getElem? (i := 6) rfl))) (mvT hZ (hw _ (List.mem_of_getElem? (i := 7) rfl))) (mvT hZ (hw _ (List.mem_of_getElem? (i := 8) rfl))) (by decide) (backOf (W := 1) (rm_init3 l Z a0 hw [] b46 sv rv mv h46 n0 (Nat.le_trans Z0 EX46.1) w (S_E.ext EX46) (E_E.ext EX46) (F_E.ext EX46) A46 F46_secretExpiration F46_rotatedSecretExpiration F46_remainingExpirationForRotation F46_notifyBeforeExpiration gn_b46 (own_lc_ge (by have := own_1; omega)) (own_lc_le (by have := own_M; omega)) (own_lc_ge (by have := own_0; omega)) (own_lc_lt hr1.2) (own_lc_ge (by have := own_0; omega)) (own_lc_lt hm1.2)) hZ (hw _ (List.mem_of_getElem? (i := 8) rfl)) (hw _ (List.mem_of_getElem? (i := 5) rfl)) (by decide) (by decide)) (g := (mkF m 81 #[.val (.long p0), .second, .val (.long p1), .second, .val (.long p2), .second, .val (.long sv), .second, .val (.int md), .val (.long rv), .second, .val (.long mv), .second, .unset, .unset] [(.long mv), (.long rv), (.long sv), (.ref b46), (.ref b46)])) rfl (by rw [hml]; rfl) (Steps.refl _) (a := b46) (argsL := [(.long sv), (.long rv), (.long mv)]) (rest := [(.ref b46)]) (lenOf pd_81 rfl) rfl (by show 2 * 0 + _ ≤ _; exact Nat.le_of_eq rfl) (hb hby at_81) (fun _ _ => ⟨rfl, e46, (by decide : 1 + 0 ≤ _), (by decide : 4 + 0 ≤ _)⟩)
      dsimp only [Pt.U, Pt.locs, Pt.cells, Pt.slots] at X47 l47 y47 z47 st47 hQ47
      subst l47 y47 z47
      obtain ⟨rfl, N47q, K47, q47_0, q47_1⟩ := hQ47
      have N47 := Fr.app N0 N47q
      have e47 : T47.heap = T47.heap := rfl
      have EX47 := own_ext_keep EX46 K47 (allS sz_b46 all0)
      have KP47 := Keep.trans KP46 K47 (allS (Or.inr sz_b46) all0)
      have ck49 : ∀ t, Steps p.tables e below (T47.setTop (mkF m 90 #[.val (.long p0), .second, .val (.long p1), .second, .val (.long p2), .second, .val (.long sv), .second, .val (.int md), .val (.long rv), .second, .val (.long mv), .second, .val (.ref b46), .unset] [(.int (lcmpW rv (0 : Int64)))])) t → Steps p.tables e below (s₁.setTop (entryFrame m #[(.long p0), (.long p1), (.long p2)] maxLocals)) t := by
        intro t kt
        refine ck25 _ ?_
        show Steps p.tables e below (s₁.setTop (mkF m 24 #[.val (.long p0), .second, .val (.long p1), .second, .val (.long p2), .second, .val (.long sv), .second, .val (.int md), .unset, .unset, .unset, .unset, .unset, .unset] [(.int md)])) _
        refine XS.ifYes X0.here hx rfl (pc0 := 24) (pc' := 33) rfl (hb hby at_24) rfl ((if0 _ _).trans (feq hc24_24).2) (by decide) (by decide) ?_
        show Steps p.tables e below (s₁.setTop (mkF m 33 #[.val (.long p0), .second, .val (.long p1), .second, .val (.long p2), .second, .val (.long sv), .second, .val (.int md), .unset, .unset, .unset, .unset, .unset, .unset] [])) _
        refine XS.iload X0.here hx rfl (hb hby at_33) rfl ?_
        show Steps p.tables e below (s₁.setTop (mkF m 35 #[.val (.long p0), .second, .val (.long p1), .second, .val (.long p2), .second, .val (.long sv), .second, .val (.int md), .unset, .unset, .unset, .unset, .unset, .unset] [(.int md)])) _
        refine XS.iconst X0.here hx rfl (hb hby at_35) ?_
        show Steps p.tables e below (s₁.setTop (mkF m 36 #[.val (.long p0), .second, .val (.long p1), .second, .val (.long p2), .second, .val (.long sv), .second, .val (.int md), .unset, .unset, .unset, .unset, .unset, .unset] [(.int (1 : Int32)), (.int md)])) _
        refine XS.icmpYes X0.here hx rfl (pc0 := 36) (pc' := 52) rfl (hb hby at_36) rfl (feq hc36_31).2 (by decide) (by decide) ?_
        show Steps p.tables e below (s₁.setTop (mkF m 52 #[.val (.long p0), .second, .val (.long p1), .second, .val (.long p2), .second, .val (.long sv), .second, .val (.int md), .unset, .unset, .unset, .unset, .unset, .unset] [])) _
        refine XS.lloadN X0.here hx rfl (hb hby at_52) rfl ?_
        show Steps p.tables e below (s₁.setTop (mkF m 53 #[.val (.long p0), .second, .val (.long p1), .second, .val (.long p2), .second, .val (.long sv), .second, .val (.int md), .unset, .unset, .unset, .unset, .unset, .unset] [(.long p1)])) _
        refine X0.ldc2Long hx hown (mvT hZ (hw _ (List.mem_of_getElem? (i := 0) rfl))) (g := (mkF m 53 #[.val (.long p0), .second, .val (.long p1), .second, .val (.long p2), .second, .val (.long sv), .second, .val (.int md), .unset, .unset, .unset, .unset, .unset, .unset] [(.long p1)])) rfl (hb hby at_53) _ ?_
        show Steps p.tables e below (s₁.setTop (mkF m 56 #[.val (.long p0), .second, .val (.long p1), .second, .val (.long p2), .second, .val (.long sv), .second, .val (.int md), .unset, .unset, .unset, .unset, .unset, .unset] [(.long (9223372036854775807 : Int64)), (.long p1)])) _
        refine XS.land X0.here hx rfl (hb hby at_56) rfl ?_
        show Steps p.tables e below (s₁.setTop (mkF m 57 #[.val (.long p0), .second, .val (.long p1), .second, .val (.long p2), .second, .val (.long sv), .second, .val (.int md), .unset, .unset, .unset, .unset, .unset, .unset] [(.long (p1 &&& (9223372036854775807 : Int64)))])) _
        refine XS.lload X0.here hx rfl (hb hby at_57) rfl ?_
        show Steps p.tables e below (s₁.setTop (mkF m 59 #[.val (.long p0), .second, .val (.long p1), .second, .val (.long p2), .second, .val (.long sv), .second, .val (.int md), .unset, .unset, .unset, .unset, .unset, .unset] [(.long sv), (.long (p1 &&& (9223372036854775807 : Int64)))])) _
        refine XS.lrem X0.here hx rfl (hb hby at_59) rfl (own_nz hs.1) ?_
        show Steps p.tables e below (s₁.setTop (mkF m 60 #[.val (.long p0), .second, .val (.long p1), .second, .val (.long p2), .second, .val (.long sv), .second, .val (.int md), .unset, .unset, .unset, .unset, .unset, .unset] [(.long ((p1 &&& (9223372036854775807 : Int64)) - ((p1 &&& (9223372036854775807 : Int64)) / sv) * sv))])) _
        rw [lrem_mod]
        show Steps p.tables e below (s₁.setTop (mkF m 60 #[.val (.long p0), .second, .val (.long p1), .second, .val (.long p2), .second, .val (.long sv), .second, .val (.int md), .unset, .unset, .unset, .unset, .unset, .unset] [(.long ((p1 &&& (9223372036854775807 : Int64)) % sv))])) _
        rw [h_rv]
        show Steps p.tables e below (s₁.setTop (mkF m 60 #[.val (.long p0), .second, .val (.long p1), .second, .val (.long p2), .second, .val (.long sv), .second, .val (.int md), .unset, .unset, .unset, .unset, .unset, .unset] [(.long rv)])) _
        refine XS.lstore X0.here hx rfl (hb hby at_60) rfl (l' := #[.val (.long p0), .second, .val (.long p1), .second, .val (.long p2), .second, .val (.long sv), .second, .val (.int md), .val (.long rv), .second, .unset, .unset, .unset, .unset]) rfl ?_
        show Steps p.tables e below (s₁.setTop (mkF m 62 #[.val (.long p0), .second, .val (.long p1), .second, .val (.long p2), .second, .val (.long sv), .second, .val (.int md), .val (.long rv), .second, .unset, .unset, .unset, .unset] [])) _
        refine XS.lload X0.here hx rfl (hb hby at_62) rfl ?_
        show Steps p.tables e below (s₁.setTop (mkF m 64 #[.val (.long p0), .second, .val (.long p1), .second, .val (.long p2), .second, .val (.long sv), .second, .val (.int md), .val (.long rv), .second, .unset, .unset, .unset, .unset] [(.long p2)])) _
        refine XS.iconst X0.here hx rfl (hb hby at_64) ?_
        show Steps p.tables e below (s₁.setTop (mkF m 65 #[.val (.long p0), .second, .val (.long p1), .second, .val (.long p2), .second, .val (.long sv), .second, .val (.int md), .val (.long rv), .second, .unset, .unset, .unset, .unset] [(.int (2 : Int32)), (.long p2)])) _
        refine XS.lushr X0.here hx rfl (hb hby at_65) rfl ?_
        show Steps p.tables e below (s₁.setTop (mkF m 66 #[.val (.long p0), .second, .val (.long p1), .second, .val (.long p2), .second, .val (.long sv), .second, .val (.int md), .val (.long rv), .second, .unset, .unset, .unset, .unset] [(.long ((p2.toUInt64 >>> ((2 : Int32) &&& 0x3f).toInt64.toUInt64).toInt64))])) _
        refine XS.lload X0.here hx rfl (hb hby at_66) rfl ?_
        show Steps p.tables e below (s₁.setTop (mkF m 68 #[.val (.long p0), .second, .val (.long p1), .second, .val (.long p2), .second, .val (.long sv), .second, .val (.int md), .val (.long rv), .second, .unset, .unset, .unset, .unset] [(.long sv), (.long ((p2.toUInt64 >>> ((2 : Int32) &&& 0x3f).toInt64.toUInt64).toInt64))])) _
        refine XS.lrem X0.here hx rfl (hb hby at_68) rfl (own_nz hs.1) ?_
        show Steps p.tables e below (s₁.setTop (mkF m 69 #[.val (.long p0), .second, .val (.long p1), .second, .val (.long p2), .second, .val (.long sv), .second, .val (.int md), .val (.long rv), .second, .unset, .unset, .unset, .unset] [(.long (((p2.toUInt64 >>> ((2 : Int32) &&& 0x3f).toInt64.toUInt64).toInt64) - (((p2.toUInt64 >>> ((2 : Int32) &&& 0x3f).toInt64.toUInt64).toInt64) / sv) * sv))])) _
        rw [lrem_mod]
        show Steps p.tables e below (s₁.setTop (mkF m 69 #[.val (.long p0), .second, .val (.long p1), .second, .val (.long p2), .second, .val (.long sv), .second, .val (.int md), .val (.long rv), .second, .unset, .unset, .unset, .unset] [(.long (((p2.toUInt64 >>> ((2 : Int32) &&& 0x3f).toInt64.toUInt64).toInt64) % sv))])) _
        rw [h_mv]
        show Steps p.tables e below (s₁.setTop (mkF m 69 #[.val (.long p0), .second, .val (.long p1), .second, .val (.long p2), .second, .val (.long sv), .second, .val (.int md), .val (.long rv), .second, .unset, .unset, .unset, .unset] [(.long mv)])) _
        refine XS.lstore X0.here hx rfl (hb hby at_69) rfl (l' := #[.val (.long p0), .second, .val (.long p1), .second, .val (.long p2), .second, .val (.long sv), .second, .val (.int md), .val (.long rv), .second, .val (.long mv), .second, .unset, .unset]) rfl ?_
        show Steps p.tables e below (s₁.setTop (mkF m 71 #[.val (.long p0), .second, .val (.long p1), .second, .val (.long p2), .second, .val (.long sv), .second, .val (.int md), .val (.long rv), .second, .val (.long mv), .second, .unset, .unset] [])) _
        refine st46 _ ?_
        show Steps p.tables e below (T46.setTop (mkF m 74 #[.val (.long p0), .second, .val (.long p1), .second, .val (.long p2), .second, .val (.long sv), .second, .val (.int md), .val (.long rv), .second, .val (.long mv), .second, .unset, .unset] [(.ref b46)])) _
        refine XS.dup X46.here hx rfl (hb hby at_74) rfl rfl ?_
        show Steps p.tables e below (T46.setTop (mkF m 75 #[.val (.long p0), .second, .val (.long p1), .second, .val (.long p2), .second, .val (.long sv), .second, .val (.int md), .val (.long rv), .second, .val (.long mv), .second, .unset, .unset] [(.ref b46), (.ref b46)])) _
        refine XS.lload X46.here hx rfl (hb hby at_75) rfl ?_
        show Steps p.tables e below (T46.setTop (mkF m 77 #[.val (.long p0), .second, .val (.long p1), .second, .val (.long p2), .second, .val (.long sv), .second, .val (.int md), .val (.long rv), .second, .val (.long mv), .second, .unset, .unset] [(.long sv), (.ref b46), (.ref b46)])) _
        refine XS.lload X46.here hx rfl (hb hby at_77) rfl ?_
        show Steps p.tables e below (T46.setTop (mkF m 79 #[.val (.long p0), .second, .val (.long p1), .second, .val (.long p2), .second, .val (.long sv), .second, .val (.int md), .val (.long rv), .second, .val (.long mv), .second, .unset, .unset] [(.long rv), (.long sv), (.ref b46), (.ref b46)])) _
        refine XS.lload X46.here hx rfl (hb hby at_79) rfl ?_
        show Steps p.tables e below (T46.setTop (mkF m 81 #[.val (.long p0), .second, .val (.long p1), .second, .val (.long p2), .second, .val (.long sv), .second, .val (.int md), .val (.long rv), .second, .val (.long mv), .second, .unset, .unset] [(.long mv), (.long rv), (.long sv), (.ref b46), (.ref b46)])) _
        refine st47.trans ?_
        show Steps p.tables e below (T47.setTop (mkF m 84 #[.val (.long p0), .second, .val (.long p1), .second, .val (.long p2), .second, .val (.long sv), .second, .val (.int md), .val (.long rv), .second, .val (.long mv), .second, .unset, .unset] [(.ref b46)])) _
        refine XS.astore X47.here hx rfl (hb hby at_84) rfl rfl (l' := #[.val (.long p0), .second, .val (.long p1), .second, .val (.long p2), .second, .val (.long sv), .second, .val (.int md), .val (.long rv), .second, .val (.long mv), .second, .val (.ref b46), .unset]) rfl ?_
        show Steps p.tables e below (T47.setTop (mkF m 86 #[.val (.long p0), .second, .val (.long p1), .second, .val (.long p2), .second, .val (.long sv), .second, .val (.int md), .val (.long rv), .second, .val (.long mv), .second, .val (.ref b46), .unset] [])) _
        refine XS.lload X47.here hx rfl (hb hby at_86) rfl ?_
        show Steps p.tables e below (T47.setTop (mkF m 88 #[.val (.long p0), .second, .val (.long p1), .second, .val (.long p2), .second, .val (.long sv), .second, .val (.int md), .val (.long rv), .second, .val (.long mv), .second, .val (.ref b46), .unset] [(.long rv)])) _
        refine XS.lconst X47.here hx rfl (hb hby at_88) ?_
        show Steps p.tables e below (T47.setTop (mkF m 89 #[.val (.long p0), .second, .val (.long p1), .second, .val (.long p2), .second, .val (.long sv), .second, .val (.int md), .val (.long rv), .second, .val (.long mv), .second, .val (.ref b46), .unset] [(.long (0 : Int64)), (.long rv)])) _
        refine XS.lcmp X47.here hx rfl (hb hby at_89) rfl ?_
        exact kt
      by_cases hc90_48 : (lcmpW rv (0 : Int64)) = (0 : Int32)
      · -- pc 90: (lcmpW rv (0 : Int64)) = (0 : Int32)
        obtain ⟨cq50, kq50, q50a, q50b, q50c⟩ := isOf hZ e47 (q47_0)
        obtain ⟨_, _, ⟨T50, L50, k50, n50⟩, -, X50, ⟨Lc50, hQ50, l50, y50, z50⟩, st50⟩ := X47.virtualBack hx (y := (⟨"com/example/escrowd/escrowd/client/SecretPolicy", "keepsRotatedSecrets", "()Z"⟩ : MethodName)) (z := (⟨"com/example/escrowd/escrowd/client/SecretPolicy", "keepsRotatedSecrets", "()Z"⟩ : MethodName)) hown (mvT hZ (hw _ (List.mem_of_getElem? (i := 41) rfl))) (mvT hZ (hw _ (List.mem_of_getElem? (i := 42) rfl))) (notFace_of_selects (args := #[]) (mvT hZ (hw _ (List.mem_of_getElem? (i := 44) rfl)))) (mvT hZ (hw _ (List.mem_of_getElem? (i := 44) rfl))) (mvT hZ (hw _ (List.mem_of_getElem? (i := 43) rfl))) (by decide) (backOf (W := 0) (rm_keeps l Z a0 hw [] b46 T47.heap n0 (Nat.le_trans Z0 EX47.1) rv q47_1 (0 : Int32) (if_neg (own_lc_le (by have := own_eq_lc hc90_48; omega)))) hZ (hw _ (List.mem_of_getElem? (i := 45) rfl)) (hw _ (List.mem_of_getElem? (i := 5) rfl)) (by decide) (by decide)) q50a q50c (g := (mkF m 102 #[.val (.long p0), .second, .val (.long p1), .second, .val (.long p2), .second, .val (.long sv), .second, .val (.int md), .val (.long rv), .second, .val (.long mv), .second, .val (.ref b46), .val (.int (0 : Int32))] [(.ref b46)])) rfl (by rw [hml]; rfl) (Steps.refl _) (argsL := []) (rest := []) (lenOf pd_46 rfl) rfl (by show 2 * 0 + _ ≤ _; exact Nat.le_of_eq rfl) (hb hby at_102) (fun _ _ => ⟨rfl, e47, (by decide : 1 + 0 ≤ _), (by decide : 4 + 0 ≤ _)⟩)
        dsimp only [Pt.U, Pt.locs, Pt.cells, Pt.slots] at X50 l50 y50 z50 st50 hQ50
        subst l50 y50 z50
        obtain ⟨rfl, N50q, e50⟩ := hQ50
        have N50 := Fr.app N47 N50q
        obtain ⟨fs, hr, hrun, hended, hW, hsame⟩ := X50.leave (v := some (.int (1 : Int32))) (fun h => by rw [Bd.returns] at h; cases h)
        refine ⟨_, _, ck49 _ ?_, hrun, hended, _, _, rfl, ?_, ⟨_, rfl⟩, hW, hsame.mono (by decide) (by decide)⟩
        · show Steps p.tables e below (T47.setTop (mkF m 90 #[.val (.long p0), .second, .val (.long p1), .second, .val (.long p2), .second, .val (.long sv), .second, .val (.int md), .val (.long rv), .second, .val (.long mv), .second, .val (.ref b46), .unset] [(.int (lcmpW rv (0 : Int64)))])) _
          refine XS.ifYes X47.here hx rfl (pc0 := 90) (pc' := 97) rfl (hb hby at_90) rfl ((if0 _ _).trans (teq hc90_48).1) (by decide) (by decide) ?_
          show Steps p.tables e below (T47.setTop (mkF m 97 #[.val (.long p0), .second, .val (.long p1), .second, .val (.long p2), .second, .val (.long sv), .second, .val (.int md), .val (.long rv), .second, .val (.long mv), .second, .val (.ref b46), .unset] [])) _
          refine XS.iconst X47.here hx rfl (hb hby at_97) ?_
          show Steps p.tables e below (T47.setTop (mkF m 98 #[.val (.long p0), .second, .val (.long p1), .second, .val (.long p2), .second, .val (.long sv), .second, .val (.int md), .val (.long rv), .second, .val (.long mv), .second, .val (.ref b46), .unset] [(.int (0 : Int32))])) _
          refine XS.istore X47.here hx rfl (hb hby at_98) rfl (l' := #[.val (.long p0), .second, .val (.long p1), .second, .val (.long p2), .second, .val (.long sv), .second, .val (.int md), .val (.long rv), .second, .val (.long mv), .second, .val (.ref b46), .val (.int (0 : Int32))]) rfl ?_
          show Steps p.tables e below (T47.setTop (mkF m 100 #[.val (.long p0), .second, .val (.long p1), .second, .val (.long p2), .second, .val (.long sv), .second, .val (.int md), .val (.long rv), .second, .val (.long mv), .second, .val (.ref b46), .val (.int (0 : Int32))] [])) _
          refine XS.aload X47.here hx rfl (hb hby at_100) rfl rfl ?_
          show Steps p.tables e below (T47.setTop (mkF m 102 #[.val (.long p0), .second, .val (.long p1), .second, .val (.long p2), .second, .val (.long sv), .second, .val (.int md), .val (.long rv), .second, .val (.long mv), .second, .val (.ref b46), .val (.int (0 : Int32))] [(.ref b46)])) _
          refine st50.trans ?_
          show Steps p.tables e below (T50.setTop (mkF m 105 #[.val (.long p0), .second, .val (.long p1), .second, .val (.long p2), .second, .val (.long sv), .second, .val (.int md), .val (.long rv), .second, .val (.long mv), .second, .val (.ref b46), .val (.int (0 : Int32))] [(.int (0 : Int32))])) _
          refine XS.iload X50.here hx rfl (hb hby at_105) rfl ?_
          show Steps p.tables e below (T50.setTop (mkF m 107 #[.val (.long p0), .second, .val (.long p1), .second, .val (.long p2), .second, .val (.long sv), .second, .val (.int md), .val (.long rv), .second, .val (.long mv), .second, .val (.ref b46), .val (.int (0 : Int32))] [(.int (0 : Int32)), (.int (0 : Int32))])) _
          refine XS.icmpNo X50.here hx rfl (hb hby at_107) rfl (teq (by decide : (0 : Int32) = (0 : Int32))).2 ?_
          show Steps p.tables e below (T50.setTop (mkF m 110 #[.val (.long p0), .second, .val (.long p1), .second, .val (.long p2), .second, .val (.long sv), .second, .val (.int md), .val (.long rv), .second, .val (.long mv), .second, .val (.ref b46), .val (.int (0 : Int32))] [])) _
          refine XS.iconst X50.here hx rfl (hb hby at_110) ?_
          show Steps p.tables e below (T50.setTop (mkF m 111 #[.val (.long p0), .second, .val (.long p1), .second, .val (.long p2), .second, .val (.long sv), .second, .val (.int md), .val (.long rv), .second, .val (.long mv), .second, .val (.ref b46), .val (.int (0 : Int32))] [(.int (1 : Int32))])) _
          refine XS.goto X50.here hx rfl (pc0 := 111) (pc' := 115) rfl (hb hby at_111) (by decide) (by decide) ?_
          show Steps p.tables e below (T50.setTop (mkF m 115 #[.val (.long p0), .second, .val (.long p1), .second, .val (.long p2), .second, .val (.long sv), .second, .val (.int md), .val (.long rv), .second, .val (.long mv), .second, .val (.ref b46), .val (.int (0 : Int32))] [(.int (1 : Int32))])) _
          exact retN X50 hx (t := .boolean) Bd.returns (by simp) (hb hby at_115) hr
        · show own_Made (some (.int 1)) n0 _ T50.heap _
          rw [e50]
          exact ⟨rfl, N50, trivial⟩
      · -- pc 90: not (lcmpW rv (0 : Int64)) = (0 : Int32)
        obtain ⟨cq51, kq51, q51a, q51b, q51c⟩ := isOf hZ e47 (q47_0)
        obtain ⟨_, _, ⟨T51, L51, k51, n51⟩, -, X51, ⟨Lc51, hQ51, l51, y51, z51⟩, st51⟩ := X47.virtualBack hx (y := (⟨"com/example/escrowd/escrowd/client/SecretPolicy", "keepsRotatedSecrets", "()Z"⟩ : MethodName)) (z := (⟨"com/example/escrowd/escrowd/client/SecretPolicy", "keepsRotatedSecrets", "()Z"⟩ : MethodName)) hown (mvT hZ (hw _ (List.mem_of_getElem? (i := 41) rfl))) (mvT hZ (hw _ (List.mem_of_getElem? (i := 42) rfl))) (notFace_of_selects (args := #[]) (mvT hZ (hw _ (List.mem_of_getElem? (i := 44) rfl)))) (mvT hZ (hw _ (List.mem_of_getElem? (i := 44) rfl))) (mvT hZ (hw _ (List.mem_of_getElem? (i := 43) rfl))) (by decide) (backOf (W := 0) (rm_keeps l Z a0 hw [] b46 T47.heap n0 (Nat.le_trans Z0 EX47.1) rv q47_1 (1 : Int32) (if_pos (own_lc_gt (by have := own_ne_lc hc90_48; have := own_0; omega)))) hZ (hw _ (List.mem_of_getElem? (i := 45) rfl)) (hw _ (List.mem_of_getElem? (i := 5) rfl)) (by decide) (by decide)) q51a q51c (g := (mkF m 102 #[.val (.long p0), .second, .val (.long p1), .second, .val (.long p2), .second, .val (.long sv), .second, .val (.int md), .val (.long rv), .second, .val (.long mv), .second, .val (.ref b46), .val (.int (1 : Int32))] [(.ref b46)])) rfl (by rw [hml]; rfl) (Steps.refl _) (argsL := []) (rest := []) (lenOf pd_46 rfl) rfl (by show 2 * 0 + _ ≤ _; exact Nat.le_of_eq rfl) (hb hby at_102) (fun _ _ => ⟨rfl, e47, (by decide : 1 + 0 ≤ _), (by decide : 4 + 0 ≤ _)⟩)
        dsimp only [Pt.U, Pt.locs, Pt.cells, Pt.slots] at X51 l51 y51 z51 st51 hQ51
        subst l51 y51 z51
        obtain ⟨rfl, N51q, e51⟩ := hQ51
        have N51 := Fr.app N47 N51q
        obtain ⟨fs, hr, hrun, hended, hW, hsame⟩ := X51.leave (v := some (.int (1 : Int32))) (fun h => by rw [Bd.returns] at h; cases h)
        refine ⟨_, _, ck49 _ ?_, hrun, hended, _, _, rfl, ?_, ⟨_, rfl⟩, hW, hsame.mono (by decide) (by decide)⟩
        · show Steps p.tables e below (T47.setTop (mkF m 90 #[.val (.long p0), .second, .val (.long p1), .second, .val (.long p2), .second, .val (.long sv), .second, .val (.int md), .val (.long rv), .second, .val (.long mv), .second, .val (.ref b46), .unset] [(.int (lcmpW rv (0 : Int64)))])) _
          refine XS.ifNo X47.here hx rfl (hb hby at_90) rfl ((if0 _ _).trans (feq hc90_48).1) ?_
          show Steps p.tables e below (T47.setTop (mkF m 93 #[.val (.long p0), .second, .val (.long p1), .second, .val (.long p2), .second, .val (.long sv), .second, .val (.int md), .val (.long rv), .second, .val (.long mv), .second, .val (.ref b46), .unset] [])) _
          refine XS.iconst X47.here hx rfl (hb hby at_93) ?_
          show Steps p.tables e below (T47.setTop (mkF m 94 #[.val (.long p0), .second, .val (.long p1), .second, .val (.long p2), .second, .val (.long sv), .second, .val (.int md), .val (.long rv), .second, .val (.long mv), .second, .val (.ref b46), .unset] [(.int (1 : Int32))])) _
          refine XS.goto X47.here hx rfl (pc0 := 94) (pc' := 98) rfl (hb hby at_94) (by decide) (by decide) ?_
          show Steps p.tables e below (T47.setTop (mkF m 98 #[.val (.long p0), .second, .val (.long p1), .second, .val (.long p2), .second, .val (.long sv), .second, .val (.int md), .val (.long rv), .second, .val (.long mv), .second, .val (.ref b46), .unset] [(.int (1 : Int32))])) _
          refine XS.istore X47.here hx rfl (hb hby at_98) rfl (l' := #[.val (.long p0), .second, .val (.long p1), .second, .val (.long p2), .second, .val (.long sv), .second, .val (.int md), .val (.long rv), .second, .val (.long mv), .second, .val (.ref b46), .val (.int (1 : Int32))]) rfl ?_
          show Steps p.tables e below (T47.setTop (mkF m 100 #[.val (.long p0), .second, .val (.long p1), .second, .val (.long p2), .second, .val (.long sv), .second, .val (.int md), .val (.long rv), .second, .val (.long mv), .second, .val (.ref b46), .val (.int (1 : Int32))] [])) _
          refine XS.aload X47.here hx rfl (hb hby at_100) rfl rfl ?_
          show Steps p.tables e below (T47.setTop (mkF m 102 #[.val (.long p0), .second, .val (.long p1), .second, .val (.long p2), .second, .val (.long sv), .second, .val (.int md), .val (.long rv), .second, .val (.long mv), .second, .val (.ref b46), .val (.int (1 : Int32))] [(.ref b46)])) _
          refine st51.trans ?_
          show Steps p.tables e below (T51.setTop (mkF m 105 #[.val (.long p0), .second, .val (.long p1), .second, .val (.long p2), .second, .val (.long sv), .second, .val (.int md), .val (.long rv), .second, .val (.long mv), .second, .val (.ref b46), .val (.int (1 : Int32))] [(.int (1 : Int32))])) _
          refine XS.iload X51.here hx rfl (hb hby at_105) rfl ?_
          show Steps p.tables e below (T51.setTop (mkF m 107 #[.val (.long p0), .second, .val (.long p1), .second, .val (.long p2), .second, .val (.long sv), .second, .val (.int md), .val (.long rv), .second, .val (.long mv), .second, .val (.ref b46), .val (.int (1 : Int32))] [(.int (1 : Int32)), (.int (1 : Int32))])) _
          refine XS.icmpNo X51.here hx rfl (hb hby at_107) rfl (teq (by decide : (1 : Int32) = (1 : Int32))).2 ?_
          show Steps p.tables e below (T51.setTop (mkF m 110 #[.val (.long p0), .second, .val (.long p1), .second, .val (.long p2), .second, .val (.long sv), .second, .val (.int md), .val (.long rv), .second, .val (.long mv), .second, .val (.ref b46), .val (.int (1 : Int32))] [])) _
          refine XS.iconst X51.here hx rfl (hb hby at_110) ?_
          show Steps p.tables e below (T51.setTop (mkF m 111 #[.val (.long p0), .second, .val (.long p1), .second, .val (.long p2), .second, .val (.long sv), .second, .val (.int md), .val (.long rv), .second, .val (.long mv), .second, .val (.ref b46), .val (.int (1 : Int32))] [(.int (1 : Int32))])) _
          refine XS.goto X51.here hx rfl (pc0 := 111) (pc' := 115) rfl (hb hby at_111) (by decide) (by decide) ?_
          show Steps p.tables e below (T51.setTop (mkF m 115 #[.val (.long p0), .second, .val (.long p1), .second, .val (.long p2), .second, .val (.long sv), .second, .val (.int md), .val (.long rv), .second, .val (.long mv), .second, .val (.ref b46), .val (.int (1 : Int32))] [(.int (1 : Int32))])) _
          exact retN X51 hx (t := .boolean) Bd.returns (by simp) (hb hby at_115) hr
        · show own_Made (some (.int 1)) n0 _ T51.heap _
          rw [e51]
          exact ⟨rfl, N51, trivial⟩
set_option maxRecDepth 65536 in
set_option maxHeartbeats 40000000 in
theorem comes_1 {Post : Tables → Env → Array Value → State → Outcome → State → Prop} (hpost : ∀ tb e args s v u, (limb_1_1.after args s (.returned v) u = true ∧ limb_1_2.after args s (.returned v) u = true ∧ True) → FrameEnd s (.returned v) u (Jvm.fieldLocs frame_1_writes args s ++ Jvm.arrayLocs frame_1_arrays args s ++ Jvm.staticLocs frame_1_statics s) 16 128 → Post tb e args s (.returned v) u) :
    ArmFor flags0 classFile x code maxLocals ret World_1 tables_1 room_1 Calls_1 rest_1 Pre_1 Post := by
  intro l hfl _ _ p e ha hc hk s m args below hf hA hF happ hP
  obtain ⟨hcalls, hrest, hpre⟩ := hP
  obtain ⟨-, -, -, hnamed, -, -, -, hat⟩ := (Spec.applies_iff hf).mp happ
  obtain ⟨hg, hn⟩ := and_e (Cond.before_iff.mp (show (Jvm.Cond.and given_1 narrow_1).before args s = true from hpre))
  obtain ⟨gg0, hh0⟩ := and_e hg
  obtain ⟨gg1, hh1⟩ := and_e hh0
  obtain ⟨gg2, hh2⟩ := and_e hh1
  obtain ⟨w0, w1, w2, rfl⟩ : ∃ w0 w1 w2 : Value, args = #[w0, w1, w2] := by
    have hs : args.size = 3 := by simpa [Cond.value, given_1] using gg0
    obtain ⟨L⟩ := args
    match L, hs with
    | [w0, w1, w2], _ => exact ⟨w0, w1, w2, rfl⟩
  have hw := fun d (hd : d ∈ tables_1) => atoms_spec (ws := Jvm.Cond.code x code maxLocals ret :: tables_1) hat d (List.mem_cons_of_mem _ hd)
  have hfit : Fit s := fun {y c} hc i hi => by
    obtain ⟨ha, rfl⟩ := Array.getElem?_eq_some_iff.mp hc
    have q := List.all_eq_true.mp ((Array.all_eq_true_iff_forall_mem.mp hF) _ (Array.getElem_mem ha)) i (List.mem_range.mpr hi)
    simpa [Array.getElem?_eq_getElem hi] using q
  obtain ⟨i0, ei0⟩ := isL_v gg1
  obtain rfl : w0 = (.long i0) := Option.some.inj ei0
  obtain ⟨i1, ei1⟩ := isL_v gg2
  obtain rfl : w1 = (.long i1) := Option.some.inj ei1
  obtain ⟨i2, ei2⟩ := isL_v hh2
  obtain rfl : w2 = (.long i2) := Option.some.inj ei2
  obtain ⟨hsets, hown0⟩ := atoms_of _ (rest_1_c_eq ▸ (show rest_1_c.before _ s = true from hrest))
  have hs2 := Cond.before_iff.mp (hsets _ (List.mem_of_getElem? (i := 2) rfl))
  have hs3 := Cond.before_iff.mp (hsets _ (List.mem_of_getElem? (i := 3) rfl))
  obtain ⟨w, ev⟩ := exa_v hs2
  have E_E := Exa.start ev hs2
  have S_E := Sta.start ev (Or.inl (hsets _ (List.mem_of_getElem? (i := 1) rfl)))
  have F_E := own_fld_eq ev hs3
  obtain ⟨n, o, h1, h2, h3, _, L, rfl, hQ0, hq⟩ := rm_law l s _ hw tables_1 i0 i1 i2 s.heap s.heap.size (Nat.le_refl _) w S_E E_E F_E p e ha hc hk s m _ below hf ((Spec.applies_iff_loose hf).mp happ).1 ⟨rfl, State.Warmed39.refl s, rfl⟩ trivial
  have N := hQ0.2.1
  obtain rfl := hQ0.1
  refine ⟨n, _, h1, h2, h3, hpost _ _ _ _ _ _ ⟨Cond.after_iff.mpr rfl, Cond.after_iff.mpr (eq_i res_at (Term.int_eval (1)) rfl), trivial⟩ ⟨hq.1, hq.2.1, (hq.2.2.sift fun y hy => Or.inr (N y hy)).mono (by decide) (by decide)⟩⟩
theorem main_1_1 : Claimed_1_1 := comes_1 fun _ _ _ _ _ _ h hF => ⟨h.1, hF⟩
theorem main_1_2 : Claimed_1_2 := comes_1 fun _ _ _ _ _ _ h hF => ⟨h.2.1, hF⟩
end Jvm.Pilot.@@N@@
namespace Jvm.Pilot.@@N@@
open Jvm Jvm.ClassFile Sem Op Lib Jvm.Free Jvm.Stand Jvm.Pilot.@@N@@.Jvm.D
/-! MADE BY PROGRAM (witnessworld.py) out of the Statement's table words and the real class files: 12 classes; the members and pool entries that the words name. The judged class is class 1, her method 1. -/
namespace start1
open Jvm.ClassFile
def u (s : String) : CpInfo := .utf8 (stringToUtf16 s)
/-- a pool by its gaps: so many unusable entries, then the entry; so many at the end -/
def gap : Nat → List CpInfo → List CpInfo
  | 0, r => r
  | n + 1, r => .unusable :: gap n r
def poolList (es : List (Nat × CpInfo)) (last : Nat) : List CpInfo := es.foldr (fun e r => gap e.1 (e.2 :: r)) (gap last [])
def pool (es : List (Nat × CpInfo)) (last : Nat) : Array CpInfo := ⟨poolList es last⟩
def fileOf (pool : Array CpInfo) (this : Nat) (attrs : Array Attribute := #[]) (ms : Array MethodInfo := #[]) (fl : Nat := 33) (sup : Nat := 0) (ifs : Array Nat := #[]) (fds : Array FieldInfo := #[]) : ClassFile where
  minorVersion := 0
  majorVersion := 65
  constantPool := pool
  accessFlags := fl
  thisClass := this
  superClass := sup
  interfaces := ifs
  fields := fds
  methods := ms
  attributes := attrs
def plain (name : String) (sup : Option ClassId) : Class where
  name := name
  kind := .ordinary
  loader := none
  accessFlags := 33
  super := sup
  interfaces := #[]
  cf := none
  fields := #[]
  methods := #[]
  instanceTypes := #[]
  staticTypes := #[]
  resolved := #[]
  callSites := []
  init := .initialized
  statics := none
  mirror := none

def pool0 : Array CpInfo := pool [(5, u "<init>"), (0, u "()V"), (1, .class_ 10), (1, u "java/lang/Object")] 113

def k0c0 : Code := { maxStack := 0, maxLocals := 1, code := object_method_1_code, exceptionTable := #[], attributes := #[] }
def k0m0 : Method := { name := "<init>", desc := "()V", sig := { parameters := [], returnType := none }, accessFlags := 1, code := some k0c0 }
/-- java/lang/Object -/
def k0 : Class := { plain "java/lang/Object" none with
  accessFlags := 33
  interfaces := #[]
  cf := some (fileOf pool0 8 #[] #[{ accessFlags := 1, nameIndex := 5, descriptorIndex := 6, attributes := #[] }] 33 0 #[] #[])
  fields := #[]
  methods := #[k0m0]
  instanceTypes := #[]
  staticTypes := #[]
  resolved := Array.replicate 124 none
  statics := none }

def pool1 : Array CpInfo := pool [(2, .class_ 4), (1, u "java/lang/Object"), (0, u "<init>"), (0, u "()V"), (2, .long 9223372036854775807), (1, .class_ 12), (0, u "com/example/escrowd/escrowd/client/SecretPolicy"), (0, .long 3155760000), (1, .long 3), (1, .methodref 18 19), (0, .class_ 20), (0, .nameAndType 21 22), (0, u "java/lang/Math"), (0, u "min"), (0, u "(JJ)J"), (0, .methodref 11 24), (0, .nameAndType 5 25), (0, u "(JJJ)V"), (0, .methodref 11 27), (0, .nameAndType 28 29), (0, u "keepsRotatedSecrets"), (0, u "()Z"), (0, .class_ 31), (0, u "com/example/escrowd/escrowd/client/SecretPolicyKeepsRotatedSecretsPinLaw"), (2, u "law"), (0, u "(JJJ)Z")] 3

def k1m0 : Method := { name := "<init>", desc := "()V", sig := { parameters := [], returnType := none }, accessFlags := 1, code := none }
def k1c1 : Code := { maxStack := 8, maxLocals := 15, code := code, exceptionTable := #[], attributes := #[] }
def k1m1 : Method := { name := "law", desc := "(JJJ)Z", sig := { parameters := [.long, .long, .long], returnType := some .boolean }, accessFlags := 9, code := some k1c1 }
/-- com/example/escrowd/escrowd/client/SecretPolicyKeepsRotatedSecretsPinLaw -/
def k1 : Class := { plain "com/example/escrowd/escrowd/client/SecretPolicyKeepsRotatedSecretsPinLaw" (some 0) with
  accessFlags := 49
  interfaces := #[]
  cf := some (fileOf pool1 30 #[] #[{ accessFlags := 1, nameIndex := 5, descriptorIndex := 6, attributes := #[] }, { accessFlags := 9, nameIndex := 34, descriptorIndex := 35, attributes := #[] }] 49 2 #[] #[])
  fields := #[]
  methods := #[k1m0, k1m1]
  instanceTypes := #[]
  staticTypes := #[]
  resolved := Array.replicate 39 none
  statics := none }

def pool2 : Array CpInfo := pool [(1, .methodref 2 3), (0, .class_ 4), (0, .nameAndType 5 6), (0, u "java/lang/Object"), (0, u "<init>"), (0, u "()V"), (0, .class_ 8), (0, u "java/lang/Record")] 13

def k2c0 : Code := { maxStack := 1, maxLocals := 1, code := jdk_30_method_1_code, exceptionTable := #[], attributes := #[] }
def k2m0 : Method := { name := "<init>", desc := "()V", sig := { parameters := [], returnType := none }, accessFlags := 4, code := some k2c0 }
/-- java/lang/Record -/
def k2 : Class := { plain "java/lang/Record" (some 0) with
  accessFlags := 1057
  interfaces := #[]
  cf := some (fileOf pool2 7 #[] #[{ accessFlags := 4, nameIndex := 5, descriptorIndex := 6, attributes := #[] }] 1057 2 #[] #[])
  fields := #[]
  methods := #[k2m0]
  instanceTypes := #[]
  staticTypes := #[]
  resolved := Array.replicate 22 none
  statics := none }

def pool3 : Array CpInfo := pool [(1, .methodref 2 3), (0, .class_ 4), (0, .nameAndType 5 6), (0, u "java/lang/Record"), (0, u "<init>"), (0, u "()V"), (0, .class_ 8), (0, u "com/example/escrowd/escrowd/client/SecretPolicy"), (0, .long 3155760000), (12, .methodref 23 24), (0, .class_ 25), (0, .nameAndType 26 27), (0, u "java/util/OptionalLong"), (0, u "isPresent"), (0, u "()Z"), (6, .fieldref 7 35), (0, .nameAndType 36 37), (0, u "secretExpiration"), (0, u "J"), (0, .fieldref 7 39), (0, .nameAndType 40 37), (0, u "rotatedSecretExpiration"), (0, .fieldref 7 42), (0, .nameAndType 43 37), (0, u "remainingExpirationForRotation"), (0, .fieldref 7 45), (0, .nameAndType 46 47), (0, u "notifyBeforeExpiration"), (0, u "Ljava/util/OptionalLong;"), (0, .methodref 23 49), (0, .nameAndType 50 51), (0, u "empty"), (0, u "()Ljava/util/OptionalLong;"), (0, .methodref 7 53), (0, .nameAndType 5 54), (0, u "(JJJLjava/util/OptionalLong;)V"), (2, u "REQUIRED"), (0, u "Ljava/util/List;"), (82, u "MEMBERS"), (4, u "MAX_SECONDS"), (1, u "SECRET_EXPIRATION"), (0, u "Ljava/lang/String;"), (0, u "ROTATED_SECRET_EXPIRATION"), (0, u "REMAINING_EXPIRATION_FOR_ROTATION"), (0, u "NOTIFY_BEFORE_EXPIRATION"), (6, u "(JJJ)V"), (5, u "keepsRotatedSecrets")] 35

def k3c0 : Code := { maxStack := 4, maxLocals := 8, code := prog_25_method_1_code, exceptionTable := #[], attributes := #[] }
def k3m0 : Method := { name := "<init>", desc := "(JJJLjava/util/OptionalLong;)V", sig := { parameters := [.long, .long, .long, (.object "java/util/OptionalLong")], returnType := none }, accessFlags := 1, code := some k3c0 }
def k3c1 : Code := { maxStack := 8, maxLocals := 7, code := prog_25_method_2_code, exceptionTable := #[], attributes := #[] }
def k3m1 : Method := { name := "<init>", desc := "(JJJ)V", sig := { parameters := [.long, .long, .long], returnType := none }, accessFlags := 1, code := some k3c1 }
def k3c2 : Code := { maxStack := 4, maxLocals := 1, code := prog_25_method_5_code, exceptionTable := #[], attributes := #[] }
def k3m2 : Method := { name := "keepsRotatedSecrets", desc := "()Z", sig := { parameters := [], returnType := some .boolean }, accessFlags := 1, code := some k3c2 }
/-- com/example/escrowd/escrowd/client/SecretPolicy -/
def k3 : Class := { plain "com/example/escrowd/escrowd/client/SecretPolicy" (some 2) with
  accessFlags := 49
  interfaces := #[]
  cf := some (fileOf pool3 7 #[] #[{ accessFlags := 1, nameIndex := 5, descriptorIndex := 54, attributes := #[] }, { accessFlags := 1, nameIndex := 5, descriptorIndex := 159, attributes := #[] }, { accessFlags := 1, nameIndex := 165, descriptorIndex := 27, attributes := #[] }] 49 2 #[] #[{ accessFlags := 18, nameIndex := 36, descriptorIndex := 37, attributes := #[] }, { accessFlags := 18, nameIndex := 40, descriptorIndex := 37, attributes := #[] }, { accessFlags := 18, nameIndex := 43, descriptorIndex := 37, attributes := #[] }, { accessFlags := 18, nameIndex := 46, descriptorIndex := 47, attributes := #[] }, { accessFlags := 25, nameIndex := 146, descriptorIndex := 37, attributes := #[] }, { accessFlags := 26, nameIndex := 148, descriptorIndex := 149, attributes := #[] }, { accessFlags := 26, nameIndex := 150, descriptorIndex := 149, attributes := #[] }, { accessFlags := 26, nameIndex := 151, descriptorIndex := 149, attributes := #[] }, { accessFlags := 26, nameIndex := 152, descriptorIndex := 149, attributes := #[] }, { accessFlags := 25, nameIndex := 141, descriptorIndex := 58, attributes := #[] }, { accessFlags := 26, nameIndex := 57, descriptorIndex := 58, attributes := #[] }])
  fields := #[{ name := "secretExpiration", type := .long, accessFlags := 18, slot := 0, constantValue := 0 }, { name := "rotatedSecretExpiration", type := .long, accessFlags := 18, slot := 1, constantValue := 0 }, { name := "remainingExpirationForRotation", type := .long, accessFlags := 18, slot := 2, constantValue := 0 }, { name := "notifyBeforeExpiration", type := (.object "java/util/OptionalLong"), accessFlags := 18, slot := 3, constantValue := 0 }, { name := "MAX_SECONDS", type := .long, accessFlags := 25, slot := 0, constantValue := 0 }, { name := "SECRET_EXPIRATION", type := (.object "java/lang/String"), accessFlags := 26, slot := 1, constantValue := 0 }, { name := "ROTATED_SECRET_EXPIRATION", type := (.object "java/lang/String"), accessFlags := 26, slot := 2, constantValue := 0 }, { name := "REMAINING_EXPIRATION_FOR_ROTATION", type := (.object "java/lang/String"), accessFlags := 26, slot := 3, constantValue := 0 }, { name := "NOTIFY_BEFORE_EXPIRATION", type := (.object "java/lang/String"), accessFlags := 26, slot := 4, constantValue := 0 }, { name := "MEMBERS", type := (.object "java/util/List"), accessFlags := 25, slot := 5, constantValue := 0 }, { name := "REQUIRED", type := (.object "java/util/List"), accessFlags := 26, slot := 6, constantValue := 0 }]
  methods := #[k3m0, k3m1, k3m2]
  instanceTypes := #[.long, .long, .long, (.object "java/util/OptionalLong")]
  staticTypes := #[.long, (.object "java/lang/String"), (.object "java/lang/String"), (.object "java/lang/String"), (.object "java/lang/String"), (.object "java/util/List"), (.object "java/util/List")]
  resolved := Array.replicate 201 none
  statics := none }

def pool4 : Array CpInfo := pool [(2, .class_ 4), (1, u "java/lang/Object"), (0, u "<init>"), (0, u "()V"), (0, .fieldref 8 9), (0, .class_ 10), (0, .nameAndType 11 12), (0, u "java/util/OptionalLong"), (0, u "isPresent"), (0, u "Z"), (2, u "value"), (0, u "J"), (0, .fieldref 8 18), (0, .nameAndType 19 20), (0, u "EMPTY"), (0, u "Ljava/util/OptionalLong;"), (28, u "empty"), (46, u "()Ljava/util/OptionalLong;"), (2, u "()Z")] 38

def k4m0 : Method := { name := "<init>", desc := "()V", sig := { parameters := [], returnType := none }, accessFlags := 2, code := none }
def k4c1 : Code := { maxStack := 1, maxLocals := 0, code := jdk_2650_method_2_code, exceptionTable := #[], attributes := #[] }
def k4m1 : Method := { name := "empty", desc := "()Ljava/util/OptionalLong;", sig := { parameters := [], returnType := some (.object "java/util/OptionalLong") }, accessFlags := 9, code := some k4c1 }
def k4c2 : Code := { maxStack := 1, maxLocals := 1, code := jdk_2650_method_6_code, exceptionTable := #[], attributes := #[] }
def k4m2 : Method := { name := "isPresent", desc := "()Z", sig := { parameters := [], returnType := some .boolean }, accessFlags := 1, code := some k4c2 }
/-- java/util/OptionalLong -/
def k4 : Class := { plain "java/util/OptionalLong" (some 0) with
  accessFlags := 49
  interfaces := #[]
  cf := some (fileOf pool4 8 #[] #[{ accessFlags := 2, nameIndex := 5, descriptorIndex := 6, attributes := #[] }, { accessFlags := 9, nameIndex := 49, descriptorIndex := 96, attributes := #[] }, { accessFlags := 1, nameIndex := 11, descriptorIndex := 99, attributes := #[] }] 49 2 #[] #[{ accessFlags := 26, nameIndex := 19, descriptorIndex := 20, attributes := #[] }, { accessFlags := 18, nameIndex := 11, descriptorIndex := 12, attributes := #[] }, { accessFlags := 18, nameIndex := 15, descriptorIndex := 16, attributes := #[] }])
  fields := #[{ name := "EMPTY", type := (.object "java/util/OptionalLong"), accessFlags := 26, slot := 0, constantValue := 0 }, { name := "isPresent", type := .boolean, accessFlags := 18, slot := 0, constantValue := 0 }, { name := "value", type := .long, accessFlags := 18, slot := 1, constantValue := 0 }]
  methods := #[k4m0, k4m1, k4m2]
  instanceTypes := #[.boolean, .long]
  staticTypes := #[(.object "java/util/OptionalLong")]
  resolved := Array.replicate 138 none
  statics := some 0 }

def pool5 : Array CpInfo := pool [(1, .class_ 2), (0, u "java/lang/Math"), (1, .class_ 6), (1, u "java/lang/Object"), (0, u "<init>"), (0, u "()V"), (89, .class_ 100), (1, u "java/lang/Math$RandomNumberGeneratorHolder"), (20, u "(JJ)J"), (50, u "negativeZeroFloatBits"), (0, u "J"), (2, u "negativeZeroDoubleBits"), (24, u "min"), (43, u "$assertionsDisabled"), (0, u "Z"), (91, u "twoToTheDoubleScaleDown"), (0, u "D"), (4, u "twoToTheDoubleScaleUp"), (9, u "E"), (3, u "PI"), (2, u "TAU"), (2, u "DEGREES_TO_RADIANS"), (0, u "RADIANS_TO_DEGREES")] 94

def k5m0 : Method := { name := "<init>", desc := "()V", sig := { parameters := [], returnType := none }, accessFlags := 2, code := none }
def k5c1 : Code := { maxStack := 4, maxLocals := 4, code := jdk_29_method_70_code, exceptionTable := #[], attributes := #[] }
def k5m1 : Method := { name := "min", desc := "(JJ)J", sig := { parameters := [.long, .long], returnType := some .long }, accessFlags := 9, code := some k5c1 }
/-- java/lang/Math -/
def k5 : Class := { plain "java/lang/Math" (some 0) with
  accessFlags := 49
  interfaces := #[]
  cf := some (fileOf pool5 1 #[.nestMembers #[98]] #[{ accessFlags := 2, nameIndex := 7, descriptorIndex := 8, attributes := #[] }, { accessFlags := 9, nameIndex := 201, descriptorIndex := 121, attributes := #[] }] 49 4 #[] #[{ accessFlags := 25, nameIndex := 354, descriptorIndex := 339, attributes := #[] }, { accessFlags := 25, nameIndex := 358, descriptorIndex := 339, attributes := #[] }, { accessFlags := 25, nameIndex := 361, descriptorIndex := 339, attributes := #[] }, { accessFlags := 26, nameIndex := 364, descriptorIndex := 339, attributes := #[] }, { accessFlags := 26, nameIndex := 365, descriptorIndex := 339, attributes := #[] }, { accessFlags := 26, nameIndex := 172, descriptorIndex := 173, attributes := #[] }, { accessFlags := 26, nameIndex := 176, descriptorIndex := 173, attributes := #[] }, { accessFlags := 8, nameIndex := 344, descriptorIndex := 339, attributes := #[] }, { accessFlags := 8, nameIndex := 338, descriptorIndex := 339, attributes := #[] }, { accessFlags := 4120, nameIndex := 245, descriptorIndex := 246, attributes := #[] }])
  fields := #[{ name := "E", type := .double, accessFlags := 25, slot := 0, constantValue := 0 }, { name := "PI", type := .double, accessFlags := 25, slot := 1, constantValue := 0 }, { name := "TAU", type := .double, accessFlags := 25, slot := 2, constantValue := 0 }, { name := "DEGREES_TO_RADIANS", type := .double, accessFlags := 26, slot := 3, constantValue := 0 }, { name := "RADIANS_TO_DEGREES", type := .double, accessFlags := 26, slot := 4, constantValue := 0 }, { name := "negativeZeroFloatBits", type := .long, accessFlags := 26, slot := 5, constantValue := 0 }, { name := "negativeZeroDoubleBits", type := .long, accessFlags := 26, slot := 6, constantValue := 0 }, { name := "twoToTheDoubleScaleUp", type := .double, accessFlags := 8, slot := 7, constantValue := 0 }, { name := "twoToTheDoubleScaleDown", type := .double, accessFlags := 8, slot := 8, constantValue := 0 }, { name := "$assertionsDisabled", type := .boolean, accessFlags := 4120, slot := 9, constantValue := 0 }]
  methods := #[k5m0, k5m1]
  instanceTypes := #[]
  staticTypes := #[.double, .double, .double, .double, .double, .long, .long, .double, .double, .boolean]
  resolved := Array.replicate 460 none
  statics := none }

def pool6 : Array CpInfo := pool [(1, u "java/lang/Cloneable"), (0, .class_ 1), (0, u "java/lang/Object"), (0, .class_ 3)] 3

/-- java/lang/Cloneable -/
def k6 : Class := { plain "java/lang/Cloneable" (some 0) with
  accessFlags := 1537
  interfaces := #[]
  cf := some (fileOf pool6 2 #[] #[] 1537 4 #[] #[])
  fields := #[]
  methods := #[]
  instanceTypes := #[]
  staticTypes := #[]
  resolved := Array.replicate 8 none
  statics := none }

def pool7 : Array CpInfo := pool [(1, u "java/io/Serializable"), (0, .class_ 1), (0, u "java/lang/Object"), (0, .class_ 3)] 3

/-- java/io/Serializable -/
def k7 : Class := { plain "java/io/Serializable" (some 0) with
  accessFlags := 1537
  interfaces := #[]
  cf := some (fileOf pool7 2 #[] #[] 1537 4 #[] #[])
  fields := #[]
  methods := #[]
  instanceTypes := #[]
  staticTypes := #[]
  resolved := Array.replicate 8 none
  statics := none }

/-- the primitive byte -/
def k8 : Class := { plain "byte" none with kind := .primitive 'B', accessFlags := 0x411 }
/-- [B -/
def k9 : Class := { plain "[B" (some 0) with kind := .array 8 .byte, interfaces := #[6, 7], accessFlags := 1041 }

/-- the primitive int -/
def k10 : Class := { plain "int" none with kind := .primitive 'I', accessFlags := 0x411 }
/-- [I -/
def k11 : Class := { plain "[I" (some 0) with kind := .array 10 .int, interfaces := #[6, 7], accessFlags := 1041 }

def heap : Heap := #[{ cls := 4, slots := #[.ref 1], vm := .statics 4 },
  { cls := 4, slots := #[.int 0, .long 0], vm := .none }]
def classes : Array Class := #[k0, k1, k2, k3, k4, k5, k6, k7, k8, k9, k10, k11]
def interned : List (Array UInt16 × Addr) := []
def slotsUsed : Nat := 3
def theMethod : MethodId := ⟨1, 1⟩
def args0 : Array Value := #[.long 5, .long 6, .long 7]
def aboutOver (below : List Frame) : State where
  vm := { classes := classes, interned := interned.toArray }
  heap := heap
  slotsUsed := slotsUsed
  threads := #[{ frames := .invoking theMethod args0 :: below }]
def below0 : List Frame := [.native { method := ⟨0, 0⟩, args := #[] }]
def about1 : State := aboutOver below0
def p0 : Program := .bare "" "" ""
def e0 : Env := launch0.env 0 0 0
theorem w_frames : about1.frames = Frame.invoking theMethod args0 :: below0 := rfl
set_option maxRecDepth 65536 in
theorem w_args : argsFit about1.vm theMethod args0 = true := by decide +kernel
set_option maxRecDepth 65536 in
theorem w_heap : heapFits about1 = true := by decide +kernel
set_option maxRecDepth 65536 in
theorem w_runnable : about1.curStatus? = some .runnable := by decide +kernel
set_option maxRecDepth 65536 in
theorem w_alone : about1.alone = true := by decide +kernel
set_option maxRecDepth 65536 in
theorem w_named : about1.methodNamed? x = some theMethod := by decide +kernel
set_option maxRecDepth 65536 in
theorem w_hears : about1.hears theMethod below0 = true := by decide +kernel
set_option maxRecDepth 65536 in
theorem w_ripe : about1.ripe theMethod args0 below0 = true := by decide +kernel
theorem w_running : about1.status = .running := rfl
set_option maxRecDepth 65536 in
theorem w_room : about1.hasRoom e0.platform room_1 = true :=
  launch0.hasRoom_least _ room_1 (by decide +kernel) (by decide +kernel) (by decide +kernel) (by decide +kernel) (by decide +kernel) (by decide +kernel)
theorem allAtoms_all (ts : List Jvm.Cond) (a : Array Jvm.Value) (st : Jvm.State) : (allAtoms ts).before a st = ts.all (fun c => c.before a st) := by
  induction ts with
  | nil => rfl
  | cons c t ih =>
    show (Jvm.Cond.and c (allAtoms t)).before a st = _
    rw [Jvm.Cond.before_and, ih, List.all_cons]
def words1 : List Jvm.Cond := Jvm.Cond.code x code maxLocals ret :: tables_1
/-- a 'code' word, met by the world's own term for the bytes: nothing is compared byte by byte -/
theorem code_word {y : MethodName} {bytes : ByteArray} {mx : Nat} {rt : Option FieldType} {a : Array Value} {s : State} {m : MethodId} {meth : Method} {c : Code} (h1 : s.methodNamed? y = some m) (h2 : s.vm.method? m = some meth) (h3 : meth.code = some c) (h4 : c.code = bytes)
    (h5 : (c.maxLocals == mx && c.exceptionTable.isEmpty && decide (c.maxStack ≤ mostOperands) && decide (meth.sig.returnType = rt) && !meth.locks && decide (parseMethodDescriptor y.desc = some meth.sig)) = true) : (Jvm.Cond.code y bytes mx rt).before a s = true := by
  simp only [Bool.and_eq_true, beq_iff_eq, Bool.not_eq_true', decide_eq_true_eq] at h5
  obtain ⟨⟨⟨⟨⟨g1, g2⟩, g3⟩, g4⟩, g5⟩, g6⟩ := h5
  simp [Cond.before, Cond.holds, Cond.value, h1, h2, h3, h4, g1, g2, g3, g4, g5, g6]
def isCode : Jvm.Cond → Bool
  | .code _ _ _ _ => true
  | _ => false
theorem all_split {L : List Jvm.Cond} {P : Jvm.Cond → Bool} (h1 : L.all (fun c => isCode c || P c) = true) (h2 : ∀ c ∈ L.filter isCode, P c = true) : L.all P = true := by
  refine List.all_eq_true.mpr fun c hc => ?_
  have h := List.all_eq_true.mp h1 c hc
  rcases Bool.eq_false_or_eq_true (isCode c) with hi | hi
  · exact h2 c (List.mem_filter.mpr ⟨hc, hi⟩)
  · simpa [hi] using h
set_option maxRecDepth 65536 in
theorem w_c0 : (Jvm.Cond.code x code maxLocals ret).before args0 about1 = true := code_word (m := ⟨1, 1⟩) (meth := k1m1) (c := k1c1) (by decide +kernel) rfl rfl rfl (by decide +kernel)
set_option maxRecDepth 65536 in
theorem w_c1 : (Jvm.Cond.code ({ cls := "com/example/escrowd/escrowd/client/SecretPolicy", name := "<init>", desc := "(JJJ)V" } : Jvm.MethodName) prog_25_method_2_code (7 : Nat) (Option.none : Option Jvm.ClassFile.FieldType)).before args0 about1 = true := code_word (m := ⟨3, 1⟩) (meth := k3m1) (c := k3c1) (by decide +kernel) rfl rfl rfl (by decide +kernel)
set_option maxRecDepth 65536 in
theorem w_c2 : (Jvm.Cond.code ({ cls := "java/util/OptionalLong", name := "empty", desc := "()Ljava/util/OptionalLong;" } : Jvm.MethodName) jdk_2650_method_2_code (0 : Nat) (Option.some (Jvm.ClassFile.FieldType.object "java/util/OptionalLong"))).before args0 about1 = true := code_word (m := ⟨4, 1⟩) (meth := k4m1) (c := k4c1) (by decide +kernel) rfl rfl rfl (by decide +kernel)
set_option maxRecDepth 65536 in
theorem w_c3 : (Jvm.Cond.code ({ cls := "com/example/escrowd/escrowd/client/SecretPolicy", name := "<init>", desc := "(JJJLjava/util/OptionalLong;)V" } : Jvm.MethodName) prog_25_method_1_code (8 : Nat) (Option.none : Option Jvm.ClassFile.FieldType)).before args0 about1 = true := code_word (m := ⟨3, 0⟩) (meth := k3m0) (c := k3c0) (by decide +kernel) rfl rfl rfl (by decide +kernel)
set_option maxRecDepth 65536 in
theorem w_c4 : (Jvm.Cond.code ({ cls := "java/lang/Record", name := "<init>", desc := "()V" } : Jvm.MethodName) jdk_30_method_1_code (1 : Nat) (Option.none : Option Jvm.ClassFile.FieldType)).before args0 about1 = true := code_word (m := ⟨2, 0⟩) (meth := k2m0) (c := k2c0) (by decide +kernel) rfl rfl rfl (by decide +kernel)
set_option maxRecDepth 65536 in
theorem w_c5 : (Jvm.Cond.code ({ cls := "java/lang/Object", name := "<init>", desc := "()V" } : Jvm.MethodName) object_method_1_code (1 : Nat) (Option.none : Option Jvm.ClassFile.FieldType)).before args0 about1 = true := code_word (m := ⟨0, 0⟩) (meth := k0m0) (c := k0c0) (by decide +kernel) rfl rfl rfl (by decide +kernel)
set_option maxRecDepth 65536 in
theorem w_c6 : (Jvm.Cond.code ({ cls := "java/util/OptionalLong", name := "isPresent", desc := "()Z" } : Jvm.MethodName) jdk_2650_method_6_code (1 : Nat) (Option.some Jvm.ClassFile.FieldType.boolean)).before args0 about1 = true := code_word (m := ⟨4, 2⟩) (meth := k4m2) (c := k4c2) (by decide +kernel) rfl rfl rfl (by decide +kernel)
set_option maxRecDepth 65536 in
theorem w_c7 : (Jvm.Cond.code ({ cls := "com/example/escrowd/escrowd/client/SecretPolicy", name := "keepsRotatedSecrets", desc := "()Z" } : Jvm.MethodName) prog_25_method_5_code (1 : Nat) (Option.some Jvm.ClassFile.FieldType.boolean)).before args0 about1 = true := code_word (m := ⟨3, 2⟩) (meth := k3m2) (c := k3c2) (by decide +kernel) rfl rfl rfl (by decide +kernel)
set_option maxRecDepth 65536 in
theorem w_c8 : (Jvm.Cond.code ({ cls := "java/lang/Math", name := "min", desc := "(JJ)J" } : Jvm.MethodName) jdk_29_method_70_code (4 : Nat) (Option.some Jvm.ClassFile.FieldType.long)).before args0 about1 = true := code_word (m := ⟨5, 1⟩) (meth := k5m1) (c := k5c1) (by decide +kernel) rfl rfl rfl (by decide +kernel)
def codes1 : List Jvm.Cond := [Jvm.Cond.code x code maxLocals ret, Jvm.Cond.code ({ cls := "com/example/escrowd/escrowd/client/SecretPolicy", name := "<init>", desc := "(JJJ)V" } : Jvm.MethodName) prog_25_method_2_code (7 : Nat) (Option.none : Option Jvm.ClassFile.FieldType), Jvm.Cond.code ({ cls := "java/util/OptionalLong", name := "empty", desc := "()Ljava/util/OptionalLong;" } : Jvm.MethodName) jdk_2650_method_2_code (0 : Nat) (Option.some (Jvm.ClassFile.FieldType.object "java/util/OptionalLong")), Jvm.Cond.code ({ cls := "com/example/escrowd/escrowd/client/SecretPolicy", name := "<init>", desc := "(JJJLjava/util/OptionalLong;)V" } : Jvm.MethodName) prog_25_method_1_code (8 : Nat) (Option.none : Option Jvm.ClassFile.FieldType), Jvm.Cond.code ({ cls := "java/lang/Record", name := "<init>", desc := "()V" } : Jvm.MethodName) jdk_30_method_1_code (1 : Nat) (Option.none : Option Jvm.ClassFile.FieldType), Jvm.Cond.code ({ cls := "java/lang/Object", name := "<init>", desc := "()V" } : Jvm.MethodName) object_method_1_code (1 : Nat) (Option.none : Option Jvm.ClassFile.FieldType), Jvm.Cond.code ({ cls := "java/util/OptionalLong", name := "isPresent", desc := "()Z" } : Jvm.MethodName) jdk_2650_method_6_code (1 : Nat) (Option.some Jvm.ClassFile.FieldType.boolean), Jvm.Cond.code ({ cls := "com/example/escrowd/escrowd/client/SecretPolicy", name := "keepsRotatedSecrets", desc := "()Z" } : Jvm.MethodName) prog_25_method_5_code (1 : Nat) (Option.some Jvm.ClassFile.FieldType.boolean), Jvm.Cond.code ({ cls := "java/lang/Math", name := "min", desc := "(JJ)J" } : Jvm.MethodName) jdk_29_method_70_code (4 : Nat) (Option.some Jvm.ClassFile.FieldType.long)]
set_option maxRecDepth 65536 in
theorem codes_eq : words1.filter isCode = codes1 := rfl
theorem w_codes : ∀ c ∈ words1.filter isCode, c.before args0 about1 = true := by
  rw [codes_eq]
  intro c hc
  simp only [codes1, List.mem_cons, List.not_mem_nil, or_false] at hc
  rcases hc with rfl | rfl | rfl | rfl | rfl | rfl | rfl | rfl | rfl
  · exact w_c0
  · exact w_c1
  · exact w_c2
  · exact w_c3
  · exact w_c4
  · exact w_c5
  · exact w_c6
  · exact w_c7
  · exact w_c8
set_option maxRecDepth 65536 in
theorem w_t1 : (words1.take 24).all (fun c => isCode c || c.before args0 about1) = true := by decide +kernel
set_option maxRecDepth 65536 in
theorem w_t2 : ((words1.drop 24).take 24).all (fun c => isCode c || c.before args0 about1) = true := by decide +kernel
set_option maxRecDepth 65536 in
theorem w_t3 : ((words1.drop 24).drop 24).all (fun c => isCode c || c.before args0 about1) = true := by decide +kernel
theorem w_tables : (allAtoms (Jvm.Cond.code x code maxLocals ret :: tables_1)).before args0 about1 = true := by
  rw [allAtoms_all]
  show words1.all (fun c => c.before args0 about1) = true
  refine all_split ?_ w_codes
  rw [← List.take_append_drop 24 words1, List.all_append, w_t1, ← List.take_append_drop 24 (words1.drop 24), List.all_append, w_t2, w_t3]
  rfl
set_option maxRecDepth 65536 in
theorem w_rest : rest_1_c.before args0 about1 = true := by decide +kernel
set_option maxRecDepth 65536 in
theorem w_case : (Jvm.Cond.and given_1 narrow_1).before args0 about1 = true := by decide +kernel
theorem w_applies : (headSpec (Jvm.Cond.code x code maxLocals ret :: tables_1) room_1).applies x e0.platform about1 = true :=
  (Spec.applies_iff w_frames).mpr ⟨w_running, w_runnable, w_alone, w_named, w_hears, w_ripe, w_room, w_tables⟩
theorem atStart : AtStart classFile x code maxLocals ret World_1 tables_1 room_1 Calls_1 rest_1 Pre_1 launch0 p0 e0 about1 theMethod args0 below0 :=
  ⟨lists_1, trivial, launch0.admits_env _ _ _, launch0.least_env, fairChoices_fair.cas, fairChoices_fair.clock, w_frames, w_args, w_heap, w_applies, trivial, w_rest, w_case⟩
end start1
theorem witness_1 : WitnessClaimed_1 := ⟨start1.p0, start1.e0, start1.about1, start1.theMethod, start1.args0, start1.below0, start1.atStart⟩
end Jvm.Pilot.@@N@@
