import JvmDerived
import JvmDerived.Pilot.@@N@@Statement
import JvmDerived.Pilot.@@N@@Code
set_option linter.unusedVariables false
set_option linter.unusedSimpArgs false
namespace Jvm.RoadKit
open Sem ClassFile Op Lib Jvm.Stand Jvm.Free Jvm.LawKit
section New
variable {p : Program} {l : Launch} {e : Env} {R : Room} {s : State} {m : MethodId} {args : Array Value} {below : List Frame} {meth : Method} {c : Code} {T : State} {locs : List Loc} {cells slots : Nat}
theorem retI (X : Stand p l e R s m args below meth c T locs cells slots) (hx : p.tables.exec = Jvm.exec) {pc : Nat} {Ls : Array Slot} {z : Int32} {rest : List Value} (hret : meth.sig.returnType = some .int) (hd : decode c.code pc = .ok (.ireturn, 1)) {fs : List Frame}
    (hl : ∀ (f : JFrame) (acts : List Action), f.method = m → f.locked = none → f.entered = [] → (doReturn e (T.setTop f) acts (some (.int z))).1 = T.setFrames fs) : Steps p.tables e below (T.setTop (mkF m pc Ls (.int z :: rest))) (T.setFrames fs) := by
  have hm' : T.vm.method? m = some meth := X.method'
  have hn : narrow .int (.int z) = .int z := rfl
  show Steps p.tables e below (T.setTop { method := m, pc := pc, locals := Ls, stack := _ :: rest, locked := none }) _
  jvm_step X.here [X.here.top, hx, hd, hm', hret, hn]
  first | (intro acts; rw [hl _ acts rfl rfl rfl]) | rw [hl _ _ rfl rfl rfl]
  exact Steps.refl _
end New
end Jvm.RoadKit
namespace Jvm.Pilot.@@N@@
open Jvm Jvm.ClassFile Sem Op Lib Jvm.Free Jvm.Stand Jvm.LawKit Jvm.RoadKit Bundle Jvm.Pilot.@@N@@.Jvm.D
theorem own_fldI {args : Array Value} {s : State} {t : Term} {C n d : String} {w : Addr} {i : Int32} (ht : t.eval args s none [] s = some (.ref w)) (h : (Cond.eq (.field t C n d) (.int i)).value args s none s [] = some true) : Fld s s.heap w C n d (.int i) := by
  refine Fld.start ?_
  have e1 : (Term.field t C n d).eval args s none [] s = s.fieldOf? w C n d := fld_at ht
  obtain ⟨x, y, ex, ey, k1, k2⟩ := cmp_v (Or.inl h)
  have hy : y = .int i := Option.some.inj (ey.symm.trans (Term.int_eval i))
  subst hy
  obtain ⟨z, rfl⟩ := k2
  have hz : z = i := by
    have := h
    simp only [Cond.value, ex, ey] at this
    simpa using this
  subst hz
  rw [← e1]; exact ex
theorem own_fldR {args : Array Value} {s : State} {t u : Term} {C n d : String} {w b : Addr} (ht : t.eval args s none [] s = some (.ref w)) (hu : u.eval args s none [] s = some (.ref b)) (h : (Cond.eq (.field t C n d) u).value args s none s [] = some true) : Fld s s.heap w C n d (.ref b) := by
  refine Fld.start ?_
  have e1 : (Term.field t C n d).eval args s none [] s = s.fieldOf? w C n d := fld_at ht
  obtain ⟨x, y, ex, ey, k1, k2⟩ := cmp_v (Or.inl h)
  have hy : y = .ref b := Option.some.inj (ey.symm.trans hu)
  subst hy
  have hx : x.isRef = true := k2.2
  have := gotT (eq_R ex ey hx rfl) h
  subst this
  rw [← e1]; exact ex
theorem ef_1 (m : MethodId) (x0 : Addr) : entryFrame m #[(.ref x0)] 1 = mkF m 0 #[.val (.ref x0)] [] := by first | (simp [entryFrame, mkF, argsToLocals, Value.category]; done) | rfl
theorem pn_com_example_holdfast_holdfast_sql_Deferrability : plainName "com/example/holdfast/holdfast/sql/Deferrability" = true := by first | (simp [plainName, overriddenIn]; done) | decide +kernel
theorem d1_0 : decode prog_46_method_4_code 0 = .ok (.aload_n 0, 1) := by decide +kernel
theorem d1_1 : decode prog_46_method_4_code 1 = .ok (.getstatic 3, 3) := by decide +kernel
theorem d1_4 : decode prog_46_method_4_code 4 = .ok (.if_acmp .eq 7, 3) := by decide +kernel
theorem d1_11 : decode prog_46_method_4_code 11 = .ok (.iconst 0, 1) := by decide +kernel
theorem d1_12 : decode prog_46_method_4_code 12 = .ok (.ireturn, 1) := by decide +kernel
theorem d1_7 : decode prog_46_method_4_code 7 = .ok (.iconst 1, 1) := by decide +kernel
theorem d1_8 : decode prog_46_method_4_code 8 = .ok (.goto 4, 3) := by decide +kernel
def Q1 (Z : State) (a1 : Addr) (wN : Addr) (r : Int32) (h0 : Heap) (n0 : Nat) (v : Option Value) (h : Heap) (L : List Loc) : Prop := v = some (.int r) ∧ Fr n0 L ∧ h = h0
set_option maxRecDepth 65536 in
set_option maxHeartbeats 40000000 in
theorem rm1 (l : Launch) (Z : State) (a0 : Array Value) (hw : ∀ d ∈ tables_1, d.before a0 Z = true) (ws : List Jvm.Cond) (a1 : Addr) (wN : Addr) (r : Int32) (h0 : Heap) (n0 : Nat) (Z0 : n0 ≤ h0.size) (S_NOT_DEFERRABLE : Sta Z h0 "com/example/holdfast/holdfast/sql/Deferrability" "NOT_DEFERRABLE" "Lcom/example/holdfast/holdfast/sql/Deferrability;" (.ref wN)) (hr0 : (if a1 = wN then (0 : Int32) else 1) = r) :
    MetFree l (⟨"com/example/holdfast/holdfast/sql/Deferrability", "deferrable", "()Z"⟩ : MethodName) (head1 (Jvm.Cond.code (⟨"com/example/holdfast/holdfast/sql/Deferrability", "deferrable", "()Z"⟩ : MethodName) prog_46_method_4_code 1 (some .boolean) :: ws) ({ frames := 0, cells := 0, slots := 0, locals := 0 } : Room)) (fun a U => a = #[(.ref a1)] ∧ Z.Warmed39 U.vm ∧ U.heap = h0) (fun _ _ _ _ _ => True) (fun _ U o U' => ∃ v L, o = .returned v ∧ Q1 Z a1 wN r h0 n0 v U'.heap L ∧ FrameEnd U o U' L ({ frames := 0, cells := 0, slots := 0, locals := 0 } : Room).cells ({ frames := 0, cells := 0, slots := 0, locals := 0 } : Room).slots) := by
  refine MetFree.of_bodySF (plainFor_of_name pn_com_example_holdfast_holdfast_sql_Deferrability) hisR ?_
  intro p e s m args below meth c s₁ Bd hml0 hP hK
  obtain ⟨rfl, hZ, hh⟩ := hP
  have hx := Bd.exec
  have hby := Bd.bytes
  have hml : c.maxLocals = 1 := hml0
  have hown : s.vm.findClass "com/example/holdfast/holdfast/sql/Deferrability" = some m.cls := findClass_of_methodNamed Bd.named
  have hnm := (name_of_methodNamed Bd.named Bd.method).1
  have X0 : Stand p l e ({ frames := 0, cells := 0, slots := 0, locals := 0 } : Room) s m #[(.ref a1)] below meth c s₁ [] 0 0 := Stand.of_body Bd
  have e0 : s₁.heap = h0 := by rw [← hh, Bd.state]; rfl
  have N0 := Fr.nil n0
  have k0 : ∀ t, Steps p.tables e below (s₁.setTop (mkF m 0 #[.val (.ref a1)] [])) t → Steps p.tables e below (s₁.setTop (entryFrame m #[(.ref a1)] 1)) t := fun t k => castTop (ef_1 m a1) k
  have k1 : ∀ t, Steps p.tables e below (s₁.setTop (mkF m 1 #[.val (.ref a1)] [(.ref a1)])) t → Steps p.tables e below (s₁.setTop (entryFrame m #[(.ref a1)] 1)) t := fun t q => k0 t (by
      show Steps p.tables e below (s₁.setTop (mkF m 0 #[.val (.ref a1)] [])) _
      refine XS.aloadN X0.here hx rfl (hb hby d1_0) rfl rfl ?_
      exact q)
  obtain ⟨T2, X2, e2, st2⟩ := getS2 X0 hx hZ hown (host := "") (Or.inl (hw _ (List.mem_of_getElem? (i := 9) rfl))) Via.refl e0 (S_NOT_DEFERRABLE) (g := (mkF m 1 #[.val (.ref a1)] [(.ref a1)])) rfl (hb hby d1_1)
  have k3 : ∀ t, Steps p.tables e below (T2.setTop (mkF m 4 #[.val (.ref a1)] [(.ref wN), (.ref a1)])) t → Steps p.tables e below (s₁.setTop (entryFrame m #[(.ref a1)] 1)) t := fun t q => k1 t (st2 t q)
  by_cases ha4 : a1 = wN
  · have k4 : ∀ t, Steps p.tables e below (T2.setTop (mkF m 12 #[.val (.ref a1)] [(.int (0 : Int32))])) t → Steps p.tables e below (s₁.setTop (entryFrame m #[(.ref a1)] 1)) t := fun t q => k3 t (by
        show Steps p.tables e below (T2.setTop (mkF m 4 #[.val (.ref a1)] [(.ref wN), (.ref a1)])) _
        refine Jvm.RoadKit.acmp (g := (mkF m 4 #[.val (.ref a1)] [(.ref wN), (.ref a1)])) X2 hx rfl rfl rfl (pc0 := 4) (pc' := 11) (same := true) rfl (hb hby d1_4) rfl (decide_eq_true (congrArg Value.ref (ha4 : a1 = wN))) (by decide) (by decide) ?_
        show Steps p.tables e below (T2.setTop (mkF m 11 #[.val (.ref a1)] [])) _
        refine XS.iconst X2.here hx rfl (hb hby d1_11) ?_
        exact q)
    obtain ⟨fs, hr, hrun, hended, hW, hsame⟩ := X2.leave (v := some (.int (0 : Int32))) (fun h => by rw [Bd.returns] at h; cases h)
    refine ⟨_, _, k4 _ ?_, hrun, hended, _, _, rfl, ?_, ⟨_, rfl⟩, hW, hsame.mono (by decide) (by decide)⟩
    · exact retN X2 hx (t := .boolean) Bd.returns (by simp) (hb hby d1_12) hr
    · show Q1 Z a1 wN r h0 n0 _ T2.heap _
      rw [e2]
      exact ⟨by rw [if_pos ha4] at hr0; rw [← hr0], N0, rfl⟩
  · have k5 : ∀ t, Steps p.tables e below (T2.setTop (mkF m 12 #[.val (.ref a1)] [(.int (1 : Int32))])) t → Steps p.tables e below (s₁.setTop (entryFrame m #[(.ref a1)] 1)) t := fun t q => k3 t (by
        show Steps p.tables e below (T2.setTop (mkF m 4 #[.val (.ref a1)] [(.ref wN), (.ref a1)])) _
        refine Jvm.RoadKit.acmp (g := (mkF m 4 #[.val (.ref a1)] [(.ref wN), (.ref a1)])) X2 hx rfl rfl rfl (pc0 := 4) (pc' := 7) (same := false) rfl (hb hby d1_4) rfl (decide_eq_false fun q => (ha4 : ¬ (a1 = wN)) (Value.ref.inj q)) (by decide) (by decide) ?_
        show Steps p.tables e below (T2.setTop (mkF m 7 #[.val (.ref a1)] [])) _
        refine XS.iconst X2.here hx rfl (hb hby d1_7) ?_
        show Steps p.tables e below (T2.setTop (mkF m 8 #[.val (.ref a1)] [(.int (1 : Int32))])) _
        refine XS.goto X2.here hx rfl (pc0 := 8) (pc' := 12) rfl (hb hby d1_8) (by decide) (by decide) ?_
        exact q)
    obtain ⟨fs, hr, hrun, hended, hW, hsame⟩ := X2.leave (v := some (.int (1 : Int32))) (fun h => by rw [Bd.returns] at h; cases h)
    refine ⟨_, _, k5 _ ?_, hrun, hended, _, _, rfl, ?_, ⟨_, rfl⟩, hW, hsame.mono (by decide) (by decide)⟩
    · exact retN X2 hx (t := .boolean) Bd.returns (by simp) (hb hby d1_12) hr
    · show Q1 Z a1 wN r h0 n0 _ T2.heap _
      rw [e2]
      exact ⟨by rw [if_neg ha4] at hr0; rw [← hr0], N0, rfl⟩
theorem ef_2 (m : MethodId) (x0 : Addr) : entryFrame m #[(.ref x0)] 1 = mkF m 0 #[.val (.ref x0)] [] := by first | (simp [entryFrame, mkF, argsToLocals, Value.category]; done) | rfl
theorem d2_0 : decode prog_46_method_5_code 0 = .ok (.aload_n 0, 1) := by decide +kernel
theorem d2_1 : decode prog_46_method_5_code 1 = .ok (.getfield 32, 3) := by decide +kernel
theorem d2_4 : decode prog_46_method_5_code 4 = .ok (.areturn, 1) := by decide +kernel
def Q2 (Z : State) (a1 : Addr) (r : Addr) (h0 : Heap) (n0 : Nat) (v : Option Value) (h : Heap) (L : List Loc) : Prop := v = some (.ref r) ∧ Fr n0 L ∧ h = h0
set_option maxRecDepth 65536 in
set_option maxHeartbeats 40000000 in
theorem rm2 (l : Launch) (Z : State) (a0 : Array Value) (hw : ∀ d ∈ tables_1, d.before a0 Z = true) (ws : List Jvm.Cond) (a1 : Addr) (r : Addr) (h0 : Heap) (n0 : Nat) (Z0 : n0 ≤ h0.size) (F_m : Fld Z h0 a1 "com/example/holdfast/holdfast/sql/Deferrability" "initialMode" "Lcom/example/holdfast/holdfast/sql/ConstraintMode;" (.ref r)) :
    MetFree l (⟨"com/example/holdfast/holdfast/sql/Deferrability", "initialMode", "()Lcom/example/holdfast/holdfast/sql/ConstraintMode;"⟩ : MethodName) (head1 (Jvm.Cond.code (⟨"com/example/holdfast/holdfast/sql/Deferrability", "initialMode", "()Lcom/example/holdfast/holdfast/sql/ConstraintMode;"⟩ : MethodName) prog_46_method_5_code 1 (some (.object "com/example/holdfast/holdfast/sql/ConstraintMode")) :: ws) ({ frames := 0, cells := 0, slots := 0, locals := 0 } : Room)) (fun a U => a = #[(.ref a1)] ∧ Z.Warmed39 U.vm ∧ U.heap = h0) (fun _ _ _ _ _ => True) (fun _ U o U' => ∃ v L, o = .returned v ∧ Q2 Z a1 r h0 n0 v U'.heap L ∧ FrameEnd U o U' L ({ frames := 0, cells := 0, slots := 0, locals := 0 } : Room).cells ({ frames := 0, cells := 0, slots := 0, locals := 0 } : Room).slots) := by
  refine MetFree.of_bodySF (plainFor_of_name pn_com_example_holdfast_holdfast_sql_Deferrability) hisR ?_
  intro p e s m args below meth c s₁ Bd hml0 hP hK
  obtain ⟨rfl, hZ, hh⟩ := hP
  have hx := Bd.exec
  have hby := Bd.bytes
  have hml : c.maxLocals = 1 := hml0
  have hown : s.vm.findClass "com/example/holdfast/holdfast/sql/Deferrability" = some m.cls := findClass_of_methodNamed Bd.named
  have hnm := (name_of_methodNamed Bd.named Bd.method).1
  have X0 : Stand p l e ({ frames := 0, cells := 0, slots := 0, locals := 0 } : Room) s m #[(.ref a1)] below meth c s₁ [] 0 0 := Stand.of_body Bd
  have e0 : s₁.heap = h0 := by rw [← hh, Bd.state]; rfl
  have N0 := Fr.nil n0
  have k0 : ∀ t, Steps p.tables e below (s₁.setTop (mkF m 0 #[.val (.ref a1)] [])) t → Steps p.tables e below (s₁.setTop (entryFrame m #[(.ref a1)] 1)) t := fun t k => castTop (ef_2 m a1) k
  have k1 : ∀ t, Steps p.tables e below (s₁.setTop (mkF m 1 #[.val (.ref a1)] [(.ref a1)])) t → Steps p.tables e below (s₁.setTop (entryFrame m #[(.ref a1)] 1)) t := fun t q => k0 t (by
      show Steps p.tables e below (s₁.setTop (mkF m 0 #[.val (.ref a1)] [])) _
      refine XS.aloadN X0.here hx rfl (hb hby d2_0) rfl rfl ?_
      exact q)
  obtain ⟨T2, X2, e2, st2⟩ := getF X0 hx hZ hown (host := "") (Or.inl (hw _ (List.mem_of_getElem? (i := 15) rfl))) Via.refl e0 (F_m) (g := (mkF m 1 #[.val (.ref a1)] [(.ref a1)])) rfl rfl (hb hby d2_1)
  have k3 : ∀ t, Steps p.tables e below (T2.setTop (mkF m 4 #[.val (.ref a1)] [(.ref r)])) t → Steps p.tables e below (s₁.setTop (entryFrame m #[(.ref a1)] 1)) t := fun t q => k1 t (st2 t q)
  obtain ⟨fs, hr, hrun, hended, hW, hsame⟩ := X2.leave (v := some (.ref r)) (fun h => by rw [Bd.returns] at h; cases h)
  refine ⟨_, _, k3 _ ?_, hrun, hended, _, _, rfl, ?_, ⟨_, rfl⟩, hW, hsame.mono (by decide) (by decide)⟩
  · exact retOut X2 hx Bd.returns rfl (Or.inr (Or.inr (Or.inr (Or.inr ⟨rfl, rfl, rfl⟩)))) (hb hby d2_4) hr
  · show Q2 Z a1 r h0 n0 _ T2.heap _
    rw [e2]
    exact ⟨rfl, N0, rfl⟩
theorem ef_L (m : MethodId) (x0 : Int32) : entryFrame m #[(.int x0)] maxLocals = mkF m 0 #[.val (.int x0), .unset, .unset, .unset, .unset, .unset] [] := by first | (simp [entryFrame, mkF, argsToLocals, Value.category, maxLocals]; done) | rfl
theorem pn_com_example_holdfast_holdfast_sql_DeferrabilityDeferrablePinLaw : plainName "com/example/holdfast/holdfast/sql/DeferrabilityDeferrablePinLaw" = true := by first | (simp [plainName, overriddenIn]; done) | decide +kernel
theorem pd___Z : parseMethodDescriptor "()Z" = some ⟨[], some .boolean⟩ := by decide +kernel
theorem pd___Lcom_example_holdfast_holdfast_sql_ConstraintMode_ : parseMethodDescriptor "()Lcom/example/holdfast/holdfast/sql/ConstraintMode;" = some ⟨[], some (.object "com/example/holdfast/holdfast/sql/ConstraintMode")⟩ := by decide +kernel
def QL (Z : State) (p1 : Int32) (wN : Addr) (wI : Addr) (wD : Addr) (mI : Addr) (mD : Addr) (h0 : Heap) (n0 : Nat) (v : Option Value) (h : Heap) (L : List Loc) : Prop := v = some (.int (1 : Int32)) ∧ Fr n0 L
set_option maxRecDepth 65536 in
set_option maxHeartbeats 40000000 in
theorem rmL (l : Launch) (Z : State) (a0 : Array Value) (hw : ∀ d ∈ tables_1, d.before a0 Z = true) (ws : List Jvm.Cond) (p1 : Int32) (wN : Addr) (wI : Addr) (wD : Addr) (mI : Addr) (mD : Addr) (h0 : Heap) (n0 : Nat) (Z0 : n0 ≤ h0.size) (S_NOT_DEFERRABLE : Sta Z h0 "com/example/holdfast/holdfast/sql/Deferrability" "NOT_DEFERRABLE" "Lcom/example/holdfast/holdfast/sql/Deferrability;" (.ref wN)) (S_INITIALLY_IMMEDIATE : Sta Z h0 "com/example/holdfast/holdfast/sql/Deferrability" "INITIALLY_IMMEDIATE" "Lcom/example/holdfast/holdfast/sql/Deferrability;" (.ref wI)) (S_INITIALLY_DEFERRED : Sta Z h0 "com/example/holdfast/holdfast/sql/Deferrability" "INITIALLY_DEFERRED" "Lcom/example/holdfast/holdfast/sql/Deferrability;" (.ref wD)) (S_DEFERRED : Sta Z h0 "com/example/holdfast/holdfast/sql/ConstraintMode" "DEFERRED" "Lcom/example/holdfast/holdfast/sql/ConstraintMode;" (.ref mD)) (E_wN : Exa Z h0 wN "com/example/holdfast/holdfast/sql/Deferrability") (E_wI : Exa Z h0 wI "com/example/holdfast/holdfast/sql/Deferrability") (E_wD : Exa Z h0 wD "com/example/holdfast/holdfast/sql/Deferrability") (F_wN : Fld Z h0 wN "com/example/holdfast/holdfast/sql/Deferrability" "initialMode" "Lcom/example/holdfast/holdfast/sql/ConstraintMode;" (.ref mI)) (F_wI : Fld Z h0 wI "com/example/holdfast/holdfast/sql/Deferrability" "initialMode" "Lcom/example/holdfast/holdfast/sql/ConstraintMode;" (.ref mI)) (F_wD : Fld Z h0 wD "com/example/holdfast/holdfast/sql/Deferrability" "initialMode" "Lcom/example/holdfast/holdfast/sql/ConstraintMode;" (.ref mD)) (hNI : wN ≠ wI) (hND : wN ≠ wD) (hm : mI ≠ mD) :
    MetFree l x (head1 (Jvm.Cond.code x code maxLocals ret :: ws) room_1) (fun a U => a = #[(.int p1)] ∧ Z.Warmed39 U.vm ∧ U.heap = h0) (fun _ _ _ _ _ => True) (fun _ U o U' => ∃ v L, o = .returned v ∧ QL Z p1 wN wI wD mI mD h0 n0 v U'.heap L ∧ FrameEnd U o U' L room_1.cells room_1.slots) := by
  refine MetFree.of_bodySF (plainFor_of_name pn_com_example_holdfast_holdfast_sql_DeferrabilityDeferrablePinLaw) hisR ?_
  intro p e s m args below meth c s₁ Bd hml0 hP hK
  obtain ⟨rfl, hZ, hh⟩ := hP
  have hx := Bd.exec
  have hby := Bd.bytes
  have hml : c.maxLocals = 6 := hml0
  have hown : s.vm.findClass "com/example/holdfast/holdfast/sql/DeferrabilityDeferrablePinLaw" = some m.cls := findClass_of_methodNamed Bd.named
  have hnm := (name_of_methodNamed Bd.named Bd.method).1
  have X0 : Stand p l e room_1 s m #[(.int p1)] below meth c s₁ [] 0 0 := Stand.of_body Bd
  have e0 : s₁.heap = h0 := by rw [← hh, Bd.state]; rfl
  have N0 := Fr.nil n0
  have k0 : ∀ t, Steps p.tables e below (s₁.setTop (mkF m 0 #[.val (.int p1), .unset, .unset, .unset, .unset, .unset] [])) t → Steps p.tables e below (s₁.setTop (entryFrame m #[(.int p1)] maxLocals)) t := fun t k => castTop (ef_L m p1) k
  have k1 : ∀ t, Steps p.tables e below (s₁.setTop (mkF m 8 #[.val (.int p1), .val (.int ((p1 &&& (2147483647 : Int32)) % (3 : Int32))), .unset, .unset, .unset, .unset] [(.int ((p1 &&& (2147483647 : Int32)) % (3 : Int32)))])) t → Steps p.tables e below (s₁.setTop (entryFrame m #[(.int p1)] maxLocals)) t := fun t q => k0 t (by
      show Steps p.tables e below (s₁.setTop (mkF m 0 #[.val (.int p1), .unset, .unset, .unset, .unset, .unset] [])) _
      refine XS.iloadN X0.here hx rfl (hb hby at_0) rfl ?_
      show Steps p.tables e below (s₁.setTop (mkF m 1 #[.val (.int p1), .unset, .unset, .unset, .unset, .unset] [(.int p1)])) _
      refine X0.ldcInt hx hown (mvT hZ (hw _ (List.mem_of_getElem? (i := 0) rfl))) (g := (mkF m 1 #[.val (.int p1), .unset, .unset, .unset, .unset, .unset] [(.int p1)])) rfl (hb hby at_1) _ ?_
      show Steps p.tables e below (s₁.setTop (mkF m 3 #[.val (.int p1), .unset, .unset, .unset, .unset, .unset] [(.int (2147483647 : Int32)), (.int p1)])) _
      refine XS.iand X0.here hx rfl (hb hby at_3) rfl ?_
      show Steps p.tables e below (s₁.setTop (mkF m 4 #[.val (.int p1), .unset, .unset, .unset, .unset, .unset] [(.int (p1 &&& (2147483647 : Int32)))])) _
      refine XS.iconst X0.here hx rfl (hb hby at_4) ?_
      show Steps p.tables e below (s₁.setTop (mkF m 5 #[.val (.int p1), .unset, .unset, .unset, .unset, .unset] [(.int (3 : Int32)), (.int (p1 &&& (2147483647 : Int32)))])) _
      refine iremM X0 hx rfl (hb hby at_5) rfl (by decide) ?_
      show Steps p.tables e below (s₁.setTop (mkF m 6 #[.val (.int p1), .unset, .unset, .unset, .unset, .unset] [(.int ((p1 &&& (2147483647 : Int32)) % (3 : Int32)))])) _
      refine XS.istoreN X0.here hx rfl (hb hby at_6) rfl (l' := #[.val (.int p1), .val (.int ((p1 &&& (2147483647 : Int32)) % (3 : Int32))), .unset, .unset, .unset, .unset]) rfl ?_
      show Steps p.tables e below (s₁.setTop (mkF m 7 #[.val (.int p1), .val (.int ((p1 &&& (2147483647 : Int32)) % (3 : Int32))), .unset, .unset, .unset, .unset] [])) _
      refine XS.iloadN X0.here hx rfl (hb hby at_7) rfl ?_
      exact q)
  by_cases hc8 : ((p1 &&& (2147483647 : Int32)) % (3 : Int32)) = (0 : Int32)
  · have k2 : ∀ t, Steps p.tables e below (s₁.setTop (mkF m 11 #[.val (.int p1), .val (.int ((p1 &&& (2147483647 : Int32)) % (3 : Int32))), .unset, .unset, .unset, .unset] [])) t → Steps p.tables e below (s₁.setTop (entryFrame m #[(.int p1)] maxLocals)) t := fun t q => k1 t (by
        show Steps p.tables e below (s₁.setTop (mkF m 8 #[.val (.int p1), .val (.int ((p1 &&& (2147483647 : Int32)) % (3 : Int32))), .unset, .unset, .unset, .unset] [(.int ((p1 &&& (2147483647 : Int32)) % (3 : Int32)))])) _
        refine XS.ifNo X0.here hx rfl (hb hby at_8) rfl ((if0 _ _).trans (teq (hc8 : ((p1 &&& (2147483647 : Int32)) % (3 : Int32)) = (0 : Int32))).2) ?_
        exact q)
    obtain ⟨T3, X3, e3, st3⟩ := getS2 X0 hx hZ hown (host := "") (Or.inl (hw _ (List.mem_of_getElem? (i := 1) rfl))) Via.refl e0 (S_NOT_DEFERRABLE) (g := (mkF m 11 #[.val (.int p1), .val (.int ((p1 &&& (2147483647 : Int32)) % (3 : Int32))), .unset, .unset, .unset, .unset] [])) rfl (hb hby at_11)
    have k4 : ∀ t, Steps p.tables e below (T3.setTop (mkF m 14 #[.val (.int p1), .val (.int ((p1 &&& (2147483647 : Int32)) % (3 : Int32))), .unset, .unset, .unset, .unset] [(.ref wN)])) t → Steps p.tables e below (s₁.setTop (entryFrame m #[(.int p1)] maxLocals)) t := fun t q => k2 t (st3 t q)
    have k5 : ∀ t, Steps p.tables e below (T3.setTop (mkF m 41 #[.val (.int p1), .val (.int ((p1 &&& (2147483647 : Int32)) % (3 : Int32))), .val (.ref wN), .val (.int (0 : Int32)), .unset, .unset] [(.ref wN)])) t → Steps p.tables e below (s₁.setTop (entryFrame m #[(.int p1)] maxLocals)) t := fun t q => k4 t (by
        show Steps p.tables e below (T3.setTop (mkF m 14 #[.val (.int p1), .val (.int ((p1 &&& (2147483647 : Int32)) % (3 : Int32))), .unset, .unset, .unset, .unset] [(.ref wN)])) _
        refine XS.astoreN X3.here hx rfl (hb hby at_14) rfl rfl (l' := #[.val (.int p1), .val (.int ((p1 &&& (2147483647 : Int32)) % (3 : Int32))), .val (.ref wN), .unset, .unset, .unset]) rfl ?_
        show Steps p.tables e below (T3.setTop (mkF m 15 #[.val (.int p1), .val (.int ((p1 &&& (2147483647 : Int32)) % (3 : Int32))), .val (.ref wN), .unset, .unset, .unset] [])) _
        refine XS.iconst X3.here hx rfl (hb hby at_15) ?_
        show Steps p.tables e below (T3.setTop (mkF m 16 #[.val (.int p1), .val (.int ((p1 &&& (2147483647 : Int32)) % (3 : Int32))), .val (.ref wN), .unset, .unset, .unset] [(.int (0 : Int32))])) _
        refine XS.istoreN X3.here hx rfl (hb hby at_16) rfl (l' := #[.val (.int p1), .val (.int ((p1 &&& (2147483647 : Int32)) % (3 : Int32))), .val (.ref wN), .val (.int (0 : Int32)), .unset, .unset]) rfl ?_
        show Steps p.tables e below (T3.setTop (mkF m 17 #[.val (.int p1), .val (.int ((p1 &&& (2147483647 : Int32)) % (3 : Int32))), .val (.ref wN), .val (.int (0 : Int32)), .unset, .unset] [])) _
        refine XS.goto X3.here hx rfl (pc0 := 17) (pc' := 40) rfl (hb hby at_17) (by decide) (by decide) ?_
        show Steps p.tables e below (T3.setTop (mkF m 40 #[.val (.int p1), .val (.int ((p1 &&& (2147483647 : Int32)) % (3 : Int32))), .val (.ref wN), .val (.int (0 : Int32)), .unset, .unset] [])) _
        refine XS.aloadN X3.here hx rfl (hb hby at_40) rfl rfl ?_
        exact q)
    obtain ⟨cq6, kq6, q6a, q6b, q6c⟩ := isOf hZ e3 (E_wN)
    obtain ⟨_, _, ⟨T6, L6, kk6, nn6⟩, -, X6, ⟨Lc6, hQ6, l6, y6, z6⟩, st6⟩ := X3.virtualBack hx (y := (⟨"com/example/holdfast/holdfast/sql/Deferrability", "deferrable", "()Z"⟩ : MethodName)) (z := (⟨"com/example/holdfast/holdfast/sql/Deferrability", "deferrable", "()Z"⟩ : MethodName)) hown (mvT hZ (hw _ (List.mem_of_getElem? (i := 4) rfl))) (mvT hZ (hw _ (List.mem_of_getElem? (i := 5) rfl))) (notFace_of_selects (args := #[]) (mvT hZ (hw _ (List.mem_of_getElem? (i := 7) rfl)))) (mvT hZ (hw _ (List.mem_of_getElem? (i := 7) rfl))) (mvT hZ (hw _ (List.mem_of_getElem? (i := 6) rfl))) (by decide) (backOf (W := 0) (rm1 l Z a0 hw [] wN wN (0 : Int32) h0 n0 Z0 S_NOT_DEFERRABLE (if_pos rfl)) hZ (hw _ (List.mem_of_getElem? (i := 8) rfl)) (hw _ (List.mem_of_getElem? (i := 2) rfl)) (by decide) (by decide)) q6a q6c (g := (mkF m 41 #[.val (.int p1), .val (.int ((p1 &&& (2147483647 : Int32)) % (3 : Int32))), .val (.ref wN), .val (.int (0 : Int32)), .unset, .unset] [(.ref wN)])) rfl (by rw [hml]; rfl) (Steps.refl _) (argsL := []) (rest := []) (lenOf pd___Z rfl) rfl (by show 2 * 0 + _ ≤ _; exact Nat.le_of_eq rfl) (hb hby at_41) (fun _ _ => ⟨rfl, e3, (by decide : 0 + 0 ≤ _), (by decide : 0 + 0 ≤ _)⟩)
    dsimp only [Pt.U, Pt.locs, Pt.cells, Pt.slots] at X6 l6 y6 z6 st6 hQ6
    subst l6 y6 z6
    obtain ⟨rfl, N6q, e6⟩ := hQ6
    have N6 := Fr.app N0 N6q
    have k7 : ∀ t, Steps p.tables e below (T6.setTop (mkF m 44 #[.val (.int p1), .val (.int ((p1 &&& (2147483647 : Int32)) % (3 : Int32))), .val (.ref wN), .val (.int (0 : Int32)), .unset, .unset] [(.int (0 : Int32))])) t → Steps p.tables e below (s₁.setTop (entryFrame m #[(.int p1)] maxLocals)) t := fun t q => k5 t (st6.trans q)
    have k8 : ∀ t, Steps p.tables e below (T6.setTop (mkF m 47 #[.val (.int p1), .val (.int ((p1 &&& (2147483647 : Int32)) % (3 : Int32))), .val (.ref wN), .val (.int (0 : Int32)), .val (.int (0 : Int32)), .unset] [(.ref wN)])) t → Steps p.tables e below (s₁.setTop (entryFrame m #[(.int p1)] maxLocals)) t := fun t q => k7 t (by
        show Steps p.tables e below (T6.setTop (mkF m 44 #[.val (.int p1), .val (.int ((p1 &&& (2147483647 : Int32)) % (3 : Int32))), .val (.ref wN), .val (.int (0 : Int32)), .unset, .unset] [(.int (0 : Int32))])) _
        refine XS.istore X6.here hx rfl (hb hby at_44) rfl (l' := #[.val (.int p1), .val (.int ((p1 &&& (2147483647 : Int32)) % (3 : Int32))), .val (.ref wN), .val (.int (0 : Int32)), .val (.int (0 : Int32)), .unset]) rfl ?_
        show Steps p.tables e below (T6.setTop (mkF m 46 #[.val (.int p1), .val (.int ((p1 &&& (2147483647 : Int32)) % (3 : Int32))), .val (.ref wN), .val (.int (0 : Int32)), .val (.int (0 : Int32)), .unset] [])) _
        refine XS.aloadN X6.here hx rfl (hb hby at_46) rfl rfl ?_
        exact q)
    obtain ⟨cq9, kq9, q9a, q9b, q9c⟩ := isOf hZ e6 (E_wN)
    obtain ⟨_, _, ⟨T9, L9, kk9, nn9⟩, -, X9, ⟨Lc9, hQ9, l9, y9, z9⟩, st9⟩ := X6.virtualBack hx (y := (⟨"com/example/holdfast/holdfast/sql/Deferrability", "initialMode", "()Lcom/example/holdfast/holdfast/sql/ConstraintMode;"⟩ : MethodName)) (z := (⟨"com/example/holdfast/holdfast/sql/Deferrability", "initialMode", "()Lcom/example/holdfast/holdfast/sql/ConstraintMode;"⟩ : MethodName)) hown (mvT hZ (hw _ (List.mem_of_getElem? (i := 10) rfl))) (mvT hZ (hw _ (List.mem_of_getElem? (i := 11) rfl))) (notFace_of_selects (args := #[]) (mvT hZ (hw _ (List.mem_of_getElem? (i := 13) rfl)))) (mvT hZ (hw _ (List.mem_of_getElem? (i := 13) rfl))) (mvT hZ (hw _ (List.mem_of_getElem? (i := 12) rfl))) (by decide) (backOf (W := 0) (rm2 l Z a0 hw [] wN mI h0 n0 Z0 F_wN) hZ (hw _ (List.mem_of_getElem? (i := 14) rfl)) (hw _ (List.mem_of_getElem? (i := 2) rfl)) (by decide) (by decide)) q9a q9c (g := (mkF m 47 #[.val (.int p1), .val (.int ((p1 &&& (2147483647 : Int32)) % (3 : Int32))), .val (.ref wN), .val (.int (0 : Int32)), .val (.int (0 : Int32)), .unset] [(.ref wN)])) rfl (by rw [hml]; rfl) (Steps.refl _) (argsL := []) (rest := []) (lenOf pd___Lcom_example_holdfast_holdfast_sql_ConstraintMode_ rfl) rfl (by show 2 * 0 + _ ≤ _; exact Nat.le_of_eq rfl) (hb hby at_47) (fun _ _ => ⟨rfl, e6, (by decide : 0 + 0 + 0 ≤ _), (by decide : 0 + 0 + 0 ≤ _)⟩)
    dsimp only [Pt.U, Pt.locs, Pt.cells, Pt.slots] at X9 l9 y9 z9 st9 hQ9
    subst l9 y9 z9
    obtain ⟨rfl, N9q, e9⟩ := hQ9
    have N9 := Fr.app N6 N9q
    have k10 : ∀ t, Steps p.tables e below (T9.setTop (mkF m 50 #[.val (.int p1), .val (.int ((p1 &&& (2147483647 : Int32)) % (3 : Int32))), .val (.ref wN), .val (.int (0 : Int32)), .val (.int (0 : Int32)), .unset] [(.ref mI)])) t → Steps p.tables e below (s₁.setTop (entryFrame m #[(.int p1)] maxLocals)) t := fun t q => k8 t (st9.trans q)
    obtain ⟨T11, X11, e11, st11⟩ := getS2 X9 hx hZ hown (host := "") (Or.inl (hw _ (List.mem_of_getElem? (i := 19) rfl))) Via.refl e9 (S_DEFERRED) (g := (mkF m 50 #[.val (.int p1), .val (.int ((p1 &&& (2147483647 : Int32)) % (3 : Int32))), .val (.ref wN), .val (.int (0 : Int32)), .val (.int (0 : Int32)), .unset] [(.ref mI)])) rfl (hb hby at_50)
    have k12 : ∀ t, Steps p.tables e below (T11.setTop (mkF m 53 #[.val (.int p1), .val (.int ((p1 &&& (2147483647 : Int32)) % (3 : Int32))), .val (.ref wN), .val (.int (0 : Int32)), .val (.int (0 : Int32)), .unset] [(.ref mD), (.ref mI)])) t → Steps p.tables e below (s₁.setTop (entryFrame m #[(.int p1)] maxLocals)) t := fun t q => k10 t (st11 t q)
    have k13 : ∀ t, Steps p.tables e below (T11.setTop (mkF m 84 #[.val (.int p1), .val (.int ((p1 &&& (2147483647 : Int32)) % (3 : Int32))), .val (.ref wN), .val (.int (0 : Int32)), .val (.int (0 : Int32)), .val (.int (1 : Int32))] [(.int (1 : Int32))])) t → Steps p.tables e below (s₁.setTop (entryFrame m #[(.int p1)] maxLocals)) t := fun t q => k12 t (by
        show Steps p.tables e below (T11.setTop (mkF m 53 #[.val (.int p1), .val (.int ((p1 &&& (2147483647 : Int32)) % (3 : Int32))), .val (.ref wN), .val (.int (0 : Int32)), .val (.int (0 : Int32)), .unset] [(.ref mD), (.ref mI)])) _
        refine Jvm.RoadKit.acmp (g := (mkF m 53 #[.val (.int p1), .val (.int ((p1 &&& (2147483647 : Int32)) % (3 : Int32))), .val (.ref wN), .val (.int (0 : Int32)), .val (.int (0 : Int32)), .unset] [(.ref mD), (.ref mI)])) X11 hx rfl rfl rfl (pc0 := 53) (pc' := 61) (same := false) rfl (hb hby at_53) rfl (decide_eq_false fun q => (hm : ¬ (mI = mD)) (Value.ref.inj q)) (by decide) (by decide) ?_
        show Steps p.tables e below (T11.setTop (mkF m 61 #[.val (.int p1), .val (.int ((p1 &&& (2147483647 : Int32)) % (3 : Int32))), .val (.ref wN), .val (.int (0 : Int32)), .val (.int (0 : Int32)), .unset] [])) _
        refine XS.iconst X11.here hx rfl (hb hby at_61) ?_
        show Steps p.tables e below (T11.setTop (mkF m 62 #[.val (.int p1), .val (.int ((p1 &&& (2147483647 : Int32)) % (3 : Int32))), .val (.ref wN), .val (.int (0 : Int32)), .val (.int (0 : Int32)), .unset] [(.int (1 : Int32))])) _
        refine XS.goto X11.here hx rfl (pc0 := 62) (pc' := 66) rfl (hb hby at_62) (by decide) (by decide) ?_
        show Steps p.tables e below (T11.setTop (mkF m 66 #[.val (.int p1), .val (.int ((p1 &&& (2147483647 : Int32)) % (3 : Int32))), .val (.ref wN), .val (.int (0 : Int32)), .val (.int (0 : Int32)), .unset] [(.int (1 : Int32))])) _
        refine XS.istore X11.here hx rfl (hb hby at_66) rfl (l' := #[.val (.int p1), .val (.int ((p1 &&& (2147483647 : Int32)) % (3 : Int32))), .val (.ref wN), .val (.int (0 : Int32)), .val (.int (0 : Int32)), .val (.int (1 : Int32))]) rfl ?_
        show Steps p.tables e below (T11.setTop (mkF m 68 #[.val (.int p1), .val (.int ((p1 &&& (2147483647 : Int32)) % (3 : Int32))), .val (.ref wN), .val (.int (0 : Int32)), .val (.int (0 : Int32)), .val (.int (1 : Int32))] [])) _
        refine XS.iload X11.here hx rfl (hb hby at_68) rfl ?_
        show Steps p.tables e below (T11.setTop (mkF m 70 #[.val (.int p1), .val (.int ((p1 &&& (2147483647 : Int32)) % (3 : Int32))), .val (.ref wN), .val (.int (0 : Int32)), .val (.int (0 : Int32)), .val (.int (1 : Int32))] [(.int (0 : Int32))])) _
        refine XS.iloadN X11.here hx rfl (hb hby at_70) rfl ?_
        show Steps p.tables e below (T11.setTop (mkF m 71 #[.val (.int p1), .val (.int ((p1 &&& (2147483647 : Int32)) % (3 : Int32))), .val (.ref wN), .val (.int (0 : Int32)), .val (.int (0 : Int32)), .val (.int (1 : Int32))] [(.int (0 : Int32)), (.int (0 : Int32))])) _
        refine XS.icmpNo X11.here hx rfl (hb hby at_71) rfl (teq (by decide : (0 : Int32) = (0 : Int32))).2 ?_
        show Steps p.tables e below (T11.setTop (mkF m 74 #[.val (.int p1), .val (.int ((p1 &&& (2147483647 : Int32)) % (3 : Int32))), .val (.ref wN), .val (.int (0 : Int32)), .val (.int (0 : Int32)), .val (.int (1 : Int32))] [])) _
        refine XS.iload X11.here hx rfl (hb hby at_74) rfl ?_
        show Steps p.tables e below (T11.setTop (mkF m 76 #[.val (.int p1), .val (.int ((p1 &&& (2147483647 : Int32)) % (3 : Int32))), .val (.ref wN), .val (.int (0 : Int32)), .val (.int (0 : Int32)), .val (.int (1 : Int32))] [(.int (1 : Int32))])) _
        refine XS.ifNo X11.here hx rfl (hb hby at_76) rfl ((if0 _ _).trans (feq (by decide : ¬ ((1 : Int32) = (0 : Int32)))).1) ?_
        show Steps p.tables e below (T11.setTop (mkF m 79 #[.val (.int p1), .val (.int ((p1 &&& (2147483647 : Int32)) % (3 : Int32))), .val (.ref wN), .val (.int (0 : Int32)), .val (.int (0 : Int32)), .val (.int (1 : Int32))] [])) _
        refine XS.iconst X11.here hx rfl (hb hby at_79) ?_
        show Steps p.tables e below (T11.setTop (mkF m 80 #[.val (.int p1), .val (.int ((p1 &&& (2147483647 : Int32)) % (3 : Int32))), .val (.ref wN), .val (.int (0 : Int32)), .val (.int (0 : Int32)), .val (.int (1 : Int32))] [(.int (1 : Int32))])) _
        refine XS.goto X11.here hx rfl (pc0 := 80) (pc' := 84) rfl (hb hby at_80) (by decide) (by decide) ?_
        exact q)
    obtain ⟨fs, hr, hrun, hended, hW, hsame⟩ := X11.leave (v := some (.int (1 : Int32))) (fun h => by rw [Bd.returns] at h; cases h)
    refine ⟨_, _, k13 _ ?_, hrun, hended, _, _, rfl, ?_, ⟨_, rfl⟩, hW, hsame.mono (by decide) (by decide)⟩
    · exact retN X11 hx (t := .boolean) Bd.returns (by simp) (hb hby at_84) hr
    · show QL Z p1 wN wI wD mI mD h0 n0 _ T11.heap _
      exact ⟨rfl, N9⟩
  · have k14 : ∀ t, Steps p.tables e below (s₁.setTop (mkF m 22 #[.val (.int p1), .val (.int ((p1 &&& (2147483647 : Int32)) % (3 : Int32))), .unset, .unset, .unset, .unset] [(.int (1 : Int32)), (.int ((p1 &&& (2147483647 : Int32)) % (3 : Int32)))])) t → Steps p.tables e below (s₁.setTop (entryFrame m #[(.int p1)] maxLocals)) t := fun t q => k1 t (by
        show Steps p.tables e below (s₁.setTop (mkF m 8 #[.val (.int p1), .val (.int ((p1 &&& (2147483647 : Int32)) % (3 : Int32))), .unset, .unset, .unset, .unset] [(.int ((p1 &&& (2147483647 : Int32)) % (3 : Int32)))])) _
        refine XS.ifYes X0.here hx rfl (pc0 := 8) (pc' := 20) rfl (hb hby at_8) rfl ((if0 _ _).trans (feq (hc8 : ¬ (((p1 &&& (2147483647 : Int32)) % (3 : Int32)) = (0 : Int32)))).2) (by decide) (by decide) ?_
        show Steps p.tables e below (s₁.setTop (mkF m 20 #[.val (.int p1), .val (.int ((p1 &&& (2147483647 : Int32)) % (3 : Int32))), .unset, .unset, .unset, .unset] [])) _
        refine XS.iloadN X0.here hx rfl (hb hby at_20) rfl ?_
        show Steps p.tables e below (s₁.setTop (mkF m 21 #[.val (.int p1), .val (.int ((p1 &&& (2147483647 : Int32)) % (3 : Int32))), .unset, .unset, .unset, .unset] [(.int ((p1 &&& (2147483647 : Int32)) % (3 : Int32)))])) _
        refine XS.iconst X0.here hx rfl (hb hby at_21) ?_
        exact q)
    by_cases hc22 : ((p1 &&& (2147483647 : Int32)) % (3 : Int32)) = (1 : Int32)
    · have k15 : ∀ t, Steps p.tables e below (s₁.setTop (mkF m 25 #[.val (.int p1), .val (.int ((p1 &&& (2147483647 : Int32)) % (3 : Int32))), .unset, .unset, .unset, .unset] [])) t → Steps p.tables e below (s₁.setTop (entryFrame m #[(.int p1)] maxLocals)) t := fun t q => k14 t (by
          show Steps p.tables e below (s₁.setTop (mkF m 22 #[.val (.int p1), .val (.int ((p1 &&& (2147483647 : Int32)) % (3 : Int32))), .unset, .unset, .unset, .unset] [(.int (1 : Int32)), (.int ((p1 &&& (2147483647 : Int32)) % (3 : Int32)))])) _
          refine XS.icmpNo X0.here hx rfl (hb hby at_22) rfl (teq (hc22 : ((p1 &&& (2147483647 : Int32)) % (3 : Int32)) = (1 : Int32))).2 ?_
          exact q)
      obtain ⟨T16, X16, e16, st16⟩ := getS2 X0 hx hZ hown (host := "") (Or.inl (hw _ (List.mem_of_getElem? (i := 23) rfl))) Via.refl e0 (S_INITIALLY_IMMEDIATE) (g := (mkF m 25 #[.val (.int p1), .val (.int ((p1 &&& (2147483647 : Int32)) % (3 : Int32))), .unset, .unset, .unset, .unset] [])) rfl (hb hby at_25)
      have k17 : ∀ t, Steps p.tables e below (T16.setTop (mkF m 28 #[.val (.int p1), .val (.int ((p1 &&& (2147483647 : Int32)) % (3 : Int32))), .unset, .unset, .unset, .unset] [(.ref wI)])) t → Steps p.tables e below (s₁.setTop (entryFrame m #[(.int p1)] maxLocals)) t := fun t q => k15 t (st16 t q)
      have k18 : ∀ t, Steps p.tables e below (T16.setTop (mkF m 41 #[.val (.int p1), .val (.int ((p1 &&& (2147483647 : Int32)) % (3 : Int32))), .val (.ref wI), .val (.int (1 : Int32)), .unset, .unset] [(.ref wI)])) t → Steps p.tables e below (s₁.setTop (entryFrame m #[(.int p1)] maxLocals)) t := fun t q => k17 t (by
          show Steps p.tables e below (T16.setTop (mkF m 28 #[.val (.int p1), .val (.int ((p1 &&& (2147483647 : Int32)) % (3 : Int32))), .unset, .unset, .unset, .unset] [(.ref wI)])) _
          refine XS.astoreN X16.here hx rfl (hb hby at_28) rfl rfl (l' := #[.val (.int p1), .val (.int ((p1 &&& (2147483647 : Int32)) % (3 : Int32))), .val (.ref wI), .unset, .unset, .unset]) rfl ?_
          show Steps p.tables e below (T16.setTop (mkF m 29 #[.val (.int p1), .val (.int ((p1 &&& (2147483647 : Int32)) % (3 : Int32))), .val (.ref wI), .unset, .unset, .unset] [])) _
          refine XS.iconst X16.here hx rfl (hb hby at_29) ?_
          show Steps p.tables e below (T16.setTop (mkF m 30 #[.val (.int p1), .val (.int ((p1 &&& (2147483647 : Int32)) % (3 : Int32))), .val (.ref wI), .unset, .unset, .unset] [(.int (1 : Int32))])) _
          refine XS.istoreN X16.here hx rfl (hb hby at_30) rfl (l' := #[.val (.int p1), .val (.int ((p1 &&& (2147483647 : Int32)) % (3 : Int32))), .val (.ref wI), .val (.int (1 : Int32)), .unset, .unset]) rfl ?_
          show Steps p.tables e below (T16.setTop (mkF m 31 #[.val (.int p1), .val (.int ((p1 &&& (2147483647 : Int32)) % (3 : Int32))), .val (.ref wI), .val (.int (1 : Int32)), .unset, .unset] [])) _
          refine XS.goto X16.here hx rfl (pc0 := 31) (pc' := 40) rfl (hb hby at_31) (by decide) (by decide) ?_
          show Steps p.tables e below (T16.setTop (mkF m 40 #[.val (.int p1), .val (.int ((p1 &&& (2147483647 : Int32)) % (3 : Int32))), .val (.ref wI), .val (.int (1 : Int32)), .unset, .unset] [])) _
          refine XS.aloadN X16.here hx rfl (hb hby at_40) rfl rfl ?_
          exact q)
      obtain ⟨cq19, kq19, q19a, q19b, q19c⟩ := isOf hZ e16 (E_wI)
      obtain ⟨_, _, ⟨T19, L19, kk19, nn19⟩, -, X19, ⟨Lc19, hQ19, l19, y19, z19⟩, st19⟩ := X16.virtualBack hx (y := (⟨"com/example/holdfast/holdfast/sql/Deferrability", "deferrable", "()Z"⟩ : MethodName)) (z := (⟨"com/example/holdfast/holdfast/sql/Deferrability", "deferrable", "()Z"⟩ : MethodName)) hown (mvT hZ (hw _ (List.mem_of_getElem? (i := 4) rfl))) (mvT hZ (hw _ (List.mem_of_getElem? (i := 5) rfl))) (notFace_of_selects (args := #[]) (mvT hZ (hw _ (List.mem_of_getElem? (i := 7) rfl)))) (mvT hZ (hw _ (List.mem_of_getElem? (i := 7) rfl))) (mvT hZ (hw _ (List.mem_of_getElem? (i := 6) rfl))) (by decide) (backOf (W := 0) (rm1 l Z a0 hw [] wI wN (1 : Int32) h0 n0 Z0 S_NOT_DEFERRABLE (if_neg (Ne.symm hNI))) hZ (hw _ (List.mem_of_getElem? (i := 8) rfl)) (hw _ (List.mem_of_getElem? (i := 2) rfl)) (by decide) (by decide)) q19a q19c (g := (mkF m 41 #[.val (.int p1), .val (.int ((p1 &&& (2147483647 : Int32)) % (3 : Int32))), .val (.ref wI), .val (.int (1 : Int32)), .unset, .unset] [(.ref wI)])) rfl (by rw [hml]; rfl) (Steps.refl _) (argsL := []) (rest := []) (lenOf pd___Z rfl) rfl (by show 2 * 0 + _ ≤ _; exact Nat.le_of_eq rfl) (hb hby at_41) (fun _ _ => ⟨rfl, e16, (by decide : 0 + 0 ≤ _), (by decide : 0 + 0 ≤ _)⟩)
      dsimp only [Pt.U, Pt.locs, Pt.cells, Pt.slots] at X19 l19 y19 z19 st19 hQ19
      subst l19 y19 z19
      obtain ⟨rfl, N19q, e19⟩ := hQ19
      have N19 := Fr.app N0 N19q
      have k20 : ∀ t, Steps p.tables e below (T19.setTop (mkF m 44 #[.val (.int p1), .val (.int ((p1 &&& (2147483647 : Int32)) % (3 : Int32))), .val (.ref wI), .val (.int (1 : Int32)), .unset, .unset] [(.int (1 : Int32))])) t → Steps p.tables e below (s₁.setTop (entryFrame m #[(.int p1)] maxLocals)) t := fun t q => k18 t (st19.trans q)
      have k21 : ∀ t, Steps p.tables e below (T19.setTop (mkF m 47 #[.val (.int p1), .val (.int ((p1 &&& (2147483647 : Int32)) % (3 : Int32))), .val (.ref wI), .val (.int (1 : Int32)), .val (.int (1 : Int32)), .unset] [(.ref wI)])) t → Steps p.tables e below (s₁.setTop (entryFrame m #[(.int p1)] maxLocals)) t := fun t q => k20 t (by
          show Steps p.tables e below (T19.setTop (mkF m 44 #[.val (.int p1), .val (.int ((p1 &&& (2147483647 : Int32)) % (3 : Int32))), .val (.ref wI), .val (.int (1 : Int32)), .unset, .unset] [(.int (1 : Int32))])) _
          refine XS.istore X19.here hx rfl (hb hby at_44) rfl (l' := #[.val (.int p1), .val (.int ((p1 &&& (2147483647 : Int32)) % (3 : Int32))), .val (.ref wI), .val (.int (1 : Int32)), .val (.int (1 : Int32)), .unset]) rfl ?_
          show Steps p.tables e below (T19.setTop (mkF m 46 #[.val (.int p1), .val (.int ((p1 &&& (2147483647 : Int32)) % (3 : Int32))), .val (.ref wI), .val (.int (1 : Int32)), .val (.int (1 : Int32)), .unset] [])) _
          refine XS.aloadN X19.here hx rfl (hb hby at_46) rfl rfl ?_
          exact q)
      obtain ⟨cq22, kq22, q22a, q22b, q22c⟩ := isOf hZ e19 (E_wI)
      obtain ⟨_, _, ⟨T22, L22, kk22, nn22⟩, -, X22, ⟨Lc22, hQ22, l22, y22, z22⟩, st22⟩ := X19.virtualBack hx (y := (⟨"com/example/holdfast/holdfast/sql/Deferrability", "initialMode", "()Lcom/example/holdfast/holdfast/sql/ConstraintMode;"⟩ : MethodName)) (z := (⟨"com/example/holdfast/holdfast/sql/Deferrability", "initialMode", "()Lcom/example/holdfast/holdfast/sql/ConstraintMode;"⟩ : MethodName)) hown (mvT hZ (hw _ (List.mem_of_getElem? (i := 10) rfl))) (mvT hZ (hw _ (List.mem_of_getElem? (i := 11) rfl))) (notFace_of_selects (args := #[]) (mvT hZ (hw _ (List.mem_of_getElem? (i := 13) rfl)))) (mvT hZ (hw _ (List.mem_of_getElem? (i := 13) rfl))) (mvT hZ (hw _ (List.mem_of_getElem? (i := 12) rfl))) (by decide) (backOf (W := 0) (rm2 l Z a0 hw [] wI mI h0 n0 Z0 F_wI) hZ (hw _ (List.mem_of_getElem? (i := 14) rfl)) (hw _ (List.mem_of_getElem? (i := 2) rfl)) (by decide) (by decide)) q22a q22c (g := (mkF m 47 #[.val (.int p1), .val (.int ((p1 &&& (2147483647 : Int32)) % (3 : Int32))), .val (.ref wI), .val (.int (1 : Int32)), .val (.int (1 : Int32)), .unset] [(.ref wI)])) rfl (by rw [hml]; rfl) (Steps.refl _) (argsL := []) (rest := []) (lenOf pd___Lcom_example_holdfast_holdfast_sql_ConstraintMode_ rfl) rfl (by show 2 * 0 + _ ≤ _; exact Nat.le_of_eq rfl) (hb hby at_47) (fun _ _ => ⟨rfl, e19, (by decide : 0 + 0 + 0 ≤ _), (by decide : 0 + 0 + 0 ≤ _)⟩)
      dsimp only [Pt.U, Pt.locs, Pt.cells, Pt.slots] at X22 l22 y22 z22 st22 hQ22
      subst l22 y22 z22
      obtain ⟨rfl, N22q, e22⟩ := hQ22
      have N22 := Fr.app N19 N22q
      have k23 : ∀ t, Steps p.tables e below (T22.setTop (mkF m 50 #[.val (.int p1), .val (.int ((p1 &&& (2147483647 : Int32)) % (3 : Int32))), .val (.ref wI), .val (.int (1 : Int32)), .val (.int (1 : Int32)), .unset] [(.ref mI)])) t → Steps p.tables e below (s₁.setTop (entryFrame m #[(.int p1)] maxLocals)) t := fun t q => k21 t (st22.trans q)
      obtain ⟨T24, X24, e24, st24⟩ := getS2 X22 hx hZ hown (host := "") (Or.inl (hw _ (List.mem_of_getElem? (i := 19) rfl))) Via.refl e22 (S_DEFERRED) (g := (mkF m 50 #[.val (.int p1), .val (.int ((p1 &&& (2147483647 : Int32)) % (3 : Int32))), .val (.ref wI), .val (.int (1 : Int32)), .val (.int (1 : Int32)), .unset] [(.ref mI)])) rfl (hb hby at_50)
      have k25 : ∀ t, Steps p.tables e below (T24.setTop (mkF m 53 #[.val (.int p1), .val (.int ((p1 &&& (2147483647 : Int32)) % (3 : Int32))), .val (.ref wI), .val (.int (1 : Int32)), .val (.int (1 : Int32)), .unset] [(.ref mD), (.ref mI)])) t → Steps p.tables e below (s₁.setTop (entryFrame m #[(.int p1)] maxLocals)) t := fun t q => k23 t (st24 t q)
      have k26 : ∀ t, Steps p.tables e below (T24.setTop (mkF m 84 #[.val (.int p1), .val (.int ((p1 &&& (2147483647 : Int32)) % (3 : Int32))), .val (.ref wI), .val (.int (1 : Int32)), .val (.int (1 : Int32)), .val (.int (1 : Int32))] [(.int (1 : Int32))])) t → Steps p.tables e below (s₁.setTop (entryFrame m #[(.int p1)] maxLocals)) t := fun t q => k25 t (by
          show Steps p.tables e below (T24.setTop (mkF m 53 #[.val (.int p1), .val (.int ((p1 &&& (2147483647 : Int32)) % (3 : Int32))), .val (.ref wI), .val (.int (1 : Int32)), .val (.int (1 : Int32)), .unset] [(.ref mD), (.ref mI)])) _
          refine Jvm.RoadKit.acmp (g := (mkF m 53 #[.val (.int p1), .val (.int ((p1 &&& (2147483647 : Int32)) % (3 : Int32))), .val (.ref wI), .val (.int (1 : Int32)), .val (.int (1 : Int32)), .unset] [(.ref mD), (.ref mI)])) X24 hx rfl rfl rfl (pc0 := 53) (pc' := 61) (same := false) rfl (hb hby at_53) rfl (decide_eq_false fun q => (hm : ¬ (mI = mD)) (Value.ref.inj q)) (by decide) (by decide) ?_
          show Steps p.tables e below (T24.setTop (mkF m 61 #[.val (.int p1), .val (.int ((p1 &&& (2147483647 : Int32)) % (3 : Int32))), .val (.ref wI), .val (.int (1 : Int32)), .val (.int (1 : Int32)), .unset] [])) _
          refine XS.iconst X24.here hx rfl (hb hby at_61) ?_
          show Steps p.tables e below (T24.setTop (mkF m 62 #[.val (.int p1), .val (.int ((p1 &&& (2147483647 : Int32)) % (3 : Int32))), .val (.ref wI), .val (.int (1 : Int32)), .val (.int (1 : Int32)), .unset] [(.int (1 : Int32))])) _
          refine XS.goto X24.here hx rfl (pc0 := 62) (pc' := 66) rfl (hb hby at_62) (by decide) (by decide) ?_
          show Steps p.tables e below (T24.setTop (mkF m 66 #[.val (.int p1), .val (.int ((p1 &&& (2147483647 : Int32)) % (3 : Int32))), .val (.ref wI), .val (.int (1 : Int32)), .val (.int (1 : Int32)), .unset] [(.int (1 : Int32))])) _
          refine XS.istore X24.here hx rfl (hb hby at_66) rfl (l' := #[.val (.int p1), .val (.int ((p1 &&& (2147483647 : Int32)) % (3 : Int32))), .val (.ref wI), .val (.int (1 : Int32)), .val (.int (1 : Int32)), .val (.int (1 : Int32))]) rfl ?_
          show Steps p.tables e below (T24.setTop (mkF m 68 #[.val (.int p1), .val (.int ((p1 &&& (2147483647 : Int32)) % (3 : Int32))), .val (.ref wI), .val (.int (1 : Int32)), .val (.int (1 : Int32)), .val (.int (1 : Int32))] [])) _
          refine XS.iload X24.here hx rfl (hb hby at_68) rfl ?_
          show Steps p.tables e below (T24.setTop (mkF m 70 #[.val (.int p1), .val (.int ((p1 &&& (2147483647 : Int32)) % (3 : Int32))), .val (.ref wI), .val (.int (1 : Int32)), .val (.int (1 : Int32)), .val (.int (1 : Int32))] [(.int (1 : Int32))])) _
          refine XS.iloadN X24.here hx rfl (hb hby at_70) rfl ?_
          show Steps p.tables e below (T24.setTop (mkF m 71 #[.val (.int p1), .val (.int ((p1 &&& (2147483647 : Int32)) % (3 : Int32))), .val (.ref wI), .val (.int (1 : Int32)), .val (.int (1 : Int32)), .val (.int (1 : Int32))] [(.int (1 : Int32)), (.int (1 : Int32))])) _
          refine XS.icmpNo X24.here hx rfl (hb hby at_71) rfl (teq (by decide : (1 : Int32) = (1 : Int32))).2 ?_
          show Steps p.tables e below (T24.setTop (mkF m 74 #[.val (.int p1), .val (.int ((p1 &&& (2147483647 : Int32)) % (3 : Int32))), .val (.ref wI), .val (.int (1 : Int32)), .val (.int (1 : Int32)), .val (.int (1 : Int32))] [])) _
          refine XS.iload X24.here hx rfl (hb hby at_74) rfl ?_
          show Steps p.tables e below (T24.setTop (mkF m 76 #[.val (.int p1), .val (.int ((p1 &&& (2147483647 : Int32)) % (3 : Int32))), .val (.ref wI), .val (.int (1 : Int32)), .val (.int (1 : Int32)), .val (.int (1 : Int32))] [(.int (1 : Int32))])) _
          refine XS.ifNo X24.here hx rfl (hb hby at_76) rfl ((if0 _ _).trans (feq (by decide : ¬ ((1 : Int32) = (0 : Int32)))).1) ?_
          show Steps p.tables e below (T24.setTop (mkF m 79 #[.val (.int p1), .val (.int ((p1 &&& (2147483647 : Int32)) % (3 : Int32))), .val (.ref wI), .val (.int (1 : Int32)), .val (.int (1 : Int32)), .val (.int (1 : Int32))] [])) _
          refine XS.iconst X24.here hx rfl (hb hby at_79) ?_
          show Steps p.tables e below (T24.setTop (mkF m 80 #[.val (.int p1), .val (.int ((p1 &&& (2147483647 : Int32)) % (3 : Int32))), .val (.ref wI), .val (.int (1 : Int32)), .val (.int (1 : Int32)), .val (.int (1 : Int32))] [(.int (1 : Int32))])) _
          refine XS.goto X24.here hx rfl (pc0 := 80) (pc' := 84) rfl (hb hby at_80) (by decide) (by decide) ?_
          exact q)
      obtain ⟨fs, hr, hrun, hended, hW, hsame⟩ := X24.leave (v := some (.int (1 : Int32))) (fun h => by rw [Bd.returns] at h; cases h)
      refine ⟨_, _, k26 _ ?_, hrun, hended, _, _, rfl, ?_, ⟨_, rfl⟩, hW, hsame.mono (by decide) (by decide)⟩
      · exact retN X24 hx (t := .boolean) Bd.returns (by simp) (hb hby at_84) hr
      · show QL Z p1 wN wI wD mI mD h0 n0 _ T24.heap _
        exact ⟨rfl, N22⟩
    · have k27 : ∀ t, Steps p.tables e below (s₁.setTop (mkF m 34 #[.val (.int p1), .val (.int ((p1 &&& (2147483647 : Int32)) % (3 : Int32))), .unset, .unset, .unset, .unset] [])) t → Steps p.tables e below (s₁.setTop (entryFrame m #[(.int p1)] maxLocals)) t := fun t q => k14 t (by
          show Steps p.tables e below (s₁.setTop (mkF m 22 #[.val (.int p1), .val (.int ((p1 &&& (2147483647 : Int32)) % (3 : Int32))), .unset, .unset, .unset, .unset] [(.int (1 : Int32)), (.int ((p1 &&& (2147483647 : Int32)) % (3 : Int32)))])) _
          refine XS.icmpYes X0.here hx rfl (pc0 := 22) (pc' := 34) rfl (hb hby at_22) rfl (feq (hc22 : ¬ (((p1 &&& (2147483647 : Int32)) % (3 : Int32)) = (1 : Int32)))).2 (by decide) (by decide) ?_
          exact q)
      obtain ⟨T28, X28, e28, st28⟩ := getS2 X0 hx hZ hown (host := "") (Or.inl (hw _ (List.mem_of_getElem? (i := 21) rfl))) Via.refl e0 (S_INITIALLY_DEFERRED) (g := (mkF m 34 #[.val (.int p1), .val (.int ((p1 &&& (2147483647 : Int32)) % (3 : Int32))), .unset, .unset, .unset, .unset] [])) rfl (hb hby at_34)
      have k29 : ∀ t, Steps p.tables e below (T28.setTop (mkF m 37 #[.val (.int p1), .val (.int ((p1 &&& (2147483647 : Int32)) % (3 : Int32))), .unset, .unset, .unset, .unset] [(.ref wD)])) t → Steps p.tables e below (s₁.setTop (entryFrame m #[(.int p1)] maxLocals)) t := fun t q => k27 t (st28 t q)
      have k30 : ∀ t, Steps p.tables e below (T28.setTop (mkF m 41 #[.val (.int p1), .val (.int ((p1 &&& (2147483647 : Int32)) % (3 : Int32))), .val (.ref wD), .val (.int (1 : Int32)), .unset, .unset] [(.ref wD)])) t → Steps p.tables e below (s₁.setTop (entryFrame m #[(.int p1)] maxLocals)) t := fun t q => k29 t (by
          show Steps p.tables e below (T28.setTop (mkF m 37 #[.val (.int p1), .val (.int ((p1 &&& (2147483647 : Int32)) % (3 : Int32))), .unset, .unset, .unset, .unset] [(.ref wD)])) _
          refine XS.astoreN X28.here hx rfl (hb hby at_37) rfl rfl (l' := #[.val (.int p1), .val (.int ((p1 &&& (2147483647 : Int32)) % (3 : Int32))), .val (.ref wD), .unset, .unset, .unset]) rfl ?_
          show Steps p.tables e below (T28.setTop (mkF m 38 #[.val (.int p1), .val (.int ((p1 &&& (2147483647 : Int32)) % (3 : Int32))), .val (.ref wD), .unset, .unset, .unset] [])) _
          refine XS.iconst X28.here hx rfl (hb hby at_38) ?_
          show Steps p.tables e below (T28.setTop (mkF m 39 #[.val (.int p1), .val (.int ((p1 &&& (2147483647 : Int32)) % (3 : Int32))), .val (.ref wD), .unset, .unset, .unset] [(.int (1 : Int32))])) _
          refine XS.istoreN X28.here hx rfl (hb hby at_39) rfl (l' := #[.val (.int p1), .val (.int ((p1 &&& (2147483647 : Int32)) % (3 : Int32))), .val (.ref wD), .val (.int (1 : Int32)), .unset, .unset]) rfl ?_
          show Steps p.tables e below (T28.setTop (mkF m 40 #[.val (.int p1), .val (.int ((p1 &&& (2147483647 : Int32)) % (3 : Int32))), .val (.ref wD), .val (.int (1 : Int32)), .unset, .unset] [])) _
          refine XS.aloadN X28.here hx rfl (hb hby at_40) rfl rfl ?_
          exact q)
      obtain ⟨cq31, kq31, q31a, q31b, q31c⟩ := isOf hZ e28 (E_wD)
      obtain ⟨_, _, ⟨T31, L31, kk31, nn31⟩, -, X31, ⟨Lc31, hQ31, l31, y31, z31⟩, st31⟩ := X28.virtualBack hx (y := (⟨"com/example/holdfast/holdfast/sql/Deferrability", "deferrable", "()Z"⟩ : MethodName)) (z := (⟨"com/example/holdfast/holdfast/sql/Deferrability", "deferrable", "()Z"⟩ : MethodName)) hown (mvT hZ (hw _ (List.mem_of_getElem? (i := 4) rfl))) (mvT hZ (hw _ (List.mem_of_getElem? (i := 5) rfl))) (notFace_of_selects (args := #[]) (mvT hZ (hw _ (List.mem_of_getElem? (i := 7) rfl)))) (mvT hZ (hw _ (List.mem_of_getElem? (i := 7) rfl))) (mvT hZ (hw _ (List.mem_of_getElem? (i := 6) rfl))) (by decide) (backOf (W := 0) (rm1 l Z a0 hw [] wD wN (1 : Int32) h0 n0 Z0 S_NOT_DEFERRABLE (if_neg (Ne.symm hND))) hZ (hw _ (List.mem_of_getElem? (i := 8) rfl)) (hw _ (List.mem_of_getElem? (i := 2) rfl)) (by decide) (by decide)) q31a q31c (g := (mkF m 41 #[.val (.int p1), .val (.int ((p1 &&& (2147483647 : Int32)) % (3 : Int32))), .val (.ref wD), .val (.int (1 : Int32)), .unset, .unset] [(.ref wD)])) rfl (by rw [hml]; rfl) (Steps.refl _) (argsL := []) (rest := []) (lenOf pd___Z rfl) rfl (by show 2 * 0 + _ ≤ _; exact Nat.le_of_eq rfl) (hb hby at_41) (fun _ _ => ⟨rfl, e28, (by decide : 0 + 0 ≤ _), (by decide : 0 + 0 ≤ _)⟩)
      dsimp only [Pt.U, Pt.locs, Pt.cells, Pt.slots] at X31 l31 y31 z31 st31 hQ31
      subst l31 y31 z31
      obtain ⟨rfl, N31q, e31⟩ := hQ31
      have N31 := Fr.app N0 N31q
      have k32 : ∀ t, Steps p.tables e below (T31.setTop (mkF m 44 #[.val (.int p1), .val (.int ((p1 &&& (2147483647 : Int32)) % (3 : Int32))), .val (.ref wD), .val (.int (1 : Int32)), .unset, .unset] [(.int (1 : Int32))])) t → Steps p.tables e below (s₁.setTop (entryFrame m #[(.int p1)] maxLocals)) t := fun t q => k30 t (st31.trans q)
      have k33 : ∀ t, Steps p.tables e below (T31.setTop (mkF m 47 #[.val (.int p1), .val (.int ((p1 &&& (2147483647 : Int32)) % (3 : Int32))), .val (.ref wD), .val (.int (1 : Int32)), .val (.int (1 : Int32)), .unset] [(.ref wD)])) t → Steps p.tables e below (s₁.setTop (entryFrame m #[(.int p1)] maxLocals)) t := fun t q => k32 t (by
          show Steps p.tables e below (T31.setTop (mkF m 44 #[.val (.int p1), .val (.int ((p1 &&& (2147483647 : Int32)) % (3 : Int32))), .val (.ref wD), .val (.int (1 : Int32)), .unset, .unset] [(.int (1 : Int32))])) _
          refine XS.istore X31.here hx rfl (hb hby at_44) rfl (l' := #[.val (.int p1), .val (.int ((p1 &&& (2147483647 : Int32)) % (3 : Int32))), .val (.ref wD), .val (.int (1 : Int32)), .val (.int (1 : Int32)), .unset]) rfl ?_
          show Steps p.tables e below (T31.setTop (mkF m 46 #[.val (.int p1), .val (.int ((p1 &&& (2147483647 : Int32)) % (3 : Int32))), .val (.ref wD), .val (.int (1 : Int32)), .val (.int (1 : Int32)), .unset] [])) _
          refine XS.aloadN X31.here hx rfl (hb hby at_46) rfl rfl ?_
          exact q)
      obtain ⟨cq34, kq34, q34a, q34b, q34c⟩ := isOf hZ e31 (E_wD)
      obtain ⟨_, _, ⟨T34, L34, kk34, nn34⟩, -, X34, ⟨Lc34, hQ34, l34, y34, z34⟩, st34⟩ := X31.virtualBack hx (y := (⟨"com/example/holdfast/holdfast/sql/Deferrability", "initialMode", "()Lcom/example/holdfast/holdfast/sql/ConstraintMode;"⟩ : MethodName)) (z := (⟨"com/example/holdfast/holdfast/sql/Deferrability", "initialMode", "()Lcom/example/holdfast/holdfast/sql/ConstraintMode;"⟩ : MethodName)) hown (mvT hZ (hw _ (List.mem_of_getElem? (i := 10) rfl))) (mvT hZ (hw _ (List.mem_of_getElem? (i := 11) rfl))) (notFace_of_selects (args := #[]) (mvT hZ (hw _ (List.mem_of_getElem? (i := 13) rfl)))) (mvT hZ (hw _ (List.mem_of_getElem? (i := 13) rfl))) (mvT hZ (hw _ (List.mem_of_getElem? (i := 12) rfl))) (by decide) (backOf (W := 0) (rm2 l Z a0 hw [] wD mD h0 n0 Z0 F_wD) hZ (hw _ (List.mem_of_getElem? (i := 14) rfl)) (hw _ (List.mem_of_getElem? (i := 2) rfl)) (by decide) (by decide)) q34a q34c (g := (mkF m 47 #[.val (.int p1), .val (.int ((p1 &&& (2147483647 : Int32)) % (3 : Int32))), .val (.ref wD), .val (.int (1 : Int32)), .val (.int (1 : Int32)), .unset] [(.ref wD)])) rfl (by rw [hml]; rfl) (Steps.refl _) (argsL := []) (rest := []) (lenOf pd___Lcom_example_holdfast_holdfast_sql_ConstraintMode_ rfl) rfl (by show 2 * 0 + _ ≤ _; exact Nat.le_of_eq rfl) (hb hby at_47) (fun _ _ => ⟨rfl, e31, (by decide : 0 + 0 + 0 ≤ _), (by decide : 0 + 0 + 0 ≤ _)⟩)
      dsimp only [Pt.U, Pt.locs, Pt.cells, Pt.slots] at X34 l34 y34 z34 st34 hQ34
      subst l34 y34 z34
      obtain ⟨rfl, N34q, e34⟩ := hQ34
      have N34 := Fr.app N31 N34q
      have k35 : ∀ t, Steps p.tables e below (T34.setTop (mkF m 50 #[.val (.int p1), .val (.int ((p1 &&& (2147483647 : Int32)) % (3 : Int32))), .val (.ref wD), .val (.int (1 : Int32)), .val (.int (1 : Int32)), .unset] [(.ref mD)])) t → Steps p.tables e below (s₁.setTop (entryFrame m #[(.int p1)] maxLocals)) t := fun t q => k33 t (st34.trans q)
      obtain ⟨T36, X36, e36, st36⟩ := getS2 X34 hx hZ hown (host := "") (Or.inl (hw _ (List.mem_of_getElem? (i := 19) rfl))) Via.refl e34 (S_DEFERRED) (g := (mkF m 50 #[.val (.int p1), .val (.int ((p1 &&& (2147483647 : Int32)) % (3 : Int32))), .val (.ref wD), .val (.int (1 : Int32)), .val (.int (1 : Int32)), .unset] [(.ref mD)])) rfl (hb hby at_50)
      have k37 : ∀ t, Steps p.tables e below (T36.setTop (mkF m 53 #[.val (.int p1), .val (.int ((p1 &&& (2147483647 : Int32)) % (3 : Int32))), .val (.ref wD), .val (.int (1 : Int32)), .val (.int (1 : Int32)), .unset] [(.ref mD), (.ref mD)])) t → Steps p.tables e below (s₁.setTop (entryFrame m #[(.int p1)] maxLocals)) t := fun t q => k35 t (st36 t q)
      have k38 : ∀ t, Steps p.tables e below (T36.setTop (mkF m 84 #[.val (.int p1), .val (.int ((p1 &&& (2147483647 : Int32)) % (3 : Int32))), .val (.ref wD), .val (.int (1 : Int32)), .val (.int (1 : Int32)), .val (.int (1 : Int32))] [(.int (1 : Int32))])) t → Steps p.tables e below (s₁.setTop (entryFrame m #[(.int p1)] maxLocals)) t := fun t q => k37 t (by
          show Steps p.tables e below (T36.setTop (mkF m 53 #[.val (.int p1), .val (.int ((p1 &&& (2147483647 : Int32)) % (3 : Int32))), .val (.ref wD), .val (.int (1 : Int32)), .val (.int (1 : Int32)), .unset] [(.ref mD), (.ref mD)])) _
          refine Jvm.RoadKit.acmp (g := (mkF m 53 #[.val (.int p1), .val (.int ((p1 &&& (2147483647 : Int32)) % (3 : Int32))), .val (.ref wD), .val (.int (1 : Int32)), .val (.int (1 : Int32)), .unset] [(.ref mD), (.ref mD)])) X36 hx rfl rfl rfl (pc0 := 53) (pc' := 56) (same := true) rfl (hb hby at_53) rfl (decide_eq_true rfl) (by decide) (by decide) ?_
          show Steps p.tables e below (T36.setTop (mkF m 56 #[.val (.int p1), .val (.int ((p1 &&& (2147483647 : Int32)) % (3 : Int32))), .val (.ref wD), .val (.int (1 : Int32)), .val (.int (1 : Int32)), .unset] [])) _
          refine XS.iload X36.here hx rfl (hb hby at_56) rfl ?_
          show Steps p.tables e below (T36.setTop (mkF m 58 #[.val (.int p1), .val (.int ((p1 &&& (2147483647 : Int32)) % (3 : Int32))), .val (.ref wD), .val (.int (1 : Int32)), .val (.int (1 : Int32)), .unset] [(.int (1 : Int32))])) _
          refine XS.ifNo X36.here hx rfl (hb hby at_58) rfl ((if0 _ _).trans (feq (by decide : ¬ ((1 : Int32) = (0 : Int32)))).1) ?_
          show Steps p.tables e below (T36.setTop (mkF m 61 #[.val (.int p1), .val (.int ((p1 &&& (2147483647 : Int32)) % (3 : Int32))), .val (.ref wD), .val (.int (1 : Int32)), .val (.int (1 : Int32)), .unset] [])) _
          refine XS.iconst X36.here hx rfl (hb hby at_61) ?_
          show Steps p.tables e below (T36.setTop (mkF m 62 #[.val (.int p1), .val (.int ((p1 &&& (2147483647 : Int32)) % (3 : Int32))), .val (.ref wD), .val (.int (1 : Int32)), .val (.int (1 : Int32)), .unset] [(.int (1 : Int32))])) _
          refine XS.goto X36.here hx rfl (pc0 := 62) (pc' := 66) rfl (hb hby at_62) (by decide) (by decide) ?_
          show Steps p.tables e below (T36.setTop (mkF m 66 #[.val (.int p1), .val (.int ((p1 &&& (2147483647 : Int32)) % (3 : Int32))), .val (.ref wD), .val (.int (1 : Int32)), .val (.int (1 : Int32)), .unset] [(.int (1 : Int32))])) _
          refine XS.istore X36.here hx rfl (hb hby at_66) rfl (l' := #[.val (.int p1), .val (.int ((p1 &&& (2147483647 : Int32)) % (3 : Int32))), .val (.ref wD), .val (.int (1 : Int32)), .val (.int (1 : Int32)), .val (.int (1 : Int32))]) rfl ?_
          show Steps p.tables e below (T36.setTop (mkF m 68 #[.val (.int p1), .val (.int ((p1 &&& (2147483647 : Int32)) % (3 : Int32))), .val (.ref wD), .val (.int (1 : Int32)), .val (.int (1 : Int32)), .val (.int (1 : Int32))] [])) _
          refine XS.iload X36.here hx rfl (hb hby at_68) rfl ?_
          show Steps p.tables e below (T36.setTop (mkF m 70 #[.val (.int p1), .val (.int ((p1 &&& (2147483647 : Int32)) % (3 : Int32))), .val (.ref wD), .val (.int (1 : Int32)), .val (.int (1 : Int32)), .val (.int (1 : Int32))] [(.int (1 : Int32))])) _
          refine XS.iloadN X36.here hx rfl (hb hby at_70) rfl ?_
          show Steps p.tables e below (T36.setTop (mkF m 71 #[.val (.int p1), .val (.int ((p1 &&& (2147483647 : Int32)) % (3 : Int32))), .val (.ref wD), .val (.int (1 : Int32)), .val (.int (1 : Int32)), .val (.int (1 : Int32))] [(.int (1 : Int32)), (.int (1 : Int32))])) _
          refine XS.icmpNo X36.here hx rfl (hb hby at_71) rfl (teq (by decide : (1 : Int32) = (1 : Int32))).2 ?_
          show Steps p.tables e below (T36.setTop (mkF m 74 #[.val (.int p1), .val (.int ((p1 &&& (2147483647 : Int32)) % (3 : Int32))), .val (.ref wD), .val (.int (1 : Int32)), .val (.int (1 : Int32)), .val (.int (1 : Int32))] [])) _
          refine XS.iload X36.here hx rfl (hb hby at_74) rfl ?_
          show Steps p.tables e below (T36.setTop (mkF m 76 #[.val (.int p1), .val (.int ((p1 &&& (2147483647 : Int32)) % (3 : Int32))), .val (.ref wD), .val (.int (1 : Int32)), .val (.int (1 : Int32)), .val (.int (1 : Int32))] [(.int (1 : Int32))])) _
          refine XS.ifNo X36.here hx rfl (hb hby at_76) rfl ((if0 _ _).trans (feq (by decide : ¬ ((1 : Int32) = (0 : Int32)))).1) ?_
          show Steps p.tables e below (T36.setTop (mkF m 79 #[.val (.int p1), .val (.int ((p1 &&& (2147483647 : Int32)) % (3 : Int32))), .val (.ref wD), .val (.int (1 : Int32)), .val (.int (1 : Int32)), .val (.int (1 : Int32))] [])) _
          refine XS.iconst X36.here hx rfl (hb hby at_79) ?_
          show Steps p.tables e below (T36.setTop (mkF m 80 #[.val (.int p1), .val (.int ((p1 &&& (2147483647 : Int32)) % (3 : Int32))), .val (.ref wD), .val (.int (1 : Int32)), .val (.int (1 : Int32)), .val (.int (1 : Int32))] [(.int (1 : Int32))])) _
          refine XS.goto X36.here hx rfl (pc0 := 80) (pc' := 84) rfl (hb hby at_80) (by decide) (by decide) ?_
          exact q)
      obtain ⟨fs, hr, hrun, hended, hW, hsame⟩ := X36.leave (v := some (.int (1 : Int32))) (fun h => by rw [Bd.returns] at h; cases h)
      refine ⟨_, _, k38 _ ?_, hrun, hended, _, _, rfl, ?_, ⟨_, rfl⟩, hW, hsame.mono (by decide) (by decide)⟩
      · exact retN X36 hx (t := .boolean) Bd.returns (by simp) (hb hby at_84) hr
      · show QL Z p1 wN wI wD mI mD h0 n0 _ T36.heap _
        exact ⟨rfl, N34⟩
set_option maxRecDepth 65536 in
set_option maxHeartbeats 40000000 in
theorem comes_1 {Post : Tables → Env → Array Value → State → Outcome → State → Prop} (hpost : ∀ tb e args s v u, (limb_1_1.after args s (.returned v) u = true ∧ limb_1_2.after args s (.returned v) u = true ∧ True) → FrameEnd s (.returned v) u (Jvm.fieldLocs frame_1_writes args s ++ Jvm.arrayLocs frame_1_arrays args s ++ Jvm.staticLocs frame_1_statics s) 0 0 → Post tb e args s (.returned v) u) :
    ArmFor flags0 classFile x code maxLocals ret World_1 tables_1 room_1 Calls_1 rest_1 Pre_1 Post := by
  intro l hfl _ _ p e ha hc hk s m args below hf hA hF happ hP
  obtain ⟨hcalls, hrest, hpre⟩ := hP
  obtain ⟨-, -, -, hnamed, -, -, -, hat⟩ := (Spec.applies_iff hf).mp happ
  obtain ⟨hg, hn⟩ := and_e (Cond.before_iff.mp (show (Jvm.Cond.and given_1 narrow_1).before args s = true from hpre))
  obtain ⟨gc, gr⟩ := and_e hg
  obtain ⟨w0, rfl⟩ : ∃ w0 : Value, args = #[w0] := by
    have hs : args.size = 1 := by simpa [Cond.value, given_1] using gc
    obtain ⟨L⟩ := args
    match L, hs with
    | [w0], _ => exact ⟨w0, rfl⟩
  have hw := fun d (hd : d ∈ tables_1) => atoms_spec (ws := Jvm.Cond.code x code maxLocals ret :: tables_1) hat d (List.mem_cons_of_mem _ hd)
  have hfit : Fit s := fun {y c} hc i hi => by
    obtain ⟨ha, rfl⟩ := Array.getElem?_eq_some_iff.mp hc
    have q := List.all_eq_true.mp ((Array.all_eq_true_iff_forall_mem.mp hF) _ (Array.getElem_mem ha)) i (List.mem_range.mpr hi)
    simpa [Array.getElem?_eq_getElem hi] using q
  obtain ⟨i0, ei0⟩ := is_v gr
  obtain rfl : w0 = (.int i0) := Option.some.inj ei0
  obtain ⟨nq0, hn⟩ := and_e hn
  obtain ⟨nq1, hn⟩ := and_e hn
  obtain ⟨nq2, hn⟩ := and_e hn
  obtain ⟨nq3, hn⟩ := and_e hn
  obtain ⟨nq4, hn⟩ := and_e hn
  obtain ⟨nq5, hn⟩ := and_e hn
  obtain ⟨nq6, hn⟩ := and_e hn
  obtain ⟨nq7, hn⟩ := and_e hn
  obtain ⟨nq8, hn⟩ := and_e hn
  obtain ⟨nq9, hn⟩ := and_e hn
  obtain ⟨nq10, hn⟩ := and_e hn
  obtain ⟨nq11, hn⟩ := and_e hn
  have nq12 := hn
  obtain ⟨w_NOT_DEFERRABLE, ev_NOT_DEFERRABLE⟩ := exa_v nq0
  have E_NOT_DEFERRABLE : Exa s s.heap w_NOT_DEFERRABLE "com/example/holdfast/holdfast/sql/Deferrability" := Exa.start ev_NOT_DEFERRABLE nq0
  have S_NOT_DEFERRABLE : Sta s s.heap "com/example/holdfast/holdfast/sql/Deferrability" "NOT_DEFERRABLE" "Lcom/example/holdfast/holdfast/sql/Deferrability;" (.ref w_NOT_DEFERRABLE) := Sta.start ev_NOT_DEFERRABLE (Or.inr ⟨(hw _ (List.mem_of_getElem? (i := 2) rfl)), (hw _ (List.mem_of_getElem? (i := 3) rfl))⟩)
  obtain ⟨w_IMMEDIATE, ev_IMMEDIATE⟩ := exa_v nq1
  have E_IMMEDIATE : Exa s s.heap w_IMMEDIATE "com/example/holdfast/holdfast/sql/ConstraintMode" := Exa.start ev_IMMEDIATE nq1
  have S_IMMEDIATE : Sta s s.heap "com/example/holdfast/holdfast/sql/ConstraintMode" "IMMEDIATE" "Lcom/example/holdfast/holdfast/sql/ConstraintMode;" (.ref w_IMMEDIATE) := Sta.start ev_IMMEDIATE (Or.inr ⟨(hw _ (List.mem_of_getElem? (i := 17) rfl)), (hw _ (List.mem_of_getElem? (i := 18) rfl))⟩)
  obtain ⟨w_DEFERRED, ev_DEFERRED⟩ := exa_v nq3
  have E_DEFERRED : Exa s s.heap w_DEFERRED "com/example/holdfast/holdfast/sql/ConstraintMode" := Exa.start ev_DEFERRED nq3
  have S_DEFERRED : Sta s s.heap "com/example/holdfast/holdfast/sql/ConstraintMode" "DEFERRED" "Lcom/example/holdfast/holdfast/sql/ConstraintMode;" (.ref w_DEFERRED) := Sta.start ev_DEFERRED (Or.inr ⟨(hw _ (List.mem_of_getElem? (i := 17) rfl)), (hw _ (List.mem_of_getElem? (i := 20) rfl))⟩)
  obtain ⟨w_INITIALLY_DEFERRED, ev_INITIALLY_DEFERRED⟩ := exa_v nq6
  have E_INITIALLY_DEFERRED : Exa s s.heap w_INITIALLY_DEFERRED "com/example/holdfast/holdfast/sql/Deferrability" := Exa.start ev_INITIALLY_DEFERRED nq6
  have S_INITIALLY_DEFERRED : Sta s s.heap "com/example/holdfast/holdfast/sql/Deferrability" "INITIALLY_DEFERRED" "Lcom/example/holdfast/holdfast/sql/Deferrability;" (.ref w_INITIALLY_DEFERRED) := Sta.start ev_INITIALLY_DEFERRED (Or.inr ⟨(hw _ (List.mem_of_getElem? (i := 2) rfl)), (hw _ (List.mem_of_getElem? (i := 22) rfl))⟩)
  obtain ⟨w_INITIALLY_IMMEDIATE, ev_INITIALLY_IMMEDIATE⟩ := exa_v nq10
  have E_INITIALLY_IMMEDIATE : Exa s s.heap w_INITIALLY_IMMEDIATE "com/example/holdfast/holdfast/sql/Deferrability" := Exa.start ev_INITIALLY_IMMEDIATE nq10
  have S_INITIALLY_IMMEDIATE : Sta s s.heap "com/example/holdfast/holdfast/sql/Deferrability" "INITIALLY_IMMEDIATE" "Lcom/example/holdfast/holdfast/sql/Deferrability;" (.ref w_INITIALLY_IMMEDIATE) := Sta.start ev_INITIALLY_IMMEDIATE (Or.inr ⟨(hw _ (List.mem_of_getElem? (i := 2) rfl)), (hw _ (List.mem_of_getElem? (i := 24) rfl))⟩)
  have F_NOT_DEFERRABLE_initialMode : Fld s s.heap w_NOT_DEFERRABLE "com/example/holdfast/holdfast/sql/Deferrability" "initialMode" "Lcom/example/holdfast/holdfast/sql/ConstraintMode;" (.ref w_IMMEDIATE) := own_fldR ev_NOT_DEFERRABLE ev_IMMEDIATE nq2
  have F_IMMEDIATE_ordinal : Fld s s.heap w_IMMEDIATE "java/lang/Enum" "ordinal" "I" (.int (0 : Int32)) := own_fldI ev_IMMEDIATE nq4
  have F_DEFERRED_ordinal : Fld s s.heap w_DEFERRED "java/lang/Enum" "ordinal" "I" (.int (1 : Int32)) := own_fldI ev_DEFERRED nq5
  have F_INITIALLY_DEFERRED_ordinal : Fld s s.heap w_INITIALLY_DEFERRED "java/lang/Enum" "ordinal" "I" (.int (2 : Int32)) := own_fldI ev_INITIALLY_DEFERRED nq7
  have F_NOT_DEFERRABLE_ordinal : Fld s s.heap w_NOT_DEFERRABLE "java/lang/Enum" "ordinal" "I" (.int (0 : Int32)) := own_fldI ev_NOT_DEFERRABLE nq8
  have F_INITIALLY_DEFERRED_initialMode : Fld s s.heap w_INITIALLY_DEFERRED "com/example/holdfast/holdfast/sql/Deferrability" "initialMode" "Lcom/example/holdfast/holdfast/sql/ConstraintMode;" (.ref w_DEFERRED) := own_fldR ev_INITIALLY_DEFERRED ev_DEFERRED nq9
  have F_INITIALLY_IMMEDIATE_ordinal : Fld s s.heap w_INITIALLY_IMMEDIATE "java/lang/Enum" "ordinal" "I" (.int (1 : Int32)) := own_fldI ev_INITIALLY_IMMEDIATE nq11
  have F_INITIALLY_IMMEDIATE_initialMode : Fld s s.heap w_INITIALLY_IMMEDIATE "com/example/holdfast/holdfast/sql/Deferrability" "initialMode" "Lcom/example/holdfast/holdfast/sql/ConstraintMode;" (.ref w_IMMEDIATE) := own_fldR ev_INITIALLY_IMMEDIATE ev_IMMEDIATE nq12
  have hNI := Fld.ne F_NOT_DEFERRABLE_ordinal F_INITIALLY_IMMEDIATE_ordinal (by decide)
  have hND := Fld.ne F_NOT_DEFERRABLE_ordinal F_INITIALLY_DEFERRED_ordinal (by decide)
  have hm := Fld.ne F_IMMEDIATE_ordinal F_DEFERRED_ordinal (by decide)
  obtain ⟨n, o, h1, h2, h3, _, L, rfl, ⟨rfl, N⟩, hq⟩ := rmL l s _ hw tables_1 i0 w_NOT_DEFERRABLE w_INITIALLY_IMMEDIATE w_INITIALLY_DEFERRED w_IMMEDIATE w_DEFERRED s.heap s.heap.size (Nat.le_refl _) S_NOT_DEFERRABLE S_INITIALLY_IMMEDIATE S_INITIALLY_DEFERRED S_DEFERRED E_NOT_DEFERRABLE E_INITIALLY_IMMEDIATE E_INITIALLY_DEFERRED F_NOT_DEFERRABLE_initialMode F_INITIALLY_IMMEDIATE_initialMode F_INITIALLY_DEFERRED_initialMode hNI hND hm p e ha hc hk s m _ below hf ((Spec.applies_iff_loose hf).mp happ).1 ⟨rfl, State.Warmed39.refl s, rfl⟩ trivial
  refine ⟨n, _, h1, h2, h3, hpost _ _ _ _ _ _ ⟨Cond.after_iff.mpr rfl, Cond.after_iff.mpr (eq_i res_at (Term.int_eval (1)) rfl), trivial⟩ ⟨hq.1, hq.2.1, (hq.2.2.sift fun y hy => Or.inr (N y hy)).mono (by decide) (by decide)⟩⟩
theorem main_1_1 : Claimed_1_1 := comes_1 fun _ _ _ _ _ _ h hF => ⟨h.1, hF⟩
theorem main_1_2 : Claimed_1_2 := comes_1 fun _ _ _ _ _ _ h hF => ⟨h.2.1, hF⟩
end Jvm.Pilot.@@N@@
namespace Jvm.Pilot.@@N@@
open Jvm Jvm.ClassFile Sem Op Lib Jvm.Free Jvm.Stand Jvm.Pilot.@@N@@.Jvm.D
/-! MADE BY PROGRAM (witnessworld.py) out of the Statement's table words and the real class files: 11 classes; the members and pool entries that the words name. The judged class is class 1, her method 1. -/
namespace start1
open Jvm.ClassFile
def u (s : String) : CpInfo := .utf8 (stringToUtf16 s)
/-- a pool by its gaps: so many unusable entries, then the entry; so many at the end -/
def gap : Nat → List CpInfo → List CpInfo
  | 0, r => r
  | n + 1, r => .unusable :: gap n r
def poolList (es : List (Nat × CpInfo)) (last : Nat) : List CpInfo := es.foldr (fun e r => gap e.1 (e.2 :: r)) (gap last [])
def pool (es : List (Nat × CpInfo)) (last : Nat) : Array CpInfo := ⟨poolList es last⟩
def fileOf (pool : Array CpInfo) (this : Nat) (attrs : Array Attribute := #[]) (ms : Array MethodInfo := #[]) (fl : Nat := 33) (sup : Nat := 0) (ifs : Array Nat := #[]) (fds : Array FieldInfo := #[]) : ClassFile where
  minorVersion := 0
  majorVersion := 65
  constantPool := pool
  accessFlags := fl
  thisClass := this
  superClass := sup
  interfaces := ifs
  fields := fds
  methods := ms
  attributes := attrs
def plain (name : String) (sup : Option ClassId) : Class where
  name := name
  kind := .ordinary
  loader := none
  accessFlags := 33
  super := sup
  interfaces := #[]
  cf := none
  fields := #[]
  methods := #[]
  instanceTypes := #[]
  staticTypes := #[]
  resolved := #[]
  callSites := []
  init := .initialized
  statics := none
  mirror := none

def pool0 : Array CpInfo := pool [(5, u "<init>"), (0, u "()V"), (1, .class_ 10), (1, u "java/lang/Object")] 113

def k0m0 : Method := { name := "<init>", desc := "()V", sig := { parameters := [], returnType := none }, accessFlags := 1, code := none }
/-- java/lang/Object -/
def k0 : Class := { plain "java/lang/Object" none with
  accessFlags := 33
  interfaces := #[]
  cf := some (fileOf pool0 8 #[] #[{ accessFlags := 1, nameIndex := 5, descriptorIndex := 6, attributes := #[] }] 33 0 #[] #[])
  fields := #[]
  methods := #[k0m0]
  instanceTypes := #[]
  staticTypes := #[]
  resolved := Array.replicate 124 none
  statics := none }

def pool1 : Array CpInfo := pool [(2, .class_ 4), (1, u "java/lang/Object"), (0, u "<init>"), (0, u "()V"), (0, .integer 2147483647), (0, .fieldref 9 10), (0, .class_ 11), (0, .nameAndType 12 13), (0, u "com/example/holdfast/holdfast/sql/Deferrability"), (0, u "NOT_DEFERRABLE"), (0, u "Lcom/example/holdfast/holdfast/sql/Deferrability;"), (0, .fieldref 9 15), (0, .nameAndType 16 13), (0, u "INITIALLY_IMMEDIATE"), (0, .fieldref 9 18), (0, .nameAndType 19 13), (0, u "INITIALLY_DEFERRED"), (0, .methodref 9 21), (0, .nameAndType 22 23), (0, u "deferrable"), (0, u "()Z"), (0, .methodref 9 25), (0, .nameAndType 26 27), (0, u "initialMode"), (0, u "()Lcom/example/holdfast/holdfast/sql/ConstraintMode;"), (0, .fieldref 29 30), (0, .class_ 31), (0, .nameAndType 32 33), (0, u "com/example/holdfast/holdfast/sql/ConstraintMode"), (0, u "DEFERRED"), (0, u "Lcom/example/holdfast/holdfast/sql/ConstraintMode;"), (0, .class_ 35), (0, u "com/example/holdfast/holdfast/sql/DeferrabilityDeferrablePinLaw"), (2, u "law"), (0, u "(I)Z")] 3

def k1m0 : Method := { name := "<init>", desc := "()V", sig := { parameters := [], returnType := none }, accessFlags := 1, code := none }
def k1c1 : Code := { maxStack := 2, maxLocals := 6, code := code, exceptionTable := #[], attributes := #[] }
def k1m1 : Method := { name := "law", desc := "(I)Z", sig := { parameters := [.int], returnType := some .boolean }, accessFlags := 9, code := some k1c1 }
/-- com/example/holdfast/holdfast/sql/DeferrabilityDeferrablePinLaw -/
def k1 : Class := { plain "com/example/holdfast/holdfast/sql/DeferrabilityDeferrablePinLaw" (some 0) with
  accessFlags := 49
  interfaces := #[]
  cf := some (fileOf pool1 34 #[] #[{ accessFlags := 1, nameIndex := 5, descriptorIndex := 6, attributes := #[] }, { accessFlags := 9, nameIndex := 38, descriptorIndex := 39, attributes := #[] }] 49 2 #[] #[])
  fields := #[]
  methods := #[k1m0, k1m1]
  instanceTypes := #[]
  staticTypes := #[]
  resolved := Array.replicate 43 none
  statics := none }

def pool2 : Array CpInfo := pool [(1, .class_ 2), (0, u "java/lang/constant/Constable"), (0, .class_ 4), (0, u "java/lang/Object")] 6

/-- java/lang/constant/Constable -/
def k2 : Class := { plain "java/lang/constant/Constable" (some 0) with
  accessFlags := 1537
  interfaces := #[]
  cf := some (fileOf pool2 1 #[] #[] 1537 3 #[] #[])
  fields := #[]
  methods := #[]
  instanceTypes := #[]
  staticTypes := #[]
  resolved := Array.replicate 11 none
  statics := none }

def pool3 : Array CpInfo := pool [(1, .class_ 2), (0, u "java/lang/Comparable"), (0, .class_ 4), (0, u "java/lang/Object")] 7

/-- java/lang/Comparable -/
def k3 : Class := { plain "java/lang/Comparable" (some 0) with
  accessFlags := 1537
  interfaces := #[]
  cf := some (fileOf pool3 1 #[] #[] 1537 3 #[] #[])
  fields := #[]
  methods := #[]
  instanceTypes := #[]
  staticTypes := #[]
  resolved := Array.replicate 12 none
  statics := none }

def pool4 : Array CpInfo := pool [(1, .class_ 2), (0, u "java/io/Serializable"), (0, .class_ 4), (0, u "java/lang/Object")] 2

/-- java/io/Serializable -/
def k4 : Class := { plain "java/io/Serializable" (some 0) with
  accessFlags := 1537
  interfaces := #[]
  cf := some (fileOf pool4 1 #[] #[] 1537 3 #[] #[])
  fields := #[]
  methods := #[]
  instanceTypes := #[]
  staticTypes := #[]
  resolved := Array.replicate 7 none
  statics := none }

def pool5 : Array CpInfo := pool [(2, .class_ 4), (1, u "java/lang/Enum"), (0, u "name"), (0, u "Ljava/lang/String;"), (2, u "ordinal"), (0, u "I"), (1, .class_ 14), (1, u "java/lang/Object"), (4, u "hash"), (86, .class_ 108), (1, u "java/lang/Enum$EnumDesc"), (2, .class_ 112), (0, u "java/lang/constant/Constable"), (0, .class_ 114), (0, u "java/lang/Comparable"), (0, .class_ 116), (0, u "java/io/Serializable")] 87

/-- java/lang/Enum -/
def k5 : Class := { plain "java/lang/Enum" (some 0) with
  accessFlags := 1057
  interfaces := #[2, 3, 4]
  cf := some (fileOf pool5 2 #[.nestMembers #[106]] #[] 1057 12 #[111, 113, 115] #[{ accessFlags := 18, nameIndex := 5, descriptorIndex := 6, attributes := #[] }, { accessFlags := 18, nameIndex := 9, descriptorIndex := 10, attributes := #[] }, { accessFlags := 2, nameIndex := 19, descriptorIndex := 10, attributes := #[] }])
  fields := #[{ name := "name", type := (.object "java/lang/String"), accessFlags := 18, slot := 0, constantValue := 0 }, { name := "ordinal", type := .int, accessFlags := 18, slot := 1, constantValue := 0 }, { name := "hash", type := .int, accessFlags := 2, slot := 2, constantValue := 0 }]
  methods := #[]
  instanceTypes := #[(.object "java/lang/String"), .int, .int]
  staticTypes := #[]
  resolved := Array.replicate 204 none
  statics := none }

def pool6 : Array CpInfo := pool [(1, .class_ 2), (0, u "com/example/holdfast/holdfast/sql/Deferrability"), (0, .fieldref 1 4), (0, .nameAndType 5 6), (0, u "NOT_DEFERRABLE"), (0, u "Lcom/example/holdfast/holdfast/sql/Deferrability;"), (2, u "INITIALLY_IMMEDIATE"), (2, u "INITIALLY_DEFERRED"), (2, u "$VALUES"), (0, u "[Lcom/example/holdfast/holdfast/sql/Deferrability;"), (6, .class_ 25), (1, u "java/lang/Enum"), (6, .fieldref 1 33), (0, .nameAndType 34 35), (0, u "initialMode"), (0, u "Lcom/example/holdfast/holdfast/sql/ConstraintMode;"), (25, u "deferrable"), (0, u "()Z"), (1, u "()Lcom/example/holdfast/holdfast/sql/ConstraintMode;")] 5

def k6c0 : Code := { maxStack := 2, maxLocals := 1, code := prog_46_method_4_code, exceptionTable := #[], attributes := #[] }
def k6m0 : Method := { name := "deferrable", desc := "()Z", sig := { parameters := [], returnType := some .boolean }, accessFlags := 1, code := some k6c0 }
def k6c1 : Code := { maxStack := 1, maxLocals := 1, code := prog_46_method_5_code, exceptionTable := #[], attributes := #[] }
def k6m1 : Method := { name := "initialMode", desc := "()Lcom/example/holdfast/holdfast/sql/ConstraintMode;", sig := { parameters := [], returnType := some (.object "com/example/holdfast/holdfast/sql/ConstraintMode") }, accessFlags := 1, code := some k6c1 }
/-- com/example/holdfast/holdfast/sql/Deferrability -/
def k6 : Class := { plain "com/example/holdfast/holdfast/sql/Deferrability" (some 5) with
  accessFlags := 16433
  interfaces := #[]
  cf := some (fileOf pool6 1 #[] #[{ accessFlags := 1, nameIndex := 61, descriptorIndex := 62, attributes := #[] }, { accessFlags := 1, nameIndex := 34, descriptorIndex := 64, attributes := #[] }] 16433 23 #[] #[{ accessFlags := 16409, nameIndex := 5, descriptorIndex := 6, attributes := #[] }, { accessFlags := 16409, nameIndex := 9, descriptorIndex := 6, attributes := #[] }, { accessFlags := 16409, nameIndex := 12, descriptorIndex := 6, attributes := #[] }, { accessFlags := 18, nameIndex := 34, descriptorIndex := 35, attributes := #[] }, { accessFlags := 4122, nameIndex := 15, descriptorIndex := 16, attributes := #[] }])
  fields := #[{ name := "NOT_DEFERRABLE", type := (.object "com/example/holdfast/holdfast/sql/Deferrability"), accessFlags := 16409, slot := 0, constantValue := 0 }, { name := "INITIALLY_IMMEDIATE", type := (.object "com/example/holdfast/holdfast/sql/Deferrability"), accessFlags := 16409, slot := 1, constantValue := 0 }, { name := "INITIALLY_DEFERRED", type := (.object "com/example/holdfast/holdfast/sql/Deferrability"), accessFlags := 16409, slot := 2, constantValue := 0 }, { name := "initialMode", type := (.object "com/example/holdfast/holdfast/sql/ConstraintMode"), accessFlags := 18, slot := 3, constantValue := 0 }, { name := "$VALUES", type := (.array (.object "com/example/holdfast/holdfast/sql/Deferrability")), accessFlags := 4122, slot := 3, constantValue := 0 }]
  methods := #[k6m0, k6m1]
  instanceTypes := #[(.object "java/lang/String"), .int, .int, (.object "com/example/holdfast/holdfast/sql/ConstraintMode")]
  staticTypes := #[(.object "com/example/holdfast/holdfast/sql/Deferrability"), (.object "com/example/holdfast/holdfast/sql/Deferrability"), (.object "com/example/holdfast/holdfast/sql/Deferrability"), (.array (.object "com/example/holdfast/holdfast/sql/Deferrability"))]
  resolved := Array.replicate 70 none
  statics := some 0 }

def pool7 : Array CpInfo := pool [(1, .class_ 2), (0, u "com/example/holdfast/holdfast/sql/ConstraintMode"), (2, u "IMMEDIATE"), (0, u "Lcom/example/holdfast/holdfast/sql/ConstraintMode;"), (2, u "DEFERRED"), (2, u "$VALUES"), (0, u "[Lcom/example/holdfast/holdfast/sql/ConstraintMode;"), (6, .class_ 22), (1, u "java/lang/Enum")] 24

/-- com/example/holdfast/holdfast/sql/ConstraintMode -/
def k7 : Class := { plain "com/example/holdfast/holdfast/sql/ConstraintMode" (some 5) with
  accessFlags := 16433
  interfaces := #[]
  cf := some (fileOf pool7 1 #[] #[] 16433 20 #[] #[{ accessFlags := 16409, nameIndex := 5, descriptorIndex := 6, attributes := #[] }, { accessFlags := 16409, nameIndex := 9, descriptorIndex := 6, attributes := #[] }, { accessFlags := 4122, nameIndex := 12, descriptorIndex := 13, attributes := #[] }])
  fields := #[{ name := "IMMEDIATE", type := (.object "com/example/holdfast/holdfast/sql/ConstraintMode"), accessFlags := 16409, slot := 0, constantValue := 0 }, { name := "DEFERRED", type := (.object "com/example/holdfast/holdfast/sql/ConstraintMode"), accessFlags := 16409, slot := 1, constantValue := 0 }, { name := "$VALUES", type := (.array (.object "com/example/holdfast/holdfast/sql/ConstraintMode")), accessFlags := 4122, slot := 2, constantValue := 0 }]
  methods := #[]
  instanceTypes := #[(.object "java/lang/String"), .int, .int]
  staticTypes := #[(.object "com/example/holdfast/holdfast/sql/ConstraintMode"), (.object "com/example/holdfast/holdfast/sql/ConstraintMode"), (.array (.object "com/example/holdfast/holdfast/sql/ConstraintMode"))]
  resolved := Array.replicate 47 none
  statics := some 1 }

def pool8 : Array CpInfo := pool [(1, u "java/lang/Cloneable"), (0, .class_ 1), (0, u "java/lang/Object"), (0, .class_ 3)] 3

/-- java/lang/Cloneable -/
def k8 : Class := { plain "java/lang/Cloneable" (some 0) with
  accessFlags := 1537
  interfaces := #[]
  cf := some (fileOf pool8 2 #[] #[] 1537 4 #[] #[])
  fields := #[]
  methods := #[]
  instanceTypes := #[]
  staticTypes := #[]
  resolved := Array.replicate 8 none
  statics := none }

/-- the primitive byte -/
def k9 : Class := { plain "byte" none with kind := .primitive 'B', accessFlags := 0x411 }
/-- [B -/
def k10 : Class := { plain "[B" (some 0) with kind := .array 9 .byte, interfaces := #[8, 4], accessFlags := 1041 }

def heap : Heap := #[{ cls := 6, slots := #[.ref 4, .ref 5, .ref 6, .null], vm := .statics 6 },
  { cls := 7, slots := #[.ref 2, .ref 3, .null], vm := .statics 7 },
  { cls := 7, slots := #[.null, .int 0, .int 0], vm := .none },
  { cls := 7, slots := #[.null, .int 1, .int 0], vm := .none },
  { cls := 6, slots := #[.null, .int 0, .int 0, .ref 2], vm := .none },
  { cls := 6, slots := #[.null, .int 1, .int 0, .ref 2], vm := .none },
  { cls := 6, slots := #[.null, .int 2, .int 0, .ref 3], vm := .none }]
def classes : Array Class := #[k0, k1, k2, k3, k4, k5, k6, k7, k8, k9, k10]
def interned : List (Array UInt16 × Addr) := []
def slotsUsed : Nat := 25
def theMethod : MethodId := ⟨1, 1⟩
def args0 : Array Value := #[.int 5]
def aboutOver (below : List Frame) : State where
  vm := { classes := classes, interned := interned.toArray }
  heap := heap
  slotsUsed := slotsUsed
  threads := #[{ frames := .invoking theMethod args0 :: below }]
def below0 : List Frame := [.native { method := ⟨0, 0⟩, args := #[] }]
def about1 : State := aboutOver below0
def p0 : Program := .bare "" "" ""
def e0 : Env := launch0.env 0 0 0
theorem w_frames : about1.frames = Frame.invoking theMethod args0 :: below0 := rfl
set_option maxRecDepth 65536 in
theorem w_args : argsFit about1.vm theMethod args0 = true := by decide +kernel
set_option maxRecDepth 65536 in
theorem w_heap : heapFits about1 = true := by decide +kernel
set_option maxRecDepth 65536 in
theorem w_runnable : about1.curStatus? = some .runnable := by decide +kernel
set_option maxRecDepth 65536 in
theorem w_alone : about1.alone = true := by decide +kernel
set_option maxRecDepth 65536 in
theorem w_named : about1.methodNamed? x = some theMethod := by decide +kernel
set_option maxRecDepth 65536 in
theorem w_hears : about1.hears theMethod below0 = true := by decide +kernel
set_option maxRecDepth 65536 in
theorem w_ripe : about1.ripe theMethod args0 below0 = true := by decide +kernel
theorem w_running : about1.status = .running := rfl
set_option maxRecDepth 65536 in
theorem w_room : about1.hasRoom e0.platform room_1 = true :=
  launch0.hasRoom_least _ room_1 (by decide +kernel) (by decide +kernel) (by decide +kernel) (by decide +kernel) (by decide +kernel) (by decide +kernel)
theorem allAtoms_all (ts : List Jvm.Cond) (a : Array Jvm.Value) (st : Jvm.State) : (allAtoms ts).before a st = ts.all (fun c => c.before a st) := by
  induction ts with
  | nil => rfl
  | cons c t ih =>
    show (Jvm.Cond.and c (allAtoms t)).before a st = _
    rw [Jvm.Cond.before_and, ih, List.all_cons]
def words1 : List Jvm.Cond := Jvm.Cond.code x code maxLocals ret :: tables_1
/-- a 'code' word, met by the world's own term for the bytes: nothing is compared byte by byte -/
theorem code_word {y : MethodName} {bytes : ByteArray} {mx : Nat} {rt : Option FieldType} {a : Array Value} {s : State} {m : MethodId} {meth : Method} {c : Code} (h1 : s.methodNamed? y = some m) (h2 : s.vm.method? m = some meth) (h3 : meth.code = some c) (h4 : c.code = bytes)
    (h5 : (c.maxLocals == mx && c.exceptionTable.isEmpty && decide (c.maxStack ≤ mostOperands) && decide (meth.sig.returnType = rt) && !meth.locks && decide (parseMethodDescriptor y.desc = some meth.sig)) = true) : (Jvm.Cond.code y bytes mx rt).before a s = true := by
  simp only [Bool.and_eq_true, beq_iff_eq, Bool.not_eq_true', decide_eq_true_eq] at h5
  obtain ⟨⟨⟨⟨⟨g1, g2⟩, g3⟩, g4⟩, g5⟩, g6⟩ := h5
  simp [Cond.before, Cond.holds, Cond.value, h1, h2, h3, h4, g1, g2, g3, g4, g5, g6]
def isCode : Jvm.Cond → Bool
  | .code _ _ _ _ => true
  | _ => false
theorem all_split {L : List Jvm.Cond} {P : Jvm.Cond → Bool} (h1 : L.all (fun c => isCode c || P c) = true) (h2 : ∀ c ∈ L.filter isCode, P c = true) : L.all P = true := by
  refine List.all_eq_true.mpr fun c hc => ?_
  have h := List.all_eq_true.mp h1 c hc
  rcases Bool.eq_false_or_eq_true (isCode c) with hi | hi
  · exact h2 c (List.mem_filter.mpr ⟨hc, hi⟩)
  · simpa [hi] using h
set_option maxRecDepth 65536 in
theorem w_c0 : (Jvm.Cond.code x code maxLocals ret).before args0 about1 = true := code_word (m := ⟨1, 1⟩) (meth := k1m1) (c := k1c1) (by decide +kernel) rfl rfl rfl (by decide +kernel)
set_option maxRecDepth 65536 in
theorem w_c1 : (Jvm.Cond.code ({ cls := "com/example/holdfast/holdfast/sql/Deferrability", name := "deferrable", desc := "()Z" } : Jvm.MethodName) prog_46_method_4_code (1 : Nat) (Option.some Jvm.ClassFile.FieldType.boolean)).before args0 about1 = true := code_word (m := ⟨6, 0⟩) (meth := k6m0) (c := k6c0) (by decide +kernel) rfl rfl rfl (by decide +kernel)
set_option maxRecDepth 65536 in
theorem w_c2 : (Jvm.Cond.code ({ cls := "com/example/holdfast/holdfast/sql/Deferrability", name := "initialMode", desc := "()Lcom/example/holdfast/holdfast/sql/ConstraintMode;" } : Jvm.MethodName) prog_46_method_5_code (1 : Nat) (Option.some (Jvm.ClassFile.FieldType.object "com/example/holdfast/holdfast/sql/ConstraintMode"))).before args0 about1 = true := code_word (m := ⟨6, 1⟩) (meth := k6m1) (c := k6c1) (by decide +kernel) rfl rfl rfl (by decide +kernel)
def codes1 : List Jvm.Cond := [Jvm.Cond.code x code maxLocals ret, Jvm.Cond.code ({ cls := "com/example/holdfast/holdfast/sql/Deferrability", name := "deferrable", desc := "()Z" } : Jvm.MethodName) prog_46_method_4_code (1 : Nat) (Option.some Jvm.ClassFile.FieldType.boolean), Jvm.Cond.code ({ cls := "com/example/holdfast/holdfast/sql/Deferrability", name := "initialMode", desc := "()Lcom/example/holdfast/holdfast/sql/ConstraintMode;" } : Jvm.MethodName) prog_46_method_5_code (1 : Nat) (Option.some (Jvm.ClassFile.FieldType.object "com/example/holdfast/holdfast/sql/ConstraintMode"))]
set_option maxRecDepth 65536 in
theorem codes_eq : words1.filter isCode = codes1 := rfl
theorem w_codes : ∀ c ∈ words1.filter isCode, c.before args0 about1 = true := by
  rw [codes_eq]
  intro c hc
  simp only [codes1, List.mem_cons, List.not_mem_nil, or_false] at hc
  rcases hc with rfl | rfl | rfl
  · exact w_c0
  · exact w_c1
  · exact w_c2
set_option maxRecDepth 65536 in
theorem w_t1 : (words1.take 24).all (fun c => isCode c || c.before args0 about1) = true := by decide +kernel
set_option maxRecDepth 65536 in
theorem w_t2 : (words1.drop 24).all (fun c => isCode c || c.before args0 about1) = true := by decide +kernel
theorem w_tables : (allAtoms (Jvm.Cond.code x code maxLocals ret :: tables_1)).before args0 about1 = true := by
  rw [allAtoms_all]
  show words1.all (fun c => c.before args0 about1) = true
  refine all_split ?_ w_codes
  rw [← List.take_append_drop 24 words1, List.all_append, w_t1, w_t2]
  rfl
set_option maxRecDepth 65536 in
theorem w_case : (Jvm.Cond.and given_1 narrow_1).before args0 about1 = true := by decide +kernel
theorem w_applies : (headSpec (Jvm.Cond.code x code maxLocals ret :: tables_1) room_1).applies x e0.platform about1 = true :=
  (Spec.applies_iff w_frames).mpr ⟨w_running, w_runnable, w_alone, w_named, w_hears, w_ripe, w_room, w_tables⟩
theorem atStart : AtStart classFile x code maxLocals ret World_1 tables_1 room_1 Calls_1 rest_1 Pre_1 launch0 p0 e0 about1 theMethod args0 below0 :=
  ⟨lists_1, trivial, launch0.admits_env _ _ _, launch0.least_env, fairChoices_fair.cas, fairChoices_fair.clock, w_frames, w_args, w_heap, w_applies, trivial, trivial, w_case⟩
end start1
theorem witness_1 : WitnessClaimed_1 := ⟨start1.p0, start1.e0, start1.about1, start1.theMethod, start1.args0, start1.below0, start1.atStart⟩
end Jvm.Pilot.@@N@@
