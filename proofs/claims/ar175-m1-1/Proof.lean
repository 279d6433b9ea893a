import JvmDerived
import JvmDerived.Pilot.@@N@@Statement
import JvmDerived.Pilot.@@N@@Code
set_option linter.unusedVariables false
set_option linter.unusedSimpArgs false
namespace Jvm.RoadKit
open Sem ClassFile Op Lib Jvm.Stand Jvm.Free Jvm.LawKit
section New
variable {p : Program} {l : Launch} {e : Env} {R : Room} {s : State} {m : MethodId} {args : Array Value} {below : List Frame} {meth : Method} {c : Code} {T : State} {locs : List Loc} {cells slots : Nat}
theorem retI (X : Stand p l e R s m args below meth c T locs cells slots) (hx : p.tables.exec = Jvm.exec) {pc : Nat} {Ls : Array Slot} {z : Int32} {rest : List Value} (hret : meth.sig.returnType = some .int) (hd : decode c.code pc = .ok (.ireturn, 1)) {fs : List Frame}
    (hl : ∀ (f : JFrame) (acts : List Action), f.method = m → f.locked = none → f.entered = [] → (doReturn e (T.setTop f) acts (some (.int z))).1 = T.setFrames fs) : Steps p.tables e below (T.setTop (mkF m pc Ls (.int z :: rest))) (T.setFrames fs) := by
  have hm' : T.vm.method? m = some meth := X.method'
  have hn : narrow .int (.int z) = .int z := rfl
  show Steps p.tables e below (T.setTop { method := m, pc := pc, locals := Ls, stack := _ :: rest, locked := none }) _
  jvm_step X.here [X.here.top, hx, hd, hm', hret, hn]
  first | (intro acts; rw [hl _ acts rfl rfl rfl]) | rw [hl _ _ rfl rfl rfl]
  exact Steps.refl _
end New
end Jvm.RoadKit
namespace Jvm.Pilot.@@N@@
open Jvm Jvm.ClassFile Sem Op Lib Jvm.Free Jvm.Stand Jvm.LawKit Jvm.RoadKit Bundle Jvm.Pilot.@@N@@.Jvm.D
theorem own_fldI {args : Array Value} {s : State} {t : Term} {C n d : String} {w : Addr} {i : Int32} (ht : t.eval args s none [] s = some (.ref w)) (h : (Cond.eq (.field t C n d) (.int i)).value args s none s [] = some true) : Fld s s.heap w C n d (.int i) := by
  refine Fld.start ?_
  have e1 : (Term.field t C n d).eval args s none [] s = s.fieldOf? w C n d := fld_at ht
  obtain ⟨x, y, ex, ey, k1, k2⟩ := cmp_v (Or.inl h)
  have hy : y = .int i := Option.some.inj (ey.symm.trans (Term.int_eval i))
  subst hy
  obtain ⟨z, rfl⟩ := k2
  have hz : z = i := by
    have := h
    simp only [Cond.value, ex, ey] at this
    simpa using this
  subst hz
  rw [← e1]; exact ex
theorem own_fldR {args : Array Value} {s : State} {t u : Term} {C n d : String} {w b : Addr} (ht : t.eval args s none [] s = some (.ref w)) (hu : u.eval args s none [] s = some (.ref b)) (h : (Cond.eq (.field t C n d) u).value args s none s [] = some true) : Fld s s.heap w C n d (.ref b) := by
  refine Fld.start ?_
  have e1 : (Term.field t C n d).eval args s none [] s = s.fieldOf? w C n d := fld_at ht
  obtain ⟨x, y, ex, ey, k1, k2⟩ := cmp_v (Or.inl h)
  have hy : y = .ref b := Option.some.inj (ey.symm.trans hu)
  subst hy
  have hx : x.isRef = true := k2.2
  have := gotT (eq_R ex ey hx rfl) h
  subst this
  rw [← e1]; exact ex
theorem own_yes {n lo hi : Int32} (h1 : ¬ n < lo) (h2 : ¬ hi < n) : (if n < lo then (0 : Int32) else if hi < n then 0 else 1) = 1 := by rw [if_neg h1, if_neg h2]
theorem own_no {n lo hi : Int32} (h : n < lo ∨ hi < n) : (if n < lo then (0 : Int32) else if hi < n then 0 else 1) = 0 := by
  by_cases q : n < lo
  · rw [if_pos q]
  · rw [if_neg q, if_pos (h.resolve_left q)]
theorem own_ne {n c : Int32} (h : ¬ n = c) : n < c ∨ c < n := by
  have : n.toInt ≠ c.toInt := fun q => h (Int32.toInt_inj.mp q)
  simp only [Int32.lt_iff_toInt_lt]; omega
theorem own_top (n : Int32) : ¬ (2147483647 : Int32) < n := by
  rw [Int32.lt_iff_toInt_lt]
  have := (rng32 n).2
  have e : (2147483647 : Int32).toInt = 2147483647 := rfl
  omega
theorem own_23 {n : Int32} (h2 : ¬ n = 2) (h3 : ¬ n = 3) : n < 2 ∨ (3 : Int32) < n := by
  have a : n.toInt ≠ (2 : Int32).toInt := fun q => h2 (Int32.toInt_inj.mp q)
  have b : n.toInt ≠ (3 : Int32).toInt := fun q => h3 (Int32.toInt_inj.mp q)
  have e2 : (2 : Int32).toInt = 2 := rfl
  have e3 : (3 : Int32).toInt = 3 := rfl
  simp only [Int32.lt_iff_toInt_lt]; omega

theorem ef_1 (m : MethodId) (x0 : Addr) (x1 : Int32) : entryFrame m #[(.ref x0), (.int x1)] 2 = mkF m 0 #[.val (.ref x0), .val (.int x1)] [] := by first | (simp [entryFrame, mkF, argsToLocals, Value.category]; done) | rfl
theorem pn_com_example_bouncer_bouncer_expression_Vocabulary_Function : plainName "com/example/bouncer/bouncer/expression/Vocabulary$Function" = true := by first | (simp [plainName, overriddenIn]; done) | decide +kernel
theorem d1_0 : decode prog_57_method_8_code 0 = .ok (.iload_n 1, 1) := by decide +kernel
theorem d1_1 : decode prog_57_method_8_code 1 = .ok (.aload_n 0, 1) := by decide +kernel
theorem d1_2 : decode prog_57_method_8_code 2 = .ok (.getfield 48, 3) := by decide +kernel
theorem d1_5 : decode prog_57_method_8_code 5 = .ok (.if_icmp .lt 15, 3) := by decide +kernel
theorem d1_20 : decode prog_57_method_8_code 20 = .ok (.iconst 0, 1) := by decide +kernel
theorem d1_21 : decode prog_57_method_8_code 21 = .ok (.ireturn, 1) := by decide +kernel
theorem d1_8 : decode prog_57_method_8_code 8 = .ok (.iload_n 1, 1) := by decide +kernel
theorem d1_9 : decode prog_57_method_8_code 9 = .ok (.aload_n 0, 1) := by decide +kernel
theorem d1_10 : decode prog_57_method_8_code 10 = .ok (.getfield 52, 3) := by decide +kernel
theorem d1_13 : decode prog_57_method_8_code 13 = .ok (.if_icmp .gt 7, 3) := by decide +kernel
theorem d1_16 : decode prog_57_method_8_code 16 = .ok (.iconst 1, 1) := by decide +kernel
theorem d1_17 : decode prog_57_method_8_code 17 = .ok (.goto 4, 3) := by decide +kernel
def Q1 (Z : State) (a1 : Addr) (n : Int32) (lo : Int32) (hi : Int32) (r : Int32) (h0 : Heap) (n0 : Nat) (v : Option Value) (h : Heap) (L : List Loc) : Prop := v = some (.int r) ∧ Fr n0 L ∧ h = h0
set_option maxRecDepth 65536 in
set_option maxHeartbeats 40000000 in
theorem rm1 (l : Launch) (Z : State) (a0 : Array Value) (hw : ∀ d ∈ tables_1, d.before a0 Z = true) (ws : List Jvm.Cond) (a1 : Addr) (n : Int32) (lo : Int32) (hi : Int32) (r : Int32) (h0 : Heap) (n0 : Nat) (Z0 : n0 ≤ h0.size) (F_lo : Fld Z h0 a1 "com/example/bouncer/bouncer/expression/Vocabulary$Function" "fewest" "I" (.int lo)) (F_hi : Fld Z h0 a1 "com/example/bouncer/bouncer/expression/Vocabulary$Function" "most" "I" (.int hi)) (hr0 : (if n < lo then (0 : Int32) else if hi < n then 0 else 1) = r) :
    MetFree l (⟨"com/example/bouncer/bouncer/expression/Vocabulary$Function", "takes", "(I)Z"⟩ : MethodName) (head1 (Jvm.Cond.code (⟨"com/example/bouncer/bouncer/expression/Vocabulary$Function", "takes", "(I)Z"⟩ : MethodName) prog_57_method_8_code 2 (some .boolean) :: ws) ({ frames := 0, cells := 0, slots := 0, locals := 0 } : Room)) (fun a U => a = #[(.ref a1), (.int n)] ∧ Z.Warmed39 U.vm ∧ U.heap = h0) (fun _ _ _ _ _ => True) (fun _ U o U' => ∃ v L, o = .returned v ∧ Q1 Z a1 n lo hi r h0 n0 v U'.heap L ∧ FrameEnd U o U' L ({ frames := 0, cells := 0, slots := 0, locals := 0 } : Room).cells ({ frames := 0, cells := 0, slots := 0, locals := 0 } : Room).slots) := by
  refine MetFree.of_bodySF (plainFor_of_name pn_com_example_bouncer_bouncer_expression_Vocabulary_Function) hisR ?_
  intro p e s m args below meth c s₁ Bd hml0 hP hK
  obtain ⟨rfl, hZ, hh⟩ := hP
  have hx := Bd.exec
  have hby := Bd.bytes
  have hml : c.maxLocals = 2 := hml0
  have hown : s.vm.findClass "com/example/bouncer/bouncer/expression/Vocabulary$Function" = some m.cls := findClass_of_methodNamed Bd.named
  have hnm := (name_of_methodNamed Bd.named Bd.method).1
  have X0 : Stand p l e ({ frames := 0, cells := 0, slots := 0, locals := 0 } : Room) s m #[(.ref a1), (.int n)] below meth c s₁ [] 0 0 := Stand.of_body Bd
  have e0 : s₁.heap = h0 := by rw [← hh, Bd.state]; rfl
  have N0 := Fr.nil n0
  have k0 : ∀ t, Steps p.tables e below (s₁.setTop (mkF m 0 #[.val (.ref a1), .val (.int n)] [])) t → Steps p.tables e below (s₁.setTop (entryFrame m #[(.ref a1), (.int n)] 2)) t := fun t k => castTop (ef_1 m a1 n) k
  have k1 : ∀ t, Steps p.tables e below (s₁.setTop (mkF m 2 #[.val (.ref a1), .val (.int n)] [(.ref a1), (.int n)])) t → Steps p.tables e below (s₁.setTop (entryFrame m #[(.ref a1), (.int n)] 2)) t := fun t q => k0 t (by
      show Steps p.tables e below (s₁.setTop (mkF m 0 #[.val (.ref a1), .val (.int n)] [])) _
      refine XS.iloadN X0.here hx rfl (hb hby d1_0) rfl ?_
      show Steps p.tables e below (s₁.setTop (mkF m 1 #[.val (.ref a1), .val (.int n)] [(.int n)])) _
      refine XS.aloadN X0.here hx rfl (hb hby d1_1) rfl rfl ?_
      exact q)
  obtain ⟨T2, X2, e2, st2⟩ := getF X0 hx hZ hown (host := "") (Or.inl (hw _ (List.mem_of_getElem? (i := 9) rfl))) Via.refl e0 (F_lo) (g := (mkF m 2 #[.val (.ref a1), .val (.int n)] [(.ref a1), (.int n)])) rfl rfl (hb hby d1_2)
  have k3 : ∀ t, Steps p.tables e below (T2.setTop (mkF m 5 #[.val (.ref a1), .val (.int n)] [(.int lo), (.int n)])) t → Steps p.tables e below (s₁.setTop (entryFrame m #[(.ref a1), (.int n)] 2)) t := fun t q => k1 t (st2 t q)
  by_cases hc5 : n < lo
  · have k4 : ∀ t, Steps p.tables e below (T2.setTop (mkF m 21 #[.val (.ref a1), .val (.int n)] [(.int (0 : Int32))])) t → Steps p.tables e below (s₁.setTop (entryFrame m #[(.ref a1), (.int n)] 2)) t := fun t q => k3 t (by
        show Steps p.tables e below (T2.setTop (mkF m 5 #[.val (.ref a1), .val (.int n)] [(.int lo), (.int n)])) _
        refine XS.icmpYes X2.here hx rfl (pc0 := 5) (pc' := 20) rfl (hb hby d1_5) rfl (tlt (hc5 : n < lo)).1 (by decide) (by decide) ?_
        show Steps p.tables e below (T2.setTop (mkF m 20 #[.val (.ref a1), .val (.int n)] [])) _
        refine XS.iconst X2.here hx rfl (hb hby d1_20) ?_
        exact q)
    obtain ⟨fs, hr, hrun, hended, hW, hsame⟩ := X2.leave (v := some (.int (0 : Int32))) (fun h => by rw [Bd.returns] at h; cases h)
    refine ⟨_, _, k4 _ ?_, hrun, hended, _, _, rfl, ?_, ⟨_, rfl⟩, hW, hsame.mono (by decide) (by decide)⟩
    · exact retN X2 hx (t := .boolean) Bd.returns (by simp) (hb hby d1_21) hr
    · show Q1 Z a1 n lo hi r h0 n0 _ T2.heap _
      rw [e2]
      exact ⟨by rw [if_pos hc5] at hr0; rw [← hr0], N0, rfl⟩
  · have k5 : ∀ t, Steps p.tables e below (T2.setTop (mkF m 10 #[.val (.ref a1), .val (.int n)] [(.ref a1), (.int n)])) t → Steps p.tables e below (s₁.setTop (entryFrame m #[(.ref a1), (.int n)] 2)) t := fun t q => k3 t (by
        show Steps p.tables e below (T2.setTop (mkF m 5 #[.val (.ref a1), .val (.int n)] [(.int lo), (.int n)])) _
        refine XS.icmpNo X2.here hx rfl (hb hby d1_5) rfl (flt (hc5 : ¬ (n < lo))).1 ?_
        show Steps p.tables e below (T2.setTop (mkF m 8 #[.val (.ref a1), .val (.int n)] [])) _
        refine XS.iloadN X2.here hx rfl (hb hby d1_8) rfl ?_
        show Steps p.tables e below (T2.setTop (mkF m 9 #[.val (.ref a1), .val (.int n)] [(.int n)])) _
        refine XS.aloadN X2.here hx rfl (hb hby d1_9) rfl rfl ?_
        exact q)
    obtain ⟨T6, X6, e6, st6⟩ := getF X2 hx hZ hown (host := "") (Or.inl (hw _ (List.mem_of_getElem? (i := 11) rfl))) Via.refl e2 (F_hi) (g := (mkF m 10 #[.val (.ref a1), .val (.int n)] [(.ref a1), (.int n)])) rfl rfl (hb hby d1_10)
    have k7 : ∀ t, Steps p.tables e below (T6.setTop (mkF m 13 #[.val (.ref a1), .val (.int n)] [(.int hi), (.int n)])) t → Steps p.tables e below (s₁.setTop (entryFrame m #[(.ref a1), (.int n)] 2)) t := fun t q => k5 t (st6 t q)
    by_cases hc13 : hi < n
    · have k8 : ∀ t, Steps p.tables e below (T6.setTop (mkF m 21 #[.val (.ref a1), .val (.int n)] [(.int (0 : Int32))])) t → Steps p.tables e below (s₁.setTop (entryFrame m #[(.ref a1), (.int n)] 2)) t := fun t q => k7 t (by
          show Steps p.tables e below (T6.setTop (mkF m 13 #[.val (.ref a1), .val (.int n)] [(.int hi), (.int n)])) _
          refine XS.icmpYes X6.here hx rfl (pc0 := 13) (pc' := 20) rfl (hb hby d1_13) rfl (tlt (hc13 : hi < n)).2.2.1 (by decide) (by decide) ?_
          show Steps p.tables e below (T6.setTop (mkF m 20 #[.val (.ref a1), .val (.int n)] [])) _
          refine XS.iconst X6.here hx rfl (hb hby d1_20) ?_
          exact q)
      obtain ⟨fs, hr, hrun, hended, hW, hsame⟩ := X6.leave (v := some (.int (0 : Int32))) (fun h => by rw [Bd.returns] at h; cases h)
      refine ⟨_, _, k8 _ ?_, hrun, hended, _, _, rfl, ?_, ⟨_, rfl⟩, hW, hsame.mono (by decide) (by decide)⟩
      · exact retN X6 hx (t := .boolean) Bd.returns (by simp) (hb hby d1_21) hr
      · show Q1 Z a1 n lo hi r h0 n0 _ T6.heap _
        rw [e6]
        exact ⟨by rw [if_neg hc5, if_pos hc13] at hr0; rw [← hr0], N0, rfl⟩
    · have k9 : ∀ t, Steps p.tables e below (T6.setTop (mkF m 21 #[.val (.ref a1), .val (.int n)] [(.int (1 : Int32))])) t → Steps p.tables e below (s₁.setTop (entryFrame m #[(.ref a1), (.int n)] 2)) t := fun t q => k7 t (by
          show Steps p.tables e below (T6.setTop (mkF m 13 #[.val (.ref a1), .val (.int n)] [(.int hi), (.int n)])) _
          refine XS.icmpNo X6.here hx rfl (hb hby d1_13) rfl (flt (hc13 : ¬ (hi < n))).2.2.1 ?_
          show Steps p.tables e below (T6.setTop (mkF m 16 #[.val (.ref a1), .val (.int n)] [])) _
          refine XS.iconst X6.here hx rfl (hb hby d1_16) ?_
          show Steps p.tables e below (T6.setTop (mkF m 17 #[.val (.ref a1), .val (.int n)] [(.int (1 : Int32))])) _
          refine XS.goto X6.here hx rfl (pc0 := 17) (pc' := 21) rfl (hb hby d1_17) (by decide) (by decide) ?_
          exact q)
      obtain ⟨fs, hr, hrun, hended, hW, hsame⟩ := X6.leave (v := some (.int (1 : Int32))) (fun h => by rw [Bd.returns] at h; cases h)
      refine ⟨_, _, k9 _ ?_, hrun, hended, _, _, rfl, ?_, ⟨_, rfl⟩, hW, hsame.mono (by decide) (by decide)⟩
      · exact retN X6 hx (t := .boolean) Bd.returns (by simp) (hb hby d1_21) hr
      · show Q1 Z a1 n lo hi r h0 n0 _ T6.heap _
        rw [e6]
        exact ⟨by rw [if_neg hc5, if_neg hc13] at hr0; rw [← hr0], N0, rfl⟩
set_option maxRecDepth 65536 in
set_option maxHeartbeats 40000000 in
theorem sgA {p : Program} {l : Launch} {e : Env} {R : Room} {s : State} {m : MethodId} {args : Array Value} {below : List Frame} {meth : Method} {c : Code} {T0 : State} {locs : List Loc} {cells slots : Nat} {Z : State} {a0 : Array Value} {h0 : Heap} (p1 : Int32) (p2 : Int32) (p3 : Int32) (k : Int32) (n : Int32)
    (X0 : Stand p l e R s m args below meth c T0 locs cells slots) (hx : p.tables.exec = Jvm.exec) (hZ : Z.Warmed39 s.vm) (hw : ∀ d ∈ tables_1, d.before a0 Z = true) (hby : c.code = code) (hml : c.maxLocals = 7) (hown : s.vm.findClass "com/example/bouncer/bouncer/expression/FunctionTakesPinLaw" = some m.cls) (e0 : T0.heap = h0) (hk0 : ((p1 &&& (2147483647 : Int32)) % (7 : Int32)) = k) (hn0 : (if (p3 &&& (1 : Int32)) = (0 : Int32) then (p2 % (6 : Int32)) else p2) = n) :
    ∃ (T' : State), Stand p l e R s m args below meth c T' locs cells slots ∧ T'.heap = h0 ∧ ∀ t, Steps p.tables e below (T'.setTop (mkF m 24 #[.val (.int p1), .val (.int p2), .val (.int p3), .val (.int k), .val (.int n), .unset, .unset] [])) t → Steps p.tables e below (T0.setTop (mkF m 0 #[.val (.int p1), .val (.int p2), .val (.int p3), .unset, .unset, .unset, .unset] [])) t := by
  have k0 : ∀ t, Steps p.tables e below (T0.setTop (mkF m 0 #[.val (.int p1), .val (.int p2), .val (.int p3), .unset, .unset, .unset, .unset] [])) t → Steps p.tables e below (T0.setTop (mkF m 0 #[.val (.int p1), .val (.int p2), .val (.int p3), .unset, .unset, .unset, .unset] [])) t := fun _ q => q
  have k1 : ∀ t, Steps p.tables e below (T0.setTop (mkF m 11 #[.val (.int p1), .val (.int p2), .val (.int p3), .val (.int ((p1 &&& (2147483647 : Int32)) % (7 : Int32))), .unset, .unset, .unset] [(.int (p3 &&& (1 : Int32)))])) t → Steps p.tables e below (T0.setTop (mkF m 0 #[.val (.int p1), .val (.int p2), .val (.int p3), .unset, .unset, .unset, .unset] [])) t := fun t q => k0 t (by
      show Steps p.tables e below (T0.setTop (mkF m 0 #[.val (.int p1), .val (.int p2), .val (.int p3), .unset, .unset, .unset, .unset] [])) _
      refine XS.iloadN X0.here hx rfl (hb hby at_0) rfl ?_
      show Steps p.tables e below (T0.setTop (mkF m 1 #[.val (.int p1), .val (.int p2), .val (.int p3), .unset, .unset, .unset, .unset] [(.int p1)])) _
      refine X0.ldcInt hx hown (mvT hZ (hw _ (List.mem_of_getElem? (i := 0) rfl))) (g := (mkF m 1 #[.val (.int p1), .val (.int p2), .val (.int p3), .unset, .unset, .unset, .unset] [(.int p1)])) rfl (hb hby at_1) _ ?_
      show Steps p.tables e below (T0.setTop (mkF m 3 #[.val (.int p1), .val (.int p2), .val (.int p3), .unset, .unset, .unset, .unset] [(.int (2147483647 : Int32)), (.int p1)])) _
      refine XS.iand X0.here hx rfl (hb hby at_3) rfl ?_
      show Steps p.tables e below (T0.setTop (mkF m 4 #[.val (.int p1), .val (.int p2), .val (.int p3), .unset, .unset, .unset, .unset] [(.int (p1 &&& (2147483647 : Int32)))])) _
      refine XS.bipush X0.here hx rfl (hb hby at_4) ?_
      show Steps p.tables e below (T0.setTop (mkF m 6 #[.val (.int p1), .val (.int p2), .val (.int p3), .unset, .unset, .unset, .unset] [(.int (7 : Int32)), (.int (p1 &&& (2147483647 : Int32)))])) _
      refine iremM X0 hx rfl (hb hby at_6) rfl (by decide) ?_
      show Steps p.tables e below (T0.setTop (mkF m 7 #[.val (.int p1), .val (.int p2), .val (.int p3), .unset, .unset, .unset, .unset] [(.int ((p1 &&& (2147483647 : Int32)) % (7 : Int32)))])) _
      refine XS.istoreN X0.here hx rfl (hb hby at_7) rfl (l' := #[.val (.int p1), .val (.int p2), .val (.int p3), .val (.int ((p1 &&& (2147483647 : Int32)) % (7 : Int32))), .unset, .unset, .unset]) rfl ?_
      show Steps p.tables e below (T0.setTop (mkF m 8 #[.val (.int p1), .val (.int p2), .val (.int p3), .val (.int ((p1 &&& (2147483647 : Int32)) % (7 : Int32))), .unset, .unset, .unset] [])) _
      refine XS.iloadN X0.here hx rfl (hb hby at_8) rfl ?_
      show Steps p.tables e below (T0.setTop (mkF m 9 #[.val (.int p1), .val (.int p2), .val (.int p3), .val (.int ((p1 &&& (2147483647 : Int32)) % (7 : Int32))), .unset, .unset, .unset] [(.int p3)])) _
      refine XS.iconst X0.here hx rfl (hb hby at_9) ?_
      show Steps p.tables e below (T0.setTop (mkF m 10 #[.val (.int p1), .val (.int p2), .val (.int p3), .val (.int ((p1 &&& (2147483647 : Int32)) % (7 : Int32))), .unset, .unset, .unset] [(.int (1 : Int32)), (.int p3)])) _
      refine XS.iand X0.here hx rfl (hb hby at_10) rfl ?_
      exact q)
  by_cases hc11 : (p3 &&& (1 : Int32)) = (0 : Int32)
  · have k2 : ∀ t, Steps p.tables e below (T0.setTop (mkF m 24 #[.val (.int p1), .val (.int p2), .val (.int p3), .val (.int ((p1 &&& (2147483647 : Int32)) % (7 : Int32))), .val (.int (p2 % (6 : Int32))), .unset, .unset] [])) t → Steps p.tables e below (T0.setTop (mkF m 0 #[.val (.int p1), .val (.int p2), .val (.int p3), .unset, .unset, .unset, .unset] [])) t := fun t q => k1 t (by
        show Steps p.tables e below (T0.setTop (mkF m 11 #[.val (.int p1), .val (.int p2), .val (.int p3), .val (.int ((p1 &&& (2147483647 : Int32)) % (7 : Int32))), .unset, .unset, .unset] [(.int (p3 &&& (1 : Int32)))])) _
        refine XS.ifYes X0.here hx rfl (pc0 := 11) (pc' := 18) rfl (hb hby at_11) rfl ((if0 _ _).trans (teq (hc11 : (p3 &&& (1 : Int32)) = (0 : Int32))).1) (by decide) (by decide) ?_
        show Steps p.tables e below (T0.setTop (mkF m 18 #[.val (.int p1), .val (.int p2), .val (.int p3), .val (.int ((p1 &&& (2147483647 : Int32)) % (7 : Int32))), .unset, .unset, .unset] [])) _
        refine XS.iloadN X0.here hx rfl (hb hby at_18) rfl ?_
        show Steps p.tables e below (T0.setTop (mkF m 19 #[.val (.int p1), .val (.int p2), .val (.int p3), .val (.int ((p1 &&& (2147483647 : Int32)) % (7 : Int32))), .unset, .unset, .unset] [(.int p2)])) _
        refine XS.bipush X0.here hx rfl (hb hby at_19) ?_
        show Steps p.tables e below (T0.setTop (mkF m 21 #[.val (.int p1), .val (.int p2), .val (.int p3), .val (.int ((p1 &&& (2147483647 : Int32)) % (7 : Int32))), .unset, .unset, .unset] [(.int (6 : Int32)), (.int p2)])) _
        refine iremM X0 hx rfl (hb hby at_21) rfl (by decide) ?_
        show Steps p.tables e below (T0.setTop (mkF m 22 #[.val (.int p1), .val (.int p2), .val (.int p3), .val (.int ((p1 &&& (2147483647 : Int32)) % (7 : Int32))), .unset, .unset, .unset] [(.int (p2 % (6 : Int32)))])) _
        refine XS.istore X0.here hx rfl (hb hby at_22) rfl (l' := #[.val (.int p1), .val (.int p2), .val (.int p3), .val (.int ((p1 &&& (2147483647 : Int32)) % (7 : Int32))), .val (.int (p2 % (6 : Int32))), .unset, .unset]) rfl ?_
        exact q)
    refine ⟨T0, X0, e0, fun t q => k2 t ?_⟩
    rw [if_pos hc11] at hn0
    subst hk0 hn0
    exact q
  · have k3 : ∀ t, Steps p.tables e below (T0.setTop (mkF m 24 #[.val (.int p1), .val (.int p2), .val (.int p3), .val (.int ((p1 &&& (2147483647 : Int32)) % (7 : Int32))), .val (.int p2), .unset, .unset] [])) t → Steps p.tables e below (T0.setTop (mkF m 0 #[.val (.int p1), .val (.int p2), .val (.int p3), .unset, .unset, .unset, .unset] [])) t := fun t q => k1 t (by
        show Steps p.tables e below (T0.setTop (mkF m 11 #[.val (.int p1), .val (.int p2), .val (.int p3), .val (.int ((p1 &&& (2147483647 : Int32)) % (7 : Int32))), .unset, .unset, .unset] [(.int (p3 &&& (1 : Int32)))])) _
        refine XS.ifNo X0.here hx rfl (hb hby at_11) rfl ((if0 _ _).trans (feq (hc11 : ¬ ((p3 &&& (1 : Int32)) = (0 : Int32)))).1) ?_
        show Steps p.tables e below (T0.setTop (mkF m 14 #[.val (.int p1), .val (.int p2), .val (.int p3), .val (.int ((p1 &&& (2147483647 : Int32)) % (7 : Int32))), .unset, .unset, .unset] [])) _
        refine XS.iloadN X0.here hx rfl (hb hby at_14) rfl ?_
        show Steps p.tables e below (T0.setTop (mkF m 15 #[.val (.int p1), .val (.int p2), .val (.int p3), .val (.int ((p1 &&& (2147483647 : Int32)) % (7 : Int32))), .unset, .unset, .unset] [(.int p2)])) _
        refine XS.goto X0.here hx rfl (pc0 := 15) (pc' := 22) rfl (hb hby at_15) (by decide) (by decide) ?_
        show Steps p.tables e below (T0.setTop (mkF m 22 #[.val (.int p1), .val (.int p2), .val (.int p3), .val (.int ((p1 &&& (2147483647 : Int32)) % (7 : Int32))), .unset, .unset, .unset] [(.int p2)])) _
        refine XS.istore X0.here hx rfl (hb hby at_22) rfl (l' := #[.val (.int p1), .val (.int p2), .val (.int p3), .val (.int ((p1 &&& (2147483647 : Int32)) % (7 : Int32))), .val (.int p2), .unset, .unset]) rfl ?_
        exact q)
    refine ⟨T0, X0, e0, fun t q => k3 t ?_⟩
    rw [if_neg hc11] at hn0
    subst hk0 hn0
    exact q
theorem ef_L (m : MethodId) (x0 : Int32) (x1 : Int32) (x2 : Int32) : entryFrame m #[(.int x0), (.int x1), (.int x2)] maxLocals = mkF m 0 #[.val (.int x0), .val (.int x1), .val (.int x2), .unset, .unset, .unset, .unset] [] := by first | (simp [entryFrame, mkF, argsToLocals, Value.category, maxLocals]; done) | rfl
theorem pn_com_example_bouncer_bouncer_expression_FunctionTakesPinLaw : plainName "com/example/bouncer/bouncer/expression/FunctionTakesPinLaw" = true := by first | (simp [plainName, overriddenIn]; done) | decide +kernel
theorem pd__I_Z : parseMethodDescriptor "(I)Z" = some ⟨[.int], some .boolean⟩ := by decide +kernel
def QL (Z : State) (p1 : Int32) (p2 : Int32) (p3 : Int32) (f0 : Addr) (f1 : Addr) (f2 : Addr) (f3 : Addr) (f4 : Addr) (f5 : Addr) (f6 : Addr) (k : Int32) (n : Int32) (h0 : Heap) (n0 : Nat) (v : Option Value) (h : Heap) (L : List Loc) : Prop := v = some (.int (1 : Int32)) ∧ Fr n0 L
set_option maxRecDepth 65536 in
set_option maxHeartbeats 40000000 in
theorem rmL (l : Launch) (Z : State) (a0 : Array Value) (hw : ∀ d ∈ tables_1, d.before a0 Z = true) (ws : List Jvm.Cond) (p1 : Int32) (p2 : Int32) (p3 : Int32) (f0 : Addr) (f1 : Addr) (f2 : Addr) (f3 : Addr) (f4 : Addr) (f5 : Addr) (f6 : Addr) (k : Int32) (n : Int32) (h0 : Heap) (n0 : Nat) (Z0 : n0 ≤ h0.size) (S_IS_AUTHENTICATED : Sta Z h0 "com/example/bouncer/bouncer/expression/Vocabulary$Function" "IS_AUTHENTICATED" "Lcom/example/bouncer/bouncer/expression/Vocabulary$Function;" (.ref f0)) (E_f0 : Exa Z h0 f0 "com/example/bouncer/bouncer/expression/Vocabulary$Function") (L_f0 : Fld Z h0 f0 "com/example/bouncer/bouncer/expression/Vocabulary$Function" "fewest" "I" (.int (0 : Int32))) (H_f0 : Fld Z h0 f0 "com/example/bouncer/bouncer/expression/Vocabulary$Function" "most" "I" (.int (0 : Int32))) (S_IS_ANONYMOUS : Sta Z h0 "com/example/bouncer/bouncer/expression/Vocabulary$Function" "IS_ANONYMOUS" "Lcom/example/bouncer/bouncer/expression/Vocabulary$Function;" (.ref f1)) (E_f1 : Exa Z h0 f1 "com/example/bouncer/bouncer/expression/Vocabulary$Function") (L_f1 : Fld Z h0 f1 "com/example/bouncer/bouncer/expression/Vocabulary$Function" "fewest" "I" (.int (0 : Int32))) (H_f1 : Fld Z h0 f1 "com/example/bouncer/bouncer/expression/Vocabulary$Function" "most" "I" (.int (0 : Int32))) (S_HAS_AUTHORITY : Sta Z h0 "com/example/bouncer/bouncer/expression/Vocabulary$Function" "HAS_AUTHORITY" "Lcom/example/bouncer/bouncer/expression/Vocabulary$Function;" (.ref f2)) (E_f2 : Exa Z h0 f2 "com/example/bouncer/bouncer/expression/Vocabulary$Function") (L_f2 : Fld Z h0 f2 "com/example/bouncer/bouncer/expression/Vocabulary$Function" "fewest" "I" (.int (1 : Int32))) (H_f2 : Fld Z h0 f2 "com/example/bouncer/bouncer/expression/Vocabulary$Function" "most" "I" (.int (1 : Int32))) (S_HAS_ANY_AUTHORITY : Sta Z h0 "com/example/bouncer/bouncer/expression/Vocabulary$Function" "HAS_ANY_AUTHORITY" "Lcom/example/bouncer/bouncer/expression/Vocabulary$Function;" (.ref f3)) (E_f3 : Exa Z h0 f3 "com/example/bouncer/bouncer/expression/Vocabulary$Function") (L_f3 : Fld Z h0 f3 "com/example/bouncer/bouncer/expression/Vocabulary$Function" "fewest" "I" (.int (1 : Int32))) (H_f3 : Fld Z h0 f3 "com/example/bouncer/bouncer/expression/Vocabulary$Function" "most" "I" (.int (2147483647 : Int32))) (S_HAS_ROLE : Sta Z h0 "com/example/bouncer/bouncer/expression/Vocabulary$Function" "HAS_ROLE" "Lcom/example/bouncer/bouncer/expression/Vocabulary$Function;" (.ref f4)) (E_f4 : Exa Z h0 f4 "com/example/bouncer/bouncer/expression/Vocabulary$Function") (L_f4 : Fld Z h0 f4 "com/example/bouncer/bouncer/expression/Vocabulary$Function" "fewest" "I" (.int (1 : Int32))) (H_f4 : Fld Z h0 f4 "com/example/bouncer/bouncer/expression/Vocabulary$Function" "most" "I" (.int (1 : Int32))) (S_HAS_ANY_ROLE : Sta Z h0 "com/example/bouncer/bouncer/expression/Vocabulary$Function" "HAS_ANY_ROLE" "Lcom/example/bouncer/bouncer/expression/Vocabulary$Function;" (.ref f5)) (E_f5 : Exa Z h0 f5 "com/example/bouncer/bouncer/expression/Vocabulary$Function") (L_f5 : Fld Z h0 f5 "com/example/bouncer/bouncer/expression/Vocabulary$Function" "fewest" "I" (.int (1 : Int32))) (H_f5 : Fld Z h0 f5 "com/example/bouncer/bouncer/expression/Vocabulary$Function" "most" "I" (.int (2147483647 : Int32))) (S_HAS_PERMISSION : Sta Z h0 "com/example/bouncer/bouncer/expression/Vocabulary$Function" "HAS_PERMISSION" "Lcom/example/bouncer/bouncer/expression/Vocabulary$Function;" (.ref f6)) (E_f6 : Exa Z h0 f6 "com/example/bouncer/bouncer/expression/Vocabulary$Function") (L_f6 : Fld Z h0 f6 "com/example/bouncer/bouncer/expression/Vocabulary$Function" "fewest" "I" (.int (2 : Int32))) (H_f6 : Fld Z h0 f6 "com/example/bouncer/bouncer/expression/Vocabulary$Function" "most" "I" (.int (3 : Int32))) (hk0 : ((p1 &&& (2147483647 : Int32)) % (7 : Int32)) = k) (hn0 : (if (p3 &&& (1 : Int32)) = (0 : Int32) then (p2 % (6 : Int32)) else p2) = n) :
    MetFree l x (head1 (Jvm.Cond.code x code maxLocals ret :: ws) room_1) (fun a U => a = #[(.int p1), (.int p2), (.int p3)] ∧ Z.Warmed39 U.vm ∧ U.heap = h0) (fun _ _ _ _ _ => True) (fun _ U o U' => ∃ v L, o = .returned v ∧ QL Z p1 p2 p3 f0 f1 f2 f3 f4 f5 f6 k n h0 n0 v U'.heap L ∧ FrameEnd U o U' L room_1.cells room_1.slots) := by
  refine MetFree.of_bodySF (plainFor_of_name pn_com_example_bouncer_bouncer_expression_FunctionTakesPinLaw) hisR ?_
  intro p e s m args below meth c s₁ Bd hml0 hP hK
  obtain ⟨rfl, hZ, hh⟩ := hP
  have hx := Bd.exec
  have hby := Bd.bytes
  have hml : c.maxLocals = 7 := hml0
  have hown : s.vm.findClass "com/example/bouncer/bouncer/expression/FunctionTakesPinLaw" = some m.cls := findClass_of_methodNamed Bd.named
  have hnm := (name_of_methodNamed Bd.named Bd.method).1
  have X0 : Stand p l e room_1 s m #[(.int p1), (.int p2), (.int p3)] below meth c s₁ [] 0 0 := Stand.of_body Bd
  have e0 : s₁.heap = h0 := by rw [← hh, Bd.state]; rfl
  have N0 := Fr.nil n0
  have k0 : ∀ t, Steps p.tables e below (s₁.setTop (mkF m 0 #[.val (.int p1), .val (.int p2), .val (.int p3), .unset, .unset, .unset, .unset] [])) t → Steps p.tables e below (s₁.setTop (entryFrame m #[(.int p1), (.int p2), (.int p3)] maxLocals)) t := fun t k => castTop (ef_L m p1 p2 p3) k
  obtain ⟨T1, X1, e1, st1⟩ := sgA p1 p2 p3 k n X0 hx hZ hw hby hml hown e0 hk0 hn0
  have k2 : ∀ t, Steps p.tables e below (T1.setTop (mkF m 24 #[.val (.int p1), .val (.int p2), .val (.int p3), .val (.int k), .val (.int n), .unset, .unset] [])) t → Steps p.tables e below (s₁.setTop (entryFrame m #[(.int p1), (.int p2), (.int p3)] maxLocals)) t := fun t q => k0 t (st1 t q)
  have k3 : ∀ t, Steps p.tables e below (T1.setTop (mkF m 25 #[.val (.int p1), .val (.int p2), .val (.int p3), .val (.int k), .val (.int n), .unset, .unset] [(.int k)])) t → Steps p.tables e below (s₁.setTop (entryFrame m #[(.int p1), (.int p2), (.int p3)] maxLocals)) t := fun t q => k2 t (by
      show Steps p.tables e below (T1.setTop (mkF m 24 #[.val (.int p1), .val (.int p2), .val (.int p3), .val (.int k), .val (.int n), .unset, .unset] [])) _
      refine XS.iloadN X1.here hx rfl (hb hby at_24) rfl ?_
      exact q)
  by_cases hc25 : k = (0 : Int32)
  · have k4 : ∀ t, Steps p.tables e below (T1.setTop (mkF m 28 #[.val (.int p1), .val (.int p2), .val (.int p3), .val (.int k), .val (.int n), .unset, .unset] [])) t → Steps p.tables e below (s₁.setTop (entryFrame m #[(.int p1), (.int p2), (.int p3)] maxLocals)) t := fun t q => k3 t (by
        show Steps p.tables e below (T1.setTop (mkF m 25 #[.val (.int p1), .val (.int p2), .val (.int p3), .val (.int k), .val (.int n), .unset, .unset] [(.int k)])) _
        refine XS.ifNo X1.here hx rfl (hb hby at_25) rfl ((if0 _ _).trans (teq (hc25 : k = (0 : Int32))).2) ?_
        exact q)
    obtain ⟨T5, X5, e5, st5⟩ := getS2 X1 hx hZ hown (host := "") (Or.inl (hw _ (List.mem_of_getElem? (i := 1) rfl))) Via.refl e1 (S_IS_AUTHENTICATED) (g := (mkF m 28 #[.val (.int p1), .val (.int p2), .val (.int p3), .val (.int k), .val (.int n), .unset, .unset] [])) rfl (hb hby at_28)
    have k6 : ∀ t, Steps p.tables e below (T5.setTop (mkF m 31 #[.val (.int p1), .val (.int p2), .val (.int p3), .val (.int k), .val (.int n), .unset, .unset] [(.ref f0)])) t → Steps p.tables e below (s₁.setTop (entryFrame m #[(.int p1), (.int p2), (.int p3)] maxLocals)) t := fun t q => k4 t (st5 t q)
    have k7 : ∀ t, Steps p.tables e below (T5.setTop (mkF m 35 #[.val (.int p1), .val (.int p2), .val (.int p3), .val (.int k), .val (.int n), .val (.ref f0), .unset] [(.int n)])) t → Steps p.tables e below (s₁.setTop (entryFrame m #[(.int p1), (.int p2), (.int p3)] maxLocals)) t := fun t q => k6 t (by
        show Steps p.tables e below (T5.setTop (mkF m 31 #[.val (.int p1), .val (.int p2), .val (.int p3), .val (.int k), .val (.int n), .unset, .unset] [(.ref f0)])) _
        refine XS.astore X5.here hx rfl (hb hby at_31) rfl rfl (l' := #[.val (.int p1), .val (.int p2), .val (.int p3), .val (.int k), .val (.int n), .val (.ref f0), .unset]) rfl ?_
        show Steps p.tables e below (T5.setTop (mkF m 33 #[.val (.int p1), .val (.int p2), .val (.int p3), .val (.int k), .val (.int n), .val (.ref f0), .unset] [])) _
        refine XS.iload X5.here hx rfl (hb hby at_33) rfl ?_
        exact q)
    by_cases hc35 : n = (0 : Int32)
    · have k8 : ∀ t, Steps p.tables e below (T5.setTop (mkF m 205 #[.val (.int p1), .val (.int p2), .val (.int p3), .val (.int k), .val (.int n), .val (.ref f0), .val (.int (1 : Int32))] [(.int n), (.ref f0)])) t → Steps p.tables e below (s₁.setTop (entryFrame m #[(.int p1), (.int p2), (.int p3)] maxLocals)) t := fun t q => k7 t (by
          show Steps p.tables e below (T5.setTop (mkF m 35 #[.val (.int p1), .val (.int p2), .val (.int p3), .val (.int k), .val (.int n), .val (.ref f0), .unset] [(.int n)])) _
          refine XS.ifNo X5.here hx rfl (hb hby at_35) rfl ((if0 _ _).trans (teq (hc35 : n = (0 : Int32))).2) ?_
          show Steps p.tables e below (T5.setTop (mkF m 38 #[.val (.int p1), .val (.int p2), .val (.int p3), .val (.int k), .val (.int n), .val (.ref f0), .unset] [])) _
          refine XS.iconst X5.here hx rfl (hb hby at_38) ?_
          show Steps p.tables e below (T5.setTop (mkF m 39 #[.val (.int p1), .val (.int p2), .val (.int p3), .val (.int k), .val (.int n), .val (.ref f0), .unset] [(.int (1 : Int32))])) _
          refine XS.goto X5.here hx rfl (pc0 := 39) (pc' := 43) rfl (hb hby at_39) (by decide) (by decide) ?_
          show Steps p.tables e below (T5.setTop (mkF m 43 #[.val (.int p1), .val (.int p2), .val (.int p3), .val (.int k), .val (.int n), .val (.ref f0), .unset] [(.int (1 : Int32))])) _
          refine XS.istore X5.here hx rfl (hb hby at_43) rfl (l' := #[.val (.int p1), .val (.int p2), .val (.int p3), .val (.int k), .val (.int n), .val (.ref f0), .val (.int (1 : Int32))]) rfl ?_
          show Steps p.tables e below (T5.setTop (mkF m 45 #[.val (.int p1), .val (.int p2), .val (.int p3), .val (.int k), .val (.int n), .val (.ref f0), .val (.int (1 : Int32))] [])) _
          refine XS.goto X5.here hx rfl (pc0 := 45) (pc' := 201) rfl (hb hby at_45) (by decide) (by decide) ?_
          show Steps p.tables e below (T5.setTop (mkF m 201 #[.val (.int p1), .val (.int p2), .val (.int p3), .val (.int k), .val (.int n), .val (.ref f0), .val (.int (1 : Int32))] [])) _
          refine XS.aload X5.here hx rfl (hb hby at_201) rfl rfl ?_
          show Steps p.tables e below (T5.setTop (mkF m 203 #[.val (.int p1), .val (.int p2), .val (.int p3), .val (.int k), .val (.int n), .val (.ref f0), .val (.int (1 : Int32))] [(.ref f0)])) _
          refine XS.iload X5.here hx rfl (hb hby at_203) rfl ?_
          exact q)
      obtain ⟨cq9, kq9, q9a, q9b, q9c⟩ := isOf hZ e5 (E_f0)
      obtain ⟨_, _, ⟨T9, L9, kk9, nn9⟩, -, X9, ⟨Lc9, hQ9, l9, y9, z9⟩, st9⟩ := X5.virtualBack hx (y := (⟨"com/example/bouncer/bouncer/expression/Vocabulary$Function", "takes", "(I)Z"⟩ : MethodName)) (z := (⟨"com/example/bouncer/bouncer/expression/Vocabulary$Function", "takes", "(I)Z"⟩ : MethodName)) hown (mvT hZ (hw _ (List.mem_of_getElem? (i := 4) rfl))) (mvT hZ (hw _ (List.mem_of_getElem? (i := 5) rfl))) (notFace_of_selects (args := #[]) (mvT hZ (hw _ (List.mem_of_getElem? (i := 7) rfl)))) (mvT hZ (hw _ (List.mem_of_getElem? (i := 7) rfl))) (mvT hZ (hw _ (List.mem_of_getElem? (i := 6) rfl))) (by decide) (backOf (W := 0) (rm1 l Z a0 hw [] f0 n (0 : Int32) (0 : Int32) (1 : Int32) h0 n0 Z0 L_f0 H_f0 (own_yes (by rw [hc35]; decide) (by rw [hc35]; decide))) hZ (hw _ (List.mem_of_getElem? (i := 8) rfl)) (hw _ (List.mem_of_getElem? (i := 2) rfl)) (by decide) (by decide)) q9a q9c (g := (mkF m 205 #[.val (.int p1), .val (.int p2), .val (.int p3), .val (.int k), .val (.int n), .val (.ref f0), .val (.int (1 : Int32))] [(.int n), (.ref f0)])) rfl (by rw [hml]; rfl) (Steps.refl _) (argsL := [(.int n)]) (rest := []) (lenOf pd__I_Z rfl) rfl (by show 2 * 0 + _ ≤ _; exact Nat.le_of_eq rfl) (hb hby at_205) (fun _ _ => ⟨rfl, e5, (by decide : 0 + 0 ≤ _), (by decide : 0 + 0 ≤ _)⟩)
      dsimp only [Pt.U, Pt.locs, Pt.cells, Pt.slots] at X9 l9 y9 z9 st9 hQ9
      subst l9 y9 z9
      obtain ⟨rfl, N9q, e9⟩ := hQ9
      have N9 := Fr.app N0 N9q
      have k10 : ∀ t, Steps p.tables e below (T9.setTop (mkF m 208 #[.val (.int p1), .val (.int p2), .val (.int p3), .val (.int k), .val (.int n), .val (.ref f0), .val (.int (1 : Int32))] [(.int (1 : Int32))])) t → Steps p.tables e below (s₁.setTop (entryFrame m #[(.int p1), (.int p2), (.int p3)] maxLocals)) t := fun t q => k8 t (st9.trans q)
      have k11 : ∀ t, Steps p.tables e below (T9.setTop (mkF m 218 #[.val (.int p1), .val (.int p2), .val (.int p3), .val (.int k), .val (.int n), .val (.ref f0), .val (.int (1 : Int32))] [(.int (1 : Int32))])) t → Steps p.tables e below (s₁.setTop (entryFrame m #[(.int p1), (.int p2), (.int p3)] maxLocals)) t := fun t q => k10 t (by
          show Steps p.tables e below (T9.setTop (mkF m 208 #[.val (.int p1), .val (.int p2), .val (.int p3), .val (.int k), .val (.int n), .val (.ref f0), .val (.int (1 : Int32))] [(.int (1 : Int32))])) _
          refine XS.iload X9.here hx rfl (hb hby at_208) rfl ?_
          show Steps p.tables e below (T9.setTop (mkF m 210 #[.val (.int p1), .val (.int p2), .val (.int p3), .val (.int k), .val (.int n), .val (.ref f0), .val (.int (1 : Int32))] [(.int (1 : Int32)), (.int (1 : Int32))])) _
          refine XS.icmpNo X9.here hx rfl (hb hby at_210) rfl (teq (by decide : (1 : Int32) = (1 : Int32))).2 ?_
          show Steps p.tables e below (T9.setTop (mkF m 213 #[.val (.int p1), .val (.int p2), .val (.int p3), .val (.int k), .val (.int n), .val (.ref f0), .val (.int (1 : Int32))] [])) _
          refine XS.iconst X9.here hx rfl (hb hby at_213) ?_
          show Steps p.tables e below (T9.setTop (mkF m 214 #[.val (.int p1), .val (.int p2), .val (.int p3), .val (.int k), .val (.int n), .val (.ref f0), .val (.int (1 : Int32))] [(.int (1 : Int32))])) _
          refine XS.goto X9.here hx rfl (pc0 := 214) (pc' := 218) rfl (hb hby at_214) (by decide) (by decide) ?_
          exact q)
      obtain ⟨fs, hr, hrun, hended, hW, hsame⟩ := X9.leave (v := some (.int (1 : Int32))) (fun h => by rw [Bd.returns] at h; cases h)
      refine ⟨_, _, k11 _ ?_, hrun, hended, _, _, rfl, ?_, ⟨_, rfl⟩, hW, hsame.mono (by decide) (by decide)⟩
      · exact retN X9 hx (t := .boolean) Bd.returns (by simp) (hb hby at_218) hr
      · show QL Z p1 p2 p3 f0 f1 f2 f3 f4 f5 f6 k n h0 n0 _ T9.heap _
        exact ⟨rfl, N9⟩
    · have k12 : ∀ t, Steps p.tables e below (T5.setTop (mkF m 205 #[.val (.int p1), .val (.int p2), .val (.int p3), .val (.int k), .val (.int n), .val (.ref f0), .val (.int (0 : Int32))] [(.int n), (.ref f0)])) t → Steps p.tables e below (s₁.setTop (entryFrame m #[(.int p1), (.int p2), (.int p3)] maxLocals)) t := fun t q => k7 t (by
          show Steps p.tables e below (T5.setTop (mkF m 35 #[.val (.int p1), .val (.int p2), .val (.int p3), .val (.int k), .val (.int n), .val (.ref f0), .unset] [(.int n)])) _
          refine XS.ifYes X5.here hx rfl (pc0 := 35) (pc' := 42) rfl (hb hby at_35) rfl ((if0 _ _).trans (feq (hc35 : ¬ (n = (0 : Int32)))).2) (by decide) (by decide) ?_
          show Steps p.tables e below (T5.setTop (mkF m 42 #[.val (.int p1), .val (.int p2), .val (.int p3), .val (.int k), .val (.int n), .val (.ref f0), .unset] [])) _
          refine XS.iconst X5.here hx rfl (hb hby at_42) ?_
          show Steps p.tables e below (T5.setTop (mkF m 43 #[.val (.int p1), .val (.int p2), .val (.int p3), .val (.int k), .val (.int n), .val (.ref f0), .unset] [(.int (0 : Int32))])) _
          refine XS.istore X5.here hx rfl (hb hby at_43) rfl (l' := #[.val (.int p1), .val (.int p2), .val (.int p3), .val (.int k), .val (.int n), .val (.ref f0), .val (.int (0 : Int32))]) rfl ?_
          show Steps p.tables e below (T5.setTop (mkF m 45 #[.val (.int p1), .val (.int p2), .val (.int p3), .val (.int k), .val (.int n), .val (.ref f0), .val (.int (0 : Int32))] [])) _
          refine XS.goto X5.here hx rfl (pc0 := 45) (pc' := 201) rfl (hb hby at_45) (by decide) (by decide) ?_
          show Steps p.tables e below (T5.setTop (mkF m 201 #[.val (.int p1), .val (.int p2), .val (.int p3), .val (.int k), .val (.int n), .val (.ref f0), .val (.int (0 : Int32))] [])) _
          refine XS.aload X5.here hx rfl (hb hby at_201) rfl rfl ?_
          show Steps p.tables e below (T5.setTop (mkF m 203 #[.val (.int p1), .val (.int p2), .val (.int p3), .val (.int k), .val (.int n), .val (.ref f0), .val (.int (0 : Int32))] [(.ref f0)])) _
          refine XS.iload X5.here hx rfl (hb hby at_203) rfl ?_
          exact q)
      obtain ⟨cq13, kq13, q13a, q13b, q13c⟩ := isOf hZ e5 (E_f0)
      obtain ⟨_, _, ⟨T13, L13, kk13, nn13⟩, -, X13, ⟨Lc13, hQ13, l13, y13, z13⟩, st13⟩ := X5.virtualBack hx (y := (⟨"com/example/bouncer/bouncer/expression/Vocabulary$Function", "takes", "(I)Z"⟩ : MethodName)) (z := (⟨"com/example/bouncer/bouncer/expression/Vocabulary$Function", "takes", "(I)Z"⟩ : MethodName)) hown (mvT hZ (hw _ (List.mem_of_getElem? (i := 4) rfl))) (mvT hZ (hw _ (List.mem_of_getElem? (i := 5) rfl))) (notFace_of_selects (args := #[]) (mvT hZ (hw _ (List.mem_of_getElem? (i := 7) rfl)))) (mvT hZ (hw _ (List.mem_of_getElem? (i := 7) rfl))) (mvT hZ (hw _ (List.mem_of_getElem? (i := 6) rfl))) (by decide) (backOf (W := 0) (rm1 l Z a0 hw [] f0 n (0 : Int32) (0 : Int32) (0 : Int32) h0 n0 Z0 L_f0 H_f0 (own_no (own_ne hc35))) hZ (hw _ (List.mem_of_getElem? (i := 8) rfl)) (hw _ (List.mem_of_getElem? (i := 2) rfl)) (by decide) (by decide)) q13a q13c (g := (mkF m 205 #[.val (.int p1), .val (.int p2), .val (.int p3), .val (.int k), .val (.int n), .val (.ref f0), .val (.int (0 : Int32))] [(.int n), (.ref f0)])) rfl (by rw [hml]; rfl) (Steps.refl _) (argsL := [(.int n)]) (rest := []) (lenOf pd__I_Z rfl) rfl (by show 2 * 0 + _ ≤ _; exact Nat.le_of_eq rfl) (hb hby at_205) (fun _ _ => ⟨rfl, e5, (by decide : 0 + 0 ≤ _), (by decide : 0 + 0 ≤ _)⟩)
      dsimp only [Pt.U, Pt.locs, Pt.cells, Pt.slots] at X13 l13 y13 z13 st13 hQ13
      subst l13 y13 z13
      obtain ⟨rfl, N13q, e13⟩ := hQ13
      have N13 := Fr.app N0 N13q
      have k14 : ∀ t, Steps p.tables e below (T13.setTop (mkF m 208 #[.val (.int p1), .val (.int p2), .val (.int p3), .val (.int k), .val (.int n), .val (.ref f0), .val (.int (0 : Int32))] [(.int (0 : Int32))])) t → Steps p.tables e below (s₁.setTop (entryFrame m #[(.int p1), (.int p2), (.int p3)] maxLocals)) t := fun t q => k12 t (st13.trans q)
      have k15 : ∀ t, Steps p.tables e below (T13.setTop (mkF m 218 #[.val (.int p1), .val (.int p2), .val (.int p3), .val (.int k), .val (.int n), .val (.ref f0), .val (.int (0 : Int32))] [(.int (1 : Int32))])) t → Steps p.tables e below (s₁.setTop (entryFrame m #[(.int p1), (.int p2), (.int p3)] maxLocals)) t := fun t q => k14 t (by
          show Steps p.tables e below (T13.setTop (mkF m 208 #[.val (.int p1), .val (.int p2), .val (.int p3), .val (.int k), .val (.int n), .val (.ref f0), .val (.int (0 : Int32))] [(.int (0 : Int32))])) _
          refine XS.iload X13.here hx rfl (hb hby at_208) rfl ?_
          show Steps p.tables e below (T13.setTop (mkF m 210 #[.val (.int p1), .val (.int p2), .val (.int p3), .val (.int k), .val (.int n), .val (.ref f0), .val (.int (0 : Int32))] [(.int (0 : Int32)), (.int (0 : Int32))])) _
          refine XS.icmpNo X13.here hx rfl (hb hby at_210) rfl (teq (by decide : (0 : Int32) = (0 : Int32))).2 ?_
          show Steps p.tables e below (T13.setTop (mkF m 213 #[.val (.int p1), .val (.int p2), .val (.int p3), .val (.int k), .val (.int n), .val (.ref f0), .val (.int (0 : Int32))] [])) _
          refine XS.iconst X13.here hx rfl (hb hby at_213) ?_
          show Steps p.tables e below (T13.setTop (mkF m 214 #[.val (.int p1), .val (.int p2), .val (.int p3), .val (.int k), .val (.int n), .val (.ref f0), .val (.int (0 : Int32))] [(.int (1 : Int32))])) _
          refine XS.goto X13.here hx rfl (pc0 := 214) (pc' := 218) rfl (hb hby at_214) (by decide) (by decide) ?_
          exact q)
      obtain ⟨fs, hr, hrun, hended, hW, hsame⟩ := X13.leave (v := some (.int (1 : Int32))) (fun h => by rw [Bd.returns] at h; cases h)
      refine ⟨_, _, k15 _ ?_, hrun, hended, _, _, rfl, ?_, ⟨_, rfl⟩, hW, hsame.mono (by decide) (by decide)⟩
      · exact retN X13 hx (t := .boolean) Bd.returns (by simp) (hb hby at_218) hr
      · show QL Z p1 p2 p3 f0 f1 f2 f3 f4 f5 f6 k n h0 n0 _ T13.heap _
        exact ⟨rfl, N13⟩
  · have k16 : ∀ t, Steps p.tables e below (T1.setTop (mkF m 50 #[.val (.int p1), .val (.int p2), .val (.int p3), .val (.int k), .val (.int n), .unset, .unset] [(.int (1 : Int32)), (.int k)])) t → Steps p.tables e below (s₁.setTop (entryFrame m #[(.int p1), (.int p2), (.int p3)] maxLocals)) t := fun t q => k3 t (by
        show Steps p.tables e below (T1.setTop (mkF m 25 #[.val (.int p1), .val (.int p2), .val (.int p3), .val (.int k), .val (.int n), .unset, .unset] [(.int k)])) _
        refine XS.ifYes X1.here hx rfl (pc0 := 25) (pc' := 48) rfl (hb hby at_25) rfl ((if0 _ _).trans (feq (hc25 : ¬ (k = (0 : Int32)))).2) (by decide) (by decide) ?_
        show Steps p.tables e below (T1.setTop (mkF m 48 #[.val (.int p1), .val (.int p2), .val (.int p3), .val (.int k), .val (.int n), .unset, .unset] [])) _
        refine XS.iloadN X1.here hx rfl (hb hby at_48) rfl ?_
        show Steps p.tables e below (T1.setTop (mkF m 49 #[.val (.int p1), .val (.int p2), .val (.int p3), .val (.int k), .val (.int n), .unset, .unset] [(.int k)])) _
        refine XS.iconst X1.here hx rfl (hb hby at_49) ?_
        exact q)
    by_cases hc50 : k = (1 : Int32)
    · have k17 : ∀ t, Steps p.tables e below (T1.setTop (mkF m 53 #[.val (.int p1), .val (.int p2), .val (.int p3), .val (.int k), .val (.int n), .unset, .unset] [])) t → Steps p.tables e below (s₁.setTop (entryFrame m #[(.int p1), (.int p2), (.int p3)] maxLocals)) t := fun t q => k16 t (by
          show Steps p.tables e below (T1.setTop (mkF m 50 #[.val (.int p1), .val (.int p2), .val (.int p3), .val (.int k), .val (.int n), .unset, .unset] [(.int (1 : Int32)), (.int k)])) _
          refine XS.icmpNo X1.here hx rfl (hb hby at_50) rfl (teq (hc50 : k = (1 : Int32))).2 ?_
          exact q)
      obtain ⟨T18, X18, e18, st18⟩ := getS2 X1 hx hZ hown (host := "") (Or.inl (hw _ (List.mem_of_getElem? (i := 13) rfl))) Via.refl e1 (S_IS_ANONYMOUS) (g := (mkF m 53 #[.val (.int p1), .val (.int p2), .val (.int p3), .val (.int k), .val (.int n), .unset, .unset] [])) rfl (hb hby at_53)
      have k19 : ∀ t, Steps p.tables e below (T18.setTop (mkF m 56 #[.val (.int p1), .val (.int p2), .val (.int p3), .val (.int k), .val (.int n), .unset, .unset] [(.ref f1)])) t → Steps p.tables e below (s₁.setTop (entryFrame m #[(.int p1), (.int p2), (.int p3)] maxLocals)) t := fun t q => k17 t (st18 t q)
      have k20 : ∀ t, Steps p.tables e below (T18.setTop (mkF m 60 #[.val (.int p1), .val (.int p2), .val (.int p3), .val (.int k), .val (.int n), .val (.ref f1), .unset] [(.int n)])) t → Steps p.tables e below (s₁.setTop (entryFrame m #[(.int p1), (.int p2), (.int p3)] maxLocals)) t := fun t q => k19 t (by
          show Steps p.tables e below (T18.setTop (mkF m 56 #[.val (.int p1), .val (.int p2), .val (.int p3), .val (.int k), .val (.int n), .unset, .unset] [(.ref f1)])) _
          refine XS.astore X18.here hx rfl (hb hby at_56) rfl rfl (l' := #[.val (.int p1), .val (.int p2), .val (.int p3), .val (.int k), .val (.int n), .val (.ref f1), .unset]) rfl ?_
          show Steps p.tables e below (T18.setTop (mkF m 58 #[.val (.int p1), .val (.int p2), .val (.int p3), .val (.int k), .val (.int n), .val (.ref f1), .unset] [])) _
          refine XS.iload X18.here hx rfl (hb hby at_58) rfl ?_
          exact q)
      by_cases hc60 : n = (0 : Int32)
      · have k21 : ∀ t, Steps p.tables e below (T18.setTop (mkF m 205 #[.val (.int p1), .val (.int p2), .val (.int p3), .val (.int k), .val (.int n), .val (.ref f1), .val (.int (1 : Int32))] [(.int n), (.ref f1)])) t → Steps p.tables e below (s₁.setTop (entryFrame m #[(.int p1), (.int p2), (.int p3)] maxLocals)) t := fun t q => k20 t (by
            show Steps p.tables e below (T18.setTop (mkF m 60 #[.val (.int p1), .val (.int p2), .val (.int p3), .val (.int k), .val (.int n), .val (.ref f1), .unset] [(.int n)])) _
            refine XS.ifNo X18.here hx rfl (hb hby at_60) rfl ((if0 _ _).trans (teq (hc60 : n = (0 : Int32))).2) ?_
            show Steps p.tables e below (T18.setTop (mkF m 63 #[.val (.int p1), .val (.int p2), .val (.int p3), .val (.int k), .val (.int n), .val (.ref f1), .unset] [])) _
            refine XS.iconst X18.here hx rfl (hb hby at_63) ?_
            show Steps p.tables e below (T18.setTop (mkF m 64 #[.val (.int p1), .val (.int p2), .val (.int p3), .val (.int k), .val (.int n), .val (.ref f1), .unset] [(.int (1 : Int32))])) _
            refine XS.goto X18.here hx rfl (pc0 := 64) (pc' := 68) rfl (hb hby at_64) (by decide) (by decide) ?_
            show Steps p.tables e below (T18.setTop (mkF m 68 #[.val (.int p1), .val (.int p2), .val (.int p3), .val (.int k), .val (.int n), .val (.ref f1), .unset] [(.int (1 : Int32))])) _
            refine XS.istore X18.here hx rfl (hb hby at_68) rfl (l' := #[.val (.int p1), .val (.int p2), .val (.int p3), .val (.int k), .val (.int n), .val (.ref f1), .val (.int (1 : Int32))]) rfl ?_
            show Steps p.tables e below (T18.setTop (mkF m 70 #[.val (.int p1), .val (.int p2), .val (.int p3), .val (.int k), .val (.int n), .val (.ref f1), .val (.int (1 : Int32))] [])) _
            refine XS.goto X18.here hx rfl (pc0 := 70) (pc' := 201) rfl (hb hby at_70) (by decide) (by decide) ?_
            show Steps p.tables e below (T18.setTop (mkF m 201 #[.val (.int p1), .val (.int p2), .val (.int p3), .val (.int k), .val (.int n), .val (.ref f1), .val (.int (1 : Int32))] [])) _
            refine XS.aload X18.here hx rfl (hb hby at_201) rfl rfl ?_
            show Steps p.tables e below (T18.setTop (mkF m 203 #[.val (.int p1), .val (.int p2), .val (.int p3), .val (.int k), .val (.int n), .val (.ref f1), .val (.int (1 : Int32))] [(.ref f1)])) _
            refine XS.iload X18.here hx rfl (hb hby at_203) rfl ?_
            exact q)
        obtain ⟨cq22, kq22, q22a, q22b, q22c⟩ := isOf hZ e18 (E_f1)
        obtain ⟨_, _, ⟨T22, L22, kk22, nn22⟩, -, X22, ⟨Lc22, hQ22, l22, y22, z22⟩, st22⟩ := X18.virtualBack hx (y := (⟨"com/example/bouncer/bouncer/expression/Vocabulary$Function", "takes", "(I)Z"⟩ : MethodName)) (z := (⟨"com/example/bouncer/bouncer/expression/Vocabulary$Function", "takes", "(I)Z"⟩ : MethodName)) hown (mvT hZ (hw _ (List.mem_of_getElem? (i := 4) rfl))) (mvT hZ (hw _ (List.mem_of_getElem? (i := 5) rfl))) (notFace_of_selects (args := #[]) (mvT hZ (hw _ (List.mem_of_getElem? (i := 7) rfl)))) (mvT hZ (hw _ (List.mem_of_getElem? (i := 7) rfl))) (mvT hZ (hw _ (List.mem_of_getElem? (i := 6) rfl))) (by decide) (backOf (W := 0) (rm1 l Z a0 hw [] f1 n (0 : Int32) (0 : Int32) (1 : Int32) h0 n0 Z0 L_f1 H_f1 (own_yes (by rw [hc60]; decide) (by rw [hc60]; decide))) hZ (hw _ (List.mem_of_getElem? (i := 8) rfl)) (hw _ (List.mem_of_getElem? (i := 2) rfl)) (by decide) (by decide)) q22a q22c (g := (mkF m 205 #[.val (.int p1), .val (.int p2), .val (.int p3), .val (.int k), .val (.int n), .val (.ref f1), .val (.int (1 : Int32))] [(.int n), (.ref f1)])) rfl (by rw [hml]; rfl) (Steps.refl _) (argsL := [(.int n)]) (rest := []) (lenOf pd__I_Z rfl) rfl (by show 2 * 0 + _ ≤ _; exact Nat.le_of_eq rfl) (hb hby at_205) (fun _ _ => ⟨rfl, e18, (by decide : 0 + 0 ≤ _), (by decide : 0 + 0 ≤ _)⟩)
        dsimp only [Pt.U, Pt.locs, Pt.cells, Pt.slots] at X22 l22 y22 z22 st22 hQ22
        subst l22 y22 z22
        obtain ⟨rfl, N22q, e22⟩ := hQ22
        have N22 := Fr.app N0 N22q
        have k23 : ∀ t, Steps p.tables e below (T22.setTop (mkF m 208 #[.val (.int p1), .val (.int p2), .val (.int p3), .val (.int k), .val (.int n), .val (.ref f1), .val (.int (1 : Int32))] [(.int (1 : Int32))])) t → Steps p.tables e below (s₁.setTop (entryFrame m #[(.int p1), (.int p2), (.int p3)] maxLocals)) t := fun t q => k21 t (st22.trans q)
        have k24 : ∀ t, Steps p.tables e below (T22.setTop (mkF m 218 #[.val (.int p1), .val (.int p2), .val (.int p3), .val (.int k), .val (.int n), .val (.ref f1), .val (.int (1 : Int32))] [(.int (1 : Int32))])) t → Steps p.tables e below (s₁.setTop (entryFrame m #[(.int p1), (.int p2), (.int p3)] maxLocals)) t := fun t q => k23 t (by
            show Steps p.tables e below (T22.setTop (mkF m 208 #[.val (.int p1), .val (.int p2), .val (.int p3), .val (.int k), .val (.int n), .val (.ref f1), .val (.int (1 : Int32))] [(.int (1 : Int32))])) _
            refine XS.iload X22.here hx rfl (hb hby at_208) rfl ?_
            show Steps p.tables e below (T22.setTop (mkF m 210 #[.val (.int p1), .val (.int p2), .val (.int p3), .val (.int k), .val (.int n), .val (.ref f1), .val (.int (1 : Int32))] [(.int (1 : Int32)), (.int (1 : Int32))])) _
            refine XS.icmpNo X22.here hx rfl (hb hby at_210) rfl (teq (by decide : (1 : Int32) = (1 : Int32))).2 ?_
            show Steps p.tables e below (T22.setTop (mkF m 213 #[.val (.int p1), .val (.int p2), .val (.int p3), .val (.int k), .val (.int n), .val (.ref f1), .val (.int (1 : Int32))] [])) _
            refine XS.iconst X22.here hx rfl (hb hby at_213) ?_
            show Steps p.tables e below (T22.setTop (mkF m 214 #[.val (.int p1), .val (.int p2), .val (.int p3), .val (.int k), .val (.int n), .val (.ref f1), .val (.int (1 : Int32))] [(.int (1 : Int32))])) _
            refine XS.goto X22.here hx rfl (pc0 := 214) (pc' := 218) rfl (hb hby at_214) (by decide) (by decide) ?_
            exact q)
        obtain ⟨fs, hr, hrun, hended, hW, hsame⟩ := X22.leave (v := some (.int (1 : Int32))) (fun h => by rw [Bd.returns] at h; cases h)
        refine ⟨_, _, k24 _ ?_, hrun, hended, _, _, rfl, ?_, ⟨_, rfl⟩, hW, hsame.mono (by decide) (by decide)⟩
        · exact retN X22 hx (t := .boolean) Bd.returns (by simp) (hb hby at_218) hr
        · show QL Z p1 p2 p3 f0 f1 f2 f3 f4 f5 f6 k n h0 n0 _ T22.heap _
          exact ⟨rfl, N22⟩
      · have k25 : ∀ t, Steps p.tables e below (T18.setTop (mkF m 205 #[.val (.int p1), .val (.int p2), .val (.int p3), .val (.int k), .val (.int n), .val (.ref f1), .val (.int (0 : Int32))] [(.int n), (.ref f1)])) t → Steps p.tables e below (s₁.setTop (entryFrame m #[(.int p1), (.int p2), (.int p3)] maxLocals)) t := fun t q => k20 t (by
            show Steps p.tables e below (T18.setTop (mkF m 60 #[.val (.int p1), .val (.int p2), .val (.int p3), .val (.int k), .val (.int n), .val (.ref f1), .unset] [(.int n)])) _
            refine XS.ifYes X18.here hx rfl (pc0 := 60) (pc' := 67) rfl (hb hby at_60) rfl ((if0 _ _).trans (feq (hc60 : ¬ (n = (0 : Int32)))).2) (by decide) (by decide) ?_
            show Steps p.tables e below (T18.setTop (mkF m 67 #[.val (.int p1), .val (.int p2), .val (.int p3), .val (.int k), .val (.int n), .val (.ref f1), .unset] [])) _
            refine XS.iconst X18.here hx rfl (hb hby at_67) ?_
            show Steps p.tables e below (T18.setTop (mkF m 68 #[.val (.int p1), .val (.int p2), .val (.int p3), .val (.int k), .val (.int n), .val (.ref f1), .unset] [(.int (0 : Int32))])) _
            refine XS.istore X18.here hx rfl (hb hby at_68) rfl (l' := #[.val (.int p1), .val (.int p2), .val (.int p3), .val (.int k), .val (.int n), .val (.ref f1), .val (.int (0 : Int32))]) rfl ?_
            show Steps p.tables e below (T18.setTop (mkF m 70 #[.val (.int p1), .val (.int p2), .val (.int p3), .val (.int k), .val (.int n), .val (.ref f1), .val (.int (0 : Int32))] [])) _
            refine XS.goto X18.here hx rfl (pc0 := 70) (pc' := 201) rfl (hb hby at_70) (by decide) (by decide) ?_
            show Steps p.tables e below (T18.setTop (mkF m 201 #[.val (.int p1), .val (.int p2), .val (.int p3), .val (.int k), .val (.int n), .val (.ref f1), .val (.int (0 : Int32))] [])) _
            refine XS.aload X18.here hx rfl (hb hby at_201) rfl rfl ?_
            show Steps p.tables e below (T18.setTop (mkF m 203 #[.val (.int p1), .val (.int p2), .val (.int p3), .val (.int k), .val (.int n), .val (.ref f1), .val (.int (0 : Int32))] [(.ref f1)])) _
            refine XS.iload X18.here hx rfl (hb hby at_203) rfl ?_
            exact q)
        obtain ⟨cq26, kq26, q26a, q26b, q26c⟩ := isOf hZ e18 (E_f1)
        obtain ⟨_, _, ⟨T26, L26, kk26, nn26⟩, -, X26, ⟨Lc26, hQ26, l26, y26, z26⟩, st26⟩ := X18.virtualBack hx (y := (⟨"com/example/bouncer/bouncer/expression/Vocabulary$Function", "takes", "(I)Z"⟩ : MethodName)) (z := (⟨"com/example/bouncer/bouncer/expression/Vocabulary$Function", "takes", "(I)Z"⟩ : MethodName)) hown (mvT hZ (hw _ (List.mem_of_getElem? (i := 4) rfl))) (mvT hZ (hw _ (List.mem_of_getElem? (i := 5) rfl))) (notFace_of_selects (args := #[]) (mvT hZ (hw _ (List.mem_of_getElem? (i := 7) rfl)))) (mvT hZ (hw _ (List.mem_of_getElem? (i := 7) rfl))) (mvT hZ (hw _ (List.mem_of_getElem? (i := 6) rfl))) (by decide) (backOf (W := 0) (rm1 l Z a0 hw [] f1 n (0 : Int32) (0 : Int32) (0 : Int32) h0 n0 Z0 L_f1 H_f1 (own_no (own_ne hc60))) hZ (hw _ (List.mem_of_getElem? (i := 8) rfl)) (hw _ (List.mem_of_getElem? (i := 2) rfl)) (by decide) (by decide)) q26a q26c (g := (mkF m 205 #[.val (.int p1), .val (.int p2), .val (.int p3), .val (.int k), .val (.int n), .val (.ref f1), .val (.int (0 : Int32))] [(.int n), (.ref f1)])) rfl (by rw [hml]; rfl) (Steps.refl _) (argsL := [(.int n)]) (rest := []) (lenOf pd__I_Z rfl) rfl (by show 2 * 0 + _ ≤ _; exact Nat.le_of_eq rfl) (hb hby at_205) (fun _ _ => ⟨rfl, e18, (by decide : 0 + 0 ≤ _), (by decide : 0 + 0 ≤ _)⟩)
        dsimp only [Pt.U, Pt.locs, Pt.cells, Pt.slots] at X26 l26 y26 z26 st26 hQ26
        subst l26 y26 z26
        obtain ⟨rfl, N26q, e26⟩ := hQ26
        have N26 := Fr.app N0 N26q
        have k27 : ∀ t, Steps p.tables e below (T26.setTop (mkF m 208 #[.val (.int p1), .val (.int p2), .val (.int p3), .val (.int k), .val (.int n), .val (.ref f1), .val (.int (0 : Int32))] [(.int (0 : Int32))])) t → Steps p.tables e below (s₁.setTop (entryFrame m #[(.int p1), (.int p2), (.int p3)] maxLocals)) t := fun t q => k25 t (st26.trans q)
        have k28 : ∀ t, Steps p.tables e below (T26.setTop (mkF m 218 #[.val (.int p1), .val (.int p2), .val (.int p3), .val (.int k), .val (.int n), .val (.ref f1), .val (.int (0 : Int32))] [(.int (1 : Int32))])) t → Steps p.tables e below (s₁.setTop (entryFrame m #[(.int p1), (.int p2), (.int p3)] maxLocals)) t := fun t q => k27 t (by
            show Steps p.tables e below (T26.setTop (mkF m 208 #[.val (.int p1), .val (.int p2), .val (.int p3), .val (.int k), .val (.int n), .val (.ref f1), .val (.int (0 : Int32))] [(.int (0 : Int32))])) _
            refine XS.iload X26.here hx rfl (hb hby at_208) rfl ?_
            show Steps p.tables e below (T26.setTop (mkF m 210 #[.val (.int p1), .val (.int p2), .val (.int p3), .val (.int k), .val (.int n), .val (.ref f1), .val (.int (0 : Int32))] [(.int (0 : Int32)), (.int (0 : Int32))])) _
            refine XS.icmpNo X26.here hx rfl (hb hby at_210) rfl (teq (by decide : (0 : Int32) = (0 : Int32))).2 ?_
            show Steps p.tables e below (T26.setTop (mkF m 213 #[.val (.int p1), .val (.int p2), .val (.int p3), .val (.int k), .val (.int n), .val (.ref f1), .val (.int (0 : Int32))] [])) _
            refine XS.iconst X26.here hx rfl (hb hby at_213) ?_
            show Steps p.tables e below (T26.setTop (mkF m 214 #[.val (.int p1), .val (.int p2), .val (.int p3), .val (.int k), .val (.int n), .val (.ref f1), .val (.int (0 : Int32))] [(.int (1 : Int32))])) _
            refine XS.goto X26.here hx rfl (pc0 := 214) (pc' := 218) rfl (hb hby at_214) (by decide) (by decide) ?_
            exact q)
        obtain ⟨fs, hr, hrun, hended, hW, hsame⟩ := X26.leave (v := some (.int (1 : Int32))) (fun h => by rw [Bd.returns] at h; cases h)
        refine ⟨_, _, k28 _ ?_, hrun, hended, _, _, rfl, ?_, ⟨_, rfl⟩, hW, hsame.mono (by decide) (by decide)⟩
        · exact retN X26 hx (t := .boolean) Bd.returns (by simp) (hb hby at_218) hr
        · show QL Z p1 p2 p3 f0 f1 f2 f3 f4 f5 f6 k n h0 n0 _ T26.heap _
          exact ⟨rfl, N26⟩
    · have k29 : ∀ t, Steps p.tables e below (T1.setTop (mkF m 75 #[.val (.int p1), .val (.int p2), .val (.int p3), .val (.int k), .val (.int n), .unset, .unset] [(.int (2 : Int32)), (.int k)])) t → Steps p.tables e below (s₁.setTop (entryFrame m #[(.int p1), (.int p2), (.int p3)] maxLocals)) t := fun t q => k16 t (by
          show Steps p.tables e below (T1.setTop (mkF m 50 #[.val (.int p1), .val (.int p2), .val (.int p3), .val (.int k), .val (.int n), .unset, .unset] [(.int (1 : Int32)), (.int k)])) _
          refine XS.icmpYes X1.here hx rfl (pc0 := 50) (pc' := 73) rfl (hb hby at_50) rfl (feq (hc50 : ¬ (k = (1 : Int32)))).2 (by decide) (by decide) ?_
          show Steps p.tables e below (T1.setTop (mkF m 73 #[.val (.int p1), .val (.int p2), .val (.int p3), .val (.int k), .val (.int n), .unset, .unset] [])) _
          refine XS.iloadN X1.here hx rfl (hb hby at_73) rfl ?_
          show Steps p.tables e below (T1.setTop (mkF m 74 #[.val (.int p1), .val (.int p2), .val (.int p3), .val (.int k), .val (.int n), .unset, .unset] [(.int k)])) _
          refine XS.iconst X1.here hx rfl (hb hby at_74) ?_
          exact q)
      by_cases hc75 : k = (2 : Int32)
      · have k30 : ∀ t, Steps p.tables e below (T1.setTop (mkF m 78 #[.val (.int p1), .val (.int p2), .val (.int p3), .val (.int k), .val (.int n), .unset, .unset] [])) t → Steps p.tables e below (s₁.setTop (entryFrame m #[(.int p1), (.int p2), (.int p3)] maxLocals)) t := fun t q => k29 t (by
            show Steps p.tables e below (T1.setTop (mkF m 75 #[.val (.int p1), .val (.int p2), .val (.int p3), .val (.int k), .val (.int n), .unset, .unset] [(.int (2 : Int32)), (.int k)])) _
            refine XS.icmpNo X1.here hx rfl (hb hby at_75) rfl (teq (hc75 : k = (2 : Int32))).2 ?_
            exact q)
        obtain ⟨T31, X31, e31, st31⟩ := getS2 X1 hx hZ hown (host := "") (Or.inl (hw _ (List.mem_of_getElem? (i := 19) rfl))) Via.refl e1 (S_HAS_AUTHORITY) (g := (mkF m 78 #[.val (.int p1), .val (.int p2), .val (.int p3), .val (.int k), .val (.int n), .unset, .unset] [])) rfl (hb hby at_78)
        have k32 : ∀ t, Steps p.tables e below (T31.setTop (mkF m 81 #[.val (.int p1), .val (.int p2), .val (.int p3), .val (.int k), .val (.int n), .unset, .unset] [(.ref f2)])) t → Steps p.tables e below (s₁.setTop (entryFrame m #[(.int p1), (.int p2), (.int p3)] maxLocals)) t := fun t q => k30 t (st31 t q)
        have k33 : ∀ t, Steps p.tables e below (T31.setTop (mkF m 86 #[.val (.int p1), .val (.int p2), .val (.int p3), .val (.int k), .val (.int n), .val (.ref f2), .unset] [(.int (1 : Int32)), (.int n)])) t → Steps p.tables e below (s₁.setTop (entryFrame m #[(.int p1), (.int p2), (.int p3)] maxLocals)) t := fun t q => k32 t (by
            show Steps p.tables e below (T31.setTop (mkF m 81 #[.val (.int p1), .val (.int p2), .val (.int p3), .val (.int k), .val (.int n), .unset, .unset] [(.ref f2)])) _
            refine XS.astore X31.here hx rfl (hb hby at_81) rfl rfl (l' := #[.val (.int p1), .val (.int p2), .val (.int p3), .val (.int k), .val (.int n), .val (.ref f2), .unset]) rfl ?_
            show Steps p.tables e below (T31.setTop (mkF m 83 #[.val (.int p1), .val (.int p2), .val (.int p3), .val (.int k), .val (.int n), .val (.ref f2), .unset] [])) _
            refine XS.iload X31.here hx rfl (hb hby at_83) rfl ?_
            show Steps p.tables e below (T31.setTop (mkF m 85 #[.val (.int p1), .val (.int p2), .val (.int p3), .val (.int k), .val (.int n), .val (.ref f2), .unset] [(.int n)])) _
            refine XS.iconst X31.here hx rfl (hb hby at_85) ?_
            exact q)
        by_cases hc86 : n = (1 : Int32)
        · have k34 : ∀ t, Steps p.tables e below (T31.setTop (mkF m 205 #[.val (.int p1), .val (.int p2), .val (.int p3), .val (.int k), .val (.int n), .val (.ref f2), .val (.int (1 : Int32))] [(.int n), (.ref f2)])) t → Steps p.tables e below (s₁.setTop (entryFrame m #[(.int p1), (.int p2), (.int p3)] maxLocals)) t := fun t q => k33 t (by
              show Steps p.tables e below (T31.setTop (mkF m 86 #[.val (.int p1), .val (.int p2), .val (.int p3), .val (.int k), .val (.int n), .val (.ref f2), .unset] [(.int (1 : Int32)), (.int n)])) _
              refine XS.icmpNo X31.here hx rfl (hb hby at_86) rfl (teq (hc86 : n = (1 : Int32))).2 ?_
              show Steps p.tables e below (T31.setTop (mkF m 89 #[.val (.int p1), .val (.int p2), .val (.int p3), .val (.int k), .val (.int n), .val (.ref f2), .unset] [])) _
              refine XS.iconst X31.here hx rfl (hb hby at_89) ?_
              show Steps p.tables e below (T31.setTop (mkF m 90 #[.val (.int p1), .val (.int p2), .val (.int p3), .val (.int k), .val (.int n), .val (.ref f2), .unset] [(.int (1 : Int32))])) _
              refine XS.goto X31.here hx rfl (pc0 := 90) (pc' := 94) rfl (hb hby at_90) (by decide) (by decide) ?_
              show Steps p.tables e below (T31.setTop (mkF m 94 #[.val (.int p1), .val (.int p2), .val (.int p3), .val (.int k), .val (.int n), .val (.ref f2), .unset] [(.int (1 : Int32))])) _
              refine XS.istore X31.here hx rfl (hb hby at_94) rfl (l' := #[.val (.int p1), .val (.int p2), .val (.int p3), .val (.int k), .val (.int n), .val (.ref f2), .val (.int (1 : Int32))]) rfl ?_
              show Steps p.tables e below (T31.setTop (mkF m 96 #[.val (.int p1), .val (.int p2), .val (.int p3), .val (.int k), .val (.int n), .val (.ref f2), .val (.int (1 : Int32))] [])) _
              refine XS.goto X31.here hx rfl (pc0 := 96) (pc' := 201) rfl (hb hby at_96) (by decide) (by decide) ?_
              show Steps p.tables e below (T31.setTop (mkF m 201 #[.val (.int p1), .val (.int p2), .val (.int p3), .val (.int k), .val (.int n), .val (.ref f2), .val (.int (1 : Int32))] [])) _
              refine XS.aload X31.here hx rfl (hb hby at_201) rfl rfl ?_
              show Steps p.tables e below (T31.setTop (mkF m 203 #[.val (.int p1), .val (.int p2), .val (.int p3), .val (.int k), .val (.int n), .val (.ref f2), .val (.int (1 : Int32))] [(.ref f2)])) _
              refine XS.iload X31.here hx rfl (hb hby at_203) rfl ?_
              exact q)
          obtain ⟨cq35, kq35, q35a, q35b, q35c⟩ := isOf hZ e31 (E_f2)
          obtain ⟨_, _, ⟨T35, L35, kk35, nn35⟩, -, X35, ⟨Lc35, hQ35, l35, y35, z35⟩, st35⟩ := X31.virtualBack hx (y := (⟨"com/example/bouncer/bouncer/expression/Vocabulary$Function", "takes", "(I)Z"⟩ : MethodName)) (z := (⟨"com/example/bouncer/bouncer/expression/Vocabulary$Function", "takes", "(I)Z"⟩ : MethodName)) hown (mvT hZ (hw _ (List.mem_of_getElem? (i := 4) rfl))) (mvT hZ (hw _ (List.mem_of_getElem? (i := 5) rfl))) (notFace_of_selects (args := #[]) (mvT hZ (hw _ (List.mem_of_getElem? (i := 7) rfl)))) (mvT hZ (hw _ (List.mem_of_getElem? (i := 7) rfl))) (mvT hZ (hw _ (List.mem_of_getElem? (i := 6) rfl))) (by decide) (backOf (W := 0) (rm1 l Z a0 hw [] f2 n (1 : Int32) (1 : Int32) (1 : Int32) h0 n0 Z0 L_f2 H_f2 (own_yes (by rw [hc86]; decide) (by rw [hc86]; decide))) hZ (hw _ (List.mem_of_getElem? (i := 8) rfl)) (hw _ (List.mem_of_getElem? (i := 2) rfl)) (by decide) (by decide)) q35a q35c (g := (mkF m 205 #[.val (.int p1), .val (.int p2), .val (.int p3), .val (.int k), .val (.int n), .val (.ref f2), .val (.int (1 : Int32))] [(.int n), (.ref f2)])) rfl (by rw [hml]; rfl) (Steps.refl _) (argsL := [(.int n)]) (rest := []) (lenOf pd__I_Z rfl) rfl (by show 2 * 0 + _ ≤ _; exact Nat.le_of_eq rfl) (hb hby at_205) (fun _ _ => ⟨rfl, e31, (by decide : 0 + 0 ≤ _), (by decide : 0 + 0 ≤ _)⟩)
          dsimp only [Pt.U, Pt.locs, Pt.cells, Pt.slots] at X35 l35 y35 z35 st35 hQ35
          subst l35 y35 z35
          obtain ⟨rfl, N35q, e35⟩ := hQ35
          have N35 := Fr.app N0 N35q
          have k36 : ∀ t, Steps p.tables e below (T35.setTop (mkF m 208 #[.val (.int p1), .val (.int p2), .val (.int p3), .val (.int k), .val (.int n), .val (.ref f2), .val (.int (1 : Int32))] [(.int (1 : Int32))])) t → Steps p.tables e below (s₁.setTop (entryFrame m #[(.int p1), (.int p2), (.int p3)] maxLocals)) t := fun t q => k34 t (st35.trans q)
          have k37 : ∀ t, Steps p.tables e below (T35.setTop (mkF m 218 #[.val (.int p1), .val (.int p2), .val (.int p3), .val (.int k), .val (.int n), .val (.ref f2), .val (.int (1 : Int32))] [(.int (1 : Int32))])) t → Steps p.tables e below (s₁.setTop (entryFrame m #[(.int p1), (.int p2), (.int p3)] maxLocals)) t := fun t q => k36 t (by
              show Steps p.tables e below (T35.setTop (mkF m 208 #[.val (.int p1), .val (.int p2), .val (.int p3), .val (.int k), .val (.int n), .val (.ref f2), .val (.int (1 : Int32))] [(.int (1 : Int32))])) _
              refine XS.iload X35.here hx rfl (hb hby at_208) rfl ?_
              show Steps p.tables e below (T35.setTop (mkF m 210 #[.val (.int p1), .val (.int p2), .val (.int p3), .val (.int k), .val (.int n), .val (.ref f2), .val (.int (1 : Int32))] [(.int (1 : Int32)), (.int (1 : Int32))])) _
              refine XS.icmpNo X35.here hx rfl (hb hby at_210) rfl (teq (by decide : (1 : Int32) = (1 : Int32))).2 ?_
              show Steps p.tables e below (T35.setTop (mkF m 213 #[.val (.int p1), .val (.int p2), .val (.int p3), .val (.int k), .val (.int n), .val (.ref f2), .val (.int (1 : Int32))] [])) _
              refine XS.iconst X35.here hx rfl (hb hby at_213) ?_
              show Steps p.tables e below (T35.setTop (mkF m 214 #[.val (.int p1), .val (.int p2), .val (.int p3), .val (.int k), .val (.int n), .val (.ref f2), .val (.int (1 : Int32))] [(.int (1 : Int32))])) _
              refine XS.goto X35.here hx rfl (pc0 := 214) (pc' := 218) rfl (hb hby at_214) (by decide) (by decide) ?_
              exact q)
          obtain ⟨fs, hr, hrun, hended, hW, hsame⟩ := X35.leave (v := some (.int (1 : Int32))) (fun h => by rw [Bd.returns] at h; cases h)
          refine ⟨_, _, k37 _ ?_, hrun, hended, _, _, rfl, ?_, ⟨_, rfl⟩, hW, hsame.mono (by decide) (by decide)⟩
          · exact retN X35 hx (t := .boolean) Bd.returns (by simp) (hb hby at_218) hr
          · show QL Z p1 p2 p3 f0 f1 f2 f3 f4 f5 f6 k n h0 n0 _ T35.heap _
            exact ⟨rfl, N35⟩
        · have k38 : ∀ t, Steps p.tables e below (T31.setTop (mkF m 205 #[.val (.int p1), .val (.int p2), .val (.int p3), .val (.int k), .val (.int n), .val (.ref f2), .val (.int (0 : Int32))] [(.int n), (.ref f2)])) t → Steps p.tables e below (s₁.setTop (entryFrame m #[(.int p1), (.int p2), (.int p3)] maxLocals)) t := fun t q => k33 t (by
              show Steps p.tables e below (T31.setTop (mkF m 86 #[.val (.int p1), .val (.int p2), .val (.int p3), .val (.int k), .val (.int n), .val (.ref f2), .unset] [(.int (1 : Int32)), (.int n)])) _
              refine XS.icmpYes X31.here hx rfl (pc0 := 86) (pc' := 93) rfl (hb hby at_86) rfl (feq (hc86 : ¬ (n = (1 : Int32)))).2 (by decide) (by decide) ?_
              show Steps p.tables e below (T31.setTop (mkF m 93 #[.val (.int p1), .val (.int p2), .val (.int p3), .val (.int k), .val (.int n), .val (.ref f2), .unset] [])) _
              refine XS.iconst X31.here hx rfl (hb hby at_93) ?_
              show Steps p.tables e below (T31.setTop (mkF m 94 #[.val (.int p1), .val (.int p2), .val (.int p3), .val (.int k), .val (.int n), .val (.ref f2), .unset] [(.int (0 : Int32))])) _
              refine XS.istore X31.here hx rfl (hb hby at_94) rfl (l' := #[.val (.int p1), .val (.int p2), .val (.int p3), .val (.int k), .val (.int n), .val (.ref f2), .val (.int (0 : Int32))]) rfl ?_
              show Steps p.tables e below (T31.setTop (mkF m 96 #[.val (.int p1), .val (.int p2), .val (.int p3), .val (.int k), .val (.int n), .val (.ref f2), .val (.int (0 : Int32))] [])) _
              refine XS.goto X31.here hx rfl (pc0 := 96) (pc' := 201) rfl (hb hby at_96) (by decide) (by decide) ?_
              show Steps p.tables e below (T31.setTop (mkF m 201 #[.val (.int p1), .val (.int p2), .val (.int p3), .val (.int k), .val (.int n), .val (.ref f2), .val (.int (0 : Int32))] [])) _
              refine XS.aload X31.here hx rfl (hb hby at_201) rfl rfl ?_
              show Steps p.tables e below (T31.setTop (mkF m 203 #[.val (.int p1), .val (.int p2), .val (.int p3), .val (.int k), .val (.int n), .val (.ref f2), .val (.int (0 : Int32))] [(.ref f2)])) _
              refine XS.iload X31.here hx rfl (hb hby at_203) rfl ?_
              exact q)
          obtain ⟨cq39, kq39, q39a, q39b, q39c⟩ := isOf hZ e31 (E_f2)
          obtain ⟨_, _, ⟨T39, L39, kk39, nn39⟩, -, X39, ⟨Lc39, hQ39, l39, y39, z39⟩, st39⟩ := X31.virtualBack hx (y := (⟨"com/example/bouncer/bouncer/expression/Vocabulary$Function", "takes", "(I)Z"⟩ : MethodName)) (z := (⟨"com/example/bouncer/bouncer/expression/Vocabulary$Function", "takes", "(I)Z"⟩ : MethodName)) hown (mvT hZ (hw _ (List.mem_of_getElem? (i := 4) rfl))) (mvT hZ (hw _ (List.mem_of_getElem? (i := 5) rfl))) (notFace_of_selects (args := #[]) (mvT hZ (hw _ (List.mem_of_getElem? (i := 7) rfl)))) (mvT hZ (hw _ (List.mem_of_getElem? (i := 7) rfl))) (mvT hZ (hw _ (List.mem_of_getElem? (i := 6) rfl))) (by decide) (backOf (W := 0) (rm1 l Z a0 hw [] f2 n (1 : Int32) (1 : Int32) (0 : Int32) h0 n0 Z0 L_f2 H_f2 (own_no (own_ne hc86))) hZ (hw _ (List.mem_of_getElem? (i := 8) rfl)) (hw _ (List.mem_of_getElem? (i := 2) rfl)) (by decide) (by decide)) q39a q39c (g := (mkF m 205 #[.val (.int p1), .val (.int p2), .val (.int p3), .val (.int k), .val (.int n), .val (.ref f2), .val (.int (0 : Int32))] [(.int n), (.ref f2)])) rfl (by rw [hml]; rfl) (Steps.refl _) (argsL := [(.int n)]) (rest := []) (lenOf pd__I_Z rfl) rfl (by show 2 * 0 + _ ≤ _; exact Nat.le_of_eq rfl) (hb hby at_205) (fun _ _ => ⟨rfl, e31, (by decide : 0 + 0 ≤ _), (by decide : 0 + 0 ≤ _)⟩)
          dsimp only [Pt.U, Pt.locs, Pt.cells, Pt.slots] at X39 l39 y39 z39 st39 hQ39
          subst l39 y39 z39
          obtain ⟨rfl, N39q, e39⟩ := hQ39
          have N39 := Fr.app N0 N39q
          have k40 : ∀ t, Steps p.tables e below (T39.setTop (mkF m 208 #[.val (.int p1), .val (.int p2), .val (.int p3), .val (.int k), .val (.int n), .val (.ref f2), .val (.int (0 : Int32))] [(.int (0 : Int32))])) t → Steps p.tables e below (s₁.setTop (entryFrame m #[(.int p1), (.int p2), (.int p3)] maxLocals)) t := fun t q => k38 t (st39.trans q)
          have k41 : ∀ t, Steps p.tables e below (T39.setTop (mkF m 218 #[.val (.int p1), .val (.int p2), .val (.int p3), .val (.int k), .val (.int n), .val (.ref f2), .val (.int (0 : Int32))] [(.int (1 : Int32))])) t → Steps p.tables e below (s₁.setTop (entryFrame m #[(.int p1), (.int p2), (.int p3)] maxLocals)) t := fun t q => k40 t (by
              show Steps p.tables e below (T39.setTop (mkF m 208 #[.val (.int p1), .val (.int p2), .val (.int p3), .val (.int k), .val (.int n), .val (.ref f2), .val (.int (0 : Int32))] [(.int (0 : Int32))])) _
              refine XS.iload X39.here hx rfl (hb hby at_208) rfl ?_
              show Steps p.tables e below (T39.setTop (mkF m 210 #[.val (.int p1), .val (.int p2), .val (.int p3), .val (.int k), .val (.int n), .val (.ref f2), .val (.int (0 : Int32))] [(.int (0 : Int32)), (.int (0 : Int32))])) _
              refine XS.icmpNo X39.here hx rfl (hb hby at_210) rfl (teq (by decide : (0 : Int32) = (0 : Int32))).2 ?_
              show Steps p.tables e below (T39.setTop (mkF m 213 #[.val (.int p1), .val (.int p2), .val (.int p3), .val (.int k), .val (.int n), .val (.ref f2), .val (.int (0 : Int32))] [])) _
              refine XS.iconst X39.here hx rfl (hb hby at_213) ?_
              show Steps p.tables e below (T39.setTop (mkF m 214 #[.val (.int p1), .val (.int p2), .val (.int p3), .val (.int k), .val (.int n), .val (.ref f2), .val (.int (0 : Int32))] [(.int (1 : Int32))])) _
              refine XS.goto X39.here hx rfl (pc0 := 214) (pc' := 218) rfl (hb hby at_214) (by decide) (by decide) ?_
              exact q)
          obtain ⟨fs, hr, hrun, hended, hW, hsame⟩ := X39.leave (v := some (.int (1 : Int32))) (fun h => by rw [Bd.returns] at h; cases h)
          refine ⟨_, _, k41 _ ?_, hrun, hended, _, _, rfl, ?_, ⟨_, rfl⟩, hW, hsame.mono (by decide) (by decide)⟩
          · exact retN X39 hx (t := .boolean) Bd.returns (by simp) (hb hby at_218) hr
          · show QL Z p1 p2 p3 f0 f1 f2 f3 f4 f5 f6 k n h0 n0 _ T39.heap _
            exact ⟨rfl, N39⟩
      · have k42 : ∀ t, Steps p.tables e below (T1.setTop (mkF m 101 #[.val (.int p1), .val (.int p2), .val (.int p3), .val (.int k), .val (.int n), .unset, .unset] [(.int (3 : Int32)), (.int k)])) t → Steps p.tables e below (s₁.setTop (entryFrame m #[(.int p1), (.int p2), (.int p3)] maxLocals)) t := fun t q => k29 t (by
            show Steps p.tables e below (T1.setTop (mkF m 75 #[.val (.int p1), .val (.int p2), .val (.int p3), .val (.int k), .val (.int n), .unset, .unset] [(.int (2 : Int32)), (.int k)])) _
            refine XS.icmpYes X1.here hx rfl (pc0 := 75) (pc' := 99) rfl (hb hby at_75) rfl (feq (hc75 : ¬ (k = (2 : Int32)))).2 (by decide) (by decide) ?_
            show Steps p.tables e below (T1.setTop (mkF m 99 #[.val (.int p1), .val (.int p2), .val (.int p3), .val (.int k), .val (.int n), .unset, .unset] [])) _
            refine XS.iloadN X1.here hx rfl (hb hby at_99) rfl ?_
            show Steps p.tables e below (T1.setTop (mkF m 100 #[.val (.int p1), .val (.int p2), .val (.int p3), .val (.int k), .val (.int n), .unset, .unset] [(.int k)])) _
            refine XS.iconst X1.here hx rfl (hb hby at_100) ?_
            exact q)
        by_cases hc101 : k = (3 : Int32)
        · have k43 : ∀ t, Steps p.tables e below (T1.setTop (mkF m 104 #[.val (.int p1), .val (.int p2), .val (.int p3), .val (.int k), .val (.int n), .unset, .unset] [])) t → Steps p.tables e below (s₁.setTop (entryFrame m #[(.int p1), (.int p2), (.int p3)] maxLocals)) t := fun t q => k42 t (by
              show Steps p.tables e below (T1.setTop (mkF m 101 #[.val (.int p1), .val (.int p2), .val (.int p3), .val (.int k), .val (.int n), .unset, .unset] [(.int (3 : Int32)), (.int k)])) _
              refine XS.icmpNo X1.here hx rfl (hb hby at_101) rfl (teq (hc101 : k = (3 : Int32))).2 ?_
              exact q)
          obtain ⟨T44, X44, e44, st44⟩ := getS2 X1 hx hZ hown (host := "") (Or.inl (hw _ (List.mem_of_getElem? (i := 15) rfl))) Via.refl e1 (S_HAS_ANY_AUTHORITY) (g := (mkF m 104 #[.val (.int p1), .val (.int p2), .val (.int p3), .val (.int k), .val (.int n), .unset, .unset] [])) rfl (hb hby at_104)
          have k45 : ∀ t, Steps p.tables e below (T44.setTop (mkF m 107 #[.val (.int p1), .val (.int p2), .val (.int p3), .val (.int k), .val (.int n), .unset, .unset] [(.ref f3)])) t → Steps p.tables e below (s₁.setTop (entryFrame m #[(.int p1), (.int p2), (.int p3)] maxLocals)) t := fun t q => k43 t (st44 t q)
          have k46 : ∀ t, Steps p.tables e below (T44.setTop (mkF m 112 #[.val (.int p1), .val (.int p2), .val (.int p3), .val (.int k), .val (.int n), .val (.ref f3), .unset] [(.int (1 : Int32)), (.int n)])) t → Steps p.tables e below (s₁.setTop (entryFrame m #[(.int p1), (.int p2), (.int p3)] maxLocals)) t := fun t q => k45 t (by
              show Steps p.tables e below (T44.setTop (mkF m 107 #[.val (.int p1), .val (.int p2), .val (.int p3), .val (.int k), .val (.int n), .unset, .unset] [(.ref f3)])) _
              refine XS.astore X44.here hx rfl (hb hby at_107) rfl rfl (l' := #[.val (.int p1), .val (.int p2), .val (.int p3), .val (.int k), .val (.int n), .val (.ref f3), .unset]) rfl ?_
              show Steps p.tables e below (T44.setTop (mkF m 109 #[.val (.int p1), .val (.int p2), .val (.int p3), .val (.int k), .val (.int n), .val (.ref f3), .unset] [])) _
              refine XS.iload X44.here hx rfl (hb hby at_109) rfl ?_
              show Steps p.tables e below (T44.setTop (mkF m 111 #[.val (.int p1), .val (.int p2), .val (.int p3), .val (.int k), .val (.int n), .val (.ref f3), .unset] [(.int n)])) _
              refine XS.iconst X44.here hx rfl (hb hby at_111) ?_
              exact q)
          by_cases hc112 : n < (1 : Int32)
          · have k47 : ∀ t, Steps p.tables e below (T44.setTop (mkF m 205 #[.val (.int p1), .val (.int p2), .val (.int p3), .val (.int k), .val (.int n), .val (.ref f3), .val (.int (0 : Int32))] [(.int n), (.ref f3)])) t → Steps p.tables e below (s₁.setTop (entryFrame m #[(.int p1), (.int p2), (.int p3)] maxLocals)) t := fun t q => k46 t (by
                show Steps p.tables e below (T44.setTop (mkF m 112 #[.val (.int p1), .val (.int p2), .val (.int p3), .val (.int k), .val (.int n), .val (.ref f3), .unset] [(.int (1 : Int32)), (.int n)])) _
                refine XS.icmpYes X44.here hx rfl (pc0 := 112) (pc' := 119) rfl (hb hby at_112) rfl (tlt (hc112 : n < (1 : Int32))).1 (by decide) (by decide) ?_
                show Steps p.tables e below (T44.setTop (mkF m 119 #[.val (.int p1), .val (.int p2), .val (.int p3), .val (.int k), .val (.int n), .val (.ref f3), .unset] [])) _
                refine XS.iconst X44.here hx rfl (hb hby at_119) ?_
                show Steps p.tables e below (T44.setTop (mkF m 120 #[.val (.int p1), .val (.int p2), .val (.int p3), .val (.int k), .val (.int n), .val (.ref f3), .unset] [(.int (0 : Int32))])) _
                refine XS.istore X44.here hx rfl (hb hby at_120) rfl (l' := #[.val (.int p1), .val (.int p2), .val (.int p3), .val (.int k), .val (.int n), .val (.ref f3), .val (.int (0 : Int32))]) rfl ?_
                show Steps p.tables e below (T44.setTop (mkF m 122 #[.val (.int p1), .val (.int p2), .val (.int p3), .val (.int k), .val (.int n), .val (.ref f3), .val (.int (0 : Int32))] [])) _
                refine XS.goto X44.here hx rfl (pc0 := 122) (pc' := 201) rfl (hb hby at_122) (by decide) (by decide) ?_
                show Steps p.tables e below (T44.setTop (mkF m 201 #[.val (.int p1), .val (.int p2), .val (.int p3), .val (.int k), .val (.int n), .val (.ref f3), .val (.int (0 : Int32))] [])) _
                refine XS.aload X44.here hx rfl (hb hby at_201) rfl rfl ?_
                show Steps p.tables e below (T44.setTop (mkF m 203 #[.val (.int p1), .val (.int p2), .val (.int p3), .val (.int k), .val (.int n), .val (.ref f3), .val (.int (0 : Int32))] [(.ref f3)])) _
                refine XS.iload X44.here hx rfl (hb hby at_203) rfl ?_
                exact q)
            obtain ⟨cq48, kq48, q48a, q48b, q48c⟩ := isOf hZ e44 (E_f3)
            obtain ⟨_, _, ⟨T48, L48, kk48, nn48⟩, -, X48, ⟨Lc48, hQ48, l48, y48, z48⟩, st48⟩ := X44.virtualBack hx (y := (⟨"com/example/bouncer/bouncer/expression/Vocabulary$Function", "takes", "(I)Z"⟩ : MethodName)) (z := (⟨"com/example/bouncer/bouncer/expression/Vocabulary$Function", "takes", "(I)Z"⟩ : MethodName)) hown (mvT hZ (hw _ (List.mem_of_getElem? (i := 4) rfl))) (mvT hZ (hw _ (List.mem_of_getElem? (i := 5) rfl))) (notFace_of_selects (args := #[]) (mvT hZ (hw _ (List.mem_of_getElem? (i := 7) rfl)))) (mvT hZ (hw _ (List.mem_of_getElem? (i := 7) rfl))) (mvT hZ (hw _ (List.mem_of_getElem? (i := 6) rfl))) (by decide) (backOf (W := 0) (rm1 l Z a0 hw [] f3 n (1 : Int32) (2147483647 : Int32) (0 : Int32) h0 n0 Z0 L_f3 H_f3 (own_no (Or.inl hc112))) hZ (hw _ (List.mem_of_getElem? (i := 8) rfl)) (hw _ (List.mem_of_getElem? (i := 2) rfl)) (by decide) (by decide)) q48a q48c (g := (mkF m 205 #[.val (.int p1), .val (.int p2), .val (.int p3), .val (.int k), .val (.int n), .val (.ref f3), .val (.int (0 : Int32))] [(.int n), (.ref f3)])) rfl (by rw [hml]; rfl) (Steps.refl _) (argsL := [(.int n)]) (rest := []) (lenOf pd__I_Z rfl) rfl (by show 2 * 0 + _ ≤ _; exact Nat.le_of_eq rfl) (hb hby at_205) (fun _ _ => ⟨rfl, e44, (by decide : 0 + 0 ≤ _), (by decide : 0 + 0 ≤ _)⟩)
            dsimp only [Pt.U, Pt.locs, Pt.cells, Pt.slots] at X48 l48 y48 z48 st48 hQ48
            subst l48 y48 z48
            obtain ⟨rfl, N48q, e48⟩ := hQ48
            have N48 := Fr.app N0 N48q
            have k49 : ∀ t, Steps p.tables e below (T48.setTop (mkF m 208 #[.val (.int p1), .val (.int p2), .val (.int p3), .val (.int k), .val (.int n), .val (.ref f3), .val (.int (0 : Int32))] [(.int (0 : Int32))])) t → Steps p.tables e below (s₁.setTop (entryFrame m #[(.int p1), (.int p2), (.int p3)] maxLocals)) t := fun t q => k47 t (st48.trans q)
            have k50 : ∀ t, Steps p.tables e below (T48.setTop (mkF m 218 #[.val (.int p1), .val (.int p2), .val (.int p3), .val (.int k), .val (.int n), .val (.ref f3), .val (.int (0 : Int32))] [(.int (1 : Int32))])) t → Steps p.tables e below (s₁.setTop (entryFrame m #[(.int p1), (.int p2), (.int p3)] maxLocals)) t := fun t q => k49 t (by
                show Steps p.tables e below (T48.setTop (mkF m 208 #[.val (.int p1), .val (.int p2), .val (.int p3), .val (.int k), .val (.int n), .val (.ref f3), .val (.int (0 : Int32))] [(.int (0 : Int32))])) _
                refine XS.iload X48.here hx rfl (hb hby at_208) rfl ?_
                show Steps p.tables e below (T48.setTop (mkF m 210 #[.val (.int p1), .val (.int p2), .val (.int p3), .val (.int k), .val (.int n), .val (.ref f3), .val (.int (0 : Int32))] [(.int (0 : Int32)), (.int (0 : Int32))])) _
                refine XS.icmpNo X48.here hx rfl (hb hby at_210) rfl (teq (by decide : (0 : Int32) = (0 : Int32))).2 ?_
                show Steps p.tables e below (T48.setTop (mkF m 213 #[.val (.int p1), .val (.int p2), .val (.int p3), .val (.int k), .val (.int n), .val (.ref f3), .val (.int (0 : Int32))] [])) _
                refine XS.iconst X48.here hx rfl (hb hby at_213) ?_
                show Steps p.tables e below (T48.setTop (mkF m 214 #[.val (.int p1), .val (.int p2), .val (.int p3), .val (.int k), .val (.int n), .val (.ref f3), .val (.int (0 : Int32))] [(.int (1 : Int32))])) _
                refine XS.goto X48.here hx rfl (pc0 := 214) (pc' := 218) rfl (hb hby at_214) (by decide) (by decide) ?_
                exact q)
            obtain ⟨fs, hr, hrun, hended, hW, hsame⟩ := X48.leave (v := some (.int (1 : Int32))) (fun h => by rw [Bd.returns] at h; cases h)
            refine ⟨_, _, k50 _ ?_, hrun, hended, _, _, rfl, ?_, ⟨_, rfl⟩, hW, hsame.mono (by decide) (by decide)⟩
            · exact retN X48 hx (t := .boolean) Bd.returns (by simp) (hb hby at_218) hr
            · show QL Z p1 p2 p3 f0 f1 f2 f3 f4 f5 f6 k n h0 n0 _ T48.heap _
              exact ⟨rfl, N48⟩
          · have k51 : ∀ t, Steps p.tables e below (T44.setTop (mkF m 205 #[.val (.int p1), .val (.int p2), .val (.int p3), .val (.int k), .val (.int n), .val (.ref f3), .val (.int (1 : Int32))] [(.int n), (.ref f3)])) t → Steps p.tables e below (s₁.setTop (entryFrame m #[(.int p1), (.int p2), (.int p3)] maxLocals)) t := fun t q => k46 t (by
                show Steps p.tables e below (T44.setTop (mkF m 112 #[.val (.int p1), .val (.int p2), .val (.int p3), .val (.int k), .val (.int n), .val (.ref f3), .unset] [(.int (1 : Int32)), (.int n)])) _
                refine XS.icmpNo X44.here hx rfl (hb hby at_112) rfl (flt (hc112 : ¬ (n < (1 : Int32)))).1 ?_
                show Steps p.tables e below (T44.setTop (mkF m 115 #[.val (.int p1), .val (.int p2), .val (.int p3), .val (.int k), .val (.int n), .val (.ref f3), .unset] [])) _
                refine XS.iconst X44.here hx rfl (hb hby at_115) ?_
                show Steps p.tables e below (T44.setTop (mkF m 116 #[.val (.int p1), .val (.int p2), .val (.int p3), .val (.int k), .val (.int n), .val (.ref f3), .unset] [(.int (1 : Int32))])) _
                refine XS.goto X44.here hx rfl (pc0 := 116) (pc' := 120) rfl (hb hby at_116) (by decide) (by decide) ?_
                show Steps p.tables e below (T44.setTop (mkF m 120 #[.val (.int p1), .val (.int p2), .val (.int p3), .val (.int k), .val (.int n), .val (.ref f3), .unset] [(.int (1 : Int32))])) _
                refine XS.istore X44.here hx rfl (hb hby at_120) rfl (l' := #[.val (.int p1), .val (.int p2), .val (.int p3), .val (.int k), .val (.int n), .val (.ref f3), .val (.int (1 : Int32))]) rfl ?_
                show Steps p.tables e below (T44.setTop (mkF m 122 #[.val (.int p1), .val (.int p2), .val (.int p3), .val (.int k), .val (.int n), .val (.ref f3), .val (.int (1 : Int32))] [])) _
                refine XS.goto X44.here hx rfl (pc0 := 122) (pc' := 201) rfl (hb hby at_122) (by decide) (by decide) ?_
                show Steps p.tables e below (T44.setTop (mkF m 201 #[.val (.int p1), .val (.int p2), .val (.int p3), .val (.int k), .val (.int n), .val (.ref f3), .val (.int (1 : Int32))] [])) _
                refine XS.aload X44.here hx rfl (hb hby at_201) rfl rfl ?_
                show Steps p.tables e below (T44.setTop (mkF m 203 #[.val (.int p1), .val (.int p2), .val (.int p3), .val (.int k), .val (.int n), .val (.ref f3), .val (.int (1 : Int32))] [(.ref f3)])) _
                refine XS.iload X44.here hx rfl (hb hby at_203) rfl ?_
                exact q)
            obtain ⟨cq52, kq52, q52a, q52b, q52c⟩ := isOf hZ e44 (E_f3)
            obtain ⟨_, _, ⟨T52, L52, kk52, nn52⟩, -, X52, ⟨Lc52, hQ52, l52, y52, z52⟩, st52⟩ := X44.virtualBack hx (y := (⟨"com/example/bouncer/bouncer/expression/Vocabulary$Function", "takes", "(I)Z"⟩ : MethodName)) (z := (⟨"com/example/bouncer/bouncer/expression/Vocabulary$Function", "takes", "(I)Z"⟩ : MethodName)) hown (mvT hZ (hw _ (List.mem_of_getElem? (i := 4) rfl))) (mvT hZ (hw _ (List.mem_of_getElem? (i := 5) rfl))) (notFace_of_selects (args := #[]) (mvT hZ (hw _ (List.mem_of_getElem? (i := 7) rfl)))) (mvT hZ (hw _ (List.mem_of_getElem? (i := 7) rfl))) (mvT hZ (hw _ (List.mem_of_getElem? (i := 6) rfl))) (by decide) (backOf (W := 0) (rm1 l Z a0 hw [] f3 n (1 : Int32) (2147483647 : Int32) (1 : Int32) h0 n0 Z0 L_f3 H_f3 (own_yes hc112 (own_top n))) hZ (hw _ (List.mem_of_getElem? (i := 8) rfl)) (hw _ (List.mem_of_getElem? (i := 2) rfl)) (by decide) (by decide)) q52a q52c (g := (mkF m 205 #[.val (.int p1), .val (.int p2), .val (.int p3), .val (.int k), .val (.int n), .val (.ref f3), .val (.int (1 : Int32))] [(.int n), (.ref f3)])) rfl (by rw [hml]; rfl) (Steps.refl _) (argsL := [(.int n)]) (rest := []) (lenOf pd__I_Z rfl) rfl (by show 2 * 0 + _ ≤ _; exact Nat.le_of_eq rfl) (hb hby at_205) (fun _ _ => ⟨rfl, e44, (by decide : 0 + 0 ≤ _), (by decide : 0 + 0 ≤ _)⟩)
            dsimp only [Pt.U, Pt.locs, Pt.cells, Pt.slots] at X52 l52 y52 z52 st52 hQ52
            subst l52 y52 z52
            obtain ⟨rfl, N52q, e52⟩ := hQ52
            have N52 := Fr.app N0 N52q
            have k53 : ∀ t, Steps p.tables e below (T52.setTop (mkF m 208 #[.val (.int p1), .val (.int p2), .val (.int p3), .val (.int k), .val (.int n), .val (.ref f3), .val (.int (1 : Int32))] [(.int (1 : Int32))])) t → Steps p.tables e below (s₁.setTop (entryFrame m #[(.int p1), (.int p2), (.int p3)] maxLocals)) t := fun t q => k51 t (st52.trans q)
            have k54 : ∀ t, Steps p.tables e below (T52.setTop (mkF m 218 #[.val (.int p1), .val (.int p2), .val (.int p3), .val (.int k), .val (.int n), .val (.ref f3), .val (.int (1 : Int32))] [(.int (1 : Int32))])) t → Steps p.tables e below (s₁.setTop (entryFrame m #[(.int p1), (.int p2), (.int p3)] maxLocals)) t := fun t q => k53 t (by
                show Steps p.tables e below (T52.setTop (mkF m 208 #[.val (.int p1), .val (.int p2), .val (.int p3), .val (.int k), .val (.int n), .val (.ref f3), .val (.int (1 : Int32))] [(.int (1 : Int32))])) _
                refine XS.iload X52.here hx rfl (hb hby at_208) rfl ?_
                show Steps p.tables e below (T52.setTop (mkF m 210 #[.val (.int p1), .val (.int p2), .val (.int p3), .val (.int k), .val (.int n), .val (.ref f3), .val (.int (1 : Int32))] [(.int (1 : Int32)), (.int (1 : Int32))])) _
                refine XS.icmpNo X52.here hx rfl (hb hby at_210) rfl (teq (by decide : (1 : Int32) = (1 : Int32))).2 ?_
                show Steps p.tables e below (T52.setTop (mkF m 213 #[.val (.int p1), .val (.int p2), .val (.int p3), .val (.int k), .val (.int n), .val (.ref f3), .val (.int (1 : Int32))] [])) _
                refine XS.iconst X52.here hx rfl (hb hby at_213) ?_
                show Steps p.tables e below (T52.setTop (mkF m 214 #[.val (.int p1), .val (.int p2), .val (.int p3), .val (.int k), .val (.int n), .val (.ref f3), .val (.int (1 : Int32))] [(.int (1 : Int32))])) _
                refine XS.goto X52.here hx rfl (pc0 := 214) (pc' := 218) rfl (hb hby at_214) (by decide) (by decide) ?_
                exact q)
            obtain ⟨fs, hr, hrun, hended, hW, hsame⟩ := X52.leave (v := some (.int (1 : Int32))) (fun h => by rw [Bd.returns] at h; cases h)
            refine ⟨_, _, k54 _ ?_, hrun, hended, _, _, rfl, ?_, ⟨_, rfl⟩, hW, hsame.mono (by decide) (by decide)⟩
            · exact retN X52 hx (t := .boolean) Bd.returns (by simp) (hb hby at_218) hr
            · show QL Z p1 p2 p3 f0 f1 f2 f3 f4 f5 f6 k n h0 n0 _ T52.heap _
              exact ⟨rfl, N52⟩
        · have k55 : ∀ t, Steps p.tables e below (T1.setTop (mkF m 127 #[.val (.int p1), .val (.int p2), .val (.int p3), .val (.int k), .val (.int n), .unset, .unset] [(.int (4 : Int32)), (.int k)])) t → Steps p.tables e below (s₁.setTop (entryFrame m #[(.int p1), (.int p2), (.int p3)] maxLocals)) t := fun t q => k42 t (by
              show Steps p.tables e below (T1.setTop (mkF m 101 #[.val (.int p1), .val (.int p2), .val (.int p3), .val (.int k), .val (.int n), .unset, .unset] [(.int (3 : Int32)), (.int k)])) _
              refine XS.icmpYes X1.here hx rfl (pc0 := 101) (pc' := 125) rfl (hb hby at_101) rfl (feq (hc101 : ¬ (k = (3 : Int32)))).2 (by decide) (by decide) ?_
              show Steps p.tables e below (T1.setTop (mkF m 125 #[.val (.int p1), .val (.int p2), .val (.int p3), .val (.int k), .val (.int n), .unset, .unset] [])) _
              refine XS.iloadN X1.here hx rfl (hb hby at_125) rfl ?_
              show Steps p.tables e below (T1.setTop (mkF m 126 #[.val (.int p1), .val (.int p2), .val (.int p3), .val (.int k), .val (.int n), .unset, .unset] [(.int k)])) _
              refine XS.iconst X1.here hx rfl (hb hby at_126) ?_
              exact q)
          by_cases hc127 : k = (4 : Int32)
          · have k56 : ∀ t, Steps p.tables e below (T1.setTop (mkF m 130 #[.val (.int p1), .val (.int p2), .val (.int p3), .val (.int k), .val (.int n), .unset, .unset] [])) t → Steps p.tables e below (s₁.setTop (entryFrame m #[(.int p1), (.int p2), (.int p3)] maxLocals)) t := fun t q => k55 t (by
                show Steps p.tables e below (T1.setTop (mkF m 127 #[.val (.int p1), .val (.int p2), .val (.int p3), .val (.int k), .val (.int n), .unset, .unset] [(.int (4 : Int32)), (.int k)])) _
                refine XS.icmpNo X1.here hx rfl (hb hby at_127) rfl (teq (hc127 : k = (4 : Int32))).2 ?_
                exact q)
            obtain ⟨T57, X57, e57, st57⟩ := getS2 X1 hx hZ hown (host := "") (Or.inl (hw _ (List.mem_of_getElem? (i := 21) rfl))) Via.refl e1 (S_HAS_ROLE) (g := (mkF m 130 #[.val (.int p1), .val (.int p2), .val (.int p3), .val (.int k), .val (.int n), .unset, .unset] [])) rfl (hb hby at_130)
            have k58 : ∀ t, Steps p.tables e below (T57.setTop (mkF m 133 #[.val (.int p1), .val (.int p2), .val (.int p3), .val (.int k), .val (.int n), .unset, .unset] [(.ref f4)])) t → Steps p.tables e below (s₁.setTop (entryFrame m #[(.int p1), (.int p2), (.int p3)] maxLocals)) t := fun t q => k56 t (st57 t q)
            have k59 : ∀ t, Steps p.tables e below (T57.setTop (mkF m 138 #[.val (.int p1), .val (.int p2), .val (.int p3), .val (.int k), .val (.int n), .val (.ref f4), .unset] [(.int (1 : Int32)), (.int n)])) t → Steps p.tables e below (s₁.setTop (entryFrame m #[(.int p1), (.int p2), (.int p3)] maxLocals)) t := fun t q => k58 t (by
                show Steps p.tables e below (T57.setTop (mkF m 133 #[.val (.int p1), .val (.int p2), .val (.int p3), .val (.int k), .val (.int n), .unset, .unset] [(.ref f4)])) _
                refine XS.astore X57.here hx rfl (hb hby at_133) rfl rfl (l' := #[.val (.int p1), .val (.int p2), .val (.int p3), .val (.int k), .val (.int n), .val (.ref f4), .unset]) rfl ?_
                show Steps p.tables e below (T57.setTop (mkF m 135 #[.val (.int p1), .val (.int p2), .val (.int p3), .val (.int k), .val (.int n), .val (.ref f4), .unset] [])) _
                refine XS.iload X57.here hx rfl (hb hby at_135) rfl ?_
                show Steps p.tables e below (T57.setTop (mkF m 137 #[.val (.int p1), .val (.int p2), .val (.int p3), .val (.int k), .val (.int n), .val (.ref f4), .unset] [(.int n)])) _
                refine XS.iconst X57.here hx rfl (hb hby at_137) ?_
                exact q)
            by_cases hc138 : n = (1 : Int32)
            · have k60 : ∀ t, Steps p.tables e below (T57.setTop (mkF m 205 #[.val (.int p1), .val (.int p2), .val (.int p3), .val (.int k), .val (.int n), .val (.ref f4), .val (.int (1 : Int32))] [(.int n), (.ref f4)])) t → Steps p.tables e below (s₁.setTop (entryFrame m #[(.int p1), (.int p2), (.int p3)] maxLocals)) t := fun t q => k59 t (by
                  show Steps p.tables e below (T57.setTop (mkF m 138 #[.val (.int p1), .val (.int p2), .val (.int p3), .val (.int k), .val (.int n), .val (.ref f4), .unset] [(.int (1 : Int32)), (.int n)])) _
                  refine XS.icmpNo X57.here hx rfl (hb hby at_138) rfl (teq (hc138 : n = (1 : Int32))).2 ?_
                  show Steps p.tables e below (T57.setTop (mkF m 141 #[.val (.int p1), .val (.int p2), .val (.int p3), .val (.int k), .val (.int n), .val (.ref f4), .unset] [])) _
                  refine XS.iconst X57.here hx rfl (hb hby at_141) ?_
                  show Steps p.tables e below (T57.setTop (mkF m 142 #[.val (.int p1), .val (.int p2), .val (.int p3), .val (.int k), .val (.int n), .val (.ref f4), .unset] [(.int (1 : Int32))])) _
                  refine XS.goto X57.here hx rfl (pc0 := 142) (pc' := 146) rfl (hb hby at_142) (by decide) (by decide) ?_
                  show Steps p.tables e below (T57.setTop (mkF m 146 #[.val (.int p1), .val (.int p2), .val (.int p3), .val (.int k), .val (.int n), .val (.ref f4), .unset] [(.int (1 : Int32))])) _
                  refine XS.istore X57.here hx rfl (hb hby at_146) rfl (l' := #[.val (.int p1), .val (.int p2), .val (.int p3), .val (.int k), .val (.int n), .val (.ref f4), .val (.int (1 : Int32))]) rfl ?_
                  show Steps p.tables e below (T57.setTop (mkF m 148 #[.val (.int p1), .val (.int p2), .val (.int p3), .val (.int k), .val (.int n), .val (.ref f4), .val (.int (1 : Int32))] [])) _
                  refine XS.goto X57.here hx rfl (pc0 := 148) (pc' := 201) rfl (hb hby at_148) (by decide) (by decide) ?_
                  show Steps p.tables e below (T57.setTop (mkF m 201 #[.val (.int p1), .val (.int p2), .val (.int p3), .val (.int k), .val (.int n), .val (.ref f4), .val (.int (1 : Int32))] [])) _
                  refine XS.aload X57.here hx rfl (hb hby at_201) rfl rfl ?_
                  show Steps p.tables e below (T57.setTop (mkF m 203 #[.val (.int p1), .val (.int p2), .val (.int p3), .val (.int k), .val (.int n), .val (.ref f4), .val (.int (1 : Int32))] [(.ref f4)])) _
                  refine XS.iload X57.here hx rfl (hb hby at_203) rfl ?_
                  exact q)
              obtain ⟨cq61, kq61, q61a, q61b, q61c⟩ := isOf hZ e57 (E_f4)
              obtain ⟨_, _, ⟨T61, L61, kk61, nn61⟩, -, X61, ⟨Lc61, hQ61, l61, y61, z61⟩, st61⟩ := X57.virtualBack hx (y := (⟨"com/example/bouncer/bouncer/expression/Vocabulary$Function", "takes", "(I)Z"⟩ : MethodName)) (z := (⟨"com/example/bouncer/bouncer/expression/Vocabulary$Function", "takes", "(I)Z"⟩ : MethodName)) hown (mvT hZ (hw _ (List.mem_of_getElem? (i := 4) rfl))) (mvT hZ (hw _ (List.mem_of_getElem? (i := 5) rfl))) (notFace_of_selects (args := #[]) (mvT hZ (hw _ (List.mem_of_getElem? (i := 7) rfl)))) (mvT hZ (hw _ (List.mem_of_getElem? (i := 7) rfl))) (mvT hZ (hw _ (List.mem_of_getElem? (i := 6) rfl))) (by decide) (backOf (W := 0) (rm1 l Z a0 hw [] f4 n (1 : Int32) (1 : Int32) (1 : Int32) h0 n0 Z0 L_f4 H_f4 (own_yes (by rw [hc138]; decide) (by rw [hc138]; decide))) hZ (hw _ (List.mem_of_getElem? (i := 8) rfl)) (hw _ (List.mem_of_getElem? (i := 2) rfl)) (by decide) (by decide)) q61a q61c (g := (mkF m 205 #[.val (.int p1), .val (.int p2), .val (.int p3), .val (.int k), .val (.int n), .val (.ref f4), .val (.int (1 : Int32))] [(.int n), (.ref f4)])) rfl (by rw [hml]; rfl) (Steps.refl _) (argsL := [(.int n)]) (rest := []) (lenOf pd__I_Z rfl) rfl (by show 2 * 0 + _ ≤ _; exact Nat.le_of_eq rfl) (hb hby at_205) (fun _ _ => ⟨rfl, e57, (by decide : 0 + 0 ≤ _), (by decide : 0 + 0 ≤ _)⟩)
              dsimp only [Pt.U, Pt.locs, Pt.cells, Pt.slots] at X61 l61 y61 z61 st61 hQ61
              subst l61 y61 z61
              obtain ⟨rfl, N61q, e61⟩ := hQ61
              have N61 := Fr.app N0 N61q
              have k62 : ∀ t, Steps p.tables e below (T61.setTop (mkF m 208 #[.val (.int p1), .val (.int p2), .val (.int p3), .val (.int k), .val (.int n), .val (.ref f4), .val (.int (1 : Int32))] [(.int (1 : Int32))])) t → Steps p.tables e below (s₁.setTop (entryFrame m #[(.int p1), (.int p2), (.int p3)] maxLocals)) t := fun t q => k60 t (st61.trans q)
              have k63 : ∀ t, Steps p.tables e below (T61.setTop (mkF m 218 #[.val (.int p1), .val (.int p2), .val (.int p3), .val (.int k), .val (.int n), .val (.ref f4), .val (.int (1 : Int32))] [(.int (1 : Int32))])) t → Steps p.tables e below (s₁.setTop (entryFrame m #[(.int p1), (.int p2), (.int p3)] maxLocals)) t := fun t q => k62 t (by
                  show Steps p.tables e below (T61.setTop (mkF m 208 #[.val (.int p1), .val (.int p2), .val (.int p3), .val (.int k), .val (.int n), .val (.ref f4), .val (.int (1 : Int32))] [(.int (1 : Int32))])) _
                  refine XS.iload X61.here hx rfl (hb hby at_208) rfl ?_
                  show Steps p.tables e below (T61.setTop (mkF m 210 #[.val (.int p1), .val (.int p2), .val (.int p3), .val (.int k), .val (.int n), .val (.ref f4), .val (.int (1 : Int32))] [(.int (1 : Int32)), (.int (1 : Int32))])) _
                  refine XS.icmpNo X61.here hx rfl (hb hby at_210) rfl (teq (by decide : (1 : Int32) = (1 : Int32))).2 ?_
                  show Steps p.tables e below (T61.setTop (mkF m 213 #[.val (.int p1), .val (.int p2), .val (.int p3), .val (.int k), .val (.int n), .val (.ref f4), .val (.int (1 : Int32))] [])) _
                  refine XS.iconst X61.here hx rfl (hb hby at_213) ?_
                  show Steps p.tables e below (T61.setTop (mkF m 214 #[.val (.int p1), .val (.int p2), .val (.int p3), .val (.int k), .val (.int n), .val (.ref f4), .val (.int (1 : Int32))] [(.int (1 : Int32))])) _
                  refine XS.goto X61.here hx rfl (pc0 := 214) (pc' := 218) rfl (hb hby at_214) (by decide) (by decide) ?_
                  exact q)
              obtain ⟨fs, hr, hrun, hended, hW, hsame⟩ := X61.leave (v := some (.int (1 : Int32))) (fun h => by rw [Bd.returns] at h; cases h)
              refine ⟨_, _, k63 _ ?_, hrun, hended, _, _, rfl, ?_, ⟨_, rfl⟩, hW, hsame.mono (by decide) (by decide)⟩
              · exact retN X61 hx (t := .boolean) Bd.returns (by simp) (hb hby at_218) hr
              · show QL Z p1 p2 p3 f0 f1 f2 f3 f4 f5 f6 k n h0 n0 _ T61.heap _
                exact ⟨rfl, N61⟩
            · have k64 : ∀ t, Steps p.tables e below (T57.setTop (mkF m 205 #[.val (.int p1), .val (.int p2), .val (.int p3), .val (.int k), .val (.int n), .val (.ref f4), .val (.int (0 : Int32))] [(.int n), (.ref f4)])) t → Steps p.tables e below (s₁.setTop (entryFrame m #[(.int p1), (.int p2), (.int p3)] maxLocals)) t := fun t q => k59 t (by
                  show Steps p.tables e below (T57.setTop (mkF m 138 #[.val (.int p1), .val (.int p2), .val (.int p3), .val (.int k), .val (.int n), .val (.ref f4), .unset] [(.int (1 : Int32)), (.int n)])) _
                  refine XS.icmpYes X57.here hx rfl (pc0 := 138) (pc' := 145) rfl (hb hby at_138) rfl (feq (hc138 : ¬ (n = (1 : Int32)))).2 (by decide) (by decide) ?_
                  show Steps p.tables e below (T57.setTop (mkF m 145 #[.val (.int p1), .val (.int p2), .val (.int p3), .val (.int k), .val (.int n), .val (.ref f4), .unset] [])) _
                  refine XS.iconst X57.here hx rfl (hb hby at_145) ?_
                  show Steps p.tables e below (T57.setTop (mkF m 146 #[.val (.int p1), .val (.int p2), .val (.int p3), .val (.int k), .val (.int n), .val (.ref f4), .unset] [(.int (0 : Int32))])) _
                  refine XS.istore X57.here hx rfl (hb hby at_146) rfl (l' := #[.val (.int p1), .val (.int p2), .val (.int p3), .val (.int k), .val (.int n), .val (.ref f4), .val (.int (0 : Int32))]) rfl ?_
                  show Steps p.tables e below (T57.setTop (mkF m 148 #[.val (.int p1), .val (.int p2), .val (.int p3), .val (.int k), .val (.int n), .val (.ref f4), .val (.int (0 : Int32))] [])) _
                  refine XS.goto X57.here hx rfl (pc0 := 148) (pc' := 201) rfl (hb hby at_148) (by decide) (by decide) ?_
                  show Steps p.tables e below (T57.setTop (mkF m 201 #[.val (.int p1), .val (.int p2), .val (.int p3), .val (.int k), .val (.int n), .val (.ref f4), .val (.int (0 : Int32))] [])) _
                  refine XS.aload X57.here hx rfl (hb hby at_201) rfl rfl ?_
                  show Steps p.tables e below (T57.setTop (mkF m 203 #[.val (.int p1), .val (.int p2), .val (.int p3), .val (.int k), .val (.int n), .val (.ref f4), .val (.int (0 : Int32))] [(.ref f4)])) _
                  refine XS.iload X57.here hx rfl (hb hby at_203) rfl ?_
                  exact q)
              obtain ⟨cq65, kq65, q65a, q65b, q65c⟩ := isOf hZ e57 (E_f4)
              obtain ⟨_, _, ⟨T65, L65, kk65, nn65⟩, -, X65, ⟨Lc65, hQ65, l65, y65, z65⟩, st65⟩ := X57.virtualBack hx (y := (⟨"com/example/bouncer/bouncer/expression/Vocabulary$Function", "takes", "(I)Z"⟩ : MethodName)) (z := (⟨"com/example/bouncer/bouncer/expression/Vocabulary$Function", "takes", "(I)Z"⟩ : MethodName)) hown (mvT hZ (hw _ (List.mem_of_getElem? (i := 4) rfl))) (mvT hZ (hw _ (List.mem_of_getElem? (i := 5) rfl))) (notFace_of_selects (args := #[]) (mvT hZ (hw _ (List.mem_of_getElem? (i := 7) rfl)))) (mvT hZ (hw _ (List.mem_of_getElem? (i := 7) rfl))) (mvT hZ (hw _ (List.mem_of_getElem? (i := 6) rfl))) (by decide) (backOf (W := 0) (rm1 l Z a0 hw [] f4 n (1 : Int32) (1 : Int32) (0 : Int32) h0 n0 Z0 L_f4 H_f4 (own_no (own_ne hc138))) hZ (hw _ (List.mem_of_getElem? (i := 8) rfl)) (hw _ (List.mem_of_getElem? (i := 2) rfl)) (by decide) (by decide)) q65a q65c (g := (mkF m 205 #[.val (.int p1), .val (.int p2), .val (.int p3), .val (.int k), .val (.int n), .val (.ref f4), .val (.int (0 : Int32))] [(.int n), (.ref f4)])) rfl (by rw [hml]; rfl) (Steps.refl _) (argsL := [(.int n)]) (rest := []) (lenOf pd__I_Z rfl) rfl (by show 2 * 0 + _ ≤ _; exact Nat.le_of_eq rfl) (hb hby at_205) (fun _ _ => ⟨rfl, e57, (by decide : 0 + 0 ≤ _), (by decide : 0 + 0 ≤ _)⟩)
              dsimp only [Pt.U, Pt.locs, Pt.cells, Pt.slots] at X65 l65 y65 z65 st65 hQ65
              subst l65 y65 z65
              obtain ⟨rfl, N65q, e65⟩ := hQ65
              have N65 := Fr.app N0 N65q
              have k66 : ∀ t, Steps p.tables e below (T65.setTop (mkF m 208 #[.val (.int p1), .val (.int p2), .val (.int p3), .val (.int k), .val (.int n), .val (.ref f4), .val (.int (0 : Int32))] [(.int (0 : Int32))])) t → Steps p.tables e below (s₁.setTop (entryFrame m #[(.int p1), (.int p2), (.int p3)] maxLocals)) t := fun t q => k64 t (st65.trans q)
              have k67 : ∀ t, Steps p.tables e below (T65.setTop (mkF m 218 #[.val (.int p1), .val (.int p2), .val (.int p3), .val (.int k), .val (.int n), .val (.ref f4), .val (.int (0 : Int32))] [(.int (1 : Int32))])) t → Steps p.tables e below (s₁.setTop (entryFrame m #[(.int p1), (.int p2), (.int p3)] maxLocals)) t := fun t q => k66 t (by
                  show Steps p.tables e below (T65.setTop (mkF m 208 #[.val (.int p1), .val (.int p2), .val (.int p3), .val (.int k), .val (.int n), .val (.ref f4), .val (.int (0 : Int32))] [(.int (0 : Int32))])) _
                  refine XS.iload X65.here hx rfl (hb hby at_208) rfl ?_
                  show Steps p.tables e below (T65.setTop (mkF m 210 #[.val (.int p1), .val (.int p2), .val (.int p3), .val (.int k), .val (.int n), .val (.ref f4), .val (.int (0 : Int32))] [(.int (0 : Int32)), (.int (0 : Int32))])) _
                  refine XS.icmpNo X65.here hx rfl (hb hby at_210) rfl (teq (by decide : (0 : Int32) = (0 : Int32))).2 ?_
                  show Steps p.tables e below (T65.setTop (mkF m 213 #[.val (.int p1), .val (.int p2), .val (.int p3), .val (.int k), .val (.int n), .val (.ref f4), .val (.int (0 : Int32))] [])) _
                  refine XS.iconst X65.here hx rfl (hb hby at_213) ?_
                  show Steps p.tables e below (T65.setTop (mkF m 214 #[.val (.int p1), .val (.int p2), .val (.int p3), .val (.int k), .val (.int n), .val (.ref f4), .val (.int (0 : Int32))] [(.int (1 : Int32))])) _
                  refine XS.goto X65.here hx rfl (pc0 := 214) (pc' := 218) rfl (hb hby at_214) (by decide) (by decide) ?_
                  exact q)
              obtain ⟨fs, hr, hrun, hended, hW, hsame⟩ := X65.leave (v := some (.int (1 : Int32))) (fun h => by rw [Bd.returns] at h; cases h)
              refine ⟨_, _, k67 _ ?_, hrun, hended, _, _, rfl, ?_, ⟨_, rfl⟩, hW, hsame.mono (by decide) (by decide)⟩
              · exact retN X65 hx (t := .boolean) Bd.returns (by simp) (hb hby at_218) hr
              · show QL Z p1 p2 p3 f0 f1 f2 f3 f4 f5 f6 k n h0 n0 _ T65.heap _
                exact ⟨rfl, N65⟩
          · have k68 : ∀ t, Steps p.tables e below (T1.setTop (mkF m 153 #[.val (.int p1), .val (.int p2), .val (.int p3), .val (.int k), .val (.int n), .unset, .unset] [(.int (5 : Int32)), (.int k)])) t → Steps p.tables e below (s₁.setTop (entryFrame m #[(.int p1), (.int p2), (.int p3)] maxLocals)) t := fun t q => k55 t (by
                show Steps p.tables e below (T1.setTop (mkF m 127 #[.val (.int p1), .val (.int p2), .val (.int p3), .val (.int k), .val (.int n), .unset, .unset] [(.int (4 : Int32)), (.int k)])) _
                refine XS.icmpYes X1.here hx rfl (pc0 := 127) (pc' := 151) rfl (hb hby at_127) rfl (feq (hc127 : ¬ (k = (4 : Int32)))).2 (by decide) (by decide) ?_
                show Steps p.tables e below (T1.setTop (mkF m 151 #[.val (.int p1), .val (.int p2), .val (.int p3), .val (.int k), .val (.int n), .unset, .unset] [])) _
                refine XS.iloadN X1.here hx rfl (hb hby at_151) rfl ?_
                show Steps p.tables e below (T1.setTop (mkF m 152 #[.val (.int p1), .val (.int p2), .val (.int p3), .val (.int k), .val (.int n), .unset, .unset] [(.int k)])) _
                refine XS.iconst X1.here hx rfl (hb hby at_152) ?_
                exact q)
            by_cases hc153 : k = (5 : Int32)
            · have k69 : ∀ t, Steps p.tables e below (T1.setTop (mkF m 156 #[.val (.int p1), .val (.int p2), .val (.int p3), .val (.int k), .val (.int n), .unset, .unset] [])) t → Steps p.tables e below (s₁.setTop (entryFrame m #[(.int p1), (.int p2), (.int p3)] maxLocals)) t := fun t q => k68 t (by
                  show Steps p.tables e below (T1.setTop (mkF m 153 #[.val (.int p1), .val (.int p2), .val (.int p3), .val (.int k), .val (.int n), .unset, .unset] [(.int (5 : Int32)), (.int k)])) _
                  refine XS.icmpNo X1.here hx rfl (hb hby at_153) rfl (teq (hc153 : k = (5 : Int32))).2 ?_
                  exact q)
              obtain ⟨T70, X70, e70, st70⟩ := getS2 X1 hx hZ hown (host := "") (Or.inl (hw _ (List.mem_of_getElem? (i := 17) rfl))) Via.refl e1 (S_HAS_ANY_ROLE) (g := (mkF m 156 #[.val (.int p1), .val (.int p2), .val (.int p3), .val (.int k), .val (.int n), .unset, .unset] [])) rfl (hb hby at_156)
              have k71 : ∀ t, Steps p.tables e below (T70.setTop (mkF m 159 #[.val (.int p1), .val (.int p2), .val (.int p3), .val (.int k), .val (.int n), .unset, .unset] [(.ref f5)])) t → Steps p.tables e below (s₁.setTop (entryFrame m #[(.int p1), (.int p2), (.int p3)] maxLocals)) t := fun t q => k69 t (st70 t q)
              have k72 : ∀ t, Steps p.tables e below (T70.setTop (mkF m 164 #[.val (.int p1), .val (.int p2), .val (.int p3), .val (.int k), .val (.int n), .val (.ref f5), .unset] [(.int (1 : Int32)), (.int n)])) t → Steps p.tables e below (s₁.setTop (entryFrame m #[(.int p1), (.int p2), (.int p3)] maxLocals)) t := fun t q => k71 t (by
                  show Steps p.tables e below (T70.setTop (mkF m 159 #[.val (.int p1), .val (.int p2), .val (.int p3), .val (.int k), .val (.int n), .unset, .unset] [(.ref f5)])) _
                  refine XS.astore X70.here hx rfl (hb hby at_159) rfl rfl (l' := #[.val (.int p1), .val (.int p2), .val (.int p3), .val (.int k), .val (.int n), .val (.ref f5), .unset]) rfl ?_
                  show Steps p.tables e below (T70.setTop (mkF m 161 #[.val (.int p1), .val (.int p2), .val (.int p3), .val (.int k), .val (.int n), .val (.ref f5), .unset] [])) _
                  refine XS.iload X70.here hx rfl (hb hby at_161) rfl ?_
                  show Steps p.tables e below (T70.setTop (mkF m 163 #[.val (.int p1), .val (.int p2), .val (.int p3), .val (.int k), .val (.int n), .val (.ref f5), .unset] [(.int n)])) _
                  refine XS.iconst X70.here hx rfl (hb hby at_163) ?_
                  exact q)
              by_cases hc164 : n < (1 : Int32)
              · have k73 : ∀ t, Steps p.tables e below (T70.setTop (mkF m 205 #[.val (.int p1), .val (.int p2), .val (.int p3), .val (.int k), .val (.int n), .val (.ref f5), .val (.int (0 : Int32))] [(.int n), (.ref f5)])) t → Steps p.tables e below (s₁.setTop (entryFrame m #[(.int p1), (.int p2), (.int p3)] maxLocals)) t := fun t q => k72 t (by
                    show Steps p.tables e below (T70.setTop (mkF m 164 #[.val (.int p1), .val (.int p2), .val (.int p3), .val (.int k), .val (.int n), .val (.ref f5), .unset] [(.int (1 : Int32)), (.int n)])) _
                    refine XS.icmpYes X70.here hx rfl (pc0 := 164) (pc' := 171) rfl (hb hby at_164) rfl (tlt (hc164 : n < (1 : Int32))).1 (by decide) (by decide) ?_
                    show Steps p.tables e below (T70.setTop (mkF m 171 #[.val (.int p1), .val (.int p2), .val (.int p3), .val (.int k), .val (.int n), .val (.ref f5), .unset] [])) _
                    refine XS.iconst X70.here hx rfl (hb hby at_171) ?_
                    show Steps p.tables e below (T70.setTop (mkF m 172 #[.val (.int p1), .val (.int p2), .val (.int p3), .val (.int k), .val (.int n), .val (.ref f5), .unset] [(.int (0 : Int32))])) _
                    refine XS.istore X70.here hx rfl (hb hby at_172) rfl (l' := #[.val (.int p1), .val (.int p2), .val (.int p3), .val (.int k), .val (.int n), .val (.ref f5), .val (.int (0 : Int32))]) rfl ?_
                    show Steps p.tables e below (T70.setTop (mkF m 174 #[.val (.int p1), .val (.int p2), .val (.int p3), .val (.int k), .val (.int n), .val (.ref f5), .val (.int (0 : Int32))] [])) _
                    refine XS.goto X70.here hx rfl (pc0 := 174) (pc' := 201) rfl (hb hby at_174) (by decide) (by decide) ?_
                    show Steps p.tables e below (T70.setTop (mkF m 201 #[.val (.int p1), .val (.int p2), .val (.int p3), .val (.int k), .val (.int n), .val (.ref f5), .val (.int (0 : Int32))] [])) _
                    refine XS.aload X70.here hx rfl (hb hby at_201) rfl rfl ?_
                    show Steps p.tables e below (T70.setTop (mkF m 203 #[.val (.int p1), .val (.int p2), .val (.int p3), .val (.int k), .val (.int n), .val (.ref f5), .val (.int (0 : Int32))] [(.ref f5)])) _
                    refine XS.iload X70.here hx rfl (hb hby at_203) rfl ?_
                    exact q)
                obtain ⟨cq74, kq74, q74a, q74b, q74c⟩ := isOf hZ e70 (E_f5)
                obtain ⟨_, _, ⟨T74, L74, kk74, nn74⟩, -, X74, ⟨Lc74, hQ74, l74, y74, z74⟩, st74⟩ := X70.virtualBack hx (y := (⟨"com/example/bouncer/bouncer/expression/Vocabulary$Function", "takes", "(I)Z"⟩ : MethodName)) (z := (⟨"com/example/bouncer/bouncer/expression/Vocabulary$Function", "takes", "(I)Z"⟩ : MethodName)) hown (mvT hZ (hw _ (List.mem_of_getElem? (i := 4) rfl))) (mvT hZ (hw _ (List.mem_of_getElem? (i := 5) rfl))) (notFace_of_selects (args := #[]) (mvT hZ (hw _ (List.mem_of_getElem? (i := 7) rfl)))) (mvT hZ (hw _ (List.mem_of_getElem? (i := 7) rfl))) (mvT hZ (hw _ (List.mem_of_getElem? (i := 6) rfl))) (by decide) (backOf (W := 0) (rm1 l Z a0 hw [] f5 n (1 : Int32) (2147483647 : Int32) (0 : Int32) h0 n0 Z0 L_f5 H_f5 (own_no (Or.inl hc164))) hZ (hw _ (List.mem_of_getElem? (i := 8) rfl)) (hw _ (List.mem_of_getElem? (i := 2) rfl)) (by decide) (by decide)) q74a q74c (g := (mkF m 205 #[.val (.int p1), .val (.int p2), .val (.int p3), .val (.int k), .val (.int n), .val (.ref f5), .val (.int (0 : Int32))] [(.int n), (.ref f5)])) rfl (by rw [hml]; rfl) (Steps.refl _) (argsL := [(.int n)]) (rest := []) (lenOf pd__I_Z rfl) rfl (by show 2 * 0 + _ ≤ _; exact Nat.le_of_eq rfl) (hb hby at_205) (fun _ _ => ⟨rfl, e70, (by decide : 0 + 0 ≤ _), (by decide : 0 + 0 ≤ _)⟩)
                dsimp only [Pt.U, Pt.locs, Pt.cells, Pt.slots] at X74 l74 y74 z74 st74 hQ74
                subst l74 y74 z74
                obtain ⟨rfl, N74q, e74⟩ := hQ74
                have N74 := Fr.app N0 N74q
                have k75 : ∀ t, Steps p.tables e below (T74.setTop (mkF m 208 #[.val (.int p1), .val (.int p2), .val (.int p3), .val (.int k), .val (.int n), .val (.ref f5), .val (.int (0 : Int32))] [(.int (0 : Int32))])) t → Steps p.tables e below (s₁.setTop (entryFrame m #[(.int p1), (.int p2), (.int p3)] maxLocals)) t := fun t q => k73 t (st74.trans q)
                have k76 : ∀ t, Steps p.tables e below (T74.setTop (mkF m 218 #[.val (.int p1), .val (.int p2), .val (.int p3), .val (.int k), .val (.int n), .val (.ref f5), .val (.int (0 : Int32))] [(.int (1 : Int32))])) t → Steps p.tables e below (s₁.setTop (entryFrame m #[(.int p1), (.int p2), (.int p3)] maxLocals)) t := fun t q => k75 t (by
                    show Steps p.tables e below (T74.setTop (mkF m 208 #[.val (.int p1), .val (.int p2), .val (.int p3), .val (.int k), .val (.int n), .val (.ref f5), .val (.int (0 : Int32))] [(.int (0 : Int32))])) _
                    refine XS.iload X74.here hx rfl (hb hby at_208) rfl ?_
                    show Steps p.tables e below (T74.setTop (mkF m 210 #[.val (.int p1), .val (.int p2), .val (.int p3), .val (.int k), .val (.int n), .val (.ref f5), .val (.int (0 : Int32))] [(.int (0 : Int32)), (.int (0 : Int32))])) _
                    refine XS.icmpNo X74.here hx rfl (hb hby at_210) rfl (teq (by decide : (0 : Int32) = (0 : Int32))).2 ?_
                    show Steps p.tables e below (T74.setTop (mkF m 213 #[.val (.int p1), .val (.int p2), .val (.int p3), .val (.int k), .val (.int n), .val (.ref f5), .val (.int (0 : Int32))] [])) _
                    refine XS.iconst X74.here hx rfl (hb hby at_213) ?_
                    show Steps p.tables e below (T74.setTop (mkF m 214 #[.val (.int p1), .val (.int p2), .val (.int p3), .val (.int k), .val (.int n), .val (.ref f5), .val (.int (0 : Int32))] [(.int (1 : Int32))])) _
                    refine XS.goto X74.here hx rfl (pc0 := 214) (pc' := 218) rfl (hb hby at_214) (by decide) (by decide) ?_
                    exact q)
                obtain ⟨fs, hr, hrun, hended, hW, hsame⟩ := X74.leave (v := some (.int (1 : Int32))) (fun h => by rw [Bd.returns] at h; cases h)
                refine ⟨_, _, k76 _ ?_, hrun, hended, _, _, rfl, ?_, ⟨_, rfl⟩, hW, hsame.mono (by decide) (by decide)⟩
                · exact retN X74 hx (t := .boolean) Bd.returns (by simp) (hb hby at_218) hr
                · show QL Z p1 p2 p3 f0 f1 f2 f3 f4 f5 f6 k n h0 n0 _ T74.heap _
                  exact ⟨rfl, N74⟩
              · have k77 : ∀ t, Steps p.tables e below (T70.setTop (mkF m 205 #[.val (.int p1), .val (.int p2), .val (.int p3), .val (.int k), .val (.int n), .val (.ref f5), .val (.int (1 : Int32))] [(.int n), (.ref f5)])) t → Steps p.tables e below (s₁.setTop (entryFrame m #[(.int p1), (.int p2), (.int p3)] maxLocals)) t := fun t q => k72 t (by
                    show Steps p.tables e below (T70.setTop (mkF m 164 #[.val (.int p1), .val (.int p2), .val (.int p3), .val (.int k), .val (.int n), .val (.ref f5), .unset] [(.int (1 : Int32)), (.int n)])) _
                    refine XS.icmpNo X70.here hx rfl (hb hby at_164) rfl (flt (hc164 : ¬ (n < (1 : Int32)))).1 ?_
                    show Steps p.tables e below (T70.setTop (mkF m 167 #[.val (.int p1), .val (.int p2), .val (.int p3), .val (.int k), .val (.int n), .val (.ref f5), .unset] [])) _
                    refine XS.iconst X70.here hx rfl (hb hby at_167) ?_
                    show Steps p.tables e below (T70.setTop (mkF m 168 #[.val (.int p1), .val (.int p2), .val (.int p3), .val (.int k), .val (.int n), .val (.ref f5), .unset] [(.int (1 : Int32))])) _
                    refine XS.goto X70.here hx rfl (pc0 := 168) (pc' := 172) rfl (hb hby at_168) (by decide) (by decide) ?_
                    show Steps p.tables e below (T70.setTop (mkF m 172 #[.val (.int p1), .val (.int p2), .val (.int p3), .val (.int k), .val (.int n), .val (.ref f5), .unset] [(.int (1 : Int32))])) _
                    refine XS.istore X70.here hx rfl (hb hby at_172) rfl (l' := #[.val (.int p1), .val (.int p2), .val (.int p3), .val (.int k), .val (.int n), .val (.ref f5), .val (.int (1 : Int32))]) rfl ?_
                    show Steps p.tables e below (T70.setTop (mkF m 174 #[.val (.int p1), .val (.int p2), .val (.int p3), .val (.int k), .val (.int n), .val (.ref f5), .val (.int (1 : Int32))] [])) _
                    refine XS.goto X70.here hx rfl (pc0 := 174) (pc' := 201) rfl (hb hby at_174) (by decide) (by decide) ?_
                    show Steps p.tables e below (T70.setTop (mkF m 201 #[.val (.int p1), .val (.int p2), .val (.int p3), .val (.int k), .val (.int n), .val (.ref f5), .val (.int (1 : Int32))] [])) _
                    refine XS.aload X70.here hx rfl (hb hby at_201) rfl rfl ?_
                    show Steps p.tables e below (T70.setTop (mkF m 203 #[.val (.int p1), .val (.int p2), .val (.int p3), .val (.int k), .val (.int n), .val (.ref f5), .val (.int (1 : Int32))] [(.ref f5)])) _
                    refine XS.iload X70.here hx rfl (hb hby at_203) rfl ?_
                    exact q)
                obtain ⟨cq78, kq78, q78a, q78b, q78c⟩ := isOf hZ e70 (E_f5)
                obtain ⟨_, _, ⟨T78, L78, kk78, nn78⟩, -, X78, ⟨Lc78, hQ78, l78, y78, z78⟩, st78⟩ := X70.virtualBack hx (y := (⟨"com/example/bouncer/bouncer/expression/Vocabulary$Function", "takes", "(I)Z"⟩ : MethodName)) (z := (⟨"com/example/bouncer/bouncer/expression/Vocabulary$Function", "takes", "(I)Z"⟩ : MethodName)) hown (mvT hZ (hw _ (List.mem_of_getElem? (i := 4) rfl))) (mvT hZ (hw _ (List.mem_of_getElem? (i := 5) rfl))) (notFace_of_selects (args := #[]) (mvT hZ (hw _ (List.mem_of_getElem? (i := 7) rfl)))) (mvT hZ (hw _ (List.mem_of_getElem? (i := 7) rfl))) (mvT hZ (hw _ (List.mem_of_getElem? (i := 6) rfl))) (by decide) (backOf (W := 0) (rm1 l Z a0 hw [] f5 n (1 : Int32) (2147483647 : Int32) (1 : Int32) h0 n0 Z0 L_f5 H_f5 (own_yes hc164 (own_top n))) hZ (hw _ (List.mem_of_getElem? (i := 8) rfl)) (hw _ (List.mem_of_getElem? (i := 2) rfl)) (by decide) (by decide)) q78a q78c (g := (mkF m 205 #[.val (.int p1), .val (.int p2), .val (.int p3), .val (.int k), .val (.int n), .val (.ref f5), .val (.int (1 : Int32))] [(.int n), (.ref f5)])) rfl (by rw [hml]; rfl) (Steps.refl _) (argsL := [(.int n)]) (rest := []) (lenOf pd__I_Z rfl) rfl (by show 2 * 0 + _ ≤ _; exact Nat.le_of_eq rfl) (hb hby at_205) (fun _ _ => ⟨rfl, e70, (by decide : 0 + 0 ≤ _), (by decide : 0 + 0 ≤ _)⟩)
                dsimp only [Pt.U, Pt.locs, Pt.cells, Pt.slots] at X78 l78 y78 z78 st78 hQ78
                subst l78 y78 z78
                obtain ⟨rfl, N78q, e78⟩ := hQ78
                have N78 := Fr.app N0 N78q
                have k79 : ∀ t, Steps p.tables e below (T78.setTop (mkF m 208 #[.val (.int p1), .val (.int p2), .val (.int p3), .val (.int k), .val (.int n), .val (.ref f5), .val (.int (1 : Int32))] [(.int (1 : Int32))])) t → Steps p.tables e below (s₁.setTop (entryFrame m #[(.int p1), (.int p2), (.int p3)] maxLocals)) t := fun t q => k77 t (st78.trans q)
                have k80 : ∀ t, Steps p.tables e below (T78.setTop (mkF m 218 #[.val (.int p1), .val (.int p2), .val (.int p3), .val (.int k), .val (.int n), .val (.ref f5), .val (.int (1 : Int32))] [(.int (1 : Int32))])) t → Steps p.tables e below (s₁.setTop (entryFrame m #[(.int p1), (.int p2), (.int p3)] maxLocals)) t := fun t q => k79 t (by
                    show Steps p.tables e below (T78.setTop (mkF m 208 #[.val (.int p1), .val (.int p2), .val (.int p3), .val (.int k), .val (.int n), .val (.ref f5), .val (.int (1 : Int32))] [(.int (1 : Int32))])) _
                    refine XS.iload X78.here hx rfl (hb hby at_208) rfl ?_
                    show Steps p.tables e below (T78.setTop (mkF m 210 #[.val (.int p1), .val (.int p2), .val (.int p3), .val (.int k), .val (.int n), .val (.ref f5), .val (.int (1 : Int32))] [(.int (1 : Int32)), (.int (1 : Int32))])) _
                    refine XS.icmpNo X78.here hx rfl (hb hby at_210) rfl (teq (by decide : (1 : Int32) = (1 : Int32))).2 ?_
                    show Steps p.tables e below (T78.setTop (mkF m 213 #[.val (.int p1), .val (.int p2), .val (.int p3), .val (.int k), .val (.int n), .val (.ref f5), .val (.int (1 : Int32))] [])) _
                    refine XS.iconst X78.here hx rfl (hb hby at_213) ?_
                    show Steps p.tables e below (T78.setTop (mkF m 214 #[.val (.int p1), .val (.int p2), .val (.int p3), .val (.int k), .val (.int n), .val (.ref f5), .val (.int (1 : Int32))] [(.int (1 : Int32))])) _
                    refine XS.goto X78.here hx rfl (pc0 := 214) (pc' := 218) rfl (hb hby at_214) (by decide) (by decide) ?_
                    exact q)
                obtain ⟨fs, hr, hrun, hended, hW, hsame⟩ := X78.leave (v := some (.int (1 : Int32))) (fun h => by rw [Bd.returns] at h; cases h)
                refine ⟨_, _, k80 _ ?_, hrun, hended, _, _, rfl, ?_, ⟨_, rfl⟩, hW, hsame.mono (by decide) (by decide)⟩
                · exact retN X78 hx (t := .boolean) Bd.returns (by simp) (hb hby at_218) hr
                · show QL Z p1 p2 p3 f0 f1 f2 f3 f4 f5 f6 k n h0 n0 _ T78.heap _
                  exact ⟨rfl, N78⟩
            · have k81 : ∀ t, Steps p.tables e below (T1.setTop (mkF m 177 #[.val (.int p1), .val (.int p2), .val (.int p3), .val (.int k), .val (.int n), .unset, .unset] [])) t → Steps p.tables e below (s₁.setTop (entryFrame m #[(.int p1), (.int p2), (.int p3)] maxLocals)) t := fun t q => k68 t (by
                  show Steps p.tables e below (T1.setTop (mkF m 153 #[.val (.int p1), .val (.int p2), .val (.int p3), .val (.int k), .val (.int n), .unset, .unset] [(.int (5 : Int32)), (.int k)])) _
                  refine XS.icmpYes X1.here hx rfl (pc0 := 153) (pc' := 177) rfl (hb hby at_153) rfl (feq (hc153 : ¬ (k = (5 : Int32)))).2 (by decide) (by decide) ?_
                  exact q)
              obtain ⟨T82, X82, e82, st82⟩ := getS2 X1 hx hZ hown (host := "") (Or.inl (hw _ (List.mem_of_getElem? (i := 23) rfl))) Via.refl e1 (S_HAS_PERMISSION) (g := (mkF m 177 #[.val (.int p1), .val (.int p2), .val (.int p3), .val (.int k), .val (.int n), .unset, .unset] [])) rfl (hb hby at_177)
              have k83 : ∀ t, Steps p.tables e below (T82.setTop (mkF m 180 #[.val (.int p1), .val (.int p2), .val (.int p3), .val (.int k), .val (.int n), .unset, .unset] [(.ref f6)])) t → Steps p.tables e below (s₁.setTop (entryFrame m #[(.int p1), (.int p2), (.int p3)] maxLocals)) t := fun t q => k81 t (st82 t q)
              have k84 : ∀ t, Steps p.tables e below (T82.setTop (mkF m 185 #[.val (.int p1), .val (.int p2), .val (.int p3), .val (.int k), .val (.int n), .val (.ref f6), .unset] [(.int (2 : Int32)), (.int n)])) t → Steps p.tables e below (s₁.setTop (entryFrame m #[(.int p1), (.int p2), (.int p3)] maxLocals)) t := fun t q => k83 t (by
                  show Steps p.tables e below (T82.setTop (mkF m 180 #[.val (.int p1), .val (.int p2), .val (.int p3), .val (.int k), .val (.int n), .unset, .unset] [(.ref f6)])) _
                  refine XS.astore X82.here hx rfl (hb hby at_180) rfl rfl (l' := #[.val (.int p1), .val (.int p2), .val (.int p3), .val (.int k), .val (.int n), .val (.ref f6), .unset]) rfl ?_
                  show Steps p.tables e below (T82.setTop (mkF m 182 #[.val (.int p1), .val (.int p2), .val (.int p3), .val (.int k), .val (.int n), .val (.ref f6), .unset] [])) _
                  refine XS.iload X82.here hx rfl (hb hby at_182) rfl ?_
                  show Steps p.tables e below (T82.setTop (mkF m 184 #[.val (.int p1), .val (.int p2), .val (.int p3), .val (.int k), .val (.int n), .val (.ref f6), .unset] [(.int n)])) _
                  refine XS.iconst X82.here hx rfl (hb hby at_184) ?_
                  exact q)
              by_cases hc185 : n = (2 : Int32)
              · have k85 : ∀ t, Steps p.tables e below (T82.setTop (mkF m 205 #[.val (.int p1), .val (.int p2), .val (.int p3), .val (.int k), .val (.int n), .val (.ref f6), .val (.int (1 : Int32))] [(.int n), (.ref f6)])) t → Steps p.tables e below (s₁.setTop (entryFrame m #[(.int p1), (.int p2), (.int p3)] maxLocals)) t := fun t q => k84 t (by
                    show Steps p.tables e below (T82.setTop (mkF m 185 #[.val (.int p1), .val (.int p2), .val (.int p3), .val (.int k), .val (.int n), .val (.ref f6), .unset] [(.int (2 : Int32)), (.int n)])) _
                    refine XS.icmpYes X82.here hx rfl (pc0 := 185) (pc' := 194) rfl (hb hby at_185) rfl (teq (hc185 : n = (2 : Int32))).1 (by decide) (by decide) ?_
                    show Steps p.tables e below (T82.setTop (mkF m 194 #[.val (.int p1), .val (.int p2), .val (.int p3), .val (.int k), .val (.int n), .val (.ref f6), .unset] [])) _
                    refine XS.iconst X82.here hx rfl (hb hby at_194) ?_
                    show Steps p.tables e below (T82.setTop (mkF m 195 #[.val (.int p1), .val (.int p2), .val (.int p3), .val (.int k), .val (.int n), .val (.ref f6), .unset] [(.int (1 : Int32))])) _
                    refine XS.goto X82.here hx rfl (pc0 := 195) (pc' := 199) rfl (hb hby at_195) (by decide) (by decide) ?_
                    show Steps p.tables e below (T82.setTop (mkF m 199 #[.val (.int p1), .val (.int p2), .val (.int p3), .val (.int k), .val (.int n), .val (.ref f6), .unset] [(.int (1 : Int32))])) _
                    refine XS.istore X82.here hx rfl (hb hby at_199) rfl (l' := #[.val (.int p1), .val (.int p2), .val (.int p3), .val (.int k), .val (.int n), .val (.ref f6), .val (.int (1 : Int32))]) rfl ?_
                    show Steps p.tables e below (T82.setTop (mkF m 201 #[.val (.int p1), .val (.int p2), .val (.int p3), .val (.int k), .val (.int n), .val (.ref f6), .val (.int (1 : Int32))] [])) _
                    refine XS.aload X82.here hx rfl (hb hby at_201) rfl rfl ?_
                    show Steps p.tables e below (T82.setTop (mkF m 203 #[.val (.int p1), .val (.int p2), .val (.int p3), .val (.int k), .val (.int n), .val (.ref f6), .val (.int (1 : Int32))] [(.ref f6)])) _
                    refine XS.iload X82.here hx rfl (hb hby at_203) rfl ?_
                    exact q)
                obtain ⟨cq86, kq86, q86a, q86b, q86c⟩ := isOf hZ e82 (E_f6)
                obtain ⟨_, _, ⟨T86, L86, kk86, nn86⟩, -, X86, ⟨Lc86, hQ86, l86, y86, z86⟩, st86⟩ := X82.virtualBack hx (y := (⟨"com/example/bouncer/bouncer/expression/Vocabulary$Function", "takes", "(I)Z"⟩ : MethodName)) (z := (⟨"com/example/bouncer/bouncer/expression/Vocabulary$Function", "takes", "(I)Z"⟩ : MethodName)) hown (mvT hZ (hw _ (List.mem_of_getElem? (i := 4) rfl))) (mvT hZ (hw _ (List.mem_of_getElem? (i := 5) rfl))) (notFace_of_selects (args := #[]) (mvT hZ (hw _ (List.mem_of_getElem? (i := 7) rfl)))) (mvT hZ (hw _ (List.mem_of_getElem? (i := 7) rfl))) (mvT hZ (hw _ (List.mem_of_getElem? (i := 6) rfl))) (by decide) (backOf (W := 0) (rm1 l Z a0 hw [] f6 n (2 : Int32) (3 : Int32) (1 : Int32) h0 n0 Z0 L_f6 H_f6 (own_yes (by rw [hc185]; decide) (by rw [hc185]; decide))) hZ (hw _ (List.mem_of_getElem? (i := 8) rfl)) (hw _ (List.mem_of_getElem? (i := 2) rfl)) (by decide) (by decide)) q86a q86c (g := (mkF m 205 #[.val (.int p1), .val (.int p2), .val (.int p3), .val (.int k), .val (.int n), .val (.ref f6), .val (.int (1 : Int32))] [(.int n), (.ref f6)])) rfl (by rw [hml]; rfl) (Steps.refl _) (argsL := [(.int n)]) (rest := []) (lenOf pd__I_Z rfl) rfl (by show 2 * 0 + _ ≤ _; exact Nat.le_of_eq rfl) (hb hby at_205) (fun _ _ => ⟨rfl, e82, (by decide : 0 + 0 ≤ _), (by decide : 0 + 0 ≤ _)⟩)
                dsimp only [Pt.U, Pt.locs, Pt.cells, Pt.slots] at X86 l86 y86 z86 st86 hQ86
                subst l86 y86 z86
                obtain ⟨rfl, N86q, e86⟩ := hQ86
                have N86 := Fr.app N0 N86q
                have k87 : ∀ t, Steps p.tables e below (T86.setTop (mkF m 208 #[.val (.int p1), .val (.int p2), .val (.int p3), .val (.int k), .val (.int n), .val (.ref f6), .val (.int (1 : Int32))] [(.int (1 : Int32))])) t → Steps p.tables e below (s₁.setTop (entryFrame m #[(.int p1), (.int p2), (.int p3)] maxLocals)) t := fun t q => k85 t (st86.trans q)
                have k88 : ∀ t, Steps p.tables e below (T86.setTop (mkF m 218 #[.val (.int p1), .val (.int p2), .val (.int p3), .val (.int k), .val (.int n), .val (.ref f6), .val (.int (1 : Int32))] [(.int (1 : Int32))])) t → Steps p.tables e below (s₁.setTop (entryFrame m #[(.int p1), (.int p2), (.int p3)] maxLocals)) t := fun t q => k87 t (by
                    show Steps p.tables e below (T86.setTop (mkF m 208 #[.val (.int p1), .val (.int p2), .val (.int p3), .val (.int k), .val (.int n), .val (.ref f6), .val (.int (1 : Int32))] [(.int (1 : Int32))])) _
                    refine XS.iload X86.here hx rfl (hb hby at_208) rfl ?_
                    show Steps p.tables e below (T86.setTop (mkF m 210 #[.val (.int p1), .val (.int p2), .val (.int p3), .val (.int k), .val (.int n), .val (.ref f6), .val (.int (1 : Int32))] [(.int (1 : Int32)), (.int (1 : Int32))])) _
                    refine XS.icmpNo X86.here hx rfl (hb hby at_210) rfl (teq (by decide : (1 : Int32) = (1 : Int32))).2 ?_
                    show Steps p.tables e below (T86.setTop (mkF m 213 #[.val (.int p1), .val (.int p2), .val (.int p3), .val (.int k), .val (.int n), .val (.ref f6), .val (.int (1 : Int32))] [])) _
                    refine XS.iconst X86.here hx rfl (hb hby at_213) ?_
                    show Steps p.tables e below (T86.setTop (mkF m 214 #[.val (.int p1), .val (.int p2), .val (.int p3), .val (.int k), .val (.int n), .val (.ref f6), .val (.int (1 : Int32))] [(.int (1 : Int32))])) _
                    refine XS.goto X86.here hx rfl (pc0 := 214) (pc' := 218) rfl (hb hby at_214) (by decide) (by decide) ?_
                    exact q)
                obtain ⟨fs, hr, hrun, hended, hW, hsame⟩ := X86.leave (v := some (.int (1 : Int32))) (fun h => by rw [Bd.returns] at h; cases h)
                refine ⟨_, _, k88 _ ?_, hrun, hended, _, _, rfl, ?_, ⟨_, rfl⟩, hW, hsame.mono (by decide) (by decide)⟩
                · exact retN X86 hx (t := .boolean) Bd.returns (by simp) (hb hby at_218) hr
                · show QL Z p1 p2 p3 f0 f1 f2 f3 f4 f5 f6 k n h0 n0 _ T86.heap _
                  exact ⟨rfl, N86⟩
              · have k89 : ∀ t, Steps p.tables e below (T82.setTop (mkF m 191 #[.val (.int p1), .val (.int p2), .val (.int p3), .val (.int k), .val (.int n), .val (.ref f6), .unset] [(.int (3 : Int32)), (.int n)])) t → Steps p.tables e below (s₁.setTop (entryFrame m #[(.int p1), (.int p2), (.int p3)] maxLocals)) t := fun t q => k84 t (by
                    show Steps p.tables e below (T82.setTop (mkF m 185 #[.val (.int p1), .val (.int p2), .val (.int p3), .val (.int k), .val (.int n), .val (.ref f6), .unset] [(.int (2 : Int32)), (.int n)])) _
                    refine XS.icmpNo X82.here hx rfl (hb hby at_185) rfl (feq (hc185 : ¬ (n = (2 : Int32)))).1 ?_
                    show Steps p.tables e below (T82.setTop (mkF m 188 #[.val (.int p1), .val (.int p2), .val (.int p3), .val (.int k), .val (.int n), .val (.ref f6), .unset] [])) _
                    refine XS.iload X82.here hx rfl (hb hby at_188) rfl ?_
                    show Steps p.tables e below (T82.setTop (mkF m 190 #[.val (.int p1), .val (.int p2), .val (.int p3), .val (.int k), .val (.int n), .val (.ref f6), .unset] [(.int n)])) _
                    refine XS.iconst X82.here hx rfl (hb hby at_190) ?_
                    exact q)
                by_cases hc191 : n = (3 : Int32)
                · have k90 : ∀ t, Steps p.tables e below (T82.setTop (mkF m 205 #[.val (.int p1), .val (.int p2), .val (.int p3), .val (.int k), .val (.int n), .val (.ref f6), .val (.int (1 : Int32))] [(.int n), (.ref f6)])) t → Steps p.tables e below (s₁.setTop (entryFrame m #[(.int p1), (.int p2), (.int p3)] maxLocals)) t := fun t q => k89 t (by
                      show Steps p.tables e below (T82.setTop (mkF m 191 #[.val (.int p1), .val (.int p2), .val (.int p3), .val (.int k), .val (.int n), .val (.ref f6), .unset] [(.int (3 : Int32)), (.int n)])) _
                      refine XS.icmpNo X82.here hx rfl (hb hby at_191) rfl (teq (hc191 : n = (3 : Int32))).2 ?_
                      show Steps p.tables e below (T82.setTop (mkF m 194 #[.val (.int p1), .val (.int p2), .val (.int p3), .val (.int k), .val (.int n), .val (.ref f6), .unset] [])) _
                      refine XS.iconst X82.here hx rfl (hb hby at_194) ?_
                      show Steps p.tables e below (T82.setTop (mkF m 195 #[.val (.int p1), .val (.int p2), .val (.int p3), .val (.int k), .val (.int n), .val (.ref f6), .unset] [(.int (1 : Int32))])) _
                      refine XS.goto X82.here hx rfl (pc0 := 195) (pc' := 199) rfl (hb hby at_195) (by decide) (by decide) ?_
                      show Steps p.tables e below (T82.setTop (mkF m 199 #[.val (.int p1), .val (.int p2), .val (.int p3), .val (.int k), .val (.int n), .val (.ref f6), .unset] [(.int (1 : Int32))])) _
                      refine XS.istore X82.here hx rfl (hb hby at_199) rfl (l' := #[.val (.int p1), .val (.int p2), .val (.int p3), .val (.int k), .val (.int n), .val (.ref f6), .val (.int (1 : Int32))]) rfl ?_
                      show Steps p.tables e below (T82.setTop (mkF m 201 #[.val (.int p1), .val (.int p2), .val (.int p3), .val (.int k), .val (.int n), .val (.ref f6), .val (.int (1 : Int32))] [])) _
                      refine XS.aload X82.here hx rfl (hb hby at_201) rfl rfl ?_
                      show Steps p.tables e below (T82.setTop (mkF m 203 #[.val (.int p1), .val (.int p2), .val (.int p3), .val (.int k), .val (.int n), .val (.ref f6), .val (.int (1 : Int32))] [(.ref f6)])) _
                      refine XS.iload X82.here hx rfl (hb hby at_203) rfl ?_
                      exact q)
                  obtain ⟨cq91, kq91, q91a, q91b, q91c⟩ := isOf hZ e82 (E_f6)
                  obtain ⟨_, _, ⟨T91, L91, kk91, nn91⟩, -, X91, ⟨Lc91, hQ91, l91, y91, z91⟩, st91⟩ := X82.virtualBack hx (y := (⟨"com/example/bouncer/bouncer/expression/Vocabulary$Function", "takes", "(I)Z"⟩ : MethodName)) (z := (⟨"com/example/bouncer/bouncer/expression/Vocabulary$Function", "takes", "(I)Z"⟩ : MethodName)) hown (mvT hZ (hw _ (List.mem_of_getElem? (i := 4) rfl))) (mvT hZ (hw _ (List.mem_of_getElem? (i := 5) rfl))) (notFace_of_selects (args := #[]) (mvT hZ (hw _ (List.mem_of_getElem? (i := 7) rfl)))) (mvT hZ (hw _ (List.mem_of_getElem? (i := 7) rfl))) (mvT hZ (hw _ (List.mem_of_getElem? (i := 6) rfl))) (by decide) (backOf (W := 0) (rm1 l Z a0 hw [] f6 n (2 : Int32) (3 : Int32) (1 : Int32) h0 n0 Z0 L_f6 H_f6 (own_yes (by rw [hc191]; decide) (by rw [hc191]; decide))) hZ (hw _ (List.mem_of_getElem? (i := 8) rfl)) (hw _ (List.mem_of_getElem? (i := 2) rfl)) (by decide) (by decide)) q91a q91c (g := (mkF m 205 #[.val (.int p1), .val (.int p2), .val (.int p3), .val (.int k), .val (.int n), .val (.ref f6), .val (.int (1 : Int32))] [(.int n), (.ref f6)])) rfl (by rw [hml]; rfl) (Steps.refl _) (argsL := [(.int n)]) (rest := []) (lenOf pd__I_Z rfl) rfl (by show 2 * 0 + _ ≤ _; exact Nat.le_of_eq rfl) (hb hby at_205) (fun _ _ => ⟨rfl, e82, (by decide : 0 + 0 ≤ _), (by decide : 0 + 0 ≤ _)⟩)
                  dsimp only [Pt.U, Pt.locs, Pt.cells, Pt.slots] at X91 l91 y91 z91 st91 hQ91
                  subst l91 y91 z91
                  obtain ⟨rfl, N91q, e91⟩ := hQ91
                  have N91 := Fr.app N0 N91q
                  have k92 : ∀ t, Steps p.tables e below (T91.setTop (mkF m 208 #[.val (.int p1), .val (.int p2), .val (.int p3), .val (.int k), .val (.int n), .val (.ref f6), .val (.int (1 : Int32))] [(.int (1 : Int32))])) t → Steps p.tables e below (s₁.setTop (entryFrame m #[(.int p1), (.int p2), (.int p3)] maxLocals)) t := fun t q => k90 t (st91.trans q)
                  have k93 : ∀ t, Steps p.tables e below (T91.setTop (mkF m 218 #[.val (.int p1), .val (.int p2), .val (.int p3), .val (.int k), .val (.int n), .val (.ref f6), .val (.int (1 : Int32))] [(.int (1 : Int32))])) t → Steps p.tables e below (s₁.setTop (entryFrame m #[(.int p1), (.int p2), (.int p3)] maxLocals)) t := fun t q => k92 t (by
                      show Steps p.tables e below (T91.setTop (mkF m 208 #[.val (.int p1), .val (.int p2), .val (.int p3), .val (.int k), .val (.int n), .val (.ref f6), .val (.int (1 : Int32))] [(.int (1 : Int32))])) _
                      refine XS.iload X91.here hx rfl (hb hby at_208) rfl ?_
                      show Steps p.tables e below (T91.setTop (mkF m 210 #[.val (.int p1), .val (.int p2), .val (.int p3), .val (.int k), .val (.int n), .val (.ref f6), .val (.int (1 : Int32))] [(.int (1 : Int32)), (.int (1 : Int32))])) _
                      refine XS.icmpNo X91.here hx rfl (hb hby at_210) rfl (teq (by decide : (1 : Int32) = (1 : Int32))).2 ?_
                      show Steps p.tables e below (T91.setTop (mkF m 213 #[.val (.int p1), .val (.int p2), .val (.int p3), .val (.int k), .val (.int n), .val (.ref f6), .val (.int (1 : Int32))] [])) _
                      refine XS.iconst X91.here hx rfl (hb hby at_213) ?_
                      show Steps p.tables e below (T91.setTop (mkF m 214 #[.val (.int p1), .val (.int p2), .val (.int p3), .val (.int k), .val (.int n), .val (.ref f6), .val (.int (1 : Int32))] [(.int (1 : Int32))])) _
                      refine XS.goto X91.here hx rfl (pc0 := 214) (pc' := 218) rfl (hb hby at_214) (by decide) (by decide) ?_
                      exact q)
                  obtain ⟨fs, hr, hrun, hended, hW, hsame⟩ := X91.leave (v := some (.int (1 : Int32))) (fun h => by rw [Bd.returns] at h; cases h)
                  refine ⟨_, _, k93 _ ?_, hrun, hended, _, _, rfl, ?_, ⟨_, rfl⟩, hW, hsame.mono (by decide) (by decide)⟩
                  · exact retN X91 hx (t := .boolean) Bd.returns (by simp) (hb hby at_218) hr
                  · show QL Z p1 p2 p3 f0 f1 f2 f3 f4 f5 f6 k n h0 n0 _ T91.heap _
                    exact ⟨rfl, N91⟩
                · have k94 : ∀ t, Steps p.tables e below (T82.setTop (mkF m 205 #[.val (.int p1), .val (.int p2), .val (.int p3), .val (.int k), .val (.int n), .val (.ref f6), .val (.int (0 : Int32))] [(.int n), (.ref f6)])) t → Steps p.tables e below (s₁.setTop (entryFrame m #[(.int p1), (.int p2), (.int p3)] maxLocals)) t := fun t q => k89 t (by
                      show Steps p.tables e below (T82.setTop (mkF m 191 #[.val (.int p1), .val (.int p2), .val (.int p3), .val (.int k), .val (.int n), .val (.ref f6), .unset] [(.int (3 : Int32)), (.int n)])) _
                      refine XS.icmpYes X82.here hx rfl (pc0 := 191) (pc' := 198) rfl (hb hby at_191) rfl (feq (hc191 : ¬ (n = (3 : Int32)))).2 (by decide) (by decide) ?_
                      show Steps p.tables e below (T82.setTop (mkF m 198 #[.val (.int p1), .val (.int p2), .val (.int p3), .val (.int k), .val (.int n), .val (.ref f6), .unset] [])) _
                      refine XS.iconst X82.here hx rfl (hb hby at_198) ?_
                      show Steps p.tables e below (T82.setTop (mkF m 199 #[.val (.int p1), .val (.int p2), .val (.int p3), .val (.int k), .val (.int n), .val (.ref f6), .unset] [(.int (0 : Int32))])) _
                      refine XS.istore X82.here hx rfl (hb hby at_199) rfl (l' := #[.val (.int p1), .val (.int p2), .val (.int p3), .val (.int k), .val (.int n), .val (.ref f6), .val (.int (0 : Int32))]) rfl ?_
                      show Steps p.tables e below (T82.setTop (mkF m 201 #[.val (.int p1), .val (.int p2), .val (.int p3), .val (.int k), .val (.int n), .val (.ref f6), .val (.int (0 : Int32))] [])) _
                      refine XS.aload X82.here hx rfl (hb hby at_201) rfl rfl ?_
                      show Steps p.tables e below (T82.setTop (mkF m 203 #[.val (.int p1), .val (.int p2), .val (.int p3), .val (.int k), .val (.int n), .val (.ref f6), .val (.int (0 : Int32))] [(.ref f6)])) _
                      refine XS.iload X82.here hx rfl (hb hby at_203) rfl ?_
                      exact q)
                  obtain ⟨cq95, kq95, q95a, q95b, q95c⟩ := isOf hZ e82 (E_f6)
                  obtain ⟨_, _, ⟨T95, L95, kk95, nn95⟩, -, X95, ⟨Lc95, hQ95, l95, y95, z95⟩, st95⟩ := X82.virtualBack hx (y := (⟨"com/example/bouncer/bouncer/expression/Vocabulary$Function", "takes", "(I)Z"⟩ : MethodName)) (z := (⟨"com/example/bouncer/bouncer/expression/Vocabulary$Function", "takes", "(I)Z"⟩ : MethodName)) hown (mvT hZ (hw _ (List.mem_of_getElem? (i := 4) rfl))) (mvT hZ (hw _ (List.mem_of_getElem? (i := 5) rfl))) (notFace_of_selects (args := #[]) (mvT hZ (hw _ (List.mem_of_getElem? (i := 7) rfl)))) (mvT hZ (hw _ (List.mem_of_getElem? (i := 7) rfl))) (mvT hZ (hw _ (List.mem_of_getElem? (i := 6) rfl))) (by decide) (backOf (W := 0) (rm1 l Z a0 hw [] f6 n (2 : Int32) (3 : Int32) (0 : Int32) h0 n0 Z0 L_f6 H_f6 (own_no (own_23 hc185 hc191))) hZ (hw _ (List.mem_of_getElem? (i := 8) rfl)) (hw _ (List.mem_of_getElem? (i := 2) rfl)) (by decide) (by decide)) q95a q95c (g := (mkF m 205 #[.val (.int p1), .val (.int p2), .val (.int p3), .val (.int k), .val (.int n), .val (.ref f6), .val (.int (0 : Int32))] [(.int n), (.ref f6)])) rfl (by rw [hml]; rfl) (Steps.refl _) (argsL := [(.int n)]) (rest := []) (lenOf pd__I_Z rfl) rfl (by show 2 * 0 + _ ≤ _; exact Nat.le_of_eq rfl) (hb hby at_205) (fun _ _ => ⟨rfl, e82, (by decide : 0 + 0 ≤ _), (by decide : 0 + 0 ≤ _)⟩)
                  dsimp only [Pt.U, Pt.locs, Pt.cells, Pt.slots] at X95 l95 y95 z95 st95 hQ95
                  subst l95 y95 z95
                  obtain ⟨rfl, N95q, e95⟩ := hQ95
                  have N95 := Fr.app N0 N95q
                  have k96 : ∀ t, Steps p.tables e below (T95.setTop (mkF m 208 #[.val (.int p1), .val (.int p2), .val (.int p3), .val (.int k), .val (.int n), .val (.ref f6), .val (.int (0 : Int32))] [(.int (0 : Int32))])) t → Steps p.tables e below (s₁.setTop (entryFrame m #[(.int p1), (.int p2), (.int p3)] maxLocals)) t := fun t q => k94 t (st95.trans q)
                  have k97 : ∀ t, Steps p.tables e below (T95.setTop (mkF m 218 #[.val (.int p1), .val (.int p2), .val (.int p3), .val (.int k), .val (.int n), .val (.ref f6), .val (.int (0 : Int32))] [(.int (1 : Int32))])) t → Steps p.tables e below (s₁.setTop (entryFrame m #[(.int p1), (.int p2), (.int p3)] maxLocals)) t := fun t q => k96 t (by
                      show Steps p.tables e below (T95.setTop (mkF m 208 #[.val (.int p1), .val (.int p2), .val (.int p3), .val (.int k), .val (.int n), .val (.ref f6), .val (.int (0 : Int32))] [(.int (0 : Int32))])) _
                      refine XS.iload X95.here hx rfl (hb hby at_208) rfl ?_
                      show Steps p.tables e below (T95.setTop (mkF m 210 #[.val (.int p1), .val (.int p2), .val (.int p3), .val (.int k), .val (.int n), .val (.ref f6), .val (.int (0 : Int32))] [(.int (0 : Int32)), (.int (0 : Int32))])) _
                      refine XS.icmpNo X95.here hx rfl (hb hby at_210) rfl (teq (by decide : (0 : Int32) = (0 : Int32))).2 ?_
                      show Steps p.tables e below (T95.setTop (mkF m 213 #[.val (.int p1), .val (.int p2), .val (.int p3), .val (.int k), .val (.int n), .val (.ref f6), .val (.int (0 : Int32))] [])) _
                      refine XS.iconst X95.here hx rfl (hb hby at_213) ?_
                      show Steps p.tables e below (T95.setTop (mkF m 214 #[.val (.int p1), .val (.int p2), .val (.int p3), .val (.int k), .val (.int n), .val (.ref f6), .val (.int (0 : Int32))] [(.int (1 : Int32))])) _
                      refine XS.goto X95.here hx rfl (pc0 := 214) (pc' := 218) rfl (hb hby at_214) (by decide) (by decide) ?_
                      exact q)
                  obtain ⟨fs, hr, hrun, hended, hW, hsame⟩ := X95.leave (v := some (.int (1 : Int32))) (fun h => by rw [Bd.returns] at h; cases h)
                  refine ⟨_, _, k97 _ ?_, hrun, hended, _, _, rfl, ?_, ⟨_, rfl⟩, hW, hsame.mono (by decide) (by decide)⟩
                  · exact retN X95 hx (t := .boolean) Bd.returns (by simp) (hb hby at_218) hr
                  · show QL Z p1 p2 p3 f0 f1 f2 f3 f4 f5 f6 k n h0 n0 _ T95.heap _
                    exact ⟨rfl, N95⟩
set_option maxRecDepth 65536 in
set_option maxHeartbeats 40000000 in
theorem comes_1 {Post : Tables → Env → Array Value → State → Outcome → State → Prop} (hpost : ∀ tb e args s v u, (limb_1_1.after args s (.returned v) u = true ∧ limb_1_2.after args s (.returned v) u = true ∧ True) → FrameEnd s (.returned v) u (Jvm.fieldLocs frame_1_writes args s ++ Jvm.arrayLocs frame_1_arrays args s ++ Jvm.staticLocs frame_1_statics s) 0 0 → Post tb e args s (.returned v) u) :
    ArmFor flags0 classFile x code maxLocals ret World_1 tables_1 room_1 Calls_1 rest_1 Pre_1 Post := by
  intro l hfl _ _ p e ha hc hk s m args below hf hA hF happ hP
  obtain ⟨hcalls, hrest, hpre⟩ := hP
  obtain ⟨-, -, -, hnamed, -, -, -, hat⟩ := (Spec.applies_iff hf).mp happ
  obtain ⟨hg, hn⟩ := and_e (Cond.before_iff.mp (show (Jvm.Cond.and given_1 narrow_1).before args s = true from hpre))
  obtain ⟨gc, gr⟩ := and_e hg
  obtain ⟨g0, gr⟩ := and_e gr
  obtain ⟨g1, gr⟩ := and_e gr
  obtain ⟨w0, w1, w2, rfl⟩ : ∃ w0 w1 w2 : Value, args = #[w0, w1, w2] := by
    have hs : args.size = 3 := by simpa [Cond.value, given_1] using gc
    obtain ⟨L⟩ := args
    match L, hs with
    | [w0, w1, w2], _ => exact ⟨w0, w1, w2, rfl⟩
  have hw := fun d (hd : d ∈ tables_1) => atoms_spec (ws := Jvm.Cond.code x code maxLocals ret :: tables_1) hat d (List.mem_cons_of_mem _ hd)
  have hfit : Fit s := fun {y c} hc i hi => by
    obtain ⟨ha, rfl⟩ := Array.getElem?_eq_some_iff.mp hc
    have q := List.all_eq_true.mp ((Array.all_eq_true_iff_forall_mem.mp hF) _ (Array.getElem_mem ha)) i (List.mem_range.mpr hi)
    simpa [Array.getElem?_eq_getElem hi] using q
  obtain ⟨i0, ei0⟩ := is_v g0
  obtain rfl : w0 = (.int i0) := Option.some.inj ei0
  obtain ⟨i1, ei1⟩ := is_v g1
  obtain rfl : w1 = (.int i1) := Option.some.inj ei1
  obtain ⟨i2, ei2⟩ := is_v gr
  obtain rfl : w2 = (.int i2) := Option.some.inj ei2
  obtain ⟨nq0, hn⟩ := and_e hn
  obtain ⟨nq1, hn⟩ := and_e hn
  obtain ⟨nq2, hn⟩ := and_e hn
  obtain ⟨nq3, hn⟩ := and_e hn
  obtain ⟨nq4, hn⟩ := and_e hn
  obtain ⟨nq5, hn⟩ := and_e hn
  obtain ⟨nq6, hn⟩ := and_e hn
  obtain ⟨nq7, hn⟩ := and_e hn
  obtain ⟨nq8, hn⟩ := and_e hn
  obtain ⟨nq9, hn⟩ := and_e hn
  obtain ⟨nq10, hn⟩ := and_e hn
  obtain ⟨nq11, hn⟩ := and_e hn
  obtain ⟨nq12, hn⟩ := and_e hn
  obtain ⟨nq13, hn⟩ := and_e hn
  obtain ⟨nq14, hn⟩ := and_e hn
  obtain ⟨nq15, hn⟩ := and_e hn
  obtain ⟨nq16, hn⟩ := and_e hn
  obtain ⟨nq17, hn⟩ := and_e hn
  obtain ⟨nq18, hn⟩ := and_e hn
  obtain ⟨nq19, hn⟩ := and_e hn
  have nq20 := hn
  obtain ⟨w_IS_AUTHENTICATED, ev_IS_AUTHENTICATED⟩ := exa_v nq0
  have E_IS_AUTHENTICATED : Exa s s.heap w_IS_AUTHENTICATED "com/example/bouncer/bouncer/expression/Vocabulary$Function" := Exa.start ev_IS_AUTHENTICATED nq0
  have S_IS_AUTHENTICATED : Sta s s.heap "com/example/bouncer/bouncer/expression/Vocabulary$Function" "IS_AUTHENTICATED" "Lcom/example/bouncer/bouncer/expression/Vocabulary$Function;" (.ref w_IS_AUTHENTICATED) := Sta.start ev_IS_AUTHENTICATED (Or.inr ⟨(hw _ (List.mem_of_getElem? (i := 2) rfl)), (hw _ (List.mem_of_getElem? (i := 3) rfl))⟩)
  obtain ⟨w_IS_ANONYMOUS, ev_IS_ANONYMOUS⟩ := exa_v nq3
  have E_IS_ANONYMOUS : Exa s s.heap w_IS_ANONYMOUS "com/example/bouncer/bouncer/expression/Vocabulary$Function" := Exa.start ev_IS_ANONYMOUS nq3
  have S_IS_ANONYMOUS : Sta s s.heap "com/example/bouncer/bouncer/expression/Vocabulary$Function" "IS_ANONYMOUS" "Lcom/example/bouncer/bouncer/expression/Vocabulary$Function;" (.ref w_IS_ANONYMOUS) := Sta.start ev_IS_ANONYMOUS (Or.inr ⟨(hw _ (List.mem_of_getElem? (i := 2) rfl)), (hw _ (List.mem_of_getElem? (i := 14) rfl))⟩)
  obtain ⟨w_HAS_ANY_AUTHORITY, ev_HAS_ANY_AUTHORITY⟩ := exa_v nq6
  have E_HAS_ANY_AUTHORITY : Exa s s.heap w_HAS_ANY_AUTHORITY "com/example/bouncer/bouncer/expression/Vocabulary$Function" := Exa.start ev_HAS_ANY_AUTHORITY nq6
  have S_HAS_ANY_AUTHORITY : Sta s s.heap "com/example/bouncer/bouncer/expression/Vocabulary$Function" "HAS_ANY_AUTHORITY" "Lcom/example/bouncer/bouncer/expression/Vocabulary$Function;" (.ref w_HAS_ANY_AUTHORITY) := Sta.start ev_HAS_ANY_AUTHORITY (Or.inr ⟨(hw _ (List.mem_of_getElem? (i := 2) rfl)), (hw _ (List.mem_of_getElem? (i := 16) rfl))⟩)
  obtain ⟨w_HAS_ANY_ROLE, ev_HAS_ANY_ROLE⟩ := exa_v nq9
  have E_HAS_ANY_ROLE : Exa s s.heap w_HAS_ANY_ROLE "com/example/bouncer/bouncer/expression/Vocabulary$Function" := Exa.start ev_HAS_ANY_ROLE nq9
  have S_HAS_ANY_ROLE : Sta s s.heap "com/example/bouncer/bouncer/expression/Vocabulary$Function" "HAS_ANY_ROLE" "Lcom/example/bouncer/bouncer/expression/Vocabulary$Function;" (.ref w_HAS_ANY_ROLE) := Sta.start ev_HAS_ANY_ROLE (Or.inr ⟨(hw _ (List.mem_of_getElem? (i := 2) rfl)), (hw _ (List.mem_of_getElem? (i := 18) rfl))⟩)
  obtain ⟨w_HAS_AUTHORITY, ev_HAS_AUTHORITY⟩ := exa_v nq11
  have E_HAS_AUTHORITY : Exa s s.heap w_HAS_AUTHORITY "com/example/bouncer/bouncer/expression/Vocabulary$Function" := Exa.start ev_HAS_AUTHORITY nq11
  have S_HAS_AUTHORITY : Sta s s.heap "com/example/bouncer/bouncer/expression/Vocabulary$Function" "HAS_AUTHORITY" "Lcom/example/bouncer/bouncer/expression/Vocabulary$Function;" (.ref w_HAS_AUTHORITY) := Sta.start ev_HAS_AUTHORITY (Or.inr ⟨(hw _ (List.mem_of_getElem? (i := 2) rfl)), (hw _ (List.mem_of_getElem? (i := 20) rfl))⟩)
  obtain ⟨w_HAS_ROLE, ev_HAS_ROLE⟩ := exa_v nq14
  have E_HAS_ROLE : Exa s s.heap w_HAS_ROLE "com/example/bouncer/bouncer/expression/Vocabulary$Function" := Exa.start ev_HAS_ROLE nq14
  have S_HAS_ROLE : Sta s s.heap "com/example/bouncer/bouncer/expression/Vocabulary$Function" "HAS_ROLE" "Lcom/example/bouncer/bouncer/expression/Vocabulary$Function;" (.ref w_HAS_ROLE) := Sta.start ev_HAS_ROLE (Or.inr ⟨(hw _ (List.mem_of_getElem? (i := 2) rfl)), (hw _ (List.mem_of_getElem? (i := 22) rfl))⟩)
  obtain ⟨w_HAS_PERMISSION, ev_HAS_PERMISSION⟩ := exa_v nq16
  have E_HAS_PERMISSION : Exa s s.heap w_HAS_PERMISSION "com/example/bouncer/bouncer/expression/Vocabulary$Function" := Exa.start ev_HAS_PERMISSION nq16
  have S_HAS_PERMISSION : Sta s s.heap "com/example/bouncer/bouncer/expression/Vocabulary$Function" "HAS_PERMISSION" "Lcom/example/bouncer/bouncer/expression/Vocabulary$Function;" (.ref w_HAS_PERMISSION) := Sta.start ev_HAS_PERMISSION (Or.inr ⟨(hw _ (List.mem_of_getElem? (i := 2) rfl)), (hw _ (List.mem_of_getElem? (i := 24) rfl))⟩)
  have F_IS_AUTHENTICATED_fewest : Fld s s.heap w_IS_AUTHENTICATED "com/example/bouncer/bouncer/expression/Vocabulary$Function" "fewest" "I" (.int (0 : Int32)) := own_fldI ev_IS_AUTHENTICATED nq1
  have F_IS_AUTHENTICATED_most : Fld s s.heap w_IS_AUTHENTICATED "com/example/bouncer/bouncer/expression/Vocabulary$Function" "most" "I" (.int (0 : Int32)) := own_fldI ev_IS_AUTHENTICATED nq2
  have F_IS_ANONYMOUS_fewest : Fld s s.heap w_IS_ANONYMOUS "com/example/bouncer/bouncer/expression/Vocabulary$Function" "fewest" "I" (.int (0 : Int32)) := own_fldI ev_IS_ANONYMOUS nq4
  have F_IS_ANONYMOUS_most : Fld s s.heap w_IS_ANONYMOUS "com/example/bouncer/bouncer/expression/Vocabulary$Function" "most" "I" (.int (0 : Int32)) := own_fldI ev_IS_ANONYMOUS nq5
  have F_HAS_ANY_AUTHORITY_fewest : Fld s s.heap w_HAS_ANY_AUTHORITY "com/example/bouncer/bouncer/expression/Vocabulary$Function" "fewest" "I" (.int (1 : Int32)) := own_fldI ev_HAS_ANY_AUTHORITY nq7
  have F_HAS_ANY_AUTHORITY_most : Fld s s.heap w_HAS_ANY_AUTHORITY "com/example/bouncer/bouncer/expression/Vocabulary$Function" "most" "I" (.int (2147483647 : Int32)) := own_fldI ev_HAS_ANY_AUTHORITY nq8
  have F_HAS_ANY_ROLE_fewest : Fld s s.heap w_HAS_ANY_ROLE "com/example/bouncer/bouncer/expression/Vocabulary$Function" "fewest" "I" (.int (1 : Int32)) := own_fldI ev_HAS_ANY_ROLE nq10
  have F_HAS_AUTHORITY_fewest : Fld s s.heap w_HAS_AUTHORITY "com/example/bouncer/bouncer/expression/Vocabulary$Function" "fewest" "I" (.int (1 : Int32)) := own_fldI ev_HAS_AUTHORITY nq12
  have F_HAS_AUTHORITY_most : Fld s s.heap w_HAS_AUTHORITY "com/example/bouncer/bouncer/expression/Vocabulary$Function" "most" "I" (.int (1 : Int32)) := own_fldI ev_HAS_AUTHORITY nq13
  have F_HAS_ROLE_fewest : Fld s s.heap w_HAS_ROLE "com/example/bouncer/bouncer/expression/Vocabulary$Function" "fewest" "I" (.int (1 : Int32)) := own_fldI ev_HAS_ROLE nq15
  have F_HAS_PERMISSION_fewest : Fld s s.heap w_HAS_PERMISSION "com/example/bouncer/bouncer/expression/Vocabulary$Function" "fewest" "I" (.int (2 : Int32)) := own_fldI ev_HAS_PERMISSION nq17
  have F_HAS_PERMISSION_most : Fld s s.heap w_HAS_PERMISSION "com/example/bouncer/bouncer/expression/Vocabulary$Function" "most" "I" (.int (3 : Int32)) := own_fldI ev_HAS_PERMISSION nq18
  have F_HAS_ANY_ROLE_most : Fld s s.heap w_HAS_ANY_ROLE "com/example/bouncer/bouncer/expression/Vocabulary$Function" "most" "I" (.int (2147483647 : Int32)) := own_fldI ev_HAS_ANY_ROLE nq19
  have F_HAS_ROLE_most : Fld s s.heap w_HAS_ROLE "com/example/bouncer/bouncer/expression/Vocabulary$Function" "most" "I" (.int (1 : Int32)) := own_fldI ev_HAS_ROLE nq20
  obtain ⟨n, o, h1, h2, h3, _, L, rfl, ⟨rfl, N⟩, hq⟩ := rmL l s _ hw tables_1 i0 i1 i2 w_IS_AUTHENTICATED w_IS_ANONYMOUS w_HAS_AUTHORITY w_HAS_ANY_AUTHORITY w_HAS_ROLE w_HAS_ANY_ROLE w_HAS_PERMISSION _ _ s.heap s.heap.size (Nat.le_refl _) S_IS_AUTHENTICATED E_IS_AUTHENTICATED F_IS_AUTHENTICATED_fewest F_IS_AUTHENTICATED_most S_IS_ANONYMOUS E_IS_ANONYMOUS F_IS_ANONYMOUS_fewest F_IS_ANONYMOUS_most S_HAS_AUTHORITY E_HAS_AUTHORITY F_HAS_AUTHORITY_fewest F_HAS_AUTHORITY_most S_HAS_ANY_AUTHORITY E_HAS_ANY_AUTHORITY F_HAS_ANY_AUTHORITY_fewest F_HAS_ANY_AUTHORITY_most S_HAS_ROLE E_HAS_ROLE F_HAS_ROLE_fewest F_HAS_ROLE_most S_HAS_ANY_ROLE E_HAS_ANY_ROLE F_HAS_ANY_ROLE_fewest F_HAS_ANY_ROLE_most S_HAS_PERMISSION E_HAS_PERMISSION F_HAS_PERMISSION_fewest F_HAS_PERMISSION_most rfl rfl p e ha hc hk s m _ below hf ((Spec.applies_iff_loose hf).mp happ).1 ⟨rfl, State.Warmed39.refl s, rfl⟩ trivial
  refine ⟨n, _, h1, h2, h3, hpost _ _ _ _ _ _ ⟨Cond.after_iff.mpr rfl, Cond.after_iff.mpr (eq_i res_at (Term.int_eval (1)) rfl), trivial⟩ ⟨hq.1, hq.2.1, (hq.2.2.sift fun y hy => Or.inr (N y hy)).mono (by decide) (by decide)⟩⟩
theorem main_1_1 : Claimed_1_1 := comes_1 fun _ _ _ _ _ _ h hF => ⟨h.1, hF⟩
theorem main_1_2 : Claimed_1_2 := comes_1 fun _ _ _ _ _ _ h hF => ⟨h.2.1, hF⟩
end Jvm.Pilot.@@N@@
namespace Jvm.Pilot.@@N@@
open Jvm Jvm.ClassFile Sem Op Lib Jvm.Free Jvm.Stand Jvm.Pilot.@@N@@.Jvm.D
/-! MADE BY PROGRAM (witnessworld.py) out of the Statement's table words and the real class files: 10 classes; the members and pool entries that the words name. The judged class is class 1, her method 1. -/
namespace start1
open Jvm.ClassFile
def u (s : String) : CpInfo := .utf8 (stringToUtf16 s)
/-- a pool by its gaps: so many unusable entries, then the entry; so many at the end -/
def gap : Nat → List CpInfo → List CpInfo
  | 0, r => r
  | n + 1, r => .unusable :: gap n r
def poolList (es : List (Nat × CpInfo)) (last : Nat) : List CpInfo := es.foldr (fun e r => gap e.1 (e.2 :: r)) (gap last [])
def pool (es : List (Nat × CpInfo)) (last : Nat) : Array CpInfo := ⟨poolList es last⟩
def fileOf (pool : Array CpInfo) (this : Nat) (attrs : Array Attribute := #[]) (ms : Array MethodInfo := #[]) (fl : Nat := 33) (sup : Nat := 0) (ifs : Array Nat := #[]) (fds : Array FieldInfo := #[]) : ClassFile where
  minorVersion := 0
  majorVersion := 65
  constantPool := pool
  accessFlags := fl
  thisClass := this
  superClass := sup
  interfaces := ifs
  fields := fds
  methods := ms
  attributes := attrs
def plain (name : String) (sup : Option ClassId) : Class where
  name := name
  kind := .ordinary
  loader := none
  accessFlags := 33
  super := sup
  interfaces := #[]
  cf := none
  fields := #[]
  methods := #[]
  instanceTypes := #[]
  staticTypes := #[]
  resolved := #[]
  callSites := []
  init := .initialized
  statics := none
  mirror := none

def pool0 : Array CpInfo := pool [(5, u "<init>"), (0, u "()V"), (1, .class_ 10), (1, u "java/lang/Object")] 113

def k0m0 : Method := { name := "<init>", desc := "()V", sig := { parameters := [], returnType := none }, accessFlags := 1, code := none }
/-- java/lang/Object -/
def k0 : Class := { plain "java/lang/Object" none with
  accessFlags := 33
  interfaces := #[]
  cf := some (fileOf pool0 8 #[] #[{ accessFlags := 1, nameIndex := 5, descriptorIndex := 6, attributes := #[] }] 33 0 #[] #[])
  fields := #[]
  methods := #[k0m0]
  instanceTypes := #[]
  staticTypes := #[]
  resolved := Array.replicate 124 none
  statics := none }

def pool1 : Array CpInfo := pool [(2, .class_ 4), (1, u "java/lang/Object"), (0, u "<init>"), (0, u "()V"), (0, .integer 2147483647), (0, .fieldref 9 10), (0, .class_ 11), (0, .nameAndType 12 13), (0, u "com/example/bouncer/bouncer/expression/Vocabulary$Function"), (0, u "IS_AUTHENTICATED"), (0, u "Lcom/example/bouncer/bouncer/expression/Vocabulary$Function;"), (0, .fieldref 9 15), (0, .nameAndType 16 13), (0, u "IS_ANONYMOUS"), (0, .fieldref 9 18), (0, .nameAndType 19 13), (0, u "HAS_AUTHORITY"), (0, .fieldref 9 21), (0, .nameAndType 22 13), (0, u "HAS_ANY_AUTHORITY"), (0, .fieldref 9 24), (0, .nameAndType 25 13), (0, u "HAS_ROLE"), (0, .fieldref 9 27), (0, .nameAndType 28 13), (0, u "HAS_ANY_ROLE"), (0, .fieldref 9 30), (0, .nameAndType 31 13), (0, u "HAS_PERMISSION"), (0, .methodref 9 33), (0, .nameAndType 34 35), (0, u "takes"), (0, u "(I)Z"), (0, .class_ 37), (0, u "com/example/bouncer/bouncer/expression/FunctionTakesPinLaw"), (2, u "law"), (0, u "(III)Z")] 7

def k1m0 : Method := { name := "<init>", desc := "()V", sig := { parameters := [], returnType := none }, accessFlags := 2, code := none }
def k1c1 : Code := { maxStack := 2, maxLocals := 7, code := code, exceptionTable := #[], attributes := #[] }
def k1m1 : Method := { name := "law", desc := "(III)Z", sig := { parameters := [.int, .int, .int], returnType := some .boolean }, accessFlags := 9, code := some k1c1 }
/-- com/example/bouncer/bouncer/expression/FunctionTakesPinLaw -/
def k1 : Class := { plain "com/example/bouncer/bouncer/expression/FunctionTakesPinLaw" (some 0) with
  accessFlags := 49
  interfaces := #[]
  cf := some (fileOf pool1 36 #[] #[{ accessFlags := 2, nameIndex := 5, descriptorIndex := 6, attributes := #[] }, { accessFlags := 9, nameIndex := 40, descriptorIndex := 41, attributes := #[] }] 49 2 #[] #[])
  fields := #[]
  methods := #[k1m0, k1m1]
  instanceTypes := #[]
  staticTypes := #[]
  resolved := Array.replicate 49 none
  statics := none }

def pool2 : Array CpInfo := pool [(1, .class_ 2), (0, u "java/lang/constant/Constable"), (0, .class_ 4), (0, u "java/lang/Object")] 6

/-- java/lang/constant/Constable -/
def k2 : Class := { plain "java/lang/constant/Constable" (some 0) with
  accessFlags := 1537
  interfaces := #[]
  cf := some (fileOf pool2 1 #[] #[] 1537 3 #[] #[])
  fields := #[]
  methods := #[]
  instanceTypes := #[]
  staticTypes := #[]
  resolved := Array.replicate 11 none
  statics := none }

def pool3 : Array CpInfo := pool [(1, .class_ 2), (0, u "java/lang/Comparable"), (0, .class_ 4), (0, u "java/lang/Object")] 7

/-- java/lang/Comparable -/
def k3 : Class := { plain "java/lang/Comparable" (some 0) with
  accessFlags := 1537
  interfaces := #[]
  cf := some (fileOf pool3 1 #[] #[] 1537 3 #[] #[])
  fields := #[]
  methods := #[]
  instanceTypes := #[]
  staticTypes := #[]
  resolved := Array.replicate 12 none
  statics := none }

def pool4 : Array CpInfo := pool [(1, .class_ 2), (0, u "java/io/Serializable"), (0, .class_ 4), (0, u "java/lang/Object")] 2

/-- java/io/Serializable -/
def k4 : Class := { plain "java/io/Serializable" (some 0) with
  accessFlags := 1537
  interfaces := #[]
  cf := some (fileOf pool4 1 #[] #[] 1537 3 #[] #[])
  fields := #[]
  methods := #[]
  instanceTypes := #[]
  staticTypes := #[]
  resolved := Array.replicate 7 none
  statics := none }

def pool5 : Array CpInfo := pool [(2, .class_ 4), (1, u "java/lang/Enum"), (0, u "name"), (0, u "Ljava/lang/String;"), (2, u "ordinal"), (0, u "I"), (1, .class_ 14), (1, u "java/lang/Object"), (4, u "hash"), (86, .class_ 108), (1, u "java/lang/Enum$EnumDesc"), (2, .class_ 112), (0, u "java/lang/constant/Constable"), (0, .class_ 114), (0, u "java/lang/Comparable"), (0, .class_ 116), (0, u "java/io/Serializable")] 87

/-- java/lang/Enum -/
def k5 : Class := { plain "java/lang/Enum" (some 0) with
  accessFlags := 1057
  interfaces := #[2, 3, 4]
  cf := some (fileOf pool5 2 #[.nestMembers #[106]] #[] 1057 12 #[111, 113, 115] #[{ accessFlags := 18, nameIndex := 5, descriptorIndex := 6, attributes := #[] }, { accessFlags := 18, nameIndex := 9, descriptorIndex := 10, attributes := #[] }, { accessFlags := 2, nameIndex := 19, descriptorIndex := 10, attributes := #[] }])
  fields := #[{ name := "name", type := (.object "java/lang/String"), accessFlags := 18, slot := 0, constantValue := 0 }, { name := "ordinal", type := .int, accessFlags := 18, slot := 1, constantValue := 0 }, { name := "hash", type := .int, accessFlags := 2, slot := 2, constantValue := 0 }]
  methods := #[]
  instanceTypes := #[(.object "java/lang/String"), .int, .int]
  staticTypes := #[]
  resolved := Array.replicate 204 none
  statics := none }

def pool6 : Array CpInfo := pool [(1, .class_ 2), (0, u "com/example/bouncer/bouncer/expression/Vocabulary$Function"), (2, u "IS_AUTHENTICATED"), (0, u "Lcom/example/bouncer/bouncer/expression/Vocabulary$Function;"), (2, u "IS_ANONYMOUS"), (2, u "HAS_AUTHORITY"), (2, u "HAS_ANY_AUTHORITY"), (2, u "HAS_ROLE"), (2, u "HAS_ANY_ROLE"), (2, u "HAS_PERMISSION"), (2, u "$VALUES"), (0, u "[Lcom/example/bouncer/bouncer/expression/Vocabulary$Function;"), (6, .class_ 37), (1, u "java/lang/Enum"), (8, u "word"), (0, u "Ljava/lang/String;"), (0, .fieldref 1 49), (0, .nameAndType 50 51), (0, u "fewest"), (0, u "I"), (0, .fieldref 1 53), (0, .nameAndType 54 51), (0, u "most"), (6, u "argumentOf"), (160, u "takes"), (0, u "(I)Z"), (13, .class_ 238), (0, u "com/example/bouncer/bouncer/expression/Vocabulary")] 42

def k6c0 : Code := { maxStack := 2, maxLocals := 2, code := prog_57_method_8_code, exceptionTable := #[], attributes := #[] }
def k6m0 : Method := { name := "takes", desc := "(I)Z", sig := { parameters := [.int], returnType := some .boolean }, accessFlags := 0, code := some k6c0 }
/-- com/example/bouncer/bouncer/expression/Vocabulary$Function -/
def k6 : Class := { plain "com/example/bouncer/bouncer/expression/Vocabulary$Function" (some 5) with
  accessFlags := 16432
  interfaces := #[]
  cf := some (fileOf pool6 1 #[.nestHost 237] #[{ accessFlags := 0, nameIndex := 222, descriptorIndex := 223, attributes := #[] }] 16432 35 #[] #[{ accessFlags := 16409, nameIndex := 5, descriptorIndex := 6, attributes := #[] }, { accessFlags := 16409, nameIndex := 9, descriptorIndex := 6, attributes := #[] }, { accessFlags := 16409, nameIndex := 12, descriptorIndex := 6, attributes := #[] }, { accessFlags := 16409, nameIndex := 15, descriptorIndex := 6, attributes := #[] }, { accessFlags := 16409, nameIndex := 18, descriptorIndex := 6, attributes := #[] }, { accessFlags := 16409, nameIndex := 21, descriptorIndex := 6, attributes := #[] }, { accessFlags := 16409, nameIndex := 24, descriptorIndex := 6, attributes := #[] }, { accessFlags := 18, nameIndex := 46, descriptorIndex := 47, attributes := #[] }, { accessFlags := 18, nameIndex := 50, descriptorIndex := 51, attributes := #[] }, { accessFlags := 18, nameIndex := 54, descriptorIndex := 51, attributes := #[] }, { accessFlags := 18, nameIndex := 61, descriptorIndex := 47, attributes := #[] }, { accessFlags := 4122, nameIndex := 27, descriptorIndex := 28, attributes := #[] }])
  fields := #[{ name := "IS_AUTHENTICATED", type := (.object "com/example/bouncer/bouncer/expression/Vocabulary$Function"), accessFlags := 16409, slot := 0, constantValue := 0 }, { name := "IS_ANONYMOUS", type := (.object "com/example/bouncer/bouncer/expression/Vocabulary$Function"), accessFlags := 16409, slot := 1, constantValue := 0 }, { name := "HAS_AUTHORITY", type := (.object "com/example/bouncer/bouncer/expression/Vocabulary$Function"), accessFlags := 16409, slot := 2, constantValue := 0 }, { name := "HAS_ANY_AUTHORITY", type := (.object "com/example/bouncer/bouncer/expression/Vocabulary$Function"), accessFlags := 16409, slot := 3, constantValue := 0 }, { name := "HAS_ROLE", type := (.object "com/example/bouncer/bouncer/expression/Vocabulary$Function"), accessFlags := 16409, slot := 4, constantValue := 0 }, { name := "HAS_ANY_ROLE", type := (.object "com/example/bouncer/bouncer/expression/Vocabulary$Function"), accessFlags := 16409, slot := 5, constantValue := 0 }, { name := "HAS_PERMISSION", type := (.object "com/example/bouncer/bouncer/expression/Vocabulary$Function"), accessFlags := 16409, slot := 6, constantValue := 0 }, { name := "word", type := (.object "java/lang/String"), accessFlags := 18, slot := 3, constantValue := 0 }, { name := "fewest", type := .int, accessFlags := 18, slot := 4, constantValue := 0 }, { name := "most", type := .int, accessFlags := 18, slot := 5, constantValue := 0 }, { name := "argumentOf", type := (.object "java/lang/String"), accessFlags := 18, slot := 6, constantValue := 0 }, { name := "$VALUES", type := (.array (.object "com/example/bouncer/bouncer/expression/Vocabulary$Function")), accessFlags := 4122, slot := 7, constantValue := 0 }]
  methods := #[k6m0]
  instanceTypes := #[(.object "java/lang/String"), .int, .int, (.object "java/lang/String"), .int, .int, (.object "java/lang/String")]
  staticTypes := #[(.object "com/example/bouncer/bouncer/expression/Vocabulary$Function"), (.object "com/example/bouncer/bouncer/expression/Vocabulary$Function"), (.object "com/example/bouncer/bouncer/expression/Vocabulary$Function"), (.object "com/example/bouncer/bouncer/expression/Vocabulary$Function"), (.object "com/example/bouncer/bouncer/expression/Vocabulary$Function"), (.object "com/example/bouncer/bouncer/expression/Vocabulary$Function"), (.object "com/example/bouncer/bouncer/expression/Vocabulary$Function"), (.array (.object "com/example/bouncer/bouncer/expression/Vocabulary$Function"))]
  resolved := Array.replicate 281 none
  statics := some 0 }

def pool7 : Array CpInfo := pool [(1, u "java/lang/Cloneable"), (0, .class_ 1), (0, u "java/lang/Object"), (0, .class_ 3)] 3

/-- java/lang/Cloneable -/
def k7 : Class := { plain "java/lang/Cloneable" (some 0) with
  accessFlags := 1537
  interfaces := #[]
  cf := some (fileOf pool7 2 #[] #[] 1537 4 #[] #[])
  fields := #[]
  methods := #[]
  instanceTypes := #[]
  staticTypes := #[]
  resolved := Array.replicate 8 none
  statics := none }

/-- the primitive byte -/
def k8 : Class := { plain "byte" none with kind := .primitive 'B', accessFlags := 0x411 }
/-- [B -/
def k9 : Class := { plain "[B" (some 0) with kind := .array 8 .byte, interfaces := #[7, 4], accessFlags := 1041 }

def heap : Heap := #[{ cls := 6, slots := #[.ref 1, .ref 2, .ref 3, .ref 4, .ref 5, .ref 6, .ref 7, .null], vm := .statics 6 },
  { cls := 6, slots := #[.null, .int 0, .int 0, .null, .int 0, .int 0, .null], vm := .none },
  { cls := 6, slots := #[.null, .int 1, .int 0, .null, .int 0, .int 0, .null], vm := .none },
  { cls := 6, slots := #[.null, .int 2, .int 0, .null, .int 1, .int 1, .null], vm := .none },
  { cls := 6, slots := #[.null, .int 3, .int 0, .null, .int 1, .int 2147483647, .null], vm := .none },
  { cls := 6, slots := #[.null, .int 4, .int 0, .null, .int 1, .int 1, .null], vm := .none },
  { cls := 6, slots := #[.null, .int 5, .int 0, .null, .int 1, .int 2147483647, .null], vm := .none },
  { cls := 6, slots := #[.null, .int 6, .int 0, .null, .int 2, .int 3, .null], vm := .none }]
def classes : Array Class := #[k0, k1, k2, k3, k4, k5, k6, k7, k8, k9]
def interned : List (Array UInt16 × Addr) := []
def slotsUsed : Nat := 57
def theMethod : MethodId := ⟨1, 1⟩
def args0 : Array Value := #[.int 5, .int 2, .int 1]
def aboutOver (below : List Frame) : State where
  vm := { classes := classes, interned := interned.toArray }
  heap := heap
  slotsUsed := slotsUsed
  threads := #[{ frames := .invoking theMethod args0 :: below }]
def below0 : List Frame := [.native { method := ⟨0, 0⟩, args := #[] }]
def about1 : State := aboutOver below0
def p0 : Program := .bare "" "" ""
def e0 : Env := launch0.env 0 0 0
theorem w_frames : about1.frames = Frame.invoking theMethod args0 :: below0 := rfl
set_option maxRecDepth 65536 in
theorem w_args : argsFit about1.vm theMethod args0 = true := by decide +kernel
set_option maxRecDepth 65536 in
theorem w_heap : heapFits about1 = true := by decide +kernel
set_option maxRecDepth 65536 in
theorem w_runnable : about1.curStatus? = some .runnable := by decide +kernel
set_option maxRecDepth 65536 in
theorem w_alone : about1.alone = true := by decide +kernel
set_option maxRecDepth 65536 in
theorem w_named : about1.methodNamed? x = some theMethod := by decide +kernel
set_option maxRecDepth 65536 in
theorem w_hears : about1.hears theMethod below0 = true := by decide +kernel
set_option maxRecDepth 65536 in
theorem w_ripe : about1.ripe theMethod args0 below0 = true := by decide +kernel
theorem w_running : about1.status = .running := rfl
set_option maxRecDepth 65536 in
theorem w_room : about1.hasRoom e0.platform room_1 = true :=
  launch0.hasRoom_least _ room_1 (by decide +kernel) (by decide +kernel) (by decide +kernel) (by decide +kernel) (by decide +kernel) (by decide +kernel)
theorem allAtoms_all (ts : List Jvm.Cond) (a : Array Jvm.Value) (st : Jvm.State) : (allAtoms ts).before a st = ts.all (fun c => c.before a st) := by
  induction ts with
  | nil => rfl
  | cons c t ih =>
    show (Jvm.Cond.and c (allAtoms t)).before a st = _
    rw [Jvm.Cond.before_and, ih, List.all_cons]
def words1 : List Jvm.Cond := Jvm.Cond.code x code maxLocals ret :: tables_1
/-- a 'code' word, met by the world's own term for the bytes: nothing is compared byte by byte -/
theorem code_word {y : MethodName} {bytes : ByteArray} {mx : Nat} {rt : Option FieldType} {a : Array Value} {s : State} {m : MethodId} {meth : Method} {c : Code} (h1 : s.methodNamed? y = some m) (h2 : s.vm.method? m = some meth) (h3 : meth.code = some c) (h4 : c.code = bytes)
    (h5 : (c.maxLocals == mx && c.exceptionTable.isEmpty && decide (c.maxStack ≤ mostOperands) && decide (meth.sig.returnType = rt) && !meth.locks && decide (parseMethodDescriptor y.desc = some meth.sig)) = true) : (Jvm.Cond.code y bytes mx rt).before a s = true := by
  simp only [Bool.and_eq_true, beq_iff_eq, Bool.not_eq_true', decide_eq_true_eq] at h5
  obtain ⟨⟨⟨⟨⟨g1, g2⟩, g3⟩, g4⟩, g5⟩, g6⟩ := h5
  simp [Cond.before, Cond.holds, Cond.value, h1, h2, h3, h4, g1, g2, g3, g4, g5, g6]
def isCode : Jvm.Cond → Bool
  | .code _ _ _ _ => true
  | _ => false
theorem all_split {L : List Jvm.Cond} {P : Jvm.Cond → Bool} (h1 : L.all (fun c => isCode c || P c) = true) (h2 : ∀ c ∈ L.filter isCode, P c = true) : L.all P = true := by
  refine List.all_eq_true.mpr fun c hc => ?_
  have h := List.all_eq_true.mp h1 c hc
  rcases Bool.eq_false_or_eq_true (isCode c) with hi | hi
  · exact h2 c (List.mem_filter.mpr ⟨hc, hi⟩)
  · simpa [hi] using h
set_option maxRecDepth 65536 in
theorem w_c0 : (Jvm.Cond.code x code maxLocals ret).before args0 about1 = true := code_word (m := ⟨1, 1⟩) (meth := k1m1) (c := k1c1) (by decide +kernel) rfl rfl rfl (by decide +kernel)
set_option maxRecDepth 65536 in
theorem w_c1 : (Jvm.Cond.code ({ cls := "com/example/bouncer/bouncer/expression/Vocabulary$Function", name := "takes", desc := "(I)Z" } : Jvm.MethodName) prog_57_method_8_code (2 : Nat) (Option.some Jvm.ClassFile.FieldType.boolean)).before args0 about1 = true := code_word (m := ⟨6, 0⟩) (meth := k6m0) (c := k6c0) (by decide +kernel) rfl rfl rfl (by decide +kernel)
def codes1 : List Jvm.Cond := [Jvm.Cond.code x code maxLocals ret, Jvm.Cond.code ({ cls := "com/example/bouncer/bouncer/expression/Vocabulary$Function", name := "takes", desc := "(I)Z" } : Jvm.MethodName) prog_57_method_8_code (2 : Nat) (Option.some Jvm.ClassFile.FieldType.boolean)]
set_option maxRecDepth 65536 in
theorem codes_eq : words1.filter isCode = codes1 := rfl
theorem w_codes : ∀ c ∈ words1.filter isCode, c.before args0 about1 = true := by
  rw [codes_eq]
  intro c hc
  simp only [codes1, List.mem_cons, List.not_mem_nil, or_false] at hc
  rcases hc with rfl | rfl
  · exact w_c0
  · exact w_c1
set_option maxRecDepth 65536 in
theorem w_t1 : (words1.take 24).all (fun c => isCode c || c.before args0 about1) = true := by decide +kernel
set_option maxRecDepth 65536 in
theorem w_t2 : (words1.drop 24).all (fun c => isCode c || c.before args0 about1) = true := by decide +kernel
theorem w_tables : (allAtoms (Jvm.Cond.code x code maxLocals ret :: tables_1)).before args0 about1 = true := by
  rw [allAtoms_all]
  show words1.all (fun c => c.before args0 about1) = true
  refine all_split ?_ w_codes
  rw [← List.take_append_drop 24 words1, List.all_append, w_t1, w_t2]
  rfl
set_option maxRecDepth 65536 in
theorem w_case : (Jvm.Cond.and given_1 narrow_1).before args0 about1 = true := by decide +kernel
theorem w_applies : (headSpec (Jvm.Cond.code x code maxLocals ret :: tables_1) room_1).applies x e0.platform about1 = true :=
  (Spec.applies_iff w_frames).mpr ⟨w_running, w_runnable, w_alone, w_named, w_hears, w_ripe, w_room, w_tables⟩
theorem atStart : AtStart classFile x code maxLocals ret World_1 tables_1 room_1 Calls_1 rest_1 Pre_1 launch0 p0 e0 about1 theMethod args0 below0 :=
  ⟨lists_1, trivial, launch0.admits_env _ _ _, launch0.least_env, fairChoices_fair.cas, fairChoices_fair.clock, w_frames, w_args, w_heap, w_applies, trivial, trivial, w_case⟩
end start1
theorem witness_1 : WitnessClaimed_1 := ⟨start1.p0, start1.e0, start1.about1, start1.theMethod, start1.args0, start1.below0, start1.atStart⟩
end Jvm.Pilot.@@N@@
