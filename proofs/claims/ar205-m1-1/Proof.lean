import JvmDerived
import JvmDerived.Pilot.@@N@@Statement
import JvmDerived.Pilot.@@N@@Code
set_option linter.unusedVariables false
set_option linter.unusedSimpArgs false
namespace Jvm.RoadKit
open Sem ClassFile Op Lib Jvm.Stand Jvm.Free Jvm.LawKit
section New
variable {p : Program} {l : Launch} {e : Env} {R : Room} {s : State} {m : MethodId} {args : Array Value} {below : List Frame} {meth : Method} {c : Code} {T : State} {locs : List Loc} {cells slots : Nat}
theorem retI (X : Stand p l e R s m args below meth c T locs cells slots) (hx : p.tables.exec = Jvm.exec) {pc : Nat} {Ls : Array Slot} {z : Int32} {rest : List Value} (hret : meth.sig.returnType = some .int) (hd : decode c.code pc = .ok (.ireturn, 1)) {fs : List Frame}
    (hl : ∀ (f : JFrame) (acts : List Action), f.method = m → f.locked = none → f.entered = [] → (doReturn e (T.setTop f) acts (some (.int z))).1 = T.setFrames fs) : Steps p.tables e below (T.setTop (mkF m pc Ls (.int z :: rest))) (T.setFrames fs) := by
  have hm' : T.vm.method? m = some meth := X.method'
  have hn : narrow .int (.int z) = .int z := rfl
  show Steps p.tables e below (T.setTop { method := m, pc := pc, locals := Ls, stack := _ :: rest, locked := none }) _
  jvm_step X.here [X.here.top, hx, hd, hm', hret, hn]
  first | (intro acts; rw [hl _ acts rfl rfl rfl]) | rw [hl _ _ rfl rfl rfl]
  exact Steps.refl _
end New
end Jvm.RoadKit
namespace Jvm.Pilot.@@N@@
open Jvm Jvm.ClassFile Sem Op Lib Jvm.Free Jvm.Stand Jvm.LawKit Jvm.RoadKit Bundle Jvm.Pilot.@@N@@.Jvm.D
theorem own_fldI {args : Array Value} {s : State} {t : Term} {C n d : String} {w : Addr} {i : Int32} (ht : t.eval args s none [] s = some (.ref w)) (h : (Cond.eq (.field t C n d) (.int i)).value args s none s [] = some true) : Fld s s.heap w C n d (.int i) := by
  refine Fld.start ?_
  have e1 : (Term.field t C n d).eval args s none [] s = s.fieldOf? w C n d := fld_at ht
  obtain ⟨x, y, ex, ey, k1, k2⟩ := cmp_v (Or.inl h)
  have hy : y = .int i := Option.some.inj (ey.symm.trans (Term.int_eval i))
  subst hy
  obtain ⟨z, rfl⟩ := k2
  have hz : z = i := by
    have := h
    simp only [Cond.value, ex, ey] at this
    simpa using this
  subst hz
  rw [← e1]; exact ex
theorem own_fldR {args : Array Value} {s : State} {t u : Term} {C n d : String} {w b : Addr} (ht : t.eval args s none [] s = some (.ref w)) (hu : u.eval args s none [] s = some (.ref b)) (h : (Cond.eq (.field t C n d) u).value args s none s [] = some true) : Fld s s.heap w C n d (.ref b) := by
  refine Fld.start ?_
  have e1 : (Term.field t C n d).eval args s none [] s = s.fieldOf? w C n d := fld_at ht
  obtain ⟨x, y, ex, ey, k1, k2⟩ := cmp_v (Or.inl h)
  have hy : y = .ref b := Option.some.inj (ey.symm.trans hu)
  subst hy
  have hx : x.isRef = true := k2.2
  have := gotT (eq_R ex ey hx rfl) h
  subst this
  rw [← e1]; exact ex
theorem own_pick (p1 : Int32) (wO wE : Addr) : (if p1 < (200 : Int32) then wE else if p1 < (300 : Int32) then wO else wE) = (if p1 / (100 : Int32) = (2 : Int32) then wO else wE) := by
  have h100 : (100 : Int32).toInt = 100 := rfl
  have h200 : (200 : Int32).toInt = 200 := rfl
  have h300 : (300 : Int32).toInt = 300 := rfl
  have h2 : (2 : Int32).toInt = 2 := rfl
  have d := c_idiv p1 100 100 h100 (by decide)
  by_cases a : p1 < (200 : Int32)
  · rw [if_pos a, if_neg]
    intro q
    rw [Int32.lt_iff_toInt_lt] at a
    have q' := congrArg Int32.toInt q
    rcases Int.lt_or_le p1.toInt 0 with z | z
    · have := d.2 z; omega
    · have := d.1 z; omega
  · rw [if_neg a]
    by_cases b : p1 < (300 : Int32)
    · rw [if_pos b, if_pos]
      rw [Int32.lt_iff_toInt_lt] at a b
      apply Int32.toInt_inj.mp
      have := d.1 (by omega)
      omega
    · rw [if_neg b, if_neg]
      intro q
      rw [Int32.lt_iff_toInt_lt] at a b
      have q' := congrArg Int32.toInt q
      have := d.1 (by omega)
      omega
theorem own_in (k : Int32) (wO wE : Addr) : (if ((200 : Int32) + ((k &&& (2147483647 : Int32)) % (100 : Int32))) < (200 : Int32) then wE else if ((200 : Int32) + ((k &&& (2147483647 : Int32)) % (100 : Int32))) < (300 : Int32) then wO else wE) = wO := by
  have h200 : (200 : Int32).toInt = 200 := rfl
  have h300 : (300 : Int32).toInt = 300 := rfl
  have m := c_and k 2147483647 (by decide)
  have r := (c_irem (k &&& (2147483647 : Int32)) 100 100 rfl).1 m.1
  have s := c_iadd (200 : Int32) ((k &&& (2147483647 : Int32)) % (100 : Int32))
  have g := rng32 ((200 : Int32) + ((k &&& (2147483647 : Int32)) % (100 : Int32)))
  rw [if_neg, if_pos]
  · rw [Int32.lt_iff_toInt_lt]; omega
  · rw [Int32.lt_iff_toInt_lt]; omega
theorem own_up (k : Int32) (wO wE : Addr) : (if ((300 : Int32) + ((k &&& (2147483647 : Int32)) % (1000 : Int32))) < (200 : Int32) then wE else if ((300 : Int32) + ((k &&& (2147483647 : Int32)) % (1000 : Int32))) < (300 : Int32) then wO else wE) = wE := by
  have h200 : (200 : Int32).toInt = 200 := rfl
  have h300 : (300 : Int32).toInt = 300 := rfl
  have m := c_and k 2147483647 (by decide)
  have r := (c_irem (k &&& (2147483647 : Int32)) 1000 1000 rfl).1 m.1
  have s := c_iadd (300 : Int32) ((k &&& (2147483647 : Int32)) % (1000 : Int32))
  have g := rng32 ((300 : Int32) + ((k &&& (2147483647 : Int32)) % (1000 : Int32)))
  rw [if_neg, if_neg]
  · rw [Int32.lt_iff_toInt_lt]; omega
  · rw [Int32.lt_iff_toInt_lt]; omega
theorem own_down (k : Int32) (wO wE : Addr) : (if ((199 : Int32) - ((k &&& (2147483647 : Int32)) % (1000 : Int32))) < (200 : Int32) then wE else if ((199 : Int32) - ((k &&& (2147483647 : Int32)) % (1000 : Int32))) < (300 : Int32) then wO else wE) = wE := by
  have h200 : (200 : Int32).toInt = 200 := rfl
  have h199 : (199 : Int32).toInt = 199 := rfl
  have m := c_and k 2147483647 (by decide)
  have r := (c_irem (k &&& (2147483647 : Int32)) 1000 1000 rfl).1 m.1
  have s := c_isub (199 : Int32) ((k &&& (2147483647 : Int32)) % (1000 : Int32))
  have g := rng32 ((199 : Int32) - ((k &&& (2147483647 : Int32)) % (1000 : Int32)))
  rw [if_pos]
  rw [Int32.lt_iff_toInt_lt]; omega

theorem ef_1 (m : MethodId) (x0 : Int32) : entryFrame m #[(.int x0)] 1 = mkF m 0 #[.val (.int x0)] [] := by first | (simp [entryFrame, mkF, argsToLocals, Value.category]; done) | rfl
theorem pn_com_example_quayhook_quayhook_Outcome : plainName "com/example/quayhook/quayhook/Outcome" = true := by first | (simp [plainName, overriddenIn]; done) | decide +kernel
theorem d1_0 : decode prog_19_method_4_code 0 = .ok (.iload_n 0, 1) := by decide +kernel
theorem d1_1 : decode prog_19_method_4_code 1 = .ok (.sipush 200, 3) := by decide +kernel
theorem d1_4 : decode prog_19_method_4_code 4 = .ok (.if_icmp .lt 16, 3) := by decide +kernel
theorem d1_20 : decode prog_19_method_4_code 20 = .ok (.getstatic 7, 3) := by decide +kernel
theorem d1_23 : decode prog_19_method_4_code 23 = .ok (.areturn, 1) := by decide +kernel
theorem d1_7 : decode prog_19_method_4_code 7 = .ok (.iload_n 0, 1) := by decide +kernel
theorem d1_8 : decode prog_19_method_4_code 8 = .ok (.sipush 300, 3) := by decide +kernel
theorem d1_11 : decode prog_19_method_4_code 11 = .ok (.if_icmp .ge 9, 3) := by decide +kernel
theorem d1_14 : decode prog_19_method_4_code 14 = .ok (.getstatic 3, 3) := by decide +kernel
theorem d1_17 : decode prog_19_method_4_code 17 = .ok (.goto 6, 3) := by decide +kernel
def Q1 (Z : State) (p1 : Int32) (wO : Addr) (wE : Addr) (r : Addr) (h0 : Heap) (n0 : Nat) (v : Option Value) (h : Heap) (L : List Loc) : Prop := v = some (.ref r) ∧ Fr n0 L ∧ h = h0
set_option maxRecDepth 65536 in
set_option maxHeartbeats 40000000 in
theorem rm1 (l : Launch) (Z : State) (a0 : Array Value) (hw : ∀ d ∈ tables_1, d.before a0 Z = true) (ws : List Jvm.Cond) (p1 : Int32) (wO : Addr) (wE : Addr) (r : Addr) (h0 : Heap) (n0 : Nat) (Z0 : n0 ≤ h0.size) (S_OK : Sta Z h0 "com/example/quayhook/quayhook/Outcome" "OK" "Lcom/example/quayhook/quayhook/Outcome;" (.ref wO)) (S_ERROR : Sta Z h0 "com/example/quayhook/quayhook/Outcome" "ERROR" "Lcom/example/quayhook/quayhook/Outcome;" (.ref wE)) (hr0 : (if p1 < (200 : Int32) then wE else if p1 < (300 : Int32) then wO else wE) = r) :
    MetFree l (⟨"com/example/quayhook/quayhook/Outcome", "of", "(I)Lcom/example/quayhook/quayhook/Outcome;"⟩ : MethodName) (head1 (Jvm.Cond.code (⟨"com/example/quayhook/quayhook/Outcome", "of", "(I)Lcom/example/quayhook/quayhook/Outcome;"⟩ : MethodName) prog_19_method_4_code 1 (some (.object "com/example/quayhook/quayhook/Outcome")) :: ws) ({ frames := 0, cells := 0, slots := 0, locals := 0 } : Room)) (fun a U => a = #[(.int p1)] ∧ Z.Warmed39 U.vm ∧ U.heap = h0) (fun _ _ _ _ _ => True) (fun _ U o U' => ∃ v L, o = .returned v ∧ Q1 Z p1 wO wE r h0 n0 v U'.heap L ∧ FrameEnd U o U' L ({ frames := 0, cells := 0, slots := 0, locals := 0 } : Room).cells ({ frames := 0, cells := 0, slots := 0, locals := 0 } : Room).slots) := by
  refine MetFree.of_bodySF (plainFor_of_name pn_com_example_quayhook_quayhook_Outcome) hisR ?_
  intro p e s m args below meth c s₁ Bd hml0 hP hK
  obtain ⟨rfl, hZ, hh⟩ := hP
  have hx := Bd.exec
  have hby := Bd.bytes
  have hml : c.maxLocals = 1 := hml0
  have hown : s.vm.findClass "com/example/quayhook/quayhook/Outcome" = some m.cls := findClass_of_methodNamed Bd.named
  have hnm := (name_of_methodNamed Bd.named Bd.method).1
  have X0 : Stand p l e ({ frames := 0, cells := 0, slots := 0, locals := 0 } : Room) s m #[(.int p1)] below meth c s₁ [] 0 0 := Stand.of_body Bd
  have e0 : s₁.heap = h0 := by rw [← hh, Bd.state]; rfl
  have N0 := Fr.nil n0
  have k0 : ∀ t, Steps p.tables e below (s₁.setTop (mkF m 0 #[.val (.int p1)] [])) t → Steps p.tables e below (s₁.setTop (entryFrame m #[(.int p1)] 1)) t := fun t k => castTop (ef_1 m p1) k
  have k1 : ∀ t, Steps p.tables e below (s₁.setTop (mkF m 4 #[.val (.int p1)] [(.int (200 : Int32)), (.int p1)])) t → Steps p.tables e below (s₁.setTop (entryFrame m #[(.int p1)] 1)) t := fun t q => k0 t (by
      show Steps p.tables e below (s₁.setTop (mkF m 0 #[.val (.int p1)] [])) _
      refine XS.iloadN X0.here hx rfl (hb hby d1_0) rfl ?_
      show Steps p.tables e below (s₁.setTop (mkF m 1 #[.val (.int p1)] [(.int p1)])) _
      refine XS.sipush X0.here hx rfl (hb hby d1_1) ?_
      exact q)
  by_cases hc4 : p1 < (200 : Int32)
  · have k2 : ∀ t, Steps p.tables e below (s₁.setTop (mkF m 20 #[.val (.int p1)] [])) t → Steps p.tables e below (s₁.setTop (entryFrame m #[(.int p1)] 1)) t := fun t q => k1 t (by
        show Steps p.tables e below (s₁.setTop (mkF m 4 #[.val (.int p1)] [(.int (200 : Int32)), (.int p1)])) _
        refine XS.icmpYes X0.here hx rfl (pc0 := 4) (pc' := 20) rfl (hb hby d1_4) rfl (tlt (hc4 : p1 < (200 : Int32))).1 (by decide) (by decide) ?_
        exact q)
    obtain ⟨T3, X3, e3, st3⟩ := getS2 X0 hx hZ hown (host := "") (Or.inl (hw _ (List.mem_of_getElem? (i := 5) rfl))) Via.refl e0 (S_ERROR) (g := (mkF m 20 #[.val (.int p1)] [])) rfl (hb hby d1_20)
    have k4 : ∀ t, Steps p.tables e below (T3.setTop (mkF m 23 #[.val (.int p1)] [(.ref wE)])) t → Steps p.tables e below (s₁.setTop (entryFrame m #[(.int p1)] 1)) t := fun t q => k2 t (st3 t q)
    obtain ⟨fs, hr, hrun, hended, hW, hsame⟩ := X3.leave (v := some (.ref wE)) (fun h => by rw [Bd.returns] at h; cases h)
    refine ⟨_, _, k4 _ ?_, hrun, hended, _, _, rfl, ?_, ⟨_, rfl⟩, hW, hsame.mono (by decide) (by decide)⟩
    · exact retOut X3 hx Bd.returns rfl (Or.inr (Or.inr (Or.inr (Or.inr ⟨rfl, rfl, rfl⟩)))) (hb hby d1_23) hr
    · show Q1 Z p1 wO wE r h0 n0 _ T3.heap _
      rw [e3]
      exact ⟨by rw [if_pos hc4] at hr0; rw [hr0], N0, rfl⟩
  · have k5 : ∀ t, Steps p.tables e below (s₁.setTop (mkF m 11 #[.val (.int p1)] [(.int (300 : Int32)), (.int p1)])) t → Steps p.tables e below (s₁.setTop (entryFrame m #[(.int p1)] 1)) t := fun t q => k1 t (by
        show Steps p.tables e below (s₁.setTop (mkF m 4 #[.val (.int p1)] [(.int (200 : Int32)), (.int p1)])) _
        refine XS.icmpNo X0.here hx rfl (hb hby d1_4) rfl (flt (hc4 : ¬ (p1 < (200 : Int32)))).1 ?_
        show Steps p.tables e below (s₁.setTop (mkF m 7 #[.val (.int p1)] [])) _
        refine XS.iloadN X0.here hx rfl (hb hby d1_7) rfl ?_
        show Steps p.tables e below (s₁.setTop (mkF m 8 #[.val (.int p1)] [(.int p1)])) _
        refine XS.sipush X0.here hx rfl (hb hby d1_8) ?_
        exact q)
    by_cases hc11 : p1 < (300 : Int32)
    · have k6 : ∀ t, Steps p.tables e below (s₁.setTop (mkF m 14 #[.val (.int p1)] [])) t → Steps p.tables e below (s₁.setTop (entryFrame m #[(.int p1)] 1)) t := fun t q => k5 t (by
          show Steps p.tables e below (s₁.setTop (mkF m 11 #[.val (.int p1)] [(.int (300 : Int32)), (.int p1)])) _
          refine XS.icmpNo X0.here hx rfl (hb hby d1_11) rfl (tlt (hc11 : p1 < (300 : Int32))).2.1 ?_
          exact q)
      obtain ⟨T7, X7, e7, st7⟩ := getS2 X0 hx hZ hown (host := "") (Or.inl (hw _ (List.mem_of_getElem? (i := 12) rfl))) Via.refl e0 (S_OK) (g := (mkF m 14 #[.val (.int p1)] [])) rfl (hb hby d1_14)
      have k8 : ∀ t, Steps p.tables e below (T7.setTop (mkF m 17 #[.val (.int p1)] [(.ref wO)])) t → Steps p.tables e below (s₁.setTop (entryFrame m #[(.int p1)] 1)) t := fun t q => k6 t (st7 t q)
      have k9 : ∀ t, Steps p.tables e below (T7.setTop (mkF m 23 #[.val (.int p1)] [(.ref wO)])) t → Steps p.tables e below (s₁.setTop (entryFrame m #[(.int p1)] 1)) t := fun t q => k8 t (by
          show Steps p.tables e below (T7.setTop (mkF m 17 #[.val (.int p1)] [(.ref wO)])) _
          refine XS.goto X7.here hx rfl (pc0 := 17) (pc' := 23) rfl (hb hby d1_17) (by decide) (by decide) ?_
          exact q)
      obtain ⟨fs, hr, hrun, hended, hW, hsame⟩ := X7.leave (v := some (.ref wO)) (fun h => by rw [Bd.returns] at h; cases h)
      refine ⟨_, _, k9 _ ?_, hrun, hended, _, _, rfl, ?_, ⟨_, rfl⟩, hW, hsame.mono (by decide) (by decide)⟩
      · exact retOut X7 hx Bd.returns rfl (Or.inr (Or.inr (Or.inr (Or.inr ⟨rfl, rfl, rfl⟩)))) (hb hby d1_23) hr
      · show Q1 Z p1 wO wE r h0 n0 _ T7.heap _
        rw [e7]
        exact ⟨by rw [if_neg hc4, if_pos hc11] at hr0; rw [hr0], N0, rfl⟩
    · have k10 : ∀ t, Steps p.tables e below (s₁.setTop (mkF m 20 #[.val (.int p1)] [])) t → Steps p.tables e below (s₁.setTop (entryFrame m #[(.int p1)] 1)) t := fun t q => k5 t (by
          show Steps p.tables e below (s₁.setTop (mkF m 11 #[.val (.int p1)] [(.int (300 : Int32)), (.int p1)])) _
          refine XS.icmpYes X0.here hx rfl (pc0 := 11) (pc' := 20) rfl (hb hby d1_11) rfl (flt (hc11 : ¬ (p1 < (300 : Int32)))).2.1 (by decide) (by decide) ?_
          exact q)
      obtain ⟨T11, X11, e11, st11⟩ := getS2 X0 hx hZ hown (host := "") (Or.inl (hw _ (List.mem_of_getElem? (i := 5) rfl))) Via.refl e0 (S_ERROR) (g := (mkF m 20 #[.val (.int p1)] [])) rfl (hb hby d1_20)
      have k12 : ∀ t, Steps p.tables e below (T11.setTop (mkF m 23 #[.val (.int p1)] [(.ref wE)])) t → Steps p.tables e below (s₁.setTop (entryFrame m #[(.int p1)] 1)) t := fun t q => k10 t (st11 t q)
      obtain ⟨fs, hr, hrun, hended, hW, hsame⟩ := X11.leave (v := some (.ref wE)) (fun h => by rw [Bd.returns] at h; cases h)
      refine ⟨_, _, k12 _ ?_, hrun, hended, _, _, rfl, ?_, ⟨_, rfl⟩, hW, hsame.mono (by decide) (by decide)⟩
      · exact retOut X11 hx Bd.returns rfl (Or.inr (Or.inr (Or.inr (Or.inr ⟨rfl, rfl, rfl⟩)))) (hb hby d1_23) hr
      · show Q1 Z p1 wO wE r h0 n0 _ T11.heap _
        rw [e11]
        exact ⟨by rw [if_neg hc4, if_neg hc11] at hr0; rw [hr0], N0, rfl⟩
theorem ef_2 (m : MethodId) (x0 : Int32) : entryFrame m #[(.int x0)] 1 = mkF m 0 #[.val (.int x0)] [] := by first | (simp [entryFrame, mkF, argsToLocals, Value.category]; done) | rfl
theorem pn_com_example_quayhook_quayhook_OutcomeOfPinLaw : plainName "com/example/quayhook/quayhook/OutcomeOfPinLaw" = true := by first | (simp [plainName, overriddenIn]; done) | decide +kernel
theorem d2_0 : decode method_2_code 0 = .ok (.iload_n 0, 1) := by decide +kernel
theorem d2_1 : decode method_2_code 1 = .ok (.bipush 100, 2) := by decide +kernel
theorem d2_3 : decode method_2_code 3 = .ok (.idiv, 1) := by decide +kernel
theorem d2_4 : decode method_2_code 4 = .ok (.iconst 2, 1) := by decide +kernel
theorem d2_5 : decode method_2_code 5 = .ok (.if_icmp .ne 7, 3) := by decide +kernel
theorem d2_8 : decode method_2_code 8 = .ok (.getstatic 7, 3) := by decide +kernel
theorem d2_11 : decode method_2_code 11 = .ok (.areturn, 1) := by decide +kernel
theorem d2_12 : decode method_2_code 12 = .ok (.getstatic 13, 3) := by decide +kernel
theorem d2_15 : decode method_2_code 15 = .ok (.areturn, 1) := by decide +kernel
def Q2 (Z : State) (p1 : Int32) (wO : Addr) (wE : Addr) (r : Addr) (h0 : Heap) (n0 : Nat) (v : Option Value) (h : Heap) (L : List Loc) : Prop := v = some (.ref r) ∧ Fr n0 L ∧ h = h0
set_option maxRecDepth 65536 in
set_option maxHeartbeats 40000000 in
theorem rm2 (l : Launch) (Z : State) (a0 : Array Value) (hw : ∀ d ∈ tables_1, d.before a0 Z = true) (ws : List Jvm.Cond) (p1 : Int32) (wO : Addr) (wE : Addr) (r : Addr) (h0 : Heap) (n0 : Nat) (Z0 : n0 ≤ h0.size) (S_OK : Sta Z h0 "com/example/quayhook/quayhook/Outcome" "OK" "Lcom/example/quayhook/quayhook/Outcome;" (.ref wO)) (S_ERROR : Sta Z h0 "com/example/quayhook/quayhook/Outcome" "ERROR" "Lcom/example/quayhook/quayhook/Outcome;" (.ref wE)) (hr0 : (if p1 / (100 : Int32) = (2 : Int32) then wO else wE) = r) :
    MetFree l (⟨"com/example/quayhook/quayhook/OutcomeOfPinLaw", "expected", "(I)Lcom/example/quayhook/quayhook/Outcome;"⟩ : MethodName) (head1 (Jvm.Cond.code (⟨"com/example/quayhook/quayhook/OutcomeOfPinLaw", "expected", "(I)Lcom/example/quayhook/quayhook/Outcome;"⟩ : MethodName) method_2_code 1 (some (.object "com/example/quayhook/quayhook/Outcome")) :: ws) ({ frames := 0, cells := 0, slots := 0, locals := 0 } : Room)) (fun a U => a = #[(.int p1)] ∧ Z.Warmed39 U.vm ∧ U.heap = h0) (fun _ _ _ _ _ => True) (fun _ U o U' => ∃ v L, o = .returned v ∧ Q2 Z p1 wO wE r h0 n0 v U'.heap L ∧ FrameEnd U o U' L ({ frames := 0, cells := 0, slots := 0, locals := 0 } : Room).cells ({ frames := 0, cells := 0, slots := 0, locals := 0 } : Room).slots) := by
  refine MetFree.of_bodySF (plainFor_of_name pn_com_example_quayhook_quayhook_OutcomeOfPinLaw) hisR ?_
  intro p e s m args below meth c s₁ Bd hml0 hP hK
  obtain ⟨rfl, hZ, hh⟩ := hP
  have hx := Bd.exec
  have hby := Bd.bytes
  have hml : c.maxLocals = 1 := hml0
  have hown : s.vm.findClass "com/example/quayhook/quayhook/OutcomeOfPinLaw" = some m.cls := findClass_of_methodNamed Bd.named
  have hnm := (name_of_methodNamed Bd.named Bd.method).1
  have X0 : Stand p l e ({ frames := 0, cells := 0, slots := 0, locals := 0 } : Room) s m #[(.int p1)] below meth c s₁ [] 0 0 := Stand.of_body Bd
  have e0 : s₁.heap = h0 := by rw [← hh, Bd.state]; rfl
  have N0 := Fr.nil n0
  have k0 : ∀ t, Steps p.tables e below (s₁.setTop (mkF m 0 #[.val (.int p1)] [])) t → Steps p.tables e below (s₁.setTop (entryFrame m #[(.int p1)] 1)) t := fun t k => castTop (ef_2 m p1) k
  have k1 : ∀ t, Steps p.tables e below (s₁.setTop (mkF m 5 #[.val (.int p1)] [(.int (2 : Int32)), (.int (p1 / (100 : Int32)))])) t → Steps p.tables e below (s₁.setTop (entryFrame m #[(.int p1)] 1)) t := fun t q => k0 t (by
      show Steps p.tables e below (s₁.setTop (mkF m 0 #[.val (.int p1)] [])) _
      refine XS.iloadN X0.here hx rfl (hb hby d2_0) rfl ?_
      show Steps p.tables e below (s₁.setTop (mkF m 1 #[.val (.int p1)] [(.int p1)])) _
      refine XS.bipush X0.here hx rfl (hb hby d2_1) ?_
      show Steps p.tables e below (s₁.setTop (mkF m 3 #[.val (.int p1)] [(.int (100 : Int32)), (.int p1)])) _
      refine XS.idiv X0.here hx rfl (hb hby d2_3) rfl (by decide) ?_
      show Steps p.tables e below (s₁.setTop (mkF m 4 #[.val (.int p1)] [(.int (p1 / (100 : Int32)))])) _
      refine XS.iconst X0.here hx rfl (hb hby d2_4) ?_
      exact q)
  by_cases hc5 : (p1 / (100 : Int32)) = (2 : Int32)
  · have k2 : ∀ t, Steps p.tables e below (s₁.setTop (mkF m 8 #[.val (.int p1)] [])) t → Steps p.tables e below (s₁.setTop (entryFrame m #[(.int p1)] 1)) t := fun t q => k1 t (by
        show Steps p.tables e below (s₁.setTop (mkF m 5 #[.val (.int p1)] [(.int (2 : Int32)), (.int (p1 / (100 : Int32)))])) _
        refine XS.icmpNo X0.here hx rfl (hb hby d2_5) rfl (teq (hc5 : (p1 / (100 : Int32)) = (2 : Int32))).2 ?_
        exact q)
    obtain ⟨T3, X3, e3, st3⟩ := getS2 X0 hx hZ hown (host := "") (Or.inl (hw _ (List.mem_of_getElem? (i := 14) rfl))) Via.refl e0 (S_OK) (g := (mkF m 8 #[.val (.int p1)] [])) rfl (hb hby d2_8)
    have k4 : ∀ t, Steps p.tables e below (T3.setTop (mkF m 11 #[.val (.int p1)] [(.ref wO)])) t → Steps p.tables e below (s₁.setTop (entryFrame m #[(.int p1)] 1)) t := fun t q => k2 t (st3 t q)
    obtain ⟨fs, hr, hrun, hended, hW, hsame⟩ := X3.leave (v := some (.ref wO)) (fun h => by rw [Bd.returns] at h; cases h)
    refine ⟨_, _, k4 _ ?_, hrun, hended, _, _, rfl, ?_, ⟨_, rfl⟩, hW, hsame.mono (by decide) (by decide)⟩
    · exact retOut X3 hx Bd.returns rfl (Or.inr (Or.inr (Or.inr (Or.inr ⟨rfl, rfl, rfl⟩)))) (hb hby d2_11) hr
    · show Q2 Z p1 wO wE r h0 n0 _ T3.heap _
      rw [e3]
      exact ⟨by rw [if_pos hc5] at hr0; rw [hr0], N0, rfl⟩
  · have k5 : ∀ t, Steps p.tables e below (s₁.setTop (mkF m 12 #[.val (.int p1)] [])) t → Steps p.tables e below (s₁.setTop (entryFrame m #[(.int p1)] 1)) t := fun t q => k1 t (by
        show Steps p.tables e below (s₁.setTop (mkF m 5 #[.val (.int p1)] [(.int (2 : Int32)), (.int (p1 / (100 : Int32)))])) _
        refine XS.icmpYes X0.here hx rfl (pc0 := 5) (pc' := 12) rfl (hb hby d2_5) rfl (feq (hc5 : ¬ ((p1 / (100 : Int32)) = (2 : Int32)))).2 (by decide) (by decide) ?_
        exact q)
    obtain ⟨T6, X6, e6, st6⟩ := getS2 X0 hx hZ hown (host := "") (Or.inl (hw _ (List.mem_of_getElem? (i := 11) rfl))) Via.refl e0 (S_ERROR) (g := (mkF m 12 #[.val (.int p1)] [])) rfl (hb hby d2_12)
    have k7 : ∀ t, Steps p.tables e below (T6.setTop (mkF m 15 #[.val (.int p1)] [(.ref wE)])) t → Steps p.tables e below (s₁.setTop (entryFrame m #[(.int p1)] 1)) t := fun t q => k5 t (st6 t q)
    obtain ⟨fs, hr, hrun, hended, hW, hsame⟩ := X6.leave (v := some (.ref wE)) (fun h => by rw [Bd.returns] at h; cases h)
    refine ⟨_, _, k7 _ ?_, hrun, hended, _, _, rfl, ?_, ⟨_, rfl⟩, hW, hsame.mono (by decide) (by decide)⟩
    · exact retOut X6 hx Bd.returns rfl (Or.inr (Or.inr (Or.inr (Or.inr ⟨rfl, rfl, rfl⟩)))) (hb hby d2_15) hr
    · show Q2 Z p1 wO wE r h0 n0 _ T6.heap _
      rw [e6]
      exact ⟨by rw [if_neg hc5] at hr0; rw [hr0], N0, rfl⟩
theorem ef_L (m : MethodId) (x0 : Int32) (x1 : Int32) : entryFrame m #[(.int x0), (.int x1)] maxLocals = mkF m 0 #[.val (.int x0), .val (.int x1), .unset, .unset, .unset, .unset, .unset, .unset, .unset, .unset, .unset] [] := by first | (simp [entryFrame, mkF, argsToLocals, Value.category, maxLocals]; done) | rfl
theorem pd__I_Lcom_example_quayhook_quayhook_Outcome_ : parseMethodDescriptor "(I)Lcom/example/quayhook/quayhook/Outcome;" = some ⟨[.int], some (.object "com/example/quayhook/quayhook/Outcome")⟩ := by decide +kernel
def QL (Z : State) (p1 : Int32) (p2 : Int32) (wO : Addr) (wE : Addr) (r0 : Addr) (h0 : Heap) (n0 : Nat) (v : Option Value) (h : Heap) (L : List Loc) : Prop := v = some (.int (1 : Int32)) ∧ Fr n0 L
set_option maxRecDepth 65536 in
set_option maxHeartbeats 40000000 in
theorem rmL (l : Launch) (Z : State) (a0 : Array Value) (hw : ∀ d ∈ tables_1, d.before a0 Z = true) (ws : List Jvm.Cond) (p1 : Int32) (p2 : Int32) (wO : Addr) (wE : Addr) (r0 : Addr) (h0 : Heap) (n0 : Nat) (Z0 : n0 ≤ h0.size) (S_OK : Sta Z h0 "com/example/quayhook/quayhook/Outcome" "OK" "Lcom/example/quayhook/quayhook/Outcome;" (.ref wO)) (S_ERROR : Sta Z h0 "com/example/quayhook/quayhook/Outcome" "ERROR" "Lcom/example/quayhook/quayhook/Outcome;" (.ref wE)) (hr0 : (if p1 < (200 : Int32) then wE else if p1 < (300 : Int32) then wO else wE) = r0) :
    MetFree l x (head1 (Jvm.Cond.code x code maxLocals ret :: ws) room_1) (fun a U => a = #[(.int p1), (.int p2)] ∧ Z.Warmed39 U.vm ∧ U.heap = h0) (fun _ _ _ _ _ => True) (fun _ U o U' => ∃ v L, o = .returned v ∧ QL Z p1 p2 wO wE r0 h0 n0 v U'.heap L ∧ FrameEnd U o U' L room_1.cells room_1.slots) := by
  refine MetFree.of_bodySF (plainFor_of_name pn_com_example_quayhook_quayhook_OutcomeOfPinLaw) hisR ?_
  intro p e s m args below meth c s₁ Bd hml0 hP hK
  obtain ⟨rfl, hZ, hh⟩ := hP
  have hx := Bd.exec
  have hby := Bd.bytes
  have hml : c.maxLocals = 11 := hml0
  have hown : s.vm.findClass "com/example/quayhook/quayhook/OutcomeOfPinLaw" = some m.cls := findClass_of_methodNamed Bd.named
  have hnm := (name_of_methodNamed Bd.named Bd.method).1
  have X0 : Stand p l e room_1 s m #[(.int p1), (.int p2)] below meth c s₁ [] 0 0 := Stand.of_body Bd
  have e0 : s₁.heap = h0 := by rw [← hh, Bd.state]; rfl
  have N0 := Fr.nil n0
  have k0 : ∀ t, Steps p.tables e below (s₁.setTop (mkF m 0 #[.val (.int p1), .val (.int p2), .unset, .unset, .unset, .unset, .unset, .unset, .unset, .unset, .unset] [])) t → Steps p.tables e below (s₁.setTop (entryFrame m #[(.int p1), (.int p2)] maxLocals)) t := fun t k => castTop (ef_L m p1 p2) k
  have k1 : ∀ t, Steps p.tables e below (s₁.setTop (mkF m 37 #[.val (.int p1), .val (.int p2), .val (.int (p2 &&& (2147483647 : Int32))), .val (.int ((200 : Int32) + ((p2 &&& (2147483647 : Int32)) % (100 : Int32)))), .val (.int ((300 : Int32) + ((p2 &&& (2147483647 : Int32)) % (1000 : Int32)))), .val (.int ((199 : Int32) - ((p2 &&& (2147483647 : Int32)) % (1000 : Int32)))), .unset, .unset, .unset, .unset, .unset] [(.int p1)])) t → Steps p.tables e below (s₁.setTop (entryFrame m #[(.int p1), (.int p2)] maxLocals)) t := fun t q => k0 t (by
      show Steps p.tables e below (s₁.setTop (mkF m 0 #[.val (.int p1), .val (.int p2), .unset, .unset, .unset, .unset, .unset, .unset, .unset, .unset, .unset] [])) _
      refine XS.iloadN X0.here hx rfl (hb hby at_0) rfl ?_
      show Steps p.tables e below (s₁.setTop (mkF m 1 #[.val (.int p1), .val (.int p2), .unset, .unset, .unset, .unset, .unset, .unset, .unset, .unset, .unset] [(.int p2)])) _
      refine X0.ldcInt hx hown (mvT hZ (hw _ (List.mem_of_getElem? (i := 0) rfl))) (g := (mkF m 1 #[.val (.int p1), .val (.int p2), .unset, .unset, .unset, .unset, .unset, .unset, .unset, .unset, .unset] [(.int p2)])) rfl (hb hby at_1) _ ?_
      show Steps p.tables e below (s₁.setTop (mkF m 3 #[.val (.int p1), .val (.int p2), .unset, .unset, .unset, .unset, .unset, .unset, .unset, .unset, .unset] [(.int (2147483647 : Int32)), (.int p2)])) _
      refine XS.iand X0.here hx rfl (hb hby at_3) rfl ?_
      show Steps p.tables e below (s₁.setTop (mkF m 4 #[.val (.int p1), .val (.int p2), .unset, .unset, .unset, .unset, .unset, .unset, .unset, .unset, .unset] [(.int (p2 &&& (2147483647 : Int32)))])) _
      refine XS.istoreN X0.here hx rfl (hb hby at_4) rfl (l' := #[.val (.int p1), .val (.int p2), .val (.int (p2 &&& (2147483647 : Int32))), .unset, .unset, .unset, .unset, .unset, .unset, .unset, .unset]) rfl ?_
      show Steps p.tables e below (s₁.setTop (mkF m 5 #[.val (.int p1), .val (.int p2), .val (.int (p2 &&& (2147483647 : Int32))), .unset, .unset, .unset, .unset, .unset, .unset, .unset, .unset] [])) _
      refine XS.sipush X0.here hx rfl (hb hby at_5) ?_
      show Steps p.tables e below (s₁.setTop (mkF m 8 #[.val (.int p1), .val (.int p2), .val (.int (p2 &&& (2147483647 : Int32))), .unset, .unset, .unset, .unset, .unset, .unset, .unset, .unset] [(.int (200 : Int32))])) _
      refine XS.iloadN X0.here hx rfl (hb hby at_8) rfl ?_
      show Steps p.tables e below (s₁.setTop (mkF m 9 #[.val (.int p1), .val (.int p2), .val (.int (p2 &&& (2147483647 : Int32))), .unset, .unset, .unset, .unset, .unset, .unset, .unset, .unset] [(.int (p2 &&& (2147483647 : Int32))), (.int (200 : Int32))])) _
      refine XS.bipush X0.here hx rfl (hb hby at_9) ?_
      show Steps p.tables e below (s₁.setTop (mkF m 11 #[.val (.int p1), .val (.int p2), .val (.int (p2 &&& (2147483647 : Int32))), .unset, .unset, .unset, .unset, .unset, .unset, .unset, .unset] [(.int (100 : Int32)), (.int (p2 &&& (2147483647 : Int32))), (.int (200 : Int32))])) _
      refine iremM X0 hx rfl (hb hby at_11) rfl (by decide) ?_
      show Steps p.tables e below (s₁.setTop (mkF m 12 #[.val (.int p1), .val (.int p2), .val (.int (p2 &&& (2147483647 : Int32))), .unset, .unset, .unset, .unset, .unset, .unset, .unset, .unset] [(.int ((p2 &&& (2147483647 : Int32)) % (100 : Int32))), (.int (200 : Int32))])) _
      refine XS.iadd X0.here hx rfl (hb hby at_12) rfl ?_
      show Steps p.tables e below (s₁.setTop (mkF m 13 #[.val (.int p1), .val (.int p2), .val (.int (p2 &&& (2147483647 : Int32))), .unset, .unset, .unset, .unset, .unset, .unset, .unset, .unset] [(.int ((200 : Int32) + ((p2 &&& (2147483647 : Int32)) % (100 : Int32))))])) _
      refine XS.istoreN X0.here hx rfl (hb hby at_13) rfl (l' := #[.val (.int p1), .val (.int p2), .val (.int (p2 &&& (2147483647 : Int32))), .val (.int ((200 : Int32) + ((p2 &&& (2147483647 : Int32)) % (100 : Int32)))), .unset, .unset, .unset, .unset, .unset, .unset, .unset]) rfl ?_
      show Steps p.tables e below (s₁.setTop (mkF m 14 #[.val (.int p1), .val (.int p2), .val (.int (p2 &&& (2147483647 : Int32))), .val (.int ((200 : Int32) + ((p2 &&& (2147483647 : Int32)) % (100 : Int32)))), .unset, .unset, .unset, .unset, .unset, .unset, .unset] [])) _
      refine XS.sipush X0.here hx rfl (hb hby at_14) ?_
      show Steps p.tables e below (s₁.setTop (mkF m 17 #[.val (.int p1), .val (.int p2), .val (.int (p2 &&& (2147483647 : Int32))), .val (.int ((200 : Int32) + ((p2 &&& (2147483647 : Int32)) % (100 : Int32)))), .unset, .unset, .unset, .unset, .unset, .unset, .unset] [(.int (300 : Int32))])) _
      refine XS.iloadN X0.here hx rfl (hb hby at_17) rfl ?_
      show Steps p.tables e below (s₁.setTop (mkF m 18 #[.val (.int p1), .val (.int p2), .val (.int (p2 &&& (2147483647 : Int32))), .val (.int ((200 : Int32) + ((p2 &&& (2147483647 : Int32)) % (100 : Int32)))), .unset, .unset, .unset, .unset, .unset, .unset, .unset] [(.int (p2 &&& (2147483647 : Int32))), (.int (300 : Int32))])) _
      refine XS.sipush X0.here hx rfl (hb hby at_18) ?_
      show Steps p.tables e below (s₁.setTop (mkF m 21 #[.val (.int p1), .val (.int p2), .val (.int (p2 &&& (2147483647 : Int32))), .val (.int ((200 : Int32) + ((p2 &&& (2147483647 : Int32)) % (100 : Int32)))), .unset, .unset, .unset, .unset, .unset, .unset, .unset] [(.int (1000 : Int32)), (.int (p2 &&& (2147483647 : Int32))), (.int (300 : Int32))])) _
      refine iremM X0 hx rfl (hb hby at_21) rfl (by decide) ?_
      show Steps p.tables e below (s₁.setTop (mkF m 22 #[.val (.int p1), .val (.int p2), .val (.int (p2 &&& (2147483647 : Int32))), .val (.int ((200 : Int32) + ((p2 &&& (2147483647 : Int32)) % (100 : Int32)))), .unset, .unset, .unset, .unset, .unset, .unset, .unset] [(.int ((p2 &&& (2147483647 : Int32)) % (1000 : Int32))), (.int (300 : Int32))])) _
      refine XS.iadd X0.here hx rfl (hb hby at_22) rfl ?_
      show Steps p.tables e below (s₁.setTop (mkF m 23 #[.val (.int p1), .val (.int p2), .val (.int (p2 &&& (2147483647 : Int32))), .val (.int ((200 : Int32) + ((p2 &&& (2147483647 : Int32)) % (100 : Int32)))), .unset, .unset, .unset, .unset, .unset, .unset, .unset] [(.int ((300 : Int32) + ((p2 &&& (2147483647 : Int32)) % (1000 : Int32))))])) _
      refine XS.istore X0.here hx rfl (hb hby at_23) rfl (l' := #[.val (.int p1), .val (.int p2), .val (.int (p2 &&& (2147483647 : Int32))), .val (.int ((200 : Int32) + ((p2 &&& (2147483647 : Int32)) % (100 : Int32)))), .val (.int ((300 : Int32) + ((p2 &&& (2147483647 : Int32)) % (1000 : Int32)))), .unset, .unset, .unset, .unset, .unset, .unset]) rfl ?_
      show Steps p.tables e below (s₁.setTop (mkF m 25 #[.val (.int p1), .val (.int p2), .val (.int (p2 &&& (2147483647 : Int32))), .val (.int ((200 : Int32) + ((p2 &&& (2147483647 : Int32)) % (100 : Int32)))), .val (.int ((300 : Int32) + ((p2 &&& (2147483647 : Int32)) % (1000 : Int32)))), .unset, .unset, .unset, .unset, .unset, .unset] [])) _
      refine XS.sipush X0.here hx rfl (hb hby at_25) ?_
      show Steps p.tables e below (s₁.setTop (mkF m 28 #[.val (.int p1), .val (.int p2), .val (.int (p2 &&& (2147483647 : Int32))), .val (.int ((200 : Int32) + ((p2 &&& (2147483647 : Int32)) % (100 : Int32)))), .val (.int ((300 : Int32) + ((p2 &&& (2147483647 : Int32)) % (1000 : Int32)))), .unset, .unset, .unset, .unset, .unset, .unset] [(.int (199 : Int32))])) _
      refine XS.iloadN X0.here hx rfl (hb hby at_28) rfl ?_
      show Steps p.tables e below (s₁.setTop (mkF m 29 #[.val (.int p1), .val (.int p2), .val (.int (p2 &&& (2147483647 : Int32))), .val (.int ((200 : Int32) + ((p2 &&& (2147483647 : Int32)) % (100 : Int32)))), .val (.int ((300 : Int32) + ((p2 &&& (2147483647 : Int32)) % (1000 : Int32)))), .unset, .unset, .unset, .unset, .unset, .unset] [(.int (p2 &&& (2147483647 : Int32))), (.int (199 : Int32))])) _
      refine XS.sipush X0.here hx rfl (hb hby at_29) ?_
      show Steps p.tables e below (s₁.setTop (mkF m 32 #[.val (.int p1), .val (.int p2), .val (.int (p2 &&& (2147483647 : Int32))), .val (.int ((200 : Int32) + ((p2 &&& (2147483647 : Int32)) % (100 : Int32)))), .val (.int ((300 : Int32) + ((p2 &&& (2147483647 : Int32)) % (1000 : Int32)))), .unset, .unset, .unset, .unset, .unset, .unset] [(.int (1000 : Int32)), (.int (p2 &&& (2147483647 : Int32))), (.int (199 : Int32))])) _
      refine iremM X0 hx rfl (hb hby at_32) rfl (by decide) ?_
      show Steps p.tables e below (s₁.setTop (mkF m 33 #[.val (.int p1), .val (.int p2), .val (.int (p2 &&& (2147483647 : Int32))), .val (.int ((200 : Int32) + ((p2 &&& (2147483647 : Int32)) % (100 : Int32)))), .val (.int ((300 : Int32) + ((p2 &&& (2147483647 : Int32)) % (1000 : Int32)))), .unset, .unset, .unset, .unset, .unset, .unset] [(.int ((p2 &&& (2147483647 : Int32)) % (1000 : Int32))), (.int (199 : Int32))])) _
      refine XS.isub X0.here hx rfl (hb hby at_33) rfl ?_
      show Steps p.tables e below (s₁.setTop (mkF m 34 #[.val (.int p1), .val (.int p2), .val (.int (p2 &&& (2147483647 : Int32))), .val (.int ((200 : Int32) + ((p2 &&& (2147483647 : Int32)) % (100 : Int32)))), .val (.int ((300 : Int32) + ((p2 &&& (2147483647 : Int32)) % (1000 : Int32)))), .unset, .unset, .unset, .unset, .unset, .unset] [(.int ((199 : Int32) - ((p2 &&& (2147483647 : Int32)) % (1000 : Int32))))])) _
      refine XS.istore X0.here hx rfl (hb hby at_34) rfl (l' := #[.val (.int p1), .val (.int p2), .val (.int (p2 &&& (2147483647 : Int32))), .val (.int ((200 : Int32) + ((p2 &&& (2147483647 : Int32)) % (100 : Int32)))), .val (.int ((300 : Int32) + ((p2 &&& (2147483647 : Int32)) % (1000 : Int32)))), .val (.int ((199 : Int32) - ((p2 &&& (2147483647 : Int32)) % (1000 : Int32)))), .unset, .unset, .unset, .unset, .unset]) rfl ?_
      show Steps p.tables e below (s₁.setTop (mkF m 36 #[.val (.int p1), .val (.int p2), .val (.int (p2 &&& (2147483647 : Int32))), .val (.int ((200 : Int32) + ((p2 &&& (2147483647 : Int32)) % (100 : Int32)))), .val (.int ((300 : Int32) + ((p2 &&& (2147483647 : Int32)) % (1000 : Int32)))), .val (.int ((199 : Int32) - ((p2 &&& (2147483647 : Int32)) % (1000 : Int32)))), .unset, .unset, .unset, .unset, .unset] [])) _
      refine XS.iloadN X0.here hx rfl (hb hby at_36) rfl ?_
      exact q)
  obtain ⟨_, _, ⟨T2, L2, kk2, nn2⟩, -, X2, ⟨Lc2, hQ2, l2, y2, z2⟩, st2⟩ := Jvm.LawKit.callS X0 hx (y := (⟨"com/example/quayhook/quayhook/Outcome", "of", "(I)Lcom/example/quayhook/quayhook/Outcome;"⟩ : MethodName)) hown (mvT hZ (hw _ (List.mem_of_getElem? (i := 1) rfl))) (mvT hZ (hw _ (List.mem_of_getElem? (i := 2) rfl))) (mvT hZ (hw _ (List.mem_of_getElem? (i := 3) rfl))) (mvT hZ (hw _ (List.mem_of_getElem? (i := 4) rfl))) (by decide) (backOf (W := 0) (rm1 l Z a0 hw [] p1 wO wE r0 h0 n0 Z0 S_OK S_ERROR (hr0)) hZ (hw _ (List.mem_of_getElem? (i := 4) rfl)) (hw _ (List.mem_of_getElem? (i := 3) rfl)) (by decide) (by decide)) (g := (mkF m 37 #[.val (.int p1), .val (.int p2), .val (.int (p2 &&& (2147483647 : Int32))), .val (.int ((200 : Int32) + ((p2 &&& (2147483647 : Int32)) % (100 : Int32)))), .val (.int ((300 : Int32) + ((p2 &&& (2147483647 : Int32)) % (1000 : Int32)))), .val (.int ((199 : Int32) - ((p2 &&& (2147483647 : Int32)) % (1000 : Int32)))), .unset, .unset, .unset, .unset, .unset] [(.int p1)])) rfl (by rw [hml]; rfl) (argsL := [(.int p1)]) (rest := []) (lenOf pd__I_Lcom_example_quayhook_quayhook_Outcome_ rfl) rfl (by show 2 * 0 + _ ≤ _; exact Nat.le_of_eq rfl) (hb hby at_37) (fun _ _ => ⟨rfl, e0, (by decide : 0 + 0 ≤ _), (by decide : 0 + 0 ≤ _)⟩)
  dsimp only [Pt.U, Pt.locs, Pt.cells, Pt.slots] at X2 l2 y2 z2 st2 hQ2
  subst l2 y2 z2
  obtain ⟨rfl, N2q, e2⟩ := hQ2
  have N2 := Fr.app N0 N2q
  have k3 : ∀ t, Steps p.tables e below (T2.setTop (mkF m 40 #[.val (.int p1), .val (.int p2), .val (.int (p2 &&& (2147483647 : Int32))), .val (.int ((200 : Int32) + ((p2 &&& (2147483647 : Int32)) % (100 : Int32)))), .val (.int ((300 : Int32) + ((p2 &&& (2147483647 : Int32)) % (1000 : Int32)))), .val (.int ((199 : Int32) - ((p2 &&& (2147483647 : Int32)) % (1000 : Int32)))), .unset, .unset, .unset, .unset, .unset] [(.ref r0)])) t → Steps p.tables e below (s₁.setTop (entryFrame m #[(.int p1), (.int p2)] maxLocals)) t := fun t q => k1 t (st2 t q)
  have k4 : ∀ t, Steps p.tables e below (T2.setTop (mkF m 41 #[.val (.int p1), .val (.int p2), .val (.int (p2 &&& (2147483647 : Int32))), .val (.int ((200 : Int32) + ((p2 &&& (2147483647 : Int32)) % (100 : Int32)))), .val (.int ((300 : Int32) + ((p2 &&& (2147483647 : Int32)) % (1000 : Int32)))), .val (.int ((199 : Int32) - ((p2 &&& (2147483647 : Int32)) % (1000 : Int32)))), .unset, .unset, .unset, .unset, .unset] [(.int p1), (.ref r0)])) t → Steps p.tables e below (s₁.setTop (entryFrame m #[(.int p1), (.int p2)] maxLocals)) t := fun t q => k3 t (by
      show Steps p.tables e below (T2.setTop (mkF m 40 #[.val (.int p1), .val (.int p2), .val (.int (p2 &&& (2147483647 : Int32))), .val (.int ((200 : Int32) + ((p2 &&& (2147483647 : Int32)) % (100 : Int32)))), .val (.int ((300 : Int32) + ((p2 &&& (2147483647 : Int32)) % (1000 : Int32)))), .val (.int ((199 : Int32) - ((p2 &&& (2147483647 : Int32)) % (1000 : Int32)))), .unset, .unset, .unset, .unset, .unset] [(.ref r0)])) _
      refine XS.iloadN X2.here hx rfl (hb hby at_40) rfl ?_
      exact q)
  obtain ⟨_, _, ⟨T5, L5, kk5, nn5⟩, -, X5, ⟨Lc5, hQ5, l5, y5, z5⟩, st5⟩ := Jvm.LawKit.callS X2 hx (y := (⟨"com/example/quayhook/quayhook/OutcomeOfPinLaw", "expected", "(I)Lcom/example/quayhook/quayhook/Outcome;"⟩ : MethodName)) hown (mvT hZ (hw _ (List.mem_of_getElem? (i := 7) rfl))) (mvT hZ (hw _ (List.mem_of_getElem? (i := 8) rfl))) (mvT hZ (hw _ (List.mem_of_getElem? (i := 9) rfl))) (mvT hZ (hw _ (List.mem_of_getElem? (i := 10) rfl))) (by decide) (backOf (W := 1) (rm2 l Z a0 hw [] p1 wO wE r0 h0 n0 Z0 S_OK S_ERROR ((own_pick p1 wO wE).symm.trans hr0)) hZ (hw _ (List.mem_of_getElem? (i := 10) rfl)) (hw _ (List.mem_of_getElem? (i := 9) rfl)) (by decide) (by decide)) (g := (mkF m 41 #[.val (.int p1), .val (.int p2), .val (.int (p2 &&& (2147483647 : Int32))), .val (.int ((200 : Int32) + ((p2 &&& (2147483647 : Int32)) % (100 : Int32)))), .val (.int ((300 : Int32) + ((p2 &&& (2147483647 : Int32)) % (1000 : Int32)))), .val (.int ((199 : Int32) - ((p2 &&& (2147483647 : Int32)) % (1000 : Int32)))), .unset, .unset, .unset, .unset, .unset] [(.int p1), (.ref r0)])) rfl (by rw [hml]; rfl) (argsL := [(.int p1)]) (rest := [(.ref r0)]) (lenOf pd__I_Lcom_example_quayhook_quayhook_Outcome_ rfl) rfl (by show 2 * 0 + _ ≤ _; exact Nat.le_of_eq rfl) (hb hby at_41) (fun _ _ => ⟨rfl, e2, (by decide : 0 + 0 + 0 ≤ _), (by decide : 0 + 0 + 0 ≤ _)⟩)
  dsimp only [Pt.U, Pt.locs, Pt.cells, Pt.slots] at X5 l5 y5 z5 st5 hQ5
  subst l5 y5 z5
  obtain ⟨rfl, N5q, e5⟩ := hQ5
  have N5 := Fr.app N2 N5q
  have k6 : ∀ t, Steps p.tables e below (T5.setTop (mkF m 44 #[.val (.int p1), .val (.int p2), .val (.int (p2 &&& (2147483647 : Int32))), .val (.int ((200 : Int32) + ((p2 &&& (2147483647 : Int32)) % (100 : Int32)))), .val (.int ((300 : Int32) + ((p2 &&& (2147483647 : Int32)) % (1000 : Int32)))), .val (.int ((199 : Int32) - ((p2 &&& (2147483647 : Int32)) % (1000 : Int32)))), .unset, .unset, .unset, .unset, .unset] [(.ref r0), (.ref r0)])) t → Steps p.tables e below (s₁.setTop (entryFrame m #[(.int p1), (.int p2)] maxLocals)) t := fun t q => k4 t (st5 t q)
  have k7 : ∀ t, Steps p.tables e below (T5.setTop (mkF m 55 #[.val (.int p1), .val (.int p2), .val (.int (p2 &&& (2147483647 : Int32))), .val (.int ((200 : Int32) + ((p2 &&& (2147483647 : Int32)) % (100 : Int32)))), .val (.int ((300 : Int32) + ((p2 &&& (2147483647 : Int32)) % (1000 : Int32)))), .val (.int ((199 : Int32) - ((p2 &&& (2147483647 : Int32)) % (1000 : Int32)))), .val (.int (1 : Int32)), .unset, .unset, .unset, .unset] [(.int ((200 : Int32) + ((p2 &&& (2147483647 : Int32)) % (100 : Int32))))])) t → Steps p.tables e below (s₁.setTop (entryFrame m #[(.int p1), (.int p2)] maxLocals)) t := fun t q => k6 t (by
      show Steps p.tables e below (T5.setTop (mkF m 44 #[.val (.int p1), .val (.int p2), .val (.int (p2 &&& (2147483647 : Int32))), .val (.int ((200 : Int32) + ((p2 &&& (2147483647 : Int32)) % (100 : Int32)))), .val (.int ((300 : Int32) + ((p2 &&& (2147483647 : Int32)) % (1000 : Int32)))), .val (.int ((199 : Int32) - ((p2 &&& (2147483647 : Int32)) % (1000 : Int32)))), .unset, .unset, .unset, .unset, .unset] [(.ref r0), (.ref r0)])) _
      refine Jvm.RoadKit.acmp (g := (mkF m 44 #[.val (.int p1), .val (.int p2), .val (.int (p2 &&& (2147483647 : Int32))), .val (.int ((200 : Int32) + ((p2 &&& (2147483647 : Int32)) % (100 : Int32)))), .val (.int ((300 : Int32) + ((p2 &&& (2147483647 : Int32)) % (1000 : Int32)))), .val (.int ((199 : Int32) - ((p2 &&& (2147483647 : Int32)) % (1000 : Int32)))), .unset, .unset, .unset, .unset, .unset] [(.ref r0), (.ref r0)])) X5 hx rfl rfl rfl (pc0 := 44) (pc' := 47) (same := true) rfl (hb hby at_44) rfl (decide_eq_true rfl) (by decide) (by decide) ?_
      show Steps p.tables e below (T5.setTop (mkF m 47 #[.val (.int p1), .val (.int p2), .val (.int (p2 &&& (2147483647 : Int32))), .val (.int ((200 : Int32) + ((p2 &&& (2147483647 : Int32)) % (100 : Int32)))), .val (.int ((300 : Int32) + ((p2 &&& (2147483647 : Int32)) % (1000 : Int32)))), .val (.int ((199 : Int32) - ((p2 &&& (2147483647 : Int32)) % (1000 : Int32)))), .unset, .unset, .unset, .unset, .unset] [])) _
      refine XS.iconst X5.here hx rfl (hb hby at_47) ?_
      show Steps p.tables e below (T5.setTop (mkF m 48 #[.val (.int p1), .val (.int p2), .val (.int (p2 &&& (2147483647 : Int32))), .val (.int ((200 : Int32) + ((p2 &&& (2147483647 : Int32)) % (100 : Int32)))), .val (.int ((300 : Int32) + ((p2 &&& (2147483647 : Int32)) % (1000 : Int32)))), .val (.int ((199 : Int32) - ((p2 &&& (2147483647 : Int32)) % (1000 : Int32)))), .unset, .unset, .unset, .unset, .unset] [(.int (1 : Int32))])) _
      refine XS.goto X5.here hx rfl (pc0 := 48) (pc' := 52) rfl (hb hby at_48) (by decide) (by decide) ?_
      show Steps p.tables e below (T5.setTop (mkF m 52 #[.val (.int p1), .val (.int p2), .val (.int (p2 &&& (2147483647 : Int32))), .val (.int ((200 : Int32) + ((p2 &&& (2147483647 : Int32)) % (100 : Int32)))), .val (.int ((300 : Int32) + ((p2 &&& (2147483647 : Int32)) % (1000 : Int32)))), .val (.int ((199 : Int32) - ((p2 &&& (2147483647 : Int32)) % (1000 : Int32)))), .unset, .unset, .unset, .unset, .unset] [(.int (1 : Int32))])) _
      refine XS.istore X5.here hx rfl (hb hby at_52) rfl (l' := #[.val (.int p1), .val (.int p2), .val (.int (p2 &&& (2147483647 : Int32))), .val (.int ((200 : Int32) + ((p2 &&& (2147483647 : Int32)) % (100 : Int32)))), .val (.int ((300 : Int32) + ((p2 &&& (2147483647 : Int32)) % (1000 : Int32)))), .val (.int ((199 : Int32) - ((p2 &&& (2147483647 : Int32)) % (1000 : Int32)))), .val (.int (1 : Int32)), .unset, .unset, .unset, .unset]) rfl ?_
      show Steps p.tables e below (T5.setTop (mkF m 54 #[.val (.int p1), .val (.int p2), .val (.int (p2 &&& (2147483647 : Int32))), .val (.int ((200 : Int32) + ((p2 &&& (2147483647 : Int32)) % (100 : Int32)))), .val (.int ((300 : Int32) + ((p2 &&& (2147483647 : Int32)) % (1000 : Int32)))), .val (.int ((199 : Int32) - ((p2 &&& (2147483647 : Int32)) % (1000 : Int32)))), .val (.int (1 : Int32)), .unset, .unset, .unset, .unset] [])) _
      refine XS.iloadN X5.here hx rfl (hb hby at_54) rfl ?_
      exact q)
  obtain ⟨_, _, ⟨T8, L8, kk8, nn8⟩, -, X8, ⟨Lc8, hQ8, l8, y8, z8⟩, st8⟩ := Jvm.LawKit.callS X5 hx (y := (⟨"com/example/quayhook/quayhook/Outcome", "of", "(I)Lcom/example/quayhook/quayhook/Outcome;"⟩ : MethodName)) hown (mvT hZ (hw _ (List.mem_of_getElem? (i := 1) rfl))) (mvT hZ (hw _ (List.mem_of_getElem? (i := 2) rfl))) (mvT hZ (hw _ (List.mem_of_getElem? (i := 3) rfl))) (mvT hZ (hw _ (List.mem_of_getElem? (i := 4) rfl))) (by decide) (backOf (W := 0) (rm1 l Z a0 hw [] ((200 : Int32) + ((p2 &&& (2147483647 : Int32)) % (100 : Int32))) wO wE wO h0 n0 Z0 S_OK S_ERROR (own_in p2 wO wE)) hZ (hw _ (List.mem_of_getElem? (i := 4) rfl)) (hw _ (List.mem_of_getElem? (i := 3) rfl)) (by decide) (by decide)) (g := (mkF m 55 #[.val (.int p1), .val (.int p2), .val (.int (p2 &&& (2147483647 : Int32))), .val (.int ((200 : Int32) + ((p2 &&& (2147483647 : Int32)) % (100 : Int32)))), .val (.int ((300 : Int32) + ((p2 &&& (2147483647 : Int32)) % (1000 : Int32)))), .val (.int ((199 : Int32) - ((p2 &&& (2147483647 : Int32)) % (1000 : Int32)))), .val (.int (1 : Int32)), .unset, .unset, .unset, .unset] [(.int ((200 : Int32) + ((p2 &&& (2147483647 : Int32)) % (100 : Int32))))])) rfl (by rw [hml]; rfl) (argsL := [(.int ((200 : Int32) + ((p2 &&& (2147483647 : Int32)) % (100 : Int32))))]) (rest := []) (lenOf pd__I_Lcom_example_quayhook_quayhook_Outcome_ rfl) rfl (by show 2 * 0 + _ ≤ _; exact Nat.le_of_eq rfl) (hb hby at_55) (fun _ _ => ⟨rfl, e5, (by decide : 0 + 0 + 0 + 0 ≤ _), (by decide : 0 + 0 + 0 + 0 ≤ _)⟩)
  dsimp only [Pt.U, Pt.locs, Pt.cells, Pt.slots] at X8 l8 y8 z8 st8 hQ8
  subst l8 y8 z8
  obtain ⟨rfl, N8q, e8⟩ := hQ8
  have N8 := Fr.app N5 N8q
  have k9 : ∀ t, Steps p.tables e below (T8.setTop (mkF m 58 #[.val (.int p1), .val (.int p2), .val (.int (p2 &&& (2147483647 : Int32))), .val (.int ((200 : Int32) + ((p2 &&& (2147483647 : Int32)) % (100 : Int32)))), .val (.int ((300 : Int32) + ((p2 &&& (2147483647 : Int32)) % (1000 : Int32)))), .val (.int ((199 : Int32) - ((p2 &&& (2147483647 : Int32)) % (1000 : Int32)))), .val (.int (1 : Int32)), .unset, .unset, .unset, .unset] [(.ref wO)])) t → Steps p.tables e below (s₁.setTop (entryFrame m #[(.int p1), (.int p2)] maxLocals)) t := fun t q => k7 t (st8 t q)
  obtain ⟨T10, X10, e10, st10⟩ := getS2 X8 hx hZ hown (host := "") (Or.inl (hw _ (List.mem_of_getElem? (i := 14) rfl))) Via.refl e8 (S_OK) (g := (mkF m 58 #[.val (.int p1), .val (.int p2), .val (.int (p2 &&& (2147483647 : Int32))), .val (.int ((200 : Int32) + ((p2 &&& (2147483647 : Int32)) % (100 : Int32)))), .val (.int ((300 : Int32) + ((p2 &&& (2147483647 : Int32)) % (1000 : Int32)))), .val (.int ((199 : Int32) - ((p2 &&& (2147483647 : Int32)) % (1000 : Int32)))), .val (.int (1 : Int32)), .unset, .unset, .unset, .unset] [(.ref wO)])) rfl (hb hby at_58)
  have k11 : ∀ t, Steps p.tables e below (T10.setTop (mkF m 61 #[.val (.int p1), .val (.int p2), .val (.int (p2 &&& (2147483647 : Int32))), .val (.int ((200 : Int32) + ((p2 &&& (2147483647 : Int32)) % (100 : Int32)))), .val (.int ((300 : Int32) + ((p2 &&& (2147483647 : Int32)) % (1000 : Int32)))), .val (.int ((199 : Int32) - ((p2 &&& (2147483647 : Int32)) % (1000 : Int32)))), .val (.int (1 : Int32)), .unset, .unset, .unset, .unset] [(.ref wO), (.ref wO)])) t → Steps p.tables e below (s₁.setTop (entryFrame m #[(.int p1), (.int p2)] maxLocals)) t := fun t q => k9 t (st10 t q)
  have k12 : ∀ t, Steps p.tables e below (T10.setTop (mkF m 73 #[.val (.int p1), .val (.int p2), .val (.int (p2 &&& (2147483647 : Int32))), .val (.int ((200 : Int32) + ((p2 &&& (2147483647 : Int32)) % (100 : Int32)))), .val (.int ((300 : Int32) + ((p2 &&& (2147483647 : Int32)) % (1000 : Int32)))), .val (.int ((199 : Int32) - ((p2 &&& (2147483647 : Int32)) % (1000 : Int32)))), .val (.int (1 : Int32)), .val (.int (1 : Int32)), .unset, .unset, .unset] [(.int ((300 : Int32) + ((p2 &&& (2147483647 : Int32)) % (1000 : Int32))))])) t → Steps p.tables e below (s₁.setTop (entryFrame m #[(.int p1), (.int p2)] maxLocals)) t := fun t q => k11 t (by
      show Steps p.tables e below (T10.setTop (mkF m 61 #[.val (.int p1), .val (.int p2), .val (.int (p2 &&& (2147483647 : Int32))), .val (.int ((200 : Int32) + ((p2 &&& (2147483647 : Int32)) % (100 : Int32)))), .val (.int ((300 : Int32) + ((p2 &&& (2147483647 : Int32)) % (1000 : Int32)))), .val (.int ((199 : Int32) - ((p2 &&& (2147483647 : Int32)) % (1000 : Int32)))), .val (.int (1 : Int32)), .unset, .unset, .unset, .unset] [(.ref wO), (.ref wO)])) _
      refine Jvm.RoadKit.acmp (g := (mkF m 61 #[.val (.int p1), .val (.int p2), .val (.int (p2 &&& (2147483647 : Int32))), .val (.int ((200 : Int32) + ((p2 &&& (2147483647 : Int32)) % (100 : Int32)))), .val (.int ((300 : Int32) + ((p2 &&& (2147483647 : Int32)) % (1000 : Int32)))), .val (.int ((199 : Int32) - ((p2 &&& (2147483647 : Int32)) % (1000 : Int32)))), .val (.int (1 : Int32)), .unset, .unset, .unset, .unset] [(.ref wO), (.ref wO)])) X10 hx rfl rfl rfl (pc0 := 61) (pc' := 64) (same := true) rfl (hb hby at_61) rfl (decide_eq_true rfl) (by decide) (by decide) ?_
      show Steps p.tables e below (T10.setTop (mkF m 64 #[.val (.int p1), .val (.int p2), .val (.int (p2 &&& (2147483647 : Int32))), .val (.int ((200 : Int32) + ((p2 &&& (2147483647 : Int32)) % (100 : Int32)))), .val (.int ((300 : Int32) + ((p2 &&& (2147483647 : Int32)) % (1000 : Int32)))), .val (.int ((199 : Int32) - ((p2 &&& (2147483647 : Int32)) % (1000 : Int32)))), .val (.int (1 : Int32)), .unset, .unset, .unset, .unset] [])) _
      refine XS.iconst X10.here hx rfl (hb hby at_64) ?_
      show Steps p.tables e below (T10.setTop (mkF m 65 #[.val (.int p1), .val (.int p2), .val (.int (p2 &&& (2147483647 : Int32))), .val (.int ((200 : Int32) + ((p2 &&& (2147483647 : Int32)) % (100 : Int32)))), .val (.int ((300 : Int32) + ((p2 &&& (2147483647 : Int32)) % (1000 : Int32)))), .val (.int ((199 : Int32) - ((p2 &&& (2147483647 : Int32)) % (1000 : Int32)))), .val (.int (1 : Int32)), .unset, .unset, .unset, .unset] [(.int (1 : Int32))])) _
      refine XS.goto X10.here hx rfl (pc0 := 65) (pc' := 69) rfl (hb hby at_65) (by decide) (by decide) ?_
      show Steps p.tables e below (T10.setTop (mkF m 69 #[.val (.int p1), .val (.int p2), .val (.int (p2 &&& (2147483647 : Int32))), .val (.int ((200 : Int32) + ((p2 &&& (2147483647 : Int32)) % (100 : Int32)))), .val (.int ((300 : Int32) + ((p2 &&& (2147483647 : Int32)) % (1000 : Int32)))), .val (.int ((199 : Int32) - ((p2 &&& (2147483647 : Int32)) % (1000 : Int32)))), .val (.int (1 : Int32)), .unset, .unset, .unset, .unset] [(.int (1 : Int32))])) _
      refine XS.istore X10.here hx rfl (hb hby at_69) rfl (l' := #[.val (.int p1), .val (.int p2), .val (.int (p2 &&& (2147483647 : Int32))), .val (.int ((200 : Int32) + ((p2 &&& (2147483647 : Int32)) % (100 : Int32)))), .val (.int ((300 : Int32) + ((p2 &&& (2147483647 : Int32)) % (1000 : Int32)))), .val (.int ((199 : Int32) - ((p2 &&& (2147483647 : Int32)) % (1000 : Int32)))), .val (.int (1 : Int32)), .val (.int (1 : Int32)), .unset, .unset, .unset]) rfl ?_
      show Steps p.tables e below (T10.setTop (mkF m 71 #[.val (.int p1), .val (.int p2), .val (.int (p2 &&& (2147483647 : Int32))), .val (.int ((200 : Int32) + ((p2 &&& (2147483647 : Int32)) % (100 : Int32)))), .val (.int ((300 : Int32) + ((p2 &&& (2147483647 : Int32)) % (1000 : Int32)))), .val (.int ((199 : Int32) - ((p2 &&& (2147483647 : Int32)) % (1000 : Int32)))), .val (.int (1 : Int32)), .val (.int (1 : Int32)), .unset, .unset, .unset] [])) _
      refine XS.iload X10.here hx rfl (hb hby at_71) rfl ?_
      exact q)
  obtain ⟨_, _, ⟨T13, L13, kk13, nn13⟩, -, X13, ⟨Lc13, hQ13, l13, y13, z13⟩, st13⟩ := Jvm.LawKit.callS X10 hx (y := (⟨"com/example/quayhook/quayhook/Outcome", "of", "(I)Lcom/example/quayhook/quayhook/Outcome;"⟩ : MethodName)) hown (mvT hZ (hw _ (List.mem_of_getElem? (i := 1) rfl))) (mvT hZ (hw _ (List.mem_of_getElem? (i := 2) rfl))) (mvT hZ (hw _ (List.mem_of_getElem? (i := 3) rfl))) (mvT hZ (hw _ (List.mem_of_getElem? (i := 4) rfl))) (by decide) (backOf (W := 0) (rm1 l Z a0 hw [] ((300 : Int32) + ((p2 &&& (2147483647 : Int32)) % (1000 : Int32))) wO wE wE h0 n0 Z0 S_OK S_ERROR (own_up p2 wO wE)) hZ (hw _ (List.mem_of_getElem? (i := 4) rfl)) (hw _ (List.mem_of_getElem? (i := 3) rfl)) (by decide) (by decide)) (g := (mkF m 73 #[.val (.int p1), .val (.int p2), .val (.int (p2 &&& (2147483647 : Int32))), .val (.int ((200 : Int32) + ((p2 &&& (2147483647 : Int32)) % (100 : Int32)))), .val (.int ((300 : Int32) + ((p2 &&& (2147483647 : Int32)) % (1000 : Int32)))), .val (.int ((199 : Int32) - ((p2 &&& (2147483647 : Int32)) % (1000 : Int32)))), .val (.int (1 : Int32)), .val (.int (1 : Int32)), .unset, .unset, .unset] [(.int ((300 : Int32) + ((p2 &&& (2147483647 : Int32)) % (1000 : Int32))))])) rfl (by rw [hml]; rfl) (argsL := [(.int ((300 : Int32) + ((p2 &&& (2147483647 : Int32)) % (1000 : Int32))))]) (rest := []) (lenOf pd__I_Lcom_example_quayhook_quayhook_Outcome_ rfl) rfl (by show 2 * 0 + _ ≤ _; exact Nat.le_of_eq rfl) (hb hby at_73) (fun _ _ => ⟨rfl, e10, (by decide : 0 + 0 + 0 + 0 + 0 ≤ _), (by decide : 0 + 0 + 0 + 0 + 0 ≤ _)⟩)
  dsimp only [Pt.U, Pt.locs, Pt.cells, Pt.slots] at X13 l13 y13 z13 st13 hQ13
  subst l13 y13 z13
  obtain ⟨rfl, N13q, e13⟩ := hQ13
  have N13 := Fr.app N8 N13q
  have k14 : ∀ t, Steps p.tables e below (T13.setTop (mkF m 76 #[.val (.int p1), .val (.int p2), .val (.int (p2 &&& (2147483647 : Int32))), .val (.int ((200 : Int32) + ((p2 &&& (2147483647 : Int32)) % (100 : Int32)))), .val (.int ((300 : Int32) + ((p2 &&& (2147483647 : Int32)) % (1000 : Int32)))), .val (.int ((199 : Int32) - ((p2 &&& (2147483647 : Int32)) % (1000 : Int32)))), .val (.int (1 : Int32)), .val (.int (1 : Int32)), .unset, .unset, .unset] [(.ref wE)])) t → Steps p.tables e below (s₁.setTop (entryFrame m #[(.int p1), (.int p2)] maxLocals)) t := fun t q => k12 t (st13 t q)
  obtain ⟨T15, X15, e15, st15⟩ := getS2 X13 hx hZ hown (host := "") (Or.inl (hw _ (List.mem_of_getElem? (i := 11) rfl))) Via.refl e13 (S_ERROR) (g := (mkF m 76 #[.val (.int p1), .val (.int p2), .val (.int (p2 &&& (2147483647 : Int32))), .val (.int ((200 : Int32) + ((p2 &&& (2147483647 : Int32)) % (100 : Int32)))), .val (.int ((300 : Int32) + ((p2 &&& (2147483647 : Int32)) % (1000 : Int32)))), .val (.int ((199 : Int32) - ((p2 &&& (2147483647 : Int32)) % (1000 : Int32)))), .val (.int (1 : Int32)), .val (.int (1 : Int32)), .unset, .unset, .unset] [(.ref wE)])) rfl (hb hby at_76)
  have k16 : ∀ t, Steps p.tables e below (T15.setTop (mkF m 79 #[.val (.int p1), .val (.int p2), .val (.int (p2 &&& (2147483647 : Int32))), .val (.int ((200 : Int32) + ((p2 &&& (2147483647 : Int32)) % (100 : Int32)))), .val (.int ((300 : Int32) + ((p2 &&& (2147483647 : Int32)) % (1000 : Int32)))), .val (.int ((199 : Int32) - ((p2 &&& (2147483647 : Int32)) % (1000 : Int32)))), .val (.int (1 : Int32)), .val (.int (1 : Int32)), .unset, .unset, .unset] [(.ref wE), (.ref wE)])) t → Steps p.tables e below (s₁.setTop (entryFrame m #[(.int p1), (.int p2)] maxLocals)) t := fun t q => k14 t (st15 t q)
  have k17 : ∀ t, Steps p.tables e below (T15.setTop (mkF m 91 #[.val (.int p1), .val (.int p2), .val (.int (p2 &&& (2147483647 : Int32))), .val (.int ((200 : Int32) + ((p2 &&& (2147483647 : Int32)) % (100 : Int32)))), .val (.int ((300 : Int32) + ((p2 &&& (2147483647 : Int32)) % (1000 : Int32)))), .val (.int ((199 : Int32) - ((p2 &&& (2147483647 : Int32)) % (1000 : Int32)))), .val (.int (1 : Int32)), .val (.int (1 : Int32)), .val (.int (1 : Int32)), .unset, .unset] [(.int ((199 : Int32) - ((p2 &&& (2147483647 : Int32)) % (1000 : Int32))))])) t → Steps p.tables e below (s₁.setTop (entryFrame m #[(.int p1), (.int p2)] maxLocals)) t := fun t q => k16 t (by
      show Steps p.tables e below (T15.setTop (mkF m 79 #[.val (.int p1), .val (.int p2), .val (.int (p2 &&& (2147483647 : Int32))), .val (.int ((200 : Int32) + ((p2 &&& (2147483647 : Int32)) % (100 : Int32)))), .val (.int ((300 : Int32) + ((p2 &&& (2147483647 : Int32)) % (1000 : Int32)))), .val (.int ((199 : Int32) - ((p2 &&& (2147483647 : Int32)) % (1000 : Int32)))), .val (.int (1 : Int32)), .val (.int (1 : Int32)), .unset, .unset, .unset] [(.ref wE), (.ref wE)])) _
      refine Jvm.RoadKit.acmp (g := (mkF m 79 #[.val (.int p1), .val (.int p2), .val (.int (p2 &&& (2147483647 : Int32))), .val (.int ((200 : Int32) + ((p2 &&& (2147483647 : Int32)) % (100 : Int32)))), .val (.int ((300 : Int32) + ((p2 &&& (2147483647 : Int32)) % (1000 : Int32)))), .val (.int ((199 : Int32) - ((p2 &&& (2147483647 : Int32)) % (1000 : Int32)))), .val (.int (1 : Int32)), .val (.int (1 : Int32)), .unset, .unset, .unset] [(.ref wE), (.ref wE)])) X15 hx rfl rfl rfl (pc0 := 79) (pc' := 82) (same := true) rfl (hb hby at_79) rfl (decide_eq_true rfl) (by decide) (by decide) ?_
      show Steps p.tables e below (T15.setTop (mkF m 82 #[.val (.int p1), .val (.int p2), .val (.int (p2 &&& (2147483647 : Int32))), .val (.int ((200 : Int32) + ((p2 &&& (2147483647 : Int32)) % (100 : Int32)))), .val (.int ((300 : Int32) + ((p2 &&& (2147483647 : Int32)) % (1000 : Int32)))), .val (.int ((199 : Int32) - ((p2 &&& (2147483647 : Int32)) % (1000 : Int32)))), .val (.int (1 : Int32)), .val (.int (1 : Int32)), .unset, .unset, .unset] [])) _
      refine XS.iconst X15.here hx rfl (hb hby at_82) ?_
      show Steps p.tables e below (T15.setTop (mkF m 83 #[.val (.int p1), .val (.int p2), .val (.int (p2 &&& (2147483647 : Int32))), .val (.int ((200 : Int32) + ((p2 &&& (2147483647 : Int32)) % (100 : Int32)))), .val (.int ((300 : Int32) + ((p2 &&& (2147483647 : Int32)) % (1000 : Int32)))), .val (.int ((199 : Int32) - ((p2 &&& (2147483647 : Int32)) % (1000 : Int32)))), .val (.int (1 : Int32)), .val (.int (1 : Int32)), .unset, .unset, .unset] [(.int (1 : Int32))])) _
      refine XS.goto X15.here hx rfl (pc0 := 83) (pc' := 87) rfl (hb hby at_83) (by decide) (by decide) ?_
      show Steps p.tables e below (T15.setTop (mkF m 87 #[.val (.int p1), .val (.int p2), .val (.int (p2 &&& (2147483647 : Int32))), .val (.int ((200 : Int32) + ((p2 &&& (2147483647 : Int32)) % (100 : Int32)))), .val (.int ((300 : Int32) + ((p2 &&& (2147483647 : Int32)) % (1000 : Int32)))), .val (.int ((199 : Int32) - ((p2 &&& (2147483647 : Int32)) % (1000 : Int32)))), .val (.int (1 : Int32)), .val (.int (1 : Int32)), .unset, .unset, .unset] [(.int (1 : Int32))])) _
      refine XS.istore X15.here hx rfl (hb hby at_87) rfl (l' := #[.val (.int p1), .val (.int p2), .val (.int (p2 &&& (2147483647 : Int32))), .val (.int ((200 : Int32) + ((p2 &&& (2147483647 : Int32)) % (100 : Int32)))), .val (.int ((300 : Int32) + ((p2 &&& (2147483647 : Int32)) % (1000 : Int32)))), .val (.int ((199 : Int32) - ((p2 &&& (2147483647 : Int32)) % (1000 : Int32)))), .val (.int (1 : Int32)), .val (.int (1 : Int32)), .val (.int (1 : Int32)), .unset, .unset]) rfl ?_
      show Steps p.tables e below (T15.setTop (mkF m 89 #[.val (.int p1), .val (.int p2), .val (.int (p2 &&& (2147483647 : Int32))), .val (.int ((200 : Int32) + ((p2 &&& (2147483647 : Int32)) % (100 : Int32)))), .val (.int ((300 : Int32) + ((p2 &&& (2147483647 : Int32)) % (1000 : Int32)))), .val (.int ((199 : Int32) - ((p2 &&& (2147483647 : Int32)) % (1000 : Int32)))), .val (.int (1 : Int32)), .val (.int (1 : Int32)), .val (.int (1 : Int32)), .unset, .unset] [])) _
      refine XS.iload X15.here hx rfl (hb hby at_89) rfl ?_
      exact q)
  obtain ⟨_, _, ⟨T18, L18, kk18, nn18⟩, -, X18, ⟨Lc18, hQ18, l18, y18, z18⟩, st18⟩ := Jvm.LawKit.callS X15 hx (y := (⟨"com/example/quayhook/quayhook/Outcome", "of", "(I)Lcom/example/quayhook/quayhook/Outcome;"⟩ : MethodName)) hown (mvT hZ (hw _ (List.mem_of_getElem? (i := 1) rfl))) (mvT hZ (hw _ (List.mem_of_getElem? (i := 2) rfl))) (mvT hZ (hw _ (List.mem_of_getElem? (i := 3) rfl))) (mvT hZ (hw _ (List.mem_of_getElem? (i := 4) rfl))) (by decide) (backOf (W := 0) (rm1 l Z a0 hw [] ((199 : Int32) - ((p2 &&& (2147483647 : Int32)) % (1000 : Int32))) wO wE wE h0 n0 Z0 S_OK S_ERROR (own_down p2 wO wE)) hZ (hw _ (List.mem_of_getElem? (i := 4) rfl)) (hw _ (List.mem_of_getElem? (i := 3) rfl)) (by decide) (by decide)) (g := (mkF m 91 #[.val (.int p1), .val (.int p2), .val (.int (p2 &&& (2147483647 : Int32))), .val (.int ((200 : Int32) + ((p2 &&& (2147483647 : Int32)) % (100 : Int32)))), .val (.int ((300 : Int32) + ((p2 &&& (2147483647 : Int32)) % (1000 : Int32)))), .val (.int ((199 : Int32) - ((p2 &&& (2147483647 : Int32)) % (1000 : Int32)))), .val (.int (1 : Int32)), .val (.int (1 : Int32)), .val (.int (1 : Int32)), .unset, .unset] [(.int ((199 : Int32) - ((p2 &&& (2147483647 : Int32)) % (1000 : Int32))))])) rfl (by rw [hml]; rfl) (argsL := [(.int ((199 : Int32) - ((p2 &&& (2147483647 : Int32)) % (1000 : Int32))))]) (rest := []) (lenOf pd__I_Lcom_example_quayhook_quayhook_Outcome_ rfl) rfl (by show 2 * 0 + _ ≤ _; exact Nat.le_of_eq rfl) (hb hby at_91) (fun _ _ => ⟨rfl, e15, (by decide : 0 + 0 + 0 + 0 + 0 + 0 ≤ _), (by decide : 0 + 0 + 0 + 0 + 0 + 0 ≤ _)⟩)
  dsimp only [Pt.U, Pt.locs, Pt.cells, Pt.slots] at X18 l18 y18 z18 st18 hQ18
  subst l18 y18 z18
  obtain ⟨rfl, N18q, e18⟩ := hQ18
  have N18 := Fr.app N13 N18q
  have k19 : ∀ t, Steps p.tables e below (T18.setTop (mkF m 94 #[.val (.int p1), .val (.int p2), .val (.int (p2 &&& (2147483647 : Int32))), .val (.int ((200 : Int32) + ((p2 &&& (2147483647 : Int32)) % (100 : Int32)))), .val (.int ((300 : Int32) + ((p2 &&& (2147483647 : Int32)) % (1000 : Int32)))), .val (.int ((199 : Int32) - ((p2 &&& (2147483647 : Int32)) % (1000 : Int32)))), .val (.int (1 : Int32)), .val (.int (1 : Int32)), .val (.int (1 : Int32)), .unset, .unset] [(.ref wE)])) t → Steps p.tables e below (s₁.setTop (entryFrame m #[(.int p1), (.int p2)] maxLocals)) t := fun t q => k17 t (st18 t q)
  obtain ⟨T20, X20, e20, st20⟩ := getS2 X18 hx hZ hown (host := "") (Or.inl (hw _ (List.mem_of_getElem? (i := 11) rfl))) Via.refl e18 (S_ERROR) (g := (mkF m 94 #[.val (.int p1), .val (.int p2), .val (.int (p2 &&& (2147483647 : Int32))), .val (.int ((200 : Int32) + ((p2 &&& (2147483647 : Int32)) % (100 : Int32)))), .val (.int ((300 : Int32) + ((p2 &&& (2147483647 : Int32)) % (1000 : Int32)))), .val (.int ((199 : Int32) - ((p2 &&& (2147483647 : Int32)) % (1000 : Int32)))), .val (.int (1 : Int32)), .val (.int (1 : Int32)), .val (.int (1 : Int32)), .unset, .unset] [(.ref wE)])) rfl (hb hby at_94)
  have k21 : ∀ t, Steps p.tables e below (T20.setTop (mkF m 97 #[.val (.int p1), .val (.int p2), .val (.int (p2 &&& (2147483647 : Int32))), .val (.int ((200 : Int32) + ((p2 &&& (2147483647 : Int32)) % (100 : Int32)))), .val (.int ((300 : Int32) + ((p2 &&& (2147483647 : Int32)) % (1000 : Int32)))), .val (.int ((199 : Int32) - ((p2 &&& (2147483647 : Int32)) % (1000 : Int32)))), .val (.int (1 : Int32)), .val (.int (1 : Int32)), .val (.int (1 : Int32)), .unset, .unset] [(.ref wE), (.ref wE)])) t → Steps p.tables e below (s₁.setTop (entryFrame m #[(.int p1), (.int p2)] maxLocals)) t := fun t q => k19 t (st20 t q)
  have k22 : ∀ t, Steps p.tables e below (T20.setTop (mkF m 110 #[.val (.int p1), .val (.int p2), .val (.int (p2 &&& (2147483647 : Int32))), .val (.int ((200 : Int32) + ((p2 &&& (2147483647 : Int32)) % (100 : Int32)))), .val (.int ((300 : Int32) + ((p2 &&& (2147483647 : Int32)) % (1000 : Int32)))), .val (.int ((199 : Int32) - ((p2 &&& (2147483647 : Int32)) % (1000 : Int32)))), .val (.int (1 : Int32)), .val (.int (1 : Int32)), .val (.int (1 : Int32)), .val (.int (1 : Int32)), .unset] [(.int (199 : Int32))])) t → Steps p.tables e below (s₁.setTop (entryFrame m #[(.int p1), (.int p2)] maxLocals)) t := fun t q => k21 t (by
      show Steps p.tables e below (T20.setTop (mkF m 97 #[.val (.int p1), .val (.int p2), .val (.int (p2 &&& (2147483647 : Int32))), .val (.int ((200 : Int32) + ((p2 &&& (2147483647 : Int32)) % (100 : Int32)))), .val (.int ((300 : Int32) + ((p2 &&& (2147483647 : Int32)) % (1000 : Int32)))), .val (.int ((199 : Int32) - ((p2 &&& (2147483647 : Int32)) % (1000 : Int32)))), .val (.int (1 : Int32)), .val (.int (1 : Int32)), .val (.int (1 : Int32)), .unset, .unset] [(.ref wE), (.ref wE)])) _
      refine Jvm.RoadKit.acmp (g := (mkF m 97 #[.val (.int p1), .val (.int p2), .val (.int (p2 &&& (2147483647 : Int32))), .val (.int ((200 : Int32) + ((p2 &&& (2147483647 : Int32)) % (100 : Int32)))), .val (.int ((300 : Int32) + ((p2 &&& (2147483647 : Int32)) % (1000 : Int32)))), .val (.int ((199 : Int32) - ((p2 &&& (2147483647 : Int32)) % (1000 : Int32)))), .val (.int (1 : Int32)), .val (.int (1 : Int32)), .val (.int (1 : Int32)), .unset, .unset] [(.ref wE), (.ref wE)])) X20 hx rfl rfl rfl (pc0 := 97) (pc' := 100) (same := true) rfl (hb hby at_97) rfl (decide_eq_true rfl) (by decide) (by decide) ?_
      show Steps p.tables e below (T20.setTop (mkF m 100 #[.val (.int p1), .val (.int p2), .val (.int (p2 &&& (2147483647 : Int32))), .val (.int ((200 : Int32) + ((p2 &&& (2147483647 : Int32)) % (100 : Int32)))), .val (.int ((300 : Int32) + ((p2 &&& (2147483647 : Int32)) % (1000 : Int32)))), .val (.int ((199 : Int32) - ((p2 &&& (2147483647 : Int32)) % (1000 : Int32)))), .val (.int (1 : Int32)), .val (.int (1 : Int32)), .val (.int (1 : Int32)), .unset, .unset] [])) _
      refine XS.iconst X20.here hx rfl (hb hby at_100) ?_
      show Steps p.tables e below (T20.setTop (mkF m 101 #[.val (.int p1), .val (.int p2), .val (.int (p2 &&& (2147483647 : Int32))), .val (.int ((200 : Int32) + ((p2 &&& (2147483647 : Int32)) % (100 : Int32)))), .val (.int ((300 : Int32) + ((p2 &&& (2147483647 : Int32)) % (1000 : Int32)))), .val (.int ((199 : Int32) - ((p2 &&& (2147483647 : Int32)) % (1000 : Int32)))), .val (.int (1 : Int32)), .val (.int (1 : Int32)), .val (.int (1 : Int32)), .unset, .unset] [(.int (1 : Int32))])) _
      refine XS.goto X20.here hx rfl (pc0 := 101) (pc' := 105) rfl (hb hby at_101) (by decide) (by decide) ?_
      show Steps p.tables e below (T20.setTop (mkF m 105 #[.val (.int p1), .val (.int p2), .val (.int (p2 &&& (2147483647 : Int32))), .val (.int ((200 : Int32) + ((p2 &&& (2147483647 : Int32)) % (100 : Int32)))), .val (.int ((300 : Int32) + ((p2 &&& (2147483647 : Int32)) % (1000 : Int32)))), .val (.int ((199 : Int32) - ((p2 &&& (2147483647 : Int32)) % (1000 : Int32)))), .val (.int (1 : Int32)), .val (.int (1 : Int32)), .val (.int (1 : Int32)), .unset, .unset] [(.int (1 : Int32))])) _
      refine XS.istore X20.here hx rfl (hb hby at_105) rfl (l' := #[.val (.int p1), .val (.int p2), .val (.int (p2 &&& (2147483647 : Int32))), .val (.int ((200 : Int32) + ((p2 &&& (2147483647 : Int32)) % (100 : Int32)))), .val (.int ((300 : Int32) + ((p2 &&& (2147483647 : Int32)) % (1000 : Int32)))), .val (.int ((199 : Int32) - ((p2 &&& (2147483647 : Int32)) % (1000 : Int32)))), .val (.int (1 : Int32)), .val (.int (1 : Int32)), .val (.int (1 : Int32)), .val (.int (1 : Int32)), .unset]) rfl ?_
      show Steps p.tables e below (T20.setTop (mkF m 107 #[.val (.int p1), .val (.int p2), .val (.int (p2 &&& (2147483647 : Int32))), .val (.int ((200 : Int32) + ((p2 &&& (2147483647 : Int32)) % (100 : Int32)))), .val (.int ((300 : Int32) + ((p2 &&& (2147483647 : Int32)) % (1000 : Int32)))), .val (.int ((199 : Int32) - ((p2 &&& (2147483647 : Int32)) % (1000 : Int32)))), .val (.int (1 : Int32)), .val (.int (1 : Int32)), .val (.int (1 : Int32)), .val (.int (1 : Int32)), .unset] [])) _
      refine XS.sipush X20.here hx rfl (hb hby at_107) ?_
      exact q)
  obtain ⟨_, _, ⟨T23, L23, kk23, nn23⟩, -, X23, ⟨Lc23, hQ23, l23, y23, z23⟩, st23⟩ := Jvm.LawKit.callS X20 hx (y := (⟨"com/example/quayhook/quayhook/Outcome", "of", "(I)Lcom/example/quayhook/quayhook/Outcome;"⟩ : MethodName)) hown (mvT hZ (hw _ (List.mem_of_getElem? (i := 1) rfl))) (mvT hZ (hw _ (List.mem_of_getElem? (i := 2) rfl))) (mvT hZ (hw _ (List.mem_of_getElem? (i := 3) rfl))) (mvT hZ (hw _ (List.mem_of_getElem? (i := 4) rfl))) (by decide) (backOf (W := 0) (rm1 l Z a0 hw [] (199 : Int32) wO wE wE h0 n0 Z0 S_OK S_ERROR (rfl)) hZ (hw _ (List.mem_of_getElem? (i := 4) rfl)) (hw _ (List.mem_of_getElem? (i := 3) rfl)) (by decide) (by decide)) (g := (mkF m 110 #[.val (.int p1), .val (.int p2), .val (.int (p2 &&& (2147483647 : Int32))), .val (.int ((200 : Int32) + ((p2 &&& (2147483647 : Int32)) % (100 : Int32)))), .val (.int ((300 : Int32) + ((p2 &&& (2147483647 : Int32)) % (1000 : Int32)))), .val (.int ((199 : Int32) - ((p2 &&& (2147483647 : Int32)) % (1000 : Int32)))), .val (.int (1 : Int32)), .val (.int (1 : Int32)), .val (.int (1 : Int32)), .val (.int (1 : Int32)), .unset] [(.int (199 : Int32))])) rfl (by rw [hml]; rfl) (argsL := [(.int (199 : Int32))]) (rest := []) (lenOf pd__I_Lcom_example_quayhook_quayhook_Outcome_ rfl) rfl (by show 2 * 0 + _ ≤ _; exact Nat.le_of_eq rfl) (hb hby at_110) (fun _ _ => ⟨rfl, e20, (by decide : 0 + 0 + 0 + 0 + 0 + 0 + 0 ≤ _), (by decide : 0 + 0 + 0 + 0 + 0 + 0 + 0 ≤ _)⟩)
  dsimp only [Pt.U, Pt.locs, Pt.cells, Pt.slots] at X23 l23 y23 z23 st23 hQ23
  subst l23 y23 z23
  obtain ⟨rfl, N23q, e23⟩ := hQ23
  have N23 := Fr.app N18 N23q
  have k24 : ∀ t, Steps p.tables e below (T23.setTop (mkF m 113 #[.val (.int p1), .val (.int p2), .val (.int (p2 &&& (2147483647 : Int32))), .val (.int ((200 : Int32) + ((p2 &&& (2147483647 : Int32)) % (100 : Int32)))), .val (.int ((300 : Int32) + ((p2 &&& (2147483647 : Int32)) % (1000 : Int32)))), .val (.int ((199 : Int32) - ((p2 &&& (2147483647 : Int32)) % (1000 : Int32)))), .val (.int (1 : Int32)), .val (.int (1 : Int32)), .val (.int (1 : Int32)), .val (.int (1 : Int32)), .unset] [(.ref wE)])) t → Steps p.tables e below (s₁.setTop (entryFrame m #[(.int p1), (.int p2)] maxLocals)) t := fun t q => k22 t (st23 t q)
  obtain ⟨T25, X25, e25, st25⟩ := getS2 X23 hx hZ hown (host := "") (Or.inl (hw _ (List.mem_of_getElem? (i := 11) rfl))) Via.refl e23 (S_ERROR) (g := (mkF m 113 #[.val (.int p1), .val (.int p2), .val (.int (p2 &&& (2147483647 : Int32))), .val (.int ((200 : Int32) + ((p2 &&& (2147483647 : Int32)) % (100 : Int32)))), .val (.int ((300 : Int32) + ((p2 &&& (2147483647 : Int32)) % (1000 : Int32)))), .val (.int ((199 : Int32) - ((p2 &&& (2147483647 : Int32)) % (1000 : Int32)))), .val (.int (1 : Int32)), .val (.int (1 : Int32)), .val (.int (1 : Int32)), .val (.int (1 : Int32)), .unset] [(.ref wE)])) rfl (hb hby at_113)
  have k26 : ∀ t, Steps p.tables e below (T25.setTop (mkF m 116 #[.val (.int p1), .val (.int p2), .val (.int (p2 &&& (2147483647 : Int32))), .val (.int ((200 : Int32) + ((p2 &&& (2147483647 : Int32)) % (100 : Int32)))), .val (.int ((300 : Int32) + ((p2 &&& (2147483647 : Int32)) % (1000 : Int32)))), .val (.int ((199 : Int32) - ((p2 &&& (2147483647 : Int32)) % (1000 : Int32)))), .val (.int (1 : Int32)), .val (.int (1 : Int32)), .val (.int (1 : Int32)), .val (.int (1 : Int32)), .unset] [(.ref wE), (.ref wE)])) t → Steps p.tables e below (s₁.setTop (entryFrame m #[(.int p1), (.int p2)] maxLocals)) t := fun t q => k24 t (st25 t q)
  have k27 : ∀ t, Steps p.tables e below (T25.setTop (mkF m 122 #[.val (.int p1), .val (.int p2), .val (.int (p2 &&& (2147483647 : Int32))), .val (.int ((200 : Int32) + ((p2 &&& (2147483647 : Int32)) % (100 : Int32)))), .val (.int ((300 : Int32) + ((p2 &&& (2147483647 : Int32)) % (1000 : Int32)))), .val (.int ((199 : Int32) - ((p2 &&& (2147483647 : Int32)) % (1000 : Int32)))), .val (.int (1 : Int32)), .val (.int (1 : Int32)), .val (.int (1 : Int32)), .val (.int (1 : Int32)), .unset] [(.int (200 : Int32))])) t → Steps p.tables e below (s₁.setTop (entryFrame m #[(.int p1), (.int p2)] maxLocals)) t := fun t q => k26 t (by
      show Steps p.tables e below (T25.setTop (mkF m 116 #[.val (.int p1), .val (.int p2), .val (.int (p2 &&& (2147483647 : Int32))), .val (.int ((200 : Int32) + ((p2 &&& (2147483647 : Int32)) % (100 : Int32)))), .val (.int ((300 : Int32) + ((p2 &&& (2147483647 : Int32)) % (1000 : Int32)))), .val (.int ((199 : Int32) - ((p2 &&& (2147483647 : Int32)) % (1000 : Int32)))), .val (.int (1 : Int32)), .val (.int (1 : Int32)), .val (.int (1 : Int32)), .val (.int (1 : Int32)), .unset] [(.ref wE), (.ref wE)])) _
      refine Jvm.RoadKit.acmp (g := (mkF m 116 #[.val (.int p1), .val (.int p2), .val (.int (p2 &&& (2147483647 : Int32))), .val (.int ((200 : Int32) + ((p2 &&& (2147483647 : Int32)) % (100 : Int32)))), .val (.int ((300 : Int32) + ((p2 &&& (2147483647 : Int32)) % (1000 : Int32)))), .val (.int ((199 : Int32) - ((p2 &&& (2147483647 : Int32)) % (1000 : Int32)))), .val (.int (1 : Int32)), .val (.int (1 : Int32)), .val (.int (1 : Int32)), .val (.int (1 : Int32)), .unset] [(.ref wE), (.ref wE)])) X25 hx rfl rfl rfl (pc0 := 116) (pc' := 119) (same := true) rfl (hb hby at_116) rfl (decide_eq_true rfl) (by decide) (by decide) ?_
      show Steps p.tables e below (T25.setTop (mkF m 119 #[.val (.int p1), .val (.int p2), .val (.int (p2 &&& (2147483647 : Int32))), .val (.int ((200 : Int32) + ((p2 &&& (2147483647 : Int32)) % (100 : Int32)))), .val (.int ((300 : Int32) + ((p2 &&& (2147483647 : Int32)) % (1000 : Int32)))), .val (.int ((199 : Int32) - ((p2 &&& (2147483647 : Int32)) % (1000 : Int32)))), .val (.int (1 : Int32)), .val (.int (1 : Int32)), .val (.int (1 : Int32)), .val (.int (1 : Int32)), .unset] [])) _
      refine XS.sipush X25.here hx rfl (hb hby at_119) ?_
      exact q)
  obtain ⟨_, _, ⟨T28, L28, kk28, nn28⟩, -, X28, ⟨Lc28, hQ28, l28, y28, z28⟩, st28⟩ := Jvm.LawKit.callS X25 hx (y := (⟨"com/example/quayhook/quayhook/Outcome", "of", "(I)Lcom/example/quayhook/quayhook/Outcome;"⟩ : MethodName)) hown (mvT hZ (hw _ (List.mem_of_getElem? (i := 1) rfl))) (mvT hZ (hw _ (List.mem_of_getElem? (i := 2) rfl))) (mvT hZ (hw _ (List.mem_of_getElem? (i := 3) rfl))) (mvT hZ (hw _ (List.mem_of_getElem? (i := 4) rfl))) (by decide) (backOf (W := 0) (rm1 l Z a0 hw [] (200 : Int32) wO wE wO h0 n0 Z0 S_OK S_ERROR (rfl)) hZ (hw _ (List.mem_of_getElem? (i := 4) rfl)) (hw _ (List.mem_of_getElem? (i := 3) rfl)) (by decide) (by decide)) (g := (mkF m 122 #[.val (.int p1), .val (.int p2), .val (.int (p2 &&& (2147483647 : Int32))), .val (.int ((200 : Int32) + ((p2 &&& (2147483647 : Int32)) % (100 : Int32)))), .val (.int ((300 : Int32) + ((p2 &&& (2147483647 : Int32)) % (1000 : Int32)))), .val (.int ((199 : Int32) - ((p2 &&& (2147483647 : Int32)) % (1000 : Int32)))), .val (.int (1 : Int32)), .val (.int (1 : Int32)), .val (.int (1 : Int32)), .val (.int (1 : Int32)), .unset] [(.int (200 : Int32))])) rfl (by rw [hml]; rfl) (argsL := [(.int (200 : Int32))]) (rest := []) (lenOf pd__I_Lcom_example_quayhook_quayhook_Outcome_ rfl) rfl (by show 2 * 0 + _ ≤ _; exact Nat.le_of_eq rfl) (hb hby at_122) (fun _ _ => ⟨rfl, e25, (by decide : 0 + 0 + 0 + 0 + 0 + 0 + 0 + 0 ≤ _), (by decide : 0 + 0 + 0 + 0 + 0 + 0 + 0 + 0 ≤ _)⟩)
  dsimp only [Pt.U, Pt.locs, Pt.cells, Pt.slots] at X28 l28 y28 z28 st28 hQ28
  subst l28 y28 z28
  obtain ⟨rfl, N28q, e28⟩ := hQ28
  have N28 := Fr.app N23 N28q
  have k29 : ∀ t, Steps p.tables e below (T28.setTop (mkF m 125 #[.val (.int p1), .val (.int p2), .val (.int (p2 &&& (2147483647 : Int32))), .val (.int ((200 : Int32) + ((p2 &&& (2147483647 : Int32)) % (100 : Int32)))), .val (.int ((300 : Int32) + ((p2 &&& (2147483647 : Int32)) % (1000 : Int32)))), .val (.int ((199 : Int32) - ((p2 &&& (2147483647 : Int32)) % (1000 : Int32)))), .val (.int (1 : Int32)), .val (.int (1 : Int32)), .val (.int (1 : Int32)), .val (.int (1 : Int32)), .unset] [(.ref wO)])) t → Steps p.tables e below (s₁.setTop (entryFrame m #[(.int p1), (.int p2)] maxLocals)) t := fun t q => k27 t (st28 t q)
  obtain ⟨T30, X30, e30, st30⟩ := getS2 X28 hx hZ hown (host := "") (Or.inl (hw _ (List.mem_of_getElem? (i := 14) rfl))) Via.refl e28 (S_OK) (g := (mkF m 125 #[.val (.int p1), .val (.int p2), .val (.int (p2 &&& (2147483647 : Int32))), .val (.int ((200 : Int32) + ((p2 &&& (2147483647 : Int32)) % (100 : Int32)))), .val (.int ((300 : Int32) + ((p2 &&& (2147483647 : Int32)) % (1000 : Int32)))), .val (.int ((199 : Int32) - ((p2 &&& (2147483647 : Int32)) % (1000 : Int32)))), .val (.int (1 : Int32)), .val (.int (1 : Int32)), .val (.int (1 : Int32)), .val (.int (1 : Int32)), .unset] [(.ref wO)])) rfl (hb hby at_125)
  have k31 : ∀ t, Steps p.tables e below (T30.setTop (mkF m 128 #[.val (.int p1), .val (.int p2), .val (.int (p2 &&& (2147483647 : Int32))), .val (.int ((200 : Int32) + ((p2 &&& (2147483647 : Int32)) % (100 : Int32)))), .val (.int ((300 : Int32) + ((p2 &&& (2147483647 : Int32)) % (1000 : Int32)))), .val (.int ((199 : Int32) - ((p2 &&& (2147483647 : Int32)) % (1000 : Int32)))), .val (.int (1 : Int32)), .val (.int (1 : Int32)), .val (.int (1 : Int32)), .val (.int (1 : Int32)), .unset] [(.ref wO), (.ref wO)])) t → Steps p.tables e below (s₁.setTop (entryFrame m #[(.int p1), (.int p2)] maxLocals)) t := fun t q => k29 t (st30 t q)
  have k32 : ∀ t, Steps p.tables e below (T30.setTop (mkF m 134 #[.val (.int p1), .val (.int p2), .val (.int (p2 &&& (2147483647 : Int32))), .val (.int ((200 : Int32) + ((p2 &&& (2147483647 : Int32)) % (100 : Int32)))), .val (.int ((300 : Int32) + ((p2 &&& (2147483647 : Int32)) % (1000 : Int32)))), .val (.int ((199 : Int32) - ((p2 &&& (2147483647 : Int32)) % (1000 : Int32)))), .val (.int (1 : Int32)), .val (.int (1 : Int32)), .val (.int (1 : Int32)), .val (.int (1 : Int32)), .unset] [(.int (299 : Int32))])) t → Steps p.tables e below (s₁.setTop (entryFrame m #[(.int p1), (.int p2)] maxLocals)) t := fun t q => k31 t (by
      show Steps p.tables e below (T30.setTop (mkF m 128 #[.val (.int p1), .val (.int p2), .val (.int (p2 &&& (2147483647 : Int32))), .val (.int ((200 : Int32) + ((p2 &&& (2147483647 : Int32)) % (100 : Int32)))), .val (.int ((300 : Int32) + ((p2 &&& (2147483647 : Int32)) % (1000 : Int32)))), .val (.int ((199 : Int32) - ((p2 &&& (2147483647 : Int32)) % (1000 : Int32)))), .val (.int (1 : Int32)), .val (.int (1 : Int32)), .val (.int (1 : Int32)), .val (.int (1 : Int32)), .unset] [(.ref wO), (.ref wO)])) _
      refine Jvm.RoadKit.acmp (g := (mkF m 128 #[.val (.int p1), .val (.int p2), .val (.int (p2 &&& (2147483647 : Int32))), .val (.int ((200 : Int32) + ((p2 &&& (2147483647 : Int32)) % (100 : Int32)))), .val (.int ((300 : Int32) + ((p2 &&& (2147483647 : Int32)) % (1000 : Int32)))), .val (.int ((199 : Int32) - ((p2 &&& (2147483647 : Int32)) % (1000 : Int32)))), .val (.int (1 : Int32)), .val (.int (1 : Int32)), .val (.int (1 : Int32)), .val (.int (1 : Int32)), .unset] [(.ref wO), (.ref wO)])) X30 hx rfl rfl rfl (pc0 := 128) (pc' := 131) (same := true) rfl (hb hby at_128) rfl (decide_eq_true rfl) (by decide) (by decide) ?_
      show Steps p.tables e below (T30.setTop (mkF m 131 #[.val (.int p1), .val (.int p2), .val (.int (p2 &&& (2147483647 : Int32))), .val (.int ((200 : Int32) + ((p2 &&& (2147483647 : Int32)) % (100 : Int32)))), .val (.int ((300 : Int32) + ((p2 &&& (2147483647 : Int32)) % (1000 : Int32)))), .val (.int ((199 : Int32) - ((p2 &&& (2147483647 : Int32)) % (1000 : Int32)))), .val (.int (1 : Int32)), .val (.int (1 : Int32)), .val (.int (1 : Int32)), .val (.int (1 : Int32)), .unset] [])) _
      refine XS.sipush X30.here hx rfl (hb hby at_131) ?_
      exact q)
  obtain ⟨_, _, ⟨T33, L33, kk33, nn33⟩, -, X33, ⟨Lc33, hQ33, l33, y33, z33⟩, st33⟩ := Jvm.LawKit.callS X30 hx (y := (⟨"com/example/quayhook/quayhook/Outcome", "of", "(I)Lcom/example/quayhook/quayhook/Outcome;"⟩ : MethodName)) hown (mvT hZ (hw _ (List.mem_of_getElem? (i := 1) rfl))) (mvT hZ (hw _ (List.mem_of_getElem? (i := 2) rfl))) (mvT hZ (hw _ (List.mem_of_getElem? (i := 3) rfl))) (mvT hZ (hw _ (List.mem_of_getElem? (i := 4) rfl))) (by decide) (backOf (W := 0) (rm1 l Z a0 hw [] (299 : Int32) wO wE wO h0 n0 Z0 S_OK S_ERROR (rfl)) hZ (hw _ (List.mem_of_getElem? (i := 4) rfl)) (hw _ (List.mem_of_getElem? (i := 3) rfl)) (by decide) (by decide)) (g := (mkF m 134 #[.val (.int p1), .val (.int p2), .val (.int (p2 &&& (2147483647 : Int32))), .val (.int ((200 : Int32) + ((p2 &&& (2147483647 : Int32)) % (100 : Int32)))), .val (.int ((300 : Int32) + ((p2 &&& (2147483647 : Int32)) % (1000 : Int32)))), .val (.int ((199 : Int32) - ((p2 &&& (2147483647 : Int32)) % (1000 : Int32)))), .val (.int (1 : Int32)), .val (.int (1 : Int32)), .val (.int (1 : Int32)), .val (.int (1 : Int32)), .unset] [(.int (299 : Int32))])) rfl (by rw [hml]; rfl) (argsL := [(.int (299 : Int32))]) (rest := []) (lenOf pd__I_Lcom_example_quayhook_quayhook_Outcome_ rfl) rfl (by show 2 * 0 + _ ≤ _; exact Nat.le_of_eq rfl) (hb hby at_134) (fun _ _ => ⟨rfl, e30, (by decide : 0 + 0 + 0 + 0 + 0 + 0 + 0 + 0 + 0 ≤ _), (by decide : 0 + 0 + 0 + 0 + 0 + 0 + 0 + 0 + 0 ≤ _)⟩)
  dsimp only [Pt.U, Pt.locs, Pt.cells, Pt.slots] at X33 l33 y33 z33 st33 hQ33
  subst l33 y33 z33
  obtain ⟨rfl, N33q, e33⟩ := hQ33
  have N33 := Fr.app N28 N33q
  have k34 : ∀ t, Steps p.tables e below (T33.setTop (mkF m 137 #[.val (.int p1), .val (.int p2), .val (.int (p2 &&& (2147483647 : Int32))), .val (.int ((200 : Int32) + ((p2 &&& (2147483647 : Int32)) % (100 : Int32)))), .val (.int ((300 : Int32) + ((p2 &&& (2147483647 : Int32)) % (1000 : Int32)))), .val (.int ((199 : Int32) - ((p2 &&& (2147483647 : Int32)) % (1000 : Int32)))), .val (.int (1 : Int32)), .val (.int (1 : Int32)), .val (.int (1 : Int32)), .val (.int (1 : Int32)), .unset] [(.ref wO)])) t → Steps p.tables e below (s₁.setTop (entryFrame m #[(.int p1), (.int p2)] maxLocals)) t := fun t q => k32 t (st33 t q)
  obtain ⟨T35, X35, e35, st35⟩ := getS2 X33 hx hZ hown (host := "") (Or.inl (hw _ (List.mem_of_getElem? (i := 14) rfl))) Via.refl e33 (S_OK) (g := (mkF m 137 #[.val (.int p1), .val (.int p2), .val (.int (p2 &&& (2147483647 : Int32))), .val (.int ((200 : Int32) + ((p2 &&& (2147483647 : Int32)) % (100 : Int32)))), .val (.int ((300 : Int32) + ((p2 &&& (2147483647 : Int32)) % (1000 : Int32)))), .val (.int ((199 : Int32) - ((p2 &&& (2147483647 : Int32)) % (1000 : Int32)))), .val (.int (1 : Int32)), .val (.int (1 : Int32)), .val (.int (1 : Int32)), .val (.int (1 : Int32)), .unset] [(.ref wO)])) rfl (hb hby at_137)
  have k36 : ∀ t, Steps p.tables e below (T35.setTop (mkF m 140 #[.val (.int p1), .val (.int p2), .val (.int (p2 &&& (2147483647 : Int32))), .val (.int ((200 : Int32) + ((p2 &&& (2147483647 : Int32)) % (100 : Int32)))), .val (.int ((300 : Int32) + ((p2 &&& (2147483647 : Int32)) % (1000 : Int32)))), .val (.int ((199 : Int32) - ((p2 &&& (2147483647 : Int32)) % (1000 : Int32)))), .val (.int (1 : Int32)), .val (.int (1 : Int32)), .val (.int (1 : Int32)), .val (.int (1 : Int32)), .unset] [(.ref wO), (.ref wO)])) t → Steps p.tables e below (s₁.setTop (entryFrame m #[(.int p1), (.int p2)] maxLocals)) t := fun t q => k34 t (st35 t q)
  have k37 : ∀ t, Steps p.tables e below (T35.setTop (mkF m 146 #[.val (.int p1), .val (.int p2), .val (.int (p2 &&& (2147483647 : Int32))), .val (.int ((200 : Int32) + ((p2 &&& (2147483647 : Int32)) % (100 : Int32)))), .val (.int ((300 : Int32) + ((p2 &&& (2147483647 : Int32)) % (1000 : Int32)))), .val (.int ((199 : Int32) - ((p2 &&& (2147483647 : Int32)) % (1000 : Int32)))), .val (.int (1 : Int32)), .val (.int (1 : Int32)), .val (.int (1 : Int32)), .val (.int (1 : Int32)), .unset] [(.int (300 : Int32))])) t → Steps p.tables e below (s₁.setTop (entryFrame m #[(.int p1), (.int p2)] maxLocals)) t := fun t q => k36 t (by
      show Steps p.tables e below (T35.setTop (mkF m 140 #[.val (.int p1), .val (.int p2), .val (.int (p2 &&& (2147483647 : Int32))), .val (.int ((200 : Int32) + ((p2 &&& (2147483647 : Int32)) % (100 : Int32)))), .val (.int ((300 : Int32) + ((p2 &&& (2147483647 : Int32)) % (1000 : Int32)))), .val (.int ((199 : Int32) - ((p2 &&& (2147483647 : Int32)) % (1000 : Int32)))), .val (.int (1 : Int32)), .val (.int (1 : Int32)), .val (.int (1 : Int32)), .val (.int (1 : Int32)), .unset] [(.ref wO), (.ref wO)])) _
      refine Jvm.RoadKit.acmp (g := (mkF m 140 #[.val (.int p1), .val (.int p2), .val (.int (p2 &&& (2147483647 : Int32))), .val (.int ((200 : Int32) + ((p2 &&& (2147483647 : Int32)) % (100 : Int32)))), .val (.int ((300 : Int32) + ((p2 &&& (2147483647 : Int32)) % (1000 : Int32)))), .val (.int ((199 : Int32) - ((p2 &&& (2147483647 : Int32)) % (1000 : Int32)))), .val (.int (1 : Int32)), .val (.int (1 : Int32)), .val (.int (1 : Int32)), .val (.int (1 : Int32)), .unset] [(.ref wO), (.ref wO)])) X35 hx rfl rfl rfl (pc0 := 140) (pc' := 143) (same := true) rfl (hb hby at_140) rfl (decide_eq_true rfl) (by decide) (by decide) ?_
      show Steps p.tables e below (T35.setTop (mkF m 143 #[.val (.int p1), .val (.int p2), .val (.int (p2 &&& (2147483647 : Int32))), .val (.int ((200 : Int32) + ((p2 &&& (2147483647 : Int32)) % (100 : Int32)))), .val (.int ((300 : Int32) + ((p2 &&& (2147483647 : Int32)) % (1000 : Int32)))), .val (.int ((199 : Int32) - ((p2 &&& (2147483647 : Int32)) % (1000 : Int32)))), .val (.int (1 : Int32)), .val (.int (1 : Int32)), .val (.int (1 : Int32)), .val (.int (1 : Int32)), .unset] [])) _
      refine XS.sipush X35.here hx rfl (hb hby at_143) ?_
      exact q)
  obtain ⟨_, _, ⟨T38, L38, kk38, nn38⟩, -, X38, ⟨Lc38, hQ38, l38, y38, z38⟩, st38⟩ := Jvm.LawKit.callS X35 hx (y := (⟨"com/example/quayhook/quayhook/Outcome", "of", "(I)Lcom/example/quayhook/quayhook/Outcome;"⟩ : MethodName)) hown (mvT hZ (hw _ (List.mem_of_getElem? (i := 1) rfl))) (mvT hZ (hw _ (List.mem_of_getElem? (i := 2) rfl))) (mvT hZ (hw _ (List.mem_of_getElem? (i := 3) rfl))) (mvT hZ (hw _ (List.mem_of_getElem? (i := 4) rfl))) (by decide) (backOf (W := 0) (rm1 l Z a0 hw [] (300 : Int32) wO wE wE h0 n0 Z0 S_OK S_ERROR (rfl)) hZ (hw _ (List.mem_of_getElem? (i := 4) rfl)) (hw _ (List.mem_of_getElem? (i := 3) rfl)) (by decide) (by decide)) (g := (mkF m 146 #[.val (.int p1), .val (.int p2), .val (.int (p2 &&& (2147483647 : Int32))), .val (.int ((200 : Int32) + ((p2 &&& (2147483647 : Int32)) % (100 : Int32)))), .val (.int ((300 : Int32) + ((p2 &&& (2147483647 : Int32)) % (1000 : Int32)))), .val (.int ((199 : Int32) - ((p2 &&& (2147483647 : Int32)) % (1000 : Int32)))), .val (.int (1 : Int32)), .val (.int (1 : Int32)), .val (.int (1 : Int32)), .val (.int (1 : Int32)), .unset] [(.int (300 : Int32))])) rfl (by rw [hml]; rfl) (argsL := [(.int (300 : Int32))]) (rest := []) (lenOf pd__I_Lcom_example_quayhook_quayhook_Outcome_ rfl) rfl (by show 2 * 0 + _ ≤ _; exact Nat.le_of_eq rfl) (hb hby at_146) (fun _ _ => ⟨rfl, e35, (by decide : 0 + 0 + 0 + 0 + 0 + 0 + 0 + 0 + 0 + 0 ≤ _), (by decide : 0 + 0 + 0 + 0 + 0 + 0 + 0 + 0 + 0 + 0 ≤ _)⟩)
  dsimp only [Pt.U, Pt.locs, Pt.cells, Pt.slots] at X38 l38 y38 z38 st38 hQ38
  subst l38 y38 z38
  obtain ⟨rfl, N38q, e38⟩ := hQ38
  have N38 := Fr.app N33 N38q
  have k39 : ∀ t, Steps p.tables e below (T38.setTop (mkF m 149 #[.val (.int p1), .val (.int p2), .val (.int (p2 &&& (2147483647 : Int32))), .val (.int ((200 : Int32) + ((p2 &&& (2147483647 : Int32)) % (100 : Int32)))), .val (.int ((300 : Int32) + ((p2 &&& (2147483647 : Int32)) % (1000 : Int32)))), .val (.int ((199 : Int32) - ((p2 &&& (2147483647 : Int32)) % (1000 : Int32)))), .val (.int (1 : Int32)), .val (.int (1 : Int32)), .val (.int (1 : Int32)), .val (.int (1 : Int32)), .unset] [(.ref wE)])) t → Steps p.tables e below (s₁.setTop (entryFrame m #[(.int p1), (.int p2)] maxLocals)) t := fun t q => k37 t (st38 t q)
  obtain ⟨T40, X40, e40, st40⟩ := getS2 X38 hx hZ hown (host := "") (Or.inl (hw _ (List.mem_of_getElem? (i := 11) rfl))) Via.refl e38 (S_ERROR) (g := (mkF m 149 #[.val (.int p1), .val (.int p2), .val (.int (p2 &&& (2147483647 : Int32))), .val (.int ((200 : Int32) + ((p2 &&& (2147483647 : Int32)) % (100 : Int32)))), .val (.int ((300 : Int32) + ((p2 &&& (2147483647 : Int32)) % (1000 : Int32)))), .val (.int ((199 : Int32) - ((p2 &&& (2147483647 : Int32)) % (1000 : Int32)))), .val (.int (1 : Int32)), .val (.int (1 : Int32)), .val (.int (1 : Int32)), .val (.int (1 : Int32)), .unset] [(.ref wE)])) rfl (hb hby at_149)
  have k41 : ∀ t, Steps p.tables e below (T40.setTop (mkF m 152 #[.val (.int p1), .val (.int p2), .val (.int (p2 &&& (2147483647 : Int32))), .val (.int ((200 : Int32) + ((p2 &&& (2147483647 : Int32)) % (100 : Int32)))), .val (.int ((300 : Int32) + ((p2 &&& (2147483647 : Int32)) % (1000 : Int32)))), .val (.int ((199 : Int32) - ((p2 &&& (2147483647 : Int32)) % (1000 : Int32)))), .val (.int (1 : Int32)), .val (.int (1 : Int32)), .val (.int (1 : Int32)), .val (.int (1 : Int32)), .unset] [(.ref wE), (.ref wE)])) t → Steps p.tables e below (s₁.setTop (entryFrame m #[(.int p1), (.int p2)] maxLocals)) t := fun t q => k39 t (st40 t q)
  have k42 : ∀ t, Steps p.tables e below (T40.setTop (mkF m 192 #[.val (.int p1), .val (.int p2), .val (.int (p2 &&& (2147483647 : Int32))), .val (.int ((200 : Int32) + ((p2 &&& (2147483647 : Int32)) % (100 : Int32)))), .val (.int ((300 : Int32) + ((p2 &&& (2147483647 : Int32)) % (1000 : Int32)))), .val (.int ((199 : Int32) - ((p2 &&& (2147483647 : Int32)) % (1000 : Int32)))), .val (.int (1 : Int32)), .val (.int (1 : Int32)), .val (.int (1 : Int32)), .val (.int (1 : Int32)), .val (.int (1 : Int32))] [(.int (1 : Int32))])) t → Steps p.tables e below (s₁.setTop (entryFrame m #[(.int p1), (.int p2)] maxLocals)) t := fun t q => k41 t (by
      show Steps p.tables e below (T40.setTop (mkF m 152 #[.val (.int p1), .val (.int p2), .val (.int (p2 &&& (2147483647 : Int32))), .val (.int ((200 : Int32) + ((p2 &&& (2147483647 : Int32)) % (100 : Int32)))), .val (.int ((300 : Int32) + ((p2 &&& (2147483647 : Int32)) % (1000 : Int32)))), .val (.int ((199 : Int32) - ((p2 &&& (2147483647 : Int32)) % (1000 : Int32)))), .val (.int (1 : Int32)), .val (.int (1 : Int32)), .val (.int (1 : Int32)), .val (.int (1 : Int32)), .unset] [(.ref wE), (.ref wE)])) _
      refine Jvm.RoadKit.acmp (g := (mkF m 152 #[.val (.int p1), .val (.int p2), .val (.int (p2 &&& (2147483647 : Int32))), .val (.int ((200 : Int32) + ((p2 &&& (2147483647 : Int32)) % (100 : Int32)))), .val (.int ((300 : Int32) + ((p2 &&& (2147483647 : Int32)) % (1000 : Int32)))), .val (.int ((199 : Int32) - ((p2 &&& (2147483647 : Int32)) % (1000 : Int32)))), .val (.int (1 : Int32)), .val (.int (1 : Int32)), .val (.int (1 : Int32)), .val (.int (1 : Int32)), .unset] [(.ref wE), (.ref wE)])) X40 hx rfl rfl rfl (pc0 := 152) (pc' := 155) (same := true) rfl (hb hby at_152) rfl (decide_eq_true rfl) (by decide) (by decide) ?_
      show Steps p.tables e below (T40.setTop (mkF m 155 #[.val (.int p1), .val (.int p2), .val (.int (p2 &&& (2147483647 : Int32))), .val (.int ((200 : Int32) + ((p2 &&& (2147483647 : Int32)) % (100 : Int32)))), .val (.int ((300 : Int32) + ((p2 &&& (2147483647 : Int32)) % (1000 : Int32)))), .val (.int ((199 : Int32) - ((p2 &&& (2147483647 : Int32)) % (1000 : Int32)))), .val (.int (1 : Int32)), .val (.int (1 : Int32)), .val (.int (1 : Int32)), .val (.int (1 : Int32)), .unset] [])) _
      refine XS.iconst X40.here hx rfl (hb hby at_155) ?_
      show Steps p.tables e below (T40.setTop (mkF m 156 #[.val (.int p1), .val (.int p2), .val (.int (p2 &&& (2147483647 : Int32))), .val (.int ((200 : Int32) + ((p2 &&& (2147483647 : Int32)) % (100 : Int32)))), .val (.int ((300 : Int32) + ((p2 &&& (2147483647 : Int32)) % (1000 : Int32)))), .val (.int ((199 : Int32) - ((p2 &&& (2147483647 : Int32)) % (1000 : Int32)))), .val (.int (1 : Int32)), .val (.int (1 : Int32)), .val (.int (1 : Int32)), .val (.int (1 : Int32)), .unset] [(.int (1 : Int32))])) _
      refine XS.goto X40.here hx rfl (pc0 := 156) (pc' := 160) rfl (hb hby at_156) (by decide) (by decide) ?_
      show Steps p.tables e below (T40.setTop (mkF m 160 #[.val (.int p1), .val (.int p2), .val (.int (p2 &&& (2147483647 : Int32))), .val (.int ((200 : Int32) + ((p2 &&& (2147483647 : Int32)) % (100 : Int32)))), .val (.int ((300 : Int32) + ((p2 &&& (2147483647 : Int32)) % (1000 : Int32)))), .val (.int ((199 : Int32) - ((p2 &&& (2147483647 : Int32)) % (1000 : Int32)))), .val (.int (1 : Int32)), .val (.int (1 : Int32)), .val (.int (1 : Int32)), .val (.int (1 : Int32)), .unset] [(.int (1 : Int32))])) _
      refine XS.istore X40.here hx rfl (hb hby at_160) rfl (l' := #[.val (.int p1), .val (.int p2), .val (.int (p2 &&& (2147483647 : Int32))), .val (.int ((200 : Int32) + ((p2 &&& (2147483647 : Int32)) % (100 : Int32)))), .val (.int ((300 : Int32) + ((p2 &&& (2147483647 : Int32)) % (1000 : Int32)))), .val (.int ((199 : Int32) - ((p2 &&& (2147483647 : Int32)) % (1000 : Int32)))), .val (.int (1 : Int32)), .val (.int (1 : Int32)), .val (.int (1 : Int32)), .val (.int (1 : Int32)), .val (.int (1 : Int32))]) rfl ?_
      show Steps p.tables e below (T40.setTop (mkF m 162 #[.val (.int p1), .val (.int p2), .val (.int (p2 &&& (2147483647 : Int32))), .val (.int ((200 : Int32) + ((p2 &&& (2147483647 : Int32)) % (100 : Int32)))), .val (.int ((300 : Int32) + ((p2 &&& (2147483647 : Int32)) % (1000 : Int32)))), .val (.int ((199 : Int32) - ((p2 &&& (2147483647 : Int32)) % (1000 : Int32)))), .val (.int (1 : Int32)), .val (.int (1 : Int32)), .val (.int (1 : Int32)), .val (.int (1 : Int32)), .val (.int (1 : Int32))] [])) _
      refine XS.iload X40.here hx rfl (hb hby at_162) rfl ?_
      show Steps p.tables e below (T40.setTop (mkF m 164 #[.val (.int p1), .val (.int p2), .val (.int (p2 &&& (2147483647 : Int32))), .val (.int ((200 : Int32) + ((p2 &&& (2147483647 : Int32)) % (100 : Int32)))), .val (.int ((300 : Int32) + ((p2 &&& (2147483647 : Int32)) % (1000 : Int32)))), .val (.int ((199 : Int32) - ((p2 &&& (2147483647 : Int32)) % (1000 : Int32)))), .val (.int (1 : Int32)), .val (.int (1 : Int32)), .val (.int (1 : Int32)), .val (.int (1 : Int32)), .val (.int (1 : Int32))] [(.int (1 : Int32))])) _
      refine XS.ifNo X40.here hx rfl (hb hby at_164) rfl ((if0 _ _).trans (feq (by decide : ¬ ((1 : Int32) = (0 : Int32)))).1) ?_
      show Steps p.tables e below (T40.setTop (mkF m 167 #[.val (.int p1), .val (.int p2), .val (.int (p2 &&& (2147483647 : Int32))), .val (.int ((200 : Int32) + ((p2 &&& (2147483647 : Int32)) % (100 : Int32)))), .val (.int ((300 : Int32) + ((p2 &&& (2147483647 : Int32)) % (1000 : Int32)))), .val (.int ((199 : Int32) - ((p2 &&& (2147483647 : Int32)) % (1000 : Int32)))), .val (.int (1 : Int32)), .val (.int (1 : Int32)), .val (.int (1 : Int32)), .val (.int (1 : Int32)), .val (.int (1 : Int32))] [])) _
      refine XS.iload X40.here hx rfl (hb hby at_167) rfl ?_
      show Steps p.tables e below (T40.setTop (mkF m 169 #[.val (.int p1), .val (.int p2), .val (.int (p2 &&& (2147483647 : Int32))), .val (.int ((200 : Int32) + ((p2 &&& (2147483647 : Int32)) % (100 : Int32)))), .val (.int ((300 : Int32) + ((p2 &&& (2147483647 : Int32)) % (1000 : Int32)))), .val (.int ((199 : Int32) - ((p2 &&& (2147483647 : Int32)) % (1000 : Int32)))), .val (.int (1 : Int32)), .val (.int (1 : Int32)), .val (.int (1 : Int32)), .val (.int (1 : Int32)), .val (.int (1 : Int32))] [(.int (1 : Int32))])) _
      refine XS.ifNo X40.here hx rfl (hb hby at_169) rfl ((if0 _ _).trans (feq (by decide : ¬ ((1 : Int32) = (0 : Int32)))).1) ?_
      show Steps p.tables e below (T40.setTop (mkF m 172 #[.val (.int p1), .val (.int p2), .val (.int (p2 &&& (2147483647 : Int32))), .val (.int ((200 : Int32) + ((p2 &&& (2147483647 : Int32)) % (100 : Int32)))), .val (.int ((300 : Int32) + ((p2 &&& (2147483647 : Int32)) % (1000 : Int32)))), .val (.int ((199 : Int32) - ((p2 &&& (2147483647 : Int32)) % (1000 : Int32)))), .val (.int (1 : Int32)), .val (.int (1 : Int32)), .val (.int (1 : Int32)), .val (.int (1 : Int32)), .val (.int (1 : Int32))] [])) _
      refine XS.iload X40.here hx rfl (hb hby at_172) rfl ?_
      show Steps p.tables e below (T40.setTop (mkF m 174 #[.val (.int p1), .val (.int p2), .val (.int (p2 &&& (2147483647 : Int32))), .val (.int ((200 : Int32) + ((p2 &&& (2147483647 : Int32)) % (100 : Int32)))), .val (.int ((300 : Int32) + ((p2 &&& (2147483647 : Int32)) % (1000 : Int32)))), .val (.int ((199 : Int32) - ((p2 &&& (2147483647 : Int32)) % (1000 : Int32)))), .val (.int (1 : Int32)), .val (.int (1 : Int32)), .val (.int (1 : Int32)), .val (.int (1 : Int32)), .val (.int (1 : Int32))] [(.int (1 : Int32))])) _
      refine XS.ifNo X40.here hx rfl (hb hby at_174) rfl ((if0 _ _).trans (feq (by decide : ¬ ((1 : Int32) = (0 : Int32)))).1) ?_
      show Steps p.tables e below (T40.setTop (mkF m 177 #[.val (.int p1), .val (.int p2), .val (.int (p2 &&& (2147483647 : Int32))), .val (.int ((200 : Int32) + ((p2 &&& (2147483647 : Int32)) % (100 : Int32)))), .val (.int ((300 : Int32) + ((p2 &&& (2147483647 : Int32)) % (1000 : Int32)))), .val (.int ((199 : Int32) - ((p2 &&& (2147483647 : Int32)) % (1000 : Int32)))), .val (.int (1 : Int32)), .val (.int (1 : Int32)), .val (.int (1 : Int32)), .val (.int (1 : Int32)), .val (.int (1 : Int32))] [])) _
      refine XS.iload X40.here hx rfl (hb hby at_177) rfl ?_
      show Steps p.tables e below (T40.setTop (mkF m 179 #[.val (.int p1), .val (.int p2), .val (.int (p2 &&& (2147483647 : Int32))), .val (.int ((200 : Int32) + ((p2 &&& (2147483647 : Int32)) % (100 : Int32)))), .val (.int ((300 : Int32) + ((p2 &&& (2147483647 : Int32)) % (1000 : Int32)))), .val (.int ((199 : Int32) - ((p2 &&& (2147483647 : Int32)) % (1000 : Int32)))), .val (.int (1 : Int32)), .val (.int (1 : Int32)), .val (.int (1 : Int32)), .val (.int (1 : Int32)), .val (.int (1 : Int32))] [(.int (1 : Int32))])) _
      refine XS.ifNo X40.here hx rfl (hb hby at_179) rfl ((if0 _ _).trans (feq (by decide : ¬ ((1 : Int32) = (0 : Int32)))).1) ?_
      show Steps p.tables e below (T40.setTop (mkF m 182 #[.val (.int p1), .val (.int p2), .val (.int (p2 &&& (2147483647 : Int32))), .val (.int ((200 : Int32) + ((p2 &&& (2147483647 : Int32)) % (100 : Int32)))), .val (.int ((300 : Int32) + ((p2 &&& (2147483647 : Int32)) % (1000 : Int32)))), .val (.int ((199 : Int32) - ((p2 &&& (2147483647 : Int32)) % (1000 : Int32)))), .val (.int (1 : Int32)), .val (.int (1 : Int32)), .val (.int (1 : Int32)), .val (.int (1 : Int32)), .val (.int (1 : Int32))] [])) _
      refine XS.iload X40.here hx rfl (hb hby at_182) rfl ?_
      show Steps p.tables e below (T40.setTop (mkF m 184 #[.val (.int p1), .val (.int p2), .val (.int (p2 &&& (2147483647 : Int32))), .val (.int ((200 : Int32) + ((p2 &&& (2147483647 : Int32)) % (100 : Int32)))), .val (.int ((300 : Int32) + ((p2 &&& (2147483647 : Int32)) % (1000 : Int32)))), .val (.int ((199 : Int32) - ((p2 &&& (2147483647 : Int32)) % (1000 : Int32)))), .val (.int (1 : Int32)), .val (.int (1 : Int32)), .val (.int (1 : Int32)), .val (.int (1 : Int32)), .val (.int (1 : Int32))] [(.int (1 : Int32))])) _
      refine XS.ifNo X40.here hx rfl (hb hby at_184) rfl ((if0 _ _).trans (feq (by decide : ¬ ((1 : Int32) = (0 : Int32)))).1) ?_
      show Steps p.tables e below (T40.setTop (mkF m 187 #[.val (.int p1), .val (.int p2), .val (.int (p2 &&& (2147483647 : Int32))), .val (.int ((200 : Int32) + ((p2 &&& (2147483647 : Int32)) % (100 : Int32)))), .val (.int ((300 : Int32) + ((p2 &&& (2147483647 : Int32)) % (1000 : Int32)))), .val (.int ((199 : Int32) - ((p2 &&& (2147483647 : Int32)) % (1000 : Int32)))), .val (.int (1 : Int32)), .val (.int (1 : Int32)), .val (.int (1 : Int32)), .val (.int (1 : Int32)), .val (.int (1 : Int32))] [])) _
      refine XS.iconst X40.here hx rfl (hb hby at_187) ?_
      show Steps p.tables e below (T40.setTop (mkF m 188 #[.val (.int p1), .val (.int p2), .val (.int (p2 &&& (2147483647 : Int32))), .val (.int ((200 : Int32) + ((p2 &&& (2147483647 : Int32)) % (100 : Int32)))), .val (.int ((300 : Int32) + ((p2 &&& (2147483647 : Int32)) % (1000 : Int32)))), .val (.int ((199 : Int32) - ((p2 &&& (2147483647 : Int32)) % (1000 : Int32)))), .val (.int (1 : Int32)), .val (.int (1 : Int32)), .val (.int (1 : Int32)), .val (.int (1 : Int32)), .val (.int (1 : Int32))] [(.int (1 : Int32))])) _
      refine XS.goto X40.here hx rfl (pc0 := 188) (pc' := 192) rfl (hb hby at_188) (by decide) (by decide) ?_
      exact q)
  obtain ⟨fs, hr, hrun, hended, hW, hsame⟩ := X40.leave (v := some (.int (1 : Int32))) (fun h => by rw [Bd.returns] at h; cases h)
  refine ⟨_, _, k42 _ ?_, hrun, hended, _, _, rfl, ?_, ⟨_, rfl⟩, hW, hsame.mono (by decide) (by decide)⟩
  · exact retN X40 hx (t := .boolean) Bd.returns (by simp) (hb hby at_192) hr
  · show QL Z p1 p2 wO wE r0 h0 n0 _ T40.heap _
    exact ⟨rfl, N38⟩
set_option maxRecDepth 65536 in
set_option maxHeartbeats 40000000 in
theorem comes_1 {Post : Tables → Env → Array Value → State → Outcome → State → Prop} (hpost : ∀ tb e args s v u, (limb_1_1.after args s (.returned v) u = true ∧ limb_1_2.after args s (.returned v) u = true ∧ True) → FrameEnd s (.returned v) u (Jvm.fieldLocs frame_1_writes args s ++ Jvm.arrayLocs frame_1_arrays args s ++ Jvm.staticLocs frame_1_statics s) 0 0 → Post tb e args s (.returned v) u) :
    ArmFor flags0 classFile x code maxLocals ret World_1 tables_1 room_1 Calls_1 rest_1 Pre_1 Post := by
  intro l hfl _ _ p e ha hc hk s m args below hf hA hF happ hP
  obtain ⟨hcalls, hrest, hpre⟩ := hP
  obtain ⟨-, -, -, hnamed, -, -, -, hat⟩ := (Spec.applies_iff hf).mp happ
  obtain ⟨hg, hn⟩ := and_e (Cond.before_iff.mp (show (Jvm.Cond.and given_1 narrow_1).before args s = true from hpre))
  obtain ⟨gc, gr⟩ := and_e hg
  obtain ⟨g0, gr⟩ := and_e gr
  obtain ⟨w0, w1, rfl⟩ : ∃ w0 w1 : Value, args = #[w0, w1] := by
    have hs : args.size = 2 := by simpa [Cond.value, given_1] using gc
    obtain ⟨L⟩ := args
    match L, hs with
    | [w0, w1], _ => exact ⟨w0, w1, rfl⟩
  have hw := fun d (hd : d ∈ tables_1) => atoms_spec (ws := Jvm.Cond.code x code maxLocals ret :: tables_1) hat d (List.mem_cons_of_mem _ hd)
  have hfit : Fit s := fun {y c} hc i hi => by
    obtain ⟨ha, rfl⟩ := Array.getElem?_eq_some_iff.mp hc
    have q := List.all_eq_true.mp ((Array.all_eq_true_iff_forall_mem.mp hF) _ (Array.getElem_mem ha)) i (List.mem_range.mpr hi)
    simpa [Array.getElem?_eq_getElem hi] using q
  obtain ⟨i0, ei0⟩ := is_v g0
  obtain rfl : w0 = (.int i0) := Option.some.inj ei0
  obtain ⟨i1, ei1⟩ := is_v gr
  obtain rfl : w1 = (.int i1) := Option.some.inj ei1
  obtain ⟨nq0, hn⟩ := and_e hn
  have nq1 := hn
  obtain ⟨w_ERROR, ev_ERROR⟩ := exa_v nq0
  have E_ERROR : Exa s s.heap w_ERROR "com/example/quayhook/quayhook/Outcome" := Exa.start ev_ERROR nq0
  have S_ERROR : Sta s s.heap "com/example/quayhook/quayhook/Outcome" "ERROR" "Lcom/example/quayhook/quayhook/Outcome;" (.ref w_ERROR) := Sta.start ev_ERROR (Or.inr ⟨(hw _ (List.mem_of_getElem? (i := 3) rfl)), (hw _ (List.mem_of_getElem? (i := 6) rfl))⟩)
  obtain ⟨w_OK, ev_OK⟩ := exa_v nq1
  have E_OK : Exa s s.heap w_OK "com/example/quayhook/quayhook/Outcome" := Exa.start ev_OK nq1
  have S_OK : Sta s s.heap "com/example/quayhook/quayhook/Outcome" "OK" "Lcom/example/quayhook/quayhook/Outcome;" (.ref w_OK) := Sta.start ev_OK (Or.inr ⟨(hw _ (List.mem_of_getElem? (i := 3) rfl)), (hw _ (List.mem_of_getElem? (i := 13) rfl))⟩)
  obtain ⟨n, o, h1, h2, h3, _, L, rfl, ⟨rfl, N⟩, hq⟩ := rmL l s _ hw tables_1 i0 i1 w_OK w_ERROR _ s.heap s.heap.size (Nat.le_refl _) S_OK S_ERROR rfl p e ha hc hk s m _ below hf ((Spec.applies_iff_loose hf).mp happ).1 ⟨rfl, State.Warmed39.refl s, rfl⟩ trivial
  refine ⟨n, _, h1, h2, h3, hpost _ _ _ _ _ _ ⟨Cond.after_iff.mpr rfl, Cond.after_iff.mpr (eq_i res_at (Term.int_eval (1)) rfl), trivial⟩ ⟨hq.1, hq.2.1, (hq.2.2.sift fun y hy => Or.inr (N y hy)).mono (by decide) (by decide)⟩⟩
theorem main_1_1 : Claimed_1_1 := comes_1 fun _ _ _ _ _ _ h hF => ⟨h.1, hF⟩
theorem main_1_2 : Claimed_1_2 := comes_1 fun _ _ _ _ _ _ h hF => ⟨h.2.1, hF⟩
end Jvm.Pilot.@@N@@
namespace Jvm.Pilot.@@N@@
open Jvm Jvm.ClassFile Sem Op Lib Jvm.Free Jvm.Stand Jvm.Pilot.@@N@@.Jvm.D
/-! MADE BY PROGRAM (witnessworld.py) out of the Statement's table words and the real class files: 12 classes; the members and pool entries that the words name. The judged class is class 1, her method 2. -/
namespace start1
open Jvm.ClassFile
def u (s : String) : CpInfo := .utf8 (stringToUtf16 s)
/-- a pool by its gaps: so many unusable entries, then the entry; so many at the end -/
def gap : Nat → List CpInfo → List CpInfo
  | 0, r => r
  | n + 1, r => .unusable :: gap n r
def poolList (es : List (Nat × CpInfo)) (last : Nat) : List CpInfo := es.foldr (fun e r => gap e.1 (e.2 :: r)) (gap last [])
def pool (es : List (Nat × CpInfo)) (last : Nat) : Array CpInfo := ⟨poolList es last⟩
def fileOf (pool : Array CpInfo) (this : Nat) (attrs : Array Attribute := #[]) (ms : Array MethodInfo := #[]) (fl : Nat := 33) (sup : Nat := 0) (ifs : Array Nat := #[]) (fds : Array FieldInfo := #[]) : ClassFile where
  minorVersion := 0
  majorVersion := 65
  constantPool := pool
  accessFlags := fl
  thisClass := this
  superClass := sup
  interfaces := ifs
  fields := fds
  methods := ms
  attributes := attrs
def plain (name : String) (sup : Option ClassId) : Class where
  name := name
  kind := .ordinary
  loader := none
  accessFlags := 33
  super := sup
  interfaces := #[]
  cf := none
  fields := #[]
  methods := #[]
  instanceTypes := #[]
  staticTypes := #[]
  resolved := #[]
  callSites := []
  init := .initialized
  statics := none
  mirror := none

def pool0 : Array CpInfo := pool [(5, u "<init>"), (0, u "()V"), (1, .class_ 10), (1, u "java/lang/Object")] 113

def k0m0 : Method := { name := "<init>", desc := "()V", sig := { parameters := [], returnType := none }, accessFlags := 1, code := none }
/-- java/lang/Object -/
def k0 : Class := { plain "java/lang/Object" none with
  accessFlags := 33
  interfaces := #[]
  cf := some (fileOf pool0 8 #[] #[{ accessFlags := 1, nameIndex := 5, descriptorIndex := 6, attributes := #[] }] 33 0 #[] #[])
  fields := #[]
  methods := #[k0m0]
  instanceTypes := #[]
  staticTypes := #[]
  resolved := Array.replicate 124 none
  statics := none }

def pool1 : Array CpInfo := pool [(2, .class_ 4), (1, u "java/lang/Object"), (0, u "<init>"), (0, u "()V"), (0, .fieldref 8 9), (0, .class_ 10), (0, .nameAndType 11 12), (0, u "com/example/quayhook/quayhook/Outcome"), (0, u "OK"), (0, u "Lcom/example/quayhook/quayhook/Outcome;"), (0, .fieldref 8 14), (0, .nameAndType 15 12), (0, u "ERROR"), (0, .integer 2147483647), (0, .methodref 8 18), (0, .nameAndType 19 20), (0, u "of"), (0, u "(I)Lcom/example/quayhook/quayhook/Outcome;"), (0, .methodref 22 23), (0, .class_ 24), (0, .nameAndType 25 20), (0, u "com/example/quayhook/quayhook/OutcomeOfPinLaw"), (0, u "expected"), (3, u "law"), (0, u "(II)Z")] 2

def k1m0 : Method := { name := "<init>", desc := "()V", sig := { parameters := [], returnType := none }, accessFlags := 1, code := none }
def k1c1 : Code := { maxStack := 2, maxLocals := 1, code := method_2_code, exceptionTable := #[], attributes := #[] }
def k1m1 : Method := { name := "expected", desc := "(I)Lcom/example/quayhook/quayhook/Outcome;", sig := { parameters := [.int], returnType := some (.object "com/example/quayhook/quayhook/Outcome") }, accessFlags := 10, code := some k1c1 }
def k1c2 : Code := { maxStack := 3, maxLocals := 11, code := code, exceptionTable := #[], attributes := #[] }
def k1m2 : Method := { name := "law", desc := "(II)Z", sig := { parameters := [.int, .int], returnType := some .boolean }, accessFlags := 9, code := some k1c2 }
/-- com/example/quayhook/quayhook/OutcomeOfPinLaw -/
def k1 : Class := { plain "com/example/quayhook/quayhook/OutcomeOfPinLaw" (some 0) with
  accessFlags := 49
  interfaces := #[]
  cf := some (fileOf pool1 22 #[] #[{ accessFlags := 1, nameIndex := 5, descriptorIndex := 6, attributes := #[] }, { accessFlags := 10, nameIndex := 25, descriptorIndex := 20, attributes := #[] }, { accessFlags := 9, nameIndex := 29, descriptorIndex := 30, attributes := #[] }] 49 2 #[] #[])
  fields := #[]
  methods := #[k1m0, k1m1, k1m2]
  instanceTypes := #[]
  staticTypes := #[]
  resolved := Array.replicate 33 none
  statics := none }

def pool2 : Array CpInfo := pool [(1, .class_ 2), (0, u "java/lang/constant/Constable"), (0, .class_ 4), (0, u "java/lang/Object")] 6

/-- java/lang/constant/Constable -/
def k2 : Class := { plain "java/lang/constant/Constable" (some 0) with
  accessFlags := 1537
  interfaces := #[]
  cf := some (fileOf pool2 1 #[] #[] 1537 3 #[] #[])
  fields := #[]
  methods := #[]
  instanceTypes := #[]
  staticTypes := #[]
  resolved := Array.replicate 11 none
  statics := none }

def pool3 : Array CpInfo := pool [(1, .class_ 2), (0, u "java/lang/Comparable"), (0, .class_ 4), (0, u "java/lang/Object")] 7

/-- java/lang/Comparable -/
def k3 : Class := { plain "java/lang/Comparable" (some 0) with
  accessFlags := 1537
  interfaces := #[]
  cf := some (fileOf pool3 1 #[] #[] 1537 3 #[] #[])
  fields := #[]
  methods := #[]
  instanceTypes := #[]
  staticTypes := #[]
  resolved := Array.replicate 12 none
  statics := none }

def pool4 : Array CpInfo := pool [(1, .class_ 2), (0, u "java/io/Serializable"), (0, .class_ 4), (0, u "java/lang/Object")] 2

/-- java/io/Serializable -/
def k4 : Class := { plain "java/io/Serializable" (some 0) with
  accessFlags := 1537
  interfaces := #[]
  cf := some (fileOf pool4 1 #[] #[] 1537 3 #[] #[])
  fields := #[]
  methods := #[]
  instanceTypes := #[]
  staticTypes := #[]
  resolved := Array.replicate 7 none
  statics := none }

def pool5 : Array CpInfo := pool [(2, .class_ 4), (1, u "java/lang/Enum"), (0, u "name"), (0, u "Ljava/lang/String;"), (2, u "ordinal"), (0, u "I"), (1, .class_ 14), (1, u "java/lang/Object"), (4, u "hash"), (86, .class_ 108), (1, u "java/lang/Enum$EnumDesc"), (2, .class_ 112), (0, u "java/lang/constant/Constable"), (0, .class_ 114), (0, u "java/lang/Comparable"), (0, .class_ 116), (0, u "java/io/Serializable")] 87

/-- java/lang/Enum -/
def k5 : Class := { plain "java/lang/Enum" (some 0) with
  accessFlags := 1057
  interfaces := #[2, 3, 4]
  cf := some (fileOf pool5 2 #[.nestMembers #[106]] #[] 1057 12 #[111, 113, 115] #[{ accessFlags := 18, nameIndex := 5, descriptorIndex := 6, attributes := #[] }, { accessFlags := 18, nameIndex := 9, descriptorIndex := 10, attributes := #[] }, { accessFlags := 2, nameIndex := 19, descriptorIndex := 10, attributes := #[] }])
  fields := #[{ name := "name", type := (.object "java/lang/String"), accessFlags := 18, slot := 0, constantValue := 0 }, { name := "ordinal", type := .int, accessFlags := 18, slot := 1, constantValue := 0 }, { name := "hash", type := .int, accessFlags := 2, slot := 2, constantValue := 0 }]
  methods := #[]
  instanceTypes := #[(.object "java/lang/String"), .int, .int]
  staticTypes := #[]
  resolved := Array.replicate 204 none
  statics := none }

def pool6 : Array CpInfo := pool [(1, .class_ 2), (0, u "com/example/quayhook/quayhook/Outcome"), (0, .fieldref 1 4), (0, .nameAndType 5 6), (0, u "OK"), (0, u "Lcom/example/quayhook/quayhook/Outcome;"), (0, .fieldref 1 8), (0, .nameAndType 9 6), (0, u "ERROR"), (2, u "$VALUES"), (0, u "[Lcom/example/quayhook/quayhook/Outcome;"), (6, .class_ 22), (1, u "java/lang/Enum"), (8, u "name"), (0, u "Ljava/lang/String;"), (20, u "of"), (0, u "(I)Lcom/example/quayhook/quayhook/Outcome;")] 8

def k6c0 : Code := { maxStack := 2, maxLocals := 1, code := prog_19_method_4_code, exceptionTable := #[], attributes := #[] }
def k6m0 : Method := { name := "of", desc := "(I)Lcom/example/quayhook/quayhook/Outcome;", sig := { parameters := [.int], returnType := some (.object "com/example/quayhook/quayhook/Outcome") }, accessFlags := 8, code := some k6c0 }
/-- com/example/quayhook/quayhook/Outcome -/
def k6 : Class := { plain "com/example/quayhook/quayhook/Outcome" (some 5) with
  accessFlags := 16433
  interfaces := #[]
  cf := some (fileOf pool6 1 #[] #[{ accessFlags := 8, nameIndex := 53, descriptorIndex := 54, attributes := #[] }] 16433 20 #[] #[{ accessFlags := 16409, nameIndex := 5, descriptorIndex := 6, attributes := #[] }, { accessFlags := 16409, nameIndex := 9, descriptorIndex := 6, attributes := #[] }, { accessFlags := 18, nameIndex := 31, descriptorIndex := 32, attributes := #[] }, { accessFlags := 4122, nameIndex := 12, descriptorIndex := 13, attributes := #[] }])
  fields := #[{ name := "OK", type := (.object "com/example/quayhook/quayhook/Outcome"), accessFlags := 16409, slot := 0, constantValue := 0 }, { name := "ERROR", type := (.object "com/example/quayhook/quayhook/Outcome"), accessFlags := 16409, slot := 1, constantValue := 0 }, { name := "name", type := (.object "java/lang/String"), accessFlags := 18, slot := 3, constantValue := 0 }, { name := "$VALUES", type := (.array (.object "com/example/quayhook/quayhook/Outcome")), accessFlags := 4122, slot := 2, constantValue := 0 }]
  methods := #[k6m0]
  instanceTypes := #[(.object "java/lang/String"), .int, .int, (.object "java/lang/String")]
  staticTypes := #[(.object "com/example/quayhook/quayhook/Outcome"), (.object "com/example/quayhook/quayhook/Outcome"), (.array (.object "com/example/quayhook/quayhook/Outcome"))]
  resolved := Array.replicate 63 none
  statics := some 0 }

def pool7 : Array CpInfo := pool [(1, u "java/lang/Cloneable"), (0, .class_ 1), (0, u "java/lang/Object"), (0, .class_ 3)] 3

/-- java/lang/Cloneable -/
def k7 : Class := { plain "java/lang/Cloneable" (some 0) with
  accessFlags := 1537
  interfaces := #[]
  cf := some (fileOf pool7 2 #[] #[] 1537 4 #[] #[])
  fields := #[]
  methods := #[]
  instanceTypes := #[]
  staticTypes := #[]
  resolved := Array.replicate 8 none
  statics := none }

/-- the primitive byte -/
def k8 : Class := { plain "byte" none with kind := .primitive 'B', accessFlags := 0x411 }
/-- [B -/
def k9 : Class := { plain "[B" (some 0) with kind := .array 8 .byte, interfaces := #[7, 4], accessFlags := 1041 }

/-- the primitive int -/
def k10 : Class := { plain "int" none with kind := .primitive 'I', accessFlags := 0x411 }
/-- [I -/
def k11 : Class := { plain "[I" (some 0) with kind := .array 10 .int, interfaces := #[7, 4], accessFlags := 1041 }

def heap : Heap := #[{ cls := 6, slots := #[.ref 1, .ref 2, .null], vm := .statics 6 },
  { cls := 6, slots := #[.null, .int 0, .int 0, .null], vm := .none },
  { cls := 6, slots := #[.null, .int 1, .int 0, .null], vm := .none }]
def classes : Array Class := #[k0, k1, k2, k3, k4, k5, k6, k7, k8, k9, k10, k11]
def interned : List (Array UInt16 × Addr) := []
def slotsUsed : Nat := 11
def theMethod : MethodId := ⟨1, 2⟩
def args0 : Array Value := #[.int 204, .int 7]
def aboutOver (below : List Frame) : State where
  vm := { classes := classes, interned := interned.toArray }
  heap := heap
  slotsUsed := slotsUsed
  threads := #[{ frames := .invoking theMethod args0 :: below }]
def below0 : List Frame := [.native { method := ⟨0, 0⟩, args := #[] }]
def about1 : State := aboutOver below0
def p0 : Program := .bare "" "" ""
def e0 : Env := launch0.env 0 0 0
theorem w_frames : about1.frames = Frame.invoking theMethod args0 :: below0 := rfl
set_option maxRecDepth 65536 in
theorem w_args : argsFit about1.vm theMethod args0 = true := by decide +kernel
set_option maxRecDepth 65536 in
theorem w_heap : heapFits about1 = true := by decide +kernel
set_option maxRecDepth 65536 in
theorem w_runnable : about1.curStatus? = some .runnable := by decide +kernel
set_option maxRecDepth 65536 in
theorem w_alone : about1.alone = true := by decide +kernel
set_option maxRecDepth 65536 in
theorem w_named : about1.methodNamed? x = some theMethod := by decide +kernel
set_option maxRecDepth 65536 in
theorem w_hears : about1.hears theMethod below0 = true := by decide +kernel
set_option maxRecDepth 65536 in
theorem w_ripe : about1.ripe theMethod args0 below0 = true := by decide +kernel
theorem w_running : about1.status = .running := rfl
set_option maxRecDepth 65536 in
theorem w_room : about1.hasRoom e0.platform room_1 = true :=
  launch0.hasRoom_least _ room_1 (by decide +kernel) (by decide +kernel) (by decide +kernel) (by decide +kernel) (by decide +kernel) (by decide +kernel)
theorem allAtoms_all (ts : List Jvm.Cond) (a : Array Jvm.Value) (st : Jvm.State) : (allAtoms ts).before a st = ts.all (fun c => c.before a st) := by
  induction ts with
  | nil => rfl
  | cons c t ih =>
    show (Jvm.Cond.and c (allAtoms t)).before a st = _
    rw [Jvm.Cond.before_and, ih, List.all_cons]
def words1 : List Jvm.Cond := Jvm.Cond.code x code maxLocals ret :: tables_1
/-- a 'code' word, met by the world's own term for the bytes: nothing is compared byte by byte -/
theorem code_word {y : MethodName} {bytes : ByteArray} {mx : Nat} {rt : Option FieldType} {a : Array Value} {s : State} {m : MethodId} {meth : Method} {c : Code} (h1 : s.methodNamed? y = some m) (h2 : s.vm.method? m = some meth) (h3 : meth.code = some c) (h4 : c.code = bytes)
    (h5 : (c.maxLocals == mx && c.exceptionTable.isEmpty && decide (c.maxStack ≤ mostOperands) && decide (meth.sig.returnType = rt) && !meth.locks && decide (parseMethodDescriptor y.desc = some meth.sig)) = true) : (Jvm.Cond.code y bytes mx rt).before a s = true := by
  simp only [Bool.and_eq_true, beq_iff_eq, Bool.not_eq_true', decide_eq_true_eq] at h5
  obtain ⟨⟨⟨⟨⟨g1, g2⟩, g3⟩, g4⟩, g5⟩, g6⟩ := h5
  simp [Cond.before, Cond.holds, Cond.value, h1, h2, h3, h4, g1, g2, g3, g4, g5, g6]
def isCode : Jvm.Cond → Bool
  | .code _ _ _ _ => true
  | _ => false
theorem all_split {L : List Jvm.Cond} {P : Jvm.Cond → Bool} (h1 : L.all (fun c => isCode c || P c) = true) (h2 : ∀ c ∈ L.filter isCode, P c = true) : L.all P = true := by
  refine List.all_eq_true.mpr fun c hc => ?_
  have h := List.all_eq_true.mp h1 c hc
  rcases Bool.eq_false_or_eq_true (isCode c) with hi | hi
  · exact h2 c (List.mem_filter.mpr ⟨hc, hi⟩)
  · simpa [hi] using h
set_option maxRecDepth 65536 in
theorem w_c0 : (Jvm.Cond.code x code maxLocals ret).before args0 about1 = true := code_word (m := ⟨1, 2⟩) (meth := k1m2) (c := k1c2) (by decide +kernel) rfl rfl rfl (by decide +kernel)
set_option maxRecDepth 65536 in
theorem w_c1 : (Jvm.Cond.code ({ cls := "com/example/quayhook/quayhook/Outcome", name := "of", desc := "(I)Lcom/example/quayhook/quayhook/Outcome;" } : Jvm.MethodName) prog_19_method_4_code (1 : Nat) (Option.some (Jvm.ClassFile.FieldType.object "com/example/quayhook/quayhook/Outcome"))).before args0 about1 = true := code_word (m := ⟨6, 0⟩) (meth := k6m0) (c := k6c0) (by decide +kernel) rfl rfl rfl (by decide +kernel)
set_option maxRecDepth 65536 in
theorem w_c2 : (Jvm.Cond.code ({ cls := "com/example/quayhook/quayhook/OutcomeOfPinLaw", name := "expected", desc := "(I)Lcom/example/quayhook/quayhook/Outcome;" } : Jvm.MethodName) method_2_code (1 : Nat) (Option.some (Jvm.ClassFile.FieldType.object "com/example/quayhook/quayhook/Outcome"))).before args0 about1 = true := code_word (m := ⟨1, 1⟩) (meth := k1m1) (c := k1c1) (by decide +kernel) rfl rfl rfl (by decide +kernel)
def codes1 : List Jvm.Cond := [Jvm.Cond.code x code maxLocals ret, Jvm.Cond.code ({ cls := "com/example/quayhook/quayhook/Outcome", name := "of", desc := "(I)Lcom/example/quayhook/quayhook/Outcome;" } : Jvm.MethodName) prog_19_method_4_code (1 : Nat) (Option.some (Jvm.ClassFile.FieldType.object "com/example/quayhook/quayhook/Outcome")), Jvm.Cond.code ({ cls := "com/example/quayhook/quayhook/OutcomeOfPinLaw", name := "expected", desc := "(I)Lcom/example/quayhook/quayhook/Outcome;" } : Jvm.MethodName) method_2_code (1 : Nat) (Option.some (Jvm.ClassFile.FieldType.object "com/example/quayhook/quayhook/Outcome"))]
set_option maxRecDepth 65536 in
theorem codes_eq : words1.filter isCode = codes1 := rfl
theorem w_codes : ∀ c ∈ words1.filter isCode, c.before args0 about1 = true := by
  rw [codes_eq]
  intro c hc
  simp only [codes1, List.mem_cons, List.not_mem_nil, or_false] at hc
  rcases hc with rfl | rfl | rfl
  · exact w_c0
  · exact w_c1
  · exact w_c2
set_option maxRecDepth 65536 in
theorem w_t1 : words1.all (fun c => isCode c || c.before args0 about1) = true := by decide +kernel
theorem w_tables : (allAtoms (Jvm.Cond.code x code maxLocals ret :: tables_1)).before args0 about1 = true := by
  rw [allAtoms_all]
  show words1.all (fun c => c.before args0 about1) = true
  refine all_split ?_ w_codes
  rw [w_t1]
set_option maxRecDepth 65536 in
theorem w_case : (Jvm.Cond.and given_1 narrow_1).before args0 about1 = true := by decide +kernel
theorem w_applies : (headSpec (Jvm.Cond.code x code maxLocals ret :: tables_1) room_1).applies x e0.platform about1 = true :=
  (Spec.applies_iff w_frames).mpr ⟨w_running, w_runnable, w_alone, w_named, w_hears, w_ripe, w_room, w_tables⟩
theorem atStart : AtStart classFile x code maxLocals ret World_1 tables_1 room_1 Calls_1 rest_1 Pre_1 launch0 p0 e0 about1 theMethod args0 below0 :=
  ⟨lists_1, trivial, launch0.admits_env _ _ _, launch0.least_env, fairChoices_fair.cas, fairChoices_fair.clock, w_frames, w_args, w_heap, w_applies, trivial, trivial, w_case⟩
end start1
theorem witness_1 : WitnessClaimed_1 := ⟨start1.p0, start1.e0, start1.about1, start1.theMethod, start1.args0, start1.below0, start1.atStart⟩
end Jvm.Pilot.@@N@@
