import JvmDerived
import JvmDerived.Pilot.@@N@@Statement
import JvmDerived.Pilot.@@N@@Code
set_option linter.unusedVariables false
set_option linter.unusedSimpArgs false
namespace Jvm.RoadKit
open Sem ClassFile Op Lib Jvm.Stand Jvm.Free Jvm.LawKit
section New
variable {p : Program} {l : Launch} {e : Env} {R : Room} {s : State} {m : MethodId} {args : Array Value} {below : List Frame} {meth : Method} {c : Code} {T : State} {locs : List Loc} {cells slots : Nat}
theorem retI (X : Stand p l e R s m args below meth c T locs cells slots) (hx : p.tables.exec = Jvm.exec) {pc : Nat} {Ls : Array Slot} {z : Int32} {rest : List Value} (hret : meth.sig.returnType = some .int) (hd : decode c.code pc = .ok (.ireturn, 1)) {fs : List Frame}
    (hl : ∀ (f : JFrame) (acts : List Action), f.method = m → f.locked = none → f.entered = [] → (doReturn e (T.setTop f) acts (some (.int z))).1 = T.setFrames fs) : Steps p.tables e below (T.setTop (mkF m pc Ls (.int z :: rest))) (T.setFrames fs) := by
  have hm' : T.vm.method? m = some meth := X.method'
  have hn : narrow .int (.int z) = .int z := rfl
  show Steps p.tables e below (T.setTop { method := m, pc := pc, locals := Ls, stack := _ :: rest, locked := none }) _
  jvm_step X.here [X.here.top, hx, hd, hm', hret, hn]
  first | (intro acts; rw [hl _ acts rfl rfl rfl]) | rw [hl _ _ rfl rfl rfl]
  exact Steps.refl _
end New
end Jvm.RoadKit
namespace Jvm.Pilot.@@N@@
open Jvm Jvm.ClassFile Sem Op Lib Jvm.Free Jvm.Stand Jvm.LawKit Jvm.RoadKit Bundle Jvm.Pilot.@@N@@.Jvm.D
theorem own_fldI {args : Array Value} {s : State} {t : Term} {C n d : String} {w : Addr} {i : Int32} (ht : t.eval args s none [] s = some (.ref w)) (h : (Cond.eq (.field t C n d) (.int i)).value args s none s [] = some true) : Fld s s.heap w C n d (.int i) := by
  refine Fld.start ?_
  have e1 : (Term.field t C n d).eval args s none [] s = s.fieldOf? w C n d := fld_at ht
  obtain ⟨x, y, ex, ey, k1, k2⟩ := cmp_v (Or.inl h)
  have hy : y = .int i := Option.some.inj (ey.symm.trans (Term.int_eval i))
  subst hy
  obtain ⟨z, rfl⟩ := k2
  have hz : z = i := by
    have := h
    simp only [Cond.value, ex, ey] at this
    simpa using this
  subst hz
  rw [← e1]; exact ex
theorem own_fldR {args : Array Value} {s : State} {t u : Term} {C n d : String} {w b : Addr} (ht : t.eval args s none [] s = some (.ref w)) (hu : u.eval args s none [] s = some (.ref b)) (h : (Cond.eq (.field t C n d) u).value args s none s [] = some true) : Fld s s.heap w C n d (.ref b) := by
  refine Fld.start ?_
  have e1 : (Term.field t C n d).eval args s none [] s = s.fieldOf? w C n d := fld_at ht
  obtain ⟨x, y, ex, ey, k1, k2⟩ := cmp_v (Or.inl h)
  have hy : y = .ref b := Option.some.inj (ey.symm.trans hu)
  subst hy
  have hx : x.isRef = true := k2.2
  have := gotT (eq_R ex ey hx rfl) h
  subst this
  rw [← e1]; exact ex
theorem ef_1 (m : MethodId) (x0 : Int32) (x1 : Int32) (x2 : Int32) (x3 : Int32) : entryFrame m #[(.int x0), (.int x1), (.int x2), (.int x3)] 4 = mkF m 0 #[.val (.int x0), .val (.int x1), .val (.int x2), .val (.int x3)] [] := by first | (simp [entryFrame, mkF, argsToLocals, Value.category]; done) | rfl
theorem pn_com_example_clepsydra_clepsydra_Verdict : plainName "com/example/clepsydra/clepsydra/Verdict" = true := by first | (simp [plainName, overriddenIn]; done) | decide +kernel
theorem d1_0 : decode prog_150_method_5_code 0 = .ok (.iload_n 2, 1) := by decide +kernel
theorem d1_1 : decode prog_150_method_5_code 1 = .ok (.ifCond .ne 11, 3) := by decide +kernel
theorem d1_4 : decode prog_150_method_5_code 4 = .ok (.iload_n 3, 1) := by decide +kernel
theorem d1_5 : decode prog_150_method_5_code 5 = .ok (.ifCond .ne 7, 3) := by decide +kernel
theorem d1_8 : decode prog_150_method_5_code 8 = .ok (.getstatic 19, 3) := by decide +kernel
theorem d1_11 : decode prog_150_method_5_code 11 = .ok (.areturn, 1) := by decide +kernel
theorem d1_12 : decode prog_150_method_5_code 12 = .ok (.iload_n 3, 1) := by decide +kernel
theorem d1_13 : decode prog_150_method_5_code 13 = .ok (.ifCond .ne 7, 3) := by decide +kernel
theorem d1_20 : decode prog_150_method_5_code 20 = .ok (.iload_n 2, 1) := by decide +kernel
theorem d1_21 : decode prog_150_method_5_code 21 = .ok (.ifCond .ne 7, 3) := by decide +kernel
theorem d1_24 : decode prog_150_method_5_code 24 = .ok (.getstatic 7, 3) := by decide +kernel
theorem d1_27 : decode prog_150_method_5_code 27 = .ok (.areturn, 1) := by decide +kernel
theorem d1_16 : decode prog_150_method_5_code 16 = .ok (.getstatic 3, 3) := by decide +kernel
theorem d1_19 : decode prog_150_method_5_code 19 = .ok (.areturn, 1) := by decide +kernel
theorem d1_28 : decode prog_150_method_5_code 28 = .ok (.iload_n 0, 1) := by decide +kernel
theorem d1_29 : decode prog_150_method_5_code 29 = .ok (.ifCond .ne 7, 3) := by decide +kernel
theorem d1_32 : decode prog_150_method_5_code 32 = .ok (.getstatic 16, 3) := by decide +kernel
theorem d1_35 : decode prog_150_method_5_code 35 = .ok (.areturn, 1) := by decide +kernel
theorem d1_36 : decode prog_150_method_5_code 36 = .ok (.iload_n 1, 1) := by decide +kernel
theorem d1_37 : decode prog_150_method_5_code 37 = .ok (.ifCond .eq 9, 3) := by decide +kernel
theorem d1_46 : decode prog_150_method_5_code 46 = .ok (.getstatic 13, 3) := by decide +kernel
theorem d1_49 : decode prog_150_method_5_code 49 = .ok (.areturn, 1) := by decide +kernel
theorem d1_40 : decode prog_150_method_5_code 40 = .ok (.getstatic 10, 3) := by decide +kernel
theorem d1_43 : decode prog_150_method_5_code 43 = .ok (.goto 6, 3) := by decide +kernel
def Q1 (Z : State) (c0 : Int32) (a1 : Int32) (sa : Int32) (sr : Int32) (wO : Addr) (wT : Addr) (wF : Addr) (wU : Addr) (wCT : Addr) (wCF : Addr) (r : Addr) (h0 : Heap) (n0 : Nat) (v : Option Value) (h : Heap) (L : List Loc) : Prop := v = some (.ref r) ∧ Fr n0 L ∧ h = h0
set_option maxRecDepth 65536 in
set_option maxHeartbeats 40000000 in
theorem rm1 (l : Launch) (Z : State) (a0 : Array Value) (hw : ∀ d ∈ tables_1, d.before a0 Z = true) (ws : List Jvm.Cond) (c0 : Int32) (a1 : Int32) (sa : Int32) (sr : Int32) (wO : Addr) (wT : Addr) (wF : Addr) (wU : Addr) (wCT : Addr) (wCF : Addr) (r : Addr) (h0 : Heap) (n0 : Nat) (Z0 : n0 ≤ h0.size) (S_OUTSIDE : Sta Z h0 "com/example/clepsydra/clepsydra/Verdict" "OUTSIDE" "Lcom/example/clepsydra/clepsydra/Verdict;" (.ref wO)) (S_TRUE : Sta Z h0 "com/example/clepsydra/clepsydra/Verdict" "TRUE" "Lcom/example/clepsydra/clepsydra/Verdict;" (.ref wT)) (S_FALSE : Sta Z h0 "com/example/clepsydra/clepsydra/Verdict" "FALSE" "Lcom/example/clepsydra/clepsydra/Verdict;" (.ref wF)) (S_UNDECIDED : Sta Z h0 "com/example/clepsydra/clepsydra/Verdict" "UNDECIDED" "Lcom/example/clepsydra/clepsydra/Verdict;" (.ref wU)) (S_CURRENTLY_TRUE : Sta Z h0 "com/example/clepsydra/clepsydra/Verdict" "CURRENTLY_TRUE" "Lcom/example/clepsydra/clepsydra/Verdict;" (.ref wCT)) (S_CURRENTLY_FALSE : Sta Z h0 "com/example/clepsydra/clepsydra/Verdict" "CURRENTLY_FALSE" "Lcom/example/clepsydra/clepsydra/Verdict;" (.ref wCF)) (hr0 : (if sa = (0 : Int32) then (if sr = (0 : Int32) then wO else wF) else (if sr = (0 : Int32) then wT else if c0 = (0 : Int32) then wU else if a1 = (0 : Int32) then wCF else wCT)) = r) :
    MetFree l (⟨"com/example/clepsydra/clepsydra/Verdict", "predicted", "(ZZZZ)Lcom/example/clepsydra/clepsydra/Verdict;"⟩ : MethodName) (head1 (Jvm.Cond.code (⟨"com/example/clepsydra/clepsydra/Verdict", "predicted", "(ZZZZ)Lcom/example/clepsydra/clepsydra/Verdict;"⟩ : MethodName) prog_150_method_5_code 4 (some (.object "com/example/clepsydra/clepsydra/Verdict")) :: ws) ({ frames := 0, cells := 0, slots := 0, locals := 0 } : Room)) (fun a U => a = #[(.int c0), (.int a1), (.int sa), (.int sr)] ∧ Z.Warmed39 U.vm ∧ U.heap = h0) (fun _ _ _ _ _ => True) (fun _ U o U' => ∃ v L, o = .returned v ∧ Q1 Z c0 a1 sa sr wO wT wF wU wCT wCF r h0 n0 v U'.heap L ∧ FrameEnd U o U' L ({ frames := 0, cells := 0, slots := 0, locals := 0 } : Room).cells ({ frames := 0, cells := 0, slots := 0, locals := 0 } : Room).slots) := by
  refine MetFree.of_bodySF (plainFor_of_name pn_com_example_clepsydra_clepsydra_Verdict) hisR ?_
  intro p e s m args below meth c s₁ Bd hml0 hP hK
  obtain ⟨rfl, hZ, hh⟩ := hP
  have hx := Bd.exec
  have hby := Bd.bytes
  have hml : c.maxLocals = 4 := hml0
  have hown : s.vm.findClass "com/example/clepsydra/clepsydra/Verdict" = some m.cls := findClass_of_methodNamed Bd.named
  have hnm := (name_of_methodNamed Bd.named Bd.method).1
  have X0 : Stand p l e ({ frames := 0, cells := 0, slots := 0, locals := 0 } : Room) s m #[(.int c0), (.int a1), (.int sa), (.int sr)] below meth c s₁ [] 0 0 := Stand.of_body Bd
  have e0 : s₁.heap = h0 := by rw [← hh, Bd.state]; rfl
  have N0 := Fr.nil n0
  have k0 : ∀ t, Steps p.tables e below (s₁.setTop (mkF m 0 #[.val (.int c0), .val (.int a1), .val (.int sa), .val (.int sr)] [])) t → Steps p.tables e below (s₁.setTop (entryFrame m #[(.int c0), (.int a1), (.int sa), (.int sr)] 4)) t := fun t k => castTop (ef_1 m c0 a1 sa sr) k
  have k1 : ∀ t, Steps p.tables e below (s₁.setTop (mkF m 1 #[.val (.int c0), .val (.int a1), .val (.int sa), .val (.int sr)] [(.int sa)])) t → Steps p.tables e below (s₁.setTop (entryFrame m #[(.int c0), (.int a1), (.int sa), (.int sr)] 4)) t := fun t q => k0 t (by
      show Steps p.tables e below (s₁.setTop (mkF m 0 #[.val (.int c0), .val (.int a1), .val (.int sa), .val (.int sr)] [])) _
      refine XS.iloadN X0.here hx rfl (hb hby d1_0) rfl ?_
      exact q)
  by_cases hc1 : sa = (0 : Int32)
  · have k2 : ∀ t, Steps p.tables e below (s₁.setTop (mkF m 5 #[.val (.int c0), .val (.int a1), .val (.int sa), .val (.int sr)] [(.int sr)])) t → Steps p.tables e below (s₁.setTop (entryFrame m #[(.int c0), (.int a1), (.int sa), (.int sr)] 4)) t := fun t q => k1 t (by
        show Steps p.tables e below (s₁.setTop (mkF m 1 #[.val (.int c0), .val (.int a1), .val (.int sa), .val (.int sr)] [(.int sa)])) _
        refine XS.ifNo X0.here hx rfl (hb hby d1_1) rfl ((if0 _ _).trans (teq (hc1 : sa = (0 : Int32))).2) ?_
        show Steps p.tables e below (s₁.setTop (mkF m 4 #[.val (.int c0), .val (.int a1), .val (.int sa), .val (.int sr)] [])) _
        refine XS.iloadN X0.here hx rfl (hb hby d1_4) rfl ?_
        exact q)
    by_cases hc5 : sr = (0 : Int32)
    · have k3 : ∀ t, Steps p.tables e below (s₁.setTop (mkF m 8 #[.val (.int c0), .val (.int a1), .val (.int sa), .val (.int sr)] [])) t → Steps p.tables e below (s₁.setTop (entryFrame m #[(.int c0), (.int a1), (.int sa), (.int sr)] 4)) t := fun t q => k2 t (by
          show Steps p.tables e below (s₁.setTop (mkF m 5 #[.val (.int c0), .val (.int a1), .val (.int sa), .val (.int sr)] [(.int sr)])) _
          refine XS.ifNo X0.here hx rfl (hb hby d1_5) rfl ((if0 _ _).trans (teq (hc5 : sr = (0 : Int32))).2) ?_
          exact q)
      obtain ⟨T4, X4, e4, st4⟩ := getS2 X0 hx hZ hown (host := "") (Or.inl (hw _ (List.mem_of_getElem? (i := 4) rfl))) Via.refl e0 (S_OUTSIDE) (g := (mkF m 8 #[.val (.int c0), .val (.int a1), .val (.int sa), .val (.int sr)] [])) rfl (hb hby d1_8)
      have k5 : ∀ t, Steps p.tables e below (T4.setTop (mkF m 11 #[.val (.int c0), .val (.int a1), .val (.int sa), .val (.int sr)] [(.ref wO)])) t → Steps p.tables e below (s₁.setTop (entryFrame m #[(.int c0), (.int a1), (.int sa), (.int sr)] 4)) t := fun t q => k3 t (st4 t q)
      obtain ⟨fs, hr, hrun, hended, hW, hsame⟩ := X4.leave (v := some (.ref wO)) (fun h => by rw [Bd.returns] at h; cases h)
      refine ⟨_, _, k5 _ ?_, hrun, hended, _, _, rfl, ?_, ⟨_, rfl⟩, hW, hsame.mono (by decide) (by decide)⟩
      · exact retOut X4 hx Bd.returns rfl (Or.inr (Or.inr (Or.inr (Or.inr ⟨rfl, rfl, rfl⟩)))) (hb hby d1_11) hr
      · show Q1 Z c0 a1 sa sr wO wT wF wU wCT wCF r h0 n0 _ T4.heap _
        rw [e4]
        exact ⟨by rw [if_pos hc1, if_pos hc5] at hr0; rw [hr0], N0, rfl⟩
    · have k6 : ∀ t, Steps p.tables e below (s₁.setTop (mkF m 24 #[.val (.int c0), .val (.int a1), .val (.int sa), .val (.int sr)] [])) t → Steps p.tables e below (s₁.setTop (entryFrame m #[(.int c0), (.int a1), (.int sa), (.int sr)] 4)) t := fun t q => k2 t (by
          show Steps p.tables e below (s₁.setTop (mkF m 5 #[.val (.int c0), .val (.int a1), .val (.int sa), .val (.int sr)] [(.int sr)])) _
          refine XS.ifYes X0.here hx rfl (pc0 := 5) (pc' := 12) rfl (hb hby d1_5) rfl ((if0 _ _).trans (feq (hc5 : ¬ (sr = (0 : Int32)))).2) (by decide) (by decide) ?_
          show Steps p.tables e below (s₁.setTop (mkF m 12 #[.val (.int c0), .val (.int a1), .val (.int sa), .val (.int sr)] [])) _
          refine XS.iloadN X0.here hx rfl (hb hby d1_12) rfl ?_
          show Steps p.tables e below (s₁.setTop (mkF m 13 #[.val (.int c0), .val (.int a1), .val (.int sa), .val (.int sr)] [(.int sr)])) _
          refine XS.ifYes X0.here hx rfl (pc0 := 13) (pc' := 20) rfl (hb hby d1_13) rfl ((if0 _ _).trans (feq (hc5 : ¬ (sr = (0 : Int32)))).2) (by decide) (by decide) ?_
          show Steps p.tables e below (s₁.setTop (mkF m 20 #[.val (.int c0), .val (.int a1), .val (.int sa), .val (.int sr)] [])) _
          refine XS.iloadN X0.here hx rfl (hb hby d1_20) rfl ?_
          show Steps p.tables e below (s₁.setTop (mkF m 21 #[.val (.int c0), .val (.int a1), .val (.int sa), .val (.int sr)] [(.int sa)])) _
          refine XS.ifNo X0.here hx rfl (hb hby d1_21) rfl ((if0 _ _).trans (teq (hc1 : sa = (0 : Int32))).2) ?_
          exact q)
      obtain ⟨T7, X7, e7, st7⟩ := getS2 X0 hx hZ hown (host := "") (Or.inl (hw _ (List.mem_of_getElem? (i := 19) rfl))) Via.refl e0 (S_FALSE) (g := (mkF m 24 #[.val (.int c0), .val (.int a1), .val (.int sa), .val (.int sr)] [])) rfl (hb hby d1_24)
      have k8 : ∀ t, Steps p.tables e below (T7.setTop (mkF m 27 #[.val (.int c0), .val (.int a1), .val (.int sa), .val (.int sr)] [(.ref wF)])) t → Steps p.tables e below (s₁.setTop (entryFrame m #[(.int c0), (.int a1), (.int sa), (.int sr)] 4)) t := fun t q => k6 t (st7 t q)
      obtain ⟨fs, hr, hrun, hended, hW, hsame⟩ := X7.leave (v := some (.ref wF)) (fun h => by rw [Bd.returns] at h; cases h)
      refine ⟨_, _, k8 _ ?_, hrun, hended, _, _, rfl, ?_, ⟨_, rfl⟩, hW, hsame.mono (by decide) (by decide)⟩
      · exact retOut X7 hx Bd.returns rfl (Or.inr (Or.inr (Or.inr (Or.inr ⟨rfl, rfl, rfl⟩)))) (hb hby d1_27) hr
      · show Q1 Z c0 a1 sa sr wO wT wF wU wCT wCF r h0 n0 _ T7.heap _
        rw [e7]
        exact ⟨by rw [if_pos hc1, if_neg hc5] at hr0; rw [hr0], N0, rfl⟩
  · have k9 : ∀ t, Steps p.tables e below (s₁.setTop (mkF m 13 #[.val (.int c0), .val (.int a1), .val (.int sa), .val (.int sr)] [(.int sr)])) t → Steps p.tables e below (s₁.setTop (entryFrame m #[(.int c0), (.int a1), (.int sa), (.int sr)] 4)) t := fun t q => k1 t (by
        show Steps p.tables e below (s₁.setTop (mkF m 1 #[.val (.int c0), .val (.int a1), .val (.int sa), .val (.int sr)] [(.int sa)])) _
        refine XS.ifYes X0.here hx rfl (pc0 := 1) (pc' := 12) rfl (hb hby d1_1) rfl ((if0 _ _).trans (feq (hc1 : ¬ (sa = (0 : Int32)))).2) (by decide) (by decide) ?_
        show Steps p.tables e below (s₁.setTop (mkF m 12 #[.val (.int c0), .val (.int a1), .val (.int sa), .val (.int sr)] [])) _
        refine XS.iloadN X0.here hx rfl (hb hby d1_12) rfl ?_
        exact q)
    by_cases hc13 : sr = (0 : Int32)
    · have k10 : ∀ t, Steps p.tables e below (s₁.setTop (mkF m 16 #[.val (.int c0), .val (.int a1), .val (.int sa), .val (.int sr)] [])) t → Steps p.tables e below (s₁.setTop (entryFrame m #[(.int c0), (.int a1), (.int sa), (.int sr)] 4)) t := fun t q => k9 t (by
          show Steps p.tables e below (s₁.setTop (mkF m 13 #[.val (.int c0), .val (.int a1), .val (.int sa), .val (.int sr)] [(.int sr)])) _
          refine XS.ifNo X0.here hx rfl (hb hby d1_13) rfl ((if0 _ _).trans (teq (hc13 : sr = (0 : Int32))).2) ?_
          exact q)
      obtain ⟨T11, X11, e11, st11⟩ := getS2 X0 hx hZ hown (host := "") (Or.inl (hw _ (List.mem_of_getElem? (i := 20) rfl))) Via.refl e0 (S_TRUE) (g := (mkF m 16 #[.val (.int c0), .val (.int a1), .val (.int sa), .val (.int sr)] [])) rfl (hb hby d1_16)
      have k12 : ∀ t, Steps p.tables e below (T11.setTop (mkF m 19 #[.val (.int c0), .val (.int a1), .val (.int sa), .val (.int sr)] [(.ref wT)])) t → Steps p.tables e below (s₁.setTop (entryFrame m #[(.int c0), (.int a1), (.int sa), (.int sr)] 4)) t := fun t q => k10 t (st11 t q)
      obtain ⟨fs, hr, hrun, hended, hW, hsame⟩ := X11.leave (v := some (.ref wT)) (fun h => by rw [Bd.returns] at h; cases h)
      refine ⟨_, _, k12 _ ?_, hrun, hended, _, _, rfl, ?_, ⟨_, rfl⟩, hW, hsame.mono (by decide) (by decide)⟩
      · exact retOut X11 hx Bd.returns rfl (Or.inr (Or.inr (Or.inr (Or.inr ⟨rfl, rfl, rfl⟩)))) (hb hby d1_19) hr
      · show Q1 Z c0 a1 sa sr wO wT wF wU wCT wCF r h0 n0 _ T11.heap _
        rw [e11]
        exact ⟨by rw [if_neg hc1, if_pos hc13] at hr0; rw [hr0], N0, rfl⟩
    · have k13 : ∀ t, Steps p.tables e below (s₁.setTop (mkF m 29 #[.val (.int c0), .val (.int a1), .val (.int sa), .val (.int sr)] [(.int c0)])) t → Steps p.tables e below (s₁.setTop (entryFrame m #[(.int c0), (.int a1), (.int sa), (.int sr)] 4)) t := fun t q => k9 t (by
          show Steps p.tables e below (s₁.setTop (mkF m 13 #[.val (.int c0), .val (.int a1), .val (.int sa), .val (.int sr)] [(.int sr)])) _
          refine XS.ifYes X0.here hx rfl (pc0 := 13) (pc' := 20) rfl (hb hby d1_13) rfl ((if0 _ _).trans (feq (hc13 : ¬ (sr = (0 : Int32)))).2) (by decide) (by decide) ?_
          show Steps p.tables e below (s₁.setTop (mkF m 20 #[.val (.int c0), .val (.int a1), .val (.int sa), .val (.int sr)] [])) _
          refine XS.iloadN X0.here hx rfl (hb hby d1_20) rfl ?_
          show Steps p.tables e below (s₁.setTop (mkF m 21 #[.val (.int c0), .val (.int a1), .val (.int sa), .val (.int sr)] [(.int sa)])) _
          refine XS.ifYes X0.here hx rfl (pc0 := 21) (pc' := 28) rfl (hb hby d1_21) rfl ((if0 _ _).trans (feq (hc1 : ¬ (sa = (0 : Int32)))).2) (by decide) (by decide) ?_
          show Steps p.tables e below (s₁.setTop (mkF m 28 #[.val (.int c0), .val (.int a1), .val (.int sa), .val (.int sr)] [])) _
          refine XS.iloadN X0.here hx rfl (hb hby d1_28) rfl ?_
          exact q)
      by_cases hc29 : c0 = (0 : Int32)
      · have k14 : ∀ t, Steps p.tables e below (s₁.setTop (mkF m 32 #[.val (.int c0), .val (.int a1), .val (.int sa), .val (.int sr)] [])) t → Steps p.tables e below (s₁.setTop (entryFrame m #[(.int c0), (.int a1), (.int sa), (.int sr)] 4)) t := fun t q => k13 t (by
            show Steps p.tables e below (s₁.setTop (mkF m 29 #[.val (.int c0), .val (.int a1), .val (.int sa), .val (.int sr)] [(.int c0)])) _
            refine XS.ifNo X0.here hx rfl (hb hby d1_29) rfl ((if0 _ _).trans (teq (hc29 : c0 = (0 : Int32))).2) ?_
            exact q)
        obtain ⟨T15, X15, e15, st15⟩ := getS2 X0 hx hZ hown (host := "") (Or.inl (hw _ (List.mem_of_getElem? (i := 17) rfl))) Via.refl e0 (S_UNDECIDED) (g := (mkF m 32 #[.val (.int c0), .val (.int a1), .val (.int sa), .val (.int sr)] [])) rfl (hb hby d1_32)
        have k16 : ∀ t, Steps p.tables e below (T15.setTop (mkF m 35 #[.val (.int c0), .val (.int a1), .val (.int sa), .val (.int sr)] [(.ref wU)])) t → Steps p.tables e below (s₁.setTop (entryFrame m #[(.int c0), (.int a1), (.int sa), (.int sr)] 4)) t := fun t q => k14 t (st15 t q)
        obtain ⟨fs, hr, hrun, hended, hW, hsame⟩ := X15.leave (v := some (.ref wU)) (fun h => by rw [Bd.returns] at h; cases h)
        refine ⟨_, _, k16 _ ?_, hrun, hended, _, _, rfl, ?_, ⟨_, rfl⟩, hW, hsame.mono (by decide) (by decide)⟩
        · exact retOut X15 hx Bd.returns rfl (Or.inr (Or.inr (Or.inr (Or.inr ⟨rfl, rfl, rfl⟩)))) (hb hby d1_35) hr
        · show Q1 Z c0 a1 sa sr wO wT wF wU wCT wCF r h0 n0 _ T15.heap _
          rw [e15]
          exact ⟨by rw [if_neg hc1, if_neg hc13, if_pos hc29] at hr0; rw [hr0], N0, rfl⟩
      · have k17 : ∀ t, Steps p.tables e below (s₁.setTop (mkF m 37 #[.val (.int c0), .val (.int a1), .val (.int sa), .val (.int sr)] [(.int a1)])) t → Steps p.tables e below (s₁.setTop (entryFrame m #[(.int c0), (.int a1), (.int sa), (.int sr)] 4)) t := fun t q => k13 t (by
            show Steps p.tables e below (s₁.setTop (mkF m 29 #[.val (.int c0), .val (.int a1), .val (.int sa), .val (.int sr)] [(.int c0)])) _
            refine XS.ifYes X0.here hx rfl (pc0 := 29) (pc' := 36) rfl (hb hby d1_29) rfl ((if0 _ _).trans (feq (hc29 : ¬ (c0 = (0 : Int32)))).2) (by decide) (by decide) ?_
            show Steps p.tables e below (s₁.setTop (mkF m 36 #[.val (.int c0), .val (.int a1), .val (.int sa), .val (.int sr)] [])) _
            refine XS.iloadN X0.here hx rfl (hb hby d1_36) rfl ?_
            exact q)
        by_cases hc37 : a1 = (0 : Int32)
        · have k18 : ∀ t, Steps p.tables e below (s₁.setTop (mkF m 46 #[.val (.int c0), .val (.int a1), .val (.int sa), .val (.int sr)] [])) t → Steps p.tables e below (s₁.setTop (entryFrame m #[(.int c0), (.int a1), (.int sa), (.int sr)] 4)) t := fun t q => k17 t (by
              show Steps p.tables e below (s₁.setTop (mkF m 37 #[.val (.int c0), .val (.int a1), .val (.int sa), .val (.int sr)] [(.int a1)])) _
              refine XS.ifYes X0.here hx rfl (pc0 := 37) (pc' := 46) rfl (hb hby d1_37) rfl ((if0 _ _).trans (teq (hc37 : a1 = (0 : Int32))).1) (by decide) (by decide) ?_
              exact q)
          obtain ⟨T19, X19, e19, st19⟩ := getS2 X0 hx hZ hown (host := "") (Or.inl (hw _ (List.mem_of_getElem? (i := 21) rfl))) Via.refl e0 (S_CURRENTLY_FALSE) (g := (mkF m 46 #[.val (.int c0), .val (.int a1), .val (.int sa), .val (.int sr)] [])) rfl (hb hby d1_46)
          have k20 : ∀ t, Steps p.tables e below (T19.setTop (mkF m 49 #[.val (.int c0), .val (.int a1), .val (.int sa), .val (.int sr)] [(.ref wCF)])) t → Steps p.tables e below (s₁.setTop (entryFrame m #[(.int c0), (.int a1), (.int sa), (.int sr)] 4)) t := fun t q => k18 t (st19 t q)
          obtain ⟨fs, hr, hrun, hended, hW, hsame⟩ := X19.leave (v := some (.ref wCF)) (fun h => by rw [Bd.returns] at h; cases h)
          refine ⟨_, _, k20 _ ?_, hrun, hended, _, _, rfl, ?_, ⟨_, rfl⟩, hW, hsame.mono (by decide) (by decide)⟩
          · exact retOut X19 hx Bd.returns rfl (Or.inr (Or.inr (Or.inr (Or.inr ⟨rfl, rfl, rfl⟩)))) (hb hby d1_49) hr
          · show Q1 Z c0 a1 sa sr wO wT wF wU wCT wCF r h0 n0 _ T19.heap _
            rw [e19]
            exact ⟨by rw [if_neg hc1, if_neg hc13, if_neg hc29, if_pos hc37] at hr0; rw [hr0], N0, rfl⟩
        · have k21 : ∀ t, Steps p.tables e below (s₁.setTop (mkF m 40 #[.val (.int c0), .val (.int a1), .val (.int sa), .val (.int sr)] [])) t → Steps p.tables e below (s₁.setTop (entryFrame m #[(.int c0), (.int a1), (.int sa), (.int sr)] 4)) t := fun t q => k17 t (by
              show Steps p.tables e below (s₁.setTop (mkF m 37 #[.val (.int c0), .val (.int a1), .val (.int sa), .val (.int sr)] [(.int a1)])) _
              refine XS.ifNo X0.here hx rfl (hb hby d1_37) rfl ((if0 _ _).trans (feq (hc37 : ¬ (a1 = (0 : Int32)))).1) ?_
              exact q)
          obtain ⟨T22, X22, e22, st22⟩ := getS2 X0 hx hZ hown (host := "") (Or.inl (hw _ (List.mem_of_getElem? (i := 18) rfl))) Via.refl e0 (S_CURRENTLY_TRUE) (g := (mkF m 40 #[.val (.int c0), .val (.int a1), .val (.int sa), .val (.int sr)] [])) rfl (hb hby d1_40)
          have k23 : ∀ t, Steps p.tables e below (T22.setTop (mkF m 43 #[.val (.int c0), .val (.int a1), .val (.int sa), .val (.int sr)] [(.ref wCT)])) t → Steps p.tables e below (s₁.setTop (entryFrame m #[(.int c0), (.int a1), (.int sa), (.int sr)] 4)) t := fun t q => k21 t (st22 t q)
          have k24 : ∀ t, Steps p.tables e below (T22.setTop (mkF m 49 #[.val (.int c0), .val (.int a1), .val (.int sa), .val (.int sr)] [(.ref wCT)])) t → Steps p.tables e below (s₁.setTop (entryFrame m #[(.int c0), (.int a1), (.int sa), (.int sr)] 4)) t := fun t q => k23 t (by
              show Steps p.tables e below (T22.setTop (mkF m 43 #[.val (.int c0), .val (.int a1), .val (.int sa), .val (.int sr)] [(.ref wCT)])) _
              refine XS.goto X22.here hx rfl (pc0 := 43) (pc' := 49) rfl (hb hby d1_43) (by decide) (by decide) ?_
              exact q)
          obtain ⟨fs, hr, hrun, hended, hW, hsame⟩ := X22.leave (v := some (.ref wCT)) (fun h => by rw [Bd.returns] at h; cases h)
          refine ⟨_, _, k24 _ ?_, hrun, hended, _, _, rfl, ?_, ⟨_, rfl⟩, hW, hsame.mono (by decide) (by decide)⟩
          · exact retOut X22 hx Bd.returns rfl (Or.inr (Or.inr (Or.inr (Or.inr ⟨rfl, rfl, rfl⟩)))) (hb hby d1_49) hr
          · show Q1 Z c0 a1 sa sr wO wT wF wU wCT wCF r h0 n0 _ T22.heap _
            rw [e22]
            exact ⟨by rw [if_neg hc1, if_neg hc13, if_neg hc29, if_neg hc37] at hr0; rw [hr0], N0, rfl⟩
set_option maxRecDepth 65536 in
set_option maxHeartbeats 40000000 in
theorem sg1 {p : Program} {l : Launch} {e : Env} {R : Room} {s : State} {m : MethodId} {args : Array Value} {below : List Frame} {meth : Method} {c : Code} {T0 : State} {locs : List Loc} {cells slots : Nat} {Z : State} {a0 : Array Value} {h0 : Heap} (i0 : Int32) (c0 : Int32)
    (X0 : Stand p l e R s m args below meth c T0 locs cells slots) (hx : p.tables.exec = Jvm.exec) (hZ : Z.Warmed39 s.vm) (hw : ∀ d ∈ tables_1, d.before a0 Z = true) (hby : c.code = code) (hml : c.maxLocals = 7) (hown : s.vm.findClass "com/example/clepsydra/clepsydra/VerdictPredictedPinLaw" = some m.cls) (e0 : T0.heap = h0) (hv : (if (i0 &&& (1 : Int32)) = (0 : Int32) then (0 : Int32) else 1) = c0) :
    ∃ (T' : State), Stand p l e R s m args below meth c T' locs cells slots ∧ T'.heap = h0 ∧ ∀ t, Steps p.tables e below (T'.setTop (mkF m 12 #[.val (.int i0), .val (.int c0), .unset, .unset, .unset, .unset, .unset] [])) t → Steps p.tables e below (T0.setTop (mkF m 0 #[.val (.int i0), .unset, .unset, .unset, .unset, .unset, .unset] [])) t := by
  have k0 : ∀ t, Steps p.tables e below (T0.setTop (mkF m 0 #[.val (.int i0), .unset, .unset, .unset, .unset, .unset, .unset] [])) t → Steps p.tables e below (T0.setTop (mkF m 0 #[.val (.int i0), .unset, .unset, .unset, .unset, .unset, .unset] [])) t := fun _ q => q
  have k1 : ∀ t, Steps p.tables e below (T0.setTop (mkF m 3 #[.val (.int i0), .unset, .unset, .unset, .unset, .unset, .unset] [(.int (i0 &&& (1 : Int32)))])) t → Steps p.tables e below (T0.setTop (mkF m 0 #[.val (.int i0), .unset, .unset, .unset, .unset, .unset, .unset] [])) t := fun t q => k0 t (by
      show Steps p.tables e below (T0.setTop (mkF m 0 #[.val (.int i0), .unset, .unset, .unset, .unset, .unset, .unset] [])) _
      refine XS.iloadN X0.here hx rfl (hb hby at_0) rfl ?_
      show Steps p.tables e below (T0.setTop (mkF m 1 #[.val (.int i0), .unset, .unset, .unset, .unset, .unset, .unset] [(.int i0)])) _
      refine XS.iconst X0.here hx rfl (hb hby at_1) ?_
      show Steps p.tables e below (T0.setTop (mkF m 2 #[.val (.int i0), .unset, .unset, .unset, .unset, .unset, .unset] [(.int (1 : Int32)), (.int i0)])) _
      refine XS.iand X0.here hx rfl (hb hby at_2) rfl ?_
      exact q)
  by_cases hc3 : (i0 &&& (1 : Int32)) = (0 : Int32)
  · have k2 : ∀ t, Steps p.tables e below (T0.setTop (mkF m 12 #[.val (.int i0), .val (.int (0 : Int32)), .unset, .unset, .unset, .unset, .unset] [])) t → Steps p.tables e below (T0.setTop (mkF m 0 #[.val (.int i0), .unset, .unset, .unset, .unset, .unset, .unset] [])) t := fun t q => k1 t (by
        show Steps p.tables e below (T0.setTop (mkF m 3 #[.val (.int i0), .unset, .unset, .unset, .unset, .unset, .unset] [(.int (i0 &&& (1 : Int32)))])) _
        refine XS.ifYes X0.here hx rfl (pc0 := 3) (pc' := 10) rfl (hb hby at_3) rfl ((if0 _ _).trans (teq (hc3 : (i0 &&& (1 : Int32)) = (0 : Int32))).1) (by decide) (by decide) ?_
        show Steps p.tables e below (T0.setTop (mkF m 10 #[.val (.int i0), .unset, .unset, .unset, .unset, .unset, .unset] [])) _
        refine XS.iconst X0.here hx rfl (hb hby at_10) ?_
        show Steps p.tables e below (T0.setTop (mkF m 11 #[.val (.int i0), .unset, .unset, .unset, .unset, .unset, .unset] [(.int (0 : Int32))])) _
        refine XS.istoreN X0.here hx rfl (hb hby at_11) rfl (l' := #[.val (.int i0), .val (.int (0 : Int32)), .unset, .unset, .unset, .unset, .unset]) rfl ?_
        exact q)
    refine ⟨T0, X0, e0, fun t q => k2 t ?_⟩
    rw [if_pos hc3] at hv
    subst hv
    exact q
  · have k3 : ∀ t, Steps p.tables e below (T0.setTop (mkF m 12 #[.val (.int i0), .val (.int (1 : Int32)), .unset, .unset, .unset, .unset, .unset] [])) t → Steps p.tables e below (T0.setTop (mkF m 0 #[.val (.int i0), .unset, .unset, .unset, .unset, .unset, .unset] [])) t := fun t q => k1 t (by
        show Steps p.tables e below (T0.setTop (mkF m 3 #[.val (.int i0), .unset, .unset, .unset, .unset, .unset, .unset] [(.int (i0 &&& (1 : Int32)))])) _
        refine XS.ifNo X0.here hx rfl (hb hby at_3) rfl ((if0 _ _).trans (feq (hc3 : ¬ ((i0 &&& (1 : Int32)) = (0 : Int32)))).1) ?_
        show Steps p.tables e below (T0.setTop (mkF m 6 #[.val (.int i0), .unset, .unset, .unset, .unset, .unset, .unset] [])) _
        refine XS.iconst X0.here hx rfl (hb hby at_6) ?_
        show Steps p.tables e below (T0.setTop (mkF m 7 #[.val (.int i0), .unset, .unset, .unset, .unset, .unset, .unset] [(.int (1 : Int32))])) _
        refine XS.goto X0.here hx rfl (pc0 := 7) (pc' := 11) rfl (hb hby at_7) (by decide) (by decide) ?_
        show Steps p.tables e below (T0.setTop (mkF m 11 #[.val (.int i0), .unset, .unset, .unset, .unset, .unset, .unset] [(.int (1 : Int32))])) _
        refine XS.istoreN X0.here hx rfl (hb hby at_11) rfl (l' := #[.val (.int i0), .val (.int (1 : Int32)), .unset, .unset, .unset, .unset, .unset]) rfl ?_
        exact q)
    refine ⟨T0, X0, e0, fun t q => k3 t ?_⟩
    rw [if_neg hc3] at hv
    subst hv
    exact q
set_option maxRecDepth 65536 in
set_option maxHeartbeats 40000000 in
theorem sg2 {p : Program} {l : Launch} {e : Env} {R : Room} {s : State} {m : MethodId} {args : Array Value} {below : List Frame} {meth : Method} {c : Code} {T0 : State} {locs : List Loc} {cells slots : Nat} {Z : State} {a0 : Array Value} {h0 : Heap} (i0 : Int32) (c0 : Int32) (a1 : Int32)
    (X0 : Stand p l e R s m args below meth c T0 locs cells slots) (hx : p.tables.exec = Jvm.exec) (hZ : Z.Warmed39 s.vm) (hw : ∀ d ∈ tables_1, d.before a0 Z = true) (hby : c.code = code) (hml : c.maxLocals = 7) (hown : s.vm.findClass "com/example/clepsydra/clepsydra/VerdictPredictedPinLaw" = some m.cls) (e0 : T0.heap = h0) (hv : (if (i0 &&& (2 : Int32)) = (0 : Int32) then (0 : Int32) else 1) = a1) :
    ∃ (T' : State), Stand p l e R s m args below meth c T' locs cells slots ∧ T'.heap = h0 ∧ ∀ t, Steps p.tables e below (T'.setTop (mkF m 24 #[.val (.int i0), .val (.int c0), .val (.int a1), .unset, .unset, .unset, .unset] [])) t → Steps p.tables e below (T0.setTop (mkF m 12 #[.val (.int i0), .val (.int c0), .unset, .unset, .unset, .unset, .unset] [])) t := by
  have k0 : ∀ t, Steps p.tables e below (T0.setTop (mkF m 12 #[.val (.int i0), .val (.int c0), .unset, .unset, .unset, .unset, .unset] [])) t → Steps p.tables e below (T0.setTop (mkF m 12 #[.val (.int i0), .val (.int c0), .unset, .unset, .unset, .unset, .unset] [])) t := fun _ q => q
  have k1 : ∀ t, Steps p.tables e below (T0.setTop (mkF m 15 #[.val (.int i0), .val (.int c0), .unset, .unset, .unset, .unset, .unset] [(.int (i0 &&& (2 : Int32)))])) t → Steps p.tables e below (T0.setTop (mkF m 12 #[.val (.int i0), .val (.int c0), .unset, .unset, .unset, .unset, .unset] [])) t := fun t q => k0 t (by
      show Steps p.tables e below (T0.setTop (mkF m 12 #[.val (.int i0), .val (.int c0), .unset, .unset, .unset, .unset, .unset] [])) _
      refine XS.iloadN X0.here hx rfl (hb hby at_12) rfl ?_
      show Steps p.tables e below (T0.setTop (mkF m 13 #[.val (.int i0), .val (.int c0), .unset, .unset, .unset, .unset, .unset] [(.int i0)])) _
      refine XS.iconst X0.here hx rfl (hb hby at_13) ?_
      show Steps p.tables e below (T0.setTop (mkF m 14 #[.val (.int i0), .val (.int c0), .unset, .unset, .unset, .unset, .unset] [(.int (2 : Int32)), (.int i0)])) _
      refine XS.iand X0.here hx rfl (hb hby at_14) rfl ?_
      exact q)
  by_cases hc15 : (i0 &&& (2 : Int32)) = (0 : Int32)
  · have k2 : ∀ t, Steps p.tables e below (T0.setTop (mkF m 24 #[.val (.int i0), .val (.int c0), .val (.int (0 : Int32)), .unset, .unset, .unset, .unset] [])) t → Steps p.tables e below (T0.setTop (mkF m 12 #[.val (.int i0), .val (.int c0), .unset, .unset, .unset, .unset, .unset] [])) t := fun t q => k1 t (by
        show Steps p.tables e below (T0.setTop (mkF m 15 #[.val (.int i0), .val (.int c0), .unset, .unset, .unset, .unset, .unset] [(.int (i0 &&& (2 : Int32)))])) _
        refine XS.ifYes X0.here hx rfl (pc0 := 15) (pc' := 22) rfl (hb hby at_15) rfl ((if0 _ _).trans (teq (hc15 : (i0 &&& (2 : Int32)) = (0 : Int32))).1) (by decide) (by decide) ?_
        show Steps p.tables e below (T0.setTop (mkF m 22 #[.val (.int i0), .val (.int c0), .unset, .unset, .unset, .unset, .unset] [])) _
        refine XS.iconst X0.here hx rfl (hb hby at_22) ?_
        show Steps p.tables e below (T0.setTop (mkF m 23 #[.val (.int i0), .val (.int c0), .unset, .unset, .unset, .unset, .unset] [(.int (0 : Int32))])) _
        refine XS.istoreN X0.here hx rfl (hb hby at_23) rfl (l' := #[.val (.int i0), .val (.int c0), .val (.int (0 : Int32)), .unset, .unset, .unset, .unset]) rfl ?_
        exact q)
    refine ⟨T0, X0, e0, fun t q => k2 t ?_⟩
    rw [if_pos hc15] at hv
    subst hv
    exact q
  · have k3 : ∀ t, Steps p.tables e below (T0.setTop (mkF m 24 #[.val (.int i0), .val (.int c0), .val (.int (1 : Int32)), .unset, .unset, .unset, .unset] [])) t → Steps p.tables e below (T0.setTop (mkF m 12 #[.val (.int i0), .val (.int c0), .unset, .unset, .unset, .unset, .unset] [])) t := fun t q => k1 t (by
        show Steps p.tables e below (T0.setTop (mkF m 15 #[.val (.int i0), .val (.int c0), .unset, .unset, .unset, .unset, .unset] [(.int (i0 &&& (2 : Int32)))])) _
        refine XS.ifNo X0.here hx rfl (hb hby at_15) rfl ((if0 _ _).trans (feq (hc15 : ¬ ((i0 &&& (2 : Int32)) = (0 : Int32)))).1) ?_
        show Steps p.tables e below (T0.setTop (mkF m 18 #[.val (.int i0), .val (.int c0), .unset, .unset, .unset, .unset, .unset] [])) _
        refine XS.iconst X0.here hx rfl (hb hby at_18) ?_
        show Steps p.tables e below (T0.setTop (mkF m 19 #[.val (.int i0), .val (.int c0), .unset, .unset, .unset, .unset, .unset] [(.int (1 : Int32))])) _
        refine XS.goto X0.here hx rfl (pc0 := 19) (pc' := 23) rfl (hb hby at_19) (by decide) (by decide) ?_
        show Steps p.tables e below (T0.setTop (mkF m 23 #[.val (.int i0), .val (.int c0), .unset, .unset, .unset, .unset, .unset] [(.int (1 : Int32))])) _
        refine XS.istoreN X0.here hx rfl (hb hby at_23) rfl (l' := #[.val (.int i0), .val (.int c0), .val (.int (1 : Int32)), .unset, .unset, .unset, .unset]) rfl ?_
        exact q)
    refine ⟨T0, X0, e0, fun t q => k3 t ?_⟩
    rw [if_neg hc15] at hv
    subst hv
    exact q
set_option maxRecDepth 65536 in
set_option maxHeartbeats 40000000 in
theorem sg3 {p : Program} {l : Launch} {e : Env} {R : Room} {s : State} {m : MethodId} {args : Array Value} {below : List Frame} {meth : Method} {c : Code} {T0 : State} {locs : List Loc} {cells slots : Nat} {Z : State} {a0 : Array Value} {h0 : Heap} (i0 : Int32) (c0 : Int32) (a1 : Int32) (sa : Int32)
    (X0 : Stand p l e R s m args below meth c T0 locs cells slots) (hx : p.tables.exec = Jvm.exec) (hZ : Z.Warmed39 s.vm) (hw : ∀ d ∈ tables_1, d.before a0 Z = true) (hby : c.code = code) (hml : c.maxLocals = 7) (hown : s.vm.findClass "com/example/clepsydra/clepsydra/VerdictPredictedPinLaw" = some m.cls) (e0 : T0.heap = h0) (hv : (if (i0 &&& (4 : Int32)) = (0 : Int32) then (0 : Int32) else 1) = sa) :
    ∃ (T' : State), Stand p l e R s m args below meth c T' locs cells slots ∧ T'.heap = h0 ∧ ∀ t, Steps p.tables e below (T'.setTop (mkF m 36 #[.val (.int i0), .val (.int c0), .val (.int a1), .val (.int sa), .unset, .unset, .unset] [])) t → Steps p.tables e below (T0.setTop (mkF m 24 #[.val (.int i0), .val (.int c0), .val (.int a1), .unset, .unset, .unset, .unset] [])) t := by
  have k0 : ∀ t, Steps p.tables e below (T0.setTop (mkF m 24 #[.val (.int i0), .val (.int c0), .val (.int a1), .unset, .unset, .unset, .unset] [])) t → Steps p.tables e below (T0.setTop (mkF m 24 #[.val (.int i0), .val (.int c0), .val (.int a1), .unset, .unset, .unset, .unset] [])) t := fun _ q => q
  have k1 : ∀ t, Steps p.tables e below (T0.setTop (mkF m 27 #[.val (.int i0), .val (.int c0), .val (.int a1), .unset, .unset, .unset, .unset] [(.int (i0 &&& (4 : Int32)))])) t → Steps p.tables e below (T0.setTop (mkF m 24 #[.val (.int i0), .val (.int c0), .val (.int a1), .unset, .unset, .unset, .unset] [])) t := fun t q => k0 t (by
      show Steps p.tables e below (T0.setTop (mkF m 24 #[.val (.int i0), .val (.int c0), .val (.int a1), .unset, .unset, .unset, .unset] [])) _
      refine XS.iloadN X0.here hx rfl (hb hby at_24) rfl ?_
      show Steps p.tables e below (T0.setTop (mkF m 25 #[.val (.int i0), .val (.int c0), .val (.int a1), .unset, .unset, .unset, .unset] [(.int i0)])) _
      refine XS.iconst X0.here hx rfl (hb hby at_25) ?_
      show Steps p.tables e below (T0.setTop (mkF m 26 #[.val (.int i0), .val (.int c0), .val (.int a1), .unset, .unset, .unset, .unset] [(.int (4 : Int32)), (.int i0)])) _
      refine XS.iand X0.here hx rfl (hb hby at_26) rfl ?_
      exact q)
  by_cases hc27 : (i0 &&& (4 : Int32)) = (0 : Int32)
  · have k2 : ∀ t, Steps p.tables e below (T0.setTop (mkF m 36 #[.val (.int i0), .val (.int c0), .val (.int a1), .val (.int (0 : Int32)), .unset, .unset, .unset] [])) t → Steps p.tables e below (T0.setTop (mkF m 24 #[.val (.int i0), .val (.int c0), .val (.int a1), .unset, .unset, .unset, .unset] [])) t := fun t q => k1 t (by
        show Steps p.tables e below (T0.setTop (mkF m 27 #[.val (.int i0), .val (.int c0), .val (.int a1), .unset, .unset, .unset, .unset] [(.int (i0 &&& (4 : Int32)))])) _
        refine XS.ifYes X0.here hx rfl (pc0 := 27) (pc' := 34) rfl (hb hby at_27) rfl ((if0 _ _).trans (teq (hc27 : (i0 &&& (4 : Int32)) = (0 : Int32))).1) (by decide) (by decide) ?_
        show Steps p.tables e below (T0.setTop (mkF m 34 #[.val (.int i0), .val (.int c0), .val (.int a1), .unset, .unset, .unset, .unset] [])) _
        refine XS.iconst X0.here hx rfl (hb hby at_34) ?_
        show Steps p.tables e below (T0.setTop (mkF m 35 #[.val (.int i0), .val (.int c0), .val (.int a1), .unset, .unset, .unset, .unset] [(.int (0 : Int32))])) _
        refine XS.istoreN X0.here hx rfl (hb hby at_35) rfl (l' := #[.val (.int i0), .val (.int c0), .val (.int a1), .val (.int (0 : Int32)), .unset, .unset, .unset]) rfl ?_
        exact q)
    refine ⟨T0, X0, e0, fun t q => k2 t ?_⟩
    rw [if_pos hc27] at hv
    subst hv
    exact q
  · have k3 : ∀ t, Steps p.tables e below (T0.setTop (mkF m 36 #[.val (.int i0), .val (.int c0), .val (.int a1), .val (.int (1 : Int32)), .unset, .unset, .unset] [])) t → Steps p.tables e below (T0.setTop (mkF m 24 #[.val (.int i0), .val (.int c0), .val (.int a1), .unset, .unset, .unset, .unset] [])) t := fun t q => k1 t (by
        show Steps p.tables e below (T0.setTop (mkF m 27 #[.val (.int i0), .val (.int c0), .val (.int a1), .unset, .unset, .unset, .unset] [(.int (i0 &&& (4 : Int32)))])) _
        refine XS.ifNo X0.here hx rfl (hb hby at_27) rfl ((if0 _ _).trans (feq (hc27 : ¬ ((i0 &&& (4 : Int32)) = (0 : Int32)))).1) ?_
        show Steps p.tables e below (T0.setTop (mkF m 30 #[.val (.int i0), .val (.int c0), .val (.int a1), .unset, .unset, .unset, .unset] [])) _
        refine XS.iconst X0.here hx rfl (hb hby at_30) ?_
        show Steps p.tables e below (T0.setTop (mkF m 31 #[.val (.int i0), .val (.int c0), .val (.int a1), .unset, .unset, .unset, .unset] [(.int (1 : Int32))])) _
        refine XS.goto X0.here hx rfl (pc0 := 31) (pc' := 35) rfl (hb hby at_31) (by decide) (by decide) ?_
        show Steps p.tables e below (T0.setTop (mkF m 35 #[.val (.int i0), .val (.int c0), .val (.int a1), .unset, .unset, .unset, .unset] [(.int (1 : Int32))])) _
        refine XS.istoreN X0.here hx rfl (hb hby at_35) rfl (l' := #[.val (.int i0), .val (.int c0), .val (.int a1), .val (.int (1 : Int32)), .unset, .unset, .unset]) rfl ?_
        exact q)
    refine ⟨T0, X0, e0, fun t q => k3 t ?_⟩
    rw [if_neg hc27] at hv
    subst hv
    exact q
set_option maxRecDepth 65536 in
set_option maxHeartbeats 40000000 in
theorem sg4 {p : Program} {l : Launch} {e : Env} {R : Room} {s : State} {m : MethodId} {args : Array Value} {below : List Frame} {meth : Method} {c : Code} {T0 : State} {locs : List Loc} {cells slots : Nat} {Z : State} {a0 : Array Value} {h0 : Heap} (i0 : Int32) (c0 : Int32) (a1 : Int32) (sa : Int32) (sr : Int32)
    (X0 : Stand p l e R s m args below meth c T0 locs cells slots) (hx : p.tables.exec = Jvm.exec) (hZ : Z.Warmed39 s.vm) (hw : ∀ d ∈ tables_1, d.before a0 Z = true) (hby : c.code = code) (hml : c.maxLocals = 7) (hown : s.vm.findClass "com/example/clepsydra/clepsydra/VerdictPredictedPinLaw" = some m.cls) (e0 : T0.heap = h0) (hv : (if (i0 &&& (8 : Int32)) = (0 : Int32) then (0 : Int32) else 1) = sr) :
    ∃ (T' : State), Stand p l e R s m args below meth c T' locs cells slots ∧ T'.heap = h0 ∧ ∀ t, Steps p.tables e below (T'.setTop (mkF m 50 #[.val (.int i0), .val (.int c0), .val (.int a1), .val (.int sa), .val (.int sr), .unset, .unset] [])) t → Steps p.tables e below (T0.setTop (mkF m 36 #[.val (.int i0), .val (.int c0), .val (.int a1), .val (.int sa), .unset, .unset, .unset] [])) t := by
  have k0 : ∀ t, Steps p.tables e below (T0.setTop (mkF m 36 #[.val (.int i0), .val (.int c0), .val (.int a1), .val (.int sa), .unset, .unset, .unset] [])) t → Steps p.tables e below (T0.setTop (mkF m 36 #[.val (.int i0), .val (.int c0), .val (.int a1), .val (.int sa), .unset, .unset, .unset] [])) t := fun _ q => q
  have k1 : ∀ t, Steps p.tables e below (T0.setTop (mkF m 40 #[.val (.int i0), .val (.int c0), .val (.int a1), .val (.int sa), .unset, .unset, .unset] [(.int (i0 &&& (8 : Int32)))])) t → Steps p.tables e below (T0.setTop (mkF m 36 #[.val (.int i0), .val (.int c0), .val (.int a1), .val (.int sa), .unset, .unset, .unset] [])) t := fun t q => k0 t (by
      show Steps p.tables e below (T0.setTop (mkF m 36 #[.val (.int i0), .val (.int c0), .val (.int a1), .val (.int sa), .unset, .unset, .unset] [])) _
      refine XS.iloadN X0.here hx rfl (hb hby at_36) rfl ?_
      show Steps p.tables e below (T0.setTop (mkF m 37 #[.val (.int i0), .val (.int c0), .val (.int a1), .val (.int sa), .unset, .unset, .unset] [(.int i0)])) _
      refine XS.bipush X0.here hx rfl (hb hby at_37) ?_
      show Steps p.tables e below (T0.setTop (mkF m 39 #[.val (.int i0), .val (.int c0), .val (.int a1), .val (.int sa), .unset, .unset, .unset] [(.int (8 : Int32)), (.int i0)])) _
      refine XS.iand X0.here hx rfl (hb hby at_39) rfl ?_
      exact q)
  by_cases hc40 : (i0 &&& (8 : Int32)) = (0 : Int32)
  · have k2 : ∀ t, Steps p.tables e below (T0.setTop (mkF m 50 #[.val (.int i0), .val (.int c0), .val (.int a1), .val (.int sa), .val (.int (0 : Int32)), .unset, .unset] [])) t → Steps p.tables e below (T0.setTop (mkF m 36 #[.val (.int i0), .val (.int c0), .val (.int a1), .val (.int sa), .unset, .unset, .unset] [])) t := fun t q => k1 t (by
        show Steps p.tables e below (T0.setTop (mkF m 40 #[.val (.int i0), .val (.int c0), .val (.int a1), .val (.int sa), .unset, .unset, .unset] [(.int (i0 &&& (8 : Int32)))])) _
        refine XS.ifYes X0.here hx rfl (pc0 := 40) (pc' := 47) rfl (hb hby at_40) rfl ((if0 _ _).trans (teq (hc40 : (i0 &&& (8 : Int32)) = (0 : Int32))).1) (by decide) (by decide) ?_
        show Steps p.tables e below (T0.setTop (mkF m 47 #[.val (.int i0), .val (.int c0), .val (.int a1), .val (.int sa), .unset, .unset, .unset] [])) _
        refine XS.iconst X0.here hx rfl (hb hby at_47) ?_
        show Steps p.tables e below (T0.setTop (mkF m 48 #[.val (.int i0), .val (.int c0), .val (.int a1), .val (.int sa), .unset, .unset, .unset] [(.int (0 : Int32))])) _
        refine XS.istore X0.here hx rfl (hb hby at_48) rfl (l' := #[.val (.int i0), .val (.int c0), .val (.int a1), .val (.int sa), .val (.int (0 : Int32)), .unset, .unset]) rfl ?_
        exact q)
    refine ⟨T0, X0, e0, fun t q => k2 t ?_⟩
    rw [if_pos hc40] at hv
    subst hv
    exact q
  · have k3 : ∀ t, Steps p.tables e below (T0.setTop (mkF m 50 #[.val (.int i0), .val (.int c0), .val (.int a1), .val (.int sa), .val (.int (1 : Int32)), .unset, .unset] [])) t → Steps p.tables e below (T0.setTop (mkF m 36 #[.val (.int i0), .val (.int c0), .val (.int a1), .val (.int sa), .unset, .unset, .unset] [])) t := fun t q => k1 t (by
        show Steps p.tables e below (T0.setTop (mkF m 40 #[.val (.int i0), .val (.int c0), .val (.int a1), .val (.int sa), .unset, .unset, .unset] [(.int (i0 &&& (8 : Int32)))])) _
        refine XS.ifNo X0.here hx rfl (hb hby at_40) rfl ((if0 _ _).trans (feq (hc40 : ¬ ((i0 &&& (8 : Int32)) = (0 : Int32)))).1) ?_
        show Steps p.tables e below (T0.setTop (mkF m 43 #[.val (.int i0), .val (.int c0), .val (.int a1), .val (.int sa), .unset, .unset, .unset] [])) _
        refine XS.iconst X0.here hx rfl (hb hby at_43) ?_
        show Steps p.tables e below (T0.setTop (mkF m 44 #[.val (.int i0), .val (.int c0), .val (.int a1), .val (.int sa), .unset, .unset, .unset] [(.int (1 : Int32))])) _
        refine XS.goto X0.here hx rfl (pc0 := 44) (pc' := 48) rfl (hb hby at_44) (by decide) (by decide) ?_
        show Steps p.tables e below (T0.setTop (mkF m 48 #[.val (.int i0), .val (.int c0), .val (.int a1), .val (.int sa), .unset, .unset, .unset] [(.int (1 : Int32))])) _
        refine XS.istore X0.here hx rfl (hb hby at_48) rfl (l' := #[.val (.int i0), .val (.int c0), .val (.int a1), .val (.int sa), .val (.int (1 : Int32)), .unset, .unset]) rfl ?_
        exact q)
    refine ⟨T0, X0, e0, fun t q => k3 t ?_⟩
    rw [if_neg hc40] at hv
    subst hv
    exact q
set_option maxRecDepth 65536 in
set_option maxHeartbeats 40000000 in
theorem sg5 {p : Program} {l : Launch} {e : Env} {R : Room} {s : State} {m : MethodId} {args : Array Value} {below : List Frame} {meth : Method} {c : Code} {T0 : State} {locs : List Loc} {cells slots : Nat} {Z : State} {a0 : Array Value} {h0 : Heap} (i0 : Int32) (c0 : Int32) (a1 : Int32) (sa : Int32) (sr : Int32) (r : Addr) (b : Int32)
    (X0 : Stand p l e R s m args below meth c T0 locs cells slots) (hx : p.tables.exec = Jvm.exec) (hZ : Z.Warmed39 s.vm) (hw : ∀ d ∈ tables_1, d.before a0 Z = true) (hby : c.code = code) (hml : c.maxLocals = 7) (hown : s.vm.findClass "com/example/clepsydra/clepsydra/VerdictPredictedPinLaw" = some m.cls) (e0 : T0.heap = h0) (hv : (if sa = (0 : Int32) then (0 : Int32) else if sr = (0 : Int32) then 0 else 1) = b) :
    ∃ (T' : State), Stand p l e R s m args below meth c T' locs cells slots ∧ T'.heap = h0 ∧ ∀ t, Steps p.tables e below (T'.setTop (mkF m 76 #[.val (.int i0), .val (.int c0), .val (.int a1), .val (.int sa), .val (.int sr), .val (.ref r), .val (.int b)] [])) t → Steps p.tables e below (T0.setTop (mkF m 60 #[.val (.int i0), .val (.int c0), .val (.int a1), .val (.int sa), .val (.int sr), .val (.ref r), .unset] [])) t := by
  have k0 : ∀ t, Steps p.tables e below (T0.setTop (mkF m 60 #[.val (.int i0), .val (.int c0), .val (.int a1), .val (.int sa), .val (.int sr), .val (.ref r), .unset] [])) t → Steps p.tables e below (T0.setTop (mkF m 60 #[.val (.int i0), .val (.int c0), .val (.int a1), .val (.int sa), .val (.int sr), .val (.ref r), .unset] [])) t := fun _ q => q
  have k1 : ∀ t, Steps p.tables e below (T0.setTop (mkF m 61 #[.val (.int i0), .val (.int c0), .val (.int a1), .val (.int sa), .val (.int sr), .val (.ref r), .unset] [(.int sa)])) t → Steps p.tables e below (T0.setTop (mkF m 60 #[.val (.int i0), .val (.int c0), .val (.int a1), .val (.int sa), .val (.int sr), .val (.ref r), .unset] [])) t := fun t q => k0 t (by
      show Steps p.tables e below (T0.setTop (mkF m 60 #[.val (.int i0), .val (.int c0), .val (.int a1), .val (.int sa), .val (.int sr), .val (.ref r), .unset] [])) _
      refine XS.iloadN X0.here hx rfl (hb hby at_60) rfl ?_
      exact q)
  by_cases hc61 : sa = (0 : Int32)
  · have k2 : ∀ t, Steps p.tables e below (T0.setTop (mkF m 76 #[.val (.int i0), .val (.int c0), .val (.int a1), .val (.int sa), .val (.int sr), .val (.ref r), .val (.int (0 : Int32))] [])) t → Steps p.tables e below (T0.setTop (mkF m 60 #[.val (.int i0), .val (.int c0), .val (.int a1), .val (.int sa), .val (.int sr), .val (.ref r), .unset] [])) t := fun t q => k1 t (by
        show Steps p.tables e below (T0.setTop (mkF m 61 #[.val (.int i0), .val (.int c0), .val (.int a1), .val (.int sa), .val (.int sr), .val (.ref r), .unset] [(.int sa)])) _
        refine XS.ifYes X0.here hx rfl (pc0 := 61) (pc' := 73) rfl (hb hby at_61) rfl ((if0 _ _).trans (teq (hc61 : sa = (0 : Int32))).1) (by decide) (by decide) ?_
        show Steps p.tables e below (T0.setTop (mkF m 73 #[.val (.int i0), .val (.int c0), .val (.int a1), .val (.int sa), .val (.int sr), .val (.ref r), .unset] [])) _
        refine XS.iconst X0.here hx rfl (hb hby at_73) ?_
        show Steps p.tables e below (T0.setTop (mkF m 74 #[.val (.int i0), .val (.int c0), .val (.int a1), .val (.int sa), .val (.int sr), .val (.ref r), .unset] [(.int (0 : Int32))])) _
        refine XS.istore X0.here hx rfl (hb hby at_74) rfl (l' := #[.val (.int i0), .val (.int c0), .val (.int a1), .val (.int sa), .val (.int sr), .val (.ref r), .val (.int (0 : Int32))]) rfl ?_
        exact q)
    refine ⟨T0, X0, e0, fun t q => k2 t ?_⟩
    rw [if_pos hc61] at hv
    subst hv
    exact q
  · have k3 : ∀ t, Steps p.tables e below (T0.setTop (mkF m 66 #[.val (.int i0), .val (.int c0), .val (.int a1), .val (.int sa), .val (.int sr), .val (.ref r), .unset] [(.int sr)])) t → Steps p.tables e below (T0.setTop (mkF m 60 #[.val (.int i0), .val (.int c0), .val (.int a1), .val (.int sa), .val (.int sr), .val (.ref r), .unset] [])) t := fun t q => k1 t (by
        show Steps p.tables e below (T0.setTop (mkF m 61 #[.val (.int i0), .val (.int c0), .val (.int a1), .val (.int sa), .val (.int sr), .val (.ref r), .unset] [(.int sa)])) _
        refine XS.ifNo X0.here hx rfl (hb hby at_61) rfl ((if0 _ _).trans (feq (hc61 : ¬ (sa = (0 : Int32)))).1) ?_
        show Steps p.tables e below (T0.setTop (mkF m 64 #[.val (.int i0), .val (.int c0), .val (.int a1), .val (.int sa), .val (.int sr), .val (.ref r), .unset] [])) _
        refine XS.iload X0.here hx rfl (hb hby at_64) rfl ?_
        exact q)
    by_cases hc66 : sr = (0 : Int32)
    · have k4 : ∀ t, Steps p.tables e below (T0.setTop (mkF m 76 #[.val (.int i0), .val (.int c0), .val (.int a1), .val (.int sa), .val (.int sr), .val (.ref r), .val (.int (0 : Int32))] [])) t → Steps p.tables e below (T0.setTop (mkF m 60 #[.val (.int i0), .val (.int c0), .val (.int a1), .val (.int sa), .val (.int sr), .val (.ref r), .unset] [])) t := fun t q => k3 t (by
          show Steps p.tables e below (T0.setTop (mkF m 66 #[.val (.int i0), .val (.int c0), .val (.int a1), .val (.int sa), .val (.int sr), .val (.ref r), .unset] [(.int sr)])) _
          refine XS.ifYes X0.here hx rfl (pc0 := 66) (pc' := 73) rfl (hb hby at_66) rfl ((if0 _ _).trans (teq (hc66 : sr = (0 : Int32))).1) (by decide) (by decide) ?_
          show Steps p.tables e below (T0.setTop (mkF m 73 #[.val (.int i0), .val (.int c0), .val (.int a1), .val (.int sa), .val (.int sr), .val (.ref r), .unset] [])) _
          refine XS.iconst X0.here hx rfl (hb hby at_73) ?_
          show Steps p.tables e below (T0.setTop (mkF m 74 #[.val (.int i0), .val (.int c0), .val (.int a1), .val (.int sa), .val (.int sr), .val (.ref r), .unset] [(.int (0 : Int32))])) _
          refine XS.istore X0.here hx rfl (hb hby at_74) rfl (l' := #[.val (.int i0), .val (.int c0), .val (.int a1), .val (.int sa), .val (.int sr), .val (.ref r), .val (.int (0 : Int32))]) rfl ?_
          exact q)
      refine ⟨T0, X0, e0, fun t q => k4 t ?_⟩
      rw [if_neg hc61, if_pos hc66] at hv
      subst hv
      exact q
    · have k5 : ∀ t, Steps p.tables e below (T0.setTop (mkF m 76 #[.val (.int i0), .val (.int c0), .val (.int a1), .val (.int sa), .val (.int sr), .val (.ref r), .val (.int (1 : Int32))] [])) t → Steps p.tables e below (T0.setTop (mkF m 60 #[.val (.int i0), .val (.int c0), .val (.int a1), .val (.int sa), .val (.int sr), .val (.ref r), .unset] [])) t := fun t q => k3 t (by
          show Steps p.tables e below (T0.setTop (mkF m 66 #[.val (.int i0), .val (.int c0), .val (.int a1), .val (.int sa), .val (.int sr), .val (.ref r), .unset] [(.int sr)])) _
          refine XS.ifNo X0.here hx rfl (hb hby at_66) rfl ((if0 _ _).trans (feq (hc66 : ¬ (sr = (0 : Int32)))).1) ?_
          show Steps p.tables e below (T0.setTop (mkF m 69 #[.val (.int i0), .val (.int c0), .val (.int a1), .val (.int sa), .val (.int sr), .val (.ref r), .unset] [])) _
          refine XS.iconst X0.here hx rfl (hb hby at_69) ?_
          show Steps p.tables e below (T0.setTop (mkF m 70 #[.val (.int i0), .val (.int c0), .val (.int a1), .val (.int sa), .val (.int sr), .val (.ref r), .unset] [(.int (1 : Int32))])) _
          refine XS.goto X0.here hx rfl (pc0 := 70) (pc' := 74) rfl (hb hby at_70) (by decide) (by decide) ?_
          show Steps p.tables e below (T0.setTop (mkF m 74 #[.val (.int i0), .val (.int c0), .val (.int a1), .val (.int sa), .val (.int sr), .val (.ref r), .unset] [(.int (1 : Int32))])) _
          refine XS.istore X0.here hx rfl (hb hby at_74) rfl (l' := #[.val (.int i0), .val (.int c0), .val (.int a1), .val (.int sa), .val (.int sr), .val (.ref r), .val (.int (1 : Int32))]) rfl ?_
          exact q)
      refine ⟨T0, X0, e0, fun t q => k5 t ?_⟩
      rw [if_neg hc61, if_neg hc66] at hv
      subst hv
      exact q
set_option maxRecDepth 65536 in
set_option maxHeartbeats 40000000 in
theorem cm_OUTSIDE {p : Program} {l : Launch} {e : Env} {R : Room} {s : State} {m : MethodId} {args : Array Value} {below : List Frame} {meth : Method} {c : Code} {T0 : State} {locs : List Loc} {cells slots : Nat} {Z : State} {a0 : Array Value} {h0 : Heap} (i0 : Int32) (c0 : Int32) (a1 : Int32) (sa : Int32) (sr : Int32) (r : Addr) (b : Int32) (wO : Addr)
    (X0 : Stand p l e R s m args below meth c T0 locs cells slots) (hx : p.tables.exec = Jvm.exec) (hZ : Z.Warmed39 s.vm) (hw : ∀ d ∈ tables_1, d.before a0 Z = true) (hby : c.code = code) (hml : c.maxLocals = 7) (hown : s.vm.findClass "com/example/clepsydra/clepsydra/VerdictPredictedPinLaw" = some m.cls) (e0 : T0.heap = h0) (S_OUTSIDE : Sta Z h0 "com/example/clepsydra/clepsydra/Verdict" "OUTSIDE" "Lcom/example/clepsydra/clepsydra/Verdict;" (.ref wO)) (hP : r = wO ↔ (sa = (0 : Int32) ∧ sr = (0 : Int32))) :
    ∃ (T' : State), Stand p l e R s m args below meth c T' locs cells slots ∧ T'.heap = h0 ∧ ∀ t, Steps p.tables e below (T'.setTop (mkF m 111 #[.val (.int i0), .val (.int c0), .val (.int a1), .val (.int sa), .val (.int sr), .val (.ref r), .val (.int b)] [])) t → Steps p.tables e below (T0.setTop (mkF m 81 #[.val (.int i0), .val (.int c0), .val (.int a1), .val (.int sa), .val (.int sr), .val (.ref r), .val (.int b)] [])) t := by
  have k0 : ∀ t, Steps p.tables e below (T0.setTop (mkF m 81 #[.val (.int i0), .val (.int c0), .val (.int a1), .val (.int sa), .val (.int sr), .val (.ref r), .val (.int b)] [])) t → Steps p.tables e below (T0.setTop (mkF m 81 #[.val (.int i0), .val (.int c0), .val (.int a1), .val (.int sa), .val (.int sr), .val (.ref r), .val (.int b)] [])) t := fun _ q => q
  have k1 : ∀ t, Steps p.tables e below (T0.setTop (mkF m 83 #[.val (.int i0), .val (.int c0), .val (.int a1), .val (.int sa), .val (.int sr), .val (.ref r), .val (.int b)] [(.ref r)])) t → Steps p.tables e below (T0.setTop (mkF m 81 #[.val (.int i0), .val (.int c0), .val (.int a1), .val (.int sa), .val (.int sr), .val (.ref r), .val (.int b)] [])) t := fun t q => k0 t (by
      show Steps p.tables e below (T0.setTop (mkF m 81 #[.val (.int i0), .val (.int c0), .val (.int a1), .val (.int sa), .val (.int sr), .val (.ref r), .val (.int b)] [])) _
      refine XS.aload X0.here hx rfl (hb hby at_81) rfl rfl ?_
      exact q)
  obtain ⟨T2, X2, e2, st2⟩ := getS2 X0 hx hZ hown (host := "") (Or.inl (hw _ (List.mem_of_getElem? (i := 6) rfl))) Via.refl e0 (S_OUTSIDE) (g := (mkF m 83 #[.val (.int i0), .val (.int c0), .val (.int a1), .val (.int sa), .val (.int sr), .val (.ref r), .val (.int b)] [(.ref r)])) rfl (hb hby at_83)
  have k3 : ∀ t, Steps p.tables e below (T2.setTop (mkF m 86 #[.val (.int i0), .val (.int c0), .val (.int a1), .val (.int sa), .val (.int sr), .val (.ref r), .val (.int b)] [(.ref wO), (.ref r)])) t → Steps p.tables e below (T0.setTop (mkF m 81 #[.val (.int i0), .val (.int c0), .val (.int a1), .val (.int sa), .val (.int sr), .val (.ref r), .val (.int b)] [])) t := fun t q => k1 t (st2 t q)
  by_cases ha86 : r = wO
  · have k4 : ∀ t, Steps p.tables e below (T2.setTop (mkF m 95 #[.val (.int i0), .val (.int c0), .val (.int a1), .val (.int sa), .val (.int sr), .val (.ref r), .val (.int b)] [(.int sa), (.int (1 : Int32))])) t → Steps p.tables e below (T0.setTop (mkF m 81 #[.val (.int i0), .val (.int c0), .val (.int a1), .val (.int sa), .val (.int sr), .val (.ref r), .val (.int b)] [])) t := fun t q => k3 t (by
        show Steps p.tables e below (T2.setTop (mkF m 86 #[.val (.int i0), .val (.int c0), .val (.int a1), .val (.int sa), .val (.int sr), .val (.ref r), .val (.int b)] [(.ref wO), (.ref r)])) _
        refine Jvm.RoadKit.acmp (g := (mkF m 86 #[.val (.int i0), .val (.int c0), .val (.int a1), .val (.int sa), .val (.int sr), .val (.ref r), .val (.int b)] [(.ref wO), (.ref r)])) X2 hx rfl rfl rfl (pc0 := 86) (pc' := 89) (same := true) rfl (hb hby at_86) rfl (decide_eq_true (congrArg Value.ref (ha86 : r = wO))) (by decide) (by decide) ?_
        show Steps p.tables e below (T2.setTop (mkF m 89 #[.val (.int i0), .val (.int c0), .val (.int a1), .val (.int sa), .val (.int sr), .val (.ref r), .val (.int b)] [])) _
        refine XS.iconst X2.here hx rfl (hb hby at_89) ?_
        show Steps p.tables e below (T2.setTop (mkF m 90 #[.val (.int i0), .val (.int c0), .val (.int a1), .val (.int sa), .val (.int sr), .val (.ref r), .val (.int b)] [(.int (1 : Int32))])) _
        refine XS.goto X2.here hx rfl (pc0 := 90) (pc' := 94) rfl (hb hby at_90) (by decide) (by decide) ?_
        show Steps p.tables e below (T2.setTop (mkF m 94 #[.val (.int i0), .val (.int c0), .val (.int a1), .val (.int sa), .val (.int sr), .val (.ref r), .val (.int b)] [(.int (1 : Int32))])) _
        refine XS.iloadN X2.here hx rfl (hb hby at_94) rfl ?_
        exact q)
    by_cases hc95 : sa = (0 : Int32)
    · have k5 : ∀ t, Steps p.tables e below (T2.setTop (mkF m 100 #[.val (.int i0), .val (.int c0), .val (.int a1), .val (.int sa), .val (.int sr), .val (.ref r), .val (.int b)] [(.int sr), (.int (1 : Int32))])) t → Steps p.tables e below (T0.setTop (mkF m 81 #[.val (.int i0), .val (.int c0), .val (.int a1), .val (.int sa), .val (.int sr), .val (.ref r), .val (.int b)] [])) t := fun t q => k4 t (by
          show Steps p.tables e below (T2.setTop (mkF m 95 #[.val (.int i0), .val (.int c0), .val (.int a1), .val (.int sa), .val (.int sr), .val (.ref r), .val (.int b)] [(.int sa), (.int (1 : Int32))])) _
          refine XS.ifNo X2.here hx rfl (hb hby at_95) rfl ((if0 _ _).trans (teq (hc95 : sa = (0 : Int32))).2) ?_
          show Steps p.tables e below (T2.setTop (mkF m 98 #[.val (.int i0), .val (.int c0), .val (.int a1), .val (.int sa), .val (.int sr), .val (.ref r), .val (.int b)] [(.int (1 : Int32))])) _
          refine XS.iload X2.here hx rfl (hb hby at_98) rfl ?_
          exact q)
      by_cases hc100 : sr = (0 : Int32)
      · have k6 : ∀ t, Steps p.tables e below (T2.setTop (mkF m 111 #[.val (.int i0), .val (.int c0), .val (.int a1), .val (.int sa), .val (.int sr), .val (.ref r), .val (.int b)] [])) t → Steps p.tables e below (T0.setTop (mkF m 81 #[.val (.int i0), .val (.int c0), .val (.int a1), .val (.int sa), .val (.int sr), .val (.ref r), .val (.int b)] [])) t := fun t q => k5 t (by
            show Steps p.tables e below (T2.setTop (mkF m 100 #[.val (.int i0), .val (.int c0), .val (.int a1), .val (.int sa), .val (.int sr), .val (.ref r), .val (.int b)] [(.int sr), (.int (1 : Int32))])) _
            refine XS.ifNo X2.here hx rfl (hb hby at_100) rfl ((if0 _ _).trans (teq (hc100 : sr = (0 : Int32))).2) ?_
            show Steps p.tables e below (T2.setTop (mkF m 103 #[.val (.int i0), .val (.int c0), .val (.int a1), .val (.int sa), .val (.int sr), .val (.ref r), .val (.int b)] [(.int (1 : Int32))])) _
            refine XS.iconst X2.here hx rfl (hb hby at_103) ?_
            show Steps p.tables e below (T2.setTop (mkF m 104 #[.val (.int i0), .val (.int c0), .val (.int a1), .val (.int sa), .val (.int sr), .val (.ref r), .val (.int b)] [(.int (1 : Int32)), (.int (1 : Int32))])) _
            refine XS.goto X2.here hx rfl (pc0 := 104) (pc' := 108) rfl (hb hby at_104) (by decide) (by decide) ?_
            show Steps p.tables e below (T2.setTop (mkF m 108 #[.val (.int i0), .val (.int c0), .val (.int a1), .val (.int sa), .val (.int sr), .val (.ref r), .val (.int b)] [(.int (1 : Int32)), (.int (1 : Int32))])) _
            refine XS.icmpNo X2.here hx rfl (hb hby at_108) rfl (teq (by decide : (1 : Int32) = (1 : Int32))).2 ?_
            exact q)
        refine ⟨T2, X2, e2, fun t q => k6 t ?_⟩
        exact q
      · have k7 : ∀ t, Steps p.tables e below (T2.setTop (mkF m 108 #[.val (.int i0), .val (.int c0), .val (.int a1), .val (.int sa), .val (.int sr), .val (.ref r), .val (.int b)] [(.int (0 : Int32)), (.int (1 : Int32))])) t → Steps p.tables e below (T0.setTop (mkF m 81 #[.val (.int i0), .val (.int c0), .val (.int a1), .val (.int sa), .val (.int sr), .val (.ref r), .val (.int b)] [])) t := fun t q => k5 t (by
            show Steps p.tables e below (T2.setTop (mkF m 100 #[.val (.int i0), .val (.int c0), .val (.int a1), .val (.int sa), .val (.int sr), .val (.ref r), .val (.int b)] [(.int sr), (.int (1 : Int32))])) _
            refine XS.ifYes X2.here hx rfl (pc0 := 100) (pc' := 107) rfl (hb hby at_100) rfl ((if0 _ _).trans (feq (hc100 : ¬ (sr = (0 : Int32)))).2) (by decide) (by decide) ?_
            show Steps p.tables e below (T2.setTop (mkF m 107 #[.val (.int i0), .val (.int c0), .val (.int a1), .val (.int sa), .val (.int sr), .val (.ref r), .val (.int b)] [(.int (1 : Int32))])) _
            refine XS.iconst X2.here hx rfl (hb hby at_107) ?_
            exact q)
        simp [ha86, hc95, hc100] at hP
    · have k8 : ∀ t, Steps p.tables e below (T2.setTop (mkF m 108 #[.val (.int i0), .val (.int c0), .val (.int a1), .val (.int sa), .val (.int sr), .val (.ref r), .val (.int b)] [(.int (0 : Int32)), (.int (1 : Int32))])) t → Steps p.tables e below (T0.setTop (mkF m 81 #[.val (.int i0), .val (.int c0), .val (.int a1), .val (.int sa), .val (.int sr), .val (.ref r), .val (.int b)] [])) t := fun t q => k4 t (by
          show Steps p.tables e below (T2.setTop (mkF m 95 #[.val (.int i0), .val (.int c0), .val (.int a1), .val (.int sa), .val (.int sr), .val (.ref r), .val (.int b)] [(.int sa), (.int (1 : Int32))])) _
          refine XS.ifYes X2.here hx rfl (pc0 := 95) (pc' := 107) rfl (hb hby at_95) rfl ((if0 _ _).trans (feq (hc95 : ¬ (sa = (0 : Int32)))).2) (by decide) (by decide) ?_
          show Steps p.tables e below (T2.setTop (mkF m 107 #[.val (.int i0), .val (.int c0), .val (.int a1), .val (.int sa), .val (.int sr), .val (.ref r), .val (.int b)] [(.int (1 : Int32))])) _
          refine XS.iconst X2.here hx rfl (hb hby at_107) ?_
          exact q)
      simp [ha86, hc95] at hP
  · have k9 : ∀ t, Steps p.tables e below (T2.setTop (mkF m 95 #[.val (.int i0), .val (.int c0), .val (.int a1), .val (.int sa), .val (.int sr), .val (.ref r), .val (.int b)] [(.int sa), (.int (0 : Int32))])) t → Steps p.tables e below (T0.setTop (mkF m 81 #[.val (.int i0), .val (.int c0), .val (.int a1), .val (.int sa), .val (.int sr), .val (.ref r), .val (.int b)] [])) t := fun t q => k3 t (by
        show Steps p.tables e below (T2.setTop (mkF m 86 #[.val (.int i0), .val (.int c0), .val (.int a1), .val (.int sa), .val (.int sr), .val (.ref r), .val (.int b)] [(.ref wO), (.ref r)])) _
        refine Jvm.RoadKit.acmp (g := (mkF m 86 #[.val (.int i0), .val (.int c0), .val (.int a1), .val (.int sa), .val (.int sr), .val (.ref r), .val (.int b)] [(.ref wO), (.ref r)])) X2 hx rfl rfl rfl (pc0 := 86) (pc' := 93) (same := false) rfl (hb hby at_86) rfl (decide_eq_false fun q => (ha86 : ¬ (r = wO)) (Value.ref.inj q)) (by decide) (by decide) ?_
        show Steps p.tables e below (T2.setTop (mkF m 93 #[.val (.int i0), .val (.int c0), .val (.int a1), .val (.int sa), .val (.int sr), .val (.ref r), .val (.int b)] [])) _
        refine XS.iconst X2.here hx rfl (hb hby at_93) ?_
        show Steps p.tables e below (T2.setTop (mkF m 94 #[.val (.int i0), .val (.int c0), .val (.int a1), .val (.int sa), .val (.int sr), .val (.ref r), .val (.int b)] [(.int (0 : Int32))])) _
        refine XS.iloadN X2.here hx rfl (hb hby at_94) rfl ?_
        exact q)
    by_cases hc95 : sa = (0 : Int32)
    · have k10 : ∀ t, Steps p.tables e below (T2.setTop (mkF m 100 #[.val (.int i0), .val (.int c0), .val (.int a1), .val (.int sa), .val (.int sr), .val (.ref r), .val (.int b)] [(.int sr), (.int (0 : Int32))])) t → Steps p.tables e below (T0.setTop (mkF m 81 #[.val (.int i0), .val (.int c0), .val (.int a1), .val (.int sa), .val (.int sr), .val (.ref r), .val (.int b)] [])) t := fun t q => k9 t (by
          show Steps p.tables e below (T2.setTop (mkF m 95 #[.val (.int i0), .val (.int c0), .val (.int a1), .val (.int sa), .val (.int sr), .val (.ref r), .val (.int b)] [(.int sa), (.int (0 : Int32))])) _
          refine XS.ifNo X2.here hx rfl (hb hby at_95) rfl ((if0 _ _).trans (teq (hc95 : sa = (0 : Int32))).2) ?_
          show Steps p.tables e below (T2.setTop (mkF m 98 #[.val (.int i0), .val (.int c0), .val (.int a1), .val (.int sa), .val (.int sr), .val (.ref r), .val (.int b)] [(.int (0 : Int32))])) _
          refine XS.iload X2.here hx rfl (hb hby at_98) rfl ?_
          exact q)
      by_cases hc100 : sr = (0 : Int32)
      · have k11 : ∀ t, Steps p.tables e below (T2.setTop (mkF m 108 #[.val (.int i0), .val (.int c0), .val (.int a1), .val (.int sa), .val (.int sr), .val (.ref r), .val (.int b)] [(.int (1 : Int32)), (.int (0 : Int32))])) t → Steps p.tables e below (T0.setTop (mkF m 81 #[.val (.int i0), .val (.int c0), .val (.int a1), .val (.int sa), .val (.int sr), .val (.ref r), .val (.int b)] [])) t := fun t q => k10 t (by
            show Steps p.tables e below (T2.setTop (mkF m 100 #[.val (.int i0), .val (.int c0), .val (.int a1), .val (.int sa), .val (.int sr), .val (.ref r), .val (.int b)] [(.int sr), (.int (0 : Int32))])) _
            refine XS.ifNo X2.here hx rfl (hb hby at_100) rfl ((if0 _ _).trans (teq (hc100 : sr = (0 : Int32))).2) ?_
            show Steps p.tables e below (T2.setTop (mkF m 103 #[.val (.int i0), .val (.int c0), .val (.int a1), .val (.int sa), .val (.int sr), .val (.ref r), .val (.int b)] [(.int (0 : Int32))])) _
            refine XS.iconst X2.here hx rfl (hb hby at_103) ?_
            show Steps p.tables e below (T2.setTop (mkF m 104 #[.val (.int i0), .val (.int c0), .val (.int a1), .val (.int sa), .val (.int sr), .val (.ref r), .val (.int b)] [(.int (1 : Int32)), (.int (0 : Int32))])) _
            refine XS.goto X2.here hx rfl (pc0 := 104) (pc' := 108) rfl (hb hby at_104) (by decide) (by decide) ?_
            exact q)
        simp [ha86, hc95, hc100] at hP
      · have k12 : ∀ t, Steps p.tables e below (T2.setTop (mkF m 111 #[.val (.int i0), .val (.int c0), .val (.int a1), .val (.int sa), .val (.int sr), .val (.ref r), .val (.int b)] [])) t → Steps p.tables e below (T0.setTop (mkF m 81 #[.val (.int i0), .val (.int c0), .val (.int a1), .val (.int sa), .val (.int sr), .val (.ref r), .val (.int b)] [])) t := fun t q => k10 t (by
            show Steps p.tables e below (T2.setTop (mkF m 100 #[.val (.int i0), .val (.int c0), .val (.int a1), .val (.int sa), .val (.int sr), .val (.ref r), .val (.int b)] [(.int sr), (.int (0 : Int32))])) _
            refine XS.ifYes X2.here hx rfl (pc0 := 100) (pc' := 107) rfl (hb hby at_100) rfl ((if0 _ _).trans (feq (hc100 : ¬ (sr = (0 : Int32)))).2) (by decide) (by decide) ?_
            show Steps p.tables e below (T2.setTop (mkF m 107 #[.val (.int i0), .val (.int c0), .val (.int a1), .val (.int sa), .val (.int sr), .val (.ref r), .val (.int b)] [(.int (0 : Int32))])) _
            refine XS.iconst X2.here hx rfl (hb hby at_107) ?_
            show Steps p.tables e below (T2.setTop (mkF m 108 #[.val (.int i0), .val (.int c0), .val (.int a1), .val (.int sa), .val (.int sr), .val (.ref r), .val (.int b)] [(.int (0 : Int32)), (.int (0 : Int32))])) _
            refine XS.icmpNo X2.here hx rfl (hb hby at_108) rfl (teq (by decide : (0 : Int32) = (0 : Int32))).2 ?_
            exact q)
        refine ⟨T2, X2, e2, fun t q => k12 t ?_⟩
        exact q
    · have k13 : ∀ t, Steps p.tables e below (T2.setTop (mkF m 111 #[.val (.int i0), .val (.int c0), .val (.int a1), .val (.int sa), .val (.int sr), .val (.ref r), .val (.int b)] [])) t → Steps p.tables e below (T0.setTop (mkF m 81 #[.val (.int i0), .val (.int c0), .val (.int a1), .val (.int sa), .val (.int sr), .val (.ref r), .val (.int b)] [])) t := fun t q => k9 t (by
          show Steps p.tables e below (T2.setTop (mkF m 95 #[.val (.int i0), .val (.int c0), .val (.int a1), .val (.int sa), .val (.int sr), .val (.ref r), .val (.int b)] [(.int sa), (.int (0 : Int32))])) _
          refine XS.ifYes X2.here hx rfl (pc0 := 95) (pc' := 107) rfl (hb hby at_95) rfl ((if0 _ _).trans (feq (hc95 : ¬ (sa = (0 : Int32)))).2) (by decide) (by decide) ?_
          show Steps p.tables e below (T2.setTop (mkF m 107 #[.val (.int i0), .val (.int c0), .val (.int a1), .val (.int sa), .val (.int sr), .val (.ref r), .val (.int b)] [(.int (0 : Int32))])) _
          refine XS.iconst X2.here hx rfl (hb hby at_107) ?_
          show Steps p.tables e below (T2.setTop (mkF m 108 #[.val (.int i0), .val (.int c0), .val (.int a1), .val (.int sa), .val (.int sr), .val (.ref r), .val (.int b)] [(.int (0 : Int32)), (.int (0 : Int32))])) _
          refine XS.icmpNo X2.here hx rfl (hb hby at_108) rfl (teq (by decide : (0 : Int32) = (0 : Int32))).2 ?_
          exact q)
      refine ⟨T2, X2, e2, fun t q => k13 t ?_⟩
      exact q
set_option maxRecDepth 65536 in
set_option maxHeartbeats 40000000 in
theorem cm_TRUE {p : Program} {l : Launch} {e : Env} {R : Room} {s : State} {m : MethodId} {args : Array Value} {below : List Frame} {meth : Method} {c : Code} {T0 : State} {locs : List Loc} {cells slots : Nat} {Z : State} {a0 : Array Value} {h0 : Heap} (i0 : Int32) (c0 : Int32) (a1 : Int32) (sa : Int32) (sr : Int32) (r : Addr) (b : Int32) (wT : Addr)
    (X0 : Stand p l e R s m args below meth c T0 locs cells slots) (hx : p.tables.exec = Jvm.exec) (hZ : Z.Warmed39 s.vm) (hw : ∀ d ∈ tables_1, d.before a0 Z = true) (hby : c.code = code) (hml : c.maxLocals = 7) (hown : s.vm.findClass "com/example/clepsydra/clepsydra/VerdictPredictedPinLaw" = some m.cls) (e0 : T0.heap = h0) (S_TRUE : Sta Z h0 "com/example/clepsydra/clepsydra/Verdict" "TRUE" "Lcom/example/clepsydra/clepsydra/Verdict;" (.ref wT)) (hP : r = wT ↔ (¬ sa = (0 : Int32) ∧ sr = (0 : Int32))) :
    ∃ (T' : State), Stand p l e R s m args below meth c T' locs cells slots ∧ T'.heap = h0 ∧ ∀ t, Steps p.tables e below (T'.setTop (mkF m 141 #[.val (.int i0), .val (.int c0), .val (.int a1), .val (.int sa), .val (.int sr), .val (.ref r), .val (.int b)] [])) t → Steps p.tables e below (T0.setTop (mkF m 111 #[.val (.int i0), .val (.int c0), .val (.int a1), .val (.int sa), .val (.int sr), .val (.ref r), .val (.int b)] [])) t := by
  have k0 : ∀ t, Steps p.tables e below (T0.setTop (mkF m 111 #[.val (.int i0), .val (.int c0), .val (.int a1), .val (.int sa), .val (.int sr), .val (.ref r), .val (.int b)] [])) t → Steps p.tables e below (T0.setTop (mkF m 111 #[.val (.int i0), .val (.int c0), .val (.int a1), .val (.int sa), .val (.int sr), .val (.ref r), .val (.int b)] [])) t := fun _ q => q
  have k1 : ∀ t, Steps p.tables e below (T0.setTop (mkF m 113 #[.val (.int i0), .val (.int c0), .val (.int a1), .val (.int sa), .val (.int sr), .val (.ref r), .val (.int b)] [(.ref r)])) t → Steps p.tables e below (T0.setTop (mkF m 111 #[.val (.int i0), .val (.int c0), .val (.int a1), .val (.int sa), .val (.int sr), .val (.ref r), .val (.int b)] [])) t := fun t q => k0 t (by
      show Steps p.tables e below (T0.setTop (mkF m 111 #[.val (.int i0), .val (.int c0), .val (.int a1), .val (.int sa), .val (.int sr), .val (.ref r), .val (.int b)] [])) _
      refine XS.aload X0.here hx rfl (hb hby at_111) rfl rfl ?_
      exact q)
  obtain ⟨T2, X2, e2, st2⟩ := getS2 X0 hx hZ hown (host := "") (Or.inl (hw _ (List.mem_of_getElem? (i := 7) rfl))) Via.refl e0 (S_TRUE) (g := (mkF m 113 #[.val (.int i0), .val (.int c0), .val (.int a1), .val (.int sa), .val (.int sr), .val (.ref r), .val (.int b)] [(.ref r)])) rfl (hb hby at_113)
  have k3 : ∀ t, Steps p.tables e below (T2.setTop (mkF m 116 #[.val (.int i0), .val (.int c0), .val (.int a1), .val (.int sa), .val (.int sr), .val (.ref r), .val (.int b)] [(.ref wT), (.ref r)])) t → Steps p.tables e below (T0.setTop (mkF m 111 #[.val (.int i0), .val (.int c0), .val (.int a1), .val (.int sa), .val (.int sr), .val (.ref r), .val (.int b)] [])) t := fun t q => k1 t (st2 t q)
  by_cases ha116 : r = wT
  · have k4 : ∀ t, Steps p.tables e below (T2.setTop (mkF m 125 #[.val (.int i0), .val (.int c0), .val (.int a1), .val (.int sa), .val (.int sr), .val (.ref r), .val (.int b)] [(.int sa), (.int (1 : Int32))])) t → Steps p.tables e below (T0.setTop (mkF m 111 #[.val (.int i0), .val (.int c0), .val (.int a1), .val (.int sa), .val (.int sr), .val (.ref r), .val (.int b)] [])) t := fun t q => k3 t (by
        show Steps p.tables e below (T2.setTop (mkF m 116 #[.val (.int i0), .val (.int c0), .val (.int a1), .val (.int sa), .val (.int sr), .val (.ref r), .val (.int b)] [(.ref wT), (.ref r)])) _
        refine Jvm.RoadKit.acmp (g := (mkF m 116 #[.val (.int i0), .val (.int c0), .val (.int a1), .val (.int sa), .val (.int sr), .val (.ref r), .val (.int b)] [(.ref wT), (.ref r)])) X2 hx rfl rfl rfl (pc0 := 116) (pc' := 119) (same := true) rfl (hb hby at_116) rfl (decide_eq_true (congrArg Value.ref (ha116 : r = wT))) (by decide) (by decide) ?_
        show Steps p.tables e below (T2.setTop (mkF m 119 #[.val (.int i0), .val (.int c0), .val (.int a1), .val (.int sa), .val (.int sr), .val (.ref r), .val (.int b)] [])) _
        refine XS.iconst X2.here hx rfl (hb hby at_119) ?_
        show Steps p.tables e below (T2.setTop (mkF m 120 #[.val (.int i0), .val (.int c0), .val (.int a1), .val (.int sa), .val (.int sr), .val (.ref r), .val (.int b)] [(.int (1 : Int32))])) _
        refine XS.goto X2.here hx rfl (pc0 := 120) (pc' := 124) rfl (hb hby at_120) (by decide) (by decide) ?_
        show Steps p.tables e below (T2.setTop (mkF m 124 #[.val (.int i0), .val (.int c0), .val (.int a1), .val (.int sa), .val (.int sr), .val (.ref r), .val (.int b)] [(.int (1 : Int32))])) _
        refine XS.iloadN X2.here hx rfl (hb hby at_124) rfl ?_
        exact q)
    by_cases hc125 : sa = (0 : Int32)
    · have k5 : ∀ t, Steps p.tables e below (T2.setTop (mkF m 138 #[.val (.int i0), .val (.int c0), .val (.int a1), .val (.int sa), .val (.int sr), .val (.ref r), .val (.int b)] [(.int (0 : Int32)), (.int (1 : Int32))])) t → Steps p.tables e below (T0.setTop (mkF m 111 #[.val (.int i0), .val (.int c0), .val (.int a1), .val (.int sa), .val (.int sr), .val (.ref r), .val (.int b)] [])) t := fun t q => k4 t (by
          show Steps p.tables e below (T2.setTop (mkF m 125 #[.val (.int i0), .val (.int c0), .val (.int a1), .val (.int sa), .val (.int sr), .val (.ref r), .val (.int b)] [(.int sa), (.int (1 : Int32))])) _
          refine XS.ifYes X2.here hx rfl (pc0 := 125) (pc' := 137) rfl (hb hby at_125) rfl ((if0 _ _).trans (teq (hc125 : sa = (0 : Int32))).1) (by decide) (by decide) ?_
          show Steps p.tables e below (T2.setTop (mkF m 137 #[.val (.int i0), .val (.int c0), .val (.int a1), .val (.int sa), .val (.int sr), .val (.ref r), .val (.int b)] [(.int (1 : Int32))])) _
          refine XS.iconst X2.here hx rfl (hb hby at_137) ?_
          exact q)
      simp [ha116, hc125] at hP
    · have k6 : ∀ t, Steps p.tables e below (T2.setTop (mkF m 130 #[.val (.int i0), .val (.int c0), .val (.int a1), .val (.int sa), .val (.int sr), .val (.ref r), .val (.int b)] [(.int sr), (.int (1 : Int32))])) t → Steps p.tables e below (T0.setTop (mkF m 111 #[.val (.int i0), .val (.int c0), .val (.int a1), .val (.int sa), .val (.int sr), .val (.ref r), .val (.int b)] [])) t := fun t q => k4 t (by
          show Steps p.tables e below (T2.setTop (mkF m 125 #[.val (.int i0), .val (.int c0), .val (.int a1), .val (.int sa), .val (.int sr), .val (.ref r), .val (.int b)] [(.int sa), (.int (1 : Int32))])) _
          refine XS.ifNo X2.here hx rfl (hb hby at_125) rfl ((if0 _ _).trans (feq (hc125 : ¬ (sa = (0 : Int32)))).1) ?_
          show Steps p.tables e below (T2.setTop (mkF m 128 #[.val (.int i0), .val (.int c0), .val (.int a1), .val (.int sa), .val (.int sr), .val (.ref r), .val (.int b)] [(.int (1 : Int32))])) _
          refine XS.iload X2.here hx rfl (hb hby at_128) rfl ?_
          exact q)
      by_cases hc130 : sr = (0 : Int32)
      · have k7 : ∀ t, Steps p.tables e below (T2.setTop (mkF m 141 #[.val (.int i0), .val (.int c0), .val (.int a1), .val (.int sa), .val (.int sr), .val (.ref r), .val (.int b)] [])) t → Steps p.tables e below (T0.setTop (mkF m 111 #[.val (.int i0), .val (.int c0), .val (.int a1), .val (.int sa), .val (.int sr), .val (.ref r), .val (.int b)] [])) t := fun t q => k6 t (by
            show Steps p.tables e below (T2.setTop (mkF m 130 #[.val (.int i0), .val (.int c0), .val (.int a1), .val (.int sa), .val (.int sr), .val (.ref r), .val (.int b)] [(.int sr), (.int (1 : Int32))])) _
            refine XS.ifNo X2.here hx rfl (hb hby at_130) rfl ((if0 _ _).trans (teq (hc130 : sr = (0 : Int32))).2) ?_
            show Steps p.tables e below (T2.setTop (mkF m 133 #[.val (.int i0), .val (.int c0), .val (.int a1), .val (.int sa), .val (.int sr), .val (.ref r), .val (.int b)] [(.int (1 : Int32))])) _
            refine XS.iconst X2.here hx rfl (hb hby at_133) ?_
            show Steps p.tables e below (T2.setTop (mkF m 134 #[.val (.int i0), .val (.int c0), .val (.int a1), .val (.int sa), .val (.int sr), .val (.ref r), .val (.int b)] [(.int (1 : Int32)), (.int (1 : Int32))])) _
            refine XS.goto X2.here hx rfl (pc0 := 134) (pc' := 138) rfl (hb hby at_134) (by decide) (by decide) ?_
            show Steps p.tables e below (T2.setTop (mkF m 138 #[.val (.int i0), .val (.int c0), .val (.int a1), .val (.int sa), .val (.int sr), .val (.ref r), .val (.int b)] [(.int (1 : Int32)), (.int (1 : Int32))])) _
            refine XS.icmpNo X2.here hx rfl (hb hby at_138) rfl (teq (by decide : (1 : Int32) = (1 : Int32))).2 ?_
            exact q)
        refine ⟨T2, X2, e2, fun t q => k7 t ?_⟩
        exact q
      · have k8 : ∀ t, Steps p.tables e below (T2.setTop (mkF m 138 #[.val (.int i0), .val (.int c0), .val (.int a1), .val (.int sa), .val (.int sr), .val (.ref r), .val (.int b)] [(.int (0 : Int32)), (.int (1 : Int32))])) t → Steps p.tables e below (T0.setTop (mkF m 111 #[.val (.int i0), .val (.int c0), .val (.int a1), .val (.int sa), .val (.int sr), .val (.ref r), .val (.int b)] [])) t := fun t q => k6 t (by
            show Steps p.tables e below (T2.setTop (mkF m 130 #[.val (.int i0), .val (.int c0), .val (.int a1), .val (.int sa), .val (.int sr), .val (.ref r), .val (.int b)] [(.int sr), (.int (1 : Int32))])) _
            refine XS.ifYes X2.here hx rfl (pc0 := 130) (pc' := 137) rfl (hb hby at_130) rfl ((if0 _ _).trans (feq (hc130 : ¬ (sr = (0 : Int32)))).2) (by decide) (by decide) ?_
            show Steps p.tables e below (T2.setTop (mkF m 137 #[.val (.int i0), .val (.int c0), .val (.int a1), .val (.int sa), .val (.int sr), .val (.ref r), .val (.int b)] [(.int (1 : Int32))])) _
            refine XS.iconst X2.here hx rfl (hb hby at_137) ?_
            exact q)
        simp [ha116, hc125, hc130] at hP
  · have k9 : ∀ t, Steps p.tables e below (T2.setTop (mkF m 125 #[.val (.int i0), .val (.int c0), .val (.int a1), .val (.int sa), .val (.int sr), .val (.ref r), .val (.int b)] [(.int sa), (.int (0 : Int32))])) t → Steps p.tables e below (T0.setTop (mkF m 111 #[.val (.int i0), .val (.int c0), .val (.int a1), .val (.int sa), .val (.int sr), .val (.ref r), .val (.int b)] [])) t := fun t q => k3 t (by
        show Steps p.tables e below (T2.setTop (mkF m 116 #[.val (.int i0), .val (.int c0), .val (.int a1), .val (.int sa), .val (.int sr), .val (.ref r), .val (.int b)] [(.ref wT), (.ref r)])) _
        refine Jvm.RoadKit.acmp (g := (mkF m 116 #[.val (.int i0), .val (.int c0), .val (.int a1), .val (.int sa), .val (.int sr), .val (.ref r), .val (.int b)] [(.ref wT), (.ref r)])) X2 hx rfl rfl rfl (pc0 := 116) (pc' := 123) (same := false) rfl (hb hby at_116) rfl (decide_eq_false fun q => (ha116 : ¬ (r = wT)) (Value.ref.inj q)) (by decide) (by decide) ?_
        show Steps p.tables e below (T2.setTop (mkF m 123 #[.val (.int i0), .val (.int c0), .val (.int a1), .val (.int sa), .val (.int sr), .val (.ref r), .val (.int b)] [])) _
        refine XS.iconst X2.here hx rfl (hb hby at_123) ?_
        show Steps p.tables e below (T2.setTop (mkF m 124 #[.val (.int i0), .val (.int c0), .val (.int a1), .val (.int sa), .val (.int sr), .val (.ref r), .val (.int b)] [(.int (0 : Int32))])) _
        refine XS.iloadN X2.here hx rfl (hb hby at_124) rfl ?_
        exact q)
    by_cases hc125 : sa = (0 : Int32)
    · have k10 : ∀ t, Steps p.tables e below (T2.setTop (mkF m 141 #[.val (.int i0), .val (.int c0), .val (.int a1), .val (.int sa), .val (.int sr), .val (.ref r), .val (.int b)] [])) t → Steps p.tables e below (T0.setTop (mkF m 111 #[.val (.int i0), .val (.int c0), .val (.int a1), .val (.int sa), .val (.int sr), .val (.ref r), .val (.int b)] [])) t := fun t q => k9 t (by
          show Steps p.tables e below (T2.setTop (mkF m 125 #[.val (.int i0), .val (.int c0), .val (.int a1), .val (.int sa), .val (.int sr), .val (.ref r), .val (.int b)] [(.int sa), (.int (0 : Int32))])) _
          refine XS.ifYes X2.here hx rfl (pc0 := 125) (pc' := 137) rfl (hb hby at_125) rfl ((if0 _ _).trans (teq (hc125 : sa = (0 : Int32))).1) (by decide) (by decide) ?_
          show Steps p.tables e below (T2.setTop (mkF m 137 #[.val (.int i0), .val (.int c0), .val (.int a1), .val (.int sa), .val (.int sr), .val (.ref r), .val (.int b)] [(.int (0 : Int32))])) _
          refine XS.iconst X2.here hx rfl (hb hby at_137) ?_
          show Steps p.tables e below (T2.setTop (mkF m 138 #[.val (.int i0), .val (.int c0), .val (.int a1), .val (.int sa), .val (.int sr), .val (.ref r), .val (.int b)] [(.int (0 : Int32)), (.int (0 : Int32))])) _
          refine XS.icmpNo X2.here hx rfl (hb hby at_138) rfl (teq (by decide : (0 : Int32) = (0 : Int32))).2 ?_
          exact q)
      refine ⟨T2, X2, e2, fun t q => k10 t ?_⟩
      exact q
    · have k11 : ∀ t, Steps p.tables e below (T2.setTop (mkF m 130 #[.val (.int i0), .val (.int c0), .val (.int a1), .val (.int sa), .val (.int sr), .val (.ref r), .val (.int b)] [(.int sr), (.int (0 : Int32))])) t → Steps p.tables e below (T0.setTop (mkF m 111 #[.val (.int i0), .val (.int c0), .val (.int a1), .val (.int sa), .val (.int sr), .val (.ref r), .val (.int b)] [])) t := fun t q => k9 t (by
          show Steps p.tables e below (T2.setTop (mkF m 125 #[.val (.int i0), .val (.int c0), .val (.int a1), .val (.int sa), .val (.int sr), .val (.ref r), .val (.int b)] [(.int sa), (.int (0 : Int32))])) _
          refine XS.ifNo X2.here hx rfl (hb hby at_125) rfl ((if0 _ _).trans (feq (hc125 : ¬ (sa = (0 : Int32)))).1) ?_
          show Steps p.tables e below (T2.setTop (mkF m 128 #[.val (.int i0), .val (.int c0), .val (.int a1), .val (.int sa), .val (.int sr), .val (.ref r), .val (.int b)] [(.int (0 : Int32))])) _
          refine XS.iload X2.here hx rfl (hb hby at_128) rfl ?_
          exact q)
      by_cases hc130 : sr = (0 : Int32)
      · have k12 : ∀ t, Steps p.tables e below (T2.setTop (mkF m 138 #[.val (.int i0), .val (.int c0), .val (.int a1), .val (.int sa), .val (.int sr), .val (.ref r), .val (.int b)] [(.int (1 : Int32)), (.int (0 : Int32))])) t → Steps p.tables e below (T0.setTop (mkF m 111 #[.val (.int i0), .val (.int c0), .val (.int a1), .val (.int sa), .val (.int sr), .val (.ref r), .val (.int b)] [])) t := fun t q => k11 t (by
            show Steps p.tables e below (T2.setTop (mkF m 130 #[.val (.int i0), .val (.int c0), .val (.int a1), .val (.int sa), .val (.int sr), .val (.ref r), .val (.int b)] [(.int sr), (.int (0 : Int32))])) _
            refine XS.ifNo X2.here hx rfl (hb hby at_130) rfl ((if0 _ _).trans (teq (hc130 : sr = (0 : Int32))).2) ?_
            show Steps p.tables e below (T2.setTop (mkF m 133 #[.val (.int i0), .val (.int c0), .val (.int a1), .val (.int sa), .val (.int sr), .val (.ref r), .val (.int b)] [(.int (0 : Int32))])) _
            refine XS.iconst X2.here hx rfl (hb hby at_133) ?_
            show Steps p.tables e below (T2.setTop (mkF m 134 #[.val (.int i0), .val (.int c0), .val (.int a1), .val (.int sa), .val (.int sr), .val (.ref r), .val (.int b)] [(.int (1 : Int32)), (.int (0 : Int32))])) _
            refine XS.goto X2.here hx rfl (pc0 := 134) (pc' := 138) rfl (hb hby at_134) (by decide) (by decide) ?_
            exact q)
        simp [ha116, hc125, hc130] at hP
      · have k13 : ∀ t, Steps p.tables e below (T2.setTop (mkF m 141 #[.val (.int i0), .val (.int c0), .val (.int a1), .val (.int sa), .val (.int sr), .val (.ref r), .val (.int b)] [])) t → Steps p.tables e below (T0.setTop (mkF m 111 #[.val (.int i0), .val (.int c0), .val (.int a1), .val (.int sa), .val (.int sr), .val (.ref r), .val (.int b)] [])) t := fun t q => k11 t (by
            show Steps p.tables e below (T2.setTop (mkF m 130 #[.val (.int i0), .val (.int c0), .val (.int a1), .val (.int sa), .val (.int sr), .val (.ref r), .val (.int b)] [(.int sr), (.int (0 : Int32))])) _
            refine XS.ifYes X2.here hx rfl (pc0 := 130) (pc' := 137) rfl (hb hby at_130) rfl ((if0 _ _).trans (feq (hc130 : ¬ (sr = (0 : Int32)))).2) (by decide) (by decide) ?_
            show Steps p.tables e below (T2.setTop (mkF m 137 #[.val (.int i0), .val (.int c0), .val (.int a1), .val (.int sa), .val (.int sr), .val (.ref r), .val (.int b)] [(.int (0 : Int32))])) _
            refine XS.iconst X2.here hx rfl (hb hby at_137) ?_
            show Steps p.tables e below (T2.setTop (mkF m 138 #[.val (.int i0), .val (.int c0), .val (.int a1), .val (.int sa), .val (.int sr), .val (.ref r), .val (.int b)] [(.int (0 : Int32)), (.int (0 : Int32))])) _
            refine XS.icmpNo X2.here hx rfl (hb hby at_138) rfl (teq (by decide : (0 : Int32) = (0 : Int32))).2 ?_
            exact q)
        refine ⟨T2, X2, e2, fun t q => k13 t ?_⟩
        exact q
set_option maxRecDepth 65536 in
set_option maxHeartbeats 40000000 in
theorem cm_FALSE {p : Program} {l : Launch} {e : Env} {R : Room} {s : State} {m : MethodId} {args : Array Value} {below : List Frame} {meth : Method} {c : Code} {T0 : State} {locs : List Loc} {cells slots : Nat} {Z : State} {a0 : Array Value} {h0 : Heap} (i0 : Int32) (c0 : Int32) (a1 : Int32) (sa : Int32) (sr : Int32) (r : Addr) (b : Int32) (wF : Addr)
    (X0 : Stand p l e R s m args below meth c T0 locs cells slots) (hx : p.tables.exec = Jvm.exec) (hZ : Z.Warmed39 s.vm) (hw : ∀ d ∈ tables_1, d.before a0 Z = true) (hby : c.code = code) (hml : c.maxLocals = 7) (hown : s.vm.findClass "com/example/clepsydra/clepsydra/VerdictPredictedPinLaw" = some m.cls) (e0 : T0.heap = h0) (S_FALSE : Sta Z h0 "com/example/clepsydra/clepsydra/Verdict" "FALSE" "Lcom/example/clepsydra/clepsydra/Verdict;" (.ref wF)) (hP : r = wF ↔ (sa = (0 : Int32) ∧ ¬ sr = (0 : Int32))) :
    ∃ (T' : State), Stand p l e R s m args below meth c T' locs cells slots ∧ T'.heap = h0 ∧ ∀ t, Steps p.tables e below (T'.setTop (mkF m 171 #[.val (.int i0), .val (.int c0), .val (.int a1), .val (.int sa), .val (.int sr), .val (.ref r), .val (.int b)] [])) t → Steps p.tables e below (T0.setTop (mkF m 141 #[.val (.int i0), .val (.int c0), .val (.int a1), .val (.int sa), .val (.int sr), .val (.ref r), .val (.int b)] [])) t := by
  have k0 : ∀ t, Steps p.tables e below (T0.setTop (mkF m 141 #[.val (.int i0), .val (.int c0), .val (.int a1), .val (.int sa), .val (.int sr), .val (.ref r), .val (.int b)] [])) t → Steps p.tables e below (T0.setTop (mkF m 141 #[.val (.int i0), .val (.int c0), .val (.int a1), .val (.int sa), .val (.int sr), .val (.ref r), .val (.int b)] [])) t := fun _ q => q
  have k1 : ∀ t, Steps p.tables e below (T0.setTop (mkF m 143 #[.val (.int i0), .val (.int c0), .val (.int a1), .val (.int sa), .val (.int sr), .val (.ref r), .val (.int b)] [(.ref r)])) t → Steps p.tables e below (T0.setTop (mkF m 141 #[.val (.int i0), .val (.int c0), .val (.int a1), .val (.int sa), .val (.int sr), .val (.ref r), .val (.int b)] [])) t := fun t q => k0 t (by
      show Steps p.tables e below (T0.setTop (mkF m 141 #[.val (.int i0), .val (.int c0), .val (.int a1), .val (.int sa), .val (.int sr), .val (.ref r), .val (.int b)] [])) _
      refine XS.aload X0.here hx rfl (hb hby at_141) rfl rfl ?_
      exact q)
  obtain ⟨T2, X2, e2, st2⟩ := getS2 X0 hx hZ hown (host := "") (Or.inl (hw _ (List.mem_of_getElem? (i := 9) rfl))) Via.refl e0 (S_FALSE) (g := (mkF m 143 #[.val (.int i0), .val (.int c0), .val (.int a1), .val (.int sa), .val (.int sr), .val (.ref r), .val (.int b)] [(.ref r)])) rfl (hb hby at_143)
  have k3 : ∀ t, Steps p.tables e below (T2.setTop (mkF m 146 #[.val (.int i0), .val (.int c0), .val (.int a1), .val (.int sa), .val (.int sr), .val (.ref r), .val (.int b)] [(.ref wF), (.ref r)])) t → Steps p.tables e below (T0.setTop (mkF m 141 #[.val (.int i0), .val (.int c0), .val (.int a1), .val (.int sa), .val (.int sr), .val (.ref r), .val (.int b)] [])) t := fun t q => k1 t (st2 t q)
  by_cases ha146 : r = wF
  · have k4 : ∀ t, Steps p.tables e below (T2.setTop (mkF m 155 #[.val (.int i0), .val (.int c0), .val (.int a1), .val (.int sa), .val (.int sr), .val (.ref r), .val (.int b)] [(.int sa), (.int (1 : Int32))])) t → Steps p.tables e below (T0.setTop (mkF m 141 #[.val (.int i0), .val (.int c0), .val (.int a1), .val (.int sa), .val (.int sr), .val (.ref r), .val (.int b)] [])) t := fun t q => k3 t (by
        show Steps p.tables e below (T2.setTop (mkF m 146 #[.val (.int i0), .val (.int c0), .val (.int a1), .val (.int sa), .val (.int sr), .val (.ref r), .val (.int b)] [(.ref wF), (.ref r)])) _
        refine Jvm.RoadKit.acmp (g := (mkF m 146 #[.val (.int i0), .val (.int c0), .val (.int a1), .val (.int sa), .val (.int sr), .val (.ref r), .val (.int b)] [(.ref wF), (.ref r)])) X2 hx rfl rfl rfl (pc0 := 146) (pc' := 149) (same := true) rfl (hb hby at_146) rfl (decide_eq_true (congrArg Value.ref (ha146 : r = wF))) (by decide) (by decide) ?_
        show Steps p.tables e below (T2.setTop (mkF m 149 #[.val (.int i0), .val (.int c0), .val (.int a1), .val (.int sa), .val (.int sr), .val (.ref r), .val (.int b)] [])) _
        refine XS.iconst X2.here hx rfl (hb hby at_149) ?_
        show Steps p.tables e below (T2.setTop (mkF m 150 #[.val (.int i0), .val (.int c0), .val (.int a1), .val (.int sa), .val (.int sr), .val (.ref r), .val (.int b)] [(.int (1 : Int32))])) _
        refine XS.goto X2.here hx rfl (pc0 := 150) (pc' := 154) rfl (hb hby at_150) (by decide) (by decide) ?_
        show Steps p.tables e below (T2.setTop (mkF m 154 #[.val (.int i0), .val (.int c0), .val (.int a1), .val (.int sa), .val (.int sr), .val (.ref r), .val (.int b)] [(.int (1 : Int32))])) _
        refine XS.iloadN X2.here hx rfl (hb hby at_154) rfl ?_
        exact q)
    by_cases hc155 : sa = (0 : Int32)
    · have k5 : ∀ t, Steps p.tables e below (T2.setTop (mkF m 160 #[.val (.int i0), .val (.int c0), .val (.int a1), .val (.int sa), .val (.int sr), .val (.ref r), .val (.int b)] [(.int sr), (.int (1 : Int32))])) t → Steps p.tables e below (T0.setTop (mkF m 141 #[.val (.int i0), .val (.int c0), .val (.int a1), .val (.int sa), .val (.int sr), .val (.ref r), .val (.int b)] [])) t := fun t q => k4 t (by
          show Steps p.tables e below (T2.setTop (mkF m 155 #[.val (.int i0), .val (.int c0), .val (.int a1), .val (.int sa), .val (.int sr), .val (.ref r), .val (.int b)] [(.int sa), (.int (1 : Int32))])) _
          refine XS.ifNo X2.here hx rfl (hb hby at_155) rfl ((if0 _ _).trans (teq (hc155 : sa = (0 : Int32))).2) ?_
          show Steps p.tables e below (T2.setTop (mkF m 158 #[.val (.int i0), .val (.int c0), .val (.int a1), .val (.int sa), .val (.int sr), .val (.ref r), .val (.int b)] [(.int (1 : Int32))])) _
          refine XS.iload X2.here hx rfl (hb hby at_158) rfl ?_
          exact q)
      by_cases hc160 : sr = (0 : Int32)
      · have k6 : ∀ t, Steps p.tables e below (T2.setTop (mkF m 168 #[.val (.int i0), .val (.int c0), .val (.int a1), .val (.int sa), .val (.int sr), .val (.ref r), .val (.int b)] [(.int (0 : Int32)), (.int (1 : Int32))])) t → Steps p.tables e below (T0.setTop (mkF m 141 #[.val (.int i0), .val (.int c0), .val (.int a1), .val (.int sa), .val (.int sr), .val (.ref r), .val (.int b)] [])) t := fun t q => k5 t (by
            show Steps p.tables e below (T2.setTop (mkF m 160 #[.val (.int i0), .val (.int c0), .val (.int a1), .val (.int sa), .val (.int sr), .val (.ref r), .val (.int b)] [(.int sr), (.int (1 : Int32))])) _
            refine XS.ifYes X2.here hx rfl (pc0 := 160) (pc' := 167) rfl (hb hby at_160) rfl ((if0 _ _).trans (teq (hc160 : sr = (0 : Int32))).1) (by decide) (by decide) ?_
            show Steps p.tables e below (T2.setTop (mkF m 167 #[.val (.int i0), .val (.int c0), .val (.int a1), .val (.int sa), .val (.int sr), .val (.ref r), .val (.int b)] [(.int (1 : Int32))])) _
            refine XS.iconst X2.here hx rfl (hb hby at_167) ?_
            exact q)
        simp [ha146, hc155, hc160] at hP
      · have k7 : ∀ t, Steps p.tables e below (T2.setTop (mkF m 171 #[.val (.int i0), .val (.int c0), .val (.int a1), .val (.int sa), .val (.int sr), .val (.ref r), .val (.int b)] [])) t → Steps p.tables e below (T0.setTop (mkF m 141 #[.val (.int i0), .val (.int c0), .val (.int a1), .val (.int sa), .val (.int sr), .val (.ref r), .val (.int b)] [])) t := fun t q => k5 t (by
            show Steps p.tables e below (T2.setTop (mkF m 160 #[.val (.int i0), .val (.int c0), .val (.int a1), .val (.int sa), .val (.int sr), .val (.ref r), .val (.int b)] [(.int sr), (.int (1 : Int32))])) _
            refine XS.ifNo X2.here hx rfl (hb hby at_160) rfl ((if0 _ _).trans (feq (hc160 : ¬ (sr = (0 : Int32)))).1) ?_
            show Steps p.tables e below (T2.setTop (mkF m 163 #[.val (.int i0), .val (.int c0), .val (.int a1), .val (.int sa), .val (.int sr), .val (.ref r), .val (.int b)] [(.int (1 : Int32))])) _
            refine XS.iconst X2.here hx rfl (hb hby at_163) ?_
            show Steps p.tables e below (T2.setTop (mkF m 164 #[.val (.int i0), .val (.int c0), .val (.int a1), .val (.int sa), .val (.int sr), .val (.ref r), .val (.int b)] [(.int (1 : Int32)), (.int (1 : Int32))])) _
            refine XS.goto X2.here hx rfl (pc0 := 164) (pc' := 168) rfl (hb hby at_164) (by decide) (by decide) ?_
            show Steps p.tables e below (T2.setTop (mkF m 168 #[.val (.int i0), .val (.int c0), .val (.int a1), .val (.int sa), .val (.int sr), .val (.ref r), .val (.int b)] [(.int (1 : Int32)), (.int (1 : Int32))])) _
            refine XS.icmpNo X2.here hx rfl (hb hby at_168) rfl (teq (by decide : (1 : Int32) = (1 : Int32))).2 ?_
            exact q)
        refine ⟨T2, X2, e2, fun t q => k7 t ?_⟩
        exact q
    · have k8 : ∀ t, Steps p.tables e below (T2.setTop (mkF m 168 #[.val (.int i0), .val (.int c0), .val (.int a1), .val (.int sa), .val (.int sr), .val (.ref r), .val (.int b)] [(.int (0 : Int32)), (.int (1 : Int32))])) t → Steps p.tables e below (T0.setTop (mkF m 141 #[.val (.int i0), .val (.int c0), .val (.int a1), .val (.int sa), .val (.int sr), .val (.ref r), .val (.int b)] [])) t := fun t q => k4 t (by
          show Steps p.tables e below (T2.setTop (mkF m 155 #[.val (.int i0), .val (.int c0), .val (.int a1), .val (.int sa), .val (.int sr), .val (.ref r), .val (.int b)] [(.int sa), (.int (1 : Int32))])) _
          refine XS.ifYes X2.here hx rfl (pc0 := 155) (pc' := 167) rfl (hb hby at_155) rfl ((if0 _ _).trans (feq (hc155 : ¬ (sa = (0 : Int32)))).2) (by decide) (by decide) ?_
          show Steps p.tables e below (T2.setTop (mkF m 167 #[.val (.int i0), .val (.int c0), .val (.int a1), .val (.int sa), .val (.int sr), .val (.ref r), .val (.int b)] [(.int (1 : Int32))])) _
          refine XS.iconst X2.here hx rfl (hb hby at_167) ?_
          exact q)
      simp [ha146, hc155] at hP
  · have k9 : ∀ t, Steps p.tables e below (T2.setTop (mkF m 155 #[.val (.int i0), .val (.int c0), .val (.int a1), .val (.int sa), .val (.int sr), .val (.ref r), .val (.int b)] [(.int sa), (.int (0 : Int32))])) t → Steps p.tables e below (T0.setTop (mkF m 141 #[.val (.int i0), .val (.int c0), .val (.int a1), .val (.int sa), .val (.int sr), .val (.ref r), .val (.int b)] [])) t := fun t q => k3 t (by
        show Steps p.tables e below (T2.setTop (mkF m 146 #[.val (.int i0), .val (.int c0), .val (.int a1), .val (.int sa), .val (.int sr), .val (.ref r), .val (.int b)] [(.ref wF), (.ref r)])) _
        refine Jvm.RoadKit.acmp (g := (mkF m 146 #[.val (.int i0), .val (.int c0), .val (.int a1), .val (.int sa), .val (.int sr), .val (.ref r), .val (.int b)] [(.ref wF), (.ref r)])) X2 hx rfl rfl rfl (pc0 := 146) (pc' := 153) (same := false) rfl (hb hby at_146) rfl (decide_eq_false fun q => (ha146 : ¬ (r = wF)) (Value.ref.inj q)) (by decide) (by decide) ?_
        show Steps p.tables e below (T2.setTop (mkF m 153 #[.val (.int i0), .val (.int c0), .val (.int a1), .val (.int sa), .val (.int sr), .val (.ref r), .val (.int b)] [])) _
        refine XS.iconst X2.here hx rfl (hb hby at_153) ?_
        show Steps p.tables e below (T2.setTop (mkF m 154 #[.val (.int i0), .val (.int c0), .val (.int a1), .val (.int sa), .val (.int sr), .val (.ref r), .val (.int b)] [(.int (0 : Int32))])) _
        refine XS.iloadN X2.here hx rfl (hb hby at_154) rfl ?_
        exact q)
    by_cases hc155 : sa = (0 : Int32)
    · have k10 : ∀ t, Steps p.tables e below (T2.setTop (mkF m 160 #[.val (.int i0), .val (.int c0), .val (.int a1), .val (.int sa), .val (.int sr), .val (.ref r), .val (.int b)] [(.int sr), (.int (0 : Int32))])) t → Steps p.tables e below (T0.setTop (mkF m 141 #[.val (.int i0), .val (.int c0), .val (.int a1), .val (.int sa), .val (.int sr), .val (.ref r), .val (.int b)] [])) t := fun t q => k9 t (by
          show Steps p.tables e below (T2.setTop (mkF m 155 #[.val (.int i0), .val (.int c0), .val (.int a1), .val (.int sa), .val (.int sr), .val (.ref r), .val (.int b)] [(.int sa), (.int (0 : Int32))])) _
          refine XS.ifNo X2.here hx rfl (hb hby at_155) rfl ((if0 _ _).trans (teq (hc155 : sa = (0 : Int32))).2) ?_
          show Steps p.tables e below (T2.setTop (mkF m 158 #[.val (.int i0), .val (.int c0), .val (.int a1), .val (.int sa), .val (.int sr), .val (.ref r), .val (.int b)] [(.int (0 : Int32))])) _
          refine XS.iload X2.here hx rfl (hb hby at_158) rfl ?_
          exact q)
      by_cases hc160 : sr = (0 : Int32)
      · have k11 : ∀ t, Steps p.tables e below (T2.setTop (mkF m 171 #[.val (.int i0), .val (.int c0), .val (.int a1), .val (.int sa), .val (.int sr), .val (.ref r), .val (.int b)] [])) t → Steps p.tables e below (T0.setTop (mkF m 141 #[.val (.int i0), .val (.int c0), .val (.int a1), .val (.int sa), .val (.int sr), .val (.ref r), .val (.int b)] [])) t := fun t q => k10 t (by
            show Steps p.tables e below (T2.setTop (mkF m 160 #[.val (.int i0), .val (.int c0), .val (.int a1), .val (.int sa), .val (.int sr), .val (.ref r), .val (.int b)] [(.int sr), (.int (0 : Int32))])) _
            refine XS.ifYes X2.here hx rfl (pc0 := 160) (pc' := 167) rfl (hb hby at_160) rfl ((if0 _ _).trans (teq (hc160 : sr = (0 : Int32))).1) (by decide) (by decide) ?_
            show Steps p.tables e below (T2.setTop (mkF m 167 #[.val (.int i0), .val (.int c0), .val (.int a1), .val (.int sa), .val (.int sr), .val (.ref r), .val (.int b)] [(.int (0 : Int32))])) _
            refine XS.iconst X2.here hx rfl (hb hby at_167) ?_
            show Steps p.tables e below (T2.setTop (mkF m 168 #[.val (.int i0), .val (.int c0), .val (.int a1), .val (.int sa), .val (.int sr), .val (.ref r), .val (.int b)] [(.int (0 : Int32)), (.int (0 : Int32))])) _
            refine XS.icmpNo X2.here hx rfl (hb hby at_168) rfl (teq (by decide : (0 : Int32) = (0 : Int32))).2 ?_
            exact q)
        refine ⟨T2, X2, e2, fun t q => k11 t ?_⟩
        exact q
      · have k12 : ∀ t, Steps p.tables e below (T2.setTop (mkF m 168 #[.val (.int i0), .val (.int c0), .val (.int a1), .val (.int sa), .val (.int sr), .val (.ref r), .val (.int b)] [(.int (1 : Int32)), (.int (0 : Int32))])) t → Steps p.tables e below (T0.setTop (mkF m 141 #[.val (.int i0), .val (.int c0), .val (.int a1), .val (.int sa), .val (.int sr), .val (.ref r), .val (.int b)] [])) t := fun t q => k10 t (by
            show Steps p.tables e below (T2.setTop (mkF m 160 #[.val (.int i0), .val (.int c0), .val (.int a1), .val (.int sa), .val (.int sr), .val (.ref r), .val (.int b)] [(.int sr), (.int (0 : Int32))])) _
            refine XS.ifNo X2.here hx rfl (hb hby at_160) rfl ((if0 _ _).trans (feq (hc160 : ¬ (sr = (0 : Int32)))).1) ?_
            show Steps p.tables e below (T2.setTop (mkF m 163 #[.val (.int i0), .val (.int c0), .val (.int a1), .val (.int sa), .val (.int sr), .val (.ref r), .val (.int b)] [(.int (0 : Int32))])) _
            refine XS.iconst X2.here hx rfl (hb hby at_163) ?_
            show Steps p.tables e below (T2.setTop (mkF m 164 #[.val (.int i0), .val (.int c0), .val (.int a1), .val (.int sa), .val (.int sr), .val (.ref r), .val (.int b)] [(.int (1 : Int32)), (.int (0 : Int32))])) _
            refine XS.goto X2.here hx rfl (pc0 := 164) (pc' := 168) rfl (hb hby at_164) (by decide) (by decide) ?_
            exact q)
        simp [ha146, hc155, hc160] at hP
    · have k13 : ∀ t, Steps p.tables e below (T2.setTop (mkF m 171 #[.val (.int i0), .val (.int c0), .val (.int a1), .val (.int sa), .val (.int sr), .val (.ref r), .val (.int b)] [])) t → Steps p.tables e below (T0.setTop (mkF m 141 #[.val (.int i0), .val (.int c0), .val (.int a1), .val (.int sa), .val (.int sr), .val (.ref r), .val (.int b)] [])) t := fun t q => k9 t (by
          show Steps p.tables e below (T2.setTop (mkF m 155 #[.val (.int i0), .val (.int c0), .val (.int a1), .val (.int sa), .val (.int sr), .val (.ref r), .val (.int b)] [(.int sa), (.int (0 : Int32))])) _
          refine XS.ifYes X2.here hx rfl (pc0 := 155) (pc' := 167) rfl (hb hby at_155) rfl ((if0 _ _).trans (feq (hc155 : ¬ (sa = (0 : Int32)))).2) (by decide) (by decide) ?_
          show Steps p.tables e below (T2.setTop (mkF m 167 #[.val (.int i0), .val (.int c0), .val (.int a1), .val (.int sa), .val (.int sr), .val (.ref r), .val (.int b)] [(.int (0 : Int32))])) _
          refine XS.iconst X2.here hx rfl (hb hby at_167) ?_
          show Steps p.tables e below (T2.setTop (mkF m 168 #[.val (.int i0), .val (.int c0), .val (.int a1), .val (.int sa), .val (.int sr), .val (.ref r), .val (.int b)] [(.int (0 : Int32)), (.int (0 : Int32))])) _
          refine XS.icmpNo X2.here hx rfl (hb hby at_168) rfl (teq (by decide : (0 : Int32) = (0 : Int32))).2 ?_
          exact q)
      refine ⟨T2, X2, e2, fun t q => k13 t ?_⟩
      exact q
set_option maxRecDepth 65536 in
set_option maxHeartbeats 40000000 in
theorem cm_UNDECIDED {p : Program} {l : Launch} {e : Env} {R : Room} {s : State} {m : MethodId} {args : Array Value} {below : List Frame} {meth : Method} {c : Code} {T0 : State} {locs : List Loc} {cells slots : Nat} {Z : State} {a0 : Array Value} {h0 : Heap} (i0 : Int32) (c0 : Int32) (a1 : Int32) (sa : Int32) (sr : Int32) (r : Addr) (b : Int32) (wU : Addr)
    (X0 : Stand p l e R s m args below meth c T0 locs cells slots) (hx : p.tables.exec = Jvm.exec) (hZ : Z.Warmed39 s.vm) (hw : ∀ d ∈ tables_1, d.before a0 Z = true) (hby : c.code = code) (hml : c.maxLocals = 7) (hown : s.vm.findClass "com/example/clepsydra/clepsydra/VerdictPredictedPinLaw" = some m.cls) (e0 : T0.heap = h0) (S_UNDECIDED : Sta Z h0 "com/example/clepsydra/clepsydra/Verdict" "UNDECIDED" "Lcom/example/clepsydra/clepsydra/Verdict;" (.ref wU)) (hP : r = wU ↔ (¬ b = (0 : Int32) ∧ c0 = (0 : Int32))) :
    ∃ (T' : State), Stand p l e R s m args below meth c T' locs cells slots ∧ T'.heap = h0 ∧ ∀ t, Steps p.tables e below (T'.setTop (mkF m 201 #[.val (.int i0), .val (.int c0), .val (.int a1), .val (.int sa), .val (.int sr), .val (.ref r), .val (.int b)] [])) t → Steps p.tables e below (T0.setTop (mkF m 171 #[.val (.int i0), .val (.int c0), .val (.int a1), .val (.int sa), .val (.int sr), .val (.ref r), .val (.int b)] [])) t := by
  have k0 : ∀ t, Steps p.tables e below (T0.setTop (mkF m 171 #[.val (.int i0), .val (.int c0), .val (.int a1), .val (.int sa), .val (.int sr), .val (.ref r), .val (.int b)] [])) t → Steps p.tables e below (T0.setTop (mkF m 171 #[.val (.int i0), .val (.int c0), .val (.int a1), .val (.int sa), .val (.int sr), .val (.ref r), .val (.int b)] [])) t := fun _ q => q
  have k1 : ∀ t, Steps p.tables e below (T0.setTop (mkF m 173 #[.val (.int i0), .val (.int c0), .val (.int a1), .val (.int sa), .val (.int sr), .val (.ref r), .val (.int b)] [(.ref r)])) t → Steps p.tables e below (T0.setTop (mkF m 171 #[.val (.int i0), .val (.int c0), .val (.int a1), .val (.int sa), .val (.int sr), .val (.ref r), .val (.int b)] [])) t := fun t q => k0 t (by
      show Steps p.tables e below (T0.setTop (mkF m 171 #[.val (.int i0), .val (.int c0), .val (.int a1), .val (.int sa), .val (.int sr), .val (.ref r), .val (.int b)] [])) _
      refine XS.aload X0.here hx rfl (hb hby at_171) rfl rfl ?_
      exact q)
  obtain ⟨T2, X2, e2, st2⟩ := getS2 X0 hx hZ hown (host := "") (Or.inl (hw _ (List.mem_of_getElem? (i := 11) rfl))) Via.refl e0 (S_UNDECIDED) (g := (mkF m 173 #[.val (.int i0), .val (.int c0), .val (.int a1), .val (.int sa), .val (.int sr), .val (.ref r), .val (.int b)] [(.ref r)])) rfl (hb hby at_173)
  have k3 : ∀ t, Steps p.tables e below (T2.setTop (mkF m 176 #[.val (.int i0), .val (.int c0), .val (.int a1), .val (.int sa), .val (.int sr), .val (.ref r), .val (.int b)] [(.ref wU), (.ref r)])) t → Steps p.tables e below (T0.setTop (mkF m 171 #[.val (.int i0), .val (.int c0), .val (.int a1), .val (.int sa), .val (.int sr), .val (.ref r), .val (.int b)] [])) t := fun t q => k1 t (st2 t q)
  by_cases ha176 : r = wU
  · have k4 : ∀ t, Steps p.tables e below (T2.setTop (mkF m 186 #[.val (.int i0), .val (.int c0), .val (.int a1), .val (.int sa), .val (.int sr), .val (.ref r), .val (.int b)] [(.int b), (.int (1 : Int32))])) t → Steps p.tables e below (T0.setTop (mkF m 171 #[.val (.int i0), .val (.int c0), .val (.int a1), .val (.int sa), .val (.int sr), .val (.ref r), .val (.int b)] [])) t := fun t q => k3 t (by
        show Steps p.tables e below (T2.setTop (mkF m 176 #[.val (.int i0), .val (.int c0), .val (.int a1), .val (.int sa), .val (.int sr), .val (.ref r), .val (.int b)] [(.ref wU), (.ref r)])) _
        refine Jvm.RoadKit.acmp (g := (mkF m 176 #[.val (.int i0), .val (.int c0), .val (.int a1), .val (.int sa), .val (.int sr), .val (.ref r), .val (.int b)] [(.ref wU), (.ref r)])) X2 hx rfl rfl rfl (pc0 := 176) (pc' := 179) (same := true) rfl (hb hby at_176) rfl (decide_eq_true (congrArg Value.ref (ha176 : r = wU))) (by decide) (by decide) ?_
        show Steps p.tables e below (T2.setTop (mkF m 179 #[.val (.int i0), .val (.int c0), .val (.int a1), .val (.int sa), .val (.int sr), .val (.ref r), .val (.int b)] [])) _
        refine XS.iconst X2.here hx rfl (hb hby at_179) ?_
        show Steps p.tables e below (T2.setTop (mkF m 180 #[.val (.int i0), .val (.int c0), .val (.int a1), .val (.int sa), .val (.int sr), .val (.ref r), .val (.int b)] [(.int (1 : Int32))])) _
        refine XS.goto X2.here hx rfl (pc0 := 180) (pc' := 184) rfl (hb hby at_180) (by decide) (by decide) ?_
        show Steps p.tables e below (T2.setTop (mkF m 184 #[.val (.int i0), .val (.int c0), .val (.int a1), .val (.int sa), .val (.int sr), .val (.ref r), .val (.int b)] [(.int (1 : Int32))])) _
        refine XS.iload X2.here hx rfl (hb hby at_184) rfl ?_
        exact q)
    by_cases hc186 : b = (0 : Int32)
    · have k5 : ∀ t, Steps p.tables e below (T2.setTop (mkF m 198 #[.val (.int i0), .val (.int c0), .val (.int a1), .val (.int sa), .val (.int sr), .val (.ref r), .val (.int b)] [(.int (0 : Int32)), (.int (1 : Int32))])) t → Steps p.tables e below (T0.setTop (mkF m 171 #[.val (.int i0), .val (.int c0), .val (.int a1), .val (.int sa), .val (.int sr), .val (.ref r), .val (.int b)] [])) t := fun t q => k4 t (by
          show Steps p.tables e below (T2.setTop (mkF m 186 #[.val (.int i0), .val (.int c0), .val (.int a1), .val (.int sa), .val (.int sr), .val (.ref r), .val (.int b)] [(.int b), (.int (1 : Int32))])) _
          refine XS.ifYes X2.here hx rfl (pc0 := 186) (pc' := 197) rfl (hb hby at_186) rfl ((if0 _ _).trans (teq (hc186 : b = (0 : Int32))).1) (by decide) (by decide) ?_
          show Steps p.tables e below (T2.setTop (mkF m 197 #[.val (.int i0), .val (.int c0), .val (.int a1), .val (.int sa), .val (.int sr), .val (.ref r), .val (.int b)] [(.int (1 : Int32))])) _
          refine XS.iconst X2.here hx rfl (hb hby at_197) ?_
          exact q)
      simp [ha176, hc186] at hP
    · have k6 : ∀ t, Steps p.tables e below (T2.setTop (mkF m 190 #[.val (.int i0), .val (.int c0), .val (.int a1), .val (.int sa), .val (.int sr), .val (.ref r), .val (.int b)] [(.int c0), (.int (1 : Int32))])) t → Steps p.tables e below (T0.setTop (mkF m 171 #[.val (.int i0), .val (.int c0), .val (.int a1), .val (.int sa), .val (.int sr), .val (.ref r), .val (.int b)] [])) t := fun t q => k4 t (by
          show Steps p.tables e below (T2.setTop (mkF m 186 #[.val (.int i0), .val (.int c0), .val (.int a1), .val (.int sa), .val (.int sr), .val (.ref r), .val (.int b)] [(.int b), (.int (1 : Int32))])) _
          refine XS.ifNo X2.here hx rfl (hb hby at_186) rfl ((if0 _ _).trans (feq (hc186 : ¬ (b = (0 : Int32)))).1) ?_
          show Steps p.tables e below (T2.setTop (mkF m 189 #[.val (.int i0), .val (.int c0), .val (.int a1), .val (.int sa), .val (.int sr), .val (.ref r), .val (.int b)] [(.int (1 : Int32))])) _
          refine XS.iloadN X2.here hx rfl (hb hby at_189) rfl ?_
          exact q)
      by_cases hc190 : c0 = (0 : Int32)
      · have k7 : ∀ t, Steps p.tables e below (T2.setTop (mkF m 201 #[.val (.int i0), .val (.int c0), .val (.int a1), .val (.int sa), .val (.int sr), .val (.ref r), .val (.int b)] [])) t → Steps p.tables e below (T0.setTop (mkF m 171 #[.val (.int i0), .val (.int c0), .val (.int a1), .val (.int sa), .val (.int sr), .val (.ref r), .val (.int b)] [])) t := fun t q => k6 t (by
            show Steps p.tables e below (T2.setTop (mkF m 190 #[.val (.int i0), .val (.int c0), .val (.int a1), .val (.int sa), .val (.int sr), .val (.ref r), .val (.int b)] [(.int c0), (.int (1 : Int32))])) _
            refine XS.ifNo X2.here hx rfl (hb hby at_190) rfl ((if0 _ _).trans (teq (hc190 : c0 = (0 : Int32))).2) ?_
            show Steps p.tables e below (T2.setTop (mkF m 193 #[.val (.int i0), .val (.int c0), .val (.int a1), .val (.int sa), .val (.int sr), .val (.ref r), .val (.int b)] [(.int (1 : Int32))])) _
            refine XS.iconst X2.here hx rfl (hb hby at_193) ?_
            show Steps p.tables e below (T2.setTop (mkF m 194 #[.val (.int i0), .val (.int c0), .val (.int a1), .val (.int sa), .val (.int sr), .val (.ref r), .val (.int b)] [(.int (1 : Int32)), (.int (1 : Int32))])) _
            refine XS.goto X2.here hx rfl (pc0 := 194) (pc' := 198) rfl (hb hby at_194) (by decide) (by decide) ?_
            show Steps p.tables e below (T2.setTop (mkF m 198 #[.val (.int i0), .val (.int c0), .val (.int a1), .val (.int sa), .val (.int sr), .val (.ref r), .val (.int b)] [(.int (1 : Int32)), (.int (1 : Int32))])) _
            refine XS.icmpNo X2.here hx rfl (hb hby at_198) rfl (teq (by decide : (1 : Int32) = (1 : Int32))).2 ?_
            exact q)
        refine ⟨T2, X2, e2, fun t q => k7 t ?_⟩
        exact q
      · have k8 : ∀ t, Steps p.tables e below (T2.setTop (mkF m 198 #[.val (.int i0), .val (.int c0), .val (.int a1), .val (.int sa), .val (.int sr), .val (.ref r), .val (.int b)] [(.int (0 : Int32)), (.int (1 : Int32))])) t → Steps p.tables e below (T0.setTop (mkF m 171 #[.val (.int i0), .val (.int c0), .val (.int a1), .val (.int sa), .val (.int sr), .val (.ref r), .val (.int b)] [])) t := fun t q => k6 t (by
            show Steps p.tables e below (T2.setTop (mkF m 190 #[.val (.int i0), .val (.int c0), .val (.int a1), .val (.int sa), .val (.int sr), .val (.ref r), .val (.int b)] [(.int c0), (.int (1 : Int32))])) _
            refine XS.ifYes X2.here hx rfl (pc0 := 190) (pc' := 197) rfl (hb hby at_190) rfl ((if0 _ _).trans (feq (hc190 : ¬ (c0 = (0 : Int32)))).2) (by decide) (by decide) ?_
            show Steps p.tables e below (T2.setTop (mkF m 197 #[.val (.int i0), .val (.int c0), .val (.int a1), .val (.int sa), .val (.int sr), .val (.ref r), .val (.int b)] [(.int (1 : Int32))])) _
            refine XS.iconst X2.here hx rfl (hb hby at_197) ?_
            exact q)
        simp [ha176, hc186, hc190] at hP
  · have k9 : ∀ t, Steps p.tables e below (T2.setTop (mkF m 186 #[.val (.int i0), .val (.int c0), .val (.int a1), .val (.int sa), .val (.int sr), .val (.ref r), .val (.int b)] [(.int b), (.int (0 : Int32))])) t → Steps p.tables e below (T0.setTop (mkF m 171 #[.val (.int i0), .val (.int c0), .val (.int a1), .val (.int sa), .val (.int sr), .val (.ref r), .val (.int b)] [])) t := fun t q => k3 t (by
        show Steps p.tables e below (T2.setTop (mkF m 176 #[.val (.int i0), .val (.int c0), .val (.int a1), .val (.int sa), .val (.int sr), .val (.ref r), .val (.int b)] [(.ref wU), (.ref r)])) _
        refine Jvm.RoadKit.acmp (g := (mkF m 176 #[.val (.int i0), .val (.int c0), .val (.int a1), .val (.int sa), .val (.int sr), .val (.ref r), .val (.int b)] [(.ref wU), (.ref r)])) X2 hx rfl rfl rfl (pc0 := 176) (pc' := 183) (same := false) rfl (hb hby at_176) rfl (decide_eq_false fun q => (ha176 : ¬ (r = wU)) (Value.ref.inj q)) (by decide) (by decide) ?_
        show Steps p.tables e below (T2.setTop (mkF m 183 #[.val (.int i0), .val (.int c0), .val (.int a1), .val (.int sa), .val (.int sr), .val (.ref r), .val (.int b)] [])) _
        refine XS.iconst X2.here hx rfl (hb hby at_183) ?_
        show Steps p.tables e below (T2.setTop (mkF m 184 #[.val (.int i0), .val (.int c0), .val (.int a1), .val (.int sa), .val (.int sr), .val (.ref r), .val (.int b)] [(.int (0 : Int32))])) _
        refine XS.iload X2.here hx rfl (hb hby at_184) rfl ?_
        exact q)
    by_cases hc186 : b = (0 : Int32)
    · have k10 : ∀ t, Steps p.tables e below (T2.setTop (mkF m 201 #[.val (.int i0), .val (.int c0), .val (.int a1), .val (.int sa), .val (.int sr), .val (.ref r), .val (.int b)] [])) t → Steps p.tables e below (T0.setTop (mkF m 171 #[.val (.int i0), .val (.int c0), .val (.int a1), .val (.int sa), .val (.int sr), .val (.ref r), .val (.int b)] [])) t := fun t q => k9 t (by
          show Steps p.tables e below (T2.setTop (mkF m 186 #[.val (.int i0), .val (.int c0), .val (.int a1), .val (.int sa), .val (.int sr), .val (.ref r), .val (.int b)] [(.int b), (.int (0 : Int32))])) _
          refine XS.ifYes X2.here hx rfl (pc0 := 186) (pc' := 197) rfl (hb hby at_186) rfl ((if0 _ _).trans (teq (hc186 : b = (0 : Int32))).1) (by decide) (by decide) ?_
          show Steps p.tables e below (T2.setTop (mkF m 197 #[.val (.int i0), .val (.int c0), .val (.int a1), .val (.int sa), .val (.int sr), .val (.ref r), .val (.int b)] [(.int (0 : Int32))])) _
          refine XS.iconst X2.here hx rfl (hb hby at_197) ?_
          show Steps p.tables e below (T2.setTop (mkF m 198 #[.val (.int i0), .val (.int c0), .val (.int a1), .val (.int sa), .val (.int sr), .val (.ref r), .val (.int b)] [(.int (0 : Int32)), (.int (0 : Int32))])) _
          refine XS.icmpNo X2.here hx rfl (hb hby at_198) rfl (teq (by decide : (0 : Int32) = (0 : Int32))).2 ?_
          exact q)
      refine ⟨T2, X2, e2, fun t q => k10 t ?_⟩
      exact q
    · have k11 : ∀ t, Steps p.tables e below (T2.setTop (mkF m 190 #[.val (.int i0), .val (.int c0), .val (.int a1), .val (.int sa), .val (.int sr), .val (.ref r), .val (.int b)] [(.int c0), (.int (0 : Int32))])) t → Steps p.tables e below (T0.setTop (mkF m 171 #[.val (.int i0), .val (.int c0), .val (.int a1), .val (.int sa), .val (.int sr), .val (.ref r), .val (.int b)] [])) t := fun t q => k9 t (by
          show Steps p.tables e below (T2.setTop (mkF m 186 #[.val (.int i0), .val (.int c0), .val (.int a1), .val (.int sa), .val (.int sr), .val (.ref r), .val (.int b)] [(.int b), (.int (0 : Int32))])) _
          refine XS.ifNo X2.here hx rfl (hb hby at_186) rfl ((if0 _ _).trans (feq (hc186 : ¬ (b = (0 : Int32)))).1) ?_
          show Steps p.tables e below (T2.setTop (mkF m 189 #[.val (.int i0), .val (.int c0), .val (.int a1), .val (.int sa), .val (.int sr), .val (.ref r), .val (.int b)] [(.int (0 : Int32))])) _
          refine XS.iloadN X2.here hx rfl (hb hby at_189) rfl ?_
          exact q)
      by_cases hc190 : c0 = (0 : Int32)
      · have k12 : ∀ t, Steps p.tables e below (T2.setTop (mkF m 198 #[.val (.int i0), .val (.int c0), .val (.int a1), .val (.int sa), .val (.int sr), .val (.ref r), .val (.int b)] [(.int (1 : Int32)), (.int (0 : Int32))])) t → Steps p.tables e below (T0.setTop (mkF m 171 #[.val (.int i0), .val (.int c0), .val (.int a1), .val (.int sa), .val (.int sr), .val (.ref r), .val (.int b)] [])) t := fun t q => k11 t (by
            show Steps p.tables e below (T2.setTop (mkF m 190 #[.val (.int i0), .val (.int c0), .val (.int a1), .val (.int sa), .val (.int sr), .val (.ref r), .val (.int b)] [(.int c0), (.int (0 : Int32))])) _
            refine XS.ifNo X2.here hx rfl (hb hby at_190) rfl ((if0 _ _).trans (teq (hc190 : c0 = (0 : Int32))).2) ?_
            show Steps p.tables e below (T2.setTop (mkF m 193 #[.val (.int i0), .val (.int c0), .val (.int a1), .val (.int sa), .val (.int sr), .val (.ref r), .val (.int b)] [(.int (0 : Int32))])) _
            refine XS.iconst X2.here hx rfl (hb hby at_193) ?_
            show Steps p.tables e below (T2.setTop (mkF m 194 #[.val (.int i0), .val (.int c0), .val (.int a1), .val (.int sa), .val (.int sr), .val (.ref r), .val (.int b)] [(.int (1 : Int32)), (.int (0 : Int32))])) _
            refine XS.goto X2.here hx rfl (pc0 := 194) (pc' := 198) rfl (hb hby at_194) (by decide) (by decide) ?_
            exact q)
        simp [ha176, hc186, hc190] at hP
      · have k13 : ∀ t, Steps p.tables e below (T2.setTop (mkF m 201 #[.val (.int i0), .val (.int c0), .val (.int a1), .val (.int sa), .val (.int sr), .val (.ref r), .val (.int b)] [])) t → Steps p.tables e below (T0.setTop (mkF m 171 #[.val (.int i0), .val (.int c0), .val (.int a1), .val (.int sa), .val (.int sr), .val (.ref r), .val (.int b)] [])) t := fun t q => k11 t (by
            show Steps p.tables e below (T2.setTop (mkF m 190 #[.val (.int i0), .val (.int c0), .val (.int a1), .val (.int sa), .val (.int sr), .val (.ref r), .val (.int b)] [(.int c0), (.int (0 : Int32))])) _
            refine XS.ifYes X2.here hx rfl (pc0 := 190) (pc' := 197) rfl (hb hby at_190) rfl ((if0 _ _).trans (feq (hc190 : ¬ (c0 = (0 : Int32)))).2) (by decide) (by decide) ?_
            show Steps p.tables e below (T2.setTop (mkF m 197 #[.val (.int i0), .val (.int c0), .val (.int a1), .val (.int sa), .val (.int sr), .val (.ref r), .val (.int b)] [(.int (0 : Int32))])) _
            refine XS.iconst X2.here hx rfl (hb hby at_197) ?_
            show Steps p.tables e below (T2.setTop (mkF m 198 #[.val (.int i0), .val (.int c0), .val (.int a1), .val (.int sa), .val (.int sr), .val (.ref r), .val (.int b)] [(.int (0 : Int32)), (.int (0 : Int32))])) _
            refine XS.icmpNo X2.here hx rfl (hb hby at_198) rfl (teq (by decide : (0 : Int32) = (0 : Int32))).2 ?_
            exact q)
        refine ⟨T2, X2, e2, fun t q => k13 t ?_⟩
        exact q
set_option maxRecDepth 65536 in
set_option maxHeartbeats 40000000 in
theorem cm_CURRENTLY_TRUE {p : Program} {l : Launch} {e : Env} {R : Room} {s : State} {m : MethodId} {args : Array Value} {below : List Frame} {meth : Method} {c : Code} {T0 : State} {locs : List Loc} {cells slots : Nat} {Z : State} {a0 : Array Value} {h0 : Heap} (i0 : Int32) (c0 : Int32) (a1 : Int32) (sa : Int32) (sr : Int32) (r : Addr) (b : Int32) (wCT : Addr)
    (X0 : Stand p l e R s m args below meth c T0 locs cells slots) (hx : p.tables.exec = Jvm.exec) (hZ : Z.Warmed39 s.vm) (hw : ∀ d ∈ tables_1, d.before a0 Z = true) (hby : c.code = code) (hml : c.maxLocals = 7) (hown : s.vm.findClass "com/example/clepsydra/clepsydra/VerdictPredictedPinLaw" = some m.cls) (e0 : T0.heap = h0) (S_CURRENTLY_TRUE : Sta Z h0 "com/example/clepsydra/clepsydra/Verdict" "CURRENTLY_TRUE" "Lcom/example/clepsydra/clepsydra/Verdict;" (.ref wCT)) (hP : r = wCT ↔ (¬ b = (0 : Int32) ∧ ¬ c0 = (0 : Int32) ∧ ¬ a1 = (0 : Int32))) :
    ∃ (T' : State), Stand p l e R s m args below meth c T' locs cells slots ∧ T'.heap = h0 ∧ ∀ t, Steps p.tables e below (T'.setTop (mkF m 235 #[.val (.int i0), .val (.int c0), .val (.int a1), .val (.int sa), .val (.int sr), .val (.ref r), .val (.int b)] [])) t → Steps p.tables e below (T0.setTop (mkF m 201 #[.val (.int i0), .val (.int c0), .val (.int a1), .val (.int sa), .val (.int sr), .val (.ref r), .val (.int b)] [])) t := by
  have k0 : ∀ t, Steps p.tables e below (T0.setTop (mkF m 201 #[.val (.int i0), .val (.int c0), .val (.int a1), .val (.int sa), .val (.int sr), .val (.ref r), .val (.int b)] [])) t → Steps p.tables e below (T0.setTop (mkF m 201 #[.val (.int i0), .val (.int c0), .val (.int a1), .val (.int sa), .val (.int sr), .val (.ref r), .val (.int b)] [])) t := fun _ q => q
  have k1 : ∀ t, Steps p.tables e below (T0.setTop (mkF m 203 #[.val (.int i0), .val (.int c0), .val (.int a1), .val (.int sa), .val (.int sr), .val (.ref r), .val (.int b)] [(.ref r)])) t → Steps p.tables e below (T0.setTop (mkF m 201 #[.val (.int i0), .val (.int c0), .val (.int a1), .val (.int sa), .val (.int sr), .val (.ref r), .val (.int b)] [])) t := fun t q => k0 t (by
      show Steps p.tables e below (T0.setTop (mkF m 201 #[.val (.int i0), .val (.int c0), .val (.int a1), .val (.int sa), .val (.int sr), .val (.ref r), .val (.int b)] [])) _
      refine XS.aload X0.here hx rfl (hb hby at_201) rfl rfl ?_
      exact q)
  obtain ⟨T2, X2, e2, st2⟩ := getS2 X0 hx hZ hown (host := "") (Or.inl (hw _ (List.mem_of_getElem? (i := 13) rfl))) Via.refl e0 (S_CURRENTLY_TRUE) (g := (mkF m 203 #[.val (.int i0), .val (.int c0), .val (.int a1), .val (.int sa), .val (.int sr), .val (.ref r), .val (.int b)] [(.ref r)])) rfl (hb hby at_203)
  have k3 : ∀ t, Steps p.tables e below (T2.setTop (mkF m 206 #[.val (.int i0), .val (.int c0), .val (.int a1), .val (.int sa), .val (.int sr), .val (.ref r), .val (.int b)] [(.ref wCT), (.ref r)])) t → Steps p.tables e below (T0.setTop (mkF m 201 #[.val (.int i0), .val (.int c0), .val (.int a1), .val (.int sa), .val (.int sr), .val (.ref r), .val (.int b)] [])) t := fun t q => k1 t (st2 t q)
  by_cases ha206 : r = wCT
  · have k4 : ∀ t, Steps p.tables e below (T2.setTop (mkF m 216 #[.val (.int i0), .val (.int c0), .val (.int a1), .val (.int sa), .val (.int sr), .val (.ref r), .val (.int b)] [(.int b), (.int (1 : Int32))])) t → Steps p.tables e below (T0.setTop (mkF m 201 #[.val (.int i0), .val (.int c0), .val (.int a1), .val (.int sa), .val (.int sr), .val (.ref r), .val (.int b)] [])) t := fun t q => k3 t (by
        show Steps p.tables e below (T2.setTop (mkF m 206 #[.val (.int i0), .val (.int c0), .val (.int a1), .val (.int sa), .val (.int sr), .val (.ref r), .val (.int b)] [(.ref wCT), (.ref r)])) _
        refine Jvm.RoadKit.acmp (g := (mkF m 206 #[.val (.int i0), .val (.int c0), .val (.int a1), .val (.int sa), .val (.int sr), .val (.ref r), .val (.int b)] [(.ref wCT), (.ref r)])) X2 hx rfl rfl rfl (pc0 := 206) (pc' := 209) (same := true) rfl (hb hby at_206) rfl (decide_eq_true (congrArg Value.ref (ha206 : r = wCT))) (by decide) (by decide) ?_
        show Steps p.tables e below (T2.setTop (mkF m 209 #[.val (.int i0), .val (.int c0), .val (.int a1), .val (.int sa), .val (.int sr), .val (.ref r), .val (.int b)] [])) _
        refine XS.iconst X2.here hx rfl (hb hby at_209) ?_
        show Steps p.tables e below (T2.setTop (mkF m 210 #[.val (.int i0), .val (.int c0), .val (.int a1), .val (.int sa), .val (.int sr), .val (.ref r), .val (.int b)] [(.int (1 : Int32))])) _
        refine XS.goto X2.here hx rfl (pc0 := 210) (pc' := 214) rfl (hb hby at_210) (by decide) (by decide) ?_
        show Steps p.tables e below (T2.setTop (mkF m 214 #[.val (.int i0), .val (.int c0), .val (.int a1), .val (.int sa), .val (.int sr), .val (.ref r), .val (.int b)] [(.int (1 : Int32))])) _
        refine XS.iload X2.here hx rfl (hb hby at_214) rfl ?_
        exact q)
    by_cases hc216 : b = (0 : Int32)
    · have k5 : ∀ t, Steps p.tables e below (T2.setTop (mkF m 232 #[.val (.int i0), .val (.int c0), .val (.int a1), .val (.int sa), .val (.int sr), .val (.ref r), .val (.int b)] [(.int (0 : Int32)), (.int (1 : Int32))])) t → Steps p.tables e below (T0.setTop (mkF m 201 #[.val (.int i0), .val (.int c0), .val (.int a1), .val (.int sa), .val (.int sr), .val (.ref r), .val (.int b)] [])) t := fun t q => k4 t (by
          show Steps p.tables e below (T2.setTop (mkF m 216 #[.val (.int i0), .val (.int c0), .val (.int a1), .val (.int sa), .val (.int sr), .val (.ref r), .val (.int b)] [(.int b), (.int (1 : Int32))])) _
          refine XS.ifYes X2.here hx rfl (pc0 := 216) (pc' := 231) rfl (hb hby at_216) rfl ((if0 _ _).trans (teq (hc216 : b = (0 : Int32))).1) (by decide) (by decide) ?_
          show Steps p.tables e below (T2.setTop (mkF m 231 #[.val (.int i0), .val (.int c0), .val (.int a1), .val (.int sa), .val (.int sr), .val (.ref r), .val (.int b)] [(.int (1 : Int32))])) _
          refine XS.iconst X2.here hx rfl (hb hby at_231) ?_
          exact q)
      simp [ha206, hc216] at hP
    · have k6 : ∀ t, Steps p.tables e below (T2.setTop (mkF m 220 #[.val (.int i0), .val (.int c0), .val (.int a1), .val (.int sa), .val (.int sr), .val (.ref r), .val (.int b)] [(.int c0), (.int (1 : Int32))])) t → Steps p.tables e below (T0.setTop (mkF m 201 #[.val (.int i0), .val (.int c0), .val (.int a1), .val (.int sa), .val (.int sr), .val (.ref r), .val (.int b)] [])) t := fun t q => k4 t (by
          show Steps p.tables e below (T2.setTop (mkF m 216 #[.val (.int i0), .val (.int c0), .val (.int a1), .val (.int sa), .val (.int sr), .val (.ref r), .val (.int b)] [(.int b), (.int (1 : Int32))])) _
          refine XS.ifNo X2.here hx rfl (hb hby at_216) rfl ((if0 _ _).trans (feq (hc216 : ¬ (b = (0 : Int32)))).1) ?_
          show Steps p.tables e below (T2.setTop (mkF m 219 #[.val (.int i0), .val (.int c0), .val (.int a1), .val (.int sa), .val (.int sr), .val (.ref r), .val (.int b)] [(.int (1 : Int32))])) _
          refine XS.iloadN X2.here hx rfl (hb hby at_219) rfl ?_
          exact q)
      by_cases hc220 : c0 = (0 : Int32)
      · have k7 : ∀ t, Steps p.tables e below (T2.setTop (mkF m 232 #[.val (.int i0), .val (.int c0), .val (.int a1), .val (.int sa), .val (.int sr), .val (.ref r), .val (.int b)] [(.int (0 : Int32)), (.int (1 : Int32))])) t → Steps p.tables e below (T0.setTop (mkF m 201 #[.val (.int i0), .val (.int c0), .val (.int a1), .val (.int sa), .val (.int sr), .val (.ref r), .val (.int b)] [])) t := fun t q => k6 t (by
            show Steps p.tables e below (T2.setTop (mkF m 220 #[.val (.int i0), .val (.int c0), .val (.int a1), .val (.int sa), .val (.int sr), .val (.ref r), .val (.int b)] [(.int c0), (.int (1 : Int32))])) _
            refine XS.ifYes X2.here hx rfl (pc0 := 220) (pc' := 231) rfl (hb hby at_220) rfl ((if0 _ _).trans (teq (hc220 : c0 = (0 : Int32))).1) (by decide) (by decide) ?_
            show Steps p.tables e below (T2.setTop (mkF m 231 #[.val (.int i0), .val (.int c0), .val (.int a1), .val (.int sa), .val (.int sr), .val (.ref r), .val (.int b)] [(.int (1 : Int32))])) _
            refine XS.iconst X2.here hx rfl (hb hby at_231) ?_
            exact q)
        simp [ha206, hc216, hc220] at hP
      · have k8 : ∀ t, Steps p.tables e below (T2.setTop (mkF m 224 #[.val (.int i0), .val (.int c0), .val (.int a1), .val (.int sa), .val (.int sr), .val (.ref r), .val (.int b)] [(.int a1), (.int (1 : Int32))])) t → Steps p.tables e below (T0.setTop (mkF m 201 #[.val (.int i0), .val (.int c0), .val (.int a1), .val (.int sa), .val (.int sr), .val (.ref r), .val (.int b)] [])) t := fun t q => k6 t (by
            show Steps p.tables e below (T2.setTop (mkF m 220 #[.val (.int i0), .val (.int c0), .val (.int a1), .val (.int sa), .val (.int sr), .val (.ref r), .val (.int b)] [(.int c0), (.int (1 : Int32))])) _
            refine XS.ifNo X2.here hx rfl (hb hby at_220) rfl ((if0 _ _).trans (feq (hc220 : ¬ (c0 = (0 : Int32)))).1) ?_
            show Steps p.tables e below (T2.setTop (mkF m 223 #[.val (.int i0), .val (.int c0), .val (.int a1), .val (.int sa), .val (.int sr), .val (.ref r), .val (.int b)] [(.int (1 : Int32))])) _
            refine XS.iloadN X2.here hx rfl (hb hby at_223) rfl ?_
            exact q)
        by_cases hc224 : a1 = (0 : Int32)
        · have k9 : ∀ t, Steps p.tables e below (T2.setTop (mkF m 232 #[.val (.int i0), .val (.int c0), .val (.int a1), .val (.int sa), .val (.int sr), .val (.ref r), .val (.int b)] [(.int (0 : Int32)), (.int (1 : Int32))])) t → Steps p.tables e below (T0.setTop (mkF m 201 #[.val (.int i0), .val (.int c0), .val (.int a1), .val (.int sa), .val (.int sr), .val (.ref r), .val (.int b)] [])) t := fun t q => k8 t (by
              show Steps p.tables e below (T2.setTop (mkF m 224 #[.val (.int i0), .val (.int c0), .val (.int a1), .val (.int sa), .val (.int sr), .val (.ref r), .val (.int b)] [(.int a1), (.int (1 : Int32))])) _
              refine XS.ifYes X2.here hx rfl (pc0 := 224) (pc' := 231) rfl (hb hby at_224) rfl ((if0 _ _).trans (teq (hc224 : a1 = (0 : Int32))).1) (by decide) (by decide) ?_
              show Steps p.tables e below (T2.setTop (mkF m 231 #[.val (.int i0), .val (.int c0), .val (.int a1), .val (.int sa), .val (.int sr), .val (.ref r), .val (.int b)] [(.int (1 : Int32))])) _
              refine XS.iconst X2.here hx rfl (hb hby at_231) ?_
              exact q)
          simp [ha206, hc216, hc220, hc224] at hP
        · have k10 : ∀ t, Steps p.tables e below (T2.setTop (mkF m 235 #[.val (.int i0), .val (.int c0), .val (.int a1), .val (.int sa), .val (.int sr), .val (.ref r), .val (.int b)] [])) t → Steps p.tables e below (T0.setTop (mkF m 201 #[.val (.int i0), .val (.int c0), .val (.int a1), .val (.int sa), .val (.int sr), .val (.ref r), .val (.int b)] [])) t := fun t q => k8 t (by
              show Steps p.tables e below (T2.setTop (mkF m 224 #[.val (.int i0), .val (.int c0), .val (.int a1), .val (.int sa), .val (.int sr), .val (.ref r), .val (.int b)] [(.int a1), (.int (1 : Int32))])) _
              refine XS.ifNo X2.here hx rfl (hb hby at_224) rfl ((if0 _ _).trans (feq (hc224 : ¬ (a1 = (0 : Int32)))).1) ?_
              show Steps p.tables e below (T2.setTop (mkF m 227 #[.val (.int i0), .val (.int c0), .val (.int a1), .val (.int sa), .val (.int sr), .val (.ref r), .val (.int b)] [(.int (1 : Int32))])) _
              refine XS.iconst X2.here hx rfl (hb hby at_227) ?_
              show Steps p.tables e below (T2.setTop (mkF m 228 #[.val (.int i0), .val (.int c0), .val (.int a1), .val (.int sa), .val (.int sr), .val (.ref r), .val (.int b)] [(.int (1 : Int32)), (.int (1 : Int32))])) _
              refine XS.goto X2.here hx rfl (pc0 := 228) (pc' := 232) rfl (hb hby at_228) (by decide) (by decide) ?_
              show Steps p.tables e below (T2.setTop (mkF m 232 #[.val (.int i0), .val (.int c0), .val (.int a1), .val (.int sa), .val (.int sr), .val (.ref r), .val (.int b)] [(.int (1 : Int32)), (.int (1 : Int32))])) _
              refine XS.icmpNo X2.here hx rfl (hb hby at_232) rfl (teq (by decide : (1 : Int32) = (1 : Int32))).2 ?_
              exact q)
          refine ⟨T2, X2, e2, fun t q => k10 t ?_⟩
          exact q
  · have k11 : ∀ t, Steps p.tables e below (T2.setTop (mkF m 216 #[.val (.int i0), .val (.int c0), .val (.int a1), .val (.int sa), .val (.int sr), .val (.ref r), .val (.int b)] [(.int b), (.int (0 : Int32))])) t → Steps p.tables e below (T0.setTop (mkF m 201 #[.val (.int i0), .val (.int c0), .val (.int a1), .val (.int sa), .val (.int sr), .val (.ref r), .val (.int b)] [])) t := fun t q => k3 t (by
        show Steps p.tables e below (T2.setTop (mkF m 206 #[.val (.int i0), .val (.int c0), .val (.int a1), .val (.int sa), .val (.int sr), .val (.ref r), .val (.int b)] [(.ref wCT), (.ref r)])) _
        refine Jvm.RoadKit.acmp (g := (mkF m 206 #[.val (.int i0), .val (.int c0), .val (.int a1), .val (.int sa), .val (.int sr), .val (.ref r), .val (.int b)] [(.ref wCT), (.ref r)])) X2 hx rfl rfl rfl (pc0 := 206) (pc' := 213) (same := false) rfl (hb hby at_206) rfl (decide_eq_false fun q => (ha206 : ¬ (r = wCT)) (Value.ref.inj q)) (by decide) (by decide) ?_
        show Steps p.tables e below (T2.setTop (mkF m 213 #[.val (.int i0), .val (.int c0), .val (.int a1), .val (.int sa), .val (.int sr), .val (.ref r), .val (.int b)] [])) _
        refine XS.iconst X2.here hx rfl (hb hby at_213) ?_
        show Steps p.tables e below (T2.setTop (mkF m 214 #[.val (.int i0), .val (.int c0), .val (.int a1), .val (.int sa), .val (.int sr), .val (.ref r), .val (.int b)] [(.int (0 : Int32))])) _
        refine XS.iload X2.here hx rfl (hb hby at_214) rfl ?_
        exact q)
    by_cases hc216 : b = (0 : Int32)
    · have k12 : ∀ t, Steps p.tables e below (T2.setTop (mkF m 235 #[.val (.int i0), .val (.int c0), .val (.int a1), .val (.int sa), .val (.int sr), .val (.ref r), .val (.int b)] [])) t → Steps p.tables e below (T0.setTop (mkF m 201 #[.val (.int i0), .val (.int c0), .val (.int a1), .val (.int sa), .val (.int sr), .val (.ref r), .val (.int b)] [])) t := fun t q => k11 t (by
          show Steps p.tables e below (T2.setTop (mkF m 216 #[.val (.int i0), .val (.int c0), .val (.int a1), .val (.int sa), .val (.int sr), .val (.ref r), .val (.int b)] [(.int b), (.int (0 : Int32))])) _
          refine XS.ifYes X2.here hx rfl (pc0 := 216) (pc' := 231) rfl (hb hby at_216) rfl ((if0 _ _).trans (teq (hc216 : b = (0 : Int32))).1) (by decide) (by decide) ?_
          show Steps p.tables e below (T2.setTop (mkF m 231 #[.val (.int i0), .val (.int c0), .val (.int a1), .val (.int sa), .val (.int sr), .val (.ref r), .val (.int b)] [(.int (0 : Int32))])) _
          refine XS.iconst X2.here hx rfl (hb hby at_231) ?_
          show Steps p.tables e below (T2.setTop (mkF m 232 #[.val (.int i0), .val (.int c0), .val (.int a1), .val (.int sa), .val (.int sr), .val (.ref r), .val (.int b)] [(.int (0 : Int32)), (.int (0 : Int32))])) _
          refine XS.icmpNo X2.here hx rfl (hb hby at_232) rfl (teq (by decide : (0 : Int32) = (0 : Int32))).2 ?_
          exact q)
      refine ⟨T2, X2, e2, fun t q => k12 t ?_⟩
      exact q
    · have k13 : ∀ t, Steps p.tables e below (T2.setTop (mkF m 220 #[.val (.int i0), .val (.int c0), .val (.int a1), .val (.int sa), .val (.int sr), .val (.ref r), .val (.int b)] [(.int c0), (.int (0 : Int32))])) t → Steps p.tables e below (T0.setTop (mkF m 201 #[.val (.int i0), .val (.int c0), .val (.int a1), .val (.int sa), .val (.int sr), .val (.ref r), .val (.int b)] [])) t := fun t q => k11 t (by
          show Steps p.tables e below (T2.setTop (mkF m 216 #[.val (.int i0), .val (.int c0), .val (.int a1), .val (.int sa), .val (.int sr), .val (.ref r), .val (.int b)] [(.int b), (.int (0 : Int32))])) _
          refine XS.ifNo X2.here hx rfl (hb hby at_216) rfl ((if0 _ _).trans (feq (hc216 : ¬ (b = (0 : Int32)))).1) ?_
          show Steps p.tables e below (T2.setTop (mkF m 219 #[.val (.int i0), .val (.int c0), .val (.int a1), .val (.int sa), .val (.int sr), .val (.ref r), .val (.int b)] [(.int (0 : Int32))])) _
          refine XS.iloadN X2.here hx rfl (hb hby at_219) rfl ?_
          exact q)
      by_cases hc220 : c0 = (0 : Int32)
      · have k14 : ∀ t, Steps p.tables e below (T2.setTop (mkF m 235 #[.val (.int i0), .val (.int c0), .val (.int a1), .val (.int sa), .val (.int sr), .val (.ref r), .val (.int b)] [])) t → Steps p.tables e below (T0.setTop (mkF m 201 #[.val (.int i0), .val (.int c0), .val (.int a1), .val (.int sa), .val (.int sr), .val (.ref r), .val (.int b)] [])) t := fun t q => k13 t (by
            show Steps p.tables e below (T2.setTop (mkF m 220 #[.val (.int i0), .val (.int c0), .val (.int a1), .val (.int sa), .val (.int sr), .val (.ref r), .val (.int b)] [(.int c0), (.int (0 : Int32))])) _
            refine XS.ifYes X2.here hx rfl (pc0 := 220) (pc' := 231) rfl (hb hby at_220) rfl ((if0 _ _).trans (teq (hc220 : c0 = (0 : Int32))).1) (by decide) (by decide) ?_
            show Steps p.tables e below (T2.setTop (mkF m 231 #[.val (.int i0), .val (.int c0), .val (.int a1), .val (.int sa), .val (.int sr), .val (.ref r), .val (.int b)] [(.int (0 : Int32))])) _
            refine XS.iconst X2.here hx rfl (hb hby at_231) ?_
            show Steps p.tables e below (T2.setTop (mkF m 232 #[.val (.int i0), .val (.int c0), .val (.int a1), .val (.int sa), .val (.int sr), .val (.ref r), .val (.int b)] [(.int (0 : Int32)), (.int (0 : Int32))])) _
            refine XS.icmpNo X2.here hx rfl (hb hby at_232) rfl (teq (by decide : (0 : Int32) = (0 : Int32))).2 ?_
            exact q)
        refine ⟨T2, X2, e2, fun t q => k14 t ?_⟩
        exact q
      · have k15 : ∀ t, Steps p.tables e below (T2.setTop (mkF m 224 #[.val (.int i0), .val (.int c0), .val (.int a1), .val (.int sa), .val (.int sr), .val (.ref r), .val (.int b)] [(.int a1), (.int (0 : Int32))])) t → Steps p.tables e below (T0.setTop (mkF m 201 #[.val (.int i0), .val (.int c0), .val (.int a1), .val (.int sa), .val (.int sr), .val (.ref r), .val (.int b)] [])) t := fun t q => k13 t (by
            show Steps p.tables e below (T2.setTop (mkF m 220 #[.val (.int i0), .val (.int c0), .val (.int a1), .val (.int sa), .val (.int sr), .val (.ref r), .val (.int b)] [(.int c0), (.int (0 : Int32))])) _
            refine XS.ifNo X2.here hx rfl (hb hby at_220) rfl ((if0 _ _).trans (feq (hc220 : ¬ (c0 = (0 : Int32)))).1) ?_
            show Steps p.tables e below (T2.setTop (mkF m 223 #[.val (.int i0), .val (.int c0), .val (.int a1), .val (.int sa), .val (.int sr), .val (.ref r), .val (.int b)] [(.int (0 : Int32))])) _
            refine XS.iloadN X2.here hx rfl (hb hby at_223) rfl ?_
            exact q)
        by_cases hc224 : a1 = (0 : Int32)
        · have k16 : ∀ t, Steps p.tables e below (T2.setTop (mkF m 235 #[.val (.int i0), .val (.int c0), .val (.int a1), .val (.int sa), .val (.int sr), .val (.ref r), .val (.int b)] [])) t → Steps p.tables e below (T0.setTop (mkF m 201 #[.val (.int i0), .val (.int c0), .val (.int a1), .val (.int sa), .val (.int sr), .val (.ref r), .val (.int b)] [])) t := fun t q => k15 t (by
              show Steps p.tables e below (T2.setTop (mkF m 224 #[.val (.int i0), .val (.int c0), .val (.int a1), .val (.int sa), .val (.int sr), .val (.ref r), .val (.int b)] [(.int a1), (.int (0 : Int32))])) _
              refine XS.ifYes X2.here hx rfl (pc0 := 224) (pc' := 231) rfl (hb hby at_224) rfl ((if0 _ _).trans (teq (hc224 : a1 = (0 : Int32))).1) (by decide) (by decide) ?_
              show Steps p.tables e below (T2.setTop (mkF m 231 #[.val (.int i0), .val (.int c0), .val (.int a1), .val (.int sa), .val (.int sr), .val (.ref r), .val (.int b)] [(.int (0 : Int32))])) _
              refine XS.iconst X2.here hx rfl (hb hby at_231) ?_
              show Steps p.tables e below (T2.setTop (mkF m 232 #[.val (.int i0), .val (.int c0), .val (.int a1), .val (.int sa), .val (.int sr), .val (.ref r), .val (.int b)] [(.int (0 : Int32)), (.int (0 : Int32))])) _
              refine XS.icmpNo X2.here hx rfl (hb hby at_232) rfl (teq (by decide : (0 : Int32) = (0 : Int32))).2 ?_
              exact q)
          refine ⟨T2, X2, e2, fun t q => k16 t ?_⟩
          exact q
        · have k17 : ∀ t, Steps p.tables e below (T2.setTop (mkF m 232 #[.val (.int i0), .val (.int c0), .val (.int a1), .val (.int sa), .val (.int sr), .val (.ref r), .val (.int b)] [(.int (1 : Int32)), (.int (0 : Int32))])) t → Steps p.tables e below (T0.setTop (mkF m 201 #[.val (.int i0), .val (.int c0), .val (.int a1), .val (.int sa), .val (.int sr), .val (.ref r), .val (.int b)] [])) t := fun t q => k15 t (by
              show Steps p.tables e below (T2.setTop (mkF m 224 #[.val (.int i0), .val (.int c0), .val (.int a1), .val (.int sa), .val (.int sr), .val (.ref r), .val (.int b)] [(.int a1), (.int (0 : Int32))])) _
              refine XS.ifNo X2.here hx rfl (hb hby at_224) rfl ((if0 _ _).trans (feq (hc224 : ¬ (a1 = (0 : Int32)))).1) ?_
              show Steps p.tables e below (T2.setTop (mkF m 227 #[.val (.int i0), .val (.int c0), .val (.int a1), .val (.int sa), .val (.int sr), .val (.ref r), .val (.int b)] [(.int (0 : Int32))])) _
              refine XS.iconst X2.here hx rfl (hb hby at_227) ?_
              show Steps p.tables e below (T2.setTop (mkF m 228 #[.val (.int i0), .val (.int c0), .val (.int a1), .val (.int sa), .val (.int sr), .val (.ref r), .val (.int b)] [(.int (1 : Int32)), (.int (0 : Int32))])) _
              refine XS.goto X2.here hx rfl (pc0 := 228) (pc' := 232) rfl (hb hby at_228) (by decide) (by decide) ?_
              exact q)
          simp [ha206, hc216, hc220, hc224] at hP
set_option maxRecDepth 65536 in
set_option maxHeartbeats 40000000 in
theorem cm_CURRENTLY_FALSE {p : Program} {l : Launch} {e : Env} {R : Room} {s : State} {m : MethodId} {args : Array Value} {below : List Frame} {meth : Method} {c : Code} {T0 : State} {locs : List Loc} {cells slots : Nat} {Z : State} {a0 : Array Value} {h0 : Heap} (i0 : Int32) (c0 : Int32) (a1 : Int32) (sa : Int32) (sr : Int32) (r : Addr) (b : Int32) (wCF : Addr)
    (X0 : Stand p l e R s m args below meth c T0 locs cells slots) (hx : p.tables.exec = Jvm.exec) (hZ : Z.Warmed39 s.vm) (hw : ∀ d ∈ tables_1, d.before a0 Z = true) (hby : c.code = code) (hml : c.maxLocals = 7) (hown : s.vm.findClass "com/example/clepsydra/clepsydra/VerdictPredictedPinLaw" = some m.cls) (e0 : T0.heap = h0) (S_CURRENTLY_FALSE : Sta Z h0 "com/example/clepsydra/clepsydra/Verdict" "CURRENTLY_FALSE" "Lcom/example/clepsydra/clepsydra/Verdict;" (.ref wCF)) (hP : r = wCF ↔ (¬ b = (0 : Int32) ∧ ¬ c0 = (0 : Int32) ∧ a1 = (0 : Int32))) :
    ∃ (T' : State), Stand p l e R s m args below meth c T' locs cells slots ∧ T'.heap = h0 ∧ ∀ t, Steps p.tables e below (T'.setTop (mkF m 269 #[.val (.int i0), .val (.int c0), .val (.int a1), .val (.int sa), .val (.int sr), .val (.ref r), .val (.int b)] [])) t → Steps p.tables e below (T0.setTop (mkF m 235 #[.val (.int i0), .val (.int c0), .val (.int a1), .val (.int sa), .val (.int sr), .val (.ref r), .val (.int b)] [])) t := by
  have k0 : ∀ t, Steps p.tables e below (T0.setTop (mkF m 235 #[.val (.int i0), .val (.int c0), .val (.int a1), .val (.int sa), .val (.int sr), .val (.ref r), .val (.int b)] [])) t → Steps p.tables e below (T0.setTop (mkF m 235 #[.val (.int i0), .val (.int c0), .val (.int a1), .val (.int sa), .val (.int sr), .val (.ref r), .val (.int b)] [])) t := fun _ q => q
  have k1 : ∀ t, Steps p.tables e below (T0.setTop (mkF m 237 #[.val (.int i0), .val (.int c0), .val (.int a1), .val (.int sa), .val (.int sr), .val (.ref r), .val (.int b)] [(.ref r)])) t → Steps p.tables e below (T0.setTop (mkF m 235 #[.val (.int i0), .val (.int c0), .val (.int a1), .val (.int sa), .val (.int sr), .val (.ref r), .val (.int b)] [])) t := fun t q => k0 t (by
      show Steps p.tables e below (T0.setTop (mkF m 235 #[.val (.int i0), .val (.int c0), .val (.int a1), .val (.int sa), .val (.int sr), .val (.ref r), .val (.int b)] [])) _
      refine XS.aload X0.here hx rfl (hb hby at_235) rfl rfl ?_
      exact q)
  obtain ⟨T2, X2, e2, st2⟩ := getS2 X0 hx hZ hown (host := "") (Or.inl (hw _ (List.mem_of_getElem? (i := 15) rfl))) Via.refl e0 (S_CURRENTLY_FALSE) (g := (mkF m 237 #[.val (.int i0), .val (.int c0), .val (.int a1), .val (.int sa), .val (.int sr), .val (.ref r), .val (.int b)] [(.ref r)])) rfl (hb hby at_237)
  have k3 : ∀ t, Steps p.tables e below (T2.setTop (mkF m 240 #[.val (.int i0), .val (.int c0), .val (.int a1), .val (.int sa), .val (.int sr), .val (.ref r), .val (.int b)] [(.ref wCF), (.ref r)])) t → Steps p.tables e below (T0.setTop (mkF m 235 #[.val (.int i0), .val (.int c0), .val (.int a1), .val (.int sa), .val (.int sr), .val (.ref r), .val (.int b)] [])) t := fun t q => k1 t (st2 t q)
  by_cases ha240 : r = wCF
  · have k4 : ∀ t, Steps p.tables e below (T2.setTop (mkF m 250 #[.val (.int i0), .val (.int c0), .val (.int a1), .val (.int sa), .val (.int sr), .val (.ref r), .val (.int b)] [(.int b), (.int (1 : Int32))])) t → Steps p.tables e below (T0.setTop (mkF m 235 #[.val (.int i0), .val (.int c0), .val (.int a1), .val (.int sa), .val (.int sr), .val (.ref r), .val (.int b)] [])) t := fun t q => k3 t (by
        show Steps p.tables e below (T2.setTop (mkF m 240 #[.val (.int i0), .val (.int c0), .val (.int a1), .val (.int sa), .val (.int sr), .val (.ref r), .val (.int b)] [(.ref wCF), (.ref r)])) _
        refine Jvm.RoadKit.acmp (g := (mkF m 240 #[.val (.int i0), .val (.int c0), .val (.int a1), .val (.int sa), .val (.int sr), .val (.ref r), .val (.int b)] [(.ref wCF), (.ref r)])) X2 hx rfl rfl rfl (pc0 := 240) (pc' := 243) (same := true) rfl (hb hby at_240) rfl (decide_eq_true (congrArg Value.ref (ha240 : r = wCF))) (by decide) (by decide) ?_
        show Steps p.tables e below (T2.setTop (mkF m 243 #[.val (.int i0), .val (.int c0), .val (.int a1), .val (.int sa), .val (.int sr), .val (.ref r), .val (.int b)] [])) _
        refine XS.iconst X2.here hx rfl (hb hby at_243) ?_
        show Steps p.tables e below (T2.setTop (mkF m 244 #[.val (.int i0), .val (.int c0), .val (.int a1), .val (.int sa), .val (.int sr), .val (.ref r), .val (.int b)] [(.int (1 : Int32))])) _
        refine XS.goto X2.here hx rfl (pc0 := 244) (pc' := 248) rfl (hb hby at_244) (by decide) (by decide) ?_
        show Steps p.tables e below (T2.setTop (mkF m 248 #[.val (.int i0), .val (.int c0), .val (.int a1), .val (.int sa), .val (.int sr), .val (.ref r), .val (.int b)] [(.int (1 : Int32))])) _
        refine XS.iload X2.here hx rfl (hb hby at_248) rfl ?_
        exact q)
    by_cases hc250 : b = (0 : Int32)
    · have k5 : ∀ t, Steps p.tables e below (T2.setTop (mkF m 266 #[.val (.int i0), .val (.int c0), .val (.int a1), .val (.int sa), .val (.int sr), .val (.ref r), .val (.int b)] [(.int (0 : Int32)), (.int (1 : Int32))])) t → Steps p.tables e below (T0.setTop (mkF m 235 #[.val (.int i0), .val (.int c0), .val (.int a1), .val (.int sa), .val (.int sr), .val (.ref r), .val (.int b)] [])) t := fun t q => k4 t (by
          show Steps p.tables e below (T2.setTop (mkF m 250 #[.val (.int i0), .val (.int c0), .val (.int a1), .val (.int sa), .val (.int sr), .val (.ref r), .val (.int b)] [(.int b), (.int (1 : Int32))])) _
          refine XS.ifYes X2.here hx rfl (pc0 := 250) (pc' := 265) rfl (hb hby at_250) rfl ((if0 _ _).trans (teq (hc250 : b = (0 : Int32))).1) (by decide) (by decide) ?_
          show Steps p.tables e below (T2.setTop (mkF m 265 #[.val (.int i0), .val (.int c0), .val (.int a1), .val (.int sa), .val (.int sr), .val (.ref r), .val (.int b)] [(.int (1 : Int32))])) _
          refine XS.iconst X2.here hx rfl (hb hby at_265) ?_
          exact q)
      simp [ha240, hc250] at hP
    · have k6 : ∀ t, Steps p.tables e below (T2.setTop (mkF m 254 #[.val (.int i0), .val (.int c0), .val (.int a1), .val (.int sa), .val (.int sr), .val (.ref r), .val (.int b)] [(.int c0), (.int (1 : Int32))])) t → Steps p.tables e below (T0.setTop (mkF m 235 #[.val (.int i0), .val (.int c0), .val (.int a1), .val (.int sa), .val (.int sr), .val (.ref r), .val (.int b)] [])) t := fun t q => k4 t (by
          show Steps p.tables e below (T2.setTop (mkF m 250 #[.val (.int i0), .val (.int c0), .val (.int a1), .val (.int sa), .val (.int sr), .val (.ref r), .val (.int b)] [(.int b), (.int (1 : Int32))])) _
          refine XS.ifNo X2.here hx rfl (hb hby at_250) rfl ((if0 _ _).trans (feq (hc250 : ¬ (b = (0 : Int32)))).1) ?_
          show Steps p.tables e below (T2.setTop (mkF m 253 #[.val (.int i0), .val (.int c0), .val (.int a1), .val (.int sa), .val (.int sr), .val (.ref r), .val (.int b)] [(.int (1 : Int32))])) _
          refine XS.iloadN X2.here hx rfl (hb hby at_253) rfl ?_
          exact q)
      by_cases hc254 : c0 = (0 : Int32)
      · have k7 : ∀ t, Steps p.tables e below (T2.setTop (mkF m 266 #[.val (.int i0), .val (.int c0), .val (.int a1), .val (.int sa), .val (.int sr), .val (.ref r), .val (.int b)] [(.int (0 : Int32)), (.int (1 : Int32))])) t → Steps p.tables e below (T0.setTop (mkF m 235 #[.val (.int i0), .val (.int c0), .val (.int a1), .val (.int sa), .val (.int sr), .val (.ref r), .val (.int b)] [])) t := fun t q => k6 t (by
            show Steps p.tables e below (T2.setTop (mkF m 254 #[.val (.int i0), .val (.int c0), .val (.int a1), .val (.int sa), .val (.int sr), .val (.ref r), .val (.int b)] [(.int c0), (.int (1 : Int32))])) _
            refine XS.ifYes X2.here hx rfl (pc0 := 254) (pc' := 265) rfl (hb hby at_254) rfl ((if0 _ _).trans (teq (hc254 : c0 = (0 : Int32))).1) (by decide) (by decide) ?_
            show Steps p.tables e below (T2.setTop (mkF m 265 #[.val (.int i0), .val (.int c0), .val (.int a1), .val (.int sa), .val (.int sr), .val (.ref r), .val (.int b)] [(.int (1 : Int32))])) _
            refine XS.iconst X2.here hx rfl (hb hby at_265) ?_
            exact q)
        simp [ha240, hc250, hc254] at hP
      · have k8 : ∀ t, Steps p.tables e below (T2.setTop (mkF m 258 #[.val (.int i0), .val (.int c0), .val (.int a1), .val (.int sa), .val (.int sr), .val (.ref r), .val (.int b)] [(.int a1), (.int (1 : Int32))])) t → Steps p.tables e below (T0.setTop (mkF m 235 #[.val (.int i0), .val (.int c0), .val (.int a1), .val (.int sa), .val (.int sr), .val (.ref r), .val (.int b)] [])) t := fun t q => k6 t (by
            show Steps p.tables e below (T2.setTop (mkF m 254 #[.val (.int i0), .val (.int c0), .val (.int a1), .val (.int sa), .val (.int sr), .val (.ref r), .val (.int b)] [(.int c0), (.int (1 : Int32))])) _
            refine XS.ifNo X2.here hx rfl (hb hby at_254) rfl ((if0 _ _).trans (feq (hc254 : ¬ (c0 = (0 : Int32)))).1) ?_
            show Steps p.tables e below (T2.setTop (mkF m 257 #[.val (.int i0), .val (.int c0), .val (.int a1), .val (.int sa), .val (.int sr), .val (.ref r), .val (.int b)] [(.int (1 : Int32))])) _
            refine XS.iloadN X2.here hx rfl (hb hby at_257) rfl ?_
            exact q)
        by_cases hc258 : a1 = (0 : Int32)
        · have k9 : ∀ t, Steps p.tables e below (T2.setTop (mkF m 269 #[.val (.int i0), .val (.int c0), .val (.int a1), .val (.int sa), .val (.int sr), .val (.ref r), .val (.int b)] [])) t → Steps p.tables e below (T0.setTop (mkF m 235 #[.val (.int i0), .val (.int c0), .val (.int a1), .val (.int sa), .val (.int sr), .val (.ref r), .val (.int b)] [])) t := fun t q => k8 t (by
              show Steps p.tables e below (T2.setTop (mkF m 258 #[.val (.int i0), .val (.int c0), .val (.int a1), .val (.int sa), .val (.int sr), .val (.ref r), .val (.int b)] [(.int a1), (.int (1 : Int32))])) _
              refine XS.ifNo X2.here hx rfl (hb hby at_258) rfl ((if0 _ _).trans (teq (hc258 : a1 = (0 : Int32))).2) ?_
              show Steps p.tables e below (T2.setTop (mkF m 261 #[.val (.int i0), .val (.int c0), .val (.int a1), .val (.int sa), .val (.int sr), .val (.ref r), .val (.int b)] [(.int (1 : Int32))])) _
              refine XS.iconst X2.here hx rfl (hb hby at_261) ?_
              show Steps p.tables e below (T2.setTop (mkF m 262 #[.val (.int i0), .val (.int c0), .val (.int a1), .val (.int sa), .val (.int sr), .val (.ref r), .val (.int b)] [(.int (1 : Int32)), (.int (1 : Int32))])) _
              refine XS.goto X2.here hx rfl (pc0 := 262) (pc' := 266) rfl (hb hby at_262) (by decide) (by decide) ?_
              show Steps p.tables e below (T2.setTop (mkF m 266 #[.val (.int i0), .val (.int c0), .val (.int a1), .val (.int sa), .val (.int sr), .val (.ref r), .val (.int b)] [(.int (1 : Int32)), (.int (1 : Int32))])) _
              refine XS.icmpNo X2.here hx rfl (hb hby at_266) rfl (teq (by decide : (1 : Int32) = (1 : Int32))).2 ?_
              exact q)
          refine ⟨T2, X2, e2, fun t q => k9 t ?_⟩
          exact q
        · have k10 : ∀ t, Steps p.tables e below (T2.setTop (mkF m 266 #[.val (.int i0), .val (.int c0), .val (.int a1), .val (.int sa), .val (.int sr), .val (.ref r), .val (.int b)] [(.int (0 : Int32)), (.int (1 : Int32))])) t → Steps p.tables e below (T0.setTop (mkF m 235 #[.val (.int i0), .val (.int c0), .val (.int a1), .val (.int sa), .val (.int sr), .val (.ref r), .val (.int b)] [])) t := fun t q => k8 t (by
              show Steps p.tables e below (T2.setTop (mkF m 258 #[.val (.int i0), .val (.int c0), .val (.int a1), .val (.int sa), .val (.int sr), .val (.ref r), .val (.int b)] [(.int a1), (.int (1 : Int32))])) _
              refine XS.ifYes X2.here hx rfl (pc0 := 258) (pc' := 265) rfl (hb hby at_258) rfl ((if0 _ _).trans (feq (hc258 : ¬ (a1 = (0 : Int32)))).2) (by decide) (by decide) ?_
              show Steps p.tables e below (T2.setTop (mkF m 265 #[.val (.int i0), .val (.int c0), .val (.int a1), .val (.int sa), .val (.int sr), .val (.ref r), .val (.int b)] [(.int (1 : Int32))])) _
              refine XS.iconst X2.here hx rfl (hb hby at_265) ?_
              exact q)
          simp [ha240, hc250, hc254, hc258] at hP
  · have k11 : ∀ t, Steps p.tables e below (T2.setTop (mkF m 250 #[.val (.int i0), .val (.int c0), .val (.int a1), .val (.int sa), .val (.int sr), .val (.ref r), .val (.int b)] [(.int b), (.int (0 : Int32))])) t → Steps p.tables e below (T0.setTop (mkF m 235 #[.val (.int i0), .val (.int c0), .val (.int a1), .val (.int sa), .val (.int sr), .val (.ref r), .val (.int b)] [])) t := fun t q => k3 t (by
        show Steps p.tables e below (T2.setTop (mkF m 240 #[.val (.int i0), .val (.int c0), .val (.int a1), .val (.int sa), .val (.int sr), .val (.ref r), .val (.int b)] [(.ref wCF), (.ref r)])) _
        refine Jvm.RoadKit.acmp (g := (mkF m 240 #[.val (.int i0), .val (.int c0), .val (.int a1), .val (.int sa), .val (.int sr), .val (.ref r), .val (.int b)] [(.ref wCF), (.ref r)])) X2 hx rfl rfl rfl (pc0 := 240) (pc' := 247) (same := false) rfl (hb hby at_240) rfl (decide_eq_false fun q => (ha240 : ¬ (r = wCF)) (Value.ref.inj q)) (by decide) (by decide) ?_
        show Steps p.tables e below (T2.setTop (mkF m 247 #[.val (.int i0), .val (.int c0), .val (.int a1), .val (.int sa), .val (.int sr), .val (.ref r), .val (.int b)] [])) _
        refine XS.iconst X2.here hx rfl (hb hby at_247) ?_
        show Steps p.tables e below (T2.setTop (mkF m 248 #[.val (.int i0), .val (.int c0), .val (.int a1), .val (.int sa), .val (.int sr), .val (.ref r), .val (.int b)] [(.int (0 : Int32))])) _
        refine XS.iload X2.here hx rfl (hb hby at_248) rfl ?_
        exact q)
    by_cases hc250 : b = (0 : Int32)
    · have k12 : ∀ t, Steps p.tables e below (T2.setTop (mkF m 269 #[.val (.int i0), .val (.int c0), .val (.int a1), .val (.int sa), .val (.int sr), .val (.ref r), .val (.int b)] [])) t → Steps p.tables e below (T0.setTop (mkF m 235 #[.val (.int i0), .val (.int c0), .val (.int a1), .val (.int sa), .val (.int sr), .val (.ref r), .val (.int b)] [])) t := fun t q => k11 t (by
          show Steps p.tables e below (T2.setTop (mkF m 250 #[.val (.int i0), .val (.int c0), .val (.int a1), .val (.int sa), .val (.int sr), .val (.ref r), .val (.int b)] [(.int b), (.int (0 : Int32))])) _
          refine XS.ifYes X2.here hx rfl (pc0 := 250) (pc' := 265) rfl (hb hby at_250) rfl ((if0 _ _).trans (teq (hc250 : b = (0 : Int32))).1) (by decide) (by decide) ?_
          show Steps p.tables e below (T2.setTop (mkF m 265 #[.val (.int i0), .val (.int c0), .val (.int a1), .val (.int sa), .val (.int sr), .val (.ref r), .val (.int b)] [(.int (0 : Int32))])) _
          refine XS.iconst X2.here hx rfl (hb hby at_265) ?_
          show Steps p.tables e below (T2.setTop (mkF m 266 #[.val (.int i0), .val (.int c0), .val (.int a1), .val (.int sa), .val (.int sr), .val (.ref r), .val (.int b)] [(.int (0 : Int32)), (.int (0 : Int32))])) _
          refine XS.icmpNo X2.here hx rfl (hb hby at_266) rfl (teq (by decide : (0 : Int32) = (0 : Int32))).2 ?_
          exact q)
      refine ⟨T2, X2, e2, fun t q => k12 t ?_⟩
      exact q
    · have k13 : ∀ t, Steps p.tables e below (T2.setTop (mkF m 254 #[.val (.int i0), .val (.int c0), .val (.int a1), .val (.int sa), .val (.int sr), .val (.ref r), .val (.int b)] [(.int c0), (.int (0 : Int32))])) t → Steps p.tables e below (T0.setTop (mkF m 235 #[.val (.int i0), .val (.int c0), .val (.int a1), .val (.int sa), .val (.int sr), .val (.ref r), .val (.int b)] [])) t := fun t q => k11 t (by
          show Steps p.tables e below (T2.setTop (mkF m 250 #[.val (.int i0), .val (.int c0), .val (.int a1), .val (.int sa), .val (.int sr), .val (.ref r), .val (.int b)] [(.int b), (.int (0 : Int32))])) _
          refine XS.ifNo X2.here hx rfl (hb hby at_250) rfl ((if0 _ _).trans (feq (hc250 : ¬ (b = (0 : Int32)))).1) ?_
          show Steps p.tables e below (T2.setTop (mkF m 253 #[.val (.int i0), .val (.int c0), .val (.int a1), .val (.int sa), .val (.int sr), .val (.ref r), .val (.int b)] [(.int (0 : Int32))])) _
          refine XS.iloadN X2.here hx rfl (hb hby at_253) rfl ?_
          exact q)
      by_cases hc254 : c0 = (0 : Int32)
      · have k14 : ∀ t, Steps p.tables e below (T2.setTop (mkF m 269 #[.val (.int i0), .val (.int c0), .val (.int a1), .val (.int sa), .val (.int sr), .val (.ref r), .val (.int b)] [])) t → Steps p.tables e below (T0.setTop (mkF m 235 #[.val (.int i0), .val (.int c0), .val (.int a1), .val (.int sa), .val (.int sr), .val (.ref r), .val (.int b)] [])) t := fun t q => k13 t (by
            show Steps p.tables e below (T2.setTop (mkF m 254 #[.val (.int i0), .val (.int c0), .val (.int a1), .val (.int sa), .val (.int sr), .val (.ref r), .val (.int b)] [(.int c0), (.int (0 : Int32))])) _
            refine XS.ifYes X2.here hx rfl (pc0 := 254) (pc' := 265) rfl (hb hby at_254) rfl ((if0 _ _).trans (teq (hc254 : c0 = (0 : Int32))).1) (by decide) (by decide) ?_
            show Steps p.tables e below (T2.setTop (mkF m 265 #[.val (.int i0), .val (.int c0), .val (.int a1), .val (.int sa), .val (.int sr), .val (.ref r), .val (.int b)] [(.int (0 : Int32))])) _
            refine XS.iconst X2.here hx rfl (hb hby at_265) ?_
            show Steps p.tables e below (T2.setTop (mkF m 266 #[.val (.int i0), .val (.int c0), .val (.int a1), .val (.int sa), .val (.int sr), .val (.ref r), .val (.int b)] [(.int (0 : Int32)), (.int (0 : Int32))])) _
            refine XS.icmpNo X2.here hx rfl (hb hby at_266) rfl (teq (by decide : (0 : Int32) = (0 : Int32))).2 ?_
            exact q)
        refine ⟨T2, X2, e2, fun t q => k14 t ?_⟩
        exact q
      · have k15 : ∀ t, Steps p.tables e below (T2.setTop (mkF m 258 #[.val (.int i0), .val (.int c0), .val (.int a1), .val (.int sa), .val (.int sr), .val (.ref r), .val (.int b)] [(.int a1), (.int (0 : Int32))])) t → Steps p.tables e below (T0.setTop (mkF m 235 #[.val (.int i0), .val (.int c0), .val (.int a1), .val (.int sa), .val (.int sr), .val (.ref r), .val (.int b)] [])) t := fun t q => k13 t (by
            show Steps p.tables e below (T2.setTop (mkF m 254 #[.val (.int i0), .val (.int c0), .val (.int a1), .val (.int sa), .val (.int sr), .val (.ref r), .val (.int b)] [(.int c0), (.int (0 : Int32))])) _
            refine XS.ifNo X2.here hx rfl (hb hby at_254) rfl ((if0 _ _).trans (feq (hc254 : ¬ (c0 = (0 : Int32)))).1) ?_
            show Steps p.tables e below (T2.setTop (mkF m 257 #[.val (.int i0), .val (.int c0), .val (.int a1), .val (.int sa), .val (.int sr), .val (.ref r), .val (.int b)] [(.int (0 : Int32))])) _
            refine XS.iloadN X2.here hx rfl (hb hby at_257) rfl ?_
            exact q)
        by_cases hc258 : a1 = (0 : Int32)
        · have k16 : ∀ t, Steps p.tables e below (T2.setTop (mkF m 266 #[.val (.int i0), .val (.int c0), .val (.int a1), .val (.int sa), .val (.int sr), .val (.ref r), .val (.int b)] [(.int (1 : Int32)), (.int (0 : Int32))])) t → Steps p.tables e below (T0.setTop (mkF m 235 #[.val (.int i0), .val (.int c0), .val (.int a1), .val (.int sa), .val (.int sr), .val (.ref r), .val (.int b)] [])) t := fun t q => k15 t (by
              show Steps p.tables e below (T2.setTop (mkF m 258 #[.val (.int i0), .val (.int c0), .val (.int a1), .val (.int sa), .val (.int sr), .val (.ref r), .val (.int b)] [(.int a1), (.int (0 : Int32))])) _
              refine XS.ifNo X2.here hx rfl (hb hby at_258) rfl ((if0 _ _).trans (teq (hc258 : a1 = (0 : Int32))).2) ?_
              show Steps p.tables e below (T2.setTop (mkF m 261 #[.val (.int i0), .val (.int c0), .val (.int a1), .val (.int sa), .val (.int sr), .val (.ref r), .val (.int b)] [(.int (0 : Int32))])) _
              refine XS.iconst X2.here hx rfl (hb hby at_261) ?_
              show Steps p.tables e below (T2.setTop (mkF m 262 #[.val (.int i0), .val (.int c0), .val (.int a1), .val (.int sa), .val (.int sr), .val (.ref r), .val (.int b)] [(.int (1 : Int32)), (.int (0 : Int32))])) _
              refine XS.goto X2.here hx rfl (pc0 := 262) (pc' := 266) rfl (hb hby at_262) (by decide) (by decide) ?_
              exact q)
          simp [ha240, hc250, hc254, hc258] at hP
        · have k17 : ∀ t, Steps p.tables e below (T2.setTop (mkF m 269 #[.val (.int i0), .val (.int c0), .val (.int a1), .val (.int sa), .val (.int sr), .val (.ref r), .val (.int b)] [])) t → Steps p.tables e below (T0.setTop (mkF m 235 #[.val (.int i0), .val (.int c0), .val (.int a1), .val (.int sa), .val (.int sr), .val (.ref r), .val (.int b)] [])) t := fun t q => k15 t (by
              show Steps p.tables e below (T2.setTop (mkF m 258 #[.val (.int i0), .val (.int c0), .val (.int a1), .val (.int sa), .val (.int sr), .val (.ref r), .val (.int b)] [(.int a1), (.int (0 : Int32))])) _
              refine XS.ifYes X2.here hx rfl (pc0 := 258) (pc' := 265) rfl (hb hby at_258) rfl ((if0 _ _).trans (feq (hc258 : ¬ (a1 = (0 : Int32)))).2) (by decide) (by decide) ?_
              show Steps p.tables e below (T2.setTop (mkF m 265 #[.val (.int i0), .val (.int c0), .val (.int a1), .val (.int sa), .val (.int sr), .val (.ref r), .val (.int b)] [(.int (0 : Int32))])) _
              refine XS.iconst X2.here hx rfl (hb hby at_265) ?_
              show Steps p.tables e below (T2.setTop (mkF m 266 #[.val (.int i0), .val (.int c0), .val (.int a1), .val (.int sa), .val (.int sr), .val (.ref r), .val (.int b)] [(.int (0 : Int32)), (.int (0 : Int32))])) _
              refine XS.icmpNo X2.here hx rfl (hb hby at_266) rfl (teq (by decide : (0 : Int32) = (0 : Int32))).2 ?_
              exact q)
          refine ⟨T2, X2, e2, fun t q => k17 t ?_⟩
          exact q
theorem ef_L (m : MethodId) (x0 : Int32) : entryFrame m #[(.int x0)] maxLocals = mkF m 0 #[.val (.int x0), .unset, .unset, .unset, .unset, .unset, .unset] [] := by first | (simp [entryFrame, mkF, argsToLocals, Value.category, maxLocals]; done) | rfl
theorem pn_com_example_clepsydra_clepsydra_VerdictPredictedPinLaw : plainName "com/example/clepsydra/clepsydra/VerdictPredictedPinLaw" = true := by first | (simp [plainName, overriddenIn]; done) | decide +kernel
theorem pd__ZZZZ_Lcom_example_clepsydra_clepsydra_Verdict_ : parseMethodDescriptor "(ZZZZ)Lcom/example/clepsydra/clepsydra/Verdict;" = some ⟨[.boolean, .boolean, .boolean, .boolean], some (.object "com/example/clepsydra/clepsydra/Verdict")⟩ := by decide +kernel
def QL (Z : State) (i0 : Int32) (c0 : Int32) (a1 : Int32) (sa : Int32) (sr : Int32) (r : Addr) (b : Int32) (wO : Addr) (wT : Addr) (wF : Addr) (wU : Addr) (wCT : Addr) (wCF : Addr) (h0 : Heap) (n0 : Nat) (v : Option Value) (h : Heap) (L : List Loc) : Prop := v = some (.int (1 : Int32)) ∧ Fr n0 L
set_option maxRecDepth 65536 in
set_option maxHeartbeats 40000000 in
theorem rmL (l : Launch) (Z : State) (a0 : Array Value) (hw : ∀ d ∈ tables_1, d.before a0 Z = true) (ws : List Jvm.Cond) (i0 : Int32) (c0 : Int32) (a1 : Int32) (sa : Int32) (sr : Int32) (r : Addr) (b : Int32) (wO : Addr) (wT : Addr) (wF : Addr) (wU : Addr) (wCT : Addr) (wCF : Addr) (h0 : Heap) (n0 : Nat) (Z0 : n0 ≤ h0.size) (S_OUTSIDE : Sta Z h0 "com/example/clepsydra/clepsydra/Verdict" "OUTSIDE" "Lcom/example/clepsydra/clepsydra/Verdict;" (.ref wO)) (S_TRUE : Sta Z h0 "com/example/clepsydra/clepsydra/Verdict" "TRUE" "Lcom/example/clepsydra/clepsydra/Verdict;" (.ref wT)) (S_FALSE : Sta Z h0 "com/example/clepsydra/clepsydra/Verdict" "FALSE" "Lcom/example/clepsydra/clepsydra/Verdict;" (.ref wF)) (S_UNDECIDED : Sta Z h0 "com/example/clepsydra/clepsydra/Verdict" "UNDECIDED" "Lcom/example/clepsydra/clepsydra/Verdict;" (.ref wU)) (S_CURRENTLY_TRUE : Sta Z h0 "com/example/clepsydra/clepsydra/Verdict" "CURRENTLY_TRUE" "Lcom/example/clepsydra/clepsydra/Verdict;" (.ref wCT)) (S_CURRENTLY_FALSE : Sta Z h0 "com/example/clepsydra/clepsydra/Verdict" "CURRENTLY_FALSE" "Lcom/example/clepsydra/clepsydra/Verdict;" (.ref wCF)) (h1 : (if (i0 &&& (1 : Int32)) = (0 : Int32) then (0 : Int32) else 1) = c0) (h2 : (if (i0 &&& (2 : Int32)) = (0 : Int32) then (0 : Int32) else 1) = a1) (h3 : (if (i0 &&& (4 : Int32)) = (0 : Int32) then (0 : Int32) else 1) = sa) (h4 : (if (i0 &&& (8 : Int32)) = (0 : Int32) then (0 : Int32) else 1) = sr) (h5 : (if sa = (0 : Int32) then (0 : Int32) else if sr = (0 : Int32) then 0 else 1) = b) (hr0 : (if sa = (0 : Int32) then (if sr = (0 : Int32) then wO else wF) else (if sr = (0 : Int32) then wT else if c0 = (0 : Int32) then wU else if a1 = (0 : Int32) then wCF else wCT)) = r) (hP_OUTSIDE : r = wO ↔ (sa = (0 : Int32) ∧ sr = (0 : Int32))) (hP_TRUE : r = wT ↔ (¬ sa = (0 : Int32) ∧ sr = (0 : Int32))) (hP_FALSE : r = wF ↔ (sa = (0 : Int32) ∧ ¬ sr = (0 : Int32))) (hP_UNDECIDED : r = wU ↔ (¬ b = (0 : Int32) ∧ c0 = (0 : Int32))) (hP_CURRENTLY_TRUE : r = wCT ↔ (¬ b = (0 : Int32) ∧ ¬ c0 = (0 : Int32) ∧ ¬ a1 = (0 : Int32))) (hP_CURRENTLY_FALSE : r = wCF ↔ (¬ b = (0 : Int32) ∧ ¬ c0 = (0 : Int32) ∧ a1 = (0 : Int32))) :
    MetFree l x (head1 (Jvm.Cond.code x code maxLocals ret :: ws) room_1) (fun a U => a = #[(.int i0)] ∧ Z.Warmed39 U.vm ∧ U.heap = h0) (fun _ _ _ _ _ => True) (fun _ U o U' => ∃ v L, o = .returned v ∧ QL Z i0 c0 a1 sa sr r b wO wT wF wU wCT wCF h0 n0 v U'.heap L ∧ FrameEnd U o U' L room_1.cells room_1.slots) := by
  refine MetFree.of_bodySF (plainFor_of_name pn_com_example_clepsydra_clepsydra_VerdictPredictedPinLaw) hisR ?_
  intro p e s m args below meth c s₁ Bd hml0 hP hK
  obtain ⟨rfl, hZ, hh⟩ := hP
  have hx := Bd.exec
  have hby := Bd.bytes
  have hml : c.maxLocals = 7 := hml0
  have hown : s.vm.findClass "com/example/clepsydra/clepsydra/VerdictPredictedPinLaw" = some m.cls := findClass_of_methodNamed Bd.named
  have hnm := (name_of_methodNamed Bd.named Bd.method).1
  have X0 : Stand p l e room_1 s m #[(.int i0)] below meth c s₁ [] 0 0 := Stand.of_body Bd
  have e0 : s₁.heap = h0 := by rw [← hh, Bd.state]; rfl
  have N0 := Fr.nil n0
  have k0 : ∀ t, Steps p.tables e below (s₁.setTop (mkF m 0 #[.val (.int i0), .unset, .unset, .unset, .unset, .unset, .unset] [])) t → Steps p.tables e below (s₁.setTop (entryFrame m #[(.int i0)] maxLocals)) t := fun t k => castTop (ef_L m i0) k
  obtain ⟨T1, X1, e1, st1⟩ := sg1 i0 c0 X0 hx hZ hw hby hml hown e0 h1
  have k2 : ∀ t, Steps p.tables e below (T1.setTop (mkF m 12 #[.val (.int i0), .val (.int c0), .unset, .unset, .unset, .unset, .unset] [])) t → Steps p.tables e below (s₁.setTop (entryFrame m #[(.int i0)] maxLocals)) t := fun t q => k0 t (st1 t q)
  obtain ⟨T3, X3, e3, st3⟩ := sg2 i0 c0 a1 X1 hx hZ hw hby hml hown e1 h2
  have k4 : ∀ t, Steps p.tables e below (T3.setTop (mkF m 24 #[.val (.int i0), .val (.int c0), .val (.int a1), .unset, .unset, .unset, .unset] [])) t → Steps p.tables e below (s₁.setTop (entryFrame m #[(.int i0)] maxLocals)) t := fun t q => k2 t (st3 t q)
  obtain ⟨T5, X5, e5, st5⟩ := sg3 i0 c0 a1 sa X3 hx hZ hw hby hml hown e3 h3
  have k6 : ∀ t, Steps p.tables e below (T5.setTop (mkF m 36 #[.val (.int i0), .val (.int c0), .val (.int a1), .val (.int sa), .unset, .unset, .unset] [])) t → Steps p.tables e below (s₁.setTop (entryFrame m #[(.int i0)] maxLocals)) t := fun t q => k4 t (st5 t q)
  obtain ⟨T7, X7, e7, st7⟩ := sg4 i0 c0 a1 sa sr X5 hx hZ hw hby hml hown e5 h4
  have k8 : ∀ t, Steps p.tables e below (T7.setTop (mkF m 50 #[.val (.int i0), .val (.int c0), .val (.int a1), .val (.int sa), .val (.int sr), .unset, .unset] [])) t → Steps p.tables e below (s₁.setTop (entryFrame m #[(.int i0)] maxLocals)) t := fun t q => k6 t (st7 t q)
  have k9 : ∀ t, Steps p.tables e below (T7.setTop (mkF m 55 #[.val (.int i0), .val (.int c0), .val (.int a1), .val (.int sa), .val (.int sr), .unset, .unset] [(.int sr), (.int sa), (.int a1), (.int c0)])) t → Steps p.tables e below (s₁.setTop (entryFrame m #[(.int i0)] maxLocals)) t := fun t q => k8 t (by
      show Steps p.tables e below (T7.setTop (mkF m 50 #[.val (.int i0), .val (.int c0), .val (.int a1), .val (.int sa), .val (.int sr), .unset, .unset] [])) _
      refine XS.iloadN X7.here hx rfl (hb hby at_50) rfl ?_
      show Steps p.tables e below (T7.setTop (mkF m 51 #[.val (.int i0), .val (.int c0), .val (.int a1), .val (.int sa), .val (.int sr), .unset, .unset] [(.int c0)])) _
      refine XS.iloadN X7.here hx rfl (hb hby at_51) rfl ?_
      show Steps p.tables e below (T7.setTop (mkF m 52 #[.val (.int i0), .val (.int c0), .val (.int a1), .val (.int sa), .val (.int sr), .unset, .unset] [(.int a1), (.int c0)])) _
      refine XS.iloadN X7.here hx rfl (hb hby at_52) rfl ?_
      show Steps p.tables e below (T7.setTop (mkF m 53 #[.val (.int i0), .val (.int c0), .val (.int a1), .val (.int sa), .val (.int sr), .unset, .unset] [(.int sa), (.int a1), (.int c0)])) _
      refine XS.iload X7.here hx rfl (hb hby at_53) rfl ?_
      exact q)
  obtain ⟨_, _, ⟨T10, L10, kk10, nn10⟩, -, X10, ⟨Lc10, hQ10, l10, y10, z10⟩, st10⟩ := Jvm.LawKit.callS X7 hx (y := (⟨"com/example/clepsydra/clepsydra/Verdict", "predicted", "(ZZZZ)Lcom/example/clepsydra/clepsydra/Verdict;"⟩ : MethodName)) hown (mvT hZ (hw _ (List.mem_of_getElem? (i := 0) rfl))) (mvT hZ (hw _ (List.mem_of_getElem? (i := 1) rfl))) (mvT hZ (hw _ (List.mem_of_getElem? (i := 2) rfl))) (mvT hZ (hw _ (List.mem_of_getElem? (i := 3) rfl))) (by decide) (backOf (W := 0) (rm1 l Z a0 hw [] c0 a1 sa sr wO wT wF wU wCT wCF r h0 n0 Z0 S_OUTSIDE S_TRUE S_FALSE S_UNDECIDED S_CURRENTLY_TRUE S_CURRENTLY_FALSE hr0) hZ (hw _ (List.mem_of_getElem? (i := 3) rfl)) (hw _ (List.mem_of_getElem? (i := 2) rfl)) (by decide) (by decide)) (g := (mkF m 55 #[.val (.int i0), .val (.int c0), .val (.int a1), .val (.int sa), .val (.int sr), .unset, .unset] [(.int sr), (.int sa), (.int a1), (.int c0)])) rfl (by rw [hml]; rfl) (argsL := [(.int c0), (.int a1), (.int sa), (.int sr)]) (rest := []) (lenOf pd__ZZZZ_Lcom_example_clepsydra_clepsydra_Verdict_ rfl) rfl (by show 2 * 0 + _ ≤ _; exact Nat.le_of_eq rfl) (hb hby at_55) (fun _ _ => ⟨rfl, e7, (by decide : 0 + 0 ≤ _), (by decide : 0 + 0 ≤ _)⟩)
  dsimp only [Pt.U, Pt.locs, Pt.cells, Pt.slots] at X10 l10 y10 z10 st10 hQ10
  subst l10 y10 z10
  obtain ⟨rfl, N10q, e10⟩ := hQ10
  have N10 := Fr.app N0 N10q
  have k11 : ∀ t, Steps p.tables e below (T10.setTop (mkF m 58 #[.val (.int i0), .val (.int c0), .val (.int a1), .val (.int sa), .val (.int sr), .unset, .unset] [(.ref r)])) t → Steps p.tables e below (s₁.setTop (entryFrame m #[(.int i0)] maxLocals)) t := fun t q => k9 t (st10 t q)
  have k12 : ∀ t, Steps p.tables e below (T10.setTop (mkF m 60 #[.val (.int i0), .val (.int c0), .val (.int a1), .val (.int sa), .val (.int sr), .val (.ref r), .unset] [])) t → Steps p.tables e below (s₁.setTop (entryFrame m #[(.int i0)] maxLocals)) t := fun t q => k11 t (by
      show Steps p.tables e below (T10.setTop (mkF m 58 #[.val (.int i0), .val (.int c0), .val (.int a1), .val (.int sa), .val (.int sr), .unset, .unset] [(.ref r)])) _
      refine XS.astore X10.here hx rfl (hb hby at_58) rfl rfl (l' := #[.val (.int i0), .val (.int c0), .val (.int a1), .val (.int sa), .val (.int sr), .val (.ref r), .unset]) rfl ?_
      exact q)
  obtain ⟨T13, X13, e13, st13⟩ := sg5 i0 c0 a1 sa sr r b X10 hx hZ hw hby hml hown e10 h5
  have k14 : ∀ t, Steps p.tables e below (T13.setTop (mkF m 76 #[.val (.int i0), .val (.int c0), .val (.int a1), .val (.int sa), .val (.int sr), .val (.ref r), .val (.int b)] [])) t → Steps p.tables e below (s₁.setTop (entryFrame m #[(.int i0)] maxLocals)) t := fun t q => k12 t (st13 t q)
  have k15 : ∀ t, Steps p.tables e below (T13.setTop (mkF m 81 #[.val (.int i0), .val (.int c0), .val (.int a1), .val (.int sa), .val (.int sr), .val (.ref r), .val (.int b)] [])) t → Steps p.tables e below (s₁.setTop (entryFrame m #[(.int i0)] maxLocals)) t := fun t q => k14 t (by
      show Steps p.tables e below (T13.setTop (mkF m 76 #[.val (.int i0), .val (.int c0), .val (.int a1), .val (.int sa), .val (.int sr), .val (.ref r), .val (.int b)] [])) _
      refine XS.aload X13.here hx rfl (hb hby at_76) rfl rfl ?_
      show Steps p.tables e below (T13.setTop (mkF m 78 #[.val (.int i0), .val (.int c0), .val (.int a1), .val (.int sa), .val (.int sr), .val (.ref r), .val (.int b)] [(.ref r)])) _
      refine XS.ifnullNo X13.here hx rfl (hb hby at_78) rfl ?_
      exact q)
  obtain ⟨T16, X16, e16, st16⟩ := cm_OUTSIDE i0 c0 a1 sa sr r b wO X13 hx hZ hw hby hml hown e13 S_OUTSIDE hP_OUTSIDE
  have k17 : ∀ t, Steps p.tables e below (T16.setTop (mkF m 111 #[.val (.int i0), .val (.int c0), .val (.int a1), .val (.int sa), .val (.int sr), .val (.ref r), .val (.int b)] [])) t → Steps p.tables e below (s₁.setTop (entryFrame m #[(.int i0)] maxLocals)) t := fun t q => k15 t (st16 t q)
  obtain ⟨T18, X18, e18, st18⟩ := cm_TRUE i0 c0 a1 sa sr r b wT X16 hx hZ hw hby hml hown e16 S_TRUE hP_TRUE
  have k19 : ∀ t, Steps p.tables e below (T18.setTop (mkF m 141 #[.val (.int i0), .val (.int c0), .val (.int a1), .val (.int sa), .val (.int sr), .val (.ref r), .val (.int b)] [])) t → Steps p.tables e below (s₁.setTop (entryFrame m #[(.int i0)] maxLocals)) t := fun t q => k17 t (st18 t q)
  obtain ⟨T20, X20, e20, st20⟩ := cm_FALSE i0 c0 a1 sa sr r b wF X18 hx hZ hw hby hml hown e18 S_FALSE hP_FALSE
  have k21 : ∀ t, Steps p.tables e below (T20.setTop (mkF m 171 #[.val (.int i0), .val (.int c0), .val (.int a1), .val (.int sa), .val (.int sr), .val (.ref r), .val (.int b)] [])) t → Steps p.tables e below (s₁.setTop (entryFrame m #[(.int i0)] maxLocals)) t := fun t q => k19 t (st20 t q)
  obtain ⟨T22, X22, e22, st22⟩ := cm_UNDECIDED i0 c0 a1 sa sr r b wU X20 hx hZ hw hby hml hown e20 S_UNDECIDED hP_UNDECIDED
  have k23 : ∀ t, Steps p.tables e below (T22.setTop (mkF m 201 #[.val (.int i0), .val (.int c0), .val (.int a1), .val (.int sa), .val (.int sr), .val (.ref r), .val (.int b)] [])) t → Steps p.tables e below (s₁.setTop (entryFrame m #[(.int i0)] maxLocals)) t := fun t q => k21 t (st22 t q)
  obtain ⟨T24, X24, e24, st24⟩ := cm_CURRENTLY_TRUE i0 c0 a1 sa sr r b wCT X22 hx hZ hw hby hml hown e22 S_CURRENTLY_TRUE hP_CURRENTLY_TRUE
  have k25 : ∀ t, Steps p.tables e below (T24.setTop (mkF m 235 #[.val (.int i0), .val (.int c0), .val (.int a1), .val (.int sa), .val (.int sr), .val (.ref r), .val (.int b)] [])) t → Steps p.tables e below (s₁.setTop (entryFrame m #[(.int i0)] maxLocals)) t := fun t q => k23 t (st24 t q)
  obtain ⟨T26, X26, e26, st26⟩ := cm_CURRENTLY_FALSE i0 c0 a1 sa sr r b wCF X24 hx hZ hw hby hml hown e24 S_CURRENTLY_FALSE hP_CURRENTLY_FALSE
  have k27 : ∀ t, Steps p.tables e below (T26.setTop (mkF m 269 #[.val (.int i0), .val (.int c0), .val (.int a1), .val (.int sa), .val (.int sr), .val (.ref r), .val (.int b)] [])) t → Steps p.tables e below (s₁.setTop (entryFrame m #[(.int i0)] maxLocals)) t := fun t q => k25 t (st26 t q)
  have k28 : ∀ t, Steps p.tables e below (T26.setTop (mkF m 274 #[.val (.int i0), .val (.int c0), .val (.int a1), .val (.int sa), .val (.int sr), .val (.ref r), .val (.int b)] [(.int (1 : Int32))])) t → Steps p.tables e below (s₁.setTop (entryFrame m #[(.int i0)] maxLocals)) t := fun t q => k27 t (by
      show Steps p.tables e below (T26.setTop (mkF m 269 #[.val (.int i0), .val (.int c0), .val (.int a1), .val (.int sa), .val (.int sr), .val (.ref r), .val (.int b)] [])) _
      refine XS.iconst X26.here hx rfl (hb hby at_269) ?_
      show Steps p.tables e below (T26.setTop (mkF m 270 #[.val (.int i0), .val (.int c0), .val (.int a1), .val (.int sa), .val (.int sr), .val (.ref r), .val (.int b)] [(.int (1 : Int32))])) _
      refine XS.goto X26.here hx rfl (pc0 := 270) (pc' := 274) rfl (hb hby at_270) (by decide) (by decide) ?_
      exact q)
  obtain ⟨fs, hr, hrun, hended, hW, hsame⟩ := X26.leave (v := some (.int (1 : Int32))) (fun h => by rw [Bd.returns] at h; cases h)
  refine ⟨_, _, k28 _ ?_, hrun, hended, _, _, rfl, ?_, ⟨_, rfl⟩, hW, hsame.mono (by decide) (by decide)⟩
  · exact retN X26 hx (t := .boolean) Bd.returns (by simp) (hb hby at_274) hr
  · show QL Z i0 c0 a1 sa sr r b wO wT wF wU wCT wCF h0 n0 _ T26.heap _
    exact ⟨rfl, N10⟩
theorem own_six (c0 a1 sa sr b : Int32) (r wO wT wF wU wCT wCF : Addr) (h5 : (if sa = (0 : Int32) then (0 : Int32) else if sr = (0 : Int32) then 0 else 1) = b) (hr0 : (if sa = (0 : Int32) then (if sr = (0 : Int32) then wO else wF) else (if sr = (0 : Int32) then wT else if c0 = (0 : Int32) then wU else if a1 = (0 : Int32) then wCF else wCT)) = r) (n_wO_wT : wO ≠ wT) (n_wO_wF : wO ≠ wF) (n_wO_wU : wO ≠ wU) (n_wO_wCT : wO ≠ wCT) (n_wO_wCF : wO ≠ wCF) (n_wT_wF : wT ≠ wF) (n_wT_wU : wT ≠ wU) (n_wT_wCT : wT ≠ wCT) (n_wT_wCF : wT ≠ wCF) (n_wF_wU : wF ≠ wU) (n_wF_wCT : wF ≠ wCT) (n_wF_wCF : wF ≠ wCF) (n_wU_wCT : wU ≠ wCT) (n_wU_wCF : wU ≠ wCF) (n_wCT_wCF : wCT ≠ wCF) : (r = wO ↔ (sa = (0 : Int32) ∧ sr = (0 : Int32))) ∧ (r = wT ↔ (¬ sa = (0 : Int32) ∧ sr = (0 : Int32))) ∧ (r = wF ↔ (sa = (0 : Int32) ∧ ¬ sr = (0 : Int32))) ∧ (r = wU ↔ (¬ b = (0 : Int32) ∧ c0 = (0 : Int32))) ∧ (r = wCT ↔ (¬ b = (0 : Int32) ∧ ¬ c0 = (0 : Int32) ∧ ¬ a1 = (0 : Int32))) ∧ (r = wCF ↔ (¬ b = (0 : Int32) ∧ ¬ c0 = (0 : Int32) ∧ a1 = (0 : Int32))) := by
  subst h5 hr0
  by_cases z1 : sa = (0 : Int32) <;> by_cases z2 : sr = (0 : Int32) <;> by_cases z3 : c0 = (0 : Int32) <;> by_cases z4 : a1 = (0 : Int32) <;> simp [z1, z2, z3, z4, n_wO_wT, Ne.symm n_wO_wT, n_wO_wF, Ne.symm n_wO_wF, n_wO_wU, Ne.symm n_wO_wU, n_wO_wCT, Ne.symm n_wO_wCT, n_wO_wCF, Ne.symm n_wO_wCF, n_wT_wF, Ne.symm n_wT_wF, n_wT_wU, Ne.symm n_wT_wU, n_wT_wCT, Ne.symm n_wT_wCT, n_wT_wCF, Ne.symm n_wT_wCF, n_wF_wU, Ne.symm n_wF_wU, n_wF_wCT, Ne.symm n_wF_wCT, n_wF_wCF, Ne.symm n_wF_wCF, n_wU_wCT, Ne.symm n_wU_wCT, n_wU_wCF, Ne.symm n_wU_wCF, n_wCT_wCF, Ne.symm n_wCT_wCF]
set_option maxRecDepth 65536 in
set_option maxHeartbeats 40000000 in
theorem comes_1 {Post : Tables → Env → Array Value → State → Outcome → State → Prop} (hpost : ∀ tb e args s v u, (limb_1_1.after args s (.returned v) u = true ∧ limb_1_2.after args s (.returned v) u = true ∧ True) → FrameEnd s (.returned v) u (Jvm.fieldLocs frame_1_writes args s ++ Jvm.arrayLocs frame_1_arrays args s ++ Jvm.staticLocs frame_1_statics s) 0 0 → Post tb e args s (.returned v) u) :
    ArmFor flags0 classFile x code maxLocals ret World_1 tables_1 room_1 Calls_1 rest_1 Pre_1 Post := by
  intro l hfl _ _ p e ha hc hk s m args below hf hA hF happ hP
  obtain ⟨hcalls, hrest, hpre⟩ := hP
  obtain ⟨-, -, -, hnamed, -, -, -, hat⟩ := (Spec.applies_iff hf).mp happ
  obtain ⟨hg, hn⟩ := and_e (Cond.before_iff.mp (show (Jvm.Cond.and given_1 narrow_1).before args s = true from hpre))
  obtain ⟨gc, gr⟩ := and_e hg
  obtain ⟨w0, rfl⟩ : ∃ w0 : Value, args = #[w0] := by
    have hs : args.size = 1 := by simpa [Cond.value, given_1] using gc
    obtain ⟨L⟩ := args
    match L, hs with
    | [w0], _ => exact ⟨w0, rfl⟩
  have hw := fun d (hd : d ∈ tables_1) => atoms_spec (ws := Jvm.Cond.code x code maxLocals ret :: tables_1) hat d (List.mem_cons_of_mem _ hd)
  have hfit : Fit s := fun {y c} hc i hi => by
    obtain ⟨ha, rfl⟩ := Array.getElem?_eq_some_iff.mp hc
    have q := List.all_eq_true.mp ((Array.all_eq_true_iff_forall_mem.mp hF) _ (Array.getElem_mem ha)) i (List.mem_range.mpr hi)
    simpa [Array.getElem?_eq_getElem hi] using q
  obtain ⟨i0, ei0⟩ := is_v gr
  obtain rfl : w0 = (.int i0) := Option.some.inj ei0
  obtain ⟨nq0, hn⟩ := and_e hn
  obtain ⟨nq1, hn⟩ := and_e hn
  obtain ⟨nq2, hn⟩ := and_e hn
  obtain ⟨nq3, hn⟩ := and_e hn
  obtain ⟨nq4, hn⟩ := and_e hn
  obtain ⟨nq5, hn⟩ := and_e hn
  obtain ⟨nq6, hn⟩ := and_e hn
  obtain ⟨nq7, hn⟩ := and_e hn
  obtain ⟨nq8, hn⟩ := and_e hn
  obtain ⟨nq9, hn⟩ := and_e hn
  obtain ⟨nq10, hn⟩ := and_e hn
  have nq11 := hn
  obtain ⟨w_OUTSIDE, ev_OUTSIDE⟩ := exa_v nq0
  have E_OUTSIDE : Exa s s.heap w_OUTSIDE "com/example/clepsydra/clepsydra/Verdict" := Exa.start ev_OUTSIDE nq0
  have S_OUTSIDE : Sta s s.heap "com/example/clepsydra/clepsydra/Verdict" "OUTSIDE" "Lcom/example/clepsydra/clepsydra/Verdict;" (.ref w_OUTSIDE) := Sta.start ev_OUTSIDE (Or.inr ⟨(hw _ (List.mem_of_getElem? (i := 2) rfl)), (hw _ (List.mem_of_getElem? (i := 5) rfl))⟩)
  obtain ⟨w_TRUE, ev_TRUE⟩ := exa_v nq1
  have E_TRUE : Exa s s.heap w_TRUE "com/example/clepsydra/clepsydra/Verdict" := Exa.start ev_TRUE nq1
  have S_TRUE : Sta s s.heap "com/example/clepsydra/clepsydra/Verdict" "TRUE" "Lcom/example/clepsydra/clepsydra/Verdict;" (.ref w_TRUE) := Sta.start ev_TRUE (Or.inr ⟨(hw _ (List.mem_of_getElem? (i := 2) rfl)), (hw _ (List.mem_of_getElem? (i := 8) rfl))⟩)
  obtain ⟨w_FALSE, ev_FALSE⟩ := exa_v nq4
  have E_FALSE : Exa s s.heap w_FALSE "com/example/clepsydra/clepsydra/Verdict" := Exa.start ev_FALSE nq4
  have S_FALSE : Sta s s.heap "com/example/clepsydra/clepsydra/Verdict" "FALSE" "Lcom/example/clepsydra/clepsydra/Verdict;" (.ref w_FALSE) := Sta.start ev_FALSE (Or.inr ⟨(hw _ (List.mem_of_getElem? (i := 2) rfl)), (hw _ (List.mem_of_getElem? (i := 10) rfl))⟩)
  obtain ⟨w_UNDECIDED, ev_UNDECIDED⟩ := exa_v nq6
  have E_UNDECIDED : Exa s s.heap w_UNDECIDED "com/example/clepsydra/clepsydra/Verdict" := Exa.start ev_UNDECIDED nq6
  have S_UNDECIDED : Sta s s.heap "com/example/clepsydra/clepsydra/Verdict" "UNDECIDED" "Lcom/example/clepsydra/clepsydra/Verdict;" (.ref w_UNDECIDED) := Sta.start ev_UNDECIDED (Or.inr ⟨(hw _ (List.mem_of_getElem? (i := 2) rfl)), (hw _ (List.mem_of_getElem? (i := 12) rfl))⟩)
  obtain ⟨w_CURRENTLY_TRUE, ev_CURRENTLY_TRUE⟩ := exa_v nq8
  have E_CURRENTLY_TRUE : Exa s s.heap w_CURRENTLY_TRUE "com/example/clepsydra/clepsydra/Verdict" := Exa.start ev_CURRENTLY_TRUE nq8
  have S_CURRENTLY_TRUE : Sta s s.heap "com/example/clepsydra/clepsydra/Verdict" "CURRENTLY_TRUE" "Lcom/example/clepsydra/clepsydra/Verdict;" (.ref w_CURRENTLY_TRUE) := Sta.start ev_CURRENTLY_TRUE (Or.inr ⟨(hw _ (List.mem_of_getElem? (i := 2) rfl)), (hw _ (List.mem_of_getElem? (i := 14) rfl))⟩)
  obtain ⟨w_CURRENTLY_FALSE, ev_CURRENTLY_FALSE⟩ := exa_v nq10
  have E_CURRENTLY_FALSE : Exa s s.heap w_CURRENTLY_FALSE "com/example/clepsydra/clepsydra/Verdict" := Exa.start ev_CURRENTLY_FALSE nq10
  have S_CURRENTLY_FALSE : Sta s s.heap "com/example/clepsydra/clepsydra/Verdict" "CURRENTLY_FALSE" "Lcom/example/clepsydra/clepsydra/Verdict;" (.ref w_CURRENTLY_FALSE) := Sta.start ev_CURRENTLY_FALSE (Or.inr ⟨(hw _ (List.mem_of_getElem? (i := 2) rfl)), (hw _ (List.mem_of_getElem? (i := 16) rfl))⟩)
  have F_OUTSIDE_ordinal : Fld s s.heap w_OUTSIDE "java/lang/Enum" "ordinal" "I" (.int (5 : Int32)) := own_fldI ev_OUTSIDE nq2
  have F_TRUE_ordinal : Fld s s.heap w_TRUE "java/lang/Enum" "ordinal" "I" (.int (0 : Int32)) := own_fldI ev_TRUE nq3
  have F_FALSE_ordinal : Fld s s.heap w_FALSE "java/lang/Enum" "ordinal" "I" (.int (1 : Int32)) := own_fldI ev_FALSE nq5
  have F_UNDECIDED_ordinal : Fld s s.heap w_UNDECIDED "java/lang/Enum" "ordinal" "I" (.int (4 : Int32)) := own_fldI ev_UNDECIDED nq7
  have F_CURRENTLY_TRUE_ordinal : Fld s s.heap w_CURRENTLY_TRUE "java/lang/Enum" "ordinal" "I" (.int (2 : Int32)) := own_fldI ev_CURRENTLY_TRUE nq9
  have F_CURRENTLY_FALSE_ordinal : Fld s s.heap w_CURRENTLY_FALSE "java/lang/Enum" "ordinal" "I" (.int (3 : Int32)) := own_fldI ev_CURRENTLY_FALSE nq11
  obtain ⟨q1, q2, q3, q4, q5, q6⟩ := own_six (if (i0 &&& (1 : Int32)) = (0 : Int32) then (0 : Int32) else 1) (if (i0 &&& (2 : Int32)) = (0 : Int32) then (0 : Int32) else 1) (if (i0 &&& (4 : Int32)) = (0 : Int32) then (0 : Int32) else 1) (if (i0 &&& (8 : Int32)) = (0 : Int32) then (0 : Int32) else 1) _ _ w_OUTSIDE w_TRUE w_FALSE w_UNDECIDED w_CURRENTLY_TRUE w_CURRENTLY_FALSE rfl rfl (Fld.ne F_OUTSIDE_ordinal F_TRUE_ordinal (by decide)) (Fld.ne F_OUTSIDE_ordinal F_FALSE_ordinal (by decide)) (Fld.ne F_OUTSIDE_ordinal F_UNDECIDED_ordinal (by decide)) (Fld.ne F_OUTSIDE_ordinal F_CURRENTLY_TRUE_ordinal (by decide)) (Fld.ne F_OUTSIDE_ordinal F_CURRENTLY_FALSE_ordinal (by decide)) (Fld.ne F_TRUE_ordinal F_FALSE_ordinal (by decide)) (Fld.ne F_TRUE_ordinal F_UNDECIDED_ordinal (by decide)) (Fld.ne F_TRUE_ordinal F_CURRENTLY_TRUE_ordinal (by decide)) (Fld.ne F_TRUE_ordinal F_CURRENTLY_FALSE_ordinal (by decide)) (Fld.ne F_FALSE_ordinal F_UNDECIDED_ordinal (by decide)) (Fld.ne F_FALSE_ordinal F_CURRENTLY_TRUE_ordinal (by decide)) (Fld.ne F_FALSE_ordinal F_CURRENTLY_FALSE_ordinal (by decide)) (Fld.ne F_UNDECIDED_ordinal F_CURRENTLY_TRUE_ordinal (by decide)) (Fld.ne F_UNDECIDED_ordinal F_CURRENTLY_FALSE_ordinal (by decide)) (Fld.ne F_CURRENTLY_TRUE_ordinal F_CURRENTLY_FALSE_ordinal (by decide))
  obtain ⟨n, o, h1, h2, h3, _, L, rfl, ⟨rfl, N⟩, hq⟩ := rmL l s _ hw tables_1 i0 _ _ _ _ _ _ w_OUTSIDE w_TRUE w_FALSE w_UNDECIDED w_CURRENTLY_TRUE w_CURRENTLY_FALSE s.heap s.heap.size (Nat.le_refl _) S_OUTSIDE S_TRUE S_FALSE S_UNDECIDED S_CURRENTLY_TRUE S_CURRENTLY_FALSE rfl rfl rfl rfl rfl rfl q1 q2 q3 q4 q5 q6 p e ha hc hk s m _ below hf ((Spec.applies_iff_loose hf).mp happ).1 ⟨rfl, State.Warmed39.refl s, rfl⟩ trivial
  refine ⟨n, _, h1, h2, h3, hpost _ _ _ _ _ _ ⟨Cond.after_iff.mpr rfl, Cond.after_iff.mpr (eq_i res_at (Term.int_eval (1)) rfl), trivial⟩ ⟨hq.1, hq.2.1, (hq.2.2.sift fun y hy => Or.inr (N y hy)).mono (by decide) (by decide)⟩⟩
theorem main_1_1 : Claimed_1_1 := comes_1 fun _ _ _ _ _ _ h hF => ⟨h.1, hF⟩
theorem main_1_2 : Claimed_1_2 := comes_1 fun _ _ _ _ _ _ h hF => ⟨h.2.1, hF⟩
end Jvm.Pilot.@@N@@
namespace Jvm.Pilot.@@N@@
open Jvm Jvm.ClassFile Sem Op Lib Jvm.Free Jvm.Stand Jvm.Pilot.@@N@@.Jvm.D
/-! MADE BY PROGRAM (witnessworld.py) out of the Statement's table words and the real class files: 12 classes; the members and pool entries that the words name. The judged class is class 1, her method 1. -/
namespace start1
open Jvm.ClassFile
def u (s : String) : CpInfo := .utf8 (stringToUtf16 s)
/-- a pool by its gaps: so many unusable entries, then the entry; so many at the end -/
def gap : Nat → List CpInfo → List CpInfo
  | 0, r => r
  | n + 1, r => .unusable :: gap n r
def poolList (es : List (Nat × CpInfo)) (last : Nat) : List CpInfo := es.foldr (fun e r => gap e.1 (e.2 :: r)) (gap last [])
def pool (es : List (Nat × CpInfo)) (last : Nat) : Array CpInfo := ⟨poolList es last⟩
def fileOf (pool : Array CpInfo) (this : Nat) (attrs : Array Attribute := #[]) (ms : Array MethodInfo := #[]) (fl : Nat := 33) (sup : Nat := 0) (ifs : Array Nat := #[]) (fds : Array FieldInfo := #[]) : ClassFile where
  minorVersion := 0
  majorVersion := 65
  constantPool := pool
  accessFlags := fl
  thisClass := this
  superClass := sup
  interfaces := ifs
  fields := fds
  methods := ms
  attributes := attrs
def plain (name : String) (sup : Option ClassId) : Class where
  name := name
  kind := .ordinary
  loader := none
  accessFlags := 33
  super := sup
  interfaces := #[]
  cf := none
  fields := #[]
  methods := #[]
  instanceTypes := #[]
  staticTypes := #[]
  resolved := #[]
  callSites := []
  init := .initialized
  statics := none
  mirror := none

def pool0 : Array CpInfo := pool [(5, u "<init>"), (0, u "()V"), (1, .class_ 10), (1, u "java/lang/Object")] 113

def k0m0 : Method := { name := "<init>", desc := "()V", sig := { parameters := [], returnType := none }, accessFlags := 1, code := none }
/-- java/lang/Object -/
def k0 : Class := { plain "java/lang/Object" none with
  accessFlags := 33
  interfaces := #[]
  cf := some (fileOf pool0 8 #[] #[{ accessFlags := 1, nameIndex := 5, descriptorIndex := 6, attributes := #[] }] 33 0 #[] #[])
  fields := #[]
  methods := #[k0m0]
  instanceTypes := #[]
  staticTypes := #[]
  resolved := Array.replicate 124 none
  statics := none }

def pool1 : Array CpInfo := pool [(2, .class_ 4), (1, u "java/lang/Object"), (0, u "<init>"), (0, u "()V"), (0, .methodref 8 9), (0, .class_ 10), (0, .nameAndType 11 12), (0, u "com/example/clepsydra/clepsydra/Verdict"), (0, u "predicted"), (0, u "(ZZZZ)Lcom/example/clepsydra/clepsydra/Verdict;"), (0, .fieldref 8 14), (0, .nameAndType 15 16), (0, u "OUTSIDE"), (0, u "Lcom/example/clepsydra/clepsydra/Verdict;"), (0, .fieldref 8 18), (0, .nameAndType 19 16), (0, u "TRUE"), (0, .fieldref 8 21), (0, .nameAndType 22 16), (0, u "FALSE"), (0, .fieldref 8 24), (0, .nameAndType 25 16), (0, u "UNDECIDED"), (0, .fieldref 8 27), (0, .nameAndType 28 16), (0, u "CURRENTLY_TRUE"), (0, .fieldref 8 30), (0, .nameAndType 31 16), (0, u "CURRENTLY_FALSE"), (0, .class_ 33), (0, u "com/example/clepsydra/clepsydra/VerdictPredictedPinLaw"), (2, u "law"), (0, u "(I)Z")] 3

def k1m0 : Method := { name := "<init>", desc := "()V", sig := { parameters := [], returnType := none }, accessFlags := 2, code := none }
def k1c1 : Code := { maxStack := 4, maxLocals := 7, code := code, exceptionTable := #[], attributes := #[] }
def k1m1 : Method := { name := "law", desc := "(I)Z", sig := { parameters := [.int], returnType := some .boolean }, accessFlags := 9, code := some k1c1 }
/-- com/example/clepsydra/clepsydra/VerdictPredictedPinLaw -/
def k1 : Class := { plain "com/example/clepsydra/clepsydra/VerdictPredictedPinLaw" (some 0) with
  accessFlags := 49
  interfaces := #[]
  cf := some (fileOf pool1 32 #[] #[{ accessFlags := 2, nameIndex := 5, descriptorIndex := 6, attributes := #[] }, { accessFlags := 9, nameIndex := 36, descriptorIndex := 37, attributes := #[] }] 49 2 #[] #[])
  fields := #[]
  methods := #[k1m0, k1m1]
  instanceTypes := #[]
  staticTypes := #[]
  resolved := Array.replicate 41 none
  statics := none }

def pool2 : Array CpInfo := pool [(1, .class_ 2), (0, u "java/lang/constant/Constable"), (0, .class_ 4), (0, u "java/lang/Object")] 6

/-- java/lang/constant/Constable -/
def k2 : Class := { plain "java/lang/constant/Constable" (some 0) with
  accessFlags := 1537
  interfaces := #[]
  cf := some (fileOf pool2 1 #[] #[] 1537 3 #[] #[])
  fields := #[]
  methods := #[]
  instanceTypes := #[]
  staticTypes := #[]
  resolved := Array.replicate 11 none
  statics := none }

def pool3 : Array CpInfo := pool [(1, .class_ 2), (0, u "java/lang/Comparable"), (0, .class_ 4), (0, u "java/lang/Object")] 7

/-- java/lang/Comparable -/
def k3 : Class := { plain "java/lang/Comparable" (some 0) with
  accessFlags := 1537
  interfaces := #[]
  cf := some (fileOf pool3 1 #[] #[] 1537 3 #[] #[])
  fields := #[]
  methods := #[]
  instanceTypes := #[]
  staticTypes := #[]
  resolved := Array.replicate 12 none
  statics := none }

def pool4 : Array CpInfo := pool [(1, .class_ 2), (0, u "java/io/Serializable"), (0, .class_ 4), (0, u "java/lang/Object")] 2

/-- java/io/Serializable -/
def k4 : Class := { plain "java/io/Serializable" (some 0) with
  accessFlags := 1537
  interfaces := #[]
  cf := some (fileOf pool4 1 #[] #[] 1537 3 #[] #[])
  fields := #[]
  methods := #[]
  instanceTypes := #[]
  staticTypes := #[]
  resolved := Array.replicate 7 none
  statics := none }

def pool5 : Array CpInfo := pool [(2, .class_ 4), (1, u "java/lang/Enum"), (0, u "name"), (0, u "Ljava/lang/String;"), (2, u "ordinal"), (0, u "I"), (1, .class_ 14), (1, u "java/lang/Object"), (4, u "hash"), (86, .class_ 108), (1, u "java/lang/Enum$EnumDesc"), (2, .class_ 112), (0, u "java/lang/constant/Constable"), (0, .class_ 114), (0, u "java/lang/Comparable"), (0, .class_ 116), (0, u "java/io/Serializable")] 87

/-- java/lang/Enum -/
def k5 : Class := { plain "java/lang/Enum" (some 0) with
  accessFlags := 1057
  interfaces := #[2, 3, 4]
  cf := some (fileOf pool5 2 #[.nestMembers #[106]] #[] 1057 12 #[111, 113, 115] #[{ accessFlags := 18, nameIndex := 5, descriptorIndex := 6, attributes := #[] }, { accessFlags := 18, nameIndex := 9, descriptorIndex := 10, attributes := #[] }, { accessFlags := 2, nameIndex := 19, descriptorIndex := 10, attributes := #[] }])
  fields := #[{ name := "name", type := (.object "java/lang/String"), accessFlags := 18, slot := 0, constantValue := 0 }, { name := "ordinal", type := .int, accessFlags := 18, slot := 1, constantValue := 0 }, { name := "hash", type := .int, accessFlags := 2, slot := 2, constantValue := 0 }]
  methods := #[]
  instanceTypes := #[(.object "java/lang/String"), .int, .int]
  staticTypes := #[]
  resolved := Array.replicate 204 none
  statics := none }

def pool6 : Array CpInfo := pool [(1, .class_ 2), (0, u "com/example/clepsydra/clepsydra/Verdict"), (0, .fieldref 1 4), (0, .nameAndType 5 6), (0, u "TRUE"), (0, u "Lcom/example/clepsydra/clepsydra/Verdict;"), (0, .fieldref 1 8), (0, .nameAndType 9 6), (0, u "FALSE"), (0, .fieldref 1 11), (0, .nameAndType 12 6), (0, u "CURRENTLY_TRUE"), (0, .fieldref 1 14), (0, .nameAndType 15 6), (0, u "CURRENTLY_FALSE"), (0, .fieldref 1 17), (0, .nameAndType 18 6), (0, u "UNDECIDED"), (0, .fieldref 1 20), (0, .nameAndType 21 6), (0, u "OUTSIDE"), (2, u "$VALUES"), (0, u "[Lcom/example/clepsydra/clepsydra/Verdict;"), (6, .class_ 34), (1, u "java/lang/Enum"), (8, u "name"), (0, u "Ljava/lang/String;"), (2, u "predicted"), (0, u "(ZZZZ)Lcom/example/clepsydra/clepsydra/Verdict;")] 44

def k6c0 : Code := { maxStack := 1, maxLocals := 4, code := prog_150_method_5_code, exceptionTable := #[], attributes := #[] }
def k6m0 : Method := { name := "predicted", desc := "(ZZZZ)Lcom/example/clepsydra/clepsydra/Verdict;", sig := { parameters := [.boolean, .boolean, .boolean, .boolean], returnType := some (.object "com/example/clepsydra/clepsydra/Verdict") }, accessFlags := 8, code := some k6c0 }
/-- com/example/clepsydra/clepsydra/Verdict -/
def k6 : Class := { plain "com/example/clepsydra/clepsydra/Verdict" (some 5) with
  accessFlags := 16433
  interfaces := #[]
  cf := some (fileOf pool6 1 #[] #[{ accessFlags := 8, nameIndex := 47, descriptorIndex := 48, attributes := #[] }] 16433 32 #[] #[{ accessFlags := 16409, nameIndex := 5, descriptorIndex := 6, attributes := #[] }, { accessFlags := 16409, nameIndex := 9, descriptorIndex := 6, attributes := #[] }, { accessFlags := 16409, nameIndex := 12, descriptorIndex := 6, attributes := #[] }, { accessFlags := 16409, nameIndex := 15, descriptorIndex := 6, attributes := #[] }, { accessFlags := 16409, nameIndex := 18, descriptorIndex := 6, attributes := #[] }, { accessFlags := 16409, nameIndex := 21, descriptorIndex := 6, attributes := #[] }, { accessFlags := 18, nameIndex := 43, descriptorIndex := 44, attributes := #[] }, { accessFlags := 4122, nameIndex := 24, descriptorIndex := 25, attributes := #[] }])
  fields := #[{ name := "TRUE", type := (.object "com/example/clepsydra/clepsydra/Verdict"), accessFlags := 16409, slot := 0, constantValue := 0 }, { name := "FALSE", type := (.object "com/example/clepsydra/clepsydra/Verdict"), accessFlags := 16409, slot := 1, constantValue := 0 }, { name := "CURRENTLY_TRUE", type := (.object "com/example/clepsydra/clepsydra/Verdict"), accessFlags := 16409, slot := 2, constantValue := 0 }, { name := "CURRENTLY_FALSE", type := (.object "com/example/clepsydra/clepsydra/Verdict"), accessFlags := 16409, slot := 3, constantValue := 0 }, { name := "UNDECIDED", type := (.object "com/example/clepsydra/clepsydra/Verdict"), accessFlags := 16409, slot := 4, constantValue := 0 }, { name := "OUTSIDE", type := (.object "com/example/clepsydra/clepsydra/Verdict"), accessFlags := 16409, slot := 5, constantValue := 0 }, { name := "name", type := (.object "java/lang/String"), accessFlags := 18, slot := 3, constantValue := 0 }, { name := "$VALUES", type := (.array (.object "com/example/clepsydra/clepsydra/Verdict")), accessFlags := 4122, slot := 6, constantValue := 0 }]
  methods := #[k6m0]
  instanceTypes := #[(.object "java/lang/String"), .int, .int, (.object "java/lang/String")]
  staticTypes := #[(.object "com/example/clepsydra/clepsydra/Verdict"), (.object "com/example/clepsydra/clepsydra/Verdict"), (.object "com/example/clepsydra/clepsydra/Verdict"), (.object "com/example/clepsydra/clepsydra/Verdict"), (.object "com/example/clepsydra/clepsydra/Verdict"), (.object "com/example/clepsydra/clepsydra/Verdict"), (.array (.object "com/example/clepsydra/clepsydra/Verdict"))]
  resolved := Array.replicate 93 none
  statics := some 0 }

def pool7 : Array CpInfo := pool [(1, u "java/lang/Cloneable"), (0, .class_ 1), (0, u "java/lang/Object"), (0, .class_ 3)] 3

/-- java/lang/Cloneable -/
def k7 : Class := { plain "java/lang/Cloneable" (some 0) with
  accessFlags := 1537
  interfaces := #[]
  cf := some (fileOf pool7 2 #[] #[] 1537 4 #[] #[])
  fields := #[]
  methods := #[]
  instanceTypes := #[]
  staticTypes := #[]
  resolved := Array.replicate 8 none
  statics := none }

/-- the primitive byte -/
def k8 : Class := { plain "byte" none with kind := .primitive 'B', accessFlags := 0x411 }
/-- [B -/
def k9 : Class := { plain "[B" (some 0) with kind := .array 8 .byte, interfaces := #[7, 4], accessFlags := 1041 }

/-- the primitive int -/
def k10 : Class := { plain "int" none with kind := .primitive 'I', accessFlags := 0x411 }
/-- [I -/
def k11 : Class := { plain "[I" (some 0) with kind := .array 10 .int, interfaces := #[7, 4], accessFlags := 1041 }

def heap : Heap := #[{ cls := 6, slots := #[.ref 1, .ref 2, .ref 3, .ref 4, .ref 5, .ref 6, .null], vm := .statics 6 },
  { cls := 6, slots := #[.null, .int 0, .int 0, .null], vm := .none },
  { cls := 6, slots := #[.null, .int 1, .int 0, .null], vm := .none },
  { cls := 6, slots := #[.null, .int 2, .int 0, .null], vm := .none },
  { cls := 6, slots := #[.null, .int 3, .int 0, .null], vm := .none },
  { cls := 6, slots := #[.null, .int 4, .int 0, .null], vm := .none },
  { cls := 6, slots := #[.null, .int 5, .int 0, .null], vm := .none }]
def classes : Array Class := #[k0, k1, k2, k3, k4, k5, k6, k7, k8, k9, k10, k11]
def interned : List (Array UInt16 × Addr) := []
def slotsUsed : Nat := 31
def theMethod : MethodId := ⟨1, 1⟩
def args0 : Array Value := #[.int 5]
def aboutOver (below : List Frame) : State where
  vm := { classes := classes, interned := interned.toArray }
  heap := heap
  slotsUsed := slotsUsed
  threads := #[{ frames := .invoking theMethod args0 :: below }]
def below0 : List Frame := [.native { method := ⟨0, 0⟩, args := #[] }]
def about1 : State := aboutOver below0
def p0 : Program := .bare "" "" ""
def e0 : Env := launch0.env 0 0 0
theorem w_frames : about1.frames = Frame.invoking theMethod args0 :: below0 := rfl
set_option maxRecDepth 65536 in
theorem w_args : argsFit about1.vm theMethod args0 = true := by decide +kernel
set_option maxRecDepth 65536 in
theorem w_heap : heapFits about1 = true := by decide +kernel
set_option maxRecDepth 65536 in
theorem w_runnable : about1.curStatus? = some .runnable := by decide +kernel
set_option maxRecDepth 65536 in
theorem w_alone : about1.alone = true := by decide +kernel
set_option maxRecDepth 65536 in
theorem w_named : about1.methodNamed? x = some theMethod := by decide +kernel
set_option maxRecDepth 65536 in
theorem w_hears : about1.hears theMethod below0 = true := by decide +kernel
set_option maxRecDepth 65536 in
theorem w_ripe : about1.ripe theMethod args0 below0 = true := by decide +kernel
theorem w_running : about1.status = .running := rfl
set_option maxRecDepth 65536 in
theorem w_room : about1.hasRoom e0.platform room_1 = true :=
  launch0.hasRoom_least _ room_1 (by decide +kernel) (by decide +kernel) (by decide +kernel) (by decide +kernel) (by decide +kernel) (by decide +kernel)
theorem allAtoms_all (ts : List Jvm.Cond) (a : Array Jvm.Value) (st : Jvm.State) : (allAtoms ts).before a st = ts.all (fun c => c.before a st) := by
  induction ts with
  | nil => rfl
  | cons c t ih =>
    show (Jvm.Cond.and c (allAtoms t)).before a st = _
    rw [Jvm.Cond.before_and, ih, List.all_cons]
def words1 : List Jvm.Cond := Jvm.Cond.code x code maxLocals ret :: tables_1
/-- a 'code' word, met by the world's own term for the bytes: nothing is compared byte by byte -/
theorem code_word {y : MethodName} {bytes : ByteArray} {mx : Nat} {rt : Option FieldType} {a : Array Value} {s : State} {m : MethodId} {meth : Method} {c : Code} (h1 : s.methodNamed? y = some m) (h2 : s.vm.method? m = some meth) (h3 : meth.code = some c) (h4 : c.code = bytes)
    (h5 : (c.maxLocals == mx && c.exceptionTable.isEmpty && decide (c.maxStack ≤ mostOperands) && decide (meth.sig.returnType = rt) && !meth.locks && decide (parseMethodDescriptor y.desc = some meth.sig)) = true) : (Jvm.Cond.code y bytes mx rt).before a s = true := by
  simp only [Bool.and_eq_true, beq_iff_eq, Bool.not_eq_true', decide_eq_true_eq] at h5
  obtain ⟨⟨⟨⟨⟨g1, g2⟩, g3⟩, g4⟩, g5⟩, g6⟩ := h5
  simp [Cond.before, Cond.holds, Cond.value, h1, h2, h3, h4, g1, g2, g3, g4, g5, g6]
def isCode : Jvm.Cond → Bool
  | .code _ _ _ _ => true
  | _ => false
theorem all_split {L : List Jvm.Cond} {P : Jvm.Cond → Bool} (h1 : L.all (fun c => isCode c || P c) = true) (h2 : ∀ c ∈ L.filter isCode, P c = true) : L.all P = true := by
  refine List.all_eq_true.mpr fun c hc => ?_
  have h := List.all_eq_true.mp h1 c hc
  rcases Bool.eq_false_or_eq_true (isCode c) with hi | hi
  · exact h2 c (List.mem_filter.mpr ⟨hc, hi⟩)
  · simpa [hi] using h
set_option maxRecDepth 65536 in
theorem w_c0 : (Jvm.Cond.code x code maxLocals ret).before args0 about1 = true := code_word (m := ⟨1, 1⟩) (meth := k1m1) (c := k1c1) (by decide +kernel) rfl rfl rfl (by decide +kernel)
set_option maxRecDepth 65536 in
theorem w_c1 : (Jvm.Cond.code ({ cls := "com/example/clepsydra/clepsydra/Verdict", name := "predicted", desc := "(ZZZZ)Lcom/example/clepsydra/clepsydra/Verdict;" } : Jvm.MethodName) prog_150_method_5_code (4 : Nat) (Option.some (Jvm.ClassFile.FieldType.object "com/example/clepsydra/clepsydra/Verdict"))).before args0 about1 = true := code_word (m := ⟨6, 0⟩) (meth := k6m0) (c := k6c0) (by decide +kernel) rfl rfl rfl (by decide +kernel)
def codes1 : List Jvm.Cond := [Jvm.Cond.code x code maxLocals ret, Jvm.Cond.code ({ cls := "com/example/clepsydra/clepsydra/Verdict", name := "predicted", desc := "(ZZZZ)Lcom/example/clepsydra/clepsydra/Verdict;" } : Jvm.MethodName) prog_150_method_5_code (4 : Nat) (Option.some (Jvm.ClassFile.FieldType.object "com/example/clepsydra/clepsydra/Verdict"))]
set_option maxRecDepth 65536 in
theorem codes_eq : words1.filter isCode = codes1 := rfl
theorem w_codes : ∀ c ∈ words1.filter isCode, c.before args0 about1 = true := by
  rw [codes_eq]
  intro c hc
  simp only [codes1, List.mem_cons, List.not_mem_nil, or_false] at hc
  rcases hc with rfl | rfl
  · exact w_c0
  · exact w_c1
set_option maxRecDepth 65536 in
theorem w_t1 : words1.all (fun c => isCode c || c.before args0 about1) = true := by decide +kernel
theorem w_tables : (allAtoms (Jvm.Cond.code x code maxLocals ret :: tables_1)).before args0 about1 = true := by
  rw [allAtoms_all]
  show words1.all (fun c => c.before args0 about1) = true
  refine all_split ?_ w_codes
  rw [w_t1]
set_option maxRecDepth 65536 in
theorem w_case : (Jvm.Cond.and given_1 narrow_1).before args0 about1 = true := by decide +kernel
theorem w_applies : (headSpec (Jvm.Cond.code x code maxLocals ret :: tables_1) room_1).applies x e0.platform about1 = true :=
  (Spec.applies_iff w_frames).mpr ⟨w_running, w_runnable, w_alone, w_named, w_hears, w_ripe, w_room, w_tables⟩
theorem atStart : AtStart classFile x code maxLocals ret World_1 tables_1 room_1 Calls_1 rest_1 Pre_1 launch0 p0 e0 about1 theMethod args0 below0 :=
  ⟨lists_1, trivial, launch0.admits_env _ _ _, launch0.least_env, fairChoices_fair.cas, fairChoices_fair.clock, w_frames, w_args, w_heap, w_applies, trivial, trivial, w_case⟩
end start1
theorem witness_1 : WitnessClaimed_1 := ⟨start1.p0, start1.e0, start1.about1, start1.theMethod, start1.args0, start1.below0, start1.atStart⟩
end Jvm.Pilot.@@N@@
