import JvmDerived
import JvmDerived.Pilot.@@N@@Statement
import JvmDerived.Pilot.@@N@@Code
set_option linter.unusedVariables false
set_option linter.unusedSimpArgs false
namespace Jvm.RoadKit
open Sem ClassFile Op Lib Jvm.Stand Jvm.Free Jvm.LawKit
section New
variable {p : Program} {l : Launch} {e : Env} {R : Room} {s : State} {m : MethodId} {args : Array Value} {below : List Frame} {meth : Method} {c : Code} {T : State} {locs : List Loc} {cells slots : Nat}
theorem retI (X : Stand p l e R s m args below meth c T locs cells slots) (hx : p.tables.exec = Jvm.exec) {pc : Nat} {Ls : Array Slot} {z : Int32} {rest : List Value} (hret : meth.sig.returnType = some .int) (hd : decode c.code pc = .ok (.ireturn, 1)) {fs : List Frame}
    (hl : ∀ (f : JFrame) (acts : List Action), f.method = m → f.locked = none → f.entered = [] → (doReturn e (T.setTop f) acts (some (.int z))).1 = T.setFrames fs) : Steps p.tables e below (T.setTop (mkF m pc Ls (.int z :: rest))) (T.setFrames fs) := by
  have hm' : T.vm.method? m = some meth := X.method'
  have hn : narrow .int (.int z) = .int z := rfl
  show Steps p.tables e below (T.setTop { method := m, pc := pc, locals := Ls, stack := _ :: rest, locked := none }) _
  jvm_step X.here [X.here.top, hx, hd, hm', hret, hn]
  first | (intro acts; rw [hl _ acts rfl rfl rfl]) | rw [hl _ _ rfl rfl rfl]
  exact Steps.refl _
end New
end Jvm.RoadKit
namespace Jvm.Pilot.@@N@@
open Jvm Jvm.ClassFile Sem Op Lib Jvm.Free Jvm.Stand Jvm.LawKit Jvm.RoadKit Bundle Jvm.Pilot.@@N@@.Jvm.D
theorem own_fldI {args : Array Value} {s : State} {t : Term} {C n d : String} {w : Addr} {i : Int32} (ht : t.eval args s none [] s = some (.ref w)) (h : (Cond.eq (.field t C n d) (.int i)).value args s none s [] = some true) : Fld s s.heap w C n d (.int i) := by
  refine Fld.start ?_
  have e1 : (Term.field t C n d).eval args s none [] s = s.fieldOf? w C n d := fld_at ht
  obtain ⟨x, y, ex, ey, k1, k2⟩ := cmp_v (Or.inl h)
  have hy : y = .int i := Option.some.inj (ey.symm.trans (Term.int_eval i))
  subst hy
  obtain ⟨z, rfl⟩ := k2
  have hz : z = i := by
    have := h
    simp only [Cond.value, ex, ey] at this
    simpa using this
  subst hz
  rw [← e1]; exact ex
theorem own_fldR {args : Array Value} {s : State} {t u : Term} {C n d : String} {w b : Addr} (ht : t.eval args s none [] s = some (.ref w)) (hu : u.eval args s none [] s = some (.ref b)) (h : (Cond.eq (.field t C n d) u).value args s none s [] = some true) : Fld s s.heap w C n d (.ref b) := by
  refine Fld.start ?_
  have e1 : (Term.field t C n d).eval args s none [] s = s.fieldOf? w C n d := fld_at ht
  obtain ⟨x, y, ex, ey, k1, k2⟩ := cmp_v (Or.inl h)
  have hy : y = .ref b := Option.some.inj (ey.symm.trans hu)
  subst hy
  have hx : x.isRef = true := k2.2
  have := gotT (eq_R ex ey hx rfl) h
  subst this
  rw [← e1]; exact ex
theorem ef_1 (m : MethodId) (x0 : Addr) : entryFrame m #[(.ref x0)] 1 = mkF m 0 #[.val (.ref x0)] [] := by first | (simp [entryFrame, mkF, argsToLocals, Value.category]; done) | rfl
theorem pn_com_example_heliopause_heliopause_engine_Player : plainName "com/example/heliopause/heliopause/engine/Player" = true := by first | (simp [plainName, overriddenIn]; done) | decide +kernel
theorem d1_0 : decode prog_71_method_4_code 0 = .ok (.aload_n 0, 1) := by decide +kernel
theorem d1_1 : decode prog_71_method_4_code 1 = .ok (.getstatic 3, 3) := by decide +kernel
theorem d1_4 : decode prog_71_method_4_code 4 = .ok (.if_acmp .ne 9, 3) := by decide +kernel
theorem d1_7 : decode prog_71_method_4_code 7 = .ok (.getstatic 7, 3) := by decide +kernel
theorem d1_10 : decode prog_71_method_4_code 10 = .ok (.goto 6, 3) := by decide +kernel
theorem d1_16 : decode prog_71_method_4_code 16 = .ok (.areturn, 1) := by decide +kernel
theorem d1_13 : decode prog_71_method_4_code 13 = .ok (.getstatic 3, 3) := by decide +kernel
def Q1 (Z : State) (a1 : Addr) (wA : Addr) (wB : Addr) (r : Addr) (h0 : Heap) (n0 : Nat) (v : Option Value) (h : Heap) (L : List Loc) : Prop := v = some (.ref r) ∧ Fr n0 L ∧ h = h0
set_option maxRecDepth 65536 in
set_option maxHeartbeats 40000000 in
theorem rm1 (l : Launch) (Z : State) (a0 : Array Value) (hw : ∀ d ∈ tables_1, d.before a0 Z = true) (ws : List Jvm.Cond) (a1 : Addr) (wA : Addr) (wB : Addr) (r : Addr) (h0 : Heap) (n0 : Nat) (Z0 : n0 ≤ h0.size) (S_A : Sta Z h0 "com/example/heliopause/heliopause/engine/Player" "A" "Lcom/example/heliopause/heliopause/engine/Player;" (.ref wA)) (S_B : Sta Z h0 "com/example/heliopause/heliopause/engine/Player" "B" "Lcom/example/heliopause/heliopause/engine/Player;" (.ref wB)) (hr0 : (if a1 = wA then wB else wA) = r) :
    MetFree l (⟨"com/example/heliopause/heliopause/engine/Player", "opponent", "()Lcom/example/heliopause/heliopause/engine/Player;"⟩ : MethodName) (head1 (Jvm.Cond.code (⟨"com/example/heliopause/heliopause/engine/Player", "opponent", "()Lcom/example/heliopause/heliopause/engine/Player;"⟩ : MethodName) prog_71_method_4_code 1 (some (.object "com/example/heliopause/heliopause/engine/Player")) :: ws) ({ frames := 0, cells := 0, slots := 0, locals := 0 } : Room)) (fun a U => a = #[(.ref a1)] ∧ Z.Warmed39 U.vm ∧ U.heap = h0) (fun _ _ _ _ _ => True) (fun _ U o U' => ∃ v L, o = .returned v ∧ Q1 Z a1 wA wB r h0 n0 v U'.heap L ∧ FrameEnd U o U' L ({ frames := 0, cells := 0, slots := 0, locals := 0 } : Room).cells ({ frames := 0, cells := 0, slots := 0, locals := 0 } : Room).slots) := by
  refine MetFree.of_bodySF (plainFor_of_name pn_com_example_heliopause_heliopause_engine_Player) hisR ?_
  intro p e s m args below meth c s₁ Bd hml0 hP hK
  obtain ⟨rfl, hZ, hh⟩ := hP
  have hx := Bd.exec
  have hby := Bd.bytes
  have hml : c.maxLocals = 1 := hml0
  have hown : s.vm.findClass "com/example/heliopause/heliopause/engine/Player" = some m.cls := findClass_of_methodNamed Bd.named
  have hnm := (name_of_methodNamed Bd.named Bd.method).1
  have X0 : Stand p l e ({ frames := 0, cells := 0, slots := 0, locals := 0 } : Room) s m #[(.ref a1)] below meth c s₁ [] 0 0 := Stand.of_body Bd
  have e0 : s₁.heap = h0 := by rw [← hh, Bd.state]; rfl
  have N0 := Fr.nil n0
  have k0 : ∀ t, Steps p.tables e below (s₁.setTop (mkF m 0 #[.val (.ref a1)] [])) t → Steps p.tables e below (s₁.setTop (entryFrame m #[(.ref a1)] 1)) t := fun t k => castTop (ef_1 m a1) k
  have k1 : ∀ t, Steps p.tables e below (s₁.setTop (mkF m 1 #[.val (.ref a1)] [(.ref a1)])) t → Steps p.tables e below (s₁.setTop (entryFrame m #[(.ref a1)] 1)) t := fun t q => k0 t (by
      show Steps p.tables e below (s₁.setTop (mkF m 0 #[.val (.ref a1)] [])) _
      refine XS.aloadN X0.here hx rfl (hb hby d1_0) rfl rfl ?_
      exact q)
  obtain ⟨T2, X2, e2, st2⟩ := getS2 X0 hx hZ hown (host := "") (Or.inl (hw _ (List.mem_of_getElem? (i := 10) rfl))) Via.refl e0 (S_A) (g := (mkF m 1 #[.val (.ref a1)] [(.ref a1)])) rfl (hb hby d1_1)
  have k3 : ∀ t, Steps p.tables e below (T2.setTop (mkF m 4 #[.val (.ref a1)] [(.ref wA), (.ref a1)])) t → Steps p.tables e below (s₁.setTop (entryFrame m #[(.ref a1)] 1)) t := fun t q => k1 t (st2 t q)
  by_cases ha4 : a1 = wA
  · have k4 : ∀ t, Steps p.tables e below (T2.setTop (mkF m 7 #[.val (.ref a1)] [])) t → Steps p.tables e below (s₁.setTop (entryFrame m #[(.ref a1)] 1)) t := fun t q => k3 t (by
        show Steps p.tables e below (T2.setTop (mkF m 4 #[.val (.ref a1)] [(.ref wA), (.ref a1)])) _
        refine Jvm.RoadKit.acmp (g := (mkF m 4 #[.val (.ref a1)] [(.ref wA), (.ref a1)])) X2 hx rfl rfl rfl (pc0 := 4) (pc' := 7) (same := true) rfl (hb hby d1_4) rfl (decide_eq_true (congrArg Value.ref (ha4 : a1 = wA))) (by decide) (by decide) ?_
        exact q)
    obtain ⟨T5, X5, e5, st5⟩ := getS2 X2 hx hZ hown (host := "") (Or.inl (hw _ (List.mem_of_getElem? (i := 11) rfl))) Via.refl e2 (S_B) (g := (mkF m 7 #[.val (.ref a1)] [])) rfl (hb hby d1_7)
    have k6 : ∀ t, Steps p.tables e below (T5.setTop (mkF m 10 #[.val (.ref a1)] [(.ref wB)])) t → Steps p.tables e below (s₁.setTop (entryFrame m #[(.ref a1)] 1)) t := fun t q => k4 t (st5 t q)
    have k7 : ∀ t, Steps p.tables e below (T5.setTop (mkF m 16 #[.val (.ref a1)] [(.ref wB)])) t → Steps p.tables e below (s₁.setTop (entryFrame m #[(.ref a1)] 1)) t := fun t q => k6 t (by
        show Steps p.tables e below (T5.setTop (mkF m 10 #[.val (.ref a1)] [(.ref wB)])) _
        refine XS.goto X5.here hx rfl (pc0 := 10) (pc' := 16) rfl (hb hby d1_10) (by decide) (by decide) ?_
        exact q)
    obtain ⟨fs, hr, hrun, hended, hW, hsame⟩ := X5.leave (v := some (.ref wB)) (fun h => by rw [Bd.returns] at h; cases h)
    refine ⟨_, _, k7 _ ?_, hrun, hended, _, _, rfl, ?_, ⟨_, rfl⟩, hW, hsame.mono (by decide) (by decide)⟩
    · exact retOut X5 hx Bd.returns rfl (Or.inr (Or.inr (Or.inr (Or.inr ⟨rfl, rfl, rfl⟩)))) (hb hby d1_16) hr
    · show Q1 Z a1 wA wB r h0 n0 _ T5.heap _
      rw [e5]
      exact ⟨by rw [if_pos ha4] at hr0; rw [hr0], N0, rfl⟩
  · have k8 : ∀ t, Steps p.tables e below (T2.setTop (mkF m 13 #[.val (.ref a1)] [])) t → Steps p.tables e below (s₁.setTop (entryFrame m #[(.ref a1)] 1)) t := fun t q => k3 t (by
        show Steps p.tables e below (T2.setTop (mkF m 4 #[.val (.ref a1)] [(.ref wA), (.ref a1)])) _
        refine Jvm.RoadKit.acmp (g := (mkF m 4 #[.val (.ref a1)] [(.ref wA), (.ref a1)])) X2 hx rfl rfl rfl (pc0 := 4) (pc' := 13) (same := false) rfl (hb hby d1_4) rfl (decide_eq_false fun q => (ha4 : ¬ (a1 = wA)) (Value.ref.inj q)) (by decide) (by decide) ?_
        exact q)
    obtain ⟨T9, X9, e9, st9⟩ := getS2 X2 hx hZ hown (host := "") (Or.inl (hw _ (List.mem_of_getElem? (i := 10) rfl))) Via.refl e2 (S_A) (g := (mkF m 13 #[.val (.ref a1)] [])) rfl (hb hby d1_13)
    have k10 : ∀ t, Steps p.tables e below (T9.setTop (mkF m 16 #[.val (.ref a1)] [(.ref wA)])) t → Steps p.tables e below (s₁.setTop (entryFrame m #[(.ref a1)] 1)) t := fun t q => k8 t (st9 t q)
    obtain ⟨fs, hr, hrun, hended, hW, hsame⟩ := X9.leave (v := some (.ref wA)) (fun h => by rw [Bd.returns] at h; cases h)
    refine ⟨_, _, k10 _ ?_, hrun, hended, _, _, rfl, ?_, ⟨_, rfl⟩, hW, hsame.mono (by decide) (by decide)⟩
    · exact retOut X9 hx Bd.returns rfl (Or.inr (Or.inr (Or.inr (Or.inr ⟨rfl, rfl, rfl⟩)))) (hb hby d1_16) hr
    · show Q1 Z a1 wA wB r h0 n0 _ T9.heap _
      rw [e9]
      exact ⟨by rw [if_neg ha4] at hr0; rw [hr0], N0, rfl⟩
theorem ef_L (m : MethodId) (x0 : Int32) : entryFrame m #[(.int x0)] maxLocals = mkF m 0 #[.val (.int x0), .unset, .unset, .unset, .unset, .unset] [] := by first | (simp [entryFrame, mkF, argsToLocals, Value.category, maxLocals]; done) | rfl
theorem pn_com_example_heliopause_heliopause_engine_PlayerOpponentPinLaw : plainName "com/example/heliopause/heliopause/engine/PlayerOpponentPinLaw" = true := by first | (simp [plainName, overriddenIn]; done) | decide +kernel
theorem pd___Lcom_example_heliopause_heliopause_engine_Player_ : parseMethodDescriptor "()Lcom/example/heliopause/heliopause/engine/Player;" = some ⟨[], some (.object "com/example/heliopause/heliopause/engine/Player")⟩ := by decide +kernel
def QL (Z : State) (p1 : Int32) (wA : Addr) (wB : Addr) (h0 : Heap) (n0 : Nat) (v : Option Value) (h : Heap) (L : List Loc) : Prop := v = some (.int (1 : Int32)) ∧ Fr n0 L
set_option maxRecDepth 65536 in
set_option maxHeartbeats 40000000 in
theorem rmL (l : Launch) (Z : State) (a0 : Array Value) (hw : ∀ d ∈ tables_1, d.before a0 Z = true) (ws : List Jvm.Cond) (p1 : Int32) (wA : Addr) (wB : Addr) (h0 : Heap) (n0 : Nat) (Z0 : n0 ≤ h0.size) (S_A : Sta Z h0 "com/example/heliopause/heliopause/engine/Player" "A" "Lcom/example/heliopause/heliopause/engine/Player;" (.ref wA)) (S_B : Sta Z h0 "com/example/heliopause/heliopause/engine/Player" "B" "Lcom/example/heliopause/heliopause/engine/Player;" (.ref wB)) (E_A : Exa Z h0 wA "com/example/heliopause/heliopause/engine/Player") (E_B : Exa Z h0 wB "com/example/heliopause/heliopause/engine/Player") (hAB : wA ≠ wB) :
    MetFree l x (head1 (Jvm.Cond.code x code maxLocals ret :: ws) room_1) (fun a U => a = #[(.int p1)] ∧ Z.Warmed39 U.vm ∧ U.heap = h0) (fun _ _ _ _ _ => True) (fun _ U o U' => ∃ v L, o = .returned v ∧ QL Z p1 wA wB h0 n0 v U'.heap L ∧ FrameEnd U o U' L room_1.cells room_1.slots) := by
  refine MetFree.of_bodySF (plainFor_of_name pn_com_example_heliopause_heliopause_engine_PlayerOpponentPinLaw) hisR ?_
  intro p e s m args below meth c s₁ Bd hml0 hP hK
  obtain ⟨rfl, hZ, hh⟩ := hP
  have hx := Bd.exec
  have hby := Bd.bytes
  have hml : c.maxLocals = 6 := hml0
  have hown : s.vm.findClass "com/example/heliopause/heliopause/engine/PlayerOpponentPinLaw" = some m.cls := findClass_of_methodNamed Bd.named
  have hnm := (name_of_methodNamed Bd.named Bd.method).1
  have X0 : Stand p l e room_1 s m #[(.int p1)] below meth c s₁ [] 0 0 := Stand.of_body Bd
  have e0 : s₁.heap = h0 := by rw [← hh, Bd.state]; rfl
  have N0 := Fr.nil n0
  have k0 : ∀ t, Steps p.tables e below (s₁.setTop (mkF m 0 #[.val (.int p1), .unset, .unset, .unset, .unset, .unset] [])) t → Steps p.tables e below (s₁.setTop (entryFrame m #[(.int p1)] maxLocals)) t := fun t k => castTop (ef_L m p1) k
  have k1 : ∀ t, Steps p.tables e below (s₁.setTop (mkF m 3 #[.val (.int p1), .unset, .unset, .unset, .unset, .unset] [(.int (p1 &&& (1 : Int32)))])) t → Steps p.tables e below (s₁.setTop (entryFrame m #[(.int p1)] maxLocals)) t := fun t q => k0 t (by
      show Steps p.tables e below (s₁.setTop (mkF m 0 #[.val (.int p1), .unset, .unset, .unset, .unset, .unset] [])) _
      refine XS.iloadN X0.here hx rfl (hb hby at_0) rfl ?_
      show Steps p.tables e below (s₁.setTop (mkF m 1 #[.val (.int p1), .unset, .unset, .unset, .unset, .unset] [(.int p1)])) _
      refine XS.iconst X0.here hx rfl (hb hby at_1) ?_
      show Steps p.tables e below (s₁.setTop (mkF m 2 #[.val (.int p1), .unset, .unset, .unset, .unset, .unset] [(.int (1 : Int32)), (.int p1)])) _
      refine XS.iand X0.here hx rfl (hb hby at_2) rfl ?_
      exact q)
  by_cases hc3 : (p1 &&& (1 : Int32)) = (0 : Int32)
  · have k2 : ∀ t, Steps p.tables e below (s₁.setTop (mkF m 22 #[.val (.int p1), .val (.int (0 : Int32)), .unset, .unset, .unset, .unset] [])) t → Steps p.tables e below (s₁.setTop (entryFrame m #[(.int p1)] maxLocals)) t := fun t q => k1 t (by
        show Steps p.tables e below (s₁.setTop (mkF m 3 #[.val (.int p1), .unset, .unset, .unset, .unset, .unset] [(.int (p1 &&& (1 : Int32)))])) _
        refine XS.ifYes X0.here hx rfl (pc0 := 3) (pc' := 10) rfl (hb hby at_3) rfl ((if0 _ _).trans (teq (hc3 : (p1 &&& (1 : Int32)) = (0 : Int32))).1) (by decide) (by decide) ?_
        show Steps p.tables e below (s₁.setTop (mkF m 10 #[.val (.int p1), .unset, .unset, .unset, .unset, .unset] [])) _
        refine XS.iconst X0.here hx rfl (hb hby at_10) ?_
        show Steps p.tables e below (s₁.setTop (mkF m 11 #[.val (.int p1), .unset, .unset, .unset, .unset, .unset] [(.int (0 : Int32))])) _
        refine XS.istoreN X0.here hx rfl (hb hby at_11) rfl (l' := #[.val (.int p1), .val (.int (0 : Int32)), .unset, .unset, .unset, .unset]) rfl ?_
        show Steps p.tables e below (s₁.setTop (mkF m 12 #[.val (.int p1), .val (.int (0 : Int32)), .unset, .unset, .unset, .unset] [])) _
        refine XS.iloadN X0.here hx rfl (hb hby at_12) rfl ?_
        show Steps p.tables e below (s₁.setTop (mkF m 13 #[.val (.int p1), .val (.int (0 : Int32)), .unset, .unset, .unset, .unset] [(.int (0 : Int32))])) _
        refine XS.ifYes X0.here hx rfl (pc0 := 13) (pc' := 22) rfl (hb hby at_13) rfl ((if0 _ _).trans (teq (by decide : (0 : Int32) = (0 : Int32))).1) (by decide) (by decide) ?_
        exact q)
    obtain ⟨T3, X3, e3, st3⟩ := getS2 X0 hx hZ hown (host := "") (Or.inl (hw _ (List.mem_of_getElem? (i := 0) rfl))) Via.refl e0 (S_A) (g := (mkF m 22 #[.val (.int p1), .val (.int (0 : Int32)), .unset, .unset, .unset, .unset] [])) rfl (hb hby at_22)
    have k4 : ∀ t, Steps p.tables e below (T3.setTop (mkF m 25 #[.val (.int p1), .val (.int (0 : Int32)), .unset, .unset, .unset, .unset] [(.ref wA)])) t → Steps p.tables e below (s₁.setTop (entryFrame m #[(.int p1)] maxLocals)) t := fun t q => k2 t (st3 t q)
    have k5 : ∀ t, Steps p.tables e below (T3.setTop (mkF m 36 #[.val (.int p1), .val (.int (0 : Int32)), .val (.ref wA), .unset, .unset, .unset] [])) t → Steps p.tables e below (s₁.setTop (entryFrame m #[(.int p1)] maxLocals)) t := fun t q => k4 t (by
        show Steps p.tables e below (T3.setTop (mkF m 25 #[.val (.int p1), .val (.int (0 : Int32)), .unset, .unset, .unset, .unset] [(.ref wA)])) _
        refine XS.astoreN X3.here hx rfl (hb hby at_25) rfl rfl (l' := #[.val (.int p1), .val (.int (0 : Int32)), .val (.ref wA), .unset, .unset, .unset]) rfl ?_
        show Steps p.tables e below (T3.setTop (mkF m 26 #[.val (.int p1), .val (.int (0 : Int32)), .val (.ref wA), .unset, .unset, .unset] [])) _
        refine XS.iloadN X3.here hx rfl (hb hby at_26) rfl ?_
        show Steps p.tables e below (T3.setTop (mkF m 27 #[.val (.int p1), .val (.int (0 : Int32)), .val (.ref wA), .unset, .unset, .unset] [(.int (0 : Int32))])) _
        refine XS.ifYes X3.here hx rfl (pc0 := 27) (pc' := 36) rfl (hb hby at_27) rfl ((if0 _ _).trans (teq (by decide : (0 : Int32) = (0 : Int32))).1) (by decide) (by decide) ?_
        exact q)
    obtain ⟨T6, X6, e6, st6⟩ := getS2 X3 hx hZ hown (host := "") (Or.inl (hw _ (List.mem_of_getElem? (i := 3) rfl))) Via.refl e3 (S_B) (g := (mkF m 36 #[.val (.int p1), .val (.int (0 : Int32)), .val (.ref wA), .unset, .unset, .unset] [])) rfl (hb hby at_36)
    have k7 : ∀ t, Steps p.tables e below (T6.setTop (mkF m 39 #[.val (.int p1), .val (.int (0 : Int32)), .val (.ref wA), .unset, .unset, .unset] [(.ref wB)])) t → Steps p.tables e below (s₁.setTop (entryFrame m #[(.int p1)] maxLocals)) t := fun t q => k5 t (st6 t q)
    have k8 : ∀ t, Steps p.tables e below (T6.setTop (mkF m 41 #[.val (.int p1), .val (.int (0 : Int32)), .val (.ref wA), .val (.ref wB), .unset, .unset] [(.ref wA)])) t → Steps p.tables e below (s₁.setTop (entryFrame m #[(.int p1)] maxLocals)) t := fun t q => k7 t (by
        show Steps p.tables e below (T6.setTop (mkF m 39 #[.val (.int p1), .val (.int (0 : Int32)), .val (.ref wA), .unset, .unset, .unset] [(.ref wB)])) _
        refine XS.astoreN X6.here hx rfl (hb hby at_39) rfl rfl (l' := #[.val (.int p1), .val (.int (0 : Int32)), .val (.ref wA), .val (.ref wB), .unset, .unset]) rfl ?_
        show Steps p.tables e below (T6.setTop (mkF m 40 #[.val (.int p1), .val (.int (0 : Int32)), .val (.ref wA), .val (.ref wB), .unset, .unset] [])) _
        refine XS.aloadN X6.here hx rfl (hb hby at_40) rfl rfl ?_
        exact q)
    obtain ⟨cq9, kq9, q9a, q9b, q9c⟩ := isOf hZ e6 (E_A)
    obtain ⟨_, _, ⟨T9, L9, kk9, nn9⟩, -, X9, ⟨Lc9, hQ9, l9, y9, z9⟩, st9⟩ := X6.virtualBack hx (y := (⟨"com/example/heliopause/heliopause/engine/Player", "opponent", "()Lcom/example/heliopause/heliopause/engine/Player;"⟩ : MethodName)) (z := (⟨"com/example/heliopause/heliopause/engine/Player", "opponent", "()Lcom/example/heliopause/heliopause/engine/Player;"⟩ : MethodName)) hown (mvT hZ (hw _ (List.mem_of_getElem? (i := 5) rfl))) (mvT hZ (hw _ (List.mem_of_getElem? (i := 6) rfl))) (notFace_of_selects (args := #[]) (mvT hZ (hw _ (List.mem_of_getElem? (i := 8) rfl)))) (mvT hZ (hw _ (List.mem_of_getElem? (i := 8) rfl))) (mvT hZ (hw _ (List.mem_of_getElem? (i := 7) rfl))) (by decide) (backOf (W := 0) (rm1 l Z a0 hw [] wA wA wB wB h0 n0 Z0 S_A S_B (if_pos rfl)) hZ (hw _ (List.mem_of_getElem? (i := 9) rfl)) (hw _ (List.mem_of_getElem? (i := 1) rfl)) (by decide) (by decide)) q9a q9c (g := (mkF m 41 #[.val (.int p1), .val (.int (0 : Int32)), .val (.ref wA), .val (.ref wB), .unset, .unset] [(.ref wA)])) rfl (by rw [hml]; rfl) (Steps.refl _) (argsL := []) (rest := []) (lenOf pd___Lcom_example_heliopause_heliopause_engine_Player_ rfl) rfl (by show 2 * 0 + _ ≤ _; exact Nat.le_of_eq rfl) (hb hby at_41) (fun _ _ => ⟨rfl, e6, (by decide : 0 + 0 ≤ _), (by decide : 0 + 0 ≤ _)⟩)
    dsimp only [Pt.U, Pt.locs, Pt.cells, Pt.slots] at X9 l9 y9 z9 st9 hQ9
    subst l9 y9 z9
    obtain ⟨rfl, N9q, e9⟩ := hQ9
    have N9 := Fr.app N0 N9q
    have k10 : ∀ t, Steps p.tables e below (T9.setTop (mkF m 44 #[.val (.int p1), .val (.int (0 : Int32)), .val (.ref wA), .val (.ref wB), .unset, .unset] [(.ref wB)])) t → Steps p.tables e below (s₁.setTop (entryFrame m #[(.int p1)] maxLocals)) t := fun t q => k8 t (st9.trans q)
    have k11 : ∀ t, Steps p.tables e below (T9.setTop (mkF m 55 #[.val (.int p1), .val (.int (0 : Int32)), .val (.ref wA), .val (.ref wB), .val (.ref wB), .unset] [(.ref wB)])) t → Steps p.tables e below (s₁.setTop (entryFrame m #[(.int p1)] maxLocals)) t := fun t q => k10 t (by
        show Steps p.tables e below (T9.setTop (mkF m 44 #[.val (.int p1), .val (.int (0 : Int32)), .val (.ref wA), .val (.ref wB), .unset, .unset] [(.ref wB)])) _
        refine XS.astore X9.here hx rfl (hb hby at_44) rfl rfl (l' := #[.val (.int p1), .val (.int (0 : Int32)), .val (.ref wA), .val (.ref wB), .val (.ref wB), .unset]) rfl ?_
        show Steps p.tables e below (T9.setTop (mkF m 46 #[.val (.int p1), .val (.int (0 : Int32)), .val (.ref wA), .val (.ref wB), .val (.ref wB), .unset] [])) _
        refine XS.aload X9.here hx rfl (hb hby at_46) rfl rfl ?_
        show Steps p.tables e below (T9.setTop (mkF m 48 #[.val (.int p1), .val (.int (0 : Int32)), .val (.ref wA), .val (.ref wB), .val (.ref wB), .unset] [(.ref wB)])) _
        refine XS.ifnonnullYes X9.here hx rfl (pc0 := 48) (pc' := 53) rfl (hb hby at_48) rfl (by decide) (by decide) ?_
        show Steps p.tables e below (T9.setTop (mkF m 53 #[.val (.int p1), .val (.int (0 : Int32)), .val (.ref wA), .val (.ref wB), .val (.ref wB), .unset] [])) _
        refine XS.aload X9.here hx rfl (hb hby at_53) rfl rfl ?_
        exact q)
    obtain ⟨cq12, kq12, q12a, q12b, q12c⟩ := isOf hZ e9 (E_B)
    obtain ⟨_, _, ⟨T12, L12, kk12, nn12⟩, -, X12, ⟨Lc12, hQ12, l12, y12, z12⟩, st12⟩ := X9.virtualBack hx (y := (⟨"com/example/heliopause/heliopause/engine/Player", "opponent", "()Lcom/example/heliopause/heliopause/engine/Player;"⟩ : MethodName)) (z := (⟨"com/example/heliopause/heliopause/engine/Player", "opponent", "()Lcom/example/heliopause/heliopause/engine/Player;"⟩ : MethodName)) hown (mvT hZ (hw _ (List.mem_of_getElem? (i := 5) rfl))) (mvT hZ (hw _ (List.mem_of_getElem? (i := 6) rfl))) (notFace_of_selects (args := #[]) (mvT hZ (hw _ (List.mem_of_getElem? (i := 8) rfl)))) (mvT hZ (hw _ (List.mem_of_getElem? (i := 8) rfl))) (mvT hZ (hw _ (List.mem_of_getElem? (i := 7) rfl))) (by decide) (backOf (W := 0) (rm1 l Z a0 hw [] wB wA wB wA h0 n0 Z0 S_A S_B (if_neg (Ne.symm hAB))) hZ (hw _ (List.mem_of_getElem? (i := 9) rfl)) (hw _ (List.mem_of_getElem? (i := 1) rfl)) (by decide) (by decide)) q12a q12c (g := (mkF m 55 #[.val (.int p1), .val (.int (0 : Int32)), .val (.ref wA), .val (.ref wB), .val (.ref wB), .unset] [(.ref wB)])) rfl (by rw [hml]; rfl) (Steps.refl _) (argsL := []) (rest := []) (lenOf pd___Lcom_example_heliopause_heliopause_engine_Player_ rfl) rfl (by show 2 * 0 + _ ≤ _; exact Nat.le_of_eq rfl) (hb hby at_55) (fun _ _ => ⟨rfl, e9, (by decide : 0 + 0 + 0 ≤ _), (by decide : 0 + 0 + 0 ≤ _)⟩)
    dsimp only [Pt.U, Pt.locs, Pt.cells, Pt.slots] at X12 l12 y12 z12 st12 hQ12
    subst l12 y12 z12
    obtain ⟨rfl, N12q, e12⟩ := hQ12
    have N12 := Fr.app N9 N12q
    have k13 : ∀ t, Steps p.tables e below (T12.setTop (mkF m 58 #[.val (.int p1), .val (.int (0 : Int32)), .val (.ref wA), .val (.ref wB), .val (.ref wB), .unset] [(.ref wA)])) t → Steps p.tables e below (s₁.setTop (entryFrame m #[(.int p1)] maxLocals)) t := fun t q => k11 t (st12.trans q)
    have k14 : ∀ t, Steps p.tables e below (T12.setTop (mkF m 83 #[.val (.int p1), .val (.int (0 : Int32)), .val (.ref wA), .val (.ref wB), .val (.ref wB), .val (.ref wA)] [(.int (1 : Int32))])) t → Steps p.tables e below (s₁.setTop (entryFrame m #[(.int p1)] maxLocals)) t := fun t q => k13 t (by
        show Steps p.tables e below (T12.setTop (mkF m 58 #[.val (.int p1), .val (.int (0 : Int32)), .val (.ref wA), .val (.ref wB), .val (.ref wB), .unset] [(.ref wA)])) _
        refine XS.astore X12.here hx rfl (hb hby at_58) rfl rfl (l' := #[.val (.int p1), .val (.int (0 : Int32)), .val (.ref wA), .val (.ref wB), .val (.ref wB), .val (.ref wA)]) rfl ?_
        show Steps p.tables e below (T12.setTop (mkF m 60 #[.val (.int p1), .val (.int (0 : Int32)), .val (.ref wA), .val (.ref wB), .val (.ref wB), .val (.ref wA)] [])) _
        refine XS.aload X12.here hx rfl (hb hby at_60) rfl rfl ?_
        show Steps p.tables e below (T12.setTop (mkF m 62 #[.val (.int p1), .val (.int (0 : Int32)), .val (.ref wA), .val (.ref wB), .val (.ref wB), .val (.ref wA)] [(.ref wB)])) _
        refine XS.aloadN X12.here hx rfl (hb hby at_62) rfl rfl ?_
        show Steps p.tables e below (T12.setTop (mkF m 63 #[.val (.int p1), .val (.int (0 : Int32)), .val (.ref wA), .val (.ref wB), .val (.ref wB), .val (.ref wA)] [(.ref wB), (.ref wB)])) _
        refine Jvm.RoadKit.acmp (g := (mkF m 63 #[.val (.int p1), .val (.int (0 : Int32)), .val (.ref wA), .val (.ref wB), .val (.ref wB), .val (.ref wA)] [(.ref wB), (.ref wB)])) X12 hx rfl rfl rfl (pc0 := 63) (pc' := 66) (same := true) rfl (hb hby at_63) rfl (decide_eq_true rfl) (by decide) (by decide) ?_
        show Steps p.tables e below (T12.setTop (mkF m 66 #[.val (.int p1), .val (.int (0 : Int32)), .val (.ref wA), .val (.ref wB), .val (.ref wB), .val (.ref wA)] [])) _
        refine XS.aload X12.here hx rfl (hb hby at_66) rfl rfl ?_
        show Steps p.tables e below (T12.setTop (mkF m 68 #[.val (.int p1), .val (.int (0 : Int32)), .val (.ref wA), .val (.ref wB), .val (.ref wB), .val (.ref wA)] [(.ref wB)])) _
        refine XS.aloadN X12.here hx rfl (hb hby at_68) rfl rfl ?_
        show Steps p.tables e below (T12.setTop (mkF m 69 #[.val (.int p1), .val (.int (0 : Int32)), .val (.ref wA), .val (.ref wB), .val (.ref wB), .val (.ref wA)] [(.ref wA), (.ref wB)])) _
        refine Jvm.RoadKit.acmp (g := (mkF m 69 #[.val (.int p1), .val (.int (0 : Int32)), .val (.ref wA), .val (.ref wB), .val (.ref wB), .val (.ref wA)] [(.ref wA), (.ref wB)])) X12 hx rfl rfl rfl (pc0 := 69) (pc' := 72) (same := false) rfl (hb hby at_69) rfl (decide_eq_false fun q => (Ne.symm hAB : ¬ (wB = wA)) (Value.ref.inj q)) (by decide) (by decide) ?_
        show Steps p.tables e below (T12.setTop (mkF m 72 #[.val (.int p1), .val (.int (0 : Int32)), .val (.ref wA), .val (.ref wB), .val (.ref wB), .val (.ref wA)] [])) _
        refine XS.aload X12.here hx rfl (hb hby at_72) rfl rfl ?_
        show Steps p.tables e below (T12.setTop (mkF m 74 #[.val (.int p1), .val (.int (0 : Int32)), .val (.ref wA), .val (.ref wB), .val (.ref wB), .val (.ref wA)] [(.ref wA)])) _
        refine XS.aloadN X12.here hx rfl (hb hby at_74) rfl rfl ?_
        show Steps p.tables e below (T12.setTop (mkF m 75 #[.val (.int p1), .val (.int (0 : Int32)), .val (.ref wA), .val (.ref wB), .val (.ref wB), .val (.ref wA)] [(.ref wA), (.ref wA)])) _
        refine Jvm.RoadKit.acmp (g := (mkF m 75 #[.val (.int p1), .val (.int (0 : Int32)), .val (.ref wA), .val (.ref wB), .val (.ref wB), .val (.ref wA)] [(.ref wA), (.ref wA)])) X12 hx rfl rfl rfl (pc0 := 75) (pc' := 78) (same := true) rfl (hb hby at_75) rfl (decide_eq_true rfl) (by decide) (by decide) ?_
        show Steps p.tables e below (T12.setTop (mkF m 78 #[.val (.int p1), .val (.int (0 : Int32)), .val (.ref wA), .val (.ref wB), .val (.ref wB), .val (.ref wA)] [])) _
        refine XS.iconst X12.here hx rfl (hb hby at_78) ?_
        show Steps p.tables e below (T12.setTop (mkF m 79 #[.val (.int p1), .val (.int (0 : Int32)), .val (.ref wA), .val (.ref wB), .val (.ref wB), .val (.ref wA)] [(.int (1 : Int32))])) _
        refine XS.goto X12.here hx rfl (pc0 := 79) (pc' := 83) rfl (hb hby at_79) (by decide) (by decide) ?_
        exact q)
    obtain ⟨fs, hr, hrun, hended, hW, hsame⟩ := X12.leave (v := some (.int (1 : Int32))) (fun h => by rw [Bd.returns] at h; cases h)
    refine ⟨_, _, k14 _ ?_, hrun, hended, _, _, rfl, ?_, ⟨_, rfl⟩, hW, hsame.mono (by decide) (by decide)⟩
    · exact retN X12 hx (t := .boolean) Bd.returns (by simp) (hb hby at_83) hr
    · show QL Z p1 wA wB h0 n0 _ T12.heap _
      exact ⟨rfl, N12⟩
  · have k15 : ∀ t, Steps p.tables e below (s₁.setTop (mkF m 16 #[.val (.int p1), .val (.int (1 : Int32)), .unset, .unset, .unset, .unset] [])) t → Steps p.tables e below (s₁.setTop (entryFrame m #[(.int p1)] maxLocals)) t := fun t q => k1 t (by
        show Steps p.tables e below (s₁.setTop (mkF m 3 #[.val (.int p1), .unset, .unset, .unset, .unset, .unset] [(.int (p1 &&& (1 : Int32)))])) _
        refine XS.ifNo X0.here hx rfl (hb hby at_3) rfl ((if0 _ _).trans (feq (hc3 : ¬ ((p1 &&& (1 : Int32)) = (0 : Int32)))).1) ?_
        show Steps p.tables e below (s₁.setTop (mkF m 6 #[.val (.int p1), .unset, .unset, .unset, .unset, .unset] [])) _
        refine XS.iconst X0.here hx rfl (hb hby at_6) ?_
        show Steps p.tables e below (s₁.setTop (mkF m 7 #[.val (.int p1), .unset, .unset, .unset, .unset, .unset] [(.int (1 : Int32))])) _
        refine XS.goto X0.here hx rfl (pc0 := 7) (pc' := 11) rfl (hb hby at_7) (by decide) (by decide) ?_
        show Steps p.tables e below (s₁.setTop (mkF m 11 #[.val (.int p1), .unset, .unset, .unset, .unset, .unset] [(.int (1 : Int32))])) _
        refine XS.istoreN X0.here hx rfl (hb hby at_11) rfl (l' := #[.val (.int p1), .val (.int (1 : Int32)), .unset, .unset, .unset, .unset]) rfl ?_
        show Steps p.tables e below (s₁.setTop (mkF m 12 #[.val (.int p1), .val (.int (1 : Int32)), .unset, .unset, .unset, .unset] [])) _
        refine XS.iloadN X0.here hx rfl (hb hby at_12) rfl ?_
        show Steps p.tables e below (s₁.setTop (mkF m 13 #[.val (.int p1), .val (.int (1 : Int32)), .unset, .unset, .unset, .unset] [(.int (1 : Int32))])) _
        refine XS.ifNo X0.here hx rfl (hb hby at_13) rfl ((if0 _ _).trans (feq (by decide : ¬ ((1 : Int32) = (0 : Int32)))).1) ?_
        exact q)
    obtain ⟨T16, X16, e16, st16⟩ := getS2 X0 hx hZ hown (host := "") (Or.inl (hw _ (List.mem_of_getElem? (i := 3) rfl))) Via.refl e0 (S_B) (g := (mkF m 16 #[.val (.int p1), .val (.int (1 : Int32)), .unset, .unset, .unset, .unset] [])) rfl (hb hby at_16)
    have k17 : ∀ t, Steps p.tables e below (T16.setTop (mkF m 19 #[.val (.int p1), .val (.int (1 : Int32)), .unset, .unset, .unset, .unset] [(.ref wB)])) t → Steps p.tables e below (s₁.setTop (entryFrame m #[(.int p1)] maxLocals)) t := fun t q => k15 t (st16 t q)
    have k18 : ∀ t, Steps p.tables e below (T16.setTop (mkF m 30 #[.val (.int p1), .val (.int (1 : Int32)), .val (.ref wB), .unset, .unset, .unset] [])) t → Steps p.tables e below (s₁.setTop (entryFrame m #[(.int p1)] maxLocals)) t := fun t q => k17 t (by
        show Steps p.tables e below (T16.setTop (mkF m 19 #[.val (.int p1), .val (.int (1 : Int32)), .unset, .unset, .unset, .unset] [(.ref wB)])) _
        refine XS.goto X16.here hx rfl (pc0 := 19) (pc' := 25) rfl (hb hby at_19) (by decide) (by decide) ?_
        show Steps p.tables e below (T16.setTop (mkF m 25 #[.val (.int p1), .val (.int (1 : Int32)), .unset, .unset, .unset, .unset] [(.ref wB)])) _
        refine XS.astoreN X16.here hx rfl (hb hby at_25) rfl rfl (l' := #[.val (.int p1), .val (.int (1 : Int32)), .val (.ref wB), .unset, .unset, .unset]) rfl ?_
        show Steps p.tables e below (T16.setTop (mkF m 26 #[.val (.int p1), .val (.int (1 : Int32)), .val (.ref wB), .unset, .unset, .unset] [])) _
        refine XS.iloadN X16.here hx rfl (hb hby at_26) rfl ?_
        show Steps p.tables e below (T16.setTop (mkF m 27 #[.val (.int p1), .val (.int (1 : Int32)), .val (.ref wB), .unset, .unset, .unset] [(.int (1 : Int32))])) _
        refine XS.ifNo X16.here hx rfl (hb hby at_27) rfl ((if0 _ _).trans (feq (by decide : ¬ ((1 : Int32) = (0 : Int32)))).1) ?_
        exact q)
    obtain ⟨T19, X19, e19, st19⟩ := getS2 X16 hx hZ hown (host := "") (Or.inl (hw _ (List.mem_of_getElem? (i := 0) rfl))) Via.refl e16 (S_A) (g := (mkF m 30 #[.val (.int p1), .val (.int (1 : Int32)), .val (.ref wB), .unset, .unset, .unset] [])) rfl (hb hby at_30)
    have k20 : ∀ t, Steps p.tables e below (T19.setTop (mkF m 33 #[.val (.int p1), .val (.int (1 : Int32)), .val (.ref wB), .unset, .unset, .unset] [(.ref wA)])) t → Steps p.tables e below (s₁.setTop (entryFrame m #[(.int p1)] maxLocals)) t := fun t q => k18 t (st19 t q)
    have k21 : ∀ t, Steps p.tables e below (T19.setTop (mkF m 41 #[.val (.int p1), .val (.int (1 : Int32)), .val (.ref wB), .val (.ref wA), .unset, .unset] [(.ref wB)])) t → Steps p.tables e below (s₁.setTop (entryFrame m #[(.int p1)] maxLocals)) t := fun t q => k20 t (by
        show Steps p.tables e below (T19.setTop (mkF m 33 #[.val (.int p1), .val (.int (1 : Int32)), .val (.ref wB), .unset, .unset, .unset] [(.ref wA)])) _
        refine XS.goto X19.here hx rfl (pc0 := 33) (pc' := 39) rfl (hb hby at_33) (by decide) (by decide) ?_
        show Steps p.tables e below (T19.setTop (mkF m 39 #[.val (.int p1), .val (.int (1 : Int32)), .val (.ref wB), .unset, .unset, .unset] [(.ref wA)])) _
        refine XS.astoreN X19.here hx rfl (hb hby at_39) rfl rfl (l' := #[.val (.int p1), .val (.int (1 : Int32)), .val (.ref wB), .val (.ref wA), .unset, .unset]) rfl ?_
        show Steps p.tables e below (T19.setTop (mkF m 40 #[.val (.int p1), .val (.int (1 : Int32)), .val (.ref wB), .val (.ref wA), .unset, .unset] [])) _
        refine XS.aloadN X19.here hx rfl (hb hby at_40) rfl rfl ?_
        exact q)
    obtain ⟨cq22, kq22, q22a, q22b, q22c⟩ := isOf hZ e19 (E_B)
    obtain ⟨_, _, ⟨T22, L22, kk22, nn22⟩, -, X22, ⟨Lc22, hQ22, l22, y22, z22⟩, st22⟩ := X19.virtualBack hx (y := (⟨"com/example/heliopause/heliopause/engine/Player", "opponent", "()Lcom/example/heliopause/heliopause/engine/Player;"⟩ : MethodName)) (z := (⟨"com/example/heliopause/heliopause/engine/Player", "opponent", "()Lcom/example/heliopause/heliopause/engine/Player;"⟩ : MethodName)) hown (mvT hZ (hw _ (List.mem_of_getElem? (i := 5) rfl))) (mvT hZ (hw _ (List.mem_of_getElem? (i := 6) rfl))) (notFace_of_selects (args := #[]) (mvT hZ (hw _ (List.mem_of_getElem? (i := 8) rfl)))) (mvT hZ (hw _ (List.mem_of_getElem? (i := 8) rfl))) (mvT hZ (hw _ (List.mem_of_getElem? (i := 7) rfl))) (by decide) (backOf (W := 0) (rm1 l Z a0 hw [] wB wA wB wA h0 n0 Z0 S_A S_B (if_neg (Ne.symm hAB))) hZ (hw _ (List.mem_of_getElem? (i := 9) rfl)) (hw _ (List.mem_of_getElem? (i := 1) rfl)) (by decide) (by decide)) q22a q22c (g := (mkF m 41 #[.val (.int p1), .val (.int (1 : Int32)), .val (.ref wB), .val (.ref wA), .unset, .unset] [(.ref wB)])) rfl (by rw [hml]; rfl) (Steps.refl _) (argsL := []) (rest := []) (lenOf pd___Lcom_example_heliopause_heliopause_engine_Player_ rfl) rfl (by show 2 * 0 + _ ≤ _; exact Nat.le_of_eq rfl) (hb hby at_41) (fun _ _ => ⟨rfl, e19, (by decide : 0 + 0 ≤ _), (by decide : 0 + 0 ≤ _)⟩)
    dsimp only [Pt.U, Pt.locs, Pt.cells, Pt.slots] at X22 l22 y22 z22 st22 hQ22
    subst l22 y22 z22
    obtain ⟨rfl, N22q, e22⟩ := hQ22
    have N22 := Fr.app N0 N22q
    have k23 : ∀ t, Steps p.tables e below (T22.setTop (mkF m 44 #[.val (.int p1), .val (.int (1 : Int32)), .val (.ref wB), .val (.ref wA), .unset, .unset] [(.ref wA)])) t → Steps p.tables e below (s₁.setTop (entryFrame m #[(.int p1)] maxLocals)) t := fun t q => k21 t (st22.trans q)
    have k24 : ∀ t, Steps p.tables e below (T22.setTop (mkF m 55 #[.val (.int p1), .val (.int (1 : Int32)), .val (.ref wB), .val (.ref wA), .val (.ref wA), .unset] [(.ref wA)])) t → Steps p.tables e below (s₁.setTop (entryFrame m #[(.int p1)] maxLocals)) t := fun t q => k23 t (by
        show Steps p.tables e below (T22.setTop (mkF m 44 #[.val (.int p1), .val (.int (1 : Int32)), .val (.ref wB), .val (.ref wA), .unset, .unset] [(.ref wA)])) _
        refine XS.astore X22.here hx rfl (hb hby at_44) rfl rfl (l' := #[.val (.int p1), .val (.int (1 : Int32)), .val (.ref wB), .val (.ref wA), .val (.ref wA), .unset]) rfl ?_
        show Steps p.tables e below (T22.setTop (mkF m 46 #[.val (.int p1), .val (.int (1 : Int32)), .val (.ref wB), .val (.ref wA), .val (.ref wA), .unset] [])) _
        refine XS.aload X22.here hx rfl (hb hby at_46) rfl rfl ?_
        show Steps p.tables e below (T22.setTop (mkF m 48 #[.val (.int p1), .val (.int (1 : Int32)), .val (.ref wB), .val (.ref wA), .val (.ref wA), .unset] [(.ref wA)])) _
        refine XS.ifnonnullYes X22.here hx rfl (pc0 := 48) (pc' := 53) rfl (hb hby at_48) rfl (by decide) (by decide) ?_
        show Steps p.tables e below (T22.setTop (mkF m 53 #[.val (.int p1), .val (.int (1 : Int32)), .val (.ref wB), .val (.ref wA), .val (.ref wA), .unset] [])) _
        refine XS.aload X22.here hx rfl (hb hby at_53) rfl rfl ?_
        exact q)
    obtain ⟨cq25, kq25, q25a, q25b, q25c⟩ := isOf hZ e22 (E_A)
    obtain ⟨_, _, ⟨T25, L25, kk25, nn25⟩, -, X25, ⟨Lc25, hQ25, l25, y25, z25⟩, st25⟩ := X22.virtualBack hx (y := (⟨"com/example/heliopause/heliopause/engine/Player", "opponent", "()Lcom/example/heliopause/heliopause/engine/Player;"⟩ : MethodName)) (z := (⟨"com/example/heliopause/heliopause/engine/Player", "opponent", "()Lcom/example/heliopause/heliopause/engine/Player;"⟩ : MethodName)) hown (mvT hZ (hw _ (List.mem_of_getElem? (i := 5) rfl))) (mvT hZ (hw _ (List.mem_of_getElem? (i := 6) rfl))) (notFace_of_selects (args := #[]) (mvT hZ (hw _ (List.mem_of_getElem? (i := 8) rfl)))) (mvT hZ (hw _ (List.mem_of_getElem? (i := 8) rfl))) (mvT hZ (hw _ (List.mem_of_getElem? (i := 7) rfl))) (by decide) (backOf (W := 0) (rm1 l Z a0 hw [] wA wA wB wB h0 n0 Z0 S_A S_B (if_pos rfl)) hZ (hw _ (List.mem_of_getElem? (i := 9) rfl)) (hw _ (List.mem_of_getElem? (i := 1) rfl)) (by decide) (by decide)) q25a q25c (g := (mkF m 55 #[.val (.int p1), .val (.int (1 : Int32)), .val (.ref wB), .val (.ref wA), .val (.ref wA), .unset] [(.ref wA)])) rfl (by rw [hml]; rfl) (Steps.refl _) (argsL := []) (rest := []) (lenOf pd___Lcom_example_heliopause_heliopause_engine_Player_ rfl) rfl (by show 2 * 0 + _ ≤ _; exact Nat.le_of_eq rfl) (hb hby at_55) (fun _ _ => ⟨rfl, e22, (by decide : 0 + 0 + 0 ≤ _), (by decide : 0 + 0 + 0 ≤ _)⟩)
    dsimp only [Pt.U, Pt.locs, Pt.cells, Pt.slots] at X25 l25 y25 z25 st25 hQ25
    subst l25 y25 z25
    obtain ⟨rfl, N25q, e25⟩ := hQ25
    have N25 := Fr.app N22 N25q
    have k26 : ∀ t, Steps p.tables e below (T25.setTop (mkF m 58 #[.val (.int p1), .val (.int (1 : Int32)), .val (.ref wB), .val (.ref wA), .val (.ref wA), .unset] [(.ref wB)])) t → Steps p.tables e below (s₁.setTop (entryFrame m #[(.int p1)] maxLocals)) t := fun t q => k24 t (st25.trans q)
    have k27 : ∀ t, Steps p.tables e below (T25.setTop (mkF m 83 #[.val (.int p1), .val (.int (1 : Int32)), .val (.ref wB), .val (.ref wA), .val (.ref wA), .val (.ref wB)] [(.int (1 : Int32))])) t → Steps p.tables e below (s₁.setTop (entryFrame m #[(.int p1)] maxLocals)) t := fun t q => k26 t (by
        show Steps p.tables e below (T25.setTop (mkF m 58 #[.val (.int p1), .val (.int (1 : Int32)), .val (.ref wB), .val (.ref wA), .val (.ref wA), .unset] [(.ref wB)])) _
        refine XS.astore X25.here hx rfl (hb hby at_58) rfl rfl (l' := #[.val (.int p1), .val (.int (1 : Int32)), .val (.ref wB), .val (.ref wA), .val (.ref wA), .val (.ref wB)]) rfl ?_
        show Steps p.tables e below (T25.setTop (mkF m 60 #[.val (.int p1), .val (.int (1 : Int32)), .val (.ref wB), .val (.ref wA), .val (.ref wA), .val (.ref wB)] [])) _
        refine XS.aload X25.here hx rfl (hb hby at_60) rfl rfl ?_
        show Steps p.tables e below (T25.setTop (mkF m 62 #[.val (.int p1), .val (.int (1 : Int32)), .val (.ref wB), .val (.ref wA), .val (.ref wA), .val (.ref wB)] [(.ref wA)])) _
        refine XS.aloadN X25.here hx rfl (hb hby at_62) rfl rfl ?_
        show Steps p.tables e below (T25.setTop (mkF m 63 #[.val (.int p1), .val (.int (1 : Int32)), .val (.ref wB), .val (.ref wA), .val (.ref wA), .val (.ref wB)] [(.ref wA), (.ref wA)])) _
        refine Jvm.RoadKit.acmp (g := (mkF m 63 #[.val (.int p1), .val (.int (1 : Int32)), .val (.ref wB), .val (.ref wA), .val (.ref wA), .val (.ref wB)] [(.ref wA), (.ref wA)])) X25 hx rfl rfl rfl (pc0 := 63) (pc' := 66) (same := true) rfl (hb hby at_63) rfl (decide_eq_true rfl) (by decide) (by decide) ?_
        show Steps p.tables e below (T25.setTop (mkF m 66 #[.val (.int p1), .val (.int (1 : Int32)), .val (.ref wB), .val (.ref wA), .val (.ref wA), .val (.ref wB)] [])) _
        refine XS.aload X25.here hx rfl (hb hby at_66) rfl rfl ?_
        show Steps p.tables e below (T25.setTop (mkF m 68 #[.val (.int p1), .val (.int (1 : Int32)), .val (.ref wB), .val (.ref wA), .val (.ref wA), .val (.ref wB)] [(.ref wA)])) _
        refine XS.aloadN X25.here hx rfl (hb hby at_68) rfl rfl ?_
        show Steps p.tables e below (T25.setTop (mkF m 69 #[.val (.int p1), .val (.int (1 : Int32)), .val (.ref wB), .val (.ref wA), .val (.ref wA), .val (.ref wB)] [(.ref wB), (.ref wA)])) _
        refine Jvm.RoadKit.acmp (g := (mkF m 69 #[.val (.int p1), .val (.int (1 : Int32)), .val (.ref wB), .val (.ref wA), .val (.ref wA), .val (.ref wB)] [(.ref wB), (.ref wA)])) X25 hx rfl rfl rfl (pc0 := 69) (pc' := 72) (same := false) rfl (hb hby at_69) rfl (decide_eq_false fun q => (hAB : ¬ (wA = wB)) (Value.ref.inj q)) (by decide) (by decide) ?_
        show Steps p.tables e below (T25.setTop (mkF m 72 #[.val (.int p1), .val (.int (1 : Int32)), .val (.ref wB), .val (.ref wA), .val (.ref wA), .val (.ref wB)] [])) _
        refine XS.aload X25.here hx rfl (hb hby at_72) rfl rfl ?_
        show Steps p.tables e below (T25.setTop (mkF m 74 #[.val (.int p1), .val (.int (1 : Int32)), .val (.ref wB), .val (.ref wA), .val (.ref wA), .val (.ref wB)] [(.ref wB)])) _
        refine XS.aloadN X25.here hx rfl (hb hby at_74) rfl rfl ?_
        show Steps p.tables e below (T25.setTop (mkF m 75 #[.val (.int p1), .val (.int (1 : Int32)), .val (.ref wB), .val (.ref wA), .val (.ref wA), .val (.ref wB)] [(.ref wB), (.ref wB)])) _
        refine Jvm.RoadKit.acmp (g := (mkF m 75 #[.val (.int p1), .val (.int (1 : Int32)), .val (.ref wB), .val (.ref wA), .val (.ref wA), .val (.ref wB)] [(.ref wB), (.ref wB)])) X25 hx rfl rfl rfl (pc0 := 75) (pc' := 78) (same := true) rfl (hb hby at_75) rfl (decide_eq_true rfl) (by decide) (by decide) ?_
        show Steps p.tables e below (T25.setTop (mkF m 78 #[.val (.int p1), .val (.int (1 : Int32)), .val (.ref wB), .val (.ref wA), .val (.ref wA), .val (.ref wB)] [])) _
        refine XS.iconst X25.here hx rfl (hb hby at_78) ?_
        show Steps p.tables e below (T25.setTop (mkF m 79 #[.val (.int p1), .val (.int (1 : Int32)), .val (.ref wB), .val (.ref wA), .val (.ref wA), .val (.ref wB)] [(.int (1 : Int32))])) _
        refine XS.goto X25.here hx rfl (pc0 := 79) (pc' := 83) rfl (hb hby at_79) (by decide) (by decide) ?_
        exact q)
    obtain ⟨fs, hr, hrun, hended, hW, hsame⟩ := X25.leave (v := some (.int (1 : Int32))) (fun h => by rw [Bd.returns] at h; cases h)
    refine ⟨_, _, k27 _ ?_, hrun, hended, _, _, rfl, ?_, ⟨_, rfl⟩, hW, hsame.mono (by decide) (by decide)⟩
    · exact retN X25 hx (t := .boolean) Bd.returns (by simp) (hb hby at_83) hr
    · show QL Z p1 wA wB h0 n0 _ T25.heap _
      exact ⟨rfl, N25⟩
set_option maxRecDepth 65536 in
set_option maxHeartbeats 40000000 in
theorem comes_1 {Post : Tables → Env → Array Value → State → Outcome → State → Prop} (hpost : ∀ tb e args s v u, (limb_1_1.after args s (.returned v) u = true ∧ limb_1_2.after args s (.returned v) u = true ∧ True) → FrameEnd s (.returned v) u (Jvm.fieldLocs frame_1_writes args s ++ Jvm.arrayLocs frame_1_arrays args s ++ Jvm.staticLocs frame_1_statics s) 0 0 → Post tb e args s (.returned v) u) :
    ArmFor flags0 classFile x code maxLocals ret World_1 tables_1 room_1 Calls_1 rest_1 Pre_1 Post := by
  intro l hfl _ _ p e ha hc hk s m args below hf hA hF happ hP
  obtain ⟨hcalls, hrest, hpre⟩ := hP
  obtain ⟨-, -, -, hnamed, -, -, -, hat⟩ := (Spec.applies_iff hf).mp happ
  obtain ⟨hg, hn⟩ := and_e (Cond.before_iff.mp (show (Jvm.Cond.and given_1 narrow_1).before args s = true from hpre))
  obtain ⟨gc, gr⟩ := and_e hg
  obtain ⟨w0, rfl⟩ : ∃ w0 : Value, args = #[w0] := by
    have hs : args.size = 1 := by simpa [Cond.value, given_1] using gc
    obtain ⟨L⟩ := args
    match L, hs with
    | [w0], _ => exact ⟨w0, rfl⟩
  have hw := fun d (hd : d ∈ tables_1) => atoms_spec (ws := Jvm.Cond.code x code maxLocals ret :: tables_1) hat d (List.mem_cons_of_mem _ hd)
  have hfit : Fit s := fun {y c} hc i hi => by
    obtain ⟨ha, rfl⟩ := Array.getElem?_eq_some_iff.mp hc
    have q := List.all_eq_true.mp ((Array.all_eq_true_iff_forall_mem.mp hF) _ (Array.getElem_mem ha)) i (List.mem_range.mpr hi)
    simpa [Array.getElem?_eq_getElem hi] using q
  obtain ⟨i0, ei0⟩ := is_v gr
  obtain rfl : w0 = (.int i0) := Option.some.inj ei0
  obtain ⟨nq0, hn⟩ := and_e hn
  obtain ⟨nq1, hn⟩ := and_e hn
  obtain ⟨nq2, hn⟩ := and_e hn
  have nq3 := hn
  obtain ⟨w_A, ev_A⟩ := exa_v nq0
  have E_A : Exa s s.heap w_A "com/example/heliopause/heliopause/engine/Player" := Exa.start ev_A nq0
  have S_A : Sta s s.heap "com/example/heliopause/heliopause/engine/Player" "A" "Lcom/example/heliopause/heliopause/engine/Player;" (.ref w_A) := Sta.start ev_A (Or.inr ⟨(hw _ (List.mem_of_getElem? (i := 1) rfl)), (hw _ (List.mem_of_getElem? (i := 2) rfl))⟩)
  obtain ⟨w_B, ev_B⟩ := exa_v nq1
  have E_B : Exa s s.heap w_B "com/example/heliopause/heliopause/engine/Player" := Exa.start ev_B nq1
  have S_B : Sta s s.heap "com/example/heliopause/heliopause/engine/Player" "B" "Lcom/example/heliopause/heliopause/engine/Player;" (.ref w_B) := Sta.start ev_B (Or.inr ⟨(hw _ (List.mem_of_getElem? (i := 1) rfl)), (hw _ (List.mem_of_getElem? (i := 4) rfl))⟩)
  have F_B_ordinal : Fld s s.heap w_B "java/lang/Enum" "ordinal" "I" (.int (1 : Int32)) := own_fldI ev_B nq2
  have F_A_ordinal : Fld s s.heap w_A "java/lang/Enum" "ordinal" "I" (.int (0 : Int32)) := own_fldI ev_A nq3
  have hAB : w_A ≠ w_B := Fld.ne F_A_ordinal F_B_ordinal (by decide)
  obtain ⟨n, o, h1, h2, h3, _, L, rfl, ⟨rfl, N⟩, hq⟩ := rmL l s _ hw tables_1 i0 w_A w_B s.heap s.heap.size (Nat.le_refl _) S_A S_B E_A E_B hAB p e ha hc hk s m _ below hf ((Spec.applies_iff_loose hf).mp happ).1 ⟨rfl, State.Warmed39.refl s, rfl⟩ trivial
  refine ⟨n, _, h1, h2, h3, hpost _ _ _ _ _ _ ⟨Cond.after_iff.mpr rfl, Cond.after_iff.mpr (eq_i res_at (Term.int_eval (1)) rfl), trivial⟩ ⟨hq.1, hq.2.1, (hq.2.2.sift fun y hy => Or.inr (N y hy)).mono (by decide) (by decide)⟩⟩
theorem main_1_1 : Claimed_1_1 := comes_1 fun _ _ _ _ _ _ h hF => ⟨h.1, hF⟩
theorem main_1_2 : Claimed_1_2 := comes_1 fun _ _ _ _ _ _ h hF => ⟨h.2.1, hF⟩
end Jvm.Pilot.@@N@@
namespace Jvm.Pilot.@@N@@
open Jvm Jvm.ClassFile Sem Op Lib Jvm.Free Jvm.Stand Jvm.Pilot.@@N@@.Jvm.D
/-! MADE BY PROGRAM (witnessworld.py) out of the Statement's table words and the real class files: 10 classes; the members and pool entries that the words name. The judged class is class 1, her method 1. -/
namespace start1
open Jvm.ClassFile
def u (s : String) : CpInfo := .utf8 (stringToUtf16 s)
/-- a pool by its gaps: so many unusable entries, then the entry; so many at the end -/
def gap : Nat → List CpInfo → List CpInfo
  | 0, r => r
  | n + 1, r => .unusable :: gap n r
def poolList (es : List (Nat × CpInfo)) (last : Nat) : List CpInfo := es.foldr (fun e r => gap e.1 (e.2 :: r)) (gap last [])
def pool (es : List (Nat × CpInfo)) (last : Nat) : Array CpInfo := ⟨poolList es last⟩
def fileOf (pool : Array CpInfo) (this : Nat) (attrs : Array Attribute := #[]) (ms : Array MethodInfo := #[]) (fl : Nat := 33) (sup : Nat := 0) (ifs : Array Nat := #[]) (fds : Array FieldInfo := #[]) : ClassFile where
  minorVersion := 0
  majorVersion := 65
  constantPool := pool
  accessFlags := fl
  thisClass := this
  superClass := sup
  interfaces := ifs
  fields := fds
  methods := ms
  attributes := attrs
def plain (name : String) (sup : Option ClassId) : Class where
  name := name
  kind := .ordinary
  loader := none
  accessFlags := 33
  super := sup
  interfaces := #[]
  cf := none
  fields := #[]
  methods := #[]
  instanceTypes := #[]
  staticTypes := #[]
  resolved := #[]
  callSites := []
  init := .initialized
  statics := none
  mirror := none

def pool0 : Array CpInfo := pool [(5, u "<init>"), (0, u "()V"), (1, .class_ 10), (1, u "java/lang/Object")] 113

def k0m0 : Method := { name := "<init>", desc := "()V", sig := { parameters := [], returnType := none }, accessFlags := 1, code := none }
/-- java/lang/Object -/
def k0 : Class := { plain "java/lang/Object" none with
  accessFlags := 33
  interfaces := #[]
  cf := some (fileOf pool0 8 #[] #[{ accessFlags := 1, nameIndex := 5, descriptorIndex := 6, attributes := #[] }] 33 0 #[] #[])
  fields := #[]
  methods := #[k0m0]
  instanceTypes := #[]
  staticTypes := #[]
  resolved := Array.replicate 124 none
  statics := none }

def pool1 : Array CpInfo := pool [(2, .class_ 4), (1, u "java/lang/Object"), (0, u "<init>"), (0, u "()V"), (0, .fieldref 8 9), (0, .class_ 10), (0, .nameAndType 11 12), (0, u "com/example/heliopause/heliopause/engine/Player"), (0, u "B"), (0, u "Lcom/example/heliopause/heliopause/engine/Player;"), (0, .fieldref 8 14), (0, .nameAndType 15 12), (0, u "A"), (0, .methodref 8 17), (0, .nameAndType 18 19), (0, u "opponent"), (0, u "()Lcom/example/heliopause/heliopause/engine/Player;"), (0, .class_ 21), (0, u "com/example/heliopause/heliopause/engine/PlayerOpponentPinLaw"), (2, u "law"), (0, u "(I)Z")] 3

def k1m0 : Method := { name := "<init>", desc := "()V", sig := { parameters := [], returnType := none }, accessFlags := 1, code := none }
def k1c1 : Code := { maxStack := 2, maxLocals := 6, code := code, exceptionTable := #[], attributes := #[] }
def k1m1 : Method := { name := "law", desc := "(I)Z", sig := { parameters := [.int], returnType := some .boolean }, accessFlags := 9, code := some k1c1 }
/-- com/example/heliopause/heliopause/engine/PlayerOpponentPinLaw -/
def k1 : Class := { plain "com/example/heliopause/heliopause/engine/PlayerOpponentPinLaw" (some 0) with
  accessFlags := 49
  interfaces := #[]
  cf := some (fileOf pool1 20 #[] #[{ accessFlags := 1, nameIndex := 5, descriptorIndex := 6, attributes := #[] }, { accessFlags := 9, nameIndex := 24, descriptorIndex := 25, attributes := #[] }] 49 2 #[] #[])
  fields := #[]
  methods := #[k1m0, k1m1]
  instanceTypes := #[]
  staticTypes := #[]
  resolved := Array.replicate 29 none
  statics := none }

def pool2 : Array CpInfo := pool [(1, .class_ 2), (0, u "java/lang/constant/Constable"), (0, .class_ 4), (0, u "java/lang/Object")] 6

/-- java/lang/constant/Constable -/
def k2 : Class := { plain "java/lang/constant/Constable" (some 0) with
  accessFlags := 1537
  interfaces := #[]
  cf := some (fileOf pool2 1 #[] #[] 1537 3 #[] #[])
  fields := #[]
  methods := #[]
  instanceTypes := #[]
  staticTypes := #[]
  resolved := Array.replicate 11 none
  statics := none }

def pool3 : Array CpInfo := pool [(1, .class_ 2), (0, u "java/lang/Comparable"), (0, .class_ 4), (0, u "java/lang/Object")] 7

/-- java/lang/Comparable -/
def k3 : Class := { plain "java/lang/Comparable" (some 0) with
  accessFlags := 1537
  interfaces := #[]
  cf := some (fileOf pool3 1 #[] #[] 1537 3 #[] #[])
  fields := #[]
  methods := #[]
  instanceTypes := #[]
  staticTypes := #[]
  resolved := Array.replicate 12 none
  statics := none }

def pool4 : Array CpInfo := pool [(1, .class_ 2), (0, u "java/io/Serializable"), (0, .class_ 4), (0, u "java/lang/Object")] 2

/-- java/io/Serializable -/
def k4 : Class := { plain "java/io/Serializable" (some 0) with
  accessFlags := 1537
  interfaces := #[]
  cf := some (fileOf pool4 1 #[] #[] 1537 3 #[] #[])
  fields := #[]
  methods := #[]
  instanceTypes := #[]
  staticTypes := #[]
  resolved := Array.replicate 7 none
  statics := none }

def pool5 : Array CpInfo := pool [(2, .class_ 4), (1, u "java/lang/Enum"), (0, u "name"), (0, u "Ljava/lang/String;"), (2, u "ordinal"), (0, u "I"), (1, .class_ 14), (1, u "java/lang/Object"), (4, u "hash"), (86, .class_ 108), (1, u "java/lang/Enum$EnumDesc"), (2, .class_ 112), (0, u "java/lang/constant/Constable"), (0, .class_ 114), (0, u "java/lang/Comparable"), (0, .class_ 116), (0, u "java/io/Serializable")] 87

/-- java/lang/Enum -/
def k5 : Class := { plain "java/lang/Enum" (some 0) with
  accessFlags := 1057
  interfaces := #[2, 3, 4]
  cf := some (fileOf pool5 2 #[.nestMembers #[106]] #[] 1057 12 #[111, 113, 115] #[{ accessFlags := 18, nameIndex := 5, descriptorIndex := 6, attributes := #[] }, { accessFlags := 18, nameIndex := 9, descriptorIndex := 10, attributes := #[] }, { accessFlags := 2, nameIndex := 19, descriptorIndex := 10, attributes := #[] }])
  fields := #[{ name := "name", type := (.object "java/lang/String"), accessFlags := 18, slot := 0, constantValue := 0 }, { name := "ordinal", type := .int, accessFlags := 18, slot := 1, constantValue := 0 }, { name := "hash", type := .int, accessFlags := 2, slot := 2, constantValue := 0 }]
  methods := #[]
  instanceTypes := #[(.object "java/lang/String"), .int, .int]
  staticTypes := #[]
  resolved := Array.replicate 204 none
  statics := none }

def pool6 : Array CpInfo := pool [(1, .class_ 2), (0, u "com/example/heliopause/heliopause/engine/Player"), (0, .fieldref 1 4), (0, .nameAndType 5 6), (0, u "A"), (0, u "Lcom/example/heliopause/heliopause/engine/Player;"), (0, .fieldref 1 8), (0, .nameAndType 9 6), (0, u "B"), (2, u "$VALUES"), (0, u "[Lcom/example/heliopause/heliopause/engine/Player;"), (6, .class_ 22), (1, u "java/lang/Enum"), (20, u "opponent"), (0, u "()Lcom/example/heliopause/heliopause/engine/Player;")] 5

def k6c0 : Code := { maxStack := 2, maxLocals := 1, code := prog_71_method_4_code, exceptionTable := #[], attributes := #[] }
def k6m0 : Method := { name := "opponent", desc := "()Lcom/example/heliopause/heliopause/engine/Player;", sig := { parameters := [], returnType := some (.object "com/example/heliopause/heliopause/engine/Player") }, accessFlags := 1, code := some k6c0 }
/-- com/example/heliopause/heliopause/engine/Player -/
def k6 : Class := { plain "com/example/heliopause/heliopause/engine/Player" (some 5) with
  accessFlags := 16433
  interfaces := #[]
  cf := some (fileOf pool6 1 #[] #[{ accessFlags := 1, nameIndex := 43, descriptorIndex := 44, attributes := #[] }] 16433 20 #[] #[{ accessFlags := 16409, nameIndex := 5, descriptorIndex := 6, attributes := #[] }, { accessFlags := 16409, nameIndex := 9, descriptorIndex := 6, attributes := #[] }, { accessFlags := 4122, nameIndex := 12, descriptorIndex := 13, attributes := #[] }])
  fields := #[{ name := "A", type := (.object "com/example/heliopause/heliopause/engine/Player"), accessFlags := 16409, slot := 0, constantValue := 0 }, { name := "B", type := (.object "com/example/heliopause/heliopause/engine/Player"), accessFlags := 16409, slot := 1, constantValue := 0 }, { name := "$VALUES", type := (.array (.object "com/example/heliopause/heliopause/engine/Player")), accessFlags := 4122, slot := 2, constantValue := 0 }]
  methods := #[k6m0]
  instanceTypes := #[(.object "java/lang/String"), .int, .int]
  staticTypes := #[(.object "com/example/heliopause/heliopause/engine/Player"), (.object "com/example/heliopause/heliopause/engine/Player"), (.array (.object "com/example/heliopause/heliopause/engine/Player"))]
  resolved := Array.replicate 50 none
  statics := some 0 }

def pool7 : Array CpInfo := pool [(1, u "java/lang/Cloneable"), (0, .class_ 1), (0, u "java/lang/Object"), (0, .class_ 3)] 3

/-- java/lang/Cloneable -/
def k7 : Class := { plain "java/lang/Cloneable" (some 0) with
  accessFlags := 1537
  interfaces := #[]
  cf := some (fileOf pool7 2 #[] #[] 1537 4 #[] #[])
  fields := #[]
  methods := #[]
  instanceTypes := #[]
  staticTypes := #[]
  resolved := Array.replicate 8 none
  statics := none }

/-- the primitive byte -/
def k8 : Class := { plain "byte" none with kind := .primitive 'B', accessFlags := 0x411 }
/-- [B -/
def k9 : Class := { plain "[B" (some 0) with kind := .array 8 .byte, interfaces := #[7, 4], accessFlags := 1041 }

def heap : Heap := #[{ cls := 6, slots := #[.ref 1, .ref 2, .null], vm := .statics 6 },
  { cls := 6, slots := #[.null, .int 0, .int 0], vm := .none },
  { cls := 6, slots := #[.null, .int 1, .int 0], vm := .none }]
def classes : Array Class := #[k0, k1, k2, k3, k4, k5, k6, k7, k8, k9]
def interned : List (Array UInt16 × Addr) := []
def slotsUsed : Nat := 9
def theMethod : MethodId := ⟨1, 1⟩
def args0 : Array Value := #[.int 5]
def aboutOver (below : List Frame) : State where
  vm := { classes := classes, interned := interned.toArray }
  heap := heap
  slotsUsed := slotsUsed
  threads := #[{ frames := .invoking theMethod args0 :: below }]
def below0 : List Frame := [.native { method := ⟨0, 0⟩, args := #[] }]
def about1 : State := aboutOver below0
def p0 : Program := .bare "" "" ""
def e0 : Env := launch0.env 0 0 0
theorem w_frames : about1.frames = Frame.invoking theMethod args0 :: below0 := rfl
set_option maxRecDepth 65536 in
theorem w_args : argsFit about1.vm theMethod args0 = true := by decide +kernel
set_option maxRecDepth 65536 in
theorem w_heap : heapFits about1 = true := by decide +kernel
set_option maxRecDepth 65536 in
theorem w_runnable : about1.curStatus? = some .runnable := by decide +kernel
set_option maxRecDepth 65536 in
theorem w_alone : about1.alone = true := by decide +kernel
set_option maxRecDepth 65536 in
theorem w_named : about1.methodNamed? x = some theMethod := by decide +kernel
set_option maxRecDepth 65536 in
theorem w_hears : about1.hears theMethod below0 = true := by decide +kernel
set_option maxRecDepth 65536 in
theorem w_ripe : about1.ripe theMethod args0 below0 = true := by decide +kernel
theorem w_running : about1.status = .running := rfl
set_option maxRecDepth 65536 in
theorem w_room : about1.hasRoom e0.platform room_1 = true :=
  launch0.hasRoom_least _ room_1 (by decide +kernel) (by decide +kernel) (by decide +kernel) (by decide +kernel) (by decide +kernel) (by decide +kernel)
theorem allAtoms_all (ts : List Jvm.Cond) (a : Array Jvm.Value) (st : Jvm.State) : (allAtoms ts).before a st = ts.all (fun c => c.before a st) := by
  induction ts with
  | nil => rfl
  | cons c t ih =>
    show (Jvm.Cond.and c (allAtoms t)).before a st = _
    rw [Jvm.Cond.before_and, ih, List.all_cons]
def words1 : List Jvm.Cond := Jvm.Cond.code x code maxLocals ret :: tables_1
/-- a 'code' word, met by the world's own term for the bytes: nothing is compared byte by byte -/
theorem code_word {y : MethodName} {bytes : ByteArray} {mx : Nat} {rt : Option FieldType} {a : Array Value} {s : State} {m : MethodId} {meth : Method} {c : Code} (h1 : s.methodNamed? y = some m) (h2 : s.vm.method? m = some meth) (h3 : meth.code = some c) (h4 : c.code = bytes)
    (h5 : (c.maxLocals == mx && c.exceptionTable.isEmpty && decide (c.maxStack ≤ mostOperands) && decide (meth.sig.returnType = rt) && !meth.locks && decide (parseMethodDescriptor y.desc = some meth.sig)) = true) : (Jvm.Cond.code y bytes mx rt).before a s = true := by
  simp only [Bool.and_eq_true, beq_iff_eq, Bool.not_eq_true', decide_eq_true_eq] at h5
  obtain ⟨⟨⟨⟨⟨g1, g2⟩, g3⟩, g4⟩, g5⟩, g6⟩ := h5
  simp [Cond.before, Cond.holds, Cond.value, h1, h2, h3, h4, g1, g2, g3, g4, g5, g6]
def isCode : Jvm.Cond → Bool
  | .code _ _ _ _ => true
  | _ => false
theorem all_split {L : List Jvm.Cond} {P : Jvm.Cond → Bool} (h1 : L.all (fun c => isCode c || P c) = true) (h2 : ∀ c ∈ L.filter isCode, P c = true) : L.all P = true := by
  refine List.all_eq_true.mpr fun c hc => ?_
  have h := List.all_eq_true.mp h1 c hc
  rcases Bool.eq_false_or_eq_true (isCode c) with hi | hi
  · exact h2 c (List.mem_filter.mpr ⟨hc, hi⟩)
  · simpa [hi] using h
set_option maxRecDepth 65536 in
theorem w_c0 : (Jvm.Cond.code x code maxLocals ret).before args0 about1 = true := code_word (m := ⟨1, 1⟩) (meth := k1m1) (c := k1c1) (by decide +kernel) rfl rfl rfl (by decide +kernel)
set_option maxRecDepth 65536 in
theorem w_c1 : (Jvm.Cond.code ({ cls := "com/example/heliopause/heliopause/engine/Player", name := "opponent", desc := "()Lcom/example/heliopause/heliopause/engine/Player;" } : Jvm.MethodName) prog_71_method_4_code (1 : Nat) (Option.some (Jvm.ClassFile.FieldType.object "com/example/heliopause/heliopause/engine/Player"))).before args0 about1 = true := code_word (m := ⟨6, 0⟩) (meth := k6m0) (c := k6c0) (by decide +kernel) rfl rfl rfl (by decide +kernel)
def codes1 : List Jvm.Cond := [Jvm.Cond.code x code maxLocals ret, Jvm.Cond.code ({ cls := "com/example/heliopause/heliopause/engine/Player", name := "opponent", desc := "()Lcom/example/heliopause/heliopause/engine/Player;" } : Jvm.MethodName) prog_71_method_4_code (1 : Nat) (Option.some (Jvm.ClassFile.FieldType.object "com/example/heliopause/heliopause/engine/Player"))]
set_option maxRecDepth 65536 in
theorem codes_eq : words1.filter isCode = codes1 := rfl
theorem w_codes : ∀ c ∈ words1.filter isCode, c.before args0 about1 = true := by
  rw [codes_eq]
  intro c hc
  simp only [codes1, List.mem_cons, List.not_mem_nil, or_false] at hc
  rcases hc with rfl | rfl
  · exact w_c0
  · exact w_c1
set_option maxRecDepth 65536 in
theorem w_t1 : words1.all (fun c => isCode c || c.before args0 about1) = true := by decide +kernel
theorem w_tables : (allAtoms (Jvm.Cond.code x code maxLocals ret :: tables_1)).before args0 about1 = true := by
  rw [allAtoms_all]
  show words1.all (fun c => c.before args0 about1) = true
  refine all_split ?_ w_codes
  rw [w_t1]
set_option maxRecDepth 65536 in
theorem w_case : (Jvm.Cond.and given_1 narrow_1).before args0 about1 = true := by decide +kernel
theorem w_applies : (headSpec (Jvm.Cond.code x code maxLocals ret :: tables_1) room_1).applies x e0.platform about1 = true :=
  (Spec.applies_iff w_frames).mpr ⟨w_running, w_runnable, w_alone, w_named, w_hears, w_ripe, w_room, w_tables⟩
theorem atStart : AtStart classFile x code maxLocals ret World_1 tables_1 room_1 Calls_1 rest_1 Pre_1 launch0 p0 e0 about1 theMethod args0 below0 :=
  ⟨lists_1, trivial, launch0.admits_env _ _ _, launch0.least_env, fairChoices_fair.cas, fairChoices_fair.clock, w_frames, w_args, w_heap, w_applies, trivial, trivial, w_case⟩
end start1
theorem witness_1 : WitnessClaimed_1 := ⟨start1.p0, start1.e0, start1.about1, start1.theMethod, start1.args0, start1.below0, start1.atStart⟩
end Jvm.Pilot.@@N@@
