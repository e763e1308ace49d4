import JvmDerived
import JvmDerived.Pilot.@@N@@Statement
import JvmDerived.Pilot.@@N@@Code
set_option linter.unusedVariables false
set_option linter.unusedSimpArgs false
namespace Jvm.RoadKit
open Sem ClassFile Op Lib Jvm.Stand Jvm.Free Jvm.LawKit
section New
variable {p : Program} {l : Launch} {e : Env} {R : Room} {s : State} {m : MethodId} {args : Array Value} {below : List Frame} {meth : Method} {c : Code} {T : State} {locs : List Loc} {cells slots : Nat}
theorem retI (X : Stand p l e R s m args below meth c T locs cells slots) (hx : p.tables.exec = Jvm.exec) {pc : Nat} {Ls : Array Slot} {z : Int32} {rest : List Value} (hret : meth.sig.returnType = some .int) (hd : decode c.code pc = .ok (.ireturn, 1)) {fs : List Frame}
    (hl : ∀ (f : JFrame) (acts : List Action), f.method = m → f.locked = none → f.entered = [] → (doReturn e (T.setTop f) acts (some (.int z))).1 = T.setFrames fs) : Steps p.tables e below (T.setTop (mkF m pc Ls (.int z :: rest))) (T.setFrames fs) := by
  have hm' : T.vm.method? m = some meth := X.method'
  have hn : narrow .int (.int z) = .int z := rfl
  show Steps p.tables e below (T.setTop { method := m, pc := pc, locals := Ls, stack := _ :: rest, locked := none }) _
  jvm_step X.here [X.here.top, hx, hd, hm', hret, hn]
  first | (intro acts; rw [hl _ acts rfl rfl rfl]) | rw [hl _ _ rfl rfl rfl]
  exact Steps.refl _
end New
end Jvm.RoadKit
namespace Jvm.Pilot.@@N@@
open Jvm Jvm.ClassFile Sem Op Lib Jvm.Free Jvm.Stand Jvm.LawKit Jvm.RoadKit Bundle Jvm.Pilot.@@N@@.Jvm.D
theorem pn_0 : plainName "com/example/notifiable/notifiable/conformance/ErrorCode" = true := by first | (simp [plainName, overriddenIn]; done) | decide +kernel
theorem d1_0 : decode prog_31_method_4_code 0 = .ok (.aload_n 0, 1) := by decide +kernel
theorem d1_1 : decode prog_31_method_4_code 1 = .ok (.getfield 59, 3) := by decide +kernel
theorem d1_4 : decode prog_31_method_4_code 4 = .ok (.ireturn, 1) := by decide +kernel
theorem ef_1 (m : MethodId) (a1 : Addr) : entryFrame m #[(.ref a1)] 1 = mkF m 0 #[.val (.ref a1)] [] := by first | (simp [entryFrame, mkF, argsToLocals, Value.category]; done) | rfl
def Q1 (Z : State) (a1 : Addr) (p1 : Int32) (h0 : Heap) (n0 : Nat) (v : Option Value) (h : Heap) (L : List Loc) : Prop := v = some (.int p1) ∧ Fr n0 L ∧ h = h0
set_option maxRecDepth 65536 in
set_option maxHeartbeats 40000000 in
theorem rm1 (l : Launch) (Z : State) (a0 : Array Value) (hw : ∀ d ∈ tables_1, d.before a0 Z = true) (ws : List Jvm.Cond) (a1 : Addr) (p1 : Int32) (h0 : Heap) (n0 : Nat) (Z0 : n0 ≤ h0.size) (HF0 : Fld Z h0 a1 "com/example/notifiable/notifiable/conformance/ErrorCode" "code" "I" (.int p1)) :
    MetFree l (⟨"com/example/notifiable/notifiable/conformance/ErrorCode", "code", "()I"⟩ : MethodName) (head1 (Jvm.Cond.code (⟨"com/example/notifiable/notifiable/conformance/ErrorCode", "code", "()I"⟩ : MethodName) prog_31_method_4_code 1 (some .int) :: ws) ({ frames := 0, cells := 0, slots := 0, locals := 0 } : Room)) (fun a U => a = #[(.ref a1)] ∧ Z.Warmed39 U.vm ∧ U.heap = h0) (fun _ _ _ _ _ => True) (fun _ U o U' => ∃ v L, o = .returned v ∧ Q1 Z a1 p1 h0 n0 v U'.heap L ∧ FrameEnd U o U' L ({ frames := 0, cells := 0, slots := 0, locals := 0 } : Room).cells ({ frames := 0, cells := 0, slots := 0, locals := 0 } : Room).slots) := by
  refine MetFree.of_bodySF (plainFor_of_name pn_0) hisR ?_
  intro p e s m args below meth c s₁ Bd hml0 hP hK
  obtain ⟨rfl, hZ, hh⟩ := hP
  have hx := Bd.exec
  have hby := Bd.bytes
  have hml : c.maxLocals = 1 := hml0
  have hown : s.vm.findClass "com/example/notifiable/notifiable/conformance/ErrorCode" = some m.cls := findClass_of_methodNamed Bd.named
  have hnm := (name_of_methodNamed Bd.named Bd.method).1
  have X0 : Stand p l e ({ frames := 0, cells := 0, slots := 0, locals := 0 } : Room) s m #[(.ref a1)] below meth c s₁ [] 0 0 := Stand.of_body Bd
  have e0 : s₁.heap = h0 := by rw [← hh, Bd.state]; rfl
  have N0 := Fr.nil n0
  have pre0 : ∀ t, Steps p.tables e below (s₁.setTop (mkF m 0 #[.val (.ref a1)] [])) t → Steps p.tables e below (s₁.setTop (entryFrame m #[(.ref a1)] 1)) t := fun t k => castTop (ef_1 m a1) k
  obtain ⟨T1, X1, e1, st1⟩ := getF X0 hx hZ hown (host := "") (Or.inl (hw _ (List.mem_of_getElem? (i := 34) rfl))) Via.refl e0 HF0 (g := (mkF m 1 #[.val (.ref a1)] [(.ref a1)])) rfl rfl (hb hby d1_1)
  obtain ⟨fs, hr, hrun, hended, hW, hsame⟩ := X1.leave (v := some (.int p1)) (fun h => by rw [Bd.returns] at h; cases h)
  refine ⟨_, _, pre0 _ ?_, hrun, hended, _, _, rfl, ?_, ⟨_, rfl⟩, hW, hsame.mono (by decide) (by decide)⟩
  · show Steps p.tables e below (s₁.setTop (mkF m 0 #[.val (.ref a1)] [])) _
    refine XS.aloadN X0.here hx rfl (hb hby d1_0) rfl rfl ?_
    show Steps p.tables e below (s₁.setTop (mkF m 1 #[.val (.ref a1)] [(.ref a1)])) _
    refine st1 _ ?_
    show Steps p.tables e below (T1.setTop (mkF m 4 #[.val (.ref a1)] [(.int p1)])) _
    exact retI X1 hx Bd.returns (hb hby d1_4) hr
  · show Q1 Z a1 p1 h0 n0 _ T1.heap _
    rw [e1]
    exact ⟨rfl, N0, rfl⟩
theorem d2_0 : decode prog_31_method_6_code 0 = .ok (.aload_n 0, 1) := by decide +kernel
theorem d2_1 : decode prog_31_method_6_code 1 = .ok (.getstatic 16, 3) := by decide +kernel
theorem d2_4 : decode prog_31_method_6_code 4 = .ok (.if_acmp .eq 24, 3) := by decide +kernel
theorem d2_28 : decode prog_31_method_6_code 28 = .ok (.iconst 1, 1) := by decide +kernel
theorem d2_29 : decode prog_31_method_6_code 29 = .ok (.goto 4, 3) := by decide +kernel
theorem d2_33 : decode prog_31_method_6_code 33 = .ok (.ireturn, 1) := by decide +kernel
theorem d2_7 : decode prog_31_method_6_code 7 = .ok (.aload_n 0, 1) := by decide +kernel
theorem d2_8 : decode prog_31_method_6_code 8 = .ok (.getstatic 19, 3) := by decide +kernel
theorem d2_11 : decode prog_31_method_6_code 11 = .ok (.if_acmp .eq 17, 3) := by decide +kernel
theorem d2_14 : decode prog_31_method_6_code 14 = .ok (.aload_n 0, 1) := by decide +kernel
theorem d2_15 : decode prog_31_method_6_code 15 = .ok (.getstatic 22, 3) := by decide +kernel
theorem d2_18 : decode prog_31_method_6_code 18 = .ok (.if_acmp .eq 10, 3) := by decide +kernel
theorem d2_21 : decode prog_31_method_6_code 21 = .ok (.aload_n 0, 1) := by decide +kernel
theorem d2_22 : decode prog_31_method_6_code 22 = .ok (.getstatic 25, 3) := by decide +kernel
theorem d2_25 : decode prog_31_method_6_code 25 = .ok (.if_acmp .ne 7, 3) := by decide +kernel
theorem d2_32 : decode prog_31_method_6_code 32 = .ok (.iconst 0, 1) := by decide +kernel
theorem ef_2 (m : MethodId) (a1 : Addr) : entryFrame m #[(.ref a1)] 1 = mkF m 0 #[.val (.ref a1)] [] := by first | (simp [entryFrame, mkF, argsToLocals, Value.category]; done) | rfl
def Q2 (Z : State) (a1 : Addr) (c1 : Addr) (c2 : Addr) (c3 : Addr) (c4 : Addr) (h0 : Heap) (n0 : Nat) (v : Option Value) (h : Heap) (L : List Loc) : Prop := ∃ (r : Int32), v = some (.int r) ∧ Fr n0 L ∧ (((a1 = c1 ∨ a1 = c2 ∨ a1 = c3 ∨ a1 = c4) ∧ r = 1) ∨ (¬ (a1 = c1 ∨ a1 = c2 ∨ a1 = c3 ∨ a1 = c4) ∧ r = 0)) ∧ h = h0
set_option maxRecDepth 65536 in
set_option maxHeartbeats 40000000 in
theorem rm2 (l : Launch) (Z : State) (a0 : Array Value) (hw : ∀ d ∈ tables_1, d.before a0 Z = true) (ws : List Jvm.Cond) (a1 : Addr) (c1 : Addr) (c2 : Addr) (c3 : Addr) (c4 : Addr) (h0 : Heap) (n0 : Nat) (Z0 : n0 ≤ h0.size) (HS0 : Sta Z h0 "com/example/notifiable/notifiable/conformance/ErrorCode" "UNSUPPORTED_MESSAGE_TYPE" "Lcom/example/notifiable/notifiable/conformance/ErrorCode;" (.ref c1)) (HS1 : Sta Z h0 "com/example/notifiable/notifiable/conformance/ErrorCode" "UNSUPPORTED_EVENT_CODE" "Lcom/example/notifiable/notifiable/conformance/ErrorCode;" (.ref c2)) (HS2 : Sta Z h0 "com/example/notifiable/notifiable/conformance/ErrorCode" "UNSUPPORTED_PROCESSING_ID" "Lcom/example/notifiable/notifiable/conformance/ErrorCode;" (.ref c3)) (HS3 : Sta Z h0 "com/example/notifiable/notifiable/conformance/ErrorCode" "UNSUPPORTED_VERSION_ID" "Lcom/example/notifiable/notifiable/conformance/ErrorCode;" (.ref c4)) :
    MetFree l (⟨"com/example/notifiable/notifiable/conformance/ErrorCode", "rejects", "()Z"⟩ : MethodName) (head1 (Jvm.Cond.code (⟨"com/example/notifiable/notifiable/conformance/ErrorCode", "rejects", "()Z"⟩ : MethodName) prog_31_method_6_code 1 (some .boolean) :: ws) ({ frames := 0, cells := 0, slots := 0, locals := 0 } : Room)) (fun a U => a = #[(.ref a1)] ∧ Z.Warmed39 U.vm ∧ U.heap = h0) (fun _ _ _ _ _ => True) (fun _ U o U' => ∃ v L, o = .returned v ∧ Q2 Z a1 c1 c2 c3 c4 h0 n0 v U'.heap L ∧ FrameEnd U o U' L ({ frames := 0, cells := 0, slots := 0, locals := 0 } : Room).cells ({ frames := 0, cells := 0, slots := 0, locals := 0 } : Room).slots) := by
  refine MetFree.of_bodySF (plainFor_of_name pn_0) hisR ?_
  intro p e s m args below meth c s₁ Bd hml0 hP hK
  obtain ⟨rfl, hZ, hh⟩ := hP
  have hx := Bd.exec
  have hby := Bd.bytes
  have hml : c.maxLocals = 1 := hml0
  have hown : s.vm.findClass "com/example/notifiable/notifiable/conformance/ErrorCode" = some m.cls := findClass_of_methodNamed Bd.named
  have hnm := (name_of_methodNamed Bd.named Bd.method).1
  have X0 : Stand p l e ({ frames := 0, cells := 0, slots := 0, locals := 0 } : Room) s m #[(.ref a1)] below meth c s₁ [] 0 0 := Stand.of_body Bd
  have e0 : s₁.heap = h0 := by rw [← hh, Bd.state]; rfl
  have N0 := Fr.nil n0
  have pre0 : ∀ t, Steps p.tables e below (s₁.setTop (mkF m 0 #[.val (.ref a1)] [])) t → Steps p.tables e below (s₁.setTop (entryFrame m #[(.ref a1)] 1)) t := fun t k => castTop (ef_2 m a1) k
  obtain ⟨T1, X1, e1, st1⟩ := getS2 X0 hx hZ hown (host := "") (Or.inl (hw _ (List.mem_of_getElem? (i := 41) rfl))) Via.refl e0 HS0 (g := (mkF m 1 #[.val (.ref a1)] [(.ref a1)])) rfl (hb hby d2_1)
  have P2 : ∀ t, Steps p.tables e below (T1.setTop (mkF m 4 #[.val (.ref a1)] [(.ref c1), (.ref a1)])) t → Steps p.tables e below (s₁.setTop (entryFrame m #[(.ref a1)] 1)) t := by
    intro t k
    refine pre0 t ?_
    show Steps p.tables e below (s₁.setTop (mkF m 0 #[.val (.ref a1)] [])) _
    refine XS.aloadN X0.here hx rfl (hb hby d2_0) rfl rfl ?_
    show Steps p.tables e below (s₁.setTop (mkF m 1 #[.val (.ref a1)] [(.ref a1)])) _
    refine st1 _ ?_
    exact k
  by_cases h1 : a1 = c1
  · obtain ⟨fs, hr, hrun, hended, hW, hsame⟩ := X1.leave (v := some (.int (1 : Int32))) (fun h => by rw [Bd.returns] at h; cases h)
    refine ⟨_, _, P2 _ ?_, hrun, hended, _, _, rfl, ?_, ⟨_, rfl⟩, hW, hsame.mono (by decide) (by decide)⟩
    · show Steps p.tables e below (T1.setTop (mkF m 4 #[.val (.ref a1)] [(.ref c1), (.ref a1)])) _
      refine Jvm.RoadKit.acmp (g := (mkF m 4 #[.val (.ref a1)] [(.ref c1), (.ref a1)])) X1 hx rfl rfl rfl (pc0 := 4) (pc' := 28) (same := true) rfl (hb hby d2_4) rfl (decide_eq_true (congrArg Value.ref h1)) (by decide) (by decide) ?_
      show Steps p.tables e below (T1.setTop (mkF m 28 #[.val (.ref a1)] [])) _
      refine XS.iconst X1.here hx rfl (hb hby d2_28) ?_
      show Steps p.tables e below (T1.setTop (mkF m 29 #[.val (.ref a1)] [(.int (1 : Int32))])) _
      refine XS.goto X1.here hx rfl (pc0 := 29) (pc' := 33) rfl (hb hby d2_29) (by decide) (by decide) ?_
      show Steps p.tables e below (T1.setTop (mkF m 33 #[.val (.ref a1)] [(.int (1 : Int32))])) _
      exact retN X1 hx (t := .boolean) Bd.returns (by simp) (hb hby d2_33) hr
    · show Q2 Z a1 c1 c2 c3 c4 h0 n0 _ T1.heap _
      rw [e1]
      exact ⟨(1 : Int32), rfl, N0, Or.inl ⟨Or.inl h1, rfl⟩, rfl⟩
  · obtain ⟨T3, X3, e3, st3⟩ := getS2 X1 hx hZ hown (host := "") (Or.inl (hw _ (List.mem_of_getElem? (i := 42) rfl))) Via.refl e1 HS1 (g := (mkF m 8 #[.val (.ref a1)] [(.ref a1)])) rfl (hb hby d2_8)
    have P4 : ∀ t, Steps p.tables e below (T3.setTop (mkF m 11 #[.val (.ref a1)] [(.ref c2), (.ref a1)])) t → Steps p.tables e below (s₁.setTop (entryFrame m #[(.ref a1)] 1)) t := by
      intro t k
      refine P2 t ?_
      show Steps p.tables e below (T1.setTop (mkF m 4 #[.val (.ref a1)] [(.ref c1), (.ref a1)])) _
      refine Jvm.RoadKit.acmp (g := (mkF m 4 #[.val (.ref a1)] [(.ref c1), (.ref a1)])) X1 hx rfl rfl rfl (pc0 := 4) (pc' := 7) (same := false) rfl (hb hby d2_4) rfl (decide_eq_false fun q => h1 (Value.ref.inj q)) (by decide) (by decide) ?_
      show Steps p.tables e below (T1.setTop (mkF m 7 #[.val (.ref a1)] [])) _
      refine XS.aloadN X1.here hx rfl (hb hby d2_7) rfl rfl ?_
      show Steps p.tables e below (T1.setTop (mkF m 8 #[.val (.ref a1)] [(.ref a1)])) _
      refine st3 _ ?_
      exact k
    by_cases h2 : a1 = c2
    · obtain ⟨fs, hr, hrun, hended, hW, hsame⟩ := X3.leave (v := some (.int (1 : Int32))) (fun h => by rw [Bd.returns] at h; cases h)
      refine ⟨_, _, P4 _ ?_, hrun, hended, _, _, rfl, ?_, ⟨_, rfl⟩, hW, hsame.mono (by decide) (by decide)⟩
      · show Steps p.tables e below (T3.setTop (mkF m 11 #[.val (.ref a1)] [(.ref c2), (.ref a1)])) _
        refine Jvm.RoadKit.acmp (g := (mkF m 11 #[.val (.ref a1)] [(.ref c2), (.ref a1)])) X3 hx rfl rfl rfl (pc0 := 11) (pc' := 28) (same := true) rfl (hb hby d2_11) rfl (decide_eq_true (congrArg Value.ref h2)) (by decide) (by decide) ?_
        show Steps p.tables e below (T3.setTop (mkF m 28 #[.val (.ref a1)] [])) _
        refine XS.iconst X3.here hx rfl (hb hby d2_28) ?_
        show Steps p.tables e below (T3.setTop (mkF m 29 #[.val (.ref a1)] [(.int (1 : Int32))])) _
        refine XS.goto X3.here hx rfl (pc0 := 29) (pc' := 33) rfl (hb hby d2_29) (by decide) (by decide) ?_
        show Steps p.tables e below (T3.setTop (mkF m 33 #[.val (.ref a1)] [(.int (1 : Int32))])) _
        exact retN X3 hx (t := .boolean) Bd.returns (by simp) (hb hby d2_33) hr
      · show Q2 Z a1 c1 c2 c3 c4 h0 n0 _ T3.heap _
        rw [e3]
        exact ⟨(1 : Int32), rfl, N0, Or.inl ⟨Or.inr (Or.inl h2), rfl⟩, rfl⟩
    · obtain ⟨T5, X5, e5, st5⟩ := getS2 X3 hx hZ hown (host := "") (Or.inl (hw _ (List.mem_of_getElem? (i := 43) rfl))) Via.refl e3 HS2 (g := (mkF m 15 #[.val (.ref a1)] [(.ref a1)])) rfl (hb hby d2_15)
      have P6 : ∀ t, Steps p.tables e below (T5.setTop (mkF m 18 #[.val (.ref a1)] [(.ref c3), (.ref a1)])) t → Steps p.tables e below (s₁.setTop (entryFrame m #[(.ref a1)] 1)) t := by
        intro t k
        refine P4 t ?_
        show Steps p.tables e below (T3.setTop (mkF m 11 #[.val (.ref a1)] [(.ref c2), (.ref a1)])) _
        refine Jvm.RoadKit.acmp (g := (mkF m 11 #[.val (.ref a1)] [(.ref c2), (.ref a1)])) X3 hx rfl rfl rfl (pc0 := 11) (pc' := 14) (same := false) rfl (hb hby d2_11) rfl (decide_eq_false fun q => h2 (Value.ref.inj q)) (by decide) (by decide) ?_
        show Steps p.tables e below (T3.setTop (mkF m 14 #[.val (.ref a1)] [])) _
        refine XS.aloadN X3.here hx rfl (hb hby d2_14) rfl rfl ?_
        show Steps p.tables e below (T3.setTop (mkF m 15 #[.val (.ref a1)] [(.ref a1)])) _
        refine st5 _ ?_
        exact k
      by_cases h3 : a1 = c3
      · obtain ⟨fs, hr, hrun, hended, hW, hsame⟩ := X5.leave (v := some (.int (1 : Int32))) (fun h => by rw [Bd.returns] at h; cases h)
        refine ⟨_, _, P6 _ ?_, hrun, hended, _, _, rfl, ?_, ⟨_, rfl⟩, hW, hsame.mono (by decide) (by decide)⟩
        · show Steps p.tables e below (T5.setTop (mkF m 18 #[.val (.ref a1)] [(.ref c3), (.ref a1)])) _
          refine Jvm.RoadKit.acmp (g := (mkF m 18 #[.val (.ref a1)] [(.ref c3), (.ref a1)])) X5 hx rfl rfl rfl (pc0 := 18) (pc' := 28) (same := true) rfl (hb hby d2_18) rfl (decide_eq_true (congrArg Value.ref h3)) (by decide) (by decide) ?_
          show Steps p.tables e below (T5.setTop (mkF m 28 #[.val (.ref a1)] [])) _
          refine XS.iconst X5.here hx rfl (hb hby d2_28) ?_
          show Steps p.tables e below (T5.setTop (mkF m 29 #[.val (.ref a1)] [(.int (1 : Int32))])) _
          refine XS.goto X5.here hx rfl (pc0 := 29) (pc' := 33) rfl (hb hby d2_29) (by decide) (by decide) ?_
          show Steps p.tables e below (T5.setTop (mkF m 33 #[.val (.ref a1)] [(.int (1 : Int32))])) _
          exact retN X5 hx (t := .boolean) Bd.returns (by simp) (hb hby d2_33) hr
        · show Q2 Z a1 c1 c2 c3 c4 h0 n0 _ T5.heap _
          rw [e5]
          exact ⟨(1 : Int32), rfl, N0, Or.inl ⟨Or.inr (Or.inr (Or.inl h3)), rfl⟩, rfl⟩
      · obtain ⟨T7, X7, e7, st7⟩ := getS2 X5 hx hZ hown (host := "") (Or.inl (hw _ (List.mem_of_getElem? (i := 44) rfl))) Via.refl e5 HS3 (g := (mkF m 22 #[.val (.ref a1)] [(.ref a1)])) rfl (hb hby d2_22)
        have P8 : ∀ t, Steps p.tables e below (T7.setTop (mkF m 25 #[.val (.ref a1)] [(.ref c4), (.ref a1)])) t → Steps p.tables e below (s₁.setTop (entryFrame m #[(.ref a1)] 1)) t := by
          intro t k
          refine P6 t ?_
          show Steps p.tables e below (T5.setTop (mkF m 18 #[.val (.ref a1)] [(.ref c3), (.ref a1)])) _
          refine Jvm.RoadKit.acmp (g := (mkF m 18 #[.val (.ref a1)] [(.ref c3), (.ref a1)])) X5 hx rfl rfl rfl (pc0 := 18) (pc' := 21) (same := false) rfl (hb hby d2_18) rfl (decide_eq_false fun q => h3 (Value.ref.inj q)) (by decide) (by decide) ?_
          show Steps p.tables e below (T5.setTop (mkF m 21 #[.val (.ref a1)] [])) _
          refine XS.aloadN X5.here hx rfl (hb hby d2_21) rfl rfl ?_
          show Steps p.tables e below (T5.setTop (mkF m 22 #[.val (.ref a1)] [(.ref a1)])) _
          refine st7 _ ?_
          exact k
        by_cases h4 : a1 = c4
        · obtain ⟨fs, hr, hrun, hended, hW, hsame⟩ := X7.leave (v := some (.int (1 : Int32))) (fun h => by rw [Bd.returns] at h; cases h)
          refine ⟨_, _, P8 _ ?_, hrun, hended, _, _, rfl, ?_, ⟨_, rfl⟩, hW, hsame.mono (by decide) (by decide)⟩
          · show Steps p.tables e below (T7.setTop (mkF m 25 #[.val (.ref a1)] [(.ref c4), (.ref a1)])) _
            refine Jvm.RoadKit.acmp (g := (mkF m 25 #[.val (.ref a1)] [(.ref c4), (.ref a1)])) X7 hx rfl rfl rfl (pc0 := 25) (pc' := 28) (same := true) rfl (hb hby d2_25) rfl (decide_eq_true (congrArg Value.ref h4)) (by decide) (by decide) ?_
            show Steps p.tables e below (T7.setTop (mkF m 28 #[.val (.ref a1)] [])) _
            refine XS.iconst X7.here hx rfl (hb hby d2_28) ?_
            show Steps p.tables e below (T7.setTop (mkF m 29 #[.val (.ref a1)] [(.int (1 : Int32))])) _
            refine XS.goto X7.here hx rfl (pc0 := 29) (pc' := 33) rfl (hb hby d2_29) (by decide) (by decide) ?_
            show Steps p.tables e below (T7.setTop (mkF m 33 #[.val (.ref a1)] [(.int (1 : Int32))])) _
            exact retN X7 hx (t := .boolean) Bd.returns (by simp) (hb hby d2_33) hr
          · show Q2 Z a1 c1 c2 c3 c4 h0 n0 _ T7.heap _
            rw [e7]
            exact ⟨(1 : Int32), rfl, N0, Or.inl ⟨Or.inr (Or.inr (Or.inr h4)), rfl⟩, rfl⟩
        · obtain ⟨fs, hr, hrun, hended, hW, hsame⟩ := X7.leave (v := some (.int (0 : Int32))) (fun h => by rw [Bd.returns] at h; cases h)
          refine ⟨_, _, P8 _ ?_, hrun, hended, _, _, rfl, ?_, ⟨_, rfl⟩, hW, hsame.mono (by decide) (by decide)⟩
          · show Steps p.tables e below (T7.setTop (mkF m 25 #[.val (.ref a1)] [(.ref c4), (.ref a1)])) _
            refine Jvm.RoadKit.acmp (g := (mkF m 25 #[.val (.ref a1)] [(.ref c4), (.ref a1)])) X7 hx rfl rfl rfl (pc0 := 25) (pc' := 32) (same := false) rfl (hb hby d2_25) rfl (decide_eq_false fun q => h4 (Value.ref.inj q)) (by decide) (by decide) ?_
            show Steps p.tables e below (T7.setTop (mkF m 32 #[.val (.ref a1)] [])) _
            refine XS.iconst X7.here hx rfl (hb hby d2_32) ?_
            show Steps p.tables e below (T7.setTop (mkF m 33 #[.val (.ref a1)] [(.int (0 : Int32))])) _
            exact retN X7 hx (t := .boolean) Bd.returns (by simp) (hb hby d2_33) hr
          · show Q2 Z a1 c1 c2 c3 c4 h0 n0 _ T7.heap _
            rw [e7]
            exact ⟨(0 : Int32), rfl, N0, Or.inr ⟨fun q => q.elim h1 (fun q => q.elim h2 (fun q => q.elim h3 h4)), rfl⟩, rfl⟩
theorem own_12 (z : Int32) : ((z &&& (2147483647 : Int32)) % (12 : Int32)) = 0 ∨ ((z &&& (2147483647 : Int32)) % (12 : Int32)) = 1 ∨ ((z &&& (2147483647 : Int32)) % (12 : Int32)) = 2 ∨ ((z &&& (2147483647 : Int32)) % (12 : Int32)) = 3 ∨ ((z &&& (2147483647 : Int32)) % (12 : Int32)) = 4 ∨ ((z &&& (2147483647 : Int32)) % (12 : Int32)) = 5 ∨ ((z &&& (2147483647 : Int32)) % (12 : Int32)) = 6 ∨ ((z &&& (2147483647 : Int32)) % (12 : Int32)) = 7 ∨ ((z &&& (2147483647 : Int32)) % (12 : Int32)) = 8 ∨ ((z &&& (2147483647 : Int32)) % (12 : Int32)) = 9 ∨ ((z &&& (2147483647 : Int32)) % (12 : Int32)) = 10 ∨ ((z &&& (2147483647 : Int32)) % (12 : Int32)) = 11 := by
  have m := c_mask z 2147483647 31 (by decide) (by decide)
  have q := (c_irem (z &&& (2147483647 : Int32)) 12 12 rfl).1 (by omega)
  generalize (z &&& (2147483647 : Int32)) % (12 : Int32) = y at *
  have hk : y.toInt = 0 ∨ y.toInt = 1 ∨ y.toInt = 2 ∨ y.toInt = 3 ∨ y.toInt = 4 ∨ y.toInt = 5 ∨ y.toInt = 6 ∨ y.toInt = 7 ∨ y.toInt = 8 ∨ y.toInt = 9 ∨ y.toInt = 10 ∨ y.toInt = 11 := by omega
  rcases hk with h | h | h | h | h | h | h | h | h | h | h | h
  · exact Or.inl (Int32.toInt_inj.mp h)
  · exact Or.inr (Or.inl (Int32.toInt_inj.mp h))
  · exact Or.inr (Or.inr (Or.inl (Int32.toInt_inj.mp h)))
  · exact Or.inr (Or.inr (Or.inr (Or.inl (Int32.toInt_inj.mp h))))
  · exact Or.inr (Or.inr (Or.inr (Or.inr (Or.inl (Int32.toInt_inj.mp h)))))
  · exact Or.inr (Or.inr (Or.inr (Or.inr (Or.inr (Or.inl (Int32.toInt_inj.mp h))))))
  · exact Or.inr (Or.inr (Or.inr (Or.inr (Or.inr (Or.inr (Or.inl (Int32.toInt_inj.mp h)))))))
  · exact Or.inr (Or.inr (Or.inr (Or.inr (Or.inr (Or.inr (Or.inr (Or.inl (Int32.toInt_inj.mp h))))))))
  · exact Or.inr (Or.inr (Or.inr (Or.inr (Or.inr (Or.inr (Or.inr (Or.inr (Or.inl (Int32.toInt_inj.mp h)))))))))
  · exact Or.inr (Or.inr (Or.inr (Or.inr (Or.inr (Or.inr (Or.inr (Or.inr (Or.inr (Or.inl (Int32.toInt_inj.mp h))))))))))
  · exact Or.inr (Or.inr (Or.inr (Or.inr (Or.inr (Or.inr (Or.inr (Or.inr (Or.inr (Or.inr (Or.inl (Int32.toInt_inj.mp h)))))))))))
  · exact Or.inr (Or.inr (Or.inr (Or.inr (Or.inr (Or.inr (Or.inr (Or.inr (Or.inr (Or.inr (Or.inr ((Int32.toInt_inj.mp h))))))))))))
theorem pn_1 : plainName "com/example/notifiable/notifiable/conformance/ErrorCodeRejectsPinLaw" = true := by first | (simp [plainName, overriddenIn]; done) | decide +kernel
theorem pd_0 : parseMethodDescriptor "()I" = some ⟨[], some .int⟩ := by decide +kernel
theorem pd_1 : parseMethodDescriptor "()Z" = some ⟨[], some .boolean⟩ := by decide +kernel
theorem ef_0 (m : MethodId) (p0 : Int32) : entryFrame m #[(.int p0)] maxLocals = mkF m 0 #[.val (.int p0), .unset, .unset, .unset, .unset, .unset] [] := by first | (simp [entryFrame, mkF, argsToLocals, Value.category, maxLocals]; done) | rfl
def Q0 (Z : State) (p0 : Int32) (x0 : Addr) (x1 : Addr) (x2 : Addr) (x3 : Addr) (x4 : Addr) (x5 : Addr) (x6 : Addr) (x7 : Addr) (x8 : Addr) (x9 : Addr) (x10 : Addr) (x11 : Addr) (h0 : Heap) (n0 : Nat) (v : Option Value) (h : Heap) (L : List Loc) : Prop := v = some (.int (1 : Int32)) ∧ Fr n0 L
set_option maxRecDepth 65536 in
set_option maxHeartbeats 40000000 in
theorem rm0 (l : Launch) (Z : State) (a0 : Array Value) (hw : ∀ d ∈ tables_1, d.before a0 Z = true) (ws : List Jvm.Cond) (p0 : Int32) (x0 : Addr) (x1 : Addr) (x2 : Addr) (x3 : Addr) (x4 : Addr) (x5 : Addr) (x6 : Addr) (x7 : Addr) (x8 : Addr) (x9 : Addr) (x10 : Addr) (x11 : Addr) (h0 : Heap) (n0 : Nat) (Z0 : n0 ≤ h0.size) (HS0 : Sta Z h0 "com/example/notifiable/notifiable/conformance/ErrorCode" "SEGMENT_SEQUENCE_ERROR" "Lcom/example/notifiable/notifiable/conformance/ErrorCode;" (.ref x0)) (HS1 : Sta Z h0 "com/example/notifiable/notifiable/conformance/ErrorCode" "REQUIRED_FIELD_MISSING" "Lcom/example/notifiable/notifiable/conformance/ErrorCode;" (.ref x1)) (HS2 : Sta Z h0 "com/example/notifiable/notifiable/conformance/ErrorCode" "DATA_TYPE_ERROR" "Lcom/example/notifiable/notifiable/conformance/ErrorCode;" (.ref x2)) (HS3 : Sta Z h0 "com/example/notifiable/notifiable/conformance/ErrorCode" "TABLE_VALUE_NOT_FOUND" "Lcom/example/notifiable/notifiable/conformance/ErrorCode;" (.ref x3)) (HS4 : Sta Z h0 "com/example/notifiable/notifiable/conformance/ErrorCode" "UNSUPPORTED_MESSAGE_TYPE" "Lcom/example/notifiable/notifiable/conformance/ErrorCode;" (.ref x4)) (HS5 : Sta Z h0 "com/example/notifiable/notifiable/conformance/ErrorCode" "UNSUPPORTED_EVENT_CODE" "Lcom/example/notifiable/notifiable/conformance/ErrorCode;" (.ref x5)) (HS6 : Sta Z h0 "com/example/notifiable/notifiable/conformance/ErrorCode" "UNSUPPORTED_PROCESSING_ID" "Lcom/example/notifiable/notifiable/conformance/ErrorCode;" (.ref x6)) (HS7 : Sta Z h0 "com/example/notifiable/notifiable/conformance/ErrorCode" "UNSUPPORTED_VERSION_ID" "Lcom/example/notifiable/notifiable/conformance/ErrorCode;" (.ref x7)) (HS8 : Sta Z h0 "com/example/notifiable/notifiable/conformance/ErrorCode" "UNKNOWN_KEY_IDENTIFIER" "Lcom/example/notifiable/notifiable/conformance/ErrorCode;" (.ref x8)) (HS9 : Sta Z h0 "com/example/notifiable/notifiable/conformance/ErrorCode" "DUPLICATE_KEY_IDENTIFIER" "Lcom/example/notifiable/notifiable/conformance/ErrorCode;" (.ref x9)) (HS10 : Sta Z h0 "com/example/notifiable/notifiable/conformance/ErrorCode" "APPLICATION_RECORD_LOCKED" "Lcom/example/notifiable/notifiable/conformance/ErrorCode;" (.ref x10)) (HS11 : Sta Z h0 "com/example/notifiable/notifiable/conformance/ErrorCode" "APPLICATION_INTERNAL_ERROR" "Lcom/example/notifiable/notifiable/conformance/ErrorCode;" (.ref x11)) (HE12 : Exa Z h0 x0 "com/example/notifiable/notifiable/conformance/ErrorCode") (HE13 : Exa Z h0 x1 "com/example/notifiable/notifiable/conformance/ErrorCode") (HE14 : Exa Z h0 x2 "com/example/notifiable/notifiable/conformance/ErrorCode") (HE15 : Exa Z h0 x3 "com/example/notifiable/notifiable/conformance/ErrorCode") (HE16 : Exa Z h0 x4 "com/example/notifiable/notifiable/conformance/ErrorCode") (HE17 : Exa Z h0 x5 "com/example/notifiable/notifiable/conformance/ErrorCode") (HE18 : Exa Z h0 x6 "com/example/notifiable/notifiable/conformance/ErrorCode") (HE19 : Exa Z h0 x7 "com/example/notifiable/notifiable/conformance/ErrorCode") (HE20 : Exa Z h0 x8 "com/example/notifiable/notifiable/conformance/ErrorCode") (HE21 : Exa Z h0 x9 "com/example/notifiable/notifiable/conformance/ErrorCode") (HE22 : Exa Z h0 x10 "com/example/notifiable/notifiable/conformance/ErrorCode") (HE23 : Exa Z h0 x11 "com/example/notifiable/notifiable/conformance/ErrorCode") (HF24 : Fld Z h0 x0 "com/example/notifiable/notifiable/conformance/ErrorCode" "code" "I" (.int (100 : Int32))) (HF25 : Fld Z h0 x1 "com/example/notifiable/notifiable/conformance/ErrorCode" "code" "I" (.int (101 : Int32))) (HF26 : Fld Z h0 x2 "com/example/notifiable/notifiable/conformance/ErrorCode" "code" "I" (.int (102 : Int32))) (HF27 : Fld Z h0 x3 "com/example/notifiable/notifiable/conformance/ErrorCode" "code" "I" (.int (103 : Int32))) (HF28 : Fld Z h0 x4 "com/example/notifiable/notifiable/conformance/ErrorCode" "code" "I" (.int (200 : Int32))) (HF29 : Fld Z h0 x5 "com/example/notifiable/notifiable/conformance/ErrorCode" "code" "I" (.int (201 : Int32))) (HF30 : Fld Z h0 x6 "com/example/notifiable/notifiable/conformance/ErrorCode" "code" "I" (.int (202 : Int32))) (HF31 : Fld Z h0 x7 "com/example/notifiable/notifiable/conformance/ErrorCode" "code" "I" (.int (203 : Int32))) (HF32 : Fld Z h0 x8 "com/example/notifiable/notifiable/conformance/ErrorCode" "code" "I" (.int (204 : Int32))) (HF33 : Fld Z h0 x9 "com/example/notifiable/notifiable/conformance/ErrorCode" "code" "I" (.int (205 : Int32))) (HF34 : Fld Z h0 x10 "com/example/notifiable/notifiable/conformance/ErrorCode" "code" "I" (.int (206 : Int32))) (HF35 : Fld Z h0 x11 "com/example/notifiable/notifiable/conformance/ErrorCode" "code" "I" (.int (207 : Int32))) :
    MetFree l x (head1 (Jvm.Cond.code x code maxLocals ret :: ws) room_1) (fun a U => a = #[(.int p0)] ∧ Z.Warmed39 U.vm ∧ U.heap = h0) (fun _ _ _ _ _ => True) (fun _ U o U' => ∃ v L, o = .returned v ∧ Q0 Z p0 x0 x1 x2 x3 x4 x5 x6 x7 x8 x9 x10 x11 h0 n0 v U'.heap L ∧ FrameEnd U o U' L room_1.cells room_1.slots) := by
  refine MetFree.of_bodySF (plainFor_of_name pn_1) hisR ?_
  intro p e s m args below meth c s₁ Bd hml0 hP hK
  obtain ⟨rfl, hZ, hh⟩ := hP
  have hx := Bd.exec
  have hby := Bd.bytes
  have hml : c.maxLocals = 6 := hml0
  have hown : s.vm.findClass "com/example/notifiable/notifiable/conformance/ErrorCodeRejectsPinLaw" = some m.cls := findClass_of_methodNamed Bd.named
  have hnm := (name_of_methodNamed Bd.named Bd.method).1
  have X0 : Stand p l e room_1 s m #[(.int p0)] below meth c s₁ [] 0 0 := Stand.of_body Bd
  have e0 : s₁.heap = h0 := by rw [← hh, Bd.state]; rfl
  have N0 := Fr.nil n0
  have pre0 : ∀ t, Steps p.tables e below (s₁.setTop (mkF m 0 #[.val (.int p0), .unset, .unset, .unset, .unset, .unset] [])) t → Steps p.tables e below (s₁.setTop (entryFrame m #[(.int p0)] maxLocals)) t := fun t k => castTop (ef_0 m p0) k
  obtain ⟨T1, h1, k1, X1, e1, E1, A1, O1, st1⟩ := newR X0 hx hZ hown (hw _ (List.mem_of_getElem? (i := 0) rfl)) (hw _ (List.mem_of_getElem? (i := 1) rfl)) e0 (g := (mkF m 2 #[.val (.int p0), .unset, .unset, .unset, .unset, .unset] [(.int (12 : Int32))])) rfl (hb hby at_2) rfl (by decide) (cap := 12) (by decide) (by decide) (by decide) (by decide)
  obtain ⟨b1, g1⟩ : ∃ z, z = h0.size := ⟨_, rfl⟩
  rw [← g1] at A1 st1
  have ne2 : x0 ≠ b1 := Nat.ne_of_lt (Nat.lt_of_lt_of_le HE12.lt (Nat.le_of_eq g1.symm))
  have ne3 : x1 ≠ b1 := Nat.ne_of_lt (Nat.lt_of_lt_of_le HE13.lt (Nat.le_of_eq g1.symm))
  have ne4 : x2 ≠ b1 := Nat.ne_of_lt (Nat.lt_of_lt_of_le HE14.lt (Nat.le_of_eq g1.symm))
  have ne5 : x3 ≠ b1 := Nat.ne_of_lt (Nat.lt_of_lt_of_le HE15.lt (Nat.le_of_eq g1.symm))
  have ne6 : x4 ≠ b1 := Nat.ne_of_lt (Nat.lt_of_lt_of_le HE16.lt (Nat.le_of_eq g1.symm))
  have ne7 : x5 ≠ b1 := Nat.ne_of_lt (Nat.lt_of_lt_of_le HE17.lt (Nat.le_of_eq g1.symm))
  have ne8 : x6 ≠ b1 := Nat.ne_of_lt (Nat.lt_of_lt_of_le HE18.lt (Nat.le_of_eq g1.symm))
  have ne9 : x7 ≠ b1 := Nat.ne_of_lt (Nat.lt_of_lt_of_le HE19.lt (Nat.le_of_eq g1.symm))
  have ne10 : x8 ≠ b1 := Nat.ne_of_lt (Nat.lt_of_lt_of_le HE20.lt (Nat.le_of_eq g1.symm))
  have ne11 : x9 ≠ b1 := Nat.ne_of_lt (Nat.lt_of_lt_of_le HE21.lt (Nat.le_of_eq g1.symm))
  have ne12 : x10 ≠ b1 := Nat.ne_of_lt (Nat.lt_of_lt_of_le HE22.lt (Nat.le_of_eq g1.symm))
  have ne13 : x11 ≠ b1 := Nat.ne_of_lt (Nat.lt_of_lt_of_le HE23.lt (Nat.le_of_eq g1.symm))
  have g_b1 : n0 ≤ b1 := Nat.le_trans Z0 (Nat.le_of_eq g1.symm)
  have F14 : Sta Z h1 "com/example/notifiable/notifiable/conformance/ErrorCode" "SEGMENT_SEQUENCE_ERROR" "Lcom/example/notifiable/notifiable/conformance/ErrorCode;" (.ref x0) := HS0.ext E1
  have F15 : Sta Z h1 "com/example/notifiable/notifiable/conformance/ErrorCode" "REQUIRED_FIELD_MISSING" "Lcom/example/notifiable/notifiable/conformance/ErrorCode;" (.ref x1) := HS1.ext E1
  have F16 : Sta Z h1 "com/example/notifiable/notifiable/conformance/ErrorCode" "DATA_TYPE_ERROR" "Lcom/example/notifiable/notifiable/conformance/ErrorCode;" (.ref x2) := HS2.ext E1
  have F17 : Sta Z h1 "com/example/notifiable/notifiable/conformance/ErrorCode" "TABLE_VALUE_NOT_FOUND" "Lcom/example/notifiable/notifiable/conformance/ErrorCode;" (.ref x3) := HS3.ext E1
  have F18 : Sta Z h1 "com/example/notifiable/notifiable/conformance/ErrorCode" "UNSUPPORTED_MESSAGE_TYPE" "Lcom/example/notifiable/notifiable/conformance/ErrorCode;" (.ref x4) := HS4.ext E1
  have F19 : Sta Z h1 "com/example/notifiable/notifiable/conformance/ErrorCode" "UNSUPPORTED_EVENT_CODE" "Lcom/example/notifiable/notifiable/conformance/ErrorCode;" (.ref x5) := HS5.ext E1
  have F20 : Sta Z h1 "com/example/notifiable/notifiable/conformance/ErrorCode" "UNSUPPORTED_PROCESSING_ID" "Lcom/example/notifiable/notifiable/conformance/ErrorCode;" (.ref x6) := HS6.ext E1
  have F21 : Sta Z h1 "com/example/notifiable/notifiable/conformance/ErrorCode" "UNSUPPORTED_VERSION_ID" "Lcom/example/notifiable/notifiable/conformance/ErrorCode;" (.ref x7) := HS7.ext E1
  have F22 : Sta Z h1 "com/example/notifiable/notifiable/conformance/ErrorCode" "UNKNOWN_KEY_IDENTIFIER" "Lcom/example/notifiable/notifiable/conformance/ErrorCode;" (.ref x8) := HS8.ext E1
  have F23 : Sta Z h1 "com/example/notifiable/notifiable/conformance/ErrorCode" "DUPLICATE_KEY_IDENTIFIER" "Lcom/example/notifiable/notifiable/conformance/ErrorCode;" (.ref x9) := HS9.ext E1
  have F24 : Sta Z h1 "com/example/notifiable/notifiable/conformance/ErrorCode" "APPLICATION_RECORD_LOCKED" "Lcom/example/notifiable/notifiable/conformance/ErrorCode;" (.ref x10) := HS10.ext E1
  have F25 : Sta Z h1 "com/example/notifiable/notifiable/conformance/ErrorCode" "APPLICATION_INTERNAL_ERROR" "Lcom/example/notifiable/notifiable/conformance/ErrorCode;" (.ref x11) := HS11.ext E1
  have F26 : Exa Z h1 x0 "com/example/notifiable/notifiable/conformance/ErrorCode" := HE12.ext E1
  have F27 : Exa Z h1 x1 "com/example/notifiable/notifiable/conformance/ErrorCode" := HE13.ext E1
  have F28 : Exa Z h1 x2 "com/example/notifiable/notifiable/conformance/ErrorCode" := HE14.ext E1
  have F29 : Exa Z h1 x3 "com/example/notifiable/notifiable/conformance/ErrorCode" := HE15.ext E1
  have F30 : Exa Z h1 x4 "com/example/notifiable/notifiable/conformance/ErrorCode" := HE16.ext E1
  have F31 : Exa Z h1 x5 "com/example/notifiable/notifiable/conformance/ErrorCode" := HE17.ext E1
  have F32 : Exa Z h1 x6 "com/example/notifiable/notifiable/conformance/ErrorCode" := HE18.ext E1
  have F33 : Exa Z h1 x7 "com/example/notifiable/notifiable/conformance/ErrorCode" := HE19.ext E1
  have F34 : Exa Z h1 x8 "com/example/notifiable/notifiable/conformance/ErrorCode" := HE20.ext E1
  have F35 : Exa Z h1 x9 "com/example/notifiable/notifiable/conformance/ErrorCode" := HE21.ext E1
  have F36 : Exa Z h1 x10 "com/example/notifiable/notifiable/conformance/ErrorCode" := HE22.ext E1
  have F37 : Exa Z h1 x11 "com/example/notifiable/notifiable/conformance/ErrorCode" := HE23.ext E1
  have F38 : Fld Z h1 x0 "com/example/notifiable/notifiable/conformance/ErrorCode" "code" "I" (.int (100 : Int32)) := HF24.ext E1
  have F39 : Fld Z h1 x1 "com/example/notifiable/notifiable/conformance/ErrorCode" "code" "I" (.int (101 : Int32)) := HF25.ext E1
  have F40 : Fld Z h1 x2 "com/example/notifiable/notifiable/conformance/ErrorCode" "code" "I" (.int (102 : Int32)) := HF26.ext E1
  have F41 : Fld Z h1 x3 "com/example/notifiable/notifiable/conformance/ErrorCode" "code" "I" (.int (103 : Int32)) := HF27.ext E1
  have F42 : Fld Z h1 x4 "com/example/notifiable/notifiable/conformance/ErrorCode" "code" "I" (.int (200 : Int32)) := HF28.ext E1
  have F43 : Fld Z h1 x5 "com/example/notifiable/notifiable/conformance/ErrorCode" "code" "I" (.int (201 : Int32)) := HF29.ext E1
  have F44 : Fld Z h1 x6 "com/example/notifiable/notifiable/conformance/ErrorCode" "code" "I" (.int (202 : Int32)) := HF30.ext E1
  have F45 : Fld Z h1 x7 "com/example/notifiable/notifiable/conformance/ErrorCode" "code" "I" (.int (203 : Int32)) := HF31.ext E1
  have F46 : Fld Z h1 x8 "com/example/notifiable/notifiable/conformance/ErrorCode" "code" "I" (.int (204 : Int32)) := HF32.ext E1
  have F47 : Fld Z h1 x9 "com/example/notifiable/notifiable/conformance/ErrorCode" "code" "I" (.int (205 : Int32)) := HF33.ext E1
  have F48 : Fld Z h1 x10 "com/example/notifiable/notifiable/conformance/ErrorCode" "code" "I" (.int (206 : Int32)) := HF34.ext E1
  have F49 : Fld Z h1 x11 "com/example/notifiable/notifiable/conformance/ErrorCode" "code" "I" (.int (207 : Int32)) := HF35.ext E1
  have Z50 : n0 ≤ h1.size := Nat.le_trans Z0 E1.1
  have V1 : Arv Z h1 b1 k1 (.object "com/example/notifiable/notifiable/conformance/ErrorCode") (12 : Int32) [.null, .null, .null, .null, .null, .null, .null, .null, .null, .null, .null, .null] .null := (Arv.new A1 (by decide)).pad (pad_rep [] .null 12)
  obtain ⟨T51, X51, e51, st51⟩ := getS2 X1 hx hZ hown (host := "") (Or.inl (hw _ (List.mem_of_getElem? (i := 2) rfl))) Via.refl e1 F14 (g := (mkF m 7 #[.val (.int p0), .unset, .unset, .unset, .unset, .unset] [(.int (0 : Int32)), (.ref b1), (.ref b1)])) rfl (hb hby at_7)
  obtain ⟨co52, Ao52, qo52, So52, Mo52, Bo52, Go52⟩ := id V1
  obtain ⟨T53, h53, X53, e53, W53, st53⟩ := stR X51 hx hZ e51 Ao52 (j := (0 : Int32)) (inb_of So52 ⟨(by decide), (by decide)⟩) rfl (Sto.ofV Ao52 qo52 O1 (Ins.self F26)) (g := (mkF m 10 #[.val (.int p0), .unset, .unset, .unset, .unset, .unset] [(.ref x0), (.int (0 : Int32)), (.ref b1), (.ref b1)])) rfl rfl (hb hby at_10)
  have V53 : Arv Z h53 b1 k1 (.object "com/example/notifiable/notifiable/conformance/ErrorCode") (12 : Int32) [(.ref x0), .null, .null, .null, .null, .null, .null, .null, .null, .null, .null, .null] .null := Arv.set Ao52 qo52 So52 Mo52 Bo52 Go52 rfl W53 0 rfl (Nat.le_of_ble_eq_true rfl)
  have F54 : Sta Z h53 "com/example/notifiable/notifiable/conformance/ErrorCode" "SEGMENT_SEQUENCE_ERROR" "Lcom/example/notifiable/notifiable/conformance/ErrorCode;" (.ref x0) := F14.wr W53
  have F55 : Sta Z h53 "com/example/notifiable/notifiable/conformance/ErrorCode" "REQUIRED_FIELD_MISSING" "Lcom/example/notifiable/notifiable/conformance/ErrorCode;" (.ref x1) := F15.wr W53
  have F56 : Sta Z h53 "com/example/notifiable/notifiable/conformance/ErrorCode" "DATA_TYPE_ERROR" "Lcom/example/notifiable/notifiable/conformance/ErrorCode;" (.ref x2) := F16.wr W53
  have F57 : Sta Z h53 "com/example/notifiable/notifiable/conformance/ErrorCode" "TABLE_VALUE_NOT_FOUND" "Lcom/example/notifiable/notifiable/conformance/ErrorCode;" (.ref x3) := F17.wr W53
  have F58 : Sta Z h53 "com/example/notifiable/notifiable/conformance/ErrorCode" "UNSUPPORTED_MESSAGE_TYPE" "Lcom/example/notifiable/notifiable/conformance/ErrorCode;" (.ref x4) := F18.wr W53
  have F59 : Sta Z h53 "com/example/notifiable/notifiable/conformance/ErrorCode" "UNSUPPORTED_EVENT_CODE" "Lcom/example/notifiable/notifiable/conformance/ErrorCode;" (.ref x5) := F19.wr W53
  have F60 : Sta Z h53 "com/example/notifiable/notifiable/conformance/ErrorCode" "UNSUPPORTED_PROCESSING_ID" "Lcom/example/notifiable/notifiable/conformance/ErrorCode;" (.ref x6) := F20.wr W53
  have F61 : Sta Z h53 "com/example/notifiable/notifiable/conformance/ErrorCode" "UNSUPPORTED_VERSION_ID" "Lcom/example/notifiable/notifiable/conformance/ErrorCode;" (.ref x7) := F21.wr W53
  have F62 : Sta Z h53 "com/example/notifiable/notifiable/conformance/ErrorCode" "UNKNOWN_KEY_IDENTIFIER" "Lcom/example/notifiable/notifiable/conformance/ErrorCode;" (.ref x8) := F22.wr W53
  have F63 : Sta Z h53 "com/example/notifiable/notifiable/conformance/ErrorCode" "DUPLICATE_KEY_IDENTIFIER" "Lcom/example/notifiable/notifiable/conformance/ErrorCode;" (.ref x9) := F23.wr W53
  have F64 : Sta Z h53 "com/example/notifiable/notifiable/conformance/ErrorCode" "APPLICATION_RECORD_LOCKED" "Lcom/example/notifiable/notifiable/conformance/ErrorCode;" (.ref x10) := F24.wr W53
  have F65 : Sta Z h53 "com/example/notifiable/notifiable/conformance/ErrorCode" "APPLICATION_INTERNAL_ERROR" "Lcom/example/notifiable/notifiable/conformance/ErrorCode;" (.ref x11) := F25.wr W53
  have F66 : Exa Z h53 x0 "com/example/notifiable/notifiable/conformance/ErrorCode" := F26.wr W53
  have F67 : Exa Z h53 x1 "com/example/notifiable/notifiable/conformance/ErrorCode" := F27.wr W53
  have F68 : Exa Z h53 x2 "com/example/notifiable/notifiable/conformance/ErrorCode" := F28.wr W53
  have F69 : Exa Z h53 x3 "com/example/notifiable/notifiable/conformance/ErrorCode" := F29.wr W53
  have F70 : Exa Z h53 x4 "com/example/notifiable/notifiable/conformance/ErrorCode" := F30.wr W53
  have F71 : Exa Z h53 x5 "com/example/notifiable/notifiable/conformance/ErrorCode" := F31.wr W53
  have F72 : Exa Z h53 x6 "com/example/notifiable/notifiable/conformance/ErrorCode" := F32.wr W53
  have F73 : Exa Z h53 x7 "com/example/notifiable/notifiable/conformance/ErrorCode" := F33.wr W53
  have F74 : Exa Z h53 x8 "com/example/notifiable/notifiable/conformance/ErrorCode" := F34.wr W53
  have F75 : Exa Z h53 x9 "com/example/notifiable/notifiable/conformance/ErrorCode" := F35.wr W53
  have F76 : Exa Z h53 x10 "com/example/notifiable/notifiable/conformance/ErrorCode" := F36.wr W53
  have F77 : Exa Z h53 x11 "com/example/notifiable/notifiable/conformance/ErrorCode" := F37.wr W53
  have F78 : Fld Z h53 x0 "com/example/notifiable/notifiable/conformance/ErrorCode" "code" "I" (.int (100 : Int32)) := F38.other W53 (Or.inl ne2)
  have F79 : Fld Z h53 x1 "com/example/notifiable/notifiable/conformance/ErrorCode" "code" "I" (.int (101 : Int32)) := F39.other W53 (Or.inl ne3)
  have F80 : Fld Z h53 x2 "com/example/notifiable/notifiable/conformance/ErrorCode" "code" "I" (.int (102 : Int32)) := F40.other W53 (Or.inl ne4)
  have F81 : Fld Z h53 x3 "com/example/notifiable/notifiable/conformance/ErrorCode" "code" "I" (.int (103 : Int32)) := F41.other W53 (Or.inl ne5)
  have F82 : Fld Z h53 x4 "com/example/notifiable/notifiable/conformance/ErrorCode" "code" "I" (.int (200 : Int32)) := F42.other W53 (Or.inl ne6)
  have F83 : Fld Z h53 x5 "com/example/notifiable/notifiable/conformance/ErrorCode" "code" "I" (.int (201 : Int32)) := F43.other W53 (Or.inl ne7)
  have F84 : Fld Z h53 x6 "com/example/notifiable/notifiable/conformance/ErrorCode" "code" "I" (.int (202 : Int32)) := F44.other W53 (Or.inl ne8)
  have F85 : Fld Z h53 x7 "com/example/notifiable/notifiable/conformance/ErrorCode" "code" "I" (.int (203 : Int32)) := F45.other W53 (Or.inl ne9)
  have F86 : Fld Z h53 x8 "com/example/notifiable/notifiable/conformance/ErrorCode" "code" "I" (.int (204 : Int32)) := F46.other W53 (Or.inl ne10)
  have F87 : Fld Z h53 x9 "com/example/notifiable/notifiable/conformance/ErrorCode" "code" "I" (.int (205 : Int32)) := F47.other W53 (Or.inl ne11)
  have F88 : Fld Z h53 x10 "com/example/notifiable/notifiable/conformance/ErrorCode" "code" "I" (.int (206 : Int32)) := F48.other W53 (Or.inl ne12)
  have F89 : Fld Z h53 x11 "com/example/notifiable/notifiable/conformance/ErrorCode" "code" "I" (.int (207 : Int32)) := F49.other W53 (Or.inl ne13)
  have Z90 : n0 ≤ h53.size := Nat.le_trans Z50 (Keep.of_wr W53).1
  have N91 := Fr.snoc X53 N0 g_b1
  obtain ⟨T92, X92, e92, st92⟩ := getS2 X53 hx hZ hown (host := "") (Or.inl (hw _ (List.mem_of_getElem? (i := 6) rfl))) Via.refl e53 F55 (g := (mkF m 13 #[.val (.int p0), .unset, .unset, .unset, .unset, .unset] [(.int (1 : Int32)), (.ref b1), (.ref b1)])) rfl (hb hby at_13)
  obtain ⟨co93, Ao93, qo93, So93, Mo93, Bo93, Go93⟩ := id V53
  obtain ⟨T94, h94, X94, e94, W94, st94⟩ := stR X92 hx hZ e92 Ao93 (j := (1 : Int32)) (inb_of So93 ⟨(by decide), (by decide)⟩) rfl (Sto.ofV Ao93 qo93 O1 (Ins.self F67)) (g := (mkF m 16 #[.val (.int p0), .unset, .unset, .unset, .unset, .unset] [(.ref x1), (.int (1 : Int32)), (.ref b1), (.ref b1)])) rfl rfl (hb hby at_16)
  have V94 : Arv Z h94 b1 k1 (.object "com/example/notifiable/notifiable/conformance/ErrorCode") (12 : Int32) [(.ref x0), (.ref x1), .null, .null, .null, .null, .null, .null, .null, .null, .null, .null] .null := Arv.set Ao93 qo93 So93 Mo93 Bo93 Go93 rfl W94 1 rfl (Nat.le_of_ble_eq_true rfl)
  have F95 : Sta Z h94 "com/example/notifiable/notifiable/conformance/ErrorCode" "SEGMENT_SEQUENCE_ERROR" "Lcom/example/notifiable/notifiable/conformance/ErrorCode;" (.ref x0) := F54.wr W94
  have F96 : Sta Z h94 "com/example/notifiable/notifiable/conformance/ErrorCode" "REQUIRED_FIELD_MISSING" "Lcom/example/notifiable/notifiable/conformance/ErrorCode;" (.ref x1) := F55.wr W94
  have F97 : Sta Z h94 "com/example/notifiable/notifiable/conformance/ErrorCode" "DATA_TYPE_ERROR" "Lcom/example/notifiable/notifiable/conformance/ErrorCode;" (.ref x2) := F56.wr W94
  have F98 : Sta Z h94 "com/example/notifiable/notifiable/conformance/ErrorCode" "TABLE_VALUE_NOT_FOUND" "Lcom/example/notifiable/notifiable/conformance/ErrorCode;" (.ref x3) := F57.wr W94
  have F99 : Sta Z h94 "com/example/notifiable/notifiable/conformance/ErrorCode" "UNSUPPORTED_MESSAGE_TYPE" "Lcom/example/notifiable/notifiable/conformance/ErrorCode;" (.ref x4) := F58.wr W94
  have F100 : Sta Z h94 "com/example/notifiable/notifiable/conformance/ErrorCode" "UNSUPPORTED_EVENT_CODE" "Lcom/example/notifiable/notifiable/conformance/ErrorCode;" (.ref x5) := F59.wr W94
  have F101 : Sta Z h94 "com/example/notifiable/notifiable/conformance/ErrorCode" "UNSUPPORTED_PROCESSING_ID" "Lcom/example/notifiable/notifiable/conformance/ErrorCode;" (.ref x6) := F60.wr W94
  have F102 : Sta Z h94 "com/example/notifiable/notifiable/conformance/ErrorCode" "UNSUPPORTED_VERSION_ID" "Lcom/example/notifiable/notifiable/conformance/ErrorCode;" (.ref x7) := F61.wr W94
  have F103 : Sta Z h94 "com/example/notifiable/notifiable/conformance/ErrorCode" "UNKNOWN_KEY_IDENTIFIER" "Lcom/example/notifiable/notifiable/conformance/ErrorCode;" (.ref x8) := F62.wr W94
  have F104 : Sta Z h94 "com/example/notifiable/notifiable/conformance/ErrorCode" "DUPLICATE_KEY_IDENTIFIER" "Lcom/example/notifiable/notifiable/conformance/ErrorCode;" (.ref x9) := F63.wr W94
  have F105 : Sta Z h94 "com/example/notifiable/notifiable/conformance/ErrorCode" "APPLICATION_RECORD_LOCKED" "Lcom/example/notifiable/notifiable/conformance/ErrorCode;" (.ref x10) := F64.wr W94
  have F106 : Sta Z h94 "com/example/notifiable/notifiable/conformance/ErrorCode" "APPLICATION_INTERNAL_ERROR" "Lcom/example/notifiable/notifiable/conformance/ErrorCode;" (.ref x11) := F65.wr W94
  have F107 : Exa Z h94 x0 "com/example/notifiable/notifiable/conformance/ErrorCode" := F66.wr W94
  have F108 : Exa Z h94 x1 "com/example/notifiable/notifiable/conformance/ErrorCode" := F67.wr W94
  have F109 : Exa Z h94 x2 "com/example/notifiable/notifiable/conformance/ErrorCode" := F68.wr W94
  have F110 : Exa Z h94 x3 "com/example/notifiable/notifiable/conformance/ErrorCode" := F69.wr W94
  have F111 : Exa Z h94 x4 "com/example/notifiable/notifiable/conformance/ErrorCode" := F70.wr W94
  have F112 : Exa Z h94 x5 "com/example/notifiable/notifiable/conformance/ErrorCode" := F71.wr W94
  have F113 : Exa Z h94 x6 "com/example/notifiable/notifiable/conformance/ErrorCode" := F72.wr W94
  have F114 : Exa Z h94 x7 "com/example/notifiable/notifiable/conformance/ErrorCode" := F73.wr W94
  have F115 : Exa Z h94 x8 "com/example/notifiable/notifiable/conformance/ErrorCode" := F74.wr W94
  have F116 : Exa Z h94 x9 "com/example/notifiable/notifiable/conformance/ErrorCode" := F75.wr W94
  have F117 : Exa Z h94 x10 "com/example/notifiable/notifiable/conformance/ErrorCode" := F76.wr W94
  have F118 : Exa Z h94 x11 "com/example/notifiable/notifiable/conformance/ErrorCode" := F77.wr W94
  have F119 : Fld Z h94 x0 "com/example/notifiable/notifiable/conformance/ErrorCode" "code" "I" (.int (100 : Int32)) := F78.other W94 (Or.inl ne2)
  have F120 : Fld Z h94 x1 "com/example/notifiable/notifiable/conformance/ErrorCode" "code" "I" (.int (101 : Int32)) := F79.other W94 (Or.inl ne3)
  have F121 : Fld Z h94 x2 "com/example/notifiable/notifiable/conformance/ErrorCode" "code" "I" (.int (102 : Int32)) := F80.other W94 (Or.inl ne4)
  have F122 : Fld Z h94 x3 "com/example/notifiable/notifiable/conformance/ErrorCode" "code" "I" (.int (103 : Int32)) := F81.other W94 (Or.inl ne5)
  have F123 : Fld Z h94 x4 "com/example/notifiable/notifiable/conformance/ErrorCode" "code" "I" (.int (200 : Int32)) := F82.other W94 (Or.inl ne6)
  have F124 : Fld Z h94 x5 "com/example/notifiable/notifiable/conformance/ErrorCode" "code" "I" (.int (201 : Int32)) := F83.other W94 (Or.inl ne7)
  have F125 : Fld Z h94 x6 "com/example/notifiable/notifiable/conformance/ErrorCode" "code" "I" (.int (202 : Int32)) := F84.other W94 (Or.inl ne8)
  have F126 : Fld Z h94 x7 "com/example/notifiable/notifiable/conformance/ErrorCode" "code" "I" (.int (203 : Int32)) := F85.other W94 (Or.inl ne9)
  have F127 : Fld Z h94 x8 "com/example/notifiable/notifiable/conformance/ErrorCode" "code" "I" (.int (204 : Int32)) := F86.other W94 (Or.inl ne10)
  have F128 : Fld Z h94 x9 "com/example/notifiable/notifiable/conformance/ErrorCode" "code" "I" (.int (205 : Int32)) := F87.other W94 (Or.inl ne11)
  have F129 : Fld Z h94 x10 "com/example/notifiable/notifiable/conformance/ErrorCode" "code" "I" (.int (206 : Int32)) := F88.other W94 (Or.inl ne12)
  have F130 : Fld Z h94 x11 "com/example/notifiable/notifiable/conformance/ErrorCode" "code" "I" (.int (207 : Int32)) := F89.other W94 (Or.inl ne13)
  have Z131 : n0 ≤ h94.size := Nat.le_trans Z90 (Keep.of_wr W94).1
  have N132 := Fr.snoc X94 N91 g_b1
  obtain ⟨T133, X133, e133, st133⟩ := getS2 X94 hx hZ hown (host := "") (Or.inl (hw _ (List.mem_of_getElem? (i := 8) rfl))) Via.refl e94 F97 (g := (mkF m 19 #[.val (.int p0), .unset, .unset, .unset, .unset, .unset] [(.int (2 : Int32)), (.ref b1), (.ref b1)])) rfl (hb hby at_19)
  obtain ⟨co134, Ao134, qo134, So134, Mo134, Bo134, Go134⟩ := id V94
  obtain ⟨T135, h135, X135, e135, W135, st135⟩ := stR X133 hx hZ e133 Ao134 (j := (2 : Int32)) (inb_of So134 ⟨(by decide), (by decide)⟩) rfl (Sto.ofV Ao134 qo134 O1 (Ins.self F109)) (g := (mkF m 22 #[.val (.int p0), .unset, .unset, .unset, .unset, .unset] [(.ref x2), (.int (2 : Int32)), (.ref b1), (.ref b1)])) rfl rfl (hb hby at_22)
  have V135 : Arv Z h135 b1 k1 (.object "com/example/notifiable/notifiable/conformance/ErrorCode") (12 : Int32) [(.ref x0), (.ref x1), (.ref x2), .null, .null, .null, .null, .null, .null, .null, .null, .null] .null := Arv.set Ao134 qo134 So134 Mo134 Bo134 Go134 rfl W135 2 rfl (Nat.le_of_ble_eq_true rfl)
  have F136 : Sta Z h135 "com/example/notifiable/notifiable/conformance/ErrorCode" "SEGMENT_SEQUENCE_ERROR" "Lcom/example/notifiable/notifiable/conformance/ErrorCode;" (.ref x0) := F95.wr W135
  have F137 : Sta Z h135 "com/example/notifiable/notifiable/conformance/ErrorCode" "REQUIRED_FIELD_MISSING" "Lcom/example/notifiable/notifiable/conformance/ErrorCode;" (.ref x1) := F96.wr W135
  have F138 : Sta Z h135 "com/example/notifiable/notifiable/conformance/ErrorCode" "DATA_TYPE_ERROR" "Lcom/example/notifiable/notifiable/conformance/ErrorCode;" (.ref x2) := F97.wr W135
  have F139 : Sta Z h135 "com/example/notifiable/notifiable/conformance/ErrorCode" "TABLE_VALUE_NOT_FOUND" "Lcom/example/notifiable/notifiable/conformance/ErrorCode;" (.ref x3) := F98.wr W135
  have F140 : Sta Z h135 "com/example/notifiable/notifiable/conformance/ErrorCode" "UNSUPPORTED_MESSAGE_TYPE" "Lcom/example/notifiable/notifiable/conformance/ErrorCode;" (.ref x4) := F99.wr W135
  have F141 : Sta Z h135 "com/example/notifiable/notifiable/conformance/ErrorCode" "UNSUPPORTED_EVENT_CODE" "Lcom/example/notifiable/notifiable/conformance/ErrorCode;" (.ref x5) := F100.wr W135
  have F142 : Sta Z h135 "com/example/notifiable/notifiable/conformance/ErrorCode" "UNSUPPORTED_PROCESSING_ID" "Lcom/example/notifiable/notifiable/conformance/ErrorCode;" (.ref x6) := F101.wr W135
  have F143 : Sta Z h135 "com/example/notifiable/notifiable/conformance/ErrorCode" "UNSUPPORTED_VERSION_ID" "Lcom/example/notifiable/notifiable/conformance/ErrorCode;" (.ref x7) := F102.wr W135
  have F144 : Sta Z h135 "com/example/notifiable/notifiable/conformance/ErrorCode" "UNKNOWN_KEY_IDENTIFIER" "Lcom/example/notifiable/notifiable/conformance/ErrorCode;" (.ref x8) := F103.wr W135
  have F145 : Sta Z h135 "com/example/notifiable/notifiable/conformance/ErrorCode" "DUPLICATE_KEY_IDENTIFIER" "Lcom/example/notifiable/notifiable/conformance/ErrorCode;" (.ref x9) := F104.wr W135
  have F146 : Sta Z h135 "com/example/notifiable/notifiable/conformance/ErrorCode" "APPLICATION_RECORD_LOCKED" "Lcom/example/notifiable/notifiable/conformance/ErrorCode;" (.ref x10) := F105.wr W135
  have F147 : Sta Z h135 "com/example/notifiable/notifiable/conformance/ErrorCode" "APPLICATION_INTERNAL_ERROR" "Lcom/example/notifiable/notifiable/conformance/ErrorCode;" (.ref x11) := F106.wr W135
  have F148 : Exa Z h135 x0 "com/example/notifiable/notifiable/conformance/ErrorCode" := F107.wr W135
  have F149 : Exa Z h135 x1 "com/example/notifiable/notifiable/conformance/ErrorCode" := F108.wr W135
  have F150 : Exa Z h135 x2 "com/example/notifiable/notifiable/conformance/ErrorCode" := F109.wr W135
  have F151 : Exa Z h135 x3 "com/example/notifiable/notifiable/conformance/ErrorCode" := F110.wr W135
  have F152 : Exa Z h135 x4 "com/example/notifiable/notifiable/conformance/ErrorCode" := F111.wr W135
  have F153 : Exa Z h135 x5 "com/example/notifiable/notifiable/conformance/ErrorCode" := F112.wr W135
  have F154 : Exa Z h135 x6 "com/example/notifiable/notifiable/conformance/ErrorCode" := F113.wr W135
  have F155 : Exa Z h135 x7 "com/example/notifiable/notifiable/conformance/ErrorCode" := F114.wr W135
  have F156 : Exa Z h135 x8 "com/example/notifiable/notifiable/conformance/ErrorCode" := F115.wr W135
  have F157 : Exa Z h135 x9 "com/example/notifiable/notifiable/conformance/ErrorCode" := F116.wr W135
  have F158 : Exa Z h135 x10 "com/example/notifiable/notifiable/conformance/ErrorCode" := F117.wr W135
  have F159 : Exa Z h135 x11 "com/example/notifiable/notifiable/conformance/ErrorCode" := F118.wr W135
  have F160 : Fld Z h135 x0 "com/example/notifiable/notifiable/conformance/ErrorCode" "code" "I" (.int (100 : Int32)) := F119.other W135 (Or.inl ne2)
  have F161 : Fld Z h135 x1 "com/example/notifiable/notifiable/conformance/ErrorCode" "code" "I" (.int (101 : Int32)) := F120.other W135 (Or.inl ne3)
  have F162 : Fld Z h135 x2 "com/example/notifiable/notifiable/conformance/ErrorCode" "code" "I" (.int (102 : Int32)) := F121.other W135 (Or.inl ne4)
  have F163 : Fld Z h135 x3 "com/example/notifiable/notifiable/conformance/ErrorCode" "code" "I" (.int (103 : Int32)) := F122.other W135 (Or.inl ne5)
  have F164 : Fld Z h135 x4 "com/example/notifiable/notifiable/conformance/ErrorCode" "code" "I" (.int (200 : Int32)) := F123.other W135 (Or.inl ne6)
  have F165 : Fld Z h135 x5 "com/example/notifiable/notifiable/conformance/ErrorCode" "code" "I" (.int (201 : Int32)) := F124.other W135 (Or.inl ne7)
  have F166 : Fld Z h135 x6 "com/example/notifiable/notifiable/conformance/ErrorCode" "code" "I" (.int (202 : Int32)) := F125.other W135 (Or.inl ne8)
  have F167 : Fld Z h135 x7 "com/example/notifiable/notifiable/conformance/ErrorCode" "code" "I" (.int (203 : Int32)) := F126.other W135 (Or.inl ne9)
  have F168 : Fld Z h135 x8 "com/example/notifiable/notifiable/conformance/ErrorCode" "code" "I" (.int (204 : Int32)) := F127.other W135 (Or.inl ne10)
  have F169 : Fld Z h135 x9 "com/example/notifiable/notifiable/conformance/ErrorCode" "code" "I" (.int (205 : Int32)) := F128.other W135 (Or.inl ne11)
  have F170 : Fld Z h135 x10 "com/example/notifiable/notifiable/conformance/ErrorCode" "code" "I" (.int (206 : Int32)) := F129.other W135 (Or.inl ne12)
  have F171 : Fld Z h135 x11 "com/example/notifiable/notifiable/conformance/ErrorCode" "code" "I" (.int (207 : Int32)) := F130.other W135 (Or.inl ne13)
  have Z172 : n0 ≤ h135.size := Nat.le_trans Z131 (Keep.of_wr W135).1
  have N173 := Fr.snoc X135 N132 g_b1
  obtain ⟨T174, X174, e174, st174⟩ := getS2 X135 hx hZ hown (host := "") (Or.inl (hw _ (List.mem_of_getElem? (i := 10) rfl))) Via.refl e135 F139 (g := (mkF m 25 #[.val (.int p0), .unset, .unset, .unset, .unset, .unset] [(.int (3 : Int32)), (.ref b1), (.ref b1)])) rfl (hb hby at_25)
  obtain ⟨co175, Ao175, qo175, So175, Mo175, Bo175, Go175⟩ := id V135
  obtain ⟨T176, h176, X176, e176, W176, st176⟩ := stR X174 hx hZ e174 Ao175 (j := (3 : Int32)) (inb_of So175 ⟨(by decide), (by decide)⟩) rfl (Sto.ofV Ao175 qo175 O1 (Ins.self F151)) (g := (mkF m 28 #[.val (.int p0), .unset, .unset, .unset, .unset, .unset] [(.ref x3), (.int (3 : Int32)), (.ref b1), (.ref b1)])) rfl rfl (hb hby at_28)
  have V176 : Arv Z h176 b1 k1 (.object "com/example/notifiable/notifiable/conformance/ErrorCode") (12 : Int32) [(.ref x0), (.ref x1), (.ref x2), (.ref x3), .null, .null, .null, .null, .null, .null, .null, .null] .null := Arv.set Ao175 qo175 So175 Mo175 Bo175 Go175 rfl W176 3 rfl (Nat.le_of_ble_eq_true rfl)
  have F177 : Sta Z h176 "com/example/notifiable/notifiable/conformance/ErrorCode" "SEGMENT_SEQUENCE_ERROR" "Lcom/example/notifiable/notifiable/conformance/ErrorCode;" (.ref x0) := F136.wr W176
  have F178 : Sta Z h176 "com/example/notifiable/notifiable/conformance/ErrorCode" "REQUIRED_FIELD_MISSING" "Lcom/example/notifiable/notifiable/conformance/ErrorCode;" (.ref x1) := F137.wr W176
  have F179 : Sta Z h176 "com/example/notifiable/notifiable/conformance/ErrorCode" "DATA_TYPE_ERROR" "Lcom/example/notifiable/notifiable/conformance/ErrorCode;" (.ref x2) := F138.wr W176
  have F180 : Sta Z h176 "com/example/notifiable/notifiable/conformance/ErrorCode" "TABLE_VALUE_NOT_FOUND" "Lcom/example/notifiable/notifiable/conformance/ErrorCode;" (.ref x3) := F139.wr W176
  have F181 : Sta Z h176 "com/example/notifiable/notifiable/conformance/ErrorCode" "UNSUPPORTED_MESSAGE_TYPE" "Lcom/example/notifiable/notifiable/conformance/ErrorCode;" (.ref x4) := F140.wr W176
  have F182 : Sta Z h176 "com/example/notifiable/notifiable/conformance/ErrorCode" "UNSUPPORTED_EVENT_CODE" "Lcom/example/notifiable/notifiable/conformance/ErrorCode;" (.ref x5) := F141.wr W176
  have F183 : Sta Z h176 "com/example/notifiable/notifiable/conformance/ErrorCode" "UNSUPPORTED_PROCESSING_ID" "Lcom/example/notifiable/notifiable/conformance/ErrorCode;" (.ref x6) := F142.wr W176
  have F184 : Sta Z h176 "com/example/notifiable/notifiable/conformance/ErrorCode" "UNSUPPORTED_VERSION_ID" "Lcom/example/notifiable/notifiable/conformance/ErrorCode;" (.ref x7) := F143.wr W176
  have F185 : Sta Z h176 "com/example/notifiable/notifiable/conformance/ErrorCode" "UNKNOWN_KEY_IDENTIFIER" "Lcom/example/notifiable/notifiable/conformance/ErrorCode;" (.ref x8) := F144.wr W176
  have F186 : Sta Z h176 "com/example/notifiable/notifiable/conformance/ErrorCode" "DUPLICATE_KEY_IDENTIFIER" "Lcom/example/notifiable/notifiable/conformance/ErrorCode;" (.ref x9) := F145.wr W176
  have F187 : Sta Z h176 "com/example/notifiable/notifiable/conformance/ErrorCode" "APPLICATION_RECORD_LOCKED" "Lcom/example/notifiable/notifiable/conformance/ErrorCode;" (.ref x10) := F146.wr W176
  have F188 : Sta Z h176 "com/example/notifiable/notifiable/conformance/ErrorCode" "APPLICATION_INTERNAL_ERROR" "Lcom/example/notifiable/notifiable/conformance/ErrorCode;" (.ref x11) := F147.wr W176
  have F189 : Exa Z h176 x0 "com/example/notifiable/notifiable/conformance/ErrorCode" := F148.wr W176
  have F190 : Exa Z h176 x1 "com/example/notifiable/notifiable/conformance/ErrorCode" := F149.wr W176
  have F191 : Exa Z h176 x2 "com/example/notifiable/notifiable/conformance/ErrorCode" := F150.wr W176
  have F192 : Exa Z h176 x3 "com/example/notifiable/notifiable/conformance/ErrorCode" := F151.wr W176
  have F193 : Exa Z h176 x4 "com/example/notifiable/notifiable/conformance/ErrorCode" := F152.wr W176
  have F194 : Exa Z h176 x5 "com/example/notifiable/notifiable/conformance/ErrorCode" := F153.wr W176
  have F195 : Exa Z h176 x6 "com/example/notifiable/notifiable/conformance/ErrorCode" := F154.wr W176
  have F196 : Exa Z h176 x7 "com/example/notifiable/notifiable/conformance/ErrorCode" := F155.wr W176
  have F197 : Exa Z h176 x8 "com/example/notifiable/notifiable/conformance/ErrorCode" := F156.wr W176
  have F198 : Exa Z h176 x9 "com/example/notifiable/notifiable/conformance/ErrorCode" := F157.wr W176
  have F199 : Exa Z h176 x10 "com/example/notifiable/notifiable/conformance/ErrorCode" := F158.wr W176
  have F200 : Exa Z h176 x11 "com/example/notifiable/notifiable/conformance/ErrorCode" := F159.wr W176
  have F201 : Fld Z h176 x0 "com/example/notifiable/notifiable/conformance/ErrorCode" "code" "I" (.int (100 : Int32)) := F160.other W176 (Or.inl ne2)
  have F202 : Fld Z h176 x1 "com/example/notifiable/notifiable/conformance/ErrorCode" "code" "I" (.int (101 : Int32)) := F161.other W176 (Or.inl ne3)
  have F203 : Fld Z h176 x2 "com/example/notifiable/notifiable/conformance/ErrorCode" "code" "I" (.int (102 : Int32)) := F162.other W176 (Or.inl ne4)
  have F204 : Fld Z h176 x3 "com/example/notifiable/notifiable/conformance/ErrorCode" "code" "I" (.int (103 : Int32)) := F163.other W176 (Or.inl ne5)
  have F205 : Fld Z h176 x4 "com/example/notifiable/notifiable/conformance/ErrorCode" "code" "I" (.int (200 : Int32)) := F164.other W176 (Or.inl ne6)
  have F206 : Fld Z h176 x5 "com/example/notifiable/notifiable/conformance/ErrorCode" "code" "I" (.int (201 : Int32)) := F165.other W176 (Or.inl ne7)
  have F207 : Fld Z h176 x6 "com/example/notifiable/notifiable/conformance/ErrorCode" "code" "I" (.int (202 : Int32)) := F166.other W176 (Or.inl ne8)
  have F208 : Fld Z h176 x7 "com/example/notifiable/notifiable/conformance/ErrorCode" "code" "I" (.int (203 : Int32)) := F167.other W176 (Or.inl ne9)
  have F209 : Fld Z h176 x8 "com/example/notifiable/notifiable/conformance/ErrorCode" "code" "I" (.int (204 : Int32)) := F168.other W176 (Or.inl ne10)
  have F210 : Fld Z h176 x9 "com/example/notifiable/notifiable/conformance/ErrorCode" "code" "I" (.int (205 : Int32)) := F169.other W176 (Or.inl ne11)
  have F211 : Fld Z h176 x10 "com/example/notifiable/notifiable/conformance/ErrorCode" "code" "I" (.int (206 : Int32)) := F170.other W176 (Or.inl ne12)
  have F212 : Fld Z h176 x11 "com/example/notifiable/notifiable/conformance/ErrorCode" "code" "I" (.int (207 : Int32)) := F171.other W176 (Or.inl ne13)
  have Z213 : n0 ≤ h176.size := Nat.le_trans Z172 (Keep.of_wr W176).1
  have N214 := Fr.snoc X176 N173 g_b1
  obtain ⟨T215, X215, e215, st215⟩ := getS2 X176 hx hZ hown (host := "") (Or.inl (hw _ (List.mem_of_getElem? (i := 12) rfl))) Via.refl e176 F181 (g := (mkF m 31 #[.val (.int p0), .unset, .unset, .unset, .unset, .unset] [(.int (4 : Int32)), (.ref b1), (.ref b1)])) rfl (hb hby at_31)
  obtain ⟨co216, Ao216, qo216, So216, Mo216, Bo216, Go216⟩ := id V176
  obtain ⟨T217, h217, X217, e217, W217, st217⟩ := stR X215 hx hZ e215 Ao216 (j := (4 : Int32)) (inb_of So216 ⟨(by decide), (by decide)⟩) rfl (Sto.ofV Ao216 qo216 O1 (Ins.self F193)) (g := (mkF m 34 #[.val (.int p0), .unset, .unset, .unset, .unset, .unset] [(.ref x4), (.int (4 : Int32)), (.ref b1), (.ref b1)])) rfl rfl (hb hby at_34)
  have V217 : Arv Z h217 b1 k1 (.object "com/example/notifiable/notifiable/conformance/ErrorCode") (12 : Int32) [(.ref x0), (.ref x1), (.ref x2), (.ref x3), (.ref x4), .null, .null, .null, .null, .null, .null, .null] .null := Arv.set Ao216 qo216 So216 Mo216 Bo216 Go216 rfl W217 4 rfl (Nat.le_of_ble_eq_true rfl)
  have F218 : Sta Z h217 "com/example/notifiable/notifiable/conformance/ErrorCode" "SEGMENT_SEQUENCE_ERROR" "Lcom/example/notifiable/notifiable/conformance/ErrorCode;" (.ref x0) := F177.wr W217
  have F219 : Sta Z h217 "com/example/notifiable/notifiable/conformance/ErrorCode" "REQUIRED_FIELD_MISSING" "Lcom/example/notifiable/notifiable/conformance/ErrorCode;" (.ref x1) := F178.wr W217
  have F220 : Sta Z h217 "com/example/notifiable/notifiable/conformance/ErrorCode" "DATA_TYPE_ERROR" "Lcom/example/notifiable/notifiable/conformance/ErrorCode;" (.ref x2) := F179.wr W217
  have F221 : Sta Z h217 "com/example/notifiable/notifiable/conformance/ErrorCode" "TABLE_VALUE_NOT_FOUND" "Lcom/example/notifiable/notifiable/conformance/ErrorCode;" (.ref x3) := F180.wr W217
  have F222 : Sta Z h217 "com/example/notifiable/notifiable/conformance/ErrorCode" "UNSUPPORTED_MESSAGE_TYPE" "Lcom/example/notifiable/notifiable/conformance/ErrorCode;" (.ref x4) := F181.wr W217
  have F223 : Sta Z h217 "com/example/notifiable/notifiable/conformance/ErrorCode" "UNSUPPORTED_EVENT_CODE" "Lcom/example/notifiable/notifiable/conformance/ErrorCode;" (.ref x5) := F182.wr W217
  have F224 : Sta Z h217 "com/example/notifiable/notifiable/conformance/ErrorCode" "UNSUPPORTED_PROCESSING_ID" "Lcom/example/notifiable/notifiable/conformance/ErrorCode;" (.ref x6) := F183.wr W217
  have F225 : Sta Z h217 "com/example/notifiable/notifiable/conformance/ErrorCode" "UNSUPPORTED_VERSION_ID" "Lcom/example/notifiable/notifiable/conformance/ErrorCode;" (.ref x7) := F184.wr W217
  have F226 : Sta Z h217 "com/example/notifiable/notifiable/conformance/ErrorCode" "UNKNOWN_KEY_IDENTIFIER" "Lcom/example/notifiable/notifiable/conformance/ErrorCode;" (.ref x8) := F185.wr W217
  have F227 : Sta Z h217 "com/example/notifiable/notifiable/conformance/ErrorCode" "DUPLICATE_KEY_IDENTIFIER" "Lcom/example/notifiable/notifiable/conformance/ErrorCode;" (.ref x9) := F186.wr W217
  have F228 : Sta Z h217 "com/example/notifiable/notifiable/conformance/ErrorCode" "APPLICATION_RECORD_LOCKED" "Lcom/example/notifiable/notifiable/conformance/ErrorCode;" (.ref x10) := F187.wr W217
  have F229 : Sta Z h217 "com/example/notifiable/notifiable/conformance/ErrorCode" "APPLICATION_INTERNAL_ERROR" "Lcom/example/notifiable/notifiable/conformance/ErrorCode;" (.ref x11) := F188.wr W217
  have F230 : Exa Z h217 x0 "com/example/notifiable/notifiable/conformance/ErrorCode" := F189.wr W217
  have F231 : Exa Z h217 x1 "com/example/notifiable/notifiable/conformance/ErrorCode" := F190.wr W217
  have F232 : Exa Z h217 x2 "com/example/notifiable/notifiable/conformance/ErrorCode" := F191.wr W217
  have F233 : Exa Z h217 x3 "com/example/notifiable/notifiable/conformance/ErrorCode" := F192.wr W217
  have F234 : Exa Z h217 x4 "com/example/notifiable/notifiable/conformance/ErrorCode" := F193.wr W217
  have F235 : Exa Z h217 x5 "com/example/notifiable/notifiable/conformance/ErrorCode" := F194.wr W217
  have F236 : Exa Z h217 x6 "com/example/notifiable/notifiable/conformance/ErrorCode" := F195.wr W217
  have F237 : Exa Z h217 x7 "com/example/notifiable/notifiable/conformance/ErrorCode" := F196.wr W217
  have F238 : Exa Z h217 x8 "com/example/notifiable/notifiable/conformance/ErrorCode" := F197.wr W217
  have F239 : Exa Z h217 x9 "com/example/notifiable/notifiable/conformance/ErrorCode" := F198.wr W217
  have F240 : Exa Z h217 x10 "com/example/notifiable/notifiable/conformance/ErrorCode" := F199.wr W217
  have F241 : Exa Z h217 x11 "com/example/notifiable/notifiable/conformance/ErrorCode" := F200.wr W217
  have F242 : Fld Z h217 x0 "com/example/notifiable/notifiable/conformance/ErrorCode" "code" "I" (.int (100 : Int32)) := F201.other W217 (Or.inl ne2)
  have F243 : Fld Z h217 x1 "com/example/notifiable/notifiable/conformance/ErrorCode" "code" "I" (.int (101 : Int32)) := F202.other W217 (Or.inl ne3)
  have F244 : Fld Z h217 x2 "com/example/notifiable/notifiable/conformance/ErrorCode" "code" "I" (.int (102 : Int32)) := F203.other W217 (Or.inl ne4)
  have F245 : Fld Z h217 x3 "com/example/notifiable/notifiable/conformance/ErrorCode" "code" "I" (.int (103 : Int32)) := F204.other W217 (Or.inl ne5)
  have F246 : Fld Z h217 x4 "com/example/notifiable/notifiable/conformance/ErrorCode" "code" "I" (.int (200 : Int32)) := F205.other W217 (Or.inl ne6)
  have F247 : Fld Z h217 x5 "com/example/notifiable/notifiable/conformance/ErrorCode" "code" "I" (.int (201 : Int32)) := F206.other W217 (Or.inl ne7)
  have F248 : Fld Z h217 x6 "com/example/notifiable/notifiable/conformance/ErrorCode" "code" "I" (.int (202 : Int32)) := F207.other W217 (Or.inl ne8)
  have F249 : Fld Z h217 x7 "com/example/notifiable/notifiable/conformance/ErrorCode" "code" "I" (.int (203 : Int32)) := F208.other W217 (Or.inl ne9)
  have F250 : Fld Z h217 x8 "com/example/notifiable/notifiable/conformance/ErrorCode" "code" "I" (.int (204 : Int32)) := F209.other W217 (Or.inl ne10)
  have F251 : Fld Z h217 x9 "com/example/notifiable/notifiable/conformance/ErrorCode" "code" "I" (.int (205 : Int32)) := F210.other W217 (Or.inl ne11)
  have F252 : Fld Z h217 x10 "com/example/notifiable/notifiable/conformance/ErrorCode" "code" "I" (.int (206 : Int32)) := F211.other W217 (Or.inl ne12)
  have F253 : Fld Z h217 x11 "com/example/notifiable/notifiable/conformance/ErrorCode" "code" "I" (.int (207 : Int32)) := F212.other W217 (Or.inl ne13)
  have Z254 : n0 ≤ h217.size := Nat.le_trans Z213 (Keep.of_wr W217).1
  have N255 := Fr.snoc X217 N214 g_b1
  obtain ⟨T256, X256, e256, st256⟩ := getS2 X217 hx hZ hown (host := "") (Or.inl (hw _ (List.mem_of_getElem? (i := 14) rfl))) Via.refl e217 F223 (g := (mkF m 37 #[.val (.int p0), .unset, .unset, .unset, .unset, .unset] [(.int (5 : Int32)), (.ref b1), (.ref b1)])) rfl (hb hby at_37)
  obtain ⟨co257, Ao257, qo257, So257, Mo257, Bo257, Go257⟩ := id V217
  obtain ⟨T258, h258, X258, e258, W258, st258⟩ := stR X256 hx hZ e256 Ao257 (j := (5 : Int32)) (inb_of So257 ⟨(by decide), (by decide)⟩) rfl (Sto.ofV Ao257 qo257 O1 (Ins.self F235)) (g := (mkF m 40 #[.val (.int p0), .unset, .unset, .unset, .unset, .unset] [(.ref x5), (.int (5 : Int32)), (.ref b1), (.ref b1)])) rfl rfl (hb hby at_40)
  have V258 : Arv Z h258 b1 k1 (.object "com/example/notifiable/notifiable/conformance/ErrorCode") (12 : Int32) [(.ref x0), (.ref x1), (.ref x2), (.ref x3), (.ref x4), (.ref x5), .null, .null, .null, .null, .null, .null] .null := Arv.set Ao257 qo257 So257 Mo257 Bo257 Go257 rfl W258 5 rfl (Nat.le_of_ble_eq_true rfl)
  have F259 : Sta Z h258 "com/example/notifiable/notifiable/conformance/ErrorCode" "SEGMENT_SEQUENCE_ERROR" "Lcom/example/notifiable/notifiable/conformance/ErrorCode;" (.ref x0) := F218.wr W258
  have F260 : Sta Z h258 "com/example/notifiable/notifiable/conformance/ErrorCode" "REQUIRED_FIELD_MISSING" "Lcom/example/notifiable/notifiable/conformance/ErrorCode;" (.ref x1) := F219.wr W258
  have F261 : Sta Z h258 "com/example/notifiable/notifiable/conformance/ErrorCode" "DATA_TYPE_ERROR" "Lcom/example/notifiable/notifiable/conformance/ErrorCode;" (.ref x2) := F220.wr W258
  have F262 : Sta Z h258 "com/example/notifiable/notifiable/conformance/ErrorCode" "TABLE_VALUE_NOT_FOUND" "Lcom/example/notifiable/notifiable/conformance/ErrorCode;" (.ref x3) := F221.wr W258
  have F263 : Sta Z h258 "com/example/notifiable/notifiable/conformance/ErrorCode" "UNSUPPORTED_MESSAGE_TYPE" "Lcom/example/notifiable/notifiable/conformance/ErrorCode;" (.ref x4) := F222.wr W258
  have F264 : Sta Z h258 "com/example/notifiable/notifiable/conformance/ErrorCode" "UNSUPPORTED_EVENT_CODE" "Lcom/example/notifiable/notifiable/conformance/ErrorCode;" (.ref x5) := F223.wr W258
  have F265 : Sta Z h258 "com/example/notifiable/notifiable/conformance/ErrorCode" "UNSUPPORTED_PROCESSING_ID" "Lcom/example/notifiable/notifiable/conformance/ErrorCode;" (.ref x6) := F224.wr W258
  have F266 : Sta Z h258 "com/example/notifiable/notifiable/conformance/ErrorCode" "UNSUPPORTED_VERSION_ID" "Lcom/example/notifiable/notifiable/conformance/ErrorCode;" (.ref x7) := F225.wr W258
  have F267 : Sta Z h258 "com/example/notifiable/notifiable/conformance/ErrorCode" "UNKNOWN_KEY_IDENTIFIER" "Lcom/example/notifiable/notifiable/conformance/ErrorCode;" (.ref x8) := F226.wr W258
  have F268 : Sta Z h258 "com/example/notifiable/notifiable/conformance/ErrorCode" "DUPLICATE_KEY_IDENTIFIER" "Lcom/example/notifiable/notifiable/conformance/ErrorCode;" (.ref x9) := F227.wr W258
  have F269 : Sta Z h258 "com/example/notifiable/notifiable/conformance/ErrorCode" "APPLICATION_RECORD_LOCKED" "Lcom/example/notifiable/notifiable/conformance/ErrorCode;" (.ref x10) := F228.wr W258
  have F270 : Sta Z h258 "com/example/notifiable/notifiable/conformance/ErrorCode" "APPLICATION_INTERNAL_ERROR" "Lcom/example/notifiable/notifiable/conformance/ErrorCode;" (.ref x11) := F229.wr W258
  have F271 : Exa Z h258 x0 "com/example/notifiable/notifiable/conformance/ErrorCode" := F230.wr W258
  have F272 : Exa Z h258 x1 "com/example/notifiable/notifiable/conformance/ErrorCode" := F231.wr W258
  have F273 : Exa Z h258 x2 "com/example/notifiable/notifiable/conformance/ErrorCode" := F232.wr W258
  have F274 : Exa Z h258 x3 "com/example/notifiable/notifiable/conformance/ErrorCode" := F233.wr W258
  have F275 : Exa Z h258 x4 "com/example/notifiable/notifiable/conformance/ErrorCode" := F234.wr W258
  have F276 : Exa Z h258 x5 "com/example/notifiable/notifiable/conformance/ErrorCode" := F235.wr W258
  have F277 : Exa Z h258 x6 "com/example/notifiable/notifiable/conformance/ErrorCode" := F236.wr W258
  have F278 : Exa Z h258 x7 "com/example/notifiable/notifiable/conformance/ErrorCode" := F237.wr W258
  have F279 : Exa Z h258 x8 "com/example/notifiable/notifiable/conformance/ErrorCode" := F238.wr W258
  have F280 : Exa Z h258 x9 "com/example/notifiable/notifiable/conformance/ErrorCode" := F239.wr W258
  have F281 : Exa Z h258 x10 "com/example/notifiable/notifiable/conformance/ErrorCode" := F240.wr W258
  have F282 : Exa Z h258 x11 "com/example/notifiable/notifiable/conformance/ErrorCode" := F241.wr W258
  have F283 : Fld Z h258 x0 "com/example/notifiable/notifiable/conformance/ErrorCode" "code" "I" (.int (100 : Int32)) := F242.other W258 (Or.inl ne2)
  have F284 : Fld Z h258 x1 "com/example/notifiable/notifiable/conformance/ErrorCode" "code" "I" (.int (101 : Int32)) := F243.other W258 (Or.inl ne3)
  have F285 : Fld Z h258 x2 "com/example/notifiable/notifiable/conformance/ErrorCode" "code" "I" (.int (102 : Int32)) := F244.other W258 (Or.inl ne4)
  have F286 : Fld Z h258 x3 "com/example/notifiable/notifiable/conformance/ErrorCode" "code" "I" (.int (103 : Int32)) := F245.other W258 (Or.inl ne5)
  have F287 : Fld Z h258 x4 "com/example/notifiable/notifiable/conformance/ErrorCode" "code" "I" (.int (200 : Int32)) := F246.other W258 (Or.inl ne6)
  have F288 : Fld Z h258 x5 "com/example/notifiable/notifiable/conformance/ErrorCode" "code" "I" (.int (201 : Int32)) := F247.other W258 (Or.inl ne7)
  have F289 : Fld Z h258 x6 "com/example/notifiable/notifiable/conformance/ErrorCode" "code" "I" (.int (202 : Int32)) := F248.other W258 (Or.inl ne8)
  have F290 : Fld Z h258 x7 "com/example/notifiable/notifiable/conformance/ErrorCode" "code" "I" (.int (203 : Int32)) := F249.other W258 (Or.inl ne9)
  have F291 : Fld Z h258 x8 "com/example/notifiable/notifiable/conformance/ErrorCode" "code" "I" (.int (204 : Int32)) := F250.other W258 (Or.inl ne10)
  have F292 : Fld Z h258 x9 "com/example/notifiable/notifiable/conformance/ErrorCode" "code" "I" (.int (205 : Int32)) := F251.other W258 (Or.inl ne11)
  have F293 : Fld Z h258 x10 "com/example/notifiable/notifiable/conformance/ErrorCode" "code" "I" (.int (206 : Int32)) := F252.other W258 (Or.inl ne12)
  have F294 : Fld Z h258 x11 "com/example/notifiable/notifiable/conformance/ErrorCode" "code" "I" (.int (207 : Int32)) := F253.other W258 (Or.inl ne13)
  have Z295 : n0 ≤ h258.size := Nat.le_trans Z254 (Keep.of_wr W258).1
  have N296 := Fr.snoc X258 N255 g_b1
  obtain ⟨T297, X297, e297, st297⟩ := getS2 X258 hx hZ hown (host := "") (Or.inl (hw _ (List.mem_of_getElem? (i := 16) rfl))) Via.refl e258 F265 (g := (mkF m 44 #[.val (.int p0), .unset, .unset, .unset, .unset, .unset] [(.int (6 : Int32)), (.ref b1), (.ref b1)])) rfl (hb hby at_44)
  obtain ⟨co298, Ao298, qo298, So298, Mo298, Bo298, Go298⟩ := id V258
  obtain ⟨T299, h299, X299, e299, W299, st299⟩ := stR X297 hx hZ e297 Ao298 (j := (6 : Int32)) (inb_of So298 ⟨(by decide), (by decide)⟩) rfl (Sto.ofV Ao298 qo298 O1 (Ins.self F277)) (g := (mkF m 47 #[.val (.int p0), .unset, .unset, .unset, .unset, .unset] [(.ref x6), (.int (6 : Int32)), (.ref b1), (.ref b1)])) rfl rfl (hb hby at_47)
  have V299 : Arv Z h299 b1 k1 (.object "com/example/notifiable/notifiable/conformance/ErrorCode") (12 : Int32) [(.ref x0), (.ref x1), (.ref x2), (.ref x3), (.ref x4), (.ref x5), (.ref x6), .null, .null, .null, .null, .null] .null := Arv.set Ao298 qo298 So298 Mo298 Bo298 Go298 rfl W299 6 rfl (Nat.le_of_ble_eq_true rfl)
  have F300 : Sta Z h299 "com/example/notifiable/notifiable/conformance/ErrorCode" "SEGMENT_SEQUENCE_ERROR" "Lcom/example/notifiable/notifiable/conformance/ErrorCode;" (.ref x0) := F259.wr W299
  have F301 : Sta Z h299 "com/example/notifiable/notifiable/conformance/ErrorCode" "REQUIRED_FIELD_MISSING" "Lcom/example/notifiable/notifiable/conformance/ErrorCode;" (.ref x1) := F260.wr W299
  have F302 : Sta Z h299 "com/example/notifiable/notifiable/conformance/ErrorCode" "DATA_TYPE_ERROR" "Lcom/example/notifiable/notifiable/conformance/ErrorCode;" (.ref x2) := F261.wr W299
  have F303 : Sta Z h299 "com/example/notifiable/notifiable/conformance/ErrorCode" "TABLE_VALUE_NOT_FOUND" "Lcom/example/notifiable/notifiable/conformance/ErrorCode;" (.ref x3) := F262.wr W299
  have F304 : Sta Z h299 "com/example/notifiable/notifiable/conformance/ErrorCode" "UNSUPPORTED_MESSAGE_TYPE" "Lcom/example/notifiable/notifiable/conformance/ErrorCode;" (.ref x4) := F263.wr W299
  have F305 : Sta Z h299 "com/example/notifiable/notifiable/conformance/ErrorCode" "UNSUPPORTED_EVENT_CODE" "Lcom/example/notifiable/notifiable/conformance/ErrorCode;" (.ref x5) := F264.wr W299
  have F306 : Sta Z h299 "com/example/notifiable/notifiable/conformance/ErrorCode" "UNSUPPORTED_PROCESSING_ID" "Lcom/example/notifiable/notifiable/conformance/ErrorCode;" (.ref x6) := F265.wr W299
  have F307 : Sta Z h299 "com/example/notifiable/notifiable/conformance/ErrorCode" "UNSUPPORTED_VERSION_ID" "Lcom/example/notifiable/notifiable/conformance/ErrorCode;" (.ref x7) := F266.wr W299
  have F308 : Sta Z h299 "com/example/notifiable/notifiable/conformance/ErrorCode" "UNKNOWN_KEY_IDENTIFIER" "Lcom/example/notifiable/notifiable/conformance/ErrorCode;" (.ref x8) := F267.wr W299
  have F309 : Sta Z h299 "com/example/notifiable/notifiable/conformance/ErrorCode" "DUPLICATE_KEY_IDENTIFIER" "Lcom/example/notifiable/notifiable/conformance/ErrorCode;" (.ref x9) := F268.wr W299
  have F310 : Sta Z h299 "com/example/notifiable/notifiable/conformance/ErrorCode" "APPLICATION_RECORD_LOCKED" "Lcom/example/notifiable/notifiable/conformance/ErrorCode;" (.ref x10) := F269.wr W299
  have F311 : Sta Z h299 "com/example/notifiable/notifiable/conformance/ErrorCode" "APPLICATION_INTERNAL_ERROR" "Lcom/example/notifiable/notifiable/conformance/ErrorCode;" (.ref x11) := F270.wr W299
  have F312 : Exa Z h299 x0 "com/example/notifiable/notifiable/conformance/ErrorCode" := F271.wr W299
  have F313 : Exa Z h299 x1 "com/example/notifiable/notifiable/conformance/ErrorCode" := F272.wr W299
  have F314 : Exa Z h299 x2 "com/example/notifiable/notifiable/conformance/ErrorCode" := F273.wr W299
  have F315 : Exa Z h299 x3 "com/example/notifiable/notifiable/conformance/ErrorCode" := F274.wr W299
  have F316 : Exa Z h299 x4 "com/example/notifiable/notifiable/conformance/ErrorCode" := F275.wr W299
  have F317 : Exa Z h299 x5 "com/example/notifiable/notifiable/conformance/ErrorCode" := F276.wr W299
  have F318 : Exa Z h299 x6 "com/example/notifiable/notifiable/conformance/ErrorCode" := F277.wr W299
  have F319 : Exa Z h299 x7 "com/example/notifiable/notifiable/conformance/ErrorCode" := F278.wr W299
  have F320 : Exa Z h299 x8 "com/example/notifiable/notifiable/conformance/ErrorCode" := F279.wr W299
  have F321 : Exa Z h299 x9 "com/example/notifiable/notifiable/conformance/ErrorCode" := F280.wr W299
  have F322 : Exa Z h299 x10 "com/example/notifiable/notifiable/conformance/ErrorCode" := F281.wr W299
  have F323 : Exa Z h299 x11 "com/example/notifiable/notifiable/conformance/ErrorCode" := F282.wr W299
  have F324 : Fld Z h299 x0 "com/example/notifiable/notifiable/conformance/ErrorCode" "code" "I" (.int (100 : Int32)) := F283.other W299 (Or.inl ne2)
  have F325 : Fld Z h299 x1 "com/example/notifiable/notifiable/conformance/ErrorCode" "code" "I" (.int (101 : Int32)) := F284.other W299 (Or.inl ne3)
  have F326 : Fld Z h299 x2 "com/example/notifiable/notifiable/conformance/ErrorCode" "code" "I" (.int (102 : Int32)) := F285.other W299 (Or.inl ne4)
  have F327 : Fld Z h299 x3 "com/example/notifiable/notifiable/conformance/ErrorCode" "code" "I" (.int (103 : Int32)) := F286.other W299 (Or.inl ne5)
  have F328 : Fld Z h299 x4 "com/example/notifiable/notifiable/conformance/ErrorCode" "code" "I" (.int (200 : Int32)) := F287.other W299 (Or.inl ne6)
  have F329 : Fld Z h299 x5 "com/example/notifiable/notifiable/conformance/ErrorCode" "code" "I" (.int (201 : Int32)) := F288.other W299 (Or.inl ne7)
  have F330 : Fld Z h299 x6 "com/example/notifiable/notifiable/conformance/ErrorCode" "code" "I" (.int (202 : Int32)) := F289.other W299 (Or.inl ne8)
  have F331 : Fld Z h299 x7 "com/example/notifiable/notifiable/conformance/ErrorCode" "code" "I" (.int (203 : Int32)) := F290.other W299 (Or.inl ne9)
  have F332 : Fld Z h299 x8 "com/example/notifiable/notifiable/conformance/ErrorCode" "code" "I" (.int (204 : Int32)) := F291.other W299 (Or.inl ne10)
  have F333 : Fld Z h299 x9 "com/example/notifiable/notifiable/conformance/ErrorCode" "code" "I" (.int (205 : Int32)) := F292.other W299 (Or.inl ne11)
  have F334 : Fld Z h299 x10 "com/example/notifiable/notifiable/conformance/ErrorCode" "code" "I" (.int (206 : Int32)) := F293.other W299 (Or.inl ne12)
  have F335 : Fld Z h299 x11 "com/example/notifiable/notifiable/conformance/ErrorCode" "code" "I" (.int (207 : Int32)) := F294.other W299 (Or.inl ne13)
  have Z336 : n0 ≤ h299.size := Nat.le_trans Z295 (Keep.of_wr W299).1
  have N337 := Fr.snoc X299 N296 g_b1
  obtain ⟨T338, X338, e338, st338⟩ := getS2 X299 hx hZ hown (host := "") (Or.inl (hw _ (List.mem_of_getElem? (i := 18) rfl))) Via.refl e299 F307 (g := (mkF m 51 #[.val (.int p0), .unset, .unset, .unset, .unset, .unset] [(.int (7 : Int32)), (.ref b1), (.ref b1)])) rfl (hb hby at_51)
  obtain ⟨co339, Ao339, qo339, So339, Mo339, Bo339, Go339⟩ := id V299
  obtain ⟨T340, h340, X340, e340, W340, st340⟩ := stR X338 hx hZ e338 Ao339 (j := (7 : Int32)) (inb_of So339 ⟨(by decide), (by decide)⟩) rfl (Sto.ofV Ao339 qo339 O1 (Ins.self F319)) (g := (mkF m 54 #[.val (.int p0), .unset, .unset, .unset, .unset, .unset] [(.ref x7), (.int (7 : Int32)), (.ref b1), (.ref b1)])) rfl rfl (hb hby at_54)
  have V340 : Arv Z h340 b1 k1 (.object "com/example/notifiable/notifiable/conformance/ErrorCode") (12 : Int32) [(.ref x0), (.ref x1), (.ref x2), (.ref x3), (.ref x4), (.ref x5), (.ref x6), (.ref x7), .null, .null, .null, .null] .null := Arv.set Ao339 qo339 So339 Mo339 Bo339 Go339 rfl W340 7 rfl (Nat.le_of_ble_eq_true rfl)
  have F341 : Sta Z h340 "com/example/notifiable/notifiable/conformance/ErrorCode" "SEGMENT_SEQUENCE_ERROR" "Lcom/example/notifiable/notifiable/conformance/ErrorCode;" (.ref x0) := F300.wr W340
  have F342 : Sta Z h340 "com/example/notifiable/notifiable/conformance/ErrorCode" "REQUIRED_FIELD_MISSING" "Lcom/example/notifiable/notifiable/conformance/ErrorCode;" (.ref x1) := F301.wr W340
  have F343 : Sta Z h340 "com/example/notifiable/notifiable/conformance/ErrorCode" "DATA_TYPE_ERROR" "Lcom/example/notifiable/notifiable/conformance/ErrorCode;" (.ref x2) := F302.wr W340
  have F344 : Sta Z h340 "com/example/notifiable/notifiable/conformance/ErrorCode" "TABLE_VALUE_NOT_FOUND" "Lcom/example/notifiable/notifiable/conformance/ErrorCode;" (.ref x3) := F303.wr W340
  have F345 : Sta Z h340 "com/example/notifiable/notifiable/conformance/ErrorCode" "UNSUPPORTED_MESSAGE_TYPE" "Lcom/example/notifiable/notifiable/conformance/ErrorCode;" (.ref x4) := F304.wr W340
  have F346 : Sta Z h340 "com/example/notifiable/notifiable/conformance/ErrorCode" "UNSUPPORTED_EVENT_CODE" "Lcom/example/notifiable/notifiable/conformance/ErrorCode;" (.ref x5) := F305.wr W340
  have F347 : Sta Z h340 "com/example/notifiable/notifiable/conformance/ErrorCode" "UNSUPPORTED_PROCESSING_ID" "Lcom/example/notifiable/notifiable/conformance/ErrorCode;" (.ref x6) := F306.wr W340
  have F348 : Sta Z h340 "com/example/notifiable/notifiable/conformance/ErrorCode" "UNSUPPORTED_VERSION_ID" "Lcom/example/notifiable/notifiable/conformance/ErrorCode;" (.ref x7) := F307.wr W340
  have F349 : Sta Z h340 "com/example/notifiable/notifiable/conformance/ErrorCode" "UNKNOWN_KEY_IDENTIFIER" "Lcom/example/notifiable/notifiable/conformance/ErrorCode;" (.ref x8) := F308.wr W340
  have F350 : Sta Z h340 "com/example/notifiable/notifiable/conformance/ErrorCode" "DUPLICATE_KEY_IDENTIFIER" "Lcom/example/notifiable/notifiable/conformance/ErrorCode;" (.ref x9) := F309.wr W340
  have F351 : Sta Z h340 "com/example/notifiable/notifiable/conformance/ErrorCode" "APPLICATION_RECORD_LOCKED" "Lcom/example/notifiable/notifiable/conformance/ErrorCode;" (.ref x10) := F310.wr W340
  have F352 : Sta Z h340 "com/example/notifiable/notifiable/conformance/ErrorCode" "APPLICATION_INTERNAL_ERROR" "Lcom/example/notifiable/notifiable/conformance/ErrorCode;" (.ref x11) := F311.wr W340
  have F353 : Exa Z h340 x0 "com/example/notifiable/notifiable/conformance/ErrorCode" := F312.wr W340
  have F354 : Exa Z h340 x1 "com/example/notifiable/notifiable/conformance/ErrorCode" := F313.wr W340
  have F355 : Exa Z h340 x2 "com/example/notifiable/notifiable/conformance/ErrorCode" := F314.wr W340
  have F356 : Exa Z h340 x3 "com/example/notifiable/notifiable/conformance/ErrorCode" := F315.wr W340
  have F357 : Exa Z h340 x4 "com/example/notifiable/notifiable/conformance/ErrorCode" := F316.wr W340
  have F358 : Exa Z h340 x5 "com/example/notifiable/notifiable/conformance/ErrorCode" := F317.wr W340
  have F359 : Exa Z h340 x6 "com/example/notifiable/notifiable/conformance/ErrorCode" := F318.wr W340
  have F360 : Exa Z h340 x7 "com/example/notifiable/notifiable/conformance/ErrorCode" := F319.wr W340
  have F361 : Exa Z h340 x8 "com/example/notifiable/notifiable/conformance/ErrorCode" := F320.wr W340
  have F362 : Exa Z h340 x9 "com/example/notifiable/notifiable/conformance/ErrorCode" := F321.wr W340
  have F363 : Exa Z h340 x10 "com/example/notifiable/notifiable/conformance/ErrorCode" := F322.wr W340
  have F364 : Exa Z h340 x11 "com/example/notifiable/notifiable/conformance/ErrorCode" := F323.wr W340
  have F365 : Fld Z h340 x0 "com/example/notifiable/notifiable/conformance/ErrorCode" "code" "I" (.int (100 : Int32)) := F324.other W340 (Or.inl ne2)
  have F366 : Fld Z h340 x1 "com/example/notifiable/notifiable/conformance/ErrorCode" "code" "I" (.int (101 : Int32)) := F325.other W340 (Or.inl ne3)
  have F367 : Fld Z h340 x2 "com/example/notifiable/notifiable/conformance/ErrorCode" "code" "I" (.int (102 : Int32)) := F326.other W340 (Or.inl ne4)
  have F368 : Fld Z h340 x3 "com/example/notifiable/notifiable/conformance/ErrorCode" "code" "I" (.int (103 : Int32)) := F327.other W340 (Or.inl ne5)
  have F369 : Fld Z h340 x4 "com/example/notifiable/notifiable/conformance/ErrorCode" "code" "I" (.int (200 : Int32)) := F328.other W340 (Or.inl ne6)
  have F370 : Fld Z h340 x5 "com/example/notifiable/notifiable/conformance/ErrorCode" "code" "I" (.int (201 : Int32)) := F329.other W340 (Or.inl ne7)
  have F371 : Fld Z h340 x6 "com/example/notifiable/notifiable/conformance/ErrorCode" "code" "I" (.int (202 : Int32)) := F330.other W340 (Or.inl ne8)
  have F372 : Fld Z h340 x7 "com/example/notifiable/notifiable/conformance/ErrorCode" "code" "I" (.int (203 : Int32)) := F331.other W340 (Or.inl ne9)
  have F373 : Fld Z h340 x8 "com/example/notifiable/notifiable/conformance/ErrorCode" "code" "I" (.int (204 : Int32)) := F332.other W340 (Or.inl ne10)
  have F374 : Fld Z h340 x9 "com/example/notifiable/notifiable/conformance/ErrorCode" "code" "I" (.int (205 : Int32)) := F333.other W340 (Or.inl ne11)
  have F375 : Fld Z h340 x10 "com/example/notifiable/notifiable/conformance/ErrorCode" "code" "I" (.int (206 : Int32)) := F334.other W340 (Or.inl ne12)
  have F376 : Fld Z h340 x11 "com/example/notifiable/notifiable/conformance/ErrorCode" "code" "I" (.int (207 : Int32)) := F335.other W340 (Or.inl ne13)
  have Z377 : n0 ≤ h340.size := Nat.le_trans Z336 (Keep.of_wr W340).1
  have N378 := Fr.snoc X340 N337 g_b1
  obtain ⟨T379, X379, e379, st379⟩ := getS2 X340 hx hZ hown (host := "") (Or.inl (hw _ (List.mem_of_getElem? (i := 20) rfl))) Via.refl e340 F349 (g := (mkF m 58 #[.val (.int p0), .unset, .unset, .unset, .unset, .unset] [(.int (8 : Int32)), (.ref b1), (.ref b1)])) rfl (hb hby at_58)
  obtain ⟨co380, Ao380, qo380, So380, Mo380, Bo380, Go380⟩ := id V340
  obtain ⟨T381, h381, X381, e381, W381, st381⟩ := stR X379 hx hZ e379 Ao380 (j := (8 : Int32)) (inb_of So380 ⟨(by decide), (by decide)⟩) rfl (Sto.ofV Ao380 qo380 O1 (Ins.self F361)) (g := (mkF m 61 #[.val (.int p0), .unset, .unset, .unset, .unset, .unset] [(.ref x8), (.int (8 : Int32)), (.ref b1), (.ref b1)])) rfl rfl (hb hby at_61)
  have V381 : Arv Z h381 b1 k1 (.object "com/example/notifiable/notifiable/conformance/ErrorCode") (12 : Int32) [(.ref x0), (.ref x1), (.ref x2), (.ref x3), (.ref x4), (.ref x5), (.ref x6), (.ref x7), (.ref x8), .null, .null, .null] .null := Arv.set Ao380 qo380 So380 Mo380 Bo380 Go380 rfl W381 8 rfl (Nat.le_of_ble_eq_true rfl)
  have F382 : Sta Z h381 "com/example/notifiable/notifiable/conformance/ErrorCode" "SEGMENT_SEQUENCE_ERROR" "Lcom/example/notifiable/notifiable/conformance/ErrorCode;" (.ref x0) := F341.wr W381
  have F383 : Sta Z h381 "com/example/notifiable/notifiable/conformance/ErrorCode" "REQUIRED_FIELD_MISSING" "Lcom/example/notifiable/notifiable/conformance/ErrorCode;" (.ref x1) := F342.wr W381
  have F384 : Sta Z h381 "com/example/notifiable/notifiable/conformance/ErrorCode" "DATA_TYPE_ERROR" "Lcom/example/notifiable/notifiable/conformance/ErrorCode;" (.ref x2) := F343.wr W381
  have F385 : Sta Z h381 "com/example/notifiable/notifiable/conformance/ErrorCode" "TABLE_VALUE_NOT_FOUND" "Lcom/example/notifiable/notifiable/conformance/ErrorCode;" (.ref x3) := F344.wr W381
  have F386 : Sta Z h381 "com/example/notifiable/notifiable/conformance/ErrorCode" "UNSUPPORTED_MESSAGE_TYPE" "Lcom/example/notifiable/notifiable/conformance/ErrorCode;" (.ref x4) := F345.wr W381
  have F387 : Sta Z h381 "com/example/notifiable/notifiable/conformance/ErrorCode" "UNSUPPORTED_EVENT_CODE" "Lcom/example/notifiable/notifiable/conformance/ErrorCode;" (.ref x5) := F346.wr W381
  have F388 : Sta Z h381 "com/example/notifiable/notifiable/conformance/ErrorCode" "UNSUPPORTED_PROCESSING_ID" "Lcom/example/notifiable/notifiable/conformance/ErrorCode;" (.ref x6) := F347.wr W381
  have F389 : Sta Z h381 "com/example/notifiable/notifiable/conformance/ErrorCode" "UNSUPPORTED_VERSION_ID" "Lcom/example/notifiable/notifiable/conformance/ErrorCode;" (.ref x7) := F348.wr W381
  have F390 : Sta Z h381 "com/example/notifiable/notifiable/conformance/ErrorCode" "UNKNOWN_KEY_IDENTIFIER" "Lcom/example/notifiable/notifiable/conformance/ErrorCode;" (.ref x8) := F349.wr W381
  have F391 : Sta Z h381 "com/example/notifiable/notifiable/conformance/ErrorCode" "DUPLICATE_KEY_IDENTIFIER" "Lcom/example/notifiable/notifiable/conformance/ErrorCode;" (.ref x9) := F350.wr W381
  have F392 : Sta Z h381 "com/example/notifiable/notifiable/conformance/ErrorCode" "APPLICATION_RECORD_LOCKED" "Lcom/example/notifiable/notifiable/conformance/ErrorCode;" (.ref x10) := F351.wr W381
  have F393 : Sta Z h381 "com/example/notifiable/notifiable/conformance/ErrorCode" "APPLICATION_INTERNAL_ERROR" "Lcom/example/notifiable/notifiable/conformance/ErrorCode;" (.ref x11) := F352.wr W381
  have F394 : Exa Z h381 x0 "com/example/notifiable/notifiable/conformance/ErrorCode" := F353.wr W381
  have F395 : Exa Z h381 x1 "com/example/notifiable/notifiable/conformance/ErrorCode" := F354.wr W381
  have F396 : Exa Z h381 x2 "com/example/notifiable/notifiable/conformance/ErrorCode" := F355.wr W381
  have F397 : Exa Z h381 x3 "com/example/notifiable/notifiable/conformance/ErrorCode" := F356.wr W381
  have F398 : Exa Z h381 x4 "com/example/notifiable/notifiable/conformance/ErrorCode" := F357.wr W381
  have F399 : Exa Z h381 x5 "com/example/notifiable/notifiable/conformance/ErrorCode" := F358.wr W381
  have F400 : Exa Z h381 x6 "com/example/notifiable/notifiable/conformance/ErrorCode" := F359.wr W381
  have F401 : Exa Z h381 x7 "com/example/notifiable/notifiable/conformance/ErrorCode" := F360.wr W381
  have F402 : Exa Z h381 x8 "com/example/notifiable/notifiable/conformance/ErrorCode" := F361.wr W381
  have F403 : Exa Z h381 x9 "com/example/notifiable/notifiable/conformance/ErrorCode" := F362.wr W381
  have F404 : Exa Z h381 x10 "com/example/notifiable/notifiable/conformance/ErrorCode" := F363.wr W381
  have F405 : Exa Z h381 x11 "com/example/notifiable/notifiable/conformance/ErrorCode" := F364.wr W381
  have F406 : Fld Z h381 x0 "com/example/notifiable/notifiable/conformance/ErrorCode" "code" "I" (.int (100 : Int32)) := F365.other W381 (Or.inl ne2)
  have F407 : Fld Z h381 x1 "com/example/notifiable/notifiable/conformance/ErrorCode" "code" "I" (.int (101 : Int32)) := F366.other W381 (Or.inl ne3)
  have F408 : Fld Z h381 x2 "com/example/notifiable/notifiable/conformance/ErrorCode" "code" "I" (.int (102 : Int32)) := F367.other W381 (Or.inl ne4)
  have F409 : Fld Z h381 x3 "com/example/notifiable/notifiable/conformance/ErrorCode" "code" "I" (.int (103 : Int32)) := F368.other W381 (Or.inl ne5)
  have F410 : Fld Z h381 x4 "com/example/notifiable/notifiable/conformance/ErrorCode" "code" "I" (.int (200 : Int32)) := F369.other W381 (Or.inl ne6)
  have F411 : Fld Z h381 x5 "com/example/notifiable/notifiable/conformance/ErrorCode" "code" "I" (.int (201 : Int32)) := F370.other W381 (Or.inl ne7)
  have F412 : Fld Z h381 x6 "com/example/notifiable/notifiable/conformance/ErrorCode" "code" "I" (.int (202 : Int32)) := F371.other W381 (Or.inl ne8)
  have F413 : Fld Z h381 x7 "com/example/notifiable/notifiable/conformance/ErrorCode" "code" "I" (.int (203 : Int32)) := F372.other W381 (Or.inl ne9)
  have F414 : Fld Z h381 x8 "com/example/notifiable/notifiable/conformance/ErrorCode" "code" "I" (.int (204 : Int32)) := F373.other W381 (Or.inl ne10)
  have F415 : Fld Z h381 x9 "com/example/notifiable/notifiable/conformance/ErrorCode" "code" "I" (.int (205 : Int32)) := F374.other W381 (Or.inl ne11)
  have F416 : Fld Z h381 x10 "com/example/notifiable/notifiable/conformance/ErrorCode" "code" "I" (.int (206 : Int32)) := F375.other W381 (Or.inl ne12)
  have F417 : Fld Z h381 x11 "com/example/notifiable/notifiable/conformance/ErrorCode" "code" "I" (.int (207 : Int32)) := F376.other W381 (Or.inl ne13)
  have Z418 : n0 ≤ h381.size := Nat.le_trans Z377 (Keep.of_wr W381).1
  have N419 := Fr.snoc X381 N378 g_b1
  obtain ⟨T420, X420, e420, st420⟩ := getS2 X381 hx hZ hown (host := "") (Or.inl (hw _ (List.mem_of_getElem? (i := 22) rfl))) Via.refl e381 F391 (g := (mkF m 65 #[.val (.int p0), .unset, .unset, .unset, .unset, .unset] [(.int (9 : Int32)), (.ref b1), (.ref b1)])) rfl (hb hby at_65)
  obtain ⟨co421, Ao421, qo421, So421, Mo421, Bo421, Go421⟩ := id V381
  obtain ⟨T422, h422, X422, e422, W422, st422⟩ := stR X420 hx hZ e420 Ao421 (j := (9 : Int32)) (inb_of So421 ⟨(by decide), (by decide)⟩) rfl (Sto.ofV Ao421 qo421 O1 (Ins.self F403)) (g := (mkF m 68 #[.val (.int p0), .unset, .unset, .unset, .unset, .unset] [(.ref x9), (.int (9 : Int32)), (.ref b1), (.ref b1)])) rfl rfl (hb hby at_68)
  have V422 : Arv Z h422 b1 k1 (.object "com/example/notifiable/notifiable/conformance/ErrorCode") (12 : Int32) [(.ref x0), (.ref x1), (.ref x2), (.ref x3), (.ref x4), (.ref x5), (.ref x6), (.ref x7), (.ref x8), (.ref x9), .null, .null] .null := Arv.set Ao421 qo421 So421 Mo421 Bo421 Go421 rfl W422 9 rfl (Nat.le_of_ble_eq_true rfl)
  have F423 : Sta Z h422 "com/example/notifiable/notifiable/conformance/ErrorCode" "SEGMENT_SEQUENCE_ERROR" "Lcom/example/notifiable/notifiable/conformance/ErrorCode;" (.ref x0) := F382.wr W422
  have F424 : Sta Z h422 "com/example/notifiable/notifiable/conformance/ErrorCode" "REQUIRED_FIELD_MISSING" "Lcom/example/notifiable/notifiable/conformance/ErrorCode;" (.ref x1) := F383.wr W422
  have F425 : Sta Z h422 "com/example/notifiable/notifiable/conformance/ErrorCode" "DATA_TYPE_ERROR" "Lcom/example/notifiable/notifiable/conformance/ErrorCode;" (.ref x2) := F384.wr W422
  have F426 : Sta Z h422 "com/example/notifiable/notifiable/conformance/ErrorCode" "TABLE_VALUE_NOT_FOUND" "Lcom/example/notifiable/notifiable/conformance/ErrorCode;" (.ref x3) := F385.wr W422
  have F427 : Sta Z h422 "com/example/notifiable/notifiable/conformance/ErrorCode" "UNSUPPORTED_MESSAGE_TYPE" "Lcom/example/notifiable/notifiable/conformance/ErrorCode;" (.ref x4) := F386.wr W422
  have F428 : Sta Z h422 "com/example/notifiable/notifiable/conformance/ErrorCode" "UNSUPPORTED_EVENT_CODE" "Lcom/example/notifiable/notifiable/conformance/ErrorCode;" (.ref x5) := F387.wr W422
  have F429 : Sta Z h422 "com/example/notifiable/notifiable/conformance/ErrorCode" "UNSUPPORTED_PROCESSING_ID" "Lcom/example/notifiable/notifiable/conformance/ErrorCode;" (.ref x6) := F388.wr W422
  have F430 : Sta Z h422 "com/example/notifiable/notifiable/conformance/ErrorCode" "UNSUPPORTED_VERSION_ID" "Lcom/example/notifiable/notifiable/conformance/ErrorCode;" (.ref x7) := F389.wr W422
  have F431 : Sta Z h422 "com/example/notifiable/notifiable/conformance/ErrorCode" "UNKNOWN_KEY_IDENTIFIER" "Lcom/example/notifiable/notifiable/conformance/ErrorCode;" (.ref x8) := F390.wr W422
  have F432 : Sta Z h422 "com/example/notifiable/notifiable/conformance/ErrorCode" "DUPLICATE_KEY_IDENTIFIER" "Lcom/example/notifiable/notifiable/conformance/ErrorCode;" (.ref x9) := F391.wr W422
  have F433 : Sta Z h422 "com/example/notifiable/notifiable/conformance/ErrorCode" "APPLICATION_RECORD_LOCKED" "Lcom/example/notifiable/notifiable/conformance/ErrorCode;" (.ref x10) := F392.wr W422
  have F434 : Sta Z h422 "com/example/notifiable/notifiable/conformance/ErrorCode" "APPLICATION_INTERNAL_ERROR" "Lcom/example/notifiable/notifiable/conformance/ErrorCode;" (.ref x11) := F393.wr W422
  have F435 : Exa Z h422 x0 "com/example/notifiable/notifiable/conformance/ErrorCode" := F394.wr W422
  have F436 : Exa Z h422 x1 "com/example/notifiable/notifiable/conformance/ErrorCode" := F395.wr W422
  have F437 : Exa Z h422 x2 "com/example/notifiable/notifiable/conformance/ErrorCode" := F396.wr W422
  have F438 : Exa Z h422 x3 "com/example/notifiable/notifiable/conformance/ErrorCode" := F397.wr W422
  have F439 : Exa Z h422 x4 "com/example/notifiable/notifiable/conformance/ErrorCode" := F398.wr W422
  have F440 : Exa Z h422 x5 "com/example/notifiable/notifiable/conformance/ErrorCode" := F399.wr W422
  have F441 : Exa Z h422 x6 "com/example/notifiable/notifiable/conformance/ErrorCode" := F400.wr W422
  have F442 : Exa Z h422 x7 "com/example/notifiable/notifiable/conformance/ErrorCode" := F401.wr W422
  have F443 : Exa Z h422 x8 "com/example/notifiable/notifiable/conformance/ErrorCode" := F402.wr W422
  have F444 : Exa Z h422 x9 "com/example/notifiable/notifiable/conformance/ErrorCode" := F403.wr W422
  have F445 : Exa Z h422 x10 "com/example/notifiable/notifiable/conformance/ErrorCode" := F404.wr W422
  have F446 : Exa Z h422 x11 "com/example/notifiable/notifiable/conformance/ErrorCode" := F405.wr W422
  have F447 : Fld Z h422 x0 "com/example/notifiable/notifiable/conformance/ErrorCode" "code" "I" (.int (100 : Int32)) := F406.other W422 (Or.inl ne2)
  have F448 : Fld Z h422 x1 "com/example/notifiable/notifiable/conformance/ErrorCode" "code" "I" (.int (101 : Int32)) := F407.other W422 (Or.inl ne3)
  have F449 : Fld Z h422 x2 "com/example/notifiable/notifiable/conformance/ErrorCode" "code" "I" (.int (102 : Int32)) := F408.other W422 (Or.inl ne4)
  have F450 : Fld Z h422 x3 "com/example/notifiable/notifiable/conformance/ErrorCode" "code" "I" (.int (103 : Int32)) := F409.other W422 (Or.inl ne5)
  have F451 : Fld Z h422 x4 "com/example/notifiable/notifiable/conformance/ErrorCode" "code" "I" (.int (200 : Int32)) := F410.other W422 (Or.inl ne6)
  have F452 : Fld Z h422 x5 "com/example/notifiable/notifiable/conformance/ErrorCode" "code" "I" (.int (201 : Int32)) := F411.other W422 (Or.inl ne7)
  have F453 : Fld Z h422 x6 "com/example/notifiable/notifiable/conformance/ErrorCode" "code" "I" (.int (202 : Int32)) := F412.other W422 (Or.inl ne8)
  have F454 : Fld Z h422 x7 "com/example/notifiable/notifiable/conformance/ErrorCode" "code" "I" (.int (203 : Int32)) := F413.other W422 (Or.inl ne9)
  have F455 : Fld Z h422 x8 "com/example/notifiable/notifiable/conformance/ErrorCode" "code" "I" (.int (204 : Int32)) := F414.other W422 (Or.inl ne10)
  have F456 : Fld Z h422 x9 "com/example/notifiable/notifiable/conformance/ErrorCode" "code" "I" (.int (205 : Int32)) := F415.other W422 (Or.inl ne11)
  have F457 : Fld Z h422 x10 "com/example/notifiable/notifiable/conformance/ErrorCode" "code" "I" (.int (206 : Int32)) := F416.other W422 (Or.inl ne12)
  have F458 : Fld Z h422 x11 "com/example/notifiable/notifiable/conformance/ErrorCode" "code" "I" (.int (207 : Int32)) := F417.other W422 (Or.inl ne13)
  have Z459 : n0 ≤ h422.size := Nat.le_trans Z418 (Keep.of_wr W422).1
  have N460 := Fr.snoc X422 N419 g_b1
  obtain ⟨T461, X461, e461, st461⟩ := getS2 X422 hx hZ hown (host := "") (Or.inl (hw _ (List.mem_of_getElem? (i := 24) rfl))) Via.refl e422 F433 (g := (mkF m 72 #[.val (.int p0), .unset, .unset, .unset, .unset, .unset] [(.int (10 : Int32)), (.ref b1), (.ref b1)])) rfl (hb hby at_72)
  obtain ⟨co462, Ao462, qo462, So462, Mo462, Bo462, Go462⟩ := id V422
  obtain ⟨T463, h463, X463, e463, W463, st463⟩ := stR X461 hx hZ e461 Ao462 (j := (10 : Int32)) (inb_of So462 ⟨(by decide), (by decide)⟩) rfl (Sto.ofV Ao462 qo462 O1 (Ins.self F445)) (g := (mkF m 75 #[.val (.int p0), .unset, .unset, .unset, .unset, .unset] [(.ref x10), (.int (10 : Int32)), (.ref b1), (.ref b1)])) rfl rfl (hb hby at_75)
  have V463 : Arv Z h463 b1 k1 (.object "com/example/notifiable/notifiable/conformance/ErrorCode") (12 : Int32) [(.ref x0), (.ref x1), (.ref x2), (.ref x3), (.ref x4), (.ref x5), (.ref x6), (.ref x7), (.ref x8), (.ref x9), (.ref x10), .null] .null := Arv.set Ao462 qo462 So462 Mo462 Bo462 Go462 rfl W463 10 rfl (Nat.le_of_ble_eq_true rfl)
  have F464 : Sta Z h463 "com/example/notifiable/notifiable/conformance/ErrorCode" "SEGMENT_SEQUENCE_ERROR" "Lcom/example/notifiable/notifiable/conformance/ErrorCode;" (.ref x0) := F423.wr W463
  have F465 : Sta Z h463 "com/example/notifiable/notifiable/conformance/ErrorCode" "REQUIRED_FIELD_MISSING" "Lcom/example/notifiable/notifiable/conformance/ErrorCode;" (.ref x1) := F424.wr W463
  have F466 : Sta Z h463 "com/example/notifiable/notifiable/conformance/ErrorCode" "DATA_TYPE_ERROR" "Lcom/example/notifiable/notifiable/conformance/ErrorCode;" (.ref x2) := F425.wr W463
  have F467 : Sta Z h463 "com/example/notifiable/notifiable/conformance/ErrorCode" "TABLE_VALUE_NOT_FOUND" "Lcom/example/notifiable/notifiable/conformance/ErrorCode;" (.ref x3) := F426.wr W463
  have F468 : Sta Z h463 "com/example/notifiable/notifiable/conformance/ErrorCode" "UNSUPPORTED_MESSAGE_TYPE" "Lcom/example/notifiable/notifiable/conformance/ErrorCode;" (.ref x4) := F427.wr W463
  have F469 : Sta Z h463 "com/example/notifiable/notifiable/conformance/ErrorCode" "UNSUPPORTED_EVENT_CODE" "Lcom/example/notifiable/notifiable/conformance/ErrorCode;" (.ref x5) := F428.wr W463
  have F470 : Sta Z h463 "com/example/notifiable/notifiable/conformance/ErrorCode" "UNSUPPORTED_PROCESSING_ID" "Lcom/example/notifiable/notifiable/conformance/ErrorCode;" (.ref x6) := F429.wr W463
  have F471 : Sta Z h463 "com/example/notifiable/notifiable/conformance/ErrorCode" "UNSUPPORTED_VERSION_ID" "Lcom/example/notifiable/notifiable/conformance/ErrorCode;" (.ref x7) := F430.wr W463
  have F472 : Sta Z h463 "com/example/notifiable/notifiable/conformance/ErrorCode" "UNKNOWN_KEY_IDENTIFIER" "Lcom/example/notifiable/notifiable/conformance/ErrorCode;" (.ref x8) := F431.wr W463
  have F473 : Sta Z h463 "com/example/notifiable/notifiable/conformance/ErrorCode" "DUPLICATE_KEY_IDENTIFIER" "Lcom/example/notifiable/notifiable/conformance/ErrorCode;" (.ref x9) := F432.wr W463
  have F474 : Sta Z h463 "com/example/notifiable/notifiable/conformance/ErrorCode" "APPLICATION_RECORD_LOCKED" "Lcom/example/notifiable/notifiable/conformance/ErrorCode;" (.ref x10) := F433.wr W463
  have F475 : Sta Z h463 "com/example/notifiable/notifiable/conformance/ErrorCode" "APPLICATION_INTERNAL_ERROR" "Lcom/example/notifiable/notifiable/conformance/ErrorCode;" (.ref x11) := F434.wr W463
  have F476 : Exa Z h463 x0 "com/example/notifiable/notifiable/conformance/ErrorCode" := F435.wr W463
  have F477 : Exa Z h463 x1 "com/example/notifiable/notifiable/conformance/ErrorCode" := F436.wr W463
  have F478 : Exa Z h463 x2 "com/example/notifiable/notifiable/conformance/ErrorCode" := F437.wr W463
  have F479 : Exa Z h463 x3 "com/example/notifiable/notifiable/conformance/ErrorCode" := F438.wr W463
  have F480 : Exa Z h463 x4 "com/example/notifiable/notifiable/conformance/ErrorCode" := F439.wr W463
  have F481 : Exa Z h463 x5 "com/example/notifiable/notifiable/conformance/ErrorCode" := F440.wr W463
  have F482 : Exa Z h463 x6 "com/example/notifiable/notifiable/conformance/ErrorCode" := F441.wr W463
  have F483 : Exa Z h463 x7 "com/example/notifiable/notifiable/conformance/ErrorCode" := F442.wr W463
  have F484 : Exa Z h463 x8 "com/example/notifiable/notifiable/conformance/ErrorCode" := F443.wr W463
  have F485 : Exa Z h463 x9 "com/example/notifiable/notifiable/conformance/ErrorCode" := F444.wr W463
  have F486 : Exa Z h463 x10 "com/example/notifiable/notifiable/conformance/ErrorCode" := F445.wr W463
  have F487 : Exa Z h463 x11 "com/example/notifiable/notifiable/conformance/ErrorCode" := F446.wr W463
  have F488 : Fld Z h463 x0 "com/example/notifiable/notifiable/conformance/ErrorCode" "code" "I" (.int (100 : Int32)) := F447.other W463 (Or.inl ne2)
  have F489 : Fld Z h463 x1 "com/example/notifiable/notifiable/conformance/ErrorCode" "code" "I" (.int (101 : Int32)) := F448.other W463 (Or.inl ne3)
  have F490 : Fld Z h463 x2 "com/example/notifiable/notifiable/conformance/ErrorCode" "code" "I" (.int (102 : Int32)) := F449.other W463 (Or.inl ne4)
  have F491 : Fld Z h463 x3 "com/example/notifiable/notifiable/conformance/ErrorCode" "code" "I" (.int (103 : Int32)) := F450.other W463 (Or.inl ne5)
  have F492 : Fld Z h463 x4 "com/example/notifiable/notifiable/conformance/ErrorCode" "code" "I" (.int (200 : Int32)) := F451.other W463 (Or.inl ne6)
  have F493 : Fld Z h463 x5 "com/example/notifiable/notifiable/conformance/ErrorCode" "code" "I" (.int (201 : Int32)) := F452.other W463 (Or.inl ne7)
  have F494 : Fld Z h463 x6 "com/example/notifiable/notifiable/conformance/ErrorCode" "code" "I" (.int (202 : Int32)) := F453.other W463 (Or.inl ne8)
  have F495 : Fld Z h463 x7 "com/example/notifiable/notifiable/conformance/ErrorCode" "code" "I" (.int (203 : Int32)) := F454.other W463 (Or.inl ne9)
  have F496 : Fld Z h463 x8 "com/example/notifiable/notifiable/conformance/ErrorCode" "code" "I" (.int (204 : Int32)) := F455.other W463 (Or.inl ne10)
  have F497 : Fld Z h463 x9 "com/example/notifiable/notifiable/conformance/ErrorCode" "code" "I" (.int (205 : Int32)) := F456.other W463 (Or.inl ne11)
  have F498 : Fld Z h463 x10 "com/example/notifiable/notifiable/conformance/ErrorCode" "code" "I" (.int (206 : Int32)) := F457.other W463 (Or.inl ne12)
  have F499 : Fld Z h463 x11 "com/example/notifiable/notifiable/conformance/ErrorCode" "code" "I" (.int (207 : Int32)) := F458.other W463 (Or.inl ne13)
  have Z500 : n0 ≤ h463.size := Nat.le_trans Z459 (Keep.of_wr W463).1
  have N501 := Fr.snoc X463 N460 g_b1
  obtain ⟨T502, X502, e502, st502⟩ := getS2 X463 hx hZ hown (host := "") (Or.inl (hw _ (List.mem_of_getElem? (i := 26) rfl))) Via.refl e463 F475 (g := (mkF m 79 #[.val (.int p0), .unset, .unset, .unset, .unset, .unset] [(.int (11 : Int32)), (.ref b1), (.ref b1)])) rfl (hb hby at_79)
  obtain ⟨co503, Ao503, qo503, So503, Mo503, Bo503, Go503⟩ := id V463
  obtain ⟨T504, h504, X504, e504, W504, st504⟩ := stR X502 hx hZ e502 Ao503 (j := (11 : Int32)) (inb_of So503 ⟨(by decide), (by decide)⟩) rfl (Sto.ofV Ao503 qo503 O1 (Ins.self F487)) (g := (mkF m 82 #[.val (.int p0), .unset, .unset, .unset, .unset, .unset] [(.ref x11), (.int (11 : Int32)), (.ref b1), (.ref b1)])) rfl rfl (hb hby at_82)
  have V504 : Arv Z h504 b1 k1 (.object "com/example/notifiable/notifiable/conformance/ErrorCode") (12 : Int32) [(.ref x0), (.ref x1), (.ref x2), (.ref x3), (.ref x4), (.ref x5), (.ref x6), (.ref x7), (.ref x8), (.ref x9), (.ref x10), (.ref x11)] .null := Arv.set Ao503 qo503 So503 Mo503 Bo503 Go503 rfl W504 11 rfl (Nat.le_of_ble_eq_true rfl)
  have F505 : Sta Z h504 "com/example/notifiable/notifiable/conformance/ErrorCode" "SEGMENT_SEQUENCE_ERROR" "Lcom/example/notifiable/notifiable/conformance/ErrorCode;" (.ref x0) := F464.wr W504
  have F506 : Sta Z h504 "com/example/notifiable/notifiable/conformance/ErrorCode" "REQUIRED_FIELD_MISSING" "Lcom/example/notifiable/notifiable/conformance/ErrorCode;" (.ref x1) := F465.wr W504
  have F507 : Sta Z h504 "com/example/notifiable/notifiable/conformance/ErrorCode" "DATA_TYPE_ERROR" "Lcom/example/notifiable/notifiable/conformance/ErrorCode;" (.ref x2) := F466.wr W504
  have F508 : Sta Z h504 "com/example/notifiable/notifiable/conformance/ErrorCode" "TABLE_VALUE_NOT_FOUND" "Lcom/example/notifiable/notifiable/conformance/ErrorCode;" (.ref x3) := F467.wr W504
  have F509 : Sta Z h504 "com/example/notifiable/notifiable/conformance/ErrorCode" "UNSUPPORTED_MESSAGE_TYPE" "Lcom/example/notifiable/notifiable/conformance/ErrorCode;" (.ref x4) := F468.wr W504
  have F510 : Sta Z h504 "com/example/notifiable/notifiable/conformance/ErrorCode" "UNSUPPORTED_EVENT_CODE" "Lcom/example/notifiable/notifiable/conformance/ErrorCode;" (.ref x5) := F469.wr W504
  have F511 : Sta Z h504 "com/example/notifiable/notifiable/conformance/ErrorCode" "UNSUPPORTED_PROCESSING_ID" "Lcom/example/notifiable/notifiable/conformance/ErrorCode;" (.ref x6) := F470.wr W504
  have F512 : Sta Z h504 "com/example/notifiable/notifiable/conformance/ErrorCode" "UNSUPPORTED_VERSION_ID" "Lcom/example/notifiable/notifiable/conformance/ErrorCode;" (.ref x7) := F471.wr W504
  have F513 : Sta Z h504 "com/example/notifiable/notifiable/conformance/ErrorCode" "UNKNOWN_KEY_IDENTIFIER" "Lcom/example/notifiable/notifiable/conformance/ErrorCode;" (.ref x8) := F472.wr W504
  have F514 : Sta Z h504 "com/example/notifiable/notifiable/conformance/ErrorCode" "DUPLICATE_KEY_IDENTIFIER" "Lcom/example/notifiable/notifiable/conformance/ErrorCode;" (.ref x9) := F473.wr W504
  have F515 : Sta Z h504 "com/example/notifiable/notifiable/conformance/ErrorCode" "APPLICATION_RECORD_LOCKED" "Lcom/example/notifiable/notifiable/conformance/ErrorCode;" (.ref x10) := F474.wr W504
  have F516 : Sta Z h504 "com/example/notifiable/notifiable/conformance/ErrorCode" "APPLICATION_INTERNAL_ERROR" "Lcom/example/notifiable/notifiable/conformance/ErrorCode;" (.ref x11) := F475.wr W504
  have F517 : Exa Z h504 x0 "com/example/notifiable/notifiable/conformance/ErrorCode" := F476.wr W504
  have F518 : Exa Z h504 x1 "com/example/notifiable/notifiable/conformance/ErrorCode" := F477.wr W504
  have F519 : Exa Z h504 x2 "com/example/notifiable/notifiable/conformance/ErrorCode" := F478.wr W504
  have F520 : Exa Z h504 x3 "com/example/notifiable/notifiable/conformance/ErrorCode" := F479.wr W504
  have F521 : Exa Z h504 x4 "com/example/notifiable/notifiable/conformance/ErrorCode" := F480.wr W504
  have F522 : Exa Z h504 x5 "com/example/notifiable/notifiable/conformance/ErrorCode" := F481.wr W504
  have F523 : Exa Z h504 x6 "com/example/notifiable/notifiable/conformance/ErrorCode" := F482.wr W504
  have F524 : Exa Z h504 x7 "com/example/notifiable/notifiable/conformance/ErrorCode" := F483.wr W504
  have F525 : Exa Z h504 x8 "com/example/notifiable/notifiable/conformance/ErrorCode" := F484.wr W504
  have F526 : Exa Z h504 x9 "com/example/notifiable/notifiable/conformance/ErrorCode" := F485.wr W504
  have F527 : Exa Z h504 x10 "com/example/notifiable/notifiable/conformance/ErrorCode" := F486.wr W504
  have F528 : Exa Z h504 x11 "com/example/notifiable/notifiable/conformance/ErrorCode" := F487.wr W504
  have F529 : Fld Z h504 x0 "com/example/notifiable/notifiable/conformance/ErrorCode" "code" "I" (.int (100 : Int32)) := F488.other W504 (Or.inl ne2)
  have F530 : Fld Z h504 x1 "com/example/notifiable/notifiable/conformance/ErrorCode" "code" "I" (.int (101 : Int32)) := F489.other W504 (Or.inl ne3)
  have F531 : Fld Z h504 x2 "com/example/notifiable/notifiable/conformance/ErrorCode" "code" "I" (.int (102 : Int32)) := F490.other W504 (Or.inl ne4)
  have F532 : Fld Z h504 x3 "com/example/notifiable/notifiable/conformance/ErrorCode" "code" "I" (.int (103 : Int32)) := F491.other W504 (Or.inl ne5)
  have F533 : Fld Z h504 x4 "com/example/notifiable/notifiable/conformance/ErrorCode" "code" "I" (.int (200 : Int32)) := F492.other W504 (Or.inl ne6)
  have F534 : Fld Z h504 x5 "com/example/notifiable/notifiable/conformance/ErrorCode" "code" "I" (.int (201 : Int32)) := F493.other W504 (Or.inl ne7)
  have F535 : Fld Z h504 x6 "com/example/notifiable/notifiable/conformance/ErrorCode" "code" "I" (.int (202 : Int32)) := F494.other W504 (Or.inl ne8)
  have F536 : Fld Z h504 x7 "com/example/notifiable/notifiable/conformance/ErrorCode" "code" "I" (.int (203 : Int32)) := F495.other W504 (Or.inl ne9)
  have F537 : Fld Z h504 x8 "com/example/notifiable/notifiable/conformance/ErrorCode" "code" "I" (.int (204 : Int32)) := F496.other W504 (Or.inl ne10)
  have F538 : Fld Z h504 x9 "com/example/notifiable/notifiable/conformance/ErrorCode" "code" "I" (.int (205 : Int32)) := F497.other W504 (Or.inl ne11)
  have F539 : Fld Z h504 x10 "com/example/notifiable/notifiable/conformance/ErrorCode" "code" "I" (.int (206 : Int32)) := F498.other W504 (Or.inl ne12)
  have F540 : Fld Z h504 x11 "com/example/notifiable/notifiable/conformance/ErrorCode" "code" "I" (.int (207 : Int32)) := F499.other W504 (Or.inl ne13)
  have Z541 : n0 ≤ h504.size := Nat.le_trans Z500 (Keep.of_wr W504).1
  have N542 := Fr.snoc X504 N501 g_b1
  have P543 : ∀ t, Steps p.tables e below (T504.setTop (mkF m 92 #[.val (.int p0), .val (.ref b1), .val (.int ((p0 &&& (2147483647 : Int32)) % (12 : Int32))), .unset, .unset, .unset] [])) t → Steps p.tables e below (s₁.setTop (entryFrame m #[(.int p0)] maxLocals)) t := by
    intro t k
    refine pre0 t ?_
    show Steps p.tables e below (s₁.setTop (mkF m 0 #[.val (.int p0), .unset, .unset, .unset, .unset, .unset] [])) _
    refine XS.bipush X0.here hx rfl (hb hby at_0) ?_
    show Steps p.tables e below (s₁.setTop (mkF m 2 #[.val (.int p0), .unset, .unset, .unset, .unset, .unset] [(.int (12 : Int32))])) _
    refine st1 _ ?_
    show Steps p.tables e below (T1.setTop (mkF m 5 #[.val (.int p0), .unset, .unset, .unset, .unset, .unset] [(.ref b1)])) _
    refine XS.dup X1.here hx rfl (hb hby at_5) rfl rfl ?_
    show Steps p.tables e below (T1.setTop (mkF m 6 #[.val (.int p0), .unset, .unset, .unset, .unset, .unset] [(.ref b1), (.ref b1)])) _
    refine XS.iconst X1.here hx rfl (hb hby at_6) ?_
    show Steps p.tables e below (T1.setTop (mkF m 7 #[.val (.int p0), .unset, .unset, .unset, .unset, .unset] [(.int (0 : Int32)), (.ref b1), (.ref b1)])) _
    refine st51 _ ?_
    show Steps p.tables e below (T51.setTop (mkF m 10 #[.val (.int p0), .unset, .unset, .unset, .unset, .unset] [(.ref x0), (.int (0 : Int32)), (.ref b1), (.ref b1)])) _
    refine st53 _ ?_
    show Steps p.tables e below (T53.setTop (mkF m 11 #[.val (.int p0), .unset, .unset, .unset, .unset, .unset] [(.ref b1)])) _
    refine XS.dup X53.here hx rfl (hb hby at_11) rfl rfl ?_
    show Steps p.tables e below (T53.setTop (mkF m 12 #[.val (.int p0), .unset, .unset, .unset, .unset, .unset] [(.ref b1), (.ref b1)])) _
    refine XS.iconst X53.here hx rfl (hb hby at_12) ?_
    show Steps p.tables e below (T53.setTop (mkF m 13 #[.val (.int p0), .unset, .unset, .unset, .unset, .unset] [(.int (1 : Int32)), (.ref b1), (.ref b1)])) _
    refine st92 _ ?_
    show Steps p.tables e below (T92.setTop (mkF m 16 #[.val (.int p0), .unset, .unset, .unset, .unset, .unset] [(.ref x1), (.int (1 : Int32)), (.ref b1), (.ref b1)])) _
    refine st94 _ ?_
    show Steps p.tables e below (T94.setTop (mkF m 17 #[.val (.int p0), .unset, .unset, .unset, .unset, .unset] [(.ref b1)])) _
    refine XS.dup X94.here hx rfl (hb hby at_17) rfl rfl ?_
    show Steps p.tables e below (T94.setTop (mkF m 18 #[.val (.int p0), .unset, .unset, .unset, .unset, .unset] [(.ref b1), (.ref b1)])) _
    refine XS.iconst X94.here hx rfl (hb hby at_18) ?_
    show Steps p.tables e below (T94.setTop (mkF m 19 #[.val (.int p0), .unset, .unset, .unset, .unset, .unset] [(.int (2 : Int32)), (.ref b1), (.ref b1)])) _
    refine st133 _ ?_
    show Steps p.tables e below (T133.setTop (mkF m 22 #[.val (.int p0), .unset, .unset, .unset, .unset, .unset] [(.ref x2), (.int (2 : Int32)), (.ref b1), (.ref b1)])) _
    refine st135 _ ?_
    show Steps p.tables e below (T135.setTop (mkF m 23 #[.val (.int p0), .unset, .unset, .unset, .unset, .unset] [(.ref b1)])) _
    refine XS.dup X135.here hx rfl (hb hby at_23) rfl rfl ?_
    show Steps p.tables e below (T135.setTop (mkF m 24 #[.val (.int p0), .unset, .unset, .unset, .unset, .unset] [(.ref b1), (.ref b1)])) _
    refine XS.iconst X135.here hx rfl (hb hby at_24) ?_
    show Steps p.tables e below (T135.setTop (mkF m 25 #[.val (.int p0), .unset, .unset, .unset, .unset, .unset] [(.int (3 : Int32)), (.ref b1), (.ref b1)])) _
    refine st174 _ ?_
    show Steps p.tables e below (T174.setTop (mkF m 28 #[.val (.int p0), .unset, .unset, .unset, .unset, .unset] [(.ref x3), (.int (3 : Int32)), (.ref b1), (.ref b1)])) _
    refine st176 _ ?_
    show Steps p.tables e below (T176.setTop (mkF m 29 #[.val (.int p0), .unset, .unset, .unset, .unset, .unset] [(.ref b1)])) _
    refine XS.dup X176.here hx rfl (hb hby at_29) rfl rfl ?_
    show Steps p.tables e below (T176.setTop (mkF m 30 #[.val (.int p0), .unset, .unset, .unset, .unset, .unset] [(.ref b1), (.ref b1)])) _
    refine XS.iconst X176.here hx rfl (hb hby at_30) ?_
    show Steps p.tables e below (T176.setTop (mkF m 31 #[.val (.int p0), .unset, .unset, .unset, .unset, .unset] [(.int (4 : Int32)), (.ref b1), (.ref b1)])) _
    refine st215 _ ?_
    show Steps p.tables e below (T215.setTop (mkF m 34 #[.val (.int p0), .unset, .unset, .unset, .unset, .unset] [(.ref x4), (.int (4 : Int32)), (.ref b1), (.ref b1)])) _
    refine st217 _ ?_
    show Steps p.tables e below (T217.setTop (mkF m 35 #[.val (.int p0), .unset, .unset, .unset, .unset, .unset] [(.ref b1)])) _
    refine XS.dup X217.here hx rfl (hb hby at_35) rfl rfl ?_
    show Steps p.tables e below (T217.setTop (mkF m 36 #[.val (.int p0), .unset, .unset, .unset, .unset, .unset] [(.ref b1), (.ref b1)])) _
    refine XS.iconst X217.here hx rfl (hb hby at_36) ?_
    show Steps p.tables e below (T217.setTop (mkF m 37 #[.val (.int p0), .unset, .unset, .unset, .unset, .unset] [(.int (5 : Int32)), (.ref b1), (.ref b1)])) _
    refine st256 _ ?_
    show Steps p.tables e below (T256.setTop (mkF m 40 #[.val (.int p0), .unset, .unset, .unset, .unset, .unset] [(.ref x5), (.int (5 : Int32)), (.ref b1), (.ref b1)])) _
    refine st258 _ ?_
    show Steps p.tables e below (T258.setTop (mkF m 41 #[.val (.int p0), .unset, .unset, .unset, .unset, .unset] [(.ref b1)])) _
    refine XS.dup X258.here hx rfl (hb hby at_41) rfl rfl ?_
    show Steps p.tables e below (T258.setTop (mkF m 42 #[.val (.int p0), .unset, .unset, .unset, .unset, .unset] [(.ref b1), (.ref b1)])) _
    refine XS.bipush X258.here hx rfl (hb hby at_42) ?_
    show Steps p.tables e below (T258.setTop (mkF m 44 #[.val (.int p0), .unset, .unset, .unset, .unset, .unset] [(.int (6 : Int32)), (.ref b1), (.ref b1)])) _
    refine st297 _ ?_
    show Steps p.tables e below (T297.setTop (mkF m 47 #[.val (.int p0), .unset, .unset, .unset, .unset, .unset] [(.ref x6), (.int (6 : Int32)), (.ref b1), (.ref b1)])) _
    refine st299 _ ?_
    show Steps p.tables e below (T299.setTop (mkF m 48 #[.val (.int p0), .unset, .unset, .unset, .unset, .unset] [(.ref b1)])) _
    refine XS.dup X299.here hx rfl (hb hby at_48) rfl rfl ?_
    show Steps p.tables e below (T299.setTop (mkF m 49 #[.val (.int p0), .unset, .unset, .unset, .unset, .unset] [(.ref b1), (.ref b1)])) _
    refine XS.bipush X299.here hx rfl (hb hby at_49) ?_
    show Steps p.tables e below (T299.setTop (mkF m 51 #[.val (.int p0), .unset, .unset, .unset, .unset, .unset] [(.int (7 : Int32)), (.ref b1), (.ref b1)])) _
    refine st338 _ ?_
    show Steps p.tables e below (T338.setTop (mkF m 54 #[.val (.int p0), .unset, .unset, .unset, .unset, .unset] [(.ref x7), (.int (7 : Int32)), (.ref b1), (.ref b1)])) _
    refine st340 _ ?_
    show Steps p.tables e below (T340.setTop (mkF m 55 #[.val (.int p0), .unset, .unset, .unset, .unset, .unset] [(.ref b1)])) _
    refine XS.dup X340.here hx rfl (hb hby at_55) rfl rfl ?_
    show Steps p.tables e below (T340.setTop (mkF m 56 #[.val (.int p0), .unset, .unset, .unset, .unset, .unset] [(.ref b1), (.ref b1)])) _
    refine XS.bipush X340.here hx rfl (hb hby at_56) ?_
    show Steps p.tables e below (T340.setTop (mkF m 58 #[.val (.int p0), .unset, .unset, .unset, .unset, .unset] [(.int (8 : Int32)), (.ref b1), (.ref b1)])) _
    refine st379 _ ?_
    show Steps p.tables e below (T379.setTop (mkF m 61 #[.val (.int p0), .unset, .unset, .unset, .unset, .unset] [(.ref x8), (.int (8 : Int32)), (.ref b1), (.ref b1)])) _
    refine st381 _ ?_
    show Steps p.tables e below (T381.setTop (mkF m 62 #[.val (.int p0), .unset, .unset, .unset, .unset, .unset] [(.ref b1)])) _
    refine XS.dup X381.here hx rfl (hb hby at_62) rfl rfl ?_
    show Steps p.tables e below (T381.setTop (mkF m 63 #[.val (.int p0), .unset, .unset, .unset, .unset, .unset] [(.ref b1), (.ref b1)])) _
    refine XS.bipush X381.here hx rfl (hb hby at_63) ?_
    show Steps p.tables e below (T381.setTop (mkF m 65 #[.val (.int p0), .unset, .unset, .unset, .unset, .unset] [(.int (9 : Int32)), (.ref b1), (.ref b1)])) _
    refine st420 _ ?_
    show Steps p.tables e below (T420.setTop (mkF m 68 #[.val (.int p0), .unset, .unset, .unset, .unset, .unset] [(.ref x9), (.int (9 : Int32)), (.ref b1), (.ref b1)])) _
    refine st422 _ ?_
    show Steps p.tables e below (T422.setTop (mkF m 69 #[.val (.int p0), .unset, .unset, .unset, .unset, .unset] [(.ref b1)])) _
    refine XS.dup X422.here hx rfl (hb hby at_69) rfl rfl ?_
    show Steps p.tables e below (T422.setTop (mkF m 70 #[.val (.int p0), .unset, .unset, .unset, .unset, .unset] [(.ref b1), (.ref b1)])) _
    refine XS.bipush X422.here hx rfl (hb hby at_70) ?_
    show Steps p.tables e below (T422.setTop (mkF m 72 #[.val (.int p0), .unset, .unset, .unset, .unset, .unset] [(.int (10 : Int32)), (.ref b1), (.ref b1)])) _
    refine st461 _ ?_
    show Steps p.tables e below (T461.setTop (mkF m 75 #[.val (.int p0), .unset, .unset, .unset, .unset, .unset] [(.ref x10), (.int (10 : Int32)), (.ref b1), (.ref b1)])) _
    refine st463 _ ?_
    show Steps p.tables e below (T463.setTop (mkF m 76 #[.val (.int p0), .unset, .unset, .unset, .unset, .unset] [(.ref b1)])) _
    refine XS.dup X463.here hx rfl (hb hby at_76) rfl rfl ?_
    show Steps p.tables e below (T463.setTop (mkF m 77 #[.val (.int p0), .unset, .unset, .unset, .unset, .unset] [(.ref b1), (.ref b1)])) _
    refine XS.bipush X463.here hx rfl (hb hby at_77) ?_
    show Steps p.tables e below (T463.setTop (mkF m 79 #[.val (.int p0), .unset, .unset, .unset, .unset, .unset] [(.int (11 : Int32)), (.ref b1), (.ref b1)])) _
    refine st502 _ ?_
    show Steps p.tables e below (T502.setTop (mkF m 82 #[.val (.int p0), .unset, .unset, .unset, .unset, .unset] [(.ref x11), (.int (11 : Int32)), (.ref b1), (.ref b1)])) _
    refine st504 _ ?_
    show Steps p.tables e below (T504.setTop (mkF m 83 #[.val (.int p0), .unset, .unset, .unset, .unset, .unset] [(.ref b1)])) _
    refine XS.astoreN X504.here hx rfl (hb hby at_83) rfl rfl (l' := #[.val (.int p0), .val (.ref b1), .unset, .unset, .unset, .unset]) rfl ?_
    show Steps p.tables e below (T504.setTop (mkF m 84 #[.val (.int p0), .val (.ref b1), .unset, .unset, .unset, .unset] [])) _
    refine XS.iloadN X504.here hx rfl (hb hby at_84) rfl ?_
    show Steps p.tables e below (T504.setTop (mkF m 85 #[.val (.int p0), .val (.ref b1), .unset, .unset, .unset, .unset] [(.int p0)])) _
    refine X504.ldcInt hx hown (mvT hZ (hw _ (List.mem_of_getElem? (i := 28) rfl))) (g := (mkF m 85 #[.val (.int p0), .val (.ref b1), .unset, .unset, .unset, .unset] [(.int p0)])) rfl (hb hby at_85) _ ?_
    show Steps p.tables e below (T504.setTop (mkF m 87 #[.val (.int p0), .val (.ref b1), .unset, .unset, .unset, .unset] [(.int (2147483647 : Int32)), (.int p0)])) _
    refine XS.iand X504.here hx rfl (hb hby at_87) rfl ?_
    show Steps p.tables e below (T504.setTop (mkF m 88 #[.val (.int p0), .val (.ref b1), .unset, .unset, .unset, .unset] [(.int (p0 &&& (2147483647 : Int32)))])) _
    refine XS.bipush X504.here hx rfl (hb hby at_88) ?_
    show Steps p.tables e below (T504.setTop (mkF m 90 #[.val (.int p0), .val (.ref b1), .unset, .unset, .unset, .unset] [(.int (12 : Int32)), (.int (p0 &&& (2147483647 : Int32)))])) _
    refine iremM X504 hx rfl (hb hby at_90) rfl (by decide) ?_
    show Steps p.tables e below (T504.setTop (mkF m 91 #[.val (.int p0), .val (.ref b1), .unset, .unset, .unset, .unset] [(.int ((p0 &&& (2147483647 : Int32)) % (12 : Int32)))])) _
    refine XS.istoreN X504.here hx rfl (hb hby at_91) rfl (l' := #[.val (.int p0), .val (.ref b1), .val (.int ((p0 &&& (2147483647 : Int32)) % (12 : Int32))), .unset, .unset, .unset]) rfl ?_
    exact k
  obtain ⟨iv, hiv⟩ : ∃ z : Int32, z = ((p0 &&& (2147483647 : Int32)) % (12 : Int32)) := ⟨_, rfl⟩
  have P544 : ∀ t, Steps p.tables e below (T504.setTop (mkF m 92 #[.val (.int p0), .val (.ref b1), .val (.int iv), .unset, .unset, .unset] [])) t → Steps p.tables e below (s₁.setTop (entryFrame m #[(.int p0)] maxLocals)) t := by rw [hiv]; exact P543
  have h12 := own_12 p0
  rw [← hiv] at h12
  rcases h12 with rfl | rfl | rfl | rfl | rfl | rfl | rfl | rfl | rfl | rfl | rfl | rfl
  · obtain ⟨co545, Ao545, qo545, So545, Mo545, Bo545, Go545⟩ := id V504
    obtain ⟨cq546, kq546, q546a, q546b, q546c⟩ := isOf hZ e504 F517
    obtain ⟨_, _, ⟨T546, L546, k546, n546⟩, -, X546, ⟨Lc546, hQ546, l546, y546, z546⟩, st546⟩ := X504.virtualBack hx (y := (⟨"com/example/notifiable/notifiable/conformance/ErrorCode", "code", "()I"⟩ : MethodName)) (z := (⟨"com/example/notifiable/notifiable/conformance/ErrorCode", "code", "()I"⟩ : MethodName)) hown (mvT hZ (hw _ (List.mem_of_getElem? (i := 29) rfl))) (mvT hZ (hw _ (List.mem_of_getElem? (i := 30) rfl))) (notFace_of_selects (args := #[]) (mvT hZ (hw _ (List.mem_of_getElem? (i := 32) rfl)))) (mvT hZ (hw _ (List.mem_of_getElem? (i := 32) rfl))) (mvT hZ (hw _ (List.mem_of_getElem? (i := 31) rfl))) (by decide) (backOf (W := 0) (rm1 l Z a0 hw [] x0 (100 : Int32) h504 n0 Z541 F529) hZ (hw _ (List.mem_of_getElem? (i := 33) rfl)) (hw _ (List.mem_of_getElem? (i := 3) rfl)) (by decide) (by decide)) q546a q546c (g := (mkF m 97 #[.val (.int p0), .val (.ref b1), .val (.int (0 : Int32)), .val (.ref x0), .unset, .unset] [(.ref x0)])) rfl (by rw [hml]; rfl) (Steps.refl _) (argsL := []) (rest := []) (lenOf pd_0 rfl) rfl (by show 2 * 0 + _ ≤ _; exact Nat.le_of_eq rfl) (hb hby at_97) (fun _ _ => ⟨rfl, e504, (by decide : 1 + 0 ≤ _), (by decide : 12 + 0 ≤ _)⟩)
    dsimp only [Pt.U, Pt.locs, Pt.cells, Pt.slots] at X546 l546 y546 z546 st546 hQ546
    subst l546 y546 z546
    obtain ⟨rfl, N546q, R547⟩ := hQ546
    have N546 := Fr.app N542 N546q
    obtain ⟨cq548, kq548, q548a, q548b, q548c⟩ := isOf hZ R547 F517
    obtain ⟨_, _, ⟨T548, L548, k548, n548⟩, -, X548, ⟨Lc548, hQ548, l548, y548, z548⟩, st548⟩ := X546.virtualBack hx (y := (⟨"com/example/notifiable/notifiable/conformance/ErrorCode", "rejects", "()Z"⟩ : MethodName)) (z := (⟨"com/example/notifiable/notifiable/conformance/ErrorCode", "rejects", "()Z"⟩ : MethodName)) hown (mvT hZ (hw _ (List.mem_of_getElem? (i := 36) rfl))) (mvT hZ (hw _ (List.mem_of_getElem? (i := 37) rfl))) (notFace_of_selects (args := #[]) (mvT hZ (hw _ (List.mem_of_getElem? (i := 39) rfl)))) (mvT hZ (hw _ (List.mem_of_getElem? (i := 39) rfl))) (mvT hZ (hw _ (List.mem_of_getElem? (i := 38) rfl))) (by decide) (backOf (W := 0) (rm2 l Z a0 hw [] x0 x4 x5 x6 x7 h504 n0 Z541 F509 F510 F511 F512) hZ (hw _ (List.mem_of_getElem? (i := 40) rfl)) (hw _ (List.mem_of_getElem? (i := 3) rfl)) (by decide) (by decide)) q548a q548c (g := (mkF m 126 #[.val (.int p0), .val (.ref b1), .val (.int (0 : Int32)), .val (.ref x0), .val (.int (100 : Int32)), .val (.int (0 : Int32))] [(.ref x0)])) rfl (by rw [hml]; rfl) (Steps.refl _) (argsL := []) (rest := []) (lenOf pd_1 rfl) rfl (by show 2 * 0 + _ ≤ _; exact Nat.le_of_eq rfl) (hb hby at_126) (fun _ _ => ⟨rfl, R547, (by decide : 1 + 0 ≤ _), (by decide : 12 + 0 ≤ _)⟩)
    dsimp only [Pt.U, Pt.locs, Pt.cells, Pt.slots] at X548 l548 y548 z548 st548 hQ548
    subst l548 y548 z548
    obtain ⟨r549, rfl, N548q, R550, R551⟩ := hQ548
    have N548 := Fr.app N546 N548q
    have hr : r549 = 0 := by
      rcases R550 with ⟨h, -⟩ | ⟨-, h⟩
      · exact absurd h (fun q => q.elim (F529.ne F533 (by decide)) (fun q => q.elim (F529.ne F534 (by decide)) (fun q => q.elim (F529.ne F535 (by decide)) (F529.ne F536 (by decide)))))
      · exact h
    subst hr
    obtain ⟨fs, hr, hrun, hended, hW, hsame⟩ := X548.leave (v := some (.int (1 : Int32))) (fun h => by rw [Bd.returns] at h; cases h)
    refine ⟨_, _, P544 _ ?_, hrun, hended, _, _, rfl, ?_, ⟨_, rfl⟩, hW, hsame.mono (by decide) (by decide)⟩
    · show Steps p.tables e below (T504.setTop (mkF m 92 #[.val (.int p0), .val (.ref b1), .val (.int (0 : Int32)), .unset, .unset, .unset] [])) _
      refine XS.aloadN X504.here hx rfl (hb hby at_92) rfl rfl ?_
      show Steps p.tables e below (T504.setTop (mkF m 93 #[.val (.int p0), .val (.ref b1), .val (.int (0 : Int32)), .unset, .unset, .unset] [(.ref b1)])) _
      refine XS.iloadN X504.here hx rfl (hb hby at_93) rfl ?_
      show Steps p.tables e below (T504.setTop (mkF m 94 #[.val (.int p0), .val (.ref b1), .val (.int (0 : Int32)), .unset, .unset, .unset] [(.int (0 : Int32)), (.ref b1)])) _
      refine X504.aaload hx (j := (0 : Int32)) (v := (.ref x0)) (by rw [e504]; exact Ao545.1) (State.isArrayOf_alike hZ.alike Ao545.2.1) rfl Ao545.2.2 (inb_of So545 ⟨(by decide), (by decide)⟩) (Has.at Bo545 (inb_of So545 ⟨(by decide), (by decide)⟩) rfl) (g := (mkF m 94 #[.val (.int p0), .val (.ref b1), .val (.int (0 : Int32)), .unset, .unset, .unset] [(.int (0 : Int32)), (.ref b1)])) rfl rfl (hb hby at_94) _ ?_
      show Steps p.tables e below (T504.setTop (mkF m 95 #[.val (.int p0), .val (.ref b1), .val (.int (0 : Int32)), .unset, .unset, .unset] [(.ref x0)])) _
      refine XS.astoreN X504.here hx rfl (hb hby at_95) rfl rfl (l' := #[.val (.int p0), .val (.ref b1), .val (.int (0 : Int32)), .val (.ref x0), .unset, .unset]) rfl ?_
      show Steps p.tables e below (T504.setTop (mkF m 96 #[.val (.int p0), .val (.ref b1), .val (.int (0 : Int32)), .val (.ref x0), .unset, .unset] [])) _
      refine XS.aloadN X504.here hx rfl (hb hby at_96) rfl rfl ?_
      show Steps p.tables e below (T504.setTop (mkF m 97 #[.val (.int p0), .val (.ref b1), .val (.int (0 : Int32)), .val (.ref x0), .unset, .unset] [(.ref x0)])) _
      refine st546.trans ?_
      show Steps p.tables e below (T546.setTop (mkF m 100 #[.val (.int p0), .val (.ref b1), .val (.int (0 : Int32)), .val (.ref x0), .unset, .unset] [(.int (100 : Int32))])) _
      refine XS.istore X546.here hx rfl (hb hby at_100) rfl (l' := #[.val (.int p0), .val (.ref b1), .val (.int (0 : Int32)), .val (.ref x0), .val (.int (100 : Int32)), .unset]) rfl ?_
      show Steps p.tables e below (T546.setTop (mkF m 102 #[.val (.int p0), .val (.ref b1), .val (.int (0 : Int32)), .val (.ref x0), .val (.int (100 : Int32)), .unset] [])) _
      refine XS.iload X546.here hx rfl (hb hby at_102) rfl ?_
      show Steps p.tables e below (T546.setTop (mkF m 104 #[.val (.int p0), .val (.ref b1), .val (.int (0 : Int32)), .val (.ref x0), .val (.int (100 : Int32)), .unset] [(.int (100 : Int32))])) _
      refine XS.sipush X546.here hx rfl (hb hby at_104) ?_
      show Steps p.tables e below (T546.setTop (mkF m 107 #[.val (.int p0), .val (.ref b1), .val (.int (0 : Int32)), .val (.ref x0), .val (.int (100 : Int32)), .unset] [(.int (200 : Int32)), (.int (100 : Int32))])) _
      refine XS.icmpYes X546.here hx rfl (pc0 := 107) (pc' := 122) rfl (hb hby at_107) rfl (tlt (by decide : (100 : Int32) < (200 : Int32))).1 (by decide) (by decide) ?_
      show Steps p.tables e below (T546.setTop (mkF m 122 #[.val (.int p0), .val (.ref b1), .val (.int (0 : Int32)), .val (.ref x0), .val (.int (100 : Int32)), .unset] [])) _
      refine XS.iconst X546.here hx rfl (hb hby at_122) ?_
      show Steps p.tables e below (T546.setTop (mkF m 123 #[.val (.int p0), .val (.ref b1), .val (.int (0 : Int32)), .val (.ref x0), .val (.int (100 : Int32)), .unset] [(.int (0 : Int32))])) _
      refine XS.istore X546.here hx rfl (hb hby at_123) rfl (l' := #[.val (.int p0), .val (.ref b1), .val (.int (0 : Int32)), .val (.ref x0), .val (.int (100 : Int32)), .val (.int (0 : Int32))]) rfl ?_
      show Steps p.tables e below (T546.setTop (mkF m 125 #[.val (.int p0), .val (.ref b1), .val (.int (0 : Int32)), .val (.ref x0), .val (.int (100 : Int32)), .val (.int (0 : Int32))] [])) _
      refine XS.aloadN X546.here hx rfl (hb hby at_125) rfl rfl ?_
      show Steps p.tables e below (T546.setTop (mkF m 126 #[.val (.int p0), .val (.ref b1), .val (.int (0 : Int32)), .val (.ref x0), .val (.int (100 : Int32)), .val (.int (0 : Int32))] [(.ref x0)])) _
      refine st548.trans ?_
      show Steps p.tables e below (T548.setTop (mkF m 129 #[.val (.int p0), .val (.ref b1), .val (.int (0 : Int32)), .val (.ref x0), .val (.int (100 : Int32)), .val (.int (0 : Int32))] [(.int (0 : Int32))])) _
      refine XS.iload X548.here hx rfl (hb hby at_129) rfl ?_
      show Steps p.tables e below (T548.setTop (mkF m 131 #[.val (.int p0), .val (.ref b1), .val (.int (0 : Int32)), .val (.ref x0), .val (.int (100 : Int32)), .val (.int (0 : Int32))] [(.int (0 : Int32)), (.int (0 : Int32))])) _
      refine XS.icmpNo X548.here hx rfl (hb hby at_131) rfl (teq (by decide : (0 : Int32) = (0 : Int32))).2 ?_
      show Steps p.tables e below (T548.setTop (mkF m 134 #[.val (.int p0), .val (.ref b1), .val (.int (0 : Int32)), .val (.ref x0), .val (.int (100 : Int32)), .val (.int (0 : Int32))] [])) _
      refine XS.iconst X548.here hx rfl (hb hby at_134) ?_
      show Steps p.tables e below (T548.setTop (mkF m 135 #[.val (.int p0), .val (.ref b1), .val (.int (0 : Int32)), .val (.ref x0), .val (.int (100 : Int32)), .val (.int (0 : Int32))] [(.int (1 : Int32))])) _
      refine XS.goto X548.here hx rfl (pc0 := 135) (pc' := 139) rfl (hb hby at_135) (by decide) (by decide) ?_
      show Steps p.tables e below (T548.setTop (mkF m 139 #[.val (.int p0), .val (.ref b1), .val (.int (0 : Int32)), .val (.ref x0), .val (.int (100 : Int32)), .val (.int (0 : Int32))] [(.int (1 : Int32))])) _
      exact retN X548 hx (t := .boolean) Bd.returns (by simp) (hb hby at_139) hr
    · show Q0 Z p0 x0 x1 x2 x3 x4 x5 x6 x7 x8 x9 x10 x11 h0 n0 _ T548.heap _
      rw [R551]
      exact ⟨rfl, N548⟩
  · obtain ⟨co552, Ao552, qo552, So552, Mo552, Bo552, Go552⟩ := id V504
    obtain ⟨cq553, kq553, q553a, q553b, q553c⟩ := isOf hZ e504 F518
    obtain ⟨_, _, ⟨T553, L553, k553, n553⟩, -, X553, ⟨Lc553, hQ553, l553, y553, z553⟩, st553⟩ := X504.virtualBack hx (y := (⟨"com/example/notifiable/notifiable/conformance/ErrorCode", "code", "()I"⟩ : MethodName)) (z := (⟨"com/example/notifiable/notifiable/conformance/ErrorCode", "code", "()I"⟩ : MethodName)) hown (mvT hZ (hw _ (List.mem_of_getElem? (i := 29) rfl))) (mvT hZ (hw _ (List.mem_of_getElem? (i := 30) rfl))) (notFace_of_selects (args := #[]) (mvT hZ (hw _ (List.mem_of_getElem? (i := 32) rfl)))) (mvT hZ (hw _ (List.mem_of_getElem? (i := 32) rfl))) (mvT hZ (hw _ (List.mem_of_getElem? (i := 31) rfl))) (by decide) (backOf (W := 0) (rm1 l Z a0 hw [] x1 (101 : Int32) h504 n0 Z541 F530) hZ (hw _ (List.mem_of_getElem? (i := 33) rfl)) (hw _ (List.mem_of_getElem? (i := 3) rfl)) (by decide) (by decide)) q553a q553c (g := (mkF m 97 #[.val (.int p0), .val (.ref b1), .val (.int (1 : Int32)), .val (.ref x1), .unset, .unset] [(.ref x1)])) rfl (by rw [hml]; rfl) (Steps.refl _) (argsL := []) (rest := []) (lenOf pd_0 rfl) rfl (by show 2 * 0 + _ ≤ _; exact Nat.le_of_eq rfl) (hb hby at_97) (fun _ _ => ⟨rfl, e504, (by decide : 1 + 0 ≤ _), (by decide : 12 + 0 ≤ _)⟩)
    dsimp only [Pt.U, Pt.locs, Pt.cells, Pt.slots] at X553 l553 y553 z553 st553 hQ553
    subst l553 y553 z553
    obtain ⟨rfl, N553q, R554⟩ := hQ553
    have N553 := Fr.app N542 N553q
    obtain ⟨cq555, kq555, q555a, q555b, q555c⟩ := isOf hZ R554 F518
    obtain ⟨_, _, ⟨T555, L555, k555, n555⟩, -, X555, ⟨Lc555, hQ555, l555, y555, z555⟩, st555⟩ := X553.virtualBack hx (y := (⟨"com/example/notifiable/notifiable/conformance/ErrorCode", "rejects", "()Z"⟩ : MethodName)) (z := (⟨"com/example/notifiable/notifiable/conformance/ErrorCode", "rejects", "()Z"⟩ : MethodName)) hown (mvT hZ (hw _ (List.mem_of_getElem? (i := 36) rfl))) (mvT hZ (hw _ (List.mem_of_getElem? (i := 37) rfl))) (notFace_of_selects (args := #[]) (mvT hZ (hw _ (List.mem_of_getElem? (i := 39) rfl)))) (mvT hZ (hw _ (List.mem_of_getElem? (i := 39) rfl))) (mvT hZ (hw _ (List.mem_of_getElem? (i := 38) rfl))) (by decide) (backOf (W := 0) (rm2 l Z a0 hw [] x1 x4 x5 x6 x7 h504 n0 Z541 F509 F510 F511 F512) hZ (hw _ (List.mem_of_getElem? (i := 40) rfl)) (hw _ (List.mem_of_getElem? (i := 3) rfl)) (by decide) (by decide)) q555a q555c (g := (mkF m 126 #[.val (.int p0), .val (.ref b1), .val (.int (1 : Int32)), .val (.ref x1), .val (.int (101 : Int32)), .val (.int (0 : Int32))] [(.ref x1)])) rfl (by rw [hml]; rfl) (Steps.refl _) (argsL := []) (rest := []) (lenOf pd_1 rfl) rfl (by show 2 * 0 + _ ≤ _; exact Nat.le_of_eq rfl) (hb hby at_126) (fun _ _ => ⟨rfl, R554, (by decide : 1 + 0 ≤ _), (by decide : 12 + 0 ≤ _)⟩)
    dsimp only [Pt.U, Pt.locs, Pt.cells, Pt.slots] at X555 l555 y555 z555 st555 hQ555
    subst l555 y555 z555
    obtain ⟨r556, rfl, N555q, R557, R558⟩ := hQ555
    have N555 := Fr.app N553 N555q
    have hr : r556 = 0 := by
      rcases R557 with ⟨h, -⟩ | ⟨-, h⟩
      · exact absurd h (fun q => q.elim (F530.ne F533 (by decide)) (fun q => q.elim (F530.ne F534 (by decide)) (fun q => q.elim (F530.ne F535 (by decide)) (F530.ne F536 (by decide)))))
      · exact h
    subst hr
    obtain ⟨fs, hr, hrun, hended, hW, hsame⟩ := X555.leave (v := some (.int (1 : Int32))) (fun h => by rw [Bd.returns] at h; cases h)
    refine ⟨_, _, P544 _ ?_, hrun, hended, _, _, rfl, ?_, ⟨_, rfl⟩, hW, hsame.mono (by decide) (by decide)⟩
    · show Steps p.tables e below (T504.setTop (mkF m 92 #[.val (.int p0), .val (.ref b1), .val (.int (1 : Int32)), .unset, .unset, .unset] [])) _
      refine XS.aloadN X504.here hx rfl (hb hby at_92) rfl rfl ?_
      show Steps p.tables e below (T504.setTop (mkF m 93 #[.val (.int p0), .val (.ref b1), .val (.int (1 : Int32)), .unset, .unset, .unset] [(.ref b1)])) _
      refine XS.iloadN X504.here hx rfl (hb hby at_93) rfl ?_
      show Steps p.tables e below (T504.setTop (mkF m 94 #[.val (.int p0), .val (.ref b1), .val (.int (1 : Int32)), .unset, .unset, .unset] [(.int (1 : Int32)), (.ref b1)])) _
      refine X504.aaload hx (j := (1 : Int32)) (v := (.ref x1)) (by rw [e504]; exact Ao552.1) (State.isArrayOf_alike hZ.alike Ao552.2.1) rfl Ao552.2.2 (inb_of So552 ⟨(by decide), (by decide)⟩) (Has.at Bo552 (inb_of So552 ⟨(by decide), (by decide)⟩) rfl) (g := (mkF m 94 #[.val (.int p0), .val (.ref b1), .val (.int (1 : Int32)), .unset, .unset, .unset] [(.int (1 : Int32)), (.ref b1)])) rfl rfl (hb hby at_94) _ ?_
      show Steps p.tables e below (T504.setTop (mkF m 95 #[.val (.int p0), .val (.ref b1), .val (.int (1 : Int32)), .unset, .unset, .unset] [(.ref x1)])) _
      refine XS.astoreN X504.here hx rfl (hb hby at_95) rfl rfl (l' := #[.val (.int p0), .val (.ref b1), .val (.int (1 : Int32)), .val (.ref x1), .unset, .unset]) rfl ?_
      show Steps p.tables e below (T504.setTop (mkF m 96 #[.val (.int p0), .val (.ref b1), .val (.int (1 : Int32)), .val (.ref x1), .unset, .unset] [])) _
      refine XS.aloadN X504.here hx rfl (hb hby at_96) rfl rfl ?_
      show Steps p.tables e below (T504.setTop (mkF m 97 #[.val (.int p0), .val (.ref b1), .val (.int (1 : Int32)), .val (.ref x1), .unset, .unset] [(.ref x1)])) _
      refine st553.trans ?_
      show Steps p.tables e below (T553.setTop (mkF m 100 #[.val (.int p0), .val (.ref b1), .val (.int (1 : Int32)), .val (.ref x1), .unset, .unset] [(.int (101 : Int32))])) _
      refine XS.istore X553.here hx rfl (hb hby at_100) rfl (l' := #[.val (.int p0), .val (.ref b1), .val (.int (1 : Int32)), .val (.ref x1), .val (.int (101 : Int32)), .unset]) rfl ?_
      show Steps p.tables e below (T553.setTop (mkF m 102 #[.val (.int p0), .val (.ref b1), .val (.int (1 : Int32)), .val (.ref x1), .val (.int (101 : Int32)), .unset] [])) _
      refine XS.iload X553.here hx rfl (hb hby at_102) rfl ?_
      show Steps p.tables e below (T553.setTop (mkF m 104 #[.val (.int p0), .val (.ref b1), .val (.int (1 : Int32)), .val (.ref x1), .val (.int (101 : Int32)), .unset] [(.int (101 : Int32))])) _
      refine XS.sipush X553.here hx rfl (hb hby at_104) ?_
      show Steps p.tables e below (T553.setTop (mkF m 107 #[.val (.int p0), .val (.ref b1), .val (.int (1 : Int32)), .val (.ref x1), .val (.int (101 : Int32)), .unset] [(.int (200 : Int32)), (.int (101 : Int32))])) _
      refine XS.icmpYes X553.here hx rfl (pc0 := 107) (pc' := 122) rfl (hb hby at_107) rfl (tlt (by decide : (101 : Int32) < (200 : Int32))).1 (by decide) (by decide) ?_
      show Steps p.tables e below (T553.setTop (mkF m 122 #[.val (.int p0), .val (.ref b1), .val (.int (1 : Int32)), .val (.ref x1), .val (.int (101 : Int32)), .unset] [])) _
      refine XS.iconst X553.here hx rfl (hb hby at_122) ?_
      show Steps p.tables e below (T553.setTop (mkF m 123 #[.val (.int p0), .val (.ref b1), .val (.int (1 : Int32)), .val (.ref x1), .val (.int (101 : Int32)), .unset] [(.int (0 : Int32))])) _
      refine XS.istore X553.here hx rfl (hb hby at_123) rfl (l' := #[.val (.int p0), .val (.ref b1), .val (.int (1 : Int32)), .val (.ref x1), .val (.int (101 : Int32)), .val (.int (0 : Int32))]) rfl ?_
      show Steps p.tables e below (T553.setTop (mkF m 125 #[.val (.int p0), .val (.ref b1), .val (.int (1 : Int32)), .val (.ref x1), .val (.int (101 : Int32)), .val (.int (0 : Int32))] [])) _
      refine XS.aloadN X553.here hx rfl (hb hby at_125) rfl rfl ?_
      show Steps p.tables e below (T553.setTop (mkF m 126 #[.val (.int p0), .val (.ref b1), .val (.int (1 : Int32)), .val (.ref x1), .val (.int (101 : Int32)), .val (.int (0 : Int32))] [(.ref x1)])) _
      refine st555.trans ?_
      show Steps p.tables e below (T555.setTop (mkF m 129 #[.val (.int p0), .val (.ref b1), .val (.int (1 : Int32)), .val (.ref x1), .val (.int (101 : Int32)), .val (.int (0 : Int32))] [(.int (0 : Int32))])) _
      refine XS.iload X555.here hx rfl (hb hby at_129) rfl ?_
      show Steps p.tables e below (T555.setTop (mkF m 131 #[.val (.int p0), .val (.ref b1), .val (.int (1 : Int32)), .val (.ref x1), .val (.int (101 : Int32)), .val (.int (0 : Int32))] [(.int (0 : Int32)), (.int (0 : Int32))])) _
      refine XS.icmpNo X555.here hx rfl (hb hby at_131) rfl (teq (by decide : (0 : Int32) = (0 : Int32))).2 ?_
      show Steps p.tables e below (T555.setTop (mkF m 134 #[.val (.int p0), .val (.ref b1), .val (.int (1 : Int32)), .val (.ref x1), .val (.int (101 : Int32)), .val (.int (0 : Int32))] [])) _
      refine XS.iconst X555.here hx rfl (hb hby at_134) ?_
      show Steps p.tables e below (T555.setTop (mkF m 135 #[.val (.int p0), .val (.ref b1), .val (.int (1 : Int32)), .val (.ref x1), .val (.int (101 : Int32)), .val (.int (0 : Int32))] [(.int (1 : Int32))])) _
      refine XS.goto X555.here hx rfl (pc0 := 135) (pc' := 139) rfl (hb hby at_135) (by decide) (by decide) ?_
      show Steps p.tables e below (T555.setTop (mkF m 139 #[.val (.int p0), .val (.ref b1), .val (.int (1 : Int32)), .val (.ref x1), .val (.int (101 : Int32)), .val (.int (0 : Int32))] [(.int (1 : Int32))])) _
      exact retN X555 hx (t := .boolean) Bd.returns (by simp) (hb hby at_139) hr
    · show Q0 Z p0 x0 x1 x2 x3 x4 x5 x6 x7 x8 x9 x10 x11 h0 n0 _ T555.heap _
      rw [R558]
      exact ⟨rfl, N555⟩
  · obtain ⟨co559, Ao559, qo559, So559, Mo559, Bo559, Go559⟩ := id V504
    obtain ⟨cq560, kq560, q560a, q560b, q560c⟩ := isOf hZ e504 F519
    obtain ⟨_, _, ⟨T560, L560, k560, n560⟩, -, X560, ⟨Lc560, hQ560, l560, y560, z560⟩, st560⟩ := X504.virtualBack hx (y := (⟨"com/example/notifiable/notifiable/conformance/ErrorCode", "code", "()I"⟩ : MethodName)) (z := (⟨"com/example/notifiable/notifiable/conformance/ErrorCode", "code", "()I"⟩ : MethodName)) hown (mvT hZ (hw _ (List.mem_of_getElem? (i := 29) rfl))) (mvT hZ (hw _ (List.mem_of_getElem? (i := 30) rfl))) (notFace_of_selects (args := #[]) (mvT hZ (hw _ (List.mem_of_getElem? (i := 32) rfl)))) (mvT hZ (hw _ (List.mem_of_getElem? (i := 32) rfl))) (mvT hZ (hw _ (List.mem_of_getElem? (i := 31) rfl))) (by decide) (backOf (W := 0) (rm1 l Z a0 hw [] x2 (102 : Int32) h504 n0 Z541 F531) hZ (hw _ (List.mem_of_getElem? (i := 33) rfl)) (hw _ (List.mem_of_getElem? (i := 3) rfl)) (by decide) (by decide)) q560a q560c (g := (mkF m 97 #[.val (.int p0), .val (.ref b1), .val (.int (2 : Int32)), .val (.ref x2), .unset, .unset] [(.ref x2)])) rfl (by rw [hml]; rfl) (Steps.refl _) (argsL := []) (rest := []) (lenOf pd_0 rfl) rfl (by show 2 * 0 + _ ≤ _; exact Nat.le_of_eq rfl) (hb hby at_97) (fun _ _ => ⟨rfl, e504, (by decide : 1 + 0 ≤ _), (by decide : 12 + 0 ≤ _)⟩)
    dsimp only [Pt.U, Pt.locs, Pt.cells, Pt.slots] at X560 l560 y560 z560 st560 hQ560
    subst l560 y560 z560
    obtain ⟨rfl, N560q, R561⟩ := hQ560
    have N560 := Fr.app N542 N560q
    obtain ⟨cq562, kq562, q562a, q562b, q562c⟩ := isOf hZ R561 F519
    obtain ⟨_, _, ⟨T562, L562, k562, n562⟩, -, X562, ⟨Lc562, hQ562, l562, y562, z562⟩, st562⟩ := X560.virtualBack hx (y := (⟨"com/example/notifiable/notifiable/conformance/ErrorCode", "rejects", "()Z"⟩ : MethodName)) (z := (⟨"com/example/notifiable/notifiable/conformance/ErrorCode", "rejects", "()Z"⟩ : MethodName)) hown (mvT hZ (hw _ (List.mem_of_getElem? (i := 36) rfl))) (mvT hZ (hw _ (List.mem_of_getElem? (i := 37) rfl))) (notFace_of_selects (args := #[]) (mvT hZ (hw _ (List.mem_of_getElem? (i := 39) rfl)))) (mvT hZ (hw _ (List.mem_of_getElem? (i := 39) rfl))) (mvT hZ (hw _ (List.mem_of_getElem? (i := 38) rfl))) (by decide) (backOf (W := 0) (rm2 l Z a0 hw [] x2 x4 x5 x6 x7 h504 n0 Z541 F509 F510 F511 F512) hZ (hw _ (List.mem_of_getElem? (i := 40) rfl)) (hw _ (List.mem_of_getElem? (i := 3) rfl)) (by decide) (by decide)) q562a q562c (g := (mkF m 126 #[.val (.int p0), .val (.ref b1), .val (.int (2 : Int32)), .val (.ref x2), .val (.int (102 : Int32)), .val (.int (0 : Int32))] [(.ref x2)])) rfl (by rw [hml]; rfl) (Steps.refl _) (argsL := []) (rest := []) (lenOf pd_1 rfl) rfl (by show 2 * 0 + _ ≤ _; exact Nat.le_of_eq rfl) (hb hby at_126) (fun _ _ => ⟨rfl, R561, (by decide : 1 + 0 ≤ _), (by decide : 12 + 0 ≤ _)⟩)
    dsimp only [Pt.U, Pt.locs, Pt.cells, Pt.slots] at X562 l562 y562 z562 st562 hQ562
    subst l562 y562 z562
    obtain ⟨r563, rfl, N562q, R564, R565⟩ := hQ562
    have N562 := Fr.app N560 N562q
    have hr : r563 = 0 := by
      rcases R564 with ⟨h, -⟩ | ⟨-, h⟩
      · exact absurd h (fun q => q.elim (F531.ne F533 (by decide)) (fun q => q.elim (F531.ne F534 (by decide)) (fun q => q.elim (F531.ne F535 (by decide)) (F531.ne F536 (by decide)))))
      · exact h
    subst hr
    obtain ⟨fs, hr, hrun, hended, hW, hsame⟩ := X562.leave (v := some (.int (1 : Int32))) (fun h => by rw [Bd.returns] at h; cases h)
    refine ⟨_, _, P544 _ ?_, hrun, hended, _, _, rfl, ?_, ⟨_, rfl⟩, hW, hsame.mono (by decide) (by decide)⟩
    · show Steps p.tables e below (T504.setTop (mkF m 92 #[.val (.int p0), .val (.ref b1), .val (.int (2 : Int32)), .unset, .unset, .unset] [])) _
      refine XS.aloadN X504.here hx rfl (hb hby at_92) rfl rfl ?_
      show Steps p.tables e below (T504.setTop (mkF m 93 #[.val (.int p0), .val (.ref b1), .val (.int (2 : Int32)), .unset, .unset, .unset] [(.ref b1)])) _
      refine XS.iloadN X504.here hx rfl (hb hby at_93) rfl ?_
      show Steps p.tables e below (T504.setTop (mkF m 94 #[.val (.int p0), .val (.ref b1), .val (.int (2 : Int32)), .unset, .unset, .unset] [(.int (2 : Int32)), (.ref b1)])) _
      refine X504.aaload hx (j := (2 : Int32)) (v := (.ref x2)) (by rw [e504]; exact Ao559.1) (State.isArrayOf_alike hZ.alike Ao559.2.1) rfl Ao559.2.2 (inb_of So559 ⟨(by decide), (by decide)⟩) (Has.at Bo559 (inb_of So559 ⟨(by decide), (by decide)⟩) rfl) (g := (mkF m 94 #[.val (.int p0), .val (.ref b1), .val (.int (2 : Int32)), .unset, .unset, .unset] [(.int (2 : Int32)), (.ref b1)])) rfl rfl (hb hby at_94) _ ?_
      show Steps p.tables e below (T504.setTop (mkF m 95 #[.val (.int p0), .val (.ref b1), .val (.int (2 : Int32)), .unset, .unset, .unset] [(.ref x2)])) _
      refine XS.astoreN X504.here hx rfl (hb hby at_95) rfl rfl (l' := #[.val (.int p0), .val (.ref b1), .val (.int (2 : Int32)), .val (.ref x2), .unset, .unset]) rfl ?_
      show Steps p.tables e below (T504.setTop (mkF m 96 #[.val (.int p0), .val (.ref b1), .val (.int (2 : Int32)), .val (.ref x2), .unset, .unset] [])) _
      refine XS.aloadN X504.here hx rfl (hb hby at_96) rfl rfl ?_
      show Steps p.tables e below (T504.setTop (mkF m 97 #[.val (.int p0), .val (.ref b1), .val (.int (2 : Int32)), .val (.ref x2), .unset, .unset] [(.ref x2)])) _
      refine st560.trans ?_
      show Steps p.tables e below (T560.setTop (mkF m 100 #[.val (.int p0), .val (.ref b1), .val (.int (2 : Int32)), .val (.ref x2), .unset, .unset] [(.int (102 : Int32))])) _
      refine XS.istore X560.here hx rfl (hb hby at_100) rfl (l' := #[.val (.int p0), .val (.ref b1), .val (.int (2 : Int32)), .val (.ref x2), .val (.int (102 : Int32)), .unset]) rfl ?_
      show Steps p.tables e below (T560.setTop (mkF m 102 #[.val (.int p0), .val (.ref b1), .val (.int (2 : Int32)), .val (.ref x2), .val (.int (102 : Int32)), .unset] [])) _
      refine XS.iload X560.here hx rfl (hb hby at_102) rfl ?_
      show Steps p.tables e below (T560.setTop (mkF m 104 #[.val (.int p0), .val (.ref b1), .val (.int (2 : Int32)), .val (.ref x2), .val (.int (102 : Int32)), .unset] [(.int (102 : Int32))])) _
      refine XS.sipush X560.here hx rfl (hb hby at_104) ?_
      show Steps p.tables e below (T560.setTop (mkF m 107 #[.val (.int p0), .val (.ref b1), .val (.int (2 : Int32)), .val (.ref x2), .val (.int (102 : Int32)), .unset] [(.int (200 : Int32)), (.int (102 : Int32))])) _
      refine XS.icmpYes X560.here hx rfl (pc0 := 107) (pc' := 122) rfl (hb hby at_107) rfl (tlt (by decide : (102 : Int32) < (200 : Int32))).1 (by decide) (by decide) ?_
      show Steps p.tables e below (T560.setTop (mkF m 122 #[.val (.int p0), .val (.ref b1), .val (.int (2 : Int32)), .val (.ref x2), .val (.int (102 : Int32)), .unset] [])) _
      refine XS.iconst X560.here hx rfl (hb hby at_122) ?_
      show Steps p.tables e below (T560.setTop (mkF m 123 #[.val (.int p0), .val (.ref b1), .val (.int (2 : Int32)), .val (.ref x2), .val (.int (102 : Int32)), .unset] [(.int (0 : Int32))])) _
      refine XS.istore X560.here hx rfl (hb hby at_123) rfl (l' := #[.val (.int p0), .val (.ref b1), .val (.int (2 : Int32)), .val (.ref x2), .val (.int (102 : Int32)), .val (.int (0 : Int32))]) rfl ?_
      show Steps p.tables e below (T560.setTop (mkF m 125 #[.val (.int p0), .val (.ref b1), .val (.int (2 : Int32)), .val (.ref x2), .val (.int (102 : Int32)), .val (.int (0 : Int32))] [])) _
      refine XS.aloadN X560.here hx rfl (hb hby at_125) rfl rfl ?_
      show Steps p.tables e below (T560.setTop (mkF m 126 #[.val (.int p0), .val (.ref b1), .val (.int (2 : Int32)), .val (.ref x2), .val (.int (102 : Int32)), .val (.int (0 : Int32))] [(.ref x2)])) _
      refine st562.trans ?_
      show Steps p.tables e below (T562.setTop (mkF m 129 #[.val (.int p0), .val (.ref b1), .val (.int (2 : Int32)), .val (.ref x2), .val (.int (102 : Int32)), .val (.int (0 : Int32))] [(.int (0 : Int32))])) _
      refine XS.iload X562.here hx rfl (hb hby at_129) rfl ?_
      show Steps p.tables e below (T562.setTop (mkF m 131 #[.val (.int p0), .val (.ref b1), .val (.int (2 : Int32)), .val (.ref x2), .val (.int (102 : Int32)), .val (.int (0 : Int32))] [(.int (0 : Int32)), (.int (0 : Int32))])) _
      refine XS.icmpNo X562.here hx rfl (hb hby at_131) rfl (teq (by decide : (0 : Int32) = (0 : Int32))).2 ?_
      show Steps p.tables e below (T562.setTop (mkF m 134 #[.val (.int p0), .val (.ref b1), .val (.int (2 : Int32)), .val (.ref x2), .val (.int (102 : Int32)), .val (.int (0 : Int32))] [])) _
      refine XS.iconst X562.here hx rfl (hb hby at_134) ?_
      show Steps p.tables e below (T562.setTop (mkF m 135 #[.val (.int p0), .val (.ref b1), .val (.int (2 : Int32)), .val (.ref x2), .val (.int (102 : Int32)), .val (.int (0 : Int32))] [(.int (1 : Int32))])) _
      refine XS.goto X562.here hx rfl (pc0 := 135) (pc' := 139) rfl (hb hby at_135) (by decide) (by decide) ?_
      show Steps p.tables e below (T562.setTop (mkF m 139 #[.val (.int p0), .val (.ref b1), .val (.int (2 : Int32)), .val (.ref x2), .val (.int (102 : Int32)), .val (.int (0 : Int32))] [(.int (1 : Int32))])) _
      exact retN X562 hx (t := .boolean) Bd.returns (by simp) (hb hby at_139) hr
    · show Q0 Z p0 x0 x1 x2 x3 x4 x5 x6 x7 x8 x9 x10 x11 h0 n0 _ T562.heap _
      rw [R565]
      exact ⟨rfl, N562⟩
  · obtain ⟨co566, Ao566, qo566, So566, Mo566, Bo566, Go566⟩ := id V504
    obtain ⟨cq567, kq567, q567a, q567b, q567c⟩ := isOf hZ e504 F520
    obtain ⟨_, _, ⟨T567, L567, k567, n567⟩, -, X567, ⟨Lc567, hQ567, l567, y567, z567⟩, st567⟩ := X504.virtualBack hx (y := (⟨"com/example/notifiable/notifiable/conformance/ErrorCode", "code", "()I"⟩ : MethodName)) (z := (⟨"com/example/notifiable/notifiable/conformance/ErrorCode", "code", "()I"⟩ : MethodName)) hown (mvT hZ (hw _ (List.mem_of_getElem? (i := 29) rfl))) (mvT hZ (hw _ (List.mem_of_getElem? (i := 30) rfl))) (notFace_of_selects (args := #[]) (mvT hZ (hw _ (List.mem_of_getElem? (i := 32) rfl)))) (mvT hZ (hw _ (List.mem_of_getElem? (i := 32) rfl))) (mvT hZ (hw _ (List.mem_of_getElem? (i := 31) rfl))) (by decide) (backOf (W := 0) (rm1 l Z a0 hw [] x3 (103 : Int32) h504 n0 Z541 F532) hZ (hw _ (List.mem_of_getElem? (i := 33) rfl)) (hw _ (List.mem_of_getElem? (i := 3) rfl)) (by decide) (by decide)) q567a q567c (g := (mkF m 97 #[.val (.int p0), .val (.ref b1), .val (.int (3 : Int32)), .val (.ref x3), .unset, .unset] [(.ref x3)])) rfl (by rw [hml]; rfl) (Steps.refl _) (argsL := []) (rest := []) (lenOf pd_0 rfl) rfl (by show 2 * 0 + _ ≤ _; exact Nat.le_of_eq rfl) (hb hby at_97) (fun _ _ => ⟨rfl, e504, (by decide : 1 + 0 ≤ _), (by decide : 12 + 0 ≤ _)⟩)
    dsimp only [Pt.U, Pt.locs, Pt.cells, Pt.slots] at X567 l567 y567 z567 st567 hQ567
    subst l567 y567 z567
    obtain ⟨rfl, N567q, R568⟩ := hQ567
    have N567 := Fr.app N542 N567q
    obtain ⟨cq569, kq569, q569a, q569b, q569c⟩ := isOf hZ R568 F520
    obtain ⟨_, _, ⟨T569, L569, k569, n569⟩, -, X569, ⟨Lc569, hQ569, l569, y569, z569⟩, st569⟩ := X567.virtualBack hx (y := (⟨"com/example/notifiable/notifiable/conformance/ErrorCode", "rejects", "()Z"⟩ : MethodName)) (z := (⟨"com/example/notifiable/notifiable/conformance/ErrorCode", "rejects", "()Z"⟩ : MethodName)) hown (mvT hZ (hw _ (List.mem_of_getElem? (i := 36) rfl))) (mvT hZ (hw _ (List.mem_of_getElem? (i := 37) rfl))) (notFace_of_selects (args := #[]) (mvT hZ (hw _ (List.mem_of_getElem? (i := 39) rfl)))) (mvT hZ (hw _ (List.mem_of_getElem? (i := 39) rfl))) (mvT hZ (hw _ (List.mem_of_getElem? (i := 38) rfl))) (by decide) (backOf (W := 0) (rm2 l Z a0 hw [] x3 x4 x5 x6 x7 h504 n0 Z541 F509 F510 F511 F512) hZ (hw _ (List.mem_of_getElem? (i := 40) rfl)) (hw _ (List.mem_of_getElem? (i := 3) rfl)) (by decide) (by decide)) q569a q569c (g := (mkF m 126 #[.val (.int p0), .val (.ref b1), .val (.int (3 : Int32)), .val (.ref x3), .val (.int (103 : Int32)), .val (.int (0 : Int32))] [(.ref x3)])) rfl (by rw [hml]; rfl) (Steps.refl _) (argsL := []) (rest := []) (lenOf pd_1 rfl) rfl (by show 2 * 0 + _ ≤ _; exact Nat.le_of_eq rfl) (hb hby at_126) (fun _ _ => ⟨rfl, R568, (by decide : 1 + 0 ≤ _), (by decide : 12 + 0 ≤ _)⟩)
    dsimp only [Pt.U, Pt.locs, Pt.cells, Pt.slots] at X569 l569 y569 z569 st569 hQ569
    subst l569 y569 z569
    obtain ⟨r570, rfl, N569q, R571, R572⟩ := hQ569
    have N569 := Fr.app N567 N569q
    have hr : r570 = 0 := by
      rcases R571 with ⟨h, -⟩ | ⟨-, h⟩
      · exact absurd h (fun q => q.elim (F532.ne F533 (by decide)) (fun q => q.elim (F532.ne F534 (by decide)) (fun q => q.elim (F532.ne F535 (by decide)) (F532.ne F536 (by decide)))))
      · exact h
    subst hr
    obtain ⟨fs, hr, hrun, hended, hW, hsame⟩ := X569.leave (v := some (.int (1 : Int32))) (fun h => by rw [Bd.returns] at h; cases h)
    refine ⟨_, _, P544 _ ?_, hrun, hended, _, _, rfl, ?_, ⟨_, rfl⟩, hW, hsame.mono (by decide) (by decide)⟩
    · show Steps p.tables e below (T504.setTop (mkF m 92 #[.val (.int p0), .val (.ref b1), .val (.int (3 : Int32)), .unset, .unset, .unset] [])) _
      refine XS.aloadN X504.here hx rfl (hb hby at_92) rfl rfl ?_
      show Steps p.tables e below (T504.setTop (mkF m 93 #[.val (.int p0), .val (.ref b1), .val (.int (3 : Int32)), .unset, .unset, .unset] [(.ref b1)])) _
      refine XS.iloadN X504.here hx rfl (hb hby at_93) rfl ?_
      show Steps p.tables e below (T504.setTop (mkF m 94 #[.val (.int p0), .val (.ref b1), .val (.int (3 : Int32)), .unset, .unset, .unset] [(.int (3 : Int32)), (.ref b1)])) _
      refine X504.aaload hx (j := (3 : Int32)) (v := (.ref x3)) (by rw [e504]; exact Ao566.1) (State.isArrayOf_alike hZ.alike Ao566.2.1) rfl Ao566.2.2 (inb_of So566 ⟨(by decide), (by decide)⟩) (Has.at Bo566 (inb_of So566 ⟨(by decide), (by decide)⟩) rfl) (g := (mkF m 94 #[.val (.int p0), .val (.ref b1), .val (.int (3 : Int32)), .unset, .unset, .unset] [(.int (3 : Int32)), (.ref b1)])) rfl rfl (hb hby at_94) _ ?_
      show Steps p.tables e below (T504.setTop (mkF m 95 #[.val (.int p0), .val (.ref b1), .val (.int (3 : Int32)), .unset, .unset, .unset] [(.ref x3)])) _
      refine XS.astoreN X504.here hx rfl (hb hby at_95) rfl rfl (l' := #[.val (.int p0), .val (.ref b1), .val (.int (3 : Int32)), .val (.ref x3), .unset, .unset]) rfl ?_
      show Steps p.tables e below (T504.setTop (mkF m 96 #[.val (.int p0), .val (.ref b1), .val (.int (3 : Int32)), .val (.ref x3), .unset, .unset] [])) _
      refine XS.aloadN X504.here hx rfl (hb hby at_96) rfl rfl ?_
      show Steps p.tables e below (T504.setTop (mkF m 97 #[.val (.int p0), .val (.ref b1), .val (.int (3 : Int32)), .val (.ref x3), .unset, .unset] [(.ref x3)])) _
      refine st567.trans ?_
      show Steps p.tables e below (T567.setTop (mkF m 100 #[.val (.int p0), .val (.ref b1), .val (.int (3 : Int32)), .val (.ref x3), .unset, .unset] [(.int (103 : Int32))])) _
      refine XS.istore X567.here hx rfl (hb hby at_100) rfl (l' := #[.val (.int p0), .val (.ref b1), .val (.int (3 : Int32)), .val (.ref x3), .val (.int (103 : Int32)), .unset]) rfl ?_
      show Steps p.tables e below (T567.setTop (mkF m 102 #[.val (.int p0), .val (.ref b1), .val (.int (3 : Int32)), .val (.ref x3), .val (.int (103 : Int32)), .unset] [])) _
      refine XS.iload X567.here hx rfl (hb hby at_102) rfl ?_
      show Steps p.tables e below (T567.setTop (mkF m 104 #[.val (.int p0), .val (.ref b1), .val (.int (3 : Int32)), .val (.ref x3), .val (.int (103 : Int32)), .unset] [(.int (103 : Int32))])) _
      refine XS.sipush X567.here hx rfl (hb hby at_104) ?_
      show Steps p.tables e below (T567.setTop (mkF m 107 #[.val (.int p0), .val (.ref b1), .val (.int (3 : Int32)), .val (.ref x3), .val (.int (103 : Int32)), .unset] [(.int (200 : Int32)), (.int (103 : Int32))])) _
      refine XS.icmpYes X567.here hx rfl (pc0 := 107) (pc' := 122) rfl (hb hby at_107) rfl (tlt (by decide : (103 : Int32) < (200 : Int32))).1 (by decide) (by decide) ?_
      show Steps p.tables e below (T567.setTop (mkF m 122 #[.val (.int p0), .val (.ref b1), .val (.int (3 : Int32)), .val (.ref x3), .val (.int (103 : Int32)), .unset] [])) _
      refine XS.iconst X567.here hx rfl (hb hby at_122) ?_
      show Steps p.tables e below (T567.setTop (mkF m 123 #[.val (.int p0), .val (.ref b1), .val (.int (3 : Int32)), .val (.ref x3), .val (.int (103 : Int32)), .unset] [(.int (0 : Int32))])) _
      refine XS.istore X567.here hx rfl (hb hby at_123) rfl (l' := #[.val (.int p0), .val (.ref b1), .val (.int (3 : Int32)), .val (.ref x3), .val (.int (103 : Int32)), .val (.int (0 : Int32))]) rfl ?_
      show Steps p.tables e below (T567.setTop (mkF m 125 #[.val (.int p0), .val (.ref b1), .val (.int (3 : Int32)), .val (.ref x3), .val (.int (103 : Int32)), .val (.int (0 : Int32))] [])) _
      refine XS.aloadN X567.here hx rfl (hb hby at_125) rfl rfl ?_
      show Steps p.tables e below (T567.setTop (mkF m 126 #[.val (.int p0), .val (.ref b1), .val (.int (3 : Int32)), .val (.ref x3), .val (.int (103 : Int32)), .val (.int (0 : Int32))] [(.ref x3)])) _
      refine st569.trans ?_
      show Steps p.tables e below (T569.setTop (mkF m 129 #[.val (.int p0), .val (.ref b1), .val (.int (3 : Int32)), .val (.ref x3), .val (.int (103 : Int32)), .val (.int (0 : Int32))] [(.int (0 : Int32))])) _
      refine XS.iload X569.here hx rfl (hb hby at_129) rfl ?_
      show Steps p.tables e below (T569.setTop (mkF m 131 #[.val (.int p0), .val (.ref b1), .val (.int (3 : Int32)), .val (.ref x3), .val (.int (103 : Int32)), .val (.int (0 : Int32))] [(.int (0 : Int32)), (.int (0 : Int32))])) _
      refine XS.icmpNo X569.here hx rfl (hb hby at_131) rfl (teq (by decide : (0 : Int32) = (0 : Int32))).2 ?_
      show Steps p.tables e below (T569.setTop (mkF m 134 #[.val (.int p0), .val (.ref b1), .val (.int (3 : Int32)), .val (.ref x3), .val (.int (103 : Int32)), .val (.int (0 : Int32))] [])) _
      refine XS.iconst X569.here hx rfl (hb hby at_134) ?_
      show Steps p.tables e below (T569.setTop (mkF m 135 #[.val (.int p0), .val (.ref b1), .val (.int (3 : Int32)), .val (.ref x3), .val (.int (103 : Int32)), .val (.int (0 : Int32))] [(.int (1 : Int32))])) _
      refine XS.goto X569.here hx rfl (pc0 := 135) (pc' := 139) rfl (hb hby at_135) (by decide) (by decide) ?_
      show Steps p.tables e below (T569.setTop (mkF m 139 #[.val (.int p0), .val (.ref b1), .val (.int (3 : Int32)), .val (.ref x3), .val (.int (103 : Int32)), .val (.int (0 : Int32))] [(.int (1 : Int32))])) _
      exact retN X569 hx (t := .boolean) Bd.returns (by simp) (hb hby at_139) hr
    · show Q0 Z p0 x0 x1 x2 x3 x4 x5 x6 x7 x8 x9 x10 x11 h0 n0 _ T569.heap _
      rw [R572]
      exact ⟨rfl, N569⟩
  · obtain ⟨co573, Ao573, qo573, So573, Mo573, Bo573, Go573⟩ := id V504
    obtain ⟨cq574, kq574, q574a, q574b, q574c⟩ := isOf hZ e504 F521
    obtain ⟨_, _, ⟨T574, L574, k574, n574⟩, -, X574, ⟨Lc574, hQ574, l574, y574, z574⟩, st574⟩ := X504.virtualBack hx (y := (⟨"com/example/notifiable/notifiable/conformance/ErrorCode", "code", "()I"⟩ : MethodName)) (z := (⟨"com/example/notifiable/notifiable/conformance/ErrorCode", "code", "()I"⟩ : MethodName)) hown (mvT hZ (hw _ (List.mem_of_getElem? (i := 29) rfl))) (mvT hZ (hw _ (List.mem_of_getElem? (i := 30) rfl))) (notFace_of_selects (args := #[]) (mvT hZ (hw _ (List.mem_of_getElem? (i := 32) rfl)))) (mvT hZ (hw _ (List.mem_of_getElem? (i := 32) rfl))) (mvT hZ (hw _ (List.mem_of_getElem? (i := 31) rfl))) (by decide) (backOf (W := 0) (rm1 l Z a0 hw [] x4 (200 : Int32) h504 n0 Z541 F533) hZ (hw _ (List.mem_of_getElem? (i := 33) rfl)) (hw _ (List.mem_of_getElem? (i := 3) rfl)) (by decide) (by decide)) q574a q574c (g := (mkF m 97 #[.val (.int p0), .val (.ref b1), .val (.int (4 : Int32)), .val (.ref x4), .unset, .unset] [(.ref x4)])) rfl (by rw [hml]; rfl) (Steps.refl _) (argsL := []) (rest := []) (lenOf pd_0 rfl) rfl (by show 2 * 0 + _ ≤ _; exact Nat.le_of_eq rfl) (hb hby at_97) (fun _ _ => ⟨rfl, e504, (by decide : 1 + 0 ≤ _), (by decide : 12 + 0 ≤ _)⟩)
    dsimp only [Pt.U, Pt.locs, Pt.cells, Pt.slots] at X574 l574 y574 z574 st574 hQ574
    subst l574 y574 z574
    obtain ⟨rfl, N574q, R575⟩ := hQ574
    have N574 := Fr.app N542 N574q
    obtain ⟨cq576, kq576, q576a, q576b, q576c⟩ := isOf hZ R575 F521
    obtain ⟨_, _, ⟨T576, L576, k576, n576⟩, -, X576, ⟨Lc576, hQ576, l576, y576, z576⟩, st576⟩ := X574.virtualBack hx (y := (⟨"com/example/notifiable/notifiable/conformance/ErrorCode", "rejects", "()Z"⟩ : MethodName)) (z := (⟨"com/example/notifiable/notifiable/conformance/ErrorCode", "rejects", "()Z"⟩ : MethodName)) hown (mvT hZ (hw _ (List.mem_of_getElem? (i := 36) rfl))) (mvT hZ (hw _ (List.mem_of_getElem? (i := 37) rfl))) (notFace_of_selects (args := #[]) (mvT hZ (hw _ (List.mem_of_getElem? (i := 39) rfl)))) (mvT hZ (hw _ (List.mem_of_getElem? (i := 39) rfl))) (mvT hZ (hw _ (List.mem_of_getElem? (i := 38) rfl))) (by decide) (backOf (W := 0) (rm2 l Z a0 hw [] x4 x4 x5 x6 x7 h504 n0 Z541 F509 F510 F511 F512) hZ (hw _ (List.mem_of_getElem? (i := 40) rfl)) (hw _ (List.mem_of_getElem? (i := 3) rfl)) (by decide) (by decide)) q576a q576c (g := (mkF m 126 #[.val (.int p0), .val (.ref b1), .val (.int (4 : Int32)), .val (.ref x4), .val (.int (200 : Int32)), .val (.int (1 : Int32))] [(.ref x4)])) rfl (by rw [hml]; rfl) (Steps.refl _) (argsL := []) (rest := []) (lenOf pd_1 rfl) rfl (by show 2 * 0 + _ ≤ _; exact Nat.le_of_eq rfl) (hb hby at_126) (fun _ _ => ⟨rfl, R575, (by decide : 1 + 0 ≤ _), (by decide : 12 + 0 ≤ _)⟩)
    dsimp only [Pt.U, Pt.locs, Pt.cells, Pt.slots] at X576 l576 y576 z576 st576 hQ576
    subst l576 y576 z576
    obtain ⟨r577, rfl, N576q, R578, R579⟩ := hQ576
    have N576 := Fr.app N574 N576q
    have hr : r577 = 1 := by
      rcases R578 with ⟨-, h⟩ | ⟨h, -⟩
      · exact h
      · exact absurd (Or.inl rfl) h
    subst hr
    obtain ⟨fs, hr, hrun, hended, hW, hsame⟩ := X576.leave (v := some (.int (1 : Int32))) (fun h => by rw [Bd.returns] at h; cases h)
    refine ⟨_, _, P544 _ ?_, hrun, hended, _, _, rfl, ?_, ⟨_, rfl⟩, hW, hsame.mono (by decide) (by decide)⟩
    · show Steps p.tables e below (T504.setTop (mkF m 92 #[.val (.int p0), .val (.ref b1), .val (.int (4 : Int32)), .unset, .unset, .unset] [])) _
      refine XS.aloadN X504.here hx rfl (hb hby at_92) rfl rfl ?_
      show Steps p.tables e below (T504.setTop (mkF m 93 #[.val (.int p0), .val (.ref b1), .val (.int (4 : Int32)), .unset, .unset, .unset] [(.ref b1)])) _
      refine XS.iloadN X504.here hx rfl (hb hby at_93) rfl ?_
      show Steps p.tables e below (T504.setTop (mkF m 94 #[.val (.int p0), .val (.ref b1), .val (.int (4 : Int32)), .unset, .unset, .unset] [(.int (4 : Int32)), (.ref b1)])) _
      refine X504.aaload hx (j := (4 : Int32)) (v := (.ref x4)) (by rw [e504]; exact Ao573.1) (State.isArrayOf_alike hZ.alike Ao573.2.1) rfl Ao573.2.2 (inb_of So573 ⟨(by decide), (by decide)⟩) (Has.at Bo573 (inb_of So573 ⟨(by decide), (by decide)⟩) rfl) (g := (mkF m 94 #[.val (.int p0), .val (.ref b1), .val (.int (4 : Int32)), .unset, .unset, .unset] [(.int (4 : Int32)), (.ref b1)])) rfl rfl (hb hby at_94) _ ?_
      show Steps p.tables e below (T504.setTop (mkF m 95 #[.val (.int p0), .val (.ref b1), .val (.int (4 : Int32)), .unset, .unset, .unset] [(.ref x4)])) _
      refine XS.astoreN X504.here hx rfl (hb hby at_95) rfl rfl (l' := #[.val (.int p0), .val (.ref b1), .val (.int (4 : Int32)), .val (.ref x4), .unset, .unset]) rfl ?_
      show Steps p.tables e below (T504.setTop (mkF m 96 #[.val (.int p0), .val (.ref b1), .val (.int (4 : Int32)), .val (.ref x4), .unset, .unset] [])) _
      refine XS.aloadN X504.here hx rfl (hb hby at_96) rfl rfl ?_
      show Steps p.tables e below (T504.setTop (mkF m 97 #[.val (.int p0), .val (.ref b1), .val (.int (4 : Int32)), .val (.ref x4), .unset, .unset] [(.ref x4)])) _
      refine st574.trans ?_
      show Steps p.tables e below (T574.setTop (mkF m 100 #[.val (.int p0), .val (.ref b1), .val (.int (4 : Int32)), .val (.ref x4), .unset, .unset] [(.int (200 : Int32))])) _
      refine XS.istore X574.here hx rfl (hb hby at_100) rfl (l' := #[.val (.int p0), .val (.ref b1), .val (.int (4 : Int32)), .val (.ref x4), .val (.int (200 : Int32)), .unset]) rfl ?_
      show Steps p.tables e below (T574.setTop (mkF m 102 #[.val (.int p0), .val (.ref b1), .val (.int (4 : Int32)), .val (.ref x4), .val (.int (200 : Int32)), .unset] [])) _
      refine XS.iload X574.here hx rfl (hb hby at_102) rfl ?_
      show Steps p.tables e below (T574.setTop (mkF m 104 #[.val (.int p0), .val (.ref b1), .val (.int (4 : Int32)), .val (.ref x4), .val (.int (200 : Int32)), .unset] [(.int (200 : Int32))])) _
      refine XS.sipush X574.here hx rfl (hb hby at_104) ?_
      show Steps p.tables e below (T574.setTop (mkF m 107 #[.val (.int p0), .val (.ref b1), .val (.int (4 : Int32)), .val (.ref x4), .val (.int (200 : Int32)), .unset] [(.int (200 : Int32)), (.int (200 : Int32))])) _
      refine XS.icmpNo X574.here hx rfl (hb hby at_107) rfl (flt (by decide : ¬ ((200 : Int32) < (200 : Int32)))).1 ?_
      show Steps p.tables e below (T574.setTop (mkF m 110 #[.val (.int p0), .val (.ref b1), .val (.int (4 : Int32)), .val (.ref x4), .val (.int (200 : Int32)), .unset] [])) _
      refine XS.iload X574.here hx rfl (hb hby at_110) rfl ?_
      show Steps p.tables e below (T574.setTop (mkF m 112 #[.val (.int p0), .val (.ref b1), .val (.int (4 : Int32)), .val (.ref x4), .val (.int (200 : Int32)), .unset] [(.int (200 : Int32))])) _
      refine XS.sipush X574.here hx rfl (hb hby at_112) ?_
      show Steps p.tables e below (T574.setTop (mkF m 115 #[.val (.int p0), .val (.ref b1), .val (.int (4 : Int32)), .val (.ref x4), .val (.int (200 : Int32)), .unset] [(.int (203 : Int32)), (.int (200 : Int32))])) _
      refine XS.icmpNo X574.here hx rfl (hb hby at_115) rfl (flt (by decide : ¬ ((203 : Int32) < (200 : Int32)))).2.2.1 ?_
      show Steps p.tables e below (T574.setTop (mkF m 118 #[.val (.int p0), .val (.ref b1), .val (.int (4 : Int32)), .val (.ref x4), .val (.int (200 : Int32)), .unset] [])) _
      refine XS.iconst X574.here hx rfl (hb hby at_118) ?_
      show Steps p.tables e below (T574.setTop (mkF m 119 #[.val (.int p0), .val (.ref b1), .val (.int (4 : Int32)), .val (.ref x4), .val (.int (200 : Int32)), .unset] [(.int (1 : Int32))])) _
      refine XS.goto X574.here hx rfl (pc0 := 119) (pc' := 123) rfl (hb hby at_119) (by decide) (by decide) ?_
      show Steps p.tables e below (T574.setTop (mkF m 123 #[.val (.int p0), .val (.ref b1), .val (.int (4 : Int32)), .val (.ref x4), .val (.int (200 : Int32)), .unset] [(.int (1 : Int32))])) _
      refine XS.istore X574.here hx rfl (hb hby at_123) rfl (l' := #[.val (.int p0), .val (.ref b1), .val (.int (4 : Int32)), .val (.ref x4), .val (.int (200 : Int32)), .val (.int (1 : Int32))]) rfl ?_
      show Steps p.tables e below (T574.setTop (mkF m 125 #[.val (.int p0), .val (.ref b1), .val (.int (4 : Int32)), .val (.ref x4), .val (.int (200 : Int32)), .val (.int (1 : Int32))] [])) _
      refine XS.aloadN X574.here hx rfl (hb hby at_125) rfl rfl ?_
      show Steps p.tables e below (T574.setTop (mkF m 126 #[.val (.int p0), .val (.ref b1), .val (.int (4 : Int32)), .val (.ref x4), .val (.int (200 : Int32)), .val (.int (1 : Int32))] [(.ref x4)])) _
      refine st576.trans ?_
      show Steps p.tables e below (T576.setTop (mkF m 129 #[.val (.int p0), .val (.ref b1), .val (.int (4 : Int32)), .val (.ref x4), .val (.int (200 : Int32)), .val (.int (1 : Int32))] [(.int (1 : Int32))])) _
      refine XS.iload X576.here hx rfl (hb hby at_129) rfl ?_
      show Steps p.tables e below (T576.setTop (mkF m 131 #[.val (.int p0), .val (.ref b1), .val (.int (4 : Int32)), .val (.ref x4), .val (.int (200 : Int32)), .val (.int (1 : Int32))] [(.int (1 : Int32)), (.int (1 : Int32))])) _
      refine XS.icmpNo X576.here hx rfl (hb hby at_131) rfl (teq (by decide : (1 : Int32) = (1 : Int32))).2 ?_
      show Steps p.tables e below (T576.setTop (mkF m 134 #[.val (.int p0), .val (.ref b1), .val (.int (4 : Int32)), .val (.ref x4), .val (.int (200 : Int32)), .val (.int (1 : Int32))] [])) _
      refine XS.iconst X576.here hx rfl (hb hby at_134) ?_
      show Steps p.tables e below (T576.setTop (mkF m 135 #[.val (.int p0), .val (.ref b1), .val (.int (4 : Int32)), .val (.ref x4), .val (.int (200 : Int32)), .val (.int (1 : Int32))] [(.int (1 : Int32))])) _
      refine XS.goto X576.here hx rfl (pc0 := 135) (pc' := 139) rfl (hb hby at_135) (by decide) (by decide) ?_
      show Steps p.tables e below (T576.setTop (mkF m 139 #[.val (.int p0), .val (.ref b1), .val (.int (4 : Int32)), .val (.ref x4), .val (.int (200 : Int32)), .val (.int (1 : Int32))] [(.int (1 : Int32))])) _
      exact retN X576 hx (t := .boolean) Bd.returns (by simp) (hb hby at_139) hr
    · show Q0 Z p0 x0 x1 x2 x3 x4 x5 x6 x7 x8 x9 x10 x11 h0 n0 _ T576.heap _
      rw [R579]
      exact ⟨rfl, N576⟩
  · obtain ⟨co580, Ao580, qo580, So580, Mo580, Bo580, Go580⟩ := id V504
    obtain ⟨cq581, kq581, q581a, q581b, q581c⟩ := isOf hZ e504 F522
    obtain ⟨_, _, ⟨T581, L581, k581, n581⟩, -, X581, ⟨Lc581, hQ581, l581, y581, z581⟩, st581⟩ := X504.virtualBack hx (y := (⟨"com/example/notifiable/notifiable/conformance/ErrorCode", "code", "()I"⟩ : MethodName)) (z := (⟨"com/example/notifiable/notifiable/conformance/ErrorCode", "code", "()I"⟩ : MethodName)) hown (mvT hZ (hw _ (List.mem_of_getElem? (i := 29) rfl))) (mvT hZ (hw _ (List.mem_of_getElem? (i := 30) rfl))) (notFace_of_selects (args := #[]) (mvT hZ (hw _ (List.mem_of_getElem? (i := 32) rfl)))) (mvT hZ (hw _ (List.mem_of_getElem? (i := 32) rfl))) (mvT hZ (hw _ (List.mem_of_getElem? (i := 31) rfl))) (by decide) (backOf (W := 0) (rm1 l Z a0 hw [] x5 (201 : Int32) h504 n0 Z541 F534) hZ (hw _ (List.mem_of_getElem? (i := 33) rfl)) (hw _ (List.mem_of_getElem? (i := 3) rfl)) (by decide) (by decide)) q581a q581c (g := (mkF m 97 #[.val (.int p0), .val (.ref b1), .val (.int (5 : Int32)), .val (.ref x5), .unset, .unset] [(.ref x5)])) rfl (by rw [hml]; rfl) (Steps.refl _) (argsL := []) (rest := []) (lenOf pd_0 rfl) rfl (by show 2 * 0 + _ ≤ _; exact Nat.le_of_eq rfl) (hb hby at_97) (fun _ _ => ⟨rfl, e504, (by decide : 1 + 0 ≤ _), (by decide : 12 + 0 ≤ _)⟩)
    dsimp only [Pt.U, Pt.locs, Pt.cells, Pt.slots] at X581 l581 y581 z581 st581 hQ581
    subst l581 y581 z581
    obtain ⟨rfl, N581q, R582⟩ := hQ581
    have N581 := Fr.app N542 N581q
    obtain ⟨cq583, kq583, q583a, q583b, q583c⟩ := isOf hZ R582 F522
    obtain ⟨_, _, ⟨T583, L583, k583, n583⟩, -, X583, ⟨Lc583, hQ583, l583, y583, z583⟩, st583⟩ := X581.virtualBack hx (y := (⟨"com/example/notifiable/notifiable/conformance/ErrorCode", "rejects", "()Z"⟩ : MethodName)) (z := (⟨"com/example/notifiable/notifiable/conformance/ErrorCode", "rejects", "()Z"⟩ : MethodName)) hown (mvT hZ (hw _ (List.mem_of_getElem? (i := 36) rfl))) (mvT hZ (hw _ (List.mem_of_getElem? (i := 37) rfl))) (notFace_of_selects (args := #[]) (mvT hZ (hw _ (List.mem_of_getElem? (i := 39) rfl)))) (mvT hZ (hw _ (List.mem_of_getElem? (i := 39) rfl))) (mvT hZ (hw _ (List.mem_of_getElem? (i := 38) rfl))) (by decide) (backOf (W := 0) (rm2 l Z a0 hw [] x5 x4 x5 x6 x7 h504 n0 Z541 F509 F510 F511 F512) hZ (hw _ (List.mem_of_getElem? (i := 40) rfl)) (hw _ (List.mem_of_getElem? (i := 3) rfl)) (by decide) (by decide)) q583a q583c (g := (mkF m 126 #[.val (.int p0), .val (.ref b1), .val (.int (5 : Int32)), .val (.ref x5), .val (.int (201 : Int32)), .val (.int (1 : Int32))] [(.ref x5)])) rfl (by rw [hml]; rfl) (Steps.refl _) (argsL := []) (rest := []) (lenOf pd_1 rfl) rfl (by show 2 * 0 + _ ≤ _; exact Nat.le_of_eq rfl) (hb hby at_126) (fun _ _ => ⟨rfl, R582, (by decide : 1 + 0 ≤ _), (by decide : 12 + 0 ≤ _)⟩)
    dsimp only [Pt.U, Pt.locs, Pt.cells, Pt.slots] at X583 l583 y583 z583 st583 hQ583
    subst l583 y583 z583
    obtain ⟨r584, rfl, N583q, R585, R586⟩ := hQ583
    have N583 := Fr.app N581 N583q
    have hr : r584 = 1 := by
      rcases R585 with ⟨-, h⟩ | ⟨h, -⟩
      · exact h
      · exact absurd (Or.inr (Or.inl rfl)) h
    subst hr
    obtain ⟨fs, hr, hrun, hended, hW, hsame⟩ := X583.leave (v := some (.int (1 : Int32))) (fun h => by rw [Bd.returns] at h; cases h)
    refine ⟨_, _, P544 _ ?_, hrun, hended, _, _, rfl, ?_, ⟨_, rfl⟩, hW, hsame.mono (by decide) (by decide)⟩
    · show Steps p.tables e below (T504.setTop (mkF m 92 #[.val (.int p0), .val (.ref b1), .val (.int (5 : Int32)), .unset, .unset, .unset] [])) _
      refine XS.aloadN X504.here hx rfl (hb hby at_92) rfl rfl ?_
      show Steps p.tables e below (T504.setTop (mkF m 93 #[.val (.int p0), .val (.ref b1), .val (.int (5 : Int32)), .unset, .unset, .unset] [(.ref b1)])) _
      refine XS.iloadN X504.here hx rfl (hb hby at_93) rfl ?_
      show Steps p.tables e below (T504.setTop (mkF m 94 #[.val (.int p0), .val (.ref b1), .val (.int (5 : Int32)), .unset, .unset, .unset] [(.int (5 : Int32)), (.ref b1)])) _
      refine X504.aaload hx (j := (5 : Int32)) (v := (.ref x5)) (by rw [e504]; exact Ao580.1) (State.isArrayOf_alike hZ.alike Ao580.2.1) rfl Ao580.2.2 (inb_of So580 ⟨(by decide), (by decide)⟩) (Has.at Bo580 (inb_of So580 ⟨(by decide), (by decide)⟩) rfl) (g := (mkF m 94 #[.val (.int p0), .val (.ref b1), .val (.int (5 : Int32)), .unset, .unset, .unset] [(.int (5 : Int32)), (.ref b1)])) rfl rfl (hb hby at_94) _ ?_
      show Steps p.tables e below (T504.setTop (mkF m 95 #[.val (.int p0), .val (.ref b1), .val (.int (5 : Int32)), .unset, .unset, .unset] [(.ref x5)])) _
      refine XS.astoreN X504.here hx rfl (hb hby at_95) rfl rfl (l' := #[.val (.int p0), .val (.ref b1), .val (.int (5 : Int32)), .val (.ref x5), .unset, .unset]) rfl ?_
      show Steps p.tables e below (T504.setTop (mkF m 96 #[.val (.int p0), .val (.ref b1), .val (.int (5 : Int32)), .val (.ref x5), .unset, .unset] [])) _
      refine XS.aloadN X504.here hx rfl (hb hby at_96) rfl rfl ?_
      show Steps p.tables e below (T504.setTop (mkF m 97 #[.val (.int p0), .val (.ref b1), .val (.int (5 : Int32)), .val (.ref x5), .unset, .unset] [(.ref x5)])) _
      refine st581.trans ?_
      show Steps p.tables e below (T581.setTop (mkF m 100 #[.val (.int p0), .val (.ref b1), .val (.int (5 : Int32)), .val (.ref x5), .unset, .unset] [(.int (201 : Int32))])) _
      refine XS.istore X581.here hx rfl (hb hby at_100) rfl (l' := #[.val (.int p0), .val (.ref b1), .val (.int (5 : Int32)), .val (.ref x5), .val (.int (201 : Int32)), .unset]) rfl ?_
      show Steps p.tables e below (T581.setTop (mkF m 102 #[.val (.int p0), .val (.ref b1), .val (.int (5 : Int32)), .val (.ref x5), .val (.int (201 : Int32)), .unset] [])) _
      refine XS.iload X581.here hx rfl (hb hby at_102) rfl ?_
      show Steps p.tables e below (T581.setTop (mkF m 104 #[.val (.int p0), .val (.ref b1), .val (.int (5 : Int32)), .val (.ref x5), .val (.int (201 : Int32)), .unset] [(.int (201 : Int32))])) _
      refine XS.sipush X581.here hx rfl (hb hby at_104) ?_
      show Steps p.tables e below (T581.setTop (mkF m 107 #[.val (.int p0), .val (.ref b1), .val (.int (5 : Int32)), .val (.ref x5), .val (.int (201 : Int32)), .unset] [(.int (200 : Int32)), (.int (201 : Int32))])) _
      refine XS.icmpNo X581.here hx rfl (hb hby at_107) rfl (flt (by decide : ¬ ((201 : Int32) < (200 : Int32)))).1 ?_
      show Steps p.tables e below (T581.setTop (mkF m 110 #[.val (.int p0), .val (.ref b1), .val (.int (5 : Int32)), .val (.ref x5), .val (.int (201 : Int32)), .unset] [])) _
      refine XS.iload X581.here hx rfl (hb hby at_110) rfl ?_
      show Steps p.tables e below (T581.setTop (mkF m 112 #[.val (.int p0), .val (.ref b1), .val (.int (5 : Int32)), .val (.ref x5), .val (.int (201 : Int32)), .unset] [(.int (201 : Int32))])) _
      refine XS.sipush X581.here hx rfl (hb hby at_112) ?_
      show Steps p.tables e below (T581.setTop (mkF m 115 #[.val (.int p0), .val (.ref b1), .val (.int (5 : Int32)), .val (.ref x5), .val (.int (201 : Int32)), .unset] [(.int (203 : Int32)), (.int (201 : Int32))])) _
      refine XS.icmpNo X581.here hx rfl (hb hby at_115) rfl (flt (by decide : ¬ ((203 : Int32) < (201 : Int32)))).2.2.1 ?_
      show Steps p.tables e below (T581.setTop (mkF m 118 #[.val (.int p0), .val (.ref b1), .val (.int (5 : Int32)), .val (.ref x5), .val (.int (201 : Int32)), .unset] [])) _
      refine XS.iconst X581.here hx rfl (hb hby at_118) ?_
      show Steps p.tables e below (T581.setTop (mkF m 119 #[.val (.int p0), .val (.ref b1), .val (.int (5 : Int32)), .val (.ref x5), .val (.int (201 : Int32)), .unset] [(.int (1 : Int32))])) _
      refine XS.goto X581.here hx rfl (pc0 := 119) (pc' := 123) rfl (hb hby at_119) (by decide) (by decide) ?_
      show Steps p.tables e below (T581.setTop (mkF m 123 #[.val (.int p0), .val (.ref b1), .val (.int (5 : Int32)), .val (.ref x5), .val (.int (201 : Int32)), .unset] [(.int (1 : Int32))])) _
      refine XS.istore X581.here hx rfl (hb hby at_123) rfl (l' := #[.val (.int p0), .val (.ref b1), .val (.int (5 : Int32)), .val (.ref x5), .val (.int (201 : Int32)), .val (.int (1 : Int32))]) rfl ?_
      show Steps p.tables e below (T581.setTop (mkF m 125 #[.val (.int p0), .val (.ref b1), .val (.int (5 : Int32)), .val (.ref x5), .val (.int (201 : Int32)), .val (.int (1 : Int32))] [])) _
      refine XS.aloadN X581.here hx rfl (hb hby at_125) rfl rfl ?_
      show Steps p.tables e below (T581.setTop (mkF m 126 #[.val (.int p0), .val (.ref b1), .val (.int (5 : Int32)), .val (.ref x5), .val (.int (201 : Int32)), .val (.int (1 : Int32))] [(.ref x5)])) _
      refine st583.trans ?_
      show Steps p.tables e below (T583.setTop (mkF m 129 #[.val (.int p0), .val (.ref b1), .val (.int (5 : Int32)), .val (.ref x5), .val (.int (201 : Int32)), .val (.int (1 : Int32))] [(.int (1 : Int32))])) _
      refine XS.iload X583.here hx rfl (hb hby at_129) rfl ?_
      show Steps p.tables e below (T583.setTop (mkF m 131 #[.val (.int p0), .val (.ref b1), .val (.int (5 : Int32)), .val (.ref x5), .val (.int (201 : Int32)), .val (.int (1 : Int32))] [(.int (1 : Int32)), (.int (1 : Int32))])) _
      refine XS.icmpNo X583.here hx rfl (hb hby at_131) rfl (teq (by decide : (1 : Int32) = (1 : Int32))).2 ?_
      show Steps p.tables e below (T583.setTop (mkF m 134 #[.val (.int p0), .val (.ref b1), .val (.int (5 : Int32)), .val (.ref x5), .val (.int (201 : Int32)), .val (.int (1 : Int32))] [])) _
      refine XS.iconst X583.here hx rfl (hb hby at_134) ?_
      show Steps p.tables e below (T583.setTop (mkF m 135 #[.val (.int p0), .val (.ref b1), .val (.int (5 : Int32)), .val (.ref x5), .val (.int (201 : Int32)), .val (.int (1 : Int32))] [(.int (1 : Int32))])) _
      refine XS.goto X583.here hx rfl (pc0 := 135) (pc' := 139) rfl (hb hby at_135) (by decide) (by decide) ?_
      show Steps p.tables e below (T583.setTop (mkF m 139 #[.val (.int p0), .val (.ref b1), .val (.int (5 : Int32)), .val (.ref x5), .val (.int (201 : Int32)), .val (.int (1 : Int32))] [(.int (1 : Int32))])) _
      exact retN X583 hx (t := .boolean) Bd.returns (by simp) (hb hby at_139) hr
    · show Q0 Z p0 x0 x1 x2 x3 x4 x5 x6 x7 x8 x9 x10 x11 h0 n0 _ T583.heap _
      rw [R586]
      exact ⟨rfl, N583⟩
  · obtain ⟨co587, Ao587, qo587, So587, Mo587, Bo587, Go587⟩ := id V504
    obtain ⟨cq588, kq588, q588a, q588b, q588c⟩ := isOf hZ e504 F523
    obtain ⟨_, _, ⟨T588, L588, k588, n588⟩, -, X588, ⟨Lc588, hQ588, l588, y588, z588⟩, st588⟩ := X504.virtualBack hx (y := (⟨"com/example/notifiable/notifiable/conformance/ErrorCode", "code", "()I"⟩ : MethodName)) (z := (⟨"com/example/notifiable/notifiable/conformance/ErrorCode", "code", "()I"⟩ : MethodName)) hown (mvT hZ (hw _ (List.mem_of_getElem? (i := 29) rfl))) (mvT hZ (hw _ (List.mem_of_getElem? (i := 30) rfl))) (notFace_of_selects (args := #[]) (mvT hZ (hw _ (List.mem_of_getElem? (i := 32) rfl)))) (mvT hZ (hw _ (List.mem_of_getElem? (i := 32) rfl))) (mvT hZ (hw _ (List.mem_of_getElem? (i := 31) rfl))) (by decide) (backOf (W := 0) (rm1 l Z a0 hw [] x6 (202 : Int32) h504 n0 Z541 F535) hZ (hw _ (List.mem_of_getElem? (i := 33) rfl)) (hw _ (List.mem_of_getElem? (i := 3) rfl)) (by decide) (by decide)) q588a q588c (g := (mkF m 97 #[.val (.int p0), .val (.ref b1), .val (.int (6 : Int32)), .val (.ref x6), .unset, .unset] [(.ref x6)])) rfl (by rw [hml]; rfl) (Steps.refl _) (argsL := []) (rest := []) (lenOf pd_0 rfl) rfl (by show 2 * 0 + _ ≤ _; exact Nat.le_of_eq rfl) (hb hby at_97) (fun _ _ => ⟨rfl, e504, (by decide : 1 + 0 ≤ _), (by decide : 12 + 0 ≤ _)⟩)
    dsimp only [Pt.U, Pt.locs, Pt.cells, Pt.slots] at X588 l588 y588 z588 st588 hQ588
    subst l588 y588 z588
    obtain ⟨rfl, N588q, R589⟩ := hQ588
    have N588 := Fr.app N542 N588q
    obtain ⟨cq590, kq590, q590a, q590b, q590c⟩ := isOf hZ R589 F523
    obtain ⟨_, _, ⟨T590, L590, k590, n590⟩, -, X590, ⟨Lc590, hQ590, l590, y590, z590⟩, st590⟩ := X588.virtualBack hx (y := (⟨"com/example/notifiable/notifiable/conformance/ErrorCode", "rejects", "()Z"⟩ : MethodName)) (z := (⟨"com/example/notifiable/notifiable/conformance/ErrorCode", "rejects", "()Z"⟩ : MethodName)) hown (mvT hZ (hw _ (List.mem_of_getElem? (i := 36) rfl))) (mvT hZ (hw _ (List.mem_of_getElem? (i := 37) rfl))) (notFace_of_selects (args := #[]) (mvT hZ (hw _ (List.mem_of_getElem? (i := 39) rfl)))) (mvT hZ (hw _ (List.mem_of_getElem? (i := 39) rfl))) (mvT hZ (hw _ (List.mem_of_getElem? (i := 38) rfl))) (by decide) (backOf (W := 0) (rm2 l Z a0 hw [] x6 x4 x5 x6 x7 h504 n0 Z541 F509 F510 F511 F512) hZ (hw _ (List.mem_of_getElem? (i := 40) rfl)) (hw _ (List.mem_of_getElem? (i := 3) rfl)) (by decide) (by decide)) q590a q590c (g := (mkF m 126 #[.val (.int p0), .val (.ref b1), .val (.int (6 : Int32)), .val (.ref x6), .val (.int (202 : Int32)), .val (.int (1 : Int32))] [(.ref x6)])) rfl (by rw [hml]; rfl) (Steps.refl _) (argsL := []) (rest := []) (lenOf pd_1 rfl) rfl (by show 2 * 0 + _ ≤ _; exact Nat.le_of_eq rfl) (hb hby at_126) (fun _ _ => ⟨rfl, R589, (by decide : 1 + 0 ≤ _), (by decide : 12 + 0 ≤ _)⟩)
    dsimp only [Pt.U, Pt.locs, Pt.cells, Pt.slots] at X590 l590 y590 z590 st590 hQ590
    subst l590 y590 z590
    obtain ⟨r591, rfl, N590q, R592, R593⟩ := hQ590
    have N590 := Fr.app N588 N590q
    have hr : r591 = 1 := by
      rcases R592 with ⟨-, h⟩ | ⟨h, -⟩
      · exact h
      · exact absurd (Or.inr (Or.inr (Or.inl rfl))) h
    subst hr
    obtain ⟨fs, hr, hrun, hended, hW, hsame⟩ := X590.leave (v := some (.int (1 : Int32))) (fun h => by rw [Bd.returns] at h; cases h)
    refine ⟨_, _, P544 _ ?_, hrun, hended, _, _, rfl, ?_, ⟨_, rfl⟩, hW, hsame.mono (by decide) (by decide)⟩
    · show Steps p.tables e below (T504.setTop (mkF m 92 #[.val (.int p0), .val (.ref b1), .val (.int (6 : Int32)), .unset, .unset, .unset] [])) _
      refine XS.aloadN X504.here hx rfl (hb hby at_92) rfl rfl ?_
      show Steps p.tables e below (T504.setTop (mkF m 93 #[.val (.int p0), .val (.ref b1), .val (.int (6 : Int32)), .unset, .unset, .unset] [(.ref b1)])) _
      refine XS.iloadN X504.here hx rfl (hb hby at_93) rfl ?_
      show Steps p.tables e below (T504.setTop (mkF m 94 #[.val (.int p0), .val (.ref b1), .val (.int (6 : Int32)), .unset, .unset, .unset] [(.int (6 : Int32)), (.ref b1)])) _
      refine X504.aaload hx (j := (6 : Int32)) (v := (.ref x6)) (by rw [e504]; exact Ao587.1) (State.isArrayOf_alike hZ.alike Ao587.2.1) rfl Ao587.2.2 (inb_of So587 ⟨(by decide), (by decide)⟩) (Has.at Bo587 (inb_of So587 ⟨(by decide), (by decide)⟩) rfl) (g := (mkF m 94 #[.val (.int p0), .val (.ref b1), .val (.int (6 : Int32)), .unset, .unset, .unset] [(.int (6 : Int32)), (.ref b1)])) rfl rfl (hb hby at_94) _ ?_
      show Steps p.tables e below (T504.setTop (mkF m 95 #[.val (.int p0), .val (.ref b1), .val (.int (6 : Int32)), .unset, .unset, .unset] [(.ref x6)])) _
      refine XS.astoreN X504.here hx rfl (hb hby at_95) rfl rfl (l' := #[.val (.int p0), .val (.ref b1), .val (.int (6 : Int32)), .val (.ref x6), .unset, .unset]) rfl ?_
      show Steps p.tables e below (T504.setTop (mkF m 96 #[.val (.int p0), .val (.ref b1), .val (.int (6 : Int32)), .val (.ref x6), .unset, .unset] [])) _
      refine XS.aloadN X504.here hx rfl (hb hby at_96) rfl rfl ?_
      show Steps p.tables e below (T504.setTop (mkF m 97 #[.val (.int p0), .val (.ref b1), .val (.int (6 : Int32)), .val (.ref x6), .unset, .unset] [(.ref x6)])) _
      refine st588.trans ?_
      show Steps p.tables e below (T588.setTop (mkF m 100 #[.val (.int p0), .val (.ref b1), .val (.int (6 : Int32)), .val (.ref x6), .unset, .unset] [(.int (202 : Int32))])) _
      refine XS.istore X588.here hx rfl (hb hby at_100) rfl (l' := #[.val (.int p0), .val (.ref b1), .val (.int (6 : Int32)), .val (.ref x6), .val (.int (202 : Int32)), .unset]) rfl ?_
      show Steps p.tables e below (T588.setTop (mkF m 102 #[.val (.int p0), .val (.ref b1), .val (.int (6 : Int32)), .val (.ref x6), .val (.int (202 : Int32)), .unset] [])) _
      refine XS.iload X588.here hx rfl (hb hby at_102) rfl ?_
      show Steps p.tables e below (T588.setTop (mkF m 104 #[.val (.int p0), .val (.ref b1), .val (.int (6 : Int32)), .val (.ref x6), .val (.int (202 : Int32)), .unset] [(.int (202 : Int32))])) _
      refine XS.sipush X588.here hx rfl (hb hby at_104) ?_
      show Steps p.tables e below (T588.setTop (mkF m 107 #[.val (.int p0), .val (.ref b1), .val (.int (6 : Int32)), .val (.ref x6), .val (.int (202 : Int32)), .unset] [(.int (200 : Int32)), (.int (202 : Int32))])) _
      refine XS.icmpNo X588.here hx rfl (hb hby at_107) rfl (flt (by decide : ¬ ((202 : Int32) < (200 : Int32)))).1 ?_
      show Steps p.tables e below (T588.setTop (mkF m 110 #[.val (.int p0), .val (.ref b1), .val (.int (6 : Int32)), .val (.ref x6), .val (.int (202 : Int32)), .unset] [])) _
      refine XS.iload X588.here hx rfl (hb hby at_110) rfl ?_
      show Steps p.tables e below (T588.setTop (mkF m 112 #[.val (.int p0), .val (.ref b1), .val (.int (6 : Int32)), .val (.ref x6), .val (.int (202 : Int32)), .unset] [(.int (202 : Int32))])) _
      refine XS.sipush X588.here hx rfl (hb hby at_112) ?_
      show Steps p.tables e below (T588.setTop (mkF m 115 #[.val (.int p0), .val (.ref b1), .val (.int (6 : Int32)), .val (.ref x6), .val (.int (202 : Int32)), .unset] [(.int (203 : Int32)), (.int (202 : Int32))])) _
      refine XS.icmpNo X588.here hx rfl (hb hby at_115) rfl (flt (by decide : ¬ ((203 : Int32) < (202 : Int32)))).2.2.1 ?_
      show Steps p.tables e below (T588.setTop (mkF m 118 #[.val (.int p0), .val (.ref b1), .val (.int (6 : Int32)), .val (.ref x6), .val (.int (202 : Int32)), .unset] [])) _
      refine XS.iconst X588.here hx rfl (hb hby at_118) ?_
      show Steps p.tables e below (T588.setTop (mkF m 119 #[.val (.int p0), .val (.ref b1), .val (.int (6 : Int32)), .val (.ref x6), .val (.int (202 : Int32)), .unset] [(.int (1 : Int32))])) _
      refine XS.goto X588.here hx rfl (pc0 := 119) (pc' := 123) rfl (hb hby at_119) (by decide) (by decide) ?_
      show Steps p.tables e below (T588.setTop (mkF m 123 #[.val (.int p0), .val (.ref b1), .val (.int (6 : Int32)), .val (.ref x6), .val (.int (202 : Int32)), .unset] [(.int (1 : Int32))])) _
      refine XS.istore X588.here hx rfl (hb hby at_123) rfl (l' := #[.val (.int p0), .val (.ref b1), .val (.int (6 : Int32)), .val (.ref x6), .val (.int (202 : Int32)), .val (.int (1 : Int32))]) rfl ?_
      show Steps p.tables e below (T588.setTop (mkF m 125 #[.val (.int p0), .val (.ref b1), .val (.int (6 : Int32)), .val (.ref x6), .val (.int (202 : Int32)), .val (.int (1 : Int32))] [])) _
      refine XS.aloadN X588.here hx rfl (hb hby at_125) rfl rfl ?_
      show Steps p.tables e below (T588.setTop (mkF m 126 #[.val (.int p0), .val (.ref b1), .val (.int (6 : Int32)), .val (.ref x6), .val (.int (202 : Int32)), .val (.int (1 : Int32))] [(.ref x6)])) _
      refine st590.trans ?_
      show Steps p.tables e below (T590.setTop (mkF m 129 #[.val (.int p0), .val (.ref b1), .val (.int (6 : Int32)), .val (.ref x6), .val (.int (202 : Int32)), .val (.int (1 : Int32))] [(.int (1 : Int32))])) _
      refine XS.iload X590.here hx rfl (hb hby at_129) rfl ?_
      show Steps p.tables e below (T590.setTop (mkF m 131 #[.val (.int p0), .val (.ref b1), .val (.int (6 : Int32)), .val (.ref x6), .val (.int (202 : Int32)), .val (.int (1 : Int32))] [(.int (1 : Int32)), (.int (1 : Int32))])) _
      refine XS.icmpNo X590.here hx rfl (hb hby at_131) rfl (teq (by decide : (1 : Int32) = (1 : Int32))).2 ?_
      show Steps p.tables e below (T590.setTop (mkF m 134 #[.val (.int p0), .val (.ref b1), .val (.int (6 : Int32)), .val (.ref x6), .val (.int (202 : Int32)), .val (.int (1 : Int32))] [])) _
      refine XS.iconst X590.here hx rfl (hb hby at_134) ?_
      show Steps p.tables e below (T590.setTop (mkF m 135 #[.val (.int p0), .val (.ref b1), .val (.int (6 : Int32)), .val (.ref x6), .val (.int (202 : Int32)), .val (.int (1 : Int32))] [(.int (1 : Int32))])) _
      refine XS.goto X590.here hx rfl (pc0 := 135) (pc' := 139) rfl (hb hby at_135) (by decide) (by decide) ?_
      show Steps p.tables e below (T590.setTop (mkF m 139 #[.val (.int p0), .val (.ref b1), .val (.int (6 : Int32)), .val (.ref x6), .val (.int (202 : Int32)), .val (.int (1 : Int32))] [(.int (1 : Int32))])) _
      exact retN X590 hx (t := .boolean) Bd.returns (by simp) (hb hby at_139) hr
    · show Q0 Z p0 x0 x1 x2 x3 x4 x5 x6 x7 x8 x9 x10 x11 h0 n0 _ T590.heap _
      rw [R593]
      exact ⟨rfl, N590⟩
  · obtain ⟨co594, Ao594, qo594, So594, Mo594, Bo594, Go594⟩ := id V504
    obtain ⟨cq595, kq595, q595a, q595b, q595c⟩ := isOf hZ e504 F524
    obtain ⟨_, _, ⟨T595, L595, k595, n595⟩, -, X595, ⟨Lc595, hQ595, l595, y595, z595⟩, st595⟩ := X504.virtualBack hx (y := (⟨"com/example/notifiable/notifiable/conformance/ErrorCode", "code", "()I"⟩ : MethodName)) (z := (⟨"com/example/notifiable/notifiable/conformance/ErrorCode", "code", "()I"⟩ : MethodName)) hown (mvT hZ (hw _ (List.mem_of_getElem? (i := 29) rfl))) (mvT hZ (hw _ (List.mem_of_getElem? (i := 30) rfl))) (notFace_of_selects (args := #[]) (mvT hZ (hw _ (List.mem_of_getElem? (i := 32) rfl)))) (mvT hZ (hw _ (List.mem_of_getElem? (i := 32) rfl))) (mvT hZ (hw _ (List.mem_of_getElem? (i := 31) rfl))) (by decide) (backOf (W := 0) (rm1 l Z a0 hw [] x7 (203 : Int32) h504 n0 Z541 F536) hZ (hw _ (List.mem_of_getElem? (i := 33) rfl)) (hw _ (List.mem_of_getElem? (i := 3) rfl)) (by decide) (by decide)) q595a q595c (g := (mkF m 97 #[.val (.int p0), .val (.ref b1), .val (.int (7 : Int32)), .val (.ref x7), .unset, .unset] [(.ref x7)])) rfl (by rw [hml]; rfl) (Steps.refl _) (argsL := []) (rest := []) (lenOf pd_0 rfl) rfl (by show 2 * 0 + _ ≤ _; exact Nat.le_of_eq rfl) (hb hby at_97) (fun _ _ => ⟨rfl, e504, (by decide : 1 + 0 ≤ _), (by decide : 12 + 0 ≤ _)⟩)
    dsimp only [Pt.U, Pt.locs, Pt.cells, Pt.slots] at X595 l595 y595 z595 st595 hQ595
    subst l595 y595 z595
    obtain ⟨rfl, N595q, R596⟩ := hQ595
    have N595 := Fr.app N542 N595q
    obtain ⟨cq597, kq597, q597a, q597b, q597c⟩ := isOf hZ R596 F524
    obtain ⟨_, _, ⟨T597, L597, k597, n597⟩, -, X597, ⟨Lc597, hQ597, l597, y597, z597⟩, st597⟩ := X595.virtualBack hx (y := (⟨"com/example/notifiable/notifiable/conformance/ErrorCode", "rejects", "()Z"⟩ : MethodName)) (z := (⟨"com/example/notifiable/notifiable/conformance/ErrorCode", "rejects", "()Z"⟩ : MethodName)) hown (mvT hZ (hw _ (List.mem_of_getElem? (i := 36) rfl))) (mvT hZ (hw _ (List.mem_of_getElem? (i := 37) rfl))) (notFace_of_selects (args := #[]) (mvT hZ (hw _ (List.mem_of_getElem? (i := 39) rfl)))) (mvT hZ (hw _ (List.mem_of_getElem? (i := 39) rfl))) (mvT hZ (hw _ (List.mem_of_getElem? (i := 38) rfl))) (by decide) (backOf (W := 0) (rm2 l Z a0 hw [] x7 x4 x5 x6 x7 h504 n0 Z541 F509 F510 F511 F512) hZ (hw _ (List.mem_of_getElem? (i := 40) rfl)) (hw _ (List.mem_of_getElem? (i := 3) rfl)) (by decide) (by decide)) q597a q597c (g := (mkF m 126 #[.val (.int p0), .val (.ref b1), .val (.int (7 : Int32)), .val (.ref x7), .val (.int (203 : Int32)), .val (.int (1 : Int32))] [(.ref x7)])) rfl (by rw [hml]; rfl) (Steps.refl _) (argsL := []) (rest := []) (lenOf pd_1 rfl) rfl (by show 2 * 0 + _ ≤ _; exact Nat.le_of_eq rfl) (hb hby at_126) (fun _ _ => ⟨rfl, R596, (by decide : 1 + 0 ≤ _), (by decide : 12 + 0 ≤ _)⟩)
    dsimp only [Pt.U, Pt.locs, Pt.cells, Pt.slots] at X597 l597 y597 z597 st597 hQ597
    subst l597 y597 z597
    obtain ⟨r598, rfl, N597q, R599, R600⟩ := hQ597
    have N597 := Fr.app N595 N597q
    have hr : r598 = 1 := by
      rcases R599 with ⟨-, h⟩ | ⟨h, -⟩
      · exact h
      · exact absurd (Or.inr (Or.inr (Or.inr rfl))) h
    subst hr
    obtain ⟨fs, hr, hrun, hended, hW, hsame⟩ := X597.leave (v := some (.int (1 : Int32))) (fun h => by rw [Bd.returns] at h; cases h)
    refine ⟨_, _, P544 _ ?_, hrun, hended, _, _, rfl, ?_, ⟨_, rfl⟩, hW, hsame.mono (by decide) (by decide)⟩
    · show Steps p.tables e below (T504.setTop (mkF m 92 #[.val (.int p0), .val (.ref b1), .val (.int (7 : Int32)), .unset, .unset, .unset] [])) _
      refine XS.aloadN X504.here hx rfl (hb hby at_92) rfl rfl ?_
      show Steps p.tables e below (T504.setTop (mkF m 93 #[.val (.int p0), .val (.ref b1), .val (.int (7 : Int32)), .unset, .unset, .unset] [(.ref b1)])) _
      refine XS.iloadN X504.here hx rfl (hb hby at_93) rfl ?_
      show Steps p.tables e below (T504.setTop (mkF m 94 #[.val (.int p0), .val (.ref b1), .val (.int (7 : Int32)), .unset, .unset, .unset] [(.int (7 : Int32)), (.ref b1)])) _
      refine X504.aaload hx (j := (7 : Int32)) (v := (.ref x7)) (by rw [e504]; exact Ao594.1) (State.isArrayOf_alike hZ.alike Ao594.2.1) rfl Ao594.2.2 (inb_of So594 ⟨(by decide), (by decide)⟩) (Has.at Bo594 (inb_of So594 ⟨(by decide), (by decide)⟩) rfl) (g := (mkF m 94 #[.val (.int p0), .val (.ref b1), .val (.int (7 : Int32)), .unset, .unset, .unset] [(.int (7 : Int32)), (.ref b1)])) rfl rfl (hb hby at_94) _ ?_
      show Steps p.tables e below (T504.setTop (mkF m 95 #[.val (.int p0), .val (.ref b1), .val (.int (7 : Int32)), .unset, .unset, .unset] [(.ref x7)])) _
      refine XS.astoreN X504.here hx rfl (hb hby at_95) rfl rfl (l' := #[.val (.int p0), .val (.ref b1), .val (.int (7 : Int32)), .val (.ref x7), .unset, .unset]) rfl ?_
      show Steps p.tables e below (T504.setTop (mkF m 96 #[.val (.int p0), .val (.ref b1), .val (.int (7 : Int32)), .val (.ref x7), .unset, .unset] [])) _
      refine XS.aloadN X504.here hx rfl (hb hby at_96) rfl rfl ?_
      show Steps p.tables e below (T504.setTop (mkF m 97 #[.val (.int p0), .val (.ref b1), .val (.int (7 : Int32)), .val (.ref x7), .unset, .unset] [(.ref x7)])) _
      refine st595.trans ?_
      show Steps p.tables e below (T595.setTop (mkF m 100 #[.val (.int p0), .val (.ref b1), .val (.int (7 : Int32)), .val (.ref x7), .unset, .unset] [(.int (203 : Int32))])) _
      refine XS.istore X595.here hx rfl (hb hby at_100) rfl (l' := #[.val (.int p0), .val (.ref b1), .val (.int (7 : Int32)), .val (.ref x7), .val (.int (203 : Int32)), .unset]) rfl ?_
      show Steps p.tables e below (T595.setTop (mkF m 102 #[.val (.int p0), .val (.ref b1), .val (.int (7 : Int32)), .val (.ref x7), .val (.int (203 : Int32)), .unset] [])) _
      refine XS.iload X595.here hx rfl (hb hby at_102) rfl ?_
      show Steps p.tables e below (T595.setTop (mkF m 104 #[.val (.int p0), .val (.ref b1), .val (.int (7 : Int32)), .val (.ref x7), .val (.int (203 : Int32)), .unset] [(.int (203 : Int32))])) _
      refine XS.sipush X595.here hx rfl (hb hby at_104) ?_
      show Steps p.tables e below (T595.setTop (mkF m 107 #[.val (.int p0), .val (.ref b1), .val (.int (7 : Int32)), .val (.ref x7), .val (.int (203 : Int32)), .unset] [(.int (200 : Int32)), (.int (203 : Int32))])) _
      refine XS.icmpNo X595.here hx rfl (hb hby at_107) rfl (flt (by decide : ¬ ((203 : Int32) < (200 : Int32)))).1 ?_
      show Steps p.tables e below (T595.setTop (mkF m 110 #[.val (.int p0), .val (.ref b1), .val (.int (7 : Int32)), .val (.ref x7), .val (.int (203 : Int32)), .unset] [])) _
      refine XS.iload X595.here hx rfl (hb hby at_110) rfl ?_
      show Steps p.tables e below (T595.setTop (mkF m 112 #[.val (.int p0), .val (.ref b1), .val (.int (7 : Int32)), .val (.ref x7), .val (.int (203 : Int32)), .unset] [(.int (203 : Int32))])) _
      refine XS.sipush X595.here hx rfl (hb hby at_112) ?_
      show Steps p.tables e below (T595.setTop (mkF m 115 #[.val (.int p0), .val (.ref b1), .val (.int (7 : Int32)), .val (.ref x7), .val (.int (203 : Int32)), .unset] [(.int (203 : Int32)), (.int (203 : Int32))])) _
      refine XS.icmpNo X595.here hx rfl (hb hby at_115) rfl (flt (by decide : ¬ ((203 : Int32) < (203 : Int32)))).2.2.1 ?_
      show Steps p.tables e below (T595.setTop (mkF m 118 #[.val (.int p0), .val (.ref b1), .val (.int (7 : Int32)), .val (.ref x7), .val (.int (203 : Int32)), .unset] [])) _
      refine XS.iconst X595.here hx rfl (hb hby at_118) ?_
      show Steps p.tables e below (T595.setTop (mkF m 119 #[.val (.int p0), .val (.ref b1), .val (.int (7 : Int32)), .val (.ref x7), .val (.int (203 : Int32)), .unset] [(.int (1 : Int32))])) _
      refine XS.goto X595.here hx rfl (pc0 := 119) (pc' := 123) rfl (hb hby at_119) (by decide) (by decide) ?_
      show Steps p.tables e below (T595.setTop (mkF m 123 #[.val (.int p0), .val (.ref b1), .val (.int (7 : Int32)), .val (.ref x7), .val (.int (203 : Int32)), .unset] [(.int (1 : Int32))])) _
      refine XS.istore X595.here hx rfl (hb hby at_123) rfl (l' := #[.val (.int p0), .val (.ref b1), .val (.int (7 : Int32)), .val (.ref x7), .val (.int (203 : Int32)), .val (.int (1 : Int32))]) rfl ?_
      show Steps p.tables e below (T595.setTop (mkF m 125 #[.val (.int p0), .val (.ref b1), .val (.int (7 : Int32)), .val (.ref x7), .val (.int (203 : Int32)), .val (.int (1 : Int32))] [])) _
      refine XS.aloadN X595.here hx rfl (hb hby at_125) rfl rfl ?_
      show Steps p.tables e below (T595.setTop (mkF m 126 #[.val (.int p0), .val (.ref b1), .val (.int (7 : Int32)), .val (.ref x7), .val (.int (203 : Int32)), .val (.int (1 : Int32))] [(.ref x7)])) _
      refine st597.trans ?_
      show Steps p.tables e below (T597.setTop (mkF m 129 #[.val (.int p0), .val (.ref b1), .val (.int (7 : Int32)), .val (.ref x7), .val (.int (203 : Int32)), .val (.int (1 : Int32))] [(.int (1 : Int32))])) _
      refine XS.iload X597.here hx rfl (hb hby at_129) rfl ?_
      show Steps p.tables e below (T597.setTop (mkF m 131 #[.val (.int p0), .val (.ref b1), .val (.int (7 : Int32)), .val (.ref x7), .val (.int (203 : Int32)), .val (.int (1 : Int32))] [(.int (1 : Int32)), (.int (1 : Int32))])) _
      refine XS.icmpNo X597.here hx rfl (hb hby at_131) rfl (teq (by decide : (1 : Int32) = (1 : Int32))).2 ?_
      show Steps p.tables e below (T597.setTop (mkF m 134 #[.val (.int p0), .val (.ref b1), .val (.int (7 : Int32)), .val (.ref x7), .val (.int (203 : Int32)), .val (.int (1 : Int32))] [])) _
      refine XS.iconst X597.here hx rfl (hb hby at_134) ?_
      show Steps p.tables e below (T597.setTop (mkF m 135 #[.val (.int p0), .val (.ref b1), .val (.int (7 : Int32)), .val (.ref x7), .val (.int (203 : Int32)), .val (.int (1 : Int32))] [(.int (1 : Int32))])) _
      refine XS.goto X597.here hx rfl (pc0 := 135) (pc' := 139) rfl (hb hby at_135) (by decide) (by decide) ?_
      show Steps p.tables e below (T597.setTop (mkF m 139 #[.val (.int p0), .val (.ref b1), .val (.int (7 : Int32)), .val (.ref x7), .val (.int (203 : Int32)), .val (.int (1 : Int32))] [(.int (1 : Int32))])) _
      exact retN X597 hx (t := .boolean) Bd.returns (by simp) (hb hby at_139) hr
    · show Q0 Z p0 x0 x1 x2 x3 x4 x5 x6 x7 x8 x9 x10 x11 h0 n0 _ T597.heap _
      rw [R600]
      exact ⟨rfl, N597⟩
  · obtain ⟨co601, Ao601, qo601, So601, Mo601, Bo601, Go601⟩ := id V504
    obtain ⟨cq602, kq602, q602a, q602b, q602c⟩ := isOf hZ e504 F525
    obtain ⟨_, _, ⟨T602, L602, k602, n602⟩, -, X602, ⟨Lc602, hQ602, l602, y602, z602⟩, st602⟩ := X504.virtualBack hx (y := (⟨"com/example/notifiable/notifiable/conformance/ErrorCode", "code", "()I"⟩ : MethodName)) (z := (⟨"com/example/notifiable/notifiable/conformance/ErrorCode", "code", "()I"⟩ : MethodName)) hown (mvT hZ (hw _ (List.mem_of_getElem? (i := 29) rfl))) (mvT hZ (hw _ (List.mem_of_getElem? (i := 30) rfl))) (notFace_of_selects (args := #[]) (mvT hZ (hw _ (List.mem_of_getElem? (i := 32) rfl)))) (mvT hZ (hw _ (List.mem_of_getElem? (i := 32) rfl))) (mvT hZ (hw _ (List.mem_of_getElem? (i := 31) rfl))) (by decide) (backOf (W := 0) (rm1 l Z a0 hw [] x8 (204 : Int32) h504 n0 Z541 F537) hZ (hw _ (List.mem_of_getElem? (i := 33) rfl)) (hw _ (List.mem_of_getElem? (i := 3) rfl)) (by decide) (by decide)) q602a q602c (g := (mkF m 97 #[.val (.int p0), .val (.ref b1), .val (.int (8 : Int32)), .val (.ref x8), .unset, .unset] [(.ref x8)])) rfl (by rw [hml]; rfl) (Steps.refl _) (argsL := []) (rest := []) (lenOf pd_0 rfl) rfl (by show 2 * 0 + _ ≤ _; exact Nat.le_of_eq rfl) (hb hby at_97) (fun _ _ => ⟨rfl, e504, (by decide : 1 + 0 ≤ _), (by decide : 12 + 0 ≤ _)⟩)
    dsimp only [Pt.U, Pt.locs, Pt.cells, Pt.slots] at X602 l602 y602 z602 st602 hQ602
    subst l602 y602 z602
    obtain ⟨rfl, N602q, R603⟩ := hQ602
    have N602 := Fr.app N542 N602q
    obtain ⟨cq604, kq604, q604a, q604b, q604c⟩ := isOf hZ R603 F525
    obtain ⟨_, _, ⟨T604, L604, k604, n604⟩, -, X604, ⟨Lc604, hQ604, l604, y604, z604⟩, st604⟩ := X602.virtualBack hx (y := (⟨"com/example/notifiable/notifiable/conformance/ErrorCode", "rejects", "()Z"⟩ : MethodName)) (z := (⟨"com/example/notifiable/notifiable/conformance/ErrorCode", "rejects", "()Z"⟩ : MethodName)) hown (mvT hZ (hw _ (List.mem_of_getElem? (i := 36) rfl))) (mvT hZ (hw _ (List.mem_of_getElem? (i := 37) rfl))) (notFace_of_selects (args := #[]) (mvT hZ (hw _ (List.mem_of_getElem? (i := 39) rfl)))) (mvT hZ (hw _ (List.mem_of_getElem? (i := 39) rfl))) (mvT hZ (hw _ (List.mem_of_getElem? (i := 38) rfl))) (by decide) (backOf (W := 0) (rm2 l Z a0 hw [] x8 x4 x5 x6 x7 h504 n0 Z541 F509 F510 F511 F512) hZ (hw _ (List.mem_of_getElem? (i := 40) rfl)) (hw _ (List.mem_of_getElem? (i := 3) rfl)) (by decide) (by decide)) q604a q604c (g := (mkF m 126 #[.val (.int p0), .val (.ref b1), .val (.int (8 : Int32)), .val (.ref x8), .val (.int (204 : Int32)), .val (.int (0 : Int32))] [(.ref x8)])) rfl (by rw [hml]; rfl) (Steps.refl _) (argsL := []) (rest := []) (lenOf pd_1 rfl) rfl (by show 2 * 0 + _ ≤ _; exact Nat.le_of_eq rfl) (hb hby at_126) (fun _ _ => ⟨rfl, R603, (by decide : 1 + 0 ≤ _), (by decide : 12 + 0 ≤ _)⟩)
    dsimp only [Pt.U, Pt.locs, Pt.cells, Pt.slots] at X604 l604 y604 z604 st604 hQ604
    subst l604 y604 z604
    obtain ⟨r605, rfl, N604q, R606, R607⟩ := hQ604
    have N604 := Fr.app N602 N604q
    have hr : r605 = 0 := by
      rcases R606 with ⟨h, -⟩ | ⟨-, h⟩
      · exact absurd h (fun q => q.elim (F537.ne F533 (by decide)) (fun q => q.elim (F537.ne F534 (by decide)) (fun q => q.elim (F537.ne F535 (by decide)) (F537.ne F536 (by decide)))))
      · exact h
    subst hr
    obtain ⟨fs, hr, hrun, hended, hW, hsame⟩ := X604.leave (v := some (.int (1 : Int32))) (fun h => by rw [Bd.returns] at h; cases h)
    refine ⟨_, _, P544 _ ?_, hrun, hended, _, _, rfl, ?_, ⟨_, rfl⟩, hW, hsame.mono (by decide) (by decide)⟩
    · show Steps p.tables e below (T504.setTop (mkF m 92 #[.val (.int p0), .val (.ref b1), .val (.int (8 : Int32)), .unset, .unset, .unset] [])) _
      refine XS.aloadN X504.here hx rfl (hb hby at_92) rfl rfl ?_
      show Steps p.tables e below (T504.setTop (mkF m 93 #[.val (.int p0), .val (.ref b1), .val (.int (8 : Int32)), .unset, .unset, .unset] [(.ref b1)])) _
      refine XS.iloadN X504.here hx rfl (hb hby at_93) rfl ?_
      show Steps p.tables e below (T504.setTop (mkF m 94 #[.val (.int p0), .val (.ref b1), .val (.int (8 : Int32)), .unset, .unset, .unset] [(.int (8 : Int32)), (.ref b1)])) _
      refine X504.aaload hx (j := (8 : Int32)) (v := (.ref x8)) (by rw [e504]; exact Ao601.1) (State.isArrayOf_alike hZ.alike Ao601.2.1) rfl Ao601.2.2 (inb_of So601 ⟨(by decide), (by decide)⟩) (Has.at Bo601 (inb_of So601 ⟨(by decide), (by decide)⟩) rfl) (g := (mkF m 94 #[.val (.int p0), .val (.ref b1), .val (.int (8 : Int32)), .unset, .unset, .unset] [(.int (8 : Int32)), (.ref b1)])) rfl rfl (hb hby at_94) _ ?_
      show Steps p.tables e below (T504.setTop (mkF m 95 #[.val (.int p0), .val (.ref b1), .val (.int (8 : Int32)), .unset, .unset, .unset] [(.ref x8)])) _
      refine XS.astoreN X504.here hx rfl (hb hby at_95) rfl rfl (l' := #[.val (.int p0), .val (.ref b1), .val (.int (8 : Int32)), .val (.ref x8), .unset, .unset]) rfl ?_
      show Steps p.tables e below (T504.setTop (mkF m 96 #[.val (.int p0), .val (.ref b1), .val (.int (8 : Int32)), .val (.ref x8), .unset, .unset] [])) _
      refine XS.aloadN X504.here hx rfl (hb hby at_96) rfl rfl ?_
      show Steps p.tables e below (T504.setTop (mkF m 97 #[.val (.int p0), .val (.ref b1), .val (.int (8 : Int32)), .val (.ref x8), .unset, .unset] [(.ref x8)])) _
      refine st602.trans ?_
      show Steps p.tables e below (T602.setTop (mkF m 100 #[.val (.int p0), .val (.ref b1), .val (.int (8 : Int32)), .val (.ref x8), .unset, .unset] [(.int (204 : Int32))])) _
      refine XS.istore X602.here hx rfl (hb hby at_100) rfl (l' := #[.val (.int p0), .val (.ref b1), .val (.int (8 : Int32)), .val (.ref x8), .val (.int (204 : Int32)), .unset]) rfl ?_
      show Steps p.tables e below (T602.setTop (mkF m 102 #[.val (.int p0), .val (.ref b1), .val (.int (8 : Int32)), .val (.ref x8), .val (.int (204 : Int32)), .unset] [])) _
      refine XS.iload X602.here hx rfl (hb hby at_102) rfl ?_
      show Steps p.tables e below (T602.setTop (mkF m 104 #[.val (.int p0), .val (.ref b1), .val (.int (8 : Int32)), .val (.ref x8), .val (.int (204 : Int32)), .unset] [(.int (204 : Int32))])) _
      refine XS.sipush X602.here hx rfl (hb hby at_104) ?_
      show Steps p.tables e below (T602.setTop (mkF m 107 #[.val (.int p0), .val (.ref b1), .val (.int (8 : Int32)), .val (.ref x8), .val (.int (204 : Int32)), .unset] [(.int (200 : Int32)), (.int (204 : Int32))])) _
      refine XS.icmpNo X602.here hx rfl (hb hby at_107) rfl (flt (by decide : ¬ ((204 : Int32) < (200 : Int32)))).1 ?_
      show Steps p.tables e below (T602.setTop (mkF m 110 #[.val (.int p0), .val (.ref b1), .val (.int (8 : Int32)), .val (.ref x8), .val (.int (204 : Int32)), .unset] [])) _
      refine XS.iload X602.here hx rfl (hb hby at_110) rfl ?_
      show Steps p.tables e below (T602.setTop (mkF m 112 #[.val (.int p0), .val (.ref b1), .val (.int (8 : Int32)), .val (.ref x8), .val (.int (204 : Int32)), .unset] [(.int (204 : Int32))])) _
      refine XS.sipush X602.here hx rfl (hb hby at_112) ?_
      show Steps p.tables e below (T602.setTop (mkF m 115 #[.val (.int p0), .val (.ref b1), .val (.int (8 : Int32)), .val (.ref x8), .val (.int (204 : Int32)), .unset] [(.int (203 : Int32)), (.int (204 : Int32))])) _
      refine XS.icmpYes X602.here hx rfl (pc0 := 115) (pc' := 122) rfl (hb hby at_115) rfl (tlt (by decide : (203 : Int32) < (204 : Int32))).2.2.1 (by decide) (by decide) ?_
      show Steps p.tables e below (T602.setTop (mkF m 122 #[.val (.int p0), .val (.ref b1), .val (.int (8 : Int32)), .val (.ref x8), .val (.int (204 : Int32)), .unset] [])) _
      refine XS.iconst X602.here hx rfl (hb hby at_122) ?_
      show Steps p.tables e below (T602.setTop (mkF m 123 #[.val (.int p0), .val (.ref b1), .val (.int (8 : Int32)), .val (.ref x8), .val (.int (204 : Int32)), .unset] [(.int (0 : Int32))])) _
      refine XS.istore X602.here hx rfl (hb hby at_123) rfl (l' := #[.val (.int p0), .val (.ref b1), .val (.int (8 : Int32)), .val (.ref x8), .val (.int (204 : Int32)), .val (.int (0 : Int32))]) rfl ?_
      show Steps p.tables e below (T602.setTop (mkF m 125 #[.val (.int p0), .val (.ref b1), .val (.int (8 : Int32)), .val (.ref x8), .val (.int (204 : Int32)), .val (.int (0 : Int32))] [])) _
      refine XS.aloadN X602.here hx rfl (hb hby at_125) rfl rfl ?_
      show Steps p.tables e below (T602.setTop (mkF m 126 #[.val (.int p0), .val (.ref b1), .val (.int (8 : Int32)), .val (.ref x8), .val (.int (204 : Int32)), .val (.int (0 : Int32))] [(.ref x8)])) _
      refine st604.trans ?_
      show Steps p.tables e below (T604.setTop (mkF m 129 #[.val (.int p0), .val (.ref b1), .val (.int (8 : Int32)), .val (.ref x8), .val (.int (204 : Int32)), .val (.int (0 : Int32))] [(.int (0 : Int32))])) _
      refine XS.iload X604.here hx rfl (hb hby at_129) rfl ?_
      show Steps p.tables e below (T604.setTop (mkF m 131 #[.val (.int p0), .val (.ref b1), .val (.int (8 : Int32)), .val (.ref x8), .val (.int (204 : Int32)), .val (.int (0 : Int32))] [(.int (0 : Int32)), (.int (0 : Int32))])) _
      refine XS.icmpNo X604.here hx rfl (hb hby at_131) rfl (teq (by decide : (0 : Int32) = (0 : Int32))).2 ?_
      show Steps p.tables e below (T604.setTop (mkF m 134 #[.val (.int p0), .val (.ref b1), .val (.int (8 : Int32)), .val (.ref x8), .val (.int (204 : Int32)), .val (.int (0 : Int32))] [])) _
      refine XS.iconst X604.here hx rfl (hb hby at_134) ?_
      show Steps p.tables e below (T604.setTop (mkF m 135 #[.val (.int p0), .val (.ref b1), .val (.int (8 : Int32)), .val (.ref x8), .val (.int (204 : Int32)), .val (.int (0 : Int32))] [(.int (1 : Int32))])) _
      refine XS.goto X604.here hx rfl (pc0 := 135) (pc' := 139) rfl (hb hby at_135) (by decide) (by decide) ?_
      show Steps p.tables e below (T604.setTop (mkF m 139 #[.val (.int p0), .val (.ref b1), .val (.int (8 : Int32)), .val (.ref x8), .val (.int (204 : Int32)), .val (.int (0 : Int32))] [(.int (1 : Int32))])) _
      exact retN X604 hx (t := .boolean) Bd.returns (by simp) (hb hby at_139) hr
    · show Q0 Z p0 x0 x1 x2 x3 x4 x5 x6 x7 x8 x9 x10 x11 h0 n0 _ T604.heap _
      rw [R607]
      exact ⟨rfl, N604⟩
  · obtain ⟨co608, Ao608, qo608, So608, Mo608, Bo608, Go608⟩ := id V504
    obtain ⟨cq609, kq609, q609a, q609b, q609c⟩ := isOf hZ e504 F526
    obtain ⟨_, _, ⟨T609, L609, k609, n609⟩, -, X609, ⟨Lc609, hQ609, l609, y609, z609⟩, st609⟩ := X504.virtualBack hx (y := (⟨"com/example/notifiable/notifiable/conformance/ErrorCode", "code", "()I"⟩ : MethodName)) (z := (⟨"com/example/notifiable/notifiable/conformance/ErrorCode", "code", "()I"⟩ : MethodName)) hown (mvT hZ (hw _ (List.mem_of_getElem? (i := 29) rfl))) (mvT hZ (hw _ (List.mem_of_getElem? (i := 30) rfl))) (notFace_of_selects (args := #[]) (mvT hZ (hw _ (List.mem_of_getElem? (i := 32) rfl)))) (mvT hZ (hw _ (List.mem_of_getElem? (i := 32) rfl))) (mvT hZ (hw _ (List.mem_of_getElem? (i := 31) rfl))) (by decide) (backOf (W := 0) (rm1 l Z a0 hw [] x9 (205 : Int32) h504 n0 Z541 F538) hZ (hw _ (List.mem_of_getElem? (i := 33) rfl)) (hw _ (List.mem_of_getElem? (i := 3) rfl)) (by decide) (by decide)) q609a q609c (g := (mkF m 97 #[.val (.int p0), .val (.ref b1), .val (.int (9 : Int32)), .val (.ref x9), .unset, .unset] [(.ref x9)])) rfl (by rw [hml]; rfl) (Steps.refl _) (argsL := []) (rest := []) (lenOf pd_0 rfl) rfl (by show 2 * 0 + _ ≤ _; exact Nat.le_of_eq rfl) (hb hby at_97) (fun _ _ => ⟨rfl, e504, (by decide : 1 + 0 ≤ _), (by decide : 12 + 0 ≤ _)⟩)
    dsimp only [Pt.U, Pt.locs, Pt.cells, Pt.slots] at X609 l609 y609 z609 st609 hQ609
    subst l609 y609 z609
    obtain ⟨rfl, N609q, R610⟩ := hQ609
    have N609 := Fr.app N542 N609q
    obtain ⟨cq611, kq611, q611a, q611b, q611c⟩ := isOf hZ R610 F526
    obtain ⟨_, _, ⟨T611, L611, k611, n611⟩, -, X611, ⟨Lc611, hQ611, l611, y611, z611⟩, st611⟩ := X609.virtualBack hx (y := (⟨"com/example/notifiable/notifiable/conformance/ErrorCode", "rejects", "()Z"⟩ : MethodName)) (z := (⟨"com/example/notifiable/notifiable/conformance/ErrorCode", "rejects", "()Z"⟩ : MethodName)) hown (mvT hZ (hw _ (List.mem_of_getElem? (i := 36) rfl))) (mvT hZ (hw _ (List.mem_of_getElem? (i := 37) rfl))) (notFace_of_selects (args := #[]) (mvT hZ (hw _ (List.mem_of_getElem? (i := 39) rfl)))) (mvT hZ (hw _ (List.mem_of_getElem? (i := 39) rfl))) (mvT hZ (hw _ (List.mem_of_getElem? (i := 38) rfl))) (by decide) (backOf (W := 0) (rm2 l Z a0 hw [] x9 x4 x5 x6 x7 h504 n0 Z541 F509 F510 F511 F512) hZ (hw _ (List.mem_of_getElem? (i := 40) rfl)) (hw _ (List.mem_of_getElem? (i := 3) rfl)) (by decide) (by decide)) q611a q611c (g := (mkF m 126 #[.val (.int p0), .val (.ref b1), .val (.int (9 : Int32)), .val (.ref x9), .val (.int (205 : Int32)), .val (.int (0 : Int32))] [(.ref x9)])) rfl (by rw [hml]; rfl) (Steps.refl _) (argsL := []) (rest := []) (lenOf pd_1 rfl) rfl (by show 2 * 0 + _ ≤ _; exact Nat.le_of_eq rfl) (hb hby at_126) (fun _ _ => ⟨rfl, R610, (by decide : 1 + 0 ≤ _), (by decide : 12 + 0 ≤ _)⟩)
    dsimp only [Pt.U, Pt.locs, Pt.cells, Pt.slots] at X611 l611 y611 z611 st611 hQ611
    subst l611 y611 z611
    obtain ⟨r612, rfl, N611q, R613, R614⟩ := hQ611
    have N611 := Fr.app N609 N611q
    have hr : r612 = 0 := by
      rcases R613 with ⟨h, -⟩ | ⟨-, h⟩
      · exact absurd h (fun q => q.elim (F538.ne F533 (by decide)) (fun q => q.elim (F538.ne F534 (by decide)) (fun q => q.elim (F538.ne F535 (by decide)) (F538.ne F536 (by decide)))))
      · exact h
    subst hr
    obtain ⟨fs, hr, hrun, hended, hW, hsame⟩ := X611.leave (v := some (.int (1 : Int32))) (fun h => by rw [Bd.returns] at h; cases h)
    refine ⟨_, _, P544 _ ?_, hrun, hended, _, _, rfl, ?_, ⟨_, rfl⟩, hW, hsame.mono (by decide) (by decide)⟩
    · show Steps p.tables e below (T504.setTop (mkF m 92 #[.val (.int p0), .val (.ref b1), .val (.int (9 : Int32)), .unset, .unset, .unset] [])) _
      refine XS.aloadN X504.here hx rfl (hb hby at_92) rfl rfl ?_
      show Steps p.tables e below (T504.setTop (mkF m 93 #[.val (.int p0), .val (.ref b1), .val (.int (9 : Int32)), .unset, .unset, .unset] [(.ref b1)])) _
      refine XS.iloadN X504.here hx rfl (hb hby at_93) rfl ?_
      show Steps p.tables e below (T504.setTop (mkF m 94 #[.val (.int p0), .val (.ref b1), .val (.int (9 : Int32)), .unset, .unset, .unset] [(.int (9 : Int32)), (.ref b1)])) _
      refine X504.aaload hx (j := (9 : Int32)) (v := (.ref x9)) (by rw [e504]; exact Ao608.1) (State.isArrayOf_alike hZ.alike Ao608.2.1) rfl Ao608.2.2 (inb_of So608 ⟨(by decide), (by decide)⟩) (Has.at Bo608 (inb_of So608 ⟨(by decide), (by decide)⟩) rfl) (g := (mkF m 94 #[.val (.int p0), .val (.ref b1), .val (.int (9 : Int32)), .unset, .unset, .unset] [(.int (9 : Int32)), (.ref b1)])) rfl rfl (hb hby at_94) _ ?_
      show Steps p.tables e below (T504.setTop (mkF m 95 #[.val (.int p0), .val (.ref b1), .val (.int (9 : Int32)), .unset, .unset, .unset] [(.ref x9)])) _
      refine XS.astoreN X504.here hx rfl (hb hby at_95) rfl rfl (l' := #[.val (.int p0), .val (.ref b1), .val (.int (9 : Int32)), .val (.ref x9), .unset, .unset]) rfl ?_
      show Steps p.tables e below (T504.setTop (mkF m 96 #[.val (.int p0), .val (.ref b1), .val (.int (9 : Int32)), .val (.ref x9), .unset, .unset] [])) _
      refine XS.aloadN X504.here hx rfl (hb hby at_96) rfl rfl ?_
      show Steps p.tables e below (T504.setTop (mkF m 97 #[.val (.int p0), .val (.ref b1), .val (.int (9 : Int32)), .val (.ref x9), .unset, .unset] [(.ref x9)])) _
      refine st609.trans ?_
      show Steps p.tables e below (T609.setTop (mkF m 100 #[.val (.int p0), .val (.ref b1), .val (.int (9 : Int32)), .val (.ref x9), .unset, .unset] [(.int (205 : Int32))])) _
      refine XS.istore X609.here hx rfl (hb hby at_100) rfl (l' := #[.val (.int p0), .val (.ref b1), .val (.int (9 : Int32)), .val (.ref x9), .val (.int (205 : Int32)), .unset]) rfl ?_
      show Steps p.tables e below (T609.setTop (mkF m 102 #[.val (.int p0), .val (.ref b1), .val (.int (9 : Int32)), .val (.ref x9), .val (.int (205 : Int32)), .unset] [])) _
      refine XS.iload X609.here hx rfl (hb hby at_102) rfl ?_
      show Steps p.tables e below (T609.setTop (mkF m 104 #[.val (.int p0), .val (.ref b1), .val (.int (9 : Int32)), .val (.ref x9), .val (.int (205 : Int32)), .unset] [(.int (205 : Int32))])) _
      refine XS.sipush X609.here hx rfl (hb hby at_104) ?_
      show Steps p.tables e below (T609.setTop (mkF m 107 #[.val (.int p0), .val (.ref b1), .val (.int (9 : Int32)), .val (.ref x9), .val (.int (205 : Int32)), .unset] [(.int (200 : Int32)), (.int (205 : Int32))])) _
      refine XS.icmpNo X609.here hx rfl (hb hby at_107) rfl (flt (by decide : ¬ ((205 : Int32) < (200 : Int32)))).1 ?_
      show Steps p.tables e below (T609.setTop (mkF m 110 #[.val (.int p0), .val (.ref b1), .val (.int (9 : Int32)), .val (.ref x9), .val (.int (205 : Int32)), .unset] [])) _
      refine XS.iload X609.here hx rfl (hb hby at_110) rfl ?_
      show Steps p.tables e below (T609.setTop (mkF m 112 #[.val (.int p0), .val (.ref b1), .val (.int (9 : Int32)), .val (.ref x9), .val (.int (205 : Int32)), .unset] [(.int (205 : Int32))])) _
      refine XS.sipush X609.here hx rfl (hb hby at_112) ?_
      show Steps p.tables e below (T609.setTop (mkF m 115 #[.val (.int p0), .val (.ref b1), .val (.int (9 : Int32)), .val (.ref x9), .val (.int (205 : Int32)), .unset] [(.int (203 : Int32)), (.int (205 : Int32))])) _
      refine XS.icmpYes X609.here hx rfl (pc0 := 115) (pc' := 122) rfl (hb hby at_115) rfl (tlt (by decide : (203 : Int32) < (205 : Int32))).2.2.1 (by decide) (by decide) ?_
      show Steps p.tables e below (T609.setTop (mkF m 122 #[.val (.int p0), .val (.ref b1), .val (.int (9 : Int32)), .val (.ref x9), .val (.int (205 : Int32)), .unset] [])) _
      refine XS.iconst X609.here hx rfl (hb hby at_122) ?_
      show Steps p.tables e below (T609.setTop (mkF m 123 #[.val (.int p0), .val (.ref b1), .val (.int (9 : Int32)), .val (.ref x9), .val (.int (205 : Int32)), .unset] [(.int (0 : Int32))])) _
      refine XS.istore X609.here hx rfl (hb hby at_123) rfl (l' := #[.val (.int p0), .val (.ref b1), .val (.int (9 : Int32)), .val (.ref x9), .val (.int (205 : Int32)), .val (.int (0 : Int32))]) rfl ?_
      show Steps p.tables e below (T609.setTop (mkF m 125 #[.val (.int p0), .val (.ref b1), .val (.int (9 : Int32)), .val (.ref x9), .val (.int (205 : Int32)), .val (.int (0 : Int32))] [])) _
      refine XS.aloadN X609.here hx rfl (hb hby at_125) rfl rfl ?_
      show Steps p.tables e below (T609.setTop (mkF m 126 #[.val (.int p0), .val (.ref b1), .val (.int (9 : Int32)), .val (.ref x9), .val (.int (205 : Int32)), .val (.int (0 : Int32))] [(.ref x9)])) _
      refine st611.trans ?_
      show Steps p.tables e below (T611.setTop (mkF m 129 #[.val (.int p0), .val (.ref b1), .val (.int (9 : Int32)), .val (.ref x9), .val (.int (205 : Int32)), .val (.int (0 : Int32))] [(.int (0 : Int32))])) _
      refine XS.iload X611.here hx rfl (hb hby at_129) rfl ?_
      show Steps p.tables e below (T611.setTop (mkF m 131 #[.val (.int p0), .val (.ref b1), .val (.int (9 : Int32)), .val (.ref x9), .val (.int (205 : Int32)), .val (.int (0 : Int32))] [(.int (0 : Int32)), (.int (0 : Int32))])) _
      refine XS.icmpNo X611.here hx rfl (hb hby at_131) rfl (teq (by decide : (0 : Int32) = (0 : Int32))).2 ?_
      show Steps p.tables e below (T611.setTop (mkF m 134 #[.val (.int p0), .val (.ref b1), .val (.int (9 : Int32)), .val (.ref x9), .val (.int (205 : Int32)), .val (.int (0 : Int32))] [])) _
      refine XS.iconst X611.here hx rfl (hb hby at_134) ?_
      show Steps p.tables e below (T611.setTop (mkF m 135 #[.val (.int p0), .val (.ref b1), .val (.int (9 : Int32)), .val (.ref x9), .val (.int (205 : Int32)), .val (.int (0 : Int32))] [(.int (1 : Int32))])) _
      refine XS.goto X611.here hx rfl (pc0 := 135) (pc' := 139) rfl (hb hby at_135) (by decide) (by decide) ?_
      show Steps p.tables e below (T611.setTop (mkF m 139 #[.val (.int p0), .val (.ref b1), .val (.int (9 : Int32)), .val (.ref x9), .val (.int (205 : Int32)), .val (.int (0 : Int32))] [(.int (1 : Int32))])) _
      exact retN X611 hx (t := .boolean) Bd.returns (by simp) (hb hby at_139) hr
    · show Q0 Z p0 x0 x1 x2 x3 x4 x5 x6 x7 x8 x9 x10 x11 h0 n0 _ T611.heap _
      rw [R614]
      exact ⟨rfl, N611⟩
  · obtain ⟨co615, Ao615, qo615, So615, Mo615, Bo615, Go615⟩ := id V504
    obtain ⟨cq616, kq616, q616a, q616b, q616c⟩ := isOf hZ e504 F527
    obtain ⟨_, _, ⟨T616, L616, k616, n616⟩, -, X616, ⟨Lc616, hQ616, l616, y616, z616⟩, st616⟩ := X504.virtualBack hx (y := (⟨"com/example/notifiable/notifiable/conformance/ErrorCode", "code", "()I"⟩ : MethodName)) (z := (⟨"com/example/notifiable/notifiable/conformance/ErrorCode", "code", "()I"⟩ : MethodName)) hown (mvT hZ (hw _ (List.mem_of_getElem? (i := 29) rfl))) (mvT hZ (hw _ (List.mem_of_getElem? (i := 30) rfl))) (notFace_of_selects (args := #[]) (mvT hZ (hw _ (List.mem_of_getElem? (i := 32) rfl)))) (mvT hZ (hw _ (List.mem_of_getElem? (i := 32) rfl))) (mvT hZ (hw _ (List.mem_of_getElem? (i := 31) rfl))) (by decide) (backOf (W := 0) (rm1 l Z a0 hw [] x10 (206 : Int32) h504 n0 Z541 F539) hZ (hw _ (List.mem_of_getElem? (i := 33) rfl)) (hw _ (List.mem_of_getElem? (i := 3) rfl)) (by decide) (by decide)) q616a q616c (g := (mkF m 97 #[.val (.int p0), .val (.ref b1), .val (.int (10 : Int32)), .val (.ref x10), .unset, .unset] [(.ref x10)])) rfl (by rw [hml]; rfl) (Steps.refl _) (argsL := []) (rest := []) (lenOf pd_0 rfl) rfl (by show 2 * 0 + _ ≤ _; exact Nat.le_of_eq rfl) (hb hby at_97) (fun _ _ => ⟨rfl, e504, (by decide : 1 + 0 ≤ _), (by decide : 12 + 0 ≤ _)⟩)
    dsimp only [Pt.U, Pt.locs, Pt.cells, Pt.slots] at X616 l616 y616 z616 st616 hQ616
    subst l616 y616 z616
    obtain ⟨rfl, N616q, R617⟩ := hQ616
    have N616 := Fr.app N542 N616q
    obtain ⟨cq618, kq618, q618a, q618b, q618c⟩ := isOf hZ R617 F527
    obtain ⟨_, _, ⟨T618, L618, k618, n618⟩, -, X618, ⟨Lc618, hQ618, l618, y618, z618⟩, st618⟩ := X616.virtualBack hx (y := (⟨"com/example/notifiable/notifiable/conformance/ErrorCode", "rejects", "()Z"⟩ : MethodName)) (z := (⟨"com/example/notifiable/notifiable/conformance/ErrorCode", "rejects", "()Z"⟩ : MethodName)) hown (mvT hZ (hw _ (List.mem_of_getElem? (i := 36) rfl))) (mvT hZ (hw _ (List.mem_of_getElem? (i := 37) rfl))) (notFace_of_selects (args := #[]) (mvT hZ (hw _ (List.mem_of_getElem? (i := 39) rfl)))) (mvT hZ (hw _ (List.mem_of_getElem? (i := 39) rfl))) (mvT hZ (hw _ (List.mem_of_getElem? (i := 38) rfl))) (by decide) (backOf (W := 0) (rm2 l Z a0 hw [] x10 x4 x5 x6 x7 h504 n0 Z541 F509 F510 F511 F512) hZ (hw _ (List.mem_of_getElem? (i := 40) rfl)) (hw _ (List.mem_of_getElem? (i := 3) rfl)) (by decide) (by decide)) q618a q618c (g := (mkF m 126 #[.val (.int p0), .val (.ref b1), .val (.int (10 : Int32)), .val (.ref x10), .val (.int (206 : Int32)), .val (.int (0 : Int32))] [(.ref x10)])) rfl (by rw [hml]; rfl) (Steps.refl _) (argsL := []) (rest := []) (lenOf pd_1 rfl) rfl (by show 2 * 0 + _ ≤ _; exact Nat.le_of_eq rfl) (hb hby at_126) (fun _ _ => ⟨rfl, R617, (by decide : 1 + 0 ≤ _), (by decide : 12 + 0 ≤ _)⟩)
    dsimp only [Pt.U, Pt.locs, Pt.cells, Pt.slots] at X618 l618 y618 z618 st618 hQ618
    subst l618 y618 z618
    obtain ⟨r619, rfl, N618q, R620, R621⟩ := hQ618
    have N618 := Fr.app N616 N618q
    have hr : r619 = 0 := by
      rcases R620 with ⟨h, -⟩ | ⟨-, h⟩
      · exact absurd h (fun q => q.elim (F539.ne F533 (by decide)) (fun q => q.elim (F539.ne F534 (by decide)) (fun q => q.elim (F539.ne F535 (by decide)) (F539.ne F536 (by decide)))))
      · exact h
    subst hr
    obtain ⟨fs, hr, hrun, hended, hW, hsame⟩ := X618.leave (v := some (.int (1 : Int32))) (fun h => by rw [Bd.returns] at h; cases h)
    refine ⟨_, _, P544 _ ?_, hrun, hended, _, _, rfl, ?_, ⟨_, rfl⟩, hW, hsame.mono (by decide) (by decide)⟩
    · show Steps p.tables e below (T504.setTop (mkF m 92 #[.val (.int p0), .val (.ref b1), .val (.int (10 : Int32)), .unset, .unset, .unset] [])) _
      refine XS.aloadN X504.here hx rfl (hb hby at_92) rfl rfl ?_
      show Steps p.tables e below (T504.setTop (mkF m 93 #[.val (.int p0), .val (.ref b1), .val (.int (10 : Int32)), .unset, .unset, .unset] [(.ref b1)])) _
      refine XS.iloadN X504.here hx rfl (hb hby at_93) rfl ?_
      show Steps p.tables e below (T504.setTop (mkF m 94 #[.val (.int p0), .val (.ref b1), .val (.int (10 : Int32)), .unset, .unset, .unset] [(.int (10 : Int32)), (.ref b1)])) _
      refine X504.aaload hx (j := (10 : Int32)) (v := (.ref x10)) (by rw [e504]; exact Ao615.1) (State.isArrayOf_alike hZ.alike Ao615.2.1) rfl Ao615.2.2 (inb_of So615 ⟨(by decide), (by decide)⟩) (Has.at Bo615 (inb_of So615 ⟨(by decide), (by decide)⟩) rfl) (g := (mkF m 94 #[.val (.int p0), .val (.ref b1), .val (.int (10 : Int32)), .unset, .unset, .unset] [(.int (10 : Int32)), (.ref b1)])) rfl rfl (hb hby at_94) _ ?_
      show Steps p.tables e below (T504.setTop (mkF m 95 #[.val (.int p0), .val (.ref b1), .val (.int (10 : Int32)), .unset, .unset, .unset] [(.ref x10)])) _
      refine XS.astoreN X504.here hx rfl (hb hby at_95) rfl rfl (l' := #[.val (.int p0), .val (.ref b1), .val (.int (10 : Int32)), .val (.ref x10), .unset, .unset]) rfl ?_
      show Steps p.tables e below (T504.setTop (mkF m 96 #[.val (.int p0), .val (.ref b1), .val (.int (10 : Int32)), .val (.ref x10), .unset, .unset] [])) _
      refine XS.aloadN X504.here hx rfl (hb hby at_96) rfl rfl ?_
      show Steps p.tables e below (T504.setTop (mkF m 97 #[.val (.int p0), .val (.ref b1), .val (.int (10 : Int32)), .val (.ref x10), .unset, .unset] [(.ref x10)])) _
      refine st616.trans ?_
      show Steps p.tables e below (T616.setTop (mkF m 100 #[.val (.int p0), .val (.ref b1), .val (.int (10 : Int32)), .val (.ref x10), .unset, .unset] [(.int (206 : Int32))])) _
      refine XS.istore X616.here hx rfl (hb hby at_100) rfl (l' := #[.val (.int p0), .val (.ref b1), .val (.int (10 : Int32)), .val (.ref x10), .val (.int (206 : Int32)), .unset]) rfl ?_
      show Steps p.tables e below (T616.setTop (mkF m 102 #[.val (.int p0), .val (.ref b1), .val (.int (10 : Int32)), .val (.ref x10), .val (.int (206 : Int32)), .unset] [])) _
      refine XS.iload X616.here hx rfl (hb hby at_102) rfl ?_
      show Steps p.tables e below (T616.setTop (mkF m 104 #[.val (.int p0), .val (.ref b1), .val (.int (10 : Int32)), .val (.ref x10), .val (.int (206 : Int32)), .unset] [(.int (206 : Int32))])) _
      refine XS.sipush X616.here hx rfl (hb hby at_104) ?_
      show Steps p.tables e below (T616.setTop (mkF m 107 #[.val (.int p0), .val (.ref b1), .val (.int (10 : Int32)), .val (.ref x10), .val (.int (206 : Int32)), .unset] [(.int (200 : Int32)), (.int (206 : Int32))])) _
      refine XS.icmpNo X616.here hx rfl (hb hby at_107) rfl (flt (by decide : ¬ ((206 : Int32) < (200 : Int32)))).1 ?_
      show Steps p.tables e below (T616.setTop (mkF m 110 #[.val (.int p0), .val (.ref b1), .val (.int (10 : Int32)), .val (.ref x10), .val (.int (206 : Int32)), .unset] [])) _
      refine XS.iload X616.here hx rfl (hb hby at_110) rfl ?_
      show Steps p.tables e below (T616.setTop (mkF m 112 #[.val (.int p0), .val (.ref b1), .val (.int (10 : Int32)), .val (.ref x10), .val (.int (206 : Int32)), .unset] [(.int (206 : Int32))])) _
      refine XS.sipush X616.here hx rfl (hb hby at_112) ?_
      show Steps p.tables e below (T616.setTop (mkF m 115 #[.val (.int p0), .val (.ref b1), .val (.int (10 : Int32)), .val (.ref x10), .val (.int (206 : Int32)), .unset] [(.int (203 : Int32)), (.int (206 : Int32))])) _
      refine XS.icmpYes X616.here hx rfl (pc0 := 115) (pc' := 122) rfl (hb hby at_115) rfl (tlt (by decide : (203 : Int32) < (206 : Int32))).2.2.1 (by decide) (by decide) ?_
      show Steps p.tables e below (T616.setTop (mkF m 122 #[.val (.int p0), .val (.ref b1), .val (.int (10 : Int32)), .val (.ref x10), .val (.int (206 : Int32)), .unset] [])) _
      refine XS.iconst X616.here hx rfl (hb hby at_122) ?_
      show Steps p.tables e below (T616.setTop (mkF m 123 #[.val (.int p0), .val (.ref b1), .val (.int (10 : Int32)), .val (.ref x10), .val (.int (206 : Int32)), .unset] [(.int (0 : Int32))])) _
      refine XS.istore X616.here hx rfl (hb hby at_123) rfl (l' := #[.val (.int p0), .val (.ref b1), .val (.int (10 : Int32)), .val (.ref x10), .val (.int (206 : Int32)), .val (.int (0 : Int32))]) rfl ?_
      show Steps p.tables e below (T616.setTop (mkF m 125 #[.val (.int p0), .val (.ref b1), .val (.int (10 : Int32)), .val (.ref x10), .val (.int (206 : Int32)), .val (.int (0 : Int32))] [])) _
      refine XS.aloadN X616.here hx rfl (hb hby at_125) rfl rfl ?_
      show Steps p.tables e below (T616.setTop (mkF m 126 #[.val (.int p0), .val (.ref b1), .val (.int (10 : Int32)), .val (.ref x10), .val (.int (206 : Int32)), .val (.int (0 : Int32))] [(.ref x10)])) _
      refine st618.trans ?_
      show Steps p.tables e below (T618.setTop (mkF m 129 #[.val (.int p0), .val (.ref b1), .val (.int (10 : Int32)), .val (.ref x10), .val (.int (206 : Int32)), .val (.int (0 : Int32))] [(.int (0 : Int32))])) _
      refine XS.iload X618.here hx rfl (hb hby at_129) rfl ?_
      show Steps p.tables e below (T618.setTop (mkF m 131 #[.val (.int p0), .val (.ref b1), .val (.int (10 : Int32)), .val (.ref x10), .val (.int (206 : Int32)), .val (.int (0 : Int32))] [(.int (0 : Int32)), (.int (0 : Int32))])) _
      refine XS.icmpNo X618.here hx rfl (hb hby at_131) rfl (teq (by decide : (0 : Int32) = (0 : Int32))).2 ?_
      show Steps p.tables e below (T618.setTop (mkF m 134 #[.val (.int p0), .val (.ref b1), .val (.int (10 : Int32)), .val (.ref x10), .val (.int (206 : Int32)), .val (.int (0 : Int32))] [])) _
      refine XS.iconst X618.here hx rfl (hb hby at_134) ?_
      show Steps p.tables e below (T618.setTop (mkF m 135 #[.val (.int p0), .val (.ref b1), .val (.int (10 : Int32)), .val (.ref x10), .val (.int (206 : Int32)), .val (.int (0 : Int32))] [(.int (1 : Int32))])) _
      refine XS.goto X618.here hx rfl (pc0 := 135) (pc' := 139) rfl (hb hby at_135) (by decide) (by decide) ?_
      show Steps p.tables e below (T618.setTop (mkF m 139 #[.val (.int p0), .val (.ref b1), .val (.int (10 : Int32)), .val (.ref x10), .val (.int (206 : Int32)), .val (.int (0 : Int32))] [(.int (1 : Int32))])) _
      exact retN X618 hx (t := .boolean) Bd.returns (by simp) (hb hby at_139) hr
    · show Q0 Z p0 x0 x1 x2 x3 x4 x5 x6 x7 x8 x9 x10 x11 h0 n0 _ T618.heap _
      rw [R621]
      exact ⟨rfl, N618⟩
  · obtain ⟨co622, Ao622, qo622, So622, Mo622, Bo622, Go622⟩ := id V504
    obtain ⟨cq623, kq623, q623a, q623b, q623c⟩ := isOf hZ e504 F528
    obtain ⟨_, _, ⟨T623, L623, k623, n623⟩, -, X623, ⟨Lc623, hQ623, l623, y623, z623⟩, st623⟩ := X504.virtualBack hx (y := (⟨"com/example/notifiable/notifiable/conformance/ErrorCode", "code", "()I"⟩ : MethodName)) (z := (⟨"com/example/notifiable/notifiable/conformance/ErrorCode", "code", "()I"⟩ : MethodName)) hown (mvT hZ (hw _ (List.mem_of_getElem? (i := 29) rfl))) (mvT hZ (hw _ (List.mem_of_getElem? (i := 30) rfl))) (notFace_of_selects (args := #[]) (mvT hZ (hw _ (List.mem_of_getElem? (i := 32) rfl)))) (mvT hZ (hw _ (List.mem_of_getElem? (i := 32) rfl))) (mvT hZ (hw _ (List.mem_of_getElem? (i := 31) rfl))) (by decide) (backOf (W := 0) (rm1 l Z a0 hw [] x11 (207 : Int32) h504 n0 Z541 F540) hZ (hw _ (List.mem_of_getElem? (i := 33) rfl)) (hw _ (List.mem_of_getElem? (i := 3) rfl)) (by decide) (by decide)) q623a q623c (g := (mkF m 97 #[.val (.int p0), .val (.ref b1), .val (.int (11 : Int32)), .val (.ref x11), .unset, .unset] [(.ref x11)])) rfl (by rw [hml]; rfl) (Steps.refl _) (argsL := []) (rest := []) (lenOf pd_0 rfl) rfl (by show 2 * 0 + _ ≤ _; exact Nat.le_of_eq rfl) (hb hby at_97) (fun _ _ => ⟨rfl, e504, (by decide : 1 + 0 ≤ _), (by decide : 12 + 0 ≤ _)⟩)
    dsimp only [Pt.U, Pt.locs, Pt.cells, Pt.slots] at X623 l623 y623 z623 st623 hQ623
    subst l623 y623 z623
    obtain ⟨rfl, N623q, R624⟩ := hQ623
    have N623 := Fr.app N542 N623q
    obtain ⟨cq625, kq625, q625a, q625b, q625c⟩ := isOf hZ R624 F528
    obtain ⟨_, _, ⟨T625, L625, k625, n625⟩, -, X625, ⟨Lc625, hQ625, l625, y625, z625⟩, st625⟩ := X623.virtualBack hx (y := (⟨"com/example/notifiable/notifiable/conformance/ErrorCode", "rejects", "()Z"⟩ : MethodName)) (z := (⟨"com/example/notifiable/notifiable/conformance/ErrorCode", "rejects", "()Z"⟩ : MethodName)) hown (mvT hZ (hw _ (List.mem_of_getElem? (i := 36) rfl))) (mvT hZ (hw _ (List.mem_of_getElem? (i := 37) rfl))) (notFace_of_selects (args := #[]) (mvT hZ (hw _ (List.mem_of_getElem? (i := 39) rfl)))) (mvT hZ (hw _ (List.mem_of_getElem? (i := 39) rfl))) (mvT hZ (hw _ (List.mem_of_getElem? (i := 38) rfl))) (by decide) (backOf (W := 0) (rm2 l Z a0 hw [] x11 x4 x5 x6 x7 h504 n0 Z541 F509 F510 F511 F512) hZ (hw _ (List.mem_of_getElem? (i := 40) rfl)) (hw _ (List.mem_of_getElem? (i := 3) rfl)) (by decide) (by decide)) q625a q625c (g := (mkF m 126 #[.val (.int p0), .val (.ref b1), .val (.int (11 : Int32)), .val (.ref x11), .val (.int (207 : Int32)), .val (.int (0 : Int32))] [(.ref x11)])) rfl (by rw [hml]; rfl) (Steps.refl _) (argsL := []) (rest := []) (lenOf pd_1 rfl) rfl (by show 2 * 0 + _ ≤ _; exact Nat.le_of_eq rfl) (hb hby at_126) (fun _ _ => ⟨rfl, R624, (by decide : 1 + 0 ≤ _), (by decide : 12 + 0 ≤ _)⟩)
    dsimp only [Pt.U, Pt.locs, Pt.cells, Pt.slots] at X625 l625 y625 z625 st625 hQ625
    subst l625 y625 z625
    obtain ⟨r626, rfl, N625q, R627, R628⟩ := hQ625
    have N625 := Fr.app N623 N625q
    have hr : r626 = 0 := by
      rcases R627 with ⟨h, -⟩ | ⟨-, h⟩
      · exact absurd h (fun q => q.elim (F540.ne F533 (by decide)) (fun q => q.elim (F540.ne F534 (by decide)) (fun q => q.elim (F540.ne F535 (by decide)) (F540.ne F536 (by decide)))))
      · exact h
    subst hr
    obtain ⟨fs, hr, hrun, hended, hW, hsame⟩ := X625.leave (v := some (.int (1 : Int32))) (fun h => by rw [Bd.returns] at h; cases h)
    refine ⟨_, _, P544 _ ?_, hrun, hended, _, _, rfl, ?_, ⟨_, rfl⟩, hW, hsame.mono (by decide) (by decide)⟩
    · show Steps p.tables e below (T504.setTop (mkF m 92 #[.val (.int p0), .val (.ref b1), .val (.int (11 : Int32)), .unset, .unset, .unset] [])) _
      refine XS.aloadN X504.here hx rfl (hb hby at_92) rfl rfl ?_
      show Steps p.tables e below (T504.setTop (mkF m 93 #[.val (.int p0), .val (.ref b1), .val (.int (11 : Int32)), .unset, .unset, .unset] [(.ref b1)])) _
      refine XS.iloadN X504.here hx rfl (hb hby at_93) rfl ?_
      show Steps p.tables e below (T504.setTop (mkF m 94 #[.val (.int p0), .val (.ref b1), .val (.int (11 : Int32)), .unset, .unset, .unset] [(.int (11 : Int32)), (.ref b1)])) _
      refine X504.aaload hx (j := (11 : Int32)) (v := (.ref x11)) (by rw [e504]; exact Ao622.1) (State.isArrayOf_alike hZ.alike Ao622.2.1) rfl Ao622.2.2 (inb_of So622 ⟨(by decide), (by decide)⟩) (Has.at Bo622 (inb_of So622 ⟨(by decide), (by decide)⟩) rfl) (g := (mkF m 94 #[.val (.int p0), .val (.ref b1), .val (.int (11 : Int32)), .unset, .unset, .unset] [(.int (11 : Int32)), (.ref b1)])) rfl rfl (hb hby at_94) _ ?_
      show Steps p.tables e below (T504.setTop (mkF m 95 #[.val (.int p0), .val (.ref b1), .val (.int (11 : Int32)), .unset, .unset, .unset] [(.ref x11)])) _
      refine XS.astoreN X504.here hx rfl (hb hby at_95) rfl rfl (l' := #[.val (.int p0), .val (.ref b1), .val (.int (11 : Int32)), .val (.ref x11), .unset, .unset]) rfl ?_
      show Steps p.tables e below (T504.setTop (mkF m 96 #[.val (.int p0), .val (.ref b1), .val (.int (11 : Int32)), .val (.ref x11), .unset, .unset] [])) _
      refine XS.aloadN X504.here hx rfl (hb hby at_96) rfl rfl ?_
      show Steps p.tables e below (T504.setTop (mkF m 97 #[.val (.int p0), .val (.ref b1), .val (.int (11 : Int32)), .val (.ref x11), .unset, .unset] [(.ref x11)])) _
      refine st623.trans ?_
      show Steps p.tables e below (T623.setTop (mkF m 100 #[.val (.int p0), .val (.ref b1), .val (.int (11 : Int32)), .val (.ref x11), .unset, .unset] [(.int (207 : Int32))])) _
      refine XS.istore X623.here hx rfl (hb hby at_100) rfl (l' := #[.val (.int p0), .val (.ref b1), .val (.int (11 : Int32)), .val (.ref x11), .val (.int (207 : Int32)), .unset]) rfl ?_
      show Steps p.tables e below (T623.setTop (mkF m 102 #[.val (.int p0), .val (.ref b1), .val (.int (11 : Int32)), .val (.ref x11), .val (.int (207 : Int32)), .unset] [])) _
      refine XS.iload X623.here hx rfl (hb hby at_102) rfl ?_
      show Steps p.tables e below (T623.setTop (mkF m 104 #[.val (.int p0), .val (.ref b1), .val (.int (11 : Int32)), .val (.ref x11), .val (.int (207 : Int32)), .unset] [(.int (207 : Int32))])) _
      refine XS.sipush X623.here hx rfl (hb hby at_104) ?_
      show Steps p.tables e below (T623.setTop (mkF m 107 #[.val (.int p0), .val (.ref b1), .val (.int (11 : Int32)), .val (.ref x11), .val (.int (207 : Int32)), .unset] [(.int (200 : Int32)), (.int (207 : Int32))])) _
      refine XS.icmpNo X623.here hx rfl (hb hby at_107) rfl (flt (by decide : ¬ ((207 : Int32) < (200 : Int32)))).1 ?_
      show Steps p.tables e below (T623.setTop (mkF m 110 #[.val (.int p0), .val (.ref b1), .val (.int (11 : Int32)), .val (.ref x11), .val (.int (207 : Int32)), .unset] [])) _
      refine XS.iload X623.here hx rfl (hb hby at_110) rfl ?_
      show Steps p.tables e below (T623.setTop (mkF m 112 #[.val (.int p0), .val (.ref b1), .val (.int (11 : Int32)), .val (.ref x11), .val (.int (207 : Int32)), .unset] [(.int (207 : Int32))])) _
      refine XS.sipush X623.here hx rfl (hb hby at_112) ?_
      show Steps p.tables e below (T623.setTop (mkF m 115 #[.val (.int p0), .val (.ref b1), .val (.int (11 : Int32)), .val (.ref x11), .val (.int (207 : Int32)), .unset] [(.int (203 : Int32)), (.int (207 : Int32))])) _
      refine XS.icmpYes X623.here hx rfl (pc0 := 115) (pc' := 122) rfl (hb hby at_115) rfl (tlt (by decide : (203 : Int32) < (207 : Int32))).2.2.1 (by decide) (by decide) ?_
      show Steps p.tables e below (T623.setTop (mkF m 122 #[.val (.int p0), .val (.ref b1), .val (.int (11 : Int32)), .val (.ref x11), .val (.int (207 : Int32)), .unset] [])) _
      refine XS.iconst X623.here hx rfl (hb hby at_122) ?_
      show Steps p.tables e below (T623.setTop (mkF m 123 #[.val (.int p0), .val (.ref b1), .val (.int (11 : Int32)), .val (.ref x11), .val (.int (207 : Int32)), .unset] [(.int (0 : Int32))])) _
      refine XS.istore X623.here hx rfl (hb hby at_123) rfl (l' := #[.val (.int p0), .val (.ref b1), .val (.int (11 : Int32)), .val (.ref x11), .val (.int (207 : Int32)), .val (.int (0 : Int32))]) rfl ?_
      show Steps p.tables e below (T623.setTop (mkF m 125 #[.val (.int p0), .val (.ref b1), .val (.int (11 : Int32)), .val (.ref x11), .val (.int (207 : Int32)), .val (.int (0 : Int32))] [])) _
      refine XS.aloadN X623.here hx rfl (hb hby at_125) rfl rfl ?_
      show Steps p.tables e below (T623.setTop (mkF m 126 #[.val (.int p0), .val (.ref b1), .val (.int (11 : Int32)), .val (.ref x11), .val (.int (207 : Int32)), .val (.int (0 : Int32))] [(.ref x11)])) _
      refine st625.trans ?_
      show Steps p.tables e below (T625.setTop (mkF m 129 #[.val (.int p0), .val (.ref b1), .val (.int (11 : Int32)), .val (.ref x11), .val (.int (207 : Int32)), .val (.int (0 : Int32))] [(.int (0 : Int32))])) _
      refine XS.iload X625.here hx rfl (hb hby at_129) rfl ?_
      show Steps p.tables e below (T625.setTop (mkF m 131 #[.val (.int p0), .val (.ref b1), .val (.int (11 : Int32)), .val (.ref x11), .val (.int (207 : Int32)), .val (.int (0 : Int32))] [(.int (0 : Int32)), (.int (0 : Int32))])) _
      refine XS.icmpNo X625.here hx rfl (hb hby at_131) rfl (teq (by decide : (0 : Int32) = (0 : Int32))).2 ?_
      show Steps p.tables e below (T625.setTop (mkF m 134 #[.val (.int p0), .val (.ref b1), .val (.int (11 : Int32)), .val (.ref x11), .val (.int (207 : Int32)), .val (.int (0 : Int32))] [])) _
      refine XS.iconst X625.here hx rfl (hb hby at_134) ?_
      show Steps p.tables e below (T625.setTop (mkF m 135 #[.val (.int p0), .val (.ref b1), .val (.int (11 : Int32)), .val (.ref x11), .val (.int (207 : Int32)), .val (.int (0 : Int32))] [(.int (1 : Int32))])) _
      refine XS.goto X625.here hx rfl (pc0 := 135) (pc' := 139) rfl (hb hby at_135) (by decide) (by decide) ?_
      show Steps p.tables e below (T625.setTop (mkF m 139 #[.val (.int p0), .val (.ref b1), .val (.int (11 : Int32)), .val (.ref x11), .val (.int (207 : Int32)), .val (.int (0 : Int32))] [(.int (1 : Int32))])) _
      exact retN X625 hx (t := .boolean) Bd.returns (by simp) (hb hby at_139) hr
    · show Q0 Z p0 x0 x1 x2 x3 x4 x5 x6 x7 x8 x9 x10 x11 h0 n0 _ T625.heap _
      rw [R628]
      exact ⟨rfl, N625⟩
theorem own_fld {args : Array Value} {s : State} {t : Term} {a : Addr} {C n d : String} {z : Int32} (ev : t.eval args s none [] s = some (.ref a)) (h : (Jvm.Cond.eq (Jvm.Term.field t C n d) (Jvm.Term.int z)).value args s none s [] = some true) : Fld s s.heap a C n d (.int z) := by
  have e := fld_at (C := C) (n := n) (dd := d) (args := args) (first := s) (o := none) (idx := []) (s := s) ev
  cases hf : s.fieldOf? a C n d with
  | none => simp [Cond.value, Term.eval, ev, hf] at h
  | some v =>
    rw [hf] at e
    cases v with
    | int y =>
      have q := (Cond.eq_ints e (Term.int_eval z)).symm.trans h
      have q2 : y = z := by simpa using q
      subst q2
      exact Fld.start hf
    | _ => simp [Cond.value, Term.eval, ev, hf] at h
set_option maxRecDepth 65536 in
set_option maxHeartbeats 40000000 in
theorem comes_1 {Post : Tables → Env → Array Value → State → Outcome → State → Prop} (hpost : ∀ tb e args s v u, (limb_1_1.after args s (.returned v) u = true ∧ limb_1_2.after args s (.returned v) u = true ∧ True) → FrameEnd s (.returned v) u (Jvm.fieldLocs frame_1_writes args s ++ Jvm.arrayLocs frame_1_arrays args s ++ Jvm.staticLocs frame_1_statics s) 16 128 → Post tb e args s (.returned v) u) :
    ArmFor flags0 classFile x code maxLocals ret World_1 tables_1 room_1 Calls_1 rest_1 Pre_1 Post := by
  intro l hfl _ _ p e ha hc hk s m args below hf hA hF happ hP
  obtain ⟨hcalls, hrest, hpre⟩ := hP
  obtain ⟨-, -, -, hnamed, -, -, -, hat⟩ := (Spec.applies_iff hf).mp happ
  obtain ⟨hg, hn⟩ := and_e (Cond.before_iff.mp (show (Jvm.Cond.and given_1 narrow_1).before args s = true from hpre))
  obtain ⟨hcount, hg0⟩ := and_e hg
  obtain ⟨w0, rfl⟩ : ∃ w0 : Value, args = #[w0] := by
    have hs : args.size = 1 := by simpa [Cond.value, given_1] using hcount
    obtain ⟨L⟩ := args
    match L, hs with
    | [w0], _ => exact ⟨w0, rfl⟩
  have hw := fun d (hd : d ∈ tables_1) => atoms_spec (ws := Jvm.Cond.code x code maxLocals ret :: tables_1) hat d (List.mem_cons_of_mem _ hd)
  have hfit : Fit s := fun {y c} hc i hi => by
    obtain ⟨ha, rfl⟩ := Array.getElem?_eq_some_iff.mp hc
    have q := List.all_eq_true.mp ((Array.all_eq_true_iff_forall_mem.mp hF) _ (Array.getElem_mem ha)) i (List.mem_range.mpr hi)
    simpa [Array.getElem?_eq_getElem hi] using q
  obtain ⟨i0, ei0⟩ := is_v hg0
  obtain rfl : w0 = (.int i0) := Option.some.inj ei0
  obtain ⟨u0, v0⟩ := and_e hn
  obtain ⟨u1, v1⟩ := and_e v0
  obtain ⟨u2, v2⟩ := and_e v1
  obtain ⟨u3, v3⟩ := and_e v2
  obtain ⟨u4, v4⟩ := and_e v3
  obtain ⟨u5, v5⟩ := and_e v4
  obtain ⟨u6, v6⟩ := and_e v5
  obtain ⟨u7, v7⟩ := and_e v6
  obtain ⟨u8, v8⟩ := and_e v7
  obtain ⟨u9, v9⟩ := and_e v8
  obtain ⟨u10, v10⟩ := and_e v9
  obtain ⟨u11, v11⟩ := and_e v10
  obtain ⟨u12, v12⟩ := and_e v11
  obtain ⟨u13, v13⟩ := and_e v12
  obtain ⟨u14, v14⟩ := and_e v13
  obtain ⟨u15, v15⟩ := and_e v14
  obtain ⟨u16, v16⟩ := and_e v15
  obtain ⟨u17, v17⟩ := and_e v16
  obtain ⟨u18, v18⟩ := and_e v17
  obtain ⟨u19, v19⟩ := and_e v18
  obtain ⟨u20, v20⟩ := and_e v19
  obtain ⟨u21, v21⟩ := and_e v20
  obtain ⟨u22, v22⟩ := and_e v21
  obtain ⟨u23, v23⟩ := and_e v22
  obtain ⟨u24, v24⟩ := and_e v23
  obtain ⟨u25, v25⟩ := and_e v24
  obtain ⟨u26, v26⟩ := and_e v25
  obtain ⟨u27, v27⟩ := and_e v26
  obtain ⟨u28, v28⟩ := and_e v27
  obtain ⟨u29, v29⟩ := and_e v28
  obtain ⟨u30, v30⟩ := and_e v29
  obtain ⟨u31, v31⟩ := and_e v30
  obtain ⟨u32, v32⟩ := and_e v31
  obtain ⟨u33, v33⟩ := and_e v32
  obtain ⟨u34, v34⟩ := and_e v33
  obtain ⟨x0, e_x0⟩ := exa_v u0
  have E_x0 : Exa s s.heap x0 "com/example/notifiable/notifiable/conformance/ErrorCode" := Exa.start e_x0 u0
  have F_x0 : Fld s s.heap x0 "com/example/notifiable/notifiable/conformance/ErrorCode" "code" "I" (.int (100 : Int32)) := own_fld e_x0 u12
  have S_x0 : Sta s s.heap "com/example/notifiable/notifiable/conformance/ErrorCode" "SEGMENT_SEQUENCE_ERROR" "Lcom/example/notifiable/notifiable/conformance/ErrorCode;" (.ref x0) := Sta.start e_x0 (Or.inr ⟨(hw _ (List.mem_of_getElem? (i := 3) rfl)), (hw _ (List.mem_of_getElem? (i := 4) rfl))⟩)
  obtain ⟨x1, e_x1⟩ := exa_v u1
  have E_x1 : Exa s s.heap x1 "com/example/notifiable/notifiable/conformance/ErrorCode" := Exa.start e_x1 u1
  have F_x1 : Fld s s.heap x1 "com/example/notifiable/notifiable/conformance/ErrorCode" "code" "I" (.int (101 : Int32)) := own_fld e_x1 u28
  have S_x1 : Sta s s.heap "com/example/notifiable/notifiable/conformance/ErrorCode" "REQUIRED_FIELD_MISSING" "Lcom/example/notifiable/notifiable/conformance/ErrorCode;" (.ref x1) := Sta.start e_x1 (Or.inr ⟨(hw _ (List.mem_of_getElem? (i := 3) rfl)), (hw _ (List.mem_of_getElem? (i := 7) rfl))⟩)
  obtain ⟨x2, e_x2⟩ := exa_v u2
  have E_x2 : Exa s s.heap x2 "com/example/notifiable/notifiable/conformance/ErrorCode" := Exa.start e_x2 u2
  have F_x2 : Fld s s.heap x2 "com/example/notifiable/notifiable/conformance/ErrorCode" "code" "I" (.int (102 : Int32)) := own_fld e_x2 u20
  have S_x2 : Sta s s.heap "com/example/notifiable/notifiable/conformance/ErrorCode" "DATA_TYPE_ERROR" "Lcom/example/notifiable/notifiable/conformance/ErrorCode;" (.ref x2) := Sta.start e_x2 (Or.inr ⟨(hw _ (List.mem_of_getElem? (i := 3) rfl)), (hw _ (List.mem_of_getElem? (i := 9) rfl))⟩)
  obtain ⟨x3, e_x3⟩ := exa_v u3
  have E_x3 : Exa s s.heap x3 "com/example/notifiable/notifiable/conformance/ErrorCode" := Exa.start e_x3 u3
  have F_x3 : Fld s s.heap x3 "com/example/notifiable/notifiable/conformance/ErrorCode" "code" "I" (.int (103 : Int32)) := own_fld e_x3 u18
  have S_x3 : Sta s s.heap "com/example/notifiable/notifiable/conformance/ErrorCode" "TABLE_VALUE_NOT_FOUND" "Lcom/example/notifiable/notifiable/conformance/ErrorCode;" (.ref x3) := Sta.start e_x3 (Or.inr ⟨(hw _ (List.mem_of_getElem? (i := 3) rfl)), (hw _ (List.mem_of_getElem? (i := 11) rfl))⟩)
  obtain ⟨x4, e_x4⟩ := exa_v u4
  have E_x4 : Exa s s.heap x4 "com/example/notifiable/notifiable/conformance/ErrorCode" := Exa.start e_x4 u4
  have F_x4 : Fld s s.heap x4 "com/example/notifiable/notifiable/conformance/ErrorCode" "code" "I" (.int (200 : Int32)) := own_fld e_x4 u25
  have S_x4 : Sta s s.heap "com/example/notifiable/notifiable/conformance/ErrorCode" "UNSUPPORTED_MESSAGE_TYPE" "Lcom/example/notifiable/notifiable/conformance/ErrorCode;" (.ref x4) := Sta.start e_x4 (Or.inr ⟨(hw _ (List.mem_of_getElem? (i := 3) rfl)), (hw _ (List.mem_of_getElem? (i := 13) rfl))⟩)
  obtain ⟨x5, e_x5⟩ := exa_v u5
  have E_x5 : Exa s s.heap x5 "com/example/notifiable/notifiable/conformance/ErrorCode" := Exa.start e_x5 u5
  have F_x5 : Fld s s.heap x5 "com/example/notifiable/notifiable/conformance/ErrorCode" "code" "I" (.int (201 : Int32)) := own_fld e_x5 v34
  have S_x5 : Sta s s.heap "com/example/notifiable/notifiable/conformance/ErrorCode" "UNSUPPORTED_EVENT_CODE" "Lcom/example/notifiable/notifiable/conformance/ErrorCode;" (.ref x5) := Sta.start e_x5 (Or.inr ⟨(hw _ (List.mem_of_getElem? (i := 3) rfl)), (hw _ (List.mem_of_getElem? (i := 15) rfl))⟩)
  obtain ⟨x6, e_x6⟩ := exa_v u6
  have E_x6 : Exa s s.heap x6 "com/example/notifiable/notifiable/conformance/ErrorCode" := Exa.start e_x6 u6
  have F_x6 : Fld s s.heap x6 "com/example/notifiable/notifiable/conformance/ErrorCode" "code" "I" (.int (202 : Int32)) := own_fld e_x6 u34
  have S_x6 : Sta s s.heap "com/example/notifiable/notifiable/conformance/ErrorCode" "UNSUPPORTED_PROCESSING_ID" "Lcom/example/notifiable/notifiable/conformance/ErrorCode;" (.ref x6) := Sta.start e_x6 (Or.inr ⟨(hw _ (List.mem_of_getElem? (i := 3) rfl)), (hw _ (List.mem_of_getElem? (i := 17) rfl))⟩)
  obtain ⟨x7, e_x7⟩ := exa_v u7
  have E_x7 : Exa s s.heap x7 "com/example/notifiable/notifiable/conformance/ErrorCode" := Exa.start e_x7 u7
  have F_x7 : Fld s s.heap x7 "com/example/notifiable/notifiable/conformance/ErrorCode" "code" "I" (.int (203 : Int32)) := own_fld e_x7 u22
  have S_x7 : Sta s s.heap "com/example/notifiable/notifiable/conformance/ErrorCode" "UNSUPPORTED_VERSION_ID" "Lcom/example/notifiable/notifiable/conformance/ErrorCode;" (.ref x7) := Sta.start e_x7 (Or.inr ⟨(hw _ (List.mem_of_getElem? (i := 3) rfl)), (hw _ (List.mem_of_getElem? (i := 19) rfl))⟩)
  obtain ⟨x8, e_x8⟩ := exa_v u8
  have E_x8 : Exa s s.heap x8 "com/example/notifiable/notifiable/conformance/ErrorCode" := Exa.start e_x8 u8
  have F_x8 : Fld s s.heap x8 "com/example/notifiable/notifiable/conformance/ErrorCode" "code" "I" (.int (204 : Int32)) := own_fld e_x8 u26
  have S_x8 : Sta s s.heap "com/example/notifiable/notifiable/conformance/ErrorCode" "UNKNOWN_KEY_IDENTIFIER" "Lcom/example/notifiable/notifiable/conformance/ErrorCode;" (.ref x8) := Sta.start e_x8 (Or.inr ⟨(hw _ (List.mem_of_getElem? (i := 3) rfl)), (hw _ (List.mem_of_getElem? (i := 21) rfl))⟩)
  obtain ⟨x9, e_x9⟩ := exa_v u9
  have E_x9 : Exa s s.heap x9 "com/example/notifiable/notifiable/conformance/ErrorCode" := Exa.start e_x9 u9
  have F_x9 : Fld s s.heap x9 "com/example/notifiable/notifiable/conformance/ErrorCode" "code" "I" (.int (205 : Int32)) := own_fld e_x9 u32
  have S_x9 : Sta s s.heap "com/example/notifiable/notifiable/conformance/ErrorCode" "DUPLICATE_KEY_IDENTIFIER" "Lcom/example/notifiable/notifiable/conformance/ErrorCode;" (.ref x9) := Sta.start e_x9 (Or.inr ⟨(hw _ (List.mem_of_getElem? (i := 3) rfl)), (hw _ (List.mem_of_getElem? (i := 23) rfl))⟩)
  obtain ⟨x10, e_x10⟩ := exa_v u10
  have E_x10 : Exa s s.heap x10 "com/example/notifiable/notifiable/conformance/ErrorCode" := Exa.start e_x10 u10
  have F_x10 : Fld s s.heap x10 "com/example/notifiable/notifiable/conformance/ErrorCode" "code" "I" (.int (206 : Int32)) := own_fld e_x10 u30
  have S_x10 : Sta s s.heap "com/example/notifiable/notifiable/conformance/ErrorCode" "APPLICATION_RECORD_LOCKED" "Lcom/example/notifiable/notifiable/conformance/ErrorCode;" (.ref x10) := Sta.start e_x10 (Or.inr ⟨(hw _ (List.mem_of_getElem? (i := 3) rfl)), (hw _ (List.mem_of_getElem? (i := 25) rfl))⟩)
  obtain ⟨x11, e_x11⟩ := exa_v u11
  have E_x11 : Exa s s.heap x11 "com/example/notifiable/notifiable/conformance/ErrorCode" := Exa.start e_x11 u11
  have F_x11 : Fld s s.heap x11 "com/example/notifiable/notifiable/conformance/ErrorCode" "code" "I" (.int (207 : Int32)) := own_fld e_x11 u23
  have S_x11 : Sta s s.heap "com/example/notifiable/notifiable/conformance/ErrorCode" "APPLICATION_INTERNAL_ERROR" "Lcom/example/notifiable/notifiable/conformance/ErrorCode;" (.ref x11) := Sta.start e_x11 (Or.inr ⟨(hw _ (List.mem_of_getElem? (i := 3) rfl)), (hw _ (List.mem_of_getElem? (i := 27) rfl))⟩)
  obtain ⟨n, o, h1, h2, h3, _, L, rfl, ⟨rfl, N⟩, hq⟩ := rm0 l s _ hw tables_1 i0 x0 x1 x2 x3 x4 x5 x6 x7 x8 x9 x10 x11 s.heap s.heap.size (Nat.le_refl _) S_x0 S_x1 S_x2 S_x3 S_x4 S_x5 S_x6 S_x7 S_x8 S_x9 S_x10 S_x11 E_x0 E_x1 E_x2 E_x3 E_x4 E_x5 E_x6 E_x7 E_x8 E_x9 E_x10 E_x11 F_x0 F_x1 F_x2 F_x3 F_x4 F_x5 F_x6 F_x7 F_x8 F_x9 F_x10 F_x11 p e ha hc hk s m _ below hf ((Spec.applies_iff_loose hf).mp happ).1 ⟨rfl, State.Warmed39.refl s, rfl⟩ trivial
  exact ⟨n, _, h1, h2, h3, hpost _ _ _ _ _ _ ⟨Cond.after_iff.mpr rfl, Cond.after_iff.mpr (eq_i res_at (Term.int_eval (1)) rfl), trivial⟩ ⟨hq.1, hq.2.1, (hq.2.2.sift fun y hy => Or.inr (N y hy)).mono (by decide) (by decide)⟩⟩
theorem main_1_1 : Claimed_1_1 := comes_1 fun _ _ _ _ _ _ h hF => ⟨h.1, hF⟩
theorem main_1_2 : Claimed_1_2 := comes_1 fun _ _ _ _ _ _ h hF => ⟨h.2.1, hF⟩
end Jvm.Pilot.@@N@@
namespace Jvm.Pilot.@@N@@
open Jvm Jvm.ClassFile Sem Op Lib Jvm.Free Jvm.Stand Jvm.Pilot.@@N@@.Jvm.D
/-! MADE BY PROGRAM (witnessworld.py) out of the Statement's table words and the real class files: 13 classes; the members and pool entries that the words name. The judged class is class 1, her method 1. -/
namespace start1
open Jvm.ClassFile
def u (s : String) : CpInfo := .utf8 (stringToUtf16 s)
/-- a pool by its gaps: so many unusable entries, then the entry; so many at the end -/
def gap : Nat → List CpInfo → List CpInfo
  | 0, r => r
  | n + 1, r => .unusable :: gap n r
def poolList (es : List (Nat × CpInfo)) (last : Nat) : List CpInfo := es.foldr (fun e r => gap e.1 (e.2 :: r)) (gap last [])
def pool (es : List (Nat × CpInfo)) (last : Nat) : Array CpInfo := ⟨poolList es last⟩
def fileOf (pool : Array CpInfo) (this : Nat) (attrs : Array Attribute := #[]) (ms : Array MethodInfo := #[]) (fl : Nat := 33) (sup : Nat := 0) (ifs : Array Nat := #[]) (fds : Array FieldInfo := #[]) : ClassFile where
  minorVersion := 0
  majorVersion := 65
  constantPool := pool
  accessFlags := fl
  thisClass := this
  superClass := sup
  interfaces := ifs
  fields := fds
  methods := ms
  attributes := attrs
def plain (name : String) (sup : Option ClassId) : Class where
  name := name
  kind := .ordinary
  loader := none
  accessFlags := 33
  super := sup
  interfaces := #[]
  cf := none
  fields := #[]
  methods := #[]
  instanceTypes := #[]
  staticTypes := #[]
  resolved := #[]
  callSites := []
  init := .initialized
  statics := none
  mirror := none

def pool0 : Array CpInfo := pool [(5, u "<init>"), (0, u "()V"), (1, .class_ 10), (1, u "java/lang/Object")] 113

def k0m0 : Method := { name := "<init>", desc := "()V", sig := { parameters := [], returnType := none }, accessFlags := 1, code := none }
/-- java/lang/Object -/
def k0 : Class := { plain "java/lang/Object" none with
  accessFlags := 33
  interfaces := #[]
  cf := some (fileOf pool0 8 #[] #[{ accessFlags := 1, nameIndex := 5, descriptorIndex := 6, attributes := #[] }] 33 0 #[] #[])
  fields := #[]
  methods := #[k0m0]
  instanceTypes := #[]
  staticTypes := #[]
  resolved := Array.replicate 124 none
  statics := none }

def pool1 : Array CpInfo := pool [(2, .class_ 4), (1, u "java/lang/Object"), (0, u "<init>"), (0, u "()V"), (0, .class_ 8), (0, u "com/example/notifiable/notifiable/conformance/ErrorCode"), (0, .fieldref 7 10), (0, .nameAndType 11 12), (0, u "SEGMENT_SEQUENCE_ERROR"), (0, u "Lcom/example/notifiable/notifiable/conformance/ErrorCode;"), (0, .fieldref 7 14), (0, .nameAndType 15 12), (0, u "REQUIRED_FIELD_MISSING"), (0, .fieldref 7 17), (0, .nameAndType 18 12), (0, u "DATA_TYPE_ERROR"), (0, .fieldref 7 20), (0, .nameAndType 21 12), (0, u "TABLE_VALUE_NOT_FOUND"), (0, .fieldref 7 23), (0, .nameAndType 24 12), (0, u "UNSUPPORTED_MESSAGE_TYPE"), (0, .fieldref 7 26), (0, .nameAndType 27 12), (0, u "UNSUPPORTED_EVENT_CODE"), (0, .fieldref 7 29), (0, .nameAndType 30 12), (0, u "UNSUPPORTED_PROCESSING_ID"), (0, .fieldref 7 32), (0, .nameAndType 33 12), (0, u "UNSUPPORTED_VERSION_ID"), (0, .fieldref 7 35), (0, .nameAndType 36 12), (0, u "UNKNOWN_KEY_IDENTIFIER"), (0, .fieldref 7 38), (0, .nameAndType 39 12), (0, u "DUPLICATE_KEY_IDENTIFIER"), (0, .fieldref 7 41), (0, .nameAndType 42 12), (0, u "APPLICATION_RECORD_LOCKED"), (0, .fieldref 7 44), (0, .nameAndType 45 12), (0, u "APPLICATION_INTERNAL_ERROR"), (0, .integer 2147483647), (0, .methodref 7 48), (0, .nameAndType 49 50), (0, u "code"), (0, u "()I"), (0, .methodref 7 52), (0, .nameAndType 53 54), (0, u "rejects"), (0, u "()Z"), (0, .class_ 56), (0, u "com/example/notifiable/notifiable/conformance/ErrorCodeRejectsPinLaw"), (2, u "law"), (0, u "(I)Z")] 5

def k1m0 : Method := { name := "<init>", desc := "()V", sig := { parameters := [], returnType := none }, accessFlags := 1, code := none }
def k1c1 : Code := { maxStack := 4, maxLocals := 6, code := code, exceptionTable := #[], attributes := #[] }
def k1m1 : Method := { name := "law", desc := "(I)Z", sig := { parameters := [.int], returnType := some .boolean }, accessFlags := 9, code := some k1c1 }
/-- com/example/notifiable/notifiable/conformance/ErrorCodeRejectsPinLaw -/
def k1 : Class := { plain "com/example/notifiable/notifiable/conformance/ErrorCodeRejectsPinLaw" (some 0) with
  accessFlags := 49
  interfaces := #[]
  cf := some (fileOf pool1 55 #[] #[{ accessFlags := 1, nameIndex := 5, descriptorIndex := 6, attributes := #[] }, { accessFlags := 9, nameIndex := 59, descriptorIndex := 60, attributes := #[] }] 49 2 #[] #[])
  fields := #[]
  methods := #[k1m0, k1m1]
  instanceTypes := #[]
  staticTypes := #[]
  resolved := Array.replicate 66 none
  statics := none }

def pool2 : Array CpInfo := pool [(1, .class_ 2), (0, u "java/lang/constant/Constable"), (0, .class_ 4), (0, u "java/lang/Object")] 6

/-- java/lang/constant/Constable -/
def k2 : Class := { plain "java/lang/constant/Constable" (some 0) with
  accessFlags := 1537
  interfaces := #[]
  cf := some (fileOf pool2 1 #[] #[] 1537 3 #[] #[])
  fields := #[]
  methods := #[]
  instanceTypes := #[]
  staticTypes := #[]
  resolved := Array.replicate 11 none
  statics := none }

def pool3 : Array CpInfo := pool [(1, .class_ 2), (0, u "java/lang/Comparable"), (0, .class_ 4), (0, u "java/lang/Object")] 7

/-- java/lang/Comparable -/
def k3 : Class := { plain "java/lang/Comparable" (some 0) with
  accessFlags := 1537
  interfaces := #[]
  cf := some (fileOf pool3 1 #[] #[] 1537 3 #[] #[])
  fields := #[]
  methods := #[]
  instanceTypes := #[]
  staticTypes := #[]
  resolved := Array.replicate 12 none
  statics := none }

def pool4 : Array CpInfo := pool [(1, .class_ 2), (0, u "java/io/Serializable"), (0, .class_ 4), (0, u "java/lang/Object")] 2

/-- java/io/Serializable -/
def k4 : Class := { plain "java/io/Serializable" (some 0) with
  accessFlags := 1537
  interfaces := #[]
  cf := some (fileOf pool4 1 #[] #[] 1537 3 #[] #[])
  fields := #[]
  methods := #[]
  instanceTypes := #[]
  staticTypes := #[]
  resolved := Array.replicate 7 none
  statics := none }

def pool5 : Array CpInfo := pool [(2, .class_ 4), (1, u "java/lang/Enum"), (0, u "name"), (0, u "Ljava/lang/String;"), (2, u "ordinal"), (0, u "I"), (1, .class_ 14), (1, u "java/lang/Object"), (4, u "hash"), (86, .class_ 108), (1, u "java/lang/Enum$EnumDesc"), (2, .class_ 112), (0, u "java/lang/constant/Constable"), (0, .class_ 114), (0, u "java/lang/Comparable"), (0, .class_ 116), (0, u "java/io/Serializable")] 87

/-- java/lang/Enum -/
def k5 : Class := { plain "java/lang/Enum" (some 0) with
  accessFlags := 1057
  interfaces := #[2, 3, 4]
  cf := some (fileOf pool5 2 #[.nestMembers #[106]] #[] 1057 12 #[111, 113, 115] #[{ accessFlags := 18, nameIndex := 5, descriptorIndex := 6, attributes := #[] }, { accessFlags := 18, nameIndex := 9, descriptorIndex := 10, attributes := #[] }, { accessFlags := 2, nameIndex := 19, descriptorIndex := 10, attributes := #[] }])
  fields := #[{ name := "name", type := (.object "java/lang/String"), accessFlags := 18, slot := 0, constantValue := 0 }, { name := "ordinal", type := .int, accessFlags := 18, slot := 1, constantValue := 0 }, { name := "hash", type := .int, accessFlags := 2, slot := 2, constantValue := 0 }]
  methods := #[]
  instanceTypes := #[(.object "java/lang/String"), .int, .int]
  staticTypes := #[]
  resolved := Array.replicate 204 none
  statics := none }

def pool6 : Array CpInfo := pool [(1, .class_ 2), (0, u "com/example/notifiable/notifiable/conformance/ErrorCode"), (2, u "SEGMENT_SEQUENCE_ERROR"), (0, u "Lcom/example/notifiable/notifiable/conformance/ErrorCode;"), (2, u "REQUIRED_FIELD_MISSING"), (2, u "DATA_TYPE_ERROR"), (2, u "TABLE_VALUE_NOT_FOUND"), (0, .fieldref 1 17), (0, .nameAndType 18 6), (0, u "UNSUPPORTED_MESSAGE_TYPE"), (0, .fieldref 1 20), (0, .nameAndType 21 6), (0, u "UNSUPPORTED_EVENT_CODE"), (0, .fieldref 1 23), (0, .nameAndType 24 6), (0, u "UNSUPPORTED_PROCESSING_ID"), (0, .fieldref 1 26), (0, .nameAndType 27 6), (0, u "UNSUPPORTED_VERSION_ID"), (2, u "UNKNOWN_KEY_IDENTIFIER"), (2, u "DUPLICATE_KEY_IDENTIFIER"), (2, u "APPLICATION_RECORD_LOCKED"), (2, u "APPLICATION_INTERNAL_ERROR"), (2, u "$VALUES"), (0, u "[Lcom/example/notifiable/notifiable/conformance/ErrorCode;"), (6, .class_ 52), (1, u "java/lang/Enum"), (6, .fieldref 1 60), (0, .nameAndType 61 62), (0, u "code"), (0, u "I"), (2, u "description"), (0, u "Ljava/lang/String;"), (62, u "()I"), (1, u "rejects"), (0, u "()Z")] 8

def k6c0 : Code := { maxStack := 1, maxLocals := 1, code := prog_31_method_4_code, exceptionTable := #[], attributes := #[] }
def k6m0 : Method := { name := "code", desc := "()I", sig := { parameters := [], returnType := some .int }, accessFlags := 1, code := some k6c0 }
def k6c1 : Code := { maxStack := 2, maxLocals := 1, code := prog_31_method_6_code, exceptionTable := #[], attributes := #[] }
def k6m1 : Method := { name := "rejects", desc := "()Z", sig := { parameters := [], returnType := some .boolean }, accessFlags := 0, code := some k6c1 }
/-- com/example/notifiable/notifiable/conformance/ErrorCode -/
def k6 : Class := { plain "com/example/notifiable/notifiable/conformance/ErrorCode" (some 5) with
  accessFlags := 16433
  interfaces := #[]
  cf := some (fileOf pool6 1 #[] #[{ accessFlags := 1, nameIndex := 61, descriptorIndex := 129, attributes := #[] }, { accessFlags := 0, nameIndex := 131, descriptorIndex := 132, attributes := #[] }] 16433 50 #[] #[{ accessFlags := 16409, nameIndex := 5, descriptorIndex := 6, attributes := #[] }, { accessFlags := 16409, nameIndex := 9, descriptorIndex := 6, attributes := #[] }, { accessFlags := 16409, nameIndex := 12, descriptorIndex := 6, attributes := #[] }, { accessFlags := 16409, nameIndex := 15, descriptorIndex := 6, attributes := #[] }, { accessFlags := 16409, nameIndex := 18, descriptorIndex := 6, attributes := #[] }, { accessFlags := 16409, nameIndex := 21, descriptorIndex := 6, attributes := #[] }, { accessFlags := 16409, nameIndex := 24, descriptorIndex := 6, attributes := #[] }, { accessFlags := 16409, nameIndex := 27, descriptorIndex := 6, attributes := #[] }, { accessFlags := 16409, nameIndex := 30, descriptorIndex := 6, attributes := #[] }, { accessFlags := 16409, nameIndex := 33, descriptorIndex := 6, attributes := #[] }, { accessFlags := 16409, nameIndex := 36, descriptorIndex := 6, attributes := #[] }, { accessFlags := 16409, nameIndex := 39, descriptorIndex := 6, attributes := #[] }, { accessFlags := 18, nameIndex := 61, descriptorIndex := 62, attributes := #[] }, { accessFlags := 18, nameIndex := 65, descriptorIndex := 66, attributes := #[] }, { accessFlags := 4122, nameIndex := 42, descriptorIndex := 43, attributes := #[] }])
  fields := #[{ name := "SEGMENT_SEQUENCE_ERROR", type := (.object "com/example/notifiable/notifiable/conformance/ErrorCode"), accessFlags := 16409, slot := 0, constantValue := 0 }, { name := "REQUIRED_FIELD_MISSING", type := (.object "com/example/notifiable/notifiable/conformance/ErrorCode"), accessFlags := 16409, slot := 1, constantValue := 0 }, { name := "DATA_TYPE_ERROR", type := (.object "com/example/notifiable/notifiable/conformance/ErrorCode"), accessFlags := 16409, slot := 2, constantValue := 0 }, { name := "TABLE_VALUE_NOT_FOUND", type := (.object "com/example/notifiable/notifiable/conformance/ErrorCode"), accessFlags := 16409, slot := 3, constantValue := 0 }, { name := "UNSUPPORTED_MESSAGE_TYPE", type := (.object "com/example/notifiable/notifiable/conformance/ErrorCode"), accessFlags := 16409, slot := 4, constantValue := 0 }, { name := "UNSUPPORTED_EVENT_CODE", type := (.object "com/example/notifiable/notifiable/conformance/ErrorCode"), accessFlags := 16409, slot := 5, constantValue := 0 }, { name := "UNSUPPORTED_PROCESSING_ID", type := (.object "com/example/notifiable/notifiable/conformance/ErrorCode"), accessFlags := 16409, slot := 6, constantValue := 0 }, { name := "UNSUPPORTED_VERSION_ID", type := (.object "com/example/notifiable/notifiable/conformance/ErrorCode"), accessFlags := 16409, slot := 7, constantValue := 0 }, { name := "UNKNOWN_KEY_IDENTIFIER", type := (.object "com/example/notifiable/notifiable/conformance/ErrorCode"), accessFlags := 16409, slot := 8, constantValue := 0 }, { name := "DUPLICATE_KEY_IDENTIFIER", type := (.object "com/example/notifiable/notifiable/conformance/ErrorCode"), accessFlags := 16409, slot := 9, constantValue := 0 }, { name := "APPLICATION_RECORD_LOCKED", type := (.object "com/example/notifiable/notifiable/conformance/ErrorCode"), accessFlags := 16409, slot := 10, constantValue := 0 }, { name := "APPLICATION_INTERNAL_ERROR", type := (.object "com/example/notifiable/notifiable/conformance/ErrorCode"), accessFlags := 16409, slot := 11, constantValue := 0 }, { name := "code", type := .int, accessFlags := 18, slot := 3, constantValue := 0 }, { name := "description", type := (.object "java/lang/String"), accessFlags := 18, slot := 4, constantValue := 0 }, { name := "$VALUES", type := (.array (.object "com/example/notifiable/notifiable/conformance/ErrorCode")), accessFlags := 4122, slot := 12, constantValue := 0 }]
  methods := #[k6m0, k6m1]
  instanceTypes := #[(.object "java/lang/String"), .int, .int, .int, (.object "java/lang/String")]
  staticTypes := #[(.object "com/example/notifiable/notifiable/conformance/ErrorCode"), (.object "com/example/notifiable/notifiable/conformance/ErrorCode"), (.object "com/example/notifiable/notifiable/conformance/ErrorCode"), (.object "com/example/notifiable/notifiable/conformance/ErrorCode"), (.object "com/example/notifiable/notifiable/conformance/ErrorCode"), (.object "com/example/notifiable/notifiable/conformance/ErrorCode"), (.object "com/example/notifiable/notifiable/conformance/ErrorCode"), (.object "com/example/notifiable/notifiable/conformance/ErrorCode"), (.object "com/example/notifiable/notifiable/conformance/ErrorCode"), (.object "com/example/notifiable/notifiable/conformance/ErrorCode"), (.object "com/example/notifiable/notifiable/conformance/ErrorCode"), (.object "com/example/notifiable/notifiable/conformance/ErrorCode"), (.array (.object "com/example/notifiable/notifiable/conformance/ErrorCode"))]
  resolved := Array.replicate 141 none
  statics := some 0 }

def pool7 : Array CpInfo := pool [(1, u "java/lang/Cloneable"), (0, .class_ 1), (0, u "java/lang/Object"), (0, .class_ 3)] 3

/-- java/lang/Cloneable -/
def k7 : Class := { plain "java/lang/Cloneable" (some 0) with
  accessFlags := 1537
  interfaces := #[]
  cf := some (fileOf pool7 2 #[] #[] 1537 4 #[] #[])
  fields := #[]
  methods := #[]
  instanceTypes := #[]
  staticTypes := #[]
  resolved := Array.replicate 8 none
  statics := none }

/-- the primitive byte -/
def k8 : Class := { plain "byte" none with kind := .primitive 'B', accessFlags := 0x411 }
/-- [B -/
def k9 : Class := { plain "[B" (some 0) with kind := .array 8 .byte, interfaces := #[7, 4], accessFlags := 1041 }

/-- the primitive int -/
def k10 : Class := { plain "int" none with kind := .primitive 'I', accessFlags := 0x411 }
/-- [I -/
def k11 : Class := { plain "[I" (some 0) with kind := .array 10 .int, interfaces := #[7, 4], accessFlags := 1041 }

/-- [Lcom/example/notifiable/notifiable/conformance/ErrorCode; -/
def k12 : Class := { plain "[Lcom/example/notifiable/notifiable/conformance/ErrorCode;" (some 0) with kind := .array 6 (.object "com/example/notifiable/notifiable/conformance/ErrorCode"), interfaces := #[7, 4], accessFlags := 1041 }

def heap : Heap := #[{ cls := 6, slots := #[.ref 1, .ref 2, .ref 3, .ref 4, .ref 5, .ref 6, .ref 7, .ref 8, .ref 9, .ref 10, .ref 11, .ref 12, .null], vm := .statics 6 },
  { cls := 6, slots := #[.null, .int 0, .int 0, .int 100, .null], vm := .none },
  { cls := 6, slots := #[.null, .int 1, .int 0, .int 101, .null], vm := .none },
  { cls := 6, slots := #[.null, .int 2, .int 0, .int 102, .null], vm := .none },
  { cls := 6, slots := #[.null, .int 3, .int 0, .int 103, .null], vm := .none },
  { cls := 6, slots := #[.null, .int 4, .int 0, .int 200, .null], vm := .none },
  { cls := 6, slots := #[.null, .int 5, .int 0, .int 201, .null], vm := .none },
  { cls := 6, slots := #[.null, .int 6, .int 0, .int 202, .null], vm := .none },
  { cls := 6, slots := #[.null, .int 7, .int 0, .int 203, .null], vm := .none },
  { cls := 6, slots := #[.null, .int 8, .int 0, .int 204, .null], vm := .none },
  { cls := 6, slots := #[.null, .int 9, .int 0, .int 205, .null], vm := .none },
  { cls := 6, slots := #[.null, .int 10, .int 0, .int 206, .null], vm := .none },
  { cls := 6, slots := #[.null, .int 11, .int 0, .int 207, .null], vm := .none }]
def classes : Array Class := #[k0, k1, k2, k3, k4, k5, k6, k7, k8, k9, k10, k11, k12]
def interned : List (Array UInt16 × Addr) := []
def slotsUsed : Nat := 73
def theMethod : MethodId := ⟨1, 1⟩
def args0 : Array Value := #[.int 5]
def aboutOver (below : List Frame) : State where
  vm := { classes := classes, interned := interned.toArray }
  heap := heap
  slotsUsed := slotsUsed
  threads := #[{ frames := .invoking theMethod args0 :: below }]
def below0 : List Frame := [.native { method := ⟨0, 0⟩, args := #[] }]
def about1 : State := aboutOver below0
def p0 : Program := .bare "" "" ""
def e0 : Env := launch0.env 0 0 0
theorem w_frames : about1.frames = Frame.invoking theMethod args0 :: below0 := rfl
set_option maxRecDepth 65536 in
theorem w_args : argsFit about1.vm theMethod args0 = true := by decide +kernel
set_option maxRecDepth 65536 in
theorem w_heap : heapFits about1 = true := by decide +kernel
set_option maxRecDepth 65536 in
theorem w_runnable : about1.curStatus? = some .runnable := by decide +kernel
set_option maxRecDepth 65536 in
theorem w_alone : about1.alone = true := by decide +kernel
set_option maxRecDepth 65536 in
theorem w_named : about1.methodNamed? x = some theMethod := by decide +kernel
set_option maxRecDepth 65536 in
theorem w_hears : about1.hears theMethod below0 = true := by decide +kernel
set_option maxRecDepth 65536 in
theorem w_ripe : about1.ripe theMethod args0 below0 = true := by decide +kernel
theorem w_running : about1.status = .running := rfl
set_option maxRecDepth 65536 in
theorem w_room : about1.hasRoom e0.platform room_1 = true :=
  launch0.hasRoom_least _ room_1 (by decide +kernel) (by decide +kernel) (by decide +kernel) (by decide +kernel) (by decide +kernel) (by decide +kernel)
theorem allAtoms_all (ts : List Jvm.Cond) (a : Array Jvm.Value) (st : Jvm.State) : (allAtoms ts).before a st = ts.all (fun c => c.before a st) := by
  induction ts with
  | nil => rfl
  | cons c t ih =>
    show (Jvm.Cond.and c (allAtoms t)).before a st = _
    rw [Jvm.Cond.before_and, ih, List.all_cons]
def words1 : List Jvm.Cond := Jvm.Cond.code x code maxLocals ret :: tables_1
/-- a 'code' word, met by the world's own term for the bytes: nothing is compared byte by byte -/
theorem code_word {y : MethodName} {bytes : ByteArray} {mx : Nat} {rt : Option FieldType} {a : Array Value} {s : State} {m : MethodId} {meth : Method} {c : Code} (h1 : s.methodNamed? y = some m) (h2 : s.vm.method? m = some meth) (h3 : meth.code = some c) (h4 : c.code = bytes)
    (h5 : (c.maxLocals == mx && c.exceptionTable.isEmpty && decide (c.maxStack ≤ mostOperands) && decide (meth.sig.returnType = rt) && !meth.locks && decide (parseMethodDescriptor y.desc = some meth.sig)) = true) : (Jvm.Cond.code y bytes mx rt).before a s = true := by
  simp only [Bool.and_eq_true, beq_iff_eq, Bool.not_eq_true', decide_eq_true_eq] at h5
  obtain ⟨⟨⟨⟨⟨g1, g2⟩, g3⟩, g4⟩, g5⟩, g6⟩ := h5
  simp [Cond.before, Cond.holds, Cond.value, h1, h2, h3, h4, g1, g2, g3, g4, g5, g6]
def isCode : Jvm.Cond → Bool
  | .code _ _ _ _ => true
  | _ => false
theorem all_split {L : List Jvm.Cond} {P : Jvm.Cond → Bool} (h1 : L.all (fun c => isCode c || P c) = true) (h2 : ∀ c ∈ L.filter isCode, P c = true) : L.all P = true := by
  refine List.all_eq_true.mpr fun c hc => ?_
  have h := List.all_eq_true.mp h1 c hc
  rcases Bool.eq_false_or_eq_true (isCode c) with hi | hi
  · exact h2 c (List.mem_filter.mpr ⟨hc, hi⟩)
  · simpa [hi] using h
set_option maxRecDepth 65536 in
theorem w_c0 : (Jvm.Cond.code x code maxLocals ret).before args0 about1 = true := code_word (m := ⟨1, 1⟩) (meth := k1m1) (c := k1c1) (by decide +kernel) rfl rfl rfl (by decide +kernel)
set_option maxRecDepth 65536 in
theorem w_c1 : (Jvm.Cond.code ({ cls := "com/example/notifiable/notifiable/conformance/ErrorCode", name := "code", desc := "()I" } : Jvm.MethodName) prog_31_method_4_code (1 : Nat) (Option.some Jvm.ClassFile.FieldType.int)).before args0 about1 = true := code_word (m := ⟨6, 0⟩) (meth := k6m0) (c := k6c0) (by decide +kernel) rfl rfl rfl (by decide +kernel)
set_option maxRecDepth 65536 in
theorem w_c2 : (Jvm.Cond.code ({ cls := "com/example/notifiable/notifiable/conformance/ErrorCode", name := "rejects", desc := "()Z" } : Jvm.MethodName) prog_31_method_6_code (1 : Nat) (Option.some Jvm.ClassFile.FieldType.boolean)).before args0 about1 = true := code_word (m := ⟨6, 1⟩) (meth := k6m1) (c := k6c1) (by decide +kernel) rfl rfl rfl (by decide +kernel)
def codes1 : List Jvm.Cond := [Jvm.Cond.code x code maxLocals ret, Jvm.Cond.code ({ cls := "com/example/notifiable/notifiable/conformance/ErrorCode", name := "code", desc := "()I" } : Jvm.MethodName) prog_31_method_4_code (1 : Nat) (Option.some Jvm.ClassFile.FieldType.int), Jvm.Cond.code ({ cls := "com/example/notifiable/notifiable/conformance/ErrorCode", name := "rejects", desc := "()Z" } : Jvm.MethodName) prog_31_method_6_code (1 : Nat) (Option.some Jvm.ClassFile.FieldType.boolean)]
set_option maxRecDepth 65536 in
theorem codes_eq : words1.filter isCode = codes1 := rfl
theorem w_codes : ∀ c ∈ words1.filter isCode, c.before args0 about1 = true := by
  rw [codes_eq]
  intro c hc
  simp only [codes1, List.mem_cons, List.not_mem_nil, or_false] at hc
  rcases hc with rfl | rfl | rfl
  · exact w_c0
  · exact w_c1
  · exact w_c2
set_option maxRecDepth 65536 in
theorem w_t1 : (words1.take 24).all (fun c => isCode c || c.before args0 about1) = true := by decide +kernel
set_option maxRecDepth 65536 in
theorem w_t2 : (words1.drop 24).all (fun c => isCode c || c.before args0 about1) = true := by decide +kernel
theorem w_tables : (allAtoms (Jvm.Cond.code x code maxLocals ret :: tables_1)).before args0 about1 = true := by
  rw [allAtoms_all]
  show words1.all (fun c => c.before args0 about1) = true
  refine all_split ?_ w_codes
  rw [← List.take_append_drop 24 words1, List.all_append, w_t1, w_t2]
  rfl
set_option maxRecDepth 65536 in
theorem w_case : (Jvm.Cond.and given_1 narrow_1).before args0 about1 = true := by decide +kernel
theorem w_applies : (headSpec (Jvm.Cond.code x code maxLocals ret :: tables_1) room_1).applies x e0.platform about1 = true :=
  (Spec.applies_iff w_frames).mpr ⟨w_running, w_runnable, w_alone, w_named, w_hears, w_ripe, w_room, w_tables⟩
theorem atStart : AtStart classFile x code maxLocals ret World_1 tables_1 room_1 Calls_1 rest_1 Pre_1 launch0 p0 e0 about1 theMethod args0 below0 :=
  ⟨lists_1, trivial, launch0.admits_env _ _ _, launch0.least_env, fairChoices_fair.cas, fairChoices_fair.clock, w_frames, w_args, w_heap, w_applies, trivial, trivial, w_case⟩
end start1
theorem witness_1 : WitnessClaimed_1 := ⟨start1.p0, start1.e0, start1.about1, start1.theMethod, start1.args0, start1.below0, start1.atStart⟩
end Jvm.Pilot.@@N@@
