import JvmDerived
import JvmDerived.Pilot.@@N@@Statement
import JvmDerived.Pilot.@@N@@Code
set_option linter.unusedVariables false
set_option linter.unusedSimpArgs false
namespace Jvm.RoadKit
open Sem ClassFile Op Lib Jvm.Stand Jvm.Free Jvm.LawKit
section New
variable {p : Program} {l : Launch} {e : Env} {R : Room} {s : State} {m : MethodId} {args : Array Value} {below : List Frame} {meth : Method} {c : Code} {T : State} {locs : List Loc} {cells slots : Nat}
theorem retI (X : Stand p l e R s m args below meth c T locs cells slots) (hx : p.tables.exec = Jvm.exec) {pc : Nat} {Ls : Array Slot} {z : Int32} {rest : List Value} (hret : meth.sig.returnType = some .int) (hd : decode c.code pc = .ok (.ireturn, 1)) {fs : List Frame}
    (hl : ∀ (f : JFrame) (acts : List Action), f.method = m → f.locked = none → f.entered = [] → (doReturn e (T.setTop f) acts (some (.int z))).1 = T.setFrames fs) : Steps p.tables e below (T.setTop (mkF m pc Ls (.int z :: rest))) (T.setFrames fs) := by
  have hm' : T.vm.method? m = some meth := X.method'
  have hn : narrow .int (.int z) = .int z := rfl
  show Steps p.tables e below (T.setTop { method := m, pc := pc, locals := Ls, stack := _ :: rest, locked := none }) _
  jvm_step X.here [X.here.top, hx, hd, hm', hret, hn]
  first | (intro acts; rw [hl _ acts rfl rfl rfl]) | rw [hl _ _ rfl rfl rfl]
  exact Steps.refl _
end New
end Jvm.RoadKit
namespace Jvm.Pilot.@@N@@
open Jvm Jvm.ClassFile Sem Op Lib Jvm.Free Jvm.Stand Jvm.LawKit Jvm.RoadKit Bundle Jvm.Pilot.@@N@@.Jvm.D
theorem d1_0 : decode jdk_29_method_70_code 0 = .ok (.lload_n 0, 1) := by decide +kernel
theorem d1_1 : decode jdk_29_method_70_code 1 = .ok (.lload_n 2, 1) := by decide +kernel
theorem d1_2 : decode jdk_29_method_70_code 2 = .ok (.lcmp, 1) := by decide +kernel
theorem d1_3 : decode jdk_29_method_70_code 3 = .ok (.ifCond .gt 7, 3) := by decide +kernel
theorem d1_10 : decode jdk_29_method_70_code 10 = .ok (.lload_n 2, 1) := by decide +kernel
theorem d1_11 : decode jdk_29_method_70_code 11 = .ok (.lreturn, 1) := by decide +kernel
theorem d1_6 : decode jdk_29_method_70_code 6 = .ok (.lload_n 0, 1) := by decide +kernel
theorem d1_7 : decode jdk_29_method_70_code 7 = .ok (.goto 4, 3) := by decide +kernel
theorem ef_1 (m : MethodId) (q1 : Int64) (q2 : Int64) : entryFrame m #[(.long q1), (.long q2)] 4 = mkF m 0 #[.val (.long q1), .second, .val (.long q2), .second] [] := by first | (simp [entryFrame, mkF, argsToLocals, Value.category]; done) | rfl
def Q1 (Z : State) (q1 : Int64) (q2 : Int64) (h0 : Heap) (n0 : Nat) (v : Option Value) (h : Heap) (L : List Loc) : Prop := ∃ (r : Int64), v = some (.long r) ∧ Fr n0 L ∧ h = h0
set_option maxRecDepth 65536 in
set_option maxHeartbeats 40000000 in
theorem rm1 (l : Launch) (Z : State) (a0 : Array Value) (hw : ∀ d ∈ tables_1, d.before a0 Z = true) (ws : List Jvm.Cond) (q1 : Int64) (q2 : Int64) (h0 : Heap) (n0 : Nat) (Z0 : n0 ≤ h0.size)  :
    MetFree l (⟨"java/lang/Math", "min", "(JJ)J"⟩ : MethodName) (head1 (Jvm.Cond.code (⟨"java/lang/Math", "min", "(JJ)J"⟩ : MethodName) jdk_29_method_70_code 4 (some .long) :: ws) ({ frames := 0, cells := 0, slots := 0, locals := 0 } : Room)) (fun a U => a = #[(.long q1), (.long q2)] ∧ Z.Warmed39 U.vm ∧ U.heap = h0) (fun _ _ _ _ _ => True) (fun _ U o U' => ∃ v L, o = .returned v ∧ Q1 Z q1 q2 h0 n0 v U'.heap L ∧ FrameEnd U o U' L ({ frames := 0, cells := 0, slots := 0, locals := 0 } : Room).cells ({ frames := 0, cells := 0, slots := 0, locals := 0 } : Room).slots) := by
  refine MetFree.of_bodySF (Jvm.Free.JP.mathPlain rfl (by decide +kernel)) hisR ?_
  intro p e s m args below meth c s₁ Bd hml0 hP hK
  obtain ⟨rfl, hZ, hh⟩ := hP
  have hx := Bd.exec
  have hby := Bd.bytes
  have hml : c.maxLocals = 4 := hml0
  have hown : s.vm.findClass "java/lang/Math" = some m.cls := findClass_of_methodNamed Bd.named
  have hnm := (name_of_methodNamed Bd.named Bd.method).1
  have X0 : Stand p l e ({ frames := 0, cells := 0, slots := 0, locals := 0 } : Room) s m #[(.long q1), (.long q2)] below meth c s₁ [] 0 0 := Stand.of_body Bd
  have e0 : s₁.heap = h0 := by rw [← hh, Bd.state]; rfl
  have N0 := Fr.nil n0
  have pre0 : ∀ t, Steps p.tables e below (s₁.setTop (mkF m 0 #[.val (.long q1), .second, .val (.long q2), .second] [])) t → Steps p.tables e below (s₁.setTop (entryFrame m #[(.long q1), (.long q2)] 4)) t := fun t k => castTop (ef_1 m q1 q2) k
  have P1 : ∀ t, Steps p.tables e below (s₁.setTop (mkF m 3 #[.val (.long q1), .second, .val (.long q2), .second] [(.int (lcmpW q1 q2))])) t → Steps p.tables e below (s₁.setTop (entryFrame m #[(.long q1), (.long q2)] 4)) t := by
    intro t k
    refine pre0 t ?_
    show Steps p.tables e below (s₁.setTop (mkF m 0 #[.val (.long q1), .second, .val (.long q2), .second] [])) _
    refine XS.lloadN X0.here hx rfl (hb hby d1_0) rfl ?_
    show Steps p.tables e below (s₁.setTop (mkF m 1 #[.val (.long q1), .second, .val (.long q2), .second] [(.long q1)])) _
    refine XS.lloadN X0.here hx rfl (hb hby d1_1) rfl ?_
    show Steps p.tables e below (s₁.setTop (mkF m 2 #[.val (.long q1), .second, .val (.long q2), .second] [(.long q2), (.long q1)])) _
    refine XS.lcmp X0.here hx rfl (hb hby d1_2) rfl ?_
    exact k
  by_cases h1 : (0 : Int32) < (lcmpW q1 q2)
  · obtain ⟨fs, hr, hrun, hended, hW, hsame⟩ := X0.leave (v := some (.long q2)) (fun h => by rw [Bd.returns] at h; cases h)
    refine ⟨_, _, P1 _ ?_, hrun, hended, _, _, rfl, ?_, ⟨_, rfl⟩, hW, hsame.mono (by decide) (by decide)⟩
    · show Steps p.tables e below (s₁.setTop (mkF m 3 #[.val (.long q1), .second, .val (.long q2), .second] [(.int (lcmpW q1 q2))])) _
      refine XS.ifYes X0.here hx rfl (pc0 := 3) (pc' := 10) rfl (hb hby d1_3) rfl ((if0 _ _).trans (tlt h1).2.2.1) (by decide) (by decide) ?_
      show Steps p.tables e below (s₁.setTop (mkF m 10 #[.val (.long q1), .second, .val (.long q2), .second] [])) _
      refine XS.lloadN X0.here hx rfl (hb hby d1_10) rfl ?_
      show Steps p.tables e below (s₁.setTop (mkF m 11 #[.val (.long q1), .second, .val (.long q2), .second] [(.long q2)])) _
      jvm_step X0.here [X0.here.top, hx, (hb hby d1_11), X0.method', Bd.returns, narrow]
      first | (intro acts; rw [hr _ acts rfl rfl rfl]) | rw [hr _ _ rfl rfl rfl]
      exact Steps.refl _
    · show Q1 Z q1 q2 h0 n0 _ s₁.heap _
      rw [e0]
      exact ⟨q2, rfl, N0, rfl⟩
  · obtain ⟨fs, hr, hrun, hended, hW, hsame⟩ := X0.leave (v := some (.long q1)) (fun h => by rw [Bd.returns] at h; cases h)
    refine ⟨_, _, P1 _ ?_, hrun, hended, _, _, rfl, ?_, ⟨_, rfl⟩, hW, hsame.mono (by decide) (by decide)⟩
    · show Steps p.tables e below (s₁.setTop (mkF m 3 #[.val (.long q1), .second, .val (.long q2), .second] [(.int (lcmpW q1 q2))])) _
      refine XS.ifNo X0.here hx rfl (hb hby d1_3) rfl ((if0 _ _).trans (flt h1).2.2.1) ?_
      show Steps p.tables e below (s₁.setTop (mkF m 6 #[.val (.long q1), .second, .val (.long q2), .second] [])) _
      refine XS.lloadN X0.here hx rfl (hb hby d1_6) rfl ?_
      show Steps p.tables e below (s₁.setTop (mkF m 7 #[.val (.long q1), .second, .val (.long q2), .second] [(.long q1)])) _
      refine XS.goto X0.here hx rfl (pc0 := 7) (pc' := 11) rfl (hb hby d1_7) (by decide) (by decide) ?_
      show Steps p.tables e below (s₁.setTop (mkF m 11 #[.val (.long q1), .second, .val (.long q2), .second] [(.long q1)])) _
      jvm_step X0.here [X0.here.top, hx, (hb hby d1_11), X0.method', Bd.returns, narrow]
      first | (intro acts; rw [hr _ acts rfl rfl rfl]) | rw [hr _ _ rfl rfl rfl]
      exact Steps.refl _
    · show Q1 Z q1 q2 h0 n0 _ s₁.heap _
      rw [e0]
      exact ⟨q1, rfl, N0, rfl⟩
theorem d2_0 : decode jdk_29_method_66_code 0 = .ok (.lload_n 0, 1) := by decide +kernel
theorem d2_1 : decode jdk_29_method_66_code 1 = .ok (.lload_n 2, 1) := by decide +kernel
theorem d2_2 : decode jdk_29_method_66_code 2 = .ok (.lcmp, 1) := by decide +kernel
theorem d2_3 : decode jdk_29_method_66_code 3 = .ok (.ifCond .lt 7, 3) := by decide +kernel
theorem d2_10 : decode jdk_29_method_66_code 10 = .ok (.lload_n 2, 1) := by decide +kernel
theorem d2_11 : decode jdk_29_method_66_code 11 = .ok (.lreturn, 1) := by decide +kernel
theorem d2_6 : decode jdk_29_method_66_code 6 = .ok (.lload_n 0, 1) := by decide +kernel
theorem d2_7 : decode jdk_29_method_66_code 7 = .ok (.goto 4, 3) := by decide +kernel
theorem ef_2 (m : MethodId) (q1 : Int64) (q2 : Int64) : entryFrame m #[(.long q1), (.long q2)] 4 = mkF m 0 #[.val (.long q1), .second, .val (.long q2), .second] [] := by first | (simp [entryFrame, mkF, argsToLocals, Value.category]; done) | rfl
def Q2 (Z : State) (q1 : Int64) (q2 : Int64) (h0 : Heap) (n0 : Nat) (v : Option Value) (h : Heap) (L : List Loc) : Prop := ∃ (r : Int64), v = some (.long r) ∧ Fr n0 L ∧ ((q1 < q2 ∧ r = q2) ∨ (¬ (q1 < q2) ∧ r = q1)) ∧ h = h0
set_option maxRecDepth 65536 in
set_option maxHeartbeats 40000000 in
theorem rm2 (l : Launch) (Z : State) (a0 : Array Value) (hw : ∀ d ∈ tables_1, d.before a0 Z = true) (ws : List Jvm.Cond) (q1 : Int64) (q2 : Int64) (h0 : Heap) (n0 : Nat) (Z0 : n0 ≤ h0.size)  :
    MetFree l (⟨"java/lang/Math", "max", "(JJ)J"⟩ : MethodName) (head1 (Jvm.Cond.code (⟨"java/lang/Math", "max", "(JJ)J"⟩ : MethodName) jdk_29_method_66_code 4 (some .long) :: ws) ({ frames := 0, cells := 0, slots := 0, locals := 0 } : Room)) (fun a U => a = #[(.long q1), (.long q2)] ∧ Z.Warmed39 U.vm ∧ U.heap = h0) (fun _ _ _ _ _ => True) (fun _ U o U' => ∃ v L, o = .returned v ∧ Q2 Z q1 q2 h0 n0 v U'.heap L ∧ FrameEnd U o U' L ({ frames := 0, cells := 0, slots := 0, locals := 0 } : Room).cells ({ frames := 0, cells := 0, slots := 0, locals := 0 } : Room).slots) := by
  refine MetFree.of_bodySF (Jvm.Free.JP.mathPlain rfl (by decide +kernel)) hisR ?_
  intro p e s m args below meth c s₁ Bd hml0 hP hK
  obtain ⟨rfl, hZ, hh⟩ := hP
  have hx := Bd.exec
  have hby := Bd.bytes
  have hml : c.maxLocals = 4 := hml0
  have hown : s.vm.findClass "java/lang/Math" = some m.cls := findClass_of_methodNamed Bd.named
  have hnm := (name_of_methodNamed Bd.named Bd.method).1
  have X0 : Stand p l e ({ frames := 0, cells := 0, slots := 0, locals := 0 } : Room) s m #[(.long q1), (.long q2)] below meth c s₁ [] 0 0 := Stand.of_body Bd
  have e0 : s₁.heap = h0 := by rw [← hh, Bd.state]; rfl
  have N0 := Fr.nil n0
  have pre0 : ∀ t, Steps p.tables e below (s₁.setTop (mkF m 0 #[.val (.long q1), .second, .val (.long q2), .second] [])) t → Steps p.tables e below (s₁.setTop (entryFrame m #[(.long q1), (.long q2)] 4)) t := fun t k => castTop (ef_2 m q1 q2) k
  have P1 : ∀ t, Steps p.tables e below (s₁.setTop (mkF m 3 #[.val (.long q1), .second, .val (.long q2), .second] [(.int (lcmpW q1 q2))])) t → Steps p.tables e below (s₁.setTop (entryFrame m #[(.long q1), (.long q2)] 4)) t := by
    intro t k
    refine pre0 t ?_
    show Steps p.tables e below (s₁.setTop (mkF m 0 #[.val (.long q1), .second, .val (.long q2), .second] [])) _
    refine XS.lloadN X0.here hx rfl (hb hby d2_0) rfl ?_
    show Steps p.tables e below (s₁.setTop (mkF m 1 #[.val (.long q1), .second, .val (.long q2), .second] [(.long q1)])) _
    refine XS.lloadN X0.here hx rfl (hb hby d2_1) rfl ?_
    show Steps p.tables e below (s₁.setTop (mkF m 2 #[.val (.long q1), .second, .val (.long q2), .second] [(.long q2), (.long q1)])) _
    refine XS.lcmp X0.here hx rfl (hb hby d2_2) rfl ?_
    exact k
  by_cases h1 : (lcmpW q1 q2) < (0 : Int32)
  · obtain ⟨fs, hr, hrun, hended, hW, hsame⟩ := X0.leave (v := some (.long q2)) (fun h => by rw [Bd.returns] at h; cases h)
    refine ⟨_, _, P1 _ ?_, hrun, hended, _, _, rfl, ?_, ⟨_, rfl⟩, hW, hsame.mono (by decide) (by decide)⟩
    · show Steps p.tables e below (s₁.setTop (mkF m 3 #[.val (.long q1), .second, .val (.long q2), .second] [(.int (lcmpW q1 q2))])) _
      refine XS.ifYes X0.here hx rfl (pc0 := 3) (pc' := 10) rfl (hb hby d2_3) rfl ((if0 _ _).trans (tlt h1).1) (by decide) (by decide) ?_
      show Steps p.tables e below (s₁.setTop (mkF m 10 #[.val (.long q1), .second, .val (.long q2), .second] [])) _
      refine XS.lloadN X0.here hx rfl (hb hby d2_10) rfl ?_
      show Steps p.tables e below (s₁.setTop (mkF m 11 #[.val (.long q1), .second, .val (.long q2), .second] [(.long q2)])) _
      jvm_step X0.here [X0.here.top, hx, (hb hby d2_11), X0.method', Bd.returns, narrow]
      first | (intro acts; rw [hr _ acts rfl rfl rfl]) | rw [hr _ _ rfl rfl rfl]
      exact Steps.refl _
    · show Q2 Z q1 q2 h0 n0 _ s₁.heap _
      rw [e0]
      exact ⟨q2, rfl, N0, Or.inl ⟨(lw_lt _ _).mp h1, rfl⟩, rfl⟩
  · obtain ⟨fs, hr, hrun, hended, hW, hsame⟩ := X0.leave (v := some (.long q1)) (fun h => by rw [Bd.returns] at h; cases h)
    refine ⟨_, _, P1 _ ?_, hrun, hended, _, _, rfl, ?_, ⟨_, rfl⟩, hW, hsame.mono (by decide) (by decide)⟩
    · show Steps p.tables e below (s₁.setTop (mkF m 3 #[.val (.long q1), .second, .val (.long q2), .second] [(.int (lcmpW q1 q2))])) _
      refine XS.ifNo X0.here hx rfl (hb hby d2_3) rfl ((if0 _ _).trans (flt h1).1) ?_
      show Steps p.tables e below (s₁.setTop (mkF m 6 #[.val (.long q1), .second, .val (.long q2), .second] [])) _
      refine XS.lloadN X0.here hx rfl (hb hby d2_6) rfl ?_
      show Steps p.tables e below (s₁.setTop (mkF m 7 #[.val (.long q1), .second, .val (.long q2), .second] [(.long q1)])) _
      refine XS.goto X0.here hx rfl (pc0 := 7) (pc' := 11) rfl (hb hby d2_7) (by decide) (by decide) ?_
      show Steps p.tables e below (s₁.setTop (mkF m 11 #[.val (.long q1), .second, .val (.long q2), .second] [(.long q1)])) _
      jvm_step X0.here [X0.here.top, hx, (hb hby d2_11), X0.method', Bd.returns, narrow]
      first | (intro acts; rw [hr _ acts rfl rfl rfl]) | rw [hr _ _ rfl rfl rfl]
      exact Steps.refl _
    · show Q2 Z q1 q2 h0 n0 _ s₁.heap _
      rw [e0]
      exact ⟨q1, rfl, N0, Or.inr ⟨fun q => h1 ((lw_lt _ _).mpr q), rfl⟩, rfl⟩
theorem pn_0 : plainName "java/lang/Record" = true := by first | (simp [plainName, overriddenIn]; done) | decide +kernel
theorem d4_0 : decode jdk_30_method_1_code 0 = .ok (.aload_n 0, 1) := by decide +kernel
theorem d4_1 : decode jdk_30_method_1_code 1 = .ok (.invokespecial 1, 3) := by decide +kernel
theorem d4_4 : decode jdk_30_method_1_code 4 = .ok (.return_, 1) := by decide +kernel
theorem ef_4 (m : MethodId) (a1 : Addr) : entryFrame m #[(.ref a1)] 1 = mkF m 0 #[.val (.ref a1)] [] := by first | (simp [entryFrame, mkF, argsToLocals, Value.category]; done) | rfl
def Q4 (Z : State) (a1 : Addr) (h0 : Heap) (n0 : Nat) (v : Option Value) (h : Heap) (L : List Loc) : Prop := v = none ∧ Fr n0 L ∧ h = h0
set_option maxRecDepth 65536 in
set_option maxHeartbeats 40000000 in
theorem rm4 (l : Launch) (Z : State) (a0 : Array Value) (hw : ∀ d ∈ tables_1, d.before a0 Z = true) (ws : List Jvm.Cond) (a1 : Addr) (h0 : Heap) (n0 : Nat) (Z0 : n0 ≤ h0.size)  :
    MetFree l (⟨"java/lang/Record", "<init>", "()V"⟩ : MethodName) (head1 (Jvm.Cond.code (⟨"java/lang/Record", "<init>", "()V"⟩ : MethodName) jdk_30_method_1_code 1 none :: ws) ({ frames := 1, cells := 0, slots := 0, locals := 12 } : Room)) (fun a U => a = #[(.ref a1)] ∧ Z.Warmed39 U.vm ∧ U.heap = h0) (fun _ _ _ _ _ => True) (fun _ U o U' => ∃ v L, o = .returned v ∧ Q4 Z a1 h0 n0 v U'.heap L ∧ FrameEnd U o U' L ({ frames := 1, cells := 0, slots := 0, locals := 12 } : Room).cells ({ frames := 1, cells := 0, slots := 0, locals := 12 } : Room).slots) := by
  refine MetFree.of_bodySF (plainFor_of_name pn_0) hisR ?_
  intro p e s m args below meth c s₁ Bd hml0 hP hK
  obtain ⟨rfl, hZ, hh⟩ := hP
  have hx := Bd.exec
  have hby := Bd.bytes
  have hml : c.maxLocals = 1 := hml0
  have hown : s.vm.findClass "java/lang/Record" = some m.cls := findClass_of_methodNamed Bd.named
  have hnm := (name_of_methodNamed Bd.named Bd.method).1
  have X0 : Stand p l e ({ frames := 1, cells := 0, slots := 0, locals := 12 } : Room) s m #[(.ref a1)] below meth c s₁ [] 0 0 := Stand.of_body Bd
  have e0 : s₁.heap = h0 := by rw [← hh, Bd.state]; rfl
  have N0 := Fr.nil n0
  have pre0 : ∀ t, Steps p.tables e below (s₁.setTop (mkF m 0 #[.val (.ref a1)] [])) t → Steps p.tables e below (s₁.setTop (entryFrame m #[(.ref a1)] 1)) t := fun t k => castTop (ef_4 m a1) k
  obtain ⟨T1, X1, e1, st1⟩ := initO X0 hx hZ hown (hw _ (List.mem_of_getElem? (i := 19) rfl)) (hw _ (List.mem_of_getElem? (i := 20) rfl)) (hw _ (List.mem_of_getElem? (i := 21) rfl)) e0 (g := (mkF m 1 #[.val (.ref a1)] [(.ref a1)])) rfl (by rw [hml]; rfl) rfl (hb hby d4_1) (by decide) (W := 0) (by show 2 * 0 + _ ≤ _; exact Nat.le_of_eq rfl) (by decide)
  obtain ⟨fs, hr, hrun, hended, hW, hsame⟩ := X1.leave (v := none) (fun _ => rfl)
  refine ⟨_, _, pre0 _ ?_, hrun, hended, _, _, rfl, ?_, ⟨_, rfl⟩, hW, hsame.mono (by decide) (by decide)⟩
  · show Steps p.tables e below (s₁.setTop (mkF m 0 #[.val (.ref a1)] [])) _
    refine XS.aloadN X0.here hx rfl (hb hby d4_0) rfl rfl ?_
    show Steps p.tables e below (s₁.setTop (mkF m 1 #[.val (.ref a1)] [(.ref a1)])) _
    refine st1 _ ?_
    show Steps p.tables e below (T1.setTop (mkF m 4 #[.val (.ref a1)] [])) _
    exact X1.returnOut hx Bd.returns (hb hby d4_4) hr
  · show Q4 Z a1 h0 n0 _ T1.heap _
    rw [e1]
    exact ⟨rfl, N0, rfl⟩
theorem pn_1 : plainName "com/example/motes_to_bounds/motestobounds/model/Planning$Range" = true := by first | (simp [plainName, overriddenIn]; done) | decide +kernel
theorem d3_0 : decode prog_35_method_1_code 0 = .ok (.aload_n 0, 1) := by decide +kernel
theorem d3_1 : decode prog_35_method_1_code 1 = .ok (.invokespecial 1, 3) := by decide +kernel
theorem pd_0 : parseMethodDescriptor "()V" = some ⟨[], none⟩ := by decide +kernel
theorem d3_4 : decode prog_35_method_1_code 4 = .ok (.aload_n 0, 1) := by decide +kernel
theorem d3_5 : decode prog_35_method_1_code 5 = .ok (.lload_n 1, 1) := by decide +kernel
theorem d3_6 : decode prog_35_method_1_code 6 = .ok (.putfield 7, 3) := by decide +kernel
theorem d3_9 : decode prog_35_method_1_code 9 = .ok (.aload_n 0, 1) := by decide +kernel
theorem d3_10 : decode prog_35_method_1_code 10 = .ok (.lload_n 3, 1) := by decide +kernel
theorem d3_11 : decode prog_35_method_1_code 11 = .ok (.putfield 13, 3) := by decide +kernel
theorem d3_14 : decode prog_35_method_1_code 14 = .ok (.return_, 1) := by decide +kernel
theorem ef_3 (m : MethodId) (a1 : Addr) (q1 : Int64) (q2 : Int64) : entryFrame m #[(.ref a1), (.long q1), (.long q2)] 5 = mkF m 0 #[.val (.ref a1), .val (.long q1), .second, .val (.long q2), .second] [] := by first | (simp [entryFrame, mkF, argsToLocals, Value.category]; done) | rfl
def Q3 (Z : State) (a1 : Addr) (q1 : Int64) (q2 : Int64) (h0 : Heap) (n0 : Nat) (v : Option Value) (h : Heap) (L : List Loc) : Prop := v = none ∧ Fr n0 L ∧ Keep h0 h [a1] ∧ Exa Z h a1 "com/example/motes_to_bounds/motestobounds/model/Planning$Range" ∧ Fld Z h a1 "com/example/motes_to_bounds/motestobounds/model/Planning$Range" "min" "J" (.long q1) ∧ Fld Z h a1 "com/example/motes_to_bounds/motestobounds/model/Planning$Range" "max" "J" (.long q2)
set_option maxRecDepth 65536 in
set_option maxHeartbeats 40000000 in
theorem rm3 (l : Launch) (Z : State) (a0 : Array Value) (hw : ∀ d ∈ tables_1, d.before a0 Z = true) (ws : List Jvm.Cond) (a1 : Addr) (q1 : Int64) (q2 : Int64) (h0 : Heap) (n0 : Nat) (Z0 : n0 ≤ h0.size) (HF0 : Fld Z h0 a1 "com/example/motes_to_bounds/motestobounds/model/Planning$Range" "min" "J" (.long (0 : Int64))) (HF1 : Fld Z h0 a1 "com/example/motes_to_bounds/motestobounds/model/Planning$Range" "max" "J" (.long (0 : Int64))) (HE2 : Exa Z h0 a1 "com/example/motes_to_bounds/motestobounds/model/Planning$Range") (Hg3 : n0 ≤ a1) :
    MetFree l (⟨"com/example/motes_to_bounds/motestobounds/model/Planning$Range", "<init>", "(JJ)V"⟩ : MethodName) (head1 (Jvm.Cond.code (⟨"com/example/motes_to_bounds/motestobounds/model/Planning$Range", "<init>", "(JJ)V"⟩ : MethodName) prog_35_method_1_code 5 none :: ws) ({ frames := 2, cells := 0, slots := 0, locals := 24 } : Room)) (fun a U => a = #[(.ref a1), (.long q1), (.long q2)] ∧ Z.Warmed39 U.vm ∧ U.heap = h0) (fun _ _ _ _ _ => True) (fun _ U o U' => ∃ v L, o = .returned v ∧ Q3 Z a1 q1 q2 h0 n0 v U'.heap L ∧ FrameEnd U o U' L ({ frames := 2, cells := 0, slots := 0, locals := 24 } : Room).cells ({ frames := 2, cells := 0, slots := 0, locals := 24 } : Room).slots) := by
  refine MetFree.of_bodySF (plainFor_of_name pn_1) hisR ?_
  intro p e s m args below meth c s₁ Bd hml0 hP hK
  obtain ⟨rfl, hZ, hh⟩ := hP
  have hx := Bd.exec
  have hby := Bd.bytes
  have hml : c.maxLocals = 5 := hml0
  have hown : s.vm.findClass "com/example/motes_to_bounds/motestobounds/model/Planning$Range" = some m.cls := findClass_of_methodNamed Bd.named
  have hnm := (name_of_methodNamed Bd.named Bd.method).1
  have X0 : Stand p l e ({ frames := 2, cells := 0, slots := 0, locals := 24 } : Room) s m #[(.ref a1), (.long q1), (.long q2)] below meth c s₁ [] 0 0 := Stand.of_body Bd
  have e0 : s₁.heap = h0 := by rw [← hh, Bd.state]; rfl
  have N0 := Fr.nil n0
  have pre0 : ∀ t, Steps p.tables e below (s₁.setTop (mkF m 0 #[.val (.ref a1), .val (.long q1), .second, .val (.long q2), .second] [])) t → Steps p.tables e below (s₁.setTop (entryFrame m #[(.ref a1), (.long q1), (.long q2)] 5)) t := fun t k => castTop (ef_3 m a1 q1 q2) k
  obtain ⟨_, _, ⟨T1, L1, k1, n1⟩, -, X1, ⟨Lc1, hQ1, l1, y1, z1⟩, st1⟩ := X0.specialBack hx (y := (⟨"java/lang/Record", "<init>", "()V"⟩ : MethodName)) rfl hown (mvT hZ (hw _ (List.mem_of_getElem? (i := 14) rfl))) (mvT hZ (hw _ (List.mem_of_getElem? (i := 15) rfl))) (mvT hZ (hw _ (List.mem_of_getElem? (i := 18) rfl))) (by decide) (backOf (W := 0) (rm4 l Z a0 hw [] a1 h0 n0 Z0 ) hZ (hw _ (List.mem_of_getElem? (i := 18) rfl)) (hw _ (List.mem_of_getElem? (i := 17) rfl)) (by decide) (by decide)) (g := (mkF m 1 #[.val (.ref a1), .val (.long q1), .second, .val (.long q2), .second] [(.ref a1)])) rfl (by rw [hml]; rfl) (Steps.refl _) (a := a1) (argsL := []) (rest := []) (lenOf pd_0 rfl) rfl (by show 2 * 0 + _ ≤ _; exact Nat.le_of_eq rfl) (hb hby d3_1) (fun _ _ => ⟨rfl, e0, (by decide : 0 + 0 ≤ _), (by decide : 0 + 0 ≤ _)⟩)
  dsimp only [Pt.U, Pt.locs, Pt.cells, Pt.slots] at X1 l1 y1 z1 st1 hQ1
  subst l1 y1 z1
  obtain ⟨rfl, N1q, R2⟩ := hQ1
  have N1 := Fr.app N0 N1q
  obtain ⟨T3, h3, X3, e3, W3, st3⟩ := putF X1 hx hZ hown (host := "") (Or.inl (hw _ (List.mem_of_getElem? (i := 22) rfl))) Via.refl R2 HF0 HE2 (Or.inr ⟨(hw _ (List.mem_of_getElem? (i := 23) rfl)), rfl, hnm⟩) (hw _ (List.mem_of_getElem? (i := 9) rfl)) (ty := .long) (by decide) rfl rfl (g := (mkF m 6 #[.val (.ref a1), .val (.long q1), .second, .val (.long q2), .second] [(.long q1), (.ref a1)])) rfl rfl (hb hby d3_6)
  have Fw3 : Fld Z h3 a1 "com/example/motes_to_bounds/motestobounds/model/Planning$Range" "min" "J" (.long q1) := HF0.same W3
  have F4 : Fld Z h3 a1 "com/example/motes_to_bounds/motestobounds/model/Planning$Range" "max" "J" (.long (0 : Int64)) := HF1.other W3 (Or.inr (slot_ne (Or.inr (hw _ (List.mem_of_getElem? (i := 25) rfl))) (Or.inr (hw _ (List.mem_of_getElem? (i := 23) rfl))) (by decide) (t := .long) (t' := .long) (by decide) (by decide)))
  have F5 : Exa Z h3 a1 "com/example/motes_to_bounds/motestobounds/model/Planning$Range" := HE2.wr W3
  have Z6 : n0 ≤ h3.size := Nat.le_trans Z0 (Keep.of_wr W3).1
  have K7 : Keep h0 h3 [a1] := (Keep.refl h0 [a1]).wr W3 (Or.inl (List.mem_of_getElem? (i := 0) rfl))
  have N8 := Fr.snoc X3 N1 Hg3
  obtain ⟨T9, h9, X9, e9, W9, st9⟩ := putF X3 hx hZ hown (host := "") (Or.inl (hw _ (List.mem_of_getElem? (i := 24) rfl))) Via.refl e3 F4 F5 (Or.inr ⟨(hw _ (List.mem_of_getElem? (i := 25) rfl)), rfl, hnm⟩) (hw _ (List.mem_of_getElem? (i := 9) rfl)) (ty := .long) (by decide) rfl rfl (g := (mkF m 11 #[.val (.ref a1), .val (.long q1), .second, .val (.long q2), .second] [(.long q2), (.ref a1)])) rfl rfl (hb hby d3_11)
  have Fw9 : Fld Z h9 a1 "com/example/motes_to_bounds/motestobounds/model/Planning$Range" "max" "J" (.long q2) := F4.same W9
  have F10 : Exa Z h9 a1 "com/example/motes_to_bounds/motestobounds/model/Planning$Range" := F5.wr W9
  have F11 : Fld Z h9 a1 "com/example/motes_to_bounds/motestobounds/model/Planning$Range" "min" "J" (.long q1) := Fw3.other W9 (Or.inr (slot_ne (Or.inr (hw _ (List.mem_of_getElem? (i := 23) rfl))) (Or.inr (hw _ (List.mem_of_getElem? (i := 25) rfl))) (by decide) (t := .long) (t' := .long) (by decide) (by decide)))
  have Z12 : n0 ≤ h9.size := Nat.le_trans Z6 (Keep.of_wr W9).1
  have K13 : Keep h0 h9 [a1] := K7.wr W9 (Or.inl (List.mem_of_getElem? (i := 0) rfl))
  have N14 := Fr.snoc X9 N8 Hg3
  obtain ⟨fs, hr, hrun, hended, hW, hsame⟩ := X9.leave (v := none) (fun _ => rfl)
  refine ⟨_, _, pre0 _ ?_, hrun, hended, _, _, rfl, ?_, ⟨_, rfl⟩, hW, hsame.mono (by decide) (by decide)⟩
  · show Steps p.tables e below (s₁.setTop (mkF m 0 #[.val (.ref a1), .val (.long q1), .second, .val (.long q2), .second] [])) _
    refine XS.aloadN X0.here hx rfl (hb hby d3_0) rfl rfl ?_
    show Steps p.tables e below (s₁.setTop (mkF m 1 #[.val (.ref a1), .val (.long q1), .second, .val (.long q2), .second] [(.ref a1)])) _
    refine st1.trans ?_
    show Steps p.tables e below (T1.setTop (mkF m 4 #[.val (.ref a1), .val (.long q1), .second, .val (.long q2), .second] [])) _
    refine XS.aloadN X1.here hx rfl (hb hby d3_4) rfl rfl ?_
    show Steps p.tables e below (T1.setTop (mkF m 5 #[.val (.ref a1), .val (.long q1), .second, .val (.long q2), .second] [(.ref a1)])) _
    refine XS.lloadN X1.here hx rfl (hb hby d3_5) rfl ?_
    show Steps p.tables e below (T1.setTop (mkF m 6 #[.val (.ref a1), .val (.long q1), .second, .val (.long q2), .second] [(.long q1), (.ref a1)])) _
    refine st3 _ ?_
    show Steps p.tables e below (T3.setTop (mkF m 9 #[.val (.ref a1), .val (.long q1), .second, .val (.long q2), .second] [])) _
    refine XS.aloadN X3.here hx rfl (hb hby d3_9) rfl rfl ?_
    show Steps p.tables e below (T3.setTop (mkF m 10 #[.val (.ref a1), .val (.long q1), .second, .val (.long q2), .second] [(.ref a1)])) _
    refine XS.lloadN X3.here hx rfl (hb hby d3_10) rfl ?_
    show Steps p.tables e below (T3.setTop (mkF m 11 #[.val (.ref a1), .val (.long q1), .second, .val (.long q2), .second] [(.long q2), (.ref a1)])) _
    refine st9 _ ?_
    show Steps p.tables e below (T9.setTop (mkF m 14 #[.val (.ref a1), .val (.long q1), .second, .val (.long q2), .second] [])) _
    exact X9.returnOut hx Bd.returns (hb hby d3_14) hr
  · show Q3 Z a1 q1 q2 h0 n0 _ T9.heap _
    rw [e9]
    exact ⟨rfl, N14, K13, F10, F11, Fw9⟩
theorem d6_0 : decode prog_35_method_2_code 0 = .ok (.aload_n 0, 1) := by decide +kernel
theorem d6_1 : decode prog_35_method_2_code 1 = .ok (.getfield 13, 3) := by decide +kernel
theorem d6_4 : decode prog_35_method_2_code 4 = .ok (.aload_n 0, 1) := by decide +kernel
theorem d6_5 : decode prog_35_method_2_code 5 = .ok (.getfield 7, 3) := by decide +kernel
theorem d6_8 : decode prog_35_method_2_code 8 = .ok (.lsub, 1) := by decide +kernel
theorem d6_9 : decode prog_35_method_2_code 9 = .ok (.lconst 1, 1) := by decide +kernel
theorem d6_10 : decode prog_35_method_2_code 10 = .ok (.ladd, 1) := by decide +kernel
theorem d6_11 : decode prog_35_method_2_code 11 = .ok (.lreturn, 1) := by decide +kernel
theorem ef_6 (m : MethodId) (a1 : Addr) : entryFrame m #[(.ref a1)] 1 = mkF m 0 #[.val (.ref a1)] [] := by first | (simp [entryFrame, mkF, argsToLocals, Value.category]; done) | rfl
def Q6 (Z : State) (a1 : Addr) (q1 : Int64) (q2 : Int64) (h0 : Heap) (n0 : Nat) (v : Option Value) (h : Heap) (L : List Loc) : Prop := v = some (.long ((q2 - q1) + (1 : Int64))) ∧ Fr n0 L ∧ h = h0
set_option maxRecDepth 65536 in
set_option maxHeartbeats 40000000 in
theorem rm6 (l : Launch) (Z : State) (a0 : Array Value) (hw : ∀ d ∈ tables_1, d.before a0 Z = true) (ws : List Jvm.Cond) (a1 : Addr) (q1 : Int64) (q2 : Int64) (h0 : Heap) (n0 : Nat) (Z0 : n0 ≤ h0.size) (HF0 : Fld Z h0 a1 "com/example/motes_to_bounds/motestobounds/model/Planning$Range" "min" "J" (.long q1)) (HF1 : Fld Z h0 a1 "com/example/motes_to_bounds/motestobounds/model/Planning$Range" "max" "J" (.long q2)) :
    MetFree l (⟨"com/example/motes_to_bounds/motestobounds/model/Planning$Range", "size", "()J"⟩ : MethodName) (head1 (Jvm.Cond.code (⟨"com/example/motes_to_bounds/motestobounds/model/Planning$Range", "size", "()J"⟩ : MethodName) prog_35_method_2_code 1 (some .long) :: ws) ({ frames := 0, cells := 0, slots := 0, locals := 0 } : Room)) (fun a U => a = #[(.ref a1)] ∧ Z.Warmed39 U.vm ∧ U.heap = h0) (fun _ _ _ _ _ => True) (fun _ U o U' => ∃ v L, o = .returned v ∧ Q6 Z a1 q1 q2 h0 n0 v U'.heap L ∧ FrameEnd U o U' L ({ frames := 0, cells := 0, slots := 0, locals := 0 } : Room).cells ({ frames := 0, cells := 0, slots := 0, locals := 0 } : Room).slots) := by
  refine MetFree.of_bodySF (plainFor_of_name pn_1) hisR ?_
  intro p e s m args below meth c s₁ Bd hml0 hP hK
  obtain ⟨rfl, hZ, hh⟩ := hP
  have hx := Bd.exec
  have hby := Bd.bytes
  have hml : c.maxLocals = 1 := hml0
  have hown : s.vm.findClass "com/example/motes_to_bounds/motestobounds/model/Planning$Range" = some m.cls := findClass_of_methodNamed Bd.named
  have hnm := (name_of_methodNamed Bd.named Bd.method).1
  have X0 : Stand p l e ({ frames := 0, cells := 0, slots := 0, locals := 0 } : Room) s m #[(.ref a1)] below meth c s₁ [] 0 0 := Stand.of_body Bd
  have e0 : s₁.heap = h0 := by rw [← hh, Bd.state]; rfl
  have N0 := Fr.nil n0
  have pre0 : ∀ t, Steps p.tables e below (s₁.setTop (mkF m 0 #[.val (.ref a1)] [])) t → Steps p.tables e below (s₁.setTop (entryFrame m #[(.ref a1)] 1)) t := fun t k => castTop (ef_6 m a1) k
  obtain ⟨T1, X1, e1, st1⟩ := getF X0 hx hZ hown (host := "") (Or.inl (hw _ (List.mem_of_getElem? (i := 24) rfl))) Via.refl e0 HF1 (g := (mkF m 1 #[.val (.ref a1)] [(.ref a1)])) rfl rfl (hb hby d6_1)
  obtain ⟨T2, X2, e2, st2⟩ := getF X1 hx hZ hown (host := "") (Or.inl (hw _ (List.mem_of_getElem? (i := 22) rfl))) Via.refl e1 HF0 (g := (mkF m 5 #[.val (.ref a1)] [(.ref a1), (.long q2)])) rfl rfl (hb hby d6_5)
  obtain ⟨fs, hr, hrun, hended, hW, hsame⟩ := X2.leave (v := some (.long ((q2 - q1) + (1 : Int64)))) (fun h => by rw [Bd.returns] at h; cases h)
  refine ⟨_, _, pre0 _ ?_, hrun, hended, _, _, rfl, ?_, ⟨_, rfl⟩, hW, hsame.mono (by decide) (by decide)⟩
  · show Steps p.tables e below (s₁.setTop (mkF m 0 #[.val (.ref a1)] [])) _
    refine XS.aloadN X0.here hx rfl (hb hby d6_0) rfl rfl ?_
    show Steps p.tables e below (s₁.setTop (mkF m 1 #[.val (.ref a1)] [(.ref a1)])) _
    refine st1 _ ?_
    show Steps p.tables e below (T1.setTop (mkF m 4 #[.val (.ref a1)] [(.long q2)])) _
    refine XS.aloadN X1.here hx rfl (hb hby d6_4) rfl rfl ?_
    show Steps p.tables e below (T1.setTop (mkF m 5 #[.val (.ref a1)] [(.ref a1), (.long q2)])) _
    refine st2 _ ?_
    show Steps p.tables e below (T2.setTop (mkF m 8 #[.val (.ref a1)] [(.long q1), (.long q2)])) _
    refine XS.lsub X2.here hx rfl (hb hby d6_8) rfl ?_
    show Steps p.tables e below (T2.setTop (mkF m 9 #[.val (.ref a1)] [(.long (q2 - q1))])) _
    refine XS.lconst X2.here hx rfl (hb hby d6_9) ?_
    show Steps p.tables e below (T2.setTop (mkF m 10 #[.val (.ref a1)] [(.long (1 : Int64)), (.long (q2 - q1))])) _
    refine XS.ladd X2.here hx rfl (hb hby d6_10) rfl ?_
    show Steps p.tables e below (T2.setTop (mkF m 11 #[.val (.ref a1)] [(.long ((q2 - q1) + (1 : Int64)))])) _
    jvm_step X2.here [X2.here.top, hx, (hb hby d6_11), X2.method', Bd.returns, narrow]
    first | (intro acts; rw [hr _ acts rfl rfl rfl]) | rw [hr _ _ rfl rfl rfl]
    exact Steps.refl _
  · show Q6 Z a1 q1 q2 h0 n0 _ T2.heap _
    rw [e2]
    exact ⟨rfl, N0, rfl⟩
theorem own_ladd (x y : Int64) (h1 : -9223372036854775808 ≤ x.toInt + y.toInt) (h2 : x.toInt + y.toInt < 9223372036854775808) : (x + y).toInt = x.toInt + y.toInt := by
  rw [Int64.toInt_add]
  apply Int.bmod_eq_of_le <;> omega
theorem own_lsub (x y : Int64) (h1 : -9223372036854775808 ≤ x.toInt - y.toInt) (h2 : x.toInt - y.toInt < 9223372036854775808) : (x - y).toInt = x.toInt - y.toInt := by
  rw [Int64.toInt_sub]
  apply Int.bmod_eq_of_le <;> omega
theorem own_lmod (x y : Int64) (hx : 0 ≤ x.toInt) : (x % y).toInt = x.toInt % y.toInt := by
  rw [Int64.toInt_mod]
  exact Int.tmod_eq_emod_of_nonneg hx
theorem own_max1 (m r : Int64) (h : ((1 : Int64) < m ∧ r = m) ∨ (¬ ((1 : Int64) < m) ∧ r = (1 : Int64))) : 1 ≤ r.toInt := by
  have e1 : (1 : Int64).toInt = 1 := rfl
  rw [Int64.lt_iff_toInt_lt, e1] at h
  rcases h with ⟨h, rfl⟩ | ⟨-, rfl⟩
  · omega
  · omega
theorem own_maxle (lo m r : Int64) (h : (lo < m ∧ r = m) ∨ (¬ (lo < m) ∧ r = lo)) : lo.toInt ≤ r.toInt := by
  rw [Int64.lt_iff_toInt_lt] at h
  rcases h with ⟨h, rfl⟩ | ⟨-, rfl⟩
  · omega
  · omega
theorem own_size (lo hi : Int64) (h1 : 1 ≤ lo.toInt) (h2 : lo.toInt ≤ hi.toInt) : (hi - lo + (1 : Int64)).toInt = hi.toInt - lo.toInt + 1 := by
  have e1 : (1 : Int64).toInt = 1 := rfl
  have u := hi.toInt_lt
  have s := own_lsub hi lo (by omega) (by omega)
  rw [own_ladd _ _ (by omega) (by omega), s, e1]
theorem own_facts (lo hi s : Int64) (h1 : 1 ≤ lo.toInt) (h2 : lo.toInt ≤ hi.toInt) (hs : s = hi - lo + (1 : Int64)) : ¬ (s < (1 : Int64)) ∧ ¬ (hi < s) ∧ (hi = lo → s = (1 : Int64)) ∧ (hi - hi + (1 : Int64)) = (1 : Int64) := by
  have e1 : (1 : Int64).toInt = 1 := rfl
  have a := own_size lo hi h1 h2
  have b := own_size hi hi (by omega) (by omega)
  rw [← hs] at a
  rw [Int64.lt_iff_toInt_lt, Int64.lt_iff_toInt_lt, ← Int64.toInt_inj, ← Int64.toInt_inj, ← Int64.toInt_inj, e1]
  omega
theorem own_split (lo hi s k c : Int64) (h1 : 1 ≤ lo.toInt) (h2 : lo < hi) (hs : s = hi - lo + (1 : Int64)) (hc : 0 ≤ c.toInt) (hk : k = lo + c % (hi - lo)) : (k - lo + (1 : Int64)) + (hi - (k + (1 : Int64)) + (1 : Int64)) = s := by
  have e1 : (1 : Int64).toInt = 1 := rfl
  rw [Int64.lt_iff_toInt_lt] at h2
  have u := hi.toInt_lt
  have d := own_lsub hi lo (by omega) (by omega)
  have m := own_lmod c (hi - lo) hc
  rw [d] at m
  have m1 := Int.emod_nonneg c.toInt (show hi.toInt - lo.toInt ≠ 0 by omega)
  have m2 := Int.emod_lt_of_pos c.toInt (show 0 < hi.toInt - lo.toInt by omega)
  have kk : k.toInt = lo.toInt + c.toInt % (hi.toInt - lo.toInt) := by rw [hk, own_ladd _ _ (by omega) (by omega), m]
  have a := own_size lo hi h1 (by omega)
  have b := own_size lo k h1 (by omega)
  have k1 : (k + (1 : Int64)).toInt = k.toInt + 1 := by rw [own_ladd _ _ (by omega) (by omega), e1]
  have cc := own_size (k + 1) hi (by omega) (by omega)
  rw [← hs] at a
  rw [← Int64.toInt_inj, own_ladd _ _ (by omega) (by omega)]
  omega
theorem own_mask (a : Int64) : 0 ≤ (a &&& (9223372036854775807 : Int64)).toInt := by
  rw [c_maskL a 9223372036854775807 63 (by decide) (by decide)]; omega
theorem pn_2 : plainName "com/example/motes_to_bounds/motestobounds/model/RangeSizePinLaw" = true := by first | (simp [plainName, overriddenIn]; done) | decide +kernel
theorem pd_1 : parseMethodDescriptor "(JJ)J" = some ⟨[.long, .long], some .long⟩ := by decide +kernel
theorem pd_2 : parseMethodDescriptor "(JJ)V" = some ⟨[.long, .long], none⟩ := by decide +kernel
theorem pd_3 : parseMethodDescriptor "()J" = some ⟨[], some .long⟩ := by decide +kernel
theorem ef_0 (m : MethodId) (q0 : Int64) (q1 : Int64) (q2 : Int64) (p3 : Int32) : entryFrame m #[(.long q0), (.long q1), (.long q2), (.int p3)] maxLocals = mkF m 0 #[.val (.long q0), .second, .val (.long q1), .second, .val (.long q2), .second, .val (.int p3), .unset, .unset, .unset, .unset, .unset, .unset, .unset, .unset, .unset, .unset, .unset, .unset, .unset, .unset, .unset, .unset, .unset, .unset] [] := by first | (simp [entryFrame, mkF, argsToLocals, Value.category, maxLocals]; done) | rfl
def Q0 (Z : State) (q0 : Int64) (q1 : Int64) (q2 : Int64) (p3 : Int32) (h0 : Heap) (n0 : Nat) (v : Option Value) (h : Heap) (L : List Loc) : Prop := v = some (.int (1 : Int32)) ∧ Fr n0 L
set_option maxRecDepth 65536 in
set_option maxHeartbeats 40000000 in
theorem rm0 (l : Launch) (Z : State) (a0 : Array Value) (hw : ∀ d ∈ tables_1, d.before a0 Z = true) (ws : List Jvm.Cond) (q0 : Int64) (q1 : Int64) (q2 : Int64) (p3 : Int32) (h0 : Heap) (n0 : Nat) (Z0 : n0 ≤ h0.size)  :
    MetFree l x (head1 (Jvm.Cond.code x code maxLocals ret :: ws) room_1) (fun a U => a = #[(.long q0), (.long q1), (.long q2), (.int p3)] ∧ Z.Warmed39 U.vm ∧ U.heap = h0) (fun _ _ _ _ _ => True) (fun _ U o U' => ∃ v L, o = .returned v ∧ Q0 Z q0 q1 q2 p3 h0 n0 v U'.heap L ∧ FrameEnd U o U' L room_1.cells room_1.slots) := by
  refine MetFree.of_bodySF (plainFor_of_name pn_2) hisR ?_
  intro p e s m args below meth c s₁ Bd hml0 hP hK
  obtain ⟨rfl, hZ, hh⟩ := hP
  have hx := Bd.exec
  have hby := Bd.bytes
  have hml : c.maxLocals = 25 := hml0
  have hown : s.vm.findClass "com/example/motes_to_bounds/motestobounds/model/RangeSizePinLaw" = some m.cls := findClass_of_methodNamed Bd.named
  have hnm := (name_of_methodNamed Bd.named Bd.method).1
  have X0 : Stand p l e room_1 s m #[(.long q0), (.long q1), (.long q2), (.int p3)] below meth c s₁ [] 0 0 := Stand.of_body Bd
  have e0 : s₁.heap = h0 := by rw [← hh, Bd.state]; rfl
  have N0 := Fr.nil n0
  have pre0 : ∀ t, Steps p.tables e below (s₁.setTop (mkF m 0 #[.val (.long q0), .second, .val (.long q1), .second, .val (.long q2), .second, .val (.int p3), .unset, .unset, .unset, .unset, .unset, .unset, .unset, .unset, .unset, .unset, .unset, .unset, .unset, .unset, .unset, .unset, .unset, .unset] [])) t → Steps p.tables e below (s₁.setTop (entryFrame m #[(.long q0), (.long q1), (.long q2), (.int p3)] maxLocals)) t := fun t k => castTop (ef_0 m q0 q1 q2 p3) k
  have P1 : ∀ t, Steps p.tables e below (s₁.setTop (mkF m 14 #[.val (.long q0), .second, .val (.long q1), .second, .val (.long q2), .second, .val (.int p3), .val (.long (q0 &&& (9223372036854775807 : Int64))), .second, .val (.long (q1 &&& (9223372036854775807 : Int64))), .second, .unset, .unset, .unset, .unset, .unset, .unset, .unset, .unset, .unset, .unset, .unset, .unset, .unset, .unset] [])) t → Steps p.tables e below (s₁.setTop (entryFrame m #[(.long q0), (.long q1), (.long q2), (.int p3)] maxLocals)) t := by
    intro t k
    refine pre0 t ?_
    show Steps p.tables e below (s₁.setTop (mkF m 0 #[.val (.long q0), .second, .val (.long q1), .second, .val (.long q2), .second, .val (.int p3), .unset, .unset, .unset, .unset, .unset, .unset, .unset, .unset, .unset, .unset, .unset, .unset, .unset, .unset, .unset, .unset, .unset, .unset] [])) _
    refine XS.lloadN X0.here hx rfl (hb hby at_0) rfl ?_
    show Steps p.tables e below (s₁.setTop (mkF m 1 #[.val (.long q0), .second, .val (.long q1), .second, .val (.long q2), .second, .val (.int p3), .unset, .unset, .unset, .unset, .unset, .unset, .unset, .unset, .unset, .unset, .unset, .unset, .unset, .unset, .unset, .unset, .unset, .unset] [(.long q0)])) _
    refine X0.ldc2Long hx hown (mvT hZ (hw _ (List.mem_of_getElem? (i := 0) rfl))) (g := (mkF m 1 #[.val (.long q0), .second, .val (.long q1), .second, .val (.long q2), .second, .val (.int p3), .unset, .unset, .unset, .unset, .unset, .unset, .unset, .unset, .unset, .unset, .unset, .unset, .unset, .unset, .unset, .unset, .unset, .unset] [(.long q0)])) rfl (hb hby at_1) _ ?_
    show Steps p.tables e below (s₁.setTop (mkF m 4 #[.val (.long q0), .second, .val (.long q1), .second, .val (.long q2), .second, .val (.int p3), .unset, .unset, .unset, .unset, .unset, .unset, .unset, .unset, .unset, .unset, .unset, .unset, .unset, .unset, .unset, .unset, .unset, .unset] [(.long (9223372036854775807 : Int64)), (.long q0)])) _
    refine XS.land X0.here hx rfl (hb hby at_4) rfl ?_
    show Steps p.tables e below (s₁.setTop (mkF m 5 #[.val (.long q0), .second, .val (.long q1), .second, .val (.long q2), .second, .val (.int p3), .unset, .unset, .unset, .unset, .unset, .unset, .unset, .unset, .unset, .unset, .unset, .unset, .unset, .unset, .unset, .unset, .unset, .unset] [(.long (q0 &&& (9223372036854775807 : Int64)))])) _
    refine XS.lstore X0.here hx rfl (hb hby at_5) rfl (l' := #[.val (.long q0), .second, .val (.long q1), .second, .val (.long q2), .second, .val (.int p3), .val (.long (q0 &&& (9223372036854775807 : Int64))), .second, .unset, .unset, .unset, .unset, .unset, .unset, .unset, .unset, .unset, .unset, .unset, .unset, .unset, .unset, .unset, .unset]) rfl ?_
    show Steps p.tables e below (s₁.setTop (mkF m 7 #[.val (.long q0), .second, .val (.long q1), .second, .val (.long q2), .second, .val (.int p3), .val (.long (q0 &&& (9223372036854775807 : Int64))), .second, .unset, .unset, .unset, .unset, .unset, .unset, .unset, .unset, .unset, .unset, .unset, .unset, .unset, .unset, .unset, .unset] [])) _
    refine XS.lloadN X0.here hx rfl (hb hby at_7) rfl ?_
    show Steps p.tables e below (s₁.setTop (mkF m 8 #[.val (.long q0), .second, .val (.long q1), .second, .val (.long q2), .second, .val (.int p3), .val (.long (q0 &&& (9223372036854775807 : Int64))), .second, .unset, .unset, .unset, .unset, .unset, .unset, .unset, .unset, .unset, .unset, .unset, .unset, .unset, .unset, .unset, .unset] [(.long q1)])) _
    refine X0.ldc2Long hx hown (mvT hZ (hw _ (List.mem_of_getElem? (i := 0) rfl))) (g := (mkF m 8 #[.val (.long q0), .second, .val (.long q1), .second, .val (.long q2), .second, .val (.int p3), .val (.long (q0 &&& (9223372036854775807 : Int64))), .second, .unset, .unset, .unset, .unset, .unset, .unset, .unset, .unset, .unset, .unset, .unset, .unset, .unset, .unset, .unset, .unset] [(.long q1)])) rfl (hb hby at_8) _ ?_
    show Steps p.tables e below (s₁.setTop (mkF m 11 #[.val (.long q0), .second, .val (.long q1), .second, .val (.long q2), .second, .val (.int p3), .val (.long (q0 &&& (9223372036854775807 : Int64))), .second, .unset, .unset, .unset, .unset, .unset, .unset, .unset, .unset, .unset, .unset, .unset, .unset, .unset, .unset, .unset, .unset] [(.long (9223372036854775807 : Int64)), (.long q1)])) _
    refine XS.land X0.here hx rfl (hb hby at_11) rfl ?_
    show Steps p.tables e below (s₁.setTop (mkF m 12 #[.val (.long q0), .second, .val (.long q1), .second, .val (.long q2), .second, .val (.int p3), .val (.long (q0 &&& (9223372036854775807 : Int64))), .second, .unset, .unset, .unset, .unset, .unset, .unset, .unset, .unset, .unset, .unset, .unset, .unset, .unset, .unset, .unset, .unset] [(.long (q1 &&& (9223372036854775807 : Int64)))])) _
    refine XS.lstore X0.here hx rfl (hb hby at_12) rfl (l' := #[.val (.long q0), .second, .val (.long q1), .second, .val (.long q2), .second, .val (.int p3), .val (.long (q0 &&& (9223372036854775807 : Int64))), .second, .val (.long (q1 &&& (9223372036854775807 : Int64))), .second, .unset, .unset, .unset, .unset, .unset, .unset, .unset, .unset, .unset, .unset, .unset, .unset, .unset, .unset]) rfl ?_
    exact k
  obtain ⟨xv, hxv⟩ : ∃ z : Int64, z = (q0 &&& (9223372036854775807 : Int64)) := ⟨_, rfl⟩
  have P2 : ∀ t, Steps p.tables e below (s₁.setTop (mkF m 14 #[.val (.long q0), .second, .val (.long q1), .second, .val (.long q2), .second, .val (.int p3), .val (.long xv), .second, .val (.long (q1 &&& (9223372036854775807 : Int64))), .second, .unset, .unset, .unset, .unset, .unset, .unset, .unset, .unset, .unset, .unset, .unset, .unset, .unset, .unset] [])) t → Steps p.tables e below (s₁.setTop (entryFrame m #[(.long q0), (.long q1), (.long q2), (.int p3)] maxLocals)) t := by rw [hxv]; exact P1
  obtain ⟨yv, hyv⟩ : ∃ z : Int64, z = (q1 &&& (9223372036854775807 : Int64)) := ⟨_, rfl⟩
  have P3 : ∀ t, Steps p.tables e below (s₁.setTop (mkF m 14 #[.val (.long q0), .second, .val (.long q1), .second, .val (.long q2), .second, .val (.int p3), .val (.long xv), .second, .val (.long yv), .second, .unset, .unset, .unset, .unset, .unset, .unset, .unset, .unset, .unset, .unset, .unset, .unset, .unset, .unset] [])) t → Steps p.tables e below (s₁.setTop (entryFrame m #[(.long q0), (.long q1), (.long q2), (.int p3)] maxLocals)) t := by rw [hyv]; exact P2
  obtain ⟨_, _, ⟨T4, L4, k4, n4⟩, -, X4, ⟨Lc4, hQ4, l4, y4, z4⟩, st4⟩ := Jvm.LawKit.callS X0 hx (y := (⟨"java/lang/Math", "min", "(JJ)J"⟩ : MethodName)) hown (mvT hZ (hw _ (List.mem_of_getElem? (i := 1) rfl))) (mvT hZ (hw _ (List.mem_of_getElem? (i := 2) rfl))) (mvT hZ (hw _ (List.mem_of_getElem? (i := 3) rfl))) (mvT hZ (hw _ (List.mem_of_getElem? (i := 4) rfl))) (by decide) (backOf (W := 2) (rm1 l Z a0 hw [] xv yv h0 n0 Z0 ) hZ (hw _ (List.mem_of_getElem? (i := 4) rfl)) (hw _ (List.mem_of_getElem? (i := 3) rfl)) (by decide) (by decide)) (g := (mkF m 19 #[.val (.long q0), .second, .val (.long q1), .second, .val (.long q2), .second, .val (.int p3), .val (.long xv), .second, .val (.long yv), .second, .unset, .unset, .unset, .unset, .unset, .unset, .unset, .unset, .unset, .unset, .unset, .unset, .unset, .unset] [(.long yv), (.long xv), (.long (1 : Int64))])) rfl (by rw [hml]; rfl) (argsL := [(.long xv), (.long yv)]) (rest := [(.long (1 : Int64))]) (lenOf pd_1 rfl) rfl (by show 2 * 0 + _ ≤ _; exact Nat.le_of_eq rfl) (hb hby at_19) (fun _ _ => ⟨rfl, e0, (by decide : 0 + 0 ≤ _), (by decide : 0 + 0 ≤ _)⟩)
  dsimp only [Pt.U, Pt.locs, Pt.cells, Pt.slots] at X4 l4 y4 z4 st4 hQ4
  subst l4 y4 z4
  obtain ⟨r5, rfl, N4q, R6⟩ := hQ4
  have N4 := Fr.app N0 N4q
  obtain ⟨_, _, ⟨T7, L7, k7, n7⟩, -, X7, ⟨Lc7, hQ7, l7, y7, z7⟩, st7⟩ := Jvm.LawKit.callS X4 hx (y := (⟨"java/lang/Math", "max", "(JJ)J"⟩ : MethodName)) hown (mvT hZ (hw _ (List.mem_of_getElem? (i := 5) rfl))) (mvT hZ (hw _ (List.mem_of_getElem? (i := 6) rfl))) (mvT hZ (hw _ (List.mem_of_getElem? (i := 3) rfl))) (mvT hZ (hw _ (List.mem_of_getElem? (i := 7) rfl))) (by decide) (backOf (W := 0) (rm2 l Z a0 hw [] (1 : Int64) r5 h0 n0 Z0 ) hZ (hw _ (List.mem_of_getElem? (i := 7) rfl)) (hw _ (List.mem_of_getElem? (i := 3) rfl)) (by decide) (by decide)) (g := (mkF m 22 #[.val (.long q0), .second, .val (.long q1), .second, .val (.long q2), .second, .val (.int p3), .val (.long xv), .second, .val (.long yv), .second, .unset, .unset, .unset, .unset, .unset, .unset, .unset, .unset, .unset, .unset, .unset, .unset, .unset, .unset] [(.long r5), (.long (1 : Int64))])) rfl (by rw [hml]; rfl) (argsL := [(.long (1 : Int64)), (.long r5)]) (rest := []) (lenOf pd_1 rfl) rfl (by show 2 * 0 + _ ≤ _; exact Nat.le_of_eq rfl) (hb hby at_22) (fun _ _ => ⟨rfl, R6, (by decide : 0 + 0 ≤ _), (by decide : 0 + 0 ≤ _)⟩)
  dsimp only [Pt.U, Pt.locs, Pt.cells, Pt.slots] at X7 l7 y7 z7 st7 hQ7
  subst l7 y7 z7
  obtain ⟨r8, rfl, N7q, R9, R10⟩ := hQ7
  have N7 := Fr.app N4 N7q
  obtain ⟨_, _, ⟨T11, L11, k11, n11⟩, -, X11, ⟨Lc11, hQ11, l11, y11, z11⟩, st11⟩ := Jvm.LawKit.callS X7 hx (y := (⟨"java/lang/Math", "max", "(JJ)J"⟩ : MethodName)) hown (mvT hZ (hw _ (List.mem_of_getElem? (i := 5) rfl))) (mvT hZ (hw _ (List.mem_of_getElem? (i := 6) rfl))) (mvT hZ (hw _ (List.mem_of_getElem? (i := 3) rfl))) (mvT hZ (hw _ (List.mem_of_getElem? (i := 7) rfl))) (by decide) (backOf (W := 2) (rm2 l Z a0 hw [] xv yv h0 n0 Z0 ) hZ (hw _ (List.mem_of_getElem? (i := 7) rfl)) (hw _ (List.mem_of_getElem? (i := 3) rfl)) (by decide) (by decide)) (g := (mkF m 33 #[.val (.long q0), .second, .val (.long q1), .second, .val (.long q2), .second, .val (.int p3), .val (.long xv), .second, .val (.long yv), .second, .val (.long r8), .second, .unset, .unset, .unset, .unset, .unset, .unset, .unset, .unset, .unset, .unset, .unset, .unset] [(.long yv), (.long xv), (.long r8)])) rfl (by rw [hml]; rfl) (argsL := [(.long xv), (.long yv)]) (rest := [(.long r8)]) (lenOf pd_1 rfl) rfl (by show 2 * 0 + _ ≤ _; exact Nat.le_of_eq rfl) (hb hby at_33) (fun _ _ => ⟨rfl, R10, (by decide : 0 + 0 ≤ _), (by decide : 0 + 0 ≤ _)⟩)
  dsimp only [Pt.U, Pt.locs, Pt.cells, Pt.slots] at X11 l11 y11 z11 st11 hQ11
  subst l11 y11 z11
  obtain ⟨r12, rfl, N11q, R13, R14⟩ := hQ11
  have N11 := Fr.app N7 N11q
  obtain ⟨_, _, ⟨T15, L15, k15, n15⟩, -, X15, ⟨Lc15, hQ15, l15, y15, z15⟩, st15⟩ := Jvm.LawKit.callS X11 hx (y := (⟨"java/lang/Math", "max", "(JJ)J"⟩ : MethodName)) hown (mvT hZ (hw _ (List.mem_of_getElem? (i := 5) rfl))) (mvT hZ (hw _ (List.mem_of_getElem? (i := 6) rfl))) (mvT hZ (hw _ (List.mem_of_getElem? (i := 3) rfl))) (mvT hZ (hw _ (List.mem_of_getElem? (i := 7) rfl))) (by decide) (backOf (W := 0) (rm2 l Z a0 hw [] r8 r12 h0 n0 Z0 ) hZ (hw _ (List.mem_of_getElem? (i := 7) rfl)) (hw _ (List.mem_of_getElem? (i := 3) rfl)) (by decide) (by decide)) (g := (mkF m 36 #[.val (.long q0), .second, .val (.long q1), .second, .val (.long q2), .second, .val (.int p3), .val (.long xv), .second, .val (.long yv), .second, .val (.long r8), .second, .unset, .unset, .unset, .unset, .unset, .unset, .unset, .unset, .unset, .unset, .unset, .unset] [(.long r12), (.long r8)])) rfl (by rw [hml]; rfl) (argsL := [(.long r8), (.long r12)]) (rest := []) (lenOf pd_1 rfl) rfl (by show 2 * 0 + _ ≤ _; exact Nat.le_of_eq rfl) (hb hby at_36) (fun _ _ => ⟨rfl, R14, (by decide : 0 + 0 ≤ _), (by decide : 0 + 0 ≤ _)⟩)
  dsimp only [Pt.U, Pt.locs, Pt.cells, Pt.slots] at X15 l15 y15 z15 st15 hQ15
  subst l15 y15 z15
  obtain ⟨r16, rfl, N15q, R17, R18⟩ := hQ15
  have N15 := Fr.app N11 N15q
  have P19 : ∀ t, Steps p.tables e below (T15.setTop (mkF m 45 #[.val (.long q0), .second, .val (.long q1), .second, .val (.long q2), .second, .val (.int p3), .val (.long xv), .second, .val (.long yv), .second, .val (.long r8), .second, .val (.long r16), .second, .unset, .unset, .unset, .unset, .unset, .unset, .unset, .unset, .unset, .unset] [(.int (p3 &&& (1 : Int32)))])) t → Steps p.tables e below (s₁.setTop (entryFrame m #[(.long q0), (.long q1), (.long q2), (.int p3)] maxLocals)) t := by
    intro t k
    refine P3 t ?_
    show Steps p.tables e below (s₁.setTop (mkF m 14 #[.val (.long q0), .second, .val (.long q1), .second, .val (.long q2), .second, .val (.int p3), .val (.long xv), .second, .val (.long yv), .second, .unset, .unset, .unset, .unset, .unset, .unset, .unset, .unset, .unset, .unset, .unset, .unset, .unset, .unset] [])) _
    refine XS.lconst X0.here hx rfl (hb hby at_14) ?_
    show Steps p.tables e below (s₁.setTop (mkF m 15 #[.val (.long q0), .second, .val (.long q1), .second, .val (.long q2), .second, .val (.int p3), .val (.long xv), .second, .val (.long yv), .second, .unset, .unset, .unset, .unset, .unset, .unset, .unset, .unset, .unset, .unset, .unset, .unset, .unset, .unset] [(.long (1 : Int64))])) _
    refine XS.lload X0.here hx rfl (hb hby at_15) rfl ?_
    show Steps p.tables e below (s₁.setTop (mkF m 17 #[.val (.long q0), .second, .val (.long q1), .second, .val (.long q2), .second, .val (.int p3), .val (.long xv), .second, .val (.long yv), .second, .unset, .unset, .unset, .unset, .unset, .unset, .unset, .unset, .unset, .unset, .unset, .unset, .unset, .unset] [(.long xv), (.long (1 : Int64))])) _
    refine XS.lload X0.here hx rfl (hb hby at_17) rfl ?_
    show Steps p.tables e below (s₁.setTop (mkF m 19 #[.val (.long q0), .second, .val (.long q1), .second, .val (.long q2), .second, .val (.int p3), .val (.long xv), .second, .val (.long yv), .second, .unset, .unset, .unset, .unset, .unset, .unset, .unset, .unset, .unset, .unset, .unset, .unset, .unset, .unset] [(.long yv), (.long xv), (.long (1 : Int64))])) _
    refine st4 _ ?_
    show Steps p.tables e below (T4.setTop (mkF m 22 #[.val (.long q0), .second, .val (.long q1), .second, .val (.long q2), .second, .val (.int p3), .val (.long xv), .second, .val (.long yv), .second, .unset, .unset, .unset, .unset, .unset, .unset, .unset, .unset, .unset, .unset, .unset, .unset, .unset, .unset] [(.long r5), (.long (1 : Int64))])) _
    refine st7 _ ?_
    show Steps p.tables e below (T7.setTop (mkF m 25 #[.val (.long q0), .second, .val (.long q1), .second, .val (.long q2), .second, .val (.int p3), .val (.long xv), .second, .val (.long yv), .second, .unset, .unset, .unset, .unset, .unset, .unset, .unset, .unset, .unset, .unset, .unset, .unset, .unset, .unset] [(.long r8)])) _
    refine XS.lstore X7.here hx rfl (hb hby at_25) rfl (l' := #[.val (.long q0), .second, .val (.long q1), .second, .val (.long q2), .second, .val (.int p3), .val (.long xv), .second, .val (.long yv), .second, .val (.long r8), .second, .unset, .unset, .unset, .unset, .unset, .unset, .unset, .unset, .unset, .unset, .unset, .unset]) rfl ?_
    show Steps p.tables e below (T7.setTop (mkF m 27 #[.val (.long q0), .second, .val (.long q1), .second, .val (.long q2), .second, .val (.int p3), .val (.long xv), .second, .val (.long yv), .second, .val (.long r8), .second, .unset, .unset, .unset, .unset, .unset, .unset, .unset, .unset, .unset, .unset, .unset, .unset] [])) _
    refine XS.lload X7.here hx rfl (hb hby at_27) rfl ?_
    show Steps p.tables e below (T7.setTop (mkF m 29 #[.val (.long q0), .second, .val (.long q1), .second, .val (.long q2), .second, .val (.int p3), .val (.long xv), .second, .val (.long yv), .second, .val (.long r8), .second, .unset, .unset, .unset, .unset, .unset, .unset, .unset, .unset, .unset, .unset, .unset, .unset] [(.long r8)])) _
    refine XS.lload X7.here hx rfl (hb hby at_29) rfl ?_
    show Steps p.tables e below (T7.setTop (mkF m 31 #[.val (.long q0), .second, .val (.long q1), .second, .val (.long q2), .second, .val (.int p3), .val (.long xv), .second, .val (.long yv), .second, .val (.long r8), .second, .unset, .unset, .unset, .unset, .unset, .unset, .unset, .unset, .unset, .unset, .unset, .unset] [(.long xv), (.long r8)])) _
    refine XS.lload X7.here hx rfl (hb hby at_31) rfl ?_
    show Steps p.tables e below (T7.setTop (mkF m 33 #[.val (.long q0), .second, .val (.long q1), .second, .val (.long q2), .second, .val (.int p3), .val (.long xv), .second, .val (.long yv), .second, .val (.long r8), .second, .unset, .unset, .unset, .unset, .unset, .unset, .unset, .unset, .unset, .unset, .unset, .unset] [(.long yv), (.long xv), (.long r8)])) _
    refine st11 _ ?_
    show Steps p.tables e below (T11.setTop (mkF m 36 #[.val (.long q0), .second, .val (.long q1), .second, .val (.long q2), .second, .val (.int p3), .val (.long xv), .second, .val (.long yv), .second, .val (.long r8), .second, .unset, .unset, .unset, .unset, .unset, .unset, .unset, .unset, .unset, .unset, .unset, .unset] [(.long r12), (.long r8)])) _
    refine st15 _ ?_
    show Steps p.tables e below (T15.setTop (mkF m 39 #[.val (.long q0), .second, .val (.long q1), .second, .val (.long q2), .second, .val (.int p3), .val (.long xv), .second, .val (.long yv), .second, .val (.long r8), .second, .unset, .unset, .unset, .unset, .unset, .unset, .unset, .unset, .unset, .unset, .unset, .unset] [(.long r16)])) _
    refine XS.lstore X15.here hx rfl (hb hby at_39) rfl (l' := #[.val (.long q0), .second, .val (.long q1), .second, .val (.long q2), .second, .val (.int p3), .val (.long xv), .second, .val (.long yv), .second, .val (.long r8), .second, .val (.long r16), .second, .unset, .unset, .unset, .unset, .unset, .unset, .unset, .unset, .unset, .unset]) rfl ?_
    show Steps p.tables e below (T15.setTop (mkF m 41 #[.val (.long q0), .second, .val (.long q1), .second, .val (.long q2), .second, .val (.int p3), .val (.long xv), .second, .val (.long yv), .second, .val (.long r8), .second, .val (.long r16), .second, .unset, .unset, .unset, .unset, .unset, .unset, .unset, .unset, .unset, .unset] [])) _
    refine XS.iload X15.here hx rfl (hb hby at_41) rfl ?_
    show Steps p.tables e below (T15.setTop (mkF m 43 #[.val (.long q0), .second, .val (.long q1), .second, .val (.long q2), .second, .val (.int p3), .val (.long xv), .second, .val (.long yv), .second, .val (.long r8), .second, .val (.long r16), .second, .unset, .unset, .unset, .unset, .unset, .unset, .unset, .unset, .unset, .unset] [(.int p3)])) _
    refine XS.iconst X15.here hx rfl (hb hby at_43) ?_
    show Steps p.tables e below (T15.setTop (mkF m 44 #[.val (.long q0), .second, .val (.long q1), .second, .val (.long q2), .second, .val (.int p3), .val (.long xv), .second, .val (.long yv), .second, .val (.long r8), .second, .val (.long r16), .second, .unset, .unset, .unset, .unset, .unset, .unset, .unset, .unset, .unset, .unset] [(.int (1 : Int32)), (.int p3)])) _
    refine XS.iand X15.here hx rfl (hb hby at_44) rfl ?_
    exact k
  obtain ⟨hv, hm20, P21⟩ : ∃ (hv : Int64), (((p3 &&& (1 : Int32)) = (0 : Int32) ∧ hv = r16) ∨ (¬ ((p3 &&& (1 : Int32)) = (0 : Int32)) ∧ hv = r8)) ∧ ∀ t, Steps p.tables e below (T15.setTop (mkF m 52 #[.val (.long q0), .second, .val (.long q1), .second, .val (.long q2), .second, .val (.int p3), .val (.long xv), .second, .val (.long yv), .second, .val (.long r8), .second, .val (.long hv), .second, .unset, .unset, .unset, .unset, .unset, .unset, .unset, .unset, .unset, .unset] [])) t → Steps p.tables e below (s₁.setTop (entryFrame m #[(.long q0), (.long q1), (.long q2), (.int p3)] maxLocals)) t := by
    by_cases hd45_0 : (p3 &&& (1 : Int32)) = (0 : Int32)
    ·
      refine ⟨r16, Or.inl ⟨hd45_0, rfl⟩, fun t k => ?_⟩
      refine P19 t ?_
      show Steps p.tables e below (T15.setTop (mkF m 45 #[.val (.long q0), .second, .val (.long q1), .second, .val (.long q2), .second, .val (.int p3), .val (.long xv), .second, .val (.long yv), .second, .val (.long r8), .second, .val (.long r16), .second, .unset, .unset, .unset, .unset, .unset, .unset, .unset, .unset, .unset, .unset] [(.int (p3 &&& (1 : Int32)))])) _
      refine XS.ifYes X15.here hx rfl (pc0 := 45) (pc' := 52) rfl (hb hby at_45) rfl ((if0 _ _).trans (teq hd45_0).1) (by decide) (by decide) ?_
      exact k
    ·
      refine ⟨r8, Or.inr (⟨hd45_0, rfl⟩), fun t k => ?_⟩
      refine P19 t ?_
      show Steps p.tables e below (T15.setTop (mkF m 45 #[.val (.long q0), .second, .val (.long q1), .second, .val (.long q2), .second, .val (.int p3), .val (.long xv), .second, .val (.long yv), .second, .val (.long r8), .second, .val (.long r16), .second, .unset, .unset, .unset, .unset, .unset, .unset, .unset, .unset, .unset, .unset] [(.int (p3 &&& (1 : Int32)))])) _
      refine XS.ifNo X15.here hx rfl (hb hby at_45) rfl ((if0 _ _).trans (feq hd45_0).1) ?_
      show Steps p.tables e below (T15.setTop (mkF m 48 #[.val (.long q0), .second, .val (.long q1), .second, .val (.long q2), .second, .val (.int p3), .val (.long xv), .second, .val (.long yv), .second, .val (.long r8), .second, .val (.long r16), .second, .unset, .unset, .unset, .unset, .unset, .unset, .unset, .unset, .unset, .unset] [])) _
      refine XS.lload X15.here hx rfl (hb hby at_48) rfl ?_
      show Steps p.tables e below (T15.setTop (mkF m 50 #[.val (.long q0), .second, .val (.long q1), .second, .val (.long q2), .second, .val (.int p3), .val (.long xv), .second, .val (.long yv), .second, .val (.long r8), .second, .val (.long r16), .second, .unset, .unset, .unset, .unset, .unset, .unset, .unset, .unset, .unset, .unset] [(.long r8)])) _
      refine XS.lstore X15.here hx rfl (hb hby at_50) rfl (l' := #[.val (.long q0), .second, .val (.long q1), .second, .val (.long q2), .second, .val (.int p3), .val (.long xv), .second, .val (.long yv), .second, .val (.long r8), .second, .val (.long r8), .second, .unset, .unset, .unset, .unset, .unset, .unset, .unset, .unset, .unset, .unset]) rfl ?_
      exact k
  have hlo : 1 ≤ r8.toInt := own_max1 _ _ R9
  have hhi : r8.toInt ≤ hv.toInt := by
    rcases hm20 with ⟨-, rfl⟩ | ⟨-, rfl⟩
    · exact own_maxle _ _ _ R17
    · exact Int.le_refl _
  obtain ⟨T22, h22, X22, e22, E22, A22, D22, -, st22⟩ := newO X15 hx hZ hown (hw _ (List.mem_of_getElem? (i := 8) rfl)) (hw _ (List.mem_of_getElem? (i := 9) rfl)) (hw _ (List.mem_of_getElem? (i := 10) rfl)) R18 (g := (mkF m 52 #[.val (.long q0), .second, .val (.long q1), .second, .val (.long q2), .second, .val (.int p3), .val (.long xv), .second, .val (.long yv), .second, .val (.long r8), .second, .val (.long hv), .second, .unset, .unset, .unset, .unset, .unset, .unset, .unset, .unset, .unset, .unset] [])) rfl (hb hby at_52) (by decide) (by decide)
  obtain ⟨b22, g22⟩ : ∃ z, z = h0.size := ⟨_, rfl⟩
  rw [← g22] at A22 D22 st22
  have g_b22 : n0 ≤ b22 := Nat.le_trans Z0 (Nat.le_of_eq g22.symm)
  have Z23 : n0 ≤ h22.size := Nat.le_trans Z0 E22.1
  have F24 : Fld Z h22 b22 "com/example/motes_to_bounds/motestobounds/model/Planning$Range" "min" "J" (.long (0 : Int64)) := D22 (Or.inr (hw _ (List.mem_of_getElem? (i := 23) rfl))) (ty := .long) (by decide)
  have F25 : Fld Z h22 b22 "com/example/motes_to_bounds/motestobounds/model/Planning$Range" "max" "J" (.long (0 : Int64)) := D22 (Or.inr (hw _ (List.mem_of_getElem? (i := 25) rfl))) (ty := .long) (by decide)
  obtain ⟨_, _, ⟨T26, L26, k26, n26⟩, -, X26, ⟨Lc26, hQ26, l26, y26, z26⟩, st26⟩ := X22.specialBack hx (y := (⟨"com/example/motes_to_bounds/motestobounds/model/Planning$Range", "<init>", "(JJ)V"⟩ : MethodName)) rfl hown (mvT hZ (hw _ (List.mem_of_getElem? (i := 11) rfl))) (mvT hZ (hw _ (List.mem_of_getElem? (i := 12) rfl))) (mvT hZ (hw _ (List.mem_of_getElem? (i := 13) rfl))) (by decide) (backOf (W := 1) (rm3 l Z a0 hw [] b22 r8 hv h22 n0 Z23 F24 F25 A22 g_b22) hZ (hw _ (List.mem_of_getElem? (i := 13) rfl)) (hw _ (List.mem_of_getElem? (i := 10) rfl)) (by decide) (by decide)) (g := (mkF m 60 #[.val (.long q0), .second, .val (.long q1), .second, .val (.long q2), .second, .val (.int p3), .val (.long xv), .second, .val (.long yv), .second, .val (.long r8), .second, .val (.long hv), .second, .unset, .unset, .unset, .unset, .unset, .unset, .unset, .unset, .unset, .unset] [(.long hv), (.long r8), (.ref b22), (.ref b22)])) rfl (by rw [hml]; rfl) (Steps.refl _) (a := b22) (argsL := [(.long r8), (.long hv)]) (rest := [(.ref b22)]) (lenOf pd_2 rfl) rfl (by show 2 * 0 + _ ≤ _; exact Nat.le_of_eq rfl) (hb hby at_60) (fun _ _ => ⟨rfl, e22, (by decide : 1 + 0 ≤ _), (by decide : 2 + 0 ≤ _)⟩)
  dsimp only [Pt.U, Pt.locs, Pt.cells, Pt.slots] at X26 l26 y26 z26 st26 hQ26
  subst l26 y26 z26
  obtain ⟨rfl, N26q, R27, R28, R29, R30⟩ := hQ26
  have N26 := Fr.app N15 N26q
  have F31 : Exa Z T26.heap b22 "com/example/motes_to_bounds/motestobounds/model/Planning$Range" := A22.keep R27
  have Z32 : n0 ≤ T26.heap.size := Nat.le_trans Z23 R27.1
  obtain ⟨cq33, kq33, q33a, q33b, q33c⟩ := isOf hZ rfl R28
  obtain ⟨_, _, ⟨T33, L33, k33, n33⟩, -, X33, ⟨Lc33, hQ33, l33, y33, z33⟩, st33⟩ := X26.virtualBack hx (y := (⟨"com/example/motes_to_bounds/motestobounds/model/Planning$Range", "size", "()J"⟩ : MethodName)) (z := (⟨"com/example/motes_to_bounds/motestobounds/model/Planning$Range", "size", "()J"⟩ : MethodName)) hown (mvT hZ (hw _ (List.mem_of_getElem? (i := 26) rfl))) (mvT hZ (hw _ (List.mem_of_getElem? (i := 27) rfl))) (notFace_of_selects (args := #[]) (mvT hZ (hw _ (List.mem_of_getElem? (i := 29) rfl)))) (mvT hZ (hw _ (List.mem_of_getElem? (i := 29) rfl))) (mvT hZ (hw _ (List.mem_of_getElem? (i := 28) rfl))) (by decide) (backOf (W := 0) (rm6 l Z a0 hw [] b22 r8 hv T26.heap n0 Z32 R29 R30) hZ (hw _ (List.mem_of_getElem? (i := 30) rfl)) (hw _ (List.mem_of_getElem? (i := 10) rfl)) (by decide) (by decide)) q33a q33c (g := (mkF m 67 #[.val (.long q0), .second, .val (.long q1), .second, .val (.long q2), .second, .val (.int p3), .val (.long xv), .second, .val (.long yv), .second, .val (.long r8), .second, .val (.long hv), .second, .val (.ref b22), .unset, .unset, .unset, .unset, .unset, .unset, .unset, .unset, .unset] [(.ref b22)])) rfl (by rw [hml]; rfl) (Steps.refl _) (argsL := []) (rest := []) (lenOf pd_3 rfl) rfl (by show 2 * 0 + _ ≤ _; exact Nat.le_of_eq rfl) (hb hby at_67) (fun _ _ => ⟨rfl, rfl, (by decide : 1 + 0 ≤ _), (by decide : 2 + 0 ≤ _)⟩)
  dsimp only [Pt.U, Pt.locs, Pt.cells, Pt.slots] at X33 l33 y33 z33 st33 hQ33
  subst l33 y33 z33
  obtain ⟨rfl, N33q, R34⟩ := hQ33
  have N33 := Fr.app N26 N33q
  have P35 : ∀ t, Steps p.tables e below (T33.setTop (mkF m 72 #[.val (.long q0), .second, .val (.long q1), .second, .val (.long q2), .second, .val (.int p3), .val (.long xv), .second, .val (.long yv), .second, .val (.long r8), .second, .val (.long hv), .second, .val (.ref b22), .val (.long ((hv - r8) + (1 : Int64))), .second, .unset, .unset, .unset, .unset, .unset, .unset, .unset] [])) t → Steps p.tables e below (s₁.setTop (entryFrame m #[(.long q0), (.long q1), (.long q2), (.int p3)] maxLocals)) t := by
    intro t k
    refine P21 t ?_
    show Steps p.tables e below (T15.setTop (mkF m 52 #[.val (.long q0), .second, .val (.long q1), .second, .val (.long q2), .second, .val (.int p3), .val (.long xv), .second, .val (.long yv), .second, .val (.long r8), .second, .val (.long hv), .second, .unset, .unset, .unset, .unset, .unset, .unset, .unset, .unset, .unset, .unset] [])) _
    refine st22 _ ?_
    show Steps p.tables e below (T22.setTop (mkF m 55 #[.val (.long q0), .second, .val (.long q1), .second, .val (.long q2), .second, .val (.int p3), .val (.long xv), .second, .val (.long yv), .second, .val (.long r8), .second, .val (.long hv), .second, .unset, .unset, .unset, .unset, .unset, .unset, .unset, .unset, .unset, .unset] [(.ref b22)])) _
    refine XS.dup X22.here hx rfl (hb hby at_55) rfl rfl ?_
    show Steps p.tables e below (T22.setTop (mkF m 56 #[.val (.long q0), .second, .val (.long q1), .second, .val (.long q2), .second, .val (.int p3), .val (.long xv), .second, .val (.long yv), .second, .val (.long r8), .second, .val (.long hv), .second, .unset, .unset, .unset, .unset, .unset, .unset, .unset, .unset, .unset, .unset] [(.ref b22), (.ref b22)])) _
    refine XS.lload X22.here hx rfl (hb hby at_56) rfl ?_
    show Steps p.tables e below (T22.setTop (mkF m 58 #[.val (.long q0), .second, .val (.long q1), .second, .val (.long q2), .second, .val (.int p3), .val (.long xv), .second, .val (.long yv), .second, .val (.long r8), .second, .val (.long hv), .second, .unset, .unset, .unset, .unset, .unset, .unset, .unset, .unset, .unset, .unset] [(.long r8), (.ref b22), (.ref b22)])) _
    refine XS.lload X22.here hx rfl (hb hby at_58) rfl ?_
    show Steps p.tables e below (T22.setTop (mkF m 60 #[.val (.long q0), .second, .val (.long q1), .second, .val (.long q2), .second, .val (.int p3), .val (.long xv), .second, .val (.long yv), .second, .val (.long r8), .second, .val (.long hv), .second, .unset, .unset, .unset, .unset, .unset, .unset, .unset, .unset, .unset, .unset] [(.long hv), (.long r8), (.ref b22), (.ref b22)])) _
    refine st26.trans ?_
    show Steps p.tables e below (T26.setTop (mkF m 63 #[.val (.long q0), .second, .val (.long q1), .second, .val (.long q2), .second, .val (.int p3), .val (.long xv), .second, .val (.long yv), .second, .val (.long r8), .second, .val (.long hv), .second, .unset, .unset, .unset, .unset, .unset, .unset, .unset, .unset, .unset, .unset] [(.ref b22)])) _
    refine XS.astore X26.here hx rfl (hb hby at_63) rfl rfl (l' := #[.val (.long q0), .second, .val (.long q1), .second, .val (.long q2), .second, .val (.int p3), .val (.long xv), .second, .val (.long yv), .second, .val (.long r8), .second, .val (.long hv), .second, .val (.ref b22), .unset, .unset, .unset, .unset, .unset, .unset, .unset, .unset, .unset]) rfl ?_
    show Steps p.tables e below (T26.setTop (mkF m 65 #[.val (.long q0), .second, .val (.long q1), .second, .val (.long q2), .second, .val (.int p3), .val (.long xv), .second, .val (.long yv), .second, .val (.long r8), .second, .val (.long hv), .second, .val (.ref b22), .unset, .unset, .unset, .unset, .unset, .unset, .unset, .unset, .unset] [])) _
    refine XS.aload X26.here hx rfl (hb hby at_65) rfl rfl ?_
    show Steps p.tables e below (T26.setTop (mkF m 67 #[.val (.long q0), .second, .val (.long q1), .second, .val (.long q2), .second, .val (.int p3), .val (.long xv), .second, .val (.long yv), .second, .val (.long r8), .second, .val (.long hv), .second, .val (.ref b22), .unset, .unset, .unset, .unset, .unset, .unset, .unset, .unset, .unset] [(.ref b22)])) _
    refine st33.trans ?_
    show Steps p.tables e below (T33.setTop (mkF m 70 #[.val (.long q0), .second, .val (.long q1), .second, .val (.long q2), .second, .val (.int p3), .val (.long xv), .second, .val (.long yv), .second, .val (.long r8), .second, .val (.long hv), .second, .val (.ref b22), .unset, .unset, .unset, .unset, .unset, .unset, .unset, .unset, .unset] [(.long ((hv - r8) + (1 : Int64)))])) _
    refine XS.lstore X33.here hx rfl (hb hby at_70) rfl (l' := #[.val (.long q0), .second, .val (.long q1), .second, .val (.long q2), .second, .val (.int p3), .val (.long xv), .second, .val (.long yv), .second, .val (.long r8), .second, .val (.long hv), .second, .val (.ref b22), .val (.long ((hv - r8) + (1 : Int64))), .second, .unset, .unset, .unset, .unset, .unset, .unset, .unset]) rfl ?_
    exact k
  obtain ⟨sv, hsv⟩ : ∃ z : Int64, z = ((hv - r8) + (1 : Int64)) := ⟨_, rfl⟩
  have P36 : ∀ t, Steps p.tables e below (T33.setTop (mkF m 72 #[.val (.long q0), .second, .val (.long q1), .second, .val (.long q2), .second, .val (.int p3), .val (.long xv), .second, .val (.long yv), .second, .val (.long r8), .second, .val (.long hv), .second, .val (.ref b22), .val (.long sv), .second, .unset, .unset, .unset, .unset, .unset, .unset, .unset] [])) t → Steps p.tables e below (s₁.setTop (entryFrame m #[(.long q0), (.long q1), (.long q2), (.int p3)] maxLocals)) t := by rw [hsv]; exact P35
  obtain ⟨f1, f2, f3, f4⟩ := own_facts r8 hv sv hlo hhi hsv
  have hc76_37 : ¬ ((lcmpW sv (1 : Int64)) < (0 : Int32)) := fun q => f1 ((lw_lt _ _).mp q)
  have hc84_38 : ¬ ((0 : Int32) < (lcmpW sv hv)) := fun q => f2 ((lw_gt _ _).mp q)
  have P39 : ∀ t, Steps p.tables e below (T33.setTop (mkF m 99 #[.val (.long q0), .second, .val (.long q1), .second, .val (.long q2), .second, .val (.int p3), .val (.long xv), .second, .val (.long yv), .second, .val (.long r8), .second, .val (.long hv), .second, .val (.ref b22), .val (.long sv), .second, .val (.int (1 : Int32)), .unset, .unset, .unset, .unset, .unset, .unset] [(.int (lcmpW hv r8))])) t → Steps p.tables e below (s₁.setTop (entryFrame m #[(.long q0), (.long q1), (.long q2), (.int p3)] maxLocals)) t := by
    intro t k
    refine P36 t ?_
    show Steps p.tables e below (T33.setTop (mkF m 72 #[.val (.long q0), .second, .val (.long q1), .second, .val (.long q2), .second, .val (.int p3), .val (.long xv), .second, .val (.long yv), .second, .val (.long r8), .second, .val (.long hv), .second, .val (.ref b22), .val (.long sv), .second, .unset, .unset, .unset, .unset, .unset, .unset, .unset] [])) _
    refine XS.lload X33.here hx rfl (hb hby at_72) rfl ?_
    show Steps p.tables e below (T33.setTop (mkF m 74 #[.val (.long q0), .second, .val (.long q1), .second, .val (.long q2), .second, .val (.int p3), .val (.long xv), .second, .val (.long yv), .second, .val (.long r8), .second, .val (.long hv), .second, .val (.ref b22), .val (.long sv), .second, .unset, .unset, .unset, .unset, .unset, .unset, .unset] [(.long sv)])) _
    refine XS.lconst X33.here hx rfl (hb hby at_74) ?_
    show Steps p.tables e below (T33.setTop (mkF m 75 #[.val (.long q0), .second, .val (.long q1), .second, .val (.long q2), .second, .val (.int p3), .val (.long xv), .second, .val (.long yv), .second, .val (.long r8), .second, .val (.long hv), .second, .val (.ref b22), .val (.long sv), .second, .unset, .unset, .unset, .unset, .unset, .unset, .unset] [(.long (1 : Int64)), (.long sv)])) _
    refine XS.lcmp X33.here hx rfl (hb hby at_75) rfl ?_
    show Steps p.tables e below (T33.setTop (mkF m 76 #[.val (.long q0), .second, .val (.long q1), .second, .val (.long q2), .second, .val (.int p3), .val (.long xv), .second, .val (.long yv), .second, .val (.long r8), .second, .val (.long hv), .second, .val (.ref b22), .val (.long sv), .second, .unset, .unset, .unset, .unset, .unset, .unset, .unset] [(.int (lcmpW sv (1 : Int64)))])) _
    refine XS.ifNo X33.here hx rfl (hb hby at_76) rfl ((if0 _ _).trans (flt hc76_37).1) ?_
    show Steps p.tables e below (T33.setTop (mkF m 79 #[.val (.long q0), .second, .val (.long q1), .second, .val (.long q2), .second, .val (.int p3), .val (.long xv), .second, .val (.long yv), .second, .val (.long r8), .second, .val (.long hv), .second, .val (.ref b22), .val (.long sv), .second, .unset, .unset, .unset, .unset, .unset, .unset, .unset] [])) _
    refine XS.lload X33.here hx rfl (hb hby at_79) rfl ?_
    show Steps p.tables e below (T33.setTop (mkF m 81 #[.val (.long q0), .second, .val (.long q1), .second, .val (.long q2), .second, .val (.int p3), .val (.long xv), .second, .val (.long yv), .second, .val (.long r8), .second, .val (.long hv), .second, .val (.ref b22), .val (.long sv), .second, .unset, .unset, .unset, .unset, .unset, .unset, .unset] [(.long sv)])) _
    refine XS.lload X33.here hx rfl (hb hby at_81) rfl ?_
    show Steps p.tables e below (T33.setTop (mkF m 83 #[.val (.long q0), .second, .val (.long q1), .second, .val (.long q2), .second, .val (.int p3), .val (.long xv), .second, .val (.long yv), .second, .val (.long r8), .second, .val (.long hv), .second, .val (.ref b22), .val (.long sv), .second, .unset, .unset, .unset, .unset, .unset, .unset, .unset] [(.long hv), (.long sv)])) _
    refine XS.lcmp X33.here hx rfl (hb hby at_83) rfl ?_
    show Steps p.tables e below (T33.setTop (mkF m 84 #[.val (.long q0), .second, .val (.long q1), .second, .val (.long q2), .second, .val (.int p3), .val (.long xv), .second, .val (.long yv), .second, .val (.long r8), .second, .val (.long hv), .second, .val (.ref b22), .val (.long sv), .second, .unset, .unset, .unset, .unset, .unset, .unset, .unset] [(.int (lcmpW sv hv))])) _
    refine XS.ifNo X33.here hx rfl (hb hby at_84) rfl ((if0 _ _).trans (flt hc84_38).2.2.1) ?_
    show Steps p.tables e below (T33.setTop (mkF m 87 #[.val (.long q0), .second, .val (.long q1), .second, .val (.long q2), .second, .val (.int p3), .val (.long xv), .second, .val (.long yv), .second, .val (.long r8), .second, .val (.long hv), .second, .val (.ref b22), .val (.long sv), .second, .unset, .unset, .unset, .unset, .unset, .unset, .unset] [])) _
    refine XS.iconst X33.here hx rfl (hb hby at_87) ?_
    show Steps p.tables e below (T33.setTop (mkF m 88 #[.val (.long q0), .second, .val (.long q1), .second, .val (.long q2), .second, .val (.int p3), .val (.long xv), .second, .val (.long yv), .second, .val (.long r8), .second, .val (.long hv), .second, .val (.ref b22), .val (.long sv), .second, .unset, .unset, .unset, .unset, .unset, .unset, .unset] [(.int (1 : Int32))])) _
    refine XS.goto X33.here hx rfl (pc0 := 88) (pc' := 92) rfl (hb hby at_88) (by decide) (by decide) ?_
    show Steps p.tables e below (T33.setTop (mkF m 92 #[.val (.long q0), .second, .val (.long q1), .second, .val (.long q2), .second, .val (.int p3), .val (.long xv), .second, .val (.long yv), .second, .val (.long r8), .second, .val (.long hv), .second, .val (.ref b22), .val (.long sv), .second, .unset, .unset, .unset, .unset, .unset, .unset, .unset] [(.int (1 : Int32))])) _
    refine XS.istore X33.here hx rfl (hb hby at_92) rfl (l' := #[.val (.long q0), .second, .val (.long q1), .second, .val (.long q2), .second, .val (.int p3), .val (.long xv), .second, .val (.long yv), .second, .val (.long r8), .second, .val (.long hv), .second, .val (.ref b22), .val (.long sv), .second, .val (.int (1 : Int32)), .unset, .unset, .unset, .unset, .unset, .unset]) rfl ?_
    show Steps p.tables e below (T33.setTop (mkF m 94 #[.val (.long q0), .second, .val (.long q1), .second, .val (.long q2), .second, .val (.int p3), .val (.long xv), .second, .val (.long yv), .second, .val (.long r8), .second, .val (.long hv), .second, .val (.ref b22), .val (.long sv), .second, .val (.int (1 : Int32)), .unset, .unset, .unset, .unset, .unset, .unset] [])) _
    refine XS.lload X33.here hx rfl (hb hby at_94) rfl ?_
    show Steps p.tables e below (T33.setTop (mkF m 96 #[.val (.long q0), .second, .val (.long q1), .second, .val (.long q2), .second, .val (.int p3), .val (.long xv), .second, .val (.long yv), .second, .val (.long r8), .second, .val (.long hv), .second, .val (.ref b22), .val (.long sv), .second, .val (.int (1 : Int32)), .unset, .unset, .unset, .unset, .unset, .unset] [(.long hv)])) _
    refine XS.lload X33.here hx rfl (hb hby at_96) rfl ?_
    show Steps p.tables e below (T33.setTop (mkF m 98 #[.val (.long q0), .second, .val (.long q1), .second, .val (.long q2), .second, .val (.int p3), .val (.long xv), .second, .val (.long yv), .second, .val (.long r8), .second, .val (.long hv), .second, .val (.ref b22), .val (.long sv), .second, .val (.int (1 : Int32)), .unset, .unset, .unset, .unset, .unset, .unset] [(.long r8), (.long hv)])) _
    refine XS.lcmp X33.here hx rfl (hb hby at_98) rfl ?_
    exact k
  by_cases h99 : (lcmpW hv r8) = (0 : Int32)
  · have h1 : hv = r8 := (lw_eq _ _).mp h99
    have hc111_40 : (lcmpW sv (1 : Int64)) = (0 : Int32) := (lw_eq _ _).mpr (f3 h1)
    obtain ⟨T41, h41, X41, e41, E41, A41, D41, -, st41⟩ := newO X33 hx hZ hown (hw _ (List.mem_of_getElem? (i := 8) rfl)) (hw _ (List.mem_of_getElem? (i := 9) rfl)) (hw _ (List.mem_of_getElem? (i := 10) rfl)) R34 (g := (mkF m 126 #[.val (.long q0), .second, .val (.long q1), .second, .val (.long q2), .second, .val (.int p3), .val (.long xv), .second, .val (.long yv), .second, .val (.long r8), .second, .val (.long hv), .second, .val (.ref b22), .val (.long sv), .second, .val (.int (1 : Int32)), .unset, .unset, .unset, .unset, .unset, .unset] [])) rfl (hb hby at_126) (by decide) (by decide)
    obtain ⟨b41, g41⟩ : ∃ z, z = T26.heap.size := ⟨_, rfl⟩
    rw [← g41] at A41 D41 st41
    have ne42 : b22 ≠ b41 := Nat.ne_of_lt (Nat.lt_of_lt_of_le R28.lt (Nat.le_of_eq g41.symm))
    have g_b41 : n0 ≤ b41 := Nat.le_trans Z32 (Nat.le_of_eq g41.symm)
    have F43 : Exa Z h41 b22 "com/example/motes_to_bounds/motestobounds/model/Planning$Range" := R28.ext E41
    have F44 : Fld Z h41 b22 "com/example/motes_to_bounds/motestobounds/model/Planning$Range" "min" "J" (.long r8) := R29.ext E41
    have F45 : Fld Z h41 b22 "com/example/motes_to_bounds/motestobounds/model/Planning$Range" "max" "J" (.long hv) := R30.ext E41
    have Z46 : n0 ≤ h41.size := Nat.le_trans Z32 E41.1
    have F47 : Fld Z h41 b41 "com/example/motes_to_bounds/motestobounds/model/Planning$Range" "min" "J" (.long (0 : Int64)) := D41 (Or.inr (hw _ (List.mem_of_getElem? (i := 23) rfl))) (ty := .long) (by decide)
    have F48 : Fld Z h41 b41 "com/example/motes_to_bounds/motestobounds/model/Planning$Range" "max" "J" (.long (0 : Int64)) := D41 (Or.inr (hw _ (List.mem_of_getElem? (i := 25) rfl))) (ty := .long) (by decide)
    obtain ⟨_, _, ⟨T49, L49, k49, n49⟩, -, X49, ⟨Lc49, hQ49, l49, y49, z49⟩, st49⟩ := X41.specialBack hx (y := (⟨"com/example/motes_to_bounds/motestobounds/model/Planning$Range", "<init>", "(JJ)V"⟩ : MethodName)) rfl hown (mvT hZ (hw _ (List.mem_of_getElem? (i := 11) rfl))) (mvT hZ (hw _ (List.mem_of_getElem? (i := 12) rfl))) (mvT hZ (hw _ (List.mem_of_getElem? (i := 13) rfl))) (by decide) (backOf (W := 1) (rm3 l Z a0 hw [] b41 hv hv h41 n0 Z46 F47 F48 A41 g_b41) hZ (hw _ (List.mem_of_getElem? (i := 13) rfl)) (hw _ (List.mem_of_getElem? (i := 10) rfl)) (by decide) (by decide)) (g := (mkF m 134 #[.val (.long q0), .second, .val (.long q1), .second, .val (.long q2), .second, .val (.int p3), .val (.long xv), .second, .val (.long yv), .second, .val (.long r8), .second, .val (.long hv), .second, .val (.ref b22), .val (.long sv), .second, .val (.int (1 : Int32)), .unset, .unset, .unset, .unset, .unset, .unset] [(.long hv), (.long hv), (.ref b41), (.ref b41)])) rfl (by rw [hml]; rfl) (Steps.refl _) (a := b41) (argsL := [(.long hv), (.long hv)]) (rest := [(.ref b41)]) (lenOf pd_2 rfl) rfl (by show 2 * 0 + _ ≤ _; exact Nat.le_of_eq rfl) (hb hby at_134) (fun _ _ => ⟨rfl, e41, (by decide : 2 + 0 ≤ _), (by decide : 4 + 0 ≤ _)⟩)
    dsimp only [Pt.U, Pt.locs, Pt.cells, Pt.slots] at X49 l49 y49 z49 st49 hQ49
    subst l49 y49 z49
    obtain ⟨rfl, N49q, R50, R51, R52, R53⟩ := hQ49
    have N49 := Fr.app N33 N49q
    have F54 : Exa Z T49.heap b22 "com/example/motes_to_bounds/motestobounds/model/Planning$Range" := F43.keep R50
    have F55 : Fld Z T49.heap b22 "com/example/motes_to_bounds/motestobounds/model/Planning$Range" "min" "J" (.long r8) := F44.keep R50 (ninS ne42 nin0)
    have F56 : Fld Z T49.heap b22 "com/example/motes_to_bounds/motestobounds/model/Planning$Range" "max" "J" (.long hv) := F45.keep R50 (ninS ne42 nin0)
    have F57 : Exa Z T49.heap b41 "com/example/motes_to_bounds/motestobounds/model/Planning$Range" := A41.keep R50
    have Z58 : n0 ≤ T49.heap.size := Nat.le_trans Z46 R50.1
    obtain ⟨cq59, kq59, q59a, q59b, q59c⟩ := isOf hZ rfl R51
    obtain ⟨_, _, ⟨T59, L59, k59, n59⟩, -, X59, ⟨Lc59, hQ59, l59, y59, z59⟩, st59⟩ := X49.virtualBack hx (y := (⟨"com/example/motes_to_bounds/motestobounds/model/Planning$Range", "size", "()J"⟩ : MethodName)) (z := (⟨"com/example/motes_to_bounds/motestobounds/model/Planning$Range", "size", "()J"⟩ : MethodName)) hown (mvT hZ (hw _ (List.mem_of_getElem? (i := 26) rfl))) (mvT hZ (hw _ (List.mem_of_getElem? (i := 27) rfl))) (notFace_of_selects (args := #[]) (mvT hZ (hw _ (List.mem_of_getElem? (i := 29) rfl)))) (mvT hZ (hw _ (List.mem_of_getElem? (i := 29) rfl))) (mvT hZ (hw _ (List.mem_of_getElem? (i := 28) rfl))) (by decide) (backOf (W := 0) (rm6 l Z a0 hw [] b41 hv hv T49.heap n0 Z58 R52 R53) hZ (hw _ (List.mem_of_getElem? (i := 30) rfl)) (hw _ (List.mem_of_getElem? (i := 10) rfl)) (by decide) (by decide)) q59a q59c (g := (mkF m 137 #[.val (.long q0), .second, .val (.long q1), .second, .val (.long q2), .second, .val (.int p3), .val (.long xv), .second, .val (.long yv), .second, .val (.long r8), .second, .val (.long hv), .second, .val (.ref b22), .val (.long sv), .second, .val (.int (1 : Int32)), .unset, .unset, .unset, .unset, .unset, .unset] [(.ref b41)])) rfl (by rw [hml]; rfl) (Steps.refl _) (argsL := []) (rest := []) (lenOf pd_3 rfl) rfl (by show 2 * 0 + _ ≤ _; exact Nat.le_of_eq rfl) (hb hby at_137) (fun _ _ => ⟨rfl, rfl, (by decide : 2 + 0 ≤ _), (by decide : 4 + 0 ≤ _)⟩)
    dsimp only [Pt.U, Pt.locs, Pt.cells, Pt.slots] at X59 l59 y59 z59 st59 hQ59
    subst l59 y59 z59
    obtain ⟨rfl, N59q, R60⟩ := hQ59
    have N59 := Fr.app N49 N59q
    have hc142_61 : (lcmpW ((hv - hv) + (1 : Int64)) (1 : Int64)) = (0 : Int32) := (lw_eq _ _).mpr f4
    have P62 : ∀ t, Steps p.tables e below (T59.setTop (mkF m 157 #[.val (.long q0), .second, .val (.long q1), .second, .val (.long q2), .second, .val (.int p3), .val (.long xv), .second, .val (.long yv), .second, .val (.long r8), .second, .val (.long hv), .second, .val (.ref b22), .val (.long sv), .second, .val (.int (1 : Int32)), .unset, .unset, .unset, .unset, .unset, .unset] [(.int (lcmpW hv r8))])) t → Steps p.tables e below (s₁.setTop (entryFrame m #[(.long q0), (.long q1), (.long q2), (.int p3)] maxLocals)) t := by
      intro t k
      refine P39 t ?_
      show Steps p.tables e below (T33.setTop (mkF m 99 #[.val (.long q0), .second, .val (.long q1), .second, .val (.long q2), .second, .val (.int p3), .val (.long xv), .second, .val (.long yv), .second, .val (.long r8), .second, .val (.long hv), .second, .val (.ref b22), .val (.long sv), .second, .val (.int (1 : Int32)), .unset, .unset, .unset, .unset, .unset, .unset] [(.int (lcmpW hv r8))])) _
      refine XS.ifNo X33.here hx rfl (hb hby at_99) rfl ((if0 _ _).trans (teq h99).2) ?_
      show Steps p.tables e below (T33.setTop (mkF m 102 #[.val (.long q0), .second, .val (.long q1), .second, .val (.long q2), .second, .val (.int p3), .val (.long xv), .second, .val (.long yv), .second, .val (.long r8), .second, .val (.long hv), .second, .val (.ref b22), .val (.long sv), .second, .val (.int (1 : Int32)), .unset, .unset, .unset, .unset, .unset, .unset] [])) _
      refine XS.iload X33.here hx rfl (hb hby at_102) rfl ?_
      show Steps p.tables e below (T33.setTop (mkF m 104 #[.val (.long q0), .second, .val (.long q1), .second, .val (.long q2), .second, .val (.int p3), .val (.long xv), .second, .val (.long yv), .second, .val (.long r8), .second, .val (.long hv), .second, .val (.ref b22), .val (.long sv), .second, .val (.int (1 : Int32)), .unset, .unset, .unset, .unset, .unset, .unset] [(.int (1 : Int32))])) _
      refine XS.ifNo X33.here hx rfl (hb hby at_104) rfl ((if0 _ _).trans (feq (by decide : ¬ ((1 : Int32) = (0 : Int32)))).1) ?_
      show Steps p.tables e below (T33.setTop (mkF m 107 #[.val (.long q0), .second, .val (.long q1), .second, .val (.long q2), .second, .val (.int p3), .val (.long xv), .second, .val (.long yv), .second, .val (.long r8), .second, .val (.long hv), .second, .val (.ref b22), .val (.long sv), .second, .val (.int (1 : Int32)), .unset, .unset, .unset, .unset, .unset, .unset] [])) _
      refine XS.lload X33.here hx rfl (hb hby at_107) rfl ?_
      show Steps p.tables e below (T33.setTop (mkF m 109 #[.val (.long q0), .second, .val (.long q1), .second, .val (.long q2), .second, .val (.int p3), .val (.long xv), .second, .val (.long yv), .second, .val (.long r8), .second, .val (.long hv), .second, .val (.ref b22), .val (.long sv), .second, .val (.int (1 : Int32)), .unset, .unset, .unset, .unset, .unset, .unset] [(.long sv)])) _
      refine XS.lconst X33.here hx rfl (hb hby at_109) ?_
      show Steps p.tables e below (T33.setTop (mkF m 110 #[.val (.long q0), .second, .val (.long q1), .second, .val (.long q2), .second, .val (.int p3), .val (.long xv), .second, .val (.long yv), .second, .val (.long r8), .second, .val (.long hv), .second, .val (.ref b22), .val (.long sv), .second, .val (.int (1 : Int32)), .unset, .unset, .unset, .unset, .unset, .unset] [(.long (1 : Int64)), (.long sv)])) _
      refine XS.lcmp X33.here hx rfl (hb hby at_110) rfl ?_
      show Steps p.tables e below (T33.setTop (mkF m 111 #[.val (.long q0), .second, .val (.long q1), .second, .val (.long q2), .second, .val (.int p3), .val (.long xv), .second, .val (.long yv), .second, .val (.long r8), .second, .val (.long hv), .second, .val (.ref b22), .val (.long sv), .second, .val (.int (1 : Int32)), .unset, .unset, .unset, .unset, .unset, .unset] [(.int (lcmpW sv (1 : Int64)))])) _
      refine XS.ifNo X33.here hx rfl (hb hby at_111) rfl ((if0 _ _).trans (teq hc111_40).2) ?_
      show Steps p.tables e below (T33.setTop (mkF m 114 #[.val (.long q0), .second, .val (.long q1), .second, .val (.long q2), .second, .val (.int p3), .val (.long xv), .second, .val (.long yv), .second, .val (.long r8), .second, .val (.long hv), .second, .val (.ref b22), .val (.long sv), .second, .val (.int (1 : Int32)), .unset, .unset, .unset, .unset, .unset, .unset] [])) _
      refine XS.iconst X33.here hx rfl (hb hby at_114) ?_
      show Steps p.tables e below (T33.setTop (mkF m 115 #[.val (.long q0), .second, .val (.long q1), .second, .val (.long q2), .second, .val (.int p3), .val (.long xv), .second, .val (.long yv), .second, .val (.long r8), .second, .val (.long hv), .second, .val (.ref b22), .val (.long sv), .second, .val (.int (1 : Int32)), .unset, .unset, .unset, .unset, .unset, .unset] [(.int (1 : Int32))])) _
      refine XS.goto X33.here hx rfl (pc0 := 115) (pc' := 119) rfl (hb hby at_115) (by decide) (by decide) ?_
      show Steps p.tables e below (T33.setTop (mkF m 119 #[.val (.long q0), .second, .val (.long q1), .second, .val (.long q2), .second, .val (.int p3), .val (.long xv), .second, .val (.long yv), .second, .val (.long r8), .second, .val (.long hv), .second, .val (.ref b22), .val (.long sv), .second, .val (.int (1 : Int32)), .unset, .unset, .unset, .unset, .unset, .unset] [(.int (1 : Int32))])) _
      refine XS.istore X33.here hx rfl (hb hby at_119) rfl (l' := #[.val (.long q0), .second, .val (.long q1), .second, .val (.long q2), .second, .val (.int p3), .val (.long xv), .second, .val (.long yv), .second, .val (.long r8), .second, .val (.long hv), .second, .val (.ref b22), .val (.long sv), .second, .val (.int (1 : Int32)), .unset, .unset, .unset, .unset, .unset, .unset]) rfl ?_
      show Steps p.tables e below (T33.setTop (mkF m 121 #[.val (.long q0), .second, .val (.long q1), .second, .val (.long q2), .second, .val (.int p3), .val (.long xv), .second, .val (.long yv), .second, .val (.long r8), .second, .val (.long hv), .second, .val (.ref b22), .val (.long sv), .second, .val (.int (1 : Int32)), .unset, .unset, .unset, .unset, .unset, .unset] [])) _
      refine XS.iload X33.here hx rfl (hb hby at_121) rfl ?_
      show Steps p.tables e below (T33.setTop (mkF m 123 #[.val (.long q0), .second, .val (.long q1), .second, .val (.long q2), .second, .val (.int p3), .val (.long xv), .second, .val (.long yv), .second, .val (.long r8), .second, .val (.long hv), .second, .val (.ref b22), .val (.long sv), .second, .val (.int (1 : Int32)), .unset, .unset, .unset, .unset, .unset, .unset] [(.int (1 : Int32))])) _
      refine XS.ifNo X33.here hx rfl (hb hby at_123) rfl ((if0 _ _).trans (feq (by decide : ¬ ((1 : Int32) = (0 : Int32)))).1) ?_
      show Steps p.tables e below (T33.setTop (mkF m 126 #[.val (.long q0), .second, .val (.long q1), .second, .val (.long q2), .second, .val (.int p3), .val (.long xv), .second, .val (.long yv), .second, .val (.long r8), .second, .val (.long hv), .second, .val (.ref b22), .val (.long sv), .second, .val (.int (1 : Int32)), .unset, .unset, .unset, .unset, .unset, .unset] [])) _
      refine st41 _ ?_
      show Steps p.tables e below (T41.setTop (mkF m 129 #[.val (.long q0), .second, .val (.long q1), .second, .val (.long q2), .second, .val (.int p3), .val (.long xv), .second, .val (.long yv), .second, .val (.long r8), .second, .val (.long hv), .second, .val (.ref b22), .val (.long sv), .second, .val (.int (1 : Int32)), .unset, .unset, .unset, .unset, .unset, .unset] [(.ref b41)])) _
      refine XS.dup X41.here hx rfl (hb hby at_129) rfl rfl ?_
      show Steps p.tables e below (T41.setTop (mkF m 130 #[.val (.long q0), .second, .val (.long q1), .second, .val (.long q2), .second, .val (.int p3), .val (.long xv), .second, .val (.long yv), .second, .val (.long r8), .second, .val (.long hv), .second, .val (.ref b22), .val (.long sv), .second, .val (.int (1 : Int32)), .unset, .unset, .unset, .unset, .unset, .unset] [(.ref b41), (.ref b41)])) _
      refine XS.lload X41.here hx rfl (hb hby at_130) rfl ?_
      show Steps p.tables e below (T41.setTop (mkF m 132 #[.val (.long q0), .second, .val (.long q1), .second, .val (.long q2), .second, .val (.int p3), .val (.long xv), .second, .val (.long yv), .second, .val (.long r8), .second, .val (.long hv), .second, .val (.ref b22), .val (.long sv), .second, .val (.int (1 : Int32)), .unset, .unset, .unset, .unset, .unset, .unset] [(.long hv), (.ref b41), (.ref b41)])) _
      refine XS.lload X41.here hx rfl (hb hby at_132) rfl ?_
      show Steps p.tables e below (T41.setTop (mkF m 134 #[.val (.long q0), .second, .val (.long q1), .second, .val (.long q2), .second, .val (.int p3), .val (.long xv), .second, .val (.long yv), .second, .val (.long r8), .second, .val (.long hv), .second, .val (.ref b22), .val (.long sv), .second, .val (.int (1 : Int32)), .unset, .unset, .unset, .unset, .unset, .unset] [(.long hv), (.long hv), (.ref b41), (.ref b41)])) _
      refine st49.trans ?_
      show Steps p.tables e below (T49.setTop (mkF m 137 #[.val (.long q0), .second, .val (.long q1), .second, .val (.long q2), .second, .val (.int p3), .val (.long xv), .second, .val (.long yv), .second, .val (.long r8), .second, .val (.long hv), .second, .val (.ref b22), .val (.long sv), .second, .val (.int (1 : Int32)), .unset, .unset, .unset, .unset, .unset, .unset] [(.ref b41)])) _
      refine st59.trans ?_
      show Steps p.tables e below (T59.setTop (mkF m 140 #[.val (.long q0), .second, .val (.long q1), .second, .val (.long q2), .second, .val (.int p3), .val (.long xv), .second, .val (.long yv), .second, .val (.long r8), .second, .val (.long hv), .second, .val (.ref b22), .val (.long sv), .second, .val (.int (1 : Int32)), .unset, .unset, .unset, .unset, .unset, .unset] [(.long ((hv - hv) + (1 : Int64)))])) _
      refine XS.lconst X59.here hx rfl (hb hby at_140) ?_
      show Steps p.tables e below (T59.setTop (mkF m 141 #[.val (.long q0), .second, .val (.long q1), .second, .val (.long q2), .second, .val (.int p3), .val (.long xv), .second, .val (.long yv), .second, .val (.long r8), .second, .val (.long hv), .second, .val (.ref b22), .val (.long sv), .second, .val (.int (1 : Int32)), .unset, .unset, .unset, .unset, .unset, .unset] [(.long (1 : Int64)), (.long ((hv - hv) + (1 : Int64)))])) _
      refine XS.lcmp X59.here hx rfl (hb hby at_141) rfl ?_
      show Steps p.tables e below (T59.setTop (mkF m 142 #[.val (.long q0), .second, .val (.long q1), .second, .val (.long q2), .second, .val (.int p3), .val (.long xv), .second, .val (.long yv), .second, .val (.long r8), .second, .val (.long hv), .second, .val (.ref b22), .val (.long sv), .second, .val (.int (1 : Int32)), .unset, .unset, .unset, .unset, .unset, .unset] [(.int (lcmpW ((hv - hv) + (1 : Int64)) (1 : Int64)))])) _
      refine XS.ifNo X59.here hx rfl (hb hby at_142) rfl ((if0 _ _).trans (teq hc142_61).2) ?_
      show Steps p.tables e below (T59.setTop (mkF m 145 #[.val (.long q0), .second, .val (.long q1), .second, .val (.long q2), .second, .val (.int p3), .val (.long xv), .second, .val (.long yv), .second, .val (.long r8), .second, .val (.long hv), .second, .val (.ref b22), .val (.long sv), .second, .val (.int (1 : Int32)), .unset, .unset, .unset, .unset, .unset, .unset] [])) _
      refine XS.iconst X59.here hx rfl (hb hby at_145) ?_
      show Steps p.tables e below (T59.setTop (mkF m 146 #[.val (.long q0), .second, .val (.long q1), .second, .val (.long q2), .second, .val (.int p3), .val (.long xv), .second, .val (.long yv), .second, .val (.long r8), .second, .val (.long hv), .second, .val (.ref b22), .val (.long sv), .second, .val (.int (1 : Int32)), .unset, .unset, .unset, .unset, .unset, .unset] [(.int (1 : Int32))])) _
      refine XS.goto X59.here hx rfl (pc0 := 146) (pc' := 150) rfl (hb hby at_146) (by decide) (by decide) ?_
      show Steps p.tables e below (T59.setTop (mkF m 150 #[.val (.long q0), .second, .val (.long q1), .second, .val (.long q2), .second, .val (.int p3), .val (.long xv), .second, .val (.long yv), .second, .val (.long r8), .second, .val (.long hv), .second, .val (.ref b22), .val (.long sv), .second, .val (.int (1 : Int32)), .unset, .unset, .unset, .unset, .unset, .unset] [(.int (1 : Int32))])) _
      refine XS.istore X59.here hx rfl (hb hby at_150) rfl (l' := #[.val (.long q0), .second, .val (.long q1), .second, .val (.long q2), .second, .val (.int p3), .val (.long xv), .second, .val (.long yv), .second, .val (.long r8), .second, .val (.long hv), .second, .val (.ref b22), .val (.long sv), .second, .val (.int (1 : Int32)), .unset, .unset, .unset, .unset, .unset, .unset]) rfl ?_
      show Steps p.tables e below (T59.setTop (mkF m 152 #[.val (.long q0), .second, .val (.long q1), .second, .val (.long q2), .second, .val (.int p3), .val (.long xv), .second, .val (.long yv), .second, .val (.long r8), .second, .val (.long hv), .second, .val (.ref b22), .val (.long sv), .second, .val (.int (1 : Int32)), .unset, .unset, .unset, .unset, .unset, .unset] [])) _
      refine XS.lload X59.here hx rfl (hb hby at_152) rfl ?_
      show Steps p.tables e below (T59.setTop (mkF m 154 #[.val (.long q0), .second, .val (.long q1), .second, .val (.long q2), .second, .val (.int p3), .val (.long xv), .second, .val (.long yv), .second, .val (.long r8), .second, .val (.long hv), .second, .val (.ref b22), .val (.long sv), .second, .val (.int (1 : Int32)), .unset, .unset, .unset, .unset, .unset, .unset] [(.long hv)])) _
      refine XS.lload X59.here hx rfl (hb hby at_154) rfl ?_
      show Steps p.tables e below (T59.setTop (mkF m 156 #[.val (.long q0), .second, .val (.long q1), .second, .val (.long q2), .second, .val (.int p3), .val (.long xv), .second, .val (.long yv), .second, .val (.long r8), .second, .val (.long hv), .second, .val (.ref b22), .val (.long sv), .second, .val (.int (1 : Int32)), .unset, .unset, .unset, .unset, .unset, .unset] [(.long r8), (.long hv)])) _
      refine XS.lcmp X59.here hx rfl (hb hby at_156) rfl ?_
      exact k
    by_cases h157 : (0 : Int32) < (lcmpW hv r8)
    · have hlt : r8 < hv := (lw_gt _ _).mp h157
      have hnz : (hv - r8) ≠ (0 : Int64) := by
        intro q
        have := own_lsub hv r8 (by have := hv.toInt_lt; omega) (by have := hv.toInt_lt; omega)
        rw [q] at this
        rw [Int64.lt_iff_toInt_lt] at hlt
        have e0 : (0 : Int64).toInt = 0 := rfl
        omega
      have P63 : ∀ t, Steps p.tables e below (T59.setTop (mkF m 177 #[.val (.long q0), .second, .val (.long q1), .second, .val (.long q2), .second, .val (.int p3), .val (.long xv), .second, .val (.long yv), .second, .val (.long r8), .second, .val (.long hv), .second, .val (.ref b22), .val (.long sv), .second, .val (.int (1 : Int32)), .val (.long (r8 + ((q2 &&& (9223372036854775807 : Int64)) % (hv - r8)))), .second, .unset, .unset, .unset, .unset] [])) t → Steps p.tables e below (s₁.setTop (entryFrame m #[(.long q0), (.long q1), (.long q2), (.int p3)] maxLocals)) t := by
        intro t k
        refine P62 t ?_
        show Steps p.tables e below (T59.setTop (mkF m 157 #[.val (.long q0), .second, .val (.long q1), .second, .val (.long q2), .second, .val (.int p3), .val (.long xv), .second, .val (.long yv), .second, .val (.long r8), .second, .val (.long hv), .second, .val (.ref b22), .val (.long sv), .second, .val (.int (1 : Int32)), .unset, .unset, .unset, .unset, .unset, .unset] [(.int (lcmpW hv r8))])) _
        refine XS.ifNo X59.here hx rfl (hb hby at_157) rfl ((if0 _ _).trans (tlt h157).2.2.2) ?_
        show Steps p.tables e below (T59.setTop (mkF m 160 #[.val (.long q0), .second, .val (.long q1), .second, .val (.long q2), .second, .val (.int p3), .val (.long xv), .second, .val (.long yv), .second, .val (.long r8), .second, .val (.long hv), .second, .val (.ref b22), .val (.long sv), .second, .val (.int (1 : Int32)), .unset, .unset, .unset, .unset, .unset, .unset] [])) _
        refine XS.lload X59.here hx rfl (hb hby at_160) rfl ?_
        show Steps p.tables e below (T59.setTop (mkF m 162 #[.val (.long q0), .second, .val (.long q1), .second, .val (.long q2), .second, .val (.int p3), .val (.long xv), .second, .val (.long yv), .second, .val (.long r8), .second, .val (.long hv), .second, .val (.ref b22), .val (.long sv), .second, .val (.int (1 : Int32)), .unset, .unset, .unset, .unset, .unset, .unset] [(.long r8)])) _
        refine XS.lload X59.here hx rfl (hb hby at_162) rfl ?_
        show Steps p.tables e below (T59.setTop (mkF m 164 #[.val (.long q0), .second, .val (.long q1), .second, .val (.long q2), .second, .val (.int p3), .val (.long xv), .second, .val (.long yv), .second, .val (.long r8), .second, .val (.long hv), .second, .val (.ref b22), .val (.long sv), .second, .val (.int (1 : Int32)), .unset, .unset, .unset, .unset, .unset, .unset] [(.long q2), (.long r8)])) _
        refine X59.ldc2Long hx hown (mvT hZ (hw _ (List.mem_of_getElem? (i := 0) rfl))) (g := (mkF m 164 #[.val (.long q0), .second, .val (.long q1), .second, .val (.long q2), .second, .val (.int p3), .val (.long xv), .second, .val (.long yv), .second, .val (.long r8), .second, .val (.long hv), .second, .val (.ref b22), .val (.long sv), .second, .val (.int (1 : Int32)), .unset, .unset, .unset, .unset, .unset, .unset] [(.long q2), (.long r8)])) rfl (hb hby at_164) _ ?_
        show Steps p.tables e below (T59.setTop (mkF m 167 #[.val (.long q0), .second, .val (.long q1), .second, .val (.long q2), .second, .val (.int p3), .val (.long xv), .second, .val (.long yv), .second, .val (.long r8), .second, .val (.long hv), .second, .val (.ref b22), .val (.long sv), .second, .val (.int (1 : Int32)), .unset, .unset, .unset, .unset, .unset, .unset] [(.long (9223372036854775807 : Int64)), (.long q2), (.long r8)])) _
        refine XS.land X59.here hx rfl (hb hby at_167) rfl ?_
        show Steps p.tables e below (T59.setTop (mkF m 168 #[.val (.long q0), .second, .val (.long q1), .second, .val (.long q2), .second, .val (.int p3), .val (.long xv), .second, .val (.long yv), .second, .val (.long r8), .second, .val (.long hv), .second, .val (.ref b22), .val (.long sv), .second, .val (.int (1 : Int32)), .unset, .unset, .unset, .unset, .unset, .unset] [(.long (q2 &&& (9223372036854775807 : Int64))), (.long r8)])) _
        refine XS.lload X59.here hx rfl (hb hby at_168) rfl ?_
        show Steps p.tables e below (T59.setTop (mkF m 170 #[.val (.long q0), .second, .val (.long q1), .second, .val (.long q2), .second, .val (.int p3), .val (.long xv), .second, .val (.long yv), .second, .val (.long r8), .second, .val (.long hv), .second, .val (.ref b22), .val (.long sv), .second, .val (.int (1 : Int32)), .unset, .unset, .unset, .unset, .unset, .unset] [(.long hv), (.long (q2 &&& (9223372036854775807 : Int64))), (.long r8)])) _
        refine XS.lload X59.here hx rfl (hb hby at_170) rfl ?_
        show Steps p.tables e below (T59.setTop (mkF m 172 #[.val (.long q0), .second, .val (.long q1), .second, .val (.long q2), .second, .val (.int p3), .val (.long xv), .second, .val (.long yv), .second, .val (.long r8), .second, .val (.long hv), .second, .val (.ref b22), .val (.long sv), .second, .val (.int (1 : Int32)), .unset, .unset, .unset, .unset, .unset, .unset] [(.long r8), (.long hv), (.long (q2 &&& (9223372036854775807 : Int64))), (.long r8)])) _
        refine XS.lsub X59.here hx rfl (hb hby at_172) rfl ?_
        show Steps p.tables e below (T59.setTop (mkF m 173 #[.val (.long q0), .second, .val (.long q1), .second, .val (.long q2), .second, .val (.int p3), .val (.long xv), .second, .val (.long yv), .second, .val (.long r8), .second, .val (.long hv), .second, .val (.ref b22), .val (.long sv), .second, .val (.int (1 : Int32)), .unset, .unset, .unset, .unset, .unset, .unset] [(.long (hv - r8)), (.long (q2 &&& (9223372036854775807 : Int64))), (.long r8)])) _
        refine XS.lrem X59.here hx rfl (hb hby at_173) rfl hnz ?_
        rw [lrem_mod]
        show Steps p.tables e below (T59.setTop (mkF m 174 #[.val (.long q0), .second, .val (.long q1), .second, .val (.long q2), .second, .val (.int p3), .val (.long xv), .second, .val (.long yv), .second, .val (.long r8), .second, .val (.long hv), .second, .val (.ref b22), .val (.long sv), .second, .val (.int (1 : Int32)), .unset, .unset, .unset, .unset, .unset, .unset] [(.long ((q2 &&& (9223372036854775807 : Int64)) % (hv - r8))), (.long r8)])) _
        refine XS.ladd X59.here hx rfl (hb hby at_174) rfl ?_
        show Steps p.tables e below (T59.setTop (mkF m 175 #[.val (.long q0), .second, .val (.long q1), .second, .val (.long q2), .second, .val (.int p3), .val (.long xv), .second, .val (.long yv), .second, .val (.long r8), .second, .val (.long hv), .second, .val (.ref b22), .val (.long sv), .second, .val (.int (1 : Int32)), .unset, .unset, .unset, .unset, .unset, .unset] [(.long (r8 + ((q2 &&& (9223372036854775807 : Int64)) % (hv - r8))))])) _
        refine XS.lstore X59.here hx rfl (hb hby at_175) rfl (l' := #[.val (.long q0), .second, .val (.long q1), .second, .val (.long q2), .second, .val (.int p3), .val (.long xv), .second, .val (.long yv), .second, .val (.long r8), .second, .val (.long hv), .second, .val (.ref b22), .val (.long sv), .second, .val (.int (1 : Int32)), .val (.long (r8 + ((q2 &&& (9223372036854775807 : Int64)) % (hv - r8)))), .second, .unset, .unset, .unset, .unset]) rfl ?_
        exact k
      obtain ⟨kv, hkv⟩ : ∃ z : Int64, z = (r8 + ((q2 &&& (9223372036854775807 : Int64)) % (hv - r8))) := ⟨_, rfl⟩
      have P64 : ∀ t, Steps p.tables e below (T59.setTop (mkF m 177 #[.val (.long q0), .second, .val (.long q1), .second, .val (.long q2), .second, .val (.int p3), .val (.long xv), .second, .val (.long yv), .second, .val (.long r8), .second, .val (.long hv), .second, .val (.ref b22), .val (.long sv), .second, .val (.int (1 : Int32)), .val (.long kv), .second, .unset, .unset, .unset, .unset] [])) t → Steps p.tables e below (s₁.setTop (entryFrame m #[(.long q0), (.long q1), (.long q2), (.int p3)] maxLocals)) t := by rw [hkv]; exact P63
      obtain ⟨T65, h65, X65, e65, E65, A65, D65, -, st65⟩ := newO X59 hx hZ hown (hw _ (List.mem_of_getElem? (i := 8) rfl)) (hw _ (List.mem_of_getElem? (i := 9) rfl)) (hw _ (List.mem_of_getElem? (i := 10) rfl)) R60 (g := (mkF m 177 #[.val (.long q0), .second, .val (.long q1), .second, .val (.long q2), .second, .val (.int p3), .val (.long xv), .second, .val (.long yv), .second, .val (.long r8), .second, .val (.long hv), .second, .val (.ref b22), .val (.long sv), .second, .val (.int (1 : Int32)), .val (.long kv), .second, .unset, .unset, .unset, .unset] [])) rfl (hb hby at_177) (by decide) (by decide)
      obtain ⟨b65, g65⟩ : ∃ z, z = T49.heap.size := ⟨_, rfl⟩
      rw [← g65] at A65 D65 st65
      have ne66 : b22 ≠ b65 := Nat.ne_of_lt (Nat.lt_of_lt_of_le F54.lt (Nat.le_of_eq g65.symm))
      have ne67 : b41 ≠ b65 := Nat.ne_of_lt (Nat.lt_of_lt_of_le R51.lt (Nat.le_of_eq g65.symm))
      have g_b65 : n0 ≤ b65 := Nat.le_trans Z58 (Nat.le_of_eq g65.symm)
      have F68 : Exa Z h65 b22 "com/example/motes_to_bounds/motestobounds/model/Planning$Range" := F54.ext E65
      have F69 : Fld Z h65 b22 "com/example/motes_to_bounds/motestobounds/model/Planning$Range" "min" "J" (.long r8) := F55.ext E65
      have F70 : Fld Z h65 b22 "com/example/motes_to_bounds/motestobounds/model/Planning$Range" "max" "J" (.long hv) := F56.ext E65
      have F71 : Exa Z h65 b41 "com/example/motes_to_bounds/motestobounds/model/Planning$Range" := R51.ext E65
      have F72 : Fld Z h65 b41 "com/example/motes_to_bounds/motestobounds/model/Planning$Range" "min" "J" (.long hv) := R52.ext E65
      have F73 : Fld Z h65 b41 "com/example/motes_to_bounds/motestobounds/model/Planning$Range" "max" "J" (.long hv) := R53.ext E65
      have Z74 : n0 ≤ h65.size := Nat.le_trans Z58 E65.1
      have F75 : Fld Z h65 b65 "com/example/motes_to_bounds/motestobounds/model/Planning$Range" "min" "J" (.long (0 : Int64)) := D65 (Or.inr (hw _ (List.mem_of_getElem? (i := 23) rfl))) (ty := .long) (by decide)
      have F76 : Fld Z h65 b65 "com/example/motes_to_bounds/motestobounds/model/Planning$Range" "max" "J" (.long (0 : Int64)) := D65 (Or.inr (hw _ (List.mem_of_getElem? (i := 25) rfl))) (ty := .long) (by decide)
      obtain ⟨_, _, ⟨T77, L77, k77, n77⟩, -, X77, ⟨Lc77, hQ77, l77, y77, z77⟩, st77⟩ := X65.specialBack hx (y := (⟨"com/example/motes_to_bounds/motestobounds/model/Planning$Range", "<init>", "(JJ)V"⟩ : MethodName)) rfl hown (mvT hZ (hw _ (List.mem_of_getElem? (i := 11) rfl))) (mvT hZ (hw _ (List.mem_of_getElem? (i := 12) rfl))) (mvT hZ (hw _ (List.mem_of_getElem? (i := 13) rfl))) (by decide) (backOf (W := 1) (rm3 l Z a0 hw [] b65 r8 kv h65 n0 Z74 F75 F76 A65 g_b65) hZ (hw _ (List.mem_of_getElem? (i := 13) rfl)) (hw _ (List.mem_of_getElem? (i := 10) rfl)) (by decide) (by decide)) (g := (mkF m 185 #[.val (.long q0), .second, .val (.long q1), .second, .val (.long q2), .second, .val (.int p3), .val (.long xv), .second, .val (.long yv), .second, .val (.long r8), .second, .val (.long hv), .second, .val (.ref b22), .val (.long sv), .second, .val (.int (1 : Int32)), .val (.long kv), .second, .unset, .unset, .unset, .unset] [(.long kv), (.long r8), (.ref b65), (.ref b65)])) rfl (by rw [hml]; rfl) (Steps.refl _) (a := b65) (argsL := [(.long r8), (.long kv)]) (rest := [(.ref b65)]) (lenOf pd_2 rfl) rfl (by show 2 * 0 + _ ≤ _; exact Nat.le_of_eq rfl) (hb hby at_185) (fun _ _ => ⟨rfl, e65, (by decide : 3 + 0 ≤ _), (by decide : 6 + 0 ≤ _)⟩)
      dsimp only [Pt.U, Pt.locs, Pt.cells, Pt.slots] at X77 l77 y77 z77 st77 hQ77
      subst l77 y77 z77
      obtain ⟨rfl, N77q, R78, R79, R80, R81⟩ := hQ77
      have N77 := Fr.app N59 N77q
      have F82 : Exa Z T77.heap b22 "com/example/motes_to_bounds/motestobounds/model/Planning$Range" := F68.keep R78
      have F83 : Fld Z T77.heap b22 "com/example/motes_to_bounds/motestobounds/model/Planning$Range" "min" "J" (.long r8) := F69.keep R78 (ninS ne66 nin0)
      have F84 : Fld Z T77.heap b22 "com/example/motes_to_bounds/motestobounds/model/Planning$Range" "max" "J" (.long hv) := F70.keep R78 (ninS ne66 nin0)
      have F85 : Exa Z T77.heap b41 "com/example/motes_to_bounds/motestobounds/model/Planning$Range" := F71.keep R78
      have F86 : Fld Z T77.heap b41 "com/example/motes_to_bounds/motestobounds/model/Planning$Range" "min" "J" (.long hv) := F72.keep R78 (ninS ne67 nin0)
      have F87 : Fld Z T77.heap b41 "com/example/motes_to_bounds/motestobounds/model/Planning$Range" "max" "J" (.long hv) := F73.keep R78 (ninS ne67 nin0)
      have F88 : Exa Z T77.heap b65 "com/example/motes_to_bounds/motestobounds/model/Planning$Range" := A65.keep R78
      have Z89 : n0 ≤ T77.heap.size := Nat.le_trans Z74 R78.1
      obtain ⟨cq90, kq90, q90a, q90b, q90c⟩ := isOf hZ rfl R79
      obtain ⟨_, _, ⟨T90, L90, k90, n90⟩, -, X90, ⟨Lc90, hQ90, l90, y90, z90⟩, st90⟩ := X77.virtualBack hx (y := (⟨"com/example/motes_to_bounds/motestobounds/model/Planning$Range", "size", "()J"⟩ : MethodName)) (z := (⟨"com/example/motes_to_bounds/motestobounds/model/Planning$Range", "size", "()J"⟩ : MethodName)) hown (mvT hZ (hw _ (List.mem_of_getElem? (i := 26) rfl))) (mvT hZ (hw _ (List.mem_of_getElem? (i := 27) rfl))) (notFace_of_selects (args := #[]) (mvT hZ (hw _ (List.mem_of_getElem? (i := 29) rfl)))) (mvT hZ (hw _ (List.mem_of_getElem? (i := 29) rfl))) (mvT hZ (hw _ (List.mem_of_getElem? (i := 28) rfl))) (by decide) (backOf (W := 0) (rm6 l Z a0 hw [] b65 r8 kv T77.heap n0 Z89 R80 R81) hZ (hw _ (List.mem_of_getElem? (i := 30) rfl)) (hw _ (List.mem_of_getElem? (i := 10) rfl)) (by decide) (by decide)) q90a q90c (g := (mkF m 188 #[.val (.long q0), .second, .val (.long q1), .second, .val (.long q2), .second, .val (.int p3), .val (.long xv), .second, .val (.long yv), .second, .val (.long r8), .second, .val (.long hv), .second, .val (.ref b22), .val (.long sv), .second, .val (.int (1 : Int32)), .val (.long kv), .second, .unset, .unset, .unset, .unset] [(.ref b65)])) rfl (by rw [hml]; rfl) (Steps.refl _) (argsL := []) (rest := []) (lenOf pd_3 rfl) rfl (by show 2 * 0 + _ ≤ _; exact Nat.le_of_eq rfl) (hb hby at_188) (fun _ _ => ⟨rfl, rfl, (by decide : 3 + 0 ≤ _), (by decide : 6 + 0 ≤ _)⟩)
      dsimp only [Pt.U, Pt.locs, Pt.cells, Pt.slots] at X90 l90 y90 z90 st90 hQ90
      subst l90 y90 z90
      obtain ⟨rfl, N90q, R91⟩ := hQ90
      have N90 := Fr.app N77 N90q
      obtain ⟨T92, h92, X92, e92, E92, A92, D92, -, st92⟩ := newO X90 hx hZ hown (hw _ (List.mem_of_getElem? (i := 8) rfl)) (hw _ (List.mem_of_getElem? (i := 9) rfl)) (hw _ (List.mem_of_getElem? (i := 10) rfl)) R91 (g := (mkF m 193 #[.val (.long q0), .second, .val (.long q1), .second, .val (.long q2), .second, .val (.int p3), .val (.long xv), .second, .val (.long yv), .second, .val (.long r8), .second, .val (.long hv), .second, .val (.ref b22), .val (.long sv), .second, .val (.int (1 : Int32)), .val (.long kv), .second, .val (.long ((kv - r8) + (1 : Int64))), .second, .unset, .unset] [])) rfl (hb hby at_193) (by decide) (by decide)
      obtain ⟨b92, g92⟩ : ∃ z, z = T77.heap.size := ⟨_, rfl⟩
      rw [← g92] at A92 D92 st92
      have ne93 : b22 ≠ b92 := Nat.ne_of_lt (Nat.lt_of_lt_of_le F82.lt (Nat.le_of_eq g92.symm))
      have ne94 : b41 ≠ b92 := Nat.ne_of_lt (Nat.lt_of_lt_of_le F85.lt (Nat.le_of_eq g92.symm))
      have ne95 : b65 ≠ b92 := Nat.ne_of_lt (Nat.lt_of_lt_of_le R79.lt (Nat.le_of_eq g92.symm))
      have g_b92 : n0 ≤ b92 := Nat.le_trans Z89 (Nat.le_of_eq g92.symm)
      have F96 : Exa Z h92 b22 "com/example/motes_to_bounds/motestobounds/model/Planning$Range" := F82.ext E92
      have F97 : Fld Z h92 b22 "com/example/motes_to_bounds/motestobounds/model/Planning$Range" "min" "J" (.long r8) := F83.ext E92
      have F98 : Fld Z h92 b22 "com/example/motes_to_bounds/motestobounds/model/Planning$Range" "max" "J" (.long hv) := F84.ext E92
      have F99 : Exa Z h92 b41 "com/example/motes_to_bounds/motestobounds/model/Planning$Range" := F85.ext E92
      have F100 : Fld Z h92 b41 "com/example/motes_to_bounds/motestobounds/model/Planning$Range" "min" "J" (.long hv) := F86.ext E92
      have F101 : Fld Z h92 b41 "com/example/motes_to_bounds/motestobounds/model/Planning$Range" "max" "J" (.long hv) := F87.ext E92
      have F102 : Exa Z h92 b65 "com/example/motes_to_bounds/motestobounds/model/Planning$Range" := R79.ext E92
      have F103 : Fld Z h92 b65 "com/example/motes_to_bounds/motestobounds/model/Planning$Range" "min" "J" (.long r8) := R80.ext E92
      have F104 : Fld Z h92 b65 "com/example/motes_to_bounds/motestobounds/model/Planning$Range" "max" "J" (.long kv) := R81.ext E92
      have Z105 : n0 ≤ h92.size := Nat.le_trans Z89 E92.1
      have F106 : Fld Z h92 b92 "com/example/motes_to_bounds/motestobounds/model/Planning$Range" "min" "J" (.long (0 : Int64)) := D92 (Or.inr (hw _ (List.mem_of_getElem? (i := 23) rfl))) (ty := .long) (by decide)
      have F107 : Fld Z h92 b92 "com/example/motes_to_bounds/motestobounds/model/Planning$Range" "max" "J" (.long (0 : Int64)) := D92 (Or.inr (hw _ (List.mem_of_getElem? (i := 25) rfl))) (ty := .long) (by decide)
      obtain ⟨_, _, ⟨T108, L108, k108, n108⟩, -, X108, ⟨Lc108, hQ108, l108, y108, z108⟩, st108⟩ := X92.specialBack hx (y := (⟨"com/example/motes_to_bounds/motestobounds/model/Planning$Range", "<init>", "(JJ)V"⟩ : MethodName)) rfl hown (mvT hZ (hw _ (List.mem_of_getElem? (i := 11) rfl))) (mvT hZ (hw _ (List.mem_of_getElem? (i := 12) rfl))) (mvT hZ (hw _ (List.mem_of_getElem? (i := 13) rfl))) (by decide) (backOf (W := 1) (rm3 l Z a0 hw [] b92 (kv + (1 : Int64)) hv h92 n0 Z105 F106 F107 A92 g_b92) hZ (hw _ (List.mem_of_getElem? (i := 13) rfl)) (hw _ (List.mem_of_getElem? (i := 10) rfl)) (by decide) (by decide)) (g := (mkF m 203 #[.val (.long q0), .second, .val (.long q1), .second, .val (.long q2), .second, .val (.int p3), .val (.long xv), .second, .val (.long yv), .second, .val (.long r8), .second, .val (.long hv), .second, .val (.ref b22), .val (.long sv), .second, .val (.int (1 : Int32)), .val (.long kv), .second, .val (.long ((kv - r8) + (1 : Int64))), .second, .unset, .unset] [(.long hv), (.long (kv + (1 : Int64))), (.ref b92), (.ref b92)])) rfl (by rw [hml]; rfl) (Steps.refl _) (a := b92) (argsL := [(.long (kv + (1 : Int64))), (.long hv)]) (rest := [(.ref b92)]) (lenOf pd_2 rfl) rfl (by show 2 * 0 + _ ≤ _; exact Nat.le_of_eq rfl) (hb hby at_203) (fun _ _ => ⟨rfl, e92, (by decide : 4 + 0 ≤ _), (by decide : 8 + 0 ≤ _)⟩)
      dsimp only [Pt.U, Pt.locs, Pt.cells, Pt.slots] at X108 l108 y108 z108 st108 hQ108
      subst l108 y108 z108
      obtain ⟨rfl, N108q, R109, R110, R111, R112⟩ := hQ108
      have N108 := Fr.app N90 N108q
      have F113 : Exa Z T108.heap b22 "com/example/motes_to_bounds/motestobounds/model/Planning$Range" := F96.keep R109
      have F114 : Fld Z T108.heap b22 "com/example/motes_to_bounds/motestobounds/model/Planning$Range" "min" "J" (.long r8) := F97.keep R109 (ninS ne93 nin0)
      have F115 : Fld Z T108.heap b22 "com/example/motes_to_bounds/motestobounds/model/Planning$Range" "max" "J" (.long hv) := F98.keep R109 (ninS ne93 nin0)
      have F116 : Exa Z T108.heap b41 "com/example/motes_to_bounds/motestobounds/model/Planning$Range" := F99.keep R109
      have F117 : Fld Z T108.heap b41 "com/example/motes_to_bounds/motestobounds/model/Planning$Range" "min" "J" (.long hv) := F100.keep R109 (ninS ne94 nin0)
      have F118 : Fld Z T108.heap b41 "com/example/motes_to_bounds/motestobounds/model/Planning$Range" "max" "J" (.long hv) := F101.keep R109 (ninS ne94 nin0)
      have F119 : Exa Z T108.heap b65 "com/example/motes_to_bounds/motestobounds/model/Planning$Range" := F102.keep R109
      have F120 : Fld Z T108.heap b65 "com/example/motes_to_bounds/motestobounds/model/Planning$Range" "min" "J" (.long r8) := F103.keep R109 (ninS ne95 nin0)
      have F121 : Fld Z T108.heap b65 "com/example/motes_to_bounds/motestobounds/model/Planning$Range" "max" "J" (.long kv) := F104.keep R109 (ninS ne95 nin0)
      have F122 : Exa Z T108.heap b92 "com/example/motes_to_bounds/motestobounds/model/Planning$Range" := A92.keep R109
      have Z123 : n0 ≤ T108.heap.size := Nat.le_trans Z105 R109.1
      obtain ⟨cq124, kq124, q124a, q124b, q124c⟩ := isOf hZ rfl R110
      obtain ⟨_, _, ⟨T124, L124, k124, n124⟩, -, X124, ⟨Lc124, hQ124, l124, y124, z124⟩, st124⟩ := X108.virtualBack hx (y := (⟨"com/example/motes_to_bounds/motestobounds/model/Planning$Range", "size", "()J"⟩ : MethodName)) (z := (⟨"com/example/motes_to_bounds/motestobounds/model/Planning$Range", "size", "()J"⟩ : MethodName)) hown (mvT hZ (hw _ (List.mem_of_getElem? (i := 26) rfl))) (mvT hZ (hw _ (List.mem_of_getElem? (i := 27) rfl))) (notFace_of_selects (args := #[]) (mvT hZ (hw _ (List.mem_of_getElem? (i := 29) rfl)))) (mvT hZ (hw _ (List.mem_of_getElem? (i := 29) rfl))) (mvT hZ (hw _ (List.mem_of_getElem? (i := 28) rfl))) (by decide) (backOf (W := 0) (rm6 l Z a0 hw [] b92 (kv + (1 : Int64)) hv T108.heap n0 Z123 R111 R112) hZ (hw _ (List.mem_of_getElem? (i := 30) rfl)) (hw _ (List.mem_of_getElem? (i := 10) rfl)) (by decide) (by decide)) q124a q124c (g := (mkF m 206 #[.val (.long q0), .second, .val (.long q1), .second, .val (.long q2), .second, .val (.int p3), .val (.long xv), .second, .val (.long yv), .second, .val (.long r8), .second, .val (.long hv), .second, .val (.ref b22), .val (.long sv), .second, .val (.int (1 : Int32)), .val (.long kv), .second, .val (.long ((kv - r8) + (1 : Int64))), .second, .unset, .unset] [(.ref b92)])) rfl (by rw [hml]; rfl) (Steps.refl _) (argsL := []) (rest := []) (lenOf pd_3 rfl) rfl (by show 2 * 0 + _ ≤ _; exact Nat.le_of_eq rfl) (hb hby at_206) (fun _ _ => ⟨rfl, rfl, (by decide : 4 + 0 ≤ _), (by decide : 8 + 0 ≤ _)⟩)
      dsimp only [Pt.U, Pt.locs, Pt.cells, Pt.slots] at X124 l124 y124 z124 st124 hQ124
      subst l124 y124 z124
      obtain ⟨rfl, N124q, R125⟩ := hQ124
      have N124 := Fr.app N108 N124q
      have hc224_126 : (lcmpW (((kv - r8) + (1 : Int64)) + ((hv - (kv + (1 : Int64))) + (1 : Int64))) sv) = (0 : Int32) := (lw_eq _ _).mpr (own_split r8 hv sv kv _ hlo hlt hsv (own_mask q2) hkv)
      obtain ⟨fs, hr, hrun, hended, hW, hsame⟩ := X124.leave (v := some (.int (1 : Int32))) (fun h => by rw [Bd.returns] at h; cases h)
      refine ⟨_, _, P64 _ ?_, hrun, hended, _, _, rfl, ?_, ⟨_, rfl⟩, hW, hsame.mono (by decide) (by decide)⟩
      · show Steps p.tables e below (T59.setTop (mkF m 177 #[.val (.long q0), .second, .val (.long q1), .second, .val (.long q2), .second, .val (.int p3), .val (.long xv), .second, .val (.long yv), .second, .val (.long r8), .second, .val (.long hv), .second, .val (.ref b22), .val (.long sv), .second, .val (.int (1 : Int32)), .val (.long kv), .second, .unset, .unset, .unset, .unset] [])) _
        refine st65 _ ?_
        show Steps p.tables e below (T65.setTop (mkF m 180 #[.val (.long q0), .second, .val (.long q1), .second, .val (.long q2), .second, .val (.int p3), .val (.long xv), .second, .val (.long yv), .second, .val (.long r8), .second, .val (.long hv), .second, .val (.ref b22), .val (.long sv), .second, .val (.int (1 : Int32)), .val (.long kv), .second, .unset, .unset, .unset, .unset] [(.ref b65)])) _
        refine XS.dup X65.here hx rfl (hb hby at_180) rfl rfl ?_
        show Steps p.tables e below (T65.setTop (mkF m 181 #[.val (.long q0), .second, .val (.long q1), .second, .val (.long q2), .second, .val (.int p3), .val (.long xv), .second, .val (.long yv), .second, .val (.long r8), .second, .val (.long hv), .second, .val (.ref b22), .val (.long sv), .second, .val (.int (1 : Int32)), .val (.long kv), .second, .unset, .unset, .unset, .unset] [(.ref b65), (.ref b65)])) _
        refine XS.lload X65.here hx rfl (hb hby at_181) rfl ?_
        show Steps p.tables e below (T65.setTop (mkF m 183 #[.val (.long q0), .second, .val (.long q1), .second, .val (.long q2), .second, .val (.int p3), .val (.long xv), .second, .val (.long yv), .second, .val (.long r8), .second, .val (.long hv), .second, .val (.ref b22), .val (.long sv), .second, .val (.int (1 : Int32)), .val (.long kv), .second, .unset, .unset, .unset, .unset] [(.long r8), (.ref b65), (.ref b65)])) _
        refine XS.lload X65.here hx rfl (hb hby at_183) rfl ?_
        show Steps p.tables e below (T65.setTop (mkF m 185 #[.val (.long q0), .second, .val (.long q1), .second, .val (.long q2), .second, .val (.int p3), .val (.long xv), .second, .val (.long yv), .second, .val (.long r8), .second, .val (.long hv), .second, .val (.ref b22), .val (.long sv), .second, .val (.int (1 : Int32)), .val (.long kv), .second, .unset, .unset, .unset, .unset] [(.long kv), (.long r8), (.ref b65), (.ref b65)])) _
        refine st77.trans ?_
        show Steps p.tables e below (T77.setTop (mkF m 188 #[.val (.long q0), .second, .val (.long q1), .second, .val (.long q2), .second, .val (.int p3), .val (.long xv), .second, .val (.long yv), .second, .val (.long r8), .second, .val (.long hv), .second, .val (.ref b22), .val (.long sv), .second, .val (.int (1 : Int32)), .val (.long kv), .second, .unset, .unset, .unset, .unset] [(.ref b65)])) _
        refine st90.trans ?_
        show Steps p.tables e below (T90.setTop (mkF m 191 #[.val (.long q0), .second, .val (.long q1), .second, .val (.long q2), .second, .val (.int p3), .val (.long xv), .second, .val (.long yv), .second, .val (.long r8), .second, .val (.long hv), .second, .val (.ref b22), .val (.long sv), .second, .val (.int (1 : Int32)), .val (.long kv), .second, .unset, .unset, .unset, .unset] [(.long ((kv - r8) + (1 : Int64)))])) _
        refine XS.lstore X90.here hx rfl (hb hby at_191) rfl (l' := #[.val (.long q0), .second, .val (.long q1), .second, .val (.long q2), .second, .val (.int p3), .val (.long xv), .second, .val (.long yv), .second, .val (.long r8), .second, .val (.long hv), .second, .val (.ref b22), .val (.long sv), .second, .val (.int (1 : Int32)), .val (.long kv), .second, .val (.long ((kv - r8) + (1 : Int64))), .second, .unset, .unset]) rfl ?_
        show Steps p.tables e below (T90.setTop (mkF m 193 #[.val (.long q0), .second, .val (.long q1), .second, .val (.long q2), .second, .val (.int p3), .val (.long xv), .second, .val (.long yv), .second, .val (.long r8), .second, .val (.long hv), .second, .val (.ref b22), .val (.long sv), .second, .val (.int (1 : Int32)), .val (.long kv), .second, .val (.long ((kv - r8) + (1 : Int64))), .second, .unset, .unset] [])) _
        refine st92 _ ?_
        show Steps p.tables e below (T92.setTop (mkF m 196 #[.val (.long q0), .second, .val (.long q1), .second, .val (.long q2), .second, .val (.int p3), .val (.long xv), .second, .val (.long yv), .second, .val (.long r8), .second, .val (.long hv), .second, .val (.ref b22), .val (.long sv), .second, .val (.int (1 : Int32)), .val (.long kv), .second, .val (.long ((kv - r8) + (1 : Int64))), .second, .unset, .unset] [(.ref b92)])) _
        refine XS.dup X92.here hx rfl (hb hby at_196) rfl rfl ?_
        show Steps p.tables e below (T92.setTop (mkF m 197 #[.val (.long q0), .second, .val (.long q1), .second, .val (.long q2), .second, .val (.int p3), .val (.long xv), .second, .val (.long yv), .second, .val (.long r8), .second, .val (.long hv), .second, .val (.ref b22), .val (.long sv), .second, .val (.int (1 : Int32)), .val (.long kv), .second, .val (.long ((kv - r8) + (1 : Int64))), .second, .unset, .unset] [(.ref b92), (.ref b92)])) _
        refine XS.lload X92.here hx rfl (hb hby at_197) rfl ?_
        show Steps p.tables e below (T92.setTop (mkF m 199 #[.val (.long q0), .second, .val (.long q1), .second, .val (.long q2), .second, .val (.int p3), .val (.long xv), .second, .val (.long yv), .second, .val (.long r8), .second, .val (.long hv), .second, .val (.ref b22), .val (.long sv), .second, .val (.int (1 : Int32)), .val (.long kv), .second, .val (.long ((kv - r8) + (1 : Int64))), .second, .unset, .unset] [(.long kv), (.ref b92), (.ref b92)])) _
        refine XS.lconst X92.here hx rfl (hb hby at_199) ?_
        show Steps p.tables e below (T92.setTop (mkF m 200 #[.val (.long q0), .second, .val (.long q1), .second, .val (.long q2), .second, .val (.int p3), .val (.long xv), .second, .val (.long yv), .second, .val (.long r8), .second, .val (.long hv), .second, .val (.ref b22), .val (.long sv), .second, .val (.int (1 : Int32)), .val (.long kv), .second, .val (.long ((kv - r8) + (1 : Int64))), .second, .unset, .unset] [(.long (1 : Int64)), (.long kv), (.ref b92), (.ref b92)])) _
        refine XS.ladd X92.here hx rfl (hb hby at_200) rfl ?_
        show Steps p.tables e below (T92.setTop (mkF m 201 #[.val (.long q0), .second, .val (.long q1), .second, .val (.long q2), .second, .val (.int p3), .val (.long xv), .second, .val (.long yv), .second, .val (.long r8), .second, .val (.long hv), .second, .val (.ref b22), .val (.long sv), .second, .val (.int (1 : Int32)), .val (.long kv), .second, .val (.long ((kv - r8) + (1 : Int64))), .second, .unset, .unset] [(.long (kv + (1 : Int64))), (.ref b92), (.ref b92)])) _
        refine XS.lload X92.here hx rfl (hb hby at_201) rfl ?_
        show Steps p.tables e below (T92.setTop (mkF m 203 #[.val (.long q0), .second, .val (.long q1), .second, .val (.long q2), .second, .val (.int p3), .val (.long xv), .second, .val (.long yv), .second, .val (.long r8), .second, .val (.long hv), .second, .val (.ref b22), .val (.long sv), .second, .val (.int (1 : Int32)), .val (.long kv), .second, .val (.long ((kv - r8) + (1 : Int64))), .second, .unset, .unset] [(.long hv), (.long (kv + (1 : Int64))), (.ref b92), (.ref b92)])) _
        refine st108.trans ?_
        show Steps p.tables e below (T108.setTop (mkF m 206 #[.val (.long q0), .second, .val (.long q1), .second, .val (.long q2), .second, .val (.int p3), .val (.long xv), .second, .val (.long yv), .second, .val (.long r8), .second, .val (.long hv), .second, .val (.ref b22), .val (.long sv), .second, .val (.int (1 : Int32)), .val (.long kv), .second, .val (.long ((kv - r8) + (1 : Int64))), .second, .unset, .unset] [(.ref b92)])) _
        refine st124.trans ?_
        show Steps p.tables e below (T124.setTop (mkF m 209 #[.val (.long q0), .second, .val (.long q1), .second, .val (.long q2), .second, .val (.int p3), .val (.long xv), .second, .val (.long yv), .second, .val (.long r8), .second, .val (.long hv), .second, .val (.ref b22), .val (.long sv), .second, .val (.int (1 : Int32)), .val (.long kv), .second, .val (.long ((kv - r8) + (1 : Int64))), .second, .unset, .unset] [(.long ((hv - (kv + (1 : Int64))) + (1 : Int64)))])) _
        refine XS.lstore X124.here hx rfl (hb hby at_209) rfl (l' := #[.val (.long q0), .second, .val (.long q1), .second, .val (.long q2), .second, .val (.int p3), .val (.long xv), .second, .val (.long yv), .second, .val (.long r8), .second, .val (.long hv), .second, .val (.ref b22), .val (.long sv), .second, .val (.int (1 : Int32)), .val (.long kv), .second, .val (.long ((kv - r8) + (1 : Int64))), .second, .val (.long ((hv - (kv + (1 : Int64))) + (1 : Int64))), .second]) rfl ?_
        show Steps p.tables e below (T124.setTop (mkF m 211 #[.val (.long q0), .second, .val (.long q1), .second, .val (.long q2), .second, .val (.int p3), .val (.long xv), .second, .val (.long yv), .second, .val (.long r8), .second, .val (.long hv), .second, .val (.ref b22), .val (.long sv), .second, .val (.int (1 : Int32)), .val (.long kv), .second, .val (.long ((kv - r8) + (1 : Int64))), .second, .val (.long ((hv - (kv + (1 : Int64))) + (1 : Int64))), .second] [])) _
        refine XS.iload X124.here hx rfl (hb hby at_211) rfl ?_
        show Steps p.tables e below (T124.setTop (mkF m 213 #[.val (.long q0), .second, .val (.long q1), .second, .val (.long q2), .second, .val (.int p3), .val (.long xv), .second, .val (.long yv), .second, .val (.long r8), .second, .val (.long hv), .second, .val (.ref b22), .val (.long sv), .second, .val (.int (1 : Int32)), .val (.long kv), .second, .val (.long ((kv - r8) + (1 : Int64))), .second, .val (.long ((hv - (kv + (1 : Int64))) + (1 : Int64))), .second] [(.int (1 : Int32))])) _
        refine XS.ifNo X124.here hx rfl (hb hby at_213) rfl ((if0 _ _).trans (feq (by decide : ¬ ((1 : Int32) = (0 : Int32)))).1) ?_
        show Steps p.tables e below (T124.setTop (mkF m 216 #[.val (.long q0), .second, .val (.long q1), .second, .val (.long q2), .second, .val (.int p3), .val (.long xv), .second, .val (.long yv), .second, .val (.long r8), .second, .val (.long hv), .second, .val (.ref b22), .val (.long sv), .second, .val (.int (1 : Int32)), .val (.long kv), .second, .val (.long ((kv - r8) + (1 : Int64))), .second, .val (.long ((hv - (kv + (1 : Int64))) + (1 : Int64))), .second] [])) _
        refine XS.lload X124.here hx rfl (hb hby at_216) rfl ?_
        show Steps p.tables e below (T124.setTop (mkF m 218 #[.val (.long q0), .second, .val (.long q1), .second, .val (.long q2), .second, .val (.int p3), .val (.long xv), .second, .val (.long yv), .second, .val (.long r8), .second, .val (.long hv), .second, .val (.ref b22), .val (.long sv), .second, .val (.int (1 : Int32)), .val (.long kv), .second, .val (.long ((kv - r8) + (1 : Int64))), .second, .val (.long ((hv - (kv + (1 : Int64))) + (1 : Int64))), .second] [(.long ((kv - r8) + (1 : Int64)))])) _
        refine XS.lload X124.here hx rfl (hb hby at_218) rfl ?_
        show Steps p.tables e below (T124.setTop (mkF m 220 #[.val (.long q0), .second, .val (.long q1), .second, .val (.long q2), .second, .val (.int p3), .val (.long xv), .second, .val (.long yv), .second, .val (.long r8), .second, .val (.long hv), .second, .val (.ref b22), .val (.long sv), .second, .val (.int (1 : Int32)), .val (.long kv), .second, .val (.long ((kv - r8) + (1 : Int64))), .second, .val (.long ((hv - (kv + (1 : Int64))) + (1 : Int64))), .second] [(.long ((hv - (kv + (1 : Int64))) + (1 : Int64))), (.long ((kv - r8) + (1 : Int64)))])) _
        refine XS.ladd X124.here hx rfl (hb hby at_220) rfl ?_
        show Steps p.tables e below (T124.setTop (mkF m 221 #[.val (.long q0), .second, .val (.long q1), .second, .val (.long q2), .second, .val (.int p3), .val (.long xv), .second, .val (.long yv), .second, .val (.long r8), .second, .val (.long hv), .second, .val (.ref b22), .val (.long sv), .second, .val (.int (1 : Int32)), .val (.long kv), .second, .val (.long ((kv - r8) + (1 : Int64))), .second, .val (.long ((hv - (kv + (1 : Int64))) + (1 : Int64))), .second] [(.long (((kv - r8) + (1 : Int64)) + ((hv - (kv + (1 : Int64))) + (1 : Int64))))])) _
        refine XS.lload X124.here hx rfl (hb hby at_221) rfl ?_
        show Steps p.tables e below (T124.setTop (mkF m 223 #[.val (.long q0), .second, .val (.long q1), .second, .val (.long q2), .second, .val (.int p3), .val (.long xv), .second, .val (.long yv), .second, .val (.long r8), .second, .val (.long hv), .second, .val (.ref b22), .val (.long sv), .second, .val (.int (1 : Int32)), .val (.long kv), .second, .val (.long ((kv - r8) + (1 : Int64))), .second, .val (.long ((hv - (kv + (1 : Int64))) + (1 : Int64))), .second] [(.long sv), (.long (((kv - r8) + (1 : Int64)) + ((hv - (kv + (1 : Int64))) + (1 : Int64))))])) _
        refine XS.lcmp X124.here hx rfl (hb hby at_223) rfl ?_
        show Steps p.tables e below (T124.setTop (mkF m 224 #[.val (.long q0), .second, .val (.long q1), .second, .val (.long q2), .second, .val (.int p3), .val (.long xv), .second, .val (.long yv), .second, .val (.long r8), .second, .val (.long hv), .second, .val (.ref b22), .val (.long sv), .second, .val (.int (1 : Int32)), .val (.long kv), .second, .val (.long ((kv - r8) + (1 : Int64))), .second, .val (.long ((hv - (kv + (1 : Int64))) + (1 : Int64))), .second] [(.int (lcmpW (((kv - r8) + (1 : Int64)) + ((hv - (kv + (1 : Int64))) + (1 : Int64))) sv))])) _
        refine XS.ifNo X124.here hx rfl (hb hby at_224) rfl ((if0 _ _).trans (teq hc224_126).2) ?_
        show Steps p.tables e below (T124.setTop (mkF m 227 #[.val (.long q0), .second, .val (.long q1), .second, .val (.long q2), .second, .val (.int p3), .val (.long xv), .second, .val (.long yv), .second, .val (.long r8), .second, .val (.long hv), .second, .val (.ref b22), .val (.long sv), .second, .val (.int (1 : Int32)), .val (.long kv), .second, .val (.long ((kv - r8) + (1 : Int64))), .second, .val (.long ((hv - (kv + (1 : Int64))) + (1 : Int64))), .second] [])) _
        refine XS.iconst X124.here hx rfl (hb hby at_227) ?_
        show Steps p.tables e below (T124.setTop (mkF m 228 #[.val (.long q0), .second, .val (.long q1), .second, .val (.long q2), .second, .val (.int p3), .val (.long xv), .second, .val (.long yv), .second, .val (.long r8), .second, .val (.long hv), .second, .val (.ref b22), .val (.long sv), .second, .val (.int (1 : Int32)), .val (.long kv), .second, .val (.long ((kv - r8) + (1 : Int64))), .second, .val (.long ((hv - (kv + (1 : Int64))) + (1 : Int64))), .second] [(.int (1 : Int32))])) _
        refine XS.goto X124.here hx rfl (pc0 := 228) (pc' := 232) rfl (hb hby at_228) (by decide) (by decide) ?_
        show Steps p.tables e below (T124.setTop (mkF m 232 #[.val (.long q0), .second, .val (.long q1), .second, .val (.long q2), .second, .val (.int p3), .val (.long xv), .second, .val (.long yv), .second, .val (.long r8), .second, .val (.long hv), .second, .val (.ref b22), .val (.long sv), .second, .val (.int (1 : Int32)), .val (.long kv), .second, .val (.long ((kv - r8) + (1 : Int64))), .second, .val (.long ((hv - (kv + (1 : Int64))) + (1 : Int64))), .second] [(.int (1 : Int32))])) _
        refine XS.istore X124.here hx rfl (hb hby at_232) rfl (l' := #[.val (.long q0), .second, .val (.long q1), .second, .val (.long q2), .second, .val (.int p3), .val (.long xv), .second, .val (.long yv), .second, .val (.long r8), .second, .val (.long hv), .second, .val (.ref b22), .val (.long sv), .second, .val (.int (1 : Int32)), .val (.long kv), .second, .val (.long ((kv - r8) + (1 : Int64))), .second, .val (.long ((hv - (kv + (1 : Int64))) + (1 : Int64))), .second]) rfl ?_
        show Steps p.tables e below (T124.setTop (mkF m 234 #[.val (.long q0), .second, .val (.long q1), .second, .val (.long q2), .second, .val (.int p3), .val (.long xv), .second, .val (.long yv), .second, .val (.long r8), .second, .val (.long hv), .second, .val (.ref b22), .val (.long sv), .second, .val (.int (1 : Int32)), .val (.long kv), .second, .val (.long ((kv - r8) + (1 : Int64))), .second, .val (.long ((hv - (kv + (1 : Int64))) + (1 : Int64))), .second] [])) _
        refine XS.iload X124.here hx rfl (hb hby at_234) rfl ?_
        show Steps p.tables e below (T124.setTop (mkF m 236 #[.val (.long q0), .second, .val (.long q1), .second, .val (.long q2), .second, .val (.int p3), .val (.long xv), .second, .val (.long yv), .second, .val (.long r8), .second, .val (.long hv), .second, .val (.ref b22), .val (.long sv), .second, .val (.int (1 : Int32)), .val (.long kv), .second, .val (.long ((kv - r8) + (1 : Int64))), .second, .val (.long ((hv - (kv + (1 : Int64))) + (1 : Int64))), .second] [(.int (1 : Int32))])) _
        exact retN X124 hx (t := .boolean) Bd.returns (by simp) (hb hby at_236) hr
      · show Q0 Z q0 q1 q2 p3 h0 n0 _ T124.heap _
        rw [R125]
        exact ⟨rfl, N124⟩
    · obtain ⟨fs, hr, hrun, hended, hW, hsame⟩ := X59.leave (v := some (.int (1 : Int32))) (fun h => by rw [Bd.returns] at h; cases h)
      refine ⟨_, _, P62 _ ?_, hrun, hended, _, _, rfl, ?_, ⟨_, rfl⟩, hW, hsame.mono (by decide) (by decide)⟩
      · show Steps p.tables e below (T59.setTop (mkF m 157 #[.val (.long q0), .second, .val (.long q1), .second, .val (.long q2), .second, .val (.int p3), .val (.long xv), .second, .val (.long yv), .second, .val (.long r8), .second, .val (.long hv), .second, .val (.ref b22), .val (.long sv), .second, .val (.int (1 : Int32)), .unset, .unset, .unset, .unset, .unset, .unset] [(.int (lcmpW hv r8))])) _
        refine XS.ifYes X59.here hx rfl (pc0 := 157) (pc' := 234) rfl (hb hby at_157) rfl ((if0 _ _).trans (flt h157).2.2.2) (by decide) (by decide) ?_
        show Steps p.tables e below (T59.setTop (mkF m 234 #[.val (.long q0), .second, .val (.long q1), .second, .val (.long q2), .second, .val (.int p3), .val (.long xv), .second, .val (.long yv), .second, .val (.long r8), .second, .val (.long hv), .second, .val (.ref b22), .val (.long sv), .second, .val (.int (1 : Int32)), .unset, .unset, .unset, .unset, .unset, .unset] [])) _
        refine XS.iload X59.here hx rfl (hb hby at_234) rfl ?_
        show Steps p.tables e below (T59.setTop (mkF m 236 #[.val (.long q0), .second, .val (.long q1), .second, .val (.long q2), .second, .val (.int p3), .val (.long xv), .second, .val (.long yv), .second, .val (.long r8), .second, .val (.long hv), .second, .val (.ref b22), .val (.long sv), .second, .val (.int (1 : Int32)), .unset, .unset, .unset, .unset, .unset, .unset] [(.int (1 : Int32))])) _
        exact retN X59 hx (t := .boolean) Bd.returns (by simp) (hb hby at_236) hr
      · show Q0 Z q0 q1 q2 p3 h0 n0 _ T59.heap _
        rw [R60]
        exact ⟨rfl, N59⟩
  · obtain ⟨T127, h127, X127, e127, E127, A127, D127, -, st127⟩ := newO X33 hx hZ hown (hw _ (List.mem_of_getElem? (i := 8) rfl)) (hw _ (List.mem_of_getElem? (i := 9) rfl)) (hw _ (List.mem_of_getElem? (i := 10) rfl)) R34 (g := (mkF m 126 #[.val (.long q0), .second, .val (.long q1), .second, .val (.long q2), .second, .val (.int p3), .val (.long xv), .second, .val (.long yv), .second, .val (.long r8), .second, .val (.long hv), .second, .val (.ref b22), .val (.long sv), .second, .val (.int (1 : Int32)), .unset, .unset, .unset, .unset, .unset, .unset] [])) rfl (hb hby at_126) (by decide) (by decide)
    obtain ⟨b127, g127⟩ : ∃ z, z = T26.heap.size := ⟨_, rfl⟩
    rw [← g127] at A127 D127 st127
    have ne128 : b22 ≠ b127 := Nat.ne_of_lt (Nat.lt_of_lt_of_le R28.lt (Nat.le_of_eq g127.symm))
    have g_b127 : n0 ≤ b127 := Nat.le_trans Z32 (Nat.le_of_eq g127.symm)
    have F129 : Exa Z h127 b22 "com/example/motes_to_bounds/motestobounds/model/Planning$Range" := R28.ext E127
    have F130 : Fld Z h127 b22 "com/example/motes_to_bounds/motestobounds/model/Planning$Range" "min" "J" (.long r8) := R29.ext E127
    have F131 : Fld Z h127 b22 "com/example/motes_to_bounds/motestobounds/model/Planning$Range" "max" "J" (.long hv) := R30.ext E127
    have Z132 : n0 ≤ h127.size := Nat.le_trans Z32 E127.1
    have F133 : Fld Z h127 b127 "com/example/motes_to_bounds/motestobounds/model/Planning$Range" "min" "J" (.long (0 : Int64)) := D127 (Or.inr (hw _ (List.mem_of_getElem? (i := 23) rfl))) (ty := .long) (by decide)
    have F134 : Fld Z h127 b127 "com/example/motes_to_bounds/motestobounds/model/Planning$Range" "max" "J" (.long (0 : Int64)) := D127 (Or.inr (hw _ (List.mem_of_getElem? (i := 25) rfl))) (ty := .long) (by decide)
    obtain ⟨_, _, ⟨T135, L135, k135, n135⟩, -, X135, ⟨Lc135, hQ135, l135, y135, z135⟩, st135⟩ := X127.specialBack hx (y := (⟨"com/example/motes_to_bounds/motestobounds/model/Planning$Range", "<init>", "(JJ)V"⟩ : MethodName)) rfl hown (mvT hZ (hw _ (List.mem_of_getElem? (i := 11) rfl))) (mvT hZ (hw _ (List.mem_of_getElem? (i := 12) rfl))) (mvT hZ (hw _ (List.mem_of_getElem? (i := 13) rfl))) (by decide) (backOf (W := 1) (rm3 l Z a0 hw [] b127 hv hv h127 n0 Z132 F133 F134 A127 g_b127) hZ (hw _ (List.mem_of_getElem? (i := 13) rfl)) (hw _ (List.mem_of_getElem? (i := 10) rfl)) (by decide) (by decide)) (g := (mkF m 134 #[.val (.long q0), .second, .val (.long q1), .second, .val (.long q2), .second, .val (.int p3), .val (.long xv), .second, .val (.long yv), .second, .val (.long r8), .second, .val (.long hv), .second, .val (.ref b22), .val (.long sv), .second, .val (.int (1 : Int32)), .unset, .unset, .unset, .unset, .unset, .unset] [(.long hv), (.long hv), (.ref b127), (.ref b127)])) rfl (by rw [hml]; rfl) (Steps.refl _) (a := b127) (argsL := [(.long hv), (.long hv)]) (rest := [(.ref b127)]) (lenOf pd_2 rfl) rfl (by show 2 * 0 + _ ≤ _; exact Nat.le_of_eq rfl) (hb hby at_134) (fun _ _ => ⟨rfl, e127, (by decide : 2 + 0 ≤ _), (by decide : 4 + 0 ≤ _)⟩)
    dsimp only [Pt.U, Pt.locs, Pt.cells, Pt.slots] at X135 l135 y135 z135 st135 hQ135
    subst l135 y135 z135
    obtain ⟨rfl, N135q, R136, R137, R138, R139⟩ := hQ135
    have N135 := Fr.app N33 N135q
    have F140 : Exa Z T135.heap b22 "com/example/motes_to_bounds/motestobounds/model/Planning$Range" := F129.keep R136
    have F141 : Fld Z T135.heap b22 "com/example/motes_to_bounds/motestobounds/model/Planning$Range" "min" "J" (.long r8) := F130.keep R136 (ninS ne128 nin0)
    have F142 : Fld Z T135.heap b22 "com/example/motes_to_bounds/motestobounds/model/Planning$Range" "max" "J" (.long hv) := F131.keep R136 (ninS ne128 nin0)
    have F143 : Exa Z T135.heap b127 "com/example/motes_to_bounds/motestobounds/model/Planning$Range" := A127.keep R136
    have Z144 : n0 ≤ T135.heap.size := Nat.le_trans Z132 R136.1
    obtain ⟨cq145, kq145, q145a, q145b, q145c⟩ := isOf hZ rfl R137
    obtain ⟨_, _, ⟨T145, L145, k145, n145⟩, -, X145, ⟨Lc145, hQ145, l145, y145, z145⟩, st145⟩ := X135.virtualBack hx (y := (⟨"com/example/motes_to_bounds/motestobounds/model/Planning$Range", "size", "()J"⟩ : MethodName)) (z := (⟨"com/example/motes_to_bounds/motestobounds/model/Planning$Range", "size", "()J"⟩ : MethodName)) hown (mvT hZ (hw _ (List.mem_of_getElem? (i := 26) rfl))) (mvT hZ (hw _ (List.mem_of_getElem? (i := 27) rfl))) (notFace_of_selects (args := #[]) (mvT hZ (hw _ (List.mem_of_getElem? (i := 29) rfl)))) (mvT hZ (hw _ (List.mem_of_getElem? (i := 29) rfl))) (mvT hZ (hw _ (List.mem_of_getElem? (i := 28) rfl))) (by decide) (backOf (W := 0) (rm6 l Z a0 hw [] b127 hv hv T135.heap n0 Z144 R138 R139) hZ (hw _ (List.mem_of_getElem? (i := 30) rfl)) (hw _ (List.mem_of_getElem? (i := 10) rfl)) (by decide) (by decide)) q145a q145c (g := (mkF m 137 #[.val (.long q0), .second, .val (.long q1), .second, .val (.long q2), .second, .val (.int p3), .val (.long xv), .second, .val (.long yv), .second, .val (.long r8), .second, .val (.long hv), .second, .val (.ref b22), .val (.long sv), .second, .val (.int (1 : Int32)), .unset, .unset, .unset, .unset, .unset, .unset] [(.ref b127)])) rfl (by rw [hml]; rfl) (Steps.refl _) (argsL := []) (rest := []) (lenOf pd_3 rfl) rfl (by show 2 * 0 + _ ≤ _; exact Nat.le_of_eq rfl) (hb hby at_137) (fun _ _ => ⟨rfl, rfl, (by decide : 2 + 0 ≤ _), (by decide : 4 + 0 ≤ _)⟩)
    dsimp only [Pt.U, Pt.locs, Pt.cells, Pt.slots] at X145 l145 y145 z145 st145 hQ145
    subst l145 y145 z145
    obtain ⟨rfl, N145q, R146⟩ := hQ145
    have N145 := Fr.app N135 N145q
    have hc142_147 : (lcmpW ((hv - hv) + (1 : Int64)) (1 : Int64)) = (0 : Int32) := (lw_eq _ _).mpr f4
    have P148 : ∀ t, Steps p.tables e below (T145.setTop (mkF m 157 #[.val (.long q0), .second, .val (.long q1), .second, .val (.long q2), .second, .val (.int p3), .val (.long xv), .second, .val (.long yv), .second, .val (.long r8), .second, .val (.long hv), .second, .val (.ref b22), .val (.long sv), .second, .val (.int (1 : Int32)), .unset, .unset, .unset, .unset, .unset, .unset] [(.int (lcmpW hv r8))])) t → Steps p.tables e below (s₁.setTop (entryFrame m #[(.long q0), (.long q1), (.long q2), (.int p3)] maxLocals)) t := by
      intro t k
      refine P39 t ?_
      show Steps p.tables e below (T33.setTop (mkF m 99 #[.val (.long q0), .second, .val (.long q1), .second, .val (.long q2), .second, .val (.int p3), .val (.long xv), .second, .val (.long yv), .second, .val (.long r8), .second, .val (.long hv), .second, .val (.ref b22), .val (.long sv), .second, .val (.int (1 : Int32)), .unset, .unset, .unset, .unset, .unset, .unset] [(.int (lcmpW hv r8))])) _
      refine XS.ifYes X33.here hx rfl (pc0 := 99) (pc' := 121) rfl (hb hby at_99) rfl ((if0 _ _).trans (feq h99).2) (by decide) (by decide) ?_
      show Steps p.tables e below (T33.setTop (mkF m 121 #[.val (.long q0), .second, .val (.long q1), .second, .val (.long q2), .second, .val (.int p3), .val (.long xv), .second, .val (.long yv), .second, .val (.long r8), .second, .val (.long hv), .second, .val (.ref b22), .val (.long sv), .second, .val (.int (1 : Int32)), .unset, .unset, .unset, .unset, .unset, .unset] [])) _
      refine XS.iload X33.here hx rfl (hb hby at_121) rfl ?_
      show Steps p.tables e below (T33.setTop (mkF m 123 #[.val (.long q0), .second, .val (.long q1), .second, .val (.long q2), .second, .val (.int p3), .val (.long xv), .second, .val (.long yv), .second, .val (.long r8), .second, .val (.long hv), .second, .val (.ref b22), .val (.long sv), .second, .val (.int (1 : Int32)), .unset, .unset, .unset, .unset, .unset, .unset] [(.int (1 : Int32))])) _
      refine XS.ifNo X33.here hx rfl (hb hby at_123) rfl ((if0 _ _).trans (feq (by decide : ¬ ((1 : Int32) = (0 : Int32)))).1) ?_
      show Steps p.tables e below (T33.setTop (mkF m 126 #[.val (.long q0), .second, .val (.long q1), .second, .val (.long q2), .second, .val (.int p3), .val (.long xv), .second, .val (.long yv), .second, .val (.long r8), .second, .val (.long hv), .second, .val (.ref b22), .val (.long sv), .second, .val (.int (1 : Int32)), .unset, .unset, .unset, .unset, .unset, .unset] [])) _
      refine st127 _ ?_
      show Steps p.tables e below (T127.setTop (mkF m 129 #[.val (.long q0), .second, .val (.long q1), .second, .val (.long q2), .second, .val (.int p3), .val (.long xv), .second, .val (.long yv), .second, .val (.long r8), .second, .val (.long hv), .second, .val (.ref b22), .val (.long sv), .second, .val (.int (1 : Int32)), .unset, .unset, .unset, .unset, .unset, .unset] [(.ref b127)])) _
      refine XS.dup X127.here hx rfl (hb hby at_129) rfl rfl ?_
      show Steps p.tables e below (T127.setTop (mkF m 130 #[.val (.long q0), .second, .val (.long q1), .second, .val (.long q2), .second, .val (.int p3), .val (.long xv), .second, .val (.long yv), .second, .val (.long r8), .second, .val (.long hv), .second, .val (.ref b22), .val (.long sv), .second, .val (.int (1 : Int32)), .unset, .unset, .unset, .unset, .unset, .unset] [(.ref b127), (.ref b127)])) _
      refine XS.lload X127.here hx rfl (hb hby at_130) rfl ?_
      show Steps p.tables e below (T127.setTop (mkF m 132 #[.val (.long q0), .second, .val (.long q1), .second, .val (.long q2), .second, .val (.int p3), .val (.long xv), .second, .val (.long yv), .second, .val (.long r8), .second, .val (.long hv), .second, .val (.ref b22), .val (.long sv), .second, .val (.int (1 : Int32)), .unset, .unset, .unset, .unset, .unset, .unset] [(.long hv), (.ref b127), (.ref b127)])) _
      refine XS.lload X127.here hx rfl (hb hby at_132) rfl ?_
      show Steps p.tables e below (T127.setTop (mkF m 134 #[.val (.long q0), .second, .val (.long q1), .second, .val (.long q2), .second, .val (.int p3), .val (.long xv), .second, .val (.long yv), .second, .val (.long r8), .second, .val (.long hv), .second, .val (.ref b22), .val (.long sv), .second, .val (.int (1 : Int32)), .unset, .unset, .unset, .unset, .unset, .unset] [(.long hv), (.long hv), (.ref b127), (.ref b127)])) _
      refine st135.trans ?_
      show Steps p.tables e below (T135.setTop (mkF m 137 #[.val (.long q0), .second, .val (.long q1), .second, .val (.long q2), .second, .val (.int p3), .val (.long xv), .second, .val (.long yv), .second, .val (.long r8), .second, .val (.long hv), .second, .val (.ref b22), .val (.long sv), .second, .val (.int (1 : Int32)), .unset, .unset, .unset, .unset, .unset, .unset] [(.ref b127)])) _
      refine st145.trans ?_
      show Steps p.tables e below (T145.setTop (mkF m 140 #[.val (.long q0), .second, .val (.long q1), .second, .val (.long q2), .second, .val (.int p3), .val (.long xv), .second, .val (.long yv), .second, .val (.long r8), .second, .val (.long hv), .second, .val (.ref b22), .val (.long sv), .second, .val (.int (1 : Int32)), .unset, .unset, .unset, .unset, .unset, .unset] [(.long ((hv - hv) + (1 : Int64)))])) _
      refine XS.lconst X145.here hx rfl (hb hby at_140) ?_
      show Steps p.tables e below (T145.setTop (mkF m 141 #[.val (.long q0), .second, .val (.long q1), .second, .val (.long q2), .second, .val (.int p3), .val (.long xv), .second, .val (.long yv), .second, .val (.long r8), .second, .val (.long hv), .second, .val (.ref b22), .val (.long sv), .second, .val (.int (1 : Int32)), .unset, .unset, .unset, .unset, .unset, .unset] [(.long (1 : Int64)), (.long ((hv - hv) + (1 : Int64)))])) _
      refine XS.lcmp X145.here hx rfl (hb hby at_141) rfl ?_
      show Steps p.tables e below (T145.setTop (mkF m 142 #[.val (.long q0), .second, .val (.long q1), .second, .val (.long q2), .second, .val (.int p3), .val (.long xv), .second, .val (.long yv), .second, .val (.long r8), .second, .val (.long hv), .second, .val (.ref b22), .val (.long sv), .second, .val (.int (1 : Int32)), .unset, .unset, .unset, .unset, .unset, .unset] [(.int (lcmpW ((hv - hv) + (1 : Int64)) (1 : Int64)))])) _
      refine XS.ifNo X145.here hx rfl (hb hby at_142) rfl ((if0 _ _).trans (teq hc142_147).2) ?_
      show Steps p.tables e below (T145.setTop (mkF m 145 #[.val (.long q0), .second, .val (.long q1), .second, .val (.long q2), .second, .val (.int p3), .val (.long xv), .second, .val (.long yv), .second, .val (.long r8), .second, .val (.long hv), .second, .val (.ref b22), .val (.long sv), .second, .val (.int (1 : Int32)), .unset, .unset, .unset, .unset, .unset, .unset] [])) _
      refine XS.iconst X145.here hx rfl (hb hby at_145) ?_
      show Steps p.tables e below (T145.setTop (mkF m 146 #[.val (.long q0), .second, .val (.long q1), .second, .val (.long q2), .second, .val (.int p3), .val (.long xv), .second, .val (.long yv), .second, .val (.long r8), .second, .val (.long hv), .second, .val (.ref b22), .val (.long sv), .second, .val (.int (1 : Int32)), .unset, .unset, .unset, .unset, .unset, .unset] [(.int (1 : Int32))])) _
      refine XS.goto X145.here hx rfl (pc0 := 146) (pc' := 150) rfl (hb hby at_146) (by decide) (by decide) ?_
      show Steps p.tables e below (T145.setTop (mkF m 150 #[.val (.long q0), .second, .val (.long q1), .second, .val (.long q2), .second, .val (.int p3), .val (.long xv), .second, .val (.long yv), .second, .val (.long r8), .second, .val (.long hv), .second, .val (.ref b22), .val (.long sv), .second, .val (.int (1 : Int32)), .unset, .unset, .unset, .unset, .unset, .unset] [(.int (1 : Int32))])) _
      refine XS.istore X145.here hx rfl (hb hby at_150) rfl (l' := #[.val (.long q0), .second, .val (.long q1), .second, .val (.long q2), .second, .val (.int p3), .val (.long xv), .second, .val (.long yv), .second, .val (.long r8), .second, .val (.long hv), .second, .val (.ref b22), .val (.long sv), .second, .val (.int (1 : Int32)), .unset, .unset, .unset, .unset, .unset, .unset]) rfl ?_
      show Steps p.tables e below (T145.setTop (mkF m 152 #[.val (.long q0), .second, .val (.long q1), .second, .val (.long q2), .second, .val (.int p3), .val (.long xv), .second, .val (.long yv), .second, .val (.long r8), .second, .val (.long hv), .second, .val (.ref b22), .val (.long sv), .second, .val (.int (1 : Int32)), .unset, .unset, .unset, .unset, .unset, .unset] [])) _
      refine XS.lload X145.here hx rfl (hb hby at_152) rfl ?_
      show Steps p.tables e below (T145.setTop (mkF m 154 #[.val (.long q0), .second, .val (.long q1), .second, .val (.long q2), .second, .val (.int p3), .val (.long xv), .second, .val (.long yv), .second, .val (.long r8), .second, .val (.long hv), .second, .val (.ref b22), .val (.long sv), .second, .val (.int (1 : Int32)), .unset, .unset, .unset, .unset, .unset, .unset] [(.long hv)])) _
      refine XS.lload X145.here hx rfl (hb hby at_154) rfl ?_
      show Steps p.tables e below (T145.setTop (mkF m 156 #[.val (.long q0), .second, .val (.long q1), .second, .val (.long q2), .second, .val (.int p3), .val (.long xv), .second, .val (.long yv), .second, .val (.long r8), .second, .val (.long hv), .second, .val (.ref b22), .val (.long sv), .second, .val (.int (1 : Int32)), .unset, .unset, .unset, .unset, .unset, .unset] [(.long r8), (.long hv)])) _
      refine XS.lcmp X145.here hx rfl (hb hby at_156) rfl ?_
      exact k
    by_cases h157 : (0 : Int32) < (lcmpW hv r8)
    · have hlt : r8 < hv := (lw_gt _ _).mp h157
      have hnz : (hv - r8) ≠ (0 : Int64) := by
        intro q
        have := own_lsub hv r8 (by have := hv.toInt_lt; omega) (by have := hv.toInt_lt; omega)
        rw [q] at this
        rw [Int64.lt_iff_toInt_lt] at hlt
        have e0 : (0 : Int64).toInt = 0 := rfl
        omega
      have P149 : ∀ t, Steps p.tables e below (T145.setTop (mkF m 177 #[.val (.long q0), .second, .val (.long q1), .second, .val (.long q2), .second, .val (.int p3), .val (.long xv), .second, .val (.long yv), .second, .val (.long r8), .second, .val (.long hv), .second, .val (.ref b22), .val (.long sv), .second, .val (.int (1 : Int32)), .val (.long (r8 + ((q2 &&& (9223372036854775807 : Int64)) % (hv - r8)))), .second, .unset, .unset, .unset, .unset] [])) t → Steps p.tables e below (s₁.setTop (entryFrame m #[(.long q0), (.long q1), (.long q2), (.int p3)] maxLocals)) t := by
        intro t k
        refine P148 t ?_
        show Steps p.tables e below (T145.setTop (mkF m 157 #[.val (.long q0), .second, .val (.long q1), .second, .val (.long q2), .second, .val (.int p3), .val (.long xv), .second, .val (.long yv), .second, .val (.long r8), .second, .val (.long hv), .second, .val (.ref b22), .val (.long sv), .second, .val (.int (1 : Int32)), .unset, .unset, .unset, .unset, .unset, .unset] [(.int (lcmpW hv r8))])) _
        refine XS.ifNo X145.here hx rfl (hb hby at_157) rfl ((if0 _ _).trans (tlt h157).2.2.2) ?_
        show Steps p.tables e below (T145.setTop (mkF m 160 #[.val (.long q0), .second, .val (.long q1), .second, .val (.long q2), .second, .val (.int p3), .val (.long xv), .second, .val (.long yv), .second, .val (.long r8), .second, .val (.long hv), .second, .val (.ref b22), .val (.long sv), .second, .val (.int (1 : Int32)), .unset, .unset, .unset, .unset, .unset, .unset] [])) _
        refine XS.lload X145.here hx rfl (hb hby at_160) rfl ?_
        show Steps p.tables e below (T145.setTop (mkF m 162 #[.val (.long q0), .second, .val (.long q1), .second, .val (.long q2), .second, .val (.int p3), .val (.long xv), .second, .val (.long yv), .second, .val (.long r8), .second, .val (.long hv), .second, .val (.ref b22), .val (.long sv), .second, .val (.int (1 : Int32)), .unset, .unset, .unset, .unset, .unset, .unset] [(.long r8)])) _
        refine XS.lload X145.here hx rfl (hb hby at_162) rfl ?_
        show Steps p.tables e below (T145.setTop (mkF m 164 #[.val (.long q0), .second, .val (.long q1), .second, .val (.long q2), .second, .val (.int p3), .val (.long xv), .second, .val (.long yv), .second, .val (.long r8), .second, .val (.long hv), .second, .val (.ref b22), .val (.long sv), .second, .val (.int (1 : Int32)), .unset, .unset, .unset, .unset, .unset, .unset] [(.long q2), (.long r8)])) _
        refine X145.ldc2Long hx hown (mvT hZ (hw _ (List.mem_of_getElem? (i := 0) rfl))) (g := (mkF m 164 #[.val (.long q0), .second, .val (.long q1), .second, .val (.long q2), .second, .val (.int p3), .val (.long xv), .second, .val (.long yv), .second, .val (.long r8), .second, .val (.long hv), .second, .val (.ref b22), .val (.long sv), .second, .val (.int (1 : Int32)), .unset, .unset, .unset, .unset, .unset, .unset] [(.long q2), (.long r8)])) rfl (hb hby at_164) _ ?_
        show Steps p.tables e below (T145.setTop (mkF m 167 #[.val (.long q0), .second, .val (.long q1), .second, .val (.long q2), .second, .val (.int p3), .val (.long xv), .second, .val (.long yv), .second, .val (.long r8), .second, .val (.long hv), .second, .val (.ref b22), .val (.long sv), .second, .val (.int (1 : Int32)), .unset, .unset, .unset, .unset, .unset, .unset] [(.long (9223372036854775807 : Int64)), (.long q2), (.long r8)])) _
        refine XS.land X145.here hx rfl (hb hby at_167) rfl ?_
        show Steps p.tables e below (T145.setTop (mkF m 168 #[.val (.long q0), .second, .val (.long q1), .second, .val (.long q2), .second, .val (.int p3), .val (.long xv), .second, .val (.long yv), .second, .val (.long r8), .second, .val (.long hv), .second, .val (.ref b22), .val (.long sv), .second, .val (.int (1 : Int32)), .unset, .unset, .unset, .unset, .unset, .unset] [(.long (q2 &&& (9223372036854775807 : Int64))), (.long r8)])) _
        refine XS.lload X145.here hx rfl (hb hby at_168) rfl ?_
        show Steps p.tables e below (T145.setTop (mkF m 170 #[.val (.long q0), .second, .val (.long q1), .second, .val (.long q2), .second, .val (.int p3), .val (.long xv), .second, .val (.long yv), .second, .val (.long r8), .second, .val (.long hv), .second, .val (.ref b22), .val (.long sv), .second, .val (.int (1 : Int32)), .unset, .unset, .unset, .unset, .unset, .unset] [(.long hv), (.long (q2 &&& (9223372036854775807 : Int64))), (.long r8)])) _
        refine XS.lload X145.here hx rfl (hb hby at_170) rfl ?_
        show Steps p.tables e below (T145.setTop (mkF m 172 #[.val (.long q0), .second, .val (.long q1), .second, .val (.long q2), .second, .val (.int p3), .val (.long xv), .second, .val (.long yv), .second, .val (.long r8), .second, .val (.long hv), .second, .val (.ref b22), .val (.long sv), .second, .val (.int (1 : Int32)), .unset, .unset, .unset, .unset, .unset, .unset] [(.long r8), (.long hv), (.long (q2 &&& (9223372036854775807 : Int64))), (.long r8)])) _
        refine XS.lsub X145.here hx rfl (hb hby at_172) rfl ?_
        show Steps p.tables e below (T145.setTop (mkF m 173 #[.val (.long q0), .second, .val (.long q1), .second, .val (.long q2), .second, .val (.int p3), .val (.long xv), .second, .val (.long yv), .second, .val (.long r8), .second, .val (.long hv), .second, .val (.ref b22), .val (.long sv), .second, .val (.int (1 : Int32)), .unset, .unset, .unset, .unset, .unset, .unset] [(.long (hv - r8)), (.long (q2 &&& (9223372036854775807 : Int64))), (.long r8)])) _
        refine XS.lrem X145.here hx rfl (hb hby at_173) rfl hnz ?_
        rw [lrem_mod]
        show Steps p.tables e below (T145.setTop (mkF m 174 #[.val (.long q0), .second, .val (.long q1), .second, .val (.long q2), .second, .val (.int p3), .val (.long xv), .second, .val (.long yv), .second, .val (.long r8), .second, .val (.long hv), .second, .val (.ref b22), .val (.long sv), .second, .val (.int (1 : Int32)), .unset, .unset, .unset, .unset, .unset, .unset] [(.long ((q2 &&& (9223372036854775807 : Int64)) % (hv - r8))), (.long r8)])) _
        refine XS.ladd X145.here hx rfl (hb hby at_174) rfl ?_
        show Steps p.tables e below (T145.setTop (mkF m 175 #[.val (.long q0), .second, .val (.long q1), .second, .val (.long q2), .second, .val (.int p3), .val (.long xv), .second, .val (.long yv), .second, .val (.long r8), .second, .val (.long hv), .second, .val (.ref b22), .val (.long sv), .second, .val (.int (1 : Int32)), .unset, .unset, .unset, .unset, .unset, .unset] [(.long (r8 + ((q2 &&& (9223372036854775807 : Int64)) % (hv - r8))))])) _
        refine XS.lstore X145.here hx rfl (hb hby at_175) rfl (l' := #[.val (.long q0), .second, .val (.long q1), .second, .val (.long q2), .second, .val (.int p3), .val (.long xv), .second, .val (.long yv), .second, .val (.long r8), .second, .val (.long hv), .second, .val (.ref b22), .val (.long sv), .second, .val (.int (1 : Int32)), .val (.long (r8 + ((q2 &&& (9223372036854775807 : Int64)) % (hv - r8)))), .second, .unset, .unset, .unset, .unset]) rfl ?_
        exact k
      obtain ⟨kv, hkv⟩ : ∃ z : Int64, z = (r8 + ((q2 &&& (9223372036854775807 : Int64)) % (hv - r8))) := ⟨_, rfl⟩
      have P150 : ∀ t, Steps p.tables e below (T145.setTop (mkF m 177 #[.val (.long q0), .second, .val (.long q1), .second, .val (.long q2), .second, .val (.int p3), .val (.long xv), .second, .val (.long yv), .second, .val (.long r8), .second, .val (.long hv), .second, .val (.ref b22), .val (.long sv), .second, .val (.int (1 : Int32)), .val (.long kv), .second, .unset, .unset, .unset, .unset] [])) t → Steps p.tables e below (s₁.setTop (entryFrame m #[(.long q0), (.long q1), (.long q2), (.int p3)] maxLocals)) t := by rw [hkv]; exact P149
      obtain ⟨T151, h151, X151, e151, E151, A151, D151, -, st151⟩ := newO X145 hx hZ hown (hw _ (List.mem_of_getElem? (i := 8) rfl)) (hw _ (List.mem_of_getElem? (i := 9) rfl)) (hw _ (List.mem_of_getElem? (i := 10) rfl)) R146 (g := (mkF m 177 #[.val (.long q0), .second, .val (.long q1), .second, .val (.long q2), .second, .val (.int p3), .val (.long xv), .second, .val (.long yv), .second, .val (.long r8), .second, .val (.long hv), .second, .val (.ref b22), .val (.long sv), .second, .val (.int (1 : Int32)), .val (.long kv), .second, .unset, .unset, .unset, .unset] [])) rfl (hb hby at_177) (by decide) (by decide)
      obtain ⟨b151, g151⟩ : ∃ z, z = T135.heap.size := ⟨_, rfl⟩
      rw [← g151] at A151 D151 st151
      have ne152 : b22 ≠ b151 := Nat.ne_of_lt (Nat.lt_of_lt_of_le F140.lt (Nat.le_of_eq g151.symm))
      have ne153 : b127 ≠ b151 := Nat.ne_of_lt (Nat.lt_of_lt_of_le R137.lt (Nat.le_of_eq g151.symm))
      have g_b151 : n0 ≤ b151 := Nat.le_trans Z144 (Nat.le_of_eq g151.symm)
      have F154 : Exa Z h151 b22 "com/example/motes_to_bounds/motestobounds/model/Planning$Range" := F140.ext E151
      have F155 : Fld Z h151 b22 "com/example/motes_to_bounds/motestobounds/model/Planning$Range" "min" "J" (.long r8) := F141.ext E151
      have F156 : Fld Z h151 b22 "com/example/motes_to_bounds/motestobounds/model/Planning$Range" "max" "J" (.long hv) := F142.ext E151
      have F157 : Exa Z h151 b127 "com/example/motes_to_bounds/motestobounds/model/Planning$Range" := R137.ext E151
      have F158 : Fld Z h151 b127 "com/example/motes_to_bounds/motestobounds/model/Planning$Range" "min" "J" (.long hv) := R138.ext E151
      have F159 : Fld Z h151 b127 "com/example/motes_to_bounds/motestobounds/model/Planning$Range" "max" "J" (.long hv) := R139.ext E151
      have Z160 : n0 ≤ h151.size := Nat.le_trans Z144 E151.1
      have F161 : Fld Z h151 b151 "com/example/motes_to_bounds/motestobounds/model/Planning$Range" "min" "J" (.long (0 : Int64)) := D151 (Or.inr (hw _ (List.mem_of_getElem? (i := 23) rfl))) (ty := .long) (by decide)
      have F162 : Fld Z h151 b151 "com/example/motes_to_bounds/motestobounds/model/Planning$Range" "max" "J" (.long (0 : Int64)) := D151 (Or.inr (hw _ (List.mem_of_getElem? (i := 25) rfl))) (ty := .long) (by decide)
      obtain ⟨_, _, ⟨T163, L163, k163, n163⟩, -, X163, ⟨Lc163, hQ163, l163, y163, z163⟩, st163⟩ := X151.specialBack hx (y := (⟨"com/example/motes_to_bounds/motestobounds/model/Planning$Range", "<init>", "(JJ)V"⟩ : MethodName)) rfl hown (mvT hZ (hw _ (List.mem_of_getElem? (i := 11) rfl))) (mvT hZ (hw _ (List.mem_of_getElem? (i := 12) rfl))) (mvT hZ (hw _ (List.mem_of_getElem? (i := 13) rfl))) (by decide) (backOf (W := 1) (rm3 l Z a0 hw [] b151 r8 kv h151 n0 Z160 F161 F162 A151 g_b151) hZ (hw _ (List.mem_of_getElem? (i := 13) rfl)) (hw _ (List.mem_of_getElem? (i := 10) rfl)) (by decide) (by decide)) (g := (mkF m 185 #[.val (.long q0), .second, .val (.long q1), .second, .val (.long q2), .second, .val (.int p3), .val (.long xv), .second, .val (.long yv), .second, .val (.long r8), .second, .val (.long hv), .second, .val (.ref b22), .val (.long sv), .second, .val (.int (1 : Int32)), .val (.long kv), .second, .unset, .unset, .unset, .unset] [(.long kv), (.long r8), (.ref b151), (.ref b151)])) rfl (by rw [hml]; rfl) (Steps.refl _) (a := b151) (argsL := [(.long r8), (.long kv)]) (rest := [(.ref b151)]) (lenOf pd_2 rfl) rfl (by show 2 * 0 + _ ≤ _; exact Nat.le_of_eq rfl) (hb hby at_185) (fun _ _ => ⟨rfl, e151, (by decide : 3 + 0 ≤ _), (by decide : 6 + 0 ≤ _)⟩)
      dsimp only [Pt.U, Pt.locs, Pt.cells, Pt.slots] at X163 l163 y163 z163 st163 hQ163
      subst l163 y163 z163
      obtain ⟨rfl, N163q, R164, R165, R166, R167⟩ := hQ163
      have N163 := Fr.app N145 N163q
      have F168 : Exa Z T163.heap b22 "com/example/motes_to_bounds/motestobounds/model/Planning$Range" := F154.keep R164
      have F169 : Fld Z T163.heap b22 "com/example/motes_to_bounds/motestobounds/model/Planning$Range" "min" "J" (.long r8) := F155.keep R164 (ninS ne152 nin0)
      have F170 : Fld Z T163.heap b22 "com/example/motes_to_bounds/motestobounds/model/Planning$Range" "max" "J" (.long hv) := F156.keep R164 (ninS ne152 nin0)
      have F171 : Exa Z T163.heap b127 "com/example/motes_to_bounds/motestobounds/model/Planning$Range" := F157.keep R164
      have F172 : Fld Z T163.heap b127 "com/example/motes_to_bounds/motestobounds/model/Planning$Range" "min" "J" (.long hv) := F158.keep R164 (ninS ne153 nin0)
      have F173 : Fld Z T163.heap b127 "com/example/motes_to_bounds/motestobounds/model/Planning$Range" "max" "J" (.long hv) := F159.keep R164 (ninS ne153 nin0)
      have F174 : Exa Z T163.heap b151 "com/example/motes_to_bounds/motestobounds/model/Planning$Range" := A151.keep R164
      have Z175 : n0 ≤ T163.heap.size := Nat.le_trans Z160 R164.1
      obtain ⟨cq176, kq176, q176a, q176b, q176c⟩ := isOf hZ rfl R165
      obtain ⟨_, _, ⟨T176, L176, k176, n176⟩, -, X176, ⟨Lc176, hQ176, l176, y176, z176⟩, st176⟩ := X163.virtualBack hx (y := (⟨"com/example/motes_to_bounds/motestobounds/model/Planning$Range", "size", "()J"⟩ : MethodName)) (z := (⟨"com/example/motes_to_bounds/motestobounds/model/Planning$Range", "size", "()J"⟩ : MethodName)) hown (mvT hZ (hw _ (List.mem_of_getElem? (i := 26) rfl))) (mvT hZ (hw _ (List.mem_of_getElem? (i := 27) rfl))) (notFace_of_selects (args := #[]) (mvT hZ (hw _ (List.mem_of_getElem? (i := 29) rfl)))) (mvT hZ (hw _ (List.mem_of_getElem? (i := 29) rfl))) (mvT hZ (hw _ (List.mem_of_getElem? (i := 28) rfl))) (by decide) (backOf (W := 0) (rm6 l Z a0 hw [] b151 r8 kv T163.heap n0 Z175 R166 R167) hZ (hw _ (List.mem_of_getElem? (i := 30) rfl)) (hw _ (List.mem_of_getElem? (i := 10) rfl)) (by decide) (by decide)) q176a q176c (g := (mkF m 188 #[.val (.long q0), .second, .val (.long q1), .second, .val (.long q2), .second, .val (.int p3), .val (.long xv), .second, .val (.long yv), .second, .val (.long r8), .second, .val (.long hv), .second, .val (.ref b22), .val (.long sv), .second, .val (.int (1 : Int32)), .val (.long kv), .second, .unset, .unset, .unset, .unset] [(.ref b151)])) rfl (by rw [hml]; rfl) (Steps.refl _) (argsL := []) (rest := []) (lenOf pd_3 rfl) rfl (by show 2 * 0 + _ ≤ _; exact Nat.le_of_eq rfl) (hb hby at_188) (fun _ _ => ⟨rfl, rfl, (by decide : 3 + 0 ≤ _), (by decide : 6 + 0 ≤ _)⟩)
      dsimp only [Pt.U, Pt.locs, Pt.cells, Pt.slots] at X176 l176 y176 z176 st176 hQ176
      subst l176 y176 z176
      obtain ⟨rfl, N176q, R177⟩ := hQ176
      have N176 := Fr.app N163 N176q
      obtain ⟨T178, h178, X178, e178, E178, A178, D178, -, st178⟩ := newO X176 hx hZ hown (hw _ (List.mem_of_getElem? (i := 8) rfl)) (hw _ (List.mem_of_getElem? (i := 9) rfl)) (hw _ (List.mem_of_getElem? (i := 10) rfl)) R177 (g := (mkF m 193 #[.val (.long q0), .second, .val (.long q1), .second, .val (.long q2), .second, .val (.int p3), .val (.long xv), .second, .val (.long yv), .second, .val (.long r8), .second, .val (.long hv), .second, .val (.ref b22), .val (.long sv), .second, .val (.int (1 : Int32)), .val (.long kv), .second, .val (.long ((kv - r8) + (1 : Int64))), .second, .unset, .unset] [])) rfl (hb hby at_193) (by decide) (by decide)
      obtain ⟨b178, g178⟩ : ∃ z, z = T163.heap.size := ⟨_, rfl⟩
      rw [← g178] at A178 D178 st178
      have ne179 : b22 ≠ b178 := Nat.ne_of_lt (Nat.lt_of_lt_of_le F168.lt (Nat.le_of_eq g178.symm))
      have ne180 : b127 ≠ b178 := Nat.ne_of_lt (Nat.lt_of_lt_of_le F171.lt (Nat.le_of_eq g178.symm))
      have ne181 : b151 ≠ b178 := Nat.ne_of_lt (Nat.lt_of_lt_of_le R165.lt (Nat.le_of_eq g178.symm))
      have g_b178 : n0 ≤ b178 := Nat.le_trans Z175 (Nat.le_of_eq g178.symm)
      have F182 : Exa Z h178 b22 "com/example/motes_to_bounds/motestobounds/model/Planning$Range" := F168.ext E178
      have F183 : Fld Z h178 b22 "com/example/motes_to_bounds/motestobounds/model/Planning$Range" "min" "J" (.long r8) := F169.ext E178
      have F184 : Fld Z h178 b22 "com/example/motes_to_bounds/motestobounds/model/Planning$Range" "max" "J" (.long hv) := F170.ext E178
      have F185 : Exa Z h178 b127 "com/example/motes_to_bounds/motestobounds/model/Planning$Range" := F171.ext E178
      have F186 : Fld Z h178 b127 "com/example/motes_to_bounds/motestobounds/model/Planning$Range" "min" "J" (.long hv) := F172.ext E178
      have F187 : Fld Z h178 b127 "com/example/motes_to_bounds/motestobounds/model/Planning$Range" "max" "J" (.long hv) := F173.ext E178
      have F188 : Exa Z h178 b151 "com/example/motes_to_bounds/motestobounds/model/Planning$Range" := R165.ext E178
      have F189 : Fld Z h178 b151 "com/example/motes_to_bounds/motestobounds/model/Planning$Range" "min" "J" (.long r8) := R166.ext E178
      have F190 : Fld Z h178 b151 "com/example/motes_to_bounds/motestobounds/model/Planning$Range" "max" "J" (.long kv) := R167.ext E178
      have Z191 : n0 ≤ h178.size := Nat.le_trans Z175 E178.1
      have F192 : Fld Z h178 b178 "com/example/motes_to_bounds/motestobounds/model/Planning$Range" "min" "J" (.long (0 : Int64)) := D178 (Or.inr (hw _ (List.mem_of_getElem? (i := 23) rfl))) (ty := .long) (by decide)
      have F193 : Fld Z h178 b178 "com/example/motes_to_bounds/motestobounds/model/Planning$Range" "max" "J" (.long (0 : Int64)) := D178 (Or.inr (hw _ (List.mem_of_getElem? (i := 25) rfl))) (ty := .long) (by decide)
      obtain ⟨_, _, ⟨T194, L194, k194, n194⟩, -, X194, ⟨Lc194, hQ194, l194, y194, z194⟩, st194⟩ := X178.specialBack hx (y := (⟨"com/example/motes_to_bounds/motestobounds/model/Planning$Range", "<init>", "(JJ)V"⟩ : MethodName)) rfl hown (mvT hZ (hw _ (List.mem_of_getElem? (i := 11) rfl))) (mvT hZ (hw _ (List.mem_of_getElem? (i := 12) rfl))) (mvT hZ (hw _ (List.mem_of_getElem? (i := 13) rfl))) (by decide) (backOf (W := 1) (rm3 l Z a0 hw [] b178 (kv + (1 : Int64)) hv h178 n0 Z191 F192 F193 A178 g_b178) hZ (hw _ (List.mem_of_getElem? (i := 13) rfl)) (hw _ (List.mem_of_getElem? (i := 10) rfl)) (by decide) (by decide)) (g := (mkF m 203 #[.val (.long q0), .second, .val (.long q1), .second, .val (.long q2), .second, .val (.int p3), .val (.long xv), .second, .val (.long yv), .second, .val (.long r8), .second, .val (.long hv), .second, .val (.ref b22), .val (.long sv), .second, .val (.int (1 : Int32)), .val (.long kv), .second, .val (.long ((kv - r8) + (1 : Int64))), .second, .unset, .unset] [(.long hv), (.long (kv + (1 : Int64))), (.ref b178), (.ref b178)])) rfl (by rw [hml]; rfl) (Steps.refl _) (a := b178) (argsL := [(.long (kv + (1 : Int64))), (.long hv)]) (rest := [(.ref b178)]) (lenOf pd_2 rfl) rfl (by show 2 * 0 + _ ≤ _; exact Nat.le_of_eq rfl) (hb hby at_203) (fun _ _ => ⟨rfl, e178, (by decide : 4 + 0 ≤ _), (by decide : 8 + 0 ≤ _)⟩)
      dsimp only [Pt.U, Pt.locs, Pt.cells, Pt.slots] at X194 l194 y194 z194 st194 hQ194
      subst l194 y194 z194
      obtain ⟨rfl, N194q, R195, R196, R197, R198⟩ := hQ194
      have N194 := Fr.app N176 N194q
      have F199 : Exa Z T194.heap b22 "com/example/motes_to_bounds/motestobounds/model/Planning$Range" := F182.keep R195
      have F200 : Fld Z T194.heap b22 "com/example/motes_to_bounds/motestobounds/model/Planning$Range" "min" "J" (.long r8) := F183.keep R195 (ninS ne179 nin0)
      have F201 : Fld Z T194.heap b22 "com/example/motes_to_bounds/motestobounds/model/Planning$Range" "max" "J" (.long hv) := F184.keep R195 (ninS ne179 nin0)
      have F202 : Exa Z T194.heap b127 "com/example/motes_to_bounds/motestobounds/model/Planning$Range" := F185.keep R195
      have F203 : Fld Z T194.heap b127 "com/example/motes_to_bounds/motestobounds/model/Planning$Range" "min" "J" (.long hv) := F186.keep R195 (ninS ne180 nin0)
      have F204 : Fld Z T194.heap b127 "com/example/motes_to_bounds/motestobounds/model/Planning$Range" "max" "J" (.long hv) := F187.keep R195 (ninS ne180 nin0)
      have F205 : Exa Z T194.heap b151 "com/example/motes_to_bounds/motestobounds/model/Planning$Range" := F188.keep R195
      have F206 : Fld Z T194.heap b151 "com/example/motes_to_bounds/motestobounds/model/Planning$Range" "min" "J" (.long r8) := F189.keep R195 (ninS ne181 nin0)
      have F207 : Fld Z T194.heap b151 "com/example/motes_to_bounds/motestobounds/model/Planning$Range" "max" "J" (.long kv) := F190.keep R195 (ninS ne181 nin0)
      have F208 : Exa Z T194.heap b178 "com/example/motes_to_bounds/motestobounds/model/Planning$Range" := A178.keep R195
      have Z209 : n0 ≤ T194.heap.size := Nat.le_trans Z191 R195.1
      obtain ⟨cq210, kq210, q210a, q210b, q210c⟩ := isOf hZ rfl R196
      obtain ⟨_, _, ⟨T210, L210, k210, n210⟩, -, X210, ⟨Lc210, hQ210, l210, y210, z210⟩, st210⟩ := X194.virtualBack hx (y := (⟨"com/example/motes_to_bounds/motestobounds/model/Planning$Range", "size", "()J"⟩ : MethodName)) (z := (⟨"com/example/motes_to_bounds/motestobounds/model/Planning$Range", "size", "()J"⟩ : MethodName)) hown (mvT hZ (hw _ (List.mem_of_getElem? (i := 26) rfl))) (mvT hZ (hw _ (List.mem_of_getElem? (i := 27) rfl))) (notFace_of_selects (args := #[]) (mvT hZ (hw _ (List.mem_of_getElem? (i := 29) rfl)))) (mvT hZ (hw _ (List.mem_of_getElem? (i := 29) rfl))) (mvT hZ (hw _ (List.mem_of_getElem? (i := 28) rfl))) (by decide) (backOf (W := 0) (rm6 l Z a0 hw [] b178 (kv + (1 : Int64)) hv T194.heap n0 Z209 R197 R198) hZ (hw _ (List.mem_of_getElem? (i := 30) rfl)) (hw _ (List.mem_of_getElem? (i := 10) rfl)) (by decide) (by decide)) q210a q210c (g := (mkF m 206 #[.val (.long q0), .second, .val (.long q1), .second, .val (.long q2), .second, .val (.int p3), .val (.long xv), .second, .val (.long yv), .second, .val (.long r8), .second, .val (.long hv), .second, .val (.ref b22), .val (.long sv), .second, .val (.int (1 : Int32)), .val (.long kv), .second, .val (.long ((kv - r8) + (1 : Int64))), .second, .unset, .unset] [(.ref b178)])) rfl (by rw [hml]; rfl) (Steps.refl _) (argsL := []) (rest := []) (lenOf pd_3 rfl) rfl (by show 2 * 0 + _ ≤ _; exact Nat.le_of_eq rfl) (hb hby at_206) (fun _ _ => ⟨rfl, rfl, (by decide : 4 + 0 ≤ _), (by decide : 8 + 0 ≤ _)⟩)
      dsimp only [Pt.U, Pt.locs, Pt.cells, Pt.slots] at X210 l210 y210 z210 st210 hQ210
      subst l210 y210 z210
      obtain ⟨rfl, N210q, R211⟩ := hQ210
      have N210 := Fr.app N194 N210q
      have hc224_212 : (lcmpW (((kv - r8) + (1 : Int64)) + ((hv - (kv + (1 : Int64))) + (1 : Int64))) sv) = (0 : Int32) := (lw_eq _ _).mpr (own_split r8 hv sv kv _ hlo hlt hsv (own_mask q2) hkv)
      obtain ⟨fs, hr, hrun, hended, hW, hsame⟩ := X210.leave (v := some (.int (1 : Int32))) (fun h => by rw [Bd.returns] at h; cases h)
      refine ⟨_, _, P150 _ ?_, hrun, hended, _, _, rfl, ?_, ⟨_, rfl⟩, hW, hsame.mono (by decide) (by decide)⟩
      · show Steps p.tables e below (T145.setTop (mkF m 177 #[.val (.long q0), .second, .val (.long q1), .second, .val (.long q2), .second, .val (.int p3), .val (.long xv), .second, .val (.long yv), .second, .val (.long r8), .second, .val (.long hv), .second, .val (.ref b22), .val (.long sv), .second, .val (.int (1 : Int32)), .val (.long kv), .second, .unset, .unset, .unset, .unset] [])) _
        refine st151 _ ?_
        show Steps p.tables e below (T151.setTop (mkF m 180 #[.val (.long q0), .second, .val (.long q1), .second, .val (.long q2), .second, .val (.int p3), .val (.long xv), .second, .val (.long yv), .second, .val (.long r8), .second, .val (.long hv), .second, .val (.ref b22), .val (.long sv), .second, .val (.int (1 : Int32)), .val (.long kv), .second, .unset, .unset, .unset, .unset] [(.ref b151)])) _
        refine XS.dup X151.here hx rfl (hb hby at_180) rfl rfl ?_
        show Steps p.tables e below (T151.setTop (mkF m 181 #[.val (.long q0), .second, .val (.long q1), .second, .val (.long q2), .second, .val (.int p3), .val (.long xv), .second, .val (.long yv), .second, .val (.long r8), .second, .val (.long hv), .second, .val (.ref b22), .val (.long sv), .second, .val (.int (1 : Int32)), .val (.long kv), .second, .unset, .unset, .unset, .unset] [(.ref b151), (.ref b151)])) _
        refine XS.lload X151.here hx rfl (hb hby at_181) rfl ?_
        show Steps p.tables e below (T151.setTop (mkF m 183 #[.val (.long q0), .second, .val (.long q1), .second, .val (.long q2), .second, .val (.int p3), .val (.long xv), .second, .val (.long yv), .second, .val (.long r8), .second, .val (.long hv), .second, .val (.ref b22), .val (.long sv), .second, .val (.int (1 : Int32)), .val (.long kv), .second, .unset, .unset, .unset, .unset] [(.long r8), (.ref b151), (.ref b151)])) _
        refine XS.lload X151.here hx rfl (hb hby at_183) rfl ?_
        show Steps p.tables e below (T151.setTop (mkF m 185 #[.val (.long q0), .second, .val (.long q1), .second, .val (.long q2), .second, .val (.int p3), .val (.long xv), .second, .val (.long yv), .second, .val (.long r8), .second, .val (.long hv), .second, .val (.ref b22), .val (.long sv), .second, .val (.int (1 : Int32)), .val (.long kv), .second, .unset, .unset, .unset, .unset] [(.long kv), (.long r8), (.ref b151), (.ref b151)])) _
        refine st163.trans ?_
        show Steps p.tables e below (T163.setTop (mkF m 188 #[.val (.long q0), .second, .val (.long q1), .second, .val (.long q2), .second, .val (.int p3), .val (.long xv), .second, .val (.long yv), .second, .val (.long r8), .second, .val (.long hv), .second, .val (.ref b22), .val (.long sv), .second, .val (.int (1 : Int32)), .val (.long kv), .second, .unset, .unset, .unset, .unset] [(.ref b151)])) _
        refine st176.trans ?_
        show Steps p.tables e below (T176.setTop (mkF m 191 #[.val (.long q0), .second, .val (.long q1), .second, .val (.long q2), .second, .val (.int p3), .val (.long xv), .second, .val (.long yv), .second, .val (.long r8), .second, .val (.long hv), .second, .val (.ref b22), .val (.long sv), .second, .val (.int (1 : Int32)), .val (.long kv), .second, .unset, .unset, .unset, .unset] [(.long ((kv - r8) + (1 : Int64)))])) _
        refine XS.lstore X176.here hx rfl (hb hby at_191) rfl (l' := #[.val (.long q0), .second, .val (.long q1), .second, .val (.long q2), .second, .val (.int p3), .val (.long xv), .second, .val (.long yv), .second, .val (.long r8), .second, .val (.long hv), .second, .val (.ref b22), .val (.long sv), .second, .val (.int (1 : Int32)), .val (.long kv), .second, .val (.long ((kv - r8) + (1 : Int64))), .second, .unset, .unset]) rfl ?_
        show Steps p.tables e below (T176.setTop (mkF m 193 #[.val (.long q0), .second, .val (.long q1), .second, .val (.long q2), .second, .val (.int p3), .val (.long xv), .second, .val (.long yv), .second, .val (.long r8), .second, .val (.long hv), .second, .val (.ref b22), .val (.long sv), .second, .val (.int (1 : Int32)), .val (.long kv), .second, .val (.long ((kv - r8) + (1 : Int64))), .second, .unset, .unset] [])) _
        refine st178 _ ?_
        show Steps p.tables e below (T178.setTop (mkF m 196 #[.val (.long q0), .second, .val (.long q1), .second, .val (.long q2), .second, .val (.int p3), .val (.long xv), .second, .val (.long yv), .second, .val (.long r8), .second, .val (.long hv), .second, .val (.ref b22), .val (.long sv), .second, .val (.int (1 : Int32)), .val (.long kv), .second, .val (.long ((kv - r8) + (1 : Int64))), .second, .unset, .unset] [(.ref b178)])) _
        refine XS.dup X178.here hx rfl (hb hby at_196) rfl rfl ?_
        show Steps p.tables e below (T178.setTop (mkF m 197 #[.val (.long q0), .second, .val (.long q1), .second, .val (.long q2), .second, .val (.int p3), .val (.long xv), .second, .val (.long yv), .second, .val (.long r8), .second, .val (.long hv), .second, .val (.ref b22), .val (.long sv), .second, .val (.int (1 : Int32)), .val (.long kv), .second, .val (.long ((kv - r8) + (1 : Int64))), .second, .unset, .unset] [(.ref b178), (.ref b178)])) _
        refine XS.lload X178.here hx rfl (hb hby at_197) rfl ?_
        show Steps p.tables e below (T178.setTop (mkF m 199 #[.val (.long q0), .second, .val (.long q1), .second, .val (.long q2), .second, .val (.int p3), .val (.long xv), .second, .val (.long yv), .second, .val (.long r8), .second, .val (.long hv), .second, .val (.ref b22), .val (.long sv), .second, .val (.int (1 : Int32)), .val (.long kv), .second, .val (.long ((kv - r8) + (1 : Int64))), .second, .unset, .unset] [(.long kv), (.ref b178), (.ref b178)])) _
        refine XS.lconst X178.here hx rfl (hb hby at_199) ?_
        show Steps p.tables e below (T178.setTop (mkF m 200 #[.val (.long q0), .second, .val (.long q1), .second, .val (.long q2), .second, .val (.int p3), .val (.long xv), .second, .val (.long yv), .second, .val (.long r8), .second, .val (.long hv), .second, .val (.ref b22), .val (.long sv), .second, .val (.int (1 : Int32)), .val (.long kv), .second, .val (.long ((kv - r8) + (1 : Int64))), .second, .unset, .unset] [(.long (1 : Int64)), (.long kv), (.ref b178), (.ref b178)])) _
        refine XS.ladd X178.here hx rfl (hb hby at_200) rfl ?_
        show Steps p.tables e below (T178.setTop (mkF m 201 #[.val (.long q0), .second, .val (.long q1), .second, .val (.long q2), .second, .val (.int p3), .val (.long xv), .second, .val (.long yv), .second, .val (.long r8), .second, .val (.long hv), .second, .val (.ref b22), .val (.long sv), .second, .val (.int (1 : Int32)), .val (.long kv), .second, .val (.long ((kv - r8) + (1 : Int64))), .second, .unset, .unset] [(.long (kv + (1 : Int64))), (.ref b178), (.ref b178)])) _
        refine XS.lload X178.here hx rfl (hb hby at_201) rfl ?_
        show Steps p.tables e below (T178.setTop (mkF m 203 #[.val (.long q0), .second, .val (.long q1), .second, .val (.long q2), .second, .val (.int p3), .val (.long xv), .second, .val (.long yv), .second, .val (.long r8), .second, .val (.long hv), .second, .val (.ref b22), .val (.long sv), .second, .val (.int (1 : Int32)), .val (.long kv), .second, .val (.long ((kv - r8) + (1 : Int64))), .second, .unset, .unset] [(.long hv), (.long (kv + (1 : Int64))), (.ref b178), (.ref b178)])) _
        refine st194.trans ?_
        show Steps p.tables e below (T194.setTop (mkF m 206 #[.val (.long q0), .second, .val (.long q1), .second, .val (.long q2), .second, .val (.int p3), .val (.long xv), .second, .val (.long yv), .second, .val (.long r8), .second, .val (.long hv), .second, .val (.ref b22), .val (.long sv), .second, .val (.int (1 : Int32)), .val (.long kv), .second, .val (.long ((kv - r8) + (1 : Int64))), .second, .unset, .unset] [(.ref b178)])) _
        refine st210.trans ?_
        show Steps p.tables e below (T210.setTop (mkF m 209 #[.val (.long q0), .second, .val (.long q1), .second, .val (.long q2), .second, .val (.int p3), .val (.long xv), .second, .val (.long yv), .second, .val (.long r8), .second, .val (.long hv), .second, .val (.ref b22), .val (.long sv), .second, .val (.int (1 : Int32)), .val (.long kv), .second, .val (.long ((kv - r8) + (1 : Int64))), .second, .unset, .unset] [(.long ((hv - (kv + (1 : Int64))) + (1 : Int64)))])) _
        refine XS.lstore X210.here hx rfl (hb hby at_209) rfl (l' := #[.val (.long q0), .second, .val (.long q1), .second, .val (.long q2), .second, .val (.int p3), .val (.long xv), .second, .val (.long yv), .second, .val (.long r8), .second, .val (.long hv), .second, .val (.ref b22), .val (.long sv), .second, .val (.int (1 : Int32)), .val (.long kv), .second, .val (.long ((kv - r8) + (1 : Int64))), .second, .val (.long ((hv - (kv + (1 : Int64))) + (1 : Int64))), .second]) rfl ?_
        show Steps p.tables e below (T210.setTop (mkF m 211 #[.val (.long q0), .second, .val (.long q1), .second, .val (.long q2), .second, .val (.int p3), .val (.long xv), .second, .val (.long yv), .second, .val (.long r8), .second, .val (.long hv), .second, .val (.ref b22), .val (.long sv), .second, .val (.int (1 : Int32)), .val (.long kv), .second, .val (.long ((kv - r8) + (1 : Int64))), .second, .val (.long ((hv - (kv + (1 : Int64))) + (1 : Int64))), .second] [])) _
        refine XS.iload X210.here hx rfl (hb hby at_211) rfl ?_
        show Steps p.tables e below (T210.setTop (mkF m 213 #[.val (.long q0), .second, .val (.long q1), .second, .val (.long q2), .second, .val (.int p3), .val (.long xv), .second, .val (.long yv), .second, .val (.long r8), .second, .val (.long hv), .second, .val (.ref b22), .val (.long sv), .second, .val (.int (1 : Int32)), .val (.long kv), .second, .val (.long ((kv - r8) + (1 : Int64))), .second, .val (.long ((hv - (kv + (1 : Int64))) + (1 : Int64))), .second] [(.int (1 : Int32))])) _
        refine XS.ifNo X210.here hx rfl (hb hby at_213) rfl ((if0 _ _).trans (feq (by decide : ¬ ((1 : Int32) = (0 : Int32)))).1) ?_
        show Steps p.tables e below (T210.setTop (mkF m 216 #[.val (.long q0), .second, .val (.long q1), .second, .val (.long q2), .second, .val (.int p3), .val (.long xv), .second, .val (.long yv), .second, .val (.long r8), .second, .val (.long hv), .second, .val (.ref b22), .val (.long sv), .second, .val (.int (1 : Int32)), .val (.long kv), .second, .val (.long ((kv - r8) + (1 : Int64))), .second, .val (.long ((hv - (kv + (1 : Int64))) + (1 : Int64))), .second] [])) _
        refine XS.lload X210.here hx rfl (hb hby at_216) rfl ?_
        show Steps p.tables e below (T210.setTop (mkF m 218 #[.val (.long q0), .second, .val (.long q1), .second, .val (.long q2), .second, .val (.int p3), .val (.long xv), .second, .val (.long yv), .second, .val (.long r8), .second, .val (.long hv), .second, .val (.ref b22), .val (.long sv), .second, .val (.int (1 : Int32)), .val (.long kv), .second, .val (.long ((kv - r8) + (1 : Int64))), .second, .val (.long ((hv - (kv + (1 : Int64))) + (1 : Int64))), .second] [(.long ((kv - r8) + (1 : Int64)))])) _
        refine XS.lload X210.here hx rfl (hb hby at_218) rfl ?_
        show Steps p.tables e below (T210.setTop (mkF m 220 #[.val (.long q0), .second, .val (.long q1), .second, .val (.long q2), .second, .val (.int p3), .val (.long xv), .second, .val (.long yv), .second, .val (.long r8), .second, .val (.long hv), .second, .val (.ref b22), .val (.long sv), .second, .val (.int (1 : Int32)), .val (.long kv), .second, .val (.long ((kv - r8) + (1 : Int64))), .second, .val (.long ((hv - (kv + (1 : Int64))) + (1 : Int64))), .second] [(.long ((hv - (kv + (1 : Int64))) + (1 : Int64))), (.long ((kv - r8) + (1 : Int64)))])) _
        refine XS.ladd X210.here hx rfl (hb hby at_220) rfl ?_
        show Steps p.tables e below (T210.setTop (mkF m 221 #[.val (.long q0), .second, .val (.long q1), .second, .val (.long q2), .second, .val (.int p3), .val (.long xv), .second, .val (.long yv), .second, .val (.long r8), .second, .val (.long hv), .second, .val (.ref b22), .val (.long sv), .second, .val (.int (1 : Int32)), .val (.long kv), .second, .val (.long ((kv - r8) + (1 : Int64))), .second, .val (.long ((hv - (kv + (1 : Int64))) + (1 : Int64))), .second] [(.long (((kv - r8) + (1 : Int64)) + ((hv - (kv + (1 : Int64))) + (1 : Int64))))])) _
        refine XS.lload X210.here hx rfl (hb hby at_221) rfl ?_
        show Steps p.tables e below (T210.setTop (mkF m 223 #[.val (.long q0), .second, .val (.long q1), .second, .val (.long q2), .second, .val (.int p3), .val (.long xv), .second, .val (.long yv), .second, .val (.long r8), .second, .val (.long hv), .second, .val (.ref b22), .val (.long sv), .second, .val (.int (1 : Int32)), .val (.long kv), .second, .val (.long ((kv - r8) + (1 : Int64))), .second, .val (.long ((hv - (kv + (1 : Int64))) + (1 : Int64))), .second] [(.long sv), (.long (((kv - r8) + (1 : Int64)) + ((hv - (kv + (1 : Int64))) + (1 : Int64))))])) _
        refine XS.lcmp X210.here hx rfl (hb hby at_223) rfl ?_
        show Steps p.tables e below (T210.setTop (mkF m 224 #[.val (.long q0), .second, .val (.long q1), .second, .val (.long q2), .second, .val (.int p3), .val (.long xv), .second, .val (.long yv), .second, .val (.long r8), .second, .val (.long hv), .second, .val (.ref b22), .val (.long sv), .second, .val (.int (1 : Int32)), .val (.long kv), .second, .val (.long ((kv - r8) + (1 : Int64))), .second, .val (.long ((hv - (kv + (1 : Int64))) + (1 : Int64))), .second] [(.int (lcmpW (((kv - r8) + (1 : Int64)) + ((hv - (kv + (1 : Int64))) + (1 : Int64))) sv))])) _
        refine XS.ifNo X210.here hx rfl (hb hby at_224) rfl ((if0 _ _).trans (teq hc224_212).2) ?_
        show Steps p.tables e below (T210.setTop (mkF m 227 #[.val (.long q0), .second, .val (.long q1), .second, .val (.long q2), .second, .val (.int p3), .val (.long xv), .second, .val (.long yv), .second, .val (.long r8), .second, .val (.long hv), .second, .val (.ref b22), .val (.long sv), .second, .val (.int (1 : Int32)), .val (.long kv), .second, .val (.long ((kv - r8) + (1 : Int64))), .second, .val (.long ((hv - (kv + (1 : Int64))) + (1 : Int64))), .second] [])) _
        refine XS.iconst X210.here hx rfl (hb hby at_227) ?_
        show Steps p.tables e below (T210.setTop (mkF m 228 #[.val (.long q0), .second, .val (.long q1), .second, .val (.long q2), .second, .val (.int p3), .val (.long xv), .second, .val (.long yv), .second, .val (.long r8), .second, .val (.long hv), .second, .val (.ref b22), .val (.long sv), .second, .val (.int (1 : Int32)), .val (.long kv), .second, .val (.long ((kv - r8) + (1 : Int64))), .second, .val (.long ((hv - (kv + (1 : Int64))) + (1 : Int64))), .second] [(.int (1 : Int32))])) _
        refine XS.goto X210.here hx rfl (pc0 := 228) (pc' := 232) rfl (hb hby at_228) (by decide) (by decide) ?_
        show Steps p.tables e below (T210.setTop (mkF m 232 #[.val (.long q0), .second, .val (.long q1), .second, .val (.long q2), .second, .val (.int p3), .val (.long xv), .second, .val (.long yv), .second, .val (.long r8), .second, .val (.long hv), .second, .val (.ref b22), .val (.long sv), .second, .val (.int (1 : Int32)), .val (.long kv), .second, .val (.long ((kv - r8) + (1 : Int64))), .second, .val (.long ((hv - (kv + (1 : Int64))) + (1 : Int64))), .second] [(.int (1 : Int32))])) _
        refine XS.istore X210.here hx rfl (hb hby at_232) rfl (l' := #[.val (.long q0), .second, .val (.long q1), .second, .val (.long q2), .second, .val (.int p3), .val (.long xv), .second, .val (.long yv), .second, .val (.long r8), .second, .val (.long hv), .second, .val (.ref b22), .val (.long sv), .second, .val (.int (1 : Int32)), .val (.long kv), .second, .val (.long ((kv - r8) + (1 : Int64))), .second, .val (.long ((hv - (kv + (1 : Int64))) + (1 : Int64))), .second]) rfl ?_
        show Steps p.tables e below (T210.setTop (mkF m 234 #[.val (.long q0), .second, .val (.long q1), .second, .val (.long q2), .second, .val (.int p3), .val (.long xv), .second, .val (.long yv), .second, .val (.long r8), .second, .val (.long hv), .second, .val (.ref b22), .val (.long sv), .second, .val (.int (1 : Int32)), .val (.long kv), .second, .val (.long ((kv - r8) + (1 : Int64))), .second, .val (.long ((hv - (kv + (1 : Int64))) + (1 : Int64))), .second] [])) _
        refine XS.iload X210.here hx rfl (hb hby at_234) rfl ?_
        show Steps p.tables e below (T210.setTop (mkF m 236 #[.val (.long q0), .second, .val (.long q1), .second, .val (.long q2), .second, .val (.int p3), .val (.long xv), .second, .val (.long yv), .second, .val (.long r8), .second, .val (.long hv), .second, .val (.ref b22), .val (.long sv), .second, .val (.int (1 : Int32)), .val (.long kv), .second, .val (.long ((kv - r8) + (1 : Int64))), .second, .val (.long ((hv - (kv + (1 : Int64))) + (1 : Int64))), .second] [(.int (1 : Int32))])) _
        exact retN X210 hx (t := .boolean) Bd.returns (by simp) (hb hby at_236) hr
      · show Q0 Z q0 q1 q2 p3 h0 n0 _ T210.heap _
        rw [R211]
        exact ⟨rfl, N210⟩
    · obtain ⟨fs, hr, hrun, hended, hW, hsame⟩ := X145.leave (v := some (.int (1 : Int32))) (fun h => by rw [Bd.returns] at h; cases h)
      refine ⟨_, _, P148 _ ?_, hrun, hended, _, _, rfl, ?_, ⟨_, rfl⟩, hW, hsame.mono (by decide) (by decide)⟩
      · show Steps p.tables e below (T145.setTop (mkF m 157 #[.val (.long q0), .second, .val (.long q1), .second, .val (.long q2), .second, .val (.int p3), .val (.long xv), .second, .val (.long yv), .second, .val (.long r8), .second, .val (.long hv), .second, .val (.ref b22), .val (.long sv), .second, .val (.int (1 : Int32)), .unset, .unset, .unset, .unset, .unset, .unset] [(.int (lcmpW hv r8))])) _
        refine XS.ifYes X145.here hx rfl (pc0 := 157) (pc' := 234) rfl (hb hby at_157) rfl ((if0 _ _).trans (flt h157).2.2.2) (by decide) (by decide) ?_
        show Steps p.tables e below (T145.setTop (mkF m 234 #[.val (.long q0), .second, .val (.long q1), .second, .val (.long q2), .second, .val (.int p3), .val (.long xv), .second, .val (.long yv), .second, .val (.long r8), .second, .val (.long hv), .second, .val (.ref b22), .val (.long sv), .second, .val (.int (1 : Int32)), .unset, .unset, .unset, .unset, .unset, .unset] [])) _
        refine XS.iload X145.here hx rfl (hb hby at_234) rfl ?_
        show Steps p.tables e below (T145.setTop (mkF m 236 #[.val (.long q0), .second, .val (.long q1), .second, .val (.long q2), .second, .val (.int p3), .val (.long xv), .second, .val (.long yv), .second, .val (.long r8), .second, .val (.long hv), .second, .val (.ref b22), .val (.long sv), .second, .val (.int (1 : Int32)), .unset, .unset, .unset, .unset, .unset, .unset] [(.int (1 : Int32))])) _
        exact retN X145 hx (t := .boolean) Bd.returns (by simp) (hb hby at_236) hr
      · show Q0 Z q0 q1 q2 p3 h0 n0 _ T145.heap _
        rw [R146]
        exact ⟨rfl, N145⟩
set_option maxRecDepth 65536 in
set_option maxHeartbeats 40000000 in
theorem comes_1 {Post : Tables → Env → Array Value → State → Outcome → State → Prop} (hpost : ∀ tb e args s v u, (limb_1_1.after args s (.returned v) u = true ∧ limb_1_2.after args s (.returned v) u = true ∧ True) → FrameEnd s (.returned v) u (Jvm.fieldLocs frame_1_writes args s ++ Jvm.arrayLocs frame_1_arrays args s ++ Jvm.staticLocs frame_1_statics s) 16 128 → Post tb e args s (.returned v) u) :
    ArmFor flags0 classFile x code maxLocals ret World_1 tables_1 room_1 Calls_1 rest_1 Pre_1 Post := by
  intro l hfl _ _ p e ha hc hk s m args below hf hA hF happ hP
  obtain ⟨hcalls, hrest, hpre⟩ := hP
  obtain ⟨-, -, -, hnamed, -, -, -, hat⟩ := (Spec.applies_iff hf).mp happ
  obtain ⟨hg, hn⟩ := and_e (Cond.before_iff.mp (show (Jvm.Cond.and given_1 narrow_1).before args s = true from hpre))
  obtain ⟨hcount, hg0⟩ := and_e hg
  obtain ⟨ha0, hg1⟩ := and_e hg0
  obtain ⟨ha1, hg2⟩ := and_e hg1
  obtain ⟨ha2, hg3⟩ := and_e hg2
  obtain ⟨w0, w1, w2, w3, rfl⟩ : ∃ w0 w1 w2 w3 : Value, args = #[w0, w1, w2, w3] := by
    have hs : args.size = 4 := by simpa [Cond.value, given_1] using hcount
    obtain ⟨L⟩ := args
    match L, hs with
    | [w0, w1, w2, w3], _ => exact ⟨w0, w1, w2, w3, rfl⟩
  have hw := fun d (hd : d ∈ tables_1) => atoms_spec (ws := Jvm.Cond.code x code maxLocals ret :: tables_1) hat d (List.mem_cons_of_mem _ hd)
  have hfit : Fit s := fun {y c} hc i hi => by
    obtain ⟨ha, rfl⟩ := Array.getElem?_eq_some_iff.mp hc
    have q := List.all_eq_true.mp ((Array.all_eq_true_iff_forall_mem.mp hF) _ (Array.getElem_mem ha)) i (List.mem_range.mpr hi)
    simpa [Array.getElem?_eq_getElem hi] using q
  obtain ⟨i0, ei0⟩ := isL_v ha0
  obtain rfl : w0 = (.long i0) := Option.some.inj ei0
  obtain ⟨i1, ei1⟩ := isL_v ha1
  obtain rfl : w1 = (.long i1) := Option.some.inj ei1
  obtain ⟨i2, ei2⟩ := isL_v ha2
  obtain rfl : w2 = (.long i2) := Option.some.inj ei2
  obtain ⟨i3, ei3⟩ := is_v hg3
  obtain rfl : w3 = (.int i3) := Option.some.inj ei3
  obtain ⟨n, o, h1, h2, h3, _, L, rfl, ⟨rfl, N⟩, hq⟩ := rm0 l s _ hw tables_1 i0 i1 i2 i3 s.heap s.heap.size (Nat.le_refl _)  p e ha hc hk s m _ below hf ((Spec.applies_iff_loose hf).mp happ).1 ⟨rfl, State.Warmed39.refl s, rfl⟩ trivial
  exact ⟨n, _, h1, h2, h3, hpost _ _ _ _ _ _ ⟨Cond.after_iff.mpr rfl, Cond.after_iff.mpr (eq_i res_at (Term.int_eval (1)) rfl), trivial⟩ ⟨hq.1, hq.2.1, (hq.2.2.sift fun y hy => Or.inr (N y hy)).mono (by decide) (by decide)⟩⟩
theorem main_1_1 : Claimed_1_1 := comes_1 fun _ _ _ _ _ _ h hF => ⟨h.1, hF⟩
theorem main_1_2 : Claimed_1_2 := comes_1 fun _ _ _ _ _ _ h hF => ⟨h.2.1, hF⟩
end Jvm.Pilot.@@N@@
namespace Jvm.Pilot.@@N@@
open Jvm Jvm.ClassFile Sem Op Lib Jvm.Free Jvm.Stand Jvm.Pilot.@@N@@.Jvm.D
/-! MADE BY PROGRAM (witnessworld.py) out of the Statement's table words and the real class files: 11 classes; the members and pool entries that the words name. The judged class is class 1, her method 1. -/
namespace start1
open Jvm.ClassFile
def u (s : String) : CpInfo := .utf8 (stringToUtf16 s)
/-- a pool by its gaps: so many unusable entries, then the entry; so many at the end -/
def gap : Nat → List CpInfo → List CpInfo
  | 0, r => r
  | n + 1, r => .unusable :: gap n r
def poolList (es : List (Nat × CpInfo)) (last : Nat) : List CpInfo := es.foldr (fun e r => gap e.1 (e.2 :: r)) (gap last [])
def pool (es : List (Nat × CpInfo)) (last : Nat) : Array CpInfo := ⟨poolList es last⟩
def fileOf (pool : Array CpInfo) (this : Nat) (attrs : Array Attribute := #[]) (ms : Array MethodInfo := #[]) (fl : Nat := 33) (sup : Nat := 0) (ifs : Array Nat := #[]) (fds : Array FieldInfo := #[]) : ClassFile where
  minorVersion := 0
  majorVersion := 65
  constantPool := pool
  accessFlags := fl
  thisClass := this
  superClass := sup
  interfaces := ifs
  fields := fds
  methods := ms
  attributes := attrs
def plain (name : String) (sup : Option ClassId) : Class where
  name := name
  kind := .ordinary
  loader := none
  accessFlags := 33
  super := sup
  interfaces := #[]
  cf := none
  fields := #[]
  methods := #[]
  instanceTypes := #[]
  staticTypes := #[]
  resolved := #[]
  callSites := []
  init := .initialized
  statics := none
  mirror := none

def pool0 : Array CpInfo := pool [(5, u "<init>"), (0, u "()V"), (1, .class_ 10), (1, u "java/lang/Object")] 113

def k0c0 : Code := { maxStack := 0, maxLocals := 1, code := object_method_1_code, exceptionTable := #[], attributes := #[] }
def k0m0 : Method := { name := "<init>", desc := "()V", sig := { parameters := [], returnType := none }, accessFlags := 1, code := some k0c0 }
/-- java/lang/Object -/
def k0 : Class := { plain "java/lang/Object" none with
  accessFlags := 33
  interfaces := #[]
  cf := some (fileOf pool0 8 #[] #[{ accessFlags := 1, nameIndex := 5, descriptorIndex := 6, attributes := #[] }] 33 0 #[] #[])
  fields := #[]
  methods := #[k0m0]
  instanceTypes := #[]
  staticTypes := #[]
  resolved := Array.replicate 124 none
  statics := none }

def pool1 : Array CpInfo := pool [(2, .class_ 4), (1, u "java/lang/Object"), (0, u "<init>"), (0, u "()V"), (2, .long 9223372036854775807), (1, .methodref 12 13), (0, .class_ 14), (0, .nameAndType 15 16), (0, u "java/lang/Math"), (0, u "min"), (0, u "(JJ)J"), (0, .methodref 12 18), (0, .nameAndType 19 16), (0, u "max"), (0, .class_ 21), (0, u "com/example/motes_to_bounds/motestobounds/model/Planning$Range"), (0, .methodref 20 23), (0, .nameAndType 5 24), (0, u "(JJ)V"), (0, .methodref 20 26), (0, .nameAndType 27 28), (0, u "size"), (0, u "()J"), (0, .class_ 30), (0, u "com/example/motes_to_bounds/motestobounds/model/RangeSizePinLaw"), (2, u "law"), (0, u "(JJJI)Z")] 7

def k1m0 : Method := { name := "<init>", desc := "()V", sig := { parameters := [], returnType := none }, accessFlags := 1, code := none }
def k1c1 : Code := { maxStack := 8, maxLocals := 25, code := code, exceptionTable := #[], attributes := #[] }
def k1m1 : Method := { name := "law", desc := "(JJJI)Z", sig := { parameters := [.long, .long, .long, .int], returnType := some .boolean }, accessFlags := 9, code := some k1c1 }
/-- com/example/motes_to_bounds/motestobounds/model/RangeSizePinLaw -/
def k1 : Class := { plain "com/example/motes_to_bounds/motestobounds/model/RangeSizePinLaw" (some 0) with
  accessFlags := 49
  interfaces := #[]
  cf := some (fileOf pool1 29 #[] #[{ accessFlags := 1, nameIndex := 5, descriptorIndex := 6, attributes := #[] }, { accessFlags := 9, nameIndex := 33, descriptorIndex := 34, attributes := #[] }] 49 2 #[] #[])
  fields := #[]
  methods := #[k1m0, k1m1]
  instanceTypes := #[]
  staticTypes := #[]
  resolved := Array.replicate 42 none
  statics := none }

def pool2 : Array CpInfo := pool [(1, .class_ 2), (0, u "java/lang/Math"), (1, .class_ 6), (1, u "java/lang/Object"), (0, u "<init>"), (0, u "()V"), (89, .class_ 100), (1, u "java/lang/Math$RandomNumberGeneratorHolder"), (20, u "(JJ)J"), (50, u "negativeZeroFloatBits"), (0, u "J"), (2, u "negativeZeroDoubleBits"), (21, u "max"), (2, u "min"), (43, u "$assertionsDisabled"), (0, u "Z"), (91, u "twoToTheDoubleScaleDown"), (0, u "D"), (4, u "twoToTheDoubleScaleUp"), (9, u "E"), (3, u "PI"), (2, u "TAU"), (2, u "DEGREES_TO_RADIANS"), (0, u "RADIANS_TO_DEGREES")] 94

def k2m0 : Method := { name := "<init>", desc := "()V", sig := { parameters := [], returnType := none }, accessFlags := 2, code := none }
def k2c1 : Code := { maxStack := 4, maxLocals := 4, code := jdk_29_method_66_code, exceptionTable := #[], attributes := #[] }
def k2m1 : Method := { name := "max", desc := "(JJ)J", sig := { parameters := [.long, .long], returnType := some .long }, accessFlags := 9, code := some k2c1 }
def k2c2 : Code := { maxStack := 4, maxLocals := 4, code := jdk_29_method_70_code, exceptionTable := #[], attributes := #[] }
def k2m2 : Method := { name := "min", desc := "(JJ)J", sig := { parameters := [.long, .long], returnType := some .long }, accessFlags := 9, code := some k2c2 }
/-- java/lang/Math -/
def k2 : Class := { plain "java/lang/Math" (some 0) with
  accessFlags := 49
  interfaces := #[]
  cf := some (fileOf pool2 1 #[.nestMembers #[98]] #[{ accessFlags := 2, nameIndex := 7, descriptorIndex := 8, attributes := #[] }, { accessFlags := 9, nameIndex := 198, descriptorIndex := 121, attributes := #[] }, { accessFlags := 9, nameIndex := 201, descriptorIndex := 121, attributes := #[] }] 49 4 #[] #[{ accessFlags := 25, nameIndex := 354, descriptorIndex := 339, attributes := #[] }, { accessFlags := 25, nameIndex := 358, descriptorIndex := 339, attributes := #[] }, { accessFlags := 25, nameIndex := 361, descriptorIndex := 339, attributes := #[] }, { accessFlags := 26, nameIndex := 364, descriptorIndex := 339, attributes := #[] }, { accessFlags := 26, nameIndex := 365, descriptorIndex := 339, attributes := #[] }, { accessFlags := 26, nameIndex := 172, descriptorIndex := 173, attributes := #[] }, { accessFlags := 26, nameIndex := 176, descriptorIndex := 173, attributes := #[] }, { accessFlags := 8, nameIndex := 344, descriptorIndex := 339, attributes := #[] }, { accessFlags := 8, nameIndex := 338, descriptorIndex := 339, attributes := #[] }, { accessFlags := 4120, nameIndex := 245, descriptorIndex := 246, attributes := #[] }])
  fields := #[{ name := "E", type := .double, accessFlags := 25, slot := 0, constantValue := 0 }, { name := "PI", type := .double, accessFlags := 25, slot := 1, constantValue := 0 }, { name := "TAU", type := .double, accessFlags := 25, slot := 2, constantValue := 0 }, { name := "DEGREES_TO_RADIANS", type := .double, accessFlags := 26, slot := 3, constantValue := 0 }, { name := "RADIANS_TO_DEGREES", type := .double, accessFlags := 26, slot := 4, constantValue := 0 }, { name := "negativeZeroFloatBits", type := .long, accessFlags := 26, slot := 5, constantValue := 0 }, { name := "negativeZeroDoubleBits", type := .long, accessFlags := 26, slot := 6, constantValue := 0 }, { name := "twoToTheDoubleScaleUp", type := .double, accessFlags := 8, slot := 7, constantValue := 0 }, { name := "twoToTheDoubleScaleDown", type := .double, accessFlags := 8, slot := 8, constantValue := 0 }, { name := "$assertionsDisabled", type := .boolean, accessFlags := 4120, slot := 9, constantValue := 0 }]
  methods := #[k2m0, k2m1, k2m2]
  instanceTypes := #[]
  staticTypes := #[.double, .double, .double, .double, .double, .long, .long, .double, .double, .boolean]
  resolved := Array.replicate 460 none
  statics := none }

def pool3 : Array CpInfo := pool [(1, .methodref 2 3), (0, .class_ 4), (0, .nameAndType 5 6), (0, u "java/lang/Object"), (0, u "<init>"), (0, u "()V"), (0, .class_ 8), (0, u "java/lang/Record")] 13

def k3c0 : Code := { maxStack := 1, maxLocals := 1, code := jdk_30_method_1_code, exceptionTable := #[], attributes := #[] }
def k3m0 : Method := { name := "<init>", desc := "()V", sig := { parameters := [], returnType := none }, accessFlags := 4, code := some k3c0 }
/-- java/lang/Record -/
def k3 : Class := { plain "java/lang/Record" (some 0) with
  accessFlags := 1057
  interfaces := #[]
  cf := some (fileOf pool3 7 #[] #[{ accessFlags := 4, nameIndex := 5, descriptorIndex := 6, attributes := #[] }] 1057 2 #[] #[])
  fields := #[]
  methods := #[k3m0]
  instanceTypes := #[]
  staticTypes := #[]
  resolved := Array.replicate 22 none
  statics := none }

def pool4 : Array CpInfo := pool [(1, .methodref 2 3), (0, .class_ 4), (0, .nameAndType 5 6), (0, u "java/lang/Record"), (0, u "<init>"), (0, u "()V"), (0, .fieldref 8 9), (0, .class_ 10), (0, .nameAndType 11 12), (0, u "com/example/motes_to_bounds/motestobounds/model/Planning$Range"), (0, u "min"), (0, u "J"), (0, .fieldref 8 14), (0, .nameAndType 15 12), (0, u "max"), (22, u "(JJ)V"), (3, u "size"), (0, u "()J"), (8, .class_ 53), (0, u "com/example/motes_to_bounds/motestobounds/model/Planning")] 28

def k4c0 : Code := { maxStack := 3, maxLocals := 5, code := prog_35_method_1_code, exceptionTable := #[], attributes := #[] }
def k4m0 : Method := { name := "<init>", desc := "(JJ)V", sig := { parameters := [.long, .long], returnType := none }, accessFlags := 1, code := some k4c0 }
def k4c1 : Code := { maxStack := 4, maxLocals := 1, code := prog_35_method_2_code, exceptionTable := #[], attributes := #[] }
def k4m1 : Method := { name := "size", desc := "()J", sig := { parameters := [], returnType := some .long }, accessFlags := 1, code := some k4c1 }
/-- com/example/motes_to_bounds/motestobounds/model/Planning$Range -/
def k4 : Class := { plain "com/example/motes_to_bounds/motestobounds/model/Planning$Range" (some 3) with
  accessFlags := 49
  interfaces := #[]
  cf := some (fileOf pool4 8 #[.nestHost 52] #[{ accessFlags := 1, nameIndex := 5, descriptorIndex := 38, attributes := #[] }, { accessFlags := 1, nameIndex := 42, descriptorIndex := 43, attributes := #[] }] 49 2 #[] #[{ accessFlags := 18, nameIndex := 11, descriptorIndex := 12, attributes := #[] }, { accessFlags := 18, nameIndex := 15, descriptorIndex := 12, attributes := #[] }])
  fields := #[{ name := "min", type := .long, accessFlags := 18, slot := 0, constantValue := 0 }, { name := "max", type := .long, accessFlags := 18, slot := 1, constantValue := 0 }]
  methods := #[k4m0, k4m1]
  instanceTypes := #[.long, .long]
  staticTypes := #[]
  resolved := Array.replicate 82 none
  statics := none }

def pool5 : Array CpInfo := pool [(1, u "java/lang/Cloneable"), (0, .class_ 1), (0, u "java/lang/Object"), (0, .class_ 3)] 3

/-- java/lang/Cloneable -/
def k5 : Class := { plain "java/lang/Cloneable" (some 0) with
  accessFlags := 1537
  interfaces := #[]
  cf := some (fileOf pool5 2 #[] #[] 1537 4 #[] #[])
  fields := #[]
  methods := #[]
  instanceTypes := #[]
  staticTypes := #[]
  resolved := Array.replicate 8 none
  statics := none }

def pool6 : Array CpInfo := pool [(1, u "java/io/Serializable"), (0, .class_ 1), (0, u "java/lang/Object"), (0, .class_ 3)] 3

/-- java/io/Serializable -/
def k6 : Class := { plain "java/io/Serializable" (some 0) with
  accessFlags := 1537
  interfaces := #[]
  cf := some (fileOf pool6 2 #[] #[] 1537 4 #[] #[])
  fields := #[]
  methods := #[]
  instanceTypes := #[]
  staticTypes := #[]
  resolved := Array.replicate 8 none
  statics := none }

/-- the primitive byte -/
def k7 : Class := { plain "byte" none with kind := .primitive 'B', accessFlags := 0x411 }
/-- [B -/
def k8 : Class := { plain "[B" (some 0) with kind := .array 7 .byte, interfaces := #[5, 6], accessFlags := 1041 }

/-- the primitive int -/
def k9 : Class := { plain "int" none with kind := .primitive 'I', accessFlags := 0x411 }
/-- [I -/
def k10 : Class := { plain "[I" (some 0) with kind := .array 9 .int, interfaces := #[5, 6], accessFlags := 1041 }

def heap : Heap := #[]
def classes : Array Class := #[k0, k1, k2, k3, k4, k5, k6, k7, k8, k9, k10]
def interned : List (Array UInt16 × Addr) := []
def slotsUsed : Nat := 0
def theMethod : MethodId := ⟨1, 1⟩
def args0 : Array Value := #[.long 5, .long 5, .long 5, .int 5]
def aboutOver (below : List Frame) : State where
  vm := { classes := classes, interned := interned.toArray }
  heap := heap
  slotsUsed := slotsUsed
  threads := #[{ frames := .invoking theMethod args0 :: below }]
def below0 : List Frame := [.native { method := ⟨0, 0⟩, args := #[] }]
def about1 : State := aboutOver below0
def p0 : Program := .bare "" "" ""
def e0 : Env := launch0.env 0 0 0
theorem w_frames : about1.frames = Frame.invoking theMethod args0 :: below0 := rfl
set_option maxRecDepth 65536 in
theorem w_args : argsFit about1.vm theMethod args0 = true := by decide +kernel
set_option maxRecDepth 65536 in
theorem w_heap : heapFits about1 = true := by decide +kernel
set_option maxRecDepth 65536 in
theorem w_runnable : about1.curStatus? = some .runnable := by decide +kernel
set_option maxRecDepth 65536 in
theorem w_alone : about1.alone = true := by decide +kernel
set_option maxRecDepth 65536 in
theorem w_named : about1.methodNamed? x = some theMethod := by decide +kernel
set_option maxRecDepth 65536 in
theorem w_hears : about1.hears theMethod below0 = true := by decide +kernel
set_option maxRecDepth 65536 in
theorem w_ripe : about1.ripe theMethod args0 below0 = true := by decide +kernel
theorem w_running : about1.status = .running := rfl
set_option maxRecDepth 65536 in
theorem w_room : about1.hasRoom e0.platform room_1 = true :=
  launch0.hasRoom_least _ room_1 (by decide +kernel) (by decide +kernel) (by decide +kernel) (by decide +kernel) (by decide +kernel) (by decide +kernel)
theorem allAtoms_all (ts : List Jvm.Cond) (a : Array Jvm.Value) (st : Jvm.State) : (allAtoms ts).before a st = ts.all (fun c => c.before a st) := by
  induction ts with
  | nil => rfl
  | cons c t ih =>
    show (Jvm.Cond.and c (allAtoms t)).before a st = _
    rw [Jvm.Cond.before_and, ih, List.all_cons]
def words1 : List Jvm.Cond := Jvm.Cond.code x code maxLocals ret :: tables_1
/-- a 'code' word, met by the world's own term for the bytes: nothing is compared byte by byte -/
theorem code_word {y : MethodName} {bytes : ByteArray} {mx : Nat} {rt : Option FieldType} {a : Array Value} {s : State} {m : MethodId} {meth : Method} {c : Code} (h1 : s.methodNamed? y = some m) (h2 : s.vm.method? m = some meth) (h3 : meth.code = some c) (h4 : c.code = bytes)
    (h5 : (c.maxLocals == mx && c.exceptionTable.isEmpty && decide (c.maxStack ≤ mostOperands) && decide (meth.sig.returnType = rt) && !meth.locks && decide (parseMethodDescriptor y.desc = some meth.sig)) = true) : (Jvm.Cond.code y bytes mx rt).before a s = true := by
  simp only [Bool.and_eq_true, beq_iff_eq, Bool.not_eq_true', decide_eq_true_eq] at h5
  obtain ⟨⟨⟨⟨⟨g1, g2⟩, g3⟩, g4⟩, g5⟩, g6⟩ := h5
  simp [Cond.before, Cond.holds, Cond.value, h1, h2, h3, h4, g1, g2, g3, g4, g5, g6]
def isCode : Jvm.Cond → Bool
  | .code _ _ _ _ => true
  | _ => false
theorem all_split {L : List Jvm.Cond} {P : Jvm.Cond → Bool} (h1 : L.all (fun c => isCode c || P c) = true) (h2 : ∀ c ∈ L.filter isCode, P c = true) : L.all P = true := by
  refine List.all_eq_true.mpr fun c hc => ?_
  have h := List.all_eq_true.mp h1 c hc
  rcases Bool.eq_false_or_eq_true (isCode c) with hi | hi
  · exact h2 c (List.mem_filter.mpr ⟨hc, hi⟩)
  · simpa [hi] using h
set_option maxRecDepth 65536 in
theorem w_c0 : (Jvm.Cond.code x code maxLocals ret).before args0 about1 = true := code_word (m := ⟨1, 1⟩) (meth := k1m1) (c := k1c1) (by decide +kernel) rfl rfl rfl (by decide +kernel)
set_option maxRecDepth 65536 in
theorem w_c1 : (Jvm.Cond.code ({ cls := "java/lang/Math", name := "min", desc := "(JJ)J" } : Jvm.MethodName) jdk_29_method_70_code (4 : Nat) (Option.some Jvm.ClassFile.FieldType.long)).before args0 about1 = true := code_word (m := ⟨2, 2⟩) (meth := k2m2) (c := k2c2) (by decide +kernel) rfl rfl rfl (by decide +kernel)
set_option maxRecDepth 65536 in
theorem w_c2 : (Jvm.Cond.code ({ cls := "java/lang/Math", name := "max", desc := "(JJ)J" } : Jvm.MethodName) jdk_29_method_66_code (4 : Nat) (Option.some Jvm.ClassFile.FieldType.long)).before args0 about1 = true := code_word (m := ⟨2, 1⟩) (meth := k2m1) (c := k2c1) (by decide +kernel) rfl rfl rfl (by decide +kernel)
set_option maxRecDepth 65536 in
theorem w_c3 : (Jvm.Cond.code ({ cls := "com/example/motes_to_bounds/motestobounds/model/Planning$Range", name := "<init>", desc := "(JJ)V" } : Jvm.MethodName) prog_35_method_1_code (5 : Nat) (Option.none : Option Jvm.ClassFile.FieldType)).before args0 about1 = true := code_word (m := ⟨4, 0⟩) (meth := k4m0) (c := k4c0) (by decide +kernel) rfl rfl rfl (by decide +kernel)
set_option maxRecDepth 65536 in
theorem w_c4 : (Jvm.Cond.code ({ cls := "java/lang/Record", name := "<init>", desc := "()V" } : Jvm.MethodName) jdk_30_method_1_code (1 : Nat) (Option.none : Option Jvm.ClassFile.FieldType)).before args0 about1 = true := code_word (m := ⟨3, 0⟩) (meth := k3m0) (c := k3c0) (by decide +kernel) rfl rfl rfl (by decide +kernel)
set_option maxRecDepth 65536 in
theorem w_c5 : (Jvm.Cond.code ({ cls := "java/lang/Object", name := "<init>", desc := "()V" } : Jvm.MethodName) object_method_1_code (1 : Nat) (Option.none : Option Jvm.ClassFile.FieldType)).before args0 about1 = true := code_word (m := ⟨0, 0⟩) (meth := k0m0) (c := k0c0) (by decide +kernel) rfl rfl rfl (by decide +kernel)
set_option maxRecDepth 65536 in
theorem w_c6 : (Jvm.Cond.code ({ cls := "com/example/motes_to_bounds/motestobounds/model/Planning$Range", name := "size", desc := "()J" } : Jvm.MethodName) prog_35_method_2_code (1 : Nat) (Option.some Jvm.ClassFile.FieldType.long)).before args0 about1 = true := code_word (m := ⟨4, 1⟩) (meth := k4m1) (c := k4c1) (by decide +kernel) rfl rfl rfl (by decide +kernel)
def codes1 : List Jvm.Cond := [Jvm.Cond.code x code maxLocals ret, Jvm.Cond.code ({ cls := "java/lang/Math", name := "min", desc := "(JJ)J" } : Jvm.MethodName) jdk_29_method_70_code (4 : Nat) (Option.some Jvm.ClassFile.FieldType.long), Jvm.Cond.code ({ cls := "java/lang/Math", name := "max", desc := "(JJ)J" } : Jvm.MethodName) jdk_29_method_66_code (4 : Nat) (Option.some Jvm.ClassFile.FieldType.long), Jvm.Cond.code ({ cls := "com/example/motes_to_bounds/motestobounds/model/Planning$Range", name := "<init>", desc := "(JJ)V" } : Jvm.MethodName) prog_35_method_1_code (5 : Nat) (Option.none : Option Jvm.ClassFile.FieldType), Jvm.Cond.code ({ cls := "java/lang/Record", name := "<init>", desc := "()V" } : Jvm.MethodName) jdk_30_method_1_code (1 : Nat) (Option.none : Option Jvm.ClassFile.FieldType), Jvm.Cond.code ({ cls := "java/lang/Object", name := "<init>", desc := "()V" } : Jvm.MethodName) object_method_1_code (1 : Nat) (Option.none : Option Jvm.ClassFile.FieldType), Jvm.Cond.code ({ cls := "com/example/motes_to_bounds/motestobounds/model/Planning$Range", name := "size", desc := "()J" } : Jvm.MethodName) prog_35_method_2_code (1 : Nat) (Option.some Jvm.ClassFile.FieldType.long)]
set_option maxRecDepth 65536 in
theorem codes_eq : words1.filter isCode = codes1 := rfl
theorem w_codes : ∀ c ∈ words1.filter isCode, c.before args0 about1 = true := by
  rw [codes_eq]
  intro c hc
  simp only [codes1, List.mem_cons, List.not_mem_nil, or_false] at hc
  rcases hc with rfl | rfl | rfl | rfl | rfl | rfl | rfl
  · exact w_c0
  · exact w_c1
  · exact w_c2
  · exact w_c3
  · exact w_c4
  · exact w_c5
  · exact w_c6
set_option maxRecDepth 65536 in
theorem w_t1 : (words1.take 24).all (fun c => isCode c || c.before args0 about1) = true := by decide +kernel
set_option maxRecDepth 65536 in
theorem w_t2 : (words1.drop 24).all (fun c => isCode c || c.before args0 about1) = true := by decide +kernel
theorem w_tables : (allAtoms (Jvm.Cond.code x code maxLocals ret :: tables_1)).before args0 about1 = true := by
  rw [allAtoms_all]
  show words1.all (fun c => c.before args0 about1) = true
  refine all_split ?_ w_codes
  rw [← List.take_append_drop 24 words1, List.all_append, w_t1, w_t2]
  rfl
set_option maxRecDepth 65536 in
theorem w_case : (Jvm.Cond.and given_1 narrow_1).before args0 about1 = true := by decide +kernel
theorem w_applies : (headSpec (Jvm.Cond.code x code maxLocals ret :: tables_1) room_1).applies x e0.platform about1 = true :=
  (Spec.applies_iff w_frames).mpr ⟨w_running, w_runnable, w_alone, w_named, w_hears, w_ripe, w_room, w_tables⟩
theorem atStart : AtStart classFile x code maxLocals ret World_1 tables_1 room_1 Calls_1 rest_1 Pre_1 launch0 p0 e0 about1 theMethod args0 below0 :=
  ⟨lists_1, trivial, launch0.admits_env _ _ _, launch0.least_env, fairChoices_fair.cas, fairChoices_fair.clock, w_frames, w_args, w_heap, w_applies, trivial, trivial, w_case⟩
end start1
theorem witness_1 : WitnessClaimed_1 := ⟨start1.p0, start1.e0, start1.about1, start1.theMethod, start1.args0, start1.below0, start1.atStart⟩
end Jvm.Pilot.@@N@@
