import JvmDerived
import JvmDerived.Pilot.@@N@@Statement
import JvmDerived.Pilot.@@N@@Code
set_option linter.unusedVariables false
set_option linter.unusedSimpArgs false
namespace Jvm.RoadKit
open Sem ClassFile Op Lib Jvm.Stand Jvm.Free Jvm.LawKit
section New
variable {p : Program} {l : Launch} {e : Env} {R : Room} {s : State} {m : MethodId} {args : Array Value} {below : List Frame} {meth : Method} {c : Code} {T : State} {locs : List Loc} {cells slots : Nat}
theorem retI (X : Stand p l e R s m args below meth c T locs cells slots) (hx : p.tables.exec = Jvm.exec) {pc : Nat} {Ls : Array Slot} {z : Int32} {rest : List Value} (hret : meth.sig.returnType = some .int) (hd : decode c.code pc = .ok (.ireturn, 1)) {fs : List Frame}
    (hl : ∀ (f : JFrame) (acts : List Action), f.method = m → f.locked = none → f.entered = [] → (doReturn e (T.setTop f) acts (some (.int z))).1 = T.setFrames fs) : Steps p.tables e below (T.setTop (mkF m pc Ls (.int z :: rest))) (T.setFrames fs) := by
  have hm' : T.vm.method? m = some meth := X.method'
  have hn : narrow .int (.int z) = .int z := rfl
  show Steps p.tables e below (T.setTop { method := m, pc := pc, locals := Ls, stack := _ :: rest, locked := none }) _
  jvm_step X.here [X.here.top, hx, hd, hm', hret, hn]
  first | (intro acts; rw [hl _ acts rfl rfl rfl]) | rw [hl _ _ rfl rfl rfl]
  exact Steps.refl _
end New
end Jvm.RoadKit
namespace Jvm.Pilot.@@N@@
open Jvm Jvm.ClassFile Sem Op Lib Jvm.Free Jvm.Stand Jvm.LawKit Jvm.RoadKit Bundle Jvm.Pilot.@@N@@.Jvm.D
theorem d1_0 : decode jdk_29_method_66_code 0 = .ok (.lload_n 0, 1) := by decide +kernel
theorem d1_1 : decode jdk_29_method_66_code 1 = .ok (.lload_n 2, 1) := by decide +kernel
theorem d1_2 : decode jdk_29_method_66_code 2 = .ok (.lcmp, 1) := by decide +kernel
theorem d1_3 : decode jdk_29_method_66_code 3 = .ok (.ifCond .lt 7, 3) := by decide +kernel
theorem d1_10 : decode jdk_29_method_66_code 10 = .ok (.lload_n 2, 1) := by decide +kernel
theorem d1_11 : decode jdk_29_method_66_code 11 = .ok (.lreturn, 1) := by decide +kernel
theorem d1_6 : decode jdk_29_method_66_code 6 = .ok (.lload_n 0, 1) := by decide +kernel
theorem d1_7 : decode jdk_29_method_66_code 7 = .ok (.goto 4, 3) := by decide +kernel
theorem ef_1 (m : MethodId) (q1 : Int64) (q2 : Int64) : entryFrame m #[(.long q1), (.long q2)] 4 = mkF m 0 #[.val (.long q1), .second, .val (.long q2), .second] [] := by first | (simp [entryFrame, mkF, argsToLocals, Value.category]; done) | rfl
def Q1 (Z : State) (q1 : Int64) (q2 : Int64) (h0 : Heap) (n0 : Nat) (v : Option Value) (h : Heap) (L : List Loc) : Prop := ∃ (r : Int64), v = some (.long r) ∧ Fr n0 L ∧ ((q1 < q2 ∧ r = q2) ∨ (¬ (q1 < q2) ∧ r = q1)) ∧ h = h0
set_option maxRecDepth 65536 in
set_option maxHeartbeats 40000000 in
theorem rm1 (l : Launch) (Z : State) (a0 : Array Value) (hw : ∀ d ∈ tables_1, d.before a0 Z = true) (ws : List Jvm.Cond) (q1 : Int64) (q2 : Int64) (h0 : Heap) (n0 : Nat) (Z0 : n0 ≤ h0.size)  :
    MetFree l (⟨"java/lang/Math", "max", "(JJ)J"⟩ : MethodName) (head1 (Jvm.Cond.code (⟨"java/lang/Math", "max", "(JJ)J"⟩ : MethodName) jdk_29_method_66_code 4 (some .long) :: ws) ({ frames := 0, cells := 0, slots := 0, locals := 0 } : Room)) (fun a U => a = #[(.long q1), (.long q2)] ∧ Z.Warmed39 U.vm ∧ U.heap = h0) (fun _ _ _ _ _ => True) (fun _ U o U' => ∃ v L, o = .returned v ∧ Q1 Z q1 q2 h0 n0 v U'.heap L ∧ FrameEnd U o U' L ({ frames := 0, cells := 0, slots := 0, locals := 0 } : Room).cells ({ frames := 0, cells := 0, slots := 0, locals := 0 } : Room).slots) := by
  refine MetFree.of_bodySF (Jvm.Free.JP.mathPlain rfl (by decide +kernel)) hisR ?_
  intro p e s m args below meth c s₁ Bd hml0 hP hK
  obtain ⟨rfl, hZ, hh⟩ := hP
  have hx := Bd.exec
  have hby := Bd.bytes
  have hml : c.maxLocals = 4 := hml0
  have hown : s.vm.findClass "java/lang/Math" = some m.cls := findClass_of_methodNamed Bd.named
  have hnm := (name_of_methodNamed Bd.named Bd.method).1
  have X0 : Stand p l e ({ frames := 0, cells := 0, slots := 0, locals := 0 } : Room) s m #[(.long q1), (.long q2)] below meth c s₁ [] 0 0 := Stand.of_body Bd
  have e0 : s₁.heap = h0 := by rw [← hh, Bd.state]; rfl
  have N0 := Fr.nil n0
  have pre0 : ∀ t, Steps p.tables e below (s₁.setTop (mkF m 0 #[.val (.long q1), .second, .val (.long q2), .second] [])) t → Steps p.tables e below (s₁.setTop (entryFrame m #[(.long q1), (.long q2)] 4)) t := fun t k => castTop (ef_1 m q1 q2) k
  have P1 : ∀ t, Steps p.tables e below (s₁.setTop (mkF m 3 #[.val (.long q1), .second, .val (.long q2), .second] [(.int (lcmpW q1 q2))])) t → Steps p.tables e below (s₁.setTop (entryFrame m #[(.long q1), (.long q2)] 4)) t := by
    intro t k
    refine pre0 t ?_
    show Steps p.tables e below (s₁.setTop (mkF m 0 #[.val (.long q1), .second, .val (.long q2), .second] [])) _
    refine XS.lloadN X0.here hx rfl (hb hby d1_0) rfl ?_
    show Steps p.tables e below (s₁.setTop (mkF m 1 #[.val (.long q1), .second, .val (.long q2), .second] [(.long q1)])) _
    refine XS.lloadN X0.here hx rfl (hb hby d1_1) rfl ?_
    show Steps p.tables e below (s₁.setTop (mkF m 2 #[.val (.long q1), .second, .val (.long q2), .second] [(.long q2), (.long q1)])) _
    refine XS.lcmp X0.here hx rfl (hb hby d1_2) rfl ?_
    exact k
  by_cases h1 : (lcmpW q1 q2) < (0 : Int32)
  · obtain ⟨fs, hr, hrun, hended, hW, hsame⟩ := X0.leave (v := some (.long q2)) (fun h => by rw [Bd.returns] at h; cases h)
    refine ⟨_, _, P1 _ ?_, hrun, hended, _, _, rfl, ?_, ⟨_, rfl⟩, hW, hsame.mono (by decide) (by decide)⟩
    · show Steps p.tables e below (s₁.setTop (mkF m 3 #[.val (.long q1), .second, .val (.long q2), .second] [(.int (lcmpW q1 q2))])) _
      refine XS.ifYes X0.here hx rfl (pc0 := 3) (pc' := 10) rfl (hb hby d1_3) rfl ((if0 _ _).trans (tlt h1).1) (by decide) (by decide) ?_
      show Steps p.tables e below (s₁.setTop (mkF m 10 #[.val (.long q1), .second, .val (.long q2), .second] [])) _
      refine XS.lloadN X0.here hx rfl (hb hby d1_10) rfl ?_
      show Steps p.tables e below (s₁.setTop (mkF m 11 #[.val (.long q1), .second, .val (.long q2), .second] [(.long q2)])) _
      jvm_step X0.here [X0.here.top, hx, (hb hby d1_11), X0.method', Bd.returns, narrow]
      first | (intro acts; rw [hr _ acts rfl rfl rfl]) | rw [hr _ _ rfl rfl rfl]
      exact Steps.refl _
    · show Q1 Z q1 q2 h0 n0 _ s₁.heap _
      rw [e0]
      exact ⟨q2, rfl, N0, Or.inl ⟨(lw_lt _ _).mp h1, rfl⟩, rfl⟩
  · obtain ⟨fs, hr, hrun, hended, hW, hsame⟩ := X0.leave (v := some (.long q1)) (fun h => by rw [Bd.returns] at h; cases h)
    refine ⟨_, _, P1 _ ?_, hrun, hended, _, _, rfl, ?_, ⟨_, rfl⟩, hW, hsame.mono (by decide) (by decide)⟩
    · show Steps p.tables e below (s₁.setTop (mkF m 3 #[.val (.long q1), .second, .val (.long q2), .second] [(.int (lcmpW q1 q2))])) _
      refine XS.ifNo X0.here hx rfl (hb hby d1_3) rfl ((if0 _ _).trans (flt h1).1) ?_
      show Steps p.tables e below (s₁.setTop (mkF m 6 #[.val (.long q1), .second, .val (.long q2), .second] [])) _
      refine XS.lloadN X0.here hx rfl (hb hby d1_6) rfl ?_
      show Steps p.tables e below (s₁.setTop (mkF m 7 #[.val (.long q1), .second, .val (.long q2), .second] [(.long q1)])) _
      refine XS.goto X0.here hx rfl (pc0 := 7) (pc' := 11) rfl (hb hby d1_7) (by decide) (by decide) ?_
      show Steps p.tables e below (s₁.setTop (mkF m 11 #[.val (.long q1), .second, .val (.long q2), .second] [(.long q1)])) _
      jvm_step X0.here [X0.here.top, hx, (hb hby d1_11), X0.method', Bd.returns, narrow]
      first | (intro acts; rw [hr _ acts rfl rfl rfl]) | rw [hr _ _ rfl rfl rfl]
      exact Steps.refl _
    · show Q1 Z q1 q2 h0 n0 _ s₁.heap _
      rw [e0]
      exact ⟨q1, rfl, N0, Or.inr ⟨fun q => h1 ((lw_lt _ _).mpr q), rfl⟩, rfl⟩
theorem pn_0 : plainName "java/lang/Record" = true := by first | (simp [plainName, overriddenIn]; done) | decide +kernel
theorem d3_0 : decode jdk_30_method_1_code 0 = .ok (.aload_n 0, 1) := by decide +kernel
theorem d3_1 : decode jdk_30_method_1_code 1 = .ok (.invokespecial 1, 3) := by decide +kernel
theorem d3_4 : decode jdk_30_method_1_code 4 = .ok (.return_, 1) := by decide +kernel
theorem ef_3 (m : MethodId) (a1 : Addr) : entryFrame m #[(.ref a1)] 1 = mkF m 0 #[.val (.ref a1)] [] := by first | (simp [entryFrame, mkF, argsToLocals, Value.category]; done) | rfl
def Q3 (Z : State) (a1 : Addr) (h0 : Heap) (n0 : Nat) (v : Option Value) (h : Heap) (L : List Loc) : Prop := v = none ∧ Fr n0 L ∧ h = h0
set_option maxRecDepth 65536 in
set_option maxHeartbeats 40000000 in
theorem rm3 (l : Launch) (Z : State) (a0 : Array Value) (hw : ∀ d ∈ tables_1, d.before a0 Z = true) (ws : List Jvm.Cond) (a1 : Addr) (h0 : Heap) (n0 : Nat) (Z0 : n0 ≤ h0.size)  :
    MetFree l (⟨"java/lang/Record", "<init>", "()V"⟩ : MethodName) (head1 (Jvm.Cond.code (⟨"java/lang/Record", "<init>", "()V"⟩ : MethodName) jdk_30_method_1_code 1 none :: ws) ({ frames := 1, cells := 0, slots := 0, locals := 12 } : Room)) (fun a U => a = #[(.ref a1)] ∧ Z.Warmed39 U.vm ∧ U.heap = h0) (fun _ _ _ _ _ => True) (fun _ U o U' => ∃ v L, o = .returned v ∧ Q3 Z a1 h0 n0 v U'.heap L ∧ FrameEnd U o U' L ({ frames := 1, cells := 0, slots := 0, locals := 12 } : Room).cells ({ frames := 1, cells := 0, slots := 0, locals := 12 } : Room).slots) := by
  refine MetFree.of_bodySF (plainFor_of_name pn_0) hisR ?_
  intro p e s m args below meth c s₁ Bd hml0 hP hK
  obtain ⟨rfl, hZ, hh⟩ := hP
  have hx := Bd.exec
  have hby := Bd.bytes
  have hml : c.maxLocals = 1 := hml0
  have hown : s.vm.findClass "java/lang/Record" = some m.cls := findClass_of_methodNamed Bd.named
  have hnm := (name_of_methodNamed Bd.named Bd.method).1
  have X0 : Stand p l e ({ frames := 1, cells := 0, slots := 0, locals := 12 } : Room) s m #[(.ref a1)] below meth c s₁ [] 0 0 := Stand.of_body Bd
  have e0 : s₁.heap = h0 := by rw [← hh, Bd.state]; rfl
  have N0 := Fr.nil n0
  have pre0 : ∀ t, Steps p.tables e below (s₁.setTop (mkF m 0 #[.val (.ref a1)] [])) t → Steps p.tables e below (s₁.setTop (entryFrame m #[(.ref a1)] 1)) t := fun t k => castTop (ef_3 m a1) k
  obtain ⟨T1, X1, e1, st1⟩ := initO X0 hx hZ hown (hw _ (List.mem_of_getElem? (i := 16) rfl)) (hw _ (List.mem_of_getElem? (i := 17) rfl)) (hw _ (List.mem_of_getElem? (i := 18) rfl)) e0 (g := (mkF m 1 #[.val (.ref a1)] [(.ref a1)])) rfl (by rw [hml]; rfl) rfl (hb hby d3_1) (by decide) (W := 0) (by show 2 * 0 + _ ≤ _; exact Nat.le_of_eq rfl) (by decide)
  obtain ⟨fs, hr, hrun, hended, hW, hsame⟩ := X1.leave (v := none) (fun _ => rfl)
  refine ⟨_, _, pre0 _ ?_, hrun, hended, _, _, rfl, ?_, ⟨_, rfl⟩, hW, hsame.mono (by decide) (by decide)⟩
  · show Steps p.tables e below (s₁.setTop (mkF m 0 #[.val (.ref a1)] [])) _
    refine XS.aloadN X0.here hx rfl (hb hby d3_0) rfl rfl ?_
    show Steps p.tables e below (s₁.setTop (mkF m 1 #[.val (.ref a1)] [(.ref a1)])) _
    refine st1 _ ?_
    show Steps p.tables e below (T1.setTop (mkF m 4 #[.val (.ref a1)] [])) _
    exact X1.returnOut hx Bd.returns (hb hby d3_4) hr
  · show Q3 Z a1 h0 n0 _ T1.heap _
    rw [e1]
    exact ⟨rfl, N0, rfl⟩
theorem pn_1 : plainName "com/example/pricewright/pricewright/service/Page" = true := by first | (simp [plainName, overriddenIn]; done) | decide +kernel
theorem d2_0 : decode prog_179_method_1_code 0 = .ok (.aload_n 0, 1) := by decide +kernel
theorem d2_1 : decode prog_179_method_1_code 1 = .ok (.invokespecial 3, 3) := by decide +kernel
theorem pd_0 : parseMethodDescriptor "()V" = some ⟨[], none⟩ := by decide +kernel
theorem d2_4 : decode prog_179_method_1_code 4 = .ok (.aload_n 0, 1) := by decide +kernel
theorem d2_5 : decode prog_179_method_1_code 5 = .ok (.lload_n 1, 1) := by decide +kernel
theorem d2_6 : decode prog_179_method_1_code 6 = .ok (.putfield 9, 3) := by decide +kernel
theorem d2_9 : decode prog_179_method_1_code 9 = .ok (.aload_n 0, 1) := by decide +kernel
theorem d2_10 : decode prog_179_method_1_code 10 = .ok (.lload_n 3, 1) := by decide +kernel
theorem d2_11 : decode prog_179_method_1_code 11 = .ok (.putfield 15, 3) := by decide +kernel
theorem d2_14 : decode prog_179_method_1_code 14 = .ok (.return_, 1) := by decide +kernel
theorem ef_2 (m : MethodId) (a1 : Addr) (q1 : Int64) (q2 : Int64) : entryFrame m #[(.ref a1), (.long q1), (.long q2)] 5 = mkF m 0 #[.val (.ref a1), .val (.long q1), .second, .val (.long q2), .second] [] := by first | (simp [entryFrame, mkF, argsToLocals, Value.category]; done) | rfl
def Q2 (Z : State) (a1 : Addr) (q1 : Int64) (q2 : Int64) (h0 : Heap) (n0 : Nat) (v : Option Value) (h : Heap) (L : List Loc) : Prop := v = none ∧ Fr n0 L ∧ Keep h0 h [a1] ∧ Exa Z h a1 "com/example/pricewright/pricewright/service/Page" ∧ Fld Z h a1 "com/example/pricewright/pricewright/service/Page" "number" "J" (.long q1) ∧ Fld Z h a1 "com/example/pricewright/pricewright/service/Page" "size" "J" (.long q2)
set_option maxRecDepth 65536 in
set_option maxHeartbeats 40000000 in
theorem rm2 (l : Launch) (Z : State) (a0 : Array Value) (hw : ∀ d ∈ tables_1, d.before a0 Z = true) (ws : List Jvm.Cond) (a1 : Addr) (q1 : Int64) (q2 : Int64) (h0 : Heap) (n0 : Nat) (Z0 : n0 ≤ h0.size) (HF0 : Fld Z h0 a1 "com/example/pricewright/pricewright/service/Page" "number" "J" (.long (0 : Int64))) (HF1 : Fld Z h0 a1 "com/example/pricewright/pricewright/service/Page" "size" "J" (.long (0 : Int64))) (HE2 : Exa Z h0 a1 "com/example/pricewright/pricewright/service/Page") (Hg3 : n0 ≤ a1) :
    MetFree l (⟨"com/example/pricewright/pricewright/service/Page", "<init>", "(JJ)V"⟩ : MethodName) (head1 (Jvm.Cond.code (⟨"com/example/pricewright/pricewright/service/Page", "<init>", "(JJ)V"⟩ : MethodName) prog_179_method_1_code 5 none :: ws) ({ frames := 2, cells := 0, slots := 0, locals := 24 } : Room)) (fun a U => a = #[(.ref a1), (.long q1), (.long q2)] ∧ Z.Warmed39 U.vm ∧ U.heap = h0) (fun _ _ _ _ _ => True) (fun _ U o U' => ∃ v L, o = .returned v ∧ Q2 Z a1 q1 q2 h0 n0 v U'.heap L ∧ FrameEnd U o U' L ({ frames := 2, cells := 0, slots := 0, locals := 24 } : Room).cells ({ frames := 2, cells := 0, slots := 0, locals := 24 } : Room).slots) := by
  refine MetFree.of_bodySF (plainFor_of_name pn_1) hisR ?_
  intro p e s m args below meth c s₁ Bd hml0 hP hK
  obtain ⟨rfl, hZ, hh⟩ := hP
  have hx := Bd.exec
  have hby := Bd.bytes
  have hml : c.maxLocals = 5 := hml0
  have hown : s.vm.findClass "com/example/pricewright/pricewright/service/Page" = some m.cls := findClass_of_methodNamed Bd.named
  have hnm := (name_of_methodNamed Bd.named Bd.method).1
  have X0 : Stand p l e ({ frames := 2, cells := 0, slots := 0, locals := 24 } : Room) s m #[(.ref a1), (.long q1), (.long q2)] below meth c s₁ [] 0 0 := Stand.of_body Bd
  have e0 : s₁.heap = h0 := by rw [← hh, Bd.state]; rfl
  have N0 := Fr.nil n0
  have pre0 : ∀ t, Steps p.tables e below (s₁.setTop (mkF m 0 #[.val (.ref a1), .val (.long q1), .second, .val (.long q2), .second] [])) t → Steps p.tables e below (s₁.setTop (entryFrame m #[(.ref a1), (.long q1), (.long q2)] 5)) t := fun t k => castTop (ef_2 m a1 q1 q2) k
  obtain ⟨_, _, ⟨T1, L1, k1, n1⟩, -, X1, ⟨Lc1, hQ1, l1, y1, z1⟩, st1⟩ := X0.specialBack hx (y := (⟨"java/lang/Record", "<init>", "()V"⟩ : MethodName)) rfl hown (mvT hZ (hw _ (List.mem_of_getElem? (i := 11) rfl))) (mvT hZ (hw _ (List.mem_of_getElem? (i := 12) rfl))) (mvT hZ (hw _ (List.mem_of_getElem? (i := 15) rfl))) (by decide) (backOf (W := 0) (rm3 l Z a0 hw [] a1 h0 n0 Z0 ) hZ (hw _ (List.mem_of_getElem? (i := 15) rfl)) (hw _ (List.mem_of_getElem? (i := 14) rfl)) (by decide) (by decide)) (g := (mkF m 1 #[.val (.ref a1), .val (.long q1), .second, .val (.long q2), .second] [(.ref a1)])) rfl (by rw [hml]; rfl) (Steps.refl _) (a := a1) (argsL := []) (rest := []) (lenOf pd_0 rfl) rfl (by show 2 * 0 + _ ≤ _; exact Nat.le_of_eq rfl) (hb hby d2_1) (fun _ _ => ⟨rfl, e0, (by decide : 0 + 0 ≤ _), (by decide : 0 + 0 ≤ _)⟩)
  dsimp only [Pt.U, Pt.locs, Pt.cells, Pt.slots] at X1 l1 y1 z1 st1 hQ1
  subst l1 y1 z1
  obtain ⟨rfl, N1q, R2⟩ := hQ1
  have N1 := Fr.app N0 N1q
  obtain ⟨T3, h3, X3, e3, W3, st3⟩ := putF X1 hx hZ hown (host := "") (Or.inl (hw _ (List.mem_of_getElem? (i := 19) rfl))) Via.refl R2 HF0 HE2 (Or.inr ⟨(hw _ (List.mem_of_getElem? (i := 20) rfl)), rfl, hnm⟩) (hw _ (List.mem_of_getElem? (i := 6) rfl)) (ty := .long) (by decide) rfl rfl (g := (mkF m 6 #[.val (.ref a1), .val (.long q1), .second, .val (.long q2), .second] [(.long q1), (.ref a1)])) rfl rfl (hb hby d2_6)
  have Fw3 : Fld Z h3 a1 "com/example/pricewright/pricewright/service/Page" "number" "J" (.long q1) := HF0.same W3
  have F4 : Fld Z h3 a1 "com/example/pricewright/pricewright/service/Page" "size" "J" (.long (0 : Int64)) := HF1.other W3 (Or.inr (slot_ne (Or.inr (hw _ (List.mem_of_getElem? (i := 22) rfl))) (Or.inr (hw _ (List.mem_of_getElem? (i := 20) rfl))) (by decide) (t := .long) (t' := .long) (by decide) (by decide)))
  have F5 : Exa Z h3 a1 "com/example/pricewright/pricewright/service/Page" := HE2.wr W3
  have Z6 : n0 ≤ h3.size := Nat.le_trans Z0 (Keep.of_wr W3).1
  have K7 : Keep h0 h3 [a1] := (Keep.refl h0 [a1]).wr W3 (Or.inl (List.mem_of_getElem? (i := 0) rfl))
  have N8 := Fr.snoc X3 N1 Hg3
  obtain ⟨T9, h9, X9, e9, W9, st9⟩ := putF X3 hx hZ hown (host := "") (Or.inl (hw _ (List.mem_of_getElem? (i := 21) rfl))) Via.refl e3 F4 F5 (Or.inr ⟨(hw _ (List.mem_of_getElem? (i := 22) rfl)), rfl, hnm⟩) (hw _ (List.mem_of_getElem? (i := 6) rfl)) (ty := .long) (by decide) rfl rfl (g := (mkF m 11 #[.val (.ref a1), .val (.long q1), .second, .val (.long q2), .second] [(.long q2), (.ref a1)])) rfl rfl (hb hby d2_11)
  have Fw9 : Fld Z h9 a1 "com/example/pricewright/pricewright/service/Page" "size" "J" (.long q2) := F4.same W9
  have F10 : Exa Z h9 a1 "com/example/pricewright/pricewright/service/Page" := F5.wr W9
  have F11 : Fld Z h9 a1 "com/example/pricewright/pricewright/service/Page" "number" "J" (.long q1) := Fw3.other W9 (Or.inr (slot_ne (Or.inr (hw _ (List.mem_of_getElem? (i := 20) rfl))) (Or.inr (hw _ (List.mem_of_getElem? (i := 22) rfl))) (by decide) (t := .long) (t' := .long) (by decide) (by decide)))
  have Z12 : n0 ≤ h9.size := Nat.le_trans Z6 (Keep.of_wr W9).1
  have K13 : Keep h0 h9 [a1] := K7.wr W9 (Or.inl (List.mem_of_getElem? (i := 0) rfl))
  have N14 := Fr.snoc X9 N8 Hg3
  obtain ⟨fs, hr, hrun, hended, hW, hsame⟩ := X9.leave (v := none) (fun _ => rfl)
  refine ⟨_, _, pre0 _ ?_, hrun, hended, _, _, rfl, ?_, ⟨_, rfl⟩, hW, hsame.mono (by decide) (by decide)⟩
  · show Steps p.tables e below (s₁.setTop (mkF m 0 #[.val (.ref a1), .val (.long q1), .second, .val (.long q2), .second] [])) _
    refine XS.aloadN X0.here hx rfl (hb hby d2_0) rfl rfl ?_
    show Steps p.tables e below (s₁.setTop (mkF m 1 #[.val (.ref a1), .val (.long q1), .second, .val (.long q2), .second] [(.ref a1)])) _
    refine st1.trans ?_
    show Steps p.tables e below (T1.setTop (mkF m 4 #[.val (.ref a1), .val (.long q1), .second, .val (.long q2), .second] [])) _
    refine XS.aloadN X1.here hx rfl (hb hby d2_4) rfl rfl ?_
    show Steps p.tables e below (T1.setTop (mkF m 5 #[.val (.ref a1), .val (.long q1), .second, .val (.long q2), .second] [(.ref a1)])) _
    refine XS.lloadN X1.here hx rfl (hb hby d2_5) rfl ?_
    show Steps p.tables e below (T1.setTop (mkF m 6 #[.val (.ref a1), .val (.long q1), .second, .val (.long q2), .second] [(.long q1), (.ref a1)])) _
    refine st3 _ ?_
    show Steps p.tables e below (T3.setTop (mkF m 9 #[.val (.ref a1), .val (.long q1), .second, .val (.long q2), .second] [])) _
    refine XS.aloadN X3.here hx rfl (hb hby d2_9) rfl rfl ?_
    show Steps p.tables e below (T3.setTop (mkF m 10 #[.val (.ref a1), .val (.long q1), .second, .val (.long q2), .second] [(.ref a1)])) _
    refine XS.lloadN X3.here hx rfl (hb hby d2_10) rfl ?_
    show Steps p.tables e below (T3.setTop (mkF m 11 #[.val (.ref a1), .val (.long q1), .second, .val (.long q2), .second] [(.long q2), (.ref a1)])) _
    refine st9 _ ?_
    show Steps p.tables e below (T9.setTop (mkF m 14 #[.val (.ref a1), .val (.long q1), .second, .val (.long q2), .second] [])) _
    exact X9.returnOut hx Bd.returns (hb hby d2_14) hr
  · show Q2 Z a1 q1 q2 h0 n0 _ T9.heap _
    rw [e9]
    exact ⟨rfl, N14, K13, F10, F11, Fw9⟩
theorem d5_0 : decode prog_179_method_4_code 0 = .ok (.lload_n 1, 1) := by decide +kernel
theorem d5_1 : decode prog_179_method_4_code 1 = .ok (.lconst 0, 1) := by decide +kernel
theorem d5_2 : decode prog_179_method_4_code 2 = .ok (.lcmp, 1) := by decide +kernel
theorem d5_3 : decode prog_179_method_4_code 3 = .ok (.ifCond .ne 7, 3) := by decide +kernel
theorem d5_6 : decode prog_179_method_4_code 6 = .ok (.lconst 0, 1) := by decide +kernel
theorem d5_7 : decode prog_179_method_4_code 7 = .ok (.goto 13, 3) := by decide +kernel
theorem d5_20 : decode prog_179_method_4_code 20 = .ok (.lreturn, 1) := by decide +kernel
theorem d5_10 : decode prog_179_method_4_code 10 = .ok (.lload_n 1, 1) := by decide +kernel
theorem d5_11 : decode prog_179_method_4_code 11 = .ok (.lconst 1, 1) := by decide +kernel
theorem d5_12 : decode prog_179_method_4_code 12 = .ok (.lsub, 1) := by decide +kernel
theorem d5_13 : decode prog_179_method_4_code 13 = .ok (.aload_n 0, 1) := by decide +kernel
theorem d5_14 : decode prog_179_method_4_code 14 = .ok (.getfield 15, 3) := by decide +kernel
theorem d5_17 : decode prog_179_method_4_code 17 = .ok (.ldiv, 1) := by decide +kernel
theorem d5_18 : decode prog_179_method_4_code 18 = .ok (.lconst 1, 1) := by decide +kernel
theorem d5_19 : decode prog_179_method_4_code 19 = .ok (.ladd, 1) := by decide +kernel
theorem ef_5 (m : MethodId) (a1 : Addr) (q1 : Int64) : entryFrame m #[(.ref a1), (.long q1)] 3 = mkF m 0 #[.val (.ref a1), .val (.long q1), .second] [] := by first | (simp [entryFrame, mkF, argsToLocals, Value.category]; done) | rfl
def Q5 (Z : State) (a1 : Addr) (q1 : Int64) (q2 : Int64) (h0 : Heap) (n0 : Nat) (v : Option Value) (h : Heap) (L : List Loc) : Prop := ∃ (r : Int64), v = some (.long r) ∧ Fr n0 L ∧ ((q1 = (0 : Int64) ∧ r = (0 : Int64)) ∨ (¬ q1 = (0 : Int64) ∧ r = (q1 - (1 : Int64)) / q2 + (1 : Int64))) ∧ h = h0
set_option maxRecDepth 65536 in
set_option maxHeartbeats 40000000 in
theorem rm5 (l : Launch) (Z : State) (a0 : Array Value) (hw : ∀ d ∈ tables_1, d.before a0 Z = true) (ws : List Jvm.Cond) (a1 : Addr) (q1 : Int64) (q2 : Int64) (h0 : Heap) (n0 : Nat) (Z0 : n0 ≤ h0.size) (HF0 : Fld Z h0 a1 "com/example/pricewright/pricewright/service/Page" "size" "J" (.long q2)) (hnz : (q2 ≠ (0 : Int64))) :
    MetFree l (⟨"com/example/pricewright/pricewright/service/Page", "count", "(J)J"⟩ : MethodName) (head1 (Jvm.Cond.code (⟨"com/example/pricewright/pricewright/service/Page", "count", "(J)J"⟩ : MethodName) prog_179_method_4_code 3 (some .long) :: ws) ({ frames := 0, cells := 0, slots := 0, locals := 0 } : Room)) (fun a U => a = #[(.ref a1), (.long q1)] ∧ Z.Warmed39 U.vm ∧ U.heap = h0) (fun _ _ _ _ _ => True) (fun _ U o U' => ∃ v L, o = .returned v ∧ Q5 Z a1 q1 q2 h0 n0 v U'.heap L ∧ FrameEnd U o U' L ({ frames := 0, cells := 0, slots := 0, locals := 0 } : Room).cells ({ frames := 0, cells := 0, slots := 0, locals := 0 } : Room).slots) := by
  refine MetFree.of_bodySF (plainFor_of_name pn_1) hisR ?_
  intro p e s m args below meth c s₁ Bd hml0 hP hK
  obtain ⟨rfl, hZ, hh⟩ := hP
  have hx := Bd.exec
  have hby := Bd.bytes
  have hml : c.maxLocals = 3 := hml0
  have hown : s.vm.findClass "com/example/pricewright/pricewright/service/Page" = some m.cls := findClass_of_methodNamed Bd.named
  have hnm := (name_of_methodNamed Bd.named Bd.method).1
  have X0 : Stand p l e ({ frames := 0, cells := 0, slots := 0, locals := 0 } : Room) s m #[(.ref a1), (.long q1)] below meth c s₁ [] 0 0 := Stand.of_body Bd
  have e0 : s₁.heap = h0 := by rw [← hh, Bd.state]; rfl
  have N0 := Fr.nil n0
  have pre0 : ∀ t, Steps p.tables e below (s₁.setTop (mkF m 0 #[.val (.ref a1), .val (.long q1), .second] [])) t → Steps p.tables e below (s₁.setTop (entryFrame m #[(.ref a1), (.long q1)] 3)) t := fun t k => castTop (ef_5 m a1 q1) k
  have P1 : ∀ t, Steps p.tables e below (s₁.setTop (mkF m 3 #[.val (.ref a1), .val (.long q1), .second] [(.int (lcmpW q1 (0 : Int64)))])) t → Steps p.tables e below (s₁.setTop (entryFrame m #[(.ref a1), (.long q1)] 3)) t := by
    intro t k
    refine pre0 t ?_
    show Steps p.tables e below (s₁.setTop (mkF m 0 #[.val (.ref a1), .val (.long q1), .second] [])) _
    refine XS.lloadN X0.here hx rfl (hb hby d5_0) rfl ?_
    show Steps p.tables e below (s₁.setTop (mkF m 1 #[.val (.ref a1), .val (.long q1), .second] [(.long q1)])) _
    refine XS.lconst X0.here hx rfl (hb hby d5_1) ?_
    show Steps p.tables e below (s₁.setTop (mkF m 2 #[.val (.ref a1), .val (.long q1), .second] [(.long (0 : Int64)), (.long q1)])) _
    refine XS.lcmp X0.here hx rfl (hb hby d5_2) rfl ?_
    exact k
  by_cases h1 : (lcmpW q1 (0 : Int64)) = (0 : Int32)
  · obtain ⟨fs, hr, hrun, hended, hW, hsame⟩ := X0.leave (v := some (.long (0 : Int64))) (fun h => by rw [Bd.returns] at h; cases h)
    refine ⟨_, _, P1 _ ?_, hrun, hended, _, _, rfl, ?_, ⟨_, rfl⟩, hW, hsame.mono (by decide) (by decide)⟩
    · show Steps p.tables e below (s₁.setTop (mkF m 3 #[.val (.ref a1), .val (.long q1), .second] [(.int (lcmpW q1 (0 : Int64)))])) _
      refine XS.ifNo X0.here hx rfl (hb hby d5_3) rfl ((if0 _ _).trans (teq h1).2) ?_
      show Steps p.tables e below (s₁.setTop (mkF m 6 #[.val (.ref a1), .val (.long q1), .second] [])) _
      refine XS.lconst X0.here hx rfl (hb hby d5_6) ?_
      show Steps p.tables e below (s₁.setTop (mkF m 7 #[.val (.ref a1), .val (.long q1), .second] [(.long (0 : Int64))])) _
      refine XS.goto X0.here hx rfl (pc0 := 7) (pc' := 20) rfl (hb hby d5_7) (by decide) (by decide) ?_
      show Steps p.tables e below (s₁.setTop (mkF m 20 #[.val (.ref a1), .val (.long q1), .second] [(.long (0 : Int64))])) _
      jvm_step X0.here [X0.here.top, hx, (hb hby d5_20), X0.method', Bd.returns, narrow]
      first | (intro acts; rw [hr _ acts rfl rfl rfl]) | rw [hr _ _ rfl rfl rfl]
      exact Steps.refl _
    · show Q5 Z a1 q1 q2 h0 n0 _ s₁.heap _
      rw [e0]
      exact ⟨(0 : Int64), rfl, N0, Or.inl ⟨(lw_eq _ _).mp h1, rfl⟩, rfl⟩
  · obtain ⟨T2, X2, e2, st2⟩ := getF X0 hx hZ hown (host := "") (Or.inl (hw _ (List.mem_of_getElem? (i := 21) rfl))) Via.refl e0 HF0 (g := (mkF m 14 #[.val (.ref a1), .val (.long q1), .second] [(.ref a1), (.long (q1 - (1 : Int64)))])) rfl rfl (hb hby d5_14)
    obtain ⟨fs, hr, hrun, hended, hW, hsame⟩ := X2.leave (v := some (.long ((q1 - (1 : Int64)) / q2 + (1 : Int64)))) (fun h => by rw [Bd.returns] at h; cases h)
    refine ⟨_, _, P1 _ ?_, hrun, hended, _, _, rfl, ?_, ⟨_, rfl⟩, hW, hsame.mono (by decide) (by decide)⟩
    · show Steps p.tables e below (s₁.setTop (mkF m 3 #[.val (.ref a1), .val (.long q1), .second] [(.int (lcmpW q1 (0 : Int64)))])) _
      refine XS.ifYes X0.here hx rfl (pc0 := 3) (pc' := 10) rfl (hb hby d5_3) rfl ((if0 _ _).trans (feq h1).2) (by decide) (by decide) ?_
      show Steps p.tables e below (s₁.setTop (mkF m 10 #[.val (.ref a1), .val (.long q1), .second] [])) _
      refine XS.lloadN X0.here hx rfl (hb hby d5_10) rfl ?_
      show Steps p.tables e below (s₁.setTop (mkF m 11 #[.val (.ref a1), .val (.long q1), .second] [(.long q1)])) _
      refine XS.lconst X0.here hx rfl (hb hby d5_11) ?_
      show Steps p.tables e below (s₁.setTop (mkF m 12 #[.val (.ref a1), .val (.long q1), .second] [(.long (1 : Int64)), (.long q1)])) _
      refine XS.lsub X0.here hx rfl (hb hby d5_12) rfl ?_
      show Steps p.tables e below (s₁.setTop (mkF m 13 #[.val (.ref a1), .val (.long q1), .second] [(.long (q1 - (1 : Int64)))])) _
      refine XS.aloadN X0.here hx rfl (hb hby d5_13) rfl rfl ?_
      show Steps p.tables e below (s₁.setTop (mkF m 14 #[.val (.ref a1), .val (.long q1), .second] [(.ref a1), (.long (q1 - (1 : Int64)))])) _
      refine st2 _ ?_
      show Steps p.tables e below (T2.setTop (mkF m 17 #[.val (.ref a1), .val (.long q1), .second] [(.long q2), (.long (q1 - (1 : Int64)))])) _
      refine XS.ldiv X2.here hx rfl (hb hby d5_17) rfl hnz ?_
      show Steps p.tables e below (T2.setTop (mkF m 18 #[.val (.ref a1), .val (.long q1), .second] [(.long ((q1 - (1 : Int64)) / q2))])) _
      refine XS.lconst X2.here hx rfl (hb hby d5_18) ?_
      show Steps p.tables e below (T2.setTop (mkF m 19 #[.val (.ref a1), .val (.long q1), .second] [(.long (1 : Int64)), (.long ((q1 - (1 : Int64)) / q2))])) _
      refine XS.ladd X2.here hx rfl (hb hby d5_19) rfl ?_
      show Steps p.tables e below (T2.setTop (mkF m 20 #[.val (.ref a1), .val (.long q1), .second] [(.long (((q1 - (1 : Int64)) / q2) + (1 : Int64)))])) _
      jvm_step X2.here [X2.here.top, hx, (hb hby d5_20), X2.method', Bd.returns, narrow]
      first | (intro acts; rw [hr _ acts rfl rfl rfl]) | rw [hr _ _ rfl rfl rfl]
      exact Steps.refl _
    · show Q5 Z a1 q1 q2 h0 n0 _ T2.heap _
      rw [e2]
      exact ⟨((q1 - (1 : Int64)) / q2 + (1 : Int64)), rfl, N0, Or.inr ⟨fun q => h1 ((lw_eq _ _).mpr q), rfl⟩, rfl⟩
theorem own_div1 (R S : Int) (hR : 1 ≤ R) (hS : 1 ≤ S) : (R - 1) / S + 1 = if R % S = 0 then R / S else R / S + 1 := by
  have h1 := Int.mul_ediv_add_emod R S
  have h2 := Int.emod_nonneg R (show S ≠ 0 by omega)
  have h3 := Int.emod_lt_of_pos R (show 0 < S by omega)
  generalize R / S = q at *
  generalize R % S = r at *
  split
  · rename_i h
    have e : R - 1 = S * (q - 1) + (S - 1) := by rw [Int.mul_sub]; omega
    rw [e, Int.mul_add_ediv_left _ _ (show S ≠ 0 by omega), Int.ediv_eq_zero_of_lt (by omega) (by omega)]; omega
  · rename_i h
    have e : R - 1 = S * q + (r - 1) := by omega
    rw [e, Int.mul_add_ediv_left _ _ (show S ≠ 0 by omega), Int.ediv_eq_zero_of_lt (by omega) (by omega)]; omega
theorem own_div2 (R S : Int) (hR : 0 ≤ R) (hS : 1 ≤ S) : 0 ≤ R / S ∧ R / S ≤ R := ⟨Int.ediv_nonneg hR (by omega), Int.ediv_le_self _ hR⟩
theorem own_ldiv (x y : Int64) (hx : 0 ≤ x.toInt) (hy : 1 ≤ y.toInt) : (x / y).toInt = x.toInt / y.toInt := by
  rw [Int64.toInt_div_of_ne_right x y (by rintro rfl; revert hy; decide)]
  exact Int.tdiv_eq_ediv_of_nonneg hx
theorem own_lmod (x y : Int64) (hx : 0 ≤ x.toInt) (hy : 1 ≤ y.toInt) : (x % y).toInt = x.toInt % y.toInt := by
  rw [Int64.toInt_mod]
  exact Int.tmod_eq_emod_of_nonneg hx
theorem own_ladd (x y : Int64) (h1 : -9223372036854775808 ≤ x.toInt + y.toInt) (h2 : x.toInt + y.toInt < 9223372036854775808) : (x + y).toInt = x.toInt + y.toInt := by
  rw [Int64.toInt_add]
  apply Int.bmod_eq_of_le <;> omega
theorem own_lsub (x y : Int64) (h1 : -9223372036854775808 ≤ x.toInt - y.toInt) (h2 : x.toInt - y.toInt < 9223372036854775808) : (x - y).toInt = x.toInt - y.toInt := by
  rw [Int64.toInt_sub]
  apply Int.bmod_eq_of_le <;> omega
theorem own_cnt (R S c ev : Int64) (hR : 0 ≤ R.toInt) (hS : 1 ≤ S.toInt) (hc : (R = (0 : Int64) ∧ c = (0 : Int64)) ∨ (¬ R = (0 : Int64) ∧ c = (R - (1 : Int64)) / S + (1 : Int64))) (he : (R % S = (0 : Int64) ∧ ev = R / S) ∨ (¬ R % S = (0 : Int64) ∧ ev = R / S + (1 : Int64))) : c = ev ∧ ¬ c < (0 : Int64) ∧ ¬ R < c := by
  have e0 : (0 : Int64).toInt = 0 := rfl
  have e1 : (1 : Int64).toInt = 1 := rfl
  have hq := own_ldiv R S hR hS
  have hm := own_lmod R S hR hS
  have hRu := R.toInt_lt
  have hd2 := own_div2 R.toInt S.toInt hR hS
  rw [← Int64.toInt_inj, e0] at hc
  rw [← Int64.toInt_inj, hm, e0] at he
  rw [← Int64.toInt_inj, Int64.lt_iff_toInt_lt, Int64.lt_iff_toInt_lt, e0]
  rcases hc with ⟨hz, rfl⟩ | ⟨hz, rfl⟩
  · rw [hz] at he hq
    rw [Int.zero_emod, Int.zero_ediv] at *
    rcases he with ⟨-, rfl⟩ | ⟨h, -⟩
    · omega
    · exact absurd rfl h
  · have hs : (R - (1 : Int64)).toInt = R.toInt - 1 := by rw [own_lsub _ _ (by omega) (by omega), e1]
    have hq1 := own_ldiv (R - 1) S (by omega) hS
    rw [hs] at hq1
    have hd3 := own_div2 (R.toInt - 1) S.toInt (by omega) hS
    have ha : ((R - (1 : Int64)) / S + (1 : Int64)).toInt = (R.toInt - 1) / S.toInt + 1 := by rw [own_ladd _ _ (by omega) (by omega), hq1, e1]
    have hk := own_div1 R.toInt S.toInt (by omega) hS
    rw [ha, hk]
    rcases he with ⟨h, rfl⟩ | ⟨h, rfl⟩
    · rw [if_pos h] at *
      omega
    · rw [if_neg h] at *
      rw [own_ladd _ _ (by omega) (by omega), hq, e1]
      omega
theorem own_mask (a : Int64) : 0 ≤ (a &&& (9223372036854775807 : Int64)).toInt := by
  rw [c_maskL a 9223372036854775807 63 (by decide) (by decide)]; omega
theorem own_mask15 (a : Int64) : 1 ≤ ((a &&& (15 : Int64)) + (1 : Int64)).toInt := by
  have e := c_maskL a 15 4 (by decide) (by decide)
  have e1 : (1 : Int64).toInt = 1 := rfl
  rw [own_ladd _ _ (by omega) (by omega), e, e1]; omega
theorem own_mask255 (a : Int64) : 0 ≤ (a &&& (255 : Int64)).toInt := by
  rw [c_maskL a 255 8 (by decide) (by decide)]; omega
theorem own_max1 (m r : Int64) (h : ((1 : Int64) < m ∧ r = m) ∨ (¬ ((1 : Int64) < m) ∧ r = (1 : Int64))) : 1 ≤ r.toInt := by
  have e1 : (1 : Int64).toInt = 1 := rfl
  rw [Int64.lt_iff_toInt_lt, e1] at h
  rcases h with ⟨h, rfl⟩ | ⟨-, rfl⟩
  · omega
  · omega
theorem pn_2 : plainName "com/example/pricewright/pricewright/service/PageCountPinLaw" = true := by first | (simp [plainName, overriddenIn]; done) | decide +kernel
theorem pd_1 : parseMethodDescriptor "(JJ)J" = some ⟨[.long, .long], some .long⟩ := by decide +kernel
theorem pd_2 : parseMethodDescriptor "(JJ)V" = some ⟨[.long, .long], none⟩ := by decide +kernel
theorem pd_3 : parseMethodDescriptor "(J)J" = some ⟨[.long], some .long⟩ := by decide +kernel
theorem own_close_a (r22 : Int64) (bz : Int32) (rv : Int64) (ev : Int64) (bv : Int32) (hm29 : ((lcmpW r22 (0 : Int64)) < (0 : Int32) ∧ bz = (0 : Int32)) ∨ (¬ ((lcmpW r22 (0 : Int64)) < (0 : Int32)) ∧ (0 : Int32) < (lcmpW r22 rv) ∧ bz = (0 : Int32)) ∨ (¬ ((lcmpW r22 (0 : Int64)) < (0 : Int32)) ∧ ¬ ((0 : Int32) < (lcmpW r22 rv)) ∧ bz = (1 : Int32))) (hm32 : ((lcmpW r22 ev) = (0 : Int32) ∧ bz = (0 : Int32) ∧ bv = (0 : Int32)) ∨ ((lcmpW r22 ev) = (0 : Int32) ∧ ¬ (bz = (0 : Int32)) ∧ bv = (1 : Int32)) ∨ (¬ ((lcmpW r22 ev) = (0 : Int32)) ∧ bv = (0 : Int32))) (f1 : r22 = ev) (f2 : ¬ r22 < (0 : Int64)) (f3 : ¬ rv < r22) : bv = 1 := by
  simp only [lw_lt, lw_gt, lw_eq] at hm29 hm32
  have hz : bz = 1 := by
    rcases hm29 with ⟨h, -⟩ | ⟨-, h, -⟩ | ⟨-, -, h⟩
    · exact absurd h f2
    · exact absurd h f3
    · exact h
  rcases hm32 with ⟨-, h, -⟩ | ⟨-, -, h⟩ | ⟨h, -⟩
  · rw [hz] at h; exact absurd h (by decide)
  · exact h
  · exact absurd f1 h
theorem own_close_b (r50 : Int64) (bz : Int32) (rv : Int64) (ev : Int64) (bv : Int32) (hm57 : ((lcmpW r50 (0 : Int64)) < (0 : Int32) ∧ bz = (0 : Int32)) ∨ (¬ ((lcmpW r50 (0 : Int64)) < (0 : Int32)) ∧ (0 : Int32) < (lcmpW r50 rv) ∧ bz = (0 : Int32)) ∨ (¬ ((lcmpW r50 (0 : Int64)) < (0 : Int32)) ∧ ¬ ((0 : Int32) < (lcmpW r50 rv)) ∧ bz = (1 : Int32))) (hm60 : ((lcmpW r50 ev) = (0 : Int32) ∧ bz = (0 : Int32) ∧ bv = (0 : Int32)) ∨ ((lcmpW r50 ev) = (0 : Int32) ∧ ¬ (bz = (0 : Int32)) ∧ bv = (1 : Int32)) ∨ (¬ ((lcmpW r50 ev) = (0 : Int32)) ∧ bv = (0 : Int32))) (f1 : r50 = ev) (f2 : ¬ r50 < (0 : Int64)) (f3 : ¬ rv < r50) : bv = 1 := by
  simp only [lw_lt, lw_gt, lw_eq] at hm57 hm60
  have hz : bz = 1 := by
    rcases hm57 with ⟨h, -⟩ | ⟨-, h, -⟩ | ⟨-, -, h⟩
    · exact absurd h f2
    · exact absurd h f3
    · exact h
  rcases hm60 with ⟨-, h, -⟩ | ⟨-, -, h⟩ | ⟨h, -⟩
  · rw [hz] at h; exact absurd h (by decide)
  · exact h
  · exact absurd f1 h
theorem ef_0 (m : MethodId) (q0 : Int64) (q1 : Int64) (q2 : Int64) (p3 : Int32) : entryFrame m #[(.long q0), (.long q1), (.long q2), (.int p3)] maxLocals = mkF m 0 #[.val (.long q0), .second, .val (.long q1), .second, .val (.long q2), .second, .val (.int p3), .unset, .unset, .unset, .unset, .unset, .unset, .unset, .unset, .unset, .unset, .unset, .unset, .unset, .unset] [] := by first | (simp [entryFrame, mkF, argsToLocals, Value.category, maxLocals]; done) | rfl
def Q0 (Z : State) (q0 : Int64) (q1 : Int64) (q2 : Int64) (p3 : Int32) (h0 : Heap) (n0 : Nat) (v : Option Value) (h : Heap) (L : List Loc) : Prop := v = some (.int (1 : Int32)) ∧ Fr n0 L
set_option maxRecDepth 65536 in
set_option maxHeartbeats 40000000 in
theorem rm0 (l : Launch) (Z : State) (a0 : Array Value) (hw : ∀ d ∈ tables_1, d.before a0 Z = true) (ws : List Jvm.Cond) (q0 : Int64) (q1 : Int64) (q2 : Int64) (p3 : Int32) (h0 : Heap) (n0 : Nat) (Z0 : n0 ≤ h0.size)  :
    MetFree l x (head1 (Jvm.Cond.code x code maxLocals ret :: ws) room_1) (fun a U => a = #[(.long q0), (.long q1), (.long q2), (.int p3)] ∧ Z.Warmed39 U.vm ∧ U.heap = h0) (fun _ _ _ _ _ => True) (fun _ U o U' => ∃ v L, o = .returned v ∧ Q0 Z q0 q1 q2 p3 h0 n0 v U'.heap L ∧ FrameEnd U o U' L room_1.cells room_1.slots) := by
  refine MetFree.of_bodySF (plainFor_of_name pn_2) hisR ?_
  intro p e s m args below meth c s₁ Bd hml0 hP hK
  obtain ⟨rfl, hZ, hh⟩ := hP
  have hx := Bd.exec
  have hby := Bd.bytes
  have hml : c.maxLocals = 21 := hml0
  have hown : s.vm.findClass "com/example/pricewright/pricewright/service/PageCountPinLaw" = some m.cls := findClass_of_methodNamed Bd.named
  have hnm := (name_of_methodNamed Bd.named Bd.method).1
  have X0 : Stand p l e room_1 s m #[(.long q0), (.long q1), (.long q2), (.int p3)] below meth c s₁ [] 0 0 := Stand.of_body Bd
  have e0 : s₁.heap = h0 := by rw [← hh, Bd.state]; rfl
  have N0 := Fr.nil n0
  have pre0 : ∀ t, Steps p.tables e below (s₁.setTop (mkF m 0 #[.val (.long q0), .second, .val (.long q1), .second, .val (.long q2), .second, .val (.int p3), .unset, .unset, .unset, .unset, .unset, .unset, .unset, .unset, .unset, .unset, .unset, .unset, .unset, .unset] [])) t → Steps p.tables e below (s₁.setTop (entryFrame m #[(.long q0), (.long q1), (.long q2), (.int p3)] maxLocals)) t := fun t k => castTop (ef_0 m q0 q1 q2 p3) k
  have P1 : ∀ t, Steps p.tables e below (s₁.setTop (mkF m 4 #[.val (.long q0), .second, .val (.long q1), .second, .val (.long q2), .second, .val (.int p3), .unset, .unset, .unset, .unset, .unset, .unset, .unset, .unset, .unset, .unset, .unset, .unset, .unset, .unset] [(.int (p3 &&& (1 : Int32)))])) t → Steps p.tables e below (s₁.setTop (entryFrame m #[(.long q0), (.long q1), (.long q2), (.int p3)] maxLocals)) t := by
    intro t k
    refine pre0 t ?_
    show Steps p.tables e below (s₁.setTop (mkF m 0 #[.val (.long q0), .second, .val (.long q1), .second, .val (.long q2), .second, .val (.int p3), .unset, .unset, .unset, .unset, .unset, .unset, .unset, .unset, .unset, .unset, .unset, .unset, .unset, .unset] [])) _
    refine XS.iload X0.here hx rfl (hb hby at_0) rfl ?_
    show Steps p.tables e below (s₁.setTop (mkF m 2 #[.val (.long q0), .second, .val (.long q1), .second, .val (.long q2), .second, .val (.int p3), .unset, .unset, .unset, .unset, .unset, .unset, .unset, .unset, .unset, .unset, .unset, .unset, .unset, .unset] [(.int p3)])) _
    refine XS.iconst X0.here hx rfl (hb hby at_2) ?_
    show Steps p.tables e below (s₁.setTop (mkF m 3 #[.val (.long q0), .second, .val (.long q1), .second, .val (.long q2), .second, .val (.int p3), .unset, .unset, .unset, .unset, .unset, .unset, .unset, .unset, .unset, .unset, .unset, .unset, .unset, .unset] [(.int (1 : Int32)), (.int p3)])) _
    refine XS.iand X0.here hx rfl (hb hby at_3) rfl ?_
    exact k
  by_cases h1 : (p3 &&& (1 : Int32)) = (0 : Int32)
  · obtain ⟨_, _, ⟨T2, L2, k2, n2⟩, -, X2, ⟨Lc2, hQ2, l2, y2, z2⟩, st2⟩ := Jvm.LawKit.callS X0 hx (y := (⟨"java/lang/Math", "max", "(JJ)J"⟩ : MethodName)) hown (mvT hZ (hw _ (List.mem_of_getElem? (i := 1) rfl))) (mvT hZ (hw _ (List.mem_of_getElem? (i := 2) rfl))) (mvT hZ (hw _ (List.mem_of_getElem? (i := 3) rfl))) (mvT hZ (hw _ (List.mem_of_getElem? (i := 4) rfl))) (by decide) (backOf (W := 0) (rm1 l Z a0 hw [] (1 : Int64) (q1 &&& (9223372036854775807 : Int64)) h0 n0 Z0 ) hZ (hw _ (List.mem_of_getElem? (i := 4) rfl)) (hw _ (List.mem_of_getElem? (i := 3) rfl)) (by decide) (by decide)) (g := (mkF m 13 #[.val (.long q0), .second, .val (.long q1), .second, .val (.long q2), .second, .val (.int p3), .unset, .unset, .unset, .unset, .unset, .unset, .unset, .unset, .unset, .unset, .unset, .unset, .unset, .unset] [(.long (q1 &&& (9223372036854775807 : Int64))), (.long (1 : Int64))])) rfl (by rw [hml]; rfl) (argsL := [(.long (1 : Int64)), (.long (q1 &&& (9223372036854775807 : Int64)))]) (rest := []) (lenOf pd_1 rfl) rfl (by show 2 * 0 + _ ≤ _; exact Nat.le_of_eq rfl) (hb hby at_13) (fun _ _ => ⟨rfl, e0, (by decide : 0 + 0 ≤ _), (by decide : 0 + 0 ≤ _)⟩)
    dsimp only [Pt.U, Pt.locs, Pt.cells, Pt.slots] at X2 l2 y2 z2 st2 hQ2
    subst l2 y2 z2
    obtain ⟨r3, rfl, N2q, R4, R5⟩ := hQ2
    have N2 := Fr.app N0 N2q
    obtain ⟨sv, hsv⟩ : ∃ z : Int64, z = r3 := ⟨_, rfl⟩
    have P6 : ∀ t, Steps p.tables e below (T2.setTop (mkF m 46 #[.val (.long q0), .second, .val (.long q1), .second, .val (.long q2), .second, .val (.int p3), .val (.long r3), .second, .val (.long (q2 &&& (9223372036854775807 : Int64))), .second, .unset, .unset, .unset, .unset, .unset, .unset, .unset, .unset, .unset, .unset] [])) t → Steps p.tables e below (s₁.setTop (entryFrame m #[(.long q0), (.long q1), (.long q2), (.int p3)] maxLocals)) t := by
      intro t k
      refine P1 t ?_
      show Steps p.tables e below (s₁.setTop (mkF m 4 #[.val (.long q0), .second, .val (.long q1), .second, .val (.long q2), .second, .val (.int p3), .unset, .unset, .unset, .unset, .unset, .unset, .unset, .unset, .unset, .unset, .unset, .unset, .unset, .unset] [(.int (p3 &&& (1 : Int32)))])) _
      refine XS.ifNo X0.here hx rfl (hb hby at_4) rfl ((if0 _ _).trans (teq h1).2) ?_
      show Steps p.tables e below (s₁.setTop (mkF m 7 #[.val (.long q0), .second, .val (.long q1), .second, .val (.long q2), .second, .val (.int p3), .unset, .unset, .unset, .unset, .unset, .unset, .unset, .unset, .unset, .unset, .unset, .unset, .unset, .unset] [])) _
      refine XS.lconst X0.here hx rfl (hb hby at_7) ?_
      show Steps p.tables e below (s₁.setTop (mkF m 8 #[.val (.long q0), .second, .val (.long q1), .second, .val (.long q2), .second, .val (.int p3), .unset, .unset, .unset, .unset, .unset, .unset, .unset, .unset, .unset, .unset, .unset, .unset, .unset, .unset] [(.long (1 : Int64))])) _
      refine XS.lloadN X0.here hx rfl (hb hby at_8) rfl ?_
      show Steps p.tables e below (s₁.setTop (mkF m 9 #[.val (.long q0), .second, .val (.long q1), .second, .val (.long q2), .second, .val (.int p3), .unset, .unset, .unset, .unset, .unset, .unset, .unset, .unset, .unset, .unset, .unset, .unset, .unset, .unset] [(.long q1), (.long (1 : Int64))])) _
      refine X0.ldc2Long hx hown (mvT hZ (hw _ (List.mem_of_getElem? (i := 0) rfl))) (g := (mkF m 9 #[.val (.long q0), .second, .val (.long q1), .second, .val (.long q2), .second, .val (.int p3), .unset, .unset, .unset, .unset, .unset, .unset, .unset, .unset, .unset, .unset, .unset, .unset, .unset, .unset] [(.long q1), (.long (1 : Int64))])) rfl (hb hby at_9) _ ?_
      show Steps p.tables e below (s₁.setTop (mkF m 12 #[.val (.long q0), .second, .val (.long q1), .second, .val (.long q2), .second, .val (.int p3), .unset, .unset, .unset, .unset, .unset, .unset, .unset, .unset, .unset, .unset, .unset, .unset, .unset, .unset] [(.long (9223372036854775807 : Int64)), (.long q1), (.long (1 : Int64))])) _
      refine XS.land X0.here hx rfl (hb hby at_12) rfl ?_
      show Steps p.tables e below (s₁.setTop (mkF m 13 #[.val (.long q0), .second, .val (.long q1), .second, .val (.long q2), .second, .val (.int p3), .unset, .unset, .unset, .unset, .unset, .unset, .unset, .unset, .unset, .unset, .unset, .unset, .unset, .unset] [(.long (q1 &&& (9223372036854775807 : Int64))), (.long (1 : Int64))])) _
      refine st2 _ ?_
      show Steps p.tables e below (T2.setTop (mkF m 16 #[.val (.long q0), .second, .val (.long q1), .second, .val (.long q2), .second, .val (.int p3), .unset, .unset, .unset, .unset, .unset, .unset, .unset, .unset, .unset, .unset, .unset, .unset, .unset, .unset] [(.long r3)])) _
      refine XS.lstore X2.here hx rfl (hb hby at_16) rfl (l' := #[.val (.long q0), .second, .val (.long q1), .second, .val (.long q2), .second, .val (.int p3), .val (.long r3), .second, .unset, .unset, .unset, .unset, .unset, .unset, .unset, .unset, .unset, .unset, .unset, .unset]) rfl ?_
      show Steps p.tables e below (T2.setTop (mkF m 18 #[.val (.long q0), .second, .val (.long q1), .second, .val (.long q2), .second, .val (.int p3), .val (.long r3), .second, .unset, .unset, .unset, .unset, .unset, .unset, .unset, .unset, .unset, .unset, .unset, .unset] [])) _
      refine XS.lload X2.here hx rfl (hb hby at_18) rfl ?_
      show Steps p.tables e below (T2.setTop (mkF m 20 #[.val (.long q0), .second, .val (.long q1), .second, .val (.long q2), .second, .val (.int p3), .val (.long r3), .second, .unset, .unset, .unset, .unset, .unset, .unset, .unset, .unset, .unset, .unset, .unset, .unset] [(.long q2)])) _
      refine X2.ldc2Long hx hown (mvT hZ (hw _ (List.mem_of_getElem? (i := 0) rfl))) (g := (mkF m 20 #[.val (.long q0), .second, .val (.long q1), .second, .val (.long q2), .second, .val (.int p3), .val (.long r3), .second, .unset, .unset, .unset, .unset, .unset, .unset, .unset, .unset, .unset, .unset, .unset, .unset] [(.long q2)])) rfl (hb hby at_20) _ ?_
      show Steps p.tables e below (T2.setTop (mkF m 23 #[.val (.long q0), .second, .val (.long q1), .second, .val (.long q2), .second, .val (.int p3), .val (.long r3), .second, .unset, .unset, .unset, .unset, .unset, .unset, .unset, .unset, .unset, .unset, .unset, .unset] [(.long (9223372036854775807 : Int64)), (.long q2)])) _
      refine XS.land X2.here hx rfl (hb hby at_23) rfl ?_
      show Steps p.tables e below (T2.setTop (mkF m 24 #[.val (.long q0), .second, .val (.long q1), .second, .val (.long q2), .second, .val (.int p3), .val (.long r3), .second, .unset, .unset, .unset, .unset, .unset, .unset, .unset, .unset, .unset, .unset, .unset, .unset] [(.long (q2 &&& (9223372036854775807 : Int64)))])) _
      refine XS.lstore X2.here hx rfl (hb hby at_24) rfl (l' := #[.val (.long q0), .second, .val (.long q1), .second, .val (.long q2), .second, .val (.int p3), .val (.long r3), .second, .val (.long (q2 &&& (9223372036854775807 : Int64))), .second, .unset, .unset, .unset, .unset, .unset, .unset, .unset, .unset, .unset, .unset]) rfl ?_
      show Steps p.tables e below (T2.setTop (mkF m 26 #[.val (.long q0), .second, .val (.long q1), .second, .val (.long q2), .second, .val (.int p3), .val (.long r3), .second, .val (.long (q2 &&& (9223372036854775807 : Int64))), .second, .unset, .unset, .unset, .unset, .unset, .unset, .unset, .unset, .unset, .unset] [])) _
      refine XS.goto X2.here hx rfl (pc0 := 26) (pc' := 46) rfl (hb hby at_26) (by decide) (by decide) ?_
      exact k
    have P7 : ∀ t, Steps p.tables e below (T2.setTop (mkF m 46 #[.val (.long q0), .second, .val (.long q1), .second, .val (.long q2), .second, .val (.int p3), .val (.long sv), .second, .val (.long (q2 &&& (9223372036854775807 : Int64))), .second, .unset, .unset, .unset, .unset, .unset, .unset, .unset, .unset, .unset, .unset] [])) t → Steps p.tables e below (s₁.setTop (entryFrame m #[(.long q0), (.long q1), (.long q2), (.int p3)] maxLocals)) t := by rw [hsv]; exact P6
    obtain ⟨rv, hrv⟩ : ∃ z : Int64, z = (q2 &&& (9223372036854775807 : Int64)) := ⟨_, rfl⟩
    have P8 : ∀ t, Steps p.tables e below (T2.setTop (mkF m 46 #[.val (.long q0), .second, .val (.long q1), .second, .val (.long q2), .second, .val (.int p3), .val (.long sv), .second, .val (.long rv), .second, .unset, .unset, .unset, .unset, .unset, .unset, .unset, .unset, .unset, .unset] [])) t → Steps p.tables e below (s₁.setTop (entryFrame m #[(.long q0), (.long q1), (.long q2), (.int p3)] maxLocals)) t := by rw [hrv]; exact P7
    have hS : 1 ≤ sv.toInt := by rw [hsv]; exact own_max1 _ _ R4
    have hR : 0 ≤ rv.toInt := by rw [hrv]; exact own_mask _
    have hnz : sv ≠ (0 : Int64) := fun q => by rw [q] at hS; revert hS; decide
    obtain ⟨T9, h9, X9, e9, E9, A9, D9, -, st9⟩ := newO X2 hx hZ hown (hw _ (List.mem_of_getElem? (i := 5) rfl)) (hw _ (List.mem_of_getElem? (i := 6) rfl)) (hw _ (List.mem_of_getElem? (i := 7) rfl)) R5 (g := (mkF m 46 #[.val (.long q0), .second, .val (.long q1), .second, .val (.long q2), .second, .val (.int p3), .val (.long sv), .second, .val (.long rv), .second, .unset, .unset, .unset, .unset, .unset, .unset, .unset, .unset, .unset, .unset] [])) rfl (hb hby at_46) (by decide) (by decide)
    obtain ⟨b9, g9⟩ : ∃ z, z = h0.size := ⟨_, rfl⟩
    rw [← g9] at A9 D9 st9
    have g_b9 : n0 ≤ b9 := Nat.le_trans Z0 (Nat.le_of_eq g9.symm)
    have Z10 : n0 ≤ h9.size := Nat.le_trans Z0 E9.1
    have F11 : Fld Z h9 b9 "com/example/pricewright/pricewright/service/Page" "number" "J" (.long (0 : Int64)) := D9 (Or.inr (hw _ (List.mem_of_getElem? (i := 20) rfl))) (ty := .long) (by decide)
    have F12 : Fld Z h9 b9 "com/example/pricewright/pricewright/service/Page" "size" "J" (.long (0 : Int64)) := D9 (Or.inr (hw _ (List.mem_of_getElem? (i := 22) rfl))) (ty := .long) (by decide)
    obtain ⟨_, _, ⟨T13, L13, k13, n13⟩, -, X13, ⟨Lc13, hQ13, l13, y13, z13⟩, st13⟩ := X9.specialBack hx (y := (⟨"com/example/pricewright/pricewright/service/Page", "<init>", "(JJ)V"⟩ : MethodName)) rfl hown (mvT hZ (hw _ (List.mem_of_getElem? (i := 8) rfl))) (mvT hZ (hw _ (List.mem_of_getElem? (i := 9) rfl))) (mvT hZ (hw _ (List.mem_of_getElem? (i := 10) rfl))) (by decide) (backOf (W := 1) (rm2 l Z a0 hw [] b9 q0 sv h9 n0 Z10 F11 F12 A9 g_b9) hZ (hw _ (List.mem_of_getElem? (i := 10) rfl)) (hw _ (List.mem_of_getElem? (i := 7) rfl)) (by decide) (by decide)) (g := (mkF m 53 #[.val (.long q0), .second, .val (.long q1), .second, .val (.long q2), .second, .val (.int p3), .val (.long sv), .second, .val (.long rv), .second, .unset, .unset, .unset, .unset, .unset, .unset, .unset, .unset, .unset, .unset] [(.long sv), (.long q0), (.ref b9), (.ref b9)])) rfl (by rw [hml]; rfl) (Steps.refl _) (a := b9) (argsL := [(.long q0), (.long sv)]) (rest := [(.ref b9)]) (lenOf pd_2 rfl) rfl (by show 2 * 0 + _ ≤ _; exact Nat.le_of_eq rfl) (hb hby at_53) (fun _ _ => ⟨rfl, e9, (by decide : 1 + 0 ≤ _), (by decide : 2 + 0 ≤ _)⟩)
    dsimp only [Pt.U, Pt.locs, Pt.cells, Pt.slots] at X13 l13 y13 z13 st13 hQ13
    subst l13 y13 z13
    obtain ⟨rfl, N13q, R14, R15, R16, R17⟩ := hQ13
    have N13 := Fr.app N2 N13q
    have F18 : Exa Z T13.heap b9 "com/example/pricewright/pricewright/service/Page" := A9.keep R14
    have Z19 : n0 ≤ T13.heap.size := Nat.le_trans Z10 R14.1
    have hp20 : sv ≠ (0 : Int64) := hnz
    obtain ⟨cq21, kq21, q21a, q21b, q21c⟩ := isOf hZ rfl R15
    obtain ⟨_, _, ⟨T21, L21, k21, n21⟩, -, X21, ⟨Lc21, hQ21, l21, y21, z21⟩, st21⟩ := X13.virtualBack hx (y := (⟨"com/example/pricewright/pricewright/service/Page", "count", "(J)J"⟩ : MethodName)) (z := (⟨"com/example/pricewright/pricewright/service/Page", "count", "(J)J"⟩ : MethodName)) hown (mvT hZ (hw _ (List.mem_of_getElem? (i := 23) rfl))) (mvT hZ (hw _ (List.mem_of_getElem? (i := 24) rfl))) (notFace_of_selects (args := #[]) (mvT hZ (hw _ (List.mem_of_getElem? (i := 26) rfl)))) (mvT hZ (hw _ (List.mem_of_getElem? (i := 26) rfl))) (mvT hZ (hw _ (List.mem_of_getElem? (i := 25) rfl))) (by decide) (backOf (W := 0) (rm5 l Z a0 hw [] b9 rv sv T13.heap n0 Z19 R17 hp20) hZ (hw _ (List.mem_of_getElem? (i := 27) rfl)) (hw _ (List.mem_of_getElem? (i := 7) rfl)) (by decide) (by decide)) q21a q21c (g := (mkF m 62 #[.val (.long q0), .second, .val (.long q1), .second, .val (.long q2), .second, .val (.int p3), .val (.long sv), .second, .val (.long rv), .second, .val (.ref b9), .unset, .unset, .unset, .unset, .unset, .unset, .unset, .unset, .unset] [(.long rv), (.ref b9)])) rfl (by rw [hml]; rfl) (Steps.refl _) (argsL := [(.long rv)]) (rest := []) (lenOf pd_3 rfl) rfl (by show 2 * 0 + _ ≤ _; exact Nat.le_of_eq rfl) (hb hby at_62) (fun _ _ => ⟨rfl, rfl, (by decide : 1 + 0 ≤ _), (by decide : 2 + 0 ≤ _)⟩)
    dsimp only [Pt.U, Pt.locs, Pt.cells, Pt.slots] at X21 l21 y21 z21 st21 hQ21
    subst l21 y21 z21
    obtain ⟨r22, rfl, N21q, R23, R24⟩ := hQ21
    have N21 := Fr.app N13 N21q
    have P25 : ∀ t, Steps p.tables e below (T21.setTop (mkF m 85 #[.val (.long q0), .second, .val (.long q1), .second, .val (.long q2), .second, .val (.int p3), .val (.long sv), .second, .val (.long rv), .second, .val (.ref b9), .val (.long r22), .second, .val (.long (rv / sv)), .second, .val (.long (rv % sv)), .second, .unset, .unset, .unset] [(.int (lcmpW (rv % sv) (0 : Int64)))])) t → Steps p.tables e below (s₁.setTop (entryFrame m #[(.long q0), (.long q1), (.long q2), (.int p3)] maxLocals)) t := by
      intro t k
      refine P8 t ?_
      show Steps p.tables e below (T2.setTop (mkF m 46 #[.val (.long q0), .second, .val (.long q1), .second, .val (.long q2), .second, .val (.int p3), .val (.long sv), .second, .val (.long rv), .second, .unset, .unset, .unset, .unset, .unset, .unset, .unset, .unset, .unset, .unset] [])) _
      refine st9 _ ?_
      show Steps p.tables e below (T9.setTop (mkF m 49 #[.val (.long q0), .second, .val (.long q1), .second, .val (.long q2), .second, .val (.int p3), .val (.long sv), .second, .val (.long rv), .second, .unset, .unset, .unset, .unset, .unset, .unset, .unset, .unset, .unset, .unset] [(.ref b9)])) _
      refine XS.dup X9.here hx rfl (hb hby at_49) rfl rfl ?_
      show Steps p.tables e below (T9.setTop (mkF m 50 #[.val (.long q0), .second, .val (.long q1), .second, .val (.long q2), .second, .val (.int p3), .val (.long sv), .second, .val (.long rv), .second, .unset, .unset, .unset, .unset, .unset, .unset, .unset, .unset, .unset, .unset] [(.ref b9), (.ref b9)])) _
      refine XS.lloadN X9.here hx rfl (hb hby at_50) rfl ?_
      show Steps p.tables e below (T9.setTop (mkF m 51 #[.val (.long q0), .second, .val (.long q1), .second, .val (.long q2), .second, .val (.int p3), .val (.long sv), .second, .val (.long rv), .second, .unset, .unset, .unset, .unset, .unset, .unset, .unset, .unset, .unset, .unset] [(.long q0), (.ref b9), (.ref b9)])) _
      refine XS.lload X9.here hx rfl (hb hby at_51) rfl ?_
      show Steps p.tables e below (T9.setTop (mkF m 53 #[.val (.long q0), .second, .val (.long q1), .second, .val (.long q2), .second, .val (.int p3), .val (.long sv), .second, .val (.long rv), .second, .unset, .unset, .unset, .unset, .unset, .unset, .unset, .unset, .unset, .unset] [(.long sv), (.long q0), (.ref b9), (.ref b9)])) _
      refine st13.trans ?_
      show Steps p.tables e below (T13.setTop (mkF m 56 #[.val (.long q0), .second, .val (.long q1), .second, .val (.long q2), .second, .val (.int p3), .val (.long sv), .second, .val (.long rv), .second, .unset, .unset, .unset, .unset, .unset, .unset, .unset, .unset, .unset, .unset] [(.ref b9)])) _
      refine XS.astore X13.here hx rfl (hb hby at_56) rfl rfl (l' := #[.val (.long q0), .second, .val (.long q1), .second, .val (.long q2), .second, .val (.int p3), .val (.long sv), .second, .val (.long rv), .second, .val (.ref b9), .unset, .unset, .unset, .unset, .unset, .unset, .unset, .unset, .unset]) rfl ?_
      show Steps p.tables e below (T13.setTop (mkF m 58 #[.val (.long q0), .second, .val (.long q1), .second, .val (.long q2), .second, .val (.int p3), .val (.long sv), .second, .val (.long rv), .second, .val (.ref b9), .unset, .unset, .unset, .unset, .unset, .unset, .unset, .unset, .unset] [])) _
      refine XS.aload X13.here hx rfl (hb hby at_58) rfl rfl ?_
      show Steps p.tables e below (T13.setTop (mkF m 60 #[.val (.long q0), .second, .val (.long q1), .second, .val (.long q2), .second, .val (.int p3), .val (.long sv), .second, .val (.long rv), .second, .val (.ref b9), .unset, .unset, .unset, .unset, .unset, .unset, .unset, .unset, .unset] [(.ref b9)])) _
      refine XS.lload X13.here hx rfl (hb hby at_60) rfl ?_
      show Steps p.tables e below (T13.setTop (mkF m 62 #[.val (.long q0), .second, .val (.long q1), .second, .val (.long q2), .second, .val (.int p3), .val (.long sv), .second, .val (.long rv), .second, .val (.ref b9), .unset, .unset, .unset, .unset, .unset, .unset, .unset, .unset, .unset] [(.long rv), (.ref b9)])) _
      refine st21.trans ?_
      show Steps p.tables e below (T21.setTop (mkF m 65 #[.val (.long q0), .second, .val (.long q1), .second, .val (.long q2), .second, .val (.int p3), .val (.long sv), .second, .val (.long rv), .second, .val (.ref b9), .unset, .unset, .unset, .unset, .unset, .unset, .unset, .unset, .unset] [(.long r22)])) _
      refine XS.lstore X21.here hx rfl (hb hby at_65) rfl (l' := #[.val (.long q0), .second, .val (.long q1), .second, .val (.long q2), .second, .val (.int p3), .val (.long sv), .second, .val (.long rv), .second, .val (.ref b9), .val (.long r22), .second, .unset, .unset, .unset, .unset, .unset, .unset, .unset]) rfl ?_
      show Steps p.tables e below (T21.setTop (mkF m 67 #[.val (.long q0), .second, .val (.long q1), .second, .val (.long q2), .second, .val (.int p3), .val (.long sv), .second, .val (.long rv), .second, .val (.ref b9), .val (.long r22), .second, .unset, .unset, .unset, .unset, .unset, .unset, .unset] [])) _
      refine XS.lload X21.here hx rfl (hb hby at_67) rfl ?_
      show Steps p.tables e below (T21.setTop (mkF m 69 #[.val (.long q0), .second, .val (.long q1), .second, .val (.long q2), .second, .val (.int p3), .val (.long sv), .second, .val (.long rv), .second, .val (.ref b9), .val (.long r22), .second, .unset, .unset, .unset, .unset, .unset, .unset, .unset] [(.long rv)])) _
      refine XS.lload X21.here hx rfl (hb hby at_69) rfl ?_
      show Steps p.tables e below (T21.setTop (mkF m 71 #[.val (.long q0), .second, .val (.long q1), .second, .val (.long q2), .second, .val (.int p3), .val (.long sv), .second, .val (.long rv), .second, .val (.ref b9), .val (.long r22), .second, .unset, .unset, .unset, .unset, .unset, .unset, .unset] [(.long sv), (.long rv)])) _
      refine XS.ldiv X21.here hx rfl (hb hby at_71) rfl hnz ?_
      show Steps p.tables e below (T21.setTop (mkF m 72 #[.val (.long q0), .second, .val (.long q1), .second, .val (.long q2), .second, .val (.int p3), .val (.long sv), .second, .val (.long rv), .second, .val (.ref b9), .val (.long r22), .second, .unset, .unset, .unset, .unset, .unset, .unset, .unset] [(.long (rv / sv))])) _
      refine XS.lstore X21.here hx rfl (hb hby at_72) rfl (l' := #[.val (.long q0), .second, .val (.long q1), .second, .val (.long q2), .second, .val (.int p3), .val (.long sv), .second, .val (.long rv), .second, .val (.ref b9), .val (.long r22), .second, .val (.long (rv / sv)), .second, .unset, .unset, .unset, .unset, .unset]) rfl ?_
      show Steps p.tables e below (T21.setTop (mkF m 74 #[.val (.long q0), .second, .val (.long q1), .second, .val (.long q2), .second, .val (.int p3), .val (.long sv), .second, .val (.long rv), .second, .val (.ref b9), .val (.long r22), .second, .val (.long (rv / sv)), .second, .unset, .unset, .unset, .unset, .unset] [])) _
      refine XS.lload X21.here hx rfl (hb hby at_74) rfl ?_
      show Steps p.tables e below (T21.setTop (mkF m 76 #[.val (.long q0), .second, .val (.long q1), .second, .val (.long q2), .second, .val (.int p3), .val (.long sv), .second, .val (.long rv), .second, .val (.ref b9), .val (.long r22), .second, .val (.long (rv / sv)), .second, .unset, .unset, .unset, .unset, .unset] [(.long rv)])) _
      refine XS.lload X21.here hx rfl (hb hby at_76) rfl ?_
      show Steps p.tables e below (T21.setTop (mkF m 78 #[.val (.long q0), .second, .val (.long q1), .second, .val (.long q2), .second, .val (.int p3), .val (.long sv), .second, .val (.long rv), .second, .val (.ref b9), .val (.long r22), .second, .val (.long (rv / sv)), .second, .unset, .unset, .unset, .unset, .unset] [(.long sv), (.long rv)])) _
      refine XS.lrem X21.here hx rfl (hb hby at_78) rfl hnz ?_
      rw [lrem_mod]
      show Steps p.tables e below (T21.setTop (mkF m 79 #[.val (.long q0), .second, .val (.long q1), .second, .val (.long q2), .second, .val (.int p3), .val (.long sv), .second, .val (.long rv), .second, .val (.ref b9), .val (.long r22), .second, .val (.long (rv / sv)), .second, .unset, .unset, .unset, .unset, .unset] [(.long (rv % sv))])) _
      refine XS.lstore X21.here hx rfl (hb hby at_79) rfl (l' := #[.val (.long q0), .second, .val (.long q1), .second, .val (.long q2), .second, .val (.int p3), .val (.long sv), .second, .val (.long rv), .second, .val (.ref b9), .val (.long r22), .second, .val (.long (rv / sv)), .second, .val (.long (rv % sv)), .second, .unset, .unset, .unset]) rfl ?_
      show Steps p.tables e below (T21.setTop (mkF m 81 #[.val (.long q0), .second, .val (.long q1), .second, .val (.long q2), .second, .val (.int p3), .val (.long sv), .second, .val (.long rv), .second, .val (.ref b9), .val (.long r22), .second, .val (.long (rv / sv)), .second, .val (.long (rv % sv)), .second, .unset, .unset, .unset] [])) _
      refine XS.lload X21.here hx rfl (hb hby at_81) rfl ?_
      show Steps p.tables e below (T21.setTop (mkF m 83 #[.val (.long q0), .second, .val (.long q1), .second, .val (.long q2), .second, .val (.int p3), .val (.long sv), .second, .val (.long rv), .second, .val (.ref b9), .val (.long r22), .second, .val (.long (rv / sv)), .second, .val (.long (rv % sv)), .second, .unset, .unset, .unset] [(.long (rv % sv))])) _
      refine XS.lconst X21.here hx rfl (hb hby at_83) ?_
      show Steps p.tables e below (T21.setTop (mkF m 84 #[.val (.long q0), .second, .val (.long q1), .second, .val (.long q2), .second, .val (.int p3), .val (.long sv), .second, .val (.long rv), .second, .val (.ref b9), .val (.long r22), .second, .val (.long (rv / sv)), .second, .val (.long (rv % sv)), .second, .unset, .unset, .unset] [(.long (0 : Int64)), (.long (rv % sv))])) _
      refine XS.lcmp X21.here hx rfl (hb hby at_84) rfl ?_
      exact k
    obtain ⟨ev, hm26, P27⟩ : ∃ (ev : Int64), (((lcmpW (rv % sv) (0 : Int64)) = (0 : Int32) ∧ ev = (rv / sv)) ∨ (¬ ((lcmpW (rv % sv) (0 : Int64)) = (0 : Int32)) ∧ ev = ((rv / sv) + (1 : Int64)))) ∧ ∀ t, Steps p.tables e below (T21.setTop (mkF m 97 #[.val (.long q0), .second, .val (.long q1), .second, .val (.long q2), .second, .val (.int p3), .val (.long sv), .second, .val (.long rv), .second, .val (.ref b9), .val (.long r22), .second, .val (.long (rv / sv)), .second, .val (.long (rv % sv)), .second, .unset, .unset, .unset] [(.long ev)])) t → Steps p.tables e below (s₁.setTop (entryFrame m #[(.long q0), (.long q1), (.long q2), (.int p3)] maxLocals)) t := by
      by_cases hd85_0 : (lcmpW (rv % sv) (0 : Int64)) = (0 : Int32)
      ·
        refine ⟨(rv / sv), Or.inl ⟨hd85_0, rfl⟩, fun t k => ?_⟩
        refine P25 t ?_
        show Steps p.tables e below (T21.setTop (mkF m 85 #[.val (.long q0), .second, .val (.long q1), .second, .val (.long q2), .second, .val (.int p3), .val (.long sv), .second, .val (.long rv), .second, .val (.ref b9), .val (.long r22), .second, .val (.long (rv / sv)), .second, .val (.long (rv % sv)), .second, .unset, .unset, .unset] [(.int (lcmpW (rv % sv) (0 : Int64)))])) _
        refine XS.ifNo X21.here hx rfl (hb hby at_85) rfl ((if0 _ _).trans (teq hd85_0).2) ?_
        show Steps p.tables e below (T21.setTop (mkF m 88 #[.val (.long q0), .second, .val (.long q1), .second, .val (.long q2), .second, .val (.int p3), .val (.long sv), .second, .val (.long rv), .second, .val (.ref b9), .val (.long r22), .second, .val (.long (rv / sv)), .second, .val (.long (rv % sv)), .second, .unset, .unset, .unset] [])) _
        refine XS.lload X21.here hx rfl (hb hby at_88) rfl ?_
        show Steps p.tables e below (T21.setTop (mkF m 90 #[.val (.long q0), .second, .val (.long q1), .second, .val (.long q2), .second, .val (.int p3), .val (.long sv), .second, .val (.long rv), .second, .val (.ref b9), .val (.long r22), .second, .val (.long (rv / sv)), .second, .val (.long (rv % sv)), .second, .unset, .unset, .unset] [(.long (rv / sv))])) _
        refine XS.goto X21.here hx rfl (pc0 := 90) (pc' := 97) rfl (hb hby at_90) (by decide) (by decide) ?_
        exact k
      ·
        refine ⟨((rv / sv) + (1 : Int64)), Or.inr (⟨hd85_0, rfl⟩), fun t k => ?_⟩
        refine P25 t ?_
        show Steps p.tables e below (T21.setTop (mkF m 85 #[.val (.long q0), .second, .val (.long q1), .second, .val (.long q2), .second, .val (.int p3), .val (.long sv), .second, .val (.long rv), .second, .val (.ref b9), .val (.long r22), .second, .val (.long (rv / sv)), .second, .val (.long (rv % sv)), .second, .unset, .unset, .unset] [(.int (lcmpW (rv % sv) (0 : Int64)))])) _
        refine XS.ifYes X21.here hx rfl (pc0 := 85) (pc' := 93) rfl (hb hby at_85) rfl ((if0 _ _).trans (feq hd85_0).2) (by decide) (by decide) ?_
        show Steps p.tables e below (T21.setTop (mkF m 93 #[.val (.long q0), .second, .val (.long q1), .second, .val (.long q2), .second, .val (.int p3), .val (.long sv), .second, .val (.long rv), .second, .val (.ref b9), .val (.long r22), .second, .val (.long (rv / sv)), .second, .val (.long (rv % sv)), .second, .unset, .unset, .unset] [])) _
        refine XS.lload X21.here hx rfl (hb hby at_93) rfl ?_
        show Steps p.tables e below (T21.setTop (mkF m 95 #[.val (.long q0), .second, .val (.long q1), .second, .val (.long q2), .second, .val (.int p3), .val (.long sv), .second, .val (.long rv), .second, .val (.ref b9), .val (.long r22), .second, .val (.long (rv / sv)), .second, .val (.long (rv % sv)), .second, .unset, .unset, .unset] [(.long (rv / sv))])) _
        refine XS.lconst X21.here hx rfl (hb hby at_95) ?_
        show Steps p.tables e below (T21.setTop (mkF m 96 #[.val (.long q0), .second, .val (.long q1), .second, .val (.long q2), .second, .val (.int p3), .val (.long sv), .second, .val (.long rv), .second, .val (.ref b9), .val (.long r22), .second, .val (.long (rv / sv)), .second, .val (.long (rv % sv)), .second, .unset, .unset, .unset] [(.long (1 : Int64)), (.long (rv / sv))])) _
        refine XS.ladd X21.here hx rfl (hb hby at_96) rfl ?_
        exact k
    have P28 : ∀ t, Steps p.tables e below (T21.setTop (mkF m 103 #[.val (.long q0), .second, .val (.long q1), .second, .val (.long q2), .second, .val (.int p3), .val (.long sv), .second, .val (.long rv), .second, .val (.ref b9), .val (.long r22), .second, .val (.long (rv / sv)), .second, .val (.long (rv % sv)), .second, .val (.long ev), .second, .unset] [(.int (lcmpW r22 (0 : Int64)))])) t → Steps p.tables e below (s₁.setTop (entryFrame m #[(.long q0), (.long q1), (.long q2), (.int p3)] maxLocals)) t := by
      intro t k
      refine P27 t ?_
      show Steps p.tables e below (T21.setTop (mkF m 97 #[.val (.long q0), .second, .val (.long q1), .second, .val (.long q2), .second, .val (.int p3), .val (.long sv), .second, .val (.long rv), .second, .val (.ref b9), .val (.long r22), .second, .val (.long (rv / sv)), .second, .val (.long (rv % sv)), .second, .unset, .unset, .unset] [(.long ev)])) _
      refine XS.lstore X21.here hx rfl (hb hby at_97) rfl (l' := #[.val (.long q0), .second, .val (.long q1), .second, .val (.long q2), .second, .val (.int p3), .val (.long sv), .second, .val (.long rv), .second, .val (.ref b9), .val (.long r22), .second, .val (.long (rv / sv)), .second, .val (.long (rv % sv)), .second, .val (.long ev), .second, .unset]) rfl ?_
      show Steps p.tables e below (T21.setTop (mkF m 99 #[.val (.long q0), .second, .val (.long q1), .second, .val (.long q2), .second, .val (.int p3), .val (.long sv), .second, .val (.long rv), .second, .val (.ref b9), .val (.long r22), .second, .val (.long (rv / sv)), .second, .val (.long (rv % sv)), .second, .val (.long ev), .second, .unset] [])) _
      refine XS.lload X21.here hx rfl (hb hby at_99) rfl ?_
      show Steps p.tables e below (T21.setTop (mkF m 101 #[.val (.long q0), .second, .val (.long q1), .second, .val (.long q2), .second, .val (.int p3), .val (.long sv), .second, .val (.long rv), .second, .val (.ref b9), .val (.long r22), .second, .val (.long (rv / sv)), .second, .val (.long (rv % sv)), .second, .val (.long ev), .second, .unset] [(.long r22)])) _
      refine XS.lconst X21.here hx rfl (hb hby at_101) ?_
      show Steps p.tables e below (T21.setTop (mkF m 102 #[.val (.long q0), .second, .val (.long q1), .second, .val (.long q2), .second, .val (.int p3), .val (.long sv), .second, .val (.long rv), .second, .val (.ref b9), .val (.long r22), .second, .val (.long (rv / sv)), .second, .val (.long (rv % sv)), .second, .val (.long ev), .second, .unset] [(.long (0 : Int64)), (.long r22)])) _
      refine XS.lcmp X21.here hx rfl (hb hby at_102) rfl ?_
      exact k
    obtain ⟨bz, hm29, P30⟩ : ∃ (bz : Int32), (((lcmpW r22 (0 : Int64)) < (0 : Int32) ∧ bz = (0 : Int32)) ∨ (¬ ((lcmpW r22 (0 : Int64)) < (0 : Int32)) ∧ (0 : Int32) < (lcmpW r22 rv) ∧ bz = (0 : Int32)) ∨ (¬ ((lcmpW r22 (0 : Int64)) < (0 : Int32)) ∧ ¬ ((0 : Int32) < (lcmpW r22 rv)) ∧ bz = (1 : Int32))) ∧ ∀ t, Steps p.tables e below (T21.setTop (mkF m 121 #[.val (.long q0), .second, .val (.long q1), .second, .val (.long q2), .second, .val (.int p3), .val (.long sv), .second, .val (.long rv), .second, .val (.ref b9), .val (.long r22), .second, .val (.long (rv / sv)), .second, .val (.long (rv % sv)), .second, .val (.long ev), .second, .val (.int bz)] [])) t → Steps p.tables e below (s₁.setTop (entryFrame m #[(.long q0), (.long q1), (.long q2), (.int p3)] maxLocals)) t := by
      by_cases hd103_0 : (lcmpW r22 (0 : Int64)) < (0 : Int32)
      ·
        refine ⟨(0 : Int32), Or.inl ⟨hd103_0, rfl⟩, fun t k => ?_⟩
        refine P28 t ?_
        show Steps p.tables e below (T21.setTop (mkF m 103 #[.val (.long q0), .second, .val (.long q1), .second, .val (.long q2), .second, .val (.int p3), .val (.long sv), .second, .val (.long rv), .second, .val (.ref b9), .val (.long r22), .second, .val (.long (rv / sv)), .second, .val (.long (rv % sv)), .second, .val (.long ev), .second, .unset] [(.int (lcmpW r22 (0 : Int64)))])) _
        refine XS.ifYes X21.here hx rfl (pc0 := 103) (pc' := 118) rfl (hb hby at_103) rfl ((if0 _ _).trans (tlt hd103_0).1) (by decide) (by decide) ?_
        show Steps p.tables e below (T21.setTop (mkF m 118 #[.val (.long q0), .second, .val (.long q1), .second, .val (.long q2), .second, .val (.int p3), .val (.long sv), .second, .val (.long rv), .second, .val (.ref b9), .val (.long r22), .second, .val (.long (rv / sv)), .second, .val (.long (rv % sv)), .second, .val (.long ev), .second, .unset] [])) _
        refine XS.iconst X21.here hx rfl (hb hby at_118) ?_
        show Steps p.tables e below (T21.setTop (mkF m 119 #[.val (.long q0), .second, .val (.long q1), .second, .val (.long q2), .second, .val (.int p3), .val (.long sv), .second, .val (.long rv), .second, .val (.ref b9), .val (.long r22), .second, .val (.long (rv / sv)), .second, .val (.long (rv % sv)), .second, .val (.long ev), .second, .unset] [(.int (0 : Int32))])) _
        refine XS.istore X21.here hx rfl (hb hby at_119) rfl (l' := #[.val (.long q0), .second, .val (.long q1), .second, .val (.long q2), .second, .val (.int p3), .val (.long sv), .second, .val (.long rv), .second, .val (.ref b9), .val (.long r22), .second, .val (.long (rv / sv)), .second, .val (.long (rv % sv)), .second, .val (.long ev), .second, .val (.int (0 : Int32))]) rfl ?_
        exact k
      ·
        by_cases hd111_1 : (0 : Int32) < (lcmpW r22 rv)
        ·
          refine ⟨(0 : Int32), Or.inr (Or.inl ⟨hd103_0, hd111_1, rfl⟩), fun t k => ?_⟩
          refine P28 t ?_
          show Steps p.tables e below (T21.setTop (mkF m 103 #[.val (.long q0), .second, .val (.long q1), .second, .val (.long q2), .second, .val (.int p3), .val (.long sv), .second, .val (.long rv), .second, .val (.ref b9), .val (.long r22), .second, .val (.long (rv / sv)), .second, .val (.long (rv % sv)), .second, .val (.long ev), .second, .unset] [(.int (lcmpW r22 (0 : Int64)))])) _
          refine XS.ifNo X21.here hx rfl (hb hby at_103) rfl ((if0 _ _).trans (flt hd103_0).1) ?_
          show Steps p.tables e below (T21.setTop (mkF m 106 #[.val (.long q0), .second, .val (.long q1), .second, .val (.long q2), .second, .val (.int p3), .val (.long sv), .second, .val (.long rv), .second, .val (.ref b9), .val (.long r22), .second, .val (.long (rv / sv)), .second, .val (.long (rv % sv)), .second, .val (.long ev), .second, .unset] [])) _
          refine XS.lload X21.here hx rfl (hb hby at_106) rfl ?_
          show Steps p.tables e below (T21.setTop (mkF m 108 #[.val (.long q0), .second, .val (.long q1), .second, .val (.long q2), .second, .val (.int p3), .val (.long sv), .second, .val (.long rv), .second, .val (.ref b9), .val (.long r22), .second, .val (.long (rv / sv)), .second, .val (.long (rv % sv)), .second, .val (.long ev), .second, .unset] [(.long r22)])) _
          refine XS.lload X21.here hx rfl (hb hby at_108) rfl ?_
          show Steps p.tables e below (T21.setTop (mkF m 110 #[.val (.long q0), .second, .val (.long q1), .second, .val (.long q2), .second, .val (.int p3), .val (.long sv), .second, .val (.long rv), .second, .val (.ref b9), .val (.long r22), .second, .val (.long (rv / sv)), .second, .val (.long (rv % sv)), .second, .val (.long ev), .second, .unset] [(.long rv), (.long r22)])) _
          refine XS.lcmp X21.here hx rfl (hb hby at_110) rfl ?_
          show Steps p.tables e below (T21.setTop (mkF m 111 #[.val (.long q0), .second, .val (.long q1), .second, .val (.long q2), .second, .val (.int p3), .val (.long sv), .second, .val (.long rv), .second, .val (.ref b9), .val (.long r22), .second, .val (.long (rv / sv)), .second, .val (.long (rv % sv)), .second, .val (.long ev), .second, .unset] [(.int (lcmpW r22 rv))])) _
          refine XS.ifYes X21.here hx rfl (pc0 := 111) (pc' := 118) rfl (hb hby at_111) rfl ((if0 _ _).trans (tlt hd111_1).2.2.1) (by decide) (by decide) ?_
          show Steps p.tables e below (T21.setTop (mkF m 118 #[.val (.long q0), .second, .val (.long q1), .second, .val (.long q2), .second, .val (.int p3), .val (.long sv), .second, .val (.long rv), .second, .val (.ref b9), .val (.long r22), .second, .val (.long (rv / sv)), .second, .val (.long (rv % sv)), .second, .val (.long ev), .second, .unset] [])) _
          refine XS.iconst X21.here hx rfl (hb hby at_118) ?_
          show Steps p.tables e below (T21.setTop (mkF m 119 #[.val (.long q0), .second, .val (.long q1), .second, .val (.long q2), .second, .val (.int p3), .val (.long sv), .second, .val (.long rv), .second, .val (.ref b9), .val (.long r22), .second, .val (.long (rv / sv)), .second, .val (.long (rv % sv)), .second, .val (.long ev), .second, .unset] [(.int (0 : Int32))])) _
          refine XS.istore X21.here hx rfl (hb hby at_119) rfl (l' := #[.val (.long q0), .second, .val (.long q1), .second, .val (.long q2), .second, .val (.int p3), .val (.long sv), .second, .val (.long rv), .second, .val (.ref b9), .val (.long r22), .second, .val (.long (rv / sv)), .second, .val (.long (rv % sv)), .second, .val (.long ev), .second, .val (.int (0 : Int32))]) rfl ?_
          exact k
        ·
          refine ⟨(1 : Int32), Or.inr (Or.inr (⟨hd103_0, hd111_1, rfl⟩)), fun t k => ?_⟩
          refine P28 t ?_
          show Steps p.tables e below (T21.setTop (mkF m 103 #[.val (.long q0), .second, .val (.long q1), .second, .val (.long q2), .second, .val (.int p3), .val (.long sv), .second, .val (.long rv), .second, .val (.ref b9), .val (.long r22), .second, .val (.long (rv / sv)), .second, .val (.long (rv % sv)), .second, .val (.long ev), .second, .unset] [(.int (lcmpW r22 (0 : Int64)))])) _
          refine XS.ifNo X21.here hx rfl (hb hby at_103) rfl ((if0 _ _).trans (flt hd103_0).1) ?_
          show Steps p.tables e below (T21.setTop (mkF m 106 #[.val (.long q0), .second, .val (.long q1), .second, .val (.long q2), .second, .val (.int p3), .val (.long sv), .second, .val (.long rv), .second, .val (.ref b9), .val (.long r22), .second, .val (.long (rv / sv)), .second, .val (.long (rv % sv)), .second, .val (.long ev), .second, .unset] [])) _
          refine XS.lload X21.here hx rfl (hb hby at_106) rfl ?_
          show Steps p.tables e below (T21.setTop (mkF m 108 #[.val (.long q0), .second, .val (.long q1), .second, .val (.long q2), .second, .val (.int p3), .val (.long sv), .second, .val (.long rv), .second, .val (.ref b9), .val (.long r22), .second, .val (.long (rv / sv)), .second, .val (.long (rv % sv)), .second, .val (.long ev), .second, .unset] [(.long r22)])) _
          refine XS.lload X21.here hx rfl (hb hby at_108) rfl ?_
          show Steps p.tables e below (T21.setTop (mkF m 110 #[.val (.long q0), .second, .val (.long q1), .second, .val (.long q2), .second, .val (.int p3), .val (.long sv), .second, .val (.long rv), .second, .val (.ref b9), .val (.long r22), .second, .val (.long (rv / sv)), .second, .val (.long (rv % sv)), .second, .val (.long ev), .second, .unset] [(.long rv), (.long r22)])) _
          refine XS.lcmp X21.here hx rfl (hb hby at_110) rfl ?_
          show Steps p.tables e below (T21.setTop (mkF m 111 #[.val (.long q0), .second, .val (.long q1), .second, .val (.long q2), .second, .val (.int p3), .val (.long sv), .second, .val (.long rv), .second, .val (.ref b9), .val (.long r22), .second, .val (.long (rv / sv)), .second, .val (.long (rv % sv)), .second, .val (.long ev), .second, .unset] [(.int (lcmpW r22 rv))])) _
          refine XS.ifNo X21.here hx rfl (hb hby at_111) rfl ((if0 _ _).trans (flt hd111_1).2.2.1) ?_
          show Steps p.tables e below (T21.setTop (mkF m 114 #[.val (.long q0), .second, .val (.long q1), .second, .val (.long q2), .second, .val (.int p3), .val (.long sv), .second, .val (.long rv), .second, .val (.ref b9), .val (.long r22), .second, .val (.long (rv / sv)), .second, .val (.long (rv % sv)), .second, .val (.long ev), .second, .unset] [])) _
          refine XS.iconst X21.here hx rfl (hb hby at_114) ?_
          show Steps p.tables e below (T21.setTop (mkF m 115 #[.val (.long q0), .second, .val (.long q1), .second, .val (.long q2), .second, .val (.int p3), .val (.long sv), .second, .val (.long rv), .second, .val (.ref b9), .val (.long r22), .second, .val (.long (rv / sv)), .second, .val (.long (rv % sv)), .second, .val (.long ev), .second, .unset] [(.int (1 : Int32))])) _
          refine XS.goto X21.here hx rfl (pc0 := 115) (pc' := 119) rfl (hb hby at_115) (by decide) (by decide) ?_
          show Steps p.tables e below (T21.setTop (mkF m 119 #[.val (.long q0), .second, .val (.long q1), .second, .val (.long q2), .second, .val (.int p3), .val (.long sv), .second, .val (.long rv), .second, .val (.ref b9), .val (.long r22), .second, .val (.long (rv / sv)), .second, .val (.long (rv % sv)), .second, .val (.long ev), .second, .unset] [(.int (1 : Int32))])) _
          refine XS.istore X21.here hx rfl (hb hby at_119) rfl (l' := #[.val (.long q0), .second, .val (.long q1), .second, .val (.long q2), .second, .val (.int p3), .val (.long sv), .second, .val (.long rv), .second, .val (.ref b9), .val (.long r22), .second, .val (.long (rv / sv)), .second, .val (.long (rv % sv)), .second, .val (.long ev), .second, .val (.int (1 : Int32))]) rfl ?_
          exact k
    have P31 : ∀ t, Steps p.tables e below (T21.setTop (mkF m 126 #[.val (.long q0), .second, .val (.long q1), .second, .val (.long q2), .second, .val (.int p3), .val (.long sv), .second, .val (.long rv), .second, .val (.ref b9), .val (.long r22), .second, .val (.long (rv / sv)), .second, .val (.long (rv % sv)), .second, .val (.long ev), .second, .val (.int bz)] [(.int (lcmpW r22 ev))])) t → Steps p.tables e below (s₁.setTop (entryFrame m #[(.long q0), (.long q1), (.long q2), (.int p3)] maxLocals)) t := by
      intro t k
      refine P30 t ?_
      show Steps p.tables e below (T21.setTop (mkF m 121 #[.val (.long q0), .second, .val (.long q1), .second, .val (.long q2), .second, .val (.int p3), .val (.long sv), .second, .val (.long rv), .second, .val (.ref b9), .val (.long r22), .second, .val (.long (rv / sv)), .second, .val (.long (rv % sv)), .second, .val (.long ev), .second, .val (.int bz)] [])) _
      refine XS.lload X21.here hx rfl (hb hby at_121) rfl ?_
      show Steps p.tables e below (T21.setTop (mkF m 123 #[.val (.long q0), .second, .val (.long q1), .second, .val (.long q2), .second, .val (.int p3), .val (.long sv), .second, .val (.long rv), .second, .val (.ref b9), .val (.long r22), .second, .val (.long (rv / sv)), .second, .val (.long (rv % sv)), .second, .val (.long ev), .second, .val (.int bz)] [(.long r22)])) _
      refine XS.lload X21.here hx rfl (hb hby at_123) rfl ?_
      show Steps p.tables e below (T21.setTop (mkF m 125 #[.val (.long q0), .second, .val (.long q1), .second, .val (.long q2), .second, .val (.int p3), .val (.long sv), .second, .val (.long rv), .second, .val (.ref b9), .val (.long r22), .second, .val (.long (rv / sv)), .second, .val (.long (rv % sv)), .second, .val (.long ev), .second, .val (.int bz)] [(.long ev), (.long r22)])) _
      refine XS.lcmp X21.here hx rfl (hb hby at_125) rfl ?_
      exact k
    obtain ⟨bv, hm32, P33⟩ : ∃ (bv : Int32), (((lcmpW r22 ev) = (0 : Int32) ∧ bz = (0 : Int32) ∧ bv = (0 : Int32)) ∨ ((lcmpW r22 ev) = (0 : Int32) ∧ ¬ (bz = (0 : Int32)) ∧ bv = (1 : Int32)) ∨ (¬ ((lcmpW r22 ev) = (0 : Int32)) ∧ bv = (0 : Int32))) ∧ ∀ t, Steps p.tables e below (T21.setTop (mkF m 139 #[.val (.long q0), .second, .val (.long q1), .second, .val (.long q2), .second, .val (.int p3), .val (.long sv), .second, .val (.long rv), .second, .val (.ref b9), .val (.long r22), .second, .val (.long (rv / sv)), .second, .val (.long (rv % sv)), .second, .val (.long ev), .second, .val (.int bz)] [(.int bv)])) t → Steps p.tables e below (s₁.setTop (entryFrame m #[(.long q0), (.long q1), (.long q2), (.int p3)] maxLocals)) t := by
      by_cases hd126_0 : (lcmpW r22 ev) = (0 : Int32)
      ·
        by_cases hd131_1 : bz = (0 : Int32)
        ·
          refine ⟨(0 : Int32), Or.inl ⟨hd126_0, hd131_1, rfl⟩, fun t k => ?_⟩
          refine P31 t ?_
          show Steps p.tables e below (T21.setTop (mkF m 126 #[.val (.long q0), .second, .val (.long q1), .second, .val (.long q2), .second, .val (.int p3), .val (.long sv), .second, .val (.long rv), .second, .val (.ref b9), .val (.long r22), .second, .val (.long (rv / sv)), .second, .val (.long (rv % sv)), .second, .val (.long ev), .second, .val (.int bz)] [(.int (lcmpW r22 ev))])) _
          refine XS.ifNo X21.here hx rfl (hb hby at_126) rfl ((if0 _ _).trans (teq hd126_0).2) ?_
          show Steps p.tables e below (T21.setTop (mkF m 129 #[.val (.long q0), .second, .val (.long q1), .second, .val (.long q2), .second, .val (.int p3), .val (.long sv), .second, .val (.long rv), .second, .val (.ref b9), .val (.long r22), .second, .val (.long (rv / sv)), .second, .val (.long (rv % sv)), .second, .val (.long ev), .second, .val (.int bz)] [])) _
          refine XS.iload X21.here hx rfl (hb hby at_129) rfl ?_
          show Steps p.tables e below (T21.setTop (mkF m 131 #[.val (.long q0), .second, .val (.long q1), .second, .val (.long q2), .second, .val (.int p3), .val (.long sv), .second, .val (.long rv), .second, .val (.ref b9), .val (.long r22), .second, .val (.long (rv / sv)), .second, .val (.long (rv % sv)), .second, .val (.long ev), .second, .val (.int bz)] [(.int bz)])) _
          refine XS.ifYes X21.here hx rfl (pc0 := 131) (pc' := 138) rfl (hb hby at_131) rfl ((if0 _ _).trans (teq hd131_1).1) (by decide) (by decide) ?_
          show Steps p.tables e below (T21.setTop (mkF m 138 #[.val (.long q0), .second, .val (.long q1), .second, .val (.long q2), .second, .val (.int p3), .val (.long sv), .second, .val (.long rv), .second, .val (.ref b9), .val (.long r22), .second, .val (.long (rv / sv)), .second, .val (.long (rv % sv)), .second, .val (.long ev), .second, .val (.int bz)] [])) _
          refine XS.iconst X21.here hx rfl (hb hby at_138) ?_
          exact k
        ·
          refine ⟨(1 : Int32), Or.inr (Or.inl ⟨hd126_0, hd131_1, rfl⟩), fun t k => ?_⟩
          refine P31 t ?_
          show Steps p.tables e below (T21.setTop (mkF m 126 #[.val (.long q0), .second, .val (.long q1), .second, .val (.long q2), .second, .val (.int p3), .val (.long sv), .second, .val (.long rv), .second, .val (.ref b9), .val (.long r22), .second, .val (.long (rv / sv)), .second, .val (.long (rv % sv)), .second, .val (.long ev), .second, .val (.int bz)] [(.int (lcmpW r22 ev))])) _
          refine XS.ifNo X21.here hx rfl (hb hby at_126) rfl ((if0 _ _).trans (teq hd126_0).2) ?_
          show Steps p.tables e below (T21.setTop (mkF m 129 #[.val (.long q0), .second, .val (.long q1), .second, .val (.long q2), .second, .val (.int p3), .val (.long sv), .second, .val (.long rv), .second, .val (.ref b9), .val (.long r22), .second, .val (.long (rv / sv)), .second, .val (.long (rv % sv)), .second, .val (.long ev), .second, .val (.int bz)] [])) _
          refine XS.iload X21.here hx rfl (hb hby at_129) rfl ?_
          show Steps p.tables e below (T21.setTop (mkF m 131 #[.val (.long q0), .second, .val (.long q1), .second, .val (.long q2), .second, .val (.int p3), .val (.long sv), .second, .val (.long rv), .second, .val (.ref b9), .val (.long r22), .second, .val (.long (rv / sv)), .second, .val (.long (rv % sv)), .second, .val (.long ev), .second, .val (.int bz)] [(.int bz)])) _
          refine XS.ifNo X21.here hx rfl (hb hby at_131) rfl ((if0 _ _).trans (feq hd131_1).1) ?_
          show Steps p.tables e below (T21.setTop (mkF m 134 #[.val (.long q0), .second, .val (.long q1), .second, .val (.long q2), .second, .val (.int p3), .val (.long sv), .second, .val (.long rv), .second, .val (.ref b9), .val (.long r22), .second, .val (.long (rv / sv)), .second, .val (.long (rv % sv)), .second, .val (.long ev), .second, .val (.int bz)] [])) _
          refine XS.iconst X21.here hx rfl (hb hby at_134) ?_
          show Steps p.tables e below (T21.setTop (mkF m 135 #[.val (.long q0), .second, .val (.long q1), .second, .val (.long q2), .second, .val (.int p3), .val (.long sv), .second, .val (.long rv), .second, .val (.ref b9), .val (.long r22), .second, .val (.long (rv / sv)), .second, .val (.long (rv % sv)), .second, .val (.long ev), .second, .val (.int bz)] [(.int (1 : Int32))])) _
          refine XS.goto X21.here hx rfl (pc0 := 135) (pc' := 139) rfl (hb hby at_135) (by decide) (by decide) ?_
          exact k
      ·
        refine ⟨(0 : Int32), Or.inr (Or.inr (⟨hd126_0, rfl⟩)), fun t k => ?_⟩
        refine P31 t ?_
        show Steps p.tables e below (T21.setTop (mkF m 126 #[.val (.long q0), .second, .val (.long q1), .second, .val (.long q2), .second, .val (.int p3), .val (.long sv), .second, .val (.long rv), .second, .val (.ref b9), .val (.long r22), .second, .val (.long (rv / sv)), .second, .val (.long (rv % sv)), .second, .val (.long ev), .second, .val (.int bz)] [(.int (lcmpW r22 ev))])) _
        refine XS.ifYes X21.here hx rfl (pc0 := 126) (pc' := 138) rfl (hb hby at_126) rfl ((if0 _ _).trans (feq hd126_0).2) (by decide) (by decide) ?_
        show Steps p.tables e below (T21.setTop (mkF m 138 #[.val (.long q0), .second, .val (.long q1), .second, .val (.long q2), .second, .val (.int p3), .val (.long sv), .second, .val (.long rv), .second, .val (.ref b9), .val (.long r22), .second, .val (.long (rv / sv)), .second, .val (.long (rv % sv)), .second, .val (.long ev), .second, .val (.int bz)] [])) _
        refine XS.iconst X21.here hx rfl (hb hby at_138) ?_
        exact k
    have he2 := hm26
    simp only [lw_eq] at he2
    obtain ⟨f1, f2, f3⟩ := own_cnt rv sv r22 ev hR hS R23 he2
    have hb : bv = 1 := own_close_a r22 bz rv ev bv hm29 hm32 f1 f2 f3
    subst hb
    obtain ⟨fs, hr, hrun, hended, hW, hsame⟩ := X21.leave (v := some (.int (1 : Int32))) (fun h => by rw [Bd.returns] at h; cases h)
    refine ⟨_, _, P33 _ ?_, hrun, hended, _, _, rfl, ?_, ⟨_, rfl⟩, hW, hsame.mono (by decide) (by decide)⟩
    · show Steps p.tables e below (T21.setTop (mkF m 139 #[.val (.long q0), .second, .val (.long q1), .second, .val (.long q2), .second, .val (.int p3), .val (.long sv), .second, .val (.long rv), .second, .val (.ref b9), .val (.long r22), .second, .val (.long (rv / sv)), .second, .val (.long (rv % sv)), .second, .val (.long ev), .second, .val (.int bz)] [(.int (1 : Int32))])) _
      exact retN X21 hx (t := .boolean) Bd.returns (by simp) (hb hby at_139) hr
    · show Q0 Z q0 q1 q2 p3 h0 n0 _ T21.heap _
      rw [R24]
      exact ⟨rfl, N21⟩
  · have P34 : ∀ t, Steps p.tables e below (s₁.setTop (mkF m 46 #[.val (.long q0), .second, .val (.long q1), .second, .val (.long q2), .second, .val (.int p3), .val (.long ((q1 &&& (15 : Int64)) + (1 : Int64))), .second, .val (.long (q2 &&& (255 : Int64))), .second, .unset, .unset, .unset, .unset, .unset, .unset, .unset, .unset, .unset, .unset] [])) t → Steps p.tables e below (s₁.setTop (entryFrame m #[(.long q0), (.long q1), (.long q2), (.int p3)] maxLocals)) t := by
      intro t k
      refine P1 t ?_
      show Steps p.tables e below (s₁.setTop (mkF m 4 #[.val (.long q0), .second, .val (.long q1), .second, .val (.long q2), .second, .val (.int p3), .unset, .unset, .unset, .unset, .unset, .unset, .unset, .unset, .unset, .unset, .unset, .unset, .unset, .unset] [(.int (p3 &&& (1 : Int32)))])) _
      refine XS.ifYes X0.here hx rfl (pc0 := 4) (pc' := 29) rfl (hb hby at_4) rfl ((if0 _ _).trans (feq h1).2) (by decide) (by decide) ?_
      show Steps p.tables e below (s₁.setTop (mkF m 29 #[.val (.long q0), .second, .val (.long q1), .second, .val (.long q2), .second, .val (.int p3), .unset, .unset, .unset, .unset, .unset, .unset, .unset, .unset, .unset, .unset, .unset, .unset, .unset, .unset] [])) _
      refine XS.lloadN X0.here hx rfl (hb hby at_29) rfl ?_
      show Steps p.tables e below (s₁.setTop (mkF m 30 #[.val (.long q0), .second, .val (.long q1), .second, .val (.long q2), .second, .val (.int p3), .unset, .unset, .unset, .unset, .unset, .unset, .unset, .unset, .unset, .unset, .unset, .unset, .unset, .unset] [(.long q1)])) _
      refine X0.ldc2Long hx hown (mvT hZ (hw _ (List.mem_of_getElem? (i := 28) rfl))) (g := (mkF m 30 #[.val (.long q0), .second, .val (.long q1), .second, .val (.long q2), .second, .val (.int p3), .unset, .unset, .unset, .unset, .unset, .unset, .unset, .unset, .unset, .unset, .unset, .unset, .unset, .unset] [(.long q1)])) rfl (hb hby at_30) _ ?_
      show Steps p.tables e below (s₁.setTop (mkF m 33 #[.val (.long q0), .second, .val (.long q1), .second, .val (.long q2), .second, .val (.int p3), .unset, .unset, .unset, .unset, .unset, .unset, .unset, .unset, .unset, .unset, .unset, .unset, .unset, .unset] [(.long (15 : Int64)), (.long q1)])) _
      refine XS.land X0.here hx rfl (hb hby at_33) rfl ?_
      show Steps p.tables e below (s₁.setTop (mkF m 34 #[.val (.long q0), .second, .val (.long q1), .second, .val (.long q2), .second, .val (.int p3), .unset, .unset, .unset, .unset, .unset, .unset, .unset, .unset, .unset, .unset, .unset, .unset, .unset, .unset] [(.long (q1 &&& (15 : Int64)))])) _
      refine XS.lconst X0.here hx rfl (hb hby at_34) ?_
      show Steps p.tables e below (s₁.setTop (mkF m 35 #[.val (.long q0), .second, .val (.long q1), .second, .val (.long q2), .second, .val (.int p3), .unset, .unset, .unset, .unset, .unset, .unset, .unset, .unset, .unset, .unset, .unset, .unset, .unset, .unset] [(.long (1 : Int64)), (.long (q1 &&& (15 : Int64)))])) _
      refine XS.ladd X0.here hx rfl (hb hby at_35) rfl ?_
      show Steps p.tables e below (s₁.setTop (mkF m 36 #[.val (.long q0), .second, .val (.long q1), .second, .val (.long q2), .second, .val (.int p3), .unset, .unset, .unset, .unset, .unset, .unset, .unset, .unset, .unset, .unset, .unset, .unset, .unset, .unset] [(.long ((q1 &&& (15 : Int64)) + (1 : Int64)))])) _
      refine XS.lstore X0.here hx rfl (hb hby at_36) rfl (l' := #[.val (.long q0), .second, .val (.long q1), .second, .val (.long q2), .second, .val (.int p3), .val (.long ((q1 &&& (15 : Int64)) + (1 : Int64))), .second, .unset, .unset, .unset, .unset, .unset, .unset, .unset, .unset, .unset, .unset, .unset, .unset]) rfl ?_
      show Steps p.tables e below (s₁.setTop (mkF m 38 #[.val (.long q0), .second, .val (.long q1), .second, .val (.long q2), .second, .val (.int p3), .val (.long ((q1 &&& (15 : Int64)) + (1 : Int64))), .second, .unset, .unset, .unset, .unset, .unset, .unset, .unset, .unset, .unset, .unset, .unset, .unset] [])) _
      refine XS.lload X0.here hx rfl (hb hby at_38) rfl ?_
      show Steps p.tables e below (s₁.setTop (mkF m 40 #[.val (.long q0), .second, .val (.long q1), .second, .val (.long q2), .second, .val (.int p3), .val (.long ((q1 &&& (15 : Int64)) + (1 : Int64))), .second, .unset, .unset, .unset, .unset, .unset, .unset, .unset, .unset, .unset, .unset, .unset, .unset] [(.long q2)])) _
      refine X0.ldc2Long hx hown (mvT hZ (hw _ (List.mem_of_getElem? (i := 29) rfl))) (g := (mkF m 40 #[.val (.long q0), .second, .val (.long q1), .second, .val (.long q2), .second, .val (.int p3), .val (.long ((q1 &&& (15 : Int64)) + (1 : Int64))), .second, .unset, .unset, .unset, .unset, .unset, .unset, .unset, .unset, .unset, .unset, .unset, .unset] [(.long q2)])) rfl (hb hby at_40) _ ?_
      show Steps p.tables e below (s₁.setTop (mkF m 43 #[.val (.long q0), .second, .val (.long q1), .second, .val (.long q2), .second, .val (.int p3), .val (.long ((q1 &&& (15 : Int64)) + (1 : Int64))), .second, .unset, .unset, .unset, .unset, .unset, .unset, .unset, .unset, .unset, .unset, .unset, .unset] [(.long (255 : Int64)), (.long q2)])) _
      refine XS.land X0.here hx rfl (hb hby at_43) rfl ?_
      show Steps p.tables e below (s₁.setTop (mkF m 44 #[.val (.long q0), .second, .val (.long q1), .second, .val (.long q2), .second, .val (.int p3), .val (.long ((q1 &&& (15 : Int64)) + (1 : Int64))), .second, .unset, .unset, .unset, .unset, .unset, .unset, .unset, .unset, .unset, .unset, .unset, .unset] [(.long (q2 &&& (255 : Int64)))])) _
      refine XS.lstore X0.here hx rfl (hb hby at_44) rfl (l' := #[.val (.long q0), .second, .val (.long q1), .second, .val (.long q2), .second, .val (.int p3), .val (.long ((q1 &&& (15 : Int64)) + (1 : Int64))), .second, .val (.long (q2 &&& (255 : Int64))), .second, .unset, .unset, .unset, .unset, .unset, .unset, .unset, .unset, .unset, .unset]) rfl ?_
      exact k
    obtain ⟨sv, hsv⟩ : ∃ z : Int64, z = ((q1 &&& (15 : Int64)) + (1 : Int64)) := ⟨_, rfl⟩
    have P35 : ∀ t, Steps p.tables e below (s₁.setTop (mkF m 46 #[.val (.long q0), .second, .val (.long q1), .second, .val (.long q2), .second, .val (.int p3), .val (.long sv), .second, .val (.long (q2 &&& (255 : Int64))), .second, .unset, .unset, .unset, .unset, .unset, .unset, .unset, .unset, .unset, .unset] [])) t → Steps p.tables e below (s₁.setTop (entryFrame m #[(.long q0), (.long q1), (.long q2), (.int p3)] maxLocals)) t := by rw [hsv]; exact P34
    obtain ⟨rv, hrv⟩ : ∃ z : Int64, z = (q2 &&& (255 : Int64)) := ⟨_, rfl⟩
    have P36 : ∀ t, Steps p.tables e below (s₁.setTop (mkF m 46 #[.val (.long q0), .second, .val (.long q1), .second, .val (.long q2), .second, .val (.int p3), .val (.long sv), .second, .val (.long rv), .second, .unset, .unset, .unset, .unset, .unset, .unset, .unset, .unset, .unset, .unset] [])) t → Steps p.tables e below (s₁.setTop (entryFrame m #[(.long q0), (.long q1), (.long q2), (.int p3)] maxLocals)) t := by rw [hrv]; exact P35
    have hS : 1 ≤ sv.toInt := by rw [hsv]; exact own_mask15 _
    have hR : 0 ≤ rv.toInt := by rw [hrv]; exact own_mask255 _
    have hnz : sv ≠ (0 : Int64) := fun q => by rw [q] at hS; revert hS; decide
    obtain ⟨T37, h37, X37, e37, E37, A37, D37, -, st37⟩ := newO X0 hx hZ hown (hw _ (List.mem_of_getElem? (i := 5) rfl)) (hw _ (List.mem_of_getElem? (i := 6) rfl)) (hw _ (List.mem_of_getElem? (i := 7) rfl)) e0 (g := (mkF m 46 #[.val (.long q0), .second, .val (.long q1), .second, .val (.long q2), .second, .val (.int p3), .val (.long sv), .second, .val (.long rv), .second, .unset, .unset, .unset, .unset, .unset, .unset, .unset, .unset, .unset, .unset] [])) rfl (hb hby at_46) (by decide) (by decide)
    obtain ⟨b37, g37⟩ : ∃ z, z = h0.size := ⟨_, rfl⟩
    rw [← g37] at A37 D37 st37
    have g_b37 : n0 ≤ b37 := Nat.le_trans Z0 (Nat.le_of_eq g37.symm)
    have Z38 : n0 ≤ h37.size := Nat.le_trans Z0 E37.1
    have F39 : Fld Z h37 b37 "com/example/pricewright/pricewright/service/Page" "number" "J" (.long (0 : Int64)) := D37 (Or.inr (hw _ (List.mem_of_getElem? (i := 20) rfl))) (ty := .long) (by decide)
    have F40 : Fld Z h37 b37 "com/example/pricewright/pricewright/service/Page" "size" "J" (.long (0 : Int64)) := D37 (Or.inr (hw _ (List.mem_of_getElem? (i := 22) rfl))) (ty := .long) (by decide)
    obtain ⟨_, _, ⟨T41, L41, k41, n41⟩, -, X41, ⟨Lc41, hQ41, l41, y41, z41⟩, st41⟩ := X37.specialBack hx (y := (⟨"com/example/pricewright/pricewright/service/Page", "<init>", "(JJ)V"⟩ : MethodName)) rfl hown (mvT hZ (hw _ (List.mem_of_getElem? (i := 8) rfl))) (mvT hZ (hw _ (List.mem_of_getElem? (i := 9) rfl))) (mvT hZ (hw _ (List.mem_of_getElem? (i := 10) rfl))) (by decide) (backOf (W := 1) (rm2 l Z a0 hw [] b37 q0 sv h37 n0 Z38 F39 F40 A37 g_b37) hZ (hw _ (List.mem_of_getElem? (i := 10) rfl)) (hw _ (List.mem_of_getElem? (i := 7) rfl)) (by decide) (by decide)) (g := (mkF m 53 #[.val (.long q0), .second, .val (.long q1), .second, .val (.long q2), .second, .val (.int p3), .val (.long sv), .second, .val (.long rv), .second, .unset, .unset, .unset, .unset, .unset, .unset, .unset, .unset, .unset, .unset] [(.long sv), (.long q0), (.ref b37), (.ref b37)])) rfl (by rw [hml]; rfl) (Steps.refl _) (a := b37) (argsL := [(.long q0), (.long sv)]) (rest := [(.ref b37)]) (lenOf pd_2 rfl) rfl (by show 2 * 0 + _ ≤ _; exact Nat.le_of_eq rfl) (hb hby at_53) (fun _ _ => ⟨rfl, e37, (by decide : 1 + 0 ≤ _), (by decide : 2 + 0 ≤ _)⟩)
    dsimp only [Pt.U, Pt.locs, Pt.cells, Pt.slots] at X41 l41 y41 z41 st41 hQ41
    subst l41 y41 z41
    obtain ⟨rfl, N41q, R42, R43, R44, R45⟩ := hQ41
    have N41 := Fr.app N0 N41q
    have F46 : Exa Z T41.heap b37 "com/example/pricewright/pricewright/service/Page" := A37.keep R42
    have Z47 : n0 ≤ T41.heap.size := Nat.le_trans Z38 R42.1
    have hp48 : sv ≠ (0 : Int64) := hnz
    obtain ⟨cq49, kq49, q49a, q49b, q49c⟩ := isOf hZ rfl R43
    obtain ⟨_, _, ⟨T49, L49, k49, n49⟩, -, X49, ⟨Lc49, hQ49, l49, y49, z49⟩, st49⟩ := X41.virtualBack hx (y := (⟨"com/example/pricewright/pricewright/service/Page", "count", "(J)J"⟩ : MethodName)) (z := (⟨"com/example/pricewright/pricewright/service/Page", "count", "(J)J"⟩ : MethodName)) hown (mvT hZ (hw _ (List.mem_of_getElem? (i := 23) rfl))) (mvT hZ (hw _ (List.mem_of_getElem? (i := 24) rfl))) (notFace_of_selects (args := #[]) (mvT hZ (hw _ (List.mem_of_getElem? (i := 26) rfl)))) (mvT hZ (hw _ (List.mem_of_getElem? (i := 26) rfl))) (mvT hZ (hw _ (List.mem_of_getElem? (i := 25) rfl))) (by decide) (backOf (W := 0) (rm5 l Z a0 hw [] b37 rv sv T41.heap n0 Z47 R45 hp48) hZ (hw _ (List.mem_of_getElem? (i := 27) rfl)) (hw _ (List.mem_of_getElem? (i := 7) rfl)) (by decide) (by decide)) q49a q49c (g := (mkF m 62 #[.val (.long q0), .second, .val (.long q1), .second, .val (.long q2), .second, .val (.int p3), .val (.long sv), .second, .val (.long rv), .second, .val (.ref b37), .unset, .unset, .unset, .unset, .unset, .unset, .unset, .unset, .unset] [(.long rv), (.ref b37)])) rfl (by rw [hml]; rfl) (Steps.refl _) (argsL := [(.long rv)]) (rest := []) (lenOf pd_3 rfl) rfl (by show 2 * 0 + _ ≤ _; exact Nat.le_of_eq rfl) (hb hby at_62) (fun _ _ => ⟨rfl, rfl, (by decide : 1 + 0 ≤ _), (by decide : 2 + 0 ≤ _)⟩)
    dsimp only [Pt.U, Pt.locs, Pt.cells, Pt.slots] at X49 l49 y49 z49 st49 hQ49
    subst l49 y49 z49
    obtain ⟨r50, rfl, N49q, R51, R52⟩ := hQ49
    have N49 := Fr.app N41 N49q
    have P53 : ∀ t, Steps p.tables e below (T49.setTop (mkF m 85 #[.val (.long q0), .second, .val (.long q1), .second, .val (.long q2), .second, .val (.int p3), .val (.long sv), .second, .val (.long rv), .second, .val (.ref b37), .val (.long r50), .second, .val (.long (rv / sv)), .second, .val (.long (rv % sv)), .second, .unset, .unset, .unset] [(.int (lcmpW (rv % sv) (0 : Int64)))])) t → Steps p.tables e below (s₁.setTop (entryFrame m #[(.long q0), (.long q1), (.long q2), (.int p3)] maxLocals)) t := by
      intro t k
      refine P36 t ?_
      show Steps p.tables e below (s₁.setTop (mkF m 46 #[.val (.long q0), .second, .val (.long q1), .second, .val (.long q2), .second, .val (.int p3), .val (.long sv), .second, .val (.long rv), .second, .unset, .unset, .unset, .unset, .unset, .unset, .unset, .unset, .unset, .unset] [])) _
      refine st37 _ ?_
      show Steps p.tables e below (T37.setTop (mkF m 49 #[.val (.long q0), .second, .val (.long q1), .second, .val (.long q2), .second, .val (.int p3), .val (.long sv), .second, .val (.long rv), .second, .unset, .unset, .unset, .unset, .unset, .unset, .unset, .unset, .unset, .unset] [(.ref b37)])) _
      refine XS.dup X37.here hx rfl (hb hby at_49) rfl rfl ?_
      show Steps p.tables e below (T37.setTop (mkF m 50 #[.val (.long q0), .second, .val (.long q1), .second, .val (.long q2), .second, .val (.int p3), .val (.long sv), .second, .val (.long rv), .second, .unset, .unset, .unset, .unset, .unset, .unset, .unset, .unset, .unset, .unset] [(.ref b37), (.ref b37)])) _
      refine XS.lloadN X37.here hx rfl (hb hby at_50) rfl ?_
      show Steps p.tables e below (T37.setTop (mkF m 51 #[.val (.long q0), .second, .val (.long q1), .second, .val (.long q2), .second, .val (.int p3), .val (.long sv), .second, .val (.long rv), .second, .unset, .unset, .unset, .unset, .unset, .unset, .unset, .unset, .unset, .unset] [(.long q0), (.ref b37), (.ref b37)])) _
      refine XS.lload X37.here hx rfl (hb hby at_51) rfl ?_
      show Steps p.tables e below (T37.setTop (mkF m 53 #[.val (.long q0), .second, .val (.long q1), .second, .val (.long q2), .second, .val (.int p3), .val (.long sv), .second, .val (.long rv), .second, .unset, .unset, .unset, .unset, .unset, .unset, .unset, .unset, .unset, .unset] [(.long sv), (.long q0), (.ref b37), (.ref b37)])) _
      refine st41.trans ?_
      show Steps p.tables e below (T41.setTop (mkF m 56 #[.val (.long q0), .second, .val (.long q1), .second, .val (.long q2), .second, .val (.int p3), .val (.long sv), .second, .val (.long rv), .second, .unset, .unset, .unset, .unset, .unset, .unset, .unset, .unset, .unset, .unset] [(.ref b37)])) _
      refine XS.astore X41.here hx rfl (hb hby at_56) rfl rfl (l' := #[.val (.long q0), .second, .val (.long q1), .second, .val (.long q2), .second, .val (.int p3), .val (.long sv), .second, .val (.long rv), .second, .val (.ref b37), .unset, .unset, .unset, .unset, .unset, .unset, .unset, .unset, .unset]) rfl ?_
      show Steps p.tables e below (T41.setTop (mkF m 58 #[.val (.long q0), .second, .val (.long q1), .second, .val (.long q2), .second, .val (.int p3), .val (.long sv), .second, .val (.long rv), .second, .val (.ref b37), .unset, .unset, .unset, .unset, .unset, .unset, .unset, .unset, .unset] [])) _
      refine XS.aload X41.here hx rfl (hb hby at_58) rfl rfl ?_
      show Steps p.tables e below (T41.setTop (mkF m 60 #[.val (.long q0), .second, .val (.long q1), .second, .val (.long q2), .second, .val (.int p3), .val (.long sv), .second, .val (.long rv), .second, .val (.ref b37), .unset, .unset, .unset, .unset, .unset, .unset, .unset, .unset, .unset] [(.ref b37)])) _
      refine XS.lload X41.here hx rfl (hb hby at_60) rfl ?_
      show Steps p.tables e below (T41.setTop (mkF m 62 #[.val (.long q0), .second, .val (.long q1), .second, .val (.long q2), .second, .val (.int p3), .val (.long sv), .second, .val (.long rv), .second, .val (.ref b37), .unset, .unset, .unset, .unset, .unset, .unset, .unset, .unset, .unset] [(.long rv), (.ref b37)])) _
      refine st49.trans ?_
      show Steps p.tables e below (T49.setTop (mkF m 65 #[.val (.long q0), .second, .val (.long q1), .second, .val (.long q2), .second, .val (.int p3), .val (.long sv), .second, .val (.long rv), .second, .val (.ref b37), .unset, .unset, .unset, .unset, .unset, .unset, .unset, .unset, .unset] [(.long r50)])) _
      refine XS.lstore X49.here hx rfl (hb hby at_65) rfl (l' := #[.val (.long q0), .second, .val (.long q1), .second, .val (.long q2), .second, .val (.int p3), .val (.long sv), .second, .val (.long rv), .second, .val (.ref b37), .val (.long r50), .second, .unset, .unset, .unset, .unset, .unset, .unset, .unset]) rfl ?_
      show Steps p.tables e below (T49.setTop (mkF m 67 #[.val (.long q0), .second, .val (.long q1), .second, .val (.long q2), .second, .val (.int p3), .val (.long sv), .second, .val (.long rv), .second, .val (.ref b37), .val (.long r50), .second, .unset, .unset, .unset, .unset, .unset, .unset, .unset] [])) _
      refine XS.lload X49.here hx rfl (hb hby at_67) rfl ?_
      show Steps p.tables e below (T49.setTop (mkF m 69 #[.val (.long q0), .second, .val (.long q1), .second, .val (.long q2), .second, .val (.int p3), .val (.long sv), .second, .val (.long rv), .second, .val (.ref b37), .val (.long r50), .second, .unset, .unset, .unset, .unset, .unset, .unset, .unset] [(.long rv)])) _
      refine XS.lload X49.here hx rfl (hb hby at_69) rfl ?_
      show Steps p.tables e below (T49.setTop (mkF m 71 #[.val (.long q0), .second, .val (.long q1), .second, .val (.long q2), .second, .val (.int p3), .val (.long sv), .second, .val (.long rv), .second, .val (.ref b37), .val (.long r50), .second, .unset, .unset, .unset, .unset, .unset, .unset, .unset] [(.long sv), (.long rv)])) _
      refine XS.ldiv X49.here hx rfl (hb hby at_71) rfl hnz ?_
      show Steps p.tables e below (T49.setTop (mkF m 72 #[.val (.long q0), .second, .val (.long q1), .second, .val (.long q2), .second, .val (.int p3), .val (.long sv), .second, .val (.long rv), .second, .val (.ref b37), .val (.long r50), .second, .unset, .unset, .unset, .unset, .unset, .unset, .unset] [(.long (rv / sv))])) _
      refine XS.lstore X49.here hx rfl (hb hby at_72) rfl (l' := #[.val (.long q0), .second, .val (.long q1), .second, .val (.long q2), .second, .val (.int p3), .val (.long sv), .second, .val (.long rv), .second, .val (.ref b37), .val (.long r50), .second, .val (.long (rv / sv)), .second, .unset, .unset, .unset, .unset, .unset]) rfl ?_
      show Steps p.tables e below (T49.setTop (mkF m 74 #[.val (.long q0), .second, .val (.long q1), .second, .val (.long q2), .second, .val (.int p3), .val (.long sv), .second, .val (.long rv), .second, .val (.ref b37), .val (.long r50), .second, .val (.long (rv / sv)), .second, .unset, .unset, .unset, .unset, .unset] [])) _
      refine XS.lload X49.here hx rfl (hb hby at_74) rfl ?_
      show Steps p.tables e below (T49.setTop (mkF m 76 #[.val (.long q0), .second, .val (.long q1), .second, .val (.long q2), .second, .val (.int p3), .val (.long sv), .second, .val (.long rv), .second, .val (.ref b37), .val (.long r50), .second, .val (.long (rv / sv)), .second, .unset, .unset, .unset, .unset, .unset] [(.long rv)])) _
      refine XS.lload X49.here hx rfl (hb hby at_76) rfl ?_
      show Steps p.tables e below (T49.setTop (mkF m 78 #[.val (.long q0), .second, .val (.long q1), .second, .val (.long q2), .second, .val (.int p3), .val (.long sv), .second, .val (.long rv), .second, .val (.ref b37), .val (.long r50), .second, .val (.long (rv / sv)), .second, .unset, .unset, .unset, .unset, .unset] [(.long sv), (.long rv)])) _
      refine XS.lrem X49.here hx rfl (hb hby at_78) rfl hnz ?_
      rw [lrem_mod]
      show Steps p.tables e below (T49.setTop (mkF m 79 #[.val (.long q0), .second, .val (.long q1), .second, .val (.long q2), .second, .val (.int p3), .val (.long sv), .second, .val (.long rv), .second, .val (.ref b37), .val (.long r50), .second, .val (.long (rv / sv)), .second, .unset, .unset, .unset, .unset, .unset] [(.long (rv % sv))])) _
      refine XS.lstore X49.here hx rfl (hb hby at_79) rfl (l' := #[.val (.long q0), .second, .val (.long q1), .second, .val (.long q2), .second, .val (.int p3), .val (.long sv), .second, .val (.long rv), .second, .val (.ref b37), .val (.long r50), .second, .val (.long (rv / sv)), .second, .val (.long (rv % sv)), .second, .unset, .unset, .unset]) rfl ?_
      show Steps p.tables e below (T49.setTop (mkF m 81 #[.val (.long q0), .second, .val (.long q1), .second, .val (.long q2), .second, .val (.int p3), .val (.long sv), .second, .val (.long rv), .second, .val (.ref b37), .val (.long r50), .second, .val (.long (rv / sv)), .second, .val (.long (rv % sv)), .second, .unset, .unset, .unset] [])) _
      refine XS.lload X49.here hx rfl (hb hby at_81) rfl ?_
      show Steps p.tables e below (T49.setTop (mkF m 83 #[.val (.long q0), .second, .val (.long q1), .second, .val (.long q2), .second, .val (.int p3), .val (.long sv), .second, .val (.long rv), .second, .val (.ref b37), .val (.long r50), .second, .val (.long (rv / sv)), .second, .val (.long (rv % sv)), .second, .unset, .unset, .unset] [(.long (rv % sv))])) _
      refine XS.lconst X49.here hx rfl (hb hby at_83) ?_
      show Steps p.tables e below (T49.setTop (mkF m 84 #[.val (.long q0), .second, .val (.long q1), .second, .val (.long q2), .second, .val (.int p3), .val (.long sv), .second, .val (.long rv), .second, .val (.ref b37), .val (.long r50), .second, .val (.long (rv / sv)), .second, .val (.long (rv % sv)), .second, .unset, .unset, .unset] [(.long (0 : Int64)), (.long (rv % sv))])) _
      refine XS.lcmp X49.here hx rfl (hb hby at_84) rfl ?_
      exact k
    obtain ⟨ev, hm54, P55⟩ : ∃ (ev : Int64), (((lcmpW (rv % sv) (0 : Int64)) = (0 : Int32) ∧ ev = (rv / sv)) ∨ (¬ ((lcmpW (rv % sv) (0 : Int64)) = (0 : Int32)) ∧ ev = ((rv / sv) + (1 : Int64)))) ∧ ∀ t, Steps p.tables e below (T49.setTop (mkF m 97 #[.val (.long q0), .second, .val (.long q1), .second, .val (.long q2), .second, .val (.int p3), .val (.long sv), .second, .val (.long rv), .second, .val (.ref b37), .val (.long r50), .second, .val (.long (rv / sv)), .second, .val (.long (rv % sv)), .second, .unset, .unset, .unset] [(.long ev)])) t → Steps p.tables e below (s₁.setTop (entryFrame m #[(.long q0), (.long q1), (.long q2), (.int p3)] maxLocals)) t := by
      by_cases hd85_0 : (lcmpW (rv % sv) (0 : Int64)) = (0 : Int32)
      ·
        refine ⟨(rv / sv), Or.inl ⟨hd85_0, rfl⟩, fun t k => ?_⟩
        refine P53 t ?_
        show Steps p.tables e below (T49.setTop (mkF m 85 #[.val (.long q0), .second, .val (.long q1), .second, .val (.long q2), .second, .val (.int p3), .val (.long sv), .second, .val (.long rv), .second, .val (.ref b37), .val (.long r50), .second, .val (.long (rv / sv)), .second, .val (.long (rv % sv)), .second, .unset, .unset, .unset] [(.int (lcmpW (rv % sv) (0 : Int64)))])) _
        refine XS.ifNo X49.here hx rfl (hb hby at_85) rfl ((if0 _ _).trans (teq hd85_0).2) ?_
        show Steps p.tables e below (T49.setTop (mkF m 88 #[.val (.long q0), .second, .val (.long q1), .second, .val (.long q2), .second, .val (.int p3), .val (.long sv), .second, .val (.long rv), .second, .val (.ref b37), .val (.long r50), .second, .val (.long (rv / sv)), .second, .val (.long (rv % sv)), .second, .unset, .unset, .unset] [])) _
        refine XS.lload X49.here hx rfl (hb hby at_88) rfl ?_
        show Steps p.tables e below (T49.setTop (mkF m 90 #[.val (.long q0), .second, .val (.long q1), .second, .val (.long q2), .second, .val (.int p3), .val (.long sv), .second, .val (.long rv), .second, .val (.ref b37), .val (.long r50), .second, .val (.long (rv / sv)), .second, .val (.long (rv % sv)), .second, .unset, .unset, .unset] [(.long (rv / sv))])) _
        refine XS.goto X49.here hx rfl (pc0 := 90) (pc' := 97) rfl (hb hby at_90) (by decide) (by decide) ?_
        exact k
      ·
        refine ⟨((rv / sv) + (1 : Int64)), Or.inr (⟨hd85_0, rfl⟩), fun t k => ?_⟩
        refine P53 t ?_
        show Steps p.tables e below (T49.setTop (mkF m 85 #[.val (.long q0), .second, .val (.long q1), .second, .val (.long q2), .second, .val (.int p3), .val (.long sv), .second, .val (.long rv), .second, .val (.ref b37), .val (.long r50), .second, .val (.long (rv / sv)), .second, .val (.long (rv % sv)), .second, .unset, .unset, .unset] [(.int (lcmpW (rv % sv) (0 : Int64)))])) _
        refine XS.ifYes X49.here hx rfl (pc0 := 85) (pc' := 93) rfl (hb hby at_85) rfl ((if0 _ _).trans (feq hd85_0).2) (by decide) (by decide) ?_
        show Steps p.tables e below (T49.setTop (mkF m 93 #[.val (.long q0), .second, .val (.long q1), .second, .val (.long q2), .second, .val (.int p3), .val (.long sv), .second, .val (.long rv), .second, .val (.ref b37), .val (.long r50), .second, .val (.long (rv / sv)), .second, .val (.long (rv % sv)), .second, .unset, .unset, .unset] [])) _
        refine XS.lload X49.here hx rfl (hb hby at_93) rfl ?_
        show Steps p.tables e below (T49.setTop (mkF m 95 #[.val (.long q0), .second, .val (.long q1), .second, .val (.long q2), .second, .val (.int p3), .val (.long sv), .second, .val (.long rv), .second, .val (.ref b37), .val (.long r50), .second, .val (.long (rv / sv)), .second, .val (.long (rv % sv)), .second, .unset, .unset, .unset] [(.long (rv / sv))])) _
        refine XS.lconst X49.here hx rfl (hb hby at_95) ?_
        show Steps p.tables e below (T49.setTop (mkF m 96 #[.val (.long q0), .second, .val (.long q1), .second, .val (.long q2), .second, .val (.int p3), .val (.long sv), .second, .val (.long rv), .second, .val (.ref b37), .val (.long r50), .second, .val (.long (rv / sv)), .second, .val (.long (rv % sv)), .second, .unset, .unset, .unset] [(.long (1 : Int64)), (.long (rv / sv))])) _
        refine XS.ladd X49.here hx rfl (hb hby at_96) rfl ?_
        exact k
    have P56 : ∀ t, Steps p.tables e below (T49.setTop (mkF m 103 #[.val (.long q0), .second, .val (.long q1), .second, .val (.long q2), .second, .val (.int p3), .val (.long sv), .second, .val (.long rv), .second, .val (.ref b37), .val (.long r50), .second, .val (.long (rv / sv)), .second, .val (.long (rv % sv)), .second, .val (.long ev), .second, .unset] [(.int (lcmpW r50 (0 : Int64)))])) t → Steps p.tables e below (s₁.setTop (entryFrame m #[(.long q0), (.long q1), (.long q2), (.int p3)] maxLocals)) t := by
      intro t k
      refine P55 t ?_
      show Steps p.tables e below (T49.setTop (mkF m 97 #[.val (.long q0), .second, .val (.long q1), .second, .val (.long q2), .second, .val (.int p3), .val (.long sv), .second, .val (.long rv), .second, .val (.ref b37), .val (.long r50), .second, .val (.long (rv / sv)), .second, .val (.long (rv % sv)), .second, .unset, .unset, .unset] [(.long ev)])) _
      refine XS.lstore X49.here hx rfl (hb hby at_97) rfl (l' := #[.val (.long q0), .second, .val (.long q1), .second, .val (.long q2), .second, .val (.int p3), .val (.long sv), .second, .val (.long rv), .second, .val (.ref b37), .val (.long r50), .second, .val (.long (rv / sv)), .second, .val (.long (rv % sv)), .second, .val (.long ev), .second, .unset]) rfl ?_
      show Steps p.tables e below (T49.setTop (mkF m 99 #[.val (.long q0), .second, .val (.long q1), .second, .val (.long q2), .second, .val (.int p3), .val (.long sv), .second, .val (.long rv), .second, .val (.ref b37), .val (.long r50), .second, .val (.long (rv / sv)), .second, .val (.long (rv % sv)), .second, .val (.long ev), .second, .unset] [])) _
      refine XS.lload X49.here hx rfl (hb hby at_99) rfl ?_
      show Steps p.tables e below (T49.setTop (mkF m 101 #[.val (.long q0), .second, .val (.long q1), .second, .val (.long q2), .second, .val (.int p3), .val (.long sv), .second, .val (.long rv), .second, .val (.ref b37), .val (.long r50), .second, .val (.long (rv / sv)), .second, .val (.long (rv % sv)), .second, .val (.long ev), .second, .unset] [(.long r50)])) _
      refine XS.lconst X49.here hx rfl (hb hby at_101) ?_
      show Steps p.tables e below (T49.setTop (mkF m 102 #[.val (.long q0), .second, .val (.long q1), .second, .val (.long q2), .second, .val (.int p3), .val (.long sv), .second, .val (.long rv), .second, .val (.ref b37), .val (.long r50), .second, .val (.long (rv / sv)), .second, .val (.long (rv % sv)), .second, .val (.long ev), .second, .unset] [(.long (0 : Int64)), (.long r50)])) _
      refine XS.lcmp X49.here hx rfl (hb hby at_102) rfl ?_
      exact k
    obtain ⟨bz, hm57, P58⟩ : ∃ (bz : Int32), (((lcmpW r50 (0 : Int64)) < (0 : Int32) ∧ bz = (0 : Int32)) ∨ (¬ ((lcmpW r50 (0 : Int64)) < (0 : Int32)) ∧ (0 : Int32) < (lcmpW r50 rv) ∧ bz = (0 : Int32)) ∨ (¬ ((lcmpW r50 (0 : Int64)) < (0 : Int32)) ∧ ¬ ((0 : Int32) < (lcmpW r50 rv)) ∧ bz = (1 : Int32))) ∧ ∀ t, Steps p.tables e below (T49.setTop (mkF m 121 #[.val (.long q0), .second, .val (.long q1), .second, .val (.long q2), .second, .val (.int p3), .val (.long sv), .second, .val (.long rv), .second, .val (.ref b37), .val (.long r50), .second, .val (.long (rv / sv)), .second, .val (.long (rv % sv)), .second, .val (.long ev), .second, .val (.int bz)] [])) t → Steps p.tables e below (s₁.setTop (entryFrame m #[(.long q0), (.long q1), (.long q2), (.int p3)] maxLocals)) t := by
      by_cases hd103_0 : (lcmpW r50 (0 : Int64)) < (0 : Int32)
      ·
        refine ⟨(0 : Int32), Or.inl ⟨hd103_0, rfl⟩, fun t k => ?_⟩
        refine P56 t ?_
        show Steps p.tables e below (T49.setTop (mkF m 103 #[.val (.long q0), .second, .val (.long q1), .second, .val (.long q2), .second, .val (.int p3), .val (.long sv), .second, .val (.long rv), .second, .val (.ref b37), .val (.long r50), .second, .val (.long (rv / sv)), .second, .val (.long (rv % sv)), .second, .val (.long ev), .second, .unset] [(.int (lcmpW r50 (0 : Int64)))])) _
        refine XS.ifYes X49.here hx rfl (pc0 := 103) (pc' := 118) rfl (hb hby at_103) rfl ((if0 _ _).trans (tlt hd103_0).1) (by decide) (by decide) ?_
        show Steps p.tables e below (T49.setTop (mkF m 118 #[.val (.long q0), .second, .val (.long q1), .second, .val (.long q2), .second, .val (.int p3), .val (.long sv), .second, .val (.long rv), .second, .val (.ref b37), .val (.long r50), .second, .val (.long (rv / sv)), .second, .val (.long (rv % sv)), .second, .val (.long ev), .second, .unset] [])) _
        refine XS.iconst X49.here hx rfl (hb hby at_118) ?_
        show Steps p.tables e below (T49.setTop (mkF m 119 #[.val (.long q0), .second, .val (.long q1), .second, .val (.long q2), .second, .val (.int p3), .val (.long sv), .second, .val (.long rv), .second, .val (.ref b37), .val (.long r50), .second, .val (.long (rv / sv)), .second, .val (.long (rv % sv)), .second, .val (.long ev), .second, .unset] [(.int (0 : Int32))])) _
        refine XS.istore X49.here hx rfl (hb hby at_119) rfl (l' := #[.val (.long q0), .second, .val (.long q1), .second, .val (.long q2), .second, .val (.int p3), .val (.long sv), .second, .val (.long rv), .second, .val (.ref b37), .val (.long r50), .second, .val (.long (rv / sv)), .second, .val (.long (rv % sv)), .second, .val (.long ev), .second, .val (.int (0 : Int32))]) rfl ?_
        exact k
      ·
        by_cases hd111_1 : (0 : Int32) < (lcmpW r50 rv)
        ·
          refine ⟨(0 : Int32), Or.inr (Or.inl ⟨hd103_0, hd111_1, rfl⟩), fun t k => ?_⟩
          refine P56 t ?_
          show Steps p.tables e below (T49.setTop (mkF m 103 #[.val (.long q0), .second, .val (.long q1), .second, .val (.long q2), .second, .val (.int p3), .val (.long sv), .second, .val (.long rv), .second, .val (.ref b37), .val (.long r50), .second, .val (.long (rv / sv)), .second, .val (.long (rv % sv)), .second, .val (.long ev), .second, .unset] [(.int (lcmpW r50 (0 : Int64)))])) _
          refine XS.ifNo X49.here hx rfl (hb hby at_103) rfl ((if0 _ _).trans (flt hd103_0).1) ?_
          show Steps p.tables e below (T49.setTop (mkF m 106 #[.val (.long q0), .second, .val (.long q1), .second, .val (.long q2), .second, .val (.int p3), .val (.long sv), .second, .val (.long rv), .second, .val (.ref b37), .val (.long r50), .second, .val (.long (rv / sv)), .second, .val (.long (rv % sv)), .second, .val (.long ev), .second, .unset] [])) _
          refine XS.lload X49.here hx rfl (hb hby at_106) rfl ?_
          show Steps p.tables e below (T49.setTop (mkF m 108 #[.val (.long q0), .second, .val (.long q1), .second, .val (.long q2), .second, .val (.int p3), .val (.long sv), .second, .val (.long rv), .second, .val (.ref b37), .val (.long r50), .second, .val (.long (rv / sv)), .second, .val (.long (rv % sv)), .second, .val (.long ev), .second, .unset] [(.long r50)])) _
          refine XS.lload X49.here hx rfl (hb hby at_108) rfl ?_
          show Steps p.tables e below (T49.setTop (mkF m 110 #[.val (.long q0), .second, .val (.long q1), .second, .val (.long q2), .second, .val (.int p3), .val (.long sv), .second, .val (.long rv), .second, .val (.ref b37), .val (.long r50), .second, .val (.long (rv / sv)), .second, .val (.long (rv % sv)), .second, .val (.long ev), .second, .unset] [(.long rv), (.long r50)])) _
          refine XS.lcmp X49.here hx rfl (hb hby at_110) rfl ?_
          show Steps p.tables e below (T49.setTop (mkF m 111 #[.val (.long q0), .second, .val (.long q1), .second, .val (.long q2), .second, .val (.int p3), .val (.long sv), .second, .val (.long rv), .second, .val (.ref b37), .val (.long r50), .second, .val (.long (rv / sv)), .second, .val (.long (rv % sv)), .second, .val (.long ev), .second, .unset] [(.int (lcmpW r50 rv))])) _
          refine XS.ifYes X49.here hx rfl (pc0 := 111) (pc' := 118) rfl (hb hby at_111) rfl ((if0 _ _).trans (tlt hd111_1).2.2.1) (by decide) (by decide) ?_
          show Steps p.tables e below (T49.setTop (mkF m 118 #[.val (.long q0), .second, .val (.long q1), .second, .val (.long q2), .second, .val (.int p3), .val (.long sv), .second, .val (.long rv), .second, .val (.ref b37), .val (.long r50), .second, .val (.long (rv / sv)), .second, .val (.long (rv % sv)), .second, .val (.long ev), .second, .unset] [])) _
          refine XS.iconst X49.here hx rfl (hb hby at_118) ?_
          show Steps p.tables e below (T49.setTop (mkF m 119 #[.val (.long q0), .second, .val (.long q1), .second, .val (.long q2), .second, .val (.int p3), .val (.long sv), .second, .val (.long rv), .second, .val (.ref b37), .val (.long r50), .second, .val (.long (rv / sv)), .second, .val (.long (rv % sv)), .second, .val (.long ev), .second, .unset] [(.int (0 : Int32))])) _
          refine XS.istore X49.here hx rfl (hb hby at_119) rfl (l' := #[.val (.long q0), .second, .val (.long q1), .second, .val (.long q2), .second, .val (.int p3), .val (.long sv), .second, .val (.long rv), .second, .val (.ref b37), .val (.long r50), .second, .val (.long (rv / sv)), .second, .val (.long (rv % sv)), .second, .val (.long ev), .second, .val (.int (0 : Int32))]) rfl ?_
          exact k
        ·
          refine ⟨(1 : Int32), Or.inr (Or.inr (⟨hd103_0, hd111_1, rfl⟩)), fun t k => ?_⟩
          refine P56 t ?_
          show Steps p.tables e below (T49.setTop (mkF m 103 #[.val (.long q0), .second, .val (.long q1), .second, .val (.long q2), .second, .val (.int p3), .val (.long sv), .second, .val (.long rv), .second, .val (.ref b37), .val (.long r50), .second, .val (.long (rv / sv)), .second, .val (.long (rv % sv)), .second, .val (.long ev), .second, .unset] [(.int (lcmpW r50 (0 : Int64)))])) _
          refine XS.ifNo X49.here hx rfl (hb hby at_103) rfl ((if0 _ _).trans (flt hd103_0).1) ?_
          show Steps p.tables e below (T49.setTop (mkF m 106 #[.val (.long q0), .second, .val (.long q1), .second, .val (.long q2), .second, .val (.int p3), .val (.long sv), .second, .val (.long rv), .second, .val (.ref b37), .val (.long r50), .second, .val (.long (rv / sv)), .second, .val (.long (rv % sv)), .second, .val (.long ev), .second, .unset] [])) _
          refine XS.lload X49.here hx rfl (hb hby at_106) rfl ?_
          show Steps p.tables e below (T49.setTop (mkF m 108 #[.val (.long q0), .second, .val (.long q1), .second, .val (.long q2), .second, .val (.int p3), .val (.long sv), .second, .val (.long rv), .second, .val (.ref b37), .val (.long r50), .second, .val (.long (rv / sv)), .second, .val (.long (rv % sv)), .second, .val (.long ev), .second, .unset] [(.long r50)])) _
          refine XS.lload X49.here hx rfl (hb hby at_108) rfl ?_
          show Steps p.tables e below (T49.setTop (mkF m 110 #[.val (.long q0), .second, .val (.long q1), .second, .val (.long q2), .second, .val (.int p3), .val (.long sv), .second, .val (.long rv), .second, .val (.ref b37), .val (.long r50), .second, .val (.long (rv / sv)), .second, .val (.long (rv % sv)), .second, .val (.long ev), .second, .unset] [(.long rv), (.long r50)])) _
          refine XS.lcmp X49.here hx rfl (hb hby at_110) rfl ?_
          show Steps p.tables e below (T49.setTop (mkF m 111 #[.val (.long q0), .second, .val (.long q1), .second, .val (.long q2), .second, .val (.int p3), .val (.long sv), .second, .val (.long rv), .second, .val (.ref b37), .val (.long r50), .second, .val (.long (rv / sv)), .second, .val (.long (rv % sv)), .second, .val (.long ev), .second, .unset] [(.int (lcmpW r50 rv))])) _
          refine XS.ifNo X49.here hx rfl (hb hby at_111) rfl ((if0 _ _).trans (flt hd111_1).2.2.1) ?_
          show Steps p.tables e below (T49.setTop (mkF m 114 #[.val (.long q0), .second, .val (.long q1), .second, .val (.long q2), .second, .val (.int p3), .val (.long sv), .second, .val (.long rv), .second, .val (.ref b37), .val (.long r50), .second, .val (.long (rv / sv)), .second, .val (.long (rv % sv)), .second, .val (.long ev), .second, .unset] [])) _
          refine XS.iconst X49.here hx rfl (hb hby at_114) ?_
          show Steps p.tables e below (T49.setTop (mkF m 115 #[.val (.long q0), .second, .val (.long q1), .second, .val (.long q2), .second, .val (.int p3), .val (.long sv), .second, .val (.long rv), .second, .val (.ref b37), .val (.long r50), .second, .val (.long (rv / sv)), .second, .val (.long (rv % sv)), .second, .val (.long ev), .second, .unset] [(.int (1 : Int32))])) _
          refine XS.goto X49.here hx rfl (pc0 := 115) (pc' := 119) rfl (hb hby at_115) (by decide) (by decide) ?_
          show Steps p.tables e below (T49.setTop (mkF m 119 #[.val (.long q0), .second, .val (.long q1), .second, .val (.long q2), .second, .val (.int p3), .val (.long sv), .second, .val (.long rv), .second, .val (.ref b37), .val (.long r50), .second, .val (.long (rv / sv)), .second, .val (.long (rv % sv)), .second, .val (.long ev), .second, .unset] [(.int (1 : Int32))])) _
          refine XS.istore X49.here hx rfl (hb hby at_119) rfl (l' := #[.val (.long q0), .second, .val (.long q1), .second, .val (.long q2), .second, .val (.int p3), .val (.long sv), .second, .val (.long rv), .second, .val (.ref b37), .val (.long r50), .second, .val (.long (rv / sv)), .second, .val (.long (rv % sv)), .second, .val (.long ev), .second, .val (.int (1 : Int32))]) rfl ?_
          exact k
    have P59 : ∀ t, Steps p.tables e below (T49.setTop (mkF m 126 #[.val (.long q0), .second, .val (.long q1), .second, .val (.long q2), .second, .val (.int p3), .val (.long sv), .second, .val (.long rv), .second, .val (.ref b37), .val (.long r50), .second, .val (.long (rv / sv)), .second, .val (.long (rv % sv)), .second, .val (.long ev), .second, .val (.int bz)] [(.int (lcmpW r50 ev))])) t → Steps p.tables e below (s₁.setTop (entryFrame m #[(.long q0), (.long q1), (.long q2), (.int p3)] maxLocals)) t := by
      intro t k
      refine P58 t ?_
      show Steps p.tables e below (T49.setTop (mkF m 121 #[.val (.long q0), .second, .val (.long q1), .second, .val (.long q2), .second, .val (.int p3), .val (.long sv), .second, .val (.long rv), .second, .val (.ref b37), .val (.long r50), .second, .val (.long (rv / sv)), .second, .val (.long (rv % sv)), .second, .val (.long ev), .second, .val (.int bz)] [])) _
      refine XS.lload X49.here hx rfl (hb hby at_121) rfl ?_
      show Steps p.tables e below (T49.setTop (mkF m 123 #[.val (.long q0), .second, .val (.long q1), .second, .val (.long q2), .second, .val (.int p3), .val (.long sv), .second, .val (.long rv), .second, .val (.ref b37), .val (.long r50), .second, .val (.long (rv / sv)), .second, .val (.long (rv % sv)), .second, .val (.long ev), .second, .val (.int bz)] [(.long r50)])) _
      refine XS.lload X49.here hx rfl (hb hby at_123) rfl ?_
      show Steps p.tables e below (T49.setTop (mkF m 125 #[.val (.long q0), .second, .val (.long q1), .second, .val (.long q2), .second, .val (.int p3), .val (.long sv), .second, .val (.long rv), .second, .val (.ref b37), .val (.long r50), .second, .val (.long (rv / sv)), .second, .val (.long (rv % sv)), .second, .val (.long ev), .second, .val (.int bz)] [(.long ev), (.long r50)])) _
      refine XS.lcmp X49.here hx rfl (hb hby at_125) rfl ?_
      exact k
    obtain ⟨bv, hm60, P61⟩ : ∃ (bv : Int32), (((lcmpW r50 ev) = (0 : Int32) ∧ bz = (0 : Int32) ∧ bv = (0 : Int32)) ∨ ((lcmpW r50 ev) = (0 : Int32) ∧ ¬ (bz = (0 : Int32)) ∧ bv = (1 : Int32)) ∨ (¬ ((lcmpW r50 ev) = (0 : Int32)) ∧ bv = (0 : Int32))) ∧ ∀ t, Steps p.tables e below (T49.setTop (mkF m 139 #[.val (.long q0), .second, .val (.long q1), .second, .val (.long q2), .second, .val (.int p3), .val (.long sv), .second, .val (.long rv), .second, .val (.ref b37), .val (.long r50), .second, .val (.long (rv / sv)), .second, .val (.long (rv % sv)), .second, .val (.long ev), .second, .val (.int bz)] [(.int bv)])) t → Steps p.tables e below (s₁.setTop (entryFrame m #[(.long q0), (.long q1), (.long q2), (.int p3)] maxLocals)) t := by
      by_cases hd126_0 : (lcmpW r50 ev) = (0 : Int32)
      ·
        by_cases hd131_1 : bz = (0 : Int32)
        ·
          refine ⟨(0 : Int32), Or.inl ⟨hd126_0, hd131_1, rfl⟩, fun t k => ?_⟩
          refine P59 t ?_
          show Steps p.tables e below (T49.setTop (mkF m 126 #[.val (.long q0), .second, .val (.long q1), .second, .val (.long q2), .second, .val (.int p3), .val (.long sv), .second, .val (.long rv), .second, .val (.ref b37), .val (.long r50), .second, .val (.long (rv / sv)), .second, .val (.long (rv % sv)), .second, .val (.long ev), .second, .val (.int bz)] [(.int (lcmpW r50 ev))])) _
          refine XS.ifNo X49.here hx rfl (hb hby at_126) rfl ((if0 _ _).trans (teq hd126_0).2) ?_
          show Steps p.tables e below (T49.setTop (mkF m 129 #[.val (.long q0), .second, .val (.long q1), .second, .val (.long q2), .second, .val (.int p3), .val (.long sv), .second, .val (.long rv), .second, .val (.ref b37), .val (.long r50), .second, .val (.long (rv / sv)), .second, .val (.long (rv % sv)), .second, .val (.long ev), .second, .val (.int bz)] [])) _
          refine XS.iload X49.here hx rfl (hb hby at_129) rfl ?_
          show Steps p.tables e below (T49.setTop (mkF m 131 #[.val (.long q0), .second, .val (.long q1), .second, .val (.long q2), .second, .val (.int p3), .val (.long sv), .second, .val (.long rv), .second, .val (.ref b37), .val (.long r50), .second, .val (.long (rv / sv)), .second, .val (.long (rv % sv)), .second, .val (.long ev), .second, .val (.int bz)] [(.int bz)])) _
          refine XS.ifYes X49.here hx rfl (pc0 := 131) (pc' := 138) rfl (hb hby at_131) rfl ((if0 _ _).trans (teq hd131_1).1) (by decide) (by decide) ?_
          show Steps p.tables e below (T49.setTop (mkF m 138 #[.val (.long q0), .second, .val (.long q1), .second, .val (.long q2), .second, .val (.int p3), .val (.long sv), .second, .val (.long rv), .second, .val (.ref b37), .val (.long r50), .second, .val (.long (rv / sv)), .second, .val (.long (rv % sv)), .second, .val (.long ev), .second, .val (.int bz)] [])) _
          refine XS.iconst X49.here hx rfl (hb hby at_138) ?_
          exact k
        ·
          refine ⟨(1 : Int32), Or.inr (Or.inl ⟨hd126_0, hd131_1, rfl⟩), fun t k => ?_⟩
          refine P59 t ?_
          show Steps p.tables e below (T49.setTop (mkF m 126 #[.val (.long q0), .second, .val (.long q1), .second, .val (.long q2), .second, .val (.int p3), .val (.long sv), .second, .val (.long rv), .second, .val (.ref b37), .val (.long r50), .second, .val (.long (rv / sv)), .second, .val (.long (rv % sv)), .second, .val (.long ev), .second, .val (.int bz)] [(.int (lcmpW r50 ev))])) _
          refine XS.ifNo X49.here hx rfl (hb hby at_126) rfl ((if0 _ _).trans (teq hd126_0).2) ?_
          show Steps p.tables e below (T49.setTop (mkF m 129 #[.val (.long q0), .second, .val (.long q1), .second, .val (.long q2), .second, .val (.int p3), .val (.long sv), .second, .val (.long rv), .second, .val (.ref b37), .val (.long r50), .second, .val (.long (rv / sv)), .second, .val (.long (rv % sv)), .second, .val (.long ev), .second, .val (.int bz)] [])) _
          refine XS.iload X49.here hx rfl (hb hby at_129) rfl ?_
          show Steps p.tables e below (T49.setTop (mkF m 131 #[.val (.long q0), .second, .val (.long q1), .second, .val (.long q2), .second, .val (.int p3), .val (.long sv), .second, .val (.long rv), .second, .val (.ref b37), .val (.long r50), .second, .val (.long (rv / sv)), .second, .val (.long (rv % sv)), .second, .val (.long ev), .second, .val (.int bz)] [(.int bz)])) _
          refine XS.ifNo X49.here hx rfl (hb hby at_131) rfl ((if0 _ _).trans (feq hd131_1).1) ?_
          show Steps p.tables e below (T49.setTop (mkF m 134 #[.val (.long q0), .second, .val (.long q1), .second, .val (.long q2), .second, .val (.int p3), .val (.long sv), .second, .val (.long rv), .second, .val (.ref b37), .val (.long r50), .second, .val (.long (rv / sv)), .second, .val (.long (rv % sv)), .second, .val (.long ev), .second, .val (.int bz)] [])) _
          refine XS.iconst X49.here hx rfl (hb hby at_134) ?_
          show Steps p.tables e below (T49.setTop (mkF m 135 #[.val (.long q0), .second, .val (.long q1), .second, .val (.long q2), .second, .val (.int p3), .val (.long sv), .second, .val (.long rv), .second, .val (.ref b37), .val (.long r50), .second, .val (.long (rv / sv)), .second, .val (.long (rv % sv)), .second, .val (.long ev), .second, .val (.int bz)] [(.int (1 : Int32))])) _
          refine XS.goto X49.here hx rfl (pc0 := 135) (pc' := 139) rfl (hb hby at_135) (by decide) (by decide) ?_
          exact k
      ·
        refine ⟨(0 : Int32), Or.inr (Or.inr (⟨hd126_0, rfl⟩)), fun t k => ?_⟩
        refine P59 t ?_
        show Steps p.tables e below (T49.setTop (mkF m 126 #[.val (.long q0), .second, .val (.long q1), .second, .val (.long q2), .second, .val (.int p3), .val (.long sv), .second, .val (.long rv), .second, .val (.ref b37), .val (.long r50), .second, .val (.long (rv / sv)), .second, .val (.long (rv % sv)), .second, .val (.long ev), .second, .val (.int bz)] [(.int (lcmpW r50 ev))])) _
        refine XS.ifYes X49.here hx rfl (pc0 := 126) (pc' := 138) rfl (hb hby at_126) rfl ((if0 _ _).trans (feq hd126_0).2) (by decide) (by decide) ?_
        show Steps p.tables e below (T49.setTop (mkF m 138 #[.val (.long q0), .second, .val (.long q1), .second, .val (.long q2), .second, .val (.int p3), .val (.long sv), .second, .val (.long rv), .second, .val (.ref b37), .val (.long r50), .second, .val (.long (rv / sv)), .second, .val (.long (rv % sv)), .second, .val (.long ev), .second, .val (.int bz)] [])) _
        refine XS.iconst X49.here hx rfl (hb hby at_138) ?_
        exact k
    have he2 := hm54
    simp only [lw_eq] at he2
    obtain ⟨f1, f2, f3⟩ := own_cnt rv sv r50 ev hR hS R51 he2
    have hb : bv = 1 := own_close_b r50 bz rv ev bv hm57 hm60 f1 f2 f3
    subst hb
    obtain ⟨fs, hr, hrun, hended, hW, hsame⟩ := X49.leave (v := some (.int (1 : Int32))) (fun h => by rw [Bd.returns] at h; cases h)
    refine ⟨_, _, P61 _ ?_, hrun, hended, _, _, rfl, ?_, ⟨_, rfl⟩, hW, hsame.mono (by decide) (by decide)⟩
    · show Steps p.tables e below (T49.setTop (mkF m 139 #[.val (.long q0), .second, .val (.long q1), .second, .val (.long q2), .second, .val (.int p3), .val (.long sv), .second, .val (.long rv), .second, .val (.ref b37), .val (.long r50), .second, .val (.long (rv / sv)), .second, .val (.long (rv % sv)), .second, .val (.long ev), .second, .val (.int bz)] [(.int (1 : Int32))])) _
      exact retN X49 hx (t := .boolean) Bd.returns (by simp) (hb hby at_139) hr
    · show Q0 Z q0 q1 q2 p3 h0 n0 _ T49.heap _
      rw [R52]
      exact ⟨rfl, N49⟩
set_option maxRecDepth 65536 in
set_option maxHeartbeats 40000000 in
theorem comes_1 {Post : Tables → Env → Array Value → State → Outcome → State → Prop} (hpost : ∀ tb e args s v u, (limb_1_1.after args s (.returned v) u = true ∧ limb_1_2.after args s (.returned v) u = true ∧ True) → FrameEnd s (.returned v) u (Jvm.fieldLocs frame_1_writes args s ++ Jvm.arrayLocs frame_1_arrays args s ++ Jvm.staticLocs frame_1_statics s) 16 128 → Post tb e args s (.returned v) u) :
    ArmFor flags0 classFile x code maxLocals ret World_1 tables_1 room_1 Calls_1 rest_1 Pre_1 Post := by
  intro l hfl _ _ p e ha hc hk s m args below hf hA hF happ hP
  obtain ⟨hcalls, hrest, hpre⟩ := hP
  obtain ⟨-, -, -, hnamed, -, -, -, hat⟩ := (Spec.applies_iff hf).mp happ
  obtain ⟨hg, hn⟩ := and_e (Cond.before_iff.mp (show (Jvm.Cond.and given_1 narrow_1).before args s = true from hpre))
  obtain ⟨hcount, hg0⟩ := and_e hg
  obtain ⟨ha0, hg1⟩ := and_e hg0
  obtain ⟨ha1, hg2⟩ := and_e hg1
  obtain ⟨ha2, hg3⟩ := and_e hg2
  obtain ⟨w0, w1, w2, w3, rfl⟩ : ∃ w0 w1 w2 w3 : Value, args = #[w0, w1, w2, w3] := by
    have hs : args.size = 4 := by simpa [Cond.value, given_1] using hcount
    obtain ⟨L⟩ := args
    match L, hs with
    | [w0, w1, w2, w3], _ => exact ⟨w0, w1, w2, w3, rfl⟩
  have hw := fun d (hd : d ∈ tables_1) => atoms_spec (ws := Jvm.Cond.code x code maxLocals ret :: tables_1) hat d (List.mem_cons_of_mem _ hd)
  have hfit : Fit s := fun {y c} hc i hi => by
    obtain ⟨ha, rfl⟩ := Array.getElem?_eq_some_iff.mp hc
    have q := List.all_eq_true.mp ((Array.all_eq_true_iff_forall_mem.mp hF) _ (Array.getElem_mem ha)) i (List.mem_range.mpr hi)
    simpa [Array.getElem?_eq_getElem hi] using q
  obtain ⟨i0, ei0⟩ := isL_v ha0
  obtain rfl : w0 = (.long i0) := Option.some.inj ei0
  obtain ⟨i1, ei1⟩ := isL_v ha1
  obtain rfl : w1 = (.long i1) := Option.some.inj ei1
  obtain ⟨i2, ei2⟩ := isL_v ha2
  obtain rfl : w2 = (.long i2) := Option.some.inj ei2
  obtain ⟨i3, ei3⟩ := is_v hg3
  obtain rfl : w3 = (.int i3) := Option.some.inj ei3
  obtain ⟨n, o, h1, h2, h3, _, L, rfl, ⟨rfl, N⟩, hq⟩ := rm0 l s _ hw tables_1 i0 i1 i2 i3 s.heap s.heap.size (Nat.le_refl _)  p e ha hc hk s m _ below hf ((Spec.applies_iff_loose hf).mp happ).1 ⟨rfl, State.Warmed39.refl s, rfl⟩ trivial
  exact ⟨n, _, h1, h2, h3, hpost _ _ _ _ _ _ ⟨Cond.after_iff.mpr rfl, Cond.after_iff.mpr (eq_i res_at (Term.int_eval (1)) rfl), trivial⟩ ⟨hq.1, hq.2.1, (hq.2.2.sift fun y hy => Or.inr (N y hy)).mono (by decide) (by decide)⟩⟩
theorem main_1_1 : Claimed_1_1 := comes_1 fun _ _ _ _ _ _ h hF => ⟨h.1, hF⟩
theorem main_1_2 : Claimed_1_2 := comes_1 fun _ _ _ _ _ _ h hF => ⟨h.2.1, hF⟩
end Jvm.Pilot.@@N@@
namespace Jvm.Pilot.@@N@@
open Jvm Jvm.ClassFile Sem Op Lib Jvm.Free Jvm.Stand Jvm.Pilot.@@N@@.Jvm.D
/-! MADE BY PROGRAM (witnessworld.py) out of the Statement's table words and the real class files: 11 classes; the members and pool entries that the words name. The judged class is class 1, her method 1. -/
namespace start1
open Jvm.ClassFile
def u (s : String) : CpInfo := .utf8 (stringToUtf16 s)
/-- a pool by its gaps: so many unusable entries, then the entry; so many at the end -/
def gap : Nat → List CpInfo → List CpInfo
  | 0, r => r
  | n + 1, r => .unusable :: gap n r
def poolList (es : List (Nat × CpInfo)) (last : Nat) : List CpInfo := es.foldr (fun e r => gap e.1 (e.2 :: r)) (gap last [])
def pool (es : List (Nat × CpInfo)) (last : Nat) : Array CpInfo := ⟨poolList es last⟩
def fileOf (pool : Array CpInfo) (this : Nat) (attrs : Array Attribute := #[]) (ms : Array MethodInfo := #[]) (fl : Nat := 33) (sup : Nat := 0) (ifs : Array Nat := #[]) (fds : Array FieldInfo := #[]) : ClassFile where
  minorVersion := 0
  majorVersion := 65
  constantPool := pool
  accessFlags := fl
  thisClass := this
  superClass := sup
  interfaces := ifs
  fields := fds
  methods := ms
  attributes := attrs
def plain (name : String) (sup : Option ClassId) : Class where
  name := name
  kind := .ordinary
  loader := none
  accessFlags := 33
  super := sup
  interfaces := #[]
  cf := none
  fields := #[]
  methods := #[]
  instanceTypes := #[]
  staticTypes := #[]
  resolved := #[]
  callSites := []
  init := .initialized
  statics := none
  mirror := none

def pool0 : Array CpInfo := pool [(5, u "<init>"), (0, u "()V"), (1, .class_ 10), (1, u "java/lang/Object")] 113

def k0c0 : Code := { maxStack := 0, maxLocals := 1, code := object_method_1_code, exceptionTable := #[], attributes := #[] }
def k0m0 : Method := { name := "<init>", desc := "()V", sig := { parameters := [], returnType := none }, accessFlags := 1, code := some k0c0 }
/-- java/lang/Object -/
def k0 : Class := { plain "java/lang/Object" none with
  accessFlags := 33
  interfaces := #[]
  cf := some (fileOf pool0 8 #[] #[{ accessFlags := 1, nameIndex := 5, descriptorIndex := 6, attributes := #[] }] 33 0 #[] #[])
  fields := #[]
  methods := #[k0m0]
  instanceTypes := #[]
  staticTypes := #[]
  resolved := Array.replicate 124 none
  statics := none }

def pool1 : Array CpInfo := pool [(2, .class_ 4), (1, u "java/lang/Object"), (0, u "<init>"), (0, u "()V"), (2, .long 9223372036854775807), (1, .methodref 12 13), (0, .class_ 14), (0, .nameAndType 15 16), (0, u "java/lang/Math"), (0, u "max"), (0, u "(JJ)J"), (0, .long 15), (1, .long 255), (1, .class_ 22), (0, u "com/example/pricewright/pricewright/service/Page"), (0, .methodref 21 24), (0, .nameAndType 5 25), (0, u "(JJ)V"), (0, .methodref 21 27), (0, .nameAndType 28 29), (0, u "count"), (0, u "(J)J"), (0, .class_ 31), (0, u "com/example/pricewright/pricewright/service/PageCountPinLaw"), (2, u "law"), (0, u "(JJJI)Z")] 3

def k1m0 : Method := { name := "<init>", desc := "()V", sig := { parameters := [], returnType := none }, accessFlags := 2, code := none }
def k1c1 : Code := { maxStack := 6, maxLocals := 21, code := code, exceptionTable := #[], attributes := #[] }
def k1m1 : Method := { name := "law", desc := "(JJJI)Z", sig := { parameters := [.long, .long, .long, .int], returnType := some .boolean }, accessFlags := 9, code := some k1c1 }
/-- com/example/pricewright/pricewright/service/PageCountPinLaw -/
def k1 : Class := { plain "com/example/pricewright/pricewright/service/PageCountPinLaw" (some 0) with
  accessFlags := 49
  interfaces := #[]
  cf := some (fileOf pool1 30 #[] #[{ accessFlags := 2, nameIndex := 5, descriptorIndex := 6, attributes := #[] }, { accessFlags := 9, nameIndex := 34, descriptorIndex := 35, attributes := #[] }] 49 2 #[] #[])
  fields := #[]
  methods := #[k1m0, k1m1]
  instanceTypes := #[]
  staticTypes := #[]
  resolved := Array.replicate 39 none
  statics := none }

def pool2 : Array CpInfo := pool [(1, .class_ 2), (0, u "java/lang/Math"), (1, .class_ 6), (1, u "java/lang/Object"), (0, u "<init>"), (0, u "()V"), (89, .class_ 100), (1, u "java/lang/Math$RandomNumberGeneratorHolder"), (20, u "(JJ)J"), (50, u "negativeZeroFloatBits"), (0, u "J"), (2, u "negativeZeroDoubleBits"), (21, u "max"), (46, u "$assertionsDisabled"), (0, u "Z"), (91, u "twoToTheDoubleScaleDown"), (0, u "D"), (4, u "twoToTheDoubleScaleUp"), (9, u "E"), (3, u "PI"), (2, u "TAU"), (2, u "DEGREES_TO_RADIANS"), (0, u "RADIANS_TO_DEGREES")] 94

def k2m0 : Method := { name := "<init>", desc := "()V", sig := { parameters := [], returnType := none }, accessFlags := 2, code := none }
def k2c1 : Code := { maxStack := 4, maxLocals := 4, code := jdk_29_method_66_code, exceptionTable := #[], attributes := #[] }
def k2m1 : Method := { name := "max", desc := "(JJ)J", sig := { parameters := [.long, .long], returnType := some .long }, accessFlags := 9, code := some k2c1 }
/-- java/lang/Math -/
def k2 : Class := { plain "java/lang/Math" (some 0) with
  accessFlags := 49
  interfaces := #[]
  cf := some (fileOf pool2 1 #[.nestMembers #[98]] #[{ accessFlags := 2, nameIndex := 7, descriptorIndex := 8, attributes := #[] }, { accessFlags := 9, nameIndex := 198, descriptorIndex := 121, attributes := #[] }] 49 4 #[] #[{ accessFlags := 25, nameIndex := 354, descriptorIndex := 339, attributes := #[] }, { accessFlags := 25, nameIndex := 358, descriptorIndex := 339, attributes := #[] }, { accessFlags := 25, nameIndex := 361, descriptorIndex := 339, attributes := #[] }, { accessFlags := 26, nameIndex := 364, descriptorIndex := 339, attributes := #[] }, { accessFlags := 26, nameIndex := 365, descriptorIndex := 339, attributes := #[] }, { accessFlags := 26, nameIndex := 172, descriptorIndex := 173, attributes := #[] }, { accessFlags := 26, nameIndex := 176, descriptorIndex := 173, attributes := #[] }, { accessFlags := 8, nameIndex := 344, descriptorIndex := 339, attributes := #[] }, { accessFlags := 8, nameIndex := 338, descriptorIndex := 339, attributes := #[] }, { accessFlags := 4120, nameIndex := 245, descriptorIndex := 246, attributes := #[] }])
  fields := #[{ name := "E", type := .double, accessFlags := 25, slot := 0, constantValue := 0 }, { name := "PI", type := .double, accessFlags := 25, slot := 1, constantValue := 0 }, { name := "TAU", type := .double, accessFlags := 25, slot := 2, constantValue := 0 }, { name := "DEGREES_TO_RADIANS", type := .double, accessFlags := 26, slot := 3, constantValue := 0 }, { name := "RADIANS_TO_DEGREES", type := .double, accessFlags := 26, slot := 4, constantValue := 0 }, { name := "negativeZeroFloatBits", type := .long, accessFlags := 26, slot := 5, constantValue := 0 }, { name := "negativeZeroDoubleBits", type := .long, accessFlags := 26, slot := 6, constantValue := 0 }, { name := "twoToTheDoubleScaleUp", type := .double, accessFlags := 8, slot := 7, constantValue := 0 }, { name := "twoToTheDoubleScaleDown", type := .double, accessFlags := 8, slot := 8, constantValue := 0 }, { name := "$assertionsDisabled", type := .boolean, accessFlags := 4120, slot := 9, constantValue := 0 }]
  methods := #[k2m0, k2m1]
  instanceTypes := #[]
  staticTypes := #[.double, .double, .double, .double, .double, .long, .long, .double, .double, .boolean]
  resolved := Array.replicate 460 none
  statics := none }

def pool3 : Array CpInfo := pool [(1, .methodref 2 3), (0, .class_ 4), (0, .nameAndType 5 6), (0, u "java/lang/Object"), (0, u "<init>"), (0, u "()V"), (0, .class_ 8), (0, u "java/lang/Record")] 13

def k3c0 : Code := { maxStack := 1, maxLocals := 1, code := jdk_30_method_1_code, exceptionTable := #[], attributes := #[] }
def k3m0 : Method := { name := "<init>", desc := "()V", sig := { parameters := [], returnType := none }, accessFlags := 4, code := some k3c0 }
/-- java/lang/Record -/
def k3 : Class := { plain "java/lang/Record" (some 0) with
  accessFlags := 1057
  interfaces := #[]
  cf := some (fileOf pool3 7 #[] #[{ accessFlags := 4, nameIndex := 5, descriptorIndex := 6, attributes := #[] }] 1057 2 #[] #[])
  fields := #[]
  methods := #[k3m0]
  instanceTypes := #[]
  staticTypes := #[]
  resolved := Array.replicate 22 none
  statics := none }

def pool4 : Array CpInfo := pool [(3, .methodref 4 5), (0, .class_ 6), (0, .nameAndType 7 8), (0, u "java/lang/Record"), (0, u "<init>"), (0, u "()V"), (0, .fieldref 10 11), (0, .class_ 12), (0, .nameAndType 13 14), (0, u "com/example/pricewright/pricewright/service/Page"), (0, u "number"), (0, u "J"), (0, .fieldref 10 16), (0, .nameAndType 17 14), (0, u "size"), (8, u "(JJ)V"), (17, u "count"), (0, u "(J)J"), (34, u "DEFAULT_SIZE"), (1, u "MUST_BE_PAGE"), (0, u "Ljava/lang/String;")] 45

def k4c0 : Code := { maxStack := 3, maxLocals := 5, code := prog_179_method_1_code, exceptionTable := #[], attributes := #[] }
def k4m0 : Method := { name := "<init>", desc := "(JJ)V", sig := { parameters := [.long, .long], returnType := none }, accessFlags := 0, code := some k4c0 }
def k4c1 : Code := { maxStack := 4, maxLocals := 3, code := prog_179_method_4_code, exceptionTable := #[], attributes := #[] }
def k4m1 : Method := { name := "count", desc := "(J)J", sig := { parameters := [.long], returnType := some .long }, accessFlags := 0, code := some k4c1 }
/-- com/example/pricewright/pricewright/service/Page -/
def k4 : Class := { plain "com/example/pricewright/pricewright/service/Page" (some 3) with
  accessFlags := 48
  interfaces := #[]
  cf := some (fileOf pool4 10 #[] #[{ accessFlags := 0, nameIndex := 7, descriptorIndex := 26, attributes := #[] }, { accessFlags := 0, nameIndex := 44, descriptorIndex := 45, attributes := #[] }] 48 4 #[] #[{ accessFlags := 18, nameIndex := 13, descriptorIndex := 14, attributes := #[] }, { accessFlags := 18, nameIndex := 17, descriptorIndex := 14, attributes := #[] }, { accessFlags := 24, nameIndex := 80, descriptorIndex := 14, attributes := #[] }, { accessFlags := 26, nameIndex := 82, descriptorIndex := 83, attributes := #[] }])
  fields := #[{ name := "number", type := .long, accessFlags := 18, slot := 0, constantValue := 0 }, { name := "size", type := .long, accessFlags := 18, slot := 1, constantValue := 0 }, { name := "DEFAULT_SIZE", type := .long, accessFlags := 24, slot := 0, constantValue := 0 }, { name := "MUST_BE_PAGE", type := (.object "java/lang/String"), accessFlags := 26, slot := 1, constantValue := 0 }]
  methods := #[k4m0, k4m1]
  instanceTypes := #[.long, .long]
  staticTypes := #[.long, (.object "java/lang/String")]
  resolved := Array.replicate 129 none
  statics := none }

def pool5 : Array CpInfo := pool [(1, u "java/lang/Cloneable"), (0, .class_ 1), (0, u "java/lang/Object"), (0, .class_ 3)] 3

/-- java/lang/Cloneable -/
def k5 : Class := { plain "java/lang/Cloneable" (some 0) with
  accessFlags := 1537
  interfaces := #[]
  cf := some (fileOf pool5 2 #[] #[] 1537 4 #[] #[])
  fields := #[]
  methods := #[]
  instanceTypes := #[]
  staticTypes := #[]
  resolved := Array.replicate 8 none
  statics := none }

def pool6 : Array CpInfo := pool [(1, u "java/io/Serializable"), (0, .class_ 1), (0, u "java/lang/Object"), (0, .class_ 3)] 3

/-- java/io/Serializable -/
def k6 : Class := { plain "java/io/Serializable" (some 0) with
  accessFlags := 1537
  interfaces := #[]
  cf := some (fileOf pool6 2 #[] #[] 1537 4 #[] #[])
  fields := #[]
  methods := #[]
  instanceTypes := #[]
  staticTypes := #[]
  resolved := Array.replicate 8 none
  statics := none }

/-- the primitive byte -/
def k7 : Class := { plain "byte" none with kind := .primitive 'B', accessFlags := 0x411 }
/-- [B -/
def k8 : Class := { plain "[B" (some 0) with kind := .array 7 .byte, interfaces := #[5, 6], accessFlags := 1041 }

/-- the primitive int -/
def k9 : Class := { plain "int" none with kind := .primitive 'I', accessFlags := 0x411 }
/-- [I -/
def k10 : Class := { plain "[I" (some 0) with kind := .array 9 .int, interfaces := #[5, 6], accessFlags := 1041 }

def heap : Heap := #[]
def classes : Array Class := #[k0, k1, k2, k3, k4, k5, k6, k7, k8, k9, k10]
def interned : List (Array UInt16 × Addr) := []
def slotsUsed : Nat := 0
def theMethod : MethodId := ⟨1, 1⟩
def args0 : Array Value := #[.long 5, .long 5, .long 5, .int 5]
def aboutOver (below : List Frame) : State where
  vm := { classes := classes, interned := interned.toArray }
  heap := heap
  slotsUsed := slotsUsed
  threads := #[{ frames := .invoking theMethod args0 :: below }]
def below0 : List Frame := [.native { method := ⟨0, 0⟩, args := #[] }]
def about1 : State := aboutOver below0
def p0 : Program := .bare "" "" ""
def e0 : Env := launch0.env 0 0 0
theorem w_frames : about1.frames = Frame.invoking theMethod args0 :: below0 := rfl
set_option maxRecDepth 65536 in
theorem w_args : argsFit about1.vm theMethod args0 = true := by decide +kernel
set_option maxRecDepth 65536 in
theorem w_heap : heapFits about1 = true := by decide +kernel
set_option maxRecDepth 65536 in
theorem w_runnable : about1.curStatus? = some .runnable := by decide +kernel
set_option maxRecDepth 65536 in
theorem w_alone : about1.alone = true := by decide +kernel
set_option maxRecDepth 65536 in
theorem w_named : about1.methodNamed? x = some theMethod := by decide +kernel
set_option maxRecDepth 65536 in
theorem w_hears : about1.hears theMethod below0 = true := by decide +kernel
set_option maxRecDepth 65536 in
theorem w_ripe : about1.ripe theMethod args0 below0 = true := by decide +kernel
theorem w_running : about1.status = .running := rfl
set_option maxRecDepth 65536 in
theorem w_room : about1.hasRoom e0.platform room_1 = true :=
  launch0.hasRoom_least _ room_1 (by decide +kernel) (by decide +kernel) (by decide +kernel) (by decide +kernel) (by decide +kernel) (by decide +kernel)
theorem allAtoms_all (ts : List Jvm.Cond) (a : Array Jvm.Value) (st : Jvm.State) : (allAtoms ts).before a st = ts.all (fun c => c.before a st) := by
  induction ts with
  | nil => rfl
  | cons c t ih =>
    show (Jvm.Cond.and c (allAtoms t)).before a st = _
    rw [Jvm.Cond.before_and, ih, List.all_cons]
def words1 : List Jvm.Cond := Jvm.Cond.code x code maxLocals ret :: tables_1
/-- a 'code' word, met by the world's own term for the bytes: nothing is compared byte by byte -/
theorem code_word {y : MethodName} {bytes : ByteArray} {mx : Nat} {rt : Option FieldType} {a : Array Value} {s : State} {m : MethodId} {meth : Method} {c : Code} (h1 : s.methodNamed? y = some m) (h2 : s.vm.method? m = some meth) (h3 : meth.code = some c) (h4 : c.code = bytes)
    (h5 : (c.maxLocals == mx && c.exceptionTable.isEmpty && decide (c.maxStack ≤ mostOperands) && decide (meth.sig.returnType = rt) && !meth.locks && decide (parseMethodDescriptor y.desc = some meth.sig)) = true) : (Jvm.Cond.code y bytes mx rt).before a s = true := by
  simp only [Bool.and_eq_true, beq_iff_eq, Bool.not_eq_true', decide_eq_true_eq] at h5
  obtain ⟨⟨⟨⟨⟨g1, g2⟩, g3⟩, g4⟩, g5⟩, g6⟩ := h5
  simp [Cond.before, Cond.holds, Cond.value, h1, h2, h3, h4, g1, g2, g3, g4, g5, g6]
def isCode : Jvm.Cond → Bool
  | .code _ _ _ _ => true
  | _ => false
theorem all_split {L : List Jvm.Cond} {P : Jvm.Cond → Bool} (h1 : L.all (fun c => isCode c || P c) = true) (h2 : ∀ c ∈ L.filter isCode, P c = true) : L.all P = true := by
  refine List.all_eq_true.mpr fun c hc => ?_
  have h := List.all_eq_true.mp h1 c hc
  rcases Bool.eq_false_or_eq_true (isCode c) with hi | hi
  · exact h2 c (List.mem_filter.mpr ⟨hc, hi⟩)
  · simpa [hi] using h
set_option maxRecDepth 65536 in
theorem w_c0 : (Jvm.Cond.code x code maxLocals ret).before args0 about1 = true := code_word (m := ⟨1, 1⟩) (meth := k1m1) (c := k1c1) (by decide +kernel) rfl rfl rfl (by decide +kernel)
set_option maxRecDepth 65536 in
theorem w_c1 : (Jvm.Cond.code ({ cls := "java/lang/Math", name := "max", desc := "(JJ)J" } : Jvm.MethodName) jdk_29_method_66_code (4 : Nat) (Option.some Jvm.ClassFile.FieldType.long)).before args0 about1 = true := code_word (m := ⟨2, 1⟩) (meth := k2m1) (c := k2c1) (by decide +kernel) rfl rfl rfl (by decide +kernel)
set_option maxRecDepth 65536 in
theorem w_c2 : (Jvm.Cond.code ({ cls := "com/example/pricewright/pricewright/service/Page", name := "<init>", desc := "(JJ)V" } : Jvm.MethodName) prog_179_method_1_code (5 : Nat) (Option.none : Option Jvm.ClassFile.FieldType)).before args0 about1 = true := code_word (m := ⟨4, 0⟩) (meth := k4m0) (c := k4c0) (by decide +kernel) rfl rfl rfl (by decide +kernel)
set_option maxRecDepth 65536 in
theorem w_c3 : (Jvm.Cond.code ({ cls := "java/lang/Record", name := "<init>", desc := "()V" } : Jvm.MethodName) jdk_30_method_1_code (1 : Nat) (Option.none : Option Jvm.ClassFile.FieldType)).before args0 about1 = true := code_word (m := ⟨3, 0⟩) (meth := k3m0) (c := k3c0) (by decide +kernel) rfl rfl rfl (by decide +kernel)
set_option maxRecDepth 65536 in
theorem w_c4 : (Jvm.Cond.code ({ cls := "java/lang/Object", name := "<init>", desc := "()V" } : Jvm.MethodName) object_method_1_code (1 : Nat) (Option.none : Option Jvm.ClassFile.FieldType)).before args0 about1 = true := code_word (m := ⟨0, 0⟩) (meth := k0m0) (c := k0c0) (by decide +kernel) rfl rfl rfl (by decide +kernel)
set_option maxRecDepth 65536 in
theorem w_c5 : (Jvm.Cond.code ({ cls := "com/example/pricewright/pricewright/service/Page", name := "count", desc := "(J)J" } : Jvm.MethodName) prog_179_method_4_code (3 : Nat) (Option.some Jvm.ClassFile.FieldType.long)).before args0 about1 = true := code_word (m := ⟨4, 1⟩) (meth := k4m1) (c := k4c1) (by decide +kernel) rfl rfl rfl (by decide +kernel)
def codes1 : List Jvm.Cond := [Jvm.Cond.code x code maxLocals ret, Jvm.Cond.code ({ cls := "java/lang/Math", name := "max", desc := "(JJ)J" } : Jvm.MethodName) jdk_29_method_66_code (4 : Nat) (Option.some Jvm.ClassFile.FieldType.long), Jvm.Cond.code ({ cls := "com/example/pricewright/pricewright/service/Page", name := "<init>", desc := "(JJ)V" } : Jvm.MethodName) prog_179_method_1_code (5 : Nat) (Option.none : Option Jvm.ClassFile.FieldType), Jvm.Cond.code ({ cls := "java/lang/Record", name := "<init>", desc := "()V" } : Jvm.MethodName) jdk_30_method_1_code (1 : Nat) (Option.none : Option Jvm.ClassFile.FieldType), Jvm.Cond.code ({ cls := "java/lang/Object", name := "<init>", desc := "()V" } : Jvm.MethodName) object_method_1_code (1 : Nat) (Option.none : Option Jvm.ClassFile.FieldType), Jvm.Cond.code ({ cls := "com/example/pricewright/pricewright/service/Page", name := "count", desc := "(J)J" } : Jvm.MethodName) prog_179_method_4_code (3 : Nat) (Option.some Jvm.ClassFile.FieldType.long)]
set_option maxRecDepth 65536 in
theorem codes_eq : words1.filter isCode = codes1 := rfl
theorem w_codes : ∀ c ∈ words1.filter isCode, c.before args0 about1 = true := by
  rw [codes_eq]
  intro c hc
  simp only [codes1, List.mem_cons, List.not_mem_nil, or_false] at hc
  rcases hc with rfl | rfl | rfl | rfl | rfl | rfl
  · exact w_c0
  · exact w_c1
  · exact w_c2
  · exact w_c3
  · exact w_c4
  · exact w_c5
set_option maxRecDepth 65536 in
theorem w_t1 : (words1.take 24).all (fun c => isCode c || c.before args0 about1) = true := by decide +kernel
set_option maxRecDepth 65536 in
theorem w_t2 : (words1.drop 24).all (fun c => isCode c || c.before args0 about1) = true := by decide +kernel
theorem w_tables : (allAtoms (Jvm.Cond.code x code maxLocals ret :: tables_1)).before args0 about1 = true := by
  rw [allAtoms_all]
  show words1.all (fun c => c.before args0 about1) = true
  refine all_split ?_ w_codes
  rw [← List.take_append_drop 24 words1, List.all_append, w_t1, w_t2]
  rfl
set_option maxRecDepth 65536 in
theorem w_case : (Jvm.Cond.and given_1 narrow_1).before args0 about1 = true := by decide +kernel
theorem w_applies : (headSpec (Jvm.Cond.code x code maxLocals ret :: tables_1) room_1).applies x e0.platform about1 = true :=
  (Spec.applies_iff w_frames).mpr ⟨w_running, w_runnable, w_alone, w_named, w_hears, w_ripe, w_room, w_tables⟩
theorem atStart : AtStart classFile x code maxLocals ret World_1 tables_1 room_1 Calls_1 rest_1 Pre_1 launch0 p0 e0 about1 theMethod args0 below0 :=
  ⟨lists_1, trivial, launch0.admits_env _ _ _, launch0.least_env, fairChoices_fair.cas, fairChoices_fair.clock, w_frames, w_args, w_heap, w_applies, trivial, trivial, w_case⟩
end start1
theorem witness_1 : WitnessClaimed_1 := ⟨start1.p0, start1.e0, start1.about1, start1.theMethod, start1.args0, start1.below0, start1.atStart⟩
end Jvm.Pilot.@@N@@
