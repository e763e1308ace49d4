import JvmDerived
import JvmDerived.Pilot.@@N@@Statement
import JvmDerived.Pilot.@@N@@Code
set_option linter.unusedVariables false
set_option linter.unusedSimpArgs false
namespace Jvm.RoadKit
open Sem ClassFile Op Lib Jvm.Stand Jvm.Free Jvm.LawKit
section New
variable {p : Program} {l : Launch} {e : Env} {R : Room} {s : State} {m : MethodId} {args : Array Value} {below : List Frame} {meth : Method} {c : Code} {T : State} {locs : List Loc} {cells slots : Nat}
theorem retI (X : Stand p l e R s m args below meth c T locs cells slots) (hx : p.tables.exec = Jvm.exec) {pc : Nat} {Ls : Array Slot} {z : Int32} {rest : List Value} (hret : meth.sig.returnType = some .int) (hd : decode c.code pc = .ok (.ireturn, 1)) {fs : List Frame}
    (hl : ∀ (f : JFrame) (acts : List Action), f.method = m → f.locked = none → f.entered = [] → (doReturn e (T.setTop f) acts (some (.int z))).1 = T.setFrames fs) : Steps p.tables e below (T.setTop (mkF m pc Ls (.int z :: rest))) (T.setFrames fs) := by
  have hm' : T.vm.method? m = some meth := X.method'
  have hn : narrow .int (.int z) = .int z := rfl
  show Steps p.tables e below (T.setTop { method := m, pc := pc, locals := Ls, stack := _ :: rest, locked := none }) _
  jvm_step X.here [X.here.top, hx, hd, hm', hret, hn]
  first | (intro acts; rw [hl _ acts rfl rfl rfl]) | rw [hl _ _ rfl rfl rfl]
  exact Steps.refl _
end New
end Jvm.RoadKit
namespace Jvm.Pilot.@@N@@
open Jvm Jvm.ClassFile Sem Op Lib Jvm.Free Jvm.Stand Jvm.LawKit Jvm.RoadKit Bundle Jvm.Pilot.@@N@@.Jvm.D
theorem pn_0 : plainName "com/example/stackwright/stackwright/cli/OutputTail" = true := by first | (simp [plainName, overriddenIn]; done) | decide +kernel
theorem d1_0 : decode prog_3_method_9_code 0 = .ok (.iload_n 0, 1) := by decide +kernel
theorem d1_1 : decode prog_3_method_9_code 1 = .ok (.sipush 192, 3) := by decide +kernel
theorem d1_4 : decode prog_3_method_9_code 4 = .ok (.iand, 1) := by decide +kernel
theorem d1_5 : decode prog_3_method_9_code 5 = .ok (.sipush 128, 3) := by decide +kernel
theorem d1_8 : decode prog_3_method_9_code 8 = .ok (.if_icmp .ne 7, 3) := by decide +kernel
theorem d1_11 : decode prog_3_method_9_code 11 = .ok (.iconst 1, 1) := by decide +kernel
theorem d1_12 : decode prog_3_method_9_code 12 = .ok (.goto 4, 3) := by decide +kernel
theorem d1_16 : decode prog_3_method_9_code 16 = .ok (.ireturn, 1) := by decide +kernel
theorem d1_15 : decode prog_3_method_9_code 15 = .ok (.iconst 0, 1) := by decide +kernel
theorem ef_1 (m : MethodId) (p1 : Int32) : entryFrame m #[(.int p1)] 1 = mkF m 0 #[.val (.int p1)] [] := by first | (simp [entryFrame, mkF, argsToLocals, Value.category]; done) | rfl
def Q1 (Z : State) (p1 : Int32) (h0 : Heap) (n0 : Nat) (v : Option Value) (h : Heap) (L : List Loc) : Prop := ∃ (r : Int32), v = some (.int r) ∧ Fr n0 L ∧ (((p1 &&& (192 : Int32)) = (128 : Int32) ∧ r = 1) ∨ (¬ ((p1 &&& (192 : Int32)) = (128 : Int32)) ∧ r = 0)) ∧ h = h0
set_option maxRecDepth 65536 in
set_option maxHeartbeats 40000000 in
theorem rm1 (l : Launch) (Z : State) (a0 : Array Value) (hw : ∀ d ∈ tables_1, d.before a0 Z = true) (ws : List Jvm.Cond) (p1 : Int32) (h0 : Heap) (n0 : Nat) (Z0 : n0 ≤ h0.size)  :
    MetFree l (⟨"com/example/stackwright/stackwright/cli/OutputTail", "isContinuation", "(B)Z"⟩ : MethodName) (head1 (Jvm.Cond.code (⟨"com/example/stackwright/stackwright/cli/OutputTail", "isContinuation", "(B)Z"⟩ : MethodName) prog_3_method_9_code 1 (some .boolean) :: ws) ({ frames := 0, cells := 0, slots := 0, locals := 0 } : Room)) (fun a U => a = #[(.int p1)] ∧ Z.Warmed39 U.vm ∧ U.heap = h0) (fun _ _ _ _ _ => True) (fun _ U o U' => ∃ v L, o = .returned v ∧ Q1 Z p1 h0 n0 v U'.heap L ∧ FrameEnd U o U' L ({ frames := 0, cells := 0, slots := 0, locals := 0 } : Room).cells ({ frames := 0, cells := 0, slots := 0, locals := 0 } : Room).slots) := by
  refine MetFree.of_bodySF (plainFor_of_name pn_0) hisR ?_
  intro p e s m args below meth c s₁ Bd hml0 hP hK
  obtain ⟨rfl, hZ, hh⟩ := hP
  have hx := Bd.exec
  have hby := Bd.bytes
  have hml : c.maxLocals = 1 := hml0
  have hown : s.vm.findClass "com/example/stackwright/stackwright/cli/OutputTail" = some m.cls := findClass_of_methodNamed Bd.named
  have hnm := (name_of_methodNamed Bd.named Bd.method).1
  have X0 : Stand p l e ({ frames := 0, cells := 0, slots := 0, locals := 0 } : Room) s m #[(.int p1)] below meth c s₁ [] 0 0 := Stand.of_body Bd
  have e0 : s₁.heap = h0 := by rw [← hh, Bd.state]; rfl
  have N0 := Fr.nil n0
  have pre0 : ∀ t, Steps p.tables e below (s₁.setTop (mkF m 0 #[.val (.int p1)] [])) t → Steps p.tables e below (s₁.setTop (entryFrame m #[(.int p1)] 1)) t := fun t k => castTop (ef_1 m p1) k
  have P1 : ∀ t, Steps p.tables e below (s₁.setTop (mkF m 8 #[.val (.int p1)] [(.int (128 : Int32)), (.int (p1 &&& (192 : Int32)))])) t → Steps p.tables e below (s₁.setTop (entryFrame m #[(.int p1)] 1)) t := by
    intro t k
    refine pre0 t ?_
    show Steps p.tables e below (s₁.setTop (mkF m 0 #[.val (.int p1)] [])) _
    refine XS.iloadN X0.here hx rfl (hb hby d1_0) rfl ?_
    show Steps p.tables e below (s₁.setTop (mkF m 1 #[.val (.int p1)] [(.int p1)])) _
    refine XS.sipush X0.here hx rfl (hb hby d1_1) ?_
    show Steps p.tables e below (s₁.setTop (mkF m 4 #[.val (.int p1)] [(.int (192 : Int32)), (.int p1)])) _
    refine XS.iand X0.here hx rfl (hb hby d1_4) rfl ?_
    show Steps p.tables e below (s₁.setTop (mkF m 5 #[.val (.int p1)] [(.int (p1 &&& (192 : Int32)))])) _
    refine XS.sipush X0.here hx rfl (hb hby d1_5) ?_
    exact k
  by_cases h1 : (p1 &&& (192 : Int32)) = (128 : Int32)
  · obtain ⟨fs, hr, hrun, hended, hW, hsame⟩ := X0.leave (v := some (.int (1 : Int32))) (fun h => by rw [Bd.returns] at h; cases h)
    refine ⟨_, _, P1 _ ?_, hrun, hended, _, _, rfl, ?_, ⟨_, rfl⟩, hW, hsame.mono (by decide) (by decide)⟩
    · show Steps p.tables e below (s₁.setTop (mkF m 8 #[.val (.int p1)] [(.int (128 : Int32)), (.int (p1 &&& (192 : Int32)))])) _
      refine XS.icmpNo X0.here hx rfl (hb hby d1_8) rfl (teq h1).2 ?_
      show Steps p.tables e below (s₁.setTop (mkF m 11 #[.val (.int p1)] [])) _
      refine XS.iconst X0.here hx rfl (hb hby d1_11) ?_
      show Steps p.tables e below (s₁.setTop (mkF m 12 #[.val (.int p1)] [(.int (1 : Int32))])) _
      refine XS.goto X0.here hx rfl (pc0 := 12) (pc' := 16) rfl (hb hby d1_12) (by decide) (by decide) ?_
      show Steps p.tables e below (s₁.setTop (mkF m 16 #[.val (.int p1)] [(.int (1 : Int32))])) _
      exact retN X0 hx (t := .boolean) Bd.returns (by simp) (hb hby d1_16) hr
    · show Q1 Z p1 h0 n0 _ s₁.heap _
      rw [e0]
      exact ⟨(1 : Int32), rfl, N0, Or.inl ⟨h1, rfl⟩, rfl⟩
  · obtain ⟨fs, hr, hrun, hended, hW, hsame⟩ := X0.leave (v := some (.int (0 : Int32))) (fun h => by rw [Bd.returns] at h; cases h)
    refine ⟨_, _, P1 _ ?_, hrun, hended, _, _, rfl, ?_, ⟨_, rfl⟩, hW, hsame.mono (by decide) (by decide)⟩
    · show Steps p.tables e below (s₁.setTop (mkF m 8 #[.val (.int p1)] [(.int (128 : Int32)), (.int (p1 &&& (192 : Int32)))])) _
      refine XS.icmpYes X0.here hx rfl (pc0 := 8) (pc' := 15) rfl (hb hby d1_8) rfl (feq h1).2 (by decide) (by decide) ?_
      show Steps p.tables e below (s₁.setTop (mkF m 15 #[.val (.int p1)] [])) _
      refine XS.iconst X0.here hx rfl (hb hby d1_15) ?_
      show Steps p.tables e below (s₁.setTop (mkF m 16 #[.val (.int p1)] [(.int (0 : Int32))])) _
      exact retN X0 hx (t := .boolean) Bd.returns (by simp) (hb hby d1_16) hr
    · show Q1 Z p1 h0 n0 _ s₁.heap _
      rw [e0]
      exact ⟨(0 : Int32), rfl, N0, Or.inr ⟨h1, rfl⟩, rfl⟩
theorem own_b : ∀ v : BitVec 8, (((Int8.ofBitVec v).toInt32 &&& (192 : Int32) = (128 : Int32)) ↔ ¬ ((-65 : Int32) < (Int8.ofBitVec v).toInt32)) ∧ ¬ ((Int8.ofBitVec v).toInt32 < (-128 : Int32)) := by decide +kernel
theorem own_c (x : Int32) : ((x.toInt8.toInt32 &&& (192 : Int32) = (128 : Int32)) ↔ ¬ ((-65 : Int32) < x.toInt8.toInt32)) ∧ ¬ (x.toInt8.toInt32 < (-128 : Int32)) := own_b x.toInt8.toBitVec
theorem pn_1 : plainName "com/example/stackwright/stackwright/cli/OutputTailIsContinuationPinLaw" = true := by first | (simp [plainName, overriddenIn]; done) | decide +kernel
theorem pd_0 : parseMethodDescriptor "(B)Z" = some ⟨[.byte], some .boolean⟩ := by decide +kernel
theorem own_close (bv : Int32) (z4 : Int32) (r8 : Int32) (z12 : Int32) (hm5 : (bv < (-128 : Int32) ∧ z4 = (0 : Int32)) ∨ (¬ (bv < (-128 : Int32)) ∧ (-65 : Int32) < bv ∧ z4 = (0 : Int32)) ∨ (¬ (bv < (-128 : Int32)) ∧ ¬ ((-65 : Int32) < bv) ∧ z4 = (1 : Int32))) (R9 : ((bv &&& (192 : Int32)) = (128 : Int32) ∧ r8 = 1) ∨ (¬ ((bv &&& (192 : Int32)) = (128 : Int32)) ∧ r8 = 0)) (hm13 : (r8 = z4 ∧ z12 = (1 : Int32)) ∨ (¬ (r8 = z4) ∧ z12 = (0 : Int32))) (hs1 : (bv &&& (192 : Int32) = (128 : Int32)) ↔ ¬ ((-65 : Int32) < bv)) (hs2 : ¬ (bv < (-128 : Int32))) : z12 = 1 := by
  by_cases A : (-65 : Int32) < bv <;> simp_all
theorem ef_0 (m : MethodId) (p0 : Int32) : entryFrame m #[(.int p0)] maxLocals = mkF m 0 #[.val (.int p0), .unset, .unset] [] := by first | (simp [entryFrame, mkF, argsToLocals, Value.category, maxLocals]; done) | rfl
def Q0 (Z : State) (p0 : Int32) (h0 : Heap) (n0 : Nat) (v : Option Value) (h : Heap) (L : List Loc) : Prop := v = some (.int (1 : Int32)) ∧ Fr n0 L
set_option maxRecDepth 65536 in
set_option maxHeartbeats 40000000 in
theorem rm0 (l : Launch) (Z : State) (a0 : Array Value) (hw : ∀ d ∈ tables_1, d.before a0 Z = true) (ws : List Jvm.Cond) (p0 : Int32) (h0 : Heap) (n0 : Nat) (Z0 : n0 ≤ h0.size)  :
    MetFree l x (head1 (Jvm.Cond.code x code maxLocals ret :: ws) room_1) (fun a U => a = #[(.int p0)] ∧ Z.Warmed39 U.vm ∧ U.heap = h0) (fun _ _ _ _ _ => True) (fun _ U o U' => ∃ v L, o = .returned v ∧ Q0 Z p0 h0 n0 v U'.heap L ∧ FrameEnd U o U' L room_1.cells room_1.slots) := by
  refine MetFree.of_bodySF (plainFor_of_name pn_1) hisR ?_
  intro p e s m args below meth c s₁ Bd hml0 hP hK
  obtain ⟨rfl, hZ, hh⟩ := hP
  have hx := Bd.exec
  have hby := Bd.bytes
  have hml : c.maxLocals = 3 := hml0
  have hown : s.vm.findClass "com/example/stackwright/stackwright/cli/OutputTailIsContinuationPinLaw" = some m.cls := findClass_of_methodNamed Bd.named
  have hnm := (name_of_methodNamed Bd.named Bd.method).1
  have X0 : Stand p l e room_1 s m #[(.int p0)] below meth c s₁ [] 0 0 := Stand.of_body Bd
  have e0 : s₁.heap = h0 := by rw [← hh, Bd.state]; rfl
  have N0 := Fr.nil n0
  have pre0 : ∀ t, Steps p.tables e below (s₁.setTop (mkF m 0 #[.val (.int p0), .unset, .unset] [])) t → Steps p.tables e below (s₁.setTop (entryFrame m #[(.int p0)] maxLocals)) t := fun t k => castTop (ef_0 m p0) k
  have P1 : ∀ t, Steps p.tables e below (s₁.setTop (mkF m 3 #[.val (.int p0), .val (.int (p0.toInt8.toInt32)), .unset] [])) t → Steps p.tables e below (s₁.setTop (entryFrame m #[(.int p0)] maxLocals)) t := by
    intro t k
    refine pre0 t ?_
    show Steps p.tables e below (s₁.setTop (mkF m 0 #[.val (.int p0), .unset, .unset] [])) _
    refine XS.iloadN X0.here hx rfl (hb hby at_0) rfl ?_
    show Steps p.tables e below (s₁.setTop (mkF m 1 #[.val (.int p0), .unset, .unset] [(.int p0)])) _
    refine XS.i2b X0.here hx rfl (hb hby at_1) rfl ?_
    show Steps p.tables e below (s₁.setTop (mkF m 2 #[.val (.int p0), .unset, .unset] [(.int (p0.toInt8.toInt32))])) _
    refine XS.istoreN X0.here hx rfl (hb hby at_2) rfl (l' := #[.val (.int p0), .val (.int (p0.toInt8.toInt32)), .unset]) rfl ?_
    exact k
  obtain ⟨bv, hbv⟩ : ∃ z : Int32, z = (p0.toInt8.toInt32) := ⟨_, rfl⟩
  have P2 : ∀ t, Steps p.tables e below (s₁.setTop (mkF m 3 #[.val (.int p0), .val (.int bv), .unset] [])) t → Steps p.tables e below (s₁.setTop (entryFrame m #[(.int p0)] maxLocals)) t := by rw [hbv]; exact P1
  have P3 : ∀ t, Steps p.tables e below (s₁.setTop (mkF m 6 #[.val (.int p0), .val (.int bv), .unset] [(.int (-128 : Int32)), (.int bv)])) t → Steps p.tables e below (s₁.setTop (entryFrame m #[(.int p0)] maxLocals)) t := by
    intro t k
    refine P2 t ?_
    show Steps p.tables e below (s₁.setTop (mkF m 3 #[.val (.int p0), .val (.int bv), .unset] [])) _
    refine XS.iloadN X0.here hx rfl (hb hby at_3) rfl ?_
    show Steps p.tables e below (s₁.setTop (mkF m 4 #[.val (.int p0), .val (.int bv), .unset] [(.int bv)])) _
    refine XS.bipush X0.here hx rfl (hb hby at_4) ?_
    exact k
  obtain ⟨z4, hm5, P6⟩ : ∃ (z4 : Int32), ((bv < (-128 : Int32) ∧ z4 = (0 : Int32)) ∨ (¬ (bv < (-128 : Int32)) ∧ (-65 : Int32) < bv ∧ z4 = (0 : Int32)) ∨ (¬ (bv < (-128 : Int32)) ∧ ¬ ((-65 : Int32) < bv) ∧ z4 = (1 : Int32))) ∧ ∀ t, Steps p.tables e below (s₁.setTop (mkF m 21 #[.val (.int p0), .val (.int bv), .val (.int z4)] [])) t → Steps p.tables e below (s₁.setTop (entryFrame m #[(.int p0)] maxLocals)) t := by
    by_cases hd6_0 : bv < (-128 : Int32)
    ·
      refine ⟨(0 : Int32), Or.inl ⟨hd6_0, rfl⟩, fun t k => ?_⟩
      refine P3 t ?_
      show Steps p.tables e below (s₁.setTop (mkF m 6 #[.val (.int p0), .val (.int bv), .unset] [(.int (-128 : Int32)), (.int bv)])) _
      refine XS.icmpYes X0.here hx rfl (pc0 := 6) (pc' := 19) rfl (hb hby at_6) rfl (tlt hd6_0).1 (by decide) (by decide) ?_
      show Steps p.tables e below (s₁.setTop (mkF m 19 #[.val (.int p0), .val (.int bv), .unset] [])) _
      refine XS.iconst X0.here hx rfl (hb hby at_19) ?_
      show Steps p.tables e below (s₁.setTop (mkF m 20 #[.val (.int p0), .val (.int bv), .unset] [(.int (0 : Int32))])) _
      refine XS.istoreN X0.here hx rfl (hb hby at_20) rfl (l' := #[.val (.int p0), .val (.int bv), .val (.int (0 : Int32))]) rfl ?_
      exact k
    ·
      by_cases hd12_1 : (-65 : Int32) < bv
      ·
        refine ⟨(0 : Int32), Or.inr (Or.inl ⟨hd6_0, hd12_1, rfl⟩), fun t k => ?_⟩
        refine P3 t ?_
        show Steps p.tables e below (s₁.setTop (mkF m 6 #[.val (.int p0), .val (.int bv), .unset] [(.int (-128 : Int32)), (.int bv)])) _
        refine XS.icmpNo X0.here hx rfl (hb hby at_6) rfl (flt hd6_0).1 ?_
        show Steps p.tables e below (s₁.setTop (mkF m 9 #[.val (.int p0), .val (.int bv), .unset] [])) _
        refine XS.iloadN X0.here hx rfl (hb hby at_9) rfl ?_
        show Steps p.tables e below (s₁.setTop (mkF m 10 #[.val (.int p0), .val (.int bv), .unset] [(.int bv)])) _
        refine XS.bipush X0.here hx rfl (hb hby at_10) ?_
        show Steps p.tables e below (s₁.setTop (mkF m 12 #[.val (.int p0), .val (.int bv), .unset] [(.int (-65 : Int32)), (.int bv)])) _
        refine XS.icmpYes X0.here hx rfl (pc0 := 12) (pc' := 19) rfl (hb hby at_12) rfl (tlt hd12_1).2.2.1 (by decide) (by decide) ?_
        show Steps p.tables e below (s₁.setTop (mkF m 19 #[.val (.int p0), .val (.int bv), .unset] [])) _
        refine XS.iconst X0.here hx rfl (hb hby at_19) ?_
        show Steps p.tables e below (s₁.setTop (mkF m 20 #[.val (.int p0), .val (.int bv), .unset] [(.int (0 : Int32))])) _
        refine XS.istoreN X0.here hx rfl (hb hby at_20) rfl (l' := #[.val (.int p0), .val (.int bv), .val (.int (0 : Int32))]) rfl ?_
        exact k
      ·
        refine ⟨(1 : Int32), Or.inr (Or.inr (⟨hd6_0, hd12_1, rfl⟩)), fun t k => ?_⟩
        refine P3 t ?_
        show Steps p.tables e below (s₁.setTop (mkF m 6 #[.val (.int p0), .val (.int bv), .unset] [(.int (-128 : Int32)), (.int bv)])) _
        refine XS.icmpNo X0.here hx rfl (hb hby at_6) rfl (flt hd6_0).1 ?_
        show Steps p.tables e below (s₁.setTop (mkF m 9 #[.val (.int p0), .val (.int bv), .unset] [])) _
        refine XS.iloadN X0.here hx rfl (hb hby at_9) rfl ?_
        show Steps p.tables e below (s₁.setTop (mkF m 10 #[.val (.int p0), .val (.int bv), .unset] [(.int bv)])) _
        refine XS.bipush X0.here hx rfl (hb hby at_10) ?_
        show Steps p.tables e below (s₁.setTop (mkF m 12 #[.val (.int p0), .val (.int bv), .unset] [(.int (-65 : Int32)), (.int bv)])) _
        refine XS.icmpNo X0.here hx rfl (hb hby at_12) rfl (flt hd12_1).2.2.1 ?_
        show Steps p.tables e below (s₁.setTop (mkF m 15 #[.val (.int p0), .val (.int bv), .unset] [])) _
        refine XS.iconst X0.here hx rfl (hb hby at_15) ?_
        show Steps p.tables e below (s₁.setTop (mkF m 16 #[.val (.int p0), .val (.int bv), .unset] [(.int (1 : Int32))])) _
        refine XS.goto X0.here hx rfl (pc0 := 16) (pc' := 20) rfl (hb hby at_16) (by decide) (by decide) ?_
        show Steps p.tables e below (s₁.setTop (mkF m 20 #[.val (.int p0), .val (.int bv), .unset] [(.int (1 : Int32))])) _
        refine XS.istoreN X0.here hx rfl (hb hby at_20) rfl (l' := #[.val (.int p0), .val (.int bv), .val (.int (1 : Int32))]) rfl ?_
        exact k
  obtain ⟨_, _, ⟨T7, L7, k7, n7⟩, -, X7, ⟨Lc7, hQ7, l7, y7, z7⟩, st7⟩ := Jvm.LawKit.callS X0 hx (y := (⟨"com/example/stackwright/stackwright/cli/OutputTail", "isContinuation", "(B)Z"⟩ : MethodName)) hown (mvT hZ (hw _ (List.mem_of_getElem? (i := 0) rfl))) (mvT hZ (hw _ (List.mem_of_getElem? (i := 1) rfl))) (mvT hZ (hw _ (List.mem_of_getElem? (i := 2) rfl))) (mvT hZ (hw _ (List.mem_of_getElem? (i := 3) rfl))) (by decide) (backOf (W := 0) (rm1 l Z a0 hw [] bv h0 n0 Z0 ) hZ (hw _ (List.mem_of_getElem? (i := 3) rfl)) (hw _ (List.mem_of_getElem? (i := 2) rfl)) (by decide) (by decide)) (g := (mkF m 22 #[.val (.int p0), .val (.int bv), .val (.int z4)] [(.int bv)])) rfl (by rw [hml]; rfl) (argsL := [(.int bv)]) (rest := []) (lenOf pd_0 rfl) rfl (by show 2 * 0 + _ ≤ _; exact Nat.le_of_eq rfl) (hb hby at_22) (fun _ _ => ⟨rfl, e0, (by decide : 0 + 0 ≤ _), (by decide : 0 + 0 ≤ _)⟩)
  dsimp only [Pt.U, Pt.locs, Pt.cells, Pt.slots] at X7 l7 y7 z7 st7 hQ7
  subst l7 y7 z7
  obtain ⟨r8, rfl, N7q, R9, R10⟩ := hQ7
  have N7 := Fr.app N0 N7q
  have P11 : ∀ t, Steps p.tables e below (T7.setTop (mkF m 26 #[.val (.int p0), .val (.int bv), .val (.int z4)] [(.int z4), (.int r8)])) t → Steps p.tables e below (s₁.setTop (entryFrame m #[(.int p0)] maxLocals)) t := by
    intro t k
    refine P6 t ?_
    show Steps p.tables e below (s₁.setTop (mkF m 21 #[.val (.int p0), .val (.int bv), .val (.int z4)] [])) _
    refine XS.iloadN X0.here hx rfl (hb hby at_21) rfl ?_
    show Steps p.tables e below (s₁.setTop (mkF m 22 #[.val (.int p0), .val (.int bv), .val (.int z4)] [(.int bv)])) _
    refine st7 _ ?_
    show Steps p.tables e below (T7.setTop (mkF m 25 #[.val (.int p0), .val (.int bv), .val (.int z4)] [(.int r8)])) _
    refine XS.iloadN X7.here hx rfl (hb hby at_25) rfl ?_
    exact k
  obtain ⟨z12, hm13, P14⟩ : ∃ (z12 : Int32), ((r8 = z4 ∧ z12 = (1 : Int32)) ∨ (¬ (r8 = z4) ∧ z12 = (0 : Int32))) ∧ ∀ t, Steps p.tables e below (T7.setTop (mkF m 34 #[.val (.int p0), .val (.int bv), .val (.int z4)] [(.int z12)])) t → Steps p.tables e below (s₁.setTop (entryFrame m #[(.int p0)] maxLocals)) t := by
    by_cases hd26_0 : r8 = z4
    ·
      refine ⟨(1 : Int32), Or.inl ⟨hd26_0, rfl⟩, fun t k => ?_⟩
      refine P11 t ?_
      show Steps p.tables e below (T7.setTop (mkF m 26 #[.val (.int p0), .val (.int bv), .val (.int z4)] [(.int z4), (.int r8)])) _
      refine XS.icmpNo X7.here hx rfl (hb hby at_26) rfl (teq hd26_0).2 ?_
      show Steps p.tables e below (T7.setTop (mkF m 29 #[.val (.int p0), .val (.int bv), .val (.int z4)] [])) _
      refine XS.iconst X7.here hx rfl (hb hby at_29) ?_
      show Steps p.tables e below (T7.setTop (mkF m 30 #[.val (.int p0), .val (.int bv), .val (.int z4)] [(.int (1 : Int32))])) _
      refine XS.goto X7.here hx rfl (pc0 := 30) (pc' := 34) rfl (hb hby at_30) (by decide) (by decide) ?_
      exact k
    ·
      refine ⟨(0 : Int32), Or.inr (⟨hd26_0, rfl⟩), fun t k => ?_⟩
      refine P11 t ?_
      show Steps p.tables e below (T7.setTop (mkF m 26 #[.val (.int p0), .val (.int bv), .val (.int z4)] [(.int z4), (.int r8)])) _
      refine XS.icmpYes X7.here hx rfl (pc0 := 26) (pc' := 33) rfl (hb hby at_26) rfl (feq hd26_0).2 (by decide) (by decide) ?_
      show Steps p.tables e below (T7.setTop (mkF m 33 #[.val (.int p0), .val (.int bv), .val (.int z4)] [])) _
      refine XS.iconst X7.here hx rfl (hb hby at_33) ?_
      exact k
  have hs := own_c p0
  rw [← hbv] at hs
  obtain ⟨hs1, hs2⟩ := hs
  have hb : z12 = 1 := own_close bv z4 r8 z12 hm5 R9 hm13 hs1 hs2
  subst hb
  obtain ⟨fs, hr, hrun, hended, hW, hsame⟩ := X7.leave (v := some (.int (1 : Int32))) (fun h => by rw [Bd.returns] at h; cases h)
  refine ⟨_, _, P14 _ ?_, hrun, hended, _, _, rfl, ?_, ⟨_, rfl⟩, hW, hsame.mono (by decide) (by decide)⟩
  · show Steps p.tables e below (T7.setTop (mkF m 34 #[.val (.int p0), .val (.int bv), .val (.int z4)] [(.int (1 : Int32))])) _
    exact retN X7 hx (t := .boolean) Bd.returns (by simp) (hb hby at_34) hr
  · show Q0 Z p0 h0 n0 _ T7.heap _
    rw [R10]
    exact ⟨rfl, N7⟩
set_option maxRecDepth 65536 in
set_option maxHeartbeats 40000000 in
theorem comes_1 {Post : Tables → Env → Array Value → State → Outcome → State → Prop} (hpost : ∀ tb e args s v u, (limb_1_1.after args s (.returned v) u = true ∧ limb_1_2.after args s (.returned v) u = true ∧ True) → FrameEnd s (.returned v) u (Jvm.fieldLocs frame_1_writes args s ++ Jvm.arrayLocs frame_1_arrays args s ++ Jvm.staticLocs frame_1_statics s) 0 0 → Post tb e args s (.returned v) u) :
    ArmFor flags0 classFile x code maxLocals ret World_1 tables_1 room_1 Calls_1 rest_1 Pre_1 Post := by
  intro l hfl _ _ p e ha hc hk s m args below hf hA hF happ hP
  obtain ⟨hcalls, hrest, hpre⟩ := hP
  obtain ⟨-, -, -, hnamed, -, -, -, hat⟩ := (Spec.applies_iff hf).mp happ
  obtain ⟨hg, hn⟩ := and_e (Cond.before_iff.mp (show (Jvm.Cond.and given_1 narrow_1).before args s = true from hpre))
  obtain ⟨hcount, hg0⟩ := and_e hg
  obtain ⟨w0, rfl⟩ : ∃ w0 : Value, args = #[w0] := by
    have hs : args.size = 1 := by simpa [Cond.value, given_1] using hcount
    obtain ⟨L⟩ := args
    match L, hs with
    | [w0], _ => exact ⟨w0, rfl⟩
  have hw := fun d (hd : d ∈ tables_1) => atoms_spec (ws := Jvm.Cond.code x code maxLocals ret :: tables_1) hat d (List.mem_cons_of_mem _ hd)
  have hfit : Fit s := fun {y c} hc i hi => by
    obtain ⟨ha, rfl⟩ := Array.getElem?_eq_some_iff.mp hc
    have q := List.all_eq_true.mp ((Array.all_eq_true_iff_forall_mem.mp hF) _ (Array.getElem_mem ha)) i (List.mem_range.mpr hi)
    simpa [Array.getElem?_eq_getElem hi] using q
  obtain ⟨i0, ei0⟩ := is_v hg0
  obtain rfl : w0 = (.int i0) := Option.some.inj ei0
  obtain ⟨n, o, h1, h2, h3, _, L, rfl, ⟨rfl, N⟩, hq⟩ := rm0 l s _ hw tables_1 i0 s.heap s.heap.size (Nat.le_refl _)  p e ha hc hk s m _ below hf ((Spec.applies_iff_loose hf).mp happ).1 ⟨rfl, State.Warmed39.refl s, rfl⟩ trivial
  exact ⟨n, _, h1, h2, h3, hpost _ _ _ _ _ _ ⟨Cond.after_iff.mpr rfl, Cond.after_iff.mpr (eq_i res_at (Term.int_eval (1)) rfl), trivial⟩ ⟨hq.1, hq.2.1, (hq.2.2.sift fun y hy => Or.inr (N y hy)).mono (by decide) (by decide)⟩⟩
theorem main_1_1 : Claimed_1_1 := comes_1 fun _ _ _ _ _ _ h hF => ⟨h.1, hF⟩
theorem main_1_2 : Claimed_1_2 := comes_1 fun _ _ _ _ _ _ h hF => ⟨h.2.1, hF⟩
end Jvm.Pilot.@@N@@
namespace Jvm.Pilot.@@N@@
open Jvm Jvm.ClassFile Sem Op Lib Jvm.Free Jvm.Stand Jvm.Pilot.@@N@@.Jvm.D
/-! MADE BY PROGRAM (witnessworld.py) out of the Statement's table words and the real class files: 13 classes; the members and pool entries that the words name. The judged class is class 1, her method 1. -/
namespace start1
open Jvm.ClassFile
def u (s : String) : CpInfo := .utf8 (stringToUtf16 s)
/-- a pool by its gaps: so many unusable entries, then the entry; so many at the end -/
def gap : Nat → List CpInfo → List CpInfo
  | 0, r => r
  | n + 1, r => .unusable :: gap n r
def poolList (es : List (Nat × CpInfo)) (last : Nat) : List CpInfo := es.foldr (fun e r => gap e.1 (e.2 :: r)) (gap last [])
def pool (es : List (Nat × CpInfo)) (last : Nat) : Array CpInfo := ⟨poolList es last⟩
def fileOf (pool : Array CpInfo) (this : Nat) (attrs : Array Attribute := #[]) (ms : Array MethodInfo := #[]) (fl : Nat := 33) (sup : Nat := 0) (ifs : Array Nat := #[]) (fds : Array FieldInfo := #[]) : ClassFile where
  minorVersion := 0
  majorVersion := 65
  constantPool := pool
  accessFlags := fl
  thisClass := this
  superClass := sup
  interfaces := ifs
  fields := fds
  methods := ms
  attributes := attrs
def plain (name : String) (sup : Option ClassId) : Class where
  name := name
  kind := .ordinary
  loader := none
  accessFlags := 33
  super := sup
  interfaces := #[]
  cf := none
  fields := #[]
  methods := #[]
  instanceTypes := #[]
  staticTypes := #[]
  resolved := #[]
  callSites := []
  init := .initialized
  statics := none
  mirror := none

def pool0 : Array CpInfo := pool [(5, u "<init>"), (0, u "()V"), (1, .class_ 10), (1, u "java/lang/Object")] 113

def k0m0 : Method := { name := "<init>", desc := "()V", sig := { parameters := [], returnType := none }, accessFlags := 1, code := none }
/-- java/lang/Object -/
def k0 : Class := { plain "java/lang/Object" none with
  accessFlags := 33
  interfaces := #[]
  cf := some (fileOf pool0 8 #[] #[{ accessFlags := 1, nameIndex := 5, descriptorIndex := 6, attributes := #[] }] 33 0 #[] #[])
  fields := #[]
  methods := #[k0m0]
  instanceTypes := #[]
  staticTypes := #[]
  resolved := Array.replicate 124 none
  statics := none }

def pool1 : Array CpInfo := pool [(2, .class_ 4), (1, u "java/lang/Object"), (0, u "<init>"), (0, u "()V"), (0, .methodref 8 9), (0, .class_ 10), (0, .nameAndType 11 12), (0, u "com/example/stackwright/stackwright/cli/OutputTail"), (0, u "isContinuation"), (0, u "(B)Z"), (0, .class_ 14), (0, u "com/example/stackwright/stackwright/cli/OutputTailIsContinuationPinLaw"), (2, u "law"), (0, u "(I)Z")] 3

def k1m0 : Method := { name := "<init>", desc := "()V", sig := { parameters := [], returnType := none }, accessFlags := 1, code := none }
def k1c1 : Code := { maxStack := 2, maxLocals := 3, code := code, exceptionTable := #[], attributes := #[] }
def k1m1 : Method := { name := "law", desc := "(I)Z", sig := { parameters := [.int], returnType := some .boolean }, accessFlags := 9, code := some k1c1 }
/-- com/example/stackwright/stackwright/cli/OutputTailIsContinuationPinLaw -/
def k1 : Class := { plain "com/example/stackwright/stackwright/cli/OutputTailIsContinuationPinLaw" (some 0) with
  accessFlags := 49
  interfaces := #[]
  cf := some (fileOf pool1 13 #[] #[{ accessFlags := 1, nameIndex := 5, descriptorIndex := 6, attributes := #[] }, { accessFlags := 9, nameIndex := 17, descriptorIndex := 18, attributes := #[] }] 49 2 #[] #[])
  fields := #[]
  methods := #[k1m0, k1m1]
  instanceTypes := #[]
  staticTypes := #[]
  resolved := Array.replicate 22 none
  statics := none }

def pool2 : Array CpInfo := pool [(1, .class_ 2), (0, u "java/lang/AutoCloseable"), (0, .class_ 4), (0, u "java/lang/Object")] 7

/-- java/lang/AutoCloseable -/
def k2 : Class := { plain "java/lang/AutoCloseable" (some 0) with
  accessFlags := 1537
  interfaces := #[]
  cf := some (fileOf pool2 1 #[] #[] 1537 3 #[] #[])
  fields := #[]
  methods := #[]
  instanceTypes := #[]
  staticTypes := #[]
  resolved := Array.replicate 12 none
  statics := none }

def pool3 : Array CpInfo := pool [(1, .class_ 2), (0, u "java/io/Closeable"), (0, .class_ 4), (0, u "java/lang/Object"), (0, .class_ 6), (0, u "java/lang/AutoCloseable")] 7

/-- java/io/Closeable -/
def k3 : Class := { plain "java/io/Closeable" (some 0) with
  accessFlags := 1537
  interfaces := #[2]
  cf := some (fileOf pool3 1 #[] #[] 1537 3 #[5] #[])
  fields := #[]
  methods := #[]
  instanceTypes := #[]
  staticTypes := #[]
  resolved := Array.replicate 14 none
  statics := none }

def pool4 : Array CpInfo := pool [(1, .class_ 2), (0, u "java/io/Flushable"), (0, .class_ 4), (0, u "java/lang/Object")] 7

/-- java/io/Flushable -/
def k4 : Class := { plain "java/io/Flushable" (some 0) with
  accessFlags := 1537
  interfaces := #[]
  cf := some (fileOf pool4 1 #[] #[] 1537 3 #[] #[])
  fields := #[]
  methods := #[]
  instanceTypes := #[]
  staticTypes := #[]
  resolved := Array.replicate 12 none
  statics := none }

def pool5 : Array CpInfo := pool [(2, .class_ 4), (1, u "java/lang/Object"), (0, u "<init>"), (0, u "()V"), (0, .class_ 8), (0, u "java/io/OutputStream$1"), (2, .class_ 13), (1, u "java/io/OutputStream"), (11, .class_ 26), (0, u "java/io/Closeable"), (0, .class_ 28), (0, u "java/io/Flushable")] 24

def k5m0 : Method := { name := "<init>", desc := "()V", sig := { parameters := [], returnType := none }, accessFlags := 1, code := none }
/-- java/io/OutputStream -/
def k5 : Class := { plain "java/io/OutputStream" (some 0) with
  accessFlags := 1057
  interfaces := #[3, 4]
  cf := some (fileOf pool5 11 #[.nestMembers #[7]] #[{ accessFlags := 1, nameIndex := 5, descriptorIndex := 6, attributes := #[] }] 1057 2 #[25, 27] #[])
  fields := #[]
  methods := #[k5m0]
  instanceTypes := #[]
  staticTypes := #[]
  resolved := Array.replicate 53 none
  statics := none }

def pool6 : Array CpInfo := pool [(2, .class_ 4), (1, u "java/io/OutputStream"), (0, u "<init>"), (0, u "()V"), (0, .class_ 8), (0, u "com/example/stackwright/stackwright/cli/OutputTail"), (2, u "bytes"), (0, u "[B"), (13, u "dropped"), (0, u "J"), (2, u "length"), (0, u "I"), (37, u "isContinuation"), (0, u "(B)Z"), (6, u "LIMIT"), (1, u "INITIAL_SIZE")] 12

def k6m0 : Method := { name := "<init>", desc := "()V", sig := { parameters := [], returnType := none }, accessFlags := 0, code := none }
def k6c1 : Code := { maxStack := 2, maxLocals := 1, code := prog_3_method_9_code, exceptionTable := #[], attributes := #[] }
def k6m1 : Method := { name := "isContinuation", desc := "(B)Z", sig := { parameters := [.byte], returnType := some .boolean }, accessFlags := 8, code := some k6c1 }
/-- com/example/stackwright/stackwright/cli/OutputTail -/
def k6 : Class := { plain "com/example/stackwright/stackwright/cli/OutputTail" (some 5) with
  accessFlags := 48
  interfaces := #[]
  cf := some (fileOf pool6 7 #[] #[{ accessFlags := 0, nameIndex := 5, descriptorIndex := 6, attributes := #[] }, { accessFlags := 8, nameIndex := 69, descriptorIndex := 70, attributes := #[] }] 48 2 #[] #[{ accessFlags := 24, nameIndex := 77, descriptorIndex := 31, attributes := #[] }, { accessFlags := 26, nameIndex := 79, descriptorIndex := 31, attributes := #[] }, { accessFlags := 2, nameIndex := 11, descriptorIndex := 12, attributes := #[] }, { accessFlags := 2, nameIndex := 30, descriptorIndex := 31, attributes := #[] }, { accessFlags := 2, nameIndex := 26, descriptorIndex := 27, attributes := #[] }])
  fields := #[{ name := "LIMIT", type := .int, accessFlags := 24, slot := 0, constantValue := 0 }, { name := "INITIAL_SIZE", type := .int, accessFlags := 26, slot := 1, constantValue := 0 }, { name := "bytes", type := (.array .byte), accessFlags := 2, slot := 0, constantValue := 0 }, { name := "length", type := .int, accessFlags := 2, slot := 1, constantValue := 0 }, { name := "dropped", type := .long, accessFlags := 2, slot := 2, constantValue := 0 }]
  methods := #[k6m0, k6m1]
  instanceTypes := #[(.array .byte), .int, .long]
  staticTypes := #[.int, .int]
  resolved := Array.replicate 92 none
  statics := none }

def pool7 : Array CpInfo := pool [(1, u "java/lang/Cloneable"), (0, .class_ 1), (0, u "java/lang/Object"), (0, .class_ 3)] 3

/-- java/lang/Cloneable -/
def k7 : Class := { plain "java/lang/Cloneable" (some 0) with
  accessFlags := 1537
  interfaces := #[]
  cf := some (fileOf pool7 2 #[] #[] 1537 4 #[] #[])
  fields := #[]
  methods := #[]
  instanceTypes := #[]
  staticTypes := #[]
  resolved := Array.replicate 8 none
  statics := none }

def pool8 : Array CpInfo := pool [(1, u "java/io/Serializable"), (0, .class_ 1), (0, u "java/lang/Object"), (0, .class_ 3)] 3

/-- java/io/Serializable -/
def k8 : Class := { plain "java/io/Serializable" (some 0) with
  accessFlags := 1537
  interfaces := #[]
  cf := some (fileOf pool8 2 #[] #[] 1537 4 #[] #[])
  fields := #[]
  methods := #[]
  instanceTypes := #[]
  staticTypes := #[]
  resolved := Array.replicate 8 none
  statics := none }

/-- the primitive byte -/
def k9 : Class := { plain "byte" none with kind := .primitive 'B', accessFlags := 0x411 }
/-- [B -/
def k10 : Class := { plain "[B" (some 0) with kind := .array 9 .byte, interfaces := #[7, 8], accessFlags := 1041 }

/-- the primitive int -/
def k11 : Class := { plain "int" none with kind := .primitive 'I', accessFlags := 0x411 }
/-- [I -/
def k12 : Class := { plain "[I" (some 0) with kind := .array 11 .int, interfaces := #[7, 8], accessFlags := 1041 }

def heap : Heap := #[]
def classes : Array Class := #[k0, k1, k2, k3, k4, k5, k6, k7, k8, k9, k10, k11, k12]
def interned : List (Array UInt16 × Addr) := []
def slotsUsed : Nat := 0
def theMethod : MethodId := ⟨1, 1⟩
def args0 : Array Value := #[.int 5]
def aboutOver (below : List Frame) : State where
  vm := { classes := classes, interned := interned.toArray }
  heap := heap
  slotsUsed := slotsUsed
  threads := #[{ frames := .invoking theMethod args0 :: below }]
def below0 : List Frame := [.native { method := ⟨0, 0⟩, args := #[] }]
def about1 : State := aboutOver below0
def p0 : Program := .bare "" "" ""
def e0 : Env := launch0.env 0 0 0
theorem w_frames : about1.frames = Frame.invoking theMethod args0 :: below0 := rfl
set_option maxRecDepth 65536 in
theorem w_args : argsFit about1.vm theMethod args0 = true := by decide +kernel
set_option maxRecDepth 65536 in
theorem w_heap : heapFits about1 = true := by decide +kernel
set_option maxRecDepth 65536 in
theorem w_runnable : about1.curStatus? = some .runnable := by decide +kernel
set_option maxRecDepth 65536 in
theorem w_alone : about1.alone = true := by decide +kernel
set_option maxRecDepth 65536 in
theorem w_named : about1.methodNamed? x = some theMethod := by decide +kernel
set_option maxRecDepth 65536 in
theorem w_hears : about1.hears theMethod below0 = true := by decide +kernel
set_option maxRecDepth 65536 in
theorem w_ripe : about1.ripe theMethod args0 below0 = true := by decide +kernel
theorem w_running : about1.status = .running := rfl
set_option maxRecDepth 65536 in
theorem w_room : about1.hasRoom e0.platform room_1 = true :=
  launch0.hasRoom_least _ room_1 (by decide +kernel) (by decide +kernel) (by decide +kernel) (by decide +kernel) (by decide +kernel) (by decide +kernel)
theorem allAtoms_all (ts : List Jvm.Cond) (a : Array Jvm.Value) (st : Jvm.State) : (allAtoms ts).before a st = ts.all (fun c => c.before a st) := by
  induction ts with
  | nil => rfl
  | cons c t ih =>
    show (Jvm.Cond.and c (allAtoms t)).before a st = _
    rw [Jvm.Cond.before_and, ih, List.all_cons]
def words1 : List Jvm.Cond := Jvm.Cond.code x code maxLocals ret :: tables_1
/-- a 'code' word, met by the world's own term for the bytes: nothing is compared byte by byte -/
theorem code_word {y : MethodName} {bytes : ByteArray} {mx : Nat} {rt : Option FieldType} {a : Array Value} {s : State} {m : MethodId} {meth : Method} {c : Code} (h1 : s.methodNamed? y = some m) (h2 : s.vm.method? m = some meth) (h3 : meth.code = some c) (h4 : c.code = bytes)
    (h5 : (c.maxLocals == mx && c.exceptionTable.isEmpty && decide (c.maxStack ≤ mostOperands) && decide (meth.sig.returnType = rt) && !meth.locks && decide (parseMethodDescriptor y.desc = some meth.sig)) = true) : (Jvm.Cond.code y bytes mx rt).before a s = true := by
  simp only [Bool.and_eq_true, beq_iff_eq, Bool.not_eq_true', decide_eq_true_eq] at h5
  obtain ⟨⟨⟨⟨⟨g1, g2⟩, g3⟩, g4⟩, g5⟩, g6⟩ := h5
  simp [Cond.before, Cond.holds, Cond.value, h1, h2, h3, h4, g1, g2, g3, g4, g5, g6]
def isCode : Jvm.Cond → Bool
  | .code _ _ _ _ => true
  | _ => false
theorem all_split {L : List Jvm.Cond} {P : Jvm.Cond → Bool} (h1 : L.all (fun c => isCode c || P c) = true) (h2 : ∀ c ∈ L.filter isCode, P c = true) : L.all P = true := by
  refine List.all_eq_true.mpr fun c hc => ?_
  have h := List.all_eq_true.mp h1 c hc
  rcases Bool.eq_false_or_eq_true (isCode c) with hi | hi
  · exact h2 c (List.mem_filter.mpr ⟨hc, hi⟩)
  · simpa [hi] using h
set_option maxRecDepth 65536 in
theorem w_c0 : (Jvm.Cond.code x code maxLocals ret).before args0 about1 = true := code_word (m := ⟨1, 1⟩) (meth := k1m1) (c := k1c1) (by decide +kernel) rfl rfl rfl (by decide +kernel)
set_option maxRecDepth 65536 in
theorem w_c1 : (Jvm.Cond.code ({ cls := "com/example/stackwright/stackwright/cli/OutputTail", name := "isContinuation", desc := "(B)Z" } : Jvm.MethodName) prog_3_method_9_code (1 : Nat) (Option.some Jvm.ClassFile.FieldType.boolean)).before args0 about1 = true := code_word (m := ⟨6, 1⟩) (meth := k6m1) (c := k6c1) (by decide +kernel) rfl rfl rfl (by decide +kernel)
def codes1 : List Jvm.Cond := [Jvm.Cond.code x code maxLocals ret, Jvm.Cond.code ({ cls := "com/example/stackwright/stackwright/cli/OutputTail", name := "isContinuation", desc := "(B)Z" } : Jvm.MethodName) prog_3_method_9_code (1 : Nat) (Option.some Jvm.ClassFile.FieldType.boolean)]
set_option maxRecDepth 65536 in
theorem codes_eq : words1.filter isCode = codes1 := rfl
theorem w_codes : ∀ c ∈ words1.filter isCode, c.before args0 about1 = true := by
  rw [codes_eq]
  intro c hc
  simp only [codes1, List.mem_cons, List.not_mem_nil, or_false] at hc
  rcases hc with rfl | rfl
  · exact w_c0
  · exact w_c1
set_option maxRecDepth 65536 in
theorem w_t1 : words1.all (fun c => isCode c || c.before args0 about1) = true := by decide +kernel
theorem w_tables : (allAtoms (Jvm.Cond.code x code maxLocals ret :: tables_1)).before args0 about1 = true := by
  rw [allAtoms_all]
  show words1.all (fun c => c.before args0 about1) = true
  refine all_split ?_ w_codes
  rw [w_t1]
set_option maxRecDepth 65536 in
theorem w_case : (Jvm.Cond.and given_1 narrow_1).before args0 about1 = true := by decide +kernel
theorem w_applies : (headSpec (Jvm.Cond.code x code maxLocals ret :: tables_1) room_1).applies x e0.platform about1 = true :=
  (Spec.applies_iff w_frames).mpr ⟨w_running, w_runnable, w_alone, w_named, w_hears, w_ripe, w_room, w_tables⟩
theorem atStart : AtStart classFile x code maxLocals ret World_1 tables_1 room_1 Calls_1 rest_1 Pre_1 launch0 p0 e0 about1 theMethod args0 below0 :=
  ⟨lists_1, trivial, launch0.admits_env _ _ _, launch0.least_env, fairChoices_fair.cas, fairChoices_fair.clock, w_frames, w_args, w_heap, w_applies, trivial, trivial, w_case⟩
end start1
theorem witness_1 : WitnessClaimed_1 := ⟨start1.p0, start1.e0, start1.about1, start1.theMethod, start1.args0, start1.below0, start1.atStart⟩
end Jvm.Pilot.@@N@@
