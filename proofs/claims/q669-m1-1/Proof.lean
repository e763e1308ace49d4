import JvmDerived
import JvmDerived.Pilot.@@N@@Statement
import JvmDerived.Pilot.@@N@@Code
set_option linter.unusedVariables false
set_option linter.unusedSimpArgs false
namespace Jvm.RoadKit
open Sem ClassFile Op Lib Jvm.Stand Jvm.Free Jvm.LawKit
section New
variable {p : Program} {l : Launch} {e : Env} {R : Room} {s : State} {m : MethodId} {args : Array Value} {below : List Frame} {meth : Method} {c : Code} {T : State} {locs : List Loc} {cells slots : Nat}
theorem retI (X : Stand p l e R s m args below meth c T locs cells slots) (hx : p.tables.exec = Jvm.exec) {pc : Nat} {Ls : Array Slot} {z : Int32} {rest : List Value} (hret : meth.sig.returnType = some .int) (hd : decode c.code pc = .ok (.ireturn, 1)) {fs : List Frame}
    (hl : ∀ (f : JFrame) (acts : List Action), f.method = m → f.locked = none → f.entered = [] → (doReturn e (T.setTop f) acts (some (.int z))).1 = T.setFrames fs) : Steps p.tables e below (T.setTop (mkF m pc Ls (.int z :: rest))) (T.setFrames fs) := by
  have hm' : T.vm.method? m = some meth := X.method'
  have hn : narrow .int (.int z) = .int z := rfl
  show Steps p.tables e below (T.setTop { method := m, pc := pc, locals := Ls, stack := _ :: rest, locked := none }) _
  jvm_step X.here [X.here.top, hx, hd, hm', hret, hn]
  first | (intro acts; rw [hl _ acts rfl rfl rfl]) | rw [hl _ _ rfl rfl rfl]
  exact Steps.refl _
end New
end Jvm.RoadKit
namespace Jvm.Pilot.@@N@@
open Jvm Jvm.ClassFile Sem Op Lib Jvm.Free Jvm.Stand Jvm.LawKit Jvm.RoadKit Bundle Jvm.Pilot.@@N@@.Jvm.D
theorem pn_0 : plainName "com/example/stackwright/stackwright/dialects/WordInstruction" = true := by first | (simp [plainName, overriddenIn]; done) | decide +kernel
theorem d1_0 : decode prog_31_method_10_code 0 = .ok (.iload_n 0, 1) := by decide +kernel
theorem d1_1 : decode prog_31_method_10_code 1 = .ok (.ifCond .lt 11, 3) := by decide +kernel
theorem d1_4 : decode prog_31_method_10_code 4 = .ok (.iload_n 0, 1) := by decide +kernel
theorem d1_5 : decode prog_31_method_10_code 5 = .ok (.getstatic 138, 3) := by decide +kernel
theorem d1_8 : decode prog_31_method_10_code 8 = .ok (.arraylength, 1) := by decide +kernel
theorem d1_9 : decode prog_31_method_10_code 9 = .ok (.if_icmp .lt 8, 3) := by decide +kernel
theorem d1_17 : decode prog_31_method_10_code 17 = .ok (.getstatic 138, 3) := by decide +kernel
theorem d1_20 : decode prog_31_method_10_code 20 = .ok (.iload_n 0, 1) := by decide +kernel
theorem d1_21 : decode prog_31_method_10_code 21 = .ok (.aaload, 1) := by decide +kernel
theorem d1_22 : decode prog_31_method_10_code 22 = .ok (.areturn, 1) := by decide +kernel
theorem ef_1 (m : MethodId) (p1 : Int32) : entryFrame m #[(.int p1)] 1 = mkF m 0 #[.val (.int p1)] [] := by first | (simp [entryFrame, mkF, argsToLocals, Value.category]; done) | rfl
def Q1 (Z : State) (p1 : Int32) (aA : Addr) (cl : Cell) (aw : Addr) (h0 : Heap) (n0 : Nat) (v : Option Value) (h : Heap) (L : List Loc) : Prop := v = some (.ref aw) ∧ Fr n0 L ∧ h = h0
set_option maxRecDepth 65536 in
set_option maxHeartbeats 40000000 in
theorem rm1 (l : Launch) (Z : State) (a0 : Array Value) (hw : ∀ d ∈ tables_1, d.before a0 Z = true) (ws : List Jvm.Cond) (p1 : Int32) (aA : Addr) (cl : Cell) (aw : Addr) (h0 : Heap) (n0 : Nat) (Z0 : n0 ≤ h0.size) (HS0 : Sta Z h0 "com/example/stackwright/stackwright/dialects/WordInstruction" "BY_CODE" "[Lcom/example/stackwright/stackwright/dialects/WordInstruction;" (.ref aA)) (HA1 : Arr Z h0 aA cl (.object "com/example/stackwright/stackwright/dialects/WordInstruction")) (hsz : (cl.slots.size = (26 : Int32).toNatClampNeg)) (hlo : (¬ (p1 < (0 : Int32)))) (hhi : (p1 < (26 : Int32))) (hat : (cl.slots[p1.toNatClampNeg]? = some (.ref aw))) :
    MetFree l (⟨"com/example/stackwright/stackwright/dialects/WordInstruction", "byCode", "(I)Lcom/example/stackwright/stackwright/dialects/WordInstruction;"⟩ : MethodName) (head1 (Jvm.Cond.code (⟨"com/example/stackwright/stackwright/dialects/WordInstruction", "byCode", "(I)Lcom/example/stackwright/stackwright/dialects/WordInstruction;"⟩ : MethodName) prog_31_method_10_code 1 (some (.object "com/example/stackwright/stackwright/dialects/WordInstruction")) :: ws) ({ frames := 0, cells := 0, slots := 0, locals := 0 } : Room)) (fun a U => a = #[(.int p1)] ∧ Z.Warmed39 U.vm ∧ U.heap = h0) (fun _ _ _ _ _ => True) (fun _ U o U' => ∃ v L, o = .returned v ∧ Q1 Z p1 aA cl aw h0 n0 v U'.heap L ∧ FrameEnd U o U' L ({ frames := 0, cells := 0, slots := 0, locals := 0 } : Room).cells ({ frames := 0, cells := 0, slots := 0, locals := 0 } : Room).slots) := by
  refine MetFree.of_bodySF (plainFor_of_name pn_0) hisR ?_
  intro p e s m args below meth c s₁ Bd hml0 hP hK
  obtain ⟨rfl, hZ, hh⟩ := hP
  have hx := Bd.exec
  have hby := Bd.bytes
  have hml : c.maxLocals = 1 := hml0
  have hown : s.vm.findClass "com/example/stackwright/stackwright/dialects/WordInstruction" = some m.cls := findClass_of_methodNamed Bd.named
  have hnm := (name_of_methodNamed Bd.named Bd.method).1
  have X0 : Stand p l e ({ frames := 0, cells := 0, slots := 0, locals := 0 } : Room) s m #[(.int p1)] below meth c s₁ [] 0 0 := Stand.of_body Bd
  have e0 : s₁.heap = h0 := by rw [← hh, Bd.state]; rfl
  have N0 := Fr.nil n0
  have pre0 : ∀ t, Steps p.tables e below (s₁.setTop (mkF m 0 #[.val (.int p1)] [])) t → Steps p.tables e below (s₁.setTop (entryFrame m #[(.int p1)] 1)) t := fun t k => castTop (ef_1 m p1) k
  have hc1_1 : ¬ (p1 < (0 : Int32)) := hlo
  obtain ⟨T2, X2, e2, st2⟩ := getS2 X0 hx hZ hown (host := "") (Or.inl (hw _ (List.mem_of_getElem? (i := 5) rfl))) Via.refl e0 HS0 (g := (mkF m 5 #[.val (.int p1)] [(.int p1)])) rfl (hb hby d1_5)
  have hc9_3 : p1 < (26 : Int32) := hhi
  obtain ⟨T4, X4, e4, st4⟩ := getS2 X2 hx hZ hown (host := "") (Or.inl (hw _ (List.mem_of_getElem? (i := 5) rfl))) Via.refl e2 HS0 (g := (mkF m 17 #[.val (.int p1)] [])) rfl (hb hby d1_17)
  obtain ⟨fs, hr, hrun, hended, hW, hsame⟩ := X4.leave (v := some (.ref aw)) (fun h => by rw [Bd.returns] at h; cases h)
  refine ⟨_, _, pre0 _ ?_, hrun, hended, _, _, rfl, ?_, ⟨_, rfl⟩, hW, hsame.mono (by decide) (by decide)⟩
  · show Steps p.tables e below (s₁.setTop (mkF m 0 #[.val (.int p1)] [])) _
    refine XS.iloadN X0.here hx rfl (hb hby d1_0) rfl ?_
    show Steps p.tables e below (s₁.setTop (mkF m 1 #[.val (.int p1)] [(.int p1)])) _
    refine XS.ifNo X0.here hx rfl (hb hby d1_1) rfl ((if0 _ _).trans (flt hc1_1).1) ?_
    show Steps p.tables e below (s₁.setTop (mkF m 4 #[.val (.int p1)] [])) _
    refine XS.iloadN X0.here hx rfl (hb hby d1_4) rfl ?_
    show Steps p.tables e below (s₁.setTop (mkF m 5 #[.val (.int p1)] [(.int p1)])) _
    refine st2 _ ?_
    show Steps p.tables e below (T2.setTop (mkF m 8 #[.val (.int p1)] [(.ref aA), (.int p1)])) _
    refine X2.arraylength hx (by rw [e2]; exact HA1.1) (State.isArrayOf_alike hZ.alike HA1.2.1) (g := (mkF m 8 #[.val (.int p1)] [(.ref aA), (.int p1)])) rfl rfl (hb hby d1_8) _ ?_
    rw [len_of (z := (26 : Int32)) hsz (by decide)]
    show Steps p.tables e below (T2.setTop (mkF m 9 #[.val (.int p1)] [(.int (26 : Int32)), (.int p1)])) _
    refine XS.icmpYes X2.here hx rfl (pc0 := 9) (pc' := 17) rfl (hb hby d1_9) rfl (tlt hc9_3).1 (by decide) (by decide) ?_
    show Steps p.tables e below (T2.setTop (mkF m 17 #[.val (.int p1)] [])) _
    refine st4 _ ?_
    show Steps p.tables e below (T4.setTop (mkF m 20 #[.val (.int p1)] [(.ref aA)])) _
    refine XS.iloadN X4.here hx rfl (hb hby d1_20) rfl ?_
    show Steps p.tables e below (T4.setTop (mkF m 21 #[.val (.int p1)] [(.int p1), (.ref aA)])) _
    refine X4.aaload hx (j := p1) (v := (.ref aw)) (by rw [e4]; exact HA1.1) (State.isArrayOf_alike hZ.alike HA1.2.1) rfl HA1.2.2 (inb_of hsz ⟨hlo, hhi⟩) hat (g := (mkF m 21 #[.val (.int p1)] [(.int p1), (.ref aA)])) rfl rfl (hb hby d1_21) _ ?_
    show Steps p.tables e below (T4.setTop (mkF m 22 #[.val (.int p1)] [(.ref aw)])) _
    exact retOut X4 hx Bd.returns rfl (Or.inr (Or.inr (Or.inr (Or.inr ⟨rfl, rfl, rfl⟩)))) (hb hby d1_22) hr
  · show Q1 Z p1 aA cl aw h0 n0 _ T4.heap _
    rw [e4]
    exact ⟨rfl, N0, rfl⟩
theorem pn_1 : plainName "java/lang/Enum" = true := by first | (simp [plainName, overriddenIn]; done) | decide +kernel
theorem d3_0 : decode jdk_37_method_2_code 0 = .ok (.aload_n 0, 1) := by decide +kernel
theorem d3_1 : decode jdk_37_method_2_code 1 = .ok (.getfield 7, 3) := by decide +kernel
theorem d3_4 : decode jdk_37_method_2_code 4 = .ok (.ireturn, 1) := by decide +kernel
theorem ef_3 (m : MethodId) (a1 : Addr) : entryFrame m #[(.ref a1)] 1 = mkF m 0 #[.val (.ref a1)] [] := by first | (simp [entryFrame, mkF, argsToLocals, Value.category]; done) | rfl
def Q3 (Z : State) (a1 : Addr) (p1 : Int32) (h0 : Heap) (n0 : Nat) (v : Option Value) (h : Heap) (L : List Loc) : Prop := v = some (.int p1) ∧ Fr n0 L ∧ h = h0
set_option maxRecDepth 65536 in
set_option maxHeartbeats 40000000 in
theorem rm3 (l : Launch) (Z : State) (a0 : Array Value) (hw : ∀ d ∈ tables_1, d.before a0 Z = true) (ws : List Jvm.Cond) (a1 : Addr) (p1 : Int32) (h0 : Heap) (n0 : Nat) (Z0 : n0 ≤ h0.size) (HF0 : Fld Z h0 a1 "java/lang/Enum" "ordinal" "I" (.int p1)) :
    MetFree l (⟨"java/lang/Enum", "ordinal", "()I"⟩ : MethodName) (head1 (Jvm.Cond.code (⟨"java/lang/Enum", "ordinal", "()I"⟩ : MethodName) jdk_37_method_2_code 1 (some .int) :: ws) ({ frames := 0, cells := 0, slots := 0, locals := 0 } : Room)) (fun a U => a = #[(.ref a1)] ∧ Z.Warmed39 U.vm ∧ U.heap = h0) (fun _ _ _ _ _ => True) (fun _ U o U' => ∃ v L, o = .returned v ∧ Q3 Z a1 p1 h0 n0 v U'.heap L ∧ FrameEnd U o U' L ({ frames := 0, cells := 0, slots := 0, locals := 0 } : Room).cells ({ frames := 0, cells := 0, slots := 0, locals := 0 } : Room).slots) := by
  refine MetFree.of_bodySF (plainFor_of_name pn_1) hisR ?_
  intro p e s m args below meth c s₁ Bd hml0 hP hK
  obtain ⟨rfl, hZ, hh⟩ := hP
  have hx := Bd.exec
  have hby := Bd.bytes
  have hml : c.maxLocals = 1 := hml0
  have hown : s.vm.findClass "java/lang/Enum" = some m.cls := findClass_of_methodNamed Bd.named
  have hnm := (name_of_methodNamed Bd.named Bd.method).1
  have X0 : Stand p l e ({ frames := 0, cells := 0, slots := 0, locals := 0 } : Room) s m #[(.ref a1)] below meth c s₁ [] 0 0 := Stand.of_body Bd
  have e0 : s₁.heap = h0 := by rw [← hh, Bd.state]; rfl
  have N0 := Fr.nil n0
  have pre0 : ∀ t, Steps p.tables e below (s₁.setTop (mkF m 0 #[.val (.ref a1)] [])) t → Steps p.tables e below (s₁.setTop (entryFrame m #[(.ref a1)] 1)) t := fun t k => castTop (ef_3 m a1) k
  obtain ⟨T1, X1, e1, st1⟩ := getF X0 hx hZ hown (host := "") (Or.inl (hw _ (List.mem_of_getElem? (i := 20) rfl))) Via.refl e0 HF0 (g := (mkF m 1 #[.val (.ref a1)] [(.ref a1)])) rfl rfl (hb hby d3_1)
  obtain ⟨fs, hr, hrun, hended, hW, hsame⟩ := X1.leave (v := some (.int p1)) (fun h => by rw [Bd.returns] at h; cases h)
  refine ⟨_, _, pre0 _ ?_, hrun, hended, _, _, rfl, ?_, ⟨_, rfl⟩, hW, hsame.mono (by decide) (by decide)⟩
  · show Steps p.tables e below (s₁.setTop (mkF m 0 #[.val (.ref a1)] [])) _
    refine XS.aloadN X0.here hx rfl (hb hby d3_0) rfl rfl ?_
    show Steps p.tables e below (s₁.setTop (mkF m 1 #[.val (.ref a1)] [(.ref a1)])) _
    refine st1 _ ?_
    show Steps p.tables e below (T1.setTop (mkF m 4 #[.val (.ref a1)] [(.int p1)])) _
    exact retI X1 hx Bd.returns (hb hby d3_4) hr
  · show Q3 Z a1 p1 h0 n0 _ T1.heap _
    rw [e1]
    exact ⟨rfl, N0, rfl⟩
theorem d2_0 : decode prog_31_method_6_code 0 = .ok (.aload_n 0, 1) := by decide +kernel
theorem d2_1 : decode prog_31_method_6_code 1 = .ok (.invokevirtual 115, 3) := by decide +kernel
theorem pd_0 : parseMethodDescriptor "()I" = some ⟨[], some .int⟩ := by decide +kernel
theorem d2_4 : decode prog_31_method_6_code 4 = .ok (.ireturn, 1) := by decide +kernel
theorem ef_2 (m : MethodId) (a1 : Addr) : entryFrame m #[(.ref a1)] 1 = mkF m 0 #[.val (.ref a1)] [] := by first | (simp [entryFrame, mkF, argsToLocals, Value.category]; done) | rfl
def Q2 (Z : State) (a1 : Addr) (p1 : Int32) (h0 : Heap) (n0 : Nat) (v : Option Value) (h : Heap) (L : List Loc) : Prop := v = some (.int p1) ∧ Fr n0 L ∧ h = h0
set_option maxRecDepth 65536 in
set_option maxHeartbeats 40000000 in
theorem rm2 (l : Launch) (Z : State) (a0 : Array Value) (hw : ∀ d ∈ tables_1, d.before a0 Z = true) (ws : List Jvm.Cond) (a1 : Addr) (p1 : Int32) (h0 : Heap) (n0 : Nat) (Z0 : n0 ≤ h0.size) (HF0 : Fld Z h0 a1 "java/lang/Enum" "ordinal" "I" (.int p1)) (HE1 : Exa Z h0 a1 "com/example/stackwright/stackwright/dialects/WordInstruction") :
    MetFree l (⟨"com/example/stackwright/stackwright/dialects/WordInstruction", "code", "()I"⟩ : MethodName) (head1 (Jvm.Cond.code (⟨"com/example/stackwright/stackwright/dialects/WordInstruction", "code", "()I"⟩ : MethodName) prog_31_method_6_code 1 (some .int) :: ws) ({ frames := 1, cells := 0, slots := 0, locals := 12 } : Room)) (fun a U => a = #[(.ref a1)] ∧ Z.Warmed39 U.vm ∧ U.heap = h0) (fun _ _ _ _ _ => True) (fun _ U o U' => ∃ v L, o = .returned v ∧ Q2 Z a1 p1 h0 n0 v U'.heap L ∧ FrameEnd U o U' L ({ frames := 1, cells := 0, slots := 0, locals := 12 } : Room).cells ({ frames := 1, cells := 0, slots := 0, locals := 12 } : Room).slots) := by
  refine MetFree.of_bodySF (plainFor_of_name pn_0) hisR ?_
  intro p e s m args below meth c s₁ Bd hml0 hP hK
  obtain ⟨rfl, hZ, hh⟩ := hP
  have hx := Bd.exec
  have hby := Bd.bytes
  have hml : c.maxLocals = 1 := hml0
  have hown : s.vm.findClass "com/example/stackwright/stackwright/dialects/WordInstruction" = some m.cls := findClass_of_methodNamed Bd.named
  have hnm := (name_of_methodNamed Bd.named Bd.method).1
  have X0 : Stand p l e ({ frames := 1, cells := 0, slots := 0, locals := 12 } : Room) s m #[(.ref a1)] below meth c s₁ [] 0 0 := Stand.of_body Bd
  have e0 : s₁.heap = h0 := by rw [← hh, Bd.state]; rfl
  have N0 := Fr.nil n0
  have pre0 : ∀ t, Steps p.tables e below (s₁.setTop (mkF m 0 #[.val (.ref a1)] [])) t → Steps p.tables e below (s₁.setTop (entryFrame m #[(.ref a1)] 1)) t := fun t k => castTop (ef_2 m a1) k
  obtain ⟨cq1, kq1, q1a, q1b, q1c⟩ := isOf hZ e0 HE1
  obtain ⟨_, _, ⟨T1, L1, k1, n1⟩, -, X1, ⟨Lc1, hQ1, l1, y1, z1⟩, st1⟩ := X0.virtualBackUp hx (x := (⟨"com/example/stackwright/stackwright/dialects/WordInstruction", "ordinal", "()I"⟩ : MethodName)) (y := (⟨"java/lang/Enum", "ordinal", "()I"⟩ : MethodName)) hown (mvT hZ (hw _ (List.mem_of_getElem? (i := 13) rfl))) (mvT hZ (hw _ (List.mem_of_getElem? (i := 14) rfl))) (mvT hZ (hw _ (List.mem_of_getElem? (i := 15) rfl))) (by decide) (mvT hZ (hw _ (List.mem_of_getElem? (i := 17) rfl))) (mvT hZ (hw _ (List.mem_of_getElem? (i := 16) rfl))) (backOf (W := 0) (rm3 l Z a0 hw [] a1 p1 h0 n0 Z0 HF0) hZ (hw _ (List.mem_of_getElem? (i := 19) rfl)) (hw _ (List.mem_of_getElem? (i := 18) rfl)) (by decide) (by decide)) q1a q1c (g := (mkF m 1 #[.val (.ref a1)] [(.ref a1)])) rfl (by rw [hml]; rfl) (Steps.refl _) (argsL := []) (rest := []) (lenOf pd_0 rfl) rfl (by show 2 * 0 + _ ≤ _; exact Nat.le_of_eq rfl) (hb hby d2_1) (fun _ _ => ⟨rfl, e0, (by decide : 0 + 0 ≤ _), (by decide : 0 + 0 ≤ _)⟩)
  dsimp only [Pt.U, Pt.locs, Pt.cells, Pt.slots] at X1 l1 y1 z1 st1 hQ1
  subst l1 y1 z1
  obtain ⟨rfl, N1q, R2⟩ := hQ1
  have N1 := Fr.app N0 N1q
  obtain ⟨fs, hr, hrun, hended, hW, hsame⟩ := X1.leave (v := some (.int p1)) (fun h => by rw [Bd.returns] at h; cases h)
  refine ⟨_, _, pre0 _ ?_, hrun, hended, _, _, rfl, ?_, ⟨_, rfl⟩, hW, hsame.mono (by decide) (by decide)⟩
  · show Steps p.tables e below (s₁.setTop (mkF m 0 #[.val (.ref a1)] [])) _
    refine XS.aloadN X0.here hx rfl (hb hby d2_0) rfl rfl ?_
    show Steps p.tables e below (s₁.setTop (mkF m 1 #[.val (.ref a1)] [(.ref a1)])) _
    refine st1.trans ?_
    show Steps p.tables e below (T1.setTop (mkF m 4 #[.val (.ref a1)] [(.int p1)])) _
    exact retI X1 hx Bd.returns (hb hby d2_4) hr
  · show Q2 Z a1 p1 h0 n0 _ T1.heap _
    rw [R2]
    exact ⟨rfl, N1, rfl⟩
theorem d4_0 : decode prog_31_method_7_code 0 = .ok (.aload_n 0, 1) := by decide +kernel
theorem d4_1 : decode prog_31_method_7_code 1 = .ok (.getstatic 73, 3) := by decide +kernel
theorem d4_4 : decode prog_31_method_7_code 4 = .ok (.if_acmp .eq 21, 3) := by decide +kernel
theorem d4_25 : decode prog_31_method_7_code 25 = .ok (.iconst 0, 1) := by decide +kernel
theorem d4_26 : decode prog_31_method_7_code 26 = .ok (.ireturn, 1) := by decide +kernel
theorem d4_7 : decode prog_31_method_7_code 7 = .ok (.aload_n 0, 1) := by decide +kernel
theorem d4_8 : decode prog_31_method_7_code 8 = .ok (.getstatic 76, 3) := by decide +kernel
theorem d4_11 : decode prog_31_method_7_code 11 = .ok (.if_acmp .eq 14, 3) := by decide +kernel
theorem d4_14 : decode prog_31_method_7_code 14 = .ok (.aload_n 0, 1) := by decide +kernel
theorem d4_15 : decode prog_31_method_7_code 15 = .ok (.getstatic 79, 3) := by decide +kernel
theorem d4_18 : decode prog_31_method_7_code 18 = .ok (.if_acmp .eq 7, 3) := by decide +kernel
theorem d4_21 : decode prog_31_method_7_code 21 = .ok (.iconst 1, 1) := by decide +kernel
theorem d4_22 : decode prog_31_method_7_code 22 = .ok (.goto 4, 3) := by decide +kernel
theorem ef_4 (m : MethodId) (a1 : Addr) : entryFrame m #[(.ref a1)] 1 = mkF m 0 #[.val (.ref a1)] [] := by first | (simp [entryFrame, mkF, argsToLocals, Value.category]; done) | rfl
def Q4 (Z : State) (a1 : Addr) (c1 : Addr) (c2 : Addr) (c3 : Addr) (h0 : Heap) (n0 : Nat) (v : Option Value) (h : Heap) (L : List Loc) : Prop := ∃ (r : Int32), v = some (.int r) ∧ Fr n0 L ∧ (((a1 = c1 ∨ a1 = c2 ∨ a1 = c3) ∧ r = 0) ∨ (¬ (a1 = c1 ∨ a1 = c2 ∨ a1 = c3) ∧ r = 1)) ∧ h = h0
set_option maxRecDepth 65536 in
set_option maxHeartbeats 40000000 in
theorem rm4 (l : Launch) (Z : State) (a0 : Array Value) (hw : ∀ d ∈ tables_1, d.before a0 Z = true) (ws : List Jvm.Cond) (a1 : Addr) (c1 : Addr) (c2 : Addr) (c3 : Addr) (h0 : Heap) (n0 : Nat) (Z0 : n0 ≤ h0.size) (HS0 : Sta Z h0 "com/example/stackwright/stackwright/dialects/WordInstruction" "CALL" "Lcom/example/stackwright/stackwright/dialects/WordInstruction;" (.ref c1)) (HS1 : Sta Z h0 "com/example/stackwright/stackwright/dialects/WordInstruction" "RET" "Lcom/example/stackwright/stackwright/dialects/WordInstruction;" (.ref c2)) (HS2 : Sta Z h0 "com/example/stackwright/stackwright/dialects/WordInstruction" "RET_V" "Lcom/example/stackwright/stackwright/dialects/WordInstruction;" (.ref c3)) :
    MetFree l (⟨"com/example/stackwright/stackwright/dialects/WordInstruction", "supported", "()Z"⟩ : MethodName) (head1 (Jvm.Cond.code (⟨"com/example/stackwright/stackwright/dialects/WordInstruction", "supported", "()Z"⟩ : MethodName) prog_31_method_7_code 1 (some .boolean) :: ws) ({ frames := 0, cells := 0, slots := 0, locals := 0 } : Room)) (fun a U => a = #[(.ref a1)] ∧ Z.Warmed39 U.vm ∧ U.heap = h0) (fun _ _ _ _ _ => True) (fun _ U o U' => ∃ v L, o = .returned v ∧ Q4 Z a1 c1 c2 c3 h0 n0 v U'.heap L ∧ FrameEnd U o U' L ({ frames := 0, cells := 0, slots := 0, locals := 0 } : Room).cells ({ frames := 0, cells := 0, slots := 0, locals := 0 } : Room).slots) := by
  refine MetFree.of_bodySF (plainFor_of_name pn_0) hisR ?_
  intro p e s m args below meth c s₁ Bd hml0 hP hK
  obtain ⟨rfl, hZ, hh⟩ := hP
  have hx := Bd.exec
  have hby := Bd.bytes
  have hml : c.maxLocals = 1 := hml0
  have hown : s.vm.findClass "com/example/stackwright/stackwright/dialects/WordInstruction" = some m.cls := findClass_of_methodNamed Bd.named
  have hnm := (name_of_methodNamed Bd.named Bd.method).1
  have X0 : Stand p l e ({ frames := 0, cells := 0, slots := 0, locals := 0 } : Room) s m #[(.ref a1)] below meth c s₁ [] 0 0 := Stand.of_body Bd
  have e0 : s₁.heap = h0 := by rw [← hh, Bd.state]; rfl
  have N0 := Fr.nil n0
  have pre0 : ∀ t, Steps p.tables e below (s₁.setTop (mkF m 0 #[.val (.ref a1)] [])) t → Steps p.tables e below (s₁.setTop (entryFrame m #[(.ref a1)] 1)) t := fun t k => castTop (ef_4 m a1) k
  obtain ⟨T1, X1, e1, st1⟩ := getS2 X0 hx hZ hown (host := "") (Or.inl (hw _ (List.mem_of_getElem? (i := 27) rfl))) Via.refl e0 HS0 (g := (mkF m 1 #[.val (.ref a1)] [(.ref a1)])) rfl (hb hby d4_1)
  have P2 : ∀ t, Steps p.tables e below (T1.setTop (mkF m 4 #[.val (.ref a1)] [(.ref c1), (.ref a1)])) t → Steps p.tables e below (s₁.setTop (entryFrame m #[(.ref a1)] 1)) t := by
    intro t k
    refine pre0 t ?_
    show Steps p.tables e below (s₁.setTop (mkF m 0 #[.val (.ref a1)] [])) _
    refine XS.aloadN X0.here hx rfl (hb hby d4_0) rfl rfl ?_
    show Steps p.tables e below (s₁.setTop (mkF m 1 #[.val (.ref a1)] [(.ref a1)])) _
    refine st1 _ ?_
    exact k
  by_cases h1 : a1 = c1
  · obtain ⟨fs, hr, hrun, hended, hW, hsame⟩ := X1.leave (v := some (.int (0 : Int32))) (fun h => by rw [Bd.returns] at h; cases h)
    refine ⟨_, _, P2 _ ?_, hrun, hended, _, _, rfl, ?_, ⟨_, rfl⟩, hW, hsame.mono (by decide) (by decide)⟩
    · show Steps p.tables e below (T1.setTop (mkF m 4 #[.val (.ref a1)] [(.ref c1), (.ref a1)])) _
      refine Jvm.RoadKit.acmp (g := (mkF m 4 #[.val (.ref a1)] [(.ref c1), (.ref a1)])) X1 hx rfl rfl rfl (pc0 := 4) (pc' := 25) (same := true) rfl (hb hby d4_4) rfl (decide_eq_true (congrArg Value.ref h1)) (by decide) (by decide) ?_
      show Steps p.tables e below (T1.setTop (mkF m 25 #[.val (.ref a1)] [])) _
      refine XS.iconst X1.here hx rfl (hb hby d4_25) ?_
      show Steps p.tables e below (T1.setTop (mkF m 26 #[.val (.ref a1)] [(.int (0 : Int32))])) _
      exact retN X1 hx (t := .boolean) Bd.returns (by simp) (hb hby d4_26) hr
    · show Q4 Z a1 c1 c2 c3 h0 n0 _ T1.heap _
      rw [e1]
      exact ⟨(0 : Int32), rfl, N0, Or.inl ⟨Or.inl h1, rfl⟩, rfl⟩
  · obtain ⟨T3, X3, e3, st3⟩ := getS2 X1 hx hZ hown (host := "") (Or.inl (hw _ (List.mem_of_getElem? (i := 29) rfl))) Via.refl e1 HS1 (g := (mkF m 8 #[.val (.ref a1)] [(.ref a1)])) rfl (hb hby d4_8)
    have P4 : ∀ t, Steps p.tables e below (T3.setTop (mkF m 11 #[.val (.ref a1)] [(.ref c2), (.ref a1)])) t → Steps p.tables e below (s₁.setTop (entryFrame m #[(.ref a1)] 1)) t := by
      intro t k
      refine P2 t ?_
      show Steps p.tables e below (T1.setTop (mkF m 4 #[.val (.ref a1)] [(.ref c1), (.ref a1)])) _
      refine Jvm.RoadKit.acmp (g := (mkF m 4 #[.val (.ref a1)] [(.ref c1), (.ref a1)])) X1 hx rfl rfl rfl (pc0 := 4) (pc' := 7) (same := false) rfl (hb hby d4_4) rfl (decide_eq_false fun q => h1 (Value.ref.inj q)) (by decide) (by decide) ?_
      show Steps p.tables e below (T1.setTop (mkF m 7 #[.val (.ref a1)] [])) _
      refine XS.aloadN X1.here hx rfl (hb hby d4_7) rfl rfl ?_
      show Steps p.tables e below (T1.setTop (mkF m 8 #[.val (.ref a1)] [(.ref a1)])) _
      refine st3 _ ?_
      exact k
    by_cases h2 : a1 = c2
    · obtain ⟨fs, hr, hrun, hended, hW, hsame⟩ := X3.leave (v := some (.int (0 : Int32))) (fun h => by rw [Bd.returns] at h; cases h)
      refine ⟨_, _, P4 _ ?_, hrun, hended, _, _, rfl, ?_, ⟨_, rfl⟩, hW, hsame.mono (by decide) (by decide)⟩
      · show Steps p.tables e below (T3.setTop (mkF m 11 #[.val (.ref a1)] [(.ref c2), (.ref a1)])) _
        refine Jvm.RoadKit.acmp (g := (mkF m 11 #[.val (.ref a1)] [(.ref c2), (.ref a1)])) X3 hx rfl rfl rfl (pc0 := 11) (pc' := 25) (same := true) rfl (hb hby d4_11) rfl (decide_eq_true (congrArg Value.ref h2)) (by decide) (by decide) ?_
        show Steps p.tables e below (T3.setTop (mkF m 25 #[.val (.ref a1)] [])) _
        refine XS.iconst X3.here hx rfl (hb hby d4_25) ?_
        show Steps p.tables e below (T3.setTop (mkF m 26 #[.val (.ref a1)] [(.int (0 : Int32))])) _
        exact retN X3 hx (t := .boolean) Bd.returns (by simp) (hb hby d4_26) hr
      · show Q4 Z a1 c1 c2 c3 h0 n0 _ T3.heap _
        rw [e3]
        exact ⟨(0 : Int32), rfl, N0, Or.inl ⟨Or.inr (Or.inl h2), rfl⟩, rfl⟩
    · obtain ⟨T5, X5, e5, st5⟩ := getS2 X3 hx hZ hown (host := "") (Or.inl (hw _ (List.mem_of_getElem? (i := 31) rfl))) Via.refl e3 HS2 (g := (mkF m 15 #[.val (.ref a1)] [(.ref a1)])) rfl (hb hby d4_15)
      have P6 : ∀ t, Steps p.tables e below (T5.setTop (mkF m 18 #[.val (.ref a1)] [(.ref c3), (.ref a1)])) t → Steps p.tables e below (s₁.setTop (entryFrame m #[(.ref a1)] 1)) t := by
        intro t k
        refine P4 t ?_
        show Steps p.tables e below (T3.setTop (mkF m 11 #[.val (.ref a1)] [(.ref c2), (.ref a1)])) _
        refine Jvm.RoadKit.acmp (g := (mkF m 11 #[.val (.ref a1)] [(.ref c2), (.ref a1)])) X3 hx rfl rfl rfl (pc0 := 11) (pc' := 14) (same := false) rfl (hb hby d4_11) rfl (decide_eq_false fun q => h2 (Value.ref.inj q)) (by decide) (by decide) ?_
        show Steps p.tables e below (T3.setTop (mkF m 14 #[.val (.ref a1)] [])) _
        refine XS.aloadN X3.here hx rfl (hb hby d4_14) rfl rfl ?_
        show Steps p.tables e below (T3.setTop (mkF m 15 #[.val (.ref a1)] [(.ref a1)])) _
        refine st5 _ ?_
        exact k
      by_cases h3 : a1 = c3
      · obtain ⟨fs, hr, hrun, hended, hW, hsame⟩ := X5.leave (v := some (.int (0 : Int32))) (fun h => by rw [Bd.returns] at h; cases h)
        refine ⟨_, _, P6 _ ?_, hrun, hended, _, _, rfl, ?_, ⟨_, rfl⟩, hW, hsame.mono (by decide) (by decide)⟩
        · show Steps p.tables e below (T5.setTop (mkF m 18 #[.val (.ref a1)] [(.ref c3), (.ref a1)])) _
          refine Jvm.RoadKit.acmp (g := (mkF m 18 #[.val (.ref a1)] [(.ref c3), (.ref a1)])) X5 hx rfl rfl rfl (pc0 := 18) (pc' := 25) (same := true) rfl (hb hby d4_18) rfl (decide_eq_true (congrArg Value.ref h3)) (by decide) (by decide) ?_
          show Steps p.tables e below (T5.setTop (mkF m 25 #[.val (.ref a1)] [])) _
          refine XS.iconst X5.here hx rfl (hb hby d4_25) ?_
          show Steps p.tables e below (T5.setTop (mkF m 26 #[.val (.ref a1)] [(.int (0 : Int32))])) _
          exact retN X5 hx (t := .boolean) Bd.returns (by simp) (hb hby d4_26) hr
        · show Q4 Z a1 c1 c2 c3 h0 n0 _ T5.heap _
          rw [e5]
          exact ⟨(0 : Int32), rfl, N0, Or.inl ⟨Or.inr (Or.inr h3), rfl⟩, rfl⟩
      · obtain ⟨fs, hr, hrun, hended, hW, hsame⟩ := X5.leave (v := some (.int (1 : Int32))) (fun h => by rw [Bd.returns] at h; cases h)
        refine ⟨_, _, P6 _ ?_, hrun, hended, _, _, rfl, ?_, ⟨_, rfl⟩, hW, hsame.mono (by decide) (by decide)⟩
        · show Steps p.tables e below (T5.setTop (mkF m 18 #[.val (.ref a1)] [(.ref c3), (.ref a1)])) _
          refine Jvm.RoadKit.acmp (g := (mkF m 18 #[.val (.ref a1)] [(.ref c3), (.ref a1)])) X5 hx rfl rfl rfl (pc0 := 18) (pc' := 21) (same := false) rfl (hb hby d4_18) rfl (decide_eq_false fun q => h3 (Value.ref.inj q)) (by decide) (by decide) ?_
          show Steps p.tables e below (T5.setTop (mkF m 21 #[.val (.ref a1)] [])) _
          refine XS.iconst X5.here hx rfl (hb hby d4_21) ?_
          show Steps p.tables e below (T5.setTop (mkF m 22 #[.val (.ref a1)] [(.int (1 : Int32))])) _
          refine XS.goto X5.here hx rfl (pc0 := 22) (pc' := 26) rfl (hb hby d4_22) (by decide) (by decide) ?_
          show Steps p.tables e below (T5.setTop (mkF m 26 #[.val (.ref a1)] [(.int (1 : Int32))])) _
          exact retN X5 hx (t := .boolean) Bd.returns (by simp) (hb hby d4_26) hr
        · show Q4 Z a1 c1 c2 c3 h0 n0 _ T5.heap _
          rw [e5]
          exact ⟨(1 : Int32), rfl, N0, Or.inr ⟨fun q => q.elim h1 (fun q => q.elim h2 h3), rfl⟩, rfl⟩
theorem pn_2 : plainName "com/example/stackwright/stackwright/dialects/WordInstructionSupportedPinLaw" = true := by first | (simp [plainName, overriddenIn]; done) | decide +kernel
theorem pd_1 : parseMethodDescriptor "(I)Lcom/example/stackwright/stackwright/dialects/WordInstruction;" = some ⟨[.int], some (.object "com/example/stackwright/stackwright/dialects/WordInstruction")⟩ := by decide +kernel
theorem pd_2 : parseMethodDescriptor "()Z" = some ⟨[], some .boolean⟩ := by decide +kernel
theorem own_close (iv : Int32) (zv : Int32) (aw : Addr) (c1 : Addr) (c2 : Addr) (c3 : Addr) (r16 : Int32) (bv : Int32) (hm10 : (iv < (23 : Int32) ∧ zv = (1 : Int32)) ∨ (¬ (iv < (23 : Int32)) ∧ zv = (0 : Int32))) (R17 : ((aw = c1 ∨ aw = c2 ∨ aw = c3) ∧ r16 = 0) ∨ (¬ (aw = c1 ∨ aw = c2 ∨ aw = c3) ∧ r16 = 1)) (hm20 : (r16 = zv ∧ bv = (1 : Int32)) ∨ (¬ (r16 = zv) ∧ bv = (0 : Int32))) (hsup : (iv < (23 : Int32) ∧ ¬ (aw = c1 ∨ aw = c2 ∨ aw = c3)) ∨ (¬ (iv < (23 : Int32)) ∧ (aw = c1 ∨ aw = c2 ∨ aw = c3))) : bv = 1 := by
  generalize (aw = c1 ∨ aw = c2 ∨ aw = c3) = P at *
  by_cases A : iv < (23 : Int32) <;> by_cases B : P <;> simp_all
theorem ef_0 (m : MethodId) (p0 : Int32) : entryFrame m #[(.int p0)] maxLocals = mkF m 0 #[.val (.int p0), .unset, .unset, .unset] [] := by first | (simp [entryFrame, mkF, argsToLocals, Value.category, maxLocals]; done) | rfl
def Q0 (Z : State) (p0 : Int32) (iv : Int32) (aA : Addr) (cl : Cell) (aw : Addr) (c1 : Addr) (c2 : Addr) (c3 : Addr) (h0 : Heap) (n0 : Nat) (v : Option Value) (h : Heap) (L : List Loc) : Prop := v = some (.int (1 : Int32)) ∧ Fr n0 L
set_option maxRecDepth 65536 in
set_option maxHeartbeats 40000000 in
theorem rm0 (l : Launch) (Z : State) (a0 : Array Value) (hw : ∀ d ∈ tables_1, d.before a0 Z = true) (ws : List Jvm.Cond) (p0 : Int32) (iv : Int32) (aA : Addr) (cl : Cell) (aw : Addr) (c1 : Addr) (c2 : Addr) (c3 : Addr) (h0 : Heap) (n0 : Nat) (Z0 : n0 ≤ h0.size) (HS0 : Sta Z h0 "com/example/stackwright/stackwright/dialects/WordInstruction" "BY_CODE" "[Lcom/example/stackwright/stackwright/dialects/WordInstruction;" (.ref aA)) (HA1 : Arr Z h0 aA cl (.object "com/example/stackwright/stackwright/dialects/WordInstruction")) (HS2 : Sta Z h0 "com/example/stackwright/stackwright/dialects/WordInstruction" "CALL" "Lcom/example/stackwright/stackwright/dialects/WordInstruction;" (.ref c1)) (HS3 : Sta Z h0 "com/example/stackwright/stackwright/dialects/WordInstruction" "RET" "Lcom/example/stackwright/stackwright/dialects/WordInstruction;" (.ref c2)) (HS4 : Sta Z h0 "com/example/stackwright/stackwright/dialects/WordInstruction" "RET_V" "Lcom/example/stackwright/stackwright/dialects/WordInstruction;" (.ref c3)) (HE5 : Exa Z h0 aw "com/example/stackwright/stackwright/dialects/WordInstruction") (HF6 : Fld Z h0 aw "java/lang/Enum" "ordinal" "I" (.int iv)) (hsz : (cl.slots.size = (26 : Int32).toNatClampNeg)) (hiv : (iv = (p0 &&& (2147483647 : Int32)) % (26 : Int32))) (hlo : (¬ (iv < (0 : Int32)))) (hhi : (iv < (26 : Int32))) (hat : (cl.slots[iv.toNatClampNeg]? = some (.ref aw))) (hsup : ((iv < (23 : Int32) ∧ ¬ (aw = c1 ∨ aw = c2 ∨ aw = c3)) ∨ (¬ (iv < (23 : Int32)) ∧ (aw = c1 ∨ aw = c2 ∨ aw = c3)))) :
    MetFree l x (head1 (Jvm.Cond.code x code maxLocals ret :: ws) room_1) (fun a U => a = #[(.int p0)] ∧ Z.Warmed39 U.vm ∧ U.heap = h0) (fun _ _ _ _ _ => True) (fun _ U o U' => ∃ v L, o = .returned v ∧ Q0 Z p0 iv aA cl aw c1 c2 c3 h0 n0 v U'.heap L ∧ FrameEnd U o U' L room_1.cells room_1.slots) := by
  refine MetFree.of_bodySF (plainFor_of_name pn_2) hisR ?_
  intro p e s m args below meth c s₁ Bd hml0 hP hK
  obtain ⟨rfl, hZ, hh⟩ := hP
  have hx := Bd.exec
  have hby := Bd.bytes
  have hml : c.maxLocals = 4 := hml0
  have hown : s.vm.findClass "com/example/stackwright/stackwright/dialects/WordInstructionSupportedPinLaw" = some m.cls := findClass_of_methodNamed Bd.named
  have hnm := (name_of_methodNamed Bd.named Bd.method).1
  have X0 : Stand p l e room_1 s m #[(.int p0)] below meth c s₁ [] 0 0 := Stand.of_body Bd
  have e0 : s₁.heap = h0 := by rw [← hh, Bd.state]; rfl
  have N0 := Fr.nil n0
  have pre0 : ∀ t, Steps p.tables e below (s₁.setTop (mkF m 0 #[.val (.int p0), .unset, .unset, .unset] [])) t → Steps p.tables e below (s₁.setTop (entryFrame m #[(.int p0)] maxLocals)) t := fun t k => castTop (ef_0 m p0) k
  have P1 : ∀ t, Steps p.tables e below (s₁.setTop (mkF m 8 #[.val (.int p0), .val (.int ((p0 &&& (2147483647 : Int32)) % (26 : Int32))), .unset, .unset] [])) t → Steps p.tables e below (s₁.setTop (entryFrame m #[(.int p0)] maxLocals)) t := by
    intro t k
    refine pre0 t ?_
    show Steps p.tables e below (s₁.setTop (mkF m 0 #[.val (.int p0), .unset, .unset, .unset] [])) _
    refine XS.iloadN X0.here hx rfl (hb hby at_0) rfl ?_
    show Steps p.tables e below (s₁.setTop (mkF m 1 #[.val (.int p0), .unset, .unset, .unset] [(.int p0)])) _
    refine X0.ldcInt hx hown (mvT hZ (hw _ (List.mem_of_getElem? (i := 0) rfl))) (g := (mkF m 1 #[.val (.int p0), .unset, .unset, .unset] [(.int p0)])) rfl (hb hby at_1) _ ?_
    show Steps p.tables e below (s₁.setTop (mkF m 3 #[.val (.int p0), .unset, .unset, .unset] [(.int (2147483647 : Int32)), (.int p0)])) _
    refine XS.iand X0.here hx rfl (hb hby at_3) rfl ?_
    show Steps p.tables e below (s₁.setTop (mkF m 4 #[.val (.int p0), .unset, .unset, .unset] [(.int (p0 &&& (2147483647 : Int32)))])) _
    refine XS.bipush X0.here hx rfl (hb hby at_4) ?_
    show Steps p.tables e below (s₁.setTop (mkF m 6 #[.val (.int p0), .unset, .unset, .unset] [(.int (26 : Int32)), (.int (p0 &&& (2147483647 : Int32)))])) _
    refine iremM X0 hx rfl (hb hby at_6) rfl (by decide) ?_
    show Steps p.tables e below (s₁.setTop (mkF m 7 #[.val (.int p0), .unset, .unset, .unset] [(.int ((p0 &&& (2147483647 : Int32)) % (26 : Int32)))])) _
    refine XS.istoreN X0.here hx rfl (hb hby at_7) rfl (l' := #[.val (.int p0), .val (.int ((p0 &&& (2147483647 : Int32)) % (26 : Int32))), .unset, .unset]) rfl ?_
    exact k
  have P2 : ∀ t, Steps p.tables e below (s₁.setTop (mkF m 8 #[.val (.int p0), .val (.int iv), .unset, .unset] [])) t → Steps p.tables e below (s₁.setTop (entryFrame m #[(.int p0)] maxLocals)) t := by rw [hiv]; exact P1
  have hp3 : cl.slots.size = (26 : Int32).toNatClampNeg := by assumption
  have hp4 : ¬ (iv < (0 : Int32)) := by assumption
  have hp5 : iv < (26 : Int32) := by assumption
  have hp6 : cl.slots[iv.toNatClampNeg]? = some (.ref aw) := by assumption
  obtain ⟨_, _, ⟨T7, L7, k7, n7⟩, -, X7, ⟨Lc7, hQ7, l7, y7, z7⟩, st7⟩ := Jvm.LawKit.callS X0 hx (y := (⟨"com/example/stackwright/stackwright/dialects/WordInstruction", "byCode", "(I)Lcom/example/stackwright/stackwright/dialects/WordInstruction;"⟩ : MethodName)) hown (mvT hZ (hw _ (List.mem_of_getElem? (i := 1) rfl))) (mvT hZ (hw _ (List.mem_of_getElem? (i := 2) rfl))) (mvT hZ (hw _ (List.mem_of_getElem? (i := 3) rfl))) (mvT hZ (hw _ (List.mem_of_getElem? (i := 4) rfl))) (by decide) (backOf (W := 0) (rm1 l Z a0 hw [] iv aA cl aw h0 n0 Z0 HS0 HA1 hp3 hp4 hp5 hp6) hZ (hw _ (List.mem_of_getElem? (i := 4) rfl)) (hw _ (List.mem_of_getElem? (i := 3) rfl)) (by decide) (by decide)) (g := (mkF m 9 #[.val (.int p0), .val (.int iv), .unset, .unset] [(.int iv)])) rfl (by rw [hml]; rfl) (argsL := [(.int iv)]) (rest := []) (lenOf pd_1 rfl) rfl (by show 2 * 0 + _ ≤ _; exact Nat.le_of_eq rfl) (hb hby at_9) (fun _ _ => ⟨rfl, e0, (by decide : 0 + 0 ≤ _), (by decide : 0 + 0 ≤ _)⟩)
  dsimp only [Pt.U, Pt.locs, Pt.cells, Pt.slots] at X7 l7 y7 z7 st7 hQ7
  subst l7 y7 z7
  obtain ⟨rfl, N7q, R8⟩ := hQ7
  have N7 := Fr.app N0 N7q
  have P9 : ∀ t, Steps p.tables e below (T7.setTop (mkF m 16 #[.val (.int p0), .val (.int iv), .val (.ref aw), .unset] [(.int (23 : Int32)), (.int iv)])) t → Steps p.tables e below (s₁.setTop (entryFrame m #[(.int p0)] maxLocals)) t := by
    intro t k
    refine P2 t ?_
    show Steps p.tables e below (s₁.setTop (mkF m 8 #[.val (.int p0), .val (.int iv), .unset, .unset] [])) _
    refine XS.iloadN X0.here hx rfl (hb hby at_8) rfl ?_
    show Steps p.tables e below (s₁.setTop (mkF m 9 #[.val (.int p0), .val (.int iv), .unset, .unset] [(.int iv)])) _
    refine st7 _ ?_
    show Steps p.tables e below (T7.setTop (mkF m 12 #[.val (.int p0), .val (.int iv), .unset, .unset] [(.ref aw)])) _
    refine XS.astoreN X7.here hx rfl (hb hby at_12) rfl rfl (l' := #[.val (.int p0), .val (.int iv), .val (.ref aw), .unset]) rfl ?_
    show Steps p.tables e below (T7.setTop (mkF m 13 #[.val (.int p0), .val (.int iv), .val (.ref aw), .unset] [])) _
    refine XS.iloadN X7.here hx rfl (hb hby at_13) rfl ?_
    show Steps p.tables e below (T7.setTop (mkF m 14 #[.val (.int p0), .val (.int iv), .val (.ref aw), .unset] [(.int iv)])) _
    refine XS.bipush X7.here hx rfl (hb hby at_14) ?_
    exact k
  obtain ⟨zv, hm10, P11⟩ : ∃ (zv : Int32), ((iv < (23 : Int32) ∧ zv = (1 : Int32)) ∨ (¬ (iv < (23 : Int32)) ∧ zv = (0 : Int32))) ∧ ∀ t, Steps p.tables e below (T7.setTop (mkF m 25 #[.val (.int p0), .val (.int iv), .val (.ref aw), .val (.int zv)] [])) t → Steps p.tables e below (s₁.setTop (entryFrame m #[(.int p0)] maxLocals)) t := by
    by_cases hd16_0 : iv < (23 : Int32)
    ·
      refine ⟨(1 : Int32), Or.inl ⟨hd16_0, rfl⟩, fun t k => ?_⟩
      refine P9 t ?_
      show Steps p.tables e below (T7.setTop (mkF m 16 #[.val (.int p0), .val (.int iv), .val (.ref aw), .unset] [(.int (23 : Int32)), (.int iv)])) _
      refine XS.icmpNo X7.here hx rfl (hb hby at_16) rfl (tlt hd16_0).2.1 ?_
      show Steps p.tables e below (T7.setTop (mkF m 19 #[.val (.int p0), .val (.int iv), .val (.ref aw), .unset] [])) _
      refine XS.iconst X7.here hx rfl (hb hby at_19) ?_
      show Steps p.tables e below (T7.setTop (mkF m 20 #[.val (.int p0), .val (.int iv), .val (.ref aw), .unset] [(.int (1 : Int32))])) _
      refine XS.goto X7.here hx rfl (pc0 := 20) (pc' := 24) rfl (hb hby at_20) (by decide) (by decide) ?_
      show Steps p.tables e below (T7.setTop (mkF m 24 #[.val (.int p0), .val (.int iv), .val (.ref aw), .unset] [(.int (1 : Int32))])) _
      refine XS.istoreN X7.here hx rfl (hb hby at_24) rfl (l' := #[.val (.int p0), .val (.int iv), .val (.ref aw), .val (.int (1 : Int32))]) rfl ?_
      exact k
    ·
      refine ⟨(0 : Int32), Or.inr (⟨hd16_0, rfl⟩), fun t k => ?_⟩
      refine P9 t ?_
      show Steps p.tables e below (T7.setTop (mkF m 16 #[.val (.int p0), .val (.int iv), .val (.ref aw), .unset] [(.int (23 : Int32)), (.int iv)])) _
      refine XS.icmpYes X7.here hx rfl (pc0 := 16) (pc' := 23) rfl (hb hby at_16) rfl (flt hd16_0).2.1 (by decide) (by decide) ?_
      show Steps p.tables e below (T7.setTop (mkF m 23 #[.val (.int p0), .val (.int iv), .val (.ref aw), .unset] [])) _
      refine XS.iconst X7.here hx rfl (hb hby at_23) ?_
      show Steps p.tables e below (T7.setTop (mkF m 24 #[.val (.int p0), .val (.int iv), .val (.ref aw), .unset] [(.int (0 : Int32))])) _
      refine XS.istoreN X7.here hx rfl (hb hby at_24) rfl (l' := #[.val (.int p0), .val (.int iv), .val (.ref aw), .val (.int (0 : Int32))]) rfl ?_
      exact k
  obtain ⟨cq12, kq12, q12a, q12b, q12c⟩ := isOf hZ R8 HE5
  obtain ⟨_, _, ⟨T12, L12, k12, n12⟩, -, X12, ⟨Lc12, hQ12, l12, y12, z12⟩, st12⟩ := X7.virtualBack hx (y := (⟨"com/example/stackwright/stackwright/dialects/WordInstruction", "code", "()I"⟩ : MethodName)) (z := (⟨"com/example/stackwright/stackwright/dialects/WordInstruction", "code", "()I"⟩ : MethodName)) hown (mvT hZ (hw _ (List.mem_of_getElem? (i := 8) rfl))) (mvT hZ (hw _ (List.mem_of_getElem? (i := 9) rfl))) (notFace_of_selects (args := #[]) (mvT hZ (hw _ (List.mem_of_getElem? (i := 11) rfl)))) (mvT hZ (hw _ (List.mem_of_getElem? (i := 11) rfl))) (mvT hZ (hw _ (List.mem_of_getElem? (i := 10) rfl))) (by decide) (backOf (W := 0) (rm2 l Z a0 hw [] aw iv h0 n0 Z0 HF6 HE5) hZ (hw _ (List.mem_of_getElem? (i := 12) rfl)) (hw _ (List.mem_of_getElem? (i := 3) rfl)) (by decide) (by decide)) q12a q12c (g := (mkF m 26 #[.val (.int p0), .val (.int iv), .val (.ref aw), .val (.int zv)] [(.ref aw)])) rfl (by rw [hml]; rfl) (Steps.refl _) (argsL := []) (rest := []) (lenOf pd_0 rfl) rfl (by show 2 * 0 + _ ≤ _; exact Nat.le_of_eq rfl) (hb hby at_26) (fun _ _ => ⟨rfl, R8, (by decide : 0 + 0 ≤ _), (by decide : 0 + 0 ≤ _)⟩)
  dsimp only [Pt.U, Pt.locs, Pt.cells, Pt.slots] at X12 l12 y12 z12 st12 hQ12
  subst l12 y12 z12
  obtain ⟨rfl, N12q, R13⟩ := hQ12
  have N12 := Fr.app N7 N12q
  have hc30_14 : iv = iv := rfl
  obtain ⟨cq15, kq15, q15a, q15b, q15c⟩ := isOf hZ R13 HE5
  obtain ⟨_, _, ⟨T15, L15, k15, n15⟩, -, X15, ⟨Lc15, hQ15, l15, y15, z15⟩, st15⟩ := X12.virtualBack hx (y := (⟨"com/example/stackwright/stackwright/dialects/WordInstruction", "supported", "()Z"⟩ : MethodName)) (z := (⟨"com/example/stackwright/stackwright/dialects/WordInstruction", "supported", "()Z"⟩ : MethodName)) hown (mvT hZ (hw _ (List.mem_of_getElem? (i := 22) rfl))) (mvT hZ (hw _ (List.mem_of_getElem? (i := 23) rfl))) (notFace_of_selects (args := #[]) (mvT hZ (hw _ (List.mem_of_getElem? (i := 25) rfl)))) (mvT hZ (hw _ (List.mem_of_getElem? (i := 25) rfl))) (mvT hZ (hw _ (List.mem_of_getElem? (i := 24) rfl))) (by decide) (backOf (W := 0) (rm4 l Z a0 hw [] aw c1 c2 c3 h0 n0 Z0 HS2 HS3 HS4) hZ (hw _ (List.mem_of_getElem? (i := 26) rfl)) (hw _ (List.mem_of_getElem? (i := 3) rfl)) (by decide) (by decide)) q15a q15c (g := (mkF m 34 #[.val (.int p0), .val (.int iv), .val (.ref aw), .val (.int zv)] [(.ref aw)])) rfl (by rw [hml]; rfl) (Steps.refl _) (argsL := []) (rest := []) (lenOf pd_2 rfl) rfl (by show 2 * 0 + _ ≤ _; exact Nat.le_of_eq rfl) (hb hby at_34) (fun _ _ => ⟨rfl, R13, (by decide : 0 + 0 ≤ _), (by decide : 0 + 0 ≤ _)⟩)
  dsimp only [Pt.U, Pt.locs, Pt.cells, Pt.slots] at X15 l15 y15 z15 st15 hQ15
  subst l15 y15 z15
  obtain ⟨r16, rfl, N15q, R17, R18⟩ := hQ15
  have N15 := Fr.app N12 N15q
  have P19 : ∀ t, Steps p.tables e below (T15.setTop (mkF m 38 #[.val (.int p0), .val (.int iv), .val (.ref aw), .val (.int zv)] [(.int zv), (.int r16)])) t → Steps p.tables e below (s₁.setTop (entryFrame m #[(.int p0)] maxLocals)) t := by
    intro t k
    refine P11 t ?_
    show Steps p.tables e below (T7.setTop (mkF m 25 #[.val (.int p0), .val (.int iv), .val (.ref aw), .val (.int zv)] [])) _
    refine XS.aloadN X7.here hx rfl (hb hby at_25) rfl rfl ?_
    show Steps p.tables e below (T7.setTop (mkF m 26 #[.val (.int p0), .val (.int iv), .val (.ref aw), .val (.int zv)] [(.ref aw)])) _
    refine st12.trans ?_
    show Steps p.tables e below (T12.setTop (mkF m 29 #[.val (.int p0), .val (.int iv), .val (.ref aw), .val (.int zv)] [(.int iv)])) _
    refine XS.iloadN X12.here hx rfl (hb hby at_29) rfl ?_
    show Steps p.tables e below (T12.setTop (mkF m 30 #[.val (.int p0), .val (.int iv), .val (.ref aw), .val (.int zv)] [(.int iv), (.int iv)])) _
    refine XS.icmpNo X12.here hx rfl (hb hby at_30) rfl (teq hc30_14).2 ?_
    show Steps p.tables e below (T12.setTop (mkF m 33 #[.val (.int p0), .val (.int iv), .val (.ref aw), .val (.int zv)] [])) _
    refine XS.aloadN X12.here hx rfl (hb hby at_33) rfl rfl ?_
    show Steps p.tables e below (T12.setTop (mkF m 34 #[.val (.int p0), .val (.int iv), .val (.ref aw), .val (.int zv)] [(.ref aw)])) _
    refine st15.trans ?_
    show Steps p.tables e below (T15.setTop (mkF m 37 #[.val (.int p0), .val (.int iv), .val (.ref aw), .val (.int zv)] [(.int r16)])) _
    refine XS.iloadN X15.here hx rfl (hb hby at_37) rfl ?_
    exact k
  obtain ⟨bv, hm20, P21⟩ : ∃ (bv : Int32), ((r16 = zv ∧ bv = (1 : Int32)) ∨ (¬ (r16 = zv) ∧ bv = (0 : Int32))) ∧ ∀ t, Steps p.tables e below (T15.setTop (mkF m 46 #[.val (.int p0), .val (.int iv), .val (.ref aw), .val (.int zv)] [(.int bv)])) t → Steps p.tables e below (s₁.setTop (entryFrame m #[(.int p0)] maxLocals)) t := by
    by_cases hd38_0 : r16 = zv
    ·
      refine ⟨(1 : Int32), Or.inl ⟨hd38_0, rfl⟩, fun t k => ?_⟩
      refine P19 t ?_
      show Steps p.tables e below (T15.setTop (mkF m 38 #[.val (.int p0), .val (.int iv), .val (.ref aw), .val (.int zv)] [(.int zv), (.int r16)])) _
      refine XS.icmpNo X15.here hx rfl (hb hby at_38) rfl (teq hd38_0).2 ?_
      show Steps p.tables e below (T15.setTop (mkF m 41 #[.val (.int p0), .val (.int iv), .val (.ref aw), .val (.int zv)] [])) _
      refine XS.iconst X15.here hx rfl (hb hby at_41) ?_
      show Steps p.tables e below (T15.setTop (mkF m 42 #[.val (.int p0), .val (.int iv), .val (.ref aw), .val (.int zv)] [(.int (1 : Int32))])) _
      refine XS.goto X15.here hx rfl (pc0 := 42) (pc' := 46) rfl (hb hby at_42) (by decide) (by decide) ?_
      exact k
    ·
      refine ⟨(0 : Int32), Or.inr (⟨hd38_0, rfl⟩), fun t k => ?_⟩
      refine P19 t ?_
      show Steps p.tables e below (T15.setTop (mkF m 38 #[.val (.int p0), .val (.int iv), .val (.ref aw), .val (.int zv)] [(.int zv), (.int r16)])) _
      refine XS.icmpYes X15.here hx rfl (pc0 := 38) (pc' := 45) rfl (hb hby at_38) rfl (feq hd38_0).2 (by decide) (by decide) ?_
      show Steps p.tables e below (T15.setTop (mkF m 45 #[.val (.int p0), .val (.int iv), .val (.ref aw), .val (.int zv)] [])) _
      refine XS.iconst X15.here hx rfl (hb hby at_45) ?_
      exact k
  have hb : bv = 1 := own_close iv zv aw c1 c2 c3 r16 bv hm10 R17 hm20 hsup
  subst hb
  obtain ⟨fs, hr, hrun, hended, hW, hsame⟩ := X15.leave (v := some (.int (1 : Int32))) (fun h => by rw [Bd.returns] at h; cases h)
  refine ⟨_, _, P21 _ ?_, hrun, hended, _, _, rfl, ?_, ⟨_, rfl⟩, hW, hsame.mono (by decide) (by decide)⟩
  · show Steps p.tables e below (T15.setTop (mkF m 46 #[.val (.int p0), .val (.int iv), .val (.ref aw), .val (.int zv)] [(.int (1 : Int32))])) _
    exact retN X15 hx (t := .boolean) Bd.returns (by simp) (hb hby at_46) hr
  · show Q0 Z p0 iv aA cl aw c1 c2 c3 h0 n0 _ T15.heap _
    rw [R18]
    exact ⟨rfl, N15⟩
theorem own_len {args : Array Value} {s : State} {t : Term} {aA : Addr} {cl : Cell} {ty : FieldType} (ev : t.eval args s none [] s = some (.ref aA)) (A : Arr s s.heap aA cl ty) (h : (Jvm.Cond.eq (Jvm.Term.length t) (Jvm.Term.int (26 : Int32))).value args s none s [] = some true) : cl.slots.size = (26 : Int32).toNatClampNeg := by
  have hA := Arr.fin (State.Warmed39.refl s).alike A
  by_cases hl : cl.slots.size < 2 ^ 31
  · have e := len_f (args := args) (first := s) (o := none) (idx := []) ev hA hl
    have q : some (decide (cl.slots.size.toInt32 = (26 : Int32))) = some true := (Cond.eq_ints e (Term.int_eval 26)).symm.trans h
    have q2 : cl.slots.size.toInt32 = (26 : Int32) := by simpa using q
    have q3 : cl.slots.size.toInt32.toInt = 26 := by rw [q2]; rfl
    have q4 : cl.slots.size.toInt32.toInt = (cl.slots.size : Int) := Int32.toInt_ofNat_of_lt hl
    show cl.slots.size = 26
    omega
  · exfalso
    simp [Cond.value, Term.eval, ev, hA, hl] at h
theorem own_fld {args : Array Value} {s : State} {t : Term} {a : Addr} {C n d : String} {z : Int32} (ev : t.eval args s none [] s = some (.ref a)) (h : (Jvm.Cond.eq (Jvm.Term.field t C n d) (Jvm.Term.int z)).value args s none s [] = some true) : Fld s s.heap a C n d (.int z) := by
  have e := fld_at (C := C) (n := n) (dd := d) (args := args) (first := s) (o := none) (idx := []) (s := s) ev
  cases hf : s.fieldOf? a C n d with
  | none => simp [Cond.value, Term.eval, ev, hf] at h
  | some v =>
    rw [hf] at e
    cases v with
    | int y =>
      have q := (Cond.eq_ints e (Term.int_eval z)).symm.trans h
      have q2 : y = z := by simpa using q
      subst q2
      exact Fld.start hf
    | _ => simp [Cond.value, Term.eval, ev, hf] at h
theorem own_elem {args : Array Value} {s : State} {t u : Term} {aA a : Addr} {cl : Cell} {ty : FieldType} {j iv : Int32} (ev : t.eval args s none [] s = some (.ref aA)) (A : Arr s s.heap aA cl ty) (h : (Jvm.Cond.eq (Jvm.Term.elem t (Jvm.Term.int j)) u).value args s none s [] = some true) (eu : u.eval args s none [] s = some (.ref a)) (hj : ¬ j < 0) (hiv : iv = j) : cl.slots[iv.toNatClampNeg]? = some (.ref a) := by
  subst hiv
  have hA := Arr.fin (State.Warmed39.refl s).alike A
  have e := elem_f (t := t) (a := Jvm.Term.int iv) (first := s) (o := none) (idx := []) (s := s) (args := args) ev (Term.int_eval iv) hA hj
  cases hv : cl.slots[iv.toNatClampNeg]? with
  | none => rw [hv] at e; simp [Cond.value, e] at h
  | some v =>
    rw [hv] at e
    cases v with
    | ref y =>
      have q := (eq_R e eu rfl rfl).symm.trans h
      have q2 : y = a := by simpa using q
      rw [q2]
    | null =>
      have q := (eq_R e eu rfl rfl).symm.trans h
      simp at q
    | _ => simp [Cond.value, e, eu] at h
theorem own_fldv {Z : State} {h : Heap} {a : Addr} {C n d : String} {z iv : Int32} (F : Fld Z h a C n d (.int z)) (hk : iv = z) : Fld Z h a C n d (.int iv) := hk ▸ F
theorem own_sup {iv z : Int32} {P : Prop} (hk : iv = z) (h : (z < (23 : Int32) ∧ ¬ P) ∨ (¬ (z < (23 : Int32)) ∧ P)) : (iv < (23 : Int32) ∧ ¬ P) ∨ (¬ (iv < (23 : Int32)) ∧ P) := hk ▸ h
theorem own_26 {y : Int32} (h0 : 0 ≤ y.toInt) (h1 : y.toInt < 26) : y = (0 : Int32) ∨ y = (1 : Int32) ∨ y = (2 : Int32) ∨ y = (3 : Int32) ∨ y = (4 : Int32) ∨ y = (5 : Int32) ∨ y = (6 : Int32) ∨ y = (7 : Int32) ∨ y = (8 : Int32) ∨ y = (9 : Int32) ∨ y = (10 : Int32) ∨ y = (11 : Int32) ∨ y = (12 : Int32) ∨ y = (13 : Int32) ∨ y = (14 : Int32) ∨ y = (15 : Int32) ∨ y = (16 : Int32) ∨ y = (17 : Int32) ∨ y = (18 : Int32) ∨ y = (19 : Int32) ∨ y = (20 : Int32) ∨ y = (21 : Int32) ∨ y = (22 : Int32) ∨ y = (23 : Int32) ∨ y = (24 : Int32) ∨ y = (25 : Int32) := by
  have hk : y.toInt = 0 ∨ y.toInt = 1 ∨ y.toInt = 2 ∨ y.toInt = 3 ∨ y.toInt = 4 ∨ y.toInt = 5 ∨ y.toInt = 6 ∨ y.toInt = 7 ∨ y.toInt = 8 ∨ y.toInt = 9 ∨ y.toInt = 10 ∨ y.toInt = 11 ∨ y.toInt = 12 ∨ y.toInt = 13 ∨ y.toInt = 14 ∨ y.toInt = 15 ∨ y.toInt = 16 ∨ y.toInt = 17 ∨ y.toInt = 18 ∨ y.toInt = 19 ∨ y.toInt = 20 ∨ y.toInt = 21 ∨ y.toInt = 22 ∨ y.toInt = 23 ∨ y.toInt = 24 ∨ y.toInt = 25 := by omega
  rcases hk with h | h | h | h | h | h | h | h | h | h | h | h | h | h | h | h | h | h | h | h | h | h | h | h | h | h
  · exact Or.inl (Int32.toInt_inj.mp h)
  · exact Or.inr (Or.inl (Int32.toInt_inj.mp h))
  · exact Or.inr (Or.inr (Or.inl (Int32.toInt_inj.mp h)))
  · exact Or.inr (Or.inr (Or.inr (Or.inl (Int32.toInt_inj.mp h))))
  · exact Or.inr (Or.inr (Or.inr (Or.inr (Or.inl (Int32.toInt_inj.mp h)))))
  · exact Or.inr (Or.inr (Or.inr (Or.inr (Or.inr (Or.inl (Int32.toInt_inj.mp h))))))
  · exact Or.inr (Or.inr (Or.inr (Or.inr (Or.inr (Or.inr (Or.inl (Int32.toInt_inj.mp h)))))))
  · exact Or.inr (Or.inr (Or.inr (Or.inr (Or.inr (Or.inr (Or.inr (Or.inl (Int32.toInt_inj.mp h))))))))
  · exact Or.inr (Or.inr (Or.inr (Or.inr (Or.inr (Or.inr (Or.inr (Or.inr (Or.inl (Int32.toInt_inj.mp h)))))))))
  · exact Or.inr (Or.inr (Or.inr (Or.inr (Or.inr (Or.inr (Or.inr (Or.inr (Or.inr (Or.inl (Int32.toInt_inj.mp h))))))))))
  · exact Or.inr (Or.inr (Or.inr (Or.inr (Or.inr (Or.inr (Or.inr (Or.inr (Or.inr (Or.inr (Or.inl (Int32.toInt_inj.mp h)))))))))))
  · exact Or.inr (Or.inr (Or.inr (Or.inr (Or.inr (Or.inr (Or.inr (Or.inr (Or.inr (Or.inr (Or.inr (Or.inl (Int32.toInt_inj.mp h))))))))))))
  · exact Or.inr (Or.inr (Or.inr (Or.inr (Or.inr (Or.inr (Or.inr (Or.inr (Or.inr (Or.inr (Or.inr (Or.inr (Or.inl (Int32.toInt_inj.mp h)))))))))))))
  · exact Or.inr (Or.inr (Or.inr (Or.inr (Or.inr (Or.inr (Or.inr (Or.inr (Or.inr (Or.inr (Or.inr (Or.inr (Or.inr (Or.inl (Int32.toInt_inj.mp h))))))))))))))
  · exact Or.inr (Or.inr (Or.inr (Or.inr (Or.inr (Or.inr (Or.inr (Or.inr (Or.inr (Or.inr (Or.inr (Or.inr (Or.inr (Or.inr (Or.inl (Int32.toInt_inj.mp h)))))))))))))))
  · exact Or.inr (Or.inr (Or.inr (Or.inr (Or.inr (Or.inr (Or.inr (Or.inr (Or.inr (Or.inr (Or.inr (Or.inr (Or.inr (Or.inr (Or.inr (Or.inl (Int32.toInt_inj.mp h))))))))))))))))
  · exact Or.inr (Or.inr (Or.inr (Or.inr (Or.inr (Or.inr (Or.inr (Or.inr (Or.inr (Or.inr (Or.inr (Or.inr (Or.inr (Or.inr (Or.inr (Or.inr (Or.inl (Int32.toInt_inj.mp h)))))))))))))))))
  · exact Or.inr (Or.inr (Or.inr (Or.inr (Or.inr (Or.inr (Or.inr (Or.inr (Or.inr (Or.inr (Or.inr (Or.inr (Or.inr (Or.inr (Or.inr (Or.inr (Or.inr (Or.inl (Int32.toInt_inj.mp h))))))))))))))))))
  · exact Or.inr (Or.inr (Or.inr (Or.inr (Or.inr (Or.inr (Or.inr (Or.inr (Or.inr (Or.inr (Or.inr (Or.inr (Or.inr (Or.inr (Or.inr (Or.inr (Or.inr (Or.inr (Or.inl (Int32.toInt_inj.mp h)))))))))))))))))))
  · exact Or.inr (Or.inr (Or.inr (Or.inr (Or.inr (Or.inr (Or.inr (Or.inr (Or.inr (Or.inr (Or.inr (Or.inr (Or.inr (Or.inr (Or.inr (Or.inr (Or.inr (Or.inr (Or.inr (Or.inl (Int32.toInt_inj.mp h))))))))))))))))))))
  · exact Or.inr (Or.inr (Or.inr (Or.inr (Or.inr (Or.inr (Or.inr (Or.inr (Or.inr (Or.inr (Or.inr (Or.inr (Or.inr (Or.inr (Or.inr (Or.inr (Or.inr (Or.inr (Or.inr (Or.inr (Or.inl (Int32.toInt_inj.mp h)))))))))))))))))))))
  · exact Or.inr (Or.inr (Or.inr (Or.inr (Or.inr (Or.inr (Or.inr (Or.inr (Or.inr (Or.inr (Or.inr (Or.inr (Or.inr (Or.inr (Or.inr (Or.inr (Or.inr (Or.inr (Or.inr (Or.inr (Or.inr (Or.inl (Int32.toInt_inj.mp h))))))))))))))))))))))
  · exact Or.inr (Or.inr (Or.inr (Or.inr (Or.inr (Or.inr (Or.inr (Or.inr (Or.inr (Or.inr (Or.inr (Or.inr (Or.inr (Or.inr (Or.inr (Or.inr (Or.inr (Or.inr (Or.inr (Or.inr (Or.inr (Or.inr (Or.inl (Int32.toInt_inj.mp h)))))))))))))))))))))))
  · exact Or.inr (Or.inr (Or.inr (Or.inr (Or.inr (Or.inr (Or.inr (Or.inr (Or.inr (Or.inr (Or.inr (Or.inr (Or.inr (Or.inr (Or.inr (Or.inr (Or.inr (Or.inr (Or.inr (Or.inr (Or.inr (Or.inr (Or.inr (Or.inl (Int32.toInt_inj.mp h))))))))))))))))))))))))
  · exact Or.inr (Or.inr (Or.inr (Or.inr (Or.inr (Or.inr (Or.inr (Or.inr (Or.inr (Or.inr (Or.inr (Or.inr (Or.inr (Or.inr (Or.inr (Or.inr (Or.inr (Or.inr (Or.inr (Or.inr (Or.inr (Or.inr (Or.inr (Or.inr (Or.inl (Int32.toInt_inj.mp h)))))))))))))))))))))))))
  · exact Or.inr (Or.inr (Or.inr (Or.inr (Or.inr (Or.inr (Or.inr (Or.inr (Or.inr (Or.inr (Or.inr (Or.inr (Or.inr (Or.inr (Or.inr (Or.inr (Or.inr (Or.inr (Or.inr (Or.inr (Or.inr (Or.inr (Or.inr (Or.inr (Or.inr ((Int32.toInt_inj.mp h))))))))))))))))))))))))))
theorem own_rem (i0 : Int32) : 0 ≤ ((i0 &&& (2147483647 : Int32)) % (26 : Int32)).toInt ∧ ((i0 &&& (2147483647 : Int32)) % (26 : Int32)).toInt < 26 := by
  have m := c_mask i0 2147483647 31 (by decide) (by decide)
  have q := (c_irem (i0 &&& (2147483647 : Int32)) 26 26 rfl).1 (by omega)
  omega
set_option maxRecDepth 65536 in
set_option maxHeartbeats 40000000 in
theorem comes_1 {Post : Tables → Env → Array Value → State → Outcome → State → Prop} (hpost : ∀ tb e args s v u, (limb_1_1.after args s (.returned v) u = true ∧ limb_1_2.after args s (.returned v) u = true ∧ True) → FrameEnd s (.returned v) u (Jvm.fieldLocs frame_1_writes args s ++ Jvm.arrayLocs frame_1_arrays args s ++ Jvm.staticLocs frame_1_statics s) 0 0 → Post tb e args s (.returned v) u) :
    ArmFor flags0 classFile x code maxLocals ret World_1 tables_1 room_1 Calls_1 rest_1 Pre_1 Post := by
  intro l hfl _ _ p e ha hc hk s m args below hf hA hF happ hP
  obtain ⟨hcalls, hrest, hpre⟩ := hP
  obtain ⟨-, -, -, hnamed, -, -, -, hat⟩ := (Spec.applies_iff hf).mp happ
  obtain ⟨hg, hn⟩ := and_e (Cond.before_iff.mp (show (Jvm.Cond.and given_1 narrow_1).before args s = true from hpre))
  obtain ⟨hcount, hg0⟩ := and_e hg
  obtain ⟨w0, rfl⟩ : ∃ w0 : Value, args = #[w0] := by
    have hs : args.size = 1 := by simpa [Cond.value, given_1] using hcount
    obtain ⟨L⟩ := args
    match L, hs with
    | [w0], _ => exact ⟨w0, rfl⟩
  have hw := fun d (hd : d ∈ tables_1) => atoms_spec (ws := Jvm.Cond.code x code maxLocals ret :: tables_1) hat d (List.mem_cons_of_mem _ hd)
  have hfit : Fit s := fun {y c} hc i hi => by
    obtain ⟨ha, rfl⟩ := Array.getElem?_eq_some_iff.mp hc
    have q := List.all_eq_true.mp ((Array.all_eq_true_iff_forall_mem.mp hF) _ (Array.getElem_mem ha)) i (List.mem_range.mpr hi)
    simpa [Array.getElem?_eq_getElem hi] using q
  obtain ⟨i0, ei0⟩ := is_v hg0
  obtain rfl : w0 = (.int i0) := Option.some.inj ei0
  obtain ⟨u0, v0⟩ := and_e hn
  obtain ⟨u1, v1⟩ := and_e v0
  obtain ⟨u2, v2⟩ := and_e v1
  obtain ⟨u3, v3⟩ := and_e v2
  obtain ⟨u4, v4⟩ := and_e v3
  obtain ⟨u5, v5⟩ := and_e v4
  obtain ⟨u6, v6⟩ := and_e v5
  obtain ⟨u7, v7⟩ := and_e v6
  obtain ⟨u8, v8⟩ := and_e v7
  obtain ⟨u9, v9⟩ := and_e v8
  obtain ⟨u10, v10⟩ := and_e v9
  obtain ⟨u11, v11⟩ := and_e v10
  obtain ⟨u12, v12⟩ := and_e v11
  obtain ⟨u13, v13⟩ := and_e v12
  obtain ⟨u14, v14⟩ := and_e v13
  obtain ⟨u15, v15⟩ := and_e v14
  obtain ⟨u16, v16⟩ := and_e v15
  obtain ⟨u17, v17⟩ := and_e v16
  obtain ⟨u18, v18⟩ := and_e v17
  obtain ⟨u19, v19⟩ := and_e v18
  obtain ⟨u20, v20⟩ := and_e v19
  obtain ⟨u21, v21⟩ := and_e v20
  obtain ⟨u22, v22⟩ := and_e v21
  obtain ⟨u23, v23⟩ := and_e v22
  obtain ⟨u24, v24⟩ := and_e v23
  obtain ⟨u25, v25⟩ := and_e v24
  obtain ⟨u26, v26⟩ := and_e v25
  obtain ⟨u27, v27⟩ := and_e v26
  obtain ⟨u28, v28⟩ := and_e v27
  obtain ⟨u29, v29⟩ := and_e v28
  obtain ⟨u30, v30⟩ := and_e v29
  obtain ⟨u31, v31⟩ := and_e v30
  obtain ⟨u32, v32⟩ := and_e v31
  obtain ⟨u33, v33⟩ := and_e v32
  obtain ⟨u34, v34⟩ := and_e v33
  obtain ⟨u35, v35⟩ := and_e v34
  obtain ⟨u36, v36⟩ := and_e v35
  obtain ⟨u37, v37⟩ := and_e v36
  obtain ⟨u38, v38⟩ := and_e v37
  obtain ⟨u39, v39⟩ := and_e v38
  obtain ⟨u40, v40⟩ := and_e v39
  obtain ⟨u41, v41⟩ := and_e v40
  obtain ⟨u42, v42⟩ := and_e v41
  obtain ⟨u43, v43⟩ := and_e v42
  obtain ⟨u44, v44⟩ := and_e v43
  obtain ⟨u45, v45⟩ := and_e v44
  obtain ⟨u46, v46⟩ := and_e v45
  obtain ⟨u47, v47⟩ := and_e v46
  obtain ⟨u48, v48⟩ := and_e v47
  obtain ⟨u49, v49⟩ := and_e v48
  obtain ⟨u50, v50⟩ := and_e v49
  obtain ⟨u51, v51⟩ := and_e v50
  obtain ⟨u52, v52⟩ := and_e v51
  obtain ⟨u53, v53⟩ := and_e v52
  obtain ⟨u54, v54⟩ := and_e v53
  obtain ⟨u55, v55⟩ := and_e v54
  obtain ⟨u56, v56⟩ := and_e v55
  obtain ⟨u57, v57⟩ := and_e v56
  obtain ⟨u58, v58⟩ := and_e v57
  obtain ⟨u59, v59⟩ := and_e v58
  obtain ⟨u60, v60⟩ := and_e v59
  obtain ⟨u61, v61⟩ := and_e v60
  obtain ⟨u62, v62⟩ := and_e v61
  obtain ⟨u63, v63⟩ := and_e v62
  obtain ⟨u64, v64⟩ := and_e v63
  obtain ⟨u65, v65⟩ := and_e v64
  obtain ⟨u66, v66⟩ := and_e v65
  obtain ⟨u67, v67⟩ := and_e v66
  obtain ⟨u68, v68⟩ := and_e v67
  obtain ⟨u69, v69⟩ := and_e v68
  obtain ⟨u70, v70⟩ := and_e v69
  obtain ⟨u71, v71⟩ := and_e v70
  obtain ⟨u72, v72⟩ := and_e v71
  obtain ⟨u73, v73⟩ := and_e v72
  obtain ⟨u74, v74⟩ := and_e v73
  obtain ⟨u75, v75⟩ := and_e v74
  obtain ⟨u76, v76⟩ := and_e v75
  obtain ⟨u77, v77⟩ := and_e v76
  obtain ⟨u78, v78⟩ := and_e v77
  obtain ⟨aA, eA⟩ := arr_v u0
  obtain ⟨cl, Ar⟩ := Arr.start eA u0
  have SA : Sta s s.heap "com/example/stackwright/stackwright/dialects/WordInstruction" "BY_CODE" "[Lcom/example/stackwright/stackwright/dialects/WordInstruction;" (.ref aA) := Sta.start eA (Or.inr ⟨(hw _ (List.mem_of_getElem? (i := 3) rfl)), (hw _ (List.mem_of_getElem? (i := 6) rfl))⟩)
  have hsz : cl.slots.size = (26 : Int32).toNatClampNeg := own_len eA Ar u1
  obtain ⟨a_HALT, e_HALT⟩ := exa_v u2
  have E_HALT : Exa s s.heap a_HALT "com/example/stackwright/stackwright/dialects/WordInstruction" := Exa.start e_HALT u2
  have F_HALT : Fld s s.heap a_HALT "java/lang/Enum" "ordinal" "I" (.int (0 : Int32)) := own_fld e_HALT u4
  obtain ⟨a_CALL, e_CALL⟩ := exa_v u5
  have E_CALL : Exa s s.heap a_CALL "com/example/stackwright/stackwright/dialects/WordInstruction" := Exa.start e_CALL u5
  have F_CALL : Fld s s.heap a_CALL "java/lang/Enum" "ordinal" "I" (.int (23 : Int32)) := own_fld e_CALL u6
  obtain ⟨a_RET, e_RET⟩ := exa_v u7
  have E_RET : Exa s s.heap a_RET "com/example/stackwright/stackwright/dialects/WordInstruction" := Exa.start e_RET u7
  have F_RET : Fld s s.heap a_RET "java/lang/Enum" "ordinal" "I" (.int (24 : Int32)) := own_fld e_RET u8
  obtain ⟨a_RET_V, e_RET_V⟩ := exa_v u9
  have E_RET_V : Exa s s.heap a_RET_V "com/example/stackwright/stackwright/dialects/WordInstruction" := Exa.start e_RET_V u9
  have F_RET_V : Fld s s.heap a_RET_V "java/lang/Enum" "ordinal" "I" (.int (25 : Int32)) := own_fld e_RET_V u10
  obtain ⟨a_POP, e_POP⟩ := exa_v u11
  have E_POP : Exa s s.heap a_POP "com/example/stackwright/stackwright/dialects/WordInstruction" := Exa.start e_POP u11
  have F_POP : Fld s s.heap a_POP "java/lang/Enum" "ordinal" "I" (.int (3 : Int32)) := own_fld e_POP u13
  obtain ⟨a_ADD, e_ADD⟩ := exa_v u14
  have E_ADD : Exa s s.heap a_ADD "com/example/stackwright/stackwright/dialects/WordInstruction" := Exa.start e_ADD u14
  have F_ADD : Fld s s.heap a_ADD "java/lang/Enum" "ordinal" "I" (.int (6 : Int32)) := own_fld e_ADD u16
  obtain ⟨a_SWAP, e_SWAP⟩ := exa_v u17
  have E_SWAP : Exa s s.heap a_SWAP "com/example/stackwright/stackwright/dialects/WordInstruction" := Exa.start e_SWAP u17
  have F_SWAP : Fld s s.heap a_SWAP "java/lang/Enum" "ordinal" "I" (.int (5 : Int32)) := own_fld e_SWAP u19
  obtain ⟨a_SUB, e_SUB⟩ := exa_v u20
  have E_SUB : Exa s s.heap a_SUB "com/example/stackwright/stackwright/dialects/WordInstruction" := Exa.start e_SUB u20
  have F_SUB : Fld s s.heap a_SUB "java/lang/Enum" "ordinal" "I" (.int (7 : Int32)) := own_fld e_SUB u22
  obtain ⟨a_GET_SP, e_GET_SP⟩ := exa_v u23
  have E_GET_SP : Exa s s.heap a_GET_SP "com/example/stackwright/stackwright/dialects/WordInstruction" := Exa.start e_GET_SP u23
  have F_GET_SP : Fld s s.heap a_GET_SP "java/lang/Enum" "ordinal" "I" (.int (22 : Int32)) := own_fld e_GET_SP u25
  obtain ⟨a_PUSH, e_PUSH⟩ := exa_v u26
  have E_PUSH : Exa s s.heap a_PUSH "com/example/stackwright/stackwright/dialects/WordInstruction" := Exa.start e_PUSH u26
  have F_PUSH : Fld s s.heap a_PUSH "java/lang/Enum" "ordinal" "I" (.int (2 : Int32)) := own_fld e_PUSH u28
  obtain ⟨a_TEST_N, e_TEST_N⟩ := exa_v u29
  have E_TEST_N : Exa s s.heap a_TEST_N "com/example/stackwright/stackwright/dialects/WordInstruction" := Exa.start e_TEST_N u29
  have F_TEST_N : Fld s s.heap a_TEST_N "java/lang/Enum" "ordinal" "I" (.int (11 : Int32)) := own_fld e_TEST_N u31
  obtain ⟨a_SYSC, e_SYSC⟩ := exa_v u32
  have E_SYSC : Exa s s.heap a_SYSC "com/example/stackwright/stackwright/dialects/WordInstruction" := Exa.start e_SYSC u32
  have F_SYSC : Fld s s.heap a_SYSC "java/lang/Enum" "ordinal" "I" (.int (14 : Int32)) := own_fld e_SYSC u34
  obtain ⟨a_MUL, e_MUL⟩ := exa_v u35
  have E_MUL : Exa s s.heap a_MUL "com/example/stackwright/stackwright/dialects/WordInstruction" := Exa.start e_MUL u35
  have F_MUL : Fld s s.heap a_MUL "java/lang/Enum" "ordinal" "I" (.int (8 : Int32)) := own_fld e_MUL u37
  obtain ⟨a_NOOP, e_NOOP⟩ := exa_v u38
  have E_NOOP : Exa s s.heap a_NOOP "com/example/stackwright/stackwright/dialects/WordInstruction" := Exa.start e_NOOP u38
  have F_NOOP : Fld s s.heap a_NOOP "java/lang/Enum" "ordinal" "I" (.int (1 : Int32)) := own_fld e_NOOP u40
  obtain ⟨a_JUMP, e_JUMP⟩ := exa_v u41
  have E_JUMP : Exa s s.heap a_JUMP "com/example/stackwright/stackwright/dialects/WordInstruction" := Exa.start e_JUMP u41
  have F_JUMP : Fld s s.heap a_JUMP "java/lang/Enum" "ordinal" "I" (.int (15 : Int32)) := own_fld e_JUMP u43
  obtain ⟨a_JUMP_Z, e_JUMP_Z⟩ := exa_v u44
  have E_JUMP_Z : Exa s s.heap a_JUMP_Z "com/example/stackwright/stackwright/dialects/WordInstruction" := Exa.start e_JUMP_Z u44
  have F_JUMP_Z : Fld s s.heap a_JUMP_Z "java/lang/Enum" "ordinal" "I" (.int (16 : Int32)) := own_fld e_JUMP_Z u46
  obtain ⟨a_TEST_Z, e_TEST_Z⟩ := exa_v u47
  have E_TEST_Z : Exa s s.heap a_TEST_Z "com/example/stackwright/stackwright/dialects/WordInstruction" := Exa.start e_TEST_Z u47
  have F_TEST_Z : Fld s s.heap a_TEST_Z "java/lang/Enum" "ordinal" "I" (.int (10 : Int32)) := own_fld e_TEST_Z u49
  obtain ⟨a_SET_SP, e_SET_SP⟩ := exa_v u50
  have E_SET_SP : Exa s s.heap a_SET_SP "com/example/stackwright/stackwright/dialects/WordInstruction" := Exa.start e_SET_SP u50
  have F_SET_SP : Fld s s.heap a_SET_SP "java/lang/Enum" "ordinal" "I" (.int (21 : Int32)) := own_fld e_SET_SP u52
  obtain ⟨a_STORE, e_STORE⟩ := exa_v u53
  have E_STORE : Exa s s.heap a_STORE "com/example/stackwright/stackwright/dialects/WordInstruction" := Exa.start e_STORE u53
  have F_STORE : Fld s s.heap a_STORE "java/lang/Enum" "ordinal" "I" (.int (13 : Int32)) := own_fld e_STORE u55
  obtain ⟨a_LOAD, e_LOAD⟩ := exa_v u56
  have E_LOAD : Exa s s.heap a_LOAD "com/example/stackwright/stackwright/dialects/WordInstruction" := Exa.start e_LOAD u56
  have F_LOAD : Fld s s.heap a_LOAD "java/lang/Enum" "ordinal" "I" (.int (12 : Int32)) := own_fld e_LOAD u58
  obtain ⟨a_SET_FP, e_SET_FP⟩ := exa_v u59
  have E_SET_FP : Exa s s.heap a_SET_FP "com/example/stackwright/stackwright/dialects/WordInstruction" := Exa.start e_SET_FP u59
  have F_SET_FP : Fld s s.heap a_SET_FP "java/lang/Enum" "ordinal" "I" (.int (19 : Int32)) := own_fld e_SET_FP u61
  obtain ⟨a_GET_LP, e_GET_LP⟩ := exa_v u62
  have E_GET_LP : Exa s s.heap a_GET_LP "com/example/stackwright/stackwright/dialects/WordInstruction" := Exa.start e_GET_LP u62
  have F_GET_LP : Fld s s.heap a_GET_LP "java/lang/Enum" "ordinal" "I" (.int (18 : Int32)) := own_fld e_GET_LP u64
  obtain ⟨a_DUP, e_DUP⟩ := exa_v u65
  have E_DUP : Exa s s.heap a_DUP "com/example/stackwright/stackwright/dialects/WordInstruction" := Exa.start e_DUP u65
  have F_DUP : Fld s s.heap a_DUP "java/lang/Enum" "ordinal" "I" (.int (4 : Int32)) := own_fld e_DUP u67
  obtain ⟨a_DIV, e_DIV⟩ := exa_v u68
  have E_DIV : Exa s s.heap a_DIV "com/example/stackwright/stackwright/dialects/WordInstruction" := Exa.start e_DIV u68
  have F_DIV : Fld s s.heap a_DIV "java/lang/Enum" "ordinal" "I" (.int (9 : Int32)) := own_fld e_DIV u70
  obtain ⟨a_JUMP_N, e_JUMP_N⟩ := exa_v u72
  have E_JUMP_N : Exa s s.heap a_JUMP_N "com/example/stackwright/stackwright/dialects/WordInstruction" := Exa.start e_JUMP_N u72
  have F_JUMP_N : Fld s s.heap a_JUMP_N "java/lang/Enum" "ordinal" "I" (.int (17 : Int32)) := own_fld e_JUMP_N u74
  obtain ⟨a_GET_FP, e_GET_FP⟩ := exa_v u75
  have E_GET_FP : Exa s s.heap a_GET_FP "com/example/stackwright/stackwright/dialects/WordInstruction" := Exa.start e_GET_FP u75
  have F_GET_FP : Fld s s.heap a_GET_FP "java/lang/Enum" "ordinal" "I" (.int (20 : Int32)) := own_fld e_GET_FP u77
  have S_CALL : Sta s s.heap "com/example/stackwright/stackwright/dialects/WordInstruction" "CALL" "Lcom/example/stackwright/stackwright/dialects/WordInstruction;" (.ref a_CALL) := Sta.start e_CALL (Or.inr ⟨(hw _ (List.mem_of_getElem? (i := 3) rfl)), (hw _ (List.mem_of_getElem? (i := 28) rfl))⟩)
  have S_RET : Sta s s.heap "com/example/stackwright/stackwright/dialects/WordInstruction" "RET" "Lcom/example/stackwright/stackwright/dialects/WordInstruction;" (.ref a_RET) := Sta.start e_RET (Or.inr ⟨(hw _ (List.mem_of_getElem? (i := 3) rfl)), (hw _ (List.mem_of_getElem? (i := 30) rfl))⟩)
  have S_RET_V : Sta s s.heap "com/example/stackwright/stackwright/dialects/WordInstruction" "RET_V" "Lcom/example/stackwright/stackwright/dialects/WordInstruction;" (.ref a_RET_V) := Sta.start e_RET_V (Or.inr ⟨(hw _ (List.mem_of_getElem? (i := 3) rfl)), (hw _ (List.mem_of_getElem? (i := 32) rfl))⟩)
  have hr : 0 ≤ ((i0 &&& (2147483647 : Int32)) % (26 : Int32)).toInt ∧ ((i0 &&& (2147483647 : Int32)) % (26 : Int32)).toInt < 26 := own_rem i0
  obtain ⟨iv, hiv⟩ : ∃ z : Int32, z = (i0 &&& (2147483647 : Int32)) % (26 : Int32) := ⟨_, rfl⟩
  rw [← hiv] at hr
  have h26 := own_26 hr.1 hr.2
  obtain ⟨aw, hat, Ew, Fw, hs⟩ : ∃ aw : Addr, cl.slots[iv.toNatClampNeg]? = some (.ref aw) ∧ Exa s s.heap aw "com/example/stackwright/stackwright/dialects/WordInstruction" ∧ Fld s s.heap aw "java/lang/Enum" "ordinal" "I" (.int iv) ∧ ((iv < (23 : Int32) ∧ ¬ (aw = a_CALL ∨ aw = a_RET ∨ aw = a_RET_V)) ∨ (¬ (iv < (23 : Int32)) ∧ (aw = a_CALL ∨ aw = a_RET ∨ aw = a_RET_V))) := by
    rcases h26 with hk | hk | hk | hk | hk | hk | hk | hk | hk | hk | hk | hk | hk | hk | hk | hk | hk | hk | hk | hk | hk | hk | hk | hk | hk | hk
    · exact ⟨a_HALT, own_elem (j := (0 : Int32)) eA Ar u3 e_HALT (by decide) hk, E_HALT, own_fldv F_HALT hk, own_sup hk (Or.inl ⟨by decide, fun q => q.elim (F_HALT.ne F_CALL (by decide)) (fun q => q.elim (F_HALT.ne F_RET (by decide)) (F_HALT.ne F_RET_V (by decide)))⟩)⟩
    · exact ⟨a_NOOP, own_elem (j := (1 : Int32)) eA Ar u39 e_NOOP (by decide) hk, E_NOOP, own_fldv F_NOOP hk, own_sup hk (Or.inl ⟨by decide, fun q => q.elim (F_NOOP.ne F_CALL (by decide)) (fun q => q.elim (F_NOOP.ne F_RET (by decide)) (F_NOOP.ne F_RET_V (by decide)))⟩)⟩
    · exact ⟨a_PUSH, own_elem (j := (2 : Int32)) eA Ar u27 e_PUSH (by decide) hk, E_PUSH, own_fldv F_PUSH hk, own_sup hk (Or.inl ⟨by decide, fun q => q.elim (F_PUSH.ne F_CALL (by decide)) (fun q => q.elim (F_PUSH.ne F_RET (by decide)) (F_PUSH.ne F_RET_V (by decide)))⟩)⟩
    · exact ⟨a_POP, own_elem (j := (3 : Int32)) eA Ar u12 e_POP (by decide) hk, E_POP, own_fldv F_POP hk, own_sup hk (Or.inl ⟨by decide, fun q => q.elim (F_POP.ne F_CALL (by decide)) (fun q => q.elim (F_POP.ne F_RET (by decide)) (F_POP.ne F_RET_V (by decide)))⟩)⟩
    · exact ⟨a_DUP, own_elem (j := (4 : Int32)) eA Ar u66 e_DUP (by decide) hk, E_DUP, own_fldv F_DUP hk, own_sup hk (Or.inl ⟨by decide, fun q => q.elim (F_DUP.ne F_CALL (by decide)) (fun q => q.elim (F_DUP.ne F_RET (by decide)) (F_DUP.ne F_RET_V (by decide)))⟩)⟩
    · exact ⟨a_SWAP, own_elem (j := (5 : Int32)) eA Ar u18 e_SWAP (by decide) hk, E_SWAP, own_fldv F_SWAP hk, own_sup hk (Or.inl ⟨by decide, fun q => q.elim (F_SWAP.ne F_CALL (by decide)) (fun q => q.elim (F_SWAP.ne F_RET (by decide)) (F_SWAP.ne F_RET_V (by decide)))⟩)⟩
    · exact ⟨a_ADD, own_elem (j := (6 : Int32)) eA Ar u15 e_ADD (by decide) hk, E_ADD, own_fldv F_ADD hk, own_sup hk (Or.inl ⟨by decide, fun q => q.elim (F_ADD.ne F_CALL (by decide)) (fun q => q.elim (F_ADD.ne F_RET (by decide)) (F_ADD.ne F_RET_V (by decide)))⟩)⟩
    · exact ⟨a_SUB, own_elem (j := (7 : Int32)) eA Ar u21 e_SUB (by decide) hk, E_SUB, own_fldv F_SUB hk, own_sup hk (Or.inl ⟨by decide, fun q => q.elim (F_SUB.ne F_CALL (by decide)) (fun q => q.elim (F_SUB.ne F_RET (by decide)) (F_SUB.ne F_RET_V (by decide)))⟩)⟩
    · exact ⟨a_MUL, own_elem (j := (8 : Int32)) eA Ar u36 e_MUL (by decide) hk, E_MUL, own_fldv F_MUL hk, own_sup hk (Or.inl ⟨by decide, fun q => q.elim (F_MUL.ne F_CALL (by decide)) (fun q => q.elim (F_MUL.ne F_RET (by decide)) (F_MUL.ne F_RET_V (by decide)))⟩)⟩
    · exact ⟨a_DIV, own_elem (j := (9 : Int32)) eA Ar u69 e_DIV (by decide) hk, E_DIV, own_fldv F_DIV hk, own_sup hk (Or.inl ⟨by decide, fun q => q.elim (F_DIV.ne F_CALL (by decide)) (fun q => q.elim (F_DIV.ne F_RET (by decide)) (F_DIV.ne F_RET_V (by decide)))⟩)⟩
    · exact ⟨a_TEST_Z, own_elem (j := (10 : Int32)) eA Ar u48 e_TEST_Z (by decide) hk, E_TEST_Z, own_fldv F_TEST_Z hk, own_sup hk (Or.inl ⟨by decide, fun q => q.elim (F_TEST_Z.ne F_CALL (by decide)) (fun q => q.elim (F_TEST_Z.ne F_RET (by decide)) (F_TEST_Z.ne F_RET_V (by decide)))⟩)⟩
    · exact ⟨a_TEST_N, own_elem (j := (11 : Int32)) eA Ar u30 e_TEST_N (by decide) hk, E_TEST_N, own_fldv F_TEST_N hk, own_sup hk (Or.inl ⟨by decide, fun q => q.elim (F_TEST_N.ne F_CALL (by decide)) (fun q => q.elim (F_TEST_N.ne F_RET (by decide)) (F_TEST_N.ne F_RET_V (by decide)))⟩)⟩
    · exact ⟨a_LOAD, own_elem (j := (12 : Int32)) eA Ar u57 e_LOAD (by decide) hk, E_LOAD, own_fldv F_LOAD hk, own_sup hk (Or.inl ⟨by decide, fun q => q.elim (F_LOAD.ne F_CALL (by decide)) (fun q => q.elim (F_LOAD.ne F_RET (by decide)) (F_LOAD.ne F_RET_V (by decide)))⟩)⟩
    · exact ⟨a_STORE, own_elem (j := (13 : Int32)) eA Ar u54 e_STORE (by decide) hk, E_STORE, own_fldv F_STORE hk, own_sup hk (Or.inl ⟨by decide, fun q => q.elim (F_STORE.ne F_CALL (by decide)) (fun q => q.elim (F_STORE.ne F_RET (by decide)) (F_STORE.ne F_RET_V (by decide)))⟩)⟩
    · exact ⟨a_SYSC, own_elem (j := (14 : Int32)) eA Ar u33 e_SYSC (by decide) hk, E_SYSC, own_fldv F_SYSC hk, own_sup hk (Or.inl ⟨by decide, fun q => q.elim (F_SYSC.ne F_CALL (by decide)) (fun q => q.elim (F_SYSC.ne F_RET (by decide)) (F_SYSC.ne F_RET_V (by decide)))⟩)⟩
    · exact ⟨a_JUMP, own_elem (j := (15 : Int32)) eA Ar u42 e_JUMP (by decide) hk, E_JUMP, own_fldv F_JUMP hk, own_sup hk (Or.inl ⟨by decide, fun q => q.elim (F_JUMP.ne F_CALL (by decide)) (fun q => q.elim (F_JUMP.ne F_RET (by decide)) (F_JUMP.ne F_RET_V (by decide)))⟩)⟩
    · exact ⟨a_JUMP_Z, own_elem (j := (16 : Int32)) eA Ar u45 e_JUMP_Z (by decide) hk, E_JUMP_Z, own_fldv F_JUMP_Z hk, own_sup hk (Or.inl ⟨by decide, fun q => q.elim (F_JUMP_Z.ne F_CALL (by decide)) (fun q => q.elim (F_JUMP_Z.ne F_RET (by decide)) (F_JUMP_Z.ne F_RET_V (by decide)))⟩)⟩
    · exact ⟨a_JUMP_N, own_elem (j := (17 : Int32)) eA Ar u73 e_JUMP_N (by decide) hk, E_JUMP_N, own_fldv F_JUMP_N hk, own_sup hk (Or.inl ⟨by decide, fun q => q.elim (F_JUMP_N.ne F_CALL (by decide)) (fun q => q.elim (F_JUMP_N.ne F_RET (by decide)) (F_JUMP_N.ne F_RET_V (by decide)))⟩)⟩
    · exact ⟨a_GET_LP, own_elem (j := (18 : Int32)) eA Ar u63 e_GET_LP (by decide) hk, E_GET_LP, own_fldv F_GET_LP hk, own_sup hk (Or.inl ⟨by decide, fun q => q.elim (F_GET_LP.ne F_CALL (by decide)) (fun q => q.elim (F_GET_LP.ne F_RET (by decide)) (F_GET_LP.ne F_RET_V (by decide)))⟩)⟩
    · exact ⟨a_SET_FP, own_elem (j := (19 : Int32)) eA Ar u60 e_SET_FP (by decide) hk, E_SET_FP, own_fldv F_SET_FP hk, own_sup hk (Or.inl ⟨by decide, fun q => q.elim (F_SET_FP.ne F_CALL (by decide)) (fun q => q.elim (F_SET_FP.ne F_RET (by decide)) (F_SET_FP.ne F_RET_V (by decide)))⟩)⟩
    · exact ⟨a_GET_FP, own_elem (j := (20 : Int32)) eA Ar u76 e_GET_FP (by decide) hk, E_GET_FP, own_fldv F_GET_FP hk, own_sup hk (Or.inl ⟨by decide, fun q => q.elim (F_GET_FP.ne F_CALL (by decide)) (fun q => q.elim (F_GET_FP.ne F_RET (by decide)) (F_GET_FP.ne F_RET_V (by decide)))⟩)⟩
    · exact ⟨a_SET_SP, own_elem (j := (21 : Int32)) eA Ar u51 e_SET_SP (by decide) hk, E_SET_SP, own_fldv F_SET_SP hk, own_sup hk (Or.inl ⟨by decide, fun q => q.elim (F_SET_SP.ne F_CALL (by decide)) (fun q => q.elim (F_SET_SP.ne F_RET (by decide)) (F_SET_SP.ne F_RET_V (by decide)))⟩)⟩
    · exact ⟨a_GET_SP, own_elem (j := (22 : Int32)) eA Ar u24 e_GET_SP (by decide) hk, E_GET_SP, own_fldv F_GET_SP hk, own_sup hk (Or.inl ⟨by decide, fun q => q.elim (F_GET_SP.ne F_CALL (by decide)) (fun q => q.elim (F_GET_SP.ne F_RET (by decide)) (F_GET_SP.ne F_RET_V (by decide)))⟩)⟩
    · exact ⟨a_CALL, own_elem (j := (23 : Int32)) eA Ar u78 e_CALL (by decide) hk, E_CALL, own_fldv F_CALL hk, own_sup hk (Or.inr ⟨by decide, Or.inl rfl⟩)⟩
    · exact ⟨a_RET, own_elem (j := (24 : Int32)) eA Ar v78 e_RET (by decide) hk, E_RET, own_fldv F_RET hk, own_sup hk (Or.inr ⟨by decide, Or.inr (Or.inl rfl)⟩)⟩
    · exact ⟨a_RET_V, own_elem (j := (25 : Int32)) eA Ar u71 e_RET_V (by decide) hk, E_RET_V, own_fldv F_RET_V hk, own_sup hk (Or.inr ⟨by decide, Or.inr (Or.inr rfl)⟩)⟩
  have hlo : ¬ (iv < (0 : Int32)) := by rw [Int32.lt_iff_toInt_lt]; have e0 : (0 : Int32).toInt = 0 := rfl; omega
  have hhi : iv < (26 : Int32) := by rw [Int32.lt_iff_toInt_lt]; have e0 : (26 : Int32).toInt = 26 := rfl; omega
  obtain ⟨n, o, h1, h2, h3, _, L, rfl, ⟨rfl, N⟩, hq⟩ := rm0 l s _ hw tables_1 i0 iv aA cl aw a_CALL a_RET a_RET_V s.heap s.heap.size (Nat.le_refl _) SA Ar S_CALL S_RET S_RET_V Ew Fw hsz hiv hlo hhi hat hs p e ha hc hk s m _ below hf ((Spec.applies_iff_loose hf).mp happ).1 ⟨rfl, State.Warmed39.refl s, rfl⟩ trivial
  exact ⟨n, _, h1, h2, h3, hpost _ _ _ _ _ _ ⟨Cond.after_iff.mpr rfl, Cond.after_iff.mpr (eq_i res_at (Term.int_eval (1)) rfl), trivial⟩ ⟨hq.1, hq.2.1, (hq.2.2.sift fun y hy => Or.inr (N y hy)).mono (by decide) (by decide)⟩⟩
theorem main_1_1 : Claimed_1_1 := comes_1 fun _ _ _ _ _ _ h hF => ⟨h.1, hF⟩
theorem main_1_2 : Claimed_1_2 := comes_1 fun _ _ _ _ _ _ h hF => ⟨h.2.1, hF⟩
end Jvm.Pilot.@@N@@
namespace Jvm.Pilot.@@N@@
open Jvm Jvm.ClassFile Sem Op Lib Jvm.Free Jvm.Stand Jvm.Pilot.@@N@@.Jvm.D
/-! MADE BY PROGRAM (witnessworld.py) out of the Statement's table words and the real class files: 13 classes; the members and pool entries that the words name. The judged class is class 1, her method 1. -/
namespace start1
open Jvm.ClassFile
def u (s : String) : CpInfo := .utf8 (stringToUtf16 s)
/-- a pool by its gaps: so many unusable entries, then the entry; so many at the end -/
def gap : Nat → List CpInfo → List CpInfo
  | 0, r => r
  | n + 1, r => .unusable :: gap n r
def poolList (es : List (Nat × CpInfo)) (last : Nat) : List CpInfo := es.foldr (fun e r => gap e.1 (e.2 :: r)) (gap last [])
def pool (es : List (Nat × CpInfo)) (last : Nat) : Array CpInfo := ⟨poolList es last⟩
def fileOf (pool : Array CpInfo) (this : Nat) (attrs : Array Attribute := #[]) (ms : Array MethodInfo := #[]) (fl : Nat := 33) (sup : Nat := 0) (ifs : Array Nat := #[]) (fds : Array FieldInfo := #[]) : ClassFile where
  minorVersion := 0
  majorVersion := 65
  constantPool := pool
  accessFlags := fl
  thisClass := this
  superClass := sup
  interfaces := ifs
  fields := fds
  methods := ms
  attributes := attrs
def plain (name : String) (sup : Option ClassId) : Class where
  name := name
  kind := .ordinary
  loader := none
  accessFlags := 33
  super := sup
  interfaces := #[]
  cf := none
  fields := #[]
  methods := #[]
  instanceTypes := #[]
  staticTypes := #[]
  resolved := #[]
  callSites := []
  init := .initialized
  statics := none
  mirror := none

def pool0 : Array CpInfo := pool [(5, u "<init>"), (0, u "()V"), (1, .class_ 10), (1, u "java/lang/Object")] 113

def k0m0 : Method := { name := "<init>", desc := "()V", sig := { parameters := [], returnType := none }, accessFlags := 1, code := none }
/-- java/lang/Object -/
def k0 : Class := { plain "java/lang/Object" none with
  accessFlags := 33
  interfaces := #[]
  cf := some (fileOf pool0 8 #[] #[{ accessFlags := 1, nameIndex := 5, descriptorIndex := 6, attributes := #[] }] 33 0 #[] #[])
  fields := #[]
  methods := #[k0m0]
  instanceTypes := #[]
  staticTypes := #[]
  resolved := Array.replicate 124 none
  statics := none }

def pool1 : Array CpInfo := pool [(2, .class_ 4), (1, u "java/lang/Object"), (0, u "<init>"), (0, u "()V"), (0, .integer 2147483647), (0, .methodref 9 10), (0, .class_ 11), (0, .nameAndType 12 13), (0, u "com/example/stackwright/stackwright/dialects/WordInstruction"), (0, u "byCode"), (0, u "(I)Lcom/example/stackwright/stackwright/dialects/WordInstruction;"), (0, .methodref 9 15), (0, .nameAndType 16 17), (0, u "code"), (0, u "()I"), (0, .methodref 9 19), (0, .nameAndType 20 21), (0, u "supported"), (0, u "()Z"), (0, .class_ 23), (0, u "com/example/stackwright/stackwright/dialects/WordInstructionSupportedPinLaw"), (2, u "law"), (0, u "(I)Z")] 6

def k1m0 : Method := { name := "<init>", desc := "()V", sig := { parameters := [], returnType := none }, accessFlags := 1, code := none }
def k1c1 : Code := { maxStack := 2, maxLocals := 4, code := code, exceptionTable := #[], attributes := #[] }
def k1m1 : Method := { name := "law", desc := "(I)Z", sig := { parameters := [.int], returnType := some .boolean }, accessFlags := 9, code := some k1c1 }
/-- com/example/stackwright/stackwright/dialects/WordInstructionSupportedPinLaw -/
def k1 : Class := { plain "com/example/stackwright/stackwright/dialects/WordInstructionSupportedPinLaw" (some 0) with
  accessFlags := 49
  interfaces := #[]
  cf := some (fileOf pool1 22 #[] #[{ accessFlags := 1, nameIndex := 5, descriptorIndex := 6, attributes := #[] }, { accessFlags := 9, nameIndex := 26, descriptorIndex := 27, attributes := #[] }] 49 2 #[] #[])
  fields := #[]
  methods := #[k1m0, k1m1]
  instanceTypes := #[]
  staticTypes := #[]
  resolved := Array.replicate 34 none
  statics := none }

def pool2 : Array CpInfo := pool [(1, .class_ 2), (0, u "java/lang/constant/Constable"), (0, .class_ 4), (0, u "java/lang/Object")] 6

/-- java/lang/constant/Constable -/
def k2 : Class := { plain "java/lang/constant/Constable" (some 0) with
  accessFlags := 1537
  interfaces := #[]
  cf := some (fileOf pool2 1 #[] #[] 1537 3 #[] #[])
  fields := #[]
  methods := #[]
  instanceTypes := #[]
  staticTypes := #[]
  resolved := Array.replicate 11 none
  statics := none }

def pool3 : Array CpInfo := pool [(1, .class_ 2), (0, u "java/lang/Comparable"), (0, .class_ 4), (0, u "java/lang/Object")] 7

/-- java/lang/Comparable -/
def k3 : Class := { plain "java/lang/Comparable" (some 0) with
  accessFlags := 1537
  interfaces := #[]
  cf := some (fileOf pool3 1 #[] #[] 1537 3 #[] #[])
  fields := #[]
  methods := #[]
  instanceTypes := #[]
  staticTypes := #[]
  resolved := Array.replicate 12 none
  statics := none }

def pool4 : Array CpInfo := pool [(1, .class_ 2), (0, u "java/io/Serializable"), (0, .class_ 4), (0, u "java/lang/Object")] 2

/-- java/io/Serializable -/
def k4 : Class := { plain "java/io/Serializable" (some 0) with
  accessFlags := 1537
  interfaces := #[]
  cf := some (fileOf pool4 1 #[] #[] 1537 3 #[] #[])
  fields := #[]
  methods := #[]
  instanceTypes := #[]
  staticTypes := #[]
  resolved := Array.replicate 7 none
  statics := none }

def pool5 : Array CpInfo := pool [(2, .class_ 4), (1, u "java/lang/Enum"), (0, u "name"), (0, u "Ljava/lang/String;"), (0, .fieldref 2 8), (0, .nameAndType 9 10), (0, u "ordinal"), (0, u "I"), (1, .class_ 14), (1, u "java/lang/Object"), (4, u "hash"), (86, .class_ 108), (1, u "java/lang/Enum$EnumDesc"), (2, .class_ 112), (0, u "java/lang/constant/Constable"), (0, .class_ 114), (0, u "java/lang/Comparable"), (0, .class_ 116), (0, u "java/io/Serializable"), (9, u "()I")] 77

def k5c0 : Code := { maxStack := 1, maxLocals := 1, code := jdk_37_method_2_code, exceptionTable := #[], attributes := #[] }
def k5m0 : Method := { name := "ordinal", desc := "()I", sig := { parameters := [], returnType := some .int }, accessFlags := 17, code := some k5c0 }
/-- java/lang/Enum -/
def k5 : Class := { plain "java/lang/Enum" (some 0) with
  accessFlags := 1057
  interfaces := #[2, 3, 4]
  cf := some (fileOf pool5 2 #[.nestMembers #[106]] #[{ accessFlags := 17, nameIndex := 9, descriptorIndex := 126, attributes := #[] }] 1057 12 #[111, 113, 115] #[{ accessFlags := 18, nameIndex := 5, descriptorIndex := 6, attributes := #[] }, { accessFlags := 18, nameIndex := 9, descriptorIndex := 10, attributes := #[] }, { accessFlags := 2, nameIndex := 19, descriptorIndex := 10, attributes := #[] }])
  fields := #[{ name := "name", type := (.object "java/lang/String"), accessFlags := 18, slot := 0, constantValue := 0 }, { name := "ordinal", type := .int, accessFlags := 18, slot := 1, constantValue := 0 }, { name := "hash", type := .int, accessFlags := 2, slot := 2, constantValue := 0 }]
  methods := #[k5m0]
  instanceTypes := #[(.object "java/lang/String"), .int, .int]
  staticTypes := #[]
  resolved := Array.replicate 204 none
  statics := none }

def pool6 : Array CpInfo := pool [(1, .class_ 2), (0, u "com/example/stackwright/stackwright/dialects/WordInstruction"), (2, u "HALT"), (0, u "Lcom/example/stackwright/stackwright/dialects/WordInstruction;"), (2, u "NOOP"), (2, u "PUSH"), (2, u "POP"), (2, u "DUP"), (2, u "SWAP"), (2, u "ADD"), (2, u "SUB"), (2, u "MUL"), (2, u "DIV"), (2, u "TEST_Z"), (2, u "TEST_N"), (2, u "LOAD"), (2, u "STORE"), (2, u "SYSC"), (2, u "JUMP"), (2, u "JUMP_Z"), (2, u "JUMP_N"), (2, u "GET_LP"), (2, u "SET_FP"), (2, u "GET_FP"), (2, u "SET_SP"), (2, u "GET_SP"), (0, .fieldref 1 74), (0, .nameAndType 75 6), (0, u "CALL"), (0, .fieldref 1 77), (0, .nameAndType 78 6), (0, u "RET"), (0, .fieldref 1 80), (0, .nameAndType 81 6), (0, u "RET_V"), (2, u "$VALUES"), (0, u "[Lcom/example/stackwright/stackwright/dialects/WordInstruction;"), (6, .class_ 94), (1, u "java/lang/Enum"), (18, u "mnemonic"), (0, u "Ljava/lang/String;"), (0, .methodref 1 116), (0, .nameAndType 117 118), (0, u "ordinal"), (0, u "()I"), (5, u "BY_MNEMONIC"), (0, u "Ljava/util/Map;"), (12, .fieldref 1 139), (0, .nameAndType 140 85), (0, u "BY_CODE"), (74, u "code"), (0, u "supported"), (0, u "()Z"), (4, u "byCode"), (0, u "(I)Lcom/example/stackwright/stackwright/dialects/WordInstruction;")] 33

def k6c0 : Code := { maxStack := 1, maxLocals := 1, code := prog_31_method_6_code, exceptionTable := #[], attributes := #[] }
def k6m0 : Method := { name := "code", desc := "()I", sig := { parameters := [], returnType := some .int }, accessFlags := 0, code := some k6c0 }
def k6c1 : Code := { maxStack := 2, maxLocals := 1, code := prog_31_method_7_code, exceptionTable := #[], attributes := #[] }
def k6m1 : Method := { name := "supported", desc := "()Z", sig := { parameters := [], returnType := some .boolean }, accessFlags := 0, code := some k6c1 }
def k6c2 : Code := { maxStack := 2, maxLocals := 1, code := prog_31_method_10_code, exceptionTable := #[], attributes := #[] }
def k6m2 : Method := { name := "byCode", desc := "(I)Lcom/example/stackwright/stackwright/dialects/WordInstruction;", sig := { parameters := [.int], returnType := some (.object "com/example/stackwright/stackwright/dialects/WordInstruction") }, accessFlags := 8, code := some k6c2 }
/-- com/example/stackwright/stackwright/dialects/WordInstruction -/
def k6 : Class := { plain "com/example/stackwright/stackwright/dialects/WordInstruction" (some 5) with
  accessFlags := 16432
  interfaces := #[]
  cf := some (fileOf pool6 1 #[] #[{ accessFlags := 0, nameIndex := 215, descriptorIndex := 118, attributes := #[] }, { accessFlags := 0, nameIndex := 216, descriptorIndex := 217, attributes := #[] }, { accessFlags := 8, nameIndex := 222, descriptorIndex := 223, attributes := #[] }] 16432 92 #[] #[{ accessFlags := 16409, nameIndex := 5, descriptorIndex := 6, attributes := #[] }, { accessFlags := 16409, nameIndex := 9, descriptorIndex := 6, attributes := #[] }, { accessFlags := 16409, nameIndex := 12, descriptorIndex := 6, attributes := #[] }, { accessFlags := 16409, nameIndex := 15, descriptorIndex := 6, attributes := #[] }, { accessFlags := 16409, nameIndex := 18, descriptorIndex := 6, attributes := #[] }, { accessFlags := 16409, nameIndex := 21, descriptorIndex := 6, attributes := #[] }, { accessFlags := 16409, nameIndex := 24, descriptorIndex := 6, attributes := #[] }, { accessFlags := 16409, nameIndex := 27, descriptorIndex := 6, attributes := #[] }, { accessFlags := 16409, nameIndex := 30, descriptorIndex := 6, attributes := #[] }, { accessFlags := 16409, nameIndex := 33, descriptorIndex := 6, attributes := #[] }, { accessFlags := 16409, nameIndex := 36, descriptorIndex := 6, attributes := #[] }, { accessFlags := 16409, nameIndex := 39, descriptorIndex := 6, attributes := #[] }, { accessFlags := 16409, nameIndex := 42, descriptorIndex := 6, attributes := #[] }, { accessFlags := 16409, nameIndex := 45, descriptorIndex := 6, attributes := #[] }, { accessFlags := 16409, nameIndex := 48, descriptorIndex := 6, attributes := #[] }, { accessFlags := 16409, nameIndex := 51, descriptorIndex := 6, attributes := #[] }, { accessFlags := 16409, nameIndex := 54, descriptorIndex := 6, attributes := #[] }, { accessFlags := 16409, nameIndex := 57, descriptorIndex := 6, attributes := #[] }, { accessFlags := 16409, nameIndex := 60, descriptorIndex := 6, attributes := #[] }, { accessFlags := 16409, nameIndex := 63, descriptorIndex := 6, attributes := #[] }, { accessFlags := 16409, nameIndex := 66, descriptorIndex := 6, attributes := #[] }, { accessFlags := 16409, nameIndex := 69, descriptorIndex := 6, attributes := #[] }, { accessFlags := 16409, nameIndex := 72, descriptorIndex := 6, attributes := #[] }, { accessFlags := 16409, nameIndex := 75, descriptorIndex := 6, attributes := #[] }, { accessFlags := 16409, nameIndex := 78, descriptorIndex := 6, attributes := #[] }, { accessFlags := 16409, nameIndex := 81, descriptorIndex := 6, attributes := #[] }, { accessFlags := 26, nameIndex := 140, descriptorIndex := 85, attributes := #[] }, { accessFlags := 26, nameIndex := 124, descriptorIndex := 125, attributes := #[] }, { accessFlags := 18, nameIndex := 113, descriptorIndex := 114, attributes := #[] }, { accessFlags := 4122, nameIndex := 84, descriptorIndex := 85, attributes := #[] }])
  fields := #[{ name := "HALT", type := (.object "com/example/stackwright/stackwright/dialects/WordInstruction"), accessFlags := 16409, slot := 0, constantValue := 0 }, { name := "NOOP", type := (.object "com/example/stackwright/stackwright/dialects/WordInstruction"), accessFlags := 16409, slot := 1, constantValue := 0 }, { name := "PUSH", type := (.object "com/example/stackwright/stackwright/dialects/WordInstruction"), accessFlags := 16409, slot := 2, constantValue := 0 }, { name := "POP", type := (.object "com/example/stackwright/stackwright/dialects/WordInstruction"), accessFlags := 16409, slot := 3, constantValue := 0 }, { name := "DUP", type := (.object "com/example/stackwright/stackwright/dialects/WordInstruction"), accessFlags := 16409, slot := 4, constantValue := 0 }, { name := "SWAP", type := (.object "com/example/stackwright/stackwright/dialects/WordInstruction"), accessFlags := 16409, slot := 5, constantValue := 0 }, { name := "ADD", type := (.object "com/example/stackwright/stackwright/dialects/WordInstruction"), accessFlags := 16409, slot := 6, constantValue := 0 }, { name := "SUB", type := (.object "com/example/stackwright/stackwright/dialects/WordInstruction"), accessFlags := 16409, slot := 7, constantValue := 0 }, { name := "MUL", type := (.object "com/example/stackwright/stackwright/dialects/WordInstruction"), accessFlags := 16409, slot := 8, constantValue := 0 }, { name := "DIV", type := (.object "com/example/stackwright/stackwright/dialects/WordInstruction"), accessFlags := 16409, slot := 9, constantValue := 0 }, { name := "TEST_Z", type := (.object "com/example/stackwright/stackwright/dialects/WordInstruction"), accessFlags := 16409, slot := 10, constantValue := 0 }, { name := "TEST_N", type := (.object "com/example/stackwright/stackwright/dialects/WordInstruction"), accessFlags := 16409, slot := 11, constantValue := 0 }, { name := "LOAD", type := (.object "com/example/stackwright/stackwright/dialects/WordInstruction"), accessFlags := 16409, slot := 12, constantValue := 0 }, { name := "STORE", type := (.object "com/example/stackwright/stackwright/dialects/WordInstruction"), accessFlags := 16409, slot := 13, constantValue := 0 }, { name := "SYSC", type := (.object "com/example/stackwright/stackwright/dialects/WordInstruction"), accessFlags := 16409, slot := 14, constantValue := 0 }, { name := "JUMP", type := (.object "com/example/stackwright/stackwright/dialects/WordInstruction"), accessFlags := 16409, slot := 15, constantValue := 0 }, { name := "JUMP_Z", type := (.object "com/example/stackwright/stackwright/dialects/WordInstruction"), accessFlags := 16409, slot := 16, constantValue := 0 }, { name := "JUMP_N", type := (.object "com/example/stackwright/stackwright/dialects/WordInstruction"), accessFlags := 16409, slot := 17, constantValue := 0 }, { name := "GET_LP", type := (.object "com/example/stackwright/stackwright/dialects/WordInstruction"), accessFlags := 16409, slot := 18, constantValue := 0 }, { name := "SET_FP", type := (.object "com/example/stackwright/stackwright/dialects/WordInstruction"), accessFlags := 16409, slot := 19, constantValue := 0 }, { name := "GET_FP", type := (.object "com/example/stackwright/stackwright/dialects/WordInstruction"), accessFlags := 16409, slot := 20, constantValue := 0 }, { name := "SET_SP", type := (.object "com/example/stackwright/stackwright/dialects/WordInstruction"), accessFlags := 16409, slot := 21, constantValue := 0 }, { name := "GET_SP", type := (.object "com/example/stackwright/stackwright/dialects/WordInstruction"), accessFlags := 16409, slot := 22, constantValue := 0 }, { name := "CALL", type := (.object "com/example/stackwright/stackwright/dialects/WordInstruction"), accessFlags := 16409, slot := 23, constantValue := 0 }, { name := "RET", type := (.object "com/example/stackwright/stackwright/dialects/WordInstruction"), accessFlags := 16409, slot := 24, constantValue := 0 }, { name := "RET_V", type := (.object "com/example/stackwright/stackwright/dialects/WordInstruction"), accessFlags := 16409, slot := 25, constantValue := 0 }, { name := "BY_CODE", type := (.array (.object "com/example/stackwright/stackwright/dialects/WordInstruction")), accessFlags := 26, slot := 26, constantValue := 0 }, { name := "BY_MNEMONIC", type := (.object "java/util/Map"), accessFlags := 26, slot := 27, constantValue := 0 }, { name := "mnemonic", type := (.object "java/lang/String"), accessFlags := 18, slot := 3, constantValue := 0 }, { name := "$VALUES", type := (.array (.object "com/example/stackwright/stackwright/dialects/WordInstruction")), accessFlags := 4122, slot := 28, constantValue := 0 }]
  methods := #[k6m0, k6m1, k6m2]
  instanceTypes := #[(.object "java/lang/String"), .int, .int, (.object "java/lang/String")]
  staticTypes := #[(.object "com/example/stackwright/stackwright/dialects/WordInstruction"), (.object "com/example/stackwright/stackwright/dialects/WordInstruction"), (.object "com/example/stackwright/stackwright/dialects/WordInstruction"), (.object "com/example/stackwright/stackwright/dialects/WordInstruction"), (.object "com/example/stackwright/stackwright/dialects/WordInstruction"), (.object "com/example/stackwright/stackwright/dialects/WordInstruction"), (.object "com/example/stackwright/stackwright/dialects/WordInstruction"), (.object "com/example/stackwright/stackwright/dialects/WordInstruction"), (.object "com/example/stackwright/stackwright/dialects/WordInstruction"), (.object "com/example/stackwright/stackwright/dialects/WordInstruction"), (.object "com/example/stackwright/stackwright/dialects/WordInstruction"), (.object "com/example/stackwright/stackwright/dialects/WordInstruction"), (.object "com/example/stackwright/stackwright/dialects/WordInstruction"), (.object "com/example/stackwright/stackwright/dialects/WordInstruction"), (.object "com/example/stackwright/stackwright/dialects/WordInstruction"), (.object "com/example/stackwright/stackwright/dialects/WordInstruction"), (.object "com/example/stackwright/stackwright/dialects/WordInstruction"), (.object "com/example/stackwright/stackwright/dialects/WordInstruction"), (.object "com/example/stackwright/stackwright/dialects/WordInstruction"), (.object "com/example/stackwright/stackwright/dialects/WordInstruction"), (.object "com/example/stackwright/stackwright/dialects/WordInstruction"), (.object "com/example/stackwright/stackwright/dialects/WordInstruction"), (.object "com/example/stackwright/stackwright/dialects/WordInstruction"), (.object "com/example/stackwright/stackwright/dialects/WordInstruction"), (.object "com/example/stackwright/stackwright/dialects/WordInstruction"), (.object "com/example/stackwright/stackwright/dialects/WordInstruction"), (.array (.object "com/example/stackwright/stackwright/dialects/WordInstruction")), (.object "java/util/Map"), (.array (.object "com/example/stackwright/stackwright/dialects/WordInstruction"))]
  resolved := Array.replicate 257 none
  statics := some 0 }

def pool7 : Array CpInfo := pool [(1, u "java/lang/Cloneable"), (0, .class_ 1), (0, u "java/lang/Object"), (0, .class_ 3)] 3

/-- java/lang/Cloneable -/
def k7 : Class := { plain "java/lang/Cloneable" (some 0) with
  accessFlags := 1537
  interfaces := #[]
  cf := some (fileOf pool7 2 #[] #[] 1537 4 #[] #[])
  fields := #[]
  methods := #[]
  instanceTypes := #[]
  staticTypes := #[]
  resolved := Array.replicate 8 none
  statics := none }

/-- the primitive byte -/
def k8 : Class := { plain "byte" none with kind := .primitive 'B', accessFlags := 0x411 }
/-- [B -/
def k9 : Class := { plain "[B" (some 0) with kind := .array 8 .byte, interfaces := #[7, 4], accessFlags := 1041 }

/-- the primitive int -/
def k10 : Class := { plain "int" none with kind := .primitive 'I', accessFlags := 0x411 }
/-- [I -/
def k11 : Class := { plain "[I" (some 0) with kind := .array 10 .int, interfaces := #[7, 4], accessFlags := 1041 }

/-- [Lcom/example/stackwright/stackwright/dialects/WordInstruction; -/
def k12 : Class := { plain "[Lcom/example/stackwright/stackwright/dialects/WordInstruction;" (some 0) with kind := .array 6 (.object "com/example/stackwright/stackwright/dialects/WordInstruction"), interfaces := #[7, 4], accessFlags := 1041 }

def heap : Heap := #[{ cls := 6, slots := #[.ref 2, .ref 3, .ref 4, .ref 5, .ref 6, .ref 7, .ref 8, .ref 9, .ref 10, .ref 11, .ref 12, .ref 13, .ref 14, .ref 15, .ref 16, .ref 17, .ref 18, .ref 19, .ref 20, .ref 21, .ref 22, .ref 23, .ref 24, .ref 25, .ref 26, .ref 27, .ref 1, .null, .null], vm := .statics 6 },
  { cls := 12, slots := #[.ref 2, .ref 3, .ref 4, .ref 5, .ref 6, .ref 7, .ref 8, .ref 9, .ref 10, .ref 11, .ref 12, .ref 13, .ref 14, .ref 15, .ref 16, .ref 17, .ref 18, .ref 19, .ref 20, .ref 21, .ref 22, .ref 23, .ref 24, .ref 25, .ref 26, .ref 27], vm := .none },
  { cls := 6, slots := #[.null, .int 0, .int 0, .null], vm := .none },
  { cls := 6, slots := #[.null, .int 1, .int 0, .null], vm := .none },
  { cls := 6, slots := #[.null, .int 2, .int 0, .null], vm := .none },
  { cls := 6, slots := #[.null, .int 3, .int 0, .null], vm := .none },
  { cls := 6, slots := #[.null, .int 4, .int 0, .null], vm := .none },
  { cls := 6, slots := #[.null, .int 5, .int 0, .null], vm := .none },
  { cls := 6, slots := #[.null, .int 6, .int 0, .null], vm := .none },
  { cls := 6, slots := #[.null, .int 7, .int 0, .null], vm := .none },
  { cls := 6, slots := #[.null, .int 8, .int 0, .null], vm := .none },
  { cls := 6, slots := #[.null, .int 9, .int 0, .null], vm := .none },
  { cls := 6, slots := #[.null, .int 10, .int 0, .null], vm := .none },
  { cls := 6, slots := #[.null, .int 11, .int 0, .null], vm := .none },
  { cls := 6, slots := #[.null, .int 12, .int 0, .null], vm := .none },
  { cls := 6, slots := #[.null, .int 13, .int 0, .null], vm := .none },
  { cls := 6, slots := #[.null, .int 14, .int 0, .null], vm := .none },
  { cls := 6, slots := #[.null, .int 15, .int 0, .null], vm := .none },
  { cls := 6, slots := #[.null, .int 16, .int 0, .null], vm := .none },
  { cls := 6, slots := #[.null, .int 17, .int 0, .null], vm := .none },
  { cls := 6, slots := #[.null, .int 18, .int 0, .null], vm := .none },
  { cls := 6, slots := #[.null, .int 19, .int 0, .null], vm := .none },
  { cls := 6, slots := #[.null, .int 20, .int 0, .null], vm := .none },
  { cls := 6, slots := #[.null, .int 21, .int 0, .null], vm := .none },
  { cls := 6, slots := #[.null, .int 22, .int 0, .null], vm := .none },
  { cls := 6, slots := #[.null, .int 23, .int 0, .null], vm := .none },
  { cls := 6, slots := #[.null, .int 24, .int 0, .null], vm := .none },
  { cls := 6, slots := #[.null, .int 25, .int 0, .null], vm := .none }]
def classes : Array Class := #[k0, k1, k2, k3, k4, k5, k6, k7, k8, k9, k10, k11, k12]
def interned : List (Array UInt16 × Addr) := []
def slotsUsed : Nat := 159
def theMethod : MethodId := ⟨1, 1⟩
def args0 : Array Value := #[.int 5]
def aboutOver (below : List Frame) : State where
  vm := { classes := classes, interned := interned.toArray }
  heap := heap
  slotsUsed := slotsUsed
  threads := #[{ frames := .invoking theMethod args0 :: below }]
def below0 : List Frame := [.native { method := ⟨0, 0⟩, args := #[] }]
def about1 : State := aboutOver below0
def p0 : Program := .bare "" "" ""
def e0 : Env := launch0.env 0 0 0
theorem w_frames : about1.frames = Frame.invoking theMethod args0 :: below0 := rfl
set_option maxRecDepth 65536 in
theorem w_args : argsFit about1.vm theMethod args0 = true := by decide +kernel
set_option maxRecDepth 65536 in
theorem w_heap : heapFits about1 = true := by decide +kernel
set_option maxRecDepth 65536 in
theorem w_runnable : about1.curStatus? = some .runnable := by decide +kernel
set_option maxRecDepth 65536 in
theorem w_alone : about1.alone = true := by decide +kernel
set_option maxRecDepth 65536 in
theorem w_named : about1.methodNamed? x = some theMethod := by decide +kernel
set_option maxRecDepth 65536 in
theorem w_hears : about1.hears theMethod below0 = true := by decide +kernel
set_option maxRecDepth 65536 in
theorem w_ripe : about1.ripe theMethod args0 below0 = true := by decide +kernel
theorem w_running : about1.status = .running := rfl
set_option maxRecDepth 65536 in
theorem w_room : about1.hasRoom e0.platform room_1 = true :=
  launch0.hasRoom_least _ room_1 (by decide +kernel) (by decide +kernel) (by decide +kernel) (by decide +kernel) (by decide +kernel) (by decide +kernel)
theorem allAtoms_all (ts : List Jvm.Cond) (a : Array Jvm.Value) (st : Jvm.State) : (allAtoms ts).before a st = ts.all (fun c => c.before a st) := by
  induction ts with
  | nil => rfl
  | cons c t ih =>
    show (Jvm.Cond.and c (allAtoms t)).before a st = _
    rw [Jvm.Cond.before_and, ih, List.all_cons]
def words1 : List Jvm.Cond := Jvm.Cond.code x code maxLocals ret :: tables_1
/-- a 'code' word, met by the world's own term for the bytes: nothing is compared byte by byte -/
theorem code_word {y : MethodName} {bytes : ByteArray} {mx : Nat} {rt : Option FieldType} {a : Array Value} {s : State} {m : MethodId} {meth : Method} {c : Code} (h1 : s.methodNamed? y = some m) (h2 : s.vm.method? m = some meth) (h3 : meth.code = some c) (h4 : c.code = bytes)
    (h5 : (c.maxLocals == mx && c.exceptionTable.isEmpty && decide (c.maxStack ≤ mostOperands) && decide (meth.sig.returnType = rt) && !meth.locks && decide (parseMethodDescriptor y.desc = some meth.sig)) = true) : (Jvm.Cond.code y bytes mx rt).before a s = true := by
  simp only [Bool.and_eq_true, beq_iff_eq, Bool.not_eq_true', decide_eq_true_eq] at h5
  obtain ⟨⟨⟨⟨⟨g1, g2⟩, g3⟩, g4⟩, g5⟩, g6⟩ := h5
  simp [Cond.before, Cond.holds, Cond.value, h1, h2, h3, h4, g1, g2, g3, g4, g5, g6]
def isCode : Jvm.Cond → Bool
  | .code _ _ _ _ => true
  | _ => false
theorem all_split {L : List Jvm.Cond} {P : Jvm.Cond → Bool} (h1 : L.all (fun c => isCode c || P c) = true) (h2 : ∀ c ∈ L.filter isCode, P c = true) : L.all P = true := by
  refine List.all_eq_true.mpr fun c hc => ?_
  have h := List.all_eq_true.mp h1 c hc
  rcases Bool.eq_false_or_eq_true (isCode c) with hi | hi
  · exact h2 c (List.mem_filter.mpr ⟨hc, hi⟩)
  · simpa [hi] using h
set_option maxRecDepth 65536 in
theorem w_c0 : (Jvm.Cond.code x code maxLocals ret).before args0 about1 = true := code_word (m := ⟨1, 1⟩) (meth := k1m1) (c := k1c1) (by decide +kernel) rfl rfl rfl (by decide +kernel)
set_option maxRecDepth 65536 in
theorem w_c1 : (Jvm.Cond.code ({ cls := "com/example/stackwright/stackwright/dialects/WordInstruction", name := "byCode", desc := "(I)Lcom/example/stackwright/stackwright/dialects/WordInstruction;" } : Jvm.MethodName) prog_31_method_10_code (1 : Nat) (Option.some (Jvm.ClassFile.FieldType.object "com/example/stackwright/stackwright/dialects/WordInstruction"))).before args0 about1 = true := code_word (m := ⟨6, 2⟩) (meth := k6m2) (c := k6c2) (by decide +kernel) rfl rfl rfl (by decide +kernel)
set_option maxRecDepth 65536 in
theorem w_c2 : (Jvm.Cond.code ({ cls := "com/example/stackwright/stackwright/dialects/WordInstruction", name := "code", desc := "()I" } : Jvm.MethodName) prog_31_method_6_code (1 : Nat) (Option.some Jvm.ClassFile.FieldType.int)).before args0 about1 = true := code_word (m := ⟨6, 0⟩) (meth := k6m0) (c := k6c0) (by decide +kernel) rfl rfl rfl (by decide +kernel)
set_option maxRecDepth 65536 in
theorem w_c3 : (Jvm.Cond.code ({ cls := "java/lang/Enum", name := "ordinal", desc := "()I" } : Jvm.MethodName) jdk_37_method_2_code (1 : Nat) (Option.some Jvm.ClassFile.FieldType.int)).before args0 about1 = true := code_word (m := ⟨5, 0⟩) (meth := k5m0) (c := k5c0) (by decide +kernel) rfl rfl rfl (by decide +kernel)
set_option maxRecDepth 65536 in
theorem w_c4 : (Jvm.Cond.code ({ cls := "com/example/stackwright/stackwright/dialects/WordInstruction", name := "supported", desc := "()Z" } : Jvm.MethodName) prog_31_method_7_code (1 : Nat) (Option.some Jvm.ClassFile.FieldType.boolean)).before args0 about1 = true := code_word (m := ⟨6, 1⟩) (meth := k6m1) (c := k6c1) (by decide +kernel) rfl rfl rfl (by decide +kernel)
def codes1 : List Jvm.Cond := [Jvm.Cond.code x code maxLocals ret, Jvm.Cond.code ({ cls := "com/example/stackwright/stackwright/dialects/WordInstruction", name := "byCode", desc := "(I)Lcom/example/stackwright/stackwright/dialects/WordInstruction;" } : Jvm.MethodName) prog_31_method_10_code (1 : Nat) (Option.some (Jvm.ClassFile.FieldType.object "com/example/stackwright/stackwright/dialects/WordInstruction")), Jvm.Cond.code ({ cls := "com/example/stackwright/stackwright/dialects/WordInstruction", name := "code", desc := "()I" } : Jvm.MethodName) prog_31_method_6_code (1 : Nat) (Option.some Jvm.ClassFile.FieldType.int), Jvm.Cond.code ({ cls := "java/lang/Enum", name := "ordinal", desc := "()I" } : Jvm.MethodName) jdk_37_method_2_code (1 : Nat) (Option.some Jvm.ClassFile.FieldType.int), Jvm.Cond.code ({ cls := "com/example/stackwright/stackwright/dialects/WordInstruction", name := "supported", desc := "()Z" } : Jvm.MethodName) prog_31_method_7_code (1 : Nat) (Option.some Jvm.ClassFile.FieldType.boolean)]
set_option maxRecDepth 65536 in
theorem codes_eq : words1.filter isCode = codes1 := rfl
theorem w_codes : ∀ c ∈ words1.filter isCode, c.before args0 about1 = true := by
  rw [codes_eq]
  intro c hc
  simp only [codes1, List.mem_cons, List.not_mem_nil, or_false] at hc
  rcases hc with rfl | rfl | rfl | rfl | rfl
  · exact w_c0
  · exact w_c1
  · exact w_c2
  · exact w_c3
  · exact w_c4
set_option maxRecDepth 65536 in
theorem w_t1 : (words1.take 24).all (fun c => isCode c || c.before args0 about1) = true := by decide +kernel
set_option maxRecDepth 65536 in
theorem w_t2 : ((words1.drop 24).take 24).all (fun c => isCode c || c.before args0 about1) = true := by decide +kernel
set_option maxRecDepth 65536 in
theorem w_t3 : ((words1.drop 24).drop 24).all (fun c => isCode c || c.before args0 about1) = true := by decide +kernel
theorem w_tables : (allAtoms (Jvm.Cond.code x code maxLocals ret :: tables_1)).before args0 about1 = true := by
  rw [allAtoms_all]
  show words1.all (fun c => c.before args0 about1) = true
  refine all_split ?_ w_codes
  rw [← List.take_append_drop 24 words1, List.all_append, w_t1, ← List.take_append_drop 24 (words1.drop 24), List.all_append, w_t2, w_t3]
  rfl
set_option maxRecDepth 65536 in
theorem w_case : (Jvm.Cond.and given_1 narrow_1).before args0 about1 = true := by decide +kernel
theorem w_applies : (headSpec (Jvm.Cond.code x code maxLocals ret :: tables_1) room_1).applies x e0.platform about1 = true :=
  (Spec.applies_iff w_frames).mpr ⟨w_running, w_runnable, w_alone, w_named, w_hears, w_ripe, w_room, w_tables⟩
theorem atStart : AtStart classFile x code maxLocals ret World_1 tables_1 room_1 Calls_1 rest_1 Pre_1 launch0 p0 e0 about1 theMethod args0 below0 :=
  ⟨lists_1, trivial, launch0.admits_env _ _ _, launch0.least_env, fairChoices_fair.cas, fairChoices_fair.clock, w_frames, w_args, w_heap, w_applies, trivial, trivial, w_case⟩
end start1
theorem witness_1 : WitnessClaimed_1 := ⟨start1.p0, start1.e0, start1.about1, start1.theMethod, start1.args0, start1.below0, start1.atStart⟩
end Jvm.Pilot.@@N@@
