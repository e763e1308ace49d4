import JvmDerived
import JvmDerived.Pilot.@@N@@Statement
import JvmDerived.Pilot.@@N@@Code
set_option linter.unusedVariables false
set_option linter.unusedSimpArgs false
namespace Jvm.RoadKit
open Sem ClassFile Op Lib Jvm.Stand Jvm.Free Jvm.LawKit
section New
variable {p : Program} {l : Launch} {e : Env} {R : Room} {s : State} {m : MethodId} {args : Array Value} {below : List Frame} {meth : Method} {c : Code} {T : State} {locs : List Loc} {cells slots : Nat}
theorem retI (X : Stand p l e R s m args below meth c T locs cells slots) (hx : p.tables.exec = Jvm.exec) {pc : Nat} {Ls : Array Slot} {z : Int32} {rest : List Value} (hret : meth.sig.returnType = some .int) (hd : decode c.code pc = .ok (.ireturn, 1)) {fs : List Frame}
    (hl : ∀ (f : JFrame) (acts : List Action), f.method = m → f.locked = none → f.entered = [] → (doReturn e (T.setTop f) acts (some (.int z))).1 = T.setFrames fs) : Steps p.tables e below (T.setTop (mkF m pc Ls (.int z :: rest))) (T.setFrames fs) := by
  have hm' : T.vm.method? m = some meth := X.method'
  have hn : narrow .int (.int z) = .int z := rfl
  show Steps p.tables e below (T.setTop { method := m, pc := pc, locals := Ls, stack := _ :: rest, locked := none }) _
  jvm_step X.here [X.here.top, hx, hd, hm', hret, hn]
  first | (intro acts; rw [hl _ acts rfl rfl rfl]) | rw [hl _ _ rfl rfl rfl]
  exact Steps.refl _
end New
end Jvm.RoadKit
namespace Jvm.Pilot.@@N@@
open Jvm Jvm.ClassFile Sem Op Lib Jvm.Free Jvm.Stand Jvm.LawKit Jvm.RoadKit Bundle Jvm.Pilot.@@N@@.Jvm.D
theorem pn_0 : plainName "java/lang/Record" = true := by first | (simp [plainName, overriddenIn]; done) | decide +kernel
theorem d2_0 : decode jdk_30_method_1_code 0 = .ok (.aload_n 0, 1) := by decide +kernel
theorem d2_1 : decode jdk_30_method_1_code 1 = .ok (.invokespecial 1, 3) := by decide +kernel
theorem d2_4 : decode jdk_30_method_1_code 4 = .ok (.return_, 1) := by decide +kernel
theorem ef_2 (m : MethodId) (a1 : Addr) : entryFrame m #[(.ref a1)] 1 = mkF m 0 #[.val (.ref a1)] [] := by first | (simp [entryFrame, mkF, argsToLocals, Value.category]; done) | rfl
def Q2 (Z : State) (a1 : Addr) (h0 : Heap) (n0 : Nat) (v : Option Value) (h : Heap) (L : List Loc) : Prop := v = none ∧ Fr n0 L ∧ h = h0
set_option maxRecDepth 65536 in
set_option maxHeartbeats 40000000 in
theorem rm2 (l : Launch) (Z : State) (a0 : Array Value) (hw : ∀ d ∈ tables_1, d.before a0 Z = true) (ws : List Jvm.Cond) (a1 : Addr) (h0 : Heap) (n0 : Nat) (Z0 : n0 ≤ h0.size)  :
    MetFree l (⟨"java/lang/Record", "<init>", "()V"⟩ : MethodName) (head1 (Jvm.Cond.code (⟨"java/lang/Record", "<init>", "()V"⟩ : MethodName) jdk_30_method_1_code 1 none :: ws) ({ frames := 1, cells := 0, slots := 0, locals := 12 } : Room)) (fun a U => a = #[(.ref a1)] ∧ Z.Warmed39 U.vm ∧ U.heap = h0) (fun _ _ _ _ _ => True) (fun _ U o U' => ∃ v L, o = .returned v ∧ Q2 Z a1 h0 n0 v U'.heap L ∧ FrameEnd U o U' L ({ frames := 1, cells := 0, slots := 0, locals := 12 } : Room).cells ({ frames := 1, cells := 0, slots := 0, locals := 12 } : Room).slots) := by
  refine MetFree.of_bodySF (plainFor_of_name pn_0) hisR ?_
  intro p e s m args below meth c s₁ Bd hml0 hP hK
  obtain ⟨rfl, hZ, hh⟩ := hP
  have hx := Bd.exec
  have hby := Bd.bytes
  have hml : c.maxLocals = 1 := hml0
  have hown : s.vm.findClass "java/lang/Record" = some m.cls := findClass_of_methodNamed Bd.named
  have hnm := (name_of_methodNamed Bd.named Bd.method).1
  have X0 : Stand p l e ({ frames := 1, cells := 0, slots := 0, locals := 12 } : Room) s m #[(.ref a1)] below meth c s₁ [] 0 0 := Stand.of_body Bd
  have e0 : s₁.heap = h0 := by rw [← hh, Bd.state]; rfl
  have N0 := Fr.nil n0
  have pre0 : ∀ t, Steps p.tables e below (s₁.setTop (mkF m 0 #[.val (.ref a1)] [])) t → Steps p.tables e below (s₁.setTop (entryFrame m #[(.ref a1)] 1)) t := fun t k => castTop (ef_2 m a1) k
  obtain ⟨T1, X1, e1, st1⟩ := initO X0 hx hZ hown (hw _ (List.mem_of_getElem? (i := 13) rfl)) (hw _ (List.mem_of_getElem? (i := 14) rfl)) (hw _ (List.mem_of_getElem? (i := 15) rfl)) e0 (g := (mkF m 1 #[.val (.ref a1)] [(.ref a1)])) rfl (by rw [hml]; rfl) rfl (hb hby d2_1) (by decide) (W := 0) (by show 2 * 0 + _ ≤ _; exact Nat.le_of_eq rfl) (by decide)
  obtain ⟨fs, hr, hrun, hended, hW, hsame⟩ := X1.leave (v := none) (fun _ => rfl)
  refine ⟨_, _, pre0 _ ?_, hrun, hended, _, _, rfl, ?_, ⟨_, rfl⟩, hW, hsame.mono (by decide) (by decide)⟩
  · show Steps p.tables e below (s₁.setTop (mkF m 0 #[.val (.ref a1)] [])) _
    refine XS.aloadN X0.here hx rfl (hb hby d2_0) rfl rfl ?_
    show Steps p.tables e below (s₁.setTop (mkF m 1 #[.val (.ref a1)] [(.ref a1)])) _
    refine st1 _ ?_
    show Steps p.tables e below (T1.setTop (mkF m 4 #[.val (.ref a1)] [])) _
    exact X1.returnOut hx Bd.returns (hb hby d2_4) hr
  · show Q2 Z a1 h0 n0 _ T1.heap _
    rw [e1]
    exact ⟨rfl, N0, rfl⟩
theorem pn_1 : plainName "com/example/tapewire/tapewire/protocol/WebSocket$Frame" = true := by first | (simp [plainName, overriddenIn]; done) | decide +kernel
theorem d1_0 : decode prog_97_method_1_code 0 = .ok (.aload_n 0, 1) := by decide +kernel
theorem d1_1 : decode prog_97_method_1_code 1 = .ok (.invokespecial 1, 3) := by decide +kernel
theorem pd_0 : parseMethodDescriptor "()V" = some ⟨[], none⟩ := by decide +kernel
theorem d1_4 : decode prog_97_method_1_code 4 = .ok (.aload_n 0, 1) := by decide +kernel
theorem d1_5 : decode prog_97_method_1_code 5 = .ok (.iload_n 1, 1) := by decide +kernel
theorem d1_6 : decode prog_97_method_1_code 6 = .ok (.putfield 7, 3) := by decide +kernel
theorem d1_9 : decode prog_97_method_1_code 9 = .ok (.aload_n 0, 1) := by decide +kernel
theorem d1_10 : decode prog_97_method_1_code 10 = .ok (.aload_n 2, 1) := by decide +kernel
theorem d1_11 : decode prog_97_method_1_code 11 = .ok (.putfield 13, 3) := by decide +kernel
theorem d1_14 : decode prog_97_method_1_code 14 = .ok (.return_, 1) := by decide +kernel
theorem ef_1 (m : MethodId) (a1 : Addr) (p1 : Int32) (a2 : Addr) : entryFrame m #[(.ref a1), (.int p1), (.ref a2)] 3 = mkF m 0 #[.val (.ref a1), .val (.int p1), .val (.ref a2)] [] := by first | (simp [entryFrame, mkF, argsToLocals, Value.category]; done) | rfl
def Q1 (Z : State) (a1 : Addr) (p1 : Int32) (a2 : Addr) (h0 : Heap) (n0 : Nat) (v : Option Value) (h : Heap) (L : List Loc) : Prop := v = none ∧ Fr n0 L ∧ Keep h0 h [a1] ∧ Exa Z h a1 "com/example/tapewire/tapewire/protocol/WebSocket$Frame" ∧ Fld Z h a1 "com/example/tapewire/tapewire/protocol/WebSocket$Frame" "opcode" "I" (.int p1) ∧ Fld Z h a1 "com/example/tapewire/tapewire/protocol/WebSocket$Frame" "payload" "[B" (.ref a2)
set_option maxRecDepth 65536 in
set_option maxHeartbeats 40000000 in
theorem rm1 (l : Launch) (Z : State) (a0 : Array Value) (hw : ∀ d ∈ tables_1, d.before a0 Z = true) (ws : List Jvm.Cond) (a1 : Addr) (p1 : Int32) (a2 : Addr) (h0 : Heap) (n0 : Nat) (Z0 : n0 ≤ h0.size) (HE0 : Exa Z h0 a1 "com/example/tapewire/tapewire/protocol/WebSocket$Frame") (Hg1 : n0 ≤ a1) (HF2 : Fld Z h0 a1 "com/example/tapewire/tapewire/protocol/WebSocket$Frame" "opcode" "I" (.int (0 : Int32))) (HF3 : Fld Z h0 a1 "com/example/tapewire/tapewire/protocol/WebSocket$Frame" "payload" "[B" .null) :
    MetFree l (⟨"com/example/tapewire/tapewire/protocol/WebSocket$Frame", "<init>", "(I[B)V"⟩ : MethodName) (head1 (Jvm.Cond.code (⟨"com/example/tapewire/tapewire/protocol/WebSocket$Frame", "<init>", "(I[B)V"⟩ : MethodName) prog_97_method_1_code 3 none :: ws) ({ frames := 2, cells := 0, slots := 0, locals := 24 } : Room)) (fun a U => a = #[(.ref a1), (.int p1), (.ref a2)] ∧ Z.Warmed39 U.vm ∧ U.heap = h0) (fun _ _ _ _ _ => True) (fun _ U o U' => ∃ v L, o = .returned v ∧ Q1 Z a1 p1 a2 h0 n0 v U'.heap L ∧ FrameEnd U o U' L ({ frames := 2, cells := 0, slots := 0, locals := 24 } : Room).cells ({ frames := 2, cells := 0, slots := 0, locals := 24 } : Room).slots) := by
  refine MetFree.of_bodySF (plainFor_of_name pn_1) hisR ?_
  intro p e s m args below meth c s₁ Bd hml0 hP hK
  obtain ⟨rfl, hZ, hh⟩ := hP
  have hx := Bd.exec
  have hby := Bd.bytes
  have hml : c.maxLocals = 3 := hml0
  have hown : s.vm.findClass "com/example/tapewire/tapewire/protocol/WebSocket$Frame" = some m.cls := findClass_of_methodNamed Bd.named
  have hnm := (name_of_methodNamed Bd.named Bd.method).1
  have X0 : Stand p l e ({ frames := 2, cells := 0, slots := 0, locals := 24 } : Room) s m #[(.ref a1), (.int p1), (.ref a2)] below meth c s₁ [] 0 0 := Stand.of_body Bd
  have e0 : s₁.heap = h0 := by rw [← hh, Bd.state]; rfl
  have N0 := Fr.nil n0
  have pre0 : ∀ t, Steps p.tables e below (s₁.setTop (mkF m 0 #[.val (.ref a1), .val (.int p1), .val (.ref a2)] [])) t → Steps p.tables e below (s₁.setTop (entryFrame m #[(.ref a1), (.int p1), (.ref a2)] 3)) t := fun t k => castTop (ef_1 m a1 p1 a2) k
  obtain ⟨_, _, ⟨T1, L1, k1, n1⟩, -, X1, ⟨Lc1, hQ1, l1, y1, z1⟩, st1⟩ := X0.specialBack hx (y := (⟨"java/lang/Record", "<init>", "()V"⟩ : MethodName)) rfl hown (mvT hZ (hw _ (List.mem_of_getElem? (i := 8) rfl))) (mvT hZ (hw _ (List.mem_of_getElem? (i := 9) rfl))) (mvT hZ (hw _ (List.mem_of_getElem? (i := 12) rfl))) (by decide) (backOf (W := 0) (rm2 l Z a0 hw [] a1 h0 n0 Z0 ) hZ (hw _ (List.mem_of_getElem? (i := 12) rfl)) (hw _ (List.mem_of_getElem? (i := 11) rfl)) (by decide) (by decide)) (g := (mkF m 1 #[.val (.ref a1), .val (.int p1), .val (.ref a2)] [(.ref a1)])) rfl (by rw [hml]; rfl) (Steps.refl _) (a := a1) (argsL := []) (rest := []) (lenOf pd_0 rfl) rfl (by show 2 * 0 + _ ≤ _; exact Nat.le_of_eq rfl) (hb hby d1_1) (fun _ _ => ⟨rfl, e0, (by decide : 0 + 0 ≤ _), (by decide : 0 + 0 ≤ _)⟩)
  dsimp only [Pt.U, Pt.locs, Pt.cells, Pt.slots] at X1 l1 y1 z1 st1 hQ1
  subst l1 y1 z1
  obtain ⟨rfl, N1q, R2⟩ := hQ1
  have N1 := Fr.app N0 N1q
  obtain ⟨T3, h3, X3, e3, W3, st3⟩ := putF X1 hx hZ hown (host := "") (Or.inl (hw _ (List.mem_of_getElem? (i := 16) rfl))) Via.refl R2 HF2 HE0 (Or.inr ⟨(hw _ (List.mem_of_getElem? (i := 17) rfl)), rfl, hnm⟩) (hw _ (List.mem_of_getElem? (i := 3) rfl)) (ty := .int) (by decide) rfl rfl (g := (mkF m 6 #[.val (.ref a1), .val (.int p1), .val (.ref a2)] [(.int p1), (.ref a1)])) rfl rfl (hb hby d1_6)
  have Fw3 : Fld Z h3 a1 "com/example/tapewire/tapewire/protocol/WebSocket$Frame" "opcode" "I" (.int p1) := HF2.same W3
  have F4 : Exa Z h3 a1 "com/example/tapewire/tapewire/protocol/WebSocket$Frame" := HE0.wr W3
  have F5 : Fld Z h3 a1 "com/example/tapewire/tapewire/protocol/WebSocket$Frame" "payload" "[B" .null := HF3.other W3 (Or.inr (slot_ne (Or.inr (hw _ (List.mem_of_getElem? (i := 19) rfl))) (Or.inr (hw _ (List.mem_of_getElem? (i := 17) rfl))) (by decide) (t := (.array .byte)) (t' := .int) (by decide) (by decide)))
  have Z6 : n0 ≤ h3.size := Nat.le_trans Z0 (Keep.of_wr W3).1
  have K7 : Keep h0 h3 [a1] := (Keep.refl h0 [a1]).wr W3 (Or.inl (List.mem_of_getElem? (i := 0) rfl))
  have N8 := Fr.snoc X3 N1 Hg1
  obtain ⟨T9, h9, X9, e9, W9, st9⟩ := putF X3 hx hZ hown (host := "") (Or.inl (hw _ (List.mem_of_getElem? (i := 18) rfl))) Via.refl e3 F5 F4 (Or.inr ⟨(hw _ (List.mem_of_getElem? (i := 19) rfl)), rfl, hnm⟩) (hw _ (List.mem_of_getElem? (i := 3) rfl)) (ty := (.array .byte)) (by decide) rfl rfl (g := (mkF m 11 #[.val (.ref a1), .val (.int p1), .val (.ref a2)] [(.ref a2), (.ref a1)])) rfl rfl (hb hby d1_11)
  have Fw9 : Fld Z h9 a1 "com/example/tapewire/tapewire/protocol/WebSocket$Frame" "payload" "[B" (.ref a2) := F5.same W9
  have F10 : Exa Z h9 a1 "com/example/tapewire/tapewire/protocol/WebSocket$Frame" := F4.wr W9
  have F11 : Fld Z h9 a1 "com/example/tapewire/tapewire/protocol/WebSocket$Frame" "opcode" "I" (.int p1) := Fw3.other W9 (Or.inr (slot_ne (Or.inr (hw _ (List.mem_of_getElem? (i := 17) rfl))) (Or.inr (hw _ (List.mem_of_getElem? (i := 19) rfl))) (by decide) (t := .int) (t' := (.array .byte)) (by decide) (by decide)))
  have Z12 : n0 ≤ h9.size := Nat.le_trans Z6 (Keep.of_wr W9).1
  have K13 : Keep h0 h9 [a1] := K7.wr W9 (Or.inl (List.mem_of_getElem? (i := 0) rfl))
  have N14 := Fr.snoc X9 N8 Hg1
  obtain ⟨fs, hr, hrun, hended, hW, hsame⟩ := X9.leave (v := none) (fun _ => rfl)
  refine ⟨_, _, pre0 _ ?_, hrun, hended, _, _, rfl, ?_, ⟨_, rfl⟩, hW, hsame.mono (by decide) (by decide)⟩
  · show Steps p.tables e below (s₁.setTop (mkF m 0 #[.val (.ref a1), .val (.int p1), .val (.ref a2)] [])) _
    refine XS.aloadN X0.here hx rfl (hb hby d1_0) rfl rfl ?_
    show Steps p.tables e below (s₁.setTop (mkF m 1 #[.val (.ref a1), .val (.int p1), .val (.ref a2)] [(.ref a1)])) _
    refine st1.trans ?_
    show Steps p.tables e below (T1.setTop (mkF m 4 #[.val (.ref a1), .val (.int p1), .val (.ref a2)] [])) _
    refine XS.aloadN X1.here hx rfl (hb hby d1_4) rfl rfl ?_
    show Steps p.tables e below (T1.setTop (mkF m 5 #[.val (.ref a1), .val (.int p1), .val (.ref a2)] [(.ref a1)])) _
    refine XS.iloadN X1.here hx rfl (hb hby d1_5) rfl ?_
    show Steps p.tables e below (T1.setTop (mkF m 6 #[.val (.ref a1), .val (.int p1), .val (.ref a2)] [(.int p1), (.ref a1)])) _
    refine st3 _ ?_
    show Steps p.tables e below (T3.setTop (mkF m 9 #[.val (.ref a1), .val (.int p1), .val (.ref a2)] [])) _
    refine XS.aloadN X3.here hx rfl (hb hby d1_9) rfl rfl ?_
    show Steps p.tables e below (T3.setTop (mkF m 10 #[.val (.ref a1), .val (.int p1), .val (.ref a2)] [(.ref a1)])) _
    refine XS.aloadN X3.here hx rfl (hb hby d1_10) rfl rfl ?_
    show Steps p.tables e below (T3.setTop (mkF m 11 #[.val (.ref a1), .val (.int p1), .val (.ref a2)] [(.ref a2), (.ref a1)])) _
    refine st9 _ ?_
    show Steps p.tables e below (T9.setTop (mkF m 14 #[.val (.ref a1), .val (.int p1), .val (.ref a2)] [])) _
    exact X9.returnOut hx Bd.returns (hb hby d1_14) hr
  · show Q1 Z a1 p1 a2 h0 n0 _ T9.heap _
    rw [e9]
    exact ⟨rfl, N14, K13, F10, F11, Fw9⟩
theorem d4_0 : decode prog_97_method_3_code 0 = .ok (.aload_n 0, 1) := by decide +kernel
theorem d4_1 : decode prog_97_method_3_code 1 = .ok (.getfield 13, 3) := by decide +kernel
theorem d4_4 : decode prog_97_method_3_code 4 = .ok (.arraylength, 1) := by decide +kernel
theorem d4_5 : decode prog_97_method_3_code 5 = .ok (.iconst 2, 1) := by decide +kernel
theorem d4_6 : decode prog_97_method_3_code 6 = .ok (.if_icmp .ge 7, 3) := by decide +kernel
theorem d4_9 : decode prog_97_method_3_code 9 = .ok (.iconst 0, 1) := by decide +kernel
theorem d4_10 : decode prog_97_method_3_code 10 = .ok (.goto 27, 3) := by decide +kernel
theorem d4_37 : decode prog_97_method_3_code 37 = .ok (.ireturn, 1) := by decide +kernel
theorem ef_4_0 (m : MethodId) (a1 : Addr) : entryFrame m #[(.ref a1)] 1 = mkF m 0 #[.val (.ref a1)] [] := by first | (simp [entryFrame, mkF, argsToLocals, Value.category]; done) | rfl
def Q4_0 (Z : State) (a1 : Addr) (a2 : Addr) (kk : ClassId) (h0 : Heap) (n0 : Nat) (v : Option Value) (h : Heap) (L : List Loc) : Prop := v = some (.int (0 : Int32)) ∧ Fr n0 L ∧ h = h0
set_option maxRecDepth 65536 in
set_option maxHeartbeats 40000000 in
theorem rm4_0 (l : Launch) (Z : State) (a0 : Array Value) (hw : ∀ d ∈ tables_1, d.before a0 Z = true) (ws : List Jvm.Cond) (a1 : Addr) (a2 : Addr) (kk : ClassId) (h0 : Heap) (n0 : Nat) (Z0 : n0 ≤ h0.size) (HF0 : Fld Z h0 a1 "com/example/tapewire/tapewire/protocol/WebSocket$Frame" "payload" "[B" (.ref a2)) (HV1 : Arv Z h0 a2 kk .byte (0 : Int32) [] (.int (0 : Int32))) :
    MetFree l (⟨"com/example/tapewire/tapewire/protocol/WebSocket$Frame", "closeCode", "()I"⟩ : MethodName) (head1 (Jvm.Cond.code (⟨"com/example/tapewire/tapewire/protocol/WebSocket$Frame", "closeCode", "()I"⟩ : MethodName) prog_97_method_3_code 1 (some .int) :: ws) ({ frames := 0, cells := 0, slots := 0, locals := 0 } : Room)) (fun a U => a = #[(.ref a1)] ∧ Z.Warmed39 U.vm ∧ U.heap = h0) (fun _ _ _ _ _ => True) (fun _ U o U' => ∃ v L, o = .returned v ∧ Q4_0 Z a1 a2 kk h0 n0 v U'.heap L ∧ FrameEnd U o U' L ({ frames := 0, cells := 0, slots := 0, locals := 0 } : Room).cells ({ frames := 0, cells := 0, slots := 0, locals := 0 } : Room).slots) := by
  refine MetFree.of_bodySF (plainFor_of_name pn_1) hisR ?_
  intro p e s m args below meth c s₁ Bd hml0 hP hK
  obtain ⟨rfl, hZ, hh⟩ := hP
  have hx := Bd.exec
  have hby := Bd.bytes
  have hml : c.maxLocals = 1 := hml0
  have hown : s.vm.findClass "com/example/tapewire/tapewire/protocol/WebSocket$Frame" = some m.cls := findClass_of_methodNamed Bd.named
  have hnm := (name_of_methodNamed Bd.named Bd.method).1
  have X0 : Stand p l e ({ frames := 0, cells := 0, slots := 0, locals := 0 } : Room) s m #[(.ref a1)] below meth c s₁ [] 0 0 := Stand.of_body Bd
  have e0 : s₁.heap = h0 := by rw [← hh, Bd.state]; rfl
  have N0 := Fr.nil n0
  have pre0 : ∀ t, Steps p.tables e below (s₁.setTop (mkF m 0 #[.val (.ref a1)] [])) t → Steps p.tables e below (s₁.setTop (entryFrame m #[(.ref a1)] 1)) t := fun t k => castTop (ef_4_0 m a1) k
  obtain ⟨T1, X1, e1, st1⟩ := getF X0 hx hZ hown (host := "") (Or.inl (hw _ (List.mem_of_getElem? (i := 18) rfl))) Via.refl e0 HF0 (g := (mkF m 1 #[.val (.ref a1)] [(.ref a1)])) rfl rfl (hb hby d4_1)
  obtain ⟨co2, Ao2, qo2, So2, Mo2, Bo2, Go2⟩ := id HV1
  obtain ⟨fs, hr, hrun, hended, hW, hsame⟩ := X1.leave (v := some (.int (0 : Int32))) (fun h => by rw [Bd.returns] at h; cases h)
  refine ⟨_, _, pre0 _ ?_, hrun, hended, _, _, rfl, ?_, ⟨_, rfl⟩, hW, hsame.mono (by decide) (by decide)⟩
  · show Steps p.tables e below (s₁.setTop (mkF m 0 #[.val (.ref a1)] [])) _
    refine XS.aloadN X0.here hx rfl (hb hby d4_0) rfl rfl ?_
    show Steps p.tables e below (s₁.setTop (mkF m 1 #[.val (.ref a1)] [(.ref a1)])) _
    refine st1 _ ?_
    show Steps p.tables e below (T1.setTop (mkF m 4 #[.val (.ref a1)] [(.ref a2)])) _
    refine X1.arraylength hx (by rw [e1]; exact Ao2.1) (State.isArrayOf_alike hZ.alike Ao2.2.1) (g := (mkF m 4 #[.val (.ref a1)] [(.ref a2)])) rfl rfl (hb hby d4_4) _ ?_
    rw [len_of So2 Mo2]
    show Steps p.tables e below (T1.setTop (mkF m 5 #[.val (.ref a1)] [(.int (0 : Int32))])) _
    refine XS.iconst X1.here hx rfl (hb hby d4_5) ?_
    show Steps p.tables e below (T1.setTop (mkF m 6 #[.val (.ref a1)] [(.int (2 : Int32)), (.int (0 : Int32))])) _
    refine XS.icmpNo X1.here hx rfl (hb hby d4_6) rfl (tlt (by decide : (0 : Int32) < (2 : Int32))).2.1 ?_
    show Steps p.tables e below (T1.setTop (mkF m 9 #[.val (.ref a1)] [])) _
    refine XS.iconst X1.here hx rfl (hb hby d4_9) ?_
    show Steps p.tables e below (T1.setTop (mkF m 10 #[.val (.ref a1)] [(.int (0 : Int32))])) _
    refine XS.goto X1.here hx rfl (pc0 := 10) (pc' := 37) rfl (hb hby d4_10) (by decide) (by decide) ?_
    show Steps p.tables e below (T1.setTop (mkF m 37 #[.val (.ref a1)] [(.int (0 : Int32))])) _
    exact retI X1 hx Bd.returns (hb hby d4_37) hr
  · show Q4_0 Z a1 a2 kk h0 n0 _ T1.heap _
    rw [e1]
    exact ⟨rfl, N0, rfl⟩
theorem ef_4_1 (m : MethodId) (a1 : Addr) : entryFrame m #[(.ref a1)] 1 = mkF m 0 #[.val (.ref a1)] [] := by first | (simp [entryFrame, mkF, argsToLocals, Value.category]; done) | rfl
def Q4_1 (Z : State) (a1 : Addr) (a2 : Addr) (kk : ClassId) (w0 : Int32) (h0 : Heap) (n0 : Nat) (v : Option Value) (h : Heap) (L : List Loc) : Prop := v = some (.int (0 : Int32)) ∧ Fr n0 L ∧ h = h0
set_option maxRecDepth 65536 in
set_option maxHeartbeats 40000000 in
theorem rm4_1 (l : Launch) (Z : State) (a0 : Array Value) (hw : ∀ d ∈ tables_1, d.before a0 Z = true) (ws : List Jvm.Cond) (a1 : Addr) (a2 : Addr) (kk : ClassId) (w0 : Int32) (h0 : Heap) (n0 : Nat) (Z0 : n0 ≤ h0.size) (HF0 : Fld Z h0 a1 "com/example/tapewire/tapewire/protocol/WebSocket$Frame" "payload" "[B" (.ref a2)) (HV1 : Arv Z h0 a2 kk .byte (1 : Int32) [(.int w0)] (.int (0 : Int32))) :
    MetFree l (⟨"com/example/tapewire/tapewire/protocol/WebSocket$Frame", "closeCode", "()I"⟩ : MethodName) (head1 (Jvm.Cond.code (⟨"com/example/tapewire/tapewire/protocol/WebSocket$Frame", "closeCode", "()I"⟩ : MethodName) prog_97_method_3_code 1 (some .int) :: ws) ({ frames := 0, cells := 0, slots := 0, locals := 0 } : Room)) (fun a U => a = #[(.ref a1)] ∧ Z.Warmed39 U.vm ∧ U.heap = h0) (fun _ _ _ _ _ => True) (fun _ U o U' => ∃ v L, o = .returned v ∧ Q4_1 Z a1 a2 kk w0 h0 n0 v U'.heap L ∧ FrameEnd U o U' L ({ frames := 0, cells := 0, slots := 0, locals := 0 } : Room).cells ({ frames := 0, cells := 0, slots := 0, locals := 0 } : Room).slots) := by
  refine MetFree.of_bodySF (plainFor_of_name pn_1) hisR ?_
  intro p e s m args below meth c s₁ Bd hml0 hP hK
  obtain ⟨rfl, hZ, hh⟩ := hP
  have hx := Bd.exec
  have hby := Bd.bytes
  have hml : c.maxLocals = 1 := hml0
  have hown : s.vm.findClass "com/example/tapewire/tapewire/protocol/WebSocket$Frame" = some m.cls := findClass_of_methodNamed Bd.named
  have hnm := (name_of_methodNamed Bd.named Bd.method).1
  have X0 : Stand p l e ({ frames := 0, cells := 0, slots := 0, locals := 0 } : Room) s m #[(.ref a1)] below meth c s₁ [] 0 0 := Stand.of_body Bd
  have e0 : s₁.heap = h0 := by rw [← hh, Bd.state]; rfl
  have N0 := Fr.nil n0
  have pre0 : ∀ t, Steps p.tables e below (s₁.setTop (mkF m 0 #[.val (.ref a1)] [])) t → Steps p.tables e below (s₁.setTop (entryFrame m #[(.ref a1)] 1)) t := fun t k => castTop (ef_4_1 m a1) k
  obtain ⟨T1, X1, e1, st1⟩ := getF X0 hx hZ hown (host := "") (Or.inl (hw _ (List.mem_of_getElem? (i := 18) rfl))) Via.refl e0 HF0 (g := (mkF m 1 #[.val (.ref a1)] [(.ref a1)])) rfl rfl (hb hby d4_1)
  obtain ⟨co2, Ao2, qo2, So2, Mo2, Bo2, Go2⟩ := id HV1
  obtain ⟨fs, hr, hrun, hended, hW, hsame⟩ := X1.leave (v := some (.int (0 : Int32))) (fun h => by rw [Bd.returns] at h; cases h)
  refine ⟨_, _, pre0 _ ?_, hrun, hended, _, _, rfl, ?_, ⟨_, rfl⟩, hW, hsame.mono (by decide) (by decide)⟩
  · show Steps p.tables e below (s₁.setTop (mkF m 0 #[.val (.ref a1)] [])) _
    refine XS.aloadN X0.here hx rfl (hb hby d4_0) rfl rfl ?_
    show Steps p.tables e below (s₁.setTop (mkF m 1 #[.val (.ref a1)] [(.ref a1)])) _
    refine st1 _ ?_
    show Steps p.tables e below (T1.setTop (mkF m 4 #[.val (.ref a1)] [(.ref a2)])) _
    refine X1.arraylength hx (by rw [e1]; exact Ao2.1) (State.isArrayOf_alike hZ.alike Ao2.2.1) (g := (mkF m 4 #[.val (.ref a1)] [(.ref a2)])) rfl rfl (hb hby d4_4) _ ?_
    rw [len_of So2 Mo2]
    show Steps p.tables e below (T1.setTop (mkF m 5 #[.val (.ref a1)] [(.int (1 : Int32))])) _
    refine XS.iconst X1.here hx rfl (hb hby d4_5) ?_
    show Steps p.tables e below (T1.setTop (mkF m 6 #[.val (.ref a1)] [(.int (2 : Int32)), (.int (1 : Int32))])) _
    refine XS.icmpNo X1.here hx rfl (hb hby d4_6) rfl (tlt (by decide : (1 : Int32) < (2 : Int32))).2.1 ?_
    show Steps p.tables e below (T1.setTop (mkF m 9 #[.val (.ref a1)] [])) _
    refine XS.iconst X1.here hx rfl (hb hby d4_9) ?_
    show Steps p.tables e below (T1.setTop (mkF m 10 #[.val (.ref a1)] [(.int (0 : Int32))])) _
    refine XS.goto X1.here hx rfl (pc0 := 10) (pc' := 37) rfl (hb hby d4_10) (by decide) (by decide) ?_
    show Steps p.tables e below (T1.setTop (mkF m 37 #[.val (.ref a1)] [(.int (0 : Int32))])) _
    exact retI X1 hx Bd.returns (hb hby d4_37) hr
  · show Q4_1 Z a1 a2 kk w0 h0 n0 _ T1.heap _
    rw [e1]
    exact ⟨rfl, N0, rfl⟩
theorem d4_13 : decode prog_97_method_3_code 13 = .ok (.aload_n 0, 1) := by decide +kernel
theorem d4_14 : decode prog_97_method_3_code 14 = .ok (.getfield 13, 3) := by decide +kernel
theorem d4_17 : decode prog_97_method_3_code 17 = .ok (.iconst 0, 1) := by decide +kernel
theorem d4_18 : decode prog_97_method_3_code 18 = .ok (.baload, 1) := by decide +kernel
theorem d4_19 : decode prog_97_method_3_code 19 = .ok (.sipush 255, 3) := by decide +kernel
theorem d4_22 : decode prog_97_method_3_code 22 = .ok (.iand, 1) := by decide +kernel
theorem d4_23 : decode prog_97_method_3_code 23 = .ok (.bipush 8, 2) := by decide +kernel
theorem d4_25 : decode prog_97_method_3_code 25 = .ok (.ishl, 1) := by decide +kernel
theorem d4_26 : decode prog_97_method_3_code 26 = .ok (.aload_n 0, 1) := by decide +kernel
theorem d4_27 : decode prog_97_method_3_code 27 = .ok (.getfield 13, 3) := by decide +kernel
theorem d4_30 : decode prog_97_method_3_code 30 = .ok (.iconst 1, 1) := by decide +kernel
theorem d4_31 : decode prog_97_method_3_code 31 = .ok (.baload, 1) := by decide +kernel
theorem d4_32 : decode prog_97_method_3_code 32 = .ok (.sipush 255, 3) := by decide +kernel
theorem d4_35 : decode prog_97_method_3_code 35 = .ok (.iand, 1) := by decide +kernel
theorem d4_36 : decode prog_97_method_3_code 36 = .ok (.ior, 1) := by decide +kernel
theorem ef_4_2 (m : MethodId) (a1 : Addr) : entryFrame m #[(.ref a1)] 1 = mkF m 0 #[.val (.ref a1)] [] := by first | (simp [entryFrame, mkF, argsToLocals, Value.category]; done) | rfl
def Q4_2 (Z : State) (a1 : Addr) (a2 : Addr) (kk : ClassId) (w0 : Int32) (w1 : Int32) (h0 : Heap) (n0 : Nat) (v : Option Value) (h : Heap) (L : List Loc) : Prop := v = some (.int (((w0 &&& (255 : Int32)) <<< ((8 : Int32) &&& 31)) ||| (w1 &&& (255 : Int32)))) ∧ Fr n0 L ∧ h = h0
set_option maxRecDepth 65536 in
set_option maxHeartbeats 40000000 in
theorem rm4_2 (l : Launch) (Z : State) (a0 : Array Value) (hw : ∀ d ∈ tables_1, d.before a0 Z = true) (ws : List Jvm.Cond) (a1 : Addr) (a2 : Addr) (kk : ClassId) (w0 : Int32) (w1 : Int32) (h0 : Heap) (n0 : Nat) (Z0 : n0 ≤ h0.size) (HF0 : Fld Z h0 a1 "com/example/tapewire/tapewire/protocol/WebSocket$Frame" "payload" "[B" (.ref a2)) (HV1 : Arv Z h0 a2 kk .byte (2 : Int32) [(.int w0), (.int w1)] (.int (0 : Int32))) :
    MetFree l (⟨"com/example/tapewire/tapewire/protocol/WebSocket$Frame", "closeCode", "()I"⟩ : MethodName) (head1 (Jvm.Cond.code (⟨"com/example/tapewire/tapewire/protocol/WebSocket$Frame", "closeCode", "()I"⟩ : MethodName) prog_97_method_3_code 1 (some .int) :: ws) ({ frames := 0, cells := 0, slots := 0, locals := 0 } : Room)) (fun a U => a = #[(.ref a1)] ∧ Z.Warmed39 U.vm ∧ U.heap = h0) (fun _ _ _ _ _ => True) (fun _ U o U' => ∃ v L, o = .returned v ∧ Q4_2 Z a1 a2 kk w0 w1 h0 n0 v U'.heap L ∧ FrameEnd U o U' L ({ frames := 0, cells := 0, slots := 0, locals := 0 } : Room).cells ({ frames := 0, cells := 0, slots := 0, locals := 0 } : Room).slots) := by
  refine MetFree.of_bodySF (plainFor_of_name pn_1) hisR ?_
  intro p e s m args below meth c s₁ Bd hml0 hP hK
  obtain ⟨rfl, hZ, hh⟩ := hP
  have hx := Bd.exec
  have hby := Bd.bytes
  have hml : c.maxLocals = 1 := hml0
  have hown : s.vm.findClass "com/example/tapewire/tapewire/protocol/WebSocket$Frame" = some m.cls := findClass_of_methodNamed Bd.named
  have hnm := (name_of_methodNamed Bd.named Bd.method).1
  have X0 : Stand p l e ({ frames := 0, cells := 0, slots := 0, locals := 0 } : Room) s m #[(.ref a1)] below meth c s₁ [] 0 0 := Stand.of_body Bd
  have e0 : s₁.heap = h0 := by rw [← hh, Bd.state]; rfl
  have N0 := Fr.nil n0
  have pre0 : ∀ t, Steps p.tables e below (s₁.setTop (mkF m 0 #[.val (.ref a1)] [])) t → Steps p.tables e below (s₁.setTop (entryFrame m #[(.ref a1)] 1)) t := fun t k => castTop (ef_4_2 m a1) k
  obtain ⟨T1, X1, e1, st1⟩ := getF X0 hx hZ hown (host := "") (Or.inl (hw _ (List.mem_of_getElem? (i := 18) rfl))) Via.refl e0 HF0 (g := (mkF m 1 #[.val (.ref a1)] [(.ref a1)])) rfl rfl (hb hby d4_1)
  obtain ⟨co2, Ao2, qo2, So2, Mo2, Bo2, Go2⟩ := id HV1
  obtain ⟨T3, X3, e3, st3⟩ := getF X1 hx hZ hown (host := "") (Or.inl (hw _ (List.mem_of_getElem? (i := 18) rfl))) Via.refl e1 HF0 (g := (mkF m 14 #[.val (.ref a1)] [(.ref a1)])) rfl rfl (hb hby d4_14)
  obtain ⟨co4, Ao4, qo4, So4, Mo4, Bo4, Go4⟩ := id HV1
  obtain ⟨T5, X5, e5, st5⟩ := getF X3 hx hZ hown (host := "") (Or.inl (hw _ (List.mem_of_getElem? (i := 18) rfl))) Via.refl e3 HF0 (g := (mkF m 27 #[.val (.ref a1)] [(.ref a1), (.int ((w0 &&& (255 : Int32)) <<< ((8 : Int32) &&& 31)))])) rfl rfl (hb hby d4_27)
  obtain ⟨co6, Ao6, qo6, So6, Mo6, Bo6, Go6⟩ := id HV1
  obtain ⟨fs, hr, hrun, hended, hW, hsame⟩ := X5.leave (v := some (.int (((w0 &&& (255 : Int32)) <<< ((8 : Int32) &&& 31)) ||| (w1 &&& (255 : Int32))))) (fun h => by rw [Bd.returns] at h; cases h)
  refine ⟨_, _, pre0 _ ?_, hrun, hended, _, _, rfl, ?_, ⟨_, rfl⟩, hW, hsame.mono (by decide) (by decide)⟩
  · show Steps p.tables e below (s₁.setTop (mkF m 0 #[.val (.ref a1)] [])) _
    refine XS.aloadN X0.here hx rfl (hb hby d4_0) rfl rfl ?_
    show Steps p.tables e below (s₁.setTop (mkF m 1 #[.val (.ref a1)] [(.ref a1)])) _
    refine st1 _ ?_
    show Steps p.tables e below (T1.setTop (mkF m 4 #[.val (.ref a1)] [(.ref a2)])) _
    refine X1.arraylength hx (by rw [e1]; exact Ao2.1) (State.isArrayOf_alike hZ.alike Ao2.2.1) (g := (mkF m 4 #[.val (.ref a1)] [(.ref a2)])) rfl rfl (hb hby d4_4) _ ?_
    rw [len_of So2 Mo2]
    show Steps p.tables e below (T1.setTop (mkF m 5 #[.val (.ref a1)] [(.int (2 : Int32))])) _
    refine XS.iconst X1.here hx rfl (hb hby d4_5) ?_
    show Steps p.tables e below (T1.setTop (mkF m 6 #[.val (.ref a1)] [(.int (2 : Int32)), (.int (2 : Int32))])) _
    refine XS.icmpYes X1.here hx rfl (pc0 := 6) (pc' := 13) rfl (hb hby d4_6) rfl (flt (by decide : ¬ ((2 : Int32) < (2 : Int32)))).2.1 (by decide) (by decide) ?_
    show Steps p.tables e below (T1.setTop (mkF m 13 #[.val (.ref a1)] [])) _
    refine XS.aloadN X1.here hx rfl (hb hby d4_13) rfl rfl ?_
    show Steps p.tables e below (T1.setTop (mkF m 14 #[.val (.ref a1)] [(.ref a1)])) _
    refine st3 _ ?_
    show Steps p.tables e below (T3.setTop (mkF m 17 #[.val (.ref a1)] [(.ref a2)])) _
    refine XS.iconst X3.here hx rfl (hb hby d4_17) ?_
    show Steps p.tables e below (T3.setTop (mkF m 18 #[.val (.ref a1)] [(.int (0 : Int32)), (.ref a2)])) _
    refine X3.baloadBytes hx (j := (0 : Int32)) (v := (.int w0)) (by rw [e3]; exact Ao4.1) (State.isArrayOf_alike hZ.alike Ao4.2.1) Ao4.2.2 (inb_of So4 ⟨(by decide), (by decide)⟩) (Has.at Bo4 (inb_of So4 ⟨(by decide), (by decide)⟩) rfl) (g := (mkF m 18 #[.val (.ref a1)] [(.int (0 : Int32)), (.ref a2)])) rfl rfl (hb hby d4_18) _ ?_
    show Steps p.tables e below (T3.setTop (mkF m 19 #[.val (.ref a1)] [(.int w0)])) _
    refine XS.sipush X3.here hx rfl (hb hby d4_19) ?_
    show Steps p.tables e below (T3.setTop (mkF m 22 #[.val (.ref a1)] [(.int (255 : Int32)), (.int w0)])) _
    refine XS.iand X3.here hx rfl (hb hby d4_22) rfl ?_
    show Steps p.tables e below (T3.setTop (mkF m 23 #[.val (.ref a1)] [(.int (w0 &&& (255 : Int32)))])) _
    refine XS.bipush X3.here hx rfl (hb hby d4_23) ?_
    show Steps p.tables e below (T3.setTop (mkF m 25 #[.val (.ref a1)] [(.int (8 : Int32)), (.int (w0 &&& (255 : Int32)))])) _
    refine XS.ishl X3.here hx rfl (hb hby d4_25) rfl ?_
    show Steps p.tables e below (T3.setTop (mkF m 26 #[.val (.ref a1)] [(.int ((w0 &&& (255 : Int32)) <<< ((8 : Int32) &&& 31)))])) _
    refine XS.aloadN X3.here hx rfl (hb hby d4_26) rfl rfl ?_
    show Steps p.tables e below (T3.setTop (mkF m 27 #[.val (.ref a1)] [(.ref a1), (.int ((w0 &&& (255 : Int32)) <<< ((8 : Int32) &&& 31)))])) _
    refine st5 _ ?_
    show Steps p.tables e below (T5.setTop (mkF m 30 #[.val (.ref a1)] [(.ref a2), (.int ((w0 &&& (255 : Int32)) <<< ((8 : Int32) &&& 31)))])) _
    refine XS.iconst X5.here hx rfl (hb hby d4_30) ?_
    show Steps p.tables e below (T5.setTop (mkF m 31 #[.val (.ref a1)] [(.int (1 : Int32)), (.ref a2), (.int ((w0 &&& (255 : Int32)) <<< ((8 : Int32) &&& 31)))])) _
    refine X5.baloadBytes hx (j := (1 : Int32)) (v := (.int w1)) (by rw [e5]; exact Ao6.1) (State.isArrayOf_alike hZ.alike Ao6.2.1) Ao6.2.2 (inb_of So6 ⟨(by decide), (by decide)⟩) (Has.at Bo6 (inb_of So6 ⟨(by decide), (by decide)⟩) rfl) (g := (mkF m 31 #[.val (.ref a1)] [(.int (1 : Int32)), (.ref a2), (.int ((w0 &&& (255 : Int32)) <<< ((8 : Int32) &&& 31)))])) rfl rfl (hb hby d4_31) _ ?_
    show Steps p.tables e below (T5.setTop (mkF m 32 #[.val (.ref a1)] [(.int w1), (.int ((w0 &&& (255 : Int32)) <<< ((8 : Int32) &&& 31)))])) _
    refine XS.sipush X5.here hx rfl (hb hby d4_32) ?_
    show Steps p.tables e below (T5.setTop (mkF m 35 #[.val (.ref a1)] [(.int (255 : Int32)), (.int w1), (.int ((w0 &&& (255 : Int32)) <<< ((8 : Int32) &&& 31)))])) _
    refine XS.iand X5.here hx rfl (hb hby d4_35) rfl ?_
    show Steps p.tables e below (T5.setTop (mkF m 36 #[.val (.ref a1)] [(.int (w1 &&& (255 : Int32))), (.int ((w0 &&& (255 : Int32)) <<< ((8 : Int32) &&& 31)))])) _
    refine XS.ior X5.here hx rfl (hb hby d4_36) rfl ?_
    show Steps p.tables e below (T5.setTop (mkF m 37 #[.val (.ref a1)] [(.int (((w0 &&& (255 : Int32)) <<< ((8 : Int32) &&& 31)) ||| (w1 &&& (255 : Int32))))])) _
    exact retI X5 hx Bd.returns (hb hby d4_37) hr
  · show Q4_2 Z a1 a2 kk w0 w1 h0 n0 _ T5.heap _
    rw [e5]
    exact ⟨rfl, N0, rfl⟩
theorem ef_4_3 (m : MethodId) (a1 : Addr) : entryFrame m #[(.ref a1)] 1 = mkF m 0 #[.val (.ref a1)] [] := by first | (simp [entryFrame, mkF, argsToLocals, Value.category]; done) | rfl
def Q4_3 (Z : State) (a1 : Addr) (a2 : Addr) (kk : ClassId) (w0 : Int32) (w1 : Int32) (w2 : Int32) (h0 : Heap) (n0 : Nat) (v : Option Value) (h : Heap) (L : List Loc) : Prop := v = some (.int (((w0 &&& (255 : Int32)) <<< ((8 : Int32) &&& 31)) ||| (w1 &&& (255 : Int32)))) ∧ Fr n0 L ∧ h = h0
set_option maxRecDepth 65536 in
set_option maxHeartbeats 40000000 in
theorem rm4_3 (l : Launch) (Z : State) (a0 : Array Value) (hw : ∀ d ∈ tables_1, d.before a0 Z = true) (ws : List Jvm.Cond) (a1 : Addr) (a2 : Addr) (kk : ClassId) (w0 : Int32) (w1 : Int32) (w2 : Int32) (h0 : Heap) (n0 : Nat) (Z0 : n0 ≤ h0.size) (HF0 : Fld Z h0 a1 "com/example/tapewire/tapewire/protocol/WebSocket$Frame" "payload" "[B" (.ref a2)) (HV1 : Arv Z h0 a2 kk .byte (3 : Int32) [(.int w0), (.int w1), (.int w2)] (.int (0 : Int32))) :
    MetFree l (⟨"com/example/tapewire/tapewire/protocol/WebSocket$Frame", "closeCode", "()I"⟩ : MethodName) (head1 (Jvm.Cond.code (⟨"com/example/tapewire/tapewire/protocol/WebSocket$Frame", "closeCode", "()I"⟩ : MethodName) prog_97_method_3_code 1 (some .int) :: ws) ({ frames := 0, cells := 0, slots := 0, locals := 0 } : Room)) (fun a U => a = #[(.ref a1)] ∧ Z.Warmed39 U.vm ∧ U.heap = h0) (fun _ _ _ _ _ => True) (fun _ U o U' => ∃ v L, o = .returned v ∧ Q4_3 Z a1 a2 kk w0 w1 w2 h0 n0 v U'.heap L ∧ FrameEnd U o U' L ({ frames := 0, cells := 0, slots := 0, locals := 0 } : Room).cells ({ frames := 0, cells := 0, slots := 0, locals := 0 } : Room).slots) := by
  refine MetFree.of_bodySF (plainFor_of_name pn_1) hisR ?_
  intro p e s m args below meth c s₁ Bd hml0 hP hK
  obtain ⟨rfl, hZ, hh⟩ := hP
  have hx := Bd.exec
  have hby := Bd.bytes
  have hml : c.maxLocals = 1 := hml0
  have hown : s.vm.findClass "com/example/tapewire/tapewire/protocol/WebSocket$Frame" = some m.cls := findClass_of_methodNamed Bd.named
  have hnm := (name_of_methodNamed Bd.named Bd.method).1
  have X0 : Stand p l e ({ frames := 0, cells := 0, slots := 0, locals := 0 } : Room) s m #[(.ref a1)] below meth c s₁ [] 0 0 := Stand.of_body Bd
  have e0 : s₁.heap = h0 := by rw [← hh, Bd.state]; rfl
  have N0 := Fr.nil n0
  have pre0 : ∀ t, Steps p.tables e below (s₁.setTop (mkF m 0 #[.val (.ref a1)] [])) t → Steps p.tables e below (s₁.setTop (entryFrame m #[(.ref a1)] 1)) t := fun t k => castTop (ef_4_3 m a1) k
  obtain ⟨T1, X1, e1, st1⟩ := getF X0 hx hZ hown (host := "") (Or.inl (hw _ (List.mem_of_getElem? (i := 18) rfl))) Via.refl e0 HF0 (g := (mkF m 1 #[.val (.ref a1)] [(.ref a1)])) rfl rfl (hb hby d4_1)
  obtain ⟨co2, Ao2, qo2, So2, Mo2, Bo2, Go2⟩ := id HV1
  obtain ⟨T3, X3, e3, st3⟩ := getF X1 hx hZ hown (host := "") (Or.inl (hw _ (List.mem_of_getElem? (i := 18) rfl))) Via.refl e1 HF0 (g := (mkF m 14 #[.val (.ref a1)] [(.ref a1)])) rfl rfl (hb hby d4_14)
  obtain ⟨co4, Ao4, qo4, So4, Mo4, Bo4, Go4⟩ := id HV1
  obtain ⟨T5, X5, e5, st5⟩ := getF X3 hx hZ hown (host := "") (Or.inl (hw _ (List.mem_of_getElem? (i := 18) rfl))) Via.refl e3 HF0 (g := (mkF m 27 #[.val (.ref a1)] [(.ref a1), (.int ((w0 &&& (255 : Int32)) <<< ((8 : Int32) &&& 31)))])) rfl rfl (hb hby d4_27)
  obtain ⟨co6, Ao6, qo6, So6, Mo6, Bo6, Go6⟩ := id HV1
  obtain ⟨fs, hr, hrun, hended, hW, hsame⟩ := X5.leave (v := some (.int (((w0 &&& (255 : Int32)) <<< ((8 : Int32) &&& 31)) ||| (w1 &&& (255 : Int32))))) (fun h => by rw [Bd.returns] at h; cases h)
  refine ⟨_, _, pre0 _ ?_, hrun, hended, _, _, rfl, ?_, ⟨_, rfl⟩, hW, hsame.mono (by decide) (by decide)⟩
  · show Steps p.tables e below (s₁.setTop (mkF m 0 #[.val (.ref a1)] [])) _
    refine XS.aloadN X0.here hx rfl (hb hby d4_0) rfl rfl ?_
    show Steps p.tables e below (s₁.setTop (mkF m 1 #[.val (.ref a1)] [(.ref a1)])) _
    refine st1 _ ?_
    show Steps p.tables e below (T1.setTop (mkF m 4 #[.val (.ref a1)] [(.ref a2)])) _
    refine X1.arraylength hx (by rw [e1]; exact Ao2.1) (State.isArrayOf_alike hZ.alike Ao2.2.1) (g := (mkF m 4 #[.val (.ref a1)] [(.ref a2)])) rfl rfl (hb hby d4_4) _ ?_
    rw [len_of So2 Mo2]
    show Steps p.tables e below (T1.setTop (mkF m 5 #[.val (.ref a1)] [(.int (3 : Int32))])) _
    refine XS.iconst X1.here hx rfl (hb hby d4_5) ?_
    show Steps p.tables e below (T1.setTop (mkF m 6 #[.val (.ref a1)] [(.int (2 : Int32)), (.int (3 : Int32))])) _
    refine XS.icmpYes X1.here hx rfl (pc0 := 6) (pc' := 13) rfl (hb hby d4_6) rfl (flt (by decide : ¬ ((3 : Int32) < (2 : Int32)))).2.1 (by decide) (by decide) ?_
    show Steps p.tables e below (T1.setTop (mkF m 13 #[.val (.ref a1)] [])) _
    refine XS.aloadN X1.here hx rfl (hb hby d4_13) rfl rfl ?_
    show Steps p.tables e below (T1.setTop (mkF m 14 #[.val (.ref a1)] [(.ref a1)])) _
    refine st3 _ ?_
    show Steps p.tables e below (T3.setTop (mkF m 17 #[.val (.ref a1)] [(.ref a2)])) _
    refine XS.iconst X3.here hx rfl (hb hby d4_17) ?_
    show Steps p.tables e below (T3.setTop (mkF m 18 #[.val (.ref a1)] [(.int (0 : Int32)), (.ref a2)])) _
    refine X3.baloadBytes hx (j := (0 : Int32)) (v := (.int w0)) (by rw [e3]; exact Ao4.1) (State.isArrayOf_alike hZ.alike Ao4.2.1) Ao4.2.2 (inb_of So4 ⟨(by decide), (by decide)⟩) (Has.at Bo4 (inb_of So4 ⟨(by decide), (by decide)⟩) rfl) (g := (mkF m 18 #[.val (.ref a1)] [(.int (0 : Int32)), (.ref a2)])) rfl rfl (hb hby d4_18) _ ?_
    show Steps p.tables e below (T3.setTop (mkF m 19 #[.val (.ref a1)] [(.int w0)])) _
    refine XS.sipush X3.here hx rfl (hb hby d4_19) ?_
    show Steps p.tables e below (T3.setTop (mkF m 22 #[.val (.ref a1)] [(.int (255 : Int32)), (.int w0)])) _
    refine XS.iand X3.here hx rfl (hb hby d4_22) rfl ?_
    show Steps p.tables e below (T3.setTop (mkF m 23 #[.val (.ref a1)] [(.int (w0 &&& (255 : Int32)))])) _
    refine XS.bipush X3.here hx rfl (hb hby d4_23) ?_
    show Steps p.tables e below (T3.setTop (mkF m 25 #[.val (.ref a1)] [(.int (8 : Int32)), (.int (w0 &&& (255 : Int32)))])) _
    refine XS.ishl X3.here hx rfl (hb hby d4_25) rfl ?_
    show Steps p.tables e below (T3.setTop (mkF m 26 #[.val (.ref a1)] [(.int ((w0 &&& (255 : Int32)) <<< ((8 : Int32) &&& 31)))])) _
    refine XS.aloadN X3.here hx rfl (hb hby d4_26) rfl rfl ?_
    show Steps p.tables e below (T3.setTop (mkF m 27 #[.val (.ref a1)] [(.ref a1), (.int ((w0 &&& (255 : Int32)) <<< ((8 : Int32) &&& 31)))])) _
    refine st5 _ ?_
    show Steps p.tables e below (T5.setTop (mkF m 30 #[.val (.ref a1)] [(.ref a2), (.int ((w0 &&& (255 : Int32)) <<< ((8 : Int32) &&& 31)))])) _
    refine XS.iconst X5.here hx rfl (hb hby d4_30) ?_
    show Steps p.tables e below (T5.setTop (mkF m 31 #[.val (.ref a1)] [(.int (1 : Int32)), (.ref a2), (.int ((w0 &&& (255 : Int32)) <<< ((8 : Int32) &&& 31)))])) _
    refine X5.baloadBytes hx (j := (1 : Int32)) (v := (.int w1)) (by rw [e5]; exact Ao6.1) (State.isArrayOf_alike hZ.alike Ao6.2.1) Ao6.2.2 (inb_of So6 ⟨(by decide), (by decide)⟩) (Has.at Bo6 (inb_of So6 ⟨(by decide), (by decide)⟩) rfl) (g := (mkF m 31 #[.val (.ref a1)] [(.int (1 : Int32)), (.ref a2), (.int ((w0 &&& (255 : Int32)) <<< ((8 : Int32) &&& 31)))])) rfl rfl (hb hby d4_31) _ ?_
    show Steps p.tables e below (T5.setTop (mkF m 32 #[.val (.ref a1)] [(.int w1), (.int ((w0 &&& (255 : Int32)) <<< ((8 : Int32) &&& 31)))])) _
    refine XS.sipush X5.here hx rfl (hb hby d4_32) ?_
    show Steps p.tables e below (T5.setTop (mkF m 35 #[.val (.ref a1)] [(.int (255 : Int32)), (.int w1), (.int ((w0 &&& (255 : Int32)) <<< ((8 : Int32) &&& 31)))])) _
    refine XS.iand X5.here hx rfl (hb hby d4_35) rfl ?_
    show Steps p.tables e below (T5.setTop (mkF m 36 #[.val (.ref a1)] [(.int (w1 &&& (255 : Int32))), (.int ((w0 &&& (255 : Int32)) <<< ((8 : Int32) &&& 31)))])) _
    refine XS.ior X5.here hx rfl (hb hby d4_36) rfl ?_
    show Steps p.tables e below (T5.setTop (mkF m 37 #[.val (.ref a1)] [(.int (((w0 &&& (255 : Int32)) <<< ((8 : Int32) &&& 31)) ||| (w1 &&& (255 : Int32))))])) _
    exact retI X5 hx Bd.returns (hb hby d4_37) hr
  · show Q4_3 Z a1 a2 kk w0 w1 w2 h0 n0 _ T5.heap _
    rw [e5]
    exact ⟨rfl, N0, rfl⟩
theorem own_code (z : Int32) (h0 : 0 ≤ z.toInt) (h1 : z.toInt < 65536) : ((((nar .byte ((z / (256 : Int32)).toInt8.toInt32)) &&& (255 : Int32)) <<< ((8 : Int32) &&& 31)) ||| ((nar .byte ((z % (256 : Int32)).toInt8.toInt32)) &&& (255 : Int32))) = z := by
  have hn : ∀ y : Int32, nar .byte y = y.toInt8.toInt32 := fun _ => rfl
  rw [hn, hn]
  have d := (c_idiv z 256 256 rfl (by decide)).1 h0
  have r := (c_irem z 256 256 rfl).1 h0
  generalize z / (256 : Int32) = u at *
  generalize z % (256 : Int32) = v at *
  have a1 := c_i2b u
  have a2 := c_i2b u.toInt8.toInt32
  have b1 := c_i2b v
  have b2 := c_i2b v.toInt8.toInt32
  generalize u.toInt8.toInt32.toInt8.toInt32 = u2 at *
  generalize v.toInt8.toInt32.toInt8.toInt32 = v2 at *
  generalize u.toInt8.toInt32 = u1 at *
  generalize v.toInt8.toInt32 = v1 at *
  have m1 := c_mask u2 255 8 (by decide) (by decide)
  have m2 := c_mask v2 255 8 (by decide) (by decide)
  generalize u2 &&& (255 : Int32) = u3 at *
  generalize v2 &&& (255 : Int32) = v3 at *
  have s := c_ishl u3 8 8 (by decide)
  have rs := rng32 (u3 <<< ((8 : Int32) &&& 31))
  generalize u3 <<< ((8 : Int32) &&& 31) = u4 at *
  have hh := c_or u4 v3 8 (by decide) 256 rfl (by omega) (by omega) (by omega)
  have ro := rng32 (u4 ||| v3)
  rw [← Int32.toInt_inj]
  omega
theorem own_n (z : Int32) : (z &&& (3 : Int32)) = 0 ∨ (z &&& (3 : Int32)) = 1 ∨ (z &&& (3 : Int32)) = 2 ∨ (z &&& (3 : Int32)) = 3 := by
  have m := c_mask z 3 2 (by decide) (by decide)
  have e0 : (0 : Int32).toInt = 0 := rfl
  have e1 : (1 : Int32).toInt = 1 := rfl
  have e2 : (2 : Int32).toInt = 2 := rfl
  have e3 : (3 : Int32).toInt = 3 := rfl
  rw [← Int32.toInt_inj, ← Int32.toInt_inj, ← Int32.toInt_inj, ← Int32.toInt_inj, e0, e1, e2, e3]
  omega
theorem pn_2 : plainName "com/example/tapewire/tapewire/protocol/FrameCloseCodePinLaw" = true := by first | (simp [plainName, overriddenIn]; done) | decide +kernel
theorem pd_1 : parseMethodDescriptor "(I[B)V" = some ⟨[.int, (.array .byte)], none⟩ := by decide +kernel
theorem pd_2 : parseMethodDescriptor "()I" = some ⟨[], some .int⟩ := by decide +kernel
theorem ef_0 (m : MethodId) (p0 : Int32) (p1 : Int32) (p2 : Int32) (p3 : Int32) : entryFrame m #[(.int p0), (.int p1), (.int p2), (.int p3)] maxLocals = mkF m 0 #[.val (.int p0), .val (.int p1), .val (.int p2), .val (.int p3), .unset, .unset, .unset, .unset, .unset] [] := by first | (simp [entryFrame, mkF, argsToLocals, Value.category, maxLocals]; done) | rfl
def Q0 (Z : State) (p0 : Int32) (p1 : Int32) (p2 : Int32) (p3 : Int32) (h0 : Heap) (n0 : Nat) (v : Option Value) (h : Heap) (L : List Loc) : Prop := v = some (.int (1 : Int32)) ∧ Fr n0 L
set_option maxRecDepth 65536 in
set_option maxHeartbeats 40000000 in
theorem rm0 (l : Launch) (Z : State) (a0 : Array Value) (hw : ∀ d ∈ tables_1, d.before a0 Z = true) (ws : List Jvm.Cond) (p0 : Int32) (p1 : Int32) (p2 : Int32) (p3 : Int32) (h0 : Heap) (n0 : Nat) (Z0 : n0 ≤ h0.size)  :
    MetFree l x (head1 (Jvm.Cond.code x code maxLocals ret :: ws) room_1) (fun a U => a = #[(.int p0), (.int p1), (.int p2), (.int p3)] ∧ Z.Warmed39 U.vm ∧ U.heap = h0) (fun _ _ _ _ _ => True) (fun _ U o U' => ∃ v L, o = .returned v ∧ Q0 Z p0 p1 p2 p3 h0 n0 v U'.heap L ∧ FrameEnd U o U' L room_1.cells room_1.slots) := by
  refine MetFree.of_bodySF (plainFor_of_name pn_2) hisR ?_
  intro p e s m args below meth c s₁ Bd hml0 hP hK
  obtain ⟨rfl, hZ, hh⟩ := hP
  have hx := Bd.exec
  have hby := Bd.bytes
  have hml : c.maxLocals = 9 := hml0
  have hown : s.vm.findClass "com/example/tapewire/tapewire/protocol/FrameCloseCodePinLaw" = some m.cls := findClass_of_methodNamed Bd.named
  have hnm := (name_of_methodNamed Bd.named Bd.method).1
  have X0 : Stand p l e room_1 s m #[(.int p0), (.int p1), (.int p2), (.int p3)] below meth c s₁ [] 0 0 := Stand.of_body Bd
  have e0 : s₁.heap = h0 := by rw [← hh, Bd.state]; rfl
  have N0 := Fr.nil n0
  have pre0 : ∀ t, Steps p.tables e below (s₁.setTop (mkF m 0 #[.val (.int p0), .val (.int p1), .val (.int p2), .val (.int p3), .unset, .unset, .unset, .unset, .unset] [])) t → Steps p.tables e below (s₁.setTop (entryFrame m #[(.int p0), (.int p1), (.int p2), (.int p3)] maxLocals)) t := fun t k => castTop (ef_0 m p0 p1 p2 p3) k
  have P1 : ∀ t, Steps p.tables e below (s₁.setTop (mkF m 11 #[.val (.int p0), .val (.int p1), .val (.int p2), .val (.int p3), .val (.int (p1 &&& (3 : Int32))), .val (.int (p0 &&& (65535 : Int32))), .unset, .unset, .unset] [])) t → Steps p.tables e below (s₁.setTop (entryFrame m #[(.int p0), (.int p1), (.int p2), (.int p3)] maxLocals)) t := by
    intro t k
    refine pre0 t ?_
    show Steps p.tables e below (s₁.setTop (mkF m 0 #[.val (.int p0), .val (.int p1), .val (.int p2), .val (.int p3), .unset, .unset, .unset, .unset, .unset] [])) _
    refine XS.iloadN X0.here hx rfl (hb hby at_0) rfl ?_
    show Steps p.tables e below (s₁.setTop (mkF m 1 #[.val (.int p0), .val (.int p1), .val (.int p2), .val (.int p3), .unset, .unset, .unset, .unset, .unset] [(.int p1)])) _
    refine XS.iconst X0.here hx rfl (hb hby at_1) ?_
    show Steps p.tables e below (s₁.setTop (mkF m 2 #[.val (.int p0), .val (.int p1), .val (.int p2), .val (.int p3), .unset, .unset, .unset, .unset, .unset] [(.int (3 : Int32)), (.int p1)])) _
    refine XS.iand X0.here hx rfl (hb hby at_2) rfl ?_
    show Steps p.tables e below (s₁.setTop (mkF m 3 #[.val (.int p0), .val (.int p1), .val (.int p2), .val (.int p3), .unset, .unset, .unset, .unset, .unset] [(.int (p1 &&& (3 : Int32)))])) _
    refine XS.istore X0.here hx rfl (hb hby at_3) rfl (l' := #[.val (.int p0), .val (.int p1), .val (.int p2), .val (.int p3), .val (.int (p1 &&& (3 : Int32))), .unset, .unset, .unset, .unset]) rfl ?_
    show Steps p.tables e below (s₁.setTop (mkF m 5 #[.val (.int p0), .val (.int p1), .val (.int p2), .val (.int p3), .val (.int (p1 &&& (3 : Int32))), .unset, .unset, .unset, .unset] [])) _
    refine XS.iloadN X0.here hx rfl (hb hby at_5) rfl ?_
    show Steps p.tables e below (s₁.setTop (mkF m 6 #[.val (.int p0), .val (.int p1), .val (.int p2), .val (.int p3), .val (.int (p1 &&& (3 : Int32))), .unset, .unset, .unset, .unset] [(.int p0)])) _
    refine X0.ldcInt hx hown (mvT hZ (hw _ (List.mem_of_getElem? (i := 0) rfl))) (g := (mkF m 6 #[.val (.int p0), .val (.int p1), .val (.int p2), .val (.int p3), .val (.int (p1 &&& (3 : Int32))), .unset, .unset, .unset, .unset] [(.int p0)])) rfl (hb hby at_6) _ ?_
    show Steps p.tables e below (s₁.setTop (mkF m 8 #[.val (.int p0), .val (.int p1), .val (.int p2), .val (.int p3), .val (.int (p1 &&& (3 : Int32))), .unset, .unset, .unset, .unset] [(.int (65535 : Int32)), (.int p0)])) _
    refine XS.iand X0.here hx rfl (hb hby at_8) rfl ?_
    show Steps p.tables e below (s₁.setTop (mkF m 9 #[.val (.int p0), .val (.int p1), .val (.int p2), .val (.int p3), .val (.int (p1 &&& (3 : Int32))), .unset, .unset, .unset, .unset] [(.int (p0 &&& (65535 : Int32)))])) _
    refine XS.istore X0.here hx rfl (hb hby at_9) rfl (l' := #[.val (.int p0), .val (.int p1), .val (.int p2), .val (.int p3), .val (.int (p1 &&& (3 : Int32))), .val (.int (p0 &&& (65535 : Int32))), .unset, .unset, .unset]) rfl ?_
    exact k
  obtain ⟨nv, hnv⟩ : ∃ z : Int32, z = (p1 &&& (3 : Int32)) := ⟨_, rfl⟩
  have P2 : ∀ t, Steps p.tables e below (s₁.setTop (mkF m 11 #[.val (.int p0), .val (.int p1), .val (.int p2), .val (.int p3), .val (.int nv), .val (.int (p0 &&& (65535 : Int32))), .unset, .unset, .unset] [])) t → Steps p.tables e below (s₁.setTop (entryFrame m #[(.int p0), (.int p1), (.int p2), (.int p3)] maxLocals)) t := by rw [hnv]; exact P1
  obtain ⟨zv, hzv⟩ : ∃ z : Int32, z = (p0 &&& (65535 : Int32)) := ⟨_, rfl⟩
  have P3 : ∀ t, Steps p.tables e below (s₁.setTop (mkF m 11 #[.val (.int p0), .val (.int p1), .val (.int p2), .val (.int p3), .val (.int nv), .val (.int zv), .unset, .unset, .unset] [])) t → Steps p.tables e below (s₁.setTop (entryFrame m #[(.int p0), (.int p1), (.int p2), (.int p3)] maxLocals)) t := by rw [hzv]; exact P2
  have hz := c_mask p0 65535 16 (by decide) (by decide)
  rw [← hzv] at hz
  have hn4 := own_n p1
  rw [← hnv] at hn4
  rcases hn4 with rfl | rfl | rfl | rfl
  · obtain ⟨T4, h4, k4, X4, e4, E4, A4, st4⟩ := newP X0 hx hZ (hw _ (List.mem_of_getElem? (i := 1) rfl)) e0 (g := (mkF m 13 #[.val (.int p0), .val (.int p1), .val (.int p2), .val (.int p3), .val (.int (0 : Int32)), .val (.int zv), .unset, .unset, .unset] [(.int (0 : Int32))])) rfl (hb hby at_13) rfl (by decide) (cap := 0) (by decide) (by decide) (by decide) (by decide)
    obtain ⟨b4, g4⟩ : ∃ z, z = h0.size := ⟨_, rfl⟩
    rw [← g4] at A4 st4
    have g_b4 : n0 ≤ b4 := Nat.le_trans Z0 (Nat.le_of_eq g4.symm)
    have Z5 : n0 ≤ h4.size := Nat.le_trans Z0 E4.1
    have V4 : Arv Z h4 b4 k4 .byte (0 : Int32) [] (.int (0 : Int32)) := Arv.new A4 (by decide)
    obtain ⟨T6, h6, X6, e6, E6, A6, D6, -, st6⟩ := newO X4 hx hZ hown (hw _ (List.mem_of_getElem? (i := 2) rfl)) (hw _ (List.mem_of_getElem? (i := 3) rfl)) (hw _ (List.mem_of_getElem? (i := 4) rfl)) e4 (g := (mkF m 63 #[.val (.int p0), .val (.int p1), .val (.int p2), .val (.int p3), .val (.int (0 : Int32)), .val (.int zv), .val (.ref b4), .unset, .unset] [])) rfl (hb hby at_63) (by decide) (by decide)
    obtain ⟨b6, g6⟩ : ∃ z, z = h4.size := ⟨_, rfl⟩
    rw [← g6] at A6 D6 st6
    have ne7 : b4 ≠ b6 := Nat.ne_of_lt (Nat.lt_of_lt_of_le V4.lt (Nat.le_of_eq g6.symm))
    have g_b6 : n0 ≤ b6 := Nat.le_trans Z5 (Nat.le_of_eq g6.symm)
    have F8 : Arv Z h6 b4 k4 .byte (0 : Int32) [] (.int (0 : Int32)) := V4.ext E6
    have Z9 : n0 ≤ h6.size := Nat.le_trans Z5 E6.1
    have F10 : Fld Z h6 b6 "com/example/tapewire/tapewire/protocol/WebSocket$Frame" "opcode" "I" (.int (0 : Int32)) := D6 (Or.inr (hw _ (List.mem_of_getElem? (i := 17) rfl))) (ty := .int) (by decide)
    have F11 : Fld Z h6 b6 "com/example/tapewire/tapewire/protocol/WebSocket$Frame" "payload" "[B" .null := D6 (Or.inr (hw _ (List.mem_of_getElem? (i := 19) rfl))) (ty := (.array .byte)) (by decide)
    obtain ⟨_, _, ⟨T12, L12, k12, n12⟩, -, X12, ⟨Lc12, hQ12, l12, y12, z12⟩, st12⟩ := X6.specialBack hx (y := (⟨"com/example/tapewire/tapewire/protocol/WebSocket$Frame", "<init>", "(I[B)V"⟩ : MethodName)) rfl hown (mvT hZ (hw _ (List.mem_of_getElem? (i := 5) rfl))) (mvT hZ (hw _ (List.mem_of_getElem? (i := 6) rfl))) (mvT hZ (hw _ (List.mem_of_getElem? (i := 7) rfl))) (by decide) (backOf (W := 1) (rm1 l Z a0 hw [] b6 p3 b4 h6 n0 Z9 A6 g_b6 F10 F11) hZ (hw _ (List.mem_of_getElem? (i := 7) rfl)) (hw _ (List.mem_of_getElem? (i := 4) rfl)) (by decide) (by decide)) (g := (mkF m 70 #[.val (.int p0), .val (.int p1), .val (.int p2), .val (.int p3), .val (.int (0 : Int32)), .val (.int zv), .val (.ref b4), .unset, .unset] [(.ref b4), (.int p3), (.ref b6), (.ref b6)])) rfl (by rw [hml]; rfl) (Steps.refl _) (a := b6) (argsL := [(.int p3), (.ref b4)]) (rest := [(.ref b6)]) (lenOf pd_1 rfl) rfl (by show 2 * 0 + _ ≤ _; exact Nat.le_of_eq rfl) (hb hby at_70) (fun _ _ => ⟨rfl, e6, (by decide : 2 + 0 ≤ _), (by decide : 2 + 0 ≤ _)⟩)
    dsimp only [Pt.U, Pt.locs, Pt.cells, Pt.slots] at X12 l12 y12 z12 st12 hQ12
    subst l12 y12 z12
    obtain ⟨rfl, N12q, R13, R14, R15, R16⟩ := hQ12
    have N12 := Fr.app N0 N12q
    have F17 : Arv Z T12.heap b4 k4 .byte (0 : Int32) [] (.int (0 : Int32)) := F8.keep R13 (ninS ne7 nin0)
    have F18 : Exa Z T12.heap b6 "com/example/tapewire/tapewire/protocol/WebSocket$Frame" := A6.keep R13
    have Z19 : n0 ≤ T12.heap.size := Nat.le_trans Z9 R13.1
    obtain ⟨cq20, kq20, q20a, q20b, q20c⟩ := isOf hZ rfl R14
    obtain ⟨_, _, ⟨T20, L20, k20, n20⟩, -, X20, ⟨Lc20, hQ20, l20, y20, z20⟩, st20⟩ := X12.virtualBack hx (y := (⟨"com/example/tapewire/tapewire/protocol/WebSocket$Frame", "closeCode", "()I"⟩ : MethodName)) (z := (⟨"com/example/tapewire/tapewire/protocol/WebSocket$Frame", "closeCode", "()I"⟩ : MethodName)) hown (mvT hZ (hw _ (List.mem_of_getElem? (i := 20) rfl))) (mvT hZ (hw _ (List.mem_of_getElem? (i := 21) rfl))) (notFace_of_selects (args := #[]) (mvT hZ (hw _ (List.mem_of_getElem? (i := 23) rfl)))) (mvT hZ (hw _ (List.mem_of_getElem? (i := 23) rfl))) (mvT hZ (hw _ (List.mem_of_getElem? (i := 22) rfl))) (by decide) (backOf (W := 0) (rm4_0 l Z a0 hw [] b6 b4 k4 T12.heap n0 Z19 R16 F17) hZ (hw _ (List.mem_of_getElem? (i := 24) rfl)) (hw _ (List.mem_of_getElem? (i := 4) rfl)) (by decide) (by decide)) q20a q20c (g := (mkF m 91 #[.val (.int p0), .val (.int p1), .val (.int p2), .val (.int p3), .val (.int (0 : Int32)), .val (.int zv), .val (.ref b4), .val (.ref b6), .val (.int (0 : Int32))] [(.ref b6)])) rfl (by rw [hml]; rfl) (Steps.refl _) (argsL := []) (rest := []) (lenOf pd_2 rfl) rfl (by show 2 * 0 + _ ≤ _; exact Nat.le_of_eq rfl) (hb hby at_91) (fun _ _ => ⟨rfl, rfl, (by decide : 2 + 0 ≤ _), (by decide : 2 + 0 ≤ _)⟩)
    dsimp only [Pt.U, Pt.locs, Pt.cells, Pt.slots] at X20 l20 y20 z20 st20 hQ20
    subst l20 y20 z20
    obtain ⟨rfl, N20q, R21⟩ := hQ20
    have N20 := Fr.app N12 N20q
    obtain ⟨fs, hr, hrun, hended, hW, hsame⟩ := X20.leave (v := some (.int (1 : Int32))) (fun h => by rw [Bd.returns] at h; cases h)
    refine ⟨_, _, P3 _ ?_, hrun, hended, _, _, rfl, ?_, ⟨_, rfl⟩, hW, hsame.mono (by decide) (by decide)⟩
    · show Steps p.tables e below (s₁.setTop (mkF m 11 #[.val (.int p0), .val (.int p1), .val (.int p2), .val (.int p3), .val (.int (0 : Int32)), .val (.int zv), .unset, .unset, .unset] [])) _
      refine XS.iload X0.here hx rfl (hb hby at_11) rfl ?_
      show Steps p.tables e below (s₁.setTop (mkF m 13 #[.val (.int p0), .val (.int p1), .val (.int p2), .val (.int p3), .val (.int (0 : Int32)), .val (.int zv), .unset, .unset, .unset] [(.int (0 : Int32))])) _
      refine st4 _ ?_
      show Steps p.tables e below (T4.setTop (mkF m 15 #[.val (.int p0), .val (.int p1), .val (.int p2), .val (.int p3), .val (.int (0 : Int32)), .val (.int zv), .unset, .unset, .unset] [(.ref b4)])) _
      refine XS.astore X4.here hx rfl (hb hby at_15) rfl rfl (l' := #[.val (.int p0), .val (.int p1), .val (.int p2), .val (.int p3), .val (.int (0 : Int32)), .val (.int zv), .val (.ref b4), .unset, .unset]) rfl ?_
      show Steps p.tables e below (T4.setTop (mkF m 17 #[.val (.int p0), .val (.int p1), .val (.int p2), .val (.int p3), .val (.int (0 : Int32)), .val (.int zv), .val (.ref b4), .unset, .unset] [])) _
      refine XS.iload X4.here hx rfl (hb hby at_17) rfl ?_
      show Steps p.tables e below (T4.setTop (mkF m 19 #[.val (.int p0), .val (.int p1), .val (.int p2), .val (.int p3), .val (.int (0 : Int32)), .val (.int zv), .val (.ref b4), .unset, .unset] [(.int (0 : Int32))])) _
      refine XS.iconst X4.here hx rfl (hb hby at_19) ?_
      show Steps p.tables e below (T4.setTop (mkF m 20 #[.val (.int p0), .val (.int p1), .val (.int p2), .val (.int p3), .val (.int (0 : Int32)), .val (.int zv), .val (.ref b4), .unset, .unset] [(.int (1 : Int32)), (.int (0 : Int32))])) _
      refine XS.icmpYes X4.here hx rfl (pc0 := 20) (pc' := 34) rfl (hb hby at_20) rfl (tlt (by decide : (0 : Int32) < (1 : Int32))).1 (by decide) (by decide) ?_
      show Steps p.tables e below (T4.setTop (mkF m 34 #[.val (.int p0), .val (.int p1), .val (.int p2), .val (.int p3), .val (.int (0 : Int32)), .val (.int zv), .val (.ref b4), .unset, .unset] [])) _
      refine XS.iload X4.here hx rfl (hb hby at_34) rfl ?_
      show Steps p.tables e below (T4.setTop (mkF m 36 #[.val (.int p0), .val (.int p1), .val (.int p2), .val (.int p3), .val (.int (0 : Int32)), .val (.int zv), .val (.ref b4), .unset, .unset] [(.int (0 : Int32))])) _
      refine XS.iconst X4.here hx rfl (hb hby at_36) ?_
      show Steps p.tables e below (T4.setTop (mkF m 37 #[.val (.int p0), .val (.int p1), .val (.int p2), .val (.int p3), .val (.int (0 : Int32)), .val (.int zv), .val (.ref b4), .unset, .unset] [(.int (2 : Int32)), (.int (0 : Int32))])) _
      refine XS.icmpYes X4.here hx rfl (pc0 := 37) (pc' := 51) rfl (hb hby at_37) rfl (tlt (by decide : (0 : Int32) < (2 : Int32))).1 (by decide) (by decide) ?_
      show Steps p.tables e below (T4.setTop (mkF m 51 #[.val (.int p0), .val (.int p1), .val (.int p2), .val (.int p3), .val (.int (0 : Int32)), .val (.int zv), .val (.ref b4), .unset, .unset] [])) _
      refine XS.iload X4.here hx rfl (hb hby at_51) rfl ?_
      show Steps p.tables e below (T4.setTop (mkF m 53 #[.val (.int p0), .val (.int p1), .val (.int p2), .val (.int p3), .val (.int (0 : Int32)), .val (.int zv), .val (.ref b4), .unset, .unset] [(.int (0 : Int32))])) _
      refine XS.iconst X4.here hx rfl (hb hby at_53) ?_
      show Steps p.tables e below (T4.setTop (mkF m 54 #[.val (.int p0), .val (.int p1), .val (.int p2), .val (.int p3), .val (.int (0 : Int32)), .val (.int zv), .val (.ref b4), .unset, .unset] [(.int (3 : Int32)), (.int (0 : Int32))])) _
      refine XS.icmpYes X4.here hx rfl (pc0 := 54) (pc' := 63) rfl (hb hby at_54) rfl (tlt (by decide : (0 : Int32) < (3 : Int32))).1 (by decide) (by decide) ?_
      show Steps p.tables e below (T4.setTop (mkF m 63 #[.val (.int p0), .val (.int p1), .val (.int p2), .val (.int p3), .val (.int (0 : Int32)), .val (.int zv), .val (.ref b4), .unset, .unset] [])) _
      refine st6 _ ?_
      show Steps p.tables e below (T6.setTop (mkF m 66 #[.val (.int p0), .val (.int p1), .val (.int p2), .val (.int p3), .val (.int (0 : Int32)), .val (.int zv), .val (.ref b4), .unset, .unset] [(.ref b6)])) _
      refine XS.dup X6.here hx rfl (hb hby at_66) rfl rfl ?_
      show Steps p.tables e below (T6.setTop (mkF m 67 #[.val (.int p0), .val (.int p1), .val (.int p2), .val (.int p3), .val (.int (0 : Int32)), .val (.int zv), .val (.ref b4), .unset, .unset] [(.ref b6), (.ref b6)])) _
      refine XS.iloadN X6.here hx rfl (hb hby at_67) rfl ?_
      show Steps p.tables e below (T6.setTop (mkF m 68 #[.val (.int p0), .val (.int p1), .val (.int p2), .val (.int p3), .val (.int (0 : Int32)), .val (.int zv), .val (.ref b4), .unset, .unset] [(.int p3), (.ref b6), (.ref b6)])) _
      refine XS.aload X6.here hx rfl (hb hby at_68) rfl rfl ?_
      show Steps p.tables e below (T6.setTop (mkF m 70 #[.val (.int p0), .val (.int p1), .val (.int p2), .val (.int p3), .val (.int (0 : Int32)), .val (.int zv), .val (.ref b4), .unset, .unset] [(.ref b4), (.int p3), (.ref b6), (.ref b6)])) _
      refine st12.trans ?_
      show Steps p.tables e below (T12.setTop (mkF m 73 #[.val (.int p0), .val (.int p1), .val (.int p2), .val (.int p3), .val (.int (0 : Int32)), .val (.int zv), .val (.ref b4), .unset, .unset] [(.ref b6)])) _
      refine XS.astore X12.here hx rfl (hb hby at_73) rfl rfl (l' := #[.val (.int p0), .val (.int p1), .val (.int p2), .val (.int p3), .val (.int (0 : Int32)), .val (.int zv), .val (.ref b4), .val (.ref b6), .unset]) rfl ?_
      show Steps p.tables e below (T12.setTop (mkF m 75 #[.val (.int p0), .val (.int p1), .val (.int p2), .val (.int p3), .val (.int (0 : Int32)), .val (.int zv), .val (.ref b4), .val (.ref b6), .unset] [])) _
      refine XS.iload X12.here hx rfl (hb hby at_75) rfl ?_
      show Steps p.tables e below (T12.setTop (mkF m 77 #[.val (.int p0), .val (.int p1), .val (.int p2), .val (.int p3), .val (.int (0 : Int32)), .val (.int zv), .val (.ref b4), .val (.ref b6), .unset] [(.int (0 : Int32))])) _
      refine XS.iconst X12.here hx rfl (hb hby at_77) ?_
      show Steps p.tables e below (T12.setTop (mkF m 78 #[.val (.int p0), .val (.int p1), .val (.int p2), .val (.int p3), .val (.int (0 : Int32)), .val (.int zv), .val (.ref b4), .val (.ref b6), .unset] [(.int (2 : Int32)), (.int (0 : Int32))])) _
      refine XS.icmpNo X12.here hx rfl (hb hby at_78) rfl (tlt (by decide : (0 : Int32) < (2 : Int32))).2.1 ?_
      show Steps p.tables e below (T12.setTop (mkF m 81 #[.val (.int p0), .val (.int p1), .val (.int p2), .val (.int p3), .val (.int (0 : Int32)), .val (.int zv), .val (.ref b4), .val (.ref b6), .unset] [])) _
      refine XS.iconst X12.here hx rfl (hb hby at_81) ?_
      show Steps p.tables e below (T12.setTop (mkF m 82 #[.val (.int p0), .val (.int p1), .val (.int p2), .val (.int p3), .val (.int (0 : Int32)), .val (.int zv), .val (.ref b4), .val (.ref b6), .unset] [(.int (0 : Int32))])) _
      refine XS.goto X12.here hx rfl (pc0 := 82) (pc' := 87) rfl (hb hby at_82) (by decide) (by decide) ?_
      show Steps p.tables e below (T12.setTop (mkF m 87 #[.val (.int p0), .val (.int p1), .val (.int p2), .val (.int p3), .val (.int (0 : Int32)), .val (.int zv), .val (.ref b4), .val (.ref b6), .unset] [(.int (0 : Int32))])) _
      refine XS.istore X12.here hx rfl (hb hby at_87) rfl (l' := #[.val (.int p0), .val (.int p1), .val (.int p2), .val (.int p3), .val (.int (0 : Int32)), .val (.int zv), .val (.ref b4), .val (.ref b6), .val (.int (0 : Int32))]) rfl ?_
      show Steps p.tables e below (T12.setTop (mkF m 89 #[.val (.int p0), .val (.int p1), .val (.int p2), .val (.int p3), .val (.int (0 : Int32)), .val (.int zv), .val (.ref b4), .val (.ref b6), .val (.int (0 : Int32))] [])) _
      refine XS.aload X12.here hx rfl (hb hby at_89) rfl rfl ?_
      show Steps p.tables e below (T12.setTop (mkF m 91 #[.val (.int p0), .val (.int p1), .val (.int p2), .val (.int p3), .val (.int (0 : Int32)), .val (.int zv), .val (.ref b4), .val (.ref b6), .val (.int (0 : Int32))] [(.ref b6)])) _
      refine st20.trans ?_
      show Steps p.tables e below (T20.setTop (mkF m 94 #[.val (.int p0), .val (.int p1), .val (.int p2), .val (.int p3), .val (.int (0 : Int32)), .val (.int zv), .val (.ref b4), .val (.ref b6), .val (.int (0 : Int32))] [(.int (0 : Int32))])) _
      refine XS.iload X20.here hx rfl (hb hby at_94) rfl ?_
      show Steps p.tables e below (T20.setTop (mkF m 96 #[.val (.int p0), .val (.int p1), .val (.int p2), .val (.int p3), .val (.int (0 : Int32)), .val (.int zv), .val (.ref b4), .val (.ref b6), .val (.int (0 : Int32))] [(.int (0 : Int32)), (.int (0 : Int32))])) _
      refine XS.icmpNo X20.here hx rfl (hb hby at_96) rfl (teq (by decide : (0 : Int32) = (0 : Int32))).2 ?_
      show Steps p.tables e below (T20.setTop (mkF m 99 #[.val (.int p0), .val (.int p1), .val (.int p2), .val (.int p3), .val (.int (0 : Int32)), .val (.int zv), .val (.ref b4), .val (.ref b6), .val (.int (0 : Int32))] [])) _
      refine XS.iconst X20.here hx rfl (hb hby at_99) ?_
      show Steps p.tables e below (T20.setTop (mkF m 100 #[.val (.int p0), .val (.int p1), .val (.int p2), .val (.int p3), .val (.int (0 : Int32)), .val (.int zv), .val (.ref b4), .val (.ref b6), .val (.int (0 : Int32))] [(.int (1 : Int32))])) _
      refine XS.goto X20.here hx rfl (pc0 := 100) (pc' := 104) rfl (hb hby at_100) (by decide) (by decide) ?_
      show Steps p.tables e below (T20.setTop (mkF m 104 #[.val (.int p0), .val (.int p1), .val (.int p2), .val (.int p3), .val (.int (0 : Int32)), .val (.int zv), .val (.ref b4), .val (.ref b6), .val (.int (0 : Int32))] [(.int (1 : Int32))])) _
      exact retN X20 hx (t := .boolean) Bd.returns (by simp) (hb hby at_104) hr
    · show Q0 Z p0 p1 p2 p3 h0 n0 _ T20.heap _
      rw [R21]
      exact ⟨rfl, N20⟩
  · obtain ⟨T22, h22, k22, X22, e22, E22, A22, st22⟩ := newP X0 hx hZ (hw _ (List.mem_of_getElem? (i := 1) rfl)) e0 (g := (mkF m 13 #[.val (.int p0), .val (.int p1), .val (.int p2), .val (.int p3), .val (.int (1 : Int32)), .val (.int zv), .unset, .unset, .unset] [(.int (1 : Int32))])) rfl (hb hby at_13) rfl (by decide) (cap := 1) (by decide) (by decide) (by decide) (by decide)
    obtain ⟨b22, g22⟩ : ∃ z, z = h0.size := ⟨_, rfl⟩
    rw [← g22] at A22 st22
    have g_b22 : n0 ≤ b22 := Nat.le_trans Z0 (Nat.le_of_eq g22.symm)
    have Z23 : n0 ≤ h22.size := Nat.le_trans Z0 E22.1
    have V22 : Arv Z h22 b22 k22 .byte (1 : Int32) [(.int (0 : Int32))] (.int (0 : Int32)) := (Arv.new A22 (by decide)).pad (pad_rep [] (.int (0 : Int32)) 1)
    obtain ⟨co24, Ao24, qo24, So24, Mo24, Bo24, Go24⟩ := id V22
    obtain ⟨T25, h25, X25, e25, W25, st25⟩ := stB X22 hx hZ e22 Ao24 (j := (0 : Int32)) (inb_of So24 ⟨(by decide), (by decide)⟩) (g := (mkF m 33 #[.val (.int p0), .val (.int p1), .val (.int p2), .val (.int p3), .val (.int (1 : Int32)), .val (.int zv), .val (.ref b22), .unset, .unset] [(.int ((zv / (256 : Int32)).toInt8.toInt32)), (.int (0 : Int32)), (.ref b22)])) rfl rfl (hb hby at_33)
    have V25 : Arv Z h25 b22 k22 .byte (1 : Int32) [(.int (nar .byte ((zv / (256 : Int32)).toInt8.toInt32)))] (.int (0 : Int32)) := Arv.set Ao24 qo24 So24 Mo24 Bo24 Go24 (fits_nar_byte _) W25 0 rfl (Nat.le_of_ble_eq_true rfl)
    have Z26 : n0 ≤ h25.size := Nat.le_trans Z23 (Keep.of_wr W25).1
    have N27 := Fr.snoc X25 N0 g_b22
    obtain ⟨T28, h28, X28, e28, E28, A28, D28, -, st28⟩ := newO X25 hx hZ hown (hw _ (List.mem_of_getElem? (i := 2) rfl)) (hw _ (List.mem_of_getElem? (i := 3) rfl)) (hw _ (List.mem_of_getElem? (i := 4) rfl)) e25 (g := (mkF m 63 #[.val (.int p0), .val (.int p1), .val (.int p2), .val (.int p3), .val (.int (1 : Int32)), .val (.int zv), .val (.ref b22), .unset, .unset] [])) rfl (hb hby at_63) (by decide) (by decide)
    obtain ⟨b28, g28⟩ : ∃ z, z = h25.size := ⟨_, rfl⟩
    rw [← g28] at A28 D28 st28
    have ne29 : b22 ≠ b28 := Nat.ne_of_lt (Nat.lt_of_lt_of_le V25.lt (Nat.le_of_eq g28.symm))
    have g_b28 : n0 ≤ b28 := Nat.le_trans Z26 (Nat.le_of_eq g28.symm)
    have F30 : Arv Z h28 b22 k22 .byte (1 : Int32) [(.int (nar .byte ((zv / (256 : Int32)).toInt8.toInt32)))] (.int (0 : Int32)) := V25.ext E28
    have Z31 : n0 ≤ h28.size := Nat.le_trans Z26 E28.1
    have F32 : Fld Z h28 b28 "com/example/tapewire/tapewire/protocol/WebSocket$Frame" "opcode" "I" (.int (0 : Int32)) := D28 (Or.inr (hw _ (List.mem_of_getElem? (i := 17) rfl))) (ty := .int) (by decide)
    have F33 : Fld Z h28 b28 "com/example/tapewire/tapewire/protocol/WebSocket$Frame" "payload" "[B" .null := D28 (Or.inr (hw _ (List.mem_of_getElem? (i := 19) rfl))) (ty := (.array .byte)) (by decide)
    obtain ⟨_, _, ⟨T34, L34, k34, n34⟩, -, X34, ⟨Lc34, hQ34, l34, y34, z34⟩, st34⟩ := X28.specialBack hx (y := (⟨"com/example/tapewire/tapewire/protocol/WebSocket$Frame", "<init>", "(I[B)V"⟩ : MethodName)) rfl hown (mvT hZ (hw _ (List.mem_of_getElem? (i := 5) rfl))) (mvT hZ (hw _ (List.mem_of_getElem? (i := 6) rfl))) (mvT hZ (hw _ (List.mem_of_getElem? (i := 7) rfl))) (by decide) (backOf (W := 1) (rm1 l Z a0 hw [] b28 p3 b22 h28 n0 Z31 A28 g_b28 F32 F33) hZ (hw _ (List.mem_of_getElem? (i := 7) rfl)) (hw _ (List.mem_of_getElem? (i := 4) rfl)) (by decide) (by decide)) (g := (mkF m 70 #[.val (.int p0), .val (.int p1), .val (.int p2), .val (.int p3), .val (.int (1 : Int32)), .val (.int zv), .val (.ref b22), .unset, .unset] [(.ref b22), (.int p3), (.ref b28), (.ref b28)])) rfl (by rw [hml]; rfl) (Steps.refl _) (a := b28) (argsL := [(.int p3), (.ref b22)]) (rest := [(.ref b28)]) (lenOf pd_1 rfl) rfl (by show 2 * 0 + _ ≤ _; exact Nat.le_of_eq rfl) (hb hby at_70) (fun _ _ => ⟨rfl, e28, (by decide : 2 + 0 ≤ _), (by decide : 3 + 0 ≤ _)⟩)
    dsimp only [Pt.U, Pt.locs, Pt.cells, Pt.slots] at X34 l34 y34 z34 st34 hQ34
    subst l34 y34 z34
    obtain ⟨rfl, N34q, R35, R36, R37, R38⟩ := hQ34
    have N34 := Fr.app N27 N34q
    have F39 : Arv Z T34.heap b22 k22 .byte (1 : Int32) [(.int (nar .byte ((zv / (256 : Int32)).toInt8.toInt32)))] (.int (0 : Int32)) := F30.keep R35 (ninS ne29 nin0)
    have F40 : Exa Z T34.heap b28 "com/example/tapewire/tapewire/protocol/WebSocket$Frame" := A28.keep R35
    have Z41 : n0 ≤ T34.heap.size := Nat.le_trans Z31 R35.1
    obtain ⟨cq42, kq42, q42a, q42b, q42c⟩ := isOf hZ rfl R36
    obtain ⟨_, _, ⟨T42, L42, k42, n42⟩, -, X42, ⟨Lc42, hQ42, l42, y42, z42⟩, st42⟩ := X34.virtualBack hx (y := (⟨"com/example/tapewire/tapewire/protocol/WebSocket$Frame", "closeCode", "()I"⟩ : MethodName)) (z := (⟨"com/example/tapewire/tapewire/protocol/WebSocket$Frame", "closeCode", "()I"⟩ : MethodName)) hown (mvT hZ (hw _ (List.mem_of_getElem? (i := 20) rfl))) (mvT hZ (hw _ (List.mem_of_getElem? (i := 21) rfl))) (notFace_of_selects (args := #[]) (mvT hZ (hw _ (List.mem_of_getElem? (i := 23) rfl)))) (mvT hZ (hw _ (List.mem_of_getElem? (i := 23) rfl))) (mvT hZ (hw _ (List.mem_of_getElem? (i := 22) rfl))) (by decide) (backOf (W := 0) (rm4_1 l Z a0 hw [] b28 b22 k22 (nar .byte ((zv / (256 : Int32)).toInt8.toInt32)) T34.heap n0 Z41 R38 F39) hZ (hw _ (List.mem_of_getElem? (i := 24) rfl)) (hw _ (List.mem_of_getElem? (i := 4) rfl)) (by decide) (by decide)) q42a q42c (g := (mkF m 91 #[.val (.int p0), .val (.int p1), .val (.int p2), .val (.int p3), .val (.int (1 : Int32)), .val (.int zv), .val (.ref b22), .val (.ref b28), .val (.int (0 : Int32))] [(.ref b28)])) rfl (by rw [hml]; rfl) (Steps.refl _) (argsL := []) (rest := []) (lenOf pd_2 rfl) rfl (by show 2 * 0 + _ ≤ _; exact Nat.le_of_eq rfl) (hb hby at_91) (fun _ _ => ⟨rfl, rfl, (by decide : 2 + 0 ≤ _), (by decide : 3 + 0 ≤ _)⟩)
    dsimp only [Pt.U, Pt.locs, Pt.cells, Pt.slots] at X42 l42 y42 z42 st42 hQ42
    subst l42 y42 z42
    obtain ⟨rfl, N42q, R43⟩ := hQ42
    have N42 := Fr.app N34 N42q
    obtain ⟨fs, hr, hrun, hended, hW, hsame⟩ := X42.leave (v := some (.int (1 : Int32))) (fun h => by rw [Bd.returns] at h; cases h)
    refine ⟨_, _, P3 _ ?_, hrun, hended, _, _, rfl, ?_, ⟨_, rfl⟩, hW, hsame.mono (by decide) (by decide)⟩
    · show Steps p.tables e below (s₁.setTop (mkF m 11 #[.val (.int p0), .val (.int p1), .val (.int p2), .val (.int p3), .val (.int (1 : Int32)), .val (.int zv), .unset, .unset, .unset] [])) _
      refine XS.iload X0.here hx rfl (hb hby at_11) rfl ?_
      show Steps p.tables e below (s₁.setTop (mkF m 13 #[.val (.int p0), .val (.int p1), .val (.int p2), .val (.int p3), .val (.int (1 : Int32)), .val (.int zv), .unset, .unset, .unset] [(.int (1 : Int32))])) _
      refine st22 _ ?_
      show Steps p.tables e below (T22.setTop (mkF m 15 #[.val (.int p0), .val (.int p1), .val (.int p2), .val (.int p3), .val (.int (1 : Int32)), .val (.int zv), .unset, .unset, .unset] [(.ref b22)])) _
      refine XS.astore X22.here hx rfl (hb hby at_15) rfl rfl (l' := #[.val (.int p0), .val (.int p1), .val (.int p2), .val (.int p3), .val (.int (1 : Int32)), .val (.int zv), .val (.ref b22), .unset, .unset]) rfl ?_
      show Steps p.tables e below (T22.setTop (mkF m 17 #[.val (.int p0), .val (.int p1), .val (.int p2), .val (.int p3), .val (.int (1 : Int32)), .val (.int zv), .val (.ref b22), .unset, .unset] [])) _
      refine XS.iload X22.here hx rfl (hb hby at_17) rfl ?_
      show Steps p.tables e below (T22.setTop (mkF m 19 #[.val (.int p0), .val (.int p1), .val (.int p2), .val (.int p3), .val (.int (1 : Int32)), .val (.int zv), .val (.ref b22), .unset, .unset] [(.int (1 : Int32))])) _
      refine XS.iconst X22.here hx rfl (hb hby at_19) ?_
      show Steps p.tables e below (T22.setTop (mkF m 20 #[.val (.int p0), .val (.int p1), .val (.int p2), .val (.int p3), .val (.int (1 : Int32)), .val (.int zv), .val (.ref b22), .unset, .unset] [(.int (1 : Int32)), (.int (1 : Int32))])) _
      refine XS.icmpNo X22.here hx rfl (hb hby at_20) rfl (flt (by decide : ¬ ((1 : Int32) < (1 : Int32)))).1 ?_
      show Steps p.tables e below (T22.setTop (mkF m 23 #[.val (.int p0), .val (.int p1), .val (.int p2), .val (.int p3), .val (.int (1 : Int32)), .val (.int zv), .val (.ref b22), .unset, .unset] [])) _
      refine XS.aload X22.here hx rfl (hb hby at_23) rfl rfl ?_
      show Steps p.tables e below (T22.setTop (mkF m 25 #[.val (.int p0), .val (.int p1), .val (.int p2), .val (.int p3), .val (.int (1 : Int32)), .val (.int zv), .val (.ref b22), .unset, .unset] [(.ref b22)])) _
      refine XS.iconst X22.here hx rfl (hb hby at_25) ?_
      show Steps p.tables e below (T22.setTop (mkF m 26 #[.val (.int p0), .val (.int p1), .val (.int p2), .val (.int p3), .val (.int (1 : Int32)), .val (.int zv), .val (.ref b22), .unset, .unset] [(.int (0 : Int32)), (.ref b22)])) _
      refine XS.iload X22.here hx rfl (hb hby at_26) rfl ?_
      show Steps p.tables e below (T22.setTop (mkF m 28 #[.val (.int p0), .val (.int p1), .val (.int p2), .val (.int p3), .val (.int (1 : Int32)), .val (.int zv), .val (.ref b22), .unset, .unset] [(.int zv), (.int (0 : Int32)), (.ref b22)])) _
      refine XS.sipush X22.here hx rfl (hb hby at_28) ?_
      show Steps p.tables e below (T22.setTop (mkF m 31 #[.val (.int p0), .val (.int p1), .val (.int p2), .val (.int p3), .val (.int (1 : Int32)), .val (.int zv), .val (.ref b22), .unset, .unset] [(.int (256 : Int32)), (.int zv), (.int (0 : Int32)), (.ref b22)])) _
      refine XS.idiv X22.here hx rfl (hb hby at_31) rfl (by decide) ?_
      show Steps p.tables e below (T22.setTop (mkF m 32 #[.val (.int p0), .val (.int p1), .val (.int p2), .val (.int p3), .val (.int (1 : Int32)), .val (.int zv), .val (.ref b22), .unset, .unset] [(.int (zv / (256 : Int32))), (.int (0 : Int32)), (.ref b22)])) _
      refine XS.i2b X22.here hx rfl (hb hby at_32) rfl ?_
      show Steps p.tables e below (T22.setTop (mkF m 33 #[.val (.int p0), .val (.int p1), .val (.int p2), .val (.int p3), .val (.int (1 : Int32)), .val (.int zv), .val (.ref b22), .unset, .unset] [(.int ((zv / (256 : Int32)).toInt8.toInt32)), (.int (0 : Int32)), (.ref b22)])) _
      refine st25 _ ?_
      show Steps p.tables e below (T25.setTop (mkF m 34 #[.val (.int p0), .val (.int p1), .val (.int p2), .val (.int p3), .val (.int (1 : Int32)), .val (.int zv), .val (.ref b22), .unset, .unset] [])) _
      refine XS.iload X25.here hx rfl (hb hby at_34) rfl ?_
      show Steps p.tables e below (T25.setTop (mkF m 36 #[.val (.int p0), .val (.int p1), .val (.int p2), .val (.int p3), .val (.int (1 : Int32)), .val (.int zv), .val (.ref b22), .unset, .unset] [(.int (1 : Int32))])) _
      refine XS.iconst X25.here hx rfl (hb hby at_36) ?_
      show Steps p.tables e below (T25.setTop (mkF m 37 #[.val (.int p0), .val (.int p1), .val (.int p2), .val (.int p3), .val (.int (1 : Int32)), .val (.int zv), .val (.ref b22), .unset, .unset] [(.int (2 : Int32)), (.int (1 : Int32))])) _
      refine XS.icmpYes X25.here hx rfl (pc0 := 37) (pc' := 51) rfl (hb hby at_37) rfl (tlt (by decide : (1 : Int32) < (2 : Int32))).1 (by decide) (by decide) ?_
      show Steps p.tables e below (T25.setTop (mkF m 51 #[.val (.int p0), .val (.int p1), .val (.int p2), .val (.int p3), .val (.int (1 : Int32)), .val (.int zv), .val (.ref b22), .unset, .unset] [])) _
      refine XS.iload X25.here hx rfl (hb hby at_51) rfl ?_
      show Steps p.tables e below (T25.setTop (mkF m 53 #[.val (.int p0), .val (.int p1), .val (.int p2), .val (.int p3), .val (.int (1 : Int32)), .val (.int zv), .val (.ref b22), .unset, .unset] [(.int (1 : Int32))])) _
      refine XS.iconst X25.here hx rfl (hb hby at_53) ?_
      show Steps p.tables e below (T25.setTop (mkF m 54 #[.val (.int p0), .val (.int p1), .val (.int p2), .val (.int p3), .val (.int (1 : Int32)), .val (.int zv), .val (.ref b22), .unset, .unset] [(.int (3 : Int32)), (.int (1 : Int32))])) _
      refine XS.icmpYes X25.here hx rfl (pc0 := 54) (pc' := 63) rfl (hb hby at_54) rfl (tlt (by decide : (1 : Int32) < (3 : Int32))).1 (by decide) (by decide) ?_
      show Steps p.tables e below (T25.setTop (mkF m 63 #[.val (.int p0), .val (.int p1), .val (.int p2), .val (.int p3), .val (.int (1 : Int32)), .val (.int zv), .val (.ref b22), .unset, .unset] [])) _
      refine st28 _ ?_
      show Steps p.tables e below (T28.setTop (mkF m 66 #[.val (.int p0), .val (.int p1), .val (.int p2), .val (.int p3), .val (.int (1 : Int32)), .val (.int zv), .val (.ref b22), .unset, .unset] [(.ref b28)])) _
      refine XS.dup X28.here hx rfl (hb hby at_66) rfl rfl ?_
      show Steps p.tables e below (T28.setTop (mkF m 67 #[.val (.int p0), .val (.int p1), .val (.int p2), .val (.int p3), .val (.int (1 : Int32)), .val (.int zv), .val (.ref b22), .unset, .unset] [(.ref b28), (.ref b28)])) _
      refine XS.iloadN X28.here hx rfl (hb hby at_67) rfl ?_
      show Steps p.tables e below (T28.setTop (mkF m 68 #[.val (.int p0), .val (.int p1), .val (.int p2), .val (.int p3), .val (.int (1 : Int32)), .val (.int zv), .val (.ref b22), .unset, .unset] [(.int p3), (.ref b28), (.ref b28)])) _
      refine XS.aload X28.here hx rfl (hb hby at_68) rfl rfl ?_
      show Steps p.tables e below (T28.setTop (mkF m 70 #[.val (.int p0), .val (.int p1), .val (.int p2), .val (.int p3), .val (.int (1 : Int32)), .val (.int zv), .val (.ref b22), .unset, .unset] [(.ref b22), (.int p3), (.ref b28), (.ref b28)])) _
      refine st34.trans ?_
      show Steps p.tables e below (T34.setTop (mkF m 73 #[.val (.int p0), .val (.int p1), .val (.int p2), .val (.int p3), .val (.int (1 : Int32)), .val (.int zv), .val (.ref b22), .unset, .unset] [(.ref b28)])) _
      refine XS.astore X34.here hx rfl (hb hby at_73) rfl rfl (l' := #[.val (.int p0), .val (.int p1), .val (.int p2), .val (.int p3), .val (.int (1 : Int32)), .val (.int zv), .val (.ref b22), .val (.ref b28), .unset]) rfl ?_
      show Steps p.tables e below (T34.setTop (mkF m 75 #[.val (.int p0), .val (.int p1), .val (.int p2), .val (.int p3), .val (.int (1 : Int32)), .val (.int zv), .val (.ref b22), .val (.ref b28), .unset] [])) _
      refine XS.iload X34.here hx rfl (hb hby at_75) rfl ?_
      show Steps p.tables e below (T34.setTop (mkF m 77 #[.val (.int p0), .val (.int p1), .val (.int p2), .val (.int p3), .val (.int (1 : Int32)), .val (.int zv), .val (.ref b22), .val (.ref b28), .unset] [(.int (1 : Int32))])) _
      refine XS.iconst X34.here hx rfl (hb hby at_77) ?_
      show Steps p.tables e below (T34.setTop (mkF m 78 #[.val (.int p0), .val (.int p1), .val (.int p2), .val (.int p3), .val (.int (1 : Int32)), .val (.int zv), .val (.ref b22), .val (.ref b28), .unset] [(.int (2 : Int32)), (.int (1 : Int32))])) _
      refine XS.icmpNo X34.here hx rfl (hb hby at_78) rfl (tlt (by decide : (1 : Int32) < (2 : Int32))).2.1 ?_
      show Steps p.tables e below (T34.setTop (mkF m 81 #[.val (.int p0), .val (.int p1), .val (.int p2), .val (.int p3), .val (.int (1 : Int32)), .val (.int zv), .val (.ref b22), .val (.ref b28), .unset] [])) _
      refine XS.iconst X34.here hx rfl (hb hby at_81) ?_
      show Steps p.tables e below (T34.setTop (mkF m 82 #[.val (.int p0), .val (.int p1), .val (.int p2), .val (.int p3), .val (.int (1 : Int32)), .val (.int zv), .val (.ref b22), .val (.ref b28), .unset] [(.int (0 : Int32))])) _
      refine XS.goto X34.here hx rfl (pc0 := 82) (pc' := 87) rfl (hb hby at_82) (by decide) (by decide) ?_
      show Steps p.tables e below (T34.setTop (mkF m 87 #[.val (.int p0), .val (.int p1), .val (.int p2), .val (.int p3), .val (.int (1 : Int32)), .val (.int zv), .val (.ref b22), .val (.ref b28), .unset] [(.int (0 : Int32))])) _
      refine XS.istore X34.here hx rfl (hb hby at_87) rfl (l' := #[.val (.int p0), .val (.int p1), .val (.int p2), .val (.int p3), .val (.int (1 : Int32)), .val (.int zv), .val (.ref b22), .val (.ref b28), .val (.int (0 : Int32))]) rfl ?_
      show Steps p.tables e below (T34.setTop (mkF m 89 #[.val (.int p0), .val (.int p1), .val (.int p2), .val (.int p3), .val (.int (1 : Int32)), .val (.int zv), .val (.ref b22), .val (.ref b28), .val (.int (0 : Int32))] [])) _
      refine XS.aload X34.here hx rfl (hb hby at_89) rfl rfl ?_
      show Steps p.tables e below (T34.setTop (mkF m 91 #[.val (.int p0), .val (.int p1), .val (.int p2), .val (.int p3), .val (.int (1 : Int32)), .val (.int zv), .val (.ref b22), .val (.ref b28), .val (.int (0 : Int32))] [(.ref b28)])) _
      refine st42.trans ?_
      show Steps p.tables e below (T42.setTop (mkF m 94 #[.val (.int p0), .val (.int p1), .val (.int p2), .val (.int p3), .val (.int (1 : Int32)), .val (.int zv), .val (.ref b22), .val (.ref b28), .val (.int (0 : Int32))] [(.int (0 : Int32))])) _
      refine XS.iload X42.here hx rfl (hb hby at_94) rfl ?_
      show Steps p.tables e below (T42.setTop (mkF m 96 #[.val (.int p0), .val (.int p1), .val (.int p2), .val (.int p3), .val (.int (1 : Int32)), .val (.int zv), .val (.ref b22), .val (.ref b28), .val (.int (0 : Int32))] [(.int (0 : Int32)), (.int (0 : Int32))])) _
      refine XS.icmpNo X42.here hx rfl (hb hby at_96) rfl (teq (by decide : (0 : Int32) = (0 : Int32))).2 ?_
      show Steps p.tables e below (T42.setTop (mkF m 99 #[.val (.int p0), .val (.int p1), .val (.int p2), .val (.int p3), .val (.int (1 : Int32)), .val (.int zv), .val (.ref b22), .val (.ref b28), .val (.int (0 : Int32))] [])) _
      refine XS.iconst X42.here hx rfl (hb hby at_99) ?_
      show Steps p.tables e below (T42.setTop (mkF m 100 #[.val (.int p0), .val (.int p1), .val (.int p2), .val (.int p3), .val (.int (1 : Int32)), .val (.int zv), .val (.ref b22), .val (.ref b28), .val (.int (0 : Int32))] [(.int (1 : Int32))])) _
      refine XS.goto X42.here hx rfl (pc0 := 100) (pc' := 104) rfl (hb hby at_100) (by decide) (by decide) ?_
      show Steps p.tables e below (T42.setTop (mkF m 104 #[.val (.int p0), .val (.int p1), .val (.int p2), .val (.int p3), .val (.int (1 : Int32)), .val (.int zv), .val (.ref b22), .val (.ref b28), .val (.int (0 : Int32))] [(.int (1 : Int32))])) _
      exact retN X42 hx (t := .boolean) Bd.returns (by simp) (hb hby at_104) hr
    · show Q0 Z p0 p1 p2 p3 h0 n0 _ T42.heap _
      rw [R43]
      exact ⟨rfl, N42⟩
  · obtain ⟨T44, h44, k44, X44, e44, E44, A44, st44⟩ := newP X0 hx hZ (hw _ (List.mem_of_getElem? (i := 1) rfl)) e0 (g := (mkF m 13 #[.val (.int p0), .val (.int p1), .val (.int p2), .val (.int p3), .val (.int (2 : Int32)), .val (.int zv), .unset, .unset, .unset] [(.int (2 : Int32))])) rfl (hb hby at_13) rfl (by decide) (cap := 2) (by decide) (by decide) (by decide) (by decide)
    obtain ⟨b44, g44⟩ : ∃ z, z = h0.size := ⟨_, rfl⟩
    rw [← g44] at A44 st44
    have g_b44 : n0 ≤ b44 := Nat.le_trans Z0 (Nat.le_of_eq g44.symm)
    have Z45 : n0 ≤ h44.size := Nat.le_trans Z0 E44.1
    have V44 : Arv Z h44 b44 k44 .byte (2 : Int32) [(.int (0 : Int32)), (.int (0 : Int32))] (.int (0 : Int32)) := (Arv.new A44 (by decide)).pad (pad_rep [] (.int (0 : Int32)) 2)
    obtain ⟨co46, Ao46, qo46, So46, Mo46, Bo46, Go46⟩ := id V44
    obtain ⟨T47, h47, X47, e47, W47, st47⟩ := stB X44 hx hZ e44 Ao46 (j := (0 : Int32)) (inb_of So46 ⟨(by decide), (by decide)⟩) (g := (mkF m 33 #[.val (.int p0), .val (.int p1), .val (.int p2), .val (.int p3), .val (.int (2 : Int32)), .val (.int zv), .val (.ref b44), .unset, .unset] [(.int ((zv / (256 : Int32)).toInt8.toInt32)), (.int (0 : Int32)), (.ref b44)])) rfl rfl (hb hby at_33)
    have V47 : Arv Z h47 b44 k44 .byte (2 : Int32) [(.int (nar .byte ((zv / (256 : Int32)).toInt8.toInt32))), (.int (0 : Int32))] (.int (0 : Int32)) := Arv.set Ao46 qo46 So46 Mo46 Bo46 Go46 (fits_nar_byte _) W47 0 rfl (Nat.le_of_ble_eq_true rfl)
    have Z48 : n0 ≤ h47.size := Nat.le_trans Z45 (Keep.of_wr W47).1
    have N49 := Fr.snoc X47 N0 g_b44
    obtain ⟨co50, Ao50, qo50, So50, Mo50, Bo50, Go50⟩ := id V47
    obtain ⟨T51, h51, X51, e51, W51, st51⟩ := stB X47 hx hZ e47 Ao50 (j := (1 : Int32)) (inb_of So50 ⟨(by decide), (by decide)⟩) (g := (mkF m 50 #[.val (.int p0), .val (.int p1), .val (.int p2), .val (.int p3), .val (.int (2 : Int32)), .val (.int zv), .val (.ref b44), .unset, .unset] [(.int ((zv % (256 : Int32)).toInt8.toInt32)), (.int (1 : Int32)), (.ref b44)])) rfl rfl (hb hby at_50)
    have V51 : Arv Z h51 b44 k44 .byte (2 : Int32) [(.int (nar .byte ((zv / (256 : Int32)).toInt8.toInt32))), (.int (nar .byte ((zv % (256 : Int32)).toInt8.toInt32)))] (.int (0 : Int32)) := Arv.set Ao50 qo50 So50 Mo50 Bo50 Go50 (fits_nar_byte _) W51 1 rfl (Nat.le_of_ble_eq_true rfl)
    have Z52 : n0 ≤ h51.size := Nat.le_trans Z48 (Keep.of_wr W51).1
    have N53 := Fr.snoc X51 N49 g_b44
    obtain ⟨T54, h54, X54, e54, E54, A54, D54, -, st54⟩ := newO X51 hx hZ hown (hw _ (List.mem_of_getElem? (i := 2) rfl)) (hw _ (List.mem_of_getElem? (i := 3) rfl)) (hw _ (List.mem_of_getElem? (i := 4) rfl)) e51 (g := (mkF m 63 #[.val (.int p0), .val (.int p1), .val (.int p2), .val (.int p3), .val (.int (2 : Int32)), .val (.int zv), .val (.ref b44), .unset, .unset] [])) rfl (hb hby at_63) (by decide) (by decide)
    obtain ⟨b54, g54⟩ : ∃ z, z = h51.size := ⟨_, rfl⟩
    rw [← g54] at A54 D54 st54
    have ne55 : b44 ≠ b54 := Nat.ne_of_lt (Nat.lt_of_lt_of_le V51.lt (Nat.le_of_eq g54.symm))
    have g_b54 : n0 ≤ b54 := Nat.le_trans Z52 (Nat.le_of_eq g54.symm)
    have F56 : Arv Z h54 b44 k44 .byte (2 : Int32) [(.int (nar .byte ((zv / (256 : Int32)).toInt8.toInt32))), (.int (nar .byte ((zv % (256 : Int32)).toInt8.toInt32)))] (.int (0 : Int32)) := V51.ext E54
    have Z57 : n0 ≤ h54.size := Nat.le_trans Z52 E54.1
    have F58 : Fld Z h54 b54 "com/example/tapewire/tapewire/protocol/WebSocket$Frame" "opcode" "I" (.int (0 : Int32)) := D54 (Or.inr (hw _ (List.mem_of_getElem? (i := 17) rfl))) (ty := .int) (by decide)
    have F59 : Fld Z h54 b54 "com/example/tapewire/tapewire/protocol/WebSocket$Frame" "payload" "[B" .null := D54 (Or.inr (hw _ (List.mem_of_getElem? (i := 19) rfl))) (ty := (.array .byte)) (by decide)
    obtain ⟨_, _, ⟨T60, L60, k60, n60⟩, -, X60, ⟨Lc60, hQ60, l60, y60, z60⟩, st60⟩ := X54.specialBack hx (y := (⟨"com/example/tapewire/tapewire/protocol/WebSocket$Frame", "<init>", "(I[B)V"⟩ : MethodName)) rfl hown (mvT hZ (hw _ (List.mem_of_getElem? (i := 5) rfl))) (mvT hZ (hw _ (List.mem_of_getElem? (i := 6) rfl))) (mvT hZ (hw _ (List.mem_of_getElem? (i := 7) rfl))) (by decide) (backOf (W := 1) (rm1 l Z a0 hw [] b54 p3 b44 h54 n0 Z57 A54 g_b54 F58 F59) hZ (hw _ (List.mem_of_getElem? (i := 7) rfl)) (hw _ (List.mem_of_getElem? (i := 4) rfl)) (by decide) (by decide)) (g := (mkF m 70 #[.val (.int p0), .val (.int p1), .val (.int p2), .val (.int p3), .val (.int (2 : Int32)), .val (.int zv), .val (.ref b44), .unset, .unset] [(.ref b44), (.int p3), (.ref b54), (.ref b54)])) rfl (by rw [hml]; rfl) (Steps.refl _) (a := b54) (argsL := [(.int p3), (.ref b44)]) (rest := [(.ref b54)]) (lenOf pd_1 rfl) rfl (by show 2 * 0 + _ ≤ _; exact Nat.le_of_eq rfl) (hb hby at_70) (fun _ _ => ⟨rfl, e54, (by decide : 2 + 0 ≤ _), (by decide : 4 + 0 ≤ _)⟩)
    dsimp only [Pt.U, Pt.locs, Pt.cells, Pt.slots] at X60 l60 y60 z60 st60 hQ60
    subst l60 y60 z60
    obtain ⟨rfl, N60q, R61, R62, R63, R64⟩ := hQ60
    have N60 := Fr.app N53 N60q
    have F65 : Arv Z T60.heap b44 k44 .byte (2 : Int32) [(.int (nar .byte ((zv / (256 : Int32)).toInt8.toInt32))), (.int (nar .byte ((zv % (256 : Int32)).toInt8.toInt32)))] (.int (0 : Int32)) := F56.keep R61 (ninS ne55 nin0)
    have F66 : Exa Z T60.heap b54 "com/example/tapewire/tapewire/protocol/WebSocket$Frame" := A54.keep R61
    have Z67 : n0 ≤ T60.heap.size := Nat.le_trans Z57 R61.1
    obtain ⟨cq68, kq68, q68a, q68b, q68c⟩ := isOf hZ rfl R62
    obtain ⟨_, _, ⟨T68, L68, k68, n68⟩, -, X68, ⟨Lc68, hQ68, l68, y68, z68⟩, st68⟩ := X60.virtualBack hx (y := (⟨"com/example/tapewire/tapewire/protocol/WebSocket$Frame", "closeCode", "()I"⟩ : MethodName)) (z := (⟨"com/example/tapewire/tapewire/protocol/WebSocket$Frame", "closeCode", "()I"⟩ : MethodName)) hown (mvT hZ (hw _ (List.mem_of_getElem? (i := 20) rfl))) (mvT hZ (hw _ (List.mem_of_getElem? (i := 21) rfl))) (notFace_of_selects (args := #[]) (mvT hZ (hw _ (List.mem_of_getElem? (i := 23) rfl)))) (mvT hZ (hw _ (List.mem_of_getElem? (i := 23) rfl))) (mvT hZ (hw _ (List.mem_of_getElem? (i := 22) rfl))) (by decide) (backOf (W := 0) (rm4_2 l Z a0 hw [] b54 b44 k44 (nar .byte ((zv / (256 : Int32)).toInt8.toInt32)) (nar .byte ((zv % (256 : Int32)).toInt8.toInt32)) T60.heap n0 Z67 R64 F65) hZ (hw _ (List.mem_of_getElem? (i := 24) rfl)) (hw _ (List.mem_of_getElem? (i := 4) rfl)) (by decide) (by decide)) q68a q68c (g := (mkF m 91 #[.val (.int p0), .val (.int p1), .val (.int p2), .val (.int p3), .val (.int (2 : Int32)), .val (.int zv), .val (.ref b44), .val (.ref b54), .val (.int zv)] [(.ref b54)])) rfl (by rw [hml]; rfl) (Steps.refl _) (argsL := []) (rest := []) (lenOf pd_2 rfl) rfl (by show 2 * 0 + _ ≤ _; exact Nat.le_of_eq rfl) (hb hby at_91) (fun _ _ => ⟨rfl, rfl, (by decide : 2 + 0 ≤ _), (by decide : 4 + 0 ≤ _)⟩)
    dsimp only [Pt.U, Pt.locs, Pt.cells, Pt.slots] at X68 l68 y68 z68 st68 hQ68
    subst l68 y68 z68
    obtain ⟨rfl, N68q, R69⟩ := hQ68
    have N68 := Fr.app N60 N68q
    have hc96_70 : ((((nar .byte ((zv / (256 : Int32)).toInt8.toInt32)) &&& (255 : Int32)) <<< ((8 : Int32) &&& 31)) ||| ((nar .byte ((zv % (256 : Int32)).toInt8.toInt32)) &&& (255 : Int32))) = zv := own_code zv (by omega) (by omega)
    obtain ⟨fs, hr, hrun, hended, hW, hsame⟩ := X68.leave (v := some (.int (1 : Int32))) (fun h => by rw [Bd.returns] at h; cases h)
    refine ⟨_, _, P3 _ ?_, hrun, hended, _, _, rfl, ?_, ⟨_, rfl⟩, hW, hsame.mono (by decide) (by decide)⟩
    · show Steps p.tables e below (s₁.setTop (mkF m 11 #[.val (.int p0), .val (.int p1), .val (.int p2), .val (.int p3), .val (.int (2 : Int32)), .val (.int zv), .unset, .unset, .unset] [])) _
      refine XS.iload X0.here hx rfl (hb hby at_11) rfl ?_
      show Steps p.tables e below (s₁.setTop (mkF m 13 #[.val (.int p0), .val (.int p1), .val (.int p2), .val (.int p3), .val (.int (2 : Int32)), .val (.int zv), .unset, .unset, .unset] [(.int (2 : Int32))])) _
      refine st44 _ ?_
      show Steps p.tables e below (T44.setTop (mkF m 15 #[.val (.int p0), .val (.int p1), .val (.int p2), .val (.int p3), .val (.int (2 : Int32)), .val (.int zv), .unset, .unset, .unset] [(.ref b44)])) _
      refine XS.astore X44.here hx rfl (hb hby at_15) rfl rfl (l' := #[.val (.int p0), .val (.int p1), .val (.int p2), .val (.int p3), .val (.int (2 : Int32)), .val (.int zv), .val (.ref b44), .unset, .unset]) rfl ?_
      show Steps p.tables e below (T44.setTop (mkF m 17 #[.val (.int p0), .val (.int p1), .val (.int p2), .val (.int p3), .val (.int (2 : Int32)), .val (.int zv), .val (.ref b44), .unset, .unset] [])) _
      refine XS.iload X44.here hx rfl (hb hby at_17) rfl ?_
      show Steps p.tables e below (T44.setTop (mkF m 19 #[.val (.int p0), .val (.int p1), .val (.int p2), .val (.int p3), .val (.int (2 : Int32)), .val (.int zv), .val (.ref b44), .unset, .unset] [(.int (2 : Int32))])) _
      refine XS.iconst X44.here hx rfl (hb hby at_19) ?_
      show Steps p.tables e below (T44.setTop (mkF m 20 #[.val (.int p0), .val (.int p1), .val (.int p2), .val (.int p3), .val (.int (2 : Int32)), .val (.int zv), .val (.ref b44), .unset, .unset] [(.int (1 : Int32)), (.int (2 : Int32))])) _
      refine XS.icmpNo X44.here hx rfl (hb hby at_20) rfl (flt (by decide : ¬ ((2 : Int32) < (1 : Int32)))).1 ?_
      show Steps p.tables e below (T44.setTop (mkF m 23 #[.val (.int p0), .val (.int p1), .val (.int p2), .val (.int p3), .val (.int (2 : Int32)), .val (.int zv), .val (.ref b44), .unset, .unset] [])) _
      refine XS.aload X44.here hx rfl (hb hby at_23) rfl rfl ?_
      show Steps p.tables e below (T44.setTop (mkF m 25 #[.val (.int p0), .val (.int p1), .val (.int p2), .val (.int p3), .val (.int (2 : Int32)), .val (.int zv), .val (.ref b44), .unset, .unset] [(.ref b44)])) _
      refine XS.iconst X44.here hx rfl (hb hby at_25) ?_
      show Steps p.tables e below (T44.setTop (mkF m 26 #[.val (.int p0), .val (.int p1), .val (.int p2), .val (.int p3), .val (.int (2 : Int32)), .val (.int zv), .val (.ref b44), .unset, .unset] [(.int (0 : Int32)), (.ref b44)])) _
      refine XS.iload X44.here hx rfl (hb hby at_26) rfl ?_
      show Steps p.tables e below (T44.setTop (mkF m 28 #[.val (.int p0), .val (.int p1), .val (.int p2), .val (.int p3), .val (.int (2 : Int32)), .val (.int zv), .val (.ref b44), .unset, .unset] [(.int zv), (.int (0 : Int32)), (.ref b44)])) _
      refine XS.sipush X44.here hx rfl (hb hby at_28) ?_
      show Steps p.tables e below (T44.setTop (mkF m 31 #[.val (.int p0), .val (.int p1), .val (.int p2), .val (.int p3), .val (.int (2 : Int32)), .val (.int zv), .val (.ref b44), .unset, .unset] [(.int (256 : Int32)), (.int zv), (.int (0 : Int32)), (.ref b44)])) _
      refine XS.idiv X44.here hx rfl (hb hby at_31) rfl (by decide) ?_
      show Steps p.tables e below (T44.setTop (mkF m 32 #[.val (.int p0), .val (.int p1), .val (.int p2), .val (.int p3), .val (.int (2 : Int32)), .val (.int zv), .val (.ref b44), .unset, .unset] [(.int (zv / (256 : Int32))), (.int (0 : Int32)), (.ref b44)])) _
      refine XS.i2b X44.here hx rfl (hb hby at_32) rfl ?_
      show Steps p.tables e below (T44.setTop (mkF m 33 #[.val (.int p0), .val (.int p1), .val (.int p2), .val (.int p3), .val (.int (2 : Int32)), .val (.int zv), .val (.ref b44), .unset, .unset] [(.int ((zv / (256 : Int32)).toInt8.toInt32)), (.int (0 : Int32)), (.ref b44)])) _
      refine st47 _ ?_
      show Steps p.tables e below (T47.setTop (mkF m 34 #[.val (.int p0), .val (.int p1), .val (.int p2), .val (.int p3), .val (.int (2 : Int32)), .val (.int zv), .val (.ref b44), .unset, .unset] [])) _
      refine XS.iload X47.here hx rfl (hb hby at_34) rfl ?_
      show Steps p.tables e below (T47.setTop (mkF m 36 #[.val (.int p0), .val (.int p1), .val (.int p2), .val (.int p3), .val (.int (2 : Int32)), .val (.int zv), .val (.ref b44), .unset, .unset] [(.int (2 : Int32))])) _
      refine XS.iconst X47.here hx rfl (hb hby at_36) ?_
      show Steps p.tables e below (T47.setTop (mkF m 37 #[.val (.int p0), .val (.int p1), .val (.int p2), .val (.int p3), .val (.int (2 : Int32)), .val (.int zv), .val (.ref b44), .unset, .unset] [(.int (2 : Int32)), (.int (2 : Int32))])) _
      refine XS.icmpNo X47.here hx rfl (hb hby at_37) rfl (flt (by decide : ¬ ((2 : Int32) < (2 : Int32)))).1 ?_
      show Steps p.tables e below (T47.setTop (mkF m 40 #[.val (.int p0), .val (.int p1), .val (.int p2), .val (.int p3), .val (.int (2 : Int32)), .val (.int zv), .val (.ref b44), .unset, .unset] [])) _
      refine XS.aload X47.here hx rfl (hb hby at_40) rfl rfl ?_
      show Steps p.tables e below (T47.setTop (mkF m 42 #[.val (.int p0), .val (.int p1), .val (.int p2), .val (.int p3), .val (.int (2 : Int32)), .val (.int zv), .val (.ref b44), .unset, .unset] [(.ref b44)])) _
      refine XS.iconst X47.here hx rfl (hb hby at_42) ?_
      show Steps p.tables e below (T47.setTop (mkF m 43 #[.val (.int p0), .val (.int p1), .val (.int p2), .val (.int p3), .val (.int (2 : Int32)), .val (.int zv), .val (.ref b44), .unset, .unset] [(.int (1 : Int32)), (.ref b44)])) _
      refine XS.iload X47.here hx rfl (hb hby at_43) rfl ?_
      show Steps p.tables e below (T47.setTop (mkF m 45 #[.val (.int p0), .val (.int p1), .val (.int p2), .val (.int p3), .val (.int (2 : Int32)), .val (.int zv), .val (.ref b44), .unset, .unset] [(.int zv), (.int (1 : Int32)), (.ref b44)])) _
      refine XS.sipush X47.here hx rfl (hb hby at_45) ?_
      show Steps p.tables e below (T47.setTop (mkF m 48 #[.val (.int p0), .val (.int p1), .val (.int p2), .val (.int p3), .val (.int (2 : Int32)), .val (.int zv), .val (.ref b44), .unset, .unset] [(.int (256 : Int32)), (.int zv), (.int (1 : Int32)), (.ref b44)])) _
      refine iremM X47 hx rfl (hb hby at_48) rfl (by decide) ?_
      show Steps p.tables e below (T47.setTop (mkF m 49 #[.val (.int p0), .val (.int p1), .val (.int p2), .val (.int p3), .val (.int (2 : Int32)), .val (.int zv), .val (.ref b44), .unset, .unset] [(.int (zv % (256 : Int32))), (.int (1 : Int32)), (.ref b44)])) _
      refine XS.i2b X47.here hx rfl (hb hby at_49) rfl ?_
      show Steps p.tables e below (T47.setTop (mkF m 50 #[.val (.int p0), .val (.int p1), .val (.int p2), .val (.int p3), .val (.int (2 : Int32)), .val (.int zv), .val (.ref b44), .unset, .unset] [(.int ((zv % (256 : Int32)).toInt8.toInt32)), (.int (1 : Int32)), (.ref b44)])) _
      refine st51 _ ?_
      show Steps p.tables e below (T51.setTop (mkF m 51 #[.val (.int p0), .val (.int p1), .val (.int p2), .val (.int p3), .val (.int (2 : Int32)), .val (.int zv), .val (.ref b44), .unset, .unset] [])) _
      refine XS.iload X51.here hx rfl (hb hby at_51) rfl ?_
      show Steps p.tables e below (T51.setTop (mkF m 53 #[.val (.int p0), .val (.int p1), .val (.int p2), .val (.int p3), .val (.int (2 : Int32)), .val (.int zv), .val (.ref b44), .unset, .unset] [(.int (2 : Int32))])) _
      refine XS.iconst X51.here hx rfl (hb hby at_53) ?_
      show Steps p.tables e below (T51.setTop (mkF m 54 #[.val (.int p0), .val (.int p1), .val (.int p2), .val (.int p3), .val (.int (2 : Int32)), .val (.int zv), .val (.ref b44), .unset, .unset] [(.int (3 : Int32)), (.int (2 : Int32))])) _
      refine XS.icmpYes X51.here hx rfl (pc0 := 54) (pc' := 63) rfl (hb hby at_54) rfl (tlt (by decide : (2 : Int32) < (3 : Int32))).1 (by decide) (by decide) ?_
      show Steps p.tables e below (T51.setTop (mkF m 63 #[.val (.int p0), .val (.int p1), .val (.int p2), .val (.int p3), .val (.int (2 : Int32)), .val (.int zv), .val (.ref b44), .unset, .unset] [])) _
      refine st54 _ ?_
      show Steps p.tables e below (T54.setTop (mkF m 66 #[.val (.int p0), .val (.int p1), .val (.int p2), .val (.int p3), .val (.int (2 : Int32)), .val (.int zv), .val (.ref b44), .unset, .unset] [(.ref b54)])) _
      refine XS.dup X54.here hx rfl (hb hby at_66) rfl rfl ?_
      show Steps p.tables e below (T54.setTop (mkF m 67 #[.val (.int p0), .val (.int p1), .val (.int p2), .val (.int p3), .val (.int (2 : Int32)), .val (.int zv), .val (.ref b44), .unset, .unset] [(.ref b54), (.ref b54)])) _
      refine XS.iloadN X54.here hx rfl (hb hby at_67) rfl ?_
      show Steps p.tables e below (T54.setTop (mkF m 68 #[.val (.int p0), .val (.int p1), .val (.int p2), .val (.int p3), .val (.int (2 : Int32)), .val (.int zv), .val (.ref b44), .unset, .unset] [(.int p3), (.ref b54), (.ref b54)])) _
      refine XS.aload X54.here hx rfl (hb hby at_68) rfl rfl ?_
      show Steps p.tables e below (T54.setTop (mkF m 70 #[.val (.int p0), .val (.int p1), .val (.int p2), .val (.int p3), .val (.int (2 : Int32)), .val (.int zv), .val (.ref b44), .unset, .unset] [(.ref b44), (.int p3), (.ref b54), (.ref b54)])) _
      refine st60.trans ?_
      show Steps p.tables e below (T60.setTop (mkF m 73 #[.val (.int p0), .val (.int p1), .val (.int p2), .val (.int p3), .val (.int (2 : Int32)), .val (.int zv), .val (.ref b44), .unset, .unset] [(.ref b54)])) _
      refine XS.astore X60.here hx rfl (hb hby at_73) rfl rfl (l' := #[.val (.int p0), .val (.int p1), .val (.int p2), .val (.int p3), .val (.int (2 : Int32)), .val (.int zv), .val (.ref b44), .val (.ref b54), .unset]) rfl ?_
      show Steps p.tables e below (T60.setTop (mkF m 75 #[.val (.int p0), .val (.int p1), .val (.int p2), .val (.int p3), .val (.int (2 : Int32)), .val (.int zv), .val (.ref b44), .val (.ref b54), .unset] [])) _
      refine XS.iload X60.here hx rfl (hb hby at_75) rfl ?_
      show Steps p.tables e below (T60.setTop (mkF m 77 #[.val (.int p0), .val (.int p1), .val (.int p2), .val (.int p3), .val (.int (2 : Int32)), .val (.int zv), .val (.ref b44), .val (.ref b54), .unset] [(.int (2 : Int32))])) _
      refine XS.iconst X60.here hx rfl (hb hby at_77) ?_
      show Steps p.tables e below (T60.setTop (mkF m 78 #[.val (.int p0), .val (.int p1), .val (.int p2), .val (.int p3), .val (.int (2 : Int32)), .val (.int zv), .val (.ref b44), .val (.ref b54), .unset] [(.int (2 : Int32)), (.int (2 : Int32))])) _
      refine XS.icmpYes X60.here hx rfl (pc0 := 78) (pc' := 85) rfl (hb hby at_78) rfl (flt (by decide : ¬ ((2 : Int32) < (2 : Int32)))).2.1 (by decide) (by decide) ?_
      show Steps p.tables e below (T60.setTop (mkF m 85 #[.val (.int p0), .val (.int p1), .val (.int p2), .val (.int p3), .val (.int (2 : Int32)), .val (.int zv), .val (.ref b44), .val (.ref b54), .unset] [])) _
      refine XS.iload X60.here hx rfl (hb hby at_85) rfl ?_
      show Steps p.tables e below (T60.setTop (mkF m 87 #[.val (.int p0), .val (.int p1), .val (.int p2), .val (.int p3), .val (.int (2 : Int32)), .val (.int zv), .val (.ref b44), .val (.ref b54), .unset] [(.int zv)])) _
      refine XS.istore X60.here hx rfl (hb hby at_87) rfl (l' := #[.val (.int p0), .val (.int p1), .val (.int p2), .val (.int p3), .val (.int (2 : Int32)), .val (.int zv), .val (.ref b44), .val (.ref b54), .val (.int zv)]) rfl ?_
      show Steps p.tables e below (T60.setTop (mkF m 89 #[.val (.int p0), .val (.int p1), .val (.int p2), .val (.int p3), .val (.int (2 : Int32)), .val (.int zv), .val (.ref b44), .val (.ref b54), .val (.int zv)] [])) _
      refine XS.aload X60.here hx rfl (hb hby at_89) rfl rfl ?_
      show Steps p.tables e below (T60.setTop (mkF m 91 #[.val (.int p0), .val (.int p1), .val (.int p2), .val (.int p3), .val (.int (2 : Int32)), .val (.int zv), .val (.ref b44), .val (.ref b54), .val (.int zv)] [(.ref b54)])) _
      refine st68.trans ?_
      show Steps p.tables e below (T68.setTop (mkF m 94 #[.val (.int p0), .val (.int p1), .val (.int p2), .val (.int p3), .val (.int (2 : Int32)), .val (.int zv), .val (.ref b44), .val (.ref b54), .val (.int zv)] [(.int ((((nar .byte ((zv / (256 : Int32)).toInt8.toInt32)) &&& (255 : Int32)) <<< ((8 : Int32) &&& 31)) ||| ((nar .byte ((zv % (256 : Int32)).toInt8.toInt32)) &&& (255 : Int32))))])) _
      refine XS.iload X68.here hx rfl (hb hby at_94) rfl ?_
      show Steps p.tables e below (T68.setTop (mkF m 96 #[.val (.int p0), .val (.int p1), .val (.int p2), .val (.int p3), .val (.int (2 : Int32)), .val (.int zv), .val (.ref b44), .val (.ref b54), .val (.int zv)] [(.int zv), (.int ((((nar .byte ((zv / (256 : Int32)).toInt8.toInt32)) &&& (255 : Int32)) <<< ((8 : Int32) &&& 31)) ||| ((nar .byte ((zv % (256 : Int32)).toInt8.toInt32)) &&& (255 : Int32))))])) _
      refine XS.icmpNo X68.here hx rfl (hb hby at_96) rfl (teq hc96_70).2 ?_
      show Steps p.tables e below (T68.setTop (mkF m 99 #[.val (.int p0), .val (.int p1), .val (.int p2), .val (.int p3), .val (.int (2 : Int32)), .val (.int zv), .val (.ref b44), .val (.ref b54), .val (.int zv)] [])) _
      refine XS.iconst X68.here hx rfl (hb hby at_99) ?_
      show Steps p.tables e below (T68.setTop (mkF m 100 #[.val (.int p0), .val (.int p1), .val (.int p2), .val (.int p3), .val (.int (2 : Int32)), .val (.int zv), .val (.ref b44), .val (.ref b54), .val (.int zv)] [(.int (1 : Int32))])) _
      refine XS.goto X68.here hx rfl (pc0 := 100) (pc' := 104) rfl (hb hby at_100) (by decide) (by decide) ?_
      show Steps p.tables e below (T68.setTop (mkF m 104 #[.val (.int p0), .val (.int p1), .val (.int p2), .val (.int p3), .val (.int (2 : Int32)), .val (.int zv), .val (.ref b44), .val (.ref b54), .val (.int zv)] [(.int (1 : Int32))])) _
      exact retN X68 hx (t := .boolean) Bd.returns (by simp) (hb hby at_104) hr
    · show Q0 Z p0 p1 p2 p3 h0 n0 _ T68.heap _
      rw [R69]
      exact ⟨rfl, N68⟩
  · obtain ⟨T71, h71, k71, X71, e71, E71, A71, st71⟩ := newP X0 hx hZ (hw _ (List.mem_of_getElem? (i := 1) rfl)) e0 (g := (mkF m 13 #[.val (.int p0), .val (.int p1), .val (.int p2), .val (.int p3), .val (.int (3 : Int32)), .val (.int zv), .unset, .unset, .unset] [(.int (3 : Int32))])) rfl (hb hby at_13) rfl (by decide) (cap := 3) (by decide) (by decide) (by decide) (by decide)
    obtain ⟨b71, g71⟩ : ∃ z, z = h0.size := ⟨_, rfl⟩
    rw [← g71] at A71 st71
    have g_b71 : n0 ≤ b71 := Nat.le_trans Z0 (Nat.le_of_eq g71.symm)
    have Z72 : n0 ≤ h71.size := Nat.le_trans Z0 E71.1
    have V71 : Arv Z h71 b71 k71 .byte (3 : Int32) [(.int (0 : Int32)), (.int (0 : Int32)), (.int (0 : Int32))] (.int (0 : Int32)) := (Arv.new A71 (by decide)).pad (pad_rep [] (.int (0 : Int32)) 3)
    obtain ⟨co73, Ao73, qo73, So73, Mo73, Bo73, Go73⟩ := id V71
    obtain ⟨T74, h74, X74, e74, W74, st74⟩ := stB X71 hx hZ e71 Ao73 (j := (0 : Int32)) (inb_of So73 ⟨(by decide), (by decide)⟩) (g := (mkF m 33 #[.val (.int p0), .val (.int p1), .val (.int p2), .val (.int p3), .val (.int (3 : Int32)), .val (.int zv), .val (.ref b71), .unset, .unset] [(.int ((zv / (256 : Int32)).toInt8.toInt32)), (.int (0 : Int32)), (.ref b71)])) rfl rfl (hb hby at_33)
    have V74 : Arv Z h74 b71 k71 .byte (3 : Int32) [(.int (nar .byte ((zv / (256 : Int32)).toInt8.toInt32))), (.int (0 : Int32)), (.int (0 : Int32))] (.int (0 : Int32)) := Arv.set Ao73 qo73 So73 Mo73 Bo73 Go73 (fits_nar_byte _) W74 0 rfl (Nat.le_of_ble_eq_true rfl)
    have Z75 : n0 ≤ h74.size := Nat.le_trans Z72 (Keep.of_wr W74).1
    have N76 := Fr.snoc X74 N0 g_b71
    obtain ⟨co77, Ao77, qo77, So77, Mo77, Bo77, Go77⟩ := id V74
    obtain ⟨T78, h78, X78, e78, W78, st78⟩ := stB X74 hx hZ e74 Ao77 (j := (1 : Int32)) (inb_of So77 ⟨(by decide), (by decide)⟩) (g := (mkF m 50 #[.val (.int p0), .val (.int p1), .val (.int p2), .val (.int p3), .val (.int (3 : Int32)), .val (.int zv), .val (.ref b71), .unset, .unset] [(.int ((zv % (256 : Int32)).toInt8.toInt32)), (.int (1 : Int32)), (.ref b71)])) rfl rfl (hb hby at_50)
    have V78 : Arv Z h78 b71 k71 .byte (3 : Int32) [(.int (nar .byte ((zv / (256 : Int32)).toInt8.toInt32))), (.int (nar .byte ((zv % (256 : Int32)).toInt8.toInt32))), (.int (0 : Int32))] (.int (0 : Int32)) := Arv.set Ao77 qo77 So77 Mo77 Bo77 Go77 (fits_nar_byte _) W78 1 rfl (Nat.le_of_ble_eq_true rfl)
    have Z79 : n0 ≤ h78.size := Nat.le_trans Z75 (Keep.of_wr W78).1
    have N80 := Fr.snoc X78 N76 g_b71
    obtain ⟨co81, Ao81, qo81, So81, Mo81, Bo81, Go81⟩ := id V78
    obtain ⟨T82, h82, X82, e82, W82, st82⟩ := stB X78 hx hZ e78 Ao81 (j := (2 : Int32)) (inb_of So81 ⟨(by decide), (by decide)⟩) (g := (mkF m 62 #[.val (.int p0), .val (.int p1), .val (.int p2), .val (.int p3), .val (.int (3 : Int32)), .val (.int zv), .val (.ref b71), .unset, .unset] [(.int (p2.toInt8.toInt32)), (.int (2 : Int32)), (.ref b71)])) rfl rfl (hb hby at_62)
    have V82 : Arv Z h82 b71 k71 .byte (3 : Int32) [(.int (nar .byte ((zv / (256 : Int32)).toInt8.toInt32))), (.int (nar .byte ((zv % (256 : Int32)).toInt8.toInt32))), (.int (nar .byte (p2.toInt8.toInt32)))] (.int (0 : Int32)) := Arv.set Ao81 qo81 So81 Mo81 Bo81 Go81 (fits_nar_byte _) W82 2 rfl (Nat.le_of_ble_eq_true rfl)
    have Z83 : n0 ≤ h82.size := Nat.le_trans Z79 (Keep.of_wr W82).1
    have N84 := Fr.snoc X82 N80 g_b71
    obtain ⟨T85, h85, X85, e85, E85, A85, D85, -, st85⟩ := newO X82 hx hZ hown (hw _ (List.mem_of_getElem? (i := 2) rfl)) (hw _ (List.mem_of_getElem? (i := 3) rfl)) (hw _ (List.mem_of_getElem? (i := 4) rfl)) e82 (g := (mkF m 63 #[.val (.int p0), .val (.int p1), .val (.int p2), .val (.int p3), .val (.int (3 : Int32)), .val (.int zv), .val (.ref b71), .unset, .unset] [])) rfl (hb hby at_63) (by decide) (by decide)
    obtain ⟨b85, g85⟩ : ∃ z, z = h82.size := ⟨_, rfl⟩
    rw [← g85] at A85 D85 st85
    have ne86 : b71 ≠ b85 := Nat.ne_of_lt (Nat.lt_of_lt_of_le V82.lt (Nat.le_of_eq g85.symm))
    have g_b85 : n0 ≤ b85 := Nat.le_trans Z83 (Nat.le_of_eq g85.symm)
    have F87 : Arv Z h85 b71 k71 .byte (3 : Int32) [(.int (nar .byte ((zv / (256 : Int32)).toInt8.toInt32))), (.int (nar .byte ((zv % (256 : Int32)).toInt8.toInt32))), (.int (nar .byte (p2.toInt8.toInt32)))] (.int (0 : Int32)) := V82.ext E85
    have Z88 : n0 ≤ h85.size := Nat.le_trans Z83 E85.1
    have F89 : Fld Z h85 b85 "com/example/tapewire/tapewire/protocol/WebSocket$Frame" "opcode" "I" (.int (0 : Int32)) := D85 (Or.inr (hw _ (List.mem_of_getElem? (i := 17) rfl))) (ty := .int) (by decide)
    have F90 : Fld Z h85 b85 "com/example/tapewire/tapewire/protocol/WebSocket$Frame" "payload" "[B" .null := D85 (Or.inr (hw _ (List.mem_of_getElem? (i := 19) rfl))) (ty := (.array .byte)) (by decide)
    obtain ⟨_, _, ⟨T91, L91, k91, n91⟩, -, X91, ⟨Lc91, hQ91, l91, y91, z91⟩, st91⟩ := X85.specialBack hx (y := (⟨"com/example/tapewire/tapewire/protocol/WebSocket$Frame", "<init>", "(I[B)V"⟩ : MethodName)) rfl hown (mvT hZ (hw _ (List.mem_of_getElem? (i := 5) rfl))) (mvT hZ (hw _ (List.mem_of_getElem? (i := 6) rfl))) (mvT hZ (hw _ (List.mem_of_getElem? (i := 7) rfl))) (by decide) (backOf (W := 1) (rm1 l Z a0 hw [] b85 p3 b71 h85 n0 Z88 A85 g_b85 F89 F90) hZ (hw _ (List.mem_of_getElem? (i := 7) rfl)) (hw _ (List.mem_of_getElem? (i := 4) rfl)) (by decide) (by decide)) (g := (mkF m 70 #[.val (.int p0), .val (.int p1), .val (.int p2), .val (.int p3), .val (.int (3 : Int32)), .val (.int zv), .val (.ref b71), .unset, .unset] [(.ref b71), (.int p3), (.ref b85), (.ref b85)])) rfl (by rw [hml]; rfl) (Steps.refl _) (a := b85) (argsL := [(.int p3), (.ref b71)]) (rest := [(.ref b85)]) (lenOf pd_1 rfl) rfl (by show 2 * 0 + _ ≤ _; exact Nat.le_of_eq rfl) (hb hby at_70) (fun _ _ => ⟨rfl, e85, (by decide : 2 + 0 ≤ _), (by decide : 5 + 0 ≤ _)⟩)
    dsimp only [Pt.U, Pt.locs, Pt.cells, Pt.slots] at X91 l91 y91 z91 st91 hQ91
    subst l91 y91 z91
    obtain ⟨rfl, N91q, R92, R93, R94, R95⟩ := hQ91
    have N91 := Fr.app N84 N91q
    have F96 : Arv Z T91.heap b71 k71 .byte (3 : Int32) [(.int (nar .byte ((zv / (256 : Int32)).toInt8.toInt32))), (.int (nar .byte ((zv % (256 : Int32)).toInt8.toInt32))), (.int (nar .byte (p2.toInt8.toInt32)))] (.int (0 : Int32)) := F87.keep R92 (ninS ne86 nin0)
    have F97 : Exa Z T91.heap b85 "com/example/tapewire/tapewire/protocol/WebSocket$Frame" := A85.keep R92
    have Z98 : n0 ≤ T91.heap.size := Nat.le_trans Z88 R92.1
    obtain ⟨cq99, kq99, q99a, q99b, q99c⟩ := isOf hZ rfl R93
    obtain ⟨_, _, ⟨T99, L99, k99, n99⟩, -, X99, ⟨Lc99, hQ99, l99, y99, z99⟩, st99⟩ := X91.virtualBack hx (y := (⟨"com/example/tapewire/tapewire/protocol/WebSocket$Frame", "closeCode", "()I"⟩ : MethodName)) (z := (⟨"com/example/tapewire/tapewire/protocol/WebSocket$Frame", "closeCode", "()I"⟩ : MethodName)) hown (mvT hZ (hw _ (List.mem_of_getElem? (i := 20) rfl))) (mvT hZ (hw _ (List.mem_of_getElem? (i := 21) rfl))) (notFace_of_selects (args := #[]) (mvT hZ (hw _ (List.mem_of_getElem? (i := 23) rfl)))) (mvT hZ (hw _ (List.mem_of_getElem? (i := 23) rfl))) (mvT hZ (hw _ (List.mem_of_getElem? (i := 22) rfl))) (by decide) (backOf (W := 0) (rm4_3 l Z a0 hw [] b85 b71 k71 (nar .byte ((zv / (256 : Int32)).toInt8.toInt32)) (nar .byte ((zv % (256 : Int32)).toInt8.toInt32)) (nar .byte (p2.toInt8.toInt32)) T91.heap n0 Z98 R95 F96) hZ (hw _ (List.mem_of_getElem? (i := 24) rfl)) (hw _ (List.mem_of_getElem? (i := 4) rfl)) (by decide) (by decide)) q99a q99c (g := (mkF m 91 #[.val (.int p0), .val (.int p1), .val (.int p2), .val (.int p3), .val (.int (3 : Int32)), .val (.int zv), .val (.ref b71), .val (.ref b85), .val (.int zv)] [(.ref b85)])) rfl (by rw [hml]; rfl) (Steps.refl _) (argsL := []) (rest := []) (lenOf pd_2 rfl) rfl (by show 2 * 0 + _ ≤ _; exact Nat.le_of_eq rfl) (hb hby at_91) (fun _ _ => ⟨rfl, rfl, (by decide : 2 + 0 ≤ _), (by decide : 5 + 0 ≤ _)⟩)
    dsimp only [Pt.U, Pt.locs, Pt.cells, Pt.slots] at X99 l99 y99 z99 st99 hQ99
    subst l99 y99 z99
    obtain ⟨rfl, N99q, R100⟩ := hQ99
    have N99 := Fr.app N91 N99q
    have hc96_101 : ((((nar .byte ((zv / (256 : Int32)).toInt8.toInt32)) &&& (255 : Int32)) <<< ((8 : Int32) &&& 31)) ||| ((nar .byte ((zv % (256 : Int32)).toInt8.toInt32)) &&& (255 : Int32))) = zv := own_code zv (by omega) (by omega)
    obtain ⟨fs, hr, hrun, hended, hW, hsame⟩ := X99.leave (v := some (.int (1 : Int32))) (fun h => by rw [Bd.returns] at h; cases h)
    refine ⟨_, _, P3 _ ?_, hrun, hended, _, _, rfl, ?_, ⟨_, rfl⟩, hW, hsame.mono (by decide) (by decide)⟩
    · show Steps p.tables e below (s₁.setTop (mkF m 11 #[.val (.int p0), .val (.int p1), .val (.int p2), .val (.int p3), .val (.int (3 : Int32)), .val (.int zv), .unset, .unset, .unset] [])) _
      refine XS.iload X0.here hx rfl (hb hby at_11) rfl ?_
      show Steps p.tables e below (s₁.setTop (mkF m 13 #[.val (.int p0), .val (.int p1), .val (.int p2), .val (.int p3), .val (.int (3 : Int32)), .val (.int zv), .unset, .unset, .unset] [(.int (3 : Int32))])) _
      refine st71 _ ?_
      show Steps p.tables e below (T71.setTop (mkF m 15 #[.val (.int p0), .val (.int p1), .val (.int p2), .val (.int p3), .val (.int (3 : Int32)), .val (.int zv), .unset, .unset, .unset] [(.ref b71)])) _
      refine XS.astore X71.here hx rfl (hb hby at_15) rfl rfl (l' := #[.val (.int p0), .val (.int p1), .val (.int p2), .val (.int p3), .val (.int (3 : Int32)), .val (.int zv), .val (.ref b71), .unset, .unset]) rfl ?_
      show Steps p.tables e below (T71.setTop (mkF m 17 #[.val (.int p0), .val (.int p1), .val (.int p2), .val (.int p3), .val (.int (3 : Int32)), .val (.int zv), .val (.ref b71), .unset, .unset] [])) _
      refine XS.iload X71.here hx rfl (hb hby at_17) rfl ?_
      show Steps p.tables e below (T71.setTop (mkF m 19 #[.val (.int p0), .val (.int p1), .val (.int p2), .val (.int p3), .val (.int (3 : Int32)), .val (.int zv), .val (.ref b71), .unset, .unset] [(.int (3 : Int32))])) _
      refine XS.iconst X71.here hx rfl (hb hby at_19) ?_
      show Steps p.tables e below (T71.setTop (mkF m 20 #[.val (.int p0), .val (.int p1), .val (.int p2), .val (.int p3), .val (.int (3 : Int32)), .val (.int zv), .val (.ref b71), .unset, .unset] [(.int (1 : Int32)), (.int (3 : Int32))])) _
      refine XS.icmpNo X71.here hx rfl (hb hby at_20) rfl (flt (by decide : ¬ ((3 : Int32) < (1 : Int32)))).1 ?_
      show Steps p.tables e below (T71.setTop (mkF m 23 #[.val (.int p0), .val (.int p1), .val (.int p2), .val (.int p3), .val (.int (3 : Int32)), .val (.int zv), .val (.ref b71), .unset, .unset] [])) _
      refine XS.aload X71.here hx rfl (hb hby at_23) rfl rfl ?_
      show Steps p.tables e below (T71.setTop (mkF m 25 #[.val (.int p0), .val (.int p1), .val (.int p2), .val (.int p3), .val (.int (3 : Int32)), .val (.int zv), .val (.ref b71), .unset, .unset] [(.ref b71)])) _
      refine XS.iconst X71.here hx rfl (hb hby at_25) ?_
      show Steps p.tables e below (T71.setTop (mkF m 26 #[.val (.int p0), .val (.int p1), .val (.int p2), .val (.int p3), .val (.int (3 : Int32)), .val (.int zv), .val (.ref b71), .unset, .unset] [(.int (0 : Int32)), (.ref b71)])) _
      refine XS.iload X71.here hx rfl (hb hby at_26) rfl ?_
      show Steps p.tables e below (T71.setTop (mkF m 28 #[.val (.int p0), .val (.int p1), .val (.int p2), .val (.int p3), .val (.int (3 : Int32)), .val (.int zv), .val (.ref b71), .unset, .unset] [(.int zv), (.int (0 : Int32)), (.ref b71)])) _
      refine XS.sipush X71.here hx rfl (hb hby at_28) ?_
      show Steps p.tables e below (T71.setTop (mkF m 31 #[.val (.int p0), .val (.int p1), .val (.int p2), .val (.int p3), .val (.int (3 : Int32)), .val (.int zv), .val (.ref b71), .unset, .unset] [(.int (256 : Int32)), (.int zv), (.int (0 : Int32)), (.ref b71)])) _
      refine XS.idiv X71.here hx rfl (hb hby at_31) rfl (by decide) ?_
      show Steps p.tables e below (T71.setTop (mkF m 32 #[.val (.int p0), .val (.int p1), .val (.int p2), .val (.int p3), .val (.int (3 : Int32)), .val (.int zv), .val (.ref b71), .unset, .unset] [(.int (zv / (256 : Int32))), (.int (0 : Int32)), (.ref b71)])) _
      refine XS.i2b X71.here hx rfl (hb hby at_32) rfl ?_
      show Steps p.tables e below (T71.setTop (mkF m 33 #[.val (.int p0), .val (.int p1), .val (.int p2), .val (.int p3), .val (.int (3 : Int32)), .val (.int zv), .val (.ref b71), .unset, .unset] [(.int ((zv / (256 : Int32)).toInt8.toInt32)), (.int (0 : Int32)), (.ref b71)])) _
      refine st74 _ ?_
      show Steps p.tables e below (T74.setTop (mkF m 34 #[.val (.int p0), .val (.int p1), .val (.int p2), .val (.int p3), .val (.int (3 : Int32)), .val (.int zv), .val (.ref b71), .unset, .unset] [])) _
      refine XS.iload X74.here hx rfl (hb hby at_34) rfl ?_
      show Steps p.tables e below (T74.setTop (mkF m 36 #[.val (.int p0), .val (.int p1), .val (.int p2), .val (.int p3), .val (.int (3 : Int32)), .val (.int zv), .val (.ref b71), .unset, .unset] [(.int (3 : Int32))])) _
      refine XS.iconst X74.here hx rfl (hb hby at_36) ?_
      show Steps p.tables e below (T74.setTop (mkF m 37 #[.val (.int p0), .val (.int p1), .val (.int p2), .val (.int p3), .val (.int (3 : Int32)), .val (.int zv), .val (.ref b71), .unset, .unset] [(.int (2 : Int32)), (.int (3 : Int32))])) _
      refine XS.icmpNo X74.here hx rfl (hb hby at_37) rfl (flt (by decide : ¬ ((3 : Int32) < (2 : Int32)))).1 ?_
      show Steps p.tables e below (T74.setTop (mkF m 40 #[.val (.int p0), .val (.int p1), .val (.int p2), .val (.int p3), .val (.int (3 : Int32)), .val (.int zv), .val (.ref b71), .unset, .unset] [])) _
      refine XS.aload X74.here hx rfl (hb hby at_40) rfl rfl ?_
      show Steps p.tables e below (T74.setTop (mkF m 42 #[.val (.int p0), .val (.int p1), .val (.int p2), .val (.int p3), .val (.int (3 : Int32)), .val (.int zv), .val (.ref b71), .unset, .unset] [(.ref b71)])) _
      refine XS.iconst X74.here hx rfl (hb hby at_42) ?_
      show Steps p.tables e below (T74.setTop (mkF m 43 #[.val (.int p0), .val (.int p1), .val (.int p2), .val (.int p3), .val (.int (3 : Int32)), .val (.int zv), .val (.ref b71), .unset, .unset] [(.int (1 : Int32)), (.ref b71)])) _
      refine XS.iload X74.here hx rfl (hb hby at_43) rfl ?_
      show Steps p.tables e below (T74.setTop (mkF m 45 #[.val (.int p0), .val (.int p1), .val (.int p2), .val (.int p3), .val (.int (3 : Int32)), .val (.int zv), .val (.ref b71), .unset, .unset] [(.int zv), (.int (1 : Int32)), (.ref b71)])) _
      refine XS.sipush X74.here hx rfl (hb hby at_45) ?_
      show Steps p.tables e below (T74.setTop (mkF m 48 #[.val (.int p0), .val (.int p1), .val (.int p2), .val (.int p3), .val (.int (3 : Int32)), .val (.int zv), .val (.ref b71), .unset, .unset] [(.int (256 : Int32)), (.int zv), (.int (1 : Int32)), (.ref b71)])) _
      refine iremM X74 hx rfl (hb hby at_48) rfl (by decide) ?_
      show Steps p.tables e below (T74.setTop (mkF m 49 #[.val (.int p0), .val (.int p1), .val (.int p2), .val (.int p3), .val (.int (3 : Int32)), .val (.int zv), .val (.ref b71), .unset, .unset] [(.int (zv % (256 : Int32))), (.int (1 : Int32)), (.ref b71)])) _
      refine XS.i2b X74.here hx rfl (hb hby at_49) rfl ?_
      show Steps p.tables e below (T74.setTop (mkF m 50 #[.val (.int p0), .val (.int p1), .val (.int p2), .val (.int p3), .val (.int (3 : Int32)), .val (.int zv), .val (.ref b71), .unset, .unset] [(.int ((zv % (256 : Int32)).toInt8.toInt32)), (.int (1 : Int32)), (.ref b71)])) _
      refine st78 _ ?_
      show Steps p.tables e below (T78.setTop (mkF m 51 #[.val (.int p0), .val (.int p1), .val (.int p2), .val (.int p3), .val (.int (3 : Int32)), .val (.int zv), .val (.ref b71), .unset, .unset] [])) _
      refine XS.iload X78.here hx rfl (hb hby at_51) rfl ?_
      show Steps p.tables e below (T78.setTop (mkF m 53 #[.val (.int p0), .val (.int p1), .val (.int p2), .val (.int p3), .val (.int (3 : Int32)), .val (.int zv), .val (.ref b71), .unset, .unset] [(.int (3 : Int32))])) _
      refine XS.iconst X78.here hx rfl (hb hby at_53) ?_
      show Steps p.tables e below (T78.setTop (mkF m 54 #[.val (.int p0), .val (.int p1), .val (.int p2), .val (.int p3), .val (.int (3 : Int32)), .val (.int zv), .val (.ref b71), .unset, .unset] [(.int (3 : Int32)), (.int (3 : Int32))])) _
      refine XS.icmpNo X78.here hx rfl (hb hby at_54) rfl (flt (by decide : ¬ ((3 : Int32) < (3 : Int32)))).1 ?_
      show Steps p.tables e below (T78.setTop (mkF m 57 #[.val (.int p0), .val (.int p1), .val (.int p2), .val (.int p3), .val (.int (3 : Int32)), .val (.int zv), .val (.ref b71), .unset, .unset] [])) _
      refine XS.aload X78.here hx rfl (hb hby at_57) rfl rfl ?_
      show Steps p.tables e below (T78.setTop (mkF m 59 #[.val (.int p0), .val (.int p1), .val (.int p2), .val (.int p3), .val (.int (3 : Int32)), .val (.int zv), .val (.ref b71), .unset, .unset] [(.ref b71)])) _
      refine XS.iconst X78.here hx rfl (hb hby at_59) ?_
      show Steps p.tables e below (T78.setTop (mkF m 60 #[.val (.int p0), .val (.int p1), .val (.int p2), .val (.int p3), .val (.int (3 : Int32)), .val (.int zv), .val (.ref b71), .unset, .unset] [(.int (2 : Int32)), (.ref b71)])) _
      refine XS.iloadN X78.here hx rfl (hb hby at_60) rfl ?_
      show Steps p.tables e below (T78.setTop (mkF m 61 #[.val (.int p0), .val (.int p1), .val (.int p2), .val (.int p3), .val (.int (3 : Int32)), .val (.int zv), .val (.ref b71), .unset, .unset] [(.int p2), (.int (2 : Int32)), (.ref b71)])) _
      refine XS.i2b X78.here hx rfl (hb hby at_61) rfl ?_
      show Steps p.tables e below (T78.setTop (mkF m 62 #[.val (.int p0), .val (.int p1), .val (.int p2), .val (.int p3), .val (.int (3 : Int32)), .val (.int zv), .val (.ref b71), .unset, .unset] [(.int (p2.toInt8.toInt32)), (.int (2 : Int32)), (.ref b71)])) _
      refine st82 _ ?_
      show Steps p.tables e below (T82.setTop (mkF m 63 #[.val (.int p0), .val (.int p1), .val (.int p2), .val (.int p3), .val (.int (3 : Int32)), .val (.int zv), .val (.ref b71), .unset, .unset] [])) _
      refine st85 _ ?_
      show Steps p.tables e below (T85.setTop (mkF m 66 #[.val (.int p0), .val (.int p1), .val (.int p2), .val (.int p3), .val (.int (3 : Int32)), .val (.int zv), .val (.ref b71), .unset, .unset] [(.ref b85)])) _
      refine XS.dup X85.here hx rfl (hb hby at_66) rfl rfl ?_
      show Steps p.tables e below (T85.setTop (mkF m 67 #[.val (.int p0), .val (.int p1), .val (.int p2), .val (.int p3), .val (.int (3 : Int32)), .val (.int zv), .val (.ref b71), .unset, .unset] [(.ref b85), (.ref b85)])) _
      refine XS.iloadN X85.here hx rfl (hb hby at_67) rfl ?_
      show Steps p.tables e below (T85.setTop (mkF m 68 #[.val (.int p0), .val (.int p1), .val (.int p2), .val (.int p3), .val (.int (3 : Int32)), .val (.int zv), .val (.ref b71), .unset, .unset] [(.int p3), (.ref b85), (.ref b85)])) _
      refine XS.aload X85.here hx rfl (hb hby at_68) rfl rfl ?_
      show Steps p.tables e below (T85.setTop (mkF m 70 #[.val (.int p0), .val (.int p1), .val (.int p2), .val (.int p3), .val (.int (3 : Int32)), .val (.int zv), .val (.ref b71), .unset, .unset] [(.ref b71), (.int p3), (.ref b85), (.ref b85)])) _
      refine st91.trans ?_
      show Steps p.tables e below (T91.setTop (mkF m 73 #[.val (.int p0), .val (.int p1), .val (.int p2), .val (.int p3), .val (.int (3 : Int32)), .val (.int zv), .val (.ref b71), .unset, .unset] [(.ref b85)])) _
      refine XS.astore X91.here hx rfl (hb hby at_73) rfl rfl (l' := #[.val (.int p0), .val (.int p1), .val (.int p2), .val (.int p3), .val (.int (3 : Int32)), .val (.int zv), .val (.ref b71), .val (.ref b85), .unset]) rfl ?_
      show Steps p.tables e below (T91.setTop (mkF m 75 #[.val (.int p0), .val (.int p1), .val (.int p2), .val (.int p3), .val (.int (3 : Int32)), .val (.int zv), .val (.ref b71), .val (.ref b85), .unset] [])) _
      refine XS.iload X91.here hx rfl (hb hby at_75) rfl ?_
      show Steps p.tables e below (T91.setTop (mkF m 77 #[.val (.int p0), .val (.int p1), .val (.int p2), .val (.int p3), .val (.int (3 : Int32)), .val (.int zv), .val (.ref b71), .val (.ref b85), .unset] [(.int (3 : Int32))])) _
      refine XS.iconst X91.here hx rfl (hb hby at_77) ?_
      show Steps p.tables e below (T91.setTop (mkF m 78 #[.val (.int p0), .val (.int p1), .val (.int p2), .val (.int p3), .val (.int (3 : Int32)), .val (.int zv), .val (.ref b71), .val (.ref b85), .unset] [(.int (2 : Int32)), (.int (3 : Int32))])) _
      refine XS.icmpYes X91.here hx rfl (pc0 := 78) (pc' := 85) rfl (hb hby at_78) rfl (flt (by decide : ¬ ((3 : Int32) < (2 : Int32)))).2.1 (by decide) (by decide) ?_
      show Steps p.tables e below (T91.setTop (mkF m 85 #[.val (.int p0), .val (.int p1), .val (.int p2), .val (.int p3), .val (.int (3 : Int32)), .val (.int zv), .val (.ref b71), .val (.ref b85), .unset] [])) _
      refine XS.iload X91.here hx rfl (hb hby at_85) rfl ?_
      show Steps p.tables e below (T91.setTop (mkF m 87 #[.val (.int p0), .val (.int p1), .val (.int p2), .val (.int p3), .val (.int (3 : Int32)), .val (.int zv), .val (.ref b71), .val (.ref b85), .unset] [(.int zv)])) _
      refine XS.istore X91.here hx rfl (hb hby at_87) rfl (l' := #[.val (.int p0), .val (.int p1), .val (.int p2), .val (.int p3), .val (.int (3 : Int32)), .val (.int zv), .val (.ref b71), .val (.ref b85), .val (.int zv)]) rfl ?_
      show Steps p.tables e below (T91.setTop (mkF m 89 #[.val (.int p0), .val (.int p1), .val (.int p2), .val (.int p3), .val (.int (3 : Int32)), .val (.int zv), .val (.ref b71), .val (.ref b85), .val (.int zv)] [])) _
      refine XS.aload X91.here hx rfl (hb hby at_89) rfl rfl ?_
      show Steps p.tables e below (T91.setTop (mkF m 91 #[.val (.int p0), .val (.int p1), .val (.int p2), .val (.int p3), .val (.int (3 : Int32)), .val (.int zv), .val (.ref b71), .val (.ref b85), .val (.int zv)] [(.ref b85)])) _
      refine st99.trans ?_
      show Steps p.tables e below (T99.setTop (mkF m 94 #[.val (.int p0), .val (.int p1), .val (.int p2), .val (.int p3), .val (.int (3 : Int32)), .val (.int zv), .val (.ref b71), .val (.ref b85), .val (.int zv)] [(.int ((((nar .byte ((zv / (256 : Int32)).toInt8.toInt32)) &&& (255 : Int32)) <<< ((8 : Int32) &&& 31)) ||| ((nar .byte ((zv % (256 : Int32)).toInt8.toInt32)) &&& (255 : Int32))))])) _
      refine XS.iload X99.here hx rfl (hb hby at_94) rfl ?_
      show Steps p.tables e below (T99.setTop (mkF m 96 #[.val (.int p0), .val (.int p1), .val (.int p2), .val (.int p3), .val (.int (3 : Int32)), .val (.int zv), .val (.ref b71), .val (.ref b85), .val (.int zv)] [(.int zv), (.int ((((nar .byte ((zv / (256 : Int32)).toInt8.toInt32)) &&& (255 : Int32)) <<< ((8 : Int32) &&& 31)) ||| ((nar .byte ((zv % (256 : Int32)).toInt8.toInt32)) &&& (255 : Int32))))])) _
      refine XS.icmpNo X99.here hx rfl (hb hby at_96) rfl (teq hc96_101).2 ?_
      show Steps p.tables e below (T99.setTop (mkF m 99 #[.val (.int p0), .val (.int p1), .val (.int p2), .val (.int p3), .val (.int (3 : Int32)), .val (.int zv), .val (.ref b71), .val (.ref b85), .val (.int zv)] [])) _
      refine XS.iconst X99.here hx rfl (hb hby at_99) ?_
      show Steps p.tables e below (T99.setTop (mkF m 100 #[.val (.int p0), .val (.int p1), .val (.int p2), .val (.int p3), .val (.int (3 : Int32)), .val (.int zv), .val (.ref b71), .val (.ref b85), .val (.int zv)] [(.int (1 : Int32))])) _
      refine XS.goto X99.here hx rfl (pc0 := 100) (pc' := 104) rfl (hb hby at_100) (by decide) (by decide) ?_
      show Steps p.tables e below (T99.setTop (mkF m 104 #[.val (.int p0), .val (.int p1), .val (.int p2), .val (.int p3), .val (.int (3 : Int32)), .val (.int zv), .val (.ref b71), .val (.ref b85), .val (.int zv)] [(.int (1 : Int32))])) _
      exact retN X99 hx (t := .boolean) Bd.returns (by simp) (hb hby at_104) hr
    · show Q0 Z p0 p1 p2 p3 h0 n0 _ T99.heap _
      rw [R100]
      exact ⟨rfl, N99⟩
set_option maxRecDepth 65536 in
set_option maxHeartbeats 40000000 in
theorem comes_1 {Post : Tables → Env → Array Value → State → Outcome → State → Prop} (hpost : ∀ tb e args s v u, (limb_1_1.after args s (.returned v) u = true ∧ limb_1_2.after args s (.returned v) u = true ∧ True) → FrameEnd s (.returned v) u (Jvm.fieldLocs frame_1_writes args s ++ Jvm.arrayLocs frame_1_arrays args s ++ Jvm.staticLocs frame_1_statics s) 16 128 → Post tb e args s (.returned v) u) :
    ArmFor flags0 classFile x code maxLocals ret World_1 tables_1 room_1 Calls_1 rest_1 Pre_1 Post := by
  intro l hfl _ _ p e ha hc hk s m args below hf hA hF happ hP
  obtain ⟨hcalls, hrest, hpre⟩ := hP
  obtain ⟨-, -, -, hnamed, -, -, -, hat⟩ := (Spec.applies_iff hf).mp happ
  obtain ⟨hg, hn⟩ := and_e (Cond.before_iff.mp (show (Jvm.Cond.and given_1 narrow_1).before args s = true from hpre))
  obtain ⟨hcount, hg0⟩ := and_e hg
  obtain ⟨ha0, hg1⟩ := and_e hg0
  obtain ⟨ha1, hg2⟩ := and_e hg1
  obtain ⟨ha2, hg3⟩ := and_e hg2
  obtain ⟨w0, w1, w2, w3, rfl⟩ : ∃ w0 w1 w2 w3 : Value, args = #[w0, w1, w2, w3] := by
    have hs : args.size = 4 := by simpa [Cond.value, given_1] using hcount
    obtain ⟨L⟩ := args
    match L, hs with
    | [w0, w1, w2, w3], _ => exact ⟨w0, w1, w2, w3, rfl⟩
  have hw := fun d (hd : d ∈ tables_1) => atoms_spec (ws := Jvm.Cond.code x code maxLocals ret :: tables_1) hat d (List.mem_cons_of_mem _ hd)
  have hfit : Fit s := fun {y c} hc i hi => by
    obtain ⟨ha, rfl⟩ := Array.getElem?_eq_some_iff.mp hc
    have q := List.all_eq_true.mp ((Array.all_eq_true_iff_forall_mem.mp hF) _ (Array.getElem_mem ha)) i (List.mem_range.mpr hi)
    simpa [Array.getElem?_eq_getElem hi] using q
  obtain ⟨i0, ei0⟩ := is_v ha0
  obtain rfl : w0 = (.int i0) := Option.some.inj ei0
  obtain ⟨i1, ei1⟩ := is_v ha1
  obtain rfl : w1 = (.int i1) := Option.some.inj ei1
  obtain ⟨i2, ei2⟩ := is_v ha2
  obtain rfl : w2 = (.int i2) := Option.some.inj ei2
  obtain ⟨i3, ei3⟩ := is_v hg3
  obtain rfl : w3 = (.int i3) := Option.some.inj ei3
  obtain ⟨n, o, h1, h2, h3, _, L, rfl, ⟨rfl, N⟩, hq⟩ := rm0 l s _ hw tables_1 i0 i1 i2 i3 s.heap s.heap.size (Nat.le_refl _)  p e ha hc hk s m _ below hf ((Spec.applies_iff_loose hf).mp happ).1 ⟨rfl, State.Warmed39.refl s, rfl⟩ trivial
  exact ⟨n, _, h1, h2, h3, hpost _ _ _ _ _ _ ⟨Cond.after_iff.mpr rfl, Cond.after_iff.mpr (eq_i res_at (Term.int_eval (1)) rfl), trivial⟩ ⟨hq.1, hq.2.1, (hq.2.2.sift fun y hy => Or.inr (N y hy)).mono (by decide) (by decide)⟩⟩
theorem main_1_1 : Claimed_1_1 := comes_1 fun _ _ _ _ _ _ h hF => ⟨h.1, hF⟩
theorem main_1_2 : Claimed_1_2 := comes_1 fun _ _ _ _ _ _ h hF => ⟨h.2.1, hF⟩
end Jvm.Pilot.@@N@@
namespace Jvm.Pilot.@@N@@
open Jvm Jvm.ClassFile Sem Op Lib Jvm.Free Jvm.Stand Jvm.Pilot.@@N@@.Jvm.D
/-! MADE BY PROGRAM (witnessworld.py) out of the Statement's table words and the real class files: 10 classes; the members and pool entries that the words name. The judged class is class 1, her method 1. -/
namespace start1
open Jvm.ClassFile
def u (s : String) : CpInfo := .utf8 (stringToUtf16 s)
/-- a pool by its gaps: so many unusable entries, then the entry; so many at the end -/
def gap : Nat → List CpInfo → List CpInfo
  | 0, r => r
  | n + 1, r => .unusable :: gap n r
def poolList (es : List (Nat × CpInfo)) (last : Nat) : List CpInfo := es.foldr (fun e r => gap e.1 (e.2 :: r)) (gap last [])
def pool (es : List (Nat × CpInfo)) (last : Nat) : Array CpInfo := ⟨poolList es last⟩
def fileOf (pool : Array CpInfo) (this : Nat) (attrs : Array Attribute := #[]) (ms : Array MethodInfo := #[]) (fl : Nat := 33) (sup : Nat := 0) (ifs : Array Nat := #[]) (fds : Array FieldInfo := #[]) : ClassFile where
  minorVersion := 0
  majorVersion := 65
  constantPool := pool
  accessFlags := fl
  thisClass := this
  superClass := sup
  interfaces := ifs
  fields := fds
  methods := ms
  attributes := attrs
def plain (name : String) (sup : Option ClassId) : Class where
  name := name
  kind := .ordinary
  loader := none
  accessFlags := 33
  super := sup
  interfaces := #[]
  cf := none
  fields := #[]
  methods := #[]
  instanceTypes := #[]
  staticTypes := #[]
  resolved := #[]
  callSites := []
  init := .initialized
  statics := none
  mirror := none

def pool0 : Array CpInfo := pool [(5, u "<init>"), (0, u "()V"), (1, .class_ 10), (1, u "java/lang/Object")] 113

def k0c0 : Code := { maxStack := 0, maxLocals := 1, code := object_method_1_code, exceptionTable := #[], attributes := #[] }
def k0m0 : Method := { name := "<init>", desc := "()V", sig := { parameters := [], returnType := none }, accessFlags := 1, code := some k0c0 }
/-- java/lang/Object -/
def k0 : Class := { plain "java/lang/Object" none with
  accessFlags := 33
  interfaces := #[]
  cf := some (fileOf pool0 8 #[] #[{ accessFlags := 1, nameIndex := 5, descriptorIndex := 6, attributes := #[] }] 33 0 #[] #[])
  fields := #[]
  methods := #[k0m0]
  instanceTypes := #[]
  staticTypes := #[]
  resolved := Array.replicate 124 none
  statics := none }

def pool1 : Array CpInfo := pool [(2, .class_ 4), (1, u "java/lang/Object"), (0, u "<init>"), (0, u "()V"), (0, .integer 65535), (0, .class_ 9), (0, u "com/example/tapewire/tapewire/protocol/WebSocket$Frame"), (0, .methodref 8 11), (0, .nameAndType 5 12), (0, u "(I[B)V"), (0, .methodref 8 14), (0, .nameAndType 15 16), (0, u "closeCode"), (0, u "()I"), (0, .class_ 18), (0, u "com/example/tapewire/tapewire/protocol/FrameCloseCodePinLaw"), (2, u "law"), (0, u "(IIII)Z")] 9

def k1m0 : Method := { name := "<init>", desc := "()V", sig := { parameters := [], returnType := none }, accessFlags := 1, code := none }
def k1c1 : Code := { maxStack := 4, maxLocals := 9, code := code, exceptionTable := #[], attributes := #[] }
def k1m1 : Method := { name := "law", desc := "(IIII)Z", sig := { parameters := [.int, .int, .int, .int], returnType := some .boolean }, accessFlags := 9, code := some k1c1 }
/-- com/example/tapewire/tapewire/protocol/FrameCloseCodePinLaw -/
def k1 : Class := { plain "com/example/tapewire/tapewire/protocol/FrameCloseCodePinLaw" (some 0) with
  accessFlags := 49
  interfaces := #[]
  cf := some (fileOf pool1 17 #[] #[{ accessFlags := 1, nameIndex := 5, descriptorIndex := 6, attributes := #[] }, { accessFlags := 9, nameIndex := 21, descriptorIndex := 22, attributes := #[] }] 49 2 #[] #[])
  fields := #[]
  methods := #[k1m0, k1m1]
  instanceTypes := #[]
  staticTypes := #[]
  resolved := Array.replicate 32 none
  statics := none }

def pool2 : Array CpInfo := pool [(1, .methodref 2 3), (0, .class_ 4), (0, .nameAndType 5 6), (0, u "java/lang/Object"), (0, u "<init>"), (0, u "()V"), (0, .class_ 8), (0, u "java/lang/Record")] 13

def k2c0 : Code := { maxStack := 1, maxLocals := 1, code := jdk_30_method_1_code, exceptionTable := #[], attributes := #[] }
def k2m0 : Method := { name := "<init>", desc := "()V", sig := { parameters := [], returnType := none }, accessFlags := 4, code := some k2c0 }
/-- java/lang/Record -/
def k2 : Class := { plain "java/lang/Record" (some 0) with
  accessFlags := 1057
  interfaces := #[]
  cf := some (fileOf pool2 7 #[] #[{ accessFlags := 4, nameIndex := 5, descriptorIndex := 6, attributes := #[] }] 1057 2 #[] #[])
  fields := #[]
  methods := #[k2m0]
  instanceTypes := #[]
  staticTypes := #[]
  resolved := Array.replicate 22 none
  statics := none }

def pool3 : Array CpInfo := pool [(1, .methodref 2 3), (0, .class_ 4), (0, .nameAndType 5 6), (0, u "java/lang/Record"), (0, u "<init>"), (0, u "()V"), (0, .fieldref 8 9), (0, .class_ 10), (0, .nameAndType 11 12), (0, u "com/example/tapewire/tapewire/protocol/WebSocket$Frame"), (0, u "opcode"), (0, u "I"), (0, .fieldref 8 14), (0, .nameAndType 15 16), (0, u "payload"), (0, u "[B"), (23, u "(I[B)V"), (5, u "closeCode"), (0, u "()I"), (6, .class_ 55), (0, u "com/example/tapewire/tapewire/protocol/WebSocket")] 20

def k3c0 : Code := { maxStack := 2, maxLocals := 3, code := prog_97_method_1_code, exceptionTable := #[], attributes := #[] }
def k3m0 : Method := { name := "<init>", desc := "(I[B)V", sig := { parameters := [.int, (.array .byte)], returnType := none }, accessFlags := 1, code := some k3c0 }
def k3c1 : Code := { maxStack := 3, maxLocals := 1, code := prog_97_method_3_code, exceptionTable := #[], attributes := #[] }
def k3m1 : Method := { name := "closeCode", desc := "()I", sig := { parameters := [], returnType := some .int }, accessFlags := 1, code := some k3c1 }
/-- com/example/tapewire/tapewire/protocol/WebSocket$Frame -/
def k3 : Class := { plain "com/example/tapewire/tapewire/protocol/WebSocket$Frame" (some 2) with
  accessFlags := 49
  interfaces := #[]
  cf := some (fileOf pool3 8 #[.nestHost 54] #[{ accessFlags := 1, nameIndex := 5, descriptorIndex := 40, attributes := #[] }, { accessFlags := 1, nameIndex := 46, descriptorIndex := 47, attributes := #[] }] 49 2 #[] #[{ accessFlags := 18, nameIndex := 11, descriptorIndex := 12, attributes := #[] }, { accessFlags := 18, nameIndex := 15, descriptorIndex := 16, attributes := #[] }])
  fields := #[{ name := "opcode", type := .int, accessFlags := 18, slot := 0, constantValue := 0 }, { name := "payload", type := (.array .byte), accessFlags := 18, slot := 1, constantValue := 0 }]
  methods := #[k3m0, k3m1]
  instanceTypes := #[.int, (.array .byte)]
  staticTypes := #[]
  resolved := Array.replicate 76 none
  statics := none }

def pool4 : Array CpInfo := pool [(1, u "java/lang/Cloneable"), (0, .class_ 1), (0, u "java/lang/Object"), (0, .class_ 3)] 3

/-- java/lang/Cloneable -/
def k4 : Class := { plain "java/lang/Cloneable" (some 0) with
  accessFlags := 1537
  interfaces := #[]
  cf := some (fileOf pool4 2 #[] #[] 1537 4 #[] #[])
  fields := #[]
  methods := #[]
  instanceTypes := #[]
  staticTypes := #[]
  resolved := Array.replicate 8 none
  statics := none }

def pool5 : Array CpInfo := pool [(1, u "java/io/Serializable"), (0, .class_ 1), (0, u "java/lang/Object"), (0, .class_ 3)] 3

/-- java/io/Serializable -/
def k5 : Class := { plain "java/io/Serializable" (some 0) with
  accessFlags := 1537
  interfaces := #[]
  cf := some (fileOf pool5 2 #[] #[] 1537 4 #[] #[])
  fields := #[]
  methods := #[]
  instanceTypes := #[]
  staticTypes := #[]
  resolved := Array.replicate 8 none
  statics := none }

/-- the primitive byte -/
def k6 : Class := { plain "byte" none with kind := .primitive 'B', accessFlags := 0x411 }
/-- [B -/
def k7 : Class := { plain "[B" (some 0) with kind := .array 6 .byte, interfaces := #[4, 5], accessFlags := 1041 }

/-- the primitive int -/
def k8 : Class := { plain "int" none with kind := .primitive 'I', accessFlags := 0x411 }
/-- [I -/
def k9 : Class := { plain "[I" (some 0) with kind := .array 8 .int, interfaces := #[4, 5], accessFlags := 1041 }

def heap : Heap := #[]
def classes : Array Class := #[k0, k1, k2, k3, k4, k5, k6, k7, k8, k9]
def interned : List (Array UInt16 × Addr) := []
def slotsUsed : Nat := 0
def theMethod : MethodId := ⟨1, 1⟩
def args0 : Array Value := #[.int 5, .int 2, .int 7, .int 5]
def aboutOver (below : List Frame) : State where
  vm := { classes := classes, interned := interned.toArray }
  heap := heap
  slotsUsed := slotsUsed
  threads := #[{ frames := .invoking theMethod args0 :: below }]
def below0 : List Frame := [.native { method := ⟨0, 0⟩, args := #[] }]
def about1 : State := aboutOver below0
def p0 : Program := .bare "" "" ""
def e0 : Env := launch0.env 0 0 0
theorem w_frames : about1.frames = Frame.invoking theMethod args0 :: below0 := rfl
set_option maxRecDepth 65536 in
theorem w_args : argsFit about1.vm theMethod args0 = true := by decide +kernel
set_option maxRecDepth 65536 in
theorem w_heap : heapFits about1 = true := by decide +kernel
set_option maxRecDepth 65536 in
theorem w_runnable : about1.curStatus? = some .runnable := by decide +kernel
set_option maxRecDepth 65536 in
theorem w_alone : about1.alone = true := by decide +kernel
set_option maxRecDepth 65536 in
theorem w_named : about1.methodNamed? x = some theMethod := by decide +kernel
set_option maxRecDepth 65536 in
theorem w_hears : about1.hears theMethod below0 = true := by decide +kernel
set_option maxRecDepth 65536 in
theorem w_ripe : about1.ripe theMethod args0 below0 = true := by decide +kernel
theorem w_running : about1.status = .running := rfl
set_option maxRecDepth 65536 in
theorem w_room : about1.hasRoom e0.platform room_1 = true :=
  launch0.hasRoom_least _ room_1 (by decide +kernel) (by decide +kernel) (by decide +kernel) (by decide +kernel) (by decide +kernel) (by decide +kernel)
theorem allAtoms_all (ts : List Jvm.Cond) (a : Array Jvm.Value) (st : Jvm.State) : (allAtoms ts).before a st = ts.all (fun c => c.before a st) := by
  induction ts with
  | nil => rfl
  | cons c t ih =>
    show (Jvm.Cond.and c (allAtoms t)).before a st = _
    rw [Jvm.Cond.before_and, ih, List.all_cons]
def words1 : List Jvm.Cond := Jvm.Cond.code x code maxLocals ret :: tables_1
/-- a 'code' word, met by the world's own term for the bytes: nothing is compared byte by byte -/
theorem code_word {y : MethodName} {bytes : ByteArray} {mx : Nat} {rt : Option FieldType} {a : Array Value} {s : State} {m : MethodId} {meth : Method} {c : Code} (h1 : s.methodNamed? y = some m) (h2 : s.vm.method? m = some meth) (h3 : meth.code = some c) (h4 : c.code = bytes)
    (h5 : (c.maxLocals == mx && c.exceptionTable.isEmpty && decide (c.maxStack ≤ mostOperands) && decide (meth.sig.returnType = rt) && !meth.locks && decide (parseMethodDescriptor y.desc = some meth.sig)) = true) : (Jvm.Cond.code y bytes mx rt).before a s = true := by
  simp only [Bool.and_eq_true, beq_iff_eq, Bool.not_eq_true', decide_eq_true_eq] at h5
  obtain ⟨⟨⟨⟨⟨g1, g2⟩, g3⟩, g4⟩, g5⟩, g6⟩ := h5
  simp [Cond.before, Cond.holds, Cond.value, h1, h2, h3, h4, g1, g2, g3, g4, g5, g6]
def isCode : Jvm.Cond → Bool
  | .code _ _ _ _ => true
  | _ => false
theorem all_split {L : List Jvm.Cond} {P : Jvm.Cond → Bool} (h1 : L.all (fun c => isCode c || P c) = true) (h2 : ∀ c ∈ L.filter isCode, P c = true) : L.all P = true := by
  refine List.all_eq_true.mpr fun c hc => ?_
  have h := List.all_eq_true.mp h1 c hc
  rcases Bool.eq_false_or_eq_true (isCode c) with hi | hi
  · exact h2 c (List.mem_filter.mpr ⟨hc, hi⟩)
  · simpa [hi] using h
set_option maxRecDepth 65536 in
theorem w_c0 : (Jvm.Cond.code x code maxLocals ret).before args0 about1 = true := code_word (m := ⟨1, 1⟩) (meth := k1m1) (c := k1c1) (by decide +kernel) rfl rfl rfl (by decide +kernel)
set_option maxRecDepth 65536 in
theorem w_c1 : (Jvm.Cond.code ({ cls := "com/example/tapewire/tapewire/protocol/WebSocket$Frame", name := "<init>", desc := "(I[B)V" } : Jvm.MethodName) prog_97_method_1_code (3 : Nat) (Option.none : Option Jvm.ClassFile.FieldType)).before args0 about1 = true := code_word (m := ⟨3, 0⟩) (meth := k3m0) (c := k3c0) (by decide +kernel) rfl rfl rfl (by decide +kernel)
set_option maxRecDepth 65536 in
theorem w_c2 : (Jvm.Cond.code ({ cls := "java/lang/Record", name := "<init>", desc := "()V" } : Jvm.MethodName) jdk_30_method_1_code (1 : Nat) (Option.none : Option Jvm.ClassFile.FieldType)).before args0 about1 = true := code_word (m := ⟨2, 0⟩) (meth := k2m0) (c := k2c0) (by decide +kernel) rfl rfl rfl (by decide +kernel)
set_option maxRecDepth 65536 in
theorem w_c3 : (Jvm.Cond.code ({ cls := "java/lang/Object", name := "<init>", desc := "()V" } : Jvm.MethodName) object_method_1_code (1 : Nat) (Option.none : Option Jvm.ClassFile.FieldType)).before args0 about1 = true := code_word (m := ⟨0, 0⟩) (meth := k0m0) (c := k0c0) (by decide +kernel) rfl rfl rfl (by decide +kernel)
set_option maxRecDepth 65536 in
theorem w_c4 : (Jvm.Cond.code ({ cls := "com/example/tapewire/tapewire/protocol/WebSocket$Frame", name := "closeCode", desc := "()I" } : Jvm.MethodName) prog_97_method_3_code (1 : Nat) (Option.some Jvm.ClassFile.FieldType.int)).before args0 about1 = true := code_word (m := ⟨3, 1⟩) (meth := k3m1) (c := k3c1) (by decide +kernel) rfl rfl rfl (by decide +kernel)
def codes1 : List Jvm.Cond := [Jvm.Cond.code x code maxLocals ret, Jvm.Cond.code ({ cls := "com/example/tapewire/tapewire/protocol/WebSocket$Frame", name := "<init>", desc := "(I[B)V" } : Jvm.MethodName) prog_97_method_1_code (3 : Nat) (Option.none : Option Jvm.ClassFile.FieldType), Jvm.Cond.code ({ cls := "java/lang/Record", name := "<init>", desc := "()V" } : Jvm.MethodName) jdk_30_method_1_code (1 : Nat) (Option.none : Option Jvm.ClassFile.FieldType), Jvm.Cond.code ({ cls := "java/lang/Object", name := "<init>", desc := "()V" } : Jvm.MethodName) object_method_1_code (1 : Nat) (Option.none : Option Jvm.ClassFile.FieldType), Jvm.Cond.code ({ cls := "com/example/tapewire/tapewire/protocol/WebSocket$Frame", name := "closeCode", desc := "()I" } : Jvm.MethodName) prog_97_method_3_code (1 : Nat) (Option.some Jvm.ClassFile.FieldType.int)]
set_option maxRecDepth 65536 in
theorem codes_eq : words1.filter isCode = codes1 := rfl
theorem w_codes : ∀ c ∈ words1.filter isCode, c.before args0 about1 = true := by
  rw [codes_eq]
  intro c hc
  simp only [codes1, List.mem_cons, List.not_mem_nil, or_false] at hc
  rcases hc with rfl | rfl | rfl | rfl | rfl
  · exact w_c0
  · exact w_c1
  · exact w_c2
  · exact w_c3
  · exact w_c4
set_option maxRecDepth 65536 in
theorem w_t1 : (words1.take 24).all (fun c => isCode c || c.before args0 about1) = true := by decide +kernel
set_option maxRecDepth 65536 in
theorem w_t2 : (words1.drop 24).all (fun c => isCode c || c.before args0 about1) = true := by decide +kernel
theorem w_tables : (allAtoms (Jvm.Cond.code x code maxLocals ret :: tables_1)).before args0 about1 = true := by
  rw [allAtoms_all]
  show words1.all (fun c => c.before args0 about1) = true
  refine all_split ?_ w_codes
  rw [← List.take_append_drop 24 words1, List.all_append, w_t1, w_t2]
  rfl
set_option maxRecDepth 65536 in
theorem w_case : (Jvm.Cond.and given_1 narrow_1).before args0 about1 = true := by decide +kernel
theorem w_applies : (headSpec (Jvm.Cond.code x code maxLocals ret :: tables_1) room_1).applies x e0.platform about1 = true :=
  (Spec.applies_iff w_frames).mpr ⟨w_running, w_runnable, w_alone, w_named, w_hears, w_ripe, w_room, w_tables⟩
theorem atStart : AtStart classFile x code maxLocals ret World_1 tables_1 room_1 Calls_1 rest_1 Pre_1 launch0 p0 e0 about1 theMethod args0 below0 :=
  ⟨lists_1, trivial, launch0.admits_env _ _ _, launch0.least_env, fairChoices_fair.cas, fairChoices_fair.clock, w_frames, w_args, w_heap, w_applies, trivial, trivial, w_case⟩
end start1
theorem witness_1 : WitnessClaimed_1 := ⟨start1.p0, start1.e0, start1.about1, start1.theMethod, start1.args0, start1.below0, start1.atStart⟩
end Jvm.Pilot.@@N@@
