import JvmDerived
import JvmDerived.Pilot.@@N@@Statement
import JvmDerived.Pilot.@@N@@Code
set_option linter.unusedVariables false
set_option linter.unusedSimpArgs false
namespace Jvm.RoadKit
open Sem ClassFile Op Lib Jvm.Stand Jvm.Free Jvm.LawKit
section New
variable {p : Program} {l : Launch} {e : Env} {R : Room} {s : State} {m : MethodId} {args : Array Value} {below : List Frame} {meth : Method} {c : Code} {T : State} {locs : List Loc} {cells slots : Nat}
theorem retI (X : Stand p l e R s m args below meth c T locs cells slots) (hx : p.tables.exec = Jvm.exec) {pc : Nat} {Ls : Array Slot} {z : Int32} {rest : List Value} (hret : meth.sig.returnType = some .int) (hd : decode c.code pc = .ok (.ireturn, 1)) {fs : List Frame}
    (hl : ∀ (f : JFrame) (acts : List Action), f.method = m → f.locked = none → f.entered = [] → (doReturn e (T.setTop f) acts (some (.int z))).1 = T.setFrames fs) : Steps p.tables e below (T.setTop (mkF m pc Ls (.int z :: rest))) (T.setFrames fs) := by
  have hm' : T.vm.method? m = some meth := X.method'
  have hn : narrow .int (.int z) = .int z := rfl
  show Steps p.tables e below (T.setTop { method := m, pc := pc, locals := Ls, stack := _ :: rest, locked := none }) _
  jvm_step X.here [X.here.top, hx, hd, hm', hret, hn]
  first | (intro acts; rw [hl _ acts rfl rfl rfl]) | rw [hl _ _ rfl rfl rfl]
  exact Steps.refl _
end New
end Jvm.RoadKit
namespace Jvm.Pilot.@@N@@
open Jvm Jvm.ClassFile Sem Op Lib Jvm.Free Jvm.Stand Jvm.LawKit Jvm.RoadKit Bundle Jvm.Pilot.@@N@@.Jvm.D
theorem pn_0 : plainName "com/example/compensa/compensa/comum/Texto" = true := by first | (simp [plainName, overriddenIn]; done) | decide +kernel
theorem d3_0 : decode prog_68_method_1_code 0 = .ok (.aload_n 0, 1) := by decide +kernel
theorem d3_1 : decode prog_68_method_1_code 1 = .ok (.invokespecial 1, 3) := by decide +kernel
theorem d3_4 : decode prog_68_method_1_code 4 = .ok (.aload_n 0, 1) := by decide +kernel
theorem d3_5 : decode prog_68_method_1_code 5 = .ok (.iload_n 1, 1) := by decide +kernel
theorem d3_6 : decode prog_68_method_1_code 6 = .ok (.newarray .char, 2) := by decide +kernel
theorem d3_8 : decode prog_68_method_1_code 8 = .ok (.putfield 7, 3) := by decide +kernel
theorem d3_11 : decode prog_68_method_1_code 11 = .ok (.return_, 1) := by decide +kernel
theorem ef_3_16 (m : MethodId) (a1 : Addr) : entryFrame m #[(.ref a1), (.int (16 : Int32))] 2 = mkF m 0 #[.val (.ref a1), .val (.int (16 : Int32))] [] := by first | (simp [entryFrame, mkF, argsToLocals, Value.category]; done) | rfl
def Q3_16 (Z : State) (a1 : Addr) (h0 : Heap) (n0 : Nat) (v : Option Value) (h : Heap) (L : List Loc) : Prop := v = none ∧ Fr n0 L ∧ Keep h0 h [a1] ∧ Exa Z h a1 "com/example/compensa/compensa/comum/Texto"
set_option maxRecDepth 65536 in
set_option maxHeartbeats 40000000 in
theorem rm3_16 (l : Launch) (Z : State) (a0 : Array Value) (hw : ∀ d ∈ tables_1, d.before a0 Z = true) (ws : List Jvm.Cond) (a1 : Addr) (h0 : Heap) (n0 : Nat) (Z0 : n0 ≤ h0.size) (HE0 : Exa Z h0 a1 "com/example/compensa/compensa/comum/Texto") (HF1 : Fld Z h0 a1 "com/example/compensa/compensa/comum/Texto" "caracteres" "[C" .null) (Hg2 : n0 ≤ a1) :
    MetFree l (⟨"com/example/compensa/compensa/comum/Texto", "<init>", "(I)V"⟩ : MethodName) (head1 (Jvm.Cond.code (⟨"com/example/compensa/compensa/comum/Texto", "<init>", "(I)V"⟩ : MethodName) prog_68_method_1_code 2 none :: ws) ({ frames := 1, cells := 1, slots := 16, locals := 12 } : Room)) (fun a U => a = #[(.ref a1), (.int (16 : Int32))] ∧ Z.Warmed39 U.vm ∧ U.heap = h0) (fun _ _ _ _ _ => True) (fun _ U o U' => ∃ v L, o = .returned v ∧ Q3_16 Z a1 h0 n0 v U'.heap L ∧ FrameEnd U o U' L ({ frames := 1, cells := 1, slots := 16, locals := 12 } : Room).cells ({ frames := 1, cells := 1, slots := 16, locals := 12 } : Room).slots) := by
  refine MetFree.of_bodySF (plainFor_of_name pn_0) hisR ?_
  intro p e s m args below meth c s₁ Bd hml0 hP hK
  obtain ⟨rfl, hZ, hh⟩ := hP
  have hx := Bd.exec
  have hby := Bd.bytes
  have hml : c.maxLocals = 2 := hml0
  have hown : s.vm.findClass "com/example/compensa/compensa/comum/Texto" = some m.cls := findClass_of_methodNamed Bd.named
  have hnm := (name_of_methodNamed Bd.named Bd.method).1
  have X0 : Stand p l e ({ frames := 1, cells := 1, slots := 16, locals := 12 } : Room) s m #[(.ref a1), (.int (16 : Int32))] below meth c s₁ [] 0 0 := Stand.of_body Bd
  have e0 : s₁.heap = h0 := by rw [← hh, Bd.state]; rfl
  have N0 := Fr.nil n0
  have pre0 : ∀ t, Steps p.tables e below (s₁.setTop (mkF m 0 #[.val (.ref a1), .val (.int (16 : Int32))] [])) t → Steps p.tables e below (s₁.setTop (entryFrame m #[(.ref a1), (.int (16 : Int32))] 2)) t := fun t k => castTop (ef_3_16 m a1) k
  obtain ⟨T1, X1, e1, st1⟩ := initO X0 hx hZ hown (hw _ (List.mem_of_getElem? (i := 15) rfl)) (hw _ (List.mem_of_getElem? (i := 7) rfl)) (hw _ (List.mem_of_getElem? (i := 8) rfl)) e0 (g := (mkF m 1 #[.val (.ref a1), .val (.int (16 : Int32))] [(.ref a1)])) rfl (by rw [hml]; rfl) rfl (hb hby d3_1) (by decide) (W := 0) (by show 2 * 0 + _ ≤ _; exact Nat.le_of_eq rfl) (by decide)
  obtain ⟨T2, h2, k2, X2, e2, E2, A2, st2⟩ := newP X1 hx hZ (hw _ (List.mem_of_getElem? (i := 16) rfl)) e1 (g := (mkF m 6 #[.val (.ref a1), .val (.int (16 : Int32))] [(.int (16 : Int32)), (.ref a1)])) rfl (hb hby d3_6) rfl (by decide) (cap := 16) (by decide) (by decide) (by decide) (by decide)
  obtain ⟨b2, g2⟩ : ∃ z, z = h0.size := ⟨_, rfl⟩
  rw [← g2] at A2 st2
  have ne3 : a1 ≠ b2 := Nat.ne_of_lt (Nat.lt_of_lt_of_le HE0.lt (Nat.le_of_eq g2.symm))
  have g_b2 : n0 ≤ b2 := Nat.le_trans Z0 (Nat.le_of_eq g2.symm)
  have sz_b2 : h0.size ≤ b2 := Nat.le_trans (Keep.refl h0 [a1]).1 (Nat.le_of_eq g2.symm)
  have F4 : Exa Z h2 a1 "com/example/compensa/compensa/comum/Texto" := HE0.ext E2
  have F5 : Fld Z h2 a1 "com/example/compensa/compensa/comum/Texto" "caracteres" "[C" .null := HF1.ext E2
  have Z6 : n0 ≤ h2.size := Nat.le_trans Z0 E2.1
  have K7 : Keep h0 h2 [a1] := (Keep.refl h0 [a1]).ext E2
  have V2 : Arv Z h2 b2 k2 .char (16 : Int32) [(.int (0 : Int32)), (.int (0 : Int32)), (.int (0 : Int32)), (.int (0 : Int32)), (.int (0 : Int32)), (.int (0 : Int32)), (.int (0 : Int32)), (.int (0 : Int32)), (.int (0 : Int32)), (.int (0 : Int32)), (.int (0 : Int32)), (.int (0 : Int32)), (.int (0 : Int32)), (.int (0 : Int32)), (.int (0 : Int32)), (.int (0 : Int32))] (.int (0 : Int32)) := (Arv.new A2 (by decide)).pad (pad_rep [] (.int (0 : Int32)) 16)
  obtain ⟨T8, h8, X8, e8, W8, st8⟩ := putF X2 hx hZ hown (host := "") (Or.inl (hw _ (List.mem_of_getElem? (i := 17) rfl))) Via.refl e2 F5 F4 (Or.inl (hw _ (List.mem_of_getElem? (i := 18) rfl))) (hw _ (List.mem_of_getElem? (i := 10) rfl)) (ty := (.array .char)) (by decide) rfl rfl (g := (mkF m 8 #[.val (.ref a1), .val (.int (16 : Int32))] [(.ref b2), (.ref a1)])) rfl rfl (hb hby d3_8)
  have Fw8 : Fld Z h8 a1 "com/example/compensa/compensa/comum/Texto" "caracteres" "[C" (.ref b2) := F5.same W8
  have F9 : Exa Z h8 a1 "com/example/compensa/compensa/comum/Texto" := F4.wr W8
  have F10 : Arv Z h8 b2 k2 .char (16 : Int32) [(.int (0 : Int32)), (.int (0 : Int32)), (.int (0 : Int32)), (.int (0 : Int32)), (.int (0 : Int32)), (.int (0 : Int32)), (.int (0 : Int32)), (.int (0 : Int32)), (.int (0 : Int32)), (.int (0 : Int32)), (.int (0 : Int32)), (.int (0 : Int32)), (.int (0 : Int32)), (.int (0 : Int32)), (.int (0 : Int32)), (.int (0 : Int32))] (.int (0 : Int32)) := V2.other W8 (Ne.symm ne3)
  have Z11 : n0 ≤ h8.size := Nat.le_trans Z6 (Keep.of_wr W8).1
  have K12 : Keep h0 h8 [a1] := K7.wr W8 (Or.inl (List.mem_of_getElem? (i := 0) rfl))
  have N13 := Fr.snoc X8 N0 Hg2
  obtain ⟨fs, hr, hrun, hended, hW, hsame⟩ := X8.leave (v := none) (fun _ => rfl)
  refine ⟨_, _, pre0 _ ?_, hrun, hended, _, _, rfl, ?_, ⟨_, rfl⟩, hW, hsame.mono (by decide) (by decide)⟩
  · show Steps p.tables e below (s₁.setTop (mkF m 0 #[.val (.ref a1), .val (.int (16 : Int32))] [])) _
    refine XS.aloadN X0.here hx rfl (hb hby d3_0) rfl rfl ?_
    show Steps p.tables e below (s₁.setTop (mkF m 1 #[.val (.ref a1), .val (.int (16 : Int32))] [(.ref a1)])) _
    refine st1 _ ?_
    show Steps p.tables e below (T1.setTop (mkF m 4 #[.val (.ref a1), .val (.int (16 : Int32))] [])) _
    refine XS.aloadN X1.here hx rfl (hb hby d3_4) rfl rfl ?_
    show Steps p.tables e below (T1.setTop (mkF m 5 #[.val (.ref a1), .val (.int (16 : Int32))] [(.ref a1)])) _
    refine XS.iloadN X1.here hx rfl (hb hby d3_5) rfl ?_
    show Steps p.tables e below (T1.setTop (mkF m 6 #[.val (.ref a1), .val (.int (16 : Int32))] [(.int (16 : Int32)), (.ref a1)])) _
    refine st2 _ ?_
    show Steps p.tables e below (T2.setTop (mkF m 8 #[.val (.ref a1), .val (.int (16 : Int32))] [(.ref b2), (.ref a1)])) _
    refine st8 _ ?_
    show Steps p.tables e below (T8.setTop (mkF m 11 #[.val (.ref a1), .val (.int (16 : Int32))] [])) _
    exact X8.returnOut hx Bd.returns (hb hby d3_11) hr
  · show Q3_16 Z a1 h0 n0 _ T8.heap _
    rw [e8]
    exact ⟨rfl, N13, K12, F9⟩
theorem ef_3_10 (m : MethodId) (a1 : Addr) : entryFrame m #[(.ref a1), (.int (10 : Int32))] 2 = mkF m 0 #[.val (.ref a1), .val (.int (10 : Int32))] [] := by first | (simp [entryFrame, mkF, argsToLocals, Value.category]; done) | rfl
def Q3_10 (Z : State) (a1 : Addr) (h0 : Heap) (n0 : Nat) (v : Option Value) (h : Heap) (L : List Loc) : Prop := v = none ∧ Fr n0 L ∧ Keep h0 h [a1] ∧ Exa Z h a1 "com/example/compensa/compensa/comum/Texto"
set_option maxRecDepth 65536 in
set_option maxHeartbeats 40000000 in
theorem rm3_10 (l : Launch) (Z : State) (a0 : Array Value) (hw : ∀ d ∈ tables_1, d.before a0 Z = true) (ws : List Jvm.Cond) (a1 : Addr) (h0 : Heap) (n0 : Nat) (Z0 : n0 ≤ h0.size) (HE0 : Exa Z h0 a1 "com/example/compensa/compensa/comum/Texto") (HF1 : Fld Z h0 a1 "com/example/compensa/compensa/comum/Texto" "caracteres" "[C" .null) (Hg2 : n0 ≤ a1) :
    MetFree l (⟨"com/example/compensa/compensa/comum/Texto", "<init>", "(I)V"⟩ : MethodName) (head1 (Jvm.Cond.code (⟨"com/example/compensa/compensa/comum/Texto", "<init>", "(I)V"⟩ : MethodName) prog_68_method_1_code 2 none :: ws) ({ frames := 1, cells := 1, slots := 10, locals := 12 } : Room)) (fun a U => a = #[(.ref a1), (.int (10 : Int32))] ∧ Z.Warmed39 U.vm ∧ U.heap = h0) (fun _ _ _ _ _ => True) (fun _ U o U' => ∃ v L, o = .returned v ∧ Q3_10 Z a1 h0 n0 v U'.heap L ∧ FrameEnd U o U' L ({ frames := 1, cells := 1, slots := 10, locals := 12 } : Room).cells ({ frames := 1, cells := 1, slots := 10, locals := 12 } : Room).slots) := by
  refine MetFree.of_bodySF (plainFor_of_name pn_0) hisR ?_
  intro p e s m args below meth c s₁ Bd hml0 hP hK
  obtain ⟨rfl, hZ, hh⟩ := hP
  have hx := Bd.exec
  have hby := Bd.bytes
  have hml : c.maxLocals = 2 := hml0
  have hown : s.vm.findClass "com/example/compensa/compensa/comum/Texto" = some m.cls := findClass_of_methodNamed Bd.named
  have hnm := (name_of_methodNamed Bd.named Bd.method).1
  have X0 : Stand p l e ({ frames := 1, cells := 1, slots := 10, locals := 12 } : Room) s m #[(.ref a1), (.int (10 : Int32))] below meth c s₁ [] 0 0 := Stand.of_body Bd
  have e0 : s₁.heap = h0 := by rw [← hh, Bd.state]; rfl
  have N0 := Fr.nil n0
  have pre0 : ∀ t, Steps p.tables e below (s₁.setTop (mkF m 0 #[.val (.ref a1), .val (.int (10 : Int32))] [])) t → Steps p.tables e below (s₁.setTop (entryFrame m #[(.ref a1), (.int (10 : Int32))] 2)) t := fun t k => castTop (ef_3_10 m a1) k
  obtain ⟨T1, X1, e1, st1⟩ := initO X0 hx hZ hown (hw _ (List.mem_of_getElem? (i := 15) rfl)) (hw _ (List.mem_of_getElem? (i := 7) rfl)) (hw _ (List.mem_of_getElem? (i := 8) rfl)) e0 (g := (mkF m 1 #[.val (.ref a1), .val (.int (10 : Int32))] [(.ref a1)])) rfl (by rw [hml]; rfl) rfl (hb hby d3_1) (by decide) (W := 0) (by show 2 * 0 + _ ≤ _; exact Nat.le_of_eq rfl) (by decide)
  obtain ⟨T2, h2, k2, X2, e2, E2, A2, st2⟩ := newP X1 hx hZ (hw _ (List.mem_of_getElem? (i := 16) rfl)) e1 (g := (mkF m 6 #[.val (.ref a1), .val (.int (10 : Int32))] [(.int (10 : Int32)), (.ref a1)])) rfl (hb hby d3_6) rfl (by decide) (cap := 10) (by decide) (by decide) (by decide) (by decide)
  obtain ⟨b2, g2⟩ : ∃ z, z = h0.size := ⟨_, rfl⟩
  rw [← g2] at A2 st2
  have ne3 : a1 ≠ b2 := Nat.ne_of_lt (Nat.lt_of_lt_of_le HE0.lt (Nat.le_of_eq g2.symm))
  have g_b2 : n0 ≤ b2 := Nat.le_trans Z0 (Nat.le_of_eq g2.symm)
  have sz_b2 : h0.size ≤ b2 := Nat.le_trans (Keep.refl h0 [a1]).1 (Nat.le_of_eq g2.symm)
  have F4 : Exa Z h2 a1 "com/example/compensa/compensa/comum/Texto" := HE0.ext E2
  have F5 : Fld Z h2 a1 "com/example/compensa/compensa/comum/Texto" "caracteres" "[C" .null := HF1.ext E2
  have Z6 : n0 ≤ h2.size := Nat.le_trans Z0 E2.1
  have K7 : Keep h0 h2 [a1] := (Keep.refl h0 [a1]).ext E2
  have V2 : Arv Z h2 b2 k2 .char (10 : Int32) [(.int (0 : Int32)), (.int (0 : Int32)), (.int (0 : Int32)), (.int (0 : Int32)), (.int (0 : Int32)), (.int (0 : Int32)), (.int (0 : Int32)), (.int (0 : Int32)), (.int (0 : Int32)), (.int (0 : Int32))] (.int (0 : Int32)) := (Arv.new A2 (by decide)).pad (pad_rep [] (.int (0 : Int32)) 10)
  obtain ⟨T8, h8, X8, e8, W8, st8⟩ := putF X2 hx hZ hown (host := "") (Or.inl (hw _ (List.mem_of_getElem? (i := 17) rfl))) Via.refl e2 F5 F4 (Or.inl (hw _ (List.mem_of_getElem? (i := 18) rfl))) (hw _ (List.mem_of_getElem? (i := 10) rfl)) (ty := (.array .char)) (by decide) rfl rfl (g := (mkF m 8 #[.val (.ref a1), .val (.int (10 : Int32))] [(.ref b2), (.ref a1)])) rfl rfl (hb hby d3_8)
  have Fw8 : Fld Z h8 a1 "com/example/compensa/compensa/comum/Texto" "caracteres" "[C" (.ref b2) := F5.same W8
  have F9 : Exa Z h8 a1 "com/example/compensa/compensa/comum/Texto" := F4.wr W8
  have F10 : Arv Z h8 b2 k2 .char (10 : Int32) [(.int (0 : Int32)), (.int (0 : Int32)), (.int (0 : Int32)), (.int (0 : Int32)), (.int (0 : Int32)), (.int (0 : Int32)), (.int (0 : Int32)), (.int (0 : Int32)), (.int (0 : Int32)), (.int (0 : Int32))] (.int (0 : Int32)) := V2.other W8 (Ne.symm ne3)
  have Z11 : n0 ≤ h8.size := Nat.le_trans Z6 (Keep.of_wr W8).1
  have K12 : Keep h0 h8 [a1] := K7.wr W8 (Or.inl (List.mem_of_getElem? (i := 0) rfl))
  have N13 := Fr.snoc X8 N0 Hg2
  obtain ⟨fs, hr, hrun, hended, hW, hsame⟩ := X8.leave (v := none) (fun _ => rfl)
  refine ⟨_, _, pre0 _ ?_, hrun, hended, _, _, rfl, ?_, ⟨_, rfl⟩, hW, hsame.mono (by decide) (by decide)⟩
  · show Steps p.tables e below (s₁.setTop (mkF m 0 #[.val (.ref a1), .val (.int (10 : Int32))] [])) _
    refine XS.aloadN X0.here hx rfl (hb hby d3_0) rfl rfl ?_
    show Steps p.tables e below (s₁.setTop (mkF m 1 #[.val (.ref a1), .val (.int (10 : Int32))] [(.ref a1)])) _
    refine st1 _ ?_
    show Steps p.tables e below (T1.setTop (mkF m 4 #[.val (.ref a1), .val (.int (10 : Int32))] [])) _
    refine XS.aloadN X1.here hx rfl (hb hby d3_4) rfl rfl ?_
    show Steps p.tables e below (T1.setTop (mkF m 5 #[.val (.ref a1), .val (.int (10 : Int32))] [(.ref a1)])) _
    refine XS.iloadN X1.here hx rfl (hb hby d3_5) rfl ?_
    show Steps p.tables e below (T1.setTop (mkF m 6 #[.val (.ref a1), .val (.int (10 : Int32))] [(.int (10 : Int32)), (.ref a1)])) _
    refine st2 _ ?_
    show Steps p.tables e below (T2.setTop (mkF m 8 #[.val (.ref a1), .val (.int (10 : Int32))] [(.ref b2), (.ref a1)])) _
    refine st8 _ ?_
    show Steps p.tables e below (T8.setTop (mkF m 11 #[.val (.ref a1), .val (.int (10 : Int32))] [])) _
    exact X8.returnOut hx Bd.returns (hb hby d3_11) hr
  · show Q3_10 Z a1 h0 n0 _ T8.heap _
    rw [e8]
    exact ⟨rfl, N13, K12, F9⟩
theorem pn_1 : plainName "com/example/compensa/compensa/banco/LeiauteDeRetorno$Ocorrencia" = true := by first | (simp [plainName, overriddenIn]; done) | decide +kernel
theorem d1_0 : decode prog_37_method_1_code 0 = .ok (.aload_n 0, 1) := by decide +kernel
theorem d1_1 : decode prog_37_method_1_code 1 = .ok (.invokespecial 1, 3) := by decide +kernel
theorem d1_4 : decode prog_37_method_1_code 4 = .ok (.aload_n 0, 1) := by decide +kernel
theorem d1_5 : decode prog_37_method_1_code 5 = .ok (.new 7, 3) := by decide +kernel
theorem d1_8 : decode prog_37_method_1_code 8 = .ok (.dup, 1) := by decide +kernel
theorem d1_9 : decode prog_37_method_1_code 9 = .ok (.bipush 16, 2) := by decide +kernel
theorem d1_11 : decode prog_37_method_1_code 11 = .ok (.invokespecial 9, 3) := by decide +kernel
theorem pd_0 : parseMethodDescriptor "(I)V" = some ⟨[.int], none⟩ := by decide +kernel
theorem d1_14 : decode prog_37_method_1_code 14 = .ok (.putfield 12, 3) := by decide +kernel
theorem d1_17 : decode prog_37_method_1_code 17 = .ok (.aload_n 0, 1) := by decide +kernel
theorem d1_18 : decode prog_37_method_1_code 18 = .ok (.new 7, 3) := by decide +kernel
theorem d1_21 : decode prog_37_method_1_code 21 = .ok (.dup, 1) := by decide +kernel
theorem d1_22 : decode prog_37_method_1_code 22 = .ok (.bipush 10, 2) := by decide +kernel
theorem d1_24 : decode prog_37_method_1_code 24 = .ok (.invokespecial 9, 3) := by decide +kernel
theorem d1_27 : decode prog_37_method_1_code 27 = .ok (.putfield 18, 3) := by decide +kernel
theorem d1_30 : decode prog_37_method_1_code 30 = .ok (.aload_n 0, 1) := by decide +kernel
theorem d1_31 : decode prog_37_method_1_code 31 = .ok (.new 7, 3) := by decide +kernel
theorem d1_34 : decode prog_37_method_1_code 34 = .ok (.dup, 1) := by decide +kernel
theorem d1_35 : decode prog_37_method_1_code 35 = .ok (.bipush 16, 2) := by decide +kernel
theorem d1_37 : decode prog_37_method_1_code 37 = .ok (.invokespecial 9, 3) := by decide +kernel
theorem d1_40 : decode prog_37_method_1_code 40 = .ok (.putfield 21, 3) := by decide +kernel
theorem d1_43 : decode prog_37_method_1_code 43 = .ok (.aload_n 0, 1) := by decide +kernel
theorem d1_44 : decode prog_37_method_1_code 44 = .ok (.new 7, 3) := by decide +kernel
theorem d1_47 : decode prog_37_method_1_code 47 = .ok (.dup, 1) := by decide +kernel
theorem d1_48 : decode prog_37_method_1_code 48 = .ok (.bipush 10, 2) := by decide +kernel
theorem d1_50 : decode prog_37_method_1_code 50 = .ok (.invokespecial 9, 3) := by decide +kernel
theorem d1_53 : decode prog_37_method_1_code 53 = .ok (.putfield 24, 3) := by decide +kernel
theorem d1_56 : decode prog_37_method_1_code 56 = .ok (.aload_n 0, 1) := by decide +kernel
theorem d1_57 : decode prog_37_method_1_code 57 = .ok (.new 7, 3) := by decide +kernel
theorem d1_60 : decode prog_37_method_1_code 60 = .ok (.dup, 1) := by decide +kernel
theorem d1_61 : decode prog_37_method_1_code 61 = .ok (.bipush 10, 2) := by decide +kernel
theorem d1_63 : decode prog_37_method_1_code 63 = .ok (.invokespecial 9, 3) := by decide +kernel
theorem d1_66 : decode prog_37_method_1_code 66 = .ok (.putfield 27, 3) := by decide +kernel
theorem d1_69 : decode prog_37_method_1_code 69 = .ok (.aload_n 0, 1) := by decide +kernel
theorem d1_70 : decode prog_37_method_1_code 70 = .ok (.new 7, 3) := by decide +kernel
theorem d1_73 : decode prog_37_method_1_code 73 = .ok (.dup, 1) := by decide +kernel
theorem d1_74 : decode prog_37_method_1_code 74 = .ok (.bipush 16, 2) := by decide +kernel
theorem d1_76 : decode prog_37_method_1_code 76 = .ok (.invokespecial 9, 3) := by decide +kernel
theorem d1_79 : decode prog_37_method_1_code 79 = .ok (.putfield 30, 3) := by decide +kernel
theorem d1_82 : decode prog_37_method_1_code 82 = .ok (.return_, 1) := by decide +kernel
theorem ef_1 (m : MethodId) (a1 : Addr) : entryFrame m #[(.ref a1)] 1 = mkF m 0 #[.val (.ref a1)] [] := by first | (simp [entryFrame, mkF, argsToLocals, Value.category]; done) | rfl
def Q1 (Z : State) (a1 : Addr) (h0 : Heap) (n0 : Nat) (v : Option Value) (h : Heap) (L : List Loc) : Prop := v = none ∧ Fr n0 L ∧ Keep h0 h [a1] ∧ Exa Z h a1 "com/example/compensa/compensa/banco/LeiauteDeRetorno$Ocorrencia" ∧ Fld Z h a1 "com/example/compensa/compensa/banco/LeiauteDeRetorno$Ocorrencia" "valor" "J" (.long (0 : Int64)) ∧ Fld Z h a1 "com/example/compensa/compensa/banco/LeiauteDeRetorno$Ocorrencia" "tarifa" "J" (.long (0 : Int64)) ∧ Fld Z h a1 "com/example/compensa/compensa/banco/LeiauteDeRetorno$Ocorrencia" "pago" "J" (.long (0 : Int64)) ∧ Fld Z h a1 "com/example/compensa/compensa/banco/LeiauteDeRetorno$Ocorrencia" "juros" "J" (.long (0 : Int64)) ∧ Fld Z h a1 "com/example/compensa/compensa/banco/LeiauteDeRetorno$Ocorrencia" "codigo" "I" (.int (0 : Int32)) ∧ Fld Z h a1 "com/example/compensa/compensa/banco/LeiauteDeRetorno$Ocorrencia" "nome" "Ljava/lang/String;" .null
set_option maxRecDepth 65536 in
set_option maxHeartbeats 40000000 in
theorem rm1 (l : Launch) (Z : State) (a0 : Array Value) (hw : ∀ d ∈ tables_1, d.before a0 Z = true) (ws : List Jvm.Cond) (a1 : Addr) (h0 : Heap) (n0 : Nat) (Z0 : n0 ≤ h0.size) (HE0 : Exa Z h0 a1 "com/example/compensa/compensa/banco/LeiauteDeRetorno$Ocorrencia") (Hg1 : n0 ≤ a1) (HF2 : Fld Z h0 a1 "com/example/compensa/compensa/banco/LeiauteDeRetorno$Ocorrencia" "nossoNumero" "Lcom/example/compensa/compensa/comum/Texto;" .null) (HF3 : Fld Z h0 a1 "com/example/compensa/compensa/banco/LeiauteDeRetorno$Ocorrencia" "data" "Lcom/example/compensa/compensa/comum/Texto;" .null) (HF4 : Fld Z h0 a1 "com/example/compensa/compensa/banco/LeiauteDeRetorno$Ocorrencia" "documento" "Lcom/example/compensa/compensa/comum/Texto;" .null) (HF5 : Fld Z h0 a1 "com/example/compensa/compensa/banco/LeiauteDeRetorno$Ocorrencia" "vencimento" "Lcom/example/compensa/compensa/comum/Texto;" .null) (HF6 : Fld Z h0 a1 "com/example/compensa/compensa/banco/LeiauteDeRetorno$Ocorrencia" "credito" "Lcom/example/compensa/compensa/comum/Texto;" .null) (HF7 : Fld Z h0 a1 "com/example/compensa/compensa/banco/LeiauteDeRetorno$Ocorrencia" "motivos" "Lcom/example/compensa/compensa/comum/Texto;" .null) (HF8 : Fld Z h0 a1 "com/example/compensa/compensa/banco/LeiauteDeRetorno$Ocorrencia" "valor" "J" (.long (0 : Int64))) (HF9 : Fld Z h0 a1 "com/example/compensa/compensa/banco/LeiauteDeRetorno$Ocorrencia" "tarifa" "J" (.long (0 : Int64))) (HF10 : Fld Z h0 a1 "com/example/compensa/compensa/banco/LeiauteDeRetorno$Ocorrencia" "pago" "J" (.long (0 : Int64))) (HF11 : Fld Z h0 a1 "com/example/compensa/compensa/banco/LeiauteDeRetorno$Ocorrencia" "juros" "J" (.long (0 : Int64))) (HF12 : Fld Z h0 a1 "com/example/compensa/compensa/banco/LeiauteDeRetorno$Ocorrencia" "codigo" "I" (.int (0 : Int32))) (HF13 : Fld Z h0 a1 "com/example/compensa/compensa/banco/LeiauteDeRetorno$Ocorrencia" "nome" "Ljava/lang/String;" .null) :
    MetFree l (⟨"com/example/compensa/compensa/banco/LeiauteDeRetorno$Ocorrencia", "<init>", "()V"⟩ : MethodName) (head1 (Jvm.Cond.code (⟨"com/example/compensa/compensa/banco/LeiauteDeRetorno$Ocorrencia", "<init>", "()V"⟩ : MethodName) prog_37_method_1_code 1 none :: ws) ({ frames := 2, cells := 12, slots := 90, locals := 27 } : Room)) (fun a U => a = #[(.ref a1)] ∧ Z.Warmed39 U.vm ∧ U.heap = h0) (fun _ _ _ _ _ => True) (fun _ U o U' => ∃ v L, o = .returned v ∧ Q1 Z a1 h0 n0 v U'.heap L ∧ FrameEnd U o U' L ({ frames := 2, cells := 12, slots := 90, locals := 27 } : Room).cells ({ frames := 2, cells := 12, slots := 90, locals := 27 } : Room).slots) := by
  refine MetFree.of_bodySF (plainFor_of_name pn_1) hisR ?_
  intro p e s m args below meth c s₁ Bd hml0 hP hK
  obtain ⟨rfl, hZ, hh⟩ := hP
  have hx := Bd.exec
  have hby := Bd.bytes
  have hml : c.maxLocals = 1 := hml0
  have hown : s.vm.findClass "com/example/compensa/compensa/banco/LeiauteDeRetorno$Ocorrencia" = some m.cls := findClass_of_methodNamed Bd.named
  have hnm := (name_of_methodNamed Bd.named Bd.method).1
  have X0 : Stand p l e ({ frames := 2, cells := 12, slots := 90, locals := 27 } : Room) s m #[(.ref a1)] below meth c s₁ [] 0 0 := Stand.of_body Bd
  have e0 : s₁.heap = h0 := by rw [← hh, Bd.state]; rfl
  have N0 := Fr.nil n0
  have pre0 : ∀ t, Steps p.tables e below (s₁.setTop (mkF m 0 #[.val (.ref a1)] [])) t → Steps p.tables e below (s₁.setTop (entryFrame m #[(.ref a1)] 1)) t := fun t k => castTop (ef_1 m a1) k
  obtain ⟨T1, X1, e1, st1⟩ := initO X0 hx hZ hown (hw _ (List.mem_of_getElem? (i := 6) rfl)) (hw _ (List.mem_of_getElem? (i := 7) rfl)) (hw _ (List.mem_of_getElem? (i := 8) rfl)) e0 (g := (mkF m 1 #[.val (.ref a1)] [(.ref a1)])) rfl (by rw [hml]; rfl) rfl (hb hby d1_1) (by decide) (W := 0) (by show 2 * 0 + _ ≤ _; exact Nat.le_of_eq rfl) (by decide)
  obtain ⟨T2, h2, X2, e2, E2, A2, D2, -, st2⟩ := newO X1 hx hZ hown (hw _ (List.mem_of_getElem? (i := 9) rfl)) (hw _ (List.mem_of_getElem? (i := 10) rfl)) (hw _ (List.mem_of_getElem? (i := 11) rfl)) e1 (g := (mkF m 5 #[.val (.ref a1)] [(.ref a1)])) rfl (hb hby d1_5) (by decide) (by decide)
  obtain ⟨b2, g2⟩ : ∃ z, z = h0.size := ⟨_, rfl⟩
  rw [← g2] at A2 D2 st2
  have ne3 : a1 ≠ b2 := Nat.ne_of_lt (Nat.lt_of_lt_of_le HE0.lt (Nat.le_of_eq g2.symm))
  have g_b2 : n0 ≤ b2 := Nat.le_trans Z0 (Nat.le_of_eq g2.symm)
  have sz_b2 : h0.size ≤ b2 := Nat.le_trans (Keep.refl h0 [a1]).1 (Nat.le_of_eq g2.symm)
  have F4 : Exa Z h2 a1 "com/example/compensa/compensa/banco/LeiauteDeRetorno$Ocorrencia" := HE0.ext E2
  have F5 : Fld Z h2 a1 "com/example/compensa/compensa/banco/LeiauteDeRetorno$Ocorrencia" "nossoNumero" "Lcom/example/compensa/compensa/comum/Texto;" .null := HF2.ext E2
  have F6 : Fld Z h2 a1 "com/example/compensa/compensa/banco/LeiauteDeRetorno$Ocorrencia" "data" "Lcom/example/compensa/compensa/comum/Texto;" .null := HF3.ext E2
  have F7 : Fld Z h2 a1 "com/example/compensa/compensa/banco/LeiauteDeRetorno$Ocorrencia" "documento" "Lcom/example/compensa/compensa/comum/Texto;" .null := HF4.ext E2
  have F8 : Fld Z h2 a1 "com/example/compensa/compensa/banco/LeiauteDeRetorno$Ocorrencia" "vencimento" "Lcom/example/compensa/compensa/comum/Texto;" .null := HF5.ext E2
  have F9 : Fld Z h2 a1 "com/example/compensa/compensa/banco/LeiauteDeRetorno$Ocorrencia" "credito" "Lcom/example/compensa/compensa/comum/Texto;" .null := HF6.ext E2
  have F10 : Fld Z h2 a1 "com/example/compensa/compensa/banco/LeiauteDeRetorno$Ocorrencia" "motivos" "Lcom/example/compensa/compensa/comum/Texto;" .null := HF7.ext E2
  have F11 : Fld Z h2 a1 "com/example/compensa/compensa/banco/LeiauteDeRetorno$Ocorrencia" "valor" "J" (.long (0 : Int64)) := HF8.ext E2
  have F12 : Fld Z h2 a1 "com/example/compensa/compensa/banco/LeiauteDeRetorno$Ocorrencia" "tarifa" "J" (.long (0 : Int64)) := HF9.ext E2
  have F13 : Fld Z h2 a1 "com/example/compensa/compensa/banco/LeiauteDeRetorno$Ocorrencia" "pago" "J" (.long (0 : Int64)) := HF10.ext E2
  have F14 : Fld Z h2 a1 "com/example/compensa/compensa/banco/LeiauteDeRetorno$Ocorrencia" "juros" "J" (.long (0 : Int64)) := HF11.ext E2
  have F15 : Fld Z h2 a1 "com/example/compensa/compensa/banco/LeiauteDeRetorno$Ocorrencia" "codigo" "I" (.int (0 : Int32)) := HF12.ext E2
  have F16 : Fld Z h2 a1 "com/example/compensa/compensa/banco/LeiauteDeRetorno$Ocorrencia" "nome" "Ljava/lang/String;" .null := HF13.ext E2
  have Z17 : n0 ≤ h2.size := Nat.le_trans Z0 E2.1
  have K18 : Keep h0 h2 [a1] := (Keep.refl h0 [a1]).ext E2
  have F19 : Fld Z h2 b2 "com/example/compensa/compensa/comum/Texto" "caracteres" "[C" .null := D2 (Or.inl (hw _ (List.mem_of_getElem? (i := 18) rfl))) (ty := (.array .char)) (by decide)
  obtain ⟨_, _, ⟨T20, L20, k20, n20⟩, -, X20, ⟨Lc20, hQ20, l20, y20, z20⟩, st20⟩ := X2.specialBack hx (y := (⟨"com/example/compensa/compensa/comum/Texto", "<init>", "(I)V"⟩ : MethodName)) rfl hown (mvT hZ (hw _ (List.mem_of_getElem? (i := 12) rfl))) (mvT hZ (hw _ (List.mem_of_getElem? (i := 13) rfl))) (mvT hZ (hw _ (List.mem_of_getElem? (i := 14) rfl))) (by decide) (backOf (W := 2) (rm3_16 l Z a0 hw [] b2 h2 n0 Z17 A2 F19 g_b2) hZ (hw _ (List.mem_of_getElem? (i := 14) rfl)) (hw _ (List.mem_of_getElem? (i := 11) rfl)) (by decide) (by decide)) (g := (mkF m 11 #[.val (.ref a1)] [(.int (16 : Int32)), (.ref b2), (.ref b2), (.ref a1)])) rfl (by rw [hml]; rfl) (Steps.refl _) (a := b2) (argsL := [(.int (16 : Int32))]) (rest := [(.ref b2), (.ref a1)]) (lenOf pd_0 rfl) rfl (by show 2 * 0 + _ ≤ _; exact Nat.le_of_eq rfl) (hb hby d1_11) (fun _ _ => ⟨rfl, e2, (by decide : 1 + 1 ≤ _), (by decide : 2 + 16 ≤ _)⟩)
  dsimp only [Pt.U, Pt.locs, Pt.cells, Pt.slots] at X20 l20 y20 z20 st20 hQ20
  subst l20 y20 z20
  obtain ⟨rfl, N20q, R21, R22⟩ := hQ20
  have N20 := Fr.app N0 N20q
  have F23 : Exa Z T20.heap a1 "com/example/compensa/compensa/banco/LeiauteDeRetorno$Ocorrencia" := F4.keep R21
  have F24 : Fld Z T20.heap a1 "com/example/compensa/compensa/banco/LeiauteDeRetorno$Ocorrencia" "nossoNumero" "Lcom/example/compensa/compensa/comum/Texto;" .null := F5.keep R21 (ninS ne3 nin0)
  have F25 : Fld Z T20.heap a1 "com/example/compensa/compensa/banco/LeiauteDeRetorno$Ocorrencia" "data" "Lcom/example/compensa/compensa/comum/Texto;" .null := F6.keep R21 (ninS ne3 nin0)
  have F26 : Fld Z T20.heap a1 "com/example/compensa/compensa/banco/LeiauteDeRetorno$Ocorrencia" "documento" "Lcom/example/compensa/compensa/comum/Texto;" .null := F7.keep R21 (ninS ne3 nin0)
  have F27 : Fld Z T20.heap a1 "com/example/compensa/compensa/banco/LeiauteDeRetorno$Ocorrencia" "vencimento" "Lcom/example/compensa/compensa/comum/Texto;" .null := F8.keep R21 (ninS ne3 nin0)
  have F28 : Fld Z T20.heap a1 "com/example/compensa/compensa/banco/LeiauteDeRetorno$Ocorrencia" "credito" "Lcom/example/compensa/compensa/comum/Texto;" .null := F9.keep R21 (ninS ne3 nin0)
  have F29 : Fld Z T20.heap a1 "com/example/compensa/compensa/banco/LeiauteDeRetorno$Ocorrencia" "motivos" "Lcom/example/compensa/compensa/comum/Texto;" .null := F10.keep R21 (ninS ne3 nin0)
  have F30 : Fld Z T20.heap a1 "com/example/compensa/compensa/banco/LeiauteDeRetorno$Ocorrencia" "valor" "J" (.long (0 : Int64)) := F11.keep R21 (ninS ne3 nin0)
  have F31 : Fld Z T20.heap a1 "com/example/compensa/compensa/banco/LeiauteDeRetorno$Ocorrencia" "tarifa" "J" (.long (0 : Int64)) := F12.keep R21 (ninS ne3 nin0)
  have F32 : Fld Z T20.heap a1 "com/example/compensa/compensa/banco/LeiauteDeRetorno$Ocorrencia" "pago" "J" (.long (0 : Int64)) := F13.keep R21 (ninS ne3 nin0)
  have F33 : Fld Z T20.heap a1 "com/example/compensa/compensa/banco/LeiauteDeRetorno$Ocorrencia" "juros" "J" (.long (0 : Int64)) := F14.keep R21 (ninS ne3 nin0)
  have F34 : Fld Z T20.heap a1 "com/example/compensa/compensa/banco/LeiauteDeRetorno$Ocorrencia" "codigo" "I" (.int (0 : Int32)) := F15.keep R21 (ninS ne3 nin0)
  have F35 : Fld Z T20.heap a1 "com/example/compensa/compensa/banco/LeiauteDeRetorno$Ocorrencia" "nome" "Ljava/lang/String;" .null := F16.keep R21 (ninS ne3 nin0)
  have F36 : Exa Z T20.heap b2 "com/example/compensa/compensa/comum/Texto" := A2.keep R21
  have Z37 : n0 ≤ T20.heap.size := Nat.le_trans Z17 R21.1
  have K38 : Keep h0 T20.heap [a1] := K18.trans R21 (allS (Or.inr sz_b2) all0)
  obtain ⟨T39, h39, X39, e39, W39, st39⟩ := putF X20 hx hZ hown (host := "") (Or.inl (hw _ (List.mem_of_getElem? (i := 19) rfl))) Via.refl rfl F24 F23 (Or.inr ⟨(hw _ (List.mem_of_getElem? (i := 20) rfl)), rfl, hnm⟩) (hw _ (List.mem_of_getElem? (i := 1) rfl)) (ty := (.object "com/example/compensa/compensa/comum/Texto")) (by decide) rfl rfl (g := (mkF m 14 #[.val (.ref a1)] [(.ref b2), (.ref a1)])) rfl rfl (hb hby d1_14)
  have Fw39 : Fld Z h39 a1 "com/example/compensa/compensa/banco/LeiauteDeRetorno$Ocorrencia" "nossoNumero" "Lcom/example/compensa/compensa/comum/Texto;" (.ref b2) := F24.same W39
  have F40 : Exa Z h39 a1 "com/example/compensa/compensa/banco/LeiauteDeRetorno$Ocorrencia" := F23.wr W39
  have F41 : Fld Z h39 a1 "com/example/compensa/compensa/banco/LeiauteDeRetorno$Ocorrencia" "data" "Lcom/example/compensa/compensa/comum/Texto;" .null := F25.other W39 (Or.inr (slot_ne (Or.inr (hw _ (List.mem_of_getElem? (i := 22) rfl))) (Or.inr (hw _ (List.mem_of_getElem? (i := 20) rfl))) (by decide) (t := (.object "com/example/compensa/compensa/comum/Texto")) (t' := (.object "com/example/compensa/compensa/comum/Texto")) (by decide) (by decide)))
  have F42 : Fld Z h39 a1 "com/example/compensa/compensa/banco/LeiauteDeRetorno$Ocorrencia" "documento" "Lcom/example/compensa/compensa/comum/Texto;" .null := F26.other W39 (Or.inr (slot_ne (Or.inr (hw _ (List.mem_of_getElem? (i := 24) rfl))) (Or.inr (hw _ (List.mem_of_getElem? (i := 20) rfl))) (by decide) (t := (.object "com/example/compensa/compensa/comum/Texto")) (t' := (.object "com/example/compensa/compensa/comum/Texto")) (by decide) (by decide)))
  have F43 : Fld Z h39 a1 "com/example/compensa/compensa/banco/LeiauteDeRetorno$Ocorrencia" "vencimento" "Lcom/example/compensa/compensa/comum/Texto;" .null := F27.other W39 (Or.inr (slot_ne (Or.inr (hw _ (List.mem_of_getElem? (i := 26) rfl))) (Or.inr (hw _ (List.mem_of_getElem? (i := 20) rfl))) (by decide) (t := (.object "com/example/compensa/compensa/comum/Texto")) (t' := (.object "com/example/compensa/compensa/comum/Texto")) (by decide) (by decide)))
  have F44 : Fld Z h39 a1 "com/example/compensa/compensa/banco/LeiauteDeRetorno$Ocorrencia" "credito" "Lcom/example/compensa/compensa/comum/Texto;" .null := F28.other W39 (Or.inr (slot_ne (Or.inr (hw _ (List.mem_of_getElem? (i := 28) rfl))) (Or.inr (hw _ (List.mem_of_getElem? (i := 20) rfl))) (by decide) (t := (.object "com/example/compensa/compensa/comum/Texto")) (t' := (.object "com/example/compensa/compensa/comum/Texto")) (by decide) (by decide)))
  have F45 : Fld Z h39 a1 "com/example/compensa/compensa/banco/LeiauteDeRetorno$Ocorrencia" "motivos" "Lcom/example/compensa/compensa/comum/Texto;" .null := F29.other W39 (Or.inr (slot_ne (Or.inr (hw _ (List.mem_of_getElem? (i := 30) rfl))) (Or.inr (hw _ (List.mem_of_getElem? (i := 20) rfl))) (by decide) (t := (.object "com/example/compensa/compensa/comum/Texto")) (t' := (.object "com/example/compensa/compensa/comum/Texto")) (by decide) (by decide)))
  have F46 : Fld Z h39 a1 "com/example/compensa/compensa/banco/LeiauteDeRetorno$Ocorrencia" "valor" "J" (.long (0 : Int64)) := F30.other W39 (Or.inr (slot_ne (Or.inl (hw _ (List.mem_of_getElem? (i := 37) rfl))) (Or.inr (hw _ (List.mem_of_getElem? (i := 20) rfl))) (by decide) (t := .long) (t' := (.object "com/example/compensa/compensa/comum/Texto")) (by decide) (by decide)))
  have F47 : Fld Z h39 a1 "com/example/compensa/compensa/banco/LeiauteDeRetorno$Ocorrencia" "tarifa" "J" (.long (0 : Int64)) := F31.other W39 (Or.inr (slot_ne (Or.inl (hw _ (List.mem_of_getElem? (i := 39) rfl))) (Or.inr (hw _ (List.mem_of_getElem? (i := 20) rfl))) (by decide) (t := .long) (t' := (.object "com/example/compensa/compensa/comum/Texto")) (by decide) (by decide)))
  have F48 : Fld Z h39 a1 "com/example/compensa/compensa/banco/LeiauteDeRetorno$Ocorrencia" "pago" "J" (.long (0 : Int64)) := F32.other W39 (Or.inr (slot_ne (Or.inl (hw _ (List.mem_of_getElem? (i := 41) rfl))) (Or.inr (hw _ (List.mem_of_getElem? (i := 20) rfl))) (by decide) (t := .long) (t' := (.object "com/example/compensa/compensa/comum/Texto")) (by decide) (by decide)))
  have F49 : Fld Z h39 a1 "com/example/compensa/compensa/banco/LeiauteDeRetorno$Ocorrencia" "juros" "J" (.long (0 : Int64)) := F33.other W39 (Or.inr (slot_ne (Or.inl (hw _ (List.mem_of_getElem? (i := 43) rfl))) (Or.inr (hw _ (List.mem_of_getElem? (i := 20) rfl))) (by decide) (t := .long) (t' := (.object "com/example/compensa/compensa/comum/Texto")) (by decide) (by decide)))
  have F50 : Fld Z h39 a1 "com/example/compensa/compensa/banco/LeiauteDeRetorno$Ocorrencia" "codigo" "I" (.int (0 : Int32)) := F34.other W39 (Or.inr (slot_ne (Or.inl (hw _ (List.mem_of_getElem? (i := 70) rfl))) (Or.inr (hw _ (List.mem_of_getElem? (i := 20) rfl))) (by decide) (t := .int) (t' := (.object "com/example/compensa/compensa/comum/Texto")) (by decide) (by decide)))
  have F51 : Fld Z h39 a1 "com/example/compensa/compensa/banco/LeiauteDeRetorno$Ocorrencia" "nome" "Ljava/lang/String;" .null := F35.other W39 (Or.inr (slot_ne (Or.inl (hw _ (List.mem_of_getElem? (i := 77) rfl))) (Or.inr (hw _ (List.mem_of_getElem? (i := 20) rfl))) (by decide) (t := (.object "java/lang/String")) (t' := (.object "com/example/compensa/compensa/comum/Texto")) (by decide) (by decide)))
  have F52 : Exa Z h39 b2 "com/example/compensa/compensa/comum/Texto" := R22.wr W39
  have Z53 : n0 ≤ h39.size := Nat.le_trans Z37 (Keep.of_wr W39).1
  have K54 : Keep h0 h39 [a1] := K38.wr W39 (Or.inl (List.mem_of_getElem? (i := 0) rfl))
  have N55 := Fr.snoc X39 N20 Hg1
  obtain ⟨T56, h56, X56, e56, E56, A56, D56, -, st56⟩ := newO X39 hx hZ hown (hw _ (List.mem_of_getElem? (i := 9) rfl)) (hw _ (List.mem_of_getElem? (i := 10) rfl)) (hw _ (List.mem_of_getElem? (i := 11) rfl)) e39 (g := (mkF m 18 #[.val (.ref a1)] [(.ref a1)])) rfl (hb hby d1_18) (by decide) (by decide)
  obtain ⟨b56, g56⟩ : ∃ z, z = h39.size := ⟨_, rfl⟩
  rw [← g56] at A56 D56 st56
  have ne57 : a1 ≠ b56 := Nat.ne_of_lt (Nat.lt_of_lt_of_le F40.lt (Nat.le_of_eq g56.symm))
  have ne58 : b2 ≠ b56 := Nat.ne_of_lt (Nat.lt_of_lt_of_le F52.lt (Nat.le_of_eq g56.symm))
  have g_b56 : n0 ≤ b56 := Nat.le_trans Z53 (Nat.le_of_eq g56.symm)
  have sz_b56 : h0.size ≤ b56 := Nat.le_trans K54.1 (Nat.le_of_eq g56.symm)
  have F59 : Exa Z h56 a1 "com/example/compensa/compensa/banco/LeiauteDeRetorno$Ocorrencia" := F40.ext E56
  have F60 : Fld Z h56 a1 "com/example/compensa/compensa/banco/LeiauteDeRetorno$Ocorrencia" "data" "Lcom/example/compensa/compensa/comum/Texto;" .null := F41.ext E56
  have F61 : Fld Z h56 a1 "com/example/compensa/compensa/banco/LeiauteDeRetorno$Ocorrencia" "documento" "Lcom/example/compensa/compensa/comum/Texto;" .null := F42.ext E56
  have F62 : Fld Z h56 a1 "com/example/compensa/compensa/banco/LeiauteDeRetorno$Ocorrencia" "vencimento" "Lcom/example/compensa/compensa/comum/Texto;" .null := F43.ext E56
  have F63 : Fld Z h56 a1 "com/example/compensa/compensa/banco/LeiauteDeRetorno$Ocorrencia" "credito" "Lcom/example/compensa/compensa/comum/Texto;" .null := F44.ext E56
  have F64 : Fld Z h56 a1 "com/example/compensa/compensa/banco/LeiauteDeRetorno$Ocorrencia" "motivos" "Lcom/example/compensa/compensa/comum/Texto;" .null := F45.ext E56
  have F65 : Fld Z h56 a1 "com/example/compensa/compensa/banco/LeiauteDeRetorno$Ocorrencia" "valor" "J" (.long (0 : Int64)) := F46.ext E56
  have F66 : Fld Z h56 a1 "com/example/compensa/compensa/banco/LeiauteDeRetorno$Ocorrencia" "tarifa" "J" (.long (0 : Int64)) := F47.ext E56
  have F67 : Fld Z h56 a1 "com/example/compensa/compensa/banco/LeiauteDeRetorno$Ocorrencia" "pago" "J" (.long (0 : Int64)) := F48.ext E56
  have F68 : Fld Z h56 a1 "com/example/compensa/compensa/banco/LeiauteDeRetorno$Ocorrencia" "juros" "J" (.long (0 : Int64)) := F49.ext E56
  have F69 : Fld Z h56 a1 "com/example/compensa/compensa/banco/LeiauteDeRetorno$Ocorrencia" "codigo" "I" (.int (0 : Int32)) := F50.ext E56
  have F70 : Fld Z h56 a1 "com/example/compensa/compensa/banco/LeiauteDeRetorno$Ocorrencia" "nome" "Ljava/lang/String;" .null := F51.ext E56
  have F71 : Exa Z h56 b2 "com/example/compensa/compensa/comum/Texto" := F52.ext E56
  have F72 : Fld Z h56 a1 "com/example/compensa/compensa/banco/LeiauteDeRetorno$Ocorrencia" "nossoNumero" "Lcom/example/compensa/compensa/comum/Texto;" (.ref b2) := Fw39.ext E56
  have Z73 : n0 ≤ h56.size := Nat.le_trans Z53 E56.1
  have K74 : Keep h0 h56 [a1] := K54.ext E56
  have F75 : Fld Z h56 b56 "com/example/compensa/compensa/comum/Texto" "caracteres" "[C" .null := D56 (Or.inl (hw _ (List.mem_of_getElem? (i := 18) rfl))) (ty := (.array .char)) (by decide)
  obtain ⟨_, _, ⟨T76, L76, k76, n76⟩, -, X76, ⟨Lc76, hQ76, l76, y76, z76⟩, st76⟩ := X56.specialBack hx (y := (⟨"com/example/compensa/compensa/comum/Texto", "<init>", "(I)V"⟩ : MethodName)) rfl hown (mvT hZ (hw _ (List.mem_of_getElem? (i := 12) rfl))) (mvT hZ (hw _ (List.mem_of_getElem? (i := 13) rfl))) (mvT hZ (hw _ (List.mem_of_getElem? (i := 14) rfl))) (by decide) (backOf (W := 2) (rm3_10 l Z a0 hw [] b56 h56 n0 Z73 A56 F75 g_b56) hZ (hw _ (List.mem_of_getElem? (i := 14) rfl)) (hw _ (List.mem_of_getElem? (i := 11) rfl)) (by decide) (by decide)) (g := (mkF m 24 #[.val (.ref a1)] [(.int (10 : Int32)), (.ref b56), (.ref b56), (.ref a1)])) rfl (by rw [hml]; rfl) (Steps.refl _) (a := b56) (argsL := [(.int (10 : Int32))]) (rest := [(.ref b56), (.ref a1)]) (lenOf pd_0 rfl) rfl (by show 2 * 0 + _ ≤ _; exact Nat.le_of_eq rfl) (hb hby d1_24) (fun _ _ => ⟨rfl, e56, (by decide : 3 + 1 ≤ _), (by decide : 20 + 10 ≤ _)⟩)
  dsimp only [Pt.U, Pt.locs, Pt.cells, Pt.slots] at X76 l76 y76 z76 st76 hQ76
  subst l76 y76 z76
  obtain ⟨rfl, N76q, R77, R78⟩ := hQ76
  have N76 := Fr.app N55 N76q
  have F79 : Exa Z T76.heap a1 "com/example/compensa/compensa/banco/LeiauteDeRetorno$Ocorrencia" := F59.keep R77
  have F80 : Fld Z T76.heap a1 "com/example/compensa/compensa/banco/LeiauteDeRetorno$Ocorrencia" "data" "Lcom/example/compensa/compensa/comum/Texto;" .null := F60.keep R77 (ninS ne57 nin0)
  have F81 : Fld Z T76.heap a1 "com/example/compensa/compensa/banco/LeiauteDeRetorno$Ocorrencia" "documento" "Lcom/example/compensa/compensa/comum/Texto;" .null := F61.keep R77 (ninS ne57 nin0)
  have F82 : Fld Z T76.heap a1 "com/example/compensa/compensa/banco/LeiauteDeRetorno$Ocorrencia" "vencimento" "Lcom/example/compensa/compensa/comum/Texto;" .null := F62.keep R77 (ninS ne57 nin0)
  have F83 : Fld Z T76.heap a1 "com/example/compensa/compensa/banco/LeiauteDeRetorno$Ocorrencia" "credito" "Lcom/example/compensa/compensa/comum/Texto;" .null := F63.keep R77 (ninS ne57 nin0)
  have F84 : Fld Z T76.heap a1 "com/example/compensa/compensa/banco/LeiauteDeRetorno$Ocorrencia" "motivos" "Lcom/example/compensa/compensa/comum/Texto;" .null := F64.keep R77 (ninS ne57 nin0)
  have F85 : Fld Z T76.heap a1 "com/example/compensa/compensa/banco/LeiauteDeRetorno$Ocorrencia" "valor" "J" (.long (0 : Int64)) := F65.keep R77 (ninS ne57 nin0)
  have F86 : Fld Z T76.heap a1 "com/example/compensa/compensa/banco/LeiauteDeRetorno$Ocorrencia" "tarifa" "J" (.long (0 : Int64)) := F66.keep R77 (ninS ne57 nin0)
  have F87 : Fld Z T76.heap a1 "com/example/compensa/compensa/banco/LeiauteDeRetorno$Ocorrencia" "pago" "J" (.long (0 : Int64)) := F67.keep R77 (ninS ne57 nin0)
  have F88 : Fld Z T76.heap a1 "com/example/compensa/compensa/banco/LeiauteDeRetorno$Ocorrencia" "juros" "J" (.long (0 : Int64)) := F68.keep R77 (ninS ne57 nin0)
  have F89 : Fld Z T76.heap a1 "com/example/compensa/compensa/banco/LeiauteDeRetorno$Ocorrencia" "codigo" "I" (.int (0 : Int32)) := F69.keep R77 (ninS ne57 nin0)
  have F90 : Fld Z T76.heap a1 "com/example/compensa/compensa/banco/LeiauteDeRetorno$Ocorrencia" "nome" "Ljava/lang/String;" .null := F70.keep R77 (ninS ne57 nin0)
  have F91 : Exa Z T76.heap b2 "com/example/compensa/compensa/comum/Texto" := F71.keep R77
  have F92 : Fld Z T76.heap a1 "com/example/compensa/compensa/banco/LeiauteDeRetorno$Ocorrencia" "nossoNumero" "Lcom/example/compensa/compensa/comum/Texto;" (.ref b2) := F72.keep R77 (ninS ne57 nin0)
  have F93 : Exa Z T76.heap b56 "com/example/compensa/compensa/comum/Texto" := A56.keep R77
  have Z94 : n0 ≤ T76.heap.size := Nat.le_trans Z73 R77.1
  have K95 : Keep h0 T76.heap [a1] := K74.trans R77 (allS (Or.inr sz_b56) all0)
  obtain ⟨T96, h96, X96, e96, W96, st96⟩ := putF X76 hx hZ hown (host := "") (Or.inl (hw _ (List.mem_of_getElem? (i := 21) rfl))) Via.refl rfl F80 F79 (Or.inr ⟨(hw _ (List.mem_of_getElem? (i := 22) rfl)), rfl, hnm⟩) (hw _ (List.mem_of_getElem? (i := 1) rfl)) (ty := (.object "com/example/compensa/compensa/comum/Texto")) (by decide) rfl rfl (g := (mkF m 27 #[.val (.ref a1)] [(.ref b56), (.ref a1)])) rfl rfl (hb hby d1_27)
  have Fw96 : Fld Z h96 a1 "com/example/compensa/compensa/banco/LeiauteDeRetorno$Ocorrencia" "data" "Lcom/example/compensa/compensa/comum/Texto;" (.ref b56) := F80.same W96
  have F97 : Exa Z h96 a1 "com/example/compensa/compensa/banco/LeiauteDeRetorno$Ocorrencia" := F79.wr W96
  have F98 : Fld Z h96 a1 "com/example/compensa/compensa/banco/LeiauteDeRetorno$Ocorrencia" "documento" "Lcom/example/compensa/compensa/comum/Texto;" .null := F81.other W96 (Or.inr (slot_ne (Or.inr (hw _ (List.mem_of_getElem? (i := 24) rfl))) (Or.inr (hw _ (List.mem_of_getElem? (i := 22) rfl))) (by decide) (t := (.object "com/example/compensa/compensa/comum/Texto")) (t' := (.object "com/example/compensa/compensa/comum/Texto")) (by decide) (by decide)))
  have F99 : Fld Z h96 a1 "com/example/compensa/compensa/banco/LeiauteDeRetorno$Ocorrencia" "vencimento" "Lcom/example/compensa/compensa/comum/Texto;" .null := F82.other W96 (Or.inr (slot_ne (Or.inr (hw _ (List.mem_of_getElem? (i := 26) rfl))) (Or.inr (hw _ (List.mem_of_getElem? (i := 22) rfl))) (by decide) (t := (.object "com/example/compensa/compensa/comum/Texto")) (t' := (.object "com/example/compensa/compensa/comum/Texto")) (by decide) (by decide)))
  have F100 : Fld Z h96 a1 "com/example/compensa/compensa/banco/LeiauteDeRetorno$Ocorrencia" "credito" "Lcom/example/compensa/compensa/comum/Texto;" .null := F83.other W96 (Or.inr (slot_ne (Or.inr (hw _ (List.mem_of_getElem? (i := 28) rfl))) (Or.inr (hw _ (List.mem_of_getElem? (i := 22) rfl))) (by decide) (t := (.object "com/example/compensa/compensa/comum/Texto")) (t' := (.object "com/example/compensa/compensa/comum/Texto")) (by decide) (by decide)))
  have F101 : Fld Z h96 a1 "com/example/compensa/compensa/banco/LeiauteDeRetorno$Ocorrencia" "motivos" "Lcom/example/compensa/compensa/comum/Texto;" .null := F84.other W96 (Or.inr (slot_ne (Or.inr (hw _ (List.mem_of_getElem? (i := 30) rfl))) (Or.inr (hw _ (List.mem_of_getElem? (i := 22) rfl))) (by decide) (t := (.object "com/example/compensa/compensa/comum/Texto")) (t' := (.object "com/example/compensa/compensa/comum/Texto")) (by decide) (by decide)))
  have F102 : Fld Z h96 a1 "com/example/compensa/compensa/banco/LeiauteDeRetorno$Ocorrencia" "valor" "J" (.long (0 : Int64)) := F85.other W96 (Or.inr (slot_ne (Or.inl (hw _ (List.mem_of_getElem? (i := 37) rfl))) (Or.inr (hw _ (List.mem_of_getElem? (i := 22) rfl))) (by decide) (t := .long) (t' := (.object "com/example/compensa/compensa/comum/Texto")) (by decide) (by decide)))
  have F103 : Fld Z h96 a1 "com/example/compensa/compensa/banco/LeiauteDeRetorno$Ocorrencia" "tarifa" "J" (.long (0 : Int64)) := F86.other W96 (Or.inr (slot_ne (Or.inl (hw _ (List.mem_of_getElem? (i := 39) rfl))) (Or.inr (hw _ (List.mem_of_getElem? (i := 22) rfl))) (by decide) (t := .long) (t' := (.object "com/example/compensa/compensa/comum/Texto")) (by decide) (by decide)))
  have F104 : Fld Z h96 a1 "com/example/compensa/compensa/banco/LeiauteDeRetorno$Ocorrencia" "pago" "J" (.long (0 : Int64)) := F87.other W96 (Or.inr (slot_ne (Or.inl (hw _ (List.mem_of_getElem? (i := 41) rfl))) (Or.inr (hw _ (List.mem_of_getElem? (i := 22) rfl))) (by decide) (t := .long) (t' := (.object "com/example/compensa/compensa/comum/Texto")) (by decide) (by decide)))
  have F105 : Fld Z h96 a1 "com/example/compensa/compensa/banco/LeiauteDeRetorno$Ocorrencia" "juros" "J" (.long (0 : Int64)) := F88.other W96 (Or.inr (slot_ne (Or.inl (hw _ (List.mem_of_getElem? (i := 43) rfl))) (Or.inr (hw _ (List.mem_of_getElem? (i := 22) rfl))) (by decide) (t := .long) (t' := (.object "com/example/compensa/compensa/comum/Texto")) (by decide) (by decide)))
  have F106 : Fld Z h96 a1 "com/example/compensa/compensa/banco/LeiauteDeRetorno$Ocorrencia" "codigo" "I" (.int (0 : Int32)) := F89.other W96 (Or.inr (slot_ne (Or.inl (hw _ (List.mem_of_getElem? (i := 70) rfl))) (Or.inr (hw _ (List.mem_of_getElem? (i := 22) rfl))) (by decide) (t := .int) (t' := (.object "com/example/compensa/compensa/comum/Texto")) (by decide) (by decide)))
  have F107 : Fld Z h96 a1 "com/example/compensa/compensa/banco/LeiauteDeRetorno$Ocorrencia" "nome" "Ljava/lang/String;" .null := F90.other W96 (Or.inr (slot_ne (Or.inl (hw _ (List.mem_of_getElem? (i := 77) rfl))) (Or.inr (hw _ (List.mem_of_getElem? (i := 22) rfl))) (by decide) (t := (.object "java/lang/String")) (t' := (.object "com/example/compensa/compensa/comum/Texto")) (by decide) (by decide)))
  have F108 : Exa Z h96 b2 "com/example/compensa/compensa/comum/Texto" := F91.wr W96
  have F109 : Fld Z h96 a1 "com/example/compensa/compensa/banco/LeiauteDeRetorno$Ocorrencia" "nossoNumero" "Lcom/example/compensa/compensa/comum/Texto;" (.ref b2) := F92.other W96 (Or.inr (slot_ne (Or.inr (hw _ (List.mem_of_getElem? (i := 20) rfl))) (Or.inr (hw _ (List.mem_of_getElem? (i := 22) rfl))) (by decide) (t := (.object "com/example/compensa/compensa/comum/Texto")) (t' := (.object "com/example/compensa/compensa/comum/Texto")) (by decide) (by decide)))
  have F110 : Exa Z h96 b56 "com/example/compensa/compensa/comum/Texto" := R78.wr W96
  have Z111 : n0 ≤ h96.size := Nat.le_trans Z94 (Keep.of_wr W96).1
  have K112 : Keep h0 h96 [a1] := K95.wr W96 (Or.inl (List.mem_of_getElem? (i := 0) rfl))
  have N113 := Fr.snoc X96 N76 Hg1
  obtain ⟨T114, h114, X114, e114, E114, A114, D114, -, st114⟩ := newO X96 hx hZ hown (hw _ (List.mem_of_getElem? (i := 9) rfl)) (hw _ (List.mem_of_getElem? (i := 10) rfl)) (hw _ (List.mem_of_getElem? (i := 11) rfl)) e96 (g := (mkF m 31 #[.val (.ref a1)] [(.ref a1)])) rfl (hb hby d1_31) (by decide) (by decide)
  obtain ⟨b114, g114⟩ : ∃ z, z = h96.size := ⟨_, rfl⟩
  rw [← g114] at A114 D114 st114
  have ne115 : a1 ≠ b114 := Nat.ne_of_lt (Nat.lt_of_lt_of_le F97.lt (Nat.le_of_eq g114.symm))
  have ne116 : b2 ≠ b114 := Nat.ne_of_lt (Nat.lt_of_lt_of_le F108.lt (Nat.le_of_eq g114.symm))
  have ne117 : b56 ≠ b114 := Nat.ne_of_lt (Nat.lt_of_lt_of_le F110.lt (Nat.le_of_eq g114.symm))
  have g_b114 : n0 ≤ b114 := Nat.le_trans Z111 (Nat.le_of_eq g114.symm)
  have sz_b114 : h0.size ≤ b114 := Nat.le_trans K112.1 (Nat.le_of_eq g114.symm)
  have F118 : Exa Z h114 a1 "com/example/compensa/compensa/banco/LeiauteDeRetorno$Ocorrencia" := F97.ext E114
  have F119 : Fld Z h114 a1 "com/example/compensa/compensa/banco/LeiauteDeRetorno$Ocorrencia" "documento" "Lcom/example/compensa/compensa/comum/Texto;" .null := F98.ext E114
  have F120 : Fld Z h114 a1 "com/example/compensa/compensa/banco/LeiauteDeRetorno$Ocorrencia" "vencimento" "Lcom/example/compensa/compensa/comum/Texto;" .null := F99.ext E114
  have F121 : Fld Z h114 a1 "com/example/compensa/compensa/banco/LeiauteDeRetorno$Ocorrencia" "credito" "Lcom/example/compensa/compensa/comum/Texto;" .null := F100.ext E114
  have F122 : Fld Z h114 a1 "com/example/compensa/compensa/banco/LeiauteDeRetorno$Ocorrencia" "motivos" "Lcom/example/compensa/compensa/comum/Texto;" .null := F101.ext E114
  have F123 : Fld Z h114 a1 "com/example/compensa/compensa/banco/LeiauteDeRetorno$Ocorrencia" "valor" "J" (.long (0 : Int64)) := F102.ext E114
  have F124 : Fld Z h114 a1 "com/example/compensa/compensa/banco/LeiauteDeRetorno$Ocorrencia" "tarifa" "J" (.long (0 : Int64)) := F103.ext E114
  have F125 : Fld Z h114 a1 "com/example/compensa/compensa/banco/LeiauteDeRetorno$Ocorrencia" "pago" "J" (.long (0 : Int64)) := F104.ext E114
  have F126 : Fld Z h114 a1 "com/example/compensa/compensa/banco/LeiauteDeRetorno$Ocorrencia" "juros" "J" (.long (0 : Int64)) := F105.ext E114
  have F127 : Fld Z h114 a1 "com/example/compensa/compensa/banco/LeiauteDeRetorno$Ocorrencia" "codigo" "I" (.int (0 : Int32)) := F106.ext E114
  have F128 : Fld Z h114 a1 "com/example/compensa/compensa/banco/LeiauteDeRetorno$Ocorrencia" "nome" "Ljava/lang/String;" .null := F107.ext E114
  have F129 : Exa Z h114 b2 "com/example/compensa/compensa/comum/Texto" := F108.ext E114
  have F130 : Fld Z h114 a1 "com/example/compensa/compensa/banco/LeiauteDeRetorno$Ocorrencia" "nossoNumero" "Lcom/example/compensa/compensa/comum/Texto;" (.ref b2) := F109.ext E114
  have F131 : Exa Z h114 b56 "com/example/compensa/compensa/comum/Texto" := F110.ext E114
  have F132 : Fld Z h114 a1 "com/example/compensa/compensa/banco/LeiauteDeRetorno$Ocorrencia" "data" "Lcom/example/compensa/compensa/comum/Texto;" (.ref b56) := Fw96.ext E114
  have Z133 : n0 ≤ h114.size := Nat.le_trans Z111 E114.1
  have K134 : Keep h0 h114 [a1] := K112.ext E114
  have F135 : Fld Z h114 b114 "com/example/compensa/compensa/comum/Texto" "caracteres" "[C" .null := D114 (Or.inl (hw _ (List.mem_of_getElem? (i := 18) rfl))) (ty := (.array .char)) (by decide)
  obtain ⟨_, _, ⟨T136, L136, k136, n136⟩, -, X136, ⟨Lc136, hQ136, l136, y136, z136⟩, st136⟩ := X114.specialBack hx (y := (⟨"com/example/compensa/compensa/comum/Texto", "<init>", "(I)V"⟩ : MethodName)) rfl hown (mvT hZ (hw _ (List.mem_of_getElem? (i := 12) rfl))) (mvT hZ (hw _ (List.mem_of_getElem? (i := 13) rfl))) (mvT hZ (hw _ (List.mem_of_getElem? (i := 14) rfl))) (by decide) (backOf (W := 2) (rm3_16 l Z a0 hw [] b114 h114 n0 Z133 A114 F135 g_b114) hZ (hw _ (List.mem_of_getElem? (i := 14) rfl)) (hw _ (List.mem_of_getElem? (i := 11) rfl)) (by decide) (by decide)) (g := (mkF m 37 #[.val (.ref a1)] [(.int (16 : Int32)), (.ref b114), (.ref b114), (.ref a1)])) rfl (by rw [hml]; rfl) (Steps.refl _) (a := b114) (argsL := [(.int (16 : Int32))]) (rest := [(.ref b114), (.ref a1)]) (lenOf pd_0 rfl) rfl (by show 2 * 0 + _ ≤ _; exact Nat.le_of_eq rfl) (hb hby d1_37) (fun _ _ => ⟨rfl, e114, (by decide : 5 + 1 ≤ _), (by decide : 32 + 16 ≤ _)⟩)
  dsimp only [Pt.U, Pt.locs, Pt.cells, Pt.slots] at X136 l136 y136 z136 st136 hQ136
  subst l136 y136 z136
  obtain ⟨rfl, N136q, R137, R138⟩ := hQ136
  have N136 := Fr.app N113 N136q
  have F139 : Exa Z T136.heap a1 "com/example/compensa/compensa/banco/LeiauteDeRetorno$Ocorrencia" := F118.keep R137
  have F140 : Fld Z T136.heap a1 "com/example/compensa/compensa/banco/LeiauteDeRetorno$Ocorrencia" "documento" "Lcom/example/compensa/compensa/comum/Texto;" .null := F119.keep R137 (ninS ne115 nin0)
  have F141 : Fld Z T136.heap a1 "com/example/compensa/compensa/banco/LeiauteDeRetorno$Ocorrencia" "vencimento" "Lcom/example/compensa/compensa/comum/Texto;" .null := F120.keep R137 (ninS ne115 nin0)
  have F142 : Fld Z T136.heap a1 "com/example/compensa/compensa/banco/LeiauteDeRetorno$Ocorrencia" "credito" "Lcom/example/compensa/compensa/comum/Texto;" .null := F121.keep R137 (ninS ne115 nin0)
  have F143 : Fld Z T136.heap a1 "com/example/compensa/compensa/banco/LeiauteDeRetorno$Ocorrencia" "motivos" "Lcom/example/compensa/compensa/comum/Texto;" .null := F122.keep R137 (ninS ne115 nin0)
  have F144 : Fld Z T136.heap a1 "com/example/compensa/compensa/banco/LeiauteDeRetorno$Ocorrencia" "valor" "J" (.long (0 : Int64)) := F123.keep R137 (ninS ne115 nin0)
  have F145 : Fld Z T136.heap a1 "com/example/compensa/compensa/banco/LeiauteDeRetorno$Ocorrencia" "tarifa" "J" (.long (0 : Int64)) := F124.keep R137 (ninS ne115 nin0)
  have F146 : Fld Z T136.heap a1 "com/example/compensa/compensa/banco/LeiauteDeRetorno$Ocorrencia" "pago" "J" (.long (0 : Int64)) := F125.keep R137 (ninS ne115 nin0)
  have F147 : Fld Z T136.heap a1 "com/example/compensa/compensa/banco/LeiauteDeRetorno$Ocorrencia" "juros" "J" (.long (0 : Int64)) := F126.keep R137 (ninS ne115 nin0)
  have F148 : Fld Z T136.heap a1 "com/example/compensa/compensa/banco/LeiauteDeRetorno$Ocorrencia" "codigo" "I" (.int (0 : Int32)) := F127.keep R137 (ninS ne115 nin0)
  have F149 : Fld Z T136.heap a1 "com/example/compensa/compensa/banco/LeiauteDeRetorno$Ocorrencia" "nome" "Ljava/lang/String;" .null := F128.keep R137 (ninS ne115 nin0)
  have F150 : Exa Z T136.heap b2 "com/example/compensa/compensa/comum/Texto" := F129.keep R137
  have F151 : Fld Z T136.heap a1 "com/example/compensa/compensa/banco/LeiauteDeRetorno$Ocorrencia" "nossoNumero" "Lcom/example/compensa/compensa/comum/Texto;" (.ref b2) := F130.keep R137 (ninS ne115 nin0)
  have F152 : Exa Z T136.heap b56 "com/example/compensa/compensa/comum/Texto" := F131.keep R137
  have F153 : Fld Z T136.heap a1 "com/example/compensa/compensa/banco/LeiauteDeRetorno$Ocorrencia" "data" "Lcom/example/compensa/compensa/comum/Texto;" (.ref b56) := F132.keep R137 (ninS ne115 nin0)
  have F154 : Exa Z T136.heap b114 "com/example/compensa/compensa/comum/Texto" := A114.keep R137
  have Z155 : n0 ≤ T136.heap.size := Nat.le_trans Z133 R137.1
  have K156 : Keep h0 T136.heap [a1] := K134.trans R137 (allS (Or.inr sz_b114) all0)
  obtain ⟨T157, h157, X157, e157, W157, st157⟩ := putF X136 hx hZ hown (host := "") (Or.inl (hw _ (List.mem_of_getElem? (i := 23) rfl))) Via.refl rfl F140 F139 (Or.inr ⟨(hw _ (List.mem_of_getElem? (i := 24) rfl)), rfl, hnm⟩) (hw _ (List.mem_of_getElem? (i := 1) rfl)) (ty := (.object "com/example/compensa/compensa/comum/Texto")) (by decide) rfl rfl (g := (mkF m 40 #[.val (.ref a1)] [(.ref b114), (.ref a1)])) rfl rfl (hb hby d1_40)
  have Fw157 : Fld Z h157 a1 "com/example/compensa/compensa/banco/LeiauteDeRetorno$Ocorrencia" "documento" "Lcom/example/compensa/compensa/comum/Texto;" (.ref b114) := F140.same W157
  have F158 : Exa Z h157 a1 "com/example/compensa/compensa/banco/LeiauteDeRetorno$Ocorrencia" := F139.wr W157
  have F159 : Fld Z h157 a1 "com/example/compensa/compensa/banco/LeiauteDeRetorno$Ocorrencia" "vencimento" "Lcom/example/compensa/compensa/comum/Texto;" .null := F141.other W157 (Or.inr (slot_ne (Or.inr (hw _ (List.mem_of_getElem? (i := 26) rfl))) (Or.inr (hw _ (List.mem_of_getElem? (i := 24) rfl))) (by decide) (t := (.object "com/example/compensa/compensa/comum/Texto")) (t' := (.object "com/example/compensa/compensa/comum/Texto")) (by decide) (by decide)))
  have F160 : Fld Z h157 a1 "com/example/compensa/compensa/banco/LeiauteDeRetorno$Ocorrencia" "credito" "Lcom/example/compensa/compensa/comum/Texto;" .null := F142.other W157 (Or.inr (slot_ne (Or.inr (hw _ (List.mem_of_getElem? (i := 28) rfl))) (Or.inr (hw _ (List.mem_of_getElem? (i := 24) rfl))) (by decide) (t := (.object "com/example/compensa/compensa/comum/Texto")) (t' := (.object "com/example/compensa/compensa/comum/Texto")) (by decide) (by decide)))
  have F161 : Fld Z h157 a1 "com/example/compensa/compensa/banco/LeiauteDeRetorno$Ocorrencia" "motivos" "Lcom/example/compensa/compensa/comum/Texto;" .null := F143.other W157 (Or.inr (slot_ne (Or.inr (hw _ (List.mem_of_getElem? (i := 30) rfl))) (Or.inr (hw _ (List.mem_of_getElem? (i := 24) rfl))) (by decide) (t := (.object "com/example/compensa/compensa/comum/Texto")) (t' := (.object "com/example/compensa/compensa/comum/Texto")) (by decide) (by decide)))
  have F162 : Fld Z h157 a1 "com/example/compensa/compensa/banco/LeiauteDeRetorno$Ocorrencia" "valor" "J" (.long (0 : Int64)) := F144.other W157 (Or.inr (slot_ne (Or.inl (hw _ (List.mem_of_getElem? (i := 37) rfl))) (Or.inr (hw _ (List.mem_of_getElem? (i := 24) rfl))) (by decide) (t := .long) (t' := (.object "com/example/compensa/compensa/comum/Texto")) (by decide) (by decide)))
  have F163 : Fld Z h157 a1 "com/example/compensa/compensa/banco/LeiauteDeRetorno$Ocorrencia" "tarifa" "J" (.long (0 : Int64)) := F145.other W157 (Or.inr (slot_ne (Or.inl (hw _ (List.mem_of_getElem? (i := 39) rfl))) (Or.inr (hw _ (List.mem_of_getElem? (i := 24) rfl))) (by decide) (t := .long) (t' := (.object "com/example/compensa/compensa/comum/Texto")) (by decide) (by decide)))
  have F164 : Fld Z h157 a1 "com/example/compensa/compensa/banco/LeiauteDeRetorno$Ocorrencia" "pago" "J" (.long (0 : Int64)) := F146.other W157 (Or.inr (slot_ne (Or.inl (hw _ (List.mem_of_getElem? (i := 41) rfl))) (Or.inr (hw _ (List.mem_of_getElem? (i := 24) rfl))) (by decide) (t := .long) (t' := (.object "com/example/compensa/compensa/comum/Texto")) (by decide) (by decide)))
  have F165 : Fld Z h157 a1 "com/example/compensa/compensa/banco/LeiauteDeRetorno$Ocorrencia" "juros" "J" (.long (0 : Int64)) := F147.other W157 (Or.inr (slot_ne (Or.inl (hw _ (List.mem_of_getElem? (i := 43) rfl))) (Or.inr (hw _ (List.mem_of_getElem? (i := 24) rfl))) (by decide) (t := .long) (t' := (.object "com/example/compensa/compensa/comum/Texto")) (by decide) (by decide)))
  have F166 : Fld Z h157 a1 "com/example/compensa/compensa/banco/LeiauteDeRetorno$Ocorrencia" "codigo" "I" (.int (0 : Int32)) := F148.other W157 (Or.inr (slot_ne (Or.inl (hw _ (List.mem_of_getElem? (i := 70) rfl))) (Or.inr (hw _ (List.mem_of_getElem? (i := 24) rfl))) (by decide) (t := .int) (t' := (.object "com/example/compensa/compensa/comum/Texto")) (by decide) (by decide)))
  have F167 : Fld Z h157 a1 "com/example/compensa/compensa/banco/LeiauteDeRetorno$Ocorrencia" "nome" "Ljava/lang/String;" .null := F149.other W157 (Or.inr (slot_ne (Or.inl (hw _ (List.mem_of_getElem? (i := 77) rfl))) (Or.inr (hw _ (List.mem_of_getElem? (i := 24) rfl))) (by decide) (t := (.object "java/lang/String")) (t' := (.object "com/example/compensa/compensa/comum/Texto")) (by decide) (by decide)))
  have F168 : Exa Z h157 b2 "com/example/compensa/compensa/comum/Texto" := F150.wr W157
  have F169 : Fld Z h157 a1 "com/example/compensa/compensa/banco/LeiauteDeRetorno$Ocorrencia" "nossoNumero" "Lcom/example/compensa/compensa/comum/Texto;" (.ref b2) := F151.other W157 (Or.inr (slot_ne (Or.inr (hw _ (List.mem_of_getElem? (i := 20) rfl))) (Or.inr (hw _ (List.mem_of_getElem? (i := 24) rfl))) (by decide) (t := (.object "com/example/compensa/compensa/comum/Texto")) (t' := (.object "com/example/compensa/compensa/comum/Texto")) (by decide) (by decide)))
  have F170 : Exa Z h157 b56 "com/example/compensa/compensa/comum/Texto" := F152.wr W157
  have F171 : Fld Z h157 a1 "com/example/compensa/compensa/banco/LeiauteDeRetorno$Ocorrencia" "data" "Lcom/example/compensa/compensa/comum/Texto;" (.ref b56) := F153.other W157 (Or.inr (slot_ne (Or.inr (hw _ (List.mem_of_getElem? (i := 22) rfl))) (Or.inr (hw _ (List.mem_of_getElem? (i := 24) rfl))) (by decide) (t := (.object "com/example/compensa/compensa/comum/Texto")) (t' := (.object "com/example/compensa/compensa/comum/Texto")) (by decide) (by decide)))
  have F172 : Exa Z h157 b114 "com/example/compensa/compensa/comum/Texto" := R138.wr W157
  have Z173 : n0 ≤ h157.size := Nat.le_trans Z155 (Keep.of_wr W157).1
  have K174 : Keep h0 h157 [a1] := K156.wr W157 (Or.inl (List.mem_of_getElem? (i := 0) rfl))
  have N175 := Fr.snoc X157 N136 Hg1
  obtain ⟨T176, h176, X176, e176, E176, A176, D176, -, st176⟩ := newO X157 hx hZ hown (hw _ (List.mem_of_getElem? (i := 9) rfl)) (hw _ (List.mem_of_getElem? (i := 10) rfl)) (hw _ (List.mem_of_getElem? (i := 11) rfl)) e157 (g := (mkF m 44 #[.val (.ref a1)] [(.ref a1)])) rfl (hb hby d1_44) (by decide) (by decide)
  obtain ⟨b176, g176⟩ : ∃ z, z = h157.size := ⟨_, rfl⟩
  rw [← g176] at A176 D176 st176
  have ne177 : a1 ≠ b176 := Nat.ne_of_lt (Nat.lt_of_lt_of_le F158.lt (Nat.le_of_eq g176.symm))
  have ne178 : b2 ≠ b176 := Nat.ne_of_lt (Nat.lt_of_lt_of_le F168.lt (Nat.le_of_eq g176.symm))
  have ne179 : b56 ≠ b176 := Nat.ne_of_lt (Nat.lt_of_lt_of_le F170.lt (Nat.le_of_eq g176.symm))
  have ne180 : b114 ≠ b176 := Nat.ne_of_lt (Nat.lt_of_lt_of_le F172.lt (Nat.le_of_eq g176.symm))
  have g_b176 : n0 ≤ b176 := Nat.le_trans Z173 (Nat.le_of_eq g176.symm)
  have sz_b176 : h0.size ≤ b176 := Nat.le_trans K174.1 (Nat.le_of_eq g176.symm)
  have F181 : Exa Z h176 a1 "com/example/compensa/compensa/banco/LeiauteDeRetorno$Ocorrencia" := F158.ext E176
  have F182 : Fld Z h176 a1 "com/example/compensa/compensa/banco/LeiauteDeRetorno$Ocorrencia" "vencimento" "Lcom/example/compensa/compensa/comum/Texto;" .null := F159.ext E176
  have F183 : Fld Z h176 a1 "com/example/compensa/compensa/banco/LeiauteDeRetorno$Ocorrencia" "credito" "Lcom/example/compensa/compensa/comum/Texto;" .null := F160.ext E176
  have F184 : Fld Z h176 a1 "com/example/compensa/compensa/banco/LeiauteDeRetorno$Ocorrencia" "motivos" "Lcom/example/compensa/compensa/comum/Texto;" .null := F161.ext E176
  have F185 : Fld Z h176 a1 "com/example/compensa/compensa/banco/LeiauteDeRetorno$Ocorrencia" "valor" "J" (.long (0 : Int64)) := F162.ext E176
  have F186 : Fld Z h176 a1 "com/example/compensa/compensa/banco/LeiauteDeRetorno$Ocorrencia" "tarifa" "J" (.long (0 : Int64)) := F163.ext E176
  have F187 : Fld Z h176 a1 "com/example/compensa/compensa/banco/LeiauteDeRetorno$Ocorrencia" "pago" "J" (.long (0 : Int64)) := F164.ext E176
  have F188 : Fld Z h176 a1 "com/example/compensa/compensa/banco/LeiauteDeRetorno$Ocorrencia" "juros" "J" (.long (0 : Int64)) := F165.ext E176
  have F189 : Fld Z h176 a1 "com/example/compensa/compensa/banco/LeiauteDeRetorno$Ocorrencia" "codigo" "I" (.int (0 : Int32)) := F166.ext E176
  have F190 : Fld Z h176 a1 "com/example/compensa/compensa/banco/LeiauteDeRetorno$Ocorrencia" "nome" "Ljava/lang/String;" .null := F167.ext E176
  have F191 : Exa Z h176 b2 "com/example/compensa/compensa/comum/Texto" := F168.ext E176
  have F192 : Fld Z h176 a1 "com/example/compensa/compensa/banco/LeiauteDeRetorno$Ocorrencia" "nossoNumero" "Lcom/example/compensa/compensa/comum/Texto;" (.ref b2) := F169.ext E176
  have F193 : Exa Z h176 b56 "com/example/compensa/compensa/comum/Texto" := F170.ext E176
  have F194 : Fld Z h176 a1 "com/example/compensa/compensa/banco/LeiauteDeRetorno$Ocorrencia" "data" "Lcom/example/compensa/compensa/comum/Texto;" (.ref b56) := F171.ext E176
  have F195 : Exa Z h176 b114 "com/example/compensa/compensa/comum/Texto" := F172.ext E176
  have F196 : Fld Z h176 a1 "com/example/compensa/compensa/banco/LeiauteDeRetorno$Ocorrencia" "documento" "Lcom/example/compensa/compensa/comum/Texto;" (.ref b114) := Fw157.ext E176
  have Z197 : n0 ≤ h176.size := Nat.le_trans Z173 E176.1
  have K198 : Keep h0 h176 [a1] := K174.ext E176
  have F199 : Fld Z h176 b176 "com/example/compensa/compensa/comum/Texto" "caracteres" "[C" .null := D176 (Or.inl (hw _ (List.mem_of_getElem? (i := 18) rfl))) (ty := (.array .char)) (by decide)
  obtain ⟨_, _, ⟨T200, L200, k200, n200⟩, -, X200, ⟨Lc200, hQ200, l200, y200, z200⟩, st200⟩ := X176.specialBack hx (y := (⟨"com/example/compensa/compensa/comum/Texto", "<init>", "(I)V"⟩ : MethodName)) rfl hown (mvT hZ (hw _ (List.mem_of_getElem? (i := 12) rfl))) (mvT hZ (hw _ (List.mem_of_getElem? (i := 13) rfl))) (mvT hZ (hw _ (List.mem_of_getElem? (i := 14) rfl))) (by decide) (backOf (W := 2) (rm3_10 l Z a0 hw [] b176 h176 n0 Z197 A176 F199 g_b176) hZ (hw _ (List.mem_of_getElem? (i := 14) rfl)) (hw _ (List.mem_of_getElem? (i := 11) rfl)) (by decide) (by decide)) (g := (mkF m 50 #[.val (.ref a1)] [(.int (10 : Int32)), (.ref b176), (.ref b176), (.ref a1)])) rfl (by rw [hml]; rfl) (Steps.refl _) (a := b176) (argsL := [(.int (10 : Int32))]) (rest := [(.ref b176), (.ref a1)]) (lenOf pd_0 rfl) rfl (by show 2 * 0 + _ ≤ _; exact Nat.le_of_eq rfl) (hb hby d1_50) (fun _ _ => ⟨rfl, e176, (by decide : 7 + 1 ≤ _), (by decide : 50 + 10 ≤ _)⟩)
  dsimp only [Pt.U, Pt.locs, Pt.cells, Pt.slots] at X200 l200 y200 z200 st200 hQ200
  subst l200 y200 z200
  obtain ⟨rfl, N200q, R201, R202⟩ := hQ200
  have N200 := Fr.app N175 N200q
  have F203 : Exa Z T200.heap a1 "com/example/compensa/compensa/banco/LeiauteDeRetorno$Ocorrencia" := F181.keep R201
  have F204 : Fld Z T200.heap a1 "com/example/compensa/compensa/banco/LeiauteDeRetorno$Ocorrencia" "vencimento" "Lcom/example/compensa/compensa/comum/Texto;" .null := F182.keep R201 (ninS ne177 nin0)
  have F205 : Fld Z T200.heap a1 "com/example/compensa/compensa/banco/LeiauteDeRetorno$Ocorrencia" "credito" "Lcom/example/compensa/compensa/comum/Texto;" .null := F183.keep R201 (ninS ne177 nin0)
  have F206 : Fld Z T200.heap a1 "com/example/compensa/compensa/banco/LeiauteDeRetorno$Ocorrencia" "motivos" "Lcom/example/compensa/compensa/comum/Texto;" .null := F184.keep R201 (ninS ne177 nin0)
  have F207 : Fld Z T200.heap a1 "com/example/compensa/compensa/banco/LeiauteDeRetorno$Ocorrencia" "valor" "J" (.long (0 : Int64)) := F185.keep R201 (ninS ne177 nin0)
  have F208 : Fld Z T200.heap a1 "com/example/compensa/compensa/banco/LeiauteDeRetorno$Ocorrencia" "tarifa" "J" (.long (0 : Int64)) := F186.keep R201 (ninS ne177 nin0)
  have F209 : Fld Z T200.heap a1 "com/example/compensa/compensa/banco/LeiauteDeRetorno$Ocorrencia" "pago" "J" (.long (0 : Int64)) := F187.keep R201 (ninS ne177 nin0)
  have F210 : Fld Z T200.heap a1 "com/example/compensa/compensa/banco/LeiauteDeRetorno$Ocorrencia" "juros" "J" (.long (0 : Int64)) := F188.keep R201 (ninS ne177 nin0)
  have F211 : Fld Z T200.heap a1 "com/example/compensa/compensa/banco/LeiauteDeRetorno$Ocorrencia" "codigo" "I" (.int (0 : Int32)) := F189.keep R201 (ninS ne177 nin0)
  have F212 : Fld Z T200.heap a1 "com/example/compensa/compensa/banco/LeiauteDeRetorno$Ocorrencia" "nome" "Ljava/lang/String;" .null := F190.keep R201 (ninS ne177 nin0)
  have F213 : Exa Z T200.heap b2 "com/example/compensa/compensa/comum/Texto" := F191.keep R201
  have F214 : Fld Z T200.heap a1 "com/example/compensa/compensa/banco/LeiauteDeRetorno$Ocorrencia" "nossoNumero" "Lcom/example/compensa/compensa/comum/Texto;" (.ref b2) := F192.keep R201 (ninS ne177 nin0)
  have F215 : Exa Z T200.heap b56 "com/example/compensa/compensa/comum/Texto" := F193.keep R201
  have F216 : Fld Z T200.heap a1 "com/example/compensa/compensa/banco/LeiauteDeRetorno$Ocorrencia" "data" "Lcom/example/compensa/compensa/comum/Texto;" (.ref b56) := F194.keep R201 (ninS ne177 nin0)
  have F217 : Exa Z T200.heap b114 "com/example/compensa/compensa/comum/Texto" := F195.keep R201
  have F218 : Fld Z T200.heap a1 "com/example/compensa/compensa/banco/LeiauteDeRetorno$Ocorrencia" "documento" "Lcom/example/compensa/compensa/comum/Texto;" (.ref b114) := F196.keep R201 (ninS ne177 nin0)
  have F219 : Exa Z T200.heap b176 "com/example/compensa/compensa/comum/Texto" := A176.keep R201
  have Z220 : n0 ≤ T200.heap.size := Nat.le_trans Z197 R201.1
  have K221 : Keep h0 T200.heap [a1] := K198.trans R201 (allS (Or.inr sz_b176) all0)
  obtain ⟨T222, h222, X222, e222, W222, st222⟩ := putF X200 hx hZ hown (host := "") (Or.inl (hw _ (List.mem_of_getElem? (i := 25) rfl))) Via.refl rfl F204 F203 (Or.inr ⟨(hw _ (List.mem_of_getElem? (i := 26) rfl)), rfl, hnm⟩) (hw _ (List.mem_of_getElem? (i := 1) rfl)) (ty := (.object "com/example/compensa/compensa/comum/Texto")) (by decide) rfl rfl (g := (mkF m 53 #[.val (.ref a1)] [(.ref b176), (.ref a1)])) rfl rfl (hb hby d1_53)
  have Fw222 : Fld Z h222 a1 "com/example/compensa/compensa/banco/LeiauteDeRetorno$Ocorrencia" "vencimento" "Lcom/example/compensa/compensa/comum/Texto;" (.ref b176) := F204.same W222
  have F223 : Exa Z h222 a1 "com/example/compensa/compensa/banco/LeiauteDeRetorno$Ocorrencia" := F203.wr W222
  have F224 : Fld Z h222 a1 "com/example/compensa/compensa/banco/LeiauteDeRetorno$Ocorrencia" "credito" "Lcom/example/compensa/compensa/comum/Texto;" .null := F205.other W222 (Or.inr (slot_ne (Or.inr (hw _ (List.mem_of_getElem? (i := 28) rfl))) (Or.inr (hw _ (List.mem_of_getElem? (i := 26) rfl))) (by decide) (t := (.object "com/example/compensa/compensa/comum/Texto")) (t' := (.object "com/example/compensa/compensa/comum/Texto")) (by decide) (by decide)))
  have F225 : Fld Z h222 a1 "com/example/compensa/compensa/banco/LeiauteDeRetorno$Ocorrencia" "motivos" "Lcom/example/compensa/compensa/comum/Texto;" .null := F206.other W222 (Or.inr (slot_ne (Or.inr (hw _ (List.mem_of_getElem? (i := 30) rfl))) (Or.inr (hw _ (List.mem_of_getElem? (i := 26) rfl))) (by decide) (t := (.object "com/example/compensa/compensa/comum/Texto")) (t' := (.object "com/example/compensa/compensa/comum/Texto")) (by decide) (by decide)))
  have F226 : Fld Z h222 a1 "com/example/compensa/compensa/banco/LeiauteDeRetorno$Ocorrencia" "valor" "J" (.long (0 : Int64)) := F207.other W222 (Or.inr (slot_ne (Or.inl (hw _ (List.mem_of_getElem? (i := 37) rfl))) (Or.inr (hw _ (List.mem_of_getElem? (i := 26) rfl))) (by decide) (t := .long) (t' := (.object "com/example/compensa/compensa/comum/Texto")) (by decide) (by decide)))
  have F227 : Fld Z h222 a1 "com/example/compensa/compensa/banco/LeiauteDeRetorno$Ocorrencia" "tarifa" "J" (.long (0 : Int64)) := F208.other W222 (Or.inr (slot_ne (Or.inl (hw _ (List.mem_of_getElem? (i := 39) rfl))) (Or.inr (hw _ (List.mem_of_getElem? (i := 26) rfl))) (by decide) (t := .long) (t' := (.object "com/example/compensa/compensa/comum/Texto")) (by decide) (by decide)))
  have F228 : Fld Z h222 a1 "com/example/compensa/compensa/banco/LeiauteDeRetorno$Ocorrencia" "pago" "J" (.long (0 : Int64)) := F209.other W222 (Or.inr (slot_ne (Or.inl (hw _ (List.mem_of_getElem? (i := 41) rfl))) (Or.inr (hw _ (List.mem_of_getElem? (i := 26) rfl))) (by decide) (t := .long) (t' := (.object "com/example/compensa/compensa/comum/Texto")) (by decide) (by decide)))
  have F229 : Fld Z h222 a1 "com/example/compensa/compensa/banco/LeiauteDeRetorno$Ocorrencia" "juros" "J" (.long (0 : Int64)) := F210.other W222 (Or.inr (slot_ne (Or.inl (hw _ (List.mem_of_getElem? (i := 43) rfl))) (Or.inr (hw _ (List.mem_of_getElem? (i := 26) rfl))) (by decide) (t := .long) (t' := (.object "com/example/compensa/compensa/comum/Texto")) (by decide) (by decide)))
  have F230 : Fld Z h222 a1 "com/example/compensa/compensa/banco/LeiauteDeRetorno$Ocorrencia" "codigo" "I" (.int (0 : Int32)) := F211.other W222 (Or.inr (slot_ne (Or.inl (hw _ (List.mem_of_getElem? (i := 70) rfl))) (Or.inr (hw _ (List.mem_of_getElem? (i := 26) rfl))) (by decide) (t := .int) (t' := (.object "com/example/compensa/compensa/comum/Texto")) (by decide) (by decide)))
  have F231 : Fld Z h222 a1 "com/example/compensa/compensa/banco/LeiauteDeRetorno$Ocorrencia" "nome" "Ljava/lang/String;" .null := F212.other W222 (Or.inr (slot_ne (Or.inl (hw _ (List.mem_of_getElem? (i := 77) rfl))) (Or.inr (hw _ (List.mem_of_getElem? (i := 26) rfl))) (by decide) (t := (.object "java/lang/String")) (t' := (.object "com/example/compensa/compensa/comum/Texto")) (by decide) (by decide)))
  have F232 : Exa Z h222 b2 "com/example/compensa/compensa/comum/Texto" := F213.wr W222
  have F233 : Fld Z h222 a1 "com/example/compensa/compensa/banco/LeiauteDeRetorno$Ocorrencia" "nossoNumero" "Lcom/example/compensa/compensa/comum/Texto;" (.ref b2) := F214.other W222 (Or.inr (slot_ne (Or.inr (hw _ (List.mem_of_getElem? (i := 20) rfl))) (Or.inr (hw _ (List.mem_of_getElem? (i := 26) rfl))) (by decide) (t := (.object "com/example/compensa/compensa/comum/Texto")) (t' := (.object "com/example/compensa/compensa/comum/Texto")) (by decide) (by decide)))
  have F234 : Exa Z h222 b56 "com/example/compensa/compensa/comum/Texto" := F215.wr W222
  have F235 : Fld Z h222 a1 "com/example/compensa/compensa/banco/LeiauteDeRetorno$Ocorrencia" "data" "Lcom/example/compensa/compensa/comum/Texto;" (.ref b56) := F216.other W222 (Or.inr (slot_ne (Or.inr (hw _ (List.mem_of_getElem? (i := 22) rfl))) (Or.inr (hw _ (List.mem_of_getElem? (i := 26) rfl))) (by decide) (t := (.object "com/example/compensa/compensa/comum/Texto")) (t' := (.object "com/example/compensa/compensa/comum/Texto")) (by decide) (by decide)))
  have F236 : Exa Z h222 b114 "com/example/compensa/compensa/comum/Texto" := F217.wr W222
  have F237 : Fld Z h222 a1 "com/example/compensa/compensa/banco/LeiauteDeRetorno$Ocorrencia" "documento" "Lcom/example/compensa/compensa/comum/Texto;" (.ref b114) := F218.other W222 (Or.inr (slot_ne (Or.inr (hw _ (List.mem_of_getElem? (i := 24) rfl))) (Or.inr (hw _ (List.mem_of_getElem? (i := 26) rfl))) (by decide) (t := (.object "com/example/compensa/compensa/comum/Texto")) (t' := (.object "com/example/compensa/compensa/comum/Texto")) (by decide) (by decide)))
  have F238 : Exa Z h222 b176 "com/example/compensa/compensa/comum/Texto" := R202.wr W222
  have Z239 : n0 ≤ h222.size := Nat.le_trans Z220 (Keep.of_wr W222).1
  have K240 : Keep h0 h222 [a1] := K221.wr W222 (Or.inl (List.mem_of_getElem? (i := 0) rfl))
  have N241 := Fr.snoc X222 N200 Hg1
  obtain ⟨T242, h242, X242, e242, E242, A242, D242, -, st242⟩ := newO X222 hx hZ hown (hw _ (List.mem_of_getElem? (i := 9) rfl)) (hw _ (List.mem_of_getElem? (i := 10) rfl)) (hw _ (List.mem_of_getElem? (i := 11) rfl)) e222 (g := (mkF m 57 #[.val (.ref a1)] [(.ref a1)])) rfl (hb hby d1_57) (by decide) (by decide)
  obtain ⟨b242, g242⟩ : ∃ z, z = h222.size := ⟨_, rfl⟩
  rw [← g242] at A242 D242 st242
  have ne243 : a1 ≠ b242 := Nat.ne_of_lt (Nat.lt_of_lt_of_le F223.lt (Nat.le_of_eq g242.symm))
  have ne244 : b2 ≠ b242 := Nat.ne_of_lt (Nat.lt_of_lt_of_le F232.lt (Nat.le_of_eq g242.symm))
  have ne245 : b56 ≠ b242 := Nat.ne_of_lt (Nat.lt_of_lt_of_le F234.lt (Nat.le_of_eq g242.symm))
  have ne246 : b114 ≠ b242 := Nat.ne_of_lt (Nat.lt_of_lt_of_le F236.lt (Nat.le_of_eq g242.symm))
  have ne247 : b176 ≠ b242 := Nat.ne_of_lt (Nat.lt_of_lt_of_le F238.lt (Nat.le_of_eq g242.symm))
  have g_b242 : n0 ≤ b242 := Nat.le_trans Z239 (Nat.le_of_eq g242.symm)
  have sz_b242 : h0.size ≤ b242 := Nat.le_trans K240.1 (Nat.le_of_eq g242.symm)
  have F248 : Exa Z h242 a1 "com/example/compensa/compensa/banco/LeiauteDeRetorno$Ocorrencia" := F223.ext E242
  have F249 : Fld Z h242 a1 "com/example/compensa/compensa/banco/LeiauteDeRetorno$Ocorrencia" "credito" "Lcom/example/compensa/compensa/comum/Texto;" .null := F224.ext E242
  have F250 : Fld Z h242 a1 "com/example/compensa/compensa/banco/LeiauteDeRetorno$Ocorrencia" "motivos" "Lcom/example/compensa/compensa/comum/Texto;" .null := F225.ext E242
  have F251 : Fld Z h242 a1 "com/example/compensa/compensa/banco/LeiauteDeRetorno$Ocorrencia" "valor" "J" (.long (0 : Int64)) := F226.ext E242
  have F252 : Fld Z h242 a1 "com/example/compensa/compensa/banco/LeiauteDeRetorno$Ocorrencia" "tarifa" "J" (.long (0 : Int64)) := F227.ext E242
  have F253 : Fld Z h242 a1 "com/example/compensa/compensa/banco/LeiauteDeRetorno$Ocorrencia" "pago" "J" (.long (0 : Int64)) := F228.ext E242
  have F254 : Fld Z h242 a1 "com/example/compensa/compensa/banco/LeiauteDeRetorno$Ocorrencia" "juros" "J" (.long (0 : Int64)) := F229.ext E242
  have F255 : Fld Z h242 a1 "com/example/compensa/compensa/banco/LeiauteDeRetorno$Ocorrencia" "codigo" "I" (.int (0 : Int32)) := F230.ext E242
  have F256 : Fld Z h242 a1 "com/example/compensa/compensa/banco/LeiauteDeRetorno$Ocorrencia" "nome" "Ljava/lang/String;" .null := F231.ext E242
  have F257 : Exa Z h242 b2 "com/example/compensa/compensa/comum/Texto" := F232.ext E242
  have F258 : Fld Z h242 a1 "com/example/compensa/compensa/banco/LeiauteDeRetorno$Ocorrencia" "nossoNumero" "Lcom/example/compensa/compensa/comum/Texto;" (.ref b2) := F233.ext E242
  have F259 : Exa Z h242 b56 "com/example/compensa/compensa/comum/Texto" := F234.ext E242
  have F260 : Fld Z h242 a1 "com/example/compensa/compensa/banco/LeiauteDeRetorno$Ocorrencia" "data" "Lcom/example/compensa/compensa/comum/Texto;" (.ref b56) := F235.ext E242
  have F261 : Exa Z h242 b114 "com/example/compensa/compensa/comum/Texto" := F236.ext E242
  have F262 : Fld Z h242 a1 "com/example/compensa/compensa/banco/LeiauteDeRetorno$Ocorrencia" "documento" "Lcom/example/compensa/compensa/comum/Texto;" (.ref b114) := F237.ext E242
  have F263 : Exa Z h242 b176 "com/example/compensa/compensa/comum/Texto" := F238.ext E242
  have F264 : Fld Z h242 a1 "com/example/compensa/compensa/banco/LeiauteDeRetorno$Ocorrencia" "vencimento" "Lcom/example/compensa/compensa/comum/Texto;" (.ref b176) := Fw222.ext E242
  have Z265 : n0 ≤ h242.size := Nat.le_trans Z239 E242.1
  have K266 : Keep h0 h242 [a1] := K240.ext E242
  have F267 : Fld Z h242 b242 "com/example/compensa/compensa/comum/Texto" "caracteres" "[C" .null := D242 (Or.inl (hw _ (List.mem_of_getElem? (i := 18) rfl))) (ty := (.array .char)) (by decide)
  obtain ⟨_, _, ⟨T268, L268, k268, n268⟩, -, X268, ⟨Lc268, hQ268, l268, y268, z268⟩, st268⟩ := X242.specialBack hx (y := (⟨"com/example/compensa/compensa/comum/Texto", "<init>", "(I)V"⟩ : MethodName)) rfl hown (mvT hZ (hw _ (List.mem_of_getElem? (i := 12) rfl))) (mvT hZ (hw _ (List.mem_of_getElem? (i := 13) rfl))) (mvT hZ (hw _ (List.mem_of_getElem? (i := 14) rfl))) (by decide) (backOf (W := 2) (rm3_10 l Z a0 hw [] b242 h242 n0 Z265 A242 F267 g_b242) hZ (hw _ (List.mem_of_getElem? (i := 14) rfl)) (hw _ (List.mem_of_getElem? (i := 11) rfl)) (by decide) (by decide)) (g := (mkF m 63 #[.val (.ref a1)] [(.int (10 : Int32)), (.ref b242), (.ref b242), (.ref a1)])) rfl (by rw [hml]; rfl) (Steps.refl _) (a := b242) (argsL := [(.int (10 : Int32))]) (rest := [(.ref b242), (.ref a1)]) (lenOf pd_0 rfl) rfl (by show 2 * 0 + _ ≤ _; exact Nat.le_of_eq rfl) (hb hby d1_63) (fun _ _ => ⟨rfl, e242, (by decide : 9 + 1 ≤ _), (by decide : 62 + 10 ≤ _)⟩)
  dsimp only [Pt.U, Pt.locs, Pt.cells, Pt.slots] at X268 l268 y268 z268 st268 hQ268
  subst l268 y268 z268
  obtain ⟨rfl, N268q, R269, R270⟩ := hQ268
  have N268 := Fr.app N241 N268q
  have F271 : Exa Z T268.heap a1 "com/example/compensa/compensa/banco/LeiauteDeRetorno$Ocorrencia" := F248.keep R269
  have F272 : Fld Z T268.heap a1 "com/example/compensa/compensa/banco/LeiauteDeRetorno$Ocorrencia" "credito" "Lcom/example/compensa/compensa/comum/Texto;" .null := F249.keep R269 (ninS ne243 nin0)
  have F273 : Fld Z T268.heap a1 "com/example/compensa/compensa/banco/LeiauteDeRetorno$Ocorrencia" "motivos" "Lcom/example/compensa/compensa/comum/Texto;" .null := F250.keep R269 (ninS ne243 nin0)
  have F274 : Fld Z T268.heap a1 "com/example/compensa/compensa/banco/LeiauteDeRetorno$Ocorrencia" "valor" "J" (.long (0 : Int64)) := F251.keep R269 (ninS ne243 nin0)
  have F275 : Fld Z T268.heap a1 "com/example/compensa/compensa/banco/LeiauteDeRetorno$Ocorrencia" "tarifa" "J" (.long (0 : Int64)) := F252.keep R269 (ninS ne243 nin0)
  have F276 : Fld Z T268.heap a1 "com/example/compensa/compensa/banco/LeiauteDeRetorno$Ocorrencia" "pago" "J" (.long (0 : Int64)) := F253.keep R269 (ninS ne243 nin0)
  have F277 : Fld Z T268.heap a1 "com/example/compensa/compensa/banco/LeiauteDeRetorno$Ocorrencia" "juros" "J" (.long (0 : Int64)) := F254.keep R269 (ninS ne243 nin0)
  have F278 : Fld Z T268.heap a1 "com/example/compensa/compensa/banco/LeiauteDeRetorno$Ocorrencia" "codigo" "I" (.int (0 : Int32)) := F255.keep R269 (ninS ne243 nin0)
  have F279 : Fld Z T268.heap a1 "com/example/compensa/compensa/banco/LeiauteDeRetorno$Ocorrencia" "nome" "Ljava/lang/String;" .null := F256.keep R269 (ninS ne243 nin0)
  have F280 : Exa Z T268.heap b2 "com/example/compensa/compensa/comum/Texto" := F257.keep R269
  have F281 : Fld Z T268.heap a1 "com/example/compensa/compensa/banco/LeiauteDeRetorno$Ocorrencia" "nossoNumero" "Lcom/example/compensa/compensa/comum/Texto;" (.ref b2) := F258.keep R269 (ninS ne243 nin0)
  have F282 : Exa Z T268.heap b56 "com/example/compensa/compensa/comum/Texto" := F259.keep R269
  have F283 : Fld Z T268.heap a1 "com/example/compensa/compensa/banco/LeiauteDeRetorno$Ocorrencia" "data" "Lcom/example/compensa/compensa/comum/Texto;" (.ref b56) := F260.keep R269 (ninS ne243 nin0)
  have F284 : Exa Z T268.heap b114 "com/example/compensa/compensa/comum/Texto" := F261.keep R269
  have F285 : Fld Z T268.heap a1 "com/example/compensa/compensa/banco/LeiauteDeRetorno$Ocorrencia" "documento" "Lcom/example/compensa/compensa/comum/Texto;" (.ref b114) := F262.keep R269 (ninS ne243 nin0)
  have F286 : Exa Z T268.heap b176 "com/example/compensa/compensa/comum/Texto" := F263.keep R269
  have F287 : Fld Z T268.heap a1 "com/example/compensa/compensa/banco/LeiauteDeRetorno$Ocorrencia" "vencimento" "Lcom/example/compensa/compensa/comum/Texto;" (.ref b176) := F264.keep R269 (ninS ne243 nin0)
  have F288 : Exa Z T268.heap b242 "com/example/compensa/compensa/comum/Texto" := A242.keep R269
  have Z289 : n0 ≤ T268.heap.size := Nat.le_trans Z265 R269.1
  have K290 : Keep h0 T268.heap [a1] := K266.trans R269 (allS (Or.inr sz_b242) all0)
  obtain ⟨T291, h291, X291, e291, W291, st291⟩ := putF X268 hx hZ hown (host := "") (Or.inl (hw _ (List.mem_of_getElem? (i := 27) rfl))) Via.refl rfl F272 F271 (Or.inr ⟨(hw _ (List.mem_of_getElem? (i := 28) rfl)), rfl, hnm⟩) (hw _ (List.mem_of_getElem? (i := 1) rfl)) (ty := (.object "com/example/compensa/compensa/comum/Texto")) (by decide) rfl rfl (g := (mkF m 66 #[.val (.ref a1)] [(.ref b242), (.ref a1)])) rfl rfl (hb hby d1_66)
  have Fw291 : Fld Z h291 a1 "com/example/compensa/compensa/banco/LeiauteDeRetorno$Ocorrencia" "credito" "Lcom/example/compensa/compensa/comum/Texto;" (.ref b242) := F272.same W291
  have F292 : Exa Z h291 a1 "com/example/compensa/compensa/banco/LeiauteDeRetorno$Ocorrencia" := F271.wr W291
  have F293 : Fld Z h291 a1 "com/example/compensa/compensa/banco/LeiauteDeRetorno$Ocorrencia" "motivos" "Lcom/example/compensa/compensa/comum/Texto;" .null := F273.other W291 (Or.inr (slot_ne (Or.inr (hw _ (List.mem_of_getElem? (i := 30) rfl))) (Or.inr (hw _ (List.mem_of_getElem? (i := 28) rfl))) (by decide) (t := (.object "com/example/compensa/compensa/comum/Texto")) (t' := (.object "com/example/compensa/compensa/comum/Texto")) (by decide) (by decide)))
  have F294 : Fld Z h291 a1 "com/example/compensa/compensa/banco/LeiauteDeRetorno$Ocorrencia" "valor" "J" (.long (0 : Int64)) := F274.other W291 (Or.inr (slot_ne (Or.inl (hw _ (List.mem_of_getElem? (i := 37) rfl))) (Or.inr (hw _ (List.mem_of_getElem? (i := 28) rfl))) (by decide) (t := .long) (t' := (.object "com/example/compensa/compensa/comum/Texto")) (by decide) (by decide)))
  have F295 : Fld Z h291 a1 "com/example/compensa/compensa/banco/LeiauteDeRetorno$Ocorrencia" "tarifa" "J" (.long (0 : Int64)) := F275.other W291 (Or.inr (slot_ne (Or.inl (hw _ (List.mem_of_getElem? (i := 39) rfl))) (Or.inr (hw _ (List.mem_of_getElem? (i := 28) rfl))) (by decide) (t := .long) (t' := (.object "com/example/compensa/compensa/comum/Texto")) (by decide) (by decide)))
  have F296 : Fld Z h291 a1 "com/example/compensa/compensa/banco/LeiauteDeRetorno$Ocorrencia" "pago" "J" (.long (0 : Int64)) := F276.other W291 (Or.inr (slot_ne (Or.inl (hw _ (List.mem_of_getElem? (i := 41) rfl))) (Or.inr (hw _ (List.mem_of_getElem? (i := 28) rfl))) (by decide) (t := .long) (t' := (.object "com/example/compensa/compensa/comum/Texto")) (by decide) (by decide)))
  have F297 : Fld Z h291 a1 "com/example/compensa/compensa/banco/LeiauteDeRetorno$Ocorrencia" "juros" "J" (.long (0 : Int64)) := F277.other W291 (Or.inr (slot_ne (Or.inl (hw _ (List.mem_of_getElem? (i := 43) rfl))) (Or.inr (hw _ (List.mem_of_getElem? (i := 28) rfl))) (by decide) (t := .long) (t' := (.object "com/example/compensa/compensa/comum/Texto")) (by decide) (by decide)))
  have F298 : Fld Z h291 a1 "com/example/compensa/compensa/banco/LeiauteDeRetorno$Ocorrencia" "codigo" "I" (.int (0 : Int32)) := F278.other W291 (Or.inr (slot_ne (Or.inl (hw _ (List.mem_of_getElem? (i := 70) rfl))) (Or.inr (hw _ (List.mem_of_getElem? (i := 28) rfl))) (by decide) (t := .int) (t' := (.object "com/example/compensa/compensa/comum/Texto")) (by decide) (by decide)))
  have F299 : Fld Z h291 a1 "com/example/compensa/compensa/banco/LeiauteDeRetorno$Ocorrencia" "nome" "Ljava/lang/String;" .null := F279.other W291 (Or.inr (slot_ne (Or.inl (hw _ (List.mem_of_getElem? (i := 77) rfl))) (Or.inr (hw _ (List.mem_of_getElem? (i := 28) rfl))) (by decide) (t := (.object "java/lang/String")) (t' := (.object "com/example/compensa/compensa/comum/Texto")) (by decide) (by decide)))
  have F300 : Exa Z h291 b2 "com/example/compensa/compensa/comum/Texto" := F280.wr W291
  have F301 : Fld Z h291 a1 "com/example/compensa/compensa/banco/LeiauteDeRetorno$Ocorrencia" "nossoNumero" "Lcom/example/compensa/compensa/comum/Texto;" (.ref b2) := F281.other W291 (Or.inr (slot_ne (Or.inr (hw _ (List.mem_of_getElem? (i := 20) rfl))) (Or.inr (hw _ (List.mem_of_getElem? (i := 28) rfl))) (by decide) (t := (.object "com/example/compensa/compensa/comum/Texto")) (t' := (.object "com/example/compensa/compensa/comum/Texto")) (by decide) (by decide)))
  have F302 : Exa Z h291 b56 "com/example/compensa/compensa/comum/Texto" := F282.wr W291
  have F303 : Fld Z h291 a1 "com/example/compensa/compensa/banco/LeiauteDeRetorno$Ocorrencia" "data" "Lcom/example/compensa/compensa/comum/Texto;" (.ref b56) := F283.other W291 (Or.inr (slot_ne (Or.inr (hw _ (List.mem_of_getElem? (i := 22) rfl))) (Or.inr (hw _ (List.mem_of_getElem? (i := 28) rfl))) (by decide) (t := (.object "com/example/compensa/compensa/comum/Texto")) (t' := (.object "com/example/compensa/compensa/comum/Texto")) (by decide) (by decide)))
  have F304 : Exa Z h291 b114 "com/example/compensa/compensa/comum/Texto" := F284.wr W291
  have F305 : Fld Z h291 a1 "com/example/compensa/compensa/banco/LeiauteDeRetorno$Ocorrencia" "documento" "Lcom/example/compensa/compensa/comum/Texto;" (.ref b114) := F285.other W291 (Or.inr (slot_ne (Or.inr (hw _ (List.mem_of_getElem? (i := 24) rfl))) (Or.inr (hw _ (List.mem_of_getElem? (i := 28) rfl))) (by decide) (t := (.object "com/example/compensa/compensa/comum/Texto")) (t' := (.object "com/example/compensa/compensa/comum/Texto")) (by decide) (by decide)))
  have F306 : Exa Z h291 b176 "com/example/compensa/compensa/comum/Texto" := F286.wr W291
  have F307 : Fld Z h291 a1 "com/example/compensa/compensa/banco/LeiauteDeRetorno$Ocorrencia" "vencimento" "Lcom/example/compensa/compensa/comum/Texto;" (.ref b176) := F287.other W291 (Or.inr (slot_ne (Or.inr (hw _ (List.mem_of_getElem? (i := 26) rfl))) (Or.inr (hw _ (List.mem_of_getElem? (i := 28) rfl))) (by decide) (t := (.object "com/example/compensa/compensa/comum/Texto")) (t' := (.object "com/example/compensa/compensa/comum/Texto")) (by decide) (by decide)))
  have F308 : Exa Z h291 b242 "com/example/compensa/compensa/comum/Texto" := R270.wr W291
  have Z309 : n0 ≤ h291.size := Nat.le_trans Z289 (Keep.of_wr W291).1
  have K310 : Keep h0 h291 [a1] := K290.wr W291 (Or.inl (List.mem_of_getElem? (i := 0) rfl))
  have N311 := Fr.snoc X291 N268 Hg1
  obtain ⟨T312, h312, X312, e312, E312, A312, D312, -, st312⟩ := newO X291 hx hZ hown (hw _ (List.mem_of_getElem? (i := 9) rfl)) (hw _ (List.mem_of_getElem? (i := 10) rfl)) (hw _ (List.mem_of_getElem? (i := 11) rfl)) e291 (g := (mkF m 70 #[.val (.ref a1)] [(.ref a1)])) rfl (hb hby d1_70) (by decide) (by decide)
  obtain ⟨b312, g312⟩ : ∃ z, z = h291.size := ⟨_, rfl⟩
  rw [← g312] at A312 D312 st312
  have ne313 : a1 ≠ b312 := Nat.ne_of_lt (Nat.lt_of_lt_of_le F292.lt (Nat.le_of_eq g312.symm))
  have ne314 : b2 ≠ b312 := Nat.ne_of_lt (Nat.lt_of_lt_of_le F300.lt (Nat.le_of_eq g312.symm))
  have ne315 : b56 ≠ b312 := Nat.ne_of_lt (Nat.lt_of_lt_of_le F302.lt (Nat.le_of_eq g312.symm))
  have ne316 : b114 ≠ b312 := Nat.ne_of_lt (Nat.lt_of_lt_of_le F304.lt (Nat.le_of_eq g312.symm))
  have ne317 : b176 ≠ b312 := Nat.ne_of_lt (Nat.lt_of_lt_of_le F306.lt (Nat.le_of_eq g312.symm))
  have ne318 : b242 ≠ b312 := Nat.ne_of_lt (Nat.lt_of_lt_of_le F308.lt (Nat.le_of_eq g312.symm))
  have g_b312 : n0 ≤ b312 := Nat.le_trans Z309 (Nat.le_of_eq g312.symm)
  have sz_b312 : h0.size ≤ b312 := Nat.le_trans K310.1 (Nat.le_of_eq g312.symm)
  have F319 : Exa Z h312 a1 "com/example/compensa/compensa/banco/LeiauteDeRetorno$Ocorrencia" := F292.ext E312
  have F320 : Fld Z h312 a1 "com/example/compensa/compensa/banco/LeiauteDeRetorno$Ocorrencia" "motivos" "Lcom/example/compensa/compensa/comum/Texto;" .null := F293.ext E312
  have F321 : Fld Z h312 a1 "com/example/compensa/compensa/banco/LeiauteDeRetorno$Ocorrencia" "valor" "J" (.long (0 : Int64)) := F294.ext E312
  have F322 : Fld Z h312 a1 "com/example/compensa/compensa/banco/LeiauteDeRetorno$Ocorrencia" "tarifa" "J" (.long (0 : Int64)) := F295.ext E312
  have F323 : Fld Z h312 a1 "com/example/compensa/compensa/banco/LeiauteDeRetorno$Ocorrencia" "pago" "J" (.long (0 : Int64)) := F296.ext E312
  have F324 : Fld Z h312 a1 "com/example/compensa/compensa/banco/LeiauteDeRetorno$Ocorrencia" "juros" "J" (.long (0 : Int64)) := F297.ext E312
  have F325 : Fld Z h312 a1 "com/example/compensa/compensa/banco/LeiauteDeRetorno$Ocorrencia" "codigo" "I" (.int (0 : Int32)) := F298.ext E312
  have F326 : Fld Z h312 a1 "com/example/compensa/compensa/banco/LeiauteDeRetorno$Ocorrencia" "nome" "Ljava/lang/String;" .null := F299.ext E312
  have F327 : Exa Z h312 b2 "com/example/compensa/compensa/comum/Texto" := F300.ext E312
  have F328 : Fld Z h312 a1 "com/example/compensa/compensa/banco/LeiauteDeRetorno$Ocorrencia" "nossoNumero" "Lcom/example/compensa/compensa/comum/Texto;" (.ref b2) := F301.ext E312
  have F329 : Exa Z h312 b56 "com/example/compensa/compensa/comum/Texto" := F302.ext E312
  have F330 : Fld Z h312 a1 "com/example/compensa/compensa/banco/LeiauteDeRetorno$Ocorrencia" "data" "Lcom/example/compensa/compensa/comum/Texto;" (.ref b56) := F303.ext E312
  have F331 : Exa Z h312 b114 "com/example/compensa/compensa/comum/Texto" := F304.ext E312
  have F332 : Fld Z h312 a1 "com/example/compensa/compensa/banco/LeiauteDeRetorno$Ocorrencia" "documento" "Lcom/example/compensa/compensa/comum/Texto;" (.ref b114) := F305.ext E312
  have F333 : Exa Z h312 b176 "com/example/compensa/compensa/comum/Texto" := F306.ext E312
  have F334 : Fld Z h312 a1 "com/example/compensa/compensa/banco/LeiauteDeRetorno$Ocorrencia" "vencimento" "Lcom/example/compensa/compensa/comum/Texto;" (.ref b176) := F307.ext E312
  have F335 : Exa Z h312 b242 "com/example/compensa/compensa/comum/Texto" := F308.ext E312
  have F336 : Fld Z h312 a1 "com/example/compensa/compensa/banco/LeiauteDeRetorno$Ocorrencia" "credito" "Lcom/example/compensa/compensa/comum/Texto;" (.ref b242) := Fw291.ext E312
  have Z337 : n0 ≤ h312.size := Nat.le_trans Z309 E312.1
  have K338 : Keep h0 h312 [a1] := K310.ext E312
  have F339 : Fld Z h312 b312 "com/example/compensa/compensa/comum/Texto" "caracteres" "[C" .null := D312 (Or.inl (hw _ (List.mem_of_getElem? (i := 18) rfl))) (ty := (.array .char)) (by decide)
  obtain ⟨_, _, ⟨T340, L340, k340, n340⟩, -, X340, ⟨Lc340, hQ340, l340, y340, z340⟩, st340⟩ := X312.specialBack hx (y := (⟨"com/example/compensa/compensa/comum/Texto", "<init>", "(I)V"⟩ : MethodName)) rfl hown (mvT hZ (hw _ (List.mem_of_getElem? (i := 12) rfl))) (mvT hZ (hw _ (List.mem_of_getElem? (i := 13) rfl))) (mvT hZ (hw _ (List.mem_of_getElem? (i := 14) rfl))) (by decide) (backOf (W := 2) (rm3_16 l Z a0 hw [] b312 h312 n0 Z337 A312 F339 g_b312) hZ (hw _ (List.mem_of_getElem? (i := 14) rfl)) (hw _ (List.mem_of_getElem? (i := 11) rfl)) (by decide) (by decide)) (g := (mkF m 76 #[.val (.ref a1)] [(.int (16 : Int32)), (.ref b312), (.ref b312), (.ref a1)])) rfl (by rw [hml]; rfl) (Steps.refl _) (a := b312) (argsL := [(.int (16 : Int32))]) (rest := [(.ref b312), (.ref a1)]) (lenOf pd_0 rfl) rfl (by show 2 * 0 + _ ≤ _; exact Nat.le_of_eq rfl) (hb hby d1_76) (fun _ _ => ⟨rfl, e312, (by decide : 11 + 1 ≤ _), (by decide : 74 + 16 ≤ _)⟩)
  dsimp only [Pt.U, Pt.locs, Pt.cells, Pt.slots] at X340 l340 y340 z340 st340 hQ340
  subst l340 y340 z340
  obtain ⟨rfl, N340q, R341, R342⟩ := hQ340
  have N340 := Fr.app N311 N340q
  have F343 : Exa Z T340.heap a1 "com/example/compensa/compensa/banco/LeiauteDeRetorno$Ocorrencia" := F319.keep R341
  have F344 : Fld Z T340.heap a1 "com/example/compensa/compensa/banco/LeiauteDeRetorno$Ocorrencia" "motivos" "Lcom/example/compensa/compensa/comum/Texto;" .null := F320.keep R341 (ninS ne313 nin0)
  have F345 : Fld Z T340.heap a1 "com/example/compensa/compensa/banco/LeiauteDeRetorno$Ocorrencia" "valor" "J" (.long (0 : Int64)) := F321.keep R341 (ninS ne313 nin0)
  have F346 : Fld Z T340.heap a1 "com/example/compensa/compensa/banco/LeiauteDeRetorno$Ocorrencia" "tarifa" "J" (.long (0 : Int64)) := F322.keep R341 (ninS ne313 nin0)
  have F347 : Fld Z T340.heap a1 "com/example/compensa/compensa/banco/LeiauteDeRetorno$Ocorrencia" "pago" "J" (.long (0 : Int64)) := F323.keep R341 (ninS ne313 nin0)
  have F348 : Fld Z T340.heap a1 "com/example/compensa/compensa/banco/LeiauteDeRetorno$Ocorrencia" "juros" "J" (.long (0 : Int64)) := F324.keep R341 (ninS ne313 nin0)
  have F349 : Fld Z T340.heap a1 "com/example/compensa/compensa/banco/LeiauteDeRetorno$Ocorrencia" "codigo" "I" (.int (0 : Int32)) := F325.keep R341 (ninS ne313 nin0)
  have F350 : Fld Z T340.heap a1 "com/example/compensa/compensa/banco/LeiauteDeRetorno$Ocorrencia" "nome" "Ljava/lang/String;" .null := F326.keep R341 (ninS ne313 nin0)
  have F351 : Exa Z T340.heap b2 "com/example/compensa/compensa/comum/Texto" := F327.keep R341
  have F352 : Fld Z T340.heap a1 "com/example/compensa/compensa/banco/LeiauteDeRetorno$Ocorrencia" "nossoNumero" "Lcom/example/compensa/compensa/comum/Texto;" (.ref b2) := F328.keep R341 (ninS ne313 nin0)
  have F353 : Exa Z T340.heap b56 "com/example/compensa/compensa/comum/Texto" := F329.keep R341
  have F354 : Fld Z T340.heap a1 "com/example/compensa/compensa/banco/LeiauteDeRetorno$Ocorrencia" "data" "Lcom/example/compensa/compensa/comum/Texto;" (.ref b56) := F330.keep R341 (ninS ne313 nin0)
  have F355 : Exa Z T340.heap b114 "com/example/compensa/compensa/comum/Texto" := F331.keep R341
  have F356 : Fld Z T340.heap a1 "com/example/compensa/compensa/banco/LeiauteDeRetorno$Ocorrencia" "documento" "Lcom/example/compensa/compensa/comum/Texto;" (.ref b114) := F332.keep R341 (ninS ne313 nin0)
  have F357 : Exa Z T340.heap b176 "com/example/compensa/compensa/comum/Texto" := F333.keep R341
  have F358 : Fld Z T340.heap a1 "com/example/compensa/compensa/banco/LeiauteDeRetorno$Ocorrencia" "vencimento" "Lcom/example/compensa/compensa/comum/Texto;" (.ref b176) := F334.keep R341 (ninS ne313 nin0)
  have F359 : Exa Z T340.heap b242 "com/example/compensa/compensa/comum/Texto" := F335.keep R341
  have F360 : Fld Z T340.heap a1 "com/example/compensa/compensa/banco/LeiauteDeRetorno$Ocorrencia" "credito" "Lcom/example/compensa/compensa/comum/Texto;" (.ref b242) := F336.keep R341 (ninS ne313 nin0)
  have F361 : Exa Z T340.heap b312 "com/example/compensa/compensa/comum/Texto" := A312.keep R341
  have Z362 : n0 ≤ T340.heap.size := Nat.le_trans Z337 R341.1
  have K363 : Keep h0 T340.heap [a1] := K338.trans R341 (allS (Or.inr sz_b312) all0)
  obtain ⟨T364, h364, X364, e364, W364, st364⟩ := putF X340 hx hZ hown (host := "") (Or.inl (hw _ (List.mem_of_getElem? (i := 29) rfl))) Via.refl rfl F344 F343 (Or.inr ⟨(hw _ (List.mem_of_getElem? (i := 30) rfl)), rfl, hnm⟩) (hw _ (List.mem_of_getElem? (i := 1) rfl)) (ty := (.object "com/example/compensa/compensa/comum/Texto")) (by decide) rfl rfl (g := (mkF m 79 #[.val (.ref a1)] [(.ref b312), (.ref a1)])) rfl rfl (hb hby d1_79)
  have Fw364 : Fld Z h364 a1 "com/example/compensa/compensa/banco/LeiauteDeRetorno$Ocorrencia" "motivos" "Lcom/example/compensa/compensa/comum/Texto;" (.ref b312) := F344.same W364
  have F365 : Exa Z h364 a1 "com/example/compensa/compensa/banco/LeiauteDeRetorno$Ocorrencia" := F343.wr W364
  have F366 : Fld Z h364 a1 "com/example/compensa/compensa/banco/LeiauteDeRetorno$Ocorrencia" "valor" "J" (.long (0 : Int64)) := F345.other W364 (Or.inr (slot_ne (Or.inl (hw _ (List.mem_of_getElem? (i := 37) rfl))) (Or.inr (hw _ (List.mem_of_getElem? (i := 30) rfl))) (by decide) (t := .long) (t' := (.object "com/example/compensa/compensa/comum/Texto")) (by decide) (by decide)))
  have F367 : Fld Z h364 a1 "com/example/compensa/compensa/banco/LeiauteDeRetorno$Ocorrencia" "tarifa" "J" (.long (0 : Int64)) := F346.other W364 (Or.inr (slot_ne (Or.inl (hw _ (List.mem_of_getElem? (i := 39) rfl))) (Or.inr (hw _ (List.mem_of_getElem? (i := 30) rfl))) (by decide) (t := .long) (t' := (.object "com/example/compensa/compensa/comum/Texto")) (by decide) (by decide)))
  have F368 : Fld Z h364 a1 "com/example/compensa/compensa/banco/LeiauteDeRetorno$Ocorrencia" "pago" "J" (.long (0 : Int64)) := F347.other W364 (Or.inr (slot_ne (Or.inl (hw _ (List.mem_of_getElem? (i := 41) rfl))) (Or.inr (hw _ (List.mem_of_getElem? (i := 30) rfl))) (by decide) (t := .long) (t' := (.object "com/example/compensa/compensa/comum/Texto")) (by decide) (by decide)))
  have F369 : Fld Z h364 a1 "com/example/compensa/compensa/banco/LeiauteDeRetorno$Ocorrencia" "juros" "J" (.long (0 : Int64)) := F348.other W364 (Or.inr (slot_ne (Or.inl (hw _ (List.mem_of_getElem? (i := 43) rfl))) (Or.inr (hw _ (List.mem_of_getElem? (i := 30) rfl))) (by decide) (t := .long) (t' := (.object "com/example/compensa/compensa/comum/Texto")) (by decide) (by decide)))
  have F370 : Fld Z h364 a1 "com/example/compensa/compensa/banco/LeiauteDeRetorno$Ocorrencia" "codigo" "I" (.int (0 : Int32)) := F349.other W364 (Or.inr (slot_ne (Or.inl (hw _ (List.mem_of_getElem? (i := 70) rfl))) (Or.inr (hw _ (List.mem_of_getElem? (i := 30) rfl))) (by decide) (t := .int) (t' := (.object "com/example/compensa/compensa/comum/Texto")) (by decide) (by decide)))
  have F371 : Fld Z h364 a1 "com/example/compensa/compensa/banco/LeiauteDeRetorno$Ocorrencia" "nome" "Ljava/lang/String;" .null := F350.other W364 (Or.inr (slot_ne (Or.inl (hw _ (List.mem_of_getElem? (i := 77) rfl))) (Or.inr (hw _ (List.mem_of_getElem? (i := 30) rfl))) (by decide) (t := (.object "java/lang/String")) (t' := (.object "com/example/compensa/compensa/comum/Texto")) (by decide) (by decide)))
  have F372 : Exa Z h364 b2 "com/example/compensa/compensa/comum/Texto" := F351.wr W364
  have F373 : Fld Z h364 a1 "com/example/compensa/compensa/banco/LeiauteDeRetorno$Ocorrencia" "nossoNumero" "Lcom/example/compensa/compensa/comum/Texto;" (.ref b2) := F352.other W364 (Or.inr (slot_ne (Or.inr (hw _ (List.mem_of_getElem? (i := 20) rfl))) (Or.inr (hw _ (List.mem_of_getElem? (i := 30) rfl))) (by decide) (t := (.object "com/example/compensa/compensa/comum/Texto")) (t' := (.object "com/example/compensa/compensa/comum/Texto")) (by decide) (by decide)))
  have F374 : Exa Z h364 b56 "com/example/compensa/compensa/comum/Texto" := F353.wr W364
  have F375 : Fld Z h364 a1 "com/example/compensa/compensa/banco/LeiauteDeRetorno$Ocorrencia" "data" "Lcom/example/compensa/compensa/comum/Texto;" (.ref b56) := F354.other W364 (Or.inr (slot_ne (Or.inr (hw _ (List.mem_of_getElem? (i := 22) rfl))) (Or.inr (hw _ (List.mem_of_getElem? (i := 30) rfl))) (by decide) (t := (.object "com/example/compensa/compensa/comum/Texto")) (t' := (.object "com/example/compensa/compensa/comum/Texto")) (by decide) (by decide)))
  have F376 : Exa Z h364 b114 "com/example/compensa/compensa/comum/Texto" := F355.wr W364
  have F377 : Fld Z h364 a1 "com/example/compensa/compensa/banco/LeiauteDeRetorno$Ocorrencia" "documento" "Lcom/example/compensa/compensa/comum/Texto;" (.ref b114) := F356.other W364 (Or.inr (slot_ne (Or.inr (hw _ (List.mem_of_getElem? (i := 24) rfl))) (Or.inr (hw _ (List.mem_of_getElem? (i := 30) rfl))) (by decide) (t := (.object "com/example/compensa/compensa/comum/Texto")) (t' := (.object "com/example/compensa/compensa/comum/Texto")) (by decide) (by decide)))
  have F378 : Exa Z h364 b176 "com/example/compensa/compensa/comum/Texto" := F357.wr W364
  have F379 : Fld Z h364 a1 "com/example/compensa/compensa/banco/LeiauteDeRetorno$Ocorrencia" "vencimento" "Lcom/example/compensa/compensa/comum/Texto;" (.ref b176) := F358.other W364 (Or.inr (slot_ne (Or.inr (hw _ (List.mem_of_getElem? (i := 26) rfl))) (Or.inr (hw _ (List.mem_of_getElem? (i := 30) rfl))) (by decide) (t := (.object "com/example/compensa/compensa/comum/Texto")) (t' := (.object "com/example/compensa/compensa/comum/Texto")) (by decide) (by decide)))
  have F380 : Exa Z h364 b242 "com/example/compensa/compensa/comum/Texto" := F359.wr W364
  have F381 : Fld Z h364 a1 "com/example/compensa/compensa/banco/LeiauteDeRetorno$Ocorrencia" "credito" "Lcom/example/compensa/compensa/comum/Texto;" (.ref b242) := F360.other W364 (Or.inr (slot_ne (Or.inr (hw _ (List.mem_of_getElem? (i := 28) rfl))) (Or.inr (hw _ (List.mem_of_getElem? (i := 30) rfl))) (by decide) (t := (.object "com/example/compensa/compensa/comum/Texto")) (t' := (.object "com/example/compensa/compensa/comum/Texto")) (by decide) (by decide)))
  have F382 : Exa Z h364 b312 "com/example/compensa/compensa/comum/Texto" := R342.wr W364
  have Z383 : n0 ≤ h364.size := Nat.le_trans Z362 (Keep.of_wr W364).1
  have K384 : Keep h0 h364 [a1] := K363.wr W364 (Or.inl (List.mem_of_getElem? (i := 0) rfl))
  have N385 := Fr.snoc X364 N340 Hg1
  obtain ⟨fs, hr, hrun, hended, hW, hsame⟩ := X364.leave (v := none) (fun _ => rfl)
  refine ⟨_, _, pre0 _ ?_, hrun, hended, _, _, rfl, ?_, ⟨_, rfl⟩, hW, hsame.mono (by decide) (by decide)⟩
  · show Steps p.tables e below (s₁.setTop (mkF m 0 #[.val (.ref a1)] [])) _
    refine XS.aloadN X0.here hx rfl (hb hby d1_0) rfl rfl ?_
    show Steps p.tables e below (s₁.setTop (mkF m 1 #[.val (.ref a1)] [(.ref a1)])) _
    refine st1 _ ?_
    show Steps p.tables e below (T1.setTop (mkF m 4 #[.val (.ref a1)] [])) _
    refine XS.aloadN X1.here hx rfl (hb hby d1_4) rfl rfl ?_
    show Steps p.tables e below (T1.setTop (mkF m 5 #[.val (.ref a1)] [(.ref a1)])) _
    refine st2 _ ?_
    show Steps p.tables e below (T2.setTop (mkF m 8 #[.val (.ref a1)] [(.ref b2), (.ref a1)])) _
    refine XS.dup X2.here hx rfl (hb hby d1_8) rfl rfl ?_
    show Steps p.tables e below (T2.setTop (mkF m 9 #[.val (.ref a1)] [(.ref b2), (.ref b2), (.ref a1)])) _
    refine XS.bipush X2.here hx rfl (hb hby d1_9) ?_
    show Steps p.tables e below (T2.setTop (mkF m 11 #[.val (.ref a1)] [(.int (16 : Int32)), (.ref b2), (.ref b2), (.ref a1)])) _
    refine st20.trans ?_
    show Steps p.tables e below (T20.setTop (mkF m 14 #[.val (.ref a1)] [(.ref b2), (.ref a1)])) _
    refine st39 _ ?_
    show Steps p.tables e below (T39.setTop (mkF m 17 #[.val (.ref a1)] [])) _
    refine XS.aloadN X39.here hx rfl (hb hby d1_17) rfl rfl ?_
    show Steps p.tables e below (T39.setTop (mkF m 18 #[.val (.ref a1)] [(.ref a1)])) _
    refine st56 _ ?_
    show Steps p.tables e below (T56.setTop (mkF m 21 #[.val (.ref a1)] [(.ref b56), (.ref a1)])) _
    refine XS.dup X56.here hx rfl (hb hby d1_21) rfl rfl ?_
    show Steps p.tables e below (T56.setTop (mkF m 22 #[.val (.ref a1)] [(.ref b56), (.ref b56), (.ref a1)])) _
    refine XS.bipush X56.here hx rfl (hb hby d1_22) ?_
    show Steps p.tables e below (T56.setTop (mkF m 24 #[.val (.ref a1)] [(.int (10 : Int32)), (.ref b56), (.ref b56), (.ref a1)])) _
    refine st76.trans ?_
    show Steps p.tables e below (T76.setTop (mkF m 27 #[.val (.ref a1)] [(.ref b56), (.ref a1)])) _
    refine st96 _ ?_
    show Steps p.tables e below (T96.setTop (mkF m 30 #[.val (.ref a1)] [])) _
    refine XS.aloadN X96.here hx rfl (hb hby d1_30) rfl rfl ?_
    show Steps p.tables e below (T96.setTop (mkF m 31 #[.val (.ref a1)] [(.ref a1)])) _
    refine st114 _ ?_
    show Steps p.tables e below (T114.setTop (mkF m 34 #[.val (.ref a1)] [(.ref b114), (.ref a1)])) _
    refine XS.dup X114.here hx rfl (hb hby d1_34) rfl rfl ?_
    show Steps p.tables e below (T114.setTop (mkF m 35 #[.val (.ref a1)] [(.ref b114), (.ref b114), (.ref a1)])) _
    refine XS.bipush X114.here hx rfl (hb hby d1_35) ?_
    show Steps p.tables e below (T114.setTop (mkF m 37 #[.val (.ref a1)] [(.int (16 : Int32)), (.ref b114), (.ref b114), (.ref a1)])) _
    refine st136.trans ?_
    show Steps p.tables e below (T136.setTop (mkF m 40 #[.val (.ref a1)] [(.ref b114), (.ref a1)])) _
    refine st157 _ ?_
    show Steps p.tables e below (T157.setTop (mkF m 43 #[.val (.ref a1)] [])) _
    refine XS.aloadN X157.here hx rfl (hb hby d1_43) rfl rfl ?_
    show Steps p.tables e below (T157.setTop (mkF m 44 #[.val (.ref a1)] [(.ref a1)])) _
    refine st176 _ ?_
    show Steps p.tables e below (T176.setTop (mkF m 47 #[.val (.ref a1)] [(.ref b176), (.ref a1)])) _
    refine XS.dup X176.here hx rfl (hb hby d1_47) rfl rfl ?_
    show Steps p.tables e below (T176.setTop (mkF m 48 #[.val (.ref a1)] [(.ref b176), (.ref b176), (.ref a1)])) _
    refine XS.bipush X176.here hx rfl (hb hby d1_48) ?_
    show Steps p.tables e below (T176.setTop (mkF m 50 #[.val (.ref a1)] [(.int (10 : Int32)), (.ref b176), (.ref b176), (.ref a1)])) _
    refine st200.trans ?_
    show Steps p.tables e below (T200.setTop (mkF m 53 #[.val (.ref a1)] [(.ref b176), (.ref a1)])) _
    refine st222 _ ?_
    show Steps p.tables e below (T222.setTop (mkF m 56 #[.val (.ref a1)] [])) _
    refine XS.aloadN X222.here hx rfl (hb hby d1_56) rfl rfl ?_
    show Steps p.tables e below (T222.setTop (mkF m 57 #[.val (.ref a1)] [(.ref a1)])) _
    refine st242 _ ?_
    show Steps p.tables e below (T242.setTop (mkF m 60 #[.val (.ref a1)] [(.ref b242), (.ref a1)])) _
    refine XS.dup X242.here hx rfl (hb hby d1_60) rfl rfl ?_
    show Steps p.tables e below (T242.setTop (mkF m 61 #[.val (.ref a1)] [(.ref b242), (.ref b242), (.ref a1)])) _
    refine XS.bipush X242.here hx rfl (hb hby d1_61) ?_
    show Steps p.tables e below (T242.setTop (mkF m 63 #[.val (.ref a1)] [(.int (10 : Int32)), (.ref b242), (.ref b242), (.ref a1)])) _
    refine st268.trans ?_
    show Steps p.tables e below (T268.setTop (mkF m 66 #[.val (.ref a1)] [(.ref b242), (.ref a1)])) _
    refine st291 _ ?_
    show Steps p.tables e below (T291.setTop (mkF m 69 #[.val (.ref a1)] [])) _
    refine XS.aloadN X291.here hx rfl (hb hby d1_69) rfl rfl ?_
    show Steps p.tables e below (T291.setTop (mkF m 70 #[.val (.ref a1)] [(.ref a1)])) _
    refine st312 _ ?_
    show Steps p.tables e below (T312.setTop (mkF m 73 #[.val (.ref a1)] [(.ref b312), (.ref a1)])) _
    refine XS.dup X312.here hx rfl (hb hby d1_73) rfl rfl ?_
    show Steps p.tables e below (T312.setTop (mkF m 74 #[.val (.ref a1)] [(.ref b312), (.ref b312), (.ref a1)])) _
    refine XS.bipush X312.here hx rfl (hb hby d1_74) ?_
    show Steps p.tables e below (T312.setTop (mkF m 76 #[.val (.ref a1)] [(.int (16 : Int32)), (.ref b312), (.ref b312), (.ref a1)])) _
    refine st340.trans ?_
    show Steps p.tables e below (T340.setTop (mkF m 79 #[.val (.ref a1)] [(.ref b312), (.ref a1)])) _
    refine st364 _ ?_
    show Steps p.tables e below (T364.setTop (mkF m 82 #[.val (.ref a1)] [])) _
    exact X364.returnOut hx Bd.returns (hb hby d1_82) hr
  · show Q1 Z a1 h0 n0 _ T364.heap _
    rw [e364]
    exact ⟨rfl, N385, K384, F365, F366, F367, F368, F369, F370, F371⟩
theorem d4_0 : decode prog_37_method_13_code 0 = .ok (.aload_n 0, 1) := by decide +kernel
theorem d4_1 : decode prog_37_method_13_code 1 = .ok (.lload_n 1, 1) := by decide +kernel
theorem d4_2 : decode prog_37_method_13_code 2 = .ok (.putfield 47, 3) := by decide +kernel
theorem d4_5 : decode prog_37_method_13_code 5 = .ok (.aload_n 0, 1) := by decide +kernel
theorem d4_6 : decode prog_37_method_13_code 6 = .ok (.lload_n 3, 1) := by decide +kernel
theorem d4_7 : decode prog_37_method_13_code 7 = .ok (.putfield 51, 3) := by decide +kernel
theorem d4_10 : decode prog_37_method_13_code 10 = .ok (.aload_n 0, 1) := by decide +kernel
theorem d4_11 : decode prog_37_method_13_code 11 = .ok (.lload 5, 2) := by decide +kernel
theorem d4_13 : decode prog_37_method_13_code 13 = .ok (.putfield 54, 3) := by decide +kernel
theorem d4_16 : decode prog_37_method_13_code 16 = .ok (.aload_n 0, 1) := by decide +kernel
theorem d4_17 : decode prog_37_method_13_code 17 = .ok (.lload 7, 2) := by decide +kernel
theorem d4_19 : decode prog_37_method_13_code 19 = .ok (.putfield 57, 3) := by decide +kernel
theorem d4_22 : decode prog_37_method_13_code 22 = .ok (.return_, 1) := by decide +kernel
theorem ef_4 (m : MethodId) (a1 : Addr) (q1 : Int64) (q2 : Int64) (q3 : Int64) (q4 : Int64) : entryFrame m #[(.ref a1), (.long q1), (.long q2), (.long q3), (.long q4)] 9 = mkF m 0 #[.val (.ref a1), .val (.long q1), .second, .val (.long q2), .second, .val (.long q3), .second, .val (.long q4), .second] [] := by first | (simp [entryFrame, mkF, argsToLocals, Value.category]; done) | rfl
def Q4 (Z : State) (a1 : Addr) (q1 : Int64) (q2 : Int64) (q3 : Int64) (q4 : Int64) (u1 : Int64) (u2 : Int64) (u3 : Int64) (u4 : Int64) (h0 : Heap) (n0 : Nat) (v : Option Value) (h : Heap) (L : List Loc) : Prop := v = none ∧ Fr n0 L ∧ Keep h0 h [a1] ∧ Exa Z h a1 "com/example/compensa/compensa/banco/LeiauteDeRetorno$Ocorrencia" ∧ Fld Z h a1 "com/example/compensa/compensa/banco/LeiauteDeRetorno$Ocorrencia" "valor" "J" (.long q1) ∧ Fld Z h a1 "com/example/compensa/compensa/banco/LeiauteDeRetorno$Ocorrencia" "tarifa" "J" (.long q2) ∧ Fld Z h a1 "com/example/compensa/compensa/banco/LeiauteDeRetorno$Ocorrencia" "pago" "J" (.long q3) ∧ Fld Z h a1 "com/example/compensa/compensa/banco/LeiauteDeRetorno$Ocorrencia" "juros" "J" (.long q4) ∧ Fld Z h a1 "com/example/compensa/compensa/banco/LeiauteDeRetorno$Ocorrencia" "codigo" "I" (.int (0 : Int32)) ∧ Fld Z h a1 "com/example/compensa/compensa/banco/LeiauteDeRetorno$Ocorrencia" "nome" "Ljava/lang/String;" .null
set_option maxRecDepth 65536 in
set_option maxHeartbeats 40000000 in
theorem rm4 (l : Launch) (Z : State) (a0 : Array Value) (hw : ∀ d ∈ tables_1, d.before a0 Z = true) (ws : List Jvm.Cond) (a1 : Addr) (q1 : Int64) (q2 : Int64) (q3 : Int64) (q4 : Int64) (u1 : Int64) (u2 : Int64) (u3 : Int64) (u4 : Int64) (h0 : Heap) (n0 : Nat) (Z0 : n0 ≤ h0.size) (HE0 : Exa Z h0 a1 "com/example/compensa/compensa/banco/LeiauteDeRetorno$Ocorrencia") (Hg1 : n0 ≤ a1) (HF2 : Fld Z h0 a1 "com/example/compensa/compensa/banco/LeiauteDeRetorno$Ocorrencia" "valor" "J" (.long u1)) (HF3 : Fld Z h0 a1 "com/example/compensa/compensa/banco/LeiauteDeRetorno$Ocorrencia" "tarifa" "J" (.long u2)) (HF4 : Fld Z h0 a1 "com/example/compensa/compensa/banco/LeiauteDeRetorno$Ocorrencia" "pago" "J" (.long u3)) (HF5 : Fld Z h0 a1 "com/example/compensa/compensa/banco/LeiauteDeRetorno$Ocorrencia" "juros" "J" (.long u4)) (HF6 : Fld Z h0 a1 "com/example/compensa/compensa/banco/LeiauteDeRetorno$Ocorrencia" "codigo" "I" (.int (0 : Int32))) (HF7 : Fld Z h0 a1 "com/example/compensa/compensa/banco/LeiauteDeRetorno$Ocorrencia" "nome" "Ljava/lang/String;" .null) :
    MetFree l (⟨"com/example/compensa/compensa/banco/LeiauteDeRetorno$Ocorrencia", "valores", "(JJJJ)V"⟩ : MethodName) (head1 (Jvm.Cond.code (⟨"com/example/compensa/compensa/banco/LeiauteDeRetorno$Ocorrencia", "valores", "(JJJJ)V"⟩ : MethodName) prog_37_method_13_code 9 none :: ws) ({ frames := 0, cells := 0, slots := 0, locals := 0 } : Room)) (fun a U => a = #[(.ref a1), (.long q1), (.long q2), (.long q3), (.long q4)] ∧ Z.Warmed39 U.vm ∧ U.heap = h0) (fun _ _ _ _ _ => True) (fun _ U o U' => ∃ v L, o = .returned v ∧ Q4 Z a1 q1 q2 q3 q4 u1 u2 u3 u4 h0 n0 v U'.heap L ∧ FrameEnd U o U' L ({ frames := 0, cells := 0, slots := 0, locals := 0 } : Room).cells ({ frames := 0, cells := 0, slots := 0, locals := 0 } : Room).slots) := by
  refine MetFree.of_bodySF (plainFor_of_name pn_1) hisR ?_
  intro p e s m args below meth c s₁ Bd hml0 hP hK
  obtain ⟨rfl, hZ, hh⟩ := hP
  have hx := Bd.exec
  have hby := Bd.bytes
  have hml : c.maxLocals = 9 := hml0
  have hown : s.vm.findClass "com/example/compensa/compensa/banco/LeiauteDeRetorno$Ocorrencia" = some m.cls := findClass_of_methodNamed Bd.named
  have hnm := (name_of_methodNamed Bd.named Bd.method).1
  have X0 : Stand p l e ({ frames := 0, cells := 0, slots := 0, locals := 0 } : Room) s m #[(.ref a1), (.long q1), (.long q2), (.long q3), (.long q4)] below meth c s₁ [] 0 0 := Stand.of_body Bd
  have e0 : s₁.heap = h0 := by rw [← hh, Bd.state]; rfl
  have N0 := Fr.nil n0
  have pre0 : ∀ t, Steps p.tables e below (s₁.setTop (mkF m 0 #[.val (.ref a1), .val (.long q1), .second, .val (.long q2), .second, .val (.long q3), .second, .val (.long q4), .second] [])) t → Steps p.tables e below (s₁.setTop (entryFrame m #[(.ref a1), (.long q1), (.long q2), (.long q3), (.long q4)] 9)) t := fun t k => castTop (ef_4 m a1 q1 q2 q3 q4) k
  obtain ⟨T1, h1, X1, e1, W1, st1⟩ := putF X0 hx hZ hown (host := "") (Or.inl (hw _ (List.mem_of_getElem? (i := 36) rfl))) Via.refl e0 HF2 HE0 (Or.inl (hw _ (List.mem_of_getElem? (i := 37) rfl))) (hw _ (List.mem_of_getElem? (i := 1) rfl)) (ty := .long) (by decide) rfl rfl (g := (mkF m 2 #[.val (.ref a1), .val (.long q1), .second, .val (.long q2), .second, .val (.long q3), .second, .val (.long q4), .second] [(.long q1), (.ref a1)])) rfl rfl (hb hby d4_2)
  have Fw1 : Fld Z h1 a1 "com/example/compensa/compensa/banco/LeiauteDeRetorno$Ocorrencia" "valor" "J" (.long q1) := HF2.same W1
  have F2 : Exa Z h1 a1 "com/example/compensa/compensa/banco/LeiauteDeRetorno$Ocorrencia" := HE0.wr W1
  have F3 : Fld Z h1 a1 "com/example/compensa/compensa/banco/LeiauteDeRetorno$Ocorrencia" "tarifa" "J" (.long u2) := HF3.other W1 (Or.inr (slot_ne (Or.inl (hw _ (List.mem_of_getElem? (i := 39) rfl))) (Or.inl (hw _ (List.mem_of_getElem? (i := 37) rfl))) (by decide) (t := .long) (t' := .long) (by decide) (by decide)))
  have F4 : Fld Z h1 a1 "com/example/compensa/compensa/banco/LeiauteDeRetorno$Ocorrencia" "pago" "J" (.long u3) := HF4.other W1 (Or.inr (slot_ne (Or.inl (hw _ (List.mem_of_getElem? (i := 41) rfl))) (Or.inl (hw _ (List.mem_of_getElem? (i := 37) rfl))) (by decide) (t := .long) (t' := .long) (by decide) (by decide)))
  have F5 : Fld Z h1 a1 "com/example/compensa/compensa/banco/LeiauteDeRetorno$Ocorrencia" "juros" "J" (.long u4) := HF5.other W1 (Or.inr (slot_ne (Or.inl (hw _ (List.mem_of_getElem? (i := 43) rfl))) (Or.inl (hw _ (List.mem_of_getElem? (i := 37) rfl))) (by decide) (t := .long) (t' := .long) (by decide) (by decide)))
  have F6 : Fld Z h1 a1 "com/example/compensa/compensa/banco/LeiauteDeRetorno$Ocorrencia" "codigo" "I" (.int (0 : Int32)) := HF6.other W1 (Or.inr (slot_ne (Or.inl (hw _ (List.mem_of_getElem? (i := 70) rfl))) (Or.inl (hw _ (List.mem_of_getElem? (i := 37) rfl))) (by decide) (t := .int) (t' := .long) (by decide) (by decide)))
  have F7 : Fld Z h1 a1 "com/example/compensa/compensa/banco/LeiauteDeRetorno$Ocorrencia" "nome" "Ljava/lang/String;" .null := HF7.other W1 (Or.inr (slot_ne (Or.inl (hw _ (List.mem_of_getElem? (i := 77) rfl))) (Or.inl (hw _ (List.mem_of_getElem? (i := 37) rfl))) (by decide) (t := (.object "java/lang/String")) (t' := .long) (by decide) (by decide)))
  have Z8 : n0 ≤ h1.size := Nat.le_trans Z0 (Keep.of_wr W1).1
  have K9 : Keep h0 h1 [a1] := (Keep.refl h0 [a1]).wr W1 (Or.inl (List.mem_of_getElem? (i := 0) rfl))
  have N10 := Fr.snoc X1 N0 Hg1
  obtain ⟨T11, h11, X11, e11, W11, st11⟩ := putF X1 hx hZ hown (host := "") (Or.inl (hw _ (List.mem_of_getElem? (i := 38) rfl))) Via.refl e1 F3 F2 (Or.inl (hw _ (List.mem_of_getElem? (i := 39) rfl))) (hw _ (List.mem_of_getElem? (i := 1) rfl)) (ty := .long) (by decide) rfl rfl (g := (mkF m 7 #[.val (.ref a1), .val (.long q1), .second, .val (.long q2), .second, .val (.long q3), .second, .val (.long q4), .second] [(.long q2), (.ref a1)])) rfl rfl (hb hby d4_7)
  have Fw11 : Fld Z h11 a1 "com/example/compensa/compensa/banco/LeiauteDeRetorno$Ocorrencia" "tarifa" "J" (.long q2) := F3.same W11
  have F12 : Exa Z h11 a1 "com/example/compensa/compensa/banco/LeiauteDeRetorno$Ocorrencia" := F2.wr W11
  have F13 : Fld Z h11 a1 "com/example/compensa/compensa/banco/LeiauteDeRetorno$Ocorrencia" "pago" "J" (.long u3) := F4.other W11 (Or.inr (slot_ne (Or.inl (hw _ (List.mem_of_getElem? (i := 41) rfl))) (Or.inl (hw _ (List.mem_of_getElem? (i := 39) rfl))) (by decide) (t := .long) (t' := .long) (by decide) (by decide)))
  have F14 : Fld Z h11 a1 "com/example/compensa/compensa/banco/LeiauteDeRetorno$Ocorrencia" "juros" "J" (.long u4) := F5.other W11 (Or.inr (slot_ne (Or.inl (hw _ (List.mem_of_getElem? (i := 43) rfl))) (Or.inl (hw _ (List.mem_of_getElem? (i := 39) rfl))) (by decide) (t := .long) (t' := .long) (by decide) (by decide)))
  have F15 : Fld Z h11 a1 "com/example/compensa/compensa/banco/LeiauteDeRetorno$Ocorrencia" "codigo" "I" (.int (0 : Int32)) := F6.other W11 (Or.inr (slot_ne (Or.inl (hw _ (List.mem_of_getElem? (i := 70) rfl))) (Or.inl (hw _ (List.mem_of_getElem? (i := 39) rfl))) (by decide) (t := .int) (t' := .long) (by decide) (by decide)))
  have F16 : Fld Z h11 a1 "com/example/compensa/compensa/banco/LeiauteDeRetorno$Ocorrencia" "nome" "Ljava/lang/String;" .null := F7.other W11 (Or.inr (slot_ne (Or.inl (hw _ (List.mem_of_getElem? (i := 77) rfl))) (Or.inl (hw _ (List.mem_of_getElem? (i := 39) rfl))) (by decide) (t := (.object "java/lang/String")) (t' := .long) (by decide) (by decide)))
  have F17 : Fld Z h11 a1 "com/example/compensa/compensa/banco/LeiauteDeRetorno$Ocorrencia" "valor" "J" (.long q1) := Fw1.other W11 (Or.inr (slot_ne (Or.inl (hw _ (List.mem_of_getElem? (i := 37) rfl))) (Or.inl (hw _ (List.mem_of_getElem? (i := 39) rfl))) (by decide) (t := .long) (t' := .long) (by decide) (by decide)))
  have Z18 : n0 ≤ h11.size := Nat.le_trans Z8 (Keep.of_wr W11).1
  have K19 : Keep h0 h11 [a1] := K9.wr W11 (Or.inl (List.mem_of_getElem? (i := 0) rfl))
  have N20 := Fr.snoc X11 N10 Hg1
  obtain ⟨T21, h21, X21, e21, W21, st21⟩ := putF X11 hx hZ hown (host := "") (Or.inl (hw _ (List.mem_of_getElem? (i := 40) rfl))) Via.refl e11 F13 F12 (Or.inl (hw _ (List.mem_of_getElem? (i := 41) rfl))) (hw _ (List.mem_of_getElem? (i := 1) rfl)) (ty := .long) (by decide) rfl rfl (g := (mkF m 13 #[.val (.ref a1), .val (.long q1), .second, .val (.long q2), .second, .val (.long q3), .second, .val (.long q4), .second] [(.long q3), (.ref a1)])) rfl rfl (hb hby d4_13)
  have Fw21 : Fld Z h21 a1 "com/example/compensa/compensa/banco/LeiauteDeRetorno$Ocorrencia" "pago" "J" (.long q3) := F13.same W21
  have F22 : Exa Z h21 a1 "com/example/compensa/compensa/banco/LeiauteDeRetorno$Ocorrencia" := F12.wr W21
  have F23 : Fld Z h21 a1 "com/example/compensa/compensa/banco/LeiauteDeRetorno$Ocorrencia" "juros" "J" (.long u4) := F14.other W21 (Or.inr (slot_ne (Or.inl (hw _ (List.mem_of_getElem? (i := 43) rfl))) (Or.inl (hw _ (List.mem_of_getElem? (i := 41) rfl))) (by decide) (t := .long) (t' := .long) (by decide) (by decide)))
  have F24 : Fld Z h21 a1 "com/example/compensa/compensa/banco/LeiauteDeRetorno$Ocorrencia" "codigo" "I" (.int (0 : Int32)) := F15.other W21 (Or.inr (slot_ne (Or.inl (hw _ (List.mem_of_getElem? (i := 70) rfl))) (Or.inl (hw _ (List.mem_of_getElem? (i := 41) rfl))) (by decide) (t := .int) (t' := .long) (by decide) (by decide)))
  have F25 : Fld Z h21 a1 "com/example/compensa/compensa/banco/LeiauteDeRetorno$Ocorrencia" "nome" "Ljava/lang/String;" .null := F16.other W21 (Or.inr (slot_ne (Or.inl (hw _ (List.mem_of_getElem? (i := 77) rfl))) (Or.inl (hw _ (List.mem_of_getElem? (i := 41) rfl))) (by decide) (t := (.object "java/lang/String")) (t' := .long) (by decide) (by decide)))
  have F26 : Fld Z h21 a1 "com/example/compensa/compensa/banco/LeiauteDeRetorno$Ocorrencia" "valor" "J" (.long q1) := F17.other W21 (Or.inr (slot_ne (Or.inl (hw _ (List.mem_of_getElem? (i := 37) rfl))) (Or.inl (hw _ (List.mem_of_getElem? (i := 41) rfl))) (by decide) (t := .long) (t' := .long) (by decide) (by decide)))
  have F27 : Fld Z h21 a1 "com/example/compensa/compensa/banco/LeiauteDeRetorno$Ocorrencia" "tarifa" "J" (.long q2) := Fw11.other W21 (Or.inr (slot_ne (Or.inl (hw _ (List.mem_of_getElem? (i := 39) rfl))) (Or.inl (hw _ (List.mem_of_getElem? (i := 41) rfl))) (by decide) (t := .long) (t' := .long) (by decide) (by decide)))
  have Z28 : n0 ≤ h21.size := Nat.le_trans Z18 (Keep.of_wr W21).1
  have K29 : Keep h0 h21 [a1] := K19.wr W21 (Or.inl (List.mem_of_getElem? (i := 0) rfl))
  have N30 := Fr.snoc X21 N20 Hg1
  obtain ⟨T31, h31, X31, e31, W31, st31⟩ := putF X21 hx hZ hown (host := "") (Or.inl (hw _ (List.mem_of_getElem? (i := 42) rfl))) Via.refl e21 F23 F22 (Or.inl (hw _ (List.mem_of_getElem? (i := 43) rfl))) (hw _ (List.mem_of_getElem? (i := 1) rfl)) (ty := .long) (by decide) rfl rfl (g := (mkF m 19 #[.val (.ref a1), .val (.long q1), .second, .val (.long q2), .second, .val (.long q3), .second, .val (.long q4), .second] [(.long q4), (.ref a1)])) rfl rfl (hb hby d4_19)
  have Fw31 : Fld Z h31 a1 "com/example/compensa/compensa/banco/LeiauteDeRetorno$Ocorrencia" "juros" "J" (.long q4) := F23.same W31
  have F32 : Exa Z h31 a1 "com/example/compensa/compensa/banco/LeiauteDeRetorno$Ocorrencia" := F22.wr W31
  have F33 : Fld Z h31 a1 "com/example/compensa/compensa/banco/LeiauteDeRetorno$Ocorrencia" "codigo" "I" (.int (0 : Int32)) := F24.other W31 (Or.inr (slot_ne (Or.inl (hw _ (List.mem_of_getElem? (i := 70) rfl))) (Or.inl (hw _ (List.mem_of_getElem? (i := 43) rfl))) (by decide) (t := .int) (t' := .long) (by decide) (by decide)))
  have F34 : Fld Z h31 a1 "com/example/compensa/compensa/banco/LeiauteDeRetorno$Ocorrencia" "nome" "Ljava/lang/String;" .null := F25.other W31 (Or.inr (slot_ne (Or.inl (hw _ (List.mem_of_getElem? (i := 77) rfl))) (Or.inl (hw _ (List.mem_of_getElem? (i := 43) rfl))) (by decide) (t := (.object "java/lang/String")) (t' := .long) (by decide) (by decide)))
  have F35 : Fld Z h31 a1 "com/example/compensa/compensa/banco/LeiauteDeRetorno$Ocorrencia" "valor" "J" (.long q1) := F26.other W31 (Or.inr (slot_ne (Or.inl (hw _ (List.mem_of_getElem? (i := 37) rfl))) (Or.inl (hw _ (List.mem_of_getElem? (i := 43) rfl))) (by decide) (t := .long) (t' := .long) (by decide) (by decide)))
  have F36 : Fld Z h31 a1 "com/example/compensa/compensa/banco/LeiauteDeRetorno$Ocorrencia" "tarifa" "J" (.long q2) := F27.other W31 (Or.inr (slot_ne (Or.inl (hw _ (List.mem_of_getElem? (i := 39) rfl))) (Or.inl (hw _ (List.mem_of_getElem? (i := 43) rfl))) (by decide) (t := .long) (t' := .long) (by decide) (by decide)))
  have F37 : Fld Z h31 a1 "com/example/compensa/compensa/banco/LeiauteDeRetorno$Ocorrencia" "pago" "J" (.long q3) := Fw21.other W31 (Or.inr (slot_ne (Or.inl (hw _ (List.mem_of_getElem? (i := 41) rfl))) (Or.inl (hw _ (List.mem_of_getElem? (i := 43) rfl))) (by decide) (t := .long) (t' := .long) (by decide) (by decide)))
  have Z38 : n0 ≤ h31.size := Nat.le_trans Z28 (Keep.of_wr W31).1
  have K39 : Keep h0 h31 [a1] := K29.wr W31 (Or.inl (List.mem_of_getElem? (i := 0) rfl))
  have N40 := Fr.snoc X31 N30 Hg1
  obtain ⟨fs, hr, hrun, hended, hW, hsame⟩ := X31.leave (v := none) (fun _ => rfl)
  refine ⟨_, _, pre0 _ ?_, hrun, hended, _, _, rfl, ?_, ⟨_, rfl⟩, hW, hsame.mono (by decide) (by decide)⟩
  · show Steps p.tables e below (s₁.setTop (mkF m 0 #[.val (.ref a1), .val (.long q1), .second, .val (.long q2), .second, .val (.long q3), .second, .val (.long q4), .second] [])) _
    refine XS.aloadN X0.here hx rfl (hb hby d4_0) rfl rfl ?_
    show Steps p.tables e below (s₁.setTop (mkF m 1 #[.val (.ref a1), .val (.long q1), .second, .val (.long q2), .second, .val (.long q3), .second, .val (.long q4), .second] [(.ref a1)])) _
    refine XS.lloadN X0.here hx rfl (hb hby d4_1) rfl ?_
    show Steps p.tables e below (s₁.setTop (mkF m 2 #[.val (.ref a1), .val (.long q1), .second, .val (.long q2), .second, .val (.long q3), .second, .val (.long q4), .second] [(.long q1), (.ref a1)])) _
    refine st1 _ ?_
    show Steps p.tables e below (T1.setTop (mkF m 5 #[.val (.ref a1), .val (.long q1), .second, .val (.long q2), .second, .val (.long q3), .second, .val (.long q4), .second] [])) _
    refine XS.aloadN X1.here hx rfl (hb hby d4_5) rfl rfl ?_
    show Steps p.tables e below (T1.setTop (mkF m 6 #[.val (.ref a1), .val (.long q1), .second, .val (.long q2), .second, .val (.long q3), .second, .val (.long q4), .second] [(.ref a1)])) _
    refine XS.lloadN X1.here hx rfl (hb hby d4_6) rfl ?_
    show Steps p.tables e below (T1.setTop (mkF m 7 #[.val (.ref a1), .val (.long q1), .second, .val (.long q2), .second, .val (.long q3), .second, .val (.long q4), .second] [(.long q2), (.ref a1)])) _
    refine st11 _ ?_
    show Steps p.tables e below (T11.setTop (mkF m 10 #[.val (.ref a1), .val (.long q1), .second, .val (.long q2), .second, .val (.long q3), .second, .val (.long q4), .second] [])) _
    refine XS.aloadN X11.here hx rfl (hb hby d4_10) rfl rfl ?_
    show Steps p.tables e below (T11.setTop (mkF m 11 #[.val (.ref a1), .val (.long q1), .second, .val (.long q2), .second, .val (.long q3), .second, .val (.long q4), .second] [(.ref a1)])) _
    refine XS.lload X11.here hx rfl (hb hby d4_11) rfl ?_
    show Steps p.tables e below (T11.setTop (mkF m 13 #[.val (.ref a1), .val (.long q1), .second, .val (.long q2), .second, .val (.long q3), .second, .val (.long q4), .second] [(.long q3), (.ref a1)])) _
    refine st21 _ ?_
    show Steps p.tables e below (T21.setTop (mkF m 16 #[.val (.ref a1), .val (.long q1), .second, .val (.long q2), .second, .val (.long q3), .second, .val (.long q4), .second] [])) _
    refine XS.aloadN X21.here hx rfl (hb hby d4_16) rfl rfl ?_
    show Steps p.tables e below (T21.setTop (mkF m 17 #[.val (.ref a1), .val (.long q1), .second, .val (.long q2), .second, .val (.long q3), .second, .val (.long q4), .second] [(.ref a1)])) _
    refine XS.lload X21.here hx rfl (hb hby d4_17) rfl ?_
    show Steps p.tables e below (T21.setTop (mkF m 19 #[.val (.ref a1), .val (.long q1), .second, .val (.long q2), .second, .val (.long q3), .second, .val (.long q4), .second] [(.long q4), (.ref a1)])) _
    refine st31 _ ?_
    show Steps p.tables e below (T31.setTop (mkF m 22 #[.val (.ref a1), .val (.long q1), .second, .val (.long q2), .second, .val (.long q3), .second, .val (.long q4), .second] [])) _
    exact X31.returnOut hx Bd.returns (hb hby d4_22) hr
  · show Q4 Z a1 q1 q2 q3 q4 u1 u2 u3 u4 h0 n0 _ T31.heap _
    rw [e31]
    exact ⟨rfl, N40, K39, F32, F35, F36, F37, Fw31, F33, F34⟩
theorem d5_0 : decode prog_37_method_9_code 0 = .ok (.aload_n 0, 1) := by decide +kernel
theorem d5_1 : decode prog_37_method_9_code 1 = .ok (.getfield 47, 3) := by decide +kernel
theorem d5_4 : decode prog_37_method_9_code 4 = .ok (.lreturn, 1) := by decide +kernel
theorem ef_5 (m : MethodId) (a1 : Addr) : entryFrame m #[(.ref a1)] 1 = mkF m 0 #[.val (.ref a1)] [] := by first | (simp [entryFrame, mkF, argsToLocals, Value.category]; done) | rfl
def Q5 (Z : State) (a1 : Addr) (q1 : Int64) (h0 : Heap) (n0 : Nat) (v : Option Value) (h : Heap) (L : List Loc) : Prop := v = some (.long q1) ∧ Fr n0 L ∧ h = h0
set_option maxRecDepth 65536 in
set_option maxHeartbeats 40000000 in
theorem rm5 (l : Launch) (Z : State) (a0 : Array Value) (hw : ∀ d ∈ tables_1, d.before a0 Z = true) (ws : List Jvm.Cond) (a1 : Addr) (q1 : Int64) (h0 : Heap) (n0 : Nat) (Z0 : n0 ≤ h0.size) (HF0 : Fld Z h0 a1 "com/example/compensa/compensa/banco/LeiauteDeRetorno$Ocorrencia" "valor" "J" (.long q1)) :
    MetFree l (⟨"com/example/compensa/compensa/banco/LeiauteDeRetorno$Ocorrencia", "valor", "()J"⟩ : MethodName) (head1 (Jvm.Cond.code (⟨"com/example/compensa/compensa/banco/LeiauteDeRetorno$Ocorrencia", "valor", "()J"⟩ : MethodName) prog_37_method_9_code 1 (some .long) :: ws) ({ frames := 0, cells := 0, slots := 0, locals := 0 } : Room)) (fun a U => a = #[(.ref a1)] ∧ Z.Warmed39 U.vm ∧ U.heap = h0) (fun _ _ _ _ _ => True) (fun _ U o U' => ∃ v L, o = .returned v ∧ Q5 Z a1 q1 h0 n0 v U'.heap L ∧ FrameEnd U o U' L ({ frames := 0, cells := 0, slots := 0, locals := 0 } : Room).cells ({ frames := 0, cells := 0, slots := 0, locals := 0 } : Room).slots) := by
  refine MetFree.of_bodySF (plainFor_of_name pn_1) hisR ?_
  intro p e s m args below meth c s₁ Bd hml0 hP hK
  obtain ⟨rfl, hZ, hh⟩ := hP
  have hx := Bd.exec
  have hby := Bd.bytes
  have hml : c.maxLocals = 1 := hml0
  have hown : s.vm.findClass "com/example/compensa/compensa/banco/LeiauteDeRetorno$Ocorrencia" = some m.cls := findClass_of_methodNamed Bd.named
  have hnm := (name_of_methodNamed Bd.named Bd.method).1
  have X0 : Stand p l e ({ frames := 0, cells := 0, slots := 0, locals := 0 } : Room) s m #[(.ref a1)] below meth c s₁ [] 0 0 := Stand.of_body Bd
  have e0 : s₁.heap = h0 := by rw [← hh, Bd.state]; rfl
  have N0 := Fr.nil n0
  have pre0 : ∀ t, Steps p.tables e below (s₁.setTop (mkF m 0 #[.val (.ref a1)] [])) t → Steps p.tables e below (s₁.setTop (entryFrame m #[(.ref a1)] 1)) t := fun t k => castTop (ef_5 m a1) k
  obtain ⟨T1, X1, e1, st1⟩ := getF X0 hx hZ hown (host := "") (Or.inl (hw _ (List.mem_of_getElem? (i := 36) rfl))) Via.refl e0 HF0 (g := (mkF m 1 #[.val (.ref a1)] [(.ref a1)])) rfl rfl (hb hby d5_1)
  obtain ⟨fs, hr, hrun, hended, hW, hsame⟩ := X1.leave (v := some (.long q1)) (fun h => by rw [Bd.returns] at h; cases h)
  refine ⟨_, _, pre0 _ ?_, hrun, hended, _, _, rfl, ?_, ⟨_, rfl⟩, hW, hsame.mono (by decide) (by decide)⟩
  · show Steps p.tables e below (s₁.setTop (mkF m 0 #[.val (.ref a1)] [])) _
    refine XS.aloadN X0.here hx rfl (hb hby d5_0) rfl rfl ?_
    show Steps p.tables e below (s₁.setTop (mkF m 1 #[.val (.ref a1)] [(.ref a1)])) _
    refine st1 _ ?_
    show Steps p.tables e below (T1.setTop (mkF m 4 #[.val (.ref a1)] [(.long q1)])) _
    jvm_step X1.here [X1.here.top, hx, (hb hby d5_4), X1.method', Bd.returns, narrow]
    first | (intro acts; rw [hr _ acts rfl rfl rfl]) | rw [hr _ _ rfl rfl rfl]
    exact Steps.refl _
  · show Q5 Z a1 q1 h0 n0 _ T1.heap _
    rw [e1]
    exact ⟨rfl, N0, rfl⟩
theorem d6_0 : decode prog_37_method_10_code 0 = .ok (.aload_n 0, 1) := by decide +kernel
theorem d6_1 : decode prog_37_method_10_code 1 = .ok (.getfield 51, 3) := by decide +kernel
theorem d6_4 : decode prog_37_method_10_code 4 = .ok (.lreturn, 1) := by decide +kernel
theorem ef_6 (m : MethodId) (a1 : Addr) : entryFrame m #[(.ref a1)] 1 = mkF m 0 #[.val (.ref a1)] [] := by first | (simp [entryFrame, mkF, argsToLocals, Value.category]; done) | rfl
def Q6 (Z : State) (a1 : Addr) (q1 : Int64) (h0 : Heap) (n0 : Nat) (v : Option Value) (h : Heap) (L : List Loc) : Prop := v = some (.long q1) ∧ Fr n0 L ∧ h = h0
set_option maxRecDepth 65536 in
set_option maxHeartbeats 40000000 in
theorem rm6 (l : Launch) (Z : State) (a0 : Array Value) (hw : ∀ d ∈ tables_1, d.before a0 Z = true) (ws : List Jvm.Cond) (a1 : Addr) (q1 : Int64) (h0 : Heap) (n0 : Nat) (Z0 : n0 ≤ h0.size) (HF0 : Fld Z h0 a1 "com/example/compensa/compensa/banco/LeiauteDeRetorno$Ocorrencia" "tarifa" "J" (.long q1)) :
    MetFree l (⟨"com/example/compensa/compensa/banco/LeiauteDeRetorno$Ocorrencia", "tarifa", "()J"⟩ : MethodName) (head1 (Jvm.Cond.code (⟨"com/example/compensa/compensa/banco/LeiauteDeRetorno$Ocorrencia", "tarifa", "()J"⟩ : MethodName) prog_37_method_10_code 1 (some .long) :: ws) ({ frames := 0, cells := 0, slots := 0, locals := 0 } : Room)) (fun a U => a = #[(.ref a1)] ∧ Z.Warmed39 U.vm ∧ U.heap = h0) (fun _ _ _ _ _ => True) (fun _ U o U' => ∃ v L, o = .returned v ∧ Q6 Z a1 q1 h0 n0 v U'.heap L ∧ FrameEnd U o U' L ({ frames := 0, cells := 0, slots := 0, locals := 0 } : Room).cells ({ frames := 0, cells := 0, slots := 0, locals := 0 } : Room).slots) := by
  refine MetFree.of_bodySF (plainFor_of_name pn_1) hisR ?_
  intro p e s m args below meth c s₁ Bd hml0 hP hK
  obtain ⟨rfl, hZ, hh⟩ := hP
  have hx := Bd.exec
  have hby := Bd.bytes
  have hml : c.maxLocals = 1 := hml0
  have hown : s.vm.findClass "com/example/compensa/compensa/banco/LeiauteDeRetorno$Ocorrencia" = some m.cls := findClass_of_methodNamed Bd.named
  have hnm := (name_of_methodNamed Bd.named Bd.method).1
  have X0 : Stand p l e ({ frames := 0, cells := 0, slots := 0, locals := 0 } : Room) s m #[(.ref a1)] below meth c s₁ [] 0 0 := Stand.of_body Bd
  have e0 : s₁.heap = h0 := by rw [← hh, Bd.state]; rfl
  have N0 := Fr.nil n0
  have pre0 : ∀ t, Steps p.tables e below (s₁.setTop (mkF m 0 #[.val (.ref a1)] [])) t → Steps p.tables e below (s₁.setTop (entryFrame m #[(.ref a1)] 1)) t := fun t k => castTop (ef_6 m a1) k
  obtain ⟨T1, X1, e1, st1⟩ := getF X0 hx hZ hown (host := "") (Or.inl (hw _ (List.mem_of_getElem? (i := 38) rfl))) Via.refl e0 HF0 (g := (mkF m 1 #[.val (.ref a1)] [(.ref a1)])) rfl rfl (hb hby d6_1)
  obtain ⟨fs, hr, hrun, hended, hW, hsame⟩ := X1.leave (v := some (.long q1)) (fun h => by rw [Bd.returns] at h; cases h)
  refine ⟨_, _, pre0 _ ?_, hrun, hended, _, _, rfl, ?_, ⟨_, rfl⟩, hW, hsame.mono (by decide) (by decide)⟩
  · show Steps p.tables e below (s₁.setTop (mkF m 0 #[.val (.ref a1)] [])) _
    refine XS.aloadN X0.here hx rfl (hb hby d6_0) rfl rfl ?_
    show Steps p.tables e below (s₁.setTop (mkF m 1 #[.val (.ref a1)] [(.ref a1)])) _
    refine st1 _ ?_
    show Steps p.tables e below (T1.setTop (mkF m 4 #[.val (.ref a1)] [(.long q1)])) _
    jvm_step X1.here [X1.here.top, hx, (hb hby d6_4), X1.method', Bd.returns, narrow]
    first | (intro acts; rw [hr _ acts rfl rfl rfl]) | rw [hr _ _ rfl rfl rfl]
    exact Steps.refl _
  · show Q6 Z a1 q1 h0 n0 _ T1.heap _
    rw [e1]
    exact ⟨rfl, N0, rfl⟩
theorem d7_0 : decode prog_37_method_11_code 0 = .ok (.aload_n 0, 1) := by decide +kernel
theorem d7_1 : decode prog_37_method_11_code 1 = .ok (.getfield 54, 3) := by decide +kernel
theorem d7_4 : decode prog_37_method_11_code 4 = .ok (.lreturn, 1) := by decide +kernel
theorem ef_7 (m : MethodId) (a1 : Addr) : entryFrame m #[(.ref a1)] 1 = mkF m 0 #[.val (.ref a1)] [] := by first | (simp [entryFrame, mkF, argsToLocals, Value.category]; done) | rfl
def Q7 (Z : State) (a1 : Addr) (q1 : Int64) (h0 : Heap) (n0 : Nat) (v : Option Value) (h : Heap) (L : List Loc) : Prop := v = some (.long q1) ∧ Fr n0 L ∧ h = h0
set_option maxRecDepth 65536 in
set_option maxHeartbeats 40000000 in
theorem rm7 (l : Launch) (Z : State) (a0 : Array Value) (hw : ∀ d ∈ tables_1, d.before a0 Z = true) (ws : List Jvm.Cond) (a1 : Addr) (q1 : Int64) (h0 : Heap) (n0 : Nat) (Z0 : n0 ≤ h0.size) (HF0 : Fld Z h0 a1 "com/example/compensa/compensa/banco/LeiauteDeRetorno$Ocorrencia" "pago" "J" (.long q1)) :
    MetFree l (⟨"com/example/compensa/compensa/banco/LeiauteDeRetorno$Ocorrencia", "pago", "()J"⟩ : MethodName) (head1 (Jvm.Cond.code (⟨"com/example/compensa/compensa/banco/LeiauteDeRetorno$Ocorrencia", "pago", "()J"⟩ : MethodName) prog_37_method_11_code 1 (some .long) :: ws) ({ frames := 0, cells := 0, slots := 0, locals := 0 } : Room)) (fun a U => a = #[(.ref a1)] ∧ Z.Warmed39 U.vm ∧ U.heap = h0) (fun _ _ _ _ _ => True) (fun _ U o U' => ∃ v L, o = .returned v ∧ Q7 Z a1 q1 h0 n0 v U'.heap L ∧ FrameEnd U o U' L ({ frames := 0, cells := 0, slots := 0, locals := 0 } : Room).cells ({ frames := 0, cells := 0, slots := 0, locals := 0 } : Room).slots) := by
  refine MetFree.of_bodySF (plainFor_of_name pn_1) hisR ?_
  intro p e s m args below meth c s₁ Bd hml0 hP hK
  obtain ⟨rfl, hZ, hh⟩ := hP
  have hx := Bd.exec
  have hby := Bd.bytes
  have hml : c.maxLocals = 1 := hml0
  have hown : s.vm.findClass "com/example/compensa/compensa/banco/LeiauteDeRetorno$Ocorrencia" = some m.cls := findClass_of_methodNamed Bd.named
  have hnm := (name_of_methodNamed Bd.named Bd.method).1
  have X0 : Stand p l e ({ frames := 0, cells := 0, slots := 0, locals := 0 } : Room) s m #[(.ref a1)] below meth c s₁ [] 0 0 := Stand.of_body Bd
  have e0 : s₁.heap = h0 := by rw [← hh, Bd.state]; rfl
  have N0 := Fr.nil n0
  have pre0 : ∀ t, Steps p.tables e below (s₁.setTop (mkF m 0 #[.val (.ref a1)] [])) t → Steps p.tables e below (s₁.setTop (entryFrame m #[(.ref a1)] 1)) t := fun t k => castTop (ef_7 m a1) k
  obtain ⟨T1, X1, e1, st1⟩ := getF X0 hx hZ hown (host := "") (Or.inl (hw _ (List.mem_of_getElem? (i := 40) rfl))) Via.refl e0 HF0 (g := (mkF m 1 #[.val (.ref a1)] [(.ref a1)])) rfl rfl (hb hby d7_1)
  obtain ⟨fs, hr, hrun, hended, hW, hsame⟩ := X1.leave (v := some (.long q1)) (fun h => by rw [Bd.returns] at h; cases h)
  refine ⟨_, _, pre0 _ ?_, hrun, hended, _, _, rfl, ?_, ⟨_, rfl⟩, hW, hsame.mono (by decide) (by decide)⟩
  · show Steps p.tables e below (s₁.setTop (mkF m 0 #[.val (.ref a1)] [])) _
    refine XS.aloadN X0.here hx rfl (hb hby d7_0) rfl rfl ?_
    show Steps p.tables e below (s₁.setTop (mkF m 1 #[.val (.ref a1)] [(.ref a1)])) _
    refine st1 _ ?_
    show Steps p.tables e below (T1.setTop (mkF m 4 #[.val (.ref a1)] [(.long q1)])) _
    jvm_step X1.here [X1.here.top, hx, (hb hby d7_4), X1.method', Bd.returns, narrow]
    first | (intro acts; rw [hr _ acts rfl rfl rfl]) | rw [hr _ _ rfl rfl rfl]
    exact Steps.refl _
  · show Q7 Z a1 q1 h0 n0 _ T1.heap _
    rw [e1]
    exact ⟨rfl, N0, rfl⟩
theorem d8_0 : decode prog_37_method_12_code 0 = .ok (.aload_n 0, 1) := by decide +kernel
theorem d8_1 : decode prog_37_method_12_code 1 = .ok (.getfield 57, 3) := by decide +kernel
theorem d8_4 : decode prog_37_method_12_code 4 = .ok (.lreturn, 1) := by decide +kernel
theorem ef_8 (m : MethodId) (a1 : Addr) : entryFrame m #[(.ref a1)] 1 = mkF m 0 #[.val (.ref a1)] [] := by first | (simp [entryFrame, mkF, argsToLocals, Value.category]; done) | rfl
def Q8 (Z : State) (a1 : Addr) (q1 : Int64) (h0 : Heap) (n0 : Nat) (v : Option Value) (h : Heap) (L : List Loc) : Prop := v = some (.long q1) ∧ Fr n0 L ∧ h = h0
set_option maxRecDepth 65536 in
set_option maxHeartbeats 40000000 in
theorem rm8 (l : Launch) (Z : State) (a0 : Array Value) (hw : ∀ d ∈ tables_1, d.before a0 Z = true) (ws : List Jvm.Cond) (a1 : Addr) (q1 : Int64) (h0 : Heap) (n0 : Nat) (Z0 : n0 ≤ h0.size) (HF0 : Fld Z h0 a1 "com/example/compensa/compensa/banco/LeiauteDeRetorno$Ocorrencia" "juros" "J" (.long q1)) :
    MetFree l (⟨"com/example/compensa/compensa/banco/LeiauteDeRetorno$Ocorrencia", "juros", "()J"⟩ : MethodName) (head1 (Jvm.Cond.code (⟨"com/example/compensa/compensa/banco/LeiauteDeRetorno$Ocorrencia", "juros", "()J"⟩ : MethodName) prog_37_method_12_code 1 (some .long) :: ws) ({ frames := 0, cells := 0, slots := 0, locals := 0 } : Room)) (fun a U => a = #[(.ref a1)] ∧ Z.Warmed39 U.vm ∧ U.heap = h0) (fun _ _ _ _ _ => True) (fun _ U o U' => ∃ v L, o = .returned v ∧ Q8 Z a1 q1 h0 n0 v U'.heap L ∧ FrameEnd U o U' L ({ frames := 0, cells := 0, slots := 0, locals := 0 } : Room).cells ({ frames := 0, cells := 0, slots := 0, locals := 0 } : Room).slots) := by
  refine MetFree.of_bodySF (plainFor_of_name pn_1) hisR ?_
  intro p e s m args below meth c s₁ Bd hml0 hP hK
  obtain ⟨rfl, hZ, hh⟩ := hP
  have hx := Bd.exec
  have hby := Bd.bytes
  have hml : c.maxLocals = 1 := hml0
  have hown : s.vm.findClass "com/example/compensa/compensa/banco/LeiauteDeRetorno$Ocorrencia" = some m.cls := findClass_of_methodNamed Bd.named
  have hnm := (name_of_methodNamed Bd.named Bd.method).1
  have X0 : Stand p l e ({ frames := 0, cells := 0, slots := 0, locals := 0 } : Room) s m #[(.ref a1)] below meth c s₁ [] 0 0 := Stand.of_body Bd
  have e0 : s₁.heap = h0 := by rw [← hh, Bd.state]; rfl
  have N0 := Fr.nil n0
  have pre0 : ∀ t, Steps p.tables e below (s₁.setTop (mkF m 0 #[.val (.ref a1)] [])) t → Steps p.tables e below (s₁.setTop (entryFrame m #[(.ref a1)] 1)) t := fun t k => castTop (ef_8 m a1) k
  obtain ⟨T1, X1, e1, st1⟩ := getF X0 hx hZ hown (host := "") (Or.inl (hw _ (List.mem_of_getElem? (i := 42) rfl))) Via.refl e0 HF0 (g := (mkF m 1 #[.val (.ref a1)] [(.ref a1)])) rfl rfl (hb hby d8_1)
  obtain ⟨fs, hr, hrun, hended, hW, hsame⟩ := X1.leave (v := some (.long q1)) (fun h => by rw [Bd.returns] at h; cases h)
  refine ⟨_, _, pre0 _ ?_, hrun, hended, _, _, rfl, ?_, ⟨_, rfl⟩, hW, hsame.mono (by decide) (by decide)⟩
  · show Steps p.tables e below (s₁.setTop (mkF m 0 #[.val (.ref a1)] [])) _
    refine XS.aloadN X0.here hx rfl (hb hby d8_0) rfl rfl ?_
    show Steps p.tables e below (s₁.setTop (mkF m 1 #[.val (.ref a1)] [(.ref a1)])) _
    refine st1 _ ?_
    show Steps p.tables e below (T1.setTop (mkF m 4 #[.val (.ref a1)] [(.long q1)])) _
    jvm_step X1.here [X1.here.top, hx, (hb hby d8_4), X1.method', Bd.returns, narrow]
    first | (intro acts; rw [hr _ acts rfl rfl rfl]) | rw [hr _ _ rfl rfl rfl]
    exact Steps.refl _
  · show Q8 Z a1 q1 h0 n0 _ T1.heap _
    rw [e1]
    exact ⟨rfl, N0, rfl⟩
theorem d9_0 : decode prog_37_method_3_code 0 = .ok (.aload_n 0, 1) := by decide +kernel
theorem d9_1 : decode prog_37_method_3_code 1 = .ok (.getfield 33, 3) := by decide +kernel
theorem d9_4 : decode prog_37_method_3_code 4 = .ok (.ireturn, 1) := by decide +kernel
theorem ef_9 (m : MethodId) (a1 : Addr) : entryFrame m #[(.ref a1)] 1 = mkF m 0 #[.val (.ref a1)] [] := by first | (simp [entryFrame, mkF, argsToLocals, Value.category]; done) | rfl
def Q9 (Z : State) (a1 : Addr) (h0 : Heap) (n0 : Nat) (v : Option Value) (h : Heap) (L : List Loc) : Prop := v = some (.int (0 : Int32)) ∧ Fr n0 L ∧ h = h0
set_option maxRecDepth 65536 in
set_option maxHeartbeats 40000000 in
theorem rm9 (l : Launch) (Z : State) (a0 : Array Value) (hw : ∀ d ∈ tables_1, d.before a0 Z = true) (ws : List Jvm.Cond) (a1 : Addr) (h0 : Heap) (n0 : Nat) (Z0 : n0 ≤ h0.size) (HF0 : Fld Z h0 a1 "com/example/compensa/compensa/banco/LeiauteDeRetorno$Ocorrencia" "codigo" "I" (.int (0 : Int32))) :
    MetFree l (⟨"com/example/compensa/compensa/banco/LeiauteDeRetorno$Ocorrencia", "codigo", "()I"⟩ : MethodName) (head1 (Jvm.Cond.code (⟨"com/example/compensa/compensa/banco/LeiauteDeRetorno$Ocorrencia", "codigo", "()I"⟩ : MethodName) prog_37_method_3_code 1 (some .int) :: ws) ({ frames := 0, cells := 0, slots := 0, locals := 0 } : Room)) (fun a U => a = #[(.ref a1)] ∧ Z.Warmed39 U.vm ∧ U.heap = h0) (fun _ _ _ _ _ => True) (fun _ U o U' => ∃ v L, o = .returned v ∧ Q9 Z a1 h0 n0 v U'.heap L ∧ FrameEnd U o U' L ({ frames := 0, cells := 0, slots := 0, locals := 0 } : Room).cells ({ frames := 0, cells := 0, slots := 0, locals := 0 } : Room).slots) := by
  refine MetFree.of_bodySF (plainFor_of_name pn_1) hisR ?_
  intro p e s m args below meth c s₁ Bd hml0 hP hK
  obtain ⟨rfl, hZ, hh⟩ := hP
  have hx := Bd.exec
  have hby := Bd.bytes
  have hml : c.maxLocals = 1 := hml0
  have hown : s.vm.findClass "com/example/compensa/compensa/banco/LeiauteDeRetorno$Ocorrencia" = some m.cls := findClass_of_methodNamed Bd.named
  have hnm := (name_of_methodNamed Bd.named Bd.method).1
  have X0 : Stand p l e ({ frames := 0, cells := 0, slots := 0, locals := 0 } : Room) s m #[(.ref a1)] below meth c s₁ [] 0 0 := Stand.of_body Bd
  have e0 : s₁.heap = h0 := by rw [← hh, Bd.state]; rfl
  have N0 := Fr.nil n0
  have pre0 : ∀ t, Steps p.tables e below (s₁.setTop (mkF m 0 #[.val (.ref a1)] [])) t → Steps p.tables e below (s₁.setTop (entryFrame m #[(.ref a1)] 1)) t := fun t k => castTop (ef_9 m a1) k
  obtain ⟨T1, X1, e1, st1⟩ := getF X0 hx hZ hown (host := "") (Or.inl (hw _ (List.mem_of_getElem? (i := 69) rfl))) Via.refl e0 HF0 (g := (mkF m 1 #[.val (.ref a1)] [(.ref a1)])) rfl rfl (hb hby d9_1)
  obtain ⟨fs, hr, hrun, hended, hW, hsame⟩ := X1.leave (v := some (.int (0 : Int32))) (fun h => by rw [Bd.returns] at h; cases h)
  refine ⟨_, _, pre0 _ ?_, hrun, hended, _, _, rfl, ?_, ⟨_, rfl⟩, hW, hsame.mono (by decide) (by decide)⟩
  · show Steps p.tables e below (s₁.setTop (mkF m 0 #[.val (.ref a1)] [])) _
    refine XS.aloadN X0.here hx rfl (hb hby d9_0) rfl rfl ?_
    show Steps p.tables e below (s₁.setTop (mkF m 1 #[.val (.ref a1)] [(.ref a1)])) _
    refine st1 _ ?_
    show Steps p.tables e below (T1.setTop (mkF m 4 #[.val (.ref a1)] [(.int (0 : Int32))])) _
    exact retI X1 hx Bd.returns (hb hby d9_4) hr
  · show Q9 Z a1 h0 n0 _ T1.heap _
    rw [e1]
    exact ⟨rfl, N0, rfl⟩
theorem d10_0 : decode prog_37_method_5_code 0 = .ok (.aload_n 0, 1) := by decide +kernel
theorem d10_1 : decode prog_37_method_5_code 1 = .ok (.getfield 43, 3) := by decide +kernel
theorem d10_4 : decode prog_37_method_5_code 4 = .ok (.areturn, 1) := by decide +kernel
theorem ef_10 (m : MethodId) (a1 : Addr) : entryFrame m #[(.ref a1)] 1 = mkF m 0 #[.val (.ref a1)] [] := by first | (simp [entryFrame, mkF, argsToLocals, Value.category]; done) | rfl
def Q10 (Z : State) (a1 : Addr) (h0 : Heap) (n0 : Nat) (v : Option Value) (h : Heap) (L : List Loc) : Prop := v = some .null ∧ Fr n0 L ∧ h = h0
set_option maxRecDepth 65536 in
set_option maxHeartbeats 40000000 in
theorem rm10 (l : Launch) (Z : State) (a0 : Array Value) (hw : ∀ d ∈ tables_1, d.before a0 Z = true) (ws : List Jvm.Cond) (a1 : Addr) (h0 : Heap) (n0 : Nat) (Z0 : n0 ≤ h0.size) (HF0 : Fld Z h0 a1 "com/example/compensa/compensa/banco/LeiauteDeRetorno$Ocorrencia" "nome" "Ljava/lang/String;" .null) :
    MetFree l (⟨"com/example/compensa/compensa/banco/LeiauteDeRetorno$Ocorrencia", "nome", "()Ljava/lang/String;"⟩ : MethodName) (head1 (Jvm.Cond.code (⟨"com/example/compensa/compensa/banco/LeiauteDeRetorno$Ocorrencia", "nome", "()Ljava/lang/String;"⟩ : MethodName) prog_37_method_5_code 1 (some (.object "java/lang/String")) :: ws) ({ frames := 0, cells := 0, slots := 0, locals := 0 } : Room)) (fun a U => a = #[(.ref a1)] ∧ Z.Warmed39 U.vm ∧ U.heap = h0) (fun _ _ _ _ _ => True) (fun _ U o U' => ∃ v L, o = .returned v ∧ Q10 Z a1 h0 n0 v U'.heap L ∧ FrameEnd U o U' L ({ frames := 0, cells := 0, slots := 0, locals := 0 } : Room).cells ({ frames := 0, cells := 0, slots := 0, locals := 0 } : Room).slots) := by
  refine MetFree.of_bodySF (plainFor_of_name pn_1) hisR ?_
  intro p e s m args below meth c s₁ Bd hml0 hP hK
  obtain ⟨rfl, hZ, hh⟩ := hP
  have hx := Bd.exec
  have hby := Bd.bytes
  have hml : c.maxLocals = 1 := hml0
  have hown : s.vm.findClass "com/example/compensa/compensa/banco/LeiauteDeRetorno$Ocorrencia" = some m.cls := findClass_of_methodNamed Bd.named
  have hnm := (name_of_methodNamed Bd.named Bd.method).1
  have X0 : Stand p l e ({ frames := 0, cells := 0, slots := 0, locals := 0 } : Room) s m #[(.ref a1)] below meth c s₁ [] 0 0 := Stand.of_body Bd
  have e0 : s₁.heap = h0 := by rw [← hh, Bd.state]; rfl
  have N0 := Fr.nil n0
  have pre0 : ∀ t, Steps p.tables e below (s₁.setTop (mkF m 0 #[.val (.ref a1)] [])) t → Steps p.tables e below (s₁.setTop (entryFrame m #[(.ref a1)] 1)) t := fun t k => castTop (ef_10 m a1) k
  obtain ⟨T1, X1, e1, st1⟩ := getF X0 hx hZ hown (host := "") (Or.inl (hw _ (List.mem_of_getElem? (i := 76) rfl))) Via.refl e0 HF0 (g := (mkF m 1 #[.val (.ref a1)] [(.ref a1)])) rfl rfl (hb hby d10_1)
  obtain ⟨fs, hr, hrun, hended, hW, hsame⟩ := X1.leave (v := some .null) (fun h => by rw [Bd.returns] at h; cases h)
  refine ⟨_, _, pre0 _ ?_, hrun, hended, _, _, rfl, ?_, ⟨_, rfl⟩, hW, hsame.mono (by decide) (by decide)⟩
  · show Steps p.tables e below (s₁.setTop (mkF m 0 #[.val (.ref a1)] [])) _
    refine XS.aloadN X0.here hx rfl (hb hby d10_0) rfl rfl ?_
    show Steps p.tables e below (s₁.setTop (mkF m 1 #[.val (.ref a1)] [(.ref a1)])) _
    refine st1 _ ?_
    show Steps p.tables e below (T1.setTop (mkF m 4 #[.val (.ref a1)] [.null])) _
    jvm_step X1.here [X1.here.top, hx, (hb hby d10_4), X1.method', Bd.returns, Value.isRef, FieldType.isReference]
    first | (intro acts; rw [hr _ acts rfl rfl rfl]) | rw [hr _ _ rfl rfl rfl]
    exact Steps.refl _
  · show Q10 Z a1 h0 n0 _ T1.heap _
    rw [e1]
    exact ⟨rfl, N0, rfl⟩
theorem pn_2 : plainName "com/example/compensa/compensa/banco/OcorrenciaValoresPinLaw" = true := by first | (simp [plainName, overriddenIn]; done) | decide +kernel
theorem pd_1 : parseMethodDescriptor "()V" = some ⟨[], none⟩ := by decide +kernel
theorem pd_2 : parseMethodDescriptor "(JJJJ)V" = some ⟨[.long, .long, .long, .long], none⟩ := by decide +kernel
theorem pd_3 : parseMethodDescriptor "()J" = some ⟨[], some .long⟩ := by decide +kernel
theorem pd_4 : parseMethodDescriptor "()I" = some ⟨[], some .int⟩ := by decide +kernel
theorem pd_5 : parseMethodDescriptor "()Ljava/lang/String;" = some ⟨[], some (.object "java/lang/String")⟩ := by decide +kernel
theorem ef_0 (m : MethodId) (q1 : Int64) (q2 : Int64) (q3 : Int64) (q4 : Int64) : entryFrame m #[(.long q1), (.long q2), (.long q3), (.long q4)] maxLocals = mkF m 0 #[.val (.long q1), .second, .val (.long q2), .second, .val (.long q3), .second, .val (.long q4), .second, .unset, .unset, .unset, .unset] [] := by first | (simp [entryFrame, mkF, argsToLocals, Value.category, maxLocals]; done) | rfl
def Q0 (Z : State) (q1 : Int64) (q2 : Int64) (q3 : Int64) (q4 : Int64) (h0 : Heap) (n0 : Nat) (v : Option Value) (h : Heap) (L : List Loc) : Prop := v = some (.int (1 : Int32)) ∧ Fr n0 L
set_option maxRecDepth 65536 in
set_option maxHeartbeats 40000000 in
theorem rm0 (l : Launch) (Z : State) (a0 : Array Value) (hw : ∀ d ∈ tables_1, d.before a0 Z = true) (ws : List Jvm.Cond) (q1 : Int64) (q2 : Int64) (q3 : Int64) (q4 : Int64) (h0 : Heap) (n0 : Nat) (Z0 : n0 ≤ h0.size)  :
    MetFree l x (head1 (Jvm.Cond.code x code maxLocals ret :: ws) room_1) (fun a U => a = #[(.long q1), (.long q2), (.long q3), (.long q4)] ∧ Z.Warmed39 U.vm ∧ U.heap = h0) (fun _ _ _ _ _ => True) (fun _ U o U' => ∃ v L, o = .returned v ∧ Q0 Z q1 q2 q3 q4 h0 n0 v U'.heap L ∧ FrameEnd U o U' L room_1.cells room_1.slots) := by
  refine MetFree.of_bodySF (plainFor_of_name pn_2) hisR ?_
  intro p e s m args below meth c s₁ Bd hml0 hP hK
  obtain ⟨rfl, hZ, hh⟩ := hP
  have hx := Bd.exec
  have hby := Bd.bytes
  have hml : c.maxLocals = 12 := hml0
  have hown : s.vm.findClass "com/example/compensa/compensa/banco/OcorrenciaValoresPinLaw" = some m.cls := findClass_of_methodNamed Bd.named
  have hnm := (name_of_methodNamed Bd.named Bd.method).1
  have X0 : Stand p l e room_1 s m #[(.long q1), (.long q2), (.long q3), (.long q4)] below meth c s₁ [] 0 0 := Stand.of_body Bd
  have e0 : s₁.heap = h0 := by rw [← hh, Bd.state]; rfl
  have N0 := Fr.nil n0
  have pre0 : ∀ t, Steps p.tables e below (s₁.setTop (mkF m 0 #[.val (.long q1), .second, .val (.long q2), .second, .val (.long q3), .second, .val (.long q4), .second, .unset, .unset, .unset, .unset] [])) t → Steps p.tables e below (s₁.setTop (entryFrame m #[(.long q1), (.long q2), (.long q3), (.long q4)] maxLocals)) t := fun t k => castTop (ef_0 m q1 q2 q3 q4) k
  obtain ⟨T1, h1, X1, e1, E1, A1, D1, -, st1⟩ := newO X0 hx hZ hown (hw _ (List.mem_of_getElem? (i := 0) rfl)) (hw _ (List.mem_of_getElem? (i := 1) rfl)) (hw _ (List.mem_of_getElem? (i := 2) rfl)) e0 (g := (mkF m 0 #[.val (.long q1), .second, .val (.long q2), .second, .val (.long q3), .second, .val (.long q4), .second, .unset, .unset, .unset, .unset] [])) rfl (hb hby at_0) (by decide) (by decide)
  obtain ⟨b1, g1⟩ : ∃ z, z = h0.size := ⟨_, rfl⟩
  rw [← g1] at A1 D1 st1
  have g_b1 : n0 ≤ b1 := Nat.le_trans Z0 (Nat.le_of_eq g1.symm)
  have Z2 : n0 ≤ h1.size := Nat.le_trans Z0 E1.1
  have F3 : Fld Z h1 b1 "com/example/compensa/compensa/banco/LeiauteDeRetorno$Ocorrencia" "nossoNumero" "Lcom/example/compensa/compensa/comum/Texto;" .null := D1 (Or.inr (hw _ (List.mem_of_getElem? (i := 20) rfl))) (ty := (.object "com/example/compensa/compensa/comum/Texto")) (by decide)
  have F4 : Fld Z h1 b1 "com/example/compensa/compensa/banco/LeiauteDeRetorno$Ocorrencia" "data" "Lcom/example/compensa/compensa/comum/Texto;" .null := D1 (Or.inr (hw _ (List.mem_of_getElem? (i := 22) rfl))) (ty := (.object "com/example/compensa/compensa/comum/Texto")) (by decide)
  have F5 : Fld Z h1 b1 "com/example/compensa/compensa/banco/LeiauteDeRetorno$Ocorrencia" "documento" "Lcom/example/compensa/compensa/comum/Texto;" .null := D1 (Or.inr (hw _ (List.mem_of_getElem? (i := 24) rfl))) (ty := (.object "com/example/compensa/compensa/comum/Texto")) (by decide)
  have F6 : Fld Z h1 b1 "com/example/compensa/compensa/banco/LeiauteDeRetorno$Ocorrencia" "vencimento" "Lcom/example/compensa/compensa/comum/Texto;" .null := D1 (Or.inr (hw _ (List.mem_of_getElem? (i := 26) rfl))) (ty := (.object "com/example/compensa/compensa/comum/Texto")) (by decide)
  have F7 : Fld Z h1 b1 "com/example/compensa/compensa/banco/LeiauteDeRetorno$Ocorrencia" "credito" "Lcom/example/compensa/compensa/comum/Texto;" .null := D1 (Or.inr (hw _ (List.mem_of_getElem? (i := 28) rfl))) (ty := (.object "com/example/compensa/compensa/comum/Texto")) (by decide)
  have F8 : Fld Z h1 b1 "com/example/compensa/compensa/banco/LeiauteDeRetorno$Ocorrencia" "motivos" "Lcom/example/compensa/compensa/comum/Texto;" .null := D1 (Or.inr (hw _ (List.mem_of_getElem? (i := 30) rfl))) (ty := (.object "com/example/compensa/compensa/comum/Texto")) (by decide)
  have F9 : Fld Z h1 b1 "com/example/compensa/compensa/banco/LeiauteDeRetorno$Ocorrencia" "valor" "J" (.long (0 : Int64)) := D1 (Or.inl (hw _ (List.mem_of_getElem? (i := 37) rfl))) (ty := .long) (by decide)
  have F10 : Fld Z h1 b1 "com/example/compensa/compensa/banco/LeiauteDeRetorno$Ocorrencia" "tarifa" "J" (.long (0 : Int64)) := D1 (Or.inl (hw _ (List.mem_of_getElem? (i := 39) rfl))) (ty := .long) (by decide)
  have F11 : Fld Z h1 b1 "com/example/compensa/compensa/banco/LeiauteDeRetorno$Ocorrencia" "pago" "J" (.long (0 : Int64)) := D1 (Or.inl (hw _ (List.mem_of_getElem? (i := 41) rfl))) (ty := .long) (by decide)
  have F12 : Fld Z h1 b1 "com/example/compensa/compensa/banco/LeiauteDeRetorno$Ocorrencia" "juros" "J" (.long (0 : Int64)) := D1 (Or.inl (hw _ (List.mem_of_getElem? (i := 43) rfl))) (ty := .long) (by decide)
  have F13 : Fld Z h1 b1 "com/example/compensa/compensa/banco/LeiauteDeRetorno$Ocorrencia" "codigo" "I" (.int (0 : Int32)) := D1 (Or.inl (hw _ (List.mem_of_getElem? (i := 70) rfl))) (ty := .int) (by decide)
  have F14 : Fld Z h1 b1 "com/example/compensa/compensa/banco/LeiauteDeRetorno$Ocorrencia" "nome" "Ljava/lang/String;" .null := D1 (Or.inl (hw _ (List.mem_of_getElem? (i := 77) rfl))) (ty := (.object "java/lang/String")) (by decide)
  obtain ⟨_, _, ⟨T15, L15, k15, n15⟩, -, X15, ⟨Lc15, hQ15, l15, y15, z15⟩, st15⟩ := X1.specialBack hx (y := (⟨"com/example/compensa/compensa/banco/LeiauteDeRetorno$Ocorrencia", "<init>", "()V"⟩ : MethodName)) rfl hown (mvT hZ (hw _ (List.mem_of_getElem? (i := 3) rfl))) (mvT hZ (hw _ (List.mem_of_getElem? (i := 4) rfl))) (mvT hZ (hw _ (List.mem_of_getElem? (i := 5) rfl))) (by decide) (backOf (W := 1) (rm1 l Z a0 hw [] b1 h1 n0 Z2 A1 g_b1 F3 F4 F5 F6 F7 F8 F9 F10 F11 F12 F13 F14) hZ (hw _ (List.mem_of_getElem? (i := 5) rfl)) (hw _ (List.mem_of_getElem? (i := 2) rfl)) (by decide) (by decide)) (g := (mkF m 4 #[.val (.long q1), .second, .val (.long q2), .second, .val (.long q3), .second, .val (.long q4), .second, .unset, .unset, .unset, .unset] [(.ref b1), (.ref b1)])) rfl (by rw [hml]; rfl) (Steps.refl _) (a := b1) (argsL := []) (rest := [(.ref b1)]) (lenOf pd_1 rfl) rfl (by show 2 * 0 + _ ≤ _; exact Nat.le_of_eq rfl) (hb hby at_4) (fun _ _ => ⟨rfl, e1, (by decide : 1 + 12 ≤ _), (by decide : 12 + 90 ≤ _)⟩)
  dsimp only [Pt.U, Pt.locs, Pt.cells, Pt.slots] at X15 l15 y15 z15 st15 hQ15
  subst l15 y15 z15
  obtain ⟨rfl, N15q, R16, R17, R18, R19, R20, R21, R22, R23⟩ := hQ15
  have N15 := Fr.app N0 N15q
  have F24 : Exa Z T15.heap b1 "com/example/compensa/compensa/banco/LeiauteDeRetorno$Ocorrencia" := A1.keep R16
  have Z25 : n0 ≤ T15.heap.size := Nat.le_trans Z2 R16.1
  obtain ⟨cq26, kq26, q26a, q26b, q26c⟩ := isOf hZ rfl R17
  obtain ⟨_, _, ⟨T26, L26, k26, n26⟩, -, X26, ⟨Lc26, hQ26, l26, y26, z26⟩, st26⟩ := X15.virtualBack hx (y := (⟨"com/example/compensa/compensa/banco/LeiauteDeRetorno$Ocorrencia", "valores", "(JJJJ)V"⟩ : MethodName)) (z := (⟨"com/example/compensa/compensa/banco/LeiauteDeRetorno$Ocorrencia", "valores", "(JJJJ)V"⟩ : MethodName)) hown (mvT hZ (hw _ (List.mem_of_getElem? (i := 31) rfl))) (mvT hZ (hw _ (List.mem_of_getElem? (i := 32) rfl))) (notFace_of_selects (args := #[]) (mvT hZ (hw _ (List.mem_of_getElem? (i := 34) rfl)))) (mvT hZ (hw _ (List.mem_of_getElem? (i := 34) rfl))) (mvT hZ (hw _ (List.mem_of_getElem? (i := 33) rfl))) (by decide) (backOf (W := 0) (rm4 l Z a0 hw [] b1 q1 q2 q3 q4 (0 : Int64) (0 : Int64) (0 : Int64) (0 : Int64) T15.heap n0 Z25 R17 g_b1 R18 R19 R20 R21 R22 R23) hZ (hw _ (List.mem_of_getElem? (i := 35) rfl)) (hw _ (List.mem_of_getElem? (i := 2) rfl)) (by decide) (by decide)) q26a q26c (g := (mkF m 17 #[.val (.long q1), .second, .val (.long q2), .second, .val (.long q3), .second, .val (.long q4), .second, .val (.ref b1), .unset, .unset, .unset] [(.long q4), (.long q3), (.long q2), (.long q1), (.ref b1)])) rfl (by rw [hml]; rfl) (Steps.refl _) (argsL := [(.long q1), (.long q2), (.long q3), (.long q4)]) (rest := []) (lenOf pd_2 rfl) rfl (by show 2 * 0 + _ ≤ _; exact Nat.le_of_eq rfl) (hb hby at_17) (fun _ _ => ⟨rfl, rfl, (by decide : 13 + 0 ≤ _), (by decide : 102 + 0 ≤ _)⟩)
  dsimp only [Pt.U, Pt.locs, Pt.cells, Pt.slots] at X26 l26 y26 z26 st26 hQ26
  subst l26 y26 z26
  obtain ⟨rfl, N26q, R27, R28, R29, R30, R31, R32, R33, R34⟩ := hQ26
  have N26 := Fr.app N15 N26q
  have F35 : Exa Z T26.heap b1 "com/example/compensa/compensa/banco/LeiauteDeRetorno$Ocorrencia" := R17.keep R27
  have Z36 : n0 ≤ T26.heap.size := Nat.le_trans Z25 R27.1
  obtain ⟨cq37, kq37, q37a, q37b, q37c⟩ := isOf hZ rfl R28
  obtain ⟨_, _, ⟨T37, L37, k37, n37⟩, -, X37, ⟨Lc37, hQ37, l37, y37, z37⟩, st37⟩ := X26.virtualBack hx (y := (⟨"com/example/compensa/compensa/banco/LeiauteDeRetorno$Ocorrencia", "valor", "()J"⟩ : MethodName)) (z := (⟨"com/example/compensa/compensa/banco/LeiauteDeRetorno$Ocorrencia", "valor", "()J"⟩ : MethodName)) hown (mvT hZ (hw _ (List.mem_of_getElem? (i := 44) rfl))) (mvT hZ (hw _ (List.mem_of_getElem? (i := 45) rfl))) (notFace_of_selects (args := #[]) (mvT hZ (hw _ (List.mem_of_getElem? (i := 47) rfl)))) (mvT hZ (hw _ (List.mem_of_getElem? (i := 47) rfl))) (mvT hZ (hw _ (List.mem_of_getElem? (i := 46) rfl))) (by decide) (backOf (W := 0) (rm5 l Z a0 hw [] b1 q1 T26.heap n0 Z36 R29) hZ (hw _ (List.mem_of_getElem? (i := 48) rfl)) (hw _ (List.mem_of_getElem? (i := 2) rfl)) (by decide) (by decide)) q37a q37c (g := (mkF m 22 #[.val (.long q1), .second, .val (.long q2), .second, .val (.long q3), .second, .val (.long q4), .second, .val (.ref b1), .unset, .unset, .unset] [(.ref b1)])) rfl (by rw [hml]; rfl) (Steps.refl _) (argsL := []) (rest := []) (lenOf pd_3 rfl) rfl (by show 2 * 0 + _ ≤ _; exact Nat.le_of_eq rfl) (hb hby at_22) (fun _ _ => ⟨rfl, rfl, (by decide : 13 + 0 ≤ _), (by decide : 102 + 0 ≤ _)⟩)
  dsimp only [Pt.U, Pt.locs, Pt.cells, Pt.slots] at X37 l37 y37 z37 st37 hQ37
  subst l37 y37 z37
  obtain ⟨rfl, N37q, R38⟩ := hQ37
  have N37 := Fr.app N26 N37q
  have hc27_39 : (lcmpW q1 q1) = (0 : Int32) := (lw_eq _ _).mpr rfl
  obtain ⟨cq40, kq40, q40a, q40b, q40c⟩ := isOf hZ R38 R28
  obtain ⟨_, _, ⟨T40, L40, k40, n40⟩, -, X40, ⟨Lc40, hQ40, l40, y40, z40⟩, st40⟩ := X37.virtualBack hx (y := (⟨"com/example/compensa/compensa/banco/LeiauteDeRetorno$Ocorrencia", "tarifa", "()J"⟩ : MethodName)) (z := (⟨"com/example/compensa/compensa/banco/LeiauteDeRetorno$Ocorrencia", "tarifa", "()J"⟩ : MethodName)) hown (mvT hZ (hw _ (List.mem_of_getElem? (i := 49) rfl))) (mvT hZ (hw _ (List.mem_of_getElem? (i := 50) rfl))) (notFace_of_selects (args := #[]) (mvT hZ (hw _ (List.mem_of_getElem? (i := 52) rfl)))) (mvT hZ (hw _ (List.mem_of_getElem? (i := 52) rfl))) (mvT hZ (hw _ (List.mem_of_getElem? (i := 51) rfl))) (by decide) (backOf (W := 0) (rm6 l Z a0 hw [] b1 q2 T26.heap n0 Z36 R30) hZ (hw _ (List.mem_of_getElem? (i := 53) rfl)) (hw _ (List.mem_of_getElem? (i := 2) rfl)) (by decide) (by decide)) q40a q40c (g := (mkF m 32 #[.val (.long q1), .second, .val (.long q2), .second, .val (.long q3), .second, .val (.long q4), .second, .val (.ref b1), .unset, .unset, .unset] [(.ref b1)])) rfl (by rw [hml]; rfl) (Steps.refl _) (argsL := []) (rest := []) (lenOf pd_3 rfl) rfl (by show 2 * 0 + _ ≤ _; exact Nat.le_of_eq rfl) (hb hby at_32) (fun _ _ => ⟨rfl, R38, (by decide : 13 + 0 ≤ _), (by decide : 102 + 0 ≤ _)⟩)
  dsimp only [Pt.U, Pt.locs, Pt.cells, Pt.slots] at X40 l40 y40 z40 st40 hQ40
  subst l40 y40 z40
  obtain ⟨rfl, N40q, R41⟩ := hQ40
  have N40 := Fr.app N37 N40q
  have hc37_42 : (lcmpW q2 q2) = (0 : Int32) := (lw_eq _ _).mpr rfl
  obtain ⟨cq43, kq43, q43a, q43b, q43c⟩ := isOf hZ R41 R28
  obtain ⟨_, _, ⟨T43, L43, k43, n43⟩, -, X43, ⟨Lc43, hQ43, l43, y43, z43⟩, st43⟩ := X40.virtualBack hx (y := (⟨"com/example/compensa/compensa/banco/LeiauteDeRetorno$Ocorrencia", "pago", "()J"⟩ : MethodName)) (z := (⟨"com/example/compensa/compensa/banco/LeiauteDeRetorno$Ocorrencia", "pago", "()J"⟩ : MethodName)) hown (mvT hZ (hw _ (List.mem_of_getElem? (i := 54) rfl))) (mvT hZ (hw _ (List.mem_of_getElem? (i := 55) rfl))) (notFace_of_selects (args := #[]) (mvT hZ (hw _ (List.mem_of_getElem? (i := 57) rfl)))) (mvT hZ (hw _ (List.mem_of_getElem? (i := 57) rfl))) (mvT hZ (hw _ (List.mem_of_getElem? (i := 56) rfl))) (by decide) (backOf (W := 0) (rm7 l Z a0 hw [] b1 q3 T26.heap n0 Z36 R31) hZ (hw _ (List.mem_of_getElem? (i := 58) rfl)) (hw _ (List.mem_of_getElem? (i := 2) rfl)) (by decide) (by decide)) q43a q43c (g := (mkF m 42 #[.val (.long q1), .second, .val (.long q2), .second, .val (.long q3), .second, .val (.long q4), .second, .val (.ref b1), .unset, .unset, .unset] [(.ref b1)])) rfl (by rw [hml]; rfl) (Steps.refl _) (argsL := []) (rest := []) (lenOf pd_3 rfl) rfl (by show 2 * 0 + _ ≤ _; exact Nat.le_of_eq rfl) (hb hby at_42) (fun _ _ => ⟨rfl, R41, (by decide : 13 + 0 ≤ _), (by decide : 102 + 0 ≤ _)⟩)
  dsimp only [Pt.U, Pt.locs, Pt.cells, Pt.slots] at X43 l43 y43 z43 st43 hQ43
  subst l43 y43 z43
  obtain ⟨rfl, N43q, R44⟩ := hQ43
  have N43 := Fr.app N40 N43q
  have hc48_45 : (lcmpW q3 q3) = (0 : Int32) := (lw_eq _ _).mpr rfl
  obtain ⟨cq46, kq46, q46a, q46b, q46c⟩ := isOf hZ R44 R28
  obtain ⟨_, _, ⟨T46, L46, k46, n46⟩, -, X46, ⟨Lc46, hQ46, l46, y46, z46⟩, st46⟩ := X43.virtualBack hx (y := (⟨"com/example/compensa/compensa/banco/LeiauteDeRetorno$Ocorrencia", "juros", "()J"⟩ : MethodName)) (z := (⟨"com/example/compensa/compensa/banco/LeiauteDeRetorno$Ocorrencia", "juros", "()J"⟩ : MethodName)) hown (mvT hZ (hw _ (List.mem_of_getElem? (i := 59) rfl))) (mvT hZ (hw _ (List.mem_of_getElem? (i := 60) rfl))) (notFace_of_selects (args := #[]) (mvT hZ (hw _ (List.mem_of_getElem? (i := 62) rfl)))) (mvT hZ (hw _ (List.mem_of_getElem? (i := 62) rfl))) (mvT hZ (hw _ (List.mem_of_getElem? (i := 61) rfl))) (by decide) (backOf (W := 0) (rm8 l Z a0 hw [] b1 q4 T26.heap n0 Z36 R32) hZ (hw _ (List.mem_of_getElem? (i := 63) rfl)) (hw _ (List.mem_of_getElem? (i := 2) rfl)) (by decide) (by decide)) q46a q46c (g := (mkF m 53 #[.val (.long q1), .second, .val (.long q2), .second, .val (.long q3), .second, .val (.long q4), .second, .val (.ref b1), .unset, .unset, .unset] [(.ref b1)])) rfl (by rw [hml]; rfl) (Steps.refl _) (argsL := []) (rest := []) (lenOf pd_3 rfl) rfl (by show 2 * 0 + _ ≤ _; exact Nat.le_of_eq rfl) (hb hby at_53) (fun _ _ => ⟨rfl, R44, (by decide : 13 + 0 ≤ _), (by decide : 102 + 0 ≤ _)⟩)
  dsimp only [Pt.U, Pt.locs, Pt.cells, Pt.slots] at X46 l46 y46 z46 st46 hQ46
  subst l46 y46 z46
  obtain ⟨rfl, N46q, R47⟩ := hQ46
  have N46 := Fr.app N43 N46q
  have hc59_48 : (lcmpW q4 q4) = (0 : Int32) := (lw_eq _ _).mpr rfl
  obtain ⟨cq49, kq49, q49a, q49b, q49c⟩ := isOf hZ R47 R28
  obtain ⟨_, _, ⟨T49, L49, k49, n49⟩, -, X49, ⟨Lc49, hQ49, l49, y49, z49⟩, st49⟩ := X46.virtualBack hx (y := (⟨"com/example/compensa/compensa/banco/LeiauteDeRetorno$Ocorrencia", "codigo", "()I"⟩ : MethodName)) (z := (⟨"com/example/compensa/compensa/banco/LeiauteDeRetorno$Ocorrencia", "codigo", "()I"⟩ : MethodName)) hown (mvT hZ (hw _ (List.mem_of_getElem? (i := 64) rfl))) (mvT hZ (hw _ (List.mem_of_getElem? (i := 65) rfl))) (notFace_of_selects (args := #[]) (mvT hZ (hw _ (List.mem_of_getElem? (i := 67) rfl)))) (mvT hZ (hw _ (List.mem_of_getElem? (i := 67) rfl))) (mvT hZ (hw _ (List.mem_of_getElem? (i := 66) rfl))) (by decide) (backOf (W := 0) (rm9 l Z a0 hw [] b1 T26.heap n0 Z36 R33) hZ (hw _ (List.mem_of_getElem? (i := 68) rfl)) (hw _ (List.mem_of_getElem? (i := 2) rfl)) (by decide) (by decide)) q49a q49c (g := (mkF m 71 #[.val (.long q1), .second, .val (.long q2), .second, .val (.long q3), .second, .val (.long q4), .second, .val (.ref b1), .val (.int (1 : Int32)), .unset, .unset] [(.ref b1)])) rfl (by rw [hml]; rfl) (Steps.refl _) (argsL := []) (rest := []) (lenOf pd_4 rfl) rfl (by show 2 * 0 + _ ≤ _; exact Nat.le_of_eq rfl) (hb hby at_71) (fun _ _ => ⟨rfl, R47, (by decide : 13 + 0 ≤ _), (by decide : 102 + 0 ≤ _)⟩)
  dsimp only [Pt.U, Pt.locs, Pt.cells, Pt.slots] at X49 l49 y49 z49 st49 hQ49
  subst l49 y49 z49
  obtain ⟨rfl, N49q, R50⟩ := hQ49
  have N49 := Fr.app N46 N49q
  obtain ⟨cq51, kq51, q51a, q51b, q51c⟩ := isOf hZ R50 R28
  obtain ⟨_, _, ⟨T51, L51, k51, n51⟩, -, X51, ⟨Lc51, hQ51, l51, y51, z51⟩, st51⟩ := X49.virtualBack hx (y := (⟨"com/example/compensa/compensa/banco/LeiauteDeRetorno$Ocorrencia", "nome", "()Ljava/lang/String;"⟩ : MethodName)) (z := (⟨"com/example/compensa/compensa/banco/LeiauteDeRetorno$Ocorrencia", "nome", "()Ljava/lang/String;"⟩ : MethodName)) hown (mvT hZ (hw _ (List.mem_of_getElem? (i := 71) rfl))) (mvT hZ (hw _ (List.mem_of_getElem? (i := 72) rfl))) (notFace_of_selects (args := #[]) (mvT hZ (hw _ (List.mem_of_getElem? (i := 74) rfl)))) (mvT hZ (hw _ (List.mem_of_getElem? (i := 74) rfl))) (mvT hZ (hw _ (List.mem_of_getElem? (i := 73) rfl))) (by decide) (backOf (W := 0) (rm10 l Z a0 hw [] b1 T26.heap n0 Z36 R34) hZ (hw _ (List.mem_of_getElem? (i := 75) rfl)) (hw _ (List.mem_of_getElem? (i := 2) rfl)) (by decide) (by decide)) q51a q51c (g := (mkF m 79 #[.val (.long q1), .second, .val (.long q2), .second, .val (.long q3), .second, .val (.long q4), .second, .val (.ref b1), .val (.int (1 : Int32)), .unset, .unset] [(.ref b1)])) rfl (by rw [hml]; rfl) (Steps.refl _) (argsL := []) (rest := []) (lenOf pd_5 rfl) rfl (by show 2 * 0 + _ ≤ _; exact Nat.le_of_eq rfl) (hb hby at_79) (fun _ _ => ⟨rfl, R50, (by decide : 13 + 0 ≤ _), (by decide : 102 + 0 ≤ _)⟩)
  dsimp only [Pt.U, Pt.locs, Pt.cells, Pt.slots] at X51 l51 y51 z51 st51 hQ51
  subst l51 y51 z51
  obtain ⟨rfl, N51q, R52⟩ := hQ51
  have N51 := Fr.app N49 N51q
  obtain ⟨cq53, kq53, q53a, q53b, q53c⟩ := isOf hZ R52 R28
  obtain ⟨_, _, ⟨T53, L53, k53, n53⟩, -, X53, ⟨Lc53, hQ53, l53, y53, z53⟩, st53⟩ := X51.virtualBack hx (y := (⟨"com/example/compensa/compensa/banco/LeiauteDeRetorno$Ocorrencia", "valores", "(JJJJ)V"⟩ : MethodName)) (z := (⟨"com/example/compensa/compensa/banco/LeiauteDeRetorno$Ocorrencia", "valores", "(JJJJ)V"⟩ : MethodName)) hown (mvT hZ (hw _ (List.mem_of_getElem? (i := 31) rfl))) (mvT hZ (hw _ (List.mem_of_getElem? (i := 32) rfl))) (notFace_of_selects (args := #[]) (mvT hZ (hw _ (List.mem_of_getElem? (i := 34) rfl)))) (mvT hZ (hw _ (List.mem_of_getElem? (i := 34) rfl))) (mvT hZ (hw _ (List.mem_of_getElem? (i := 33) rfl))) (by decide) (backOf (W := 0) (rm4 l Z a0 hw [] b1 q4 q3 q2 q1 q1 q2 q3 q4 T26.heap n0 Z36 R28 g_b1 R29 R30 R31 R32 R33 R34) hZ (hw _ (List.mem_of_getElem? (i := 35) rfl)) (hw _ (List.mem_of_getElem? (i := 2) rfl)) (by decide) (by decide)) q53a q53c (g := (mkF m 100 #[.val (.long q1), .second, .val (.long q2), .second, .val (.long q3), .second, .val (.long q4), .second, .val (.ref b1), .val (.int (1 : Int32)), .val (.int (1 : Int32)), .unset] [(.long q1), (.long q2), (.long q3), (.long q4), (.ref b1)])) rfl (by rw [hml]; rfl) (Steps.refl _) (argsL := [(.long q4), (.long q3), (.long q2), (.long q1)]) (rest := []) (lenOf pd_2 rfl) rfl (by show 2 * 0 + _ ≤ _; exact Nat.le_of_eq rfl) (hb hby at_100) (fun _ _ => ⟨rfl, R52, (by decide : 13 + 0 ≤ _), (by decide : 102 + 0 ≤ _)⟩)
  dsimp only [Pt.U, Pt.locs, Pt.cells, Pt.slots] at X53 l53 y53 z53 st53 hQ53
  subst l53 y53 z53
  obtain ⟨rfl, N53q, R54, R55, R56, R57, R58, R59, R60, R61⟩ := hQ53
  have N53 := Fr.app N51 N53q
  have F62 : Exa Z T53.heap b1 "com/example/compensa/compensa/banco/LeiauteDeRetorno$Ocorrencia" := R28.keep R54
  have Z63 : n0 ≤ T53.heap.size := Nat.le_trans Z36 R54.1
  obtain ⟨cq64, kq64, q64a, q64b, q64c⟩ := isOf hZ rfl R55
  obtain ⟨_, _, ⟨T64, L64, k64, n64⟩, -, X64, ⟨Lc64, hQ64, l64, y64, z64⟩, st64⟩ := X53.virtualBack hx (y := (⟨"com/example/compensa/compensa/banco/LeiauteDeRetorno$Ocorrencia", "valor", "()J"⟩ : MethodName)) (z := (⟨"com/example/compensa/compensa/banco/LeiauteDeRetorno$Ocorrencia", "valor", "()J"⟩ : MethodName)) hown (mvT hZ (hw _ (List.mem_of_getElem? (i := 44) rfl))) (mvT hZ (hw _ (List.mem_of_getElem? (i := 45) rfl))) (notFace_of_selects (args := #[]) (mvT hZ (hw _ (List.mem_of_getElem? (i := 47) rfl)))) (mvT hZ (hw _ (List.mem_of_getElem? (i := 47) rfl))) (mvT hZ (hw _ (List.mem_of_getElem? (i := 46) rfl))) (by decide) (backOf (W := 0) (rm5 l Z a0 hw [] b1 q4 T53.heap n0 Z63 R56) hZ (hw _ (List.mem_of_getElem? (i := 48) rfl)) (hw _ (List.mem_of_getElem? (i := 2) rfl)) (by decide) (by decide)) q64a q64c (g := (mkF m 105 #[.val (.long q1), .second, .val (.long q2), .second, .val (.long q3), .second, .val (.long q4), .second, .val (.ref b1), .val (.int (1 : Int32)), .val (.int (1 : Int32)), .unset] [(.ref b1)])) rfl (by rw [hml]; rfl) (Steps.refl _) (argsL := []) (rest := []) (lenOf pd_3 rfl) rfl (by show 2 * 0 + _ ≤ _; exact Nat.le_of_eq rfl) (hb hby at_105) (fun _ _ => ⟨rfl, rfl, (by decide : 13 + 0 ≤ _), (by decide : 102 + 0 ≤ _)⟩)
  dsimp only [Pt.U, Pt.locs, Pt.cells, Pt.slots] at X64 l64 y64 z64 st64 hQ64
  subst l64 y64 z64
  obtain ⟨rfl, N64q, R65⟩ := hQ64
  have N64 := Fr.app N53 N64q
  have hc111_66 : (lcmpW q4 q4) = (0 : Int32) := (lw_eq _ _).mpr rfl
  obtain ⟨cq67, kq67, q67a, q67b, q67c⟩ := isOf hZ R65 R55
  obtain ⟨_, _, ⟨T67, L67, k67, n67⟩, -, X67, ⟨Lc67, hQ67, l67, y67, z67⟩, st67⟩ := X64.virtualBack hx (y := (⟨"com/example/compensa/compensa/banco/LeiauteDeRetorno$Ocorrencia", "tarifa", "()J"⟩ : MethodName)) (z := (⟨"com/example/compensa/compensa/banco/LeiauteDeRetorno$Ocorrencia", "tarifa", "()J"⟩ : MethodName)) hown (mvT hZ (hw _ (List.mem_of_getElem? (i := 49) rfl))) (mvT hZ (hw _ (List.mem_of_getElem? (i := 50) rfl))) (notFace_of_selects (args := #[]) (mvT hZ (hw _ (List.mem_of_getElem? (i := 52) rfl)))) (mvT hZ (hw _ (List.mem_of_getElem? (i := 52) rfl))) (mvT hZ (hw _ (List.mem_of_getElem? (i := 51) rfl))) (by decide) (backOf (W := 0) (rm6 l Z a0 hw [] b1 q3 T53.heap n0 Z63 R57) hZ (hw _ (List.mem_of_getElem? (i := 53) rfl)) (hw _ (List.mem_of_getElem? (i := 2) rfl)) (by decide) (by decide)) q67a q67c (g := (mkF m 116 #[.val (.long q1), .second, .val (.long q2), .second, .val (.long q3), .second, .val (.long q4), .second, .val (.ref b1), .val (.int (1 : Int32)), .val (.int (1 : Int32)), .unset] [(.ref b1)])) rfl (by rw [hml]; rfl) (Steps.refl _) (argsL := []) (rest := []) (lenOf pd_3 rfl) rfl (by show 2 * 0 + _ ≤ _; exact Nat.le_of_eq rfl) (hb hby at_116) (fun _ _ => ⟨rfl, R65, (by decide : 13 + 0 ≤ _), (by decide : 102 + 0 ≤ _)⟩)
  dsimp only [Pt.U, Pt.locs, Pt.cells, Pt.slots] at X67 l67 y67 z67 st67 hQ67
  subst l67 y67 z67
  obtain ⟨rfl, N67q, R68⟩ := hQ67
  have N67 := Fr.app N64 N67q
  have hc122_69 : (lcmpW q3 q3) = (0 : Int32) := (lw_eq _ _).mpr rfl
  obtain ⟨cq70, kq70, q70a, q70b, q70c⟩ := isOf hZ R68 R55
  obtain ⟨_, _, ⟨T70, L70, k70, n70⟩, -, X70, ⟨Lc70, hQ70, l70, y70, z70⟩, st70⟩ := X67.virtualBack hx (y := (⟨"com/example/compensa/compensa/banco/LeiauteDeRetorno$Ocorrencia", "pago", "()J"⟩ : MethodName)) (z := (⟨"com/example/compensa/compensa/banco/LeiauteDeRetorno$Ocorrencia", "pago", "()J"⟩ : MethodName)) hown (mvT hZ (hw _ (List.mem_of_getElem? (i := 54) rfl))) (mvT hZ (hw _ (List.mem_of_getElem? (i := 55) rfl))) (notFace_of_selects (args := #[]) (mvT hZ (hw _ (List.mem_of_getElem? (i := 57) rfl)))) (mvT hZ (hw _ (List.mem_of_getElem? (i := 57) rfl))) (mvT hZ (hw _ (List.mem_of_getElem? (i := 56) rfl))) (by decide) (backOf (W := 0) (rm7 l Z a0 hw [] b1 q2 T53.heap n0 Z63 R58) hZ (hw _ (List.mem_of_getElem? (i := 58) rfl)) (hw _ (List.mem_of_getElem? (i := 2) rfl)) (by decide) (by decide)) q70a q70c (g := (mkF m 127 #[.val (.long q1), .second, .val (.long q2), .second, .val (.long q3), .second, .val (.long q4), .second, .val (.ref b1), .val (.int (1 : Int32)), .val (.int (1 : Int32)), .unset] [(.ref b1)])) rfl (by rw [hml]; rfl) (Steps.refl _) (argsL := []) (rest := []) (lenOf pd_3 rfl) rfl (by show 2 * 0 + _ ≤ _; exact Nat.le_of_eq rfl) (hb hby at_127) (fun _ _ => ⟨rfl, R68, (by decide : 13 + 0 ≤ _), (by decide : 102 + 0 ≤ _)⟩)
  dsimp only [Pt.U, Pt.locs, Pt.cells, Pt.slots] at X70 l70 y70 z70 st70 hQ70
  subst l70 y70 z70
  obtain ⟨rfl, N70q, R71⟩ := hQ70
  have N70 := Fr.app N67 N70q
  have hc132_72 : (lcmpW q2 q2) = (0 : Int32) := (lw_eq _ _).mpr rfl
  obtain ⟨cq73, kq73, q73a, q73b, q73c⟩ := isOf hZ R71 R55
  obtain ⟨_, _, ⟨T73, L73, k73, n73⟩, -, X73, ⟨Lc73, hQ73, l73, y73, z73⟩, st73⟩ := X70.virtualBack hx (y := (⟨"com/example/compensa/compensa/banco/LeiauteDeRetorno$Ocorrencia", "juros", "()J"⟩ : MethodName)) (z := (⟨"com/example/compensa/compensa/banco/LeiauteDeRetorno$Ocorrencia", "juros", "()J"⟩ : MethodName)) hown (mvT hZ (hw _ (List.mem_of_getElem? (i := 59) rfl))) (mvT hZ (hw _ (List.mem_of_getElem? (i := 60) rfl))) (notFace_of_selects (args := #[]) (mvT hZ (hw _ (List.mem_of_getElem? (i := 62) rfl)))) (mvT hZ (hw _ (List.mem_of_getElem? (i := 62) rfl))) (mvT hZ (hw _ (List.mem_of_getElem? (i := 61) rfl))) (by decide) (backOf (W := 0) (rm8 l Z a0 hw [] b1 q1 T53.heap n0 Z63 R59) hZ (hw _ (List.mem_of_getElem? (i := 63) rfl)) (hw _ (List.mem_of_getElem? (i := 2) rfl)) (by decide) (by decide)) q73a q73c (g := (mkF m 137 #[.val (.long q1), .second, .val (.long q2), .second, .val (.long q3), .second, .val (.long q4), .second, .val (.ref b1), .val (.int (1 : Int32)), .val (.int (1 : Int32)), .unset] [(.ref b1)])) rfl (by rw [hml]; rfl) (Steps.refl _) (argsL := []) (rest := []) (lenOf pd_3 rfl) rfl (by show 2 * 0 + _ ≤ _; exact Nat.le_of_eq rfl) (hb hby at_137) (fun _ _ => ⟨rfl, R71, (by decide : 13 + 0 ≤ _), (by decide : 102 + 0 ≤ _)⟩)
  dsimp only [Pt.U, Pt.locs, Pt.cells, Pt.slots] at X73 l73 y73 z73 st73 hQ73
  subst l73 y73 z73
  obtain ⟨rfl, N73q, R74⟩ := hQ73
  have N73 := Fr.app N70 N73q
  have hc142_75 : (lcmpW q1 q1) = (0 : Int32) := (lw_eq _ _).mpr rfl
  obtain ⟨fs, hr, hrun, hended, hW, hsame⟩ := X73.leave (v := some (.int (1 : Int32))) (fun h => by rw [Bd.returns] at h; cases h)
  refine ⟨_, _, pre0 _ ?_, hrun, hended, _, _, rfl, ?_, ⟨_, rfl⟩, hW, hsame.mono (by decide) (by decide)⟩
  · show Steps p.tables e below (s₁.setTop (mkF m 0 #[.val (.long q1), .second, .val (.long q2), .second, .val (.long q3), .second, .val (.long q4), .second, .unset, .unset, .unset, .unset] [])) _
    refine st1 _ ?_
    show Steps p.tables e below (T1.setTop (mkF m 3 #[.val (.long q1), .second, .val (.long q2), .second, .val (.long q3), .second, .val (.long q4), .second, .unset, .unset, .unset, .unset] [(.ref b1)])) _
    refine XS.dup X1.here hx rfl (hb hby at_3) rfl rfl ?_
    show Steps p.tables e below (T1.setTop (mkF m 4 #[.val (.long q1), .second, .val (.long q2), .second, .val (.long q3), .second, .val (.long q4), .second, .unset, .unset, .unset, .unset] [(.ref b1), (.ref b1)])) _
    refine st15.trans ?_
    show Steps p.tables e below (T15.setTop (mkF m 7 #[.val (.long q1), .second, .val (.long q2), .second, .val (.long q3), .second, .val (.long q4), .second, .unset, .unset, .unset, .unset] [(.ref b1)])) _
    refine XS.astore X15.here hx rfl (hb hby at_7) rfl rfl (l' := #[.val (.long q1), .second, .val (.long q2), .second, .val (.long q3), .second, .val (.long q4), .second, .val (.ref b1), .unset, .unset, .unset]) rfl ?_
    show Steps p.tables e below (T15.setTop (mkF m 9 #[.val (.long q1), .second, .val (.long q2), .second, .val (.long q3), .second, .val (.long q4), .second, .val (.ref b1), .unset, .unset, .unset] [])) _
    refine XS.aload X15.here hx rfl (hb hby at_9) rfl rfl ?_
    show Steps p.tables e below (T15.setTop (mkF m 11 #[.val (.long q1), .second, .val (.long q2), .second, .val (.long q3), .second, .val (.long q4), .second, .val (.ref b1), .unset, .unset, .unset] [(.ref b1)])) _
    refine XS.lloadN X15.here hx rfl (hb hby at_11) rfl ?_
    show Steps p.tables e below (T15.setTop (mkF m 12 #[.val (.long q1), .second, .val (.long q2), .second, .val (.long q3), .second, .val (.long q4), .second, .val (.ref b1), .unset, .unset, .unset] [(.long q1), (.ref b1)])) _
    refine XS.lloadN X15.here hx rfl (hb hby at_12) rfl ?_
    show Steps p.tables e below (T15.setTop (mkF m 13 #[.val (.long q1), .second, .val (.long q2), .second, .val (.long q3), .second, .val (.long q4), .second, .val (.ref b1), .unset, .unset, .unset] [(.long q2), (.long q1), (.ref b1)])) _
    refine XS.lload X15.here hx rfl (hb hby at_13) rfl ?_
    show Steps p.tables e below (T15.setTop (mkF m 15 #[.val (.long q1), .second, .val (.long q2), .second, .val (.long q3), .second, .val (.long q4), .second, .val (.ref b1), .unset, .unset, .unset] [(.long q3), (.long q2), (.long q1), (.ref b1)])) _
    refine XS.lload X15.here hx rfl (hb hby at_15) rfl ?_
    show Steps p.tables e below (T15.setTop (mkF m 17 #[.val (.long q1), .second, .val (.long q2), .second, .val (.long q3), .second, .val (.long q4), .second, .val (.ref b1), .unset, .unset, .unset] [(.long q4), (.long q3), (.long q2), (.long q1), (.ref b1)])) _
    refine st26.trans ?_
    show Steps p.tables e below (T26.setTop (mkF m 20 #[.val (.long q1), .second, .val (.long q2), .second, .val (.long q3), .second, .val (.long q4), .second, .val (.ref b1), .unset, .unset, .unset] [])) _
    refine XS.aload X26.here hx rfl (hb hby at_20) rfl rfl ?_
    show Steps p.tables e below (T26.setTop (mkF m 22 #[.val (.long q1), .second, .val (.long q2), .second, .val (.long q3), .second, .val (.long q4), .second, .val (.ref b1), .unset, .unset, .unset] [(.ref b1)])) _
    refine st37.trans ?_
    show Steps p.tables e below (T37.setTop (mkF m 25 #[.val (.long q1), .second, .val (.long q2), .second, .val (.long q3), .second, .val (.long q4), .second, .val (.ref b1), .unset, .unset, .unset] [(.long q1)])) _
    refine XS.lloadN X37.here hx rfl (hb hby at_25) rfl ?_
    show Steps p.tables e below (T37.setTop (mkF m 26 #[.val (.long q1), .second, .val (.long q2), .second, .val (.long q3), .second, .val (.long q4), .second, .val (.ref b1), .unset, .unset, .unset] [(.long q1), (.long q1)])) _
    refine XS.lcmp X37.here hx rfl (hb hby at_26) rfl ?_
    show Steps p.tables e below (T37.setTop (mkF m 27 #[.val (.long q1), .second, .val (.long q2), .second, .val (.long q3), .second, .val (.long q4), .second, .val (.ref b1), .unset, .unset, .unset] [(.int (lcmpW q1 q1))])) _
    refine XS.ifNo X37.here hx rfl (hb hby at_27) rfl ((if0 _ _).trans (teq hc27_39).2) ?_
    show Steps p.tables e below (T37.setTop (mkF m 30 #[.val (.long q1), .second, .val (.long q2), .second, .val (.long q3), .second, .val (.long q4), .second, .val (.ref b1), .unset, .unset, .unset] [])) _
    refine XS.aload X37.here hx rfl (hb hby at_30) rfl rfl ?_
    show Steps p.tables e below (T37.setTop (mkF m 32 #[.val (.long q1), .second, .val (.long q2), .second, .val (.long q3), .second, .val (.long q4), .second, .val (.ref b1), .unset, .unset, .unset] [(.ref b1)])) _
    refine st40.trans ?_
    show Steps p.tables e below (T40.setTop (mkF m 35 #[.val (.long q1), .second, .val (.long q2), .second, .val (.long q3), .second, .val (.long q4), .second, .val (.ref b1), .unset, .unset, .unset] [(.long q2)])) _
    refine XS.lloadN X40.here hx rfl (hb hby at_35) rfl ?_
    show Steps p.tables e below (T40.setTop (mkF m 36 #[.val (.long q1), .second, .val (.long q2), .second, .val (.long q3), .second, .val (.long q4), .second, .val (.ref b1), .unset, .unset, .unset] [(.long q2), (.long q2)])) _
    refine XS.lcmp X40.here hx rfl (hb hby at_36) rfl ?_
    show Steps p.tables e below (T40.setTop (mkF m 37 #[.val (.long q1), .second, .val (.long q2), .second, .val (.long q3), .second, .val (.long q4), .second, .val (.ref b1), .unset, .unset, .unset] [(.int (lcmpW q2 q2))])) _
    refine XS.ifNo X40.here hx rfl (hb hby at_37) rfl ((if0 _ _).trans (teq hc37_42).2) ?_
    show Steps p.tables e below (T40.setTop (mkF m 40 #[.val (.long q1), .second, .val (.long q2), .second, .val (.long q3), .second, .val (.long q4), .second, .val (.ref b1), .unset, .unset, .unset] [])) _
    refine XS.aload X40.here hx rfl (hb hby at_40) rfl rfl ?_
    show Steps p.tables e below (T40.setTop (mkF m 42 #[.val (.long q1), .second, .val (.long q2), .second, .val (.long q3), .second, .val (.long q4), .second, .val (.ref b1), .unset, .unset, .unset] [(.ref b1)])) _
    refine st43.trans ?_
    show Steps p.tables e below (T43.setTop (mkF m 45 #[.val (.long q1), .second, .val (.long q2), .second, .val (.long q3), .second, .val (.long q4), .second, .val (.ref b1), .unset, .unset, .unset] [(.long q3)])) _
    refine XS.lload X43.here hx rfl (hb hby at_45) rfl ?_
    show Steps p.tables e below (T43.setTop (mkF m 47 #[.val (.long q1), .second, .val (.long q2), .second, .val (.long q3), .second, .val (.long q4), .second, .val (.ref b1), .unset, .unset, .unset] [(.long q3), (.long q3)])) _
    refine XS.lcmp X43.here hx rfl (hb hby at_47) rfl ?_
    show Steps p.tables e below (T43.setTop (mkF m 48 #[.val (.long q1), .second, .val (.long q2), .second, .val (.long q3), .second, .val (.long q4), .second, .val (.ref b1), .unset, .unset, .unset] [(.int (lcmpW q3 q3))])) _
    refine XS.ifNo X43.here hx rfl (hb hby at_48) rfl ((if0 _ _).trans (teq hc48_45).2) ?_
    show Steps p.tables e below (T43.setTop (mkF m 51 #[.val (.long q1), .second, .val (.long q2), .second, .val (.long q3), .second, .val (.long q4), .second, .val (.ref b1), .unset, .unset, .unset] [])) _
    refine XS.aload X43.here hx rfl (hb hby at_51) rfl rfl ?_
    show Steps p.tables e below (T43.setTop (mkF m 53 #[.val (.long q1), .second, .val (.long q2), .second, .val (.long q3), .second, .val (.long q4), .second, .val (.ref b1), .unset, .unset, .unset] [(.ref b1)])) _
    refine st46.trans ?_
    show Steps p.tables e below (T46.setTop (mkF m 56 #[.val (.long q1), .second, .val (.long q2), .second, .val (.long q3), .second, .val (.long q4), .second, .val (.ref b1), .unset, .unset, .unset] [(.long q4)])) _
    refine XS.lload X46.here hx rfl (hb hby at_56) rfl ?_
    show Steps p.tables e below (T46.setTop (mkF m 58 #[.val (.long q1), .second, .val (.long q2), .second, .val (.long q3), .second, .val (.long q4), .second, .val (.ref b1), .unset, .unset, .unset] [(.long q4), (.long q4)])) _
    refine XS.lcmp X46.here hx rfl (hb hby at_58) rfl ?_
    show Steps p.tables e below (T46.setTop (mkF m 59 #[.val (.long q1), .second, .val (.long q2), .second, .val (.long q3), .second, .val (.long q4), .second, .val (.ref b1), .unset, .unset, .unset] [(.int (lcmpW q4 q4))])) _
    refine XS.ifNo X46.here hx rfl (hb hby at_59) rfl ((if0 _ _).trans (teq hc59_48).2) ?_
    show Steps p.tables e below (T46.setTop (mkF m 62 #[.val (.long q1), .second, .val (.long q2), .second, .val (.long q3), .second, .val (.long q4), .second, .val (.ref b1), .unset, .unset, .unset] [])) _
    refine XS.iconst X46.here hx rfl (hb hby at_62) ?_
    show Steps p.tables e below (T46.setTop (mkF m 63 #[.val (.long q1), .second, .val (.long q2), .second, .val (.long q3), .second, .val (.long q4), .second, .val (.ref b1), .unset, .unset, .unset] [(.int (1 : Int32))])) _
    refine XS.goto X46.here hx rfl (pc0 := 63) (pc' := 67) rfl (hb hby at_63) (by decide) (by decide) ?_
    show Steps p.tables e below (T46.setTop (mkF m 67 #[.val (.long q1), .second, .val (.long q2), .second, .val (.long q3), .second, .val (.long q4), .second, .val (.ref b1), .unset, .unset, .unset] [(.int (1 : Int32))])) _
    refine XS.istore X46.here hx rfl (hb hby at_67) rfl (l' := #[.val (.long q1), .second, .val (.long q2), .second, .val (.long q3), .second, .val (.long q4), .second, .val (.ref b1), .val (.int (1 : Int32)), .unset, .unset]) rfl ?_
    show Steps p.tables e below (T46.setTop (mkF m 69 #[.val (.long q1), .second, .val (.long q2), .second, .val (.long q3), .second, .val (.long q4), .second, .val (.ref b1), .val (.int (1 : Int32)), .unset, .unset] [])) _
    refine XS.aload X46.here hx rfl (hb hby at_69) rfl rfl ?_
    show Steps p.tables e below (T46.setTop (mkF m 71 #[.val (.long q1), .second, .val (.long q2), .second, .val (.long q3), .second, .val (.long q4), .second, .val (.ref b1), .val (.int (1 : Int32)), .unset, .unset] [(.ref b1)])) _
    refine st49.trans ?_
    show Steps p.tables e below (T49.setTop (mkF m 74 #[.val (.long q1), .second, .val (.long q2), .second, .val (.long q3), .second, .val (.long q4), .second, .val (.ref b1), .val (.int (1 : Int32)), .unset, .unset] [(.int (0 : Int32))])) _
    refine XS.ifNo X49.here hx rfl (hb hby at_74) rfl ((if0 _ _).trans (teq (by decide : (0 : Int32) = (0 : Int32))).2) ?_
    show Steps p.tables e below (T49.setTop (mkF m 77 #[.val (.long q1), .second, .val (.long q2), .second, .val (.long q3), .second, .val (.long q4), .second, .val (.ref b1), .val (.int (1 : Int32)), .unset, .unset] [])) _
    refine XS.aload X49.here hx rfl (hb hby at_77) rfl rfl ?_
    show Steps p.tables e below (T49.setTop (mkF m 79 #[.val (.long q1), .second, .val (.long q2), .second, .val (.long q3), .second, .val (.long q4), .second, .val (.ref b1), .val (.int (1 : Int32)), .unset, .unset] [(.ref b1)])) _
    refine st51.trans ?_
    show Steps p.tables e below (T51.setTop (mkF m 82 #[.val (.long q1), .second, .val (.long q2), .second, .val (.long q3), .second, .val (.long q4), .second, .val (.ref b1), .val (.int (1 : Int32)), .unset, .unset] [.null])) _
    refine XS.ifnonnullNo X51.here hx rfl (hb hby at_82) rfl ?_
    show Steps p.tables e below (T51.setTop (mkF m 85 #[.val (.long q1), .second, .val (.long q2), .second, .val (.long q3), .second, .val (.long q4), .second, .val (.ref b1), .val (.int (1 : Int32)), .unset, .unset] [])) _
    refine XS.iconst X51.here hx rfl (hb hby at_85) ?_
    show Steps p.tables e below (T51.setTop (mkF m 86 #[.val (.long q1), .second, .val (.long q2), .second, .val (.long q3), .second, .val (.long q4), .second, .val (.ref b1), .val (.int (1 : Int32)), .unset, .unset] [(.int (1 : Int32))])) _
    refine XS.goto X51.here hx rfl (pc0 := 86) (pc' := 90) rfl (hb hby at_86) (by decide) (by decide) ?_
    show Steps p.tables e below (T51.setTop (mkF m 90 #[.val (.long q1), .second, .val (.long q2), .second, .val (.long q3), .second, .val (.long q4), .second, .val (.ref b1), .val (.int (1 : Int32)), .unset, .unset] [(.int (1 : Int32))])) _
    refine XS.istore X51.here hx rfl (hb hby at_90) rfl (l' := #[.val (.long q1), .second, .val (.long q2), .second, .val (.long q3), .second, .val (.long q4), .second, .val (.ref b1), .val (.int (1 : Int32)), .val (.int (1 : Int32)), .unset]) rfl ?_
    show Steps p.tables e below (T51.setTop (mkF m 92 #[.val (.long q1), .second, .val (.long q2), .second, .val (.long q3), .second, .val (.long q4), .second, .val (.ref b1), .val (.int (1 : Int32)), .val (.int (1 : Int32)), .unset] [])) _
    refine XS.aload X51.here hx rfl (hb hby at_92) rfl rfl ?_
    show Steps p.tables e below (T51.setTop (mkF m 94 #[.val (.long q1), .second, .val (.long q2), .second, .val (.long q3), .second, .val (.long q4), .second, .val (.ref b1), .val (.int (1 : Int32)), .val (.int (1 : Int32)), .unset] [(.ref b1)])) _
    refine XS.lload X51.here hx rfl (hb hby at_94) rfl ?_
    show Steps p.tables e below (T51.setTop (mkF m 96 #[.val (.long q1), .second, .val (.long q2), .second, .val (.long q3), .second, .val (.long q4), .second, .val (.ref b1), .val (.int (1 : Int32)), .val (.int (1 : Int32)), .unset] [(.long q4), (.ref b1)])) _
    refine XS.lload X51.here hx rfl (hb hby at_96) rfl ?_
    show Steps p.tables e below (T51.setTop (mkF m 98 #[.val (.long q1), .second, .val (.long q2), .second, .val (.long q3), .second, .val (.long q4), .second, .val (.ref b1), .val (.int (1 : Int32)), .val (.int (1 : Int32)), .unset] [(.long q3), (.long q4), (.ref b1)])) _
    refine XS.lloadN X51.here hx rfl (hb hby at_98) rfl ?_
    show Steps p.tables e below (T51.setTop (mkF m 99 #[.val (.long q1), .second, .val (.long q2), .second, .val (.long q3), .second, .val (.long q4), .second, .val (.ref b1), .val (.int (1 : Int32)), .val (.int (1 : Int32)), .unset] [(.long q2), (.long q3), (.long q4), (.ref b1)])) _
    refine XS.lloadN X51.here hx rfl (hb hby at_99) rfl ?_
    show Steps p.tables e below (T51.setTop (mkF m 100 #[.val (.long q1), .second, .val (.long q2), .second, .val (.long q3), .second, .val (.long q4), .second, .val (.ref b1), .val (.int (1 : Int32)), .val (.int (1 : Int32)), .unset] [(.long q1), (.long q2), (.long q3), (.long q4), (.ref b1)])) _
    refine st53.trans ?_
    show Steps p.tables e below (T53.setTop (mkF m 103 #[.val (.long q1), .second, .val (.long q2), .second, .val (.long q3), .second, .val (.long q4), .second, .val (.ref b1), .val (.int (1 : Int32)), .val (.int (1 : Int32)), .unset] [])) _
    refine XS.aload X53.here hx rfl (hb hby at_103) rfl rfl ?_
    show Steps p.tables e below (T53.setTop (mkF m 105 #[.val (.long q1), .second, .val (.long q2), .second, .val (.long q3), .second, .val (.long q4), .second, .val (.ref b1), .val (.int (1 : Int32)), .val (.int (1 : Int32)), .unset] [(.ref b1)])) _
    refine st64.trans ?_
    show Steps p.tables e below (T64.setTop (mkF m 108 #[.val (.long q1), .second, .val (.long q2), .second, .val (.long q3), .second, .val (.long q4), .second, .val (.ref b1), .val (.int (1 : Int32)), .val (.int (1 : Int32)), .unset] [(.long q4)])) _
    refine XS.lload X64.here hx rfl (hb hby at_108) rfl ?_
    show Steps p.tables e below (T64.setTop (mkF m 110 #[.val (.long q1), .second, .val (.long q2), .second, .val (.long q3), .second, .val (.long q4), .second, .val (.ref b1), .val (.int (1 : Int32)), .val (.int (1 : Int32)), .unset] [(.long q4), (.long q4)])) _
    refine XS.lcmp X64.here hx rfl (hb hby at_110) rfl ?_
    show Steps p.tables e below (T64.setTop (mkF m 111 #[.val (.long q1), .second, .val (.long q2), .second, .val (.long q3), .second, .val (.long q4), .second, .val (.ref b1), .val (.int (1 : Int32)), .val (.int (1 : Int32)), .unset] [(.int (lcmpW q4 q4))])) _
    refine XS.ifNo X64.here hx rfl (hb hby at_111) rfl ((if0 _ _).trans (teq hc111_66).2) ?_
    show Steps p.tables e below (T64.setTop (mkF m 114 #[.val (.long q1), .second, .val (.long q2), .second, .val (.long q3), .second, .val (.long q4), .second, .val (.ref b1), .val (.int (1 : Int32)), .val (.int (1 : Int32)), .unset] [])) _
    refine XS.aload X64.here hx rfl (hb hby at_114) rfl rfl ?_
    show Steps p.tables e below (T64.setTop (mkF m 116 #[.val (.long q1), .second, .val (.long q2), .second, .val (.long q3), .second, .val (.long q4), .second, .val (.ref b1), .val (.int (1 : Int32)), .val (.int (1 : Int32)), .unset] [(.ref b1)])) _
    refine st67.trans ?_
    show Steps p.tables e below (T67.setTop (mkF m 119 #[.val (.long q1), .second, .val (.long q2), .second, .val (.long q3), .second, .val (.long q4), .second, .val (.ref b1), .val (.int (1 : Int32)), .val (.int (1 : Int32)), .unset] [(.long q3)])) _
    refine XS.lload X67.here hx rfl (hb hby at_119) rfl ?_
    show Steps p.tables e below (T67.setTop (mkF m 121 #[.val (.long q1), .second, .val (.long q2), .second, .val (.long q3), .second, .val (.long q4), .second, .val (.ref b1), .val (.int (1 : Int32)), .val (.int (1 : Int32)), .unset] [(.long q3), (.long q3)])) _
    refine XS.lcmp X67.here hx rfl (hb hby at_121) rfl ?_
    show Steps p.tables e below (T67.setTop (mkF m 122 #[.val (.long q1), .second, .val (.long q2), .second, .val (.long q3), .second, .val (.long q4), .second, .val (.ref b1), .val (.int (1 : Int32)), .val (.int (1 : Int32)), .unset] [(.int (lcmpW q3 q3))])) _
    refine XS.ifNo X67.here hx rfl (hb hby at_122) rfl ((if0 _ _).trans (teq hc122_69).2) ?_
    show Steps p.tables e below (T67.setTop (mkF m 125 #[.val (.long q1), .second, .val (.long q2), .second, .val (.long q3), .second, .val (.long q4), .second, .val (.ref b1), .val (.int (1 : Int32)), .val (.int (1 : Int32)), .unset] [])) _
    refine XS.aload X67.here hx rfl (hb hby at_125) rfl rfl ?_
    show Steps p.tables e below (T67.setTop (mkF m 127 #[.val (.long q1), .second, .val (.long q2), .second, .val (.long q3), .second, .val (.long q4), .second, .val (.ref b1), .val (.int (1 : Int32)), .val (.int (1 : Int32)), .unset] [(.ref b1)])) _
    refine st70.trans ?_
    show Steps p.tables e below (T70.setTop (mkF m 130 #[.val (.long q1), .second, .val (.long q2), .second, .val (.long q3), .second, .val (.long q4), .second, .val (.ref b1), .val (.int (1 : Int32)), .val (.int (1 : Int32)), .unset] [(.long q2)])) _
    refine XS.lloadN X70.here hx rfl (hb hby at_130) rfl ?_
    show Steps p.tables e below (T70.setTop (mkF m 131 #[.val (.long q1), .second, .val (.long q2), .second, .val (.long q3), .second, .val (.long q4), .second, .val (.ref b1), .val (.int (1 : Int32)), .val (.int (1 : Int32)), .unset] [(.long q2), (.long q2)])) _
    refine XS.lcmp X70.here hx rfl (hb hby at_131) rfl ?_
    show Steps p.tables e below (T70.setTop (mkF m 132 #[.val (.long q1), .second, .val (.long q2), .second, .val (.long q3), .second, .val (.long q4), .second, .val (.ref b1), .val (.int (1 : Int32)), .val (.int (1 : Int32)), .unset] [(.int (lcmpW q2 q2))])) _
    refine XS.ifNo X70.here hx rfl (hb hby at_132) rfl ((if0 _ _).trans (teq hc132_72).2) ?_
    show Steps p.tables e below (T70.setTop (mkF m 135 #[.val (.long q1), .second, .val (.long q2), .second, .val (.long q3), .second, .val (.long q4), .second, .val (.ref b1), .val (.int (1 : Int32)), .val (.int (1 : Int32)), .unset] [])) _
    refine XS.aload X70.here hx rfl (hb hby at_135) rfl rfl ?_
    show Steps p.tables e below (T70.setTop (mkF m 137 #[.val (.long q1), .second, .val (.long q2), .second, .val (.long q3), .second, .val (.long q4), .second, .val (.ref b1), .val (.int (1 : Int32)), .val (.int (1 : Int32)), .unset] [(.ref b1)])) _
    refine st73.trans ?_
    show Steps p.tables e below (T73.setTop (mkF m 140 #[.val (.long q1), .second, .val (.long q2), .second, .val (.long q3), .second, .val (.long q4), .second, .val (.ref b1), .val (.int (1 : Int32)), .val (.int (1 : Int32)), .unset] [(.long q1)])) _
    refine XS.lloadN X73.here hx rfl (hb hby at_140) rfl ?_
    show Steps p.tables e below (T73.setTop (mkF m 141 #[.val (.long q1), .second, .val (.long q2), .second, .val (.long q3), .second, .val (.long q4), .second, .val (.ref b1), .val (.int (1 : Int32)), .val (.int (1 : Int32)), .unset] [(.long q1), (.long q1)])) _
    refine XS.lcmp X73.here hx rfl (hb hby at_141) rfl ?_
    show Steps p.tables e below (T73.setTop (mkF m 142 #[.val (.long q1), .second, .val (.long q2), .second, .val (.long q3), .second, .val (.long q4), .second, .val (.ref b1), .val (.int (1 : Int32)), .val (.int (1 : Int32)), .unset] [(.int (lcmpW q1 q1))])) _
    refine XS.ifNo X73.here hx rfl (hb hby at_142) rfl ((if0 _ _).trans (teq hc142_75).2) ?_
    show Steps p.tables e below (T73.setTop (mkF m 145 #[.val (.long q1), .second, .val (.long q2), .second, .val (.long q3), .second, .val (.long q4), .second, .val (.ref b1), .val (.int (1 : Int32)), .val (.int (1 : Int32)), .unset] [])) _
    refine XS.iconst X73.here hx rfl (hb hby at_145) ?_
    show Steps p.tables e below (T73.setTop (mkF m 146 #[.val (.long q1), .second, .val (.long q2), .second, .val (.long q3), .second, .val (.long q4), .second, .val (.ref b1), .val (.int (1 : Int32)), .val (.int (1 : Int32)), .unset] [(.int (1 : Int32))])) _
    refine XS.goto X73.here hx rfl (pc0 := 146) (pc' := 150) rfl (hb hby at_146) (by decide) (by decide) ?_
    show Steps p.tables e below (T73.setTop (mkF m 150 #[.val (.long q1), .second, .val (.long q2), .second, .val (.long q3), .second, .val (.long q4), .second, .val (.ref b1), .val (.int (1 : Int32)), .val (.int (1 : Int32)), .unset] [(.int (1 : Int32))])) _
    refine XS.istore X73.here hx rfl (hb hby at_150) rfl (l' := #[.val (.long q1), .second, .val (.long q2), .second, .val (.long q3), .second, .val (.long q4), .second, .val (.ref b1), .val (.int (1 : Int32)), .val (.int (1 : Int32)), .val (.int (1 : Int32))]) rfl ?_
    show Steps p.tables e below (T73.setTop (mkF m 152 #[.val (.long q1), .second, .val (.long q2), .second, .val (.long q3), .second, .val (.long q4), .second, .val (.ref b1), .val (.int (1 : Int32)), .val (.int (1 : Int32)), .val (.int (1 : Int32))] [])) _
    refine XS.iload X73.here hx rfl (hb hby at_152) rfl ?_
    show Steps p.tables e below (T73.setTop (mkF m 154 #[.val (.long q1), .second, .val (.long q2), .second, .val (.long q3), .second, .val (.long q4), .second, .val (.ref b1), .val (.int (1 : Int32)), .val (.int (1 : Int32)), .val (.int (1 : Int32))] [(.int (1 : Int32))])) _
    refine XS.ifNo X73.here hx rfl (hb hby at_154) rfl ((if0 _ _).trans (feq (by decide : ¬ ((1 : Int32) = (0 : Int32)))).1) ?_
    show Steps p.tables e below (T73.setTop (mkF m 157 #[.val (.long q1), .second, .val (.long q2), .second, .val (.long q3), .second, .val (.long q4), .second, .val (.ref b1), .val (.int (1 : Int32)), .val (.int (1 : Int32)), .val (.int (1 : Int32))] [])) _
    refine XS.iload X73.here hx rfl (hb hby at_157) rfl ?_
    show Steps p.tables e below (T73.setTop (mkF m 159 #[.val (.long q1), .second, .val (.long q2), .second, .val (.long q3), .second, .val (.long q4), .second, .val (.ref b1), .val (.int (1 : Int32)), .val (.int (1 : Int32)), .val (.int (1 : Int32))] [(.int (1 : Int32))])) _
    refine XS.ifNo X73.here hx rfl (hb hby at_159) rfl ((if0 _ _).trans (feq (by decide : ¬ ((1 : Int32) = (0 : Int32)))).1) ?_
    show Steps p.tables e below (T73.setTop (mkF m 162 #[.val (.long q1), .second, .val (.long q2), .second, .val (.long q3), .second, .val (.long q4), .second, .val (.ref b1), .val (.int (1 : Int32)), .val (.int (1 : Int32)), .val (.int (1 : Int32))] [])) _
    refine XS.iload X73.here hx rfl (hb hby at_162) rfl ?_
    show Steps p.tables e below (T73.setTop (mkF m 164 #[.val (.long q1), .second, .val (.long q2), .second, .val (.long q3), .second, .val (.long q4), .second, .val (.ref b1), .val (.int (1 : Int32)), .val (.int (1 : Int32)), .val (.int (1 : Int32))] [(.int (1 : Int32))])) _
    refine XS.ifNo X73.here hx rfl (hb hby at_164) rfl ((if0 _ _).trans (feq (by decide : ¬ ((1 : Int32) = (0 : Int32)))).1) ?_
    show Steps p.tables e below (T73.setTop (mkF m 167 #[.val (.long q1), .second, .val (.long q2), .second, .val (.long q3), .second, .val (.long q4), .second, .val (.ref b1), .val (.int (1 : Int32)), .val (.int (1 : Int32)), .val (.int (1 : Int32))] [])) _
    refine XS.iconst X73.here hx rfl (hb hby at_167) ?_
    show Steps p.tables e below (T73.setTop (mkF m 168 #[.val (.long q1), .second, .val (.long q2), .second, .val (.long q3), .second, .val (.long q4), .second, .val (.ref b1), .val (.int (1 : Int32)), .val (.int (1 : Int32)), .val (.int (1 : Int32))] [(.int (1 : Int32))])) _
    refine XS.goto X73.here hx rfl (pc0 := 168) (pc' := 172) rfl (hb hby at_168) (by decide) (by decide) ?_
    show Steps p.tables e below (T73.setTop (mkF m 172 #[.val (.long q1), .second, .val (.long q2), .second, .val (.long q3), .second, .val (.long q4), .second, .val (.ref b1), .val (.int (1 : Int32)), .val (.int (1 : Int32)), .val (.int (1 : Int32))] [(.int (1 : Int32))])) _
    exact retN X73 hx (t := .boolean) Bd.returns (by simp) (hb hby at_172) hr
  · show Q0 Z q1 q2 q3 q4 h0 n0 _ T73.heap _
    rw [R74]
    exact ⟨rfl, N73⟩
set_option maxRecDepth 65536 in
set_option maxHeartbeats 40000000 in
theorem comes_1 {Post : Tables → Env → Array Value → State → Outcome → State → Prop} (hpost : ∀ tb e args s v u, (limb_1_1.after args s (.returned v) u = true ∧ limb_1_2.after args s (.returned v) u = true ∧ True) → FrameEnd s (.returned v) u (Jvm.fieldLocs frame_1_writes args s ++ Jvm.arrayLocs frame_1_arrays args s ++ Jvm.staticLocs frame_1_statics s) 40 320 → Post tb e args s (.returned v) u) :
    ArmFor flags0 classFile x code maxLocals ret World_1 tables_1 room_1 Calls_1 rest_1 Pre_1 Post := by
  intro l hfl _ _ p e ha hc hk s m args below hf hA hF happ hP
  obtain ⟨hcalls, hrest, hpre⟩ := hP
  obtain ⟨-, -, -, hnamed, -, -, -, hat⟩ := (Spec.applies_iff hf).mp happ
  obtain ⟨hg, hn⟩ := and_e (Cond.before_iff.mp (show (Jvm.Cond.and given_1 narrow_1).before args s = true from hpre))
  obtain ⟨hcount, hg0⟩ := and_e hg
  obtain ⟨ha0, hg1⟩ := and_e hg0
  obtain ⟨ha1, hg2⟩ := and_e hg1
  obtain ⟨ha2, hg3⟩ := and_e hg2
  obtain ⟨w0, w1, w2, w3, rfl⟩ : ∃ w0 w1 w2 w3 : Value, args = #[w0, w1, w2, w3] := by
    have hs : args.size = 4 := by simpa [Cond.value, given_1] using hcount
    obtain ⟨L⟩ := args
    match L, hs with
    | [w0, w1, w2, w3], _ => exact ⟨w0, w1, w2, w3, rfl⟩
  have hw := fun d (hd : d ∈ tables_1) => atoms_spec (ws := Jvm.Cond.code x code maxLocals ret :: tables_1) hat d (List.mem_cons_of_mem _ hd)
  have hfit : Fit s := fun {y c} hc i hi => by
    obtain ⟨ha, rfl⟩ := Array.getElem?_eq_some_iff.mp hc
    have q := List.all_eq_true.mp ((Array.all_eq_true_iff_forall_mem.mp hF) _ (Array.getElem_mem ha)) i (List.mem_range.mpr hi)
    simpa [Array.getElem?_eq_getElem hi] using q
  obtain ⟨i0, ei0⟩ := isL_v ha0
  obtain rfl : w0 = (.long i0) := Option.some.inj ei0
  obtain ⟨i1, ei1⟩ := isL_v ha1
  obtain rfl : w1 = (.long i1) := Option.some.inj ei1
  obtain ⟨i2, ei2⟩ := isL_v ha2
  obtain rfl : w2 = (.long i2) := Option.some.inj ei2
  obtain ⟨i3, ei3⟩ := isL_v hg3
  obtain rfl : w3 = (.long i3) := Option.some.inj ei3
  obtain ⟨n, o, h1, h2, h3, _, L, rfl, ⟨rfl, N⟩, hq⟩ := rm0 l s _ hw tables_1 i0 i1 i2 i3 s.heap s.heap.size (Nat.le_refl _)  p e ha hc hk s m _ below hf ((Spec.applies_iff_loose hf).mp happ).1 ⟨rfl, State.Warmed39.refl s, rfl⟩ trivial
  exact ⟨n, _, h1, h2, h3, hpost _ _ _ _ _ _ ⟨Cond.after_iff.mpr rfl, Cond.after_iff.mpr (eq_i res_at (Term.int_eval (1)) rfl), trivial⟩ ⟨hq.1, hq.2.1, (hq.2.2.sift fun y hy => Or.inr (N y hy)).mono (by decide) (by decide)⟩⟩
theorem main_1_1 : Claimed_1_1 := comes_1 fun _ _ _ _ _ _ h hF => ⟨h.1, hF⟩
theorem main_1_2 : Claimed_1_2 := comes_1 fun _ _ _ _ _ _ h hF => ⟨h.2.1, hF⟩
end Jvm.Pilot.@@N@@
namespace Jvm.Pilot.@@N@@
open Jvm Jvm.ClassFile Sem Op Lib Jvm.Free Jvm.Stand Jvm.Pilot.@@N@@.Jvm.D
/-! MADE BY PROGRAM (witnessworld.py) out of the Statement's table words and the real class files: 13 classes; the members and pool entries that the words name. The judged class is class 1, her method 1. -/
namespace start1
open Jvm.ClassFile
def u (s : String) : CpInfo := .utf8 (stringToUtf16 s)
/-- a pool by its gaps: so many unusable entries, then the entry; so many at the end -/
def gap : Nat → List CpInfo → List CpInfo
  | 0, r => r
  | n + 1, r => .unusable :: gap n r
def poolList (es : List (Nat × CpInfo)) (last : Nat) : List CpInfo := es.foldr (fun e r => gap e.1 (e.2 :: r)) (gap last [])
def pool (es : List (Nat × CpInfo)) (last : Nat) : Array CpInfo := ⟨poolList es last⟩
def fileOf (pool : Array CpInfo) (this : Nat) (attrs : Array Attribute := #[]) (ms : Array MethodInfo := #[]) (fl : Nat := 33) (sup : Nat := 0) (ifs : Array Nat := #[]) (fds : Array FieldInfo := #[]) : ClassFile where
  minorVersion := 0
  majorVersion := 65
  constantPool := pool
  accessFlags := fl
  thisClass := this
  superClass := sup
  interfaces := ifs
  fields := fds
  methods := ms
  attributes := attrs
def plain (name : String) (sup : Option ClassId) : Class where
  name := name
  kind := .ordinary
  loader := none
  accessFlags := 33
  super := sup
  interfaces := #[]
  cf := none
  fields := #[]
  methods := #[]
  instanceTypes := #[]
  staticTypes := #[]
  resolved := #[]
  callSites := []
  init := .initialized
  statics := none
  mirror := none

def pool0 : Array CpInfo := pool [(5, u "<init>"), (0, u "()V"), (1, .class_ 10), (1, u "java/lang/Object")] 113

def k0c0 : Code := { maxStack := 0, maxLocals := 1, code := object_method_1_code, exceptionTable := #[], attributes := #[] }
def k0m0 : Method := { name := "<init>", desc := "()V", sig := { parameters := [], returnType := none }, accessFlags := 1, code := some k0c0 }
/-- java/lang/Object -/
def k0 : Class := { plain "java/lang/Object" none with
  accessFlags := 33
  interfaces := #[]
  cf := some (fileOf pool0 8 #[] #[{ accessFlags := 1, nameIndex := 5, descriptorIndex := 6, attributes := #[] }] 33 0 #[] #[])
  fields := #[]
  methods := #[k0m0]
  instanceTypes := #[]
  staticTypes := #[]
  resolved := Array.replicate 124 none
  statics := none }

def pool1 : Array CpInfo := pool [(2, .class_ 4), (0, .nameAndType 5 6), (0, u "java/lang/Object"), (0, u "<init>"), (0, u "()V"), (0, .class_ 8), (0, u "com/example/compensa/compensa/banco/LeiauteDeRetorno$Ocorrencia"), (0, .methodref 7 3), (0, .methodref 7 11), (0, .nameAndType 12 13), (0, u "valores"), (0, u "(JJJJ)V"), (0, .methodref 7 15), (0, .nameAndType 16 17), (0, u "valor"), (0, u "()J"), (0, .methodref 7 19), (0, .nameAndType 20 17), (0, u "tarifa"), (0, .methodref 7 22), (0, .nameAndType 23 17), (0, u "pago"), (0, .methodref 7 25), (0, .nameAndType 26 17), (0, u "juros"), (0, .methodref 7 28), (0, .nameAndType 29 30), (0, u "codigo"), (0, u "()I"), (0, .methodref 7 32), (0, .nameAndType 33 34), (0, u "nome"), (0, u "()Ljava/lang/String;"), (0, .class_ 36), (0, u "com/example/compensa/compensa/banco/OcorrenciaValoresPinLaw"), (2, u "law"), (0, u "(JJJJ)Z")] 7

def k1m0 : Method := { name := "<init>", desc := "()V", sig := { parameters := [], returnType := none }, accessFlags := 1, code := none }
def k1c1 : Code := { maxStack := 9, maxLocals := 12, code := code, exceptionTable := #[], attributes := #[] }
def k1m1 : Method := { name := "law", desc := "(JJJJ)Z", sig := { parameters := [.long, .long, .long, .long], returnType := some .boolean }, accessFlags := 9, code := some k1c1 }
/-- com/example/compensa/compensa/banco/OcorrenciaValoresPinLaw -/
def k1 : Class := { plain "com/example/compensa/compensa/banco/OcorrenciaValoresPinLaw" (some 0) with
  accessFlags := 49
  interfaces := #[]
  cf := some (fileOf pool1 35 #[] #[{ accessFlags := 1, nameIndex := 5, descriptorIndex := 6, attributes := #[] }, { accessFlags := 9, nameIndex := 39, descriptorIndex := 40, attributes := #[] }] 49 2 #[] #[])
  fields := #[]
  methods := #[k1m0, k1m1]
  instanceTypes := #[]
  staticTypes := #[]
  resolved := Array.replicate 48 none
  statics := none }

def pool2 : Array CpInfo := pool [(1, .methodref 2 3), (0, .class_ 4), (0, .nameAndType 5 6), (0, u "java/lang/Object"), (0, u "<init>"), (0, u "()V"), (0, .class_ 8), (0, u "com/example/compensa/compensa/comum/Texto"), (0, .methodref 7 10), (0, .nameAndType 5 11), (0, u "(I)V"), (0, .fieldref 13 14), (0, .class_ 15), (0, .nameAndType 16 17), (0, u "com/example/compensa/compensa/banco/LeiauteDeRetorno$Ocorrencia"), (0, u "nossoNumero"), (0, u "Lcom/example/compensa/compensa/comum/Texto;"), (0, .fieldref 13 19), (0, .nameAndType 20 17), (0, u "data"), (0, .fieldref 13 22), (0, .nameAndType 23 17), (0, u "documento"), (0, .fieldref 13 25), (0, .nameAndType 26 17), (0, u "vencimento"), (0, .fieldref 13 28), (0, .nameAndType 29 17), (0, u "credito"), (0, .fieldref 13 31), (0, .nameAndType 32 17), (0, u "motivos"), (0, .fieldref 13 34), (0, .nameAndType 35 36), (0, u "codigo"), (0, u "I"), (6, .fieldref 13 44), (0, .nameAndType 45 46), (0, u "nome"), (0, u "Ljava/lang/String;"), (0, .fieldref 13 48), (0, .nameAndType 49 50), (0, u "valor"), (0, u "J"), (0, .fieldref 13 52), (0, .nameAndType 53 50), (0, u "tarifa"), (0, .fieldref 13 55), (0, .nameAndType 56 50), (0, u "pago"), (0, .fieldref 13 58), (0, .nameAndType 59 50), (0, u "juros"), (6, u "valores"), (0, u "(JJJJ)V"), (0, u "CODIGOS"), (4, u "()I"), (1, u "()Ljava/lang/String;"), (0, u "()J"), (3, .class_ 81), (0, u "com/example/compensa/compensa/banco/LeiauteDeRetorno")] 2

def k2c0 : Code := { maxStack := 4, maxLocals := 1, code := prog_37_method_1_code, exceptionTable := #[], attributes := #[] }
def k2m0 : Method := { name := "<init>", desc := "()V", sig := { parameters := [], returnType := none }, accessFlags := 1, code := some k2c0 }
def k2c1 : Code := { maxStack := 1, maxLocals := 1, code := prog_37_method_3_code, exceptionTable := #[], attributes := #[] }
def k2m1 : Method := { name := "codigo", desc := "()I", sig := { parameters := [], returnType := some .int }, accessFlags := 1, code := some k2c1 }
def k2c2 : Code := { maxStack := 1, maxLocals := 1, code := prog_37_method_5_code, exceptionTable := #[], attributes := #[] }
def k2m2 : Method := { name := "nome", desc := "()Ljava/lang/String;", sig := { parameters := [], returnType := some (.object "java/lang/String") }, accessFlags := 1, code := some k2c2 }
def k2c3 : Code := { maxStack := 2, maxLocals := 1, code := prog_37_method_9_code, exceptionTable := #[], attributes := #[] }
def k2m3 : Method := { name := "valor", desc := "()J", sig := { parameters := [], returnType := some .long }, accessFlags := 1, code := some k2c3 }
def k2c4 : Code := { maxStack := 2, maxLocals := 1, code := prog_37_method_10_code, exceptionTable := #[], attributes := #[] }
def k2m4 : Method := { name := "tarifa", desc := "()J", sig := { parameters := [], returnType := some .long }, accessFlags := 1, code := some k2c4 }
def k2c5 : Code := { maxStack := 2, maxLocals := 1, code := prog_37_method_11_code, exceptionTable := #[], attributes := #[] }
def k2m5 : Method := { name := "pago", desc := "()J", sig := { parameters := [], returnType := some .long }, accessFlags := 1, code := some k2c5 }
def k2c6 : Code := { maxStack := 2, maxLocals := 1, code := prog_37_method_12_code, exceptionTable := #[], attributes := #[] }
def k2m6 : Method := { name := "juros", desc := "()J", sig := { parameters := [], returnType := some .long }, accessFlags := 1, code := some k2c6 }
def k2c7 : Code := { maxStack := 3, maxLocals := 9, code := prog_37_method_13_code, exceptionTable := #[], attributes := #[] }
def k2m7 : Method := { name := "valores", desc := "(JJJJ)V", sig := { parameters := [.long, .long, .long, .long], returnType := none }, accessFlags := 0, code := some k2c7 }
/-- com/example/compensa/compensa/banco/LeiauteDeRetorno$Ocorrencia -/
def k2 : Class := { plain "com/example/compensa/compensa/banco/LeiauteDeRetorno$Ocorrencia" (some 0) with
  accessFlags := 49
  interfaces := #[]
  cf := some (fileOf pool2 13 #[.nestHost 80] #[{ accessFlags := 1, nameIndex := 5, descriptorIndex := 6, attributes := #[] }, { accessFlags := 1, nameIndex := 35, descriptorIndex := 73, attributes := #[] }, { accessFlags := 1, nameIndex := 45, descriptorIndex := 75, attributes := #[] }, { accessFlags := 1, nameIndex := 49, descriptorIndex := 76, attributes := #[] }, { accessFlags := 1, nameIndex := 53, descriptorIndex := 76, attributes := #[] }, { accessFlags := 1, nameIndex := 56, descriptorIndex := 76, attributes := #[] }, { accessFlags := 1, nameIndex := 59, descriptorIndex := 76, attributes := #[] }, { accessFlags := 0, nameIndex := 66, descriptorIndex := 67, attributes := #[] }] 49 2 #[] #[{ accessFlags := 25, nameIndex := 68, descriptorIndex := 36, attributes := #[] }, { accessFlags := 18, nameIndex := 16, descriptorIndex := 17, attributes := #[] }, { accessFlags := 2, nameIndex := 35, descriptorIndex := 36, attributes := #[] }, { accessFlags := 2, nameIndex := 45, descriptorIndex := 46, attributes := #[] }, { accessFlags := 18, nameIndex := 20, descriptorIndex := 17, attributes := #[] }, { accessFlags := 18, nameIndex := 23, descriptorIndex := 17, attributes := #[] }, { accessFlags := 18, nameIndex := 26, descriptorIndex := 17, attributes := #[] }, { accessFlags := 2, nameIndex := 49, descriptorIndex := 50, attributes := #[] }, { accessFlags := 2, nameIndex := 53, descriptorIndex := 50, attributes := #[] }, { accessFlags := 2, nameIndex := 56, descriptorIndex := 50, attributes := #[] }, { accessFlags := 2, nameIndex := 59, descriptorIndex := 50, attributes := #[] }, { accessFlags := 18, nameIndex := 29, descriptorIndex := 17, attributes := #[] }, { accessFlags := 18, nameIndex := 32, descriptorIndex := 17, attributes := #[] }])
  fields := #[{ name := "CODIGOS", type := .int, accessFlags := 25, slot := 0, constantValue := 0 }, { name := "nossoNumero", type := (.object "com/example/compensa/compensa/comum/Texto"), accessFlags := 18, slot := 0, constantValue := 0 }, { name := "codigo", type := .int, accessFlags := 2, slot := 1, constantValue := 0 }, { name := "nome", type := (.object "java/lang/String"), accessFlags := 2, slot := 2, constantValue := 0 }, { name := "data", type := (.object "com/example/compensa/compensa/comum/Texto"), accessFlags := 18, slot := 3, constantValue := 0 }, { name := "documento", type := (.object "com/example/compensa/compensa/comum/Texto"), accessFlags := 18, slot := 4, constantValue := 0 }, { name := "vencimento", type := (.object "com/example/compensa/compensa/comum/Texto"), accessFlags := 18, slot := 5, constantValue := 0 }, { name := "valor", type := .long, accessFlags := 2, slot := 6, constantValue := 0 }, { name := "tarifa", type := .long, accessFlags := 2, slot := 7, constantValue := 0 }, { name := "pago", type := .long, accessFlags := 2, slot := 8, constantValue := 0 }, { name := "juros", type := .long, accessFlags := 2, slot := 9, constantValue := 0 }, { name := "credito", type := (.object "com/example/compensa/compensa/comum/Texto"), accessFlags := 18, slot := 10, constantValue := 0 }, { name := "motivos", type := (.object "com/example/compensa/compensa/comum/Texto"), accessFlags := 18, slot := 11, constantValue := 0 }]
  methods := #[k2m0, k2m1, k2m2, k2m3, k2m4, k2m5, k2m6, k2m7]
  instanceTypes := #[(.object "com/example/compensa/compensa/comum/Texto"), .int, (.object "java/lang/String"), (.object "com/example/compensa/compensa/comum/Texto"), (.object "com/example/compensa/compensa/comum/Texto"), (.object "com/example/compensa/compensa/comum/Texto"), .long, .long, .long, .long, (.object "com/example/compensa/compensa/comum/Texto"), (.object "com/example/compensa/compensa/comum/Texto")]
  staticTypes := #[.int]
  resolved := Array.replicate 84 none
  statics := none }

def pool3 : Array CpInfo := pool [(2, .class_ 4), (1, u "java/lang/CharSequence"), (42, .class_ 48), (0, u "java/lang/CharSequence$1CodePointIterator"), (10, .class_ 60), (0, u "java/lang/CharSequence$1CharIterator"), (5, .class_ 67), (0, u "java/lang/Object")] 63

/-- java/lang/CharSequence -/
def k3 : Class := { plain "java/lang/CharSequence" (some 0) with
  accessFlags := 1537
  interfaces := #[]
  cf := some (fileOf pool3 2 #[.nestMembers #[47, 59]] #[] 1537 66 #[] #[])
  fields := #[]
  methods := #[]
  instanceTypes := #[]
  staticTypes := #[]
  resolved := Array.replicate 131 none
  statics := none }

def pool4 : Array CpInfo := pool [(1, .methodref 2 3), (0, .class_ 4), (0, .nameAndType 5 6), (0, u "java/lang/Object"), (0, u "<init>"), (0, u "()V"), (0, .fieldref 8 9), (0, .class_ 10), (0, .nameAndType 11 12), (0, u "com/example/compensa/compensa/comum/Texto"), (0, u "caracteres"), (0, u "[C"), (2, u "tamanho"), (0, u "I"), (3, u "(I)V"), (11, .class_ 33), (0, u "java/lang/CharSequence")] 109

def k4c0 : Code := { maxStack := 2, maxLocals := 2, code := prog_68_method_1_code, exceptionTable := #[], attributes := #[] }
def k4m0 : Method := { name := "<init>", desc := "(I)V", sig := { parameters := [.int], returnType := none }, accessFlags := 1, code := some k4c0 }
/-- com/example/compensa/compensa/comum/Texto -/
def k4 : Class := { plain "com/example/compensa/compensa/comum/Texto" (some 0) with
  accessFlags := 49
  interfaces := #[3]
  cf := some (fileOf pool4 8 #[] #[{ accessFlags := 1, nameIndex := 5, descriptorIndex := 20, attributes := #[] }] 49 2 #[32] #[{ accessFlags := 2, nameIndex := 11, descriptorIndex := 12, attributes := #[] }, { accessFlags := 2, nameIndex := 15, descriptorIndex := 16, attributes := #[] }])
  fields := #[{ name := "caracteres", type := (.array .char), accessFlags := 2, slot := 0, constantValue := 0 }, { name := "tamanho", type := .int, accessFlags := 2, slot := 1, constantValue := 0 }]
  methods := #[k4m0]
  instanceTypes := #[(.array .char), .int]
  staticTypes := #[]
  resolved := Array.replicate 143 none
  statics := none }

def pool5 : Array CpInfo := pool [(1, u "java/lang/Cloneable"), (0, .class_ 1), (0, u "java/lang/Object"), (0, .class_ 3)] 3

/-- java/lang/Cloneable -/
def k5 : Class := { plain "java/lang/Cloneable" (some 0) with
  accessFlags := 1537
  interfaces := #[]
  cf := some (fileOf pool5 2 #[] #[] 1537 4 #[] #[])
  fields := #[]
  methods := #[]
  instanceTypes := #[]
  staticTypes := #[]
  resolved := Array.replicate 8 none
  statics := none }

def pool6 : Array CpInfo := pool [(1, u "java/io/Serializable"), (0, .class_ 1), (0, u "java/lang/Object"), (0, .class_ 3)] 3

/-- java/io/Serializable -/
def k6 : Class := { plain "java/io/Serializable" (some 0) with
  accessFlags := 1537
  interfaces := #[]
  cf := some (fileOf pool6 2 #[] #[] 1537 4 #[] #[])
  fields := #[]
  methods := #[]
  instanceTypes := #[]
  staticTypes := #[]
  resolved := Array.replicate 8 none
  statics := none }

/-- the primitive byte -/
def k7 : Class := { plain "byte" none with kind := .primitive 'B', accessFlags := 0x411 }
/-- [B -/
def k8 : Class := { plain "[B" (some 0) with kind := .array 7 .byte, interfaces := #[5, 6], accessFlags := 1041 }

/-- the primitive char -/
def k9 : Class := { plain "char" none with kind := .primitive 'C', accessFlags := 0x411 }
/-- [C -/
def k10 : Class := { plain "[C" (some 0) with kind := .array 9 .char, interfaces := #[5, 6], accessFlags := 1041 }

/-- the primitive int -/
def k11 : Class := { plain "int" none with kind := .primitive 'I', accessFlags := 0x411 }
/-- [I -/
def k12 : Class := { plain "[I" (some 0) with kind := .array 11 .int, interfaces := #[5, 6], accessFlags := 1041 }

def heap : Heap := #[]
def classes : Array Class := #[k0, k1, k2, k3, k4, k5, k6, k7, k8, k9, k10, k11, k12]
def interned : List (Array UInt16 × Addr) := []
def slotsUsed : Nat := 0
def theMethod : MethodId := ⟨1, 1⟩
def args0 : Array Value := #[.long 5, .long 5, .long 5, .long 5]
def aboutOver (below : List Frame) : State where
  vm := { classes := classes, interned := interned.toArray }
  heap := heap
  slotsUsed := slotsUsed
  threads := #[{ frames := .invoking theMethod args0 :: below }]
def below0 : List Frame := [.native { method := ⟨0, 0⟩, args := #[] }]
def about1 : State := aboutOver below0
def p0 : Program := .bare "" "" ""
def e0 : Env := launch0.env 0 0 0
theorem w_frames : about1.frames = Frame.invoking theMethod args0 :: below0 := rfl
set_option maxRecDepth 65536 in
theorem w_args : argsFit about1.vm theMethod args0 = true := by decide +kernel
set_option maxRecDepth 65536 in
theorem w_heap : heapFits about1 = true := by decide +kernel
set_option maxRecDepth 65536 in
theorem w_runnable : about1.curStatus? = some .runnable := by decide +kernel
set_option maxRecDepth 65536 in
theorem w_alone : about1.alone = true := by decide +kernel
set_option maxRecDepth 65536 in
theorem w_named : about1.methodNamed? x = some theMethod := by decide +kernel
set_option maxRecDepth 65536 in
theorem w_hears : about1.hears theMethod below0 = true := by decide +kernel
set_option maxRecDepth 65536 in
theorem w_ripe : about1.ripe theMethod args0 below0 = true := by decide +kernel
theorem w_running : about1.status = .running := rfl
set_option maxRecDepth 65536 in
theorem w_room : about1.hasRoom e0.platform room_1 = true :=
  launch0.hasRoom_least _ room_1 (by decide +kernel) (by decide +kernel) (by decide +kernel) (by decide +kernel) (by decide +kernel) (by decide +kernel)
theorem allAtoms_all (ts : List Jvm.Cond) (a : Array Jvm.Value) (st : Jvm.State) : (allAtoms ts).before a st = ts.all (fun c => c.before a st) := by
  induction ts with
  | nil => rfl
  | cons c t ih =>
    show (Jvm.Cond.and c (allAtoms t)).before a st = _
    rw [Jvm.Cond.before_and, ih, List.all_cons]
def words1 : List Jvm.Cond := Jvm.Cond.code x code maxLocals ret :: tables_1
/-- a 'code' word, met by the world's own term for the bytes: nothing is compared byte by byte -/
theorem code_word {y : MethodName} {bytes : ByteArray} {mx : Nat} {rt : Option FieldType} {a : Array Value} {s : State} {m : MethodId} {meth : Method} {c : Code} (h1 : s.methodNamed? y = some m) (h2 : s.vm.method? m = some meth) (h3 : meth.code = some c) (h4 : c.code = bytes)
    (h5 : (c.maxLocals == mx && c.exceptionTable.isEmpty && decide (c.maxStack ≤ mostOperands) && decide (meth.sig.returnType = rt) && !meth.locks && decide (parseMethodDescriptor y.desc = some meth.sig)) = true) : (Jvm.Cond.code y bytes mx rt).before a s = true := by
  simp only [Bool.and_eq_true, beq_iff_eq, Bool.not_eq_true', decide_eq_true_eq] at h5
  obtain ⟨⟨⟨⟨⟨g1, g2⟩, g3⟩, g4⟩, g5⟩, g6⟩ := h5
  simp [Cond.before, Cond.holds, Cond.value, h1, h2, h3, h4, g1, g2, g3, g4, g5, g6]
def isCode : Jvm.Cond → Bool
  | .code _ _ _ _ => true
  | _ => false
theorem all_split {L : List Jvm.Cond} {P : Jvm.Cond → Bool} (h1 : L.all (fun c => isCode c || P c) = true) (h2 : ∀ c ∈ L.filter isCode, P c = true) : L.all P = true := by
  refine List.all_eq_true.mpr fun c hc => ?_
  have h := List.all_eq_true.mp h1 c hc
  rcases Bool.eq_false_or_eq_true (isCode c) with hi | hi
  · exact h2 c (List.mem_filter.mpr ⟨hc, hi⟩)
  · simpa [hi] using h
set_option maxRecDepth 65536 in
theorem w_c0 : (Jvm.Cond.code x code maxLocals ret).before args0 about1 = true := code_word (m := ⟨1, 1⟩) (meth := k1m1) (c := k1c1) (by decide +kernel) rfl rfl rfl (by decide +kernel)
set_option maxRecDepth 65536 in
theorem w_c1 : (Jvm.Cond.code ({ cls := "com/example/compensa/compensa/banco/LeiauteDeRetorno$Ocorrencia", name := "<init>", desc := "()V" } : Jvm.MethodName) prog_37_method_1_code (1 : Nat) (Option.none : Option Jvm.ClassFile.FieldType)).before args0 about1 = true := code_word (m := ⟨2, 0⟩) (meth := k2m0) (c := k2c0) (by decide +kernel) rfl rfl rfl (by decide +kernel)
set_option maxRecDepth 65536 in
theorem w_c2 : (Jvm.Cond.code ({ cls := "java/lang/Object", name := "<init>", desc := "()V" } : Jvm.MethodName) object_method_1_code (1 : Nat) (Option.none : Option Jvm.ClassFile.FieldType)).before args0 about1 = true := code_word (m := ⟨0, 0⟩) (meth := k0m0) (c := k0c0) (by decide +kernel) rfl rfl rfl (by decide +kernel)
set_option maxRecDepth 65536 in
theorem w_c3 : (Jvm.Cond.code ({ cls := "com/example/compensa/compensa/comum/Texto", name := "<init>", desc := "(I)V" } : Jvm.MethodName) prog_68_method_1_code (2 : Nat) (Option.none : Option Jvm.ClassFile.FieldType)).before args0 about1 = true := code_word (m := ⟨4, 0⟩) (meth := k4m0) (c := k4c0) (by decide +kernel) rfl rfl rfl (by decide +kernel)
set_option maxRecDepth 65536 in
theorem w_c4 : (Jvm.Cond.code ({ cls := "com/example/compensa/compensa/banco/LeiauteDeRetorno$Ocorrencia", name := "valores", desc := "(JJJJ)V" } : Jvm.MethodName) prog_37_method_13_code (9 : Nat) (Option.none : Option Jvm.ClassFile.FieldType)).before args0 about1 = true := code_word (m := ⟨2, 7⟩) (meth := k2m7) (c := k2c7) (by decide +kernel) rfl rfl rfl (by decide +kernel)
set_option maxRecDepth 65536 in
theorem w_c5 : (Jvm.Cond.code ({ cls := "com/example/compensa/compensa/banco/LeiauteDeRetorno$Ocorrencia", name := "valor", desc := "()J" } : Jvm.MethodName) prog_37_method_9_code (1 : Nat) (Option.some Jvm.ClassFile.FieldType.long)).before args0 about1 = true := code_word (m := ⟨2, 3⟩) (meth := k2m3) (c := k2c3) (by decide +kernel) rfl rfl rfl (by decide +kernel)
set_option maxRecDepth 65536 in
theorem w_c6 : (Jvm.Cond.code ({ cls := "com/example/compensa/compensa/banco/LeiauteDeRetorno$Ocorrencia", name := "tarifa", desc := "()J" } : Jvm.MethodName) prog_37_method_10_code (1 : Nat) (Option.some Jvm.ClassFile.FieldType.long)).before args0 about1 = true := code_word (m := ⟨2, 4⟩) (meth := k2m4) (c := k2c4) (by decide +kernel) rfl rfl rfl (by decide +kernel)
set_option maxRecDepth 65536 in
theorem w_c7 : (Jvm.Cond.code ({ cls := "com/example/compensa/compensa/banco/LeiauteDeRetorno$Ocorrencia", name := "pago", desc := "()J" } : Jvm.MethodName) prog_37_method_11_code (1 : Nat) (Option.some Jvm.ClassFile.FieldType.long)).before args0 about1 = true := code_word (m := ⟨2, 5⟩) (meth := k2m5) (c := k2c5) (by decide +kernel) rfl rfl rfl (by decide +kernel)
set_option maxRecDepth 65536 in
theorem w_c8 : (Jvm.Cond.code ({ cls := "com/example/compensa/compensa/banco/LeiauteDeRetorno$Ocorrencia", name := "juros", desc := "()J" } : Jvm.MethodName) prog_37_method_12_code (1 : Nat) (Option.some Jvm.ClassFile.FieldType.long)).before args0 about1 = true := code_word (m := ⟨2, 6⟩) (meth := k2m6) (c := k2c6) (by decide +kernel) rfl rfl rfl (by decide +kernel)
set_option maxRecDepth 65536 in
theorem w_c9 : (Jvm.Cond.code ({ cls := "com/example/compensa/compensa/banco/LeiauteDeRetorno$Ocorrencia", name := "codigo", desc := "()I" } : Jvm.MethodName) prog_37_method_3_code (1 : Nat) (Option.some Jvm.ClassFile.FieldType.int)).before args0 about1 = true := code_word (m := ⟨2, 1⟩) (meth := k2m1) (c := k2c1) (by decide +kernel) rfl rfl rfl (by decide +kernel)
set_option maxRecDepth 65536 in
theorem w_c10 : (Jvm.Cond.code ({ cls := "com/example/compensa/compensa/banco/LeiauteDeRetorno$Ocorrencia", name := "nome", desc := "()Ljava/lang/String;" } : Jvm.MethodName) prog_37_method_5_code (1 : Nat) (Option.some (Jvm.ClassFile.FieldType.object "java/lang/String"))).before args0 about1 = true := code_word (m := ⟨2, 2⟩) (meth := k2m2) (c := k2c2) (by decide +kernel) rfl rfl rfl (by decide +kernel)
def codes1 : List Jvm.Cond := [Jvm.Cond.code x code maxLocals ret, Jvm.Cond.code ({ cls := "com/example/compensa/compensa/banco/LeiauteDeRetorno$Ocorrencia", name := "<init>", desc := "()V" } : Jvm.MethodName) prog_37_method_1_code (1 : Nat) (Option.none : Option Jvm.ClassFile.FieldType), Jvm.Cond.code ({ cls := "java/lang/Object", name := "<init>", desc := "()V" } : Jvm.MethodName) object_method_1_code (1 : Nat) (Option.none : Option Jvm.ClassFile.FieldType), Jvm.Cond.code ({ cls := "com/example/compensa/compensa/comum/Texto", name := "<init>", desc := "(I)V" } : Jvm.MethodName) prog_68_method_1_code (2 : Nat) (Option.none : Option Jvm.ClassFile.FieldType), Jvm.Cond.code ({ cls := "com/example/compensa/compensa/banco/LeiauteDeRetorno$Ocorrencia", name := "valores", desc := "(JJJJ)V" } : Jvm.MethodName) prog_37_method_13_code (9 : Nat) (Option.none : Option Jvm.ClassFile.FieldType), Jvm.Cond.code ({ cls := "com/example/compensa/compensa/banco/LeiauteDeRetorno$Ocorrencia", name := "valor", desc := "()J" } : Jvm.MethodName) prog_37_method_9_code (1 : Nat) (Option.some Jvm.ClassFile.FieldType.long), Jvm.Cond.code ({ cls := "com/example/compensa/compensa/banco/LeiauteDeRetorno$Ocorrencia", name := "tarifa", desc := "()J" } : Jvm.MethodName) prog_37_method_10_code (1 : Nat) (Option.some Jvm.ClassFile.FieldType.long), Jvm.Cond.code ({ cls := "com/example/compensa/compensa/banco/LeiauteDeRetorno$Ocorrencia", name := "pago", desc := "()J" } : Jvm.MethodName) prog_37_method_11_code (1 : Nat) (Option.some Jvm.ClassFile.FieldType.long), Jvm.Cond.code ({ cls := "com/example/compensa/compensa/banco/LeiauteDeRetorno$Ocorrencia", name := "juros", desc := "()J" } : Jvm.MethodName) prog_37_method_12_code (1 : Nat) (Option.some Jvm.ClassFile.FieldType.long), Jvm.Cond.code ({ cls := "com/example/compensa/compensa/banco/LeiauteDeRetorno$Ocorrencia", name := "codigo", desc := "()I" } : Jvm.MethodName) prog_37_method_3_code (1 : Nat) (Option.some Jvm.ClassFile.FieldType.int), Jvm.Cond.code ({ cls := "com/example/compensa/compensa/banco/LeiauteDeRetorno$Ocorrencia", name := "nome", desc := "()Ljava/lang/String;" } : Jvm.MethodName) prog_37_method_5_code (1 : Nat) (Option.some (Jvm.ClassFile.FieldType.object "java/lang/String"))]
set_option maxRecDepth 65536 in
theorem codes_eq : words1.filter isCode = codes1 := rfl
theorem w_codes : ∀ c ∈ words1.filter isCode, c.before args0 about1 = true := by
  rw [codes_eq]
  intro c hc
  simp only [codes1, List.mem_cons, List.not_mem_nil, or_false] at hc
  rcases hc with rfl | rfl | rfl | rfl | rfl | rfl | rfl | rfl | rfl | rfl | rfl
  · exact w_c0
  · exact w_c1
  · exact w_c2
  · exact w_c3
  · exact w_c4
  · exact w_c5
  · exact w_c6
  · exact w_c7
  · exact w_c8
  · exact w_c9
  · exact w_c10
set_option maxRecDepth 65536 in
theorem w_t1 : (words1.take 24).all (fun c => isCode c || c.before args0 about1) = true := by decide +kernel
set_option maxRecDepth 65536 in
theorem w_t2 : ((words1.drop 24).take 24).all (fun c => isCode c || c.before args0 about1) = true := by decide +kernel
set_option maxRecDepth 65536 in
theorem w_t3 : (((words1.drop 24).drop 24).take 24).all (fun c => isCode c || c.before args0 about1) = true := by decide +kernel
set_option maxRecDepth 65536 in
theorem w_t4 : (((words1.drop 24).drop 24).drop 24).all (fun c => isCode c || c.before args0 about1) = true := by decide +kernel
theorem w_tables : (allAtoms (Jvm.Cond.code x code maxLocals ret :: tables_1)).before args0 about1 = true := by
  rw [allAtoms_all]
  show words1.all (fun c => c.before args0 about1) = true
  refine all_split ?_ w_codes
  rw [← List.take_append_drop 24 words1, List.all_append, w_t1, ← List.take_append_drop 24 (words1.drop 24), List.all_append, w_t2, ← List.take_append_drop 24 ((words1.drop 24).drop 24), List.all_append, w_t3, w_t4]
  rfl
set_option maxRecDepth 65536 in
theorem w_case : (Jvm.Cond.and given_1 narrow_1).before args0 about1 = true := by decide +kernel
theorem w_applies : (headSpec (Jvm.Cond.code x code maxLocals ret :: tables_1) room_1).applies x e0.platform about1 = true :=
  (Spec.applies_iff w_frames).mpr ⟨w_running, w_runnable, w_alone, w_named, w_hears, w_ripe, w_room, w_tables⟩
theorem atStart : AtStart classFile x code maxLocals ret World_1 tables_1 room_1 Calls_1 rest_1 Pre_1 launch0 p0 e0 about1 theMethod args0 below0 :=
  ⟨lists_1, trivial, launch0.admits_env _ _ _, launch0.least_env, fairChoices_fair.cas, fairChoices_fair.clock, w_frames, w_args, w_heap, w_applies, trivial, trivial, w_case⟩
end start1
theorem witness_1 : WitnessClaimed_1 := ⟨start1.p0, start1.e0, start1.about1, start1.theMethod, start1.args0, start1.below0, start1.atStart⟩
end Jvm.Pilot.@@N@@
