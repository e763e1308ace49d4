import JvmDerived
import JvmDerived.Pilot.@@N@@Statement
import JvmDerived.Pilot.@@N@@Code
set_option linter.unusedVariables false
set_option linter.unusedSimpArgs false
namespace Jvm.RoadKit
open Sem ClassFile Op Lib Jvm.Stand Jvm.Free Jvm.LawKit
section New
variable {p : Program} {l : Launch} {e : Env} {R : Room} {s : State} {m : MethodId} {args : Array Value} {below : List Frame} {meth : Method} {c : Code} {T : State} {locs : List Loc} {cells slots : Nat}
theorem retI (X : Stand p l e R s m args below meth c T locs cells slots) (hx : p.tables.exec = Jvm.exec) {pc : Nat} {Ls : Array Slot} {z : Int32} {rest : List Value} (hret : meth.sig.returnType = some .int) (hd : decode c.code pc = .ok (.ireturn, 1)) {fs : List Frame}
    (hl : ∀ (f : JFrame) (acts : List Action), f.method = m → f.locked = none → f.entered = [] → (doReturn e (T.setTop f) acts (some (.int z))).1 = T.setFrames fs) : Steps p.tables e below (T.setTop (mkF m pc Ls (.int z :: rest))) (T.setFrames fs) := by
  have hm' : T.vm.method? m = some meth := X.method'
  have hn : narrow .int (.int z) = .int z := rfl
  show Steps p.tables e below (T.setTop { method := m, pc := pc, locals := Ls, stack := _ :: rest, locked := none }) _
  jvm_step X.here [X.here.top, hx, hd, hm', hret, hn]
  first | (intro acts; rw [hl _ acts rfl rfl rfl]) | rw [hl _ _ rfl rfl rfl]
  exact Steps.refl _
end New
end Jvm.RoadKit
namespace Jvm.Pilot.@@N@@
open Jvm Jvm.ClassFile Sem Op Lib Jvm.Free Jvm.Stand Jvm.LawKit Jvm.RoadKit Bundle Jvm.Pilot.@@N@@.Jvm.D
theorem own_staKeep {Z : State} {h h' : Heap} {C n d : String} {v : Value} {ws : List Addr} (F : Sta Z h C n d v) (K : Keep h h' ws) (q : ∀ x ∈ ws, ∀ c : Cell, h[x]? = some c → c.vm.isStatics = false) : Sta Z h' C n d v := by
  obtain ⟨cf, i, k, f, st, cell, h1, h2, h3, h4, h5, h6, h7⟩ := F
  refine ⟨cf, i, k, f, st, cell, h1, h2, h3, h4, K.2.1 st cell h5 (fun m => ?_), h6, h7⟩
  have w := q st m cell h5
  rw [h6] at w
  cases w
theorem own_plainE {Z : State} {h : Heap} {a : Addr} {C : String} (F : Exa Z h a C) : ∀ c : Cell, h[a]? = some c → c.vm.isStatics = false := fun c hc => by
  obtain ⟨cell, k, h1, h2, h3, h4, -⟩ := F
  cases h1.symm.trans hc
  exact h4
theorem own_plainV {Z : State} {h : Heap} {a : Addr} {k : ClassId} {ty : FieldType} {n : Int32} {vs : List Value} {d : Value} (F : Arv Z h a k ty n vs d) : ∀ c : Cell, h[a]? = some c → c.vm.isStatics = false := fun c hc => by
  obtain ⟨cell, A, -⟩ := F
  cases A.1.symm.trans hc
  exact A.plain
theorem own_arrKeep {Z : State} {h h' : Heap} {a : Addr} {c : Cell} {ty : FieldType} {ws : List Addr} (F : Arr Z h a c ty) (K : Keep h h' ws) (q : a ∉ ws) : Arr Z h' a c ty := ⟨K.2.1 a c F.1 q, F.2⟩
theorem own_insKeep {Z : State} {h h' : Heap} {a : Addr} {C : String} {b : Bool} {ws : List Addr} (F : Ins Z h a C b) (K : Keep h h' ws) : Ins Z h' a C b := by
  obtain ⟨cell, cT, h1, h2, h3⟩ := F
  obtain ⟨c', q1, q2, q3, -⟩ := K.2.2 a cell h1
  exact ⟨c', cT, q1, h2, by rw [q2, q3]; exact h3⟩
theorem pn_0 : plainName "com/example/tapewire/tapewire/model/RecordTypeOfCodePinLaw" = true := by first | (simp [plainName, overriddenIn]; done) | decide +kernel
theorem d1_0 : decode method_2_code 0 = .ok (.iload_n 0, 1) := by decide +kernel
theorem d1_1 : decode method_2_code 1 = .ok (.iconst 1, 1) := by decide +kernel
theorem d1_2 : decode method_2_code 2 = .ok (.if_icmp .ne 7, 3) := by decide +kernel
theorem d1_5 : decode method_2_code 5 = .ok (.getstatic 7, 3) := by decide +kernel
theorem d1_8 : decode method_2_code 8 = .ok (.areturn, 1) := by decide +kernel
theorem ef_1_1 (m : MethodId)  : entryFrame m #[(.int (1 : Int32))] 1 = mkF m 0 #[.val (.int (1 : Int32))] [] := by first | (simp [entryFrame, mkF, argsToLocals, Value.category]; done) | rfl
def Q1_1 (Z : State) (t1 : Addr) (h0 : Heap) (n0 : Nat) (v : Option Value) (h : Heap) (L : List Loc) : Prop := v = some (.ref t1) ∧ Fr n0 L ∧ h = h0
set_option maxRecDepth 65536 in
set_option maxHeartbeats 40000000 in
theorem rm1_1 (l : Launch) (Z : State) (a0 : Array Value) (hw : ∀ d ∈ tables_1, d.before a0 Z = true) (ws : List Jvm.Cond) (t1 : Addr) (h0 : Heap) (n0 : Nat) (Z0 : n0 ≤ h0.size) (HS0 : Sta Z h0 "com/example/tapewire/tapewire/model/RecordType" "TRADE" "Lcom/example/tapewire/tapewire/model/RecordType;" (.ref t1)) :
    MetFree l (⟨"com/example/tapewire/tapewire/model/RecordTypeOfCodePinLaw", "expected", "(I)Lcom/example/tapewire/tapewire/model/RecordType;"⟩ : MethodName) (head1 (Jvm.Cond.code (⟨"com/example/tapewire/tapewire/model/RecordTypeOfCodePinLaw", "expected", "(I)Lcom/example/tapewire/tapewire/model/RecordType;"⟩ : MethodName) method_2_code 1 (some (.object "com/example/tapewire/tapewire/model/RecordType")) :: ws) ({ frames := 0, cells := 0, slots := 0, locals := 0 } : Room)) (fun a U => a = #[(.int (1 : Int32))] ∧ Z.Warmed39 U.vm ∧ U.heap = h0) (fun _ _ _ _ _ => True) (fun _ U o U' => ∃ v L, o = .returned v ∧ Q1_1 Z t1 h0 n0 v U'.heap L ∧ FrameEnd U o U' L ({ frames := 0, cells := 0, slots := 0, locals := 0 } : Room).cells ({ frames := 0, cells := 0, slots := 0, locals := 0 } : Room).slots) := by
  refine MetFree.of_bodySF (plainFor_of_name pn_0) hisR ?_
  intro p e s m args below meth c s₁ Bd hml0 hP hK
  obtain ⟨rfl, hZ, hh⟩ := hP
  have hx := Bd.exec
  have hby := Bd.bytes
  have hml : c.maxLocals = 1 := hml0
  have hown : s.vm.findClass "com/example/tapewire/tapewire/model/RecordTypeOfCodePinLaw" = some m.cls := findClass_of_methodNamed Bd.named
  have hnm := (name_of_methodNamed Bd.named Bd.method).1
  have X0 : Stand p l e ({ frames := 0, cells := 0, slots := 0, locals := 0 } : Room) s m #[(.int (1 : Int32))] below meth c s₁ [] 0 0 := Stand.of_body Bd
  have e0 : s₁.heap = h0 := by rw [← hh, Bd.state]; rfl
  have N0 := Fr.nil n0
  have pre0 : ∀ t, Steps p.tables e below (s₁.setTop (mkF m 0 #[.val (.int (1 : Int32))] [])) t → Steps p.tables e below (s₁.setTop (entryFrame m #[(.int (1 : Int32))] 1)) t := fun t k => castTop (ef_1_1 m ) k
  obtain ⟨T1, X1, e1, st1⟩ := getS2 X0 hx hZ hown (host := "") (Or.inl (hw _ (List.mem_of_getElem? (i := 5) rfl))) Via.refl e0 HS0 (g := (mkF m 5 #[.val (.int (1 : Int32))] [])) rfl (hb hby d1_5)
  obtain ⟨fs, hr, hrun, hended, hW, hsame⟩ := X1.leave (v := some (.ref t1)) (fun h => by rw [Bd.returns] at h; cases h)
  refine ⟨_, _, pre0 _ ?_, hrun, hended, _, _, rfl, ?_, ⟨_, rfl⟩, hW, hsame.mono (by decide) (by decide)⟩
  · show Steps p.tables e below (s₁.setTop (mkF m 0 #[.val (.int (1 : Int32))] [])) _
    refine XS.iloadN X0.here hx rfl (hb hby d1_0) rfl ?_
    show Steps p.tables e below (s₁.setTop (mkF m 1 #[.val (.int (1 : Int32))] [(.int (1 : Int32))])) _
    refine XS.iconst X0.here hx rfl (hb hby d1_1) ?_
    show Steps p.tables e below (s₁.setTop (mkF m 2 #[.val (.int (1 : Int32))] [(.int (1 : Int32)), (.int (1 : Int32))])) _
    refine XS.icmpNo X0.here hx rfl (hb hby d1_2) rfl (teq (by decide : (1 : Int32) = (1 : Int32))).2 ?_
    show Steps p.tables e below (s₁.setTop (mkF m 5 #[.val (.int (1 : Int32))] [])) _
    refine st1 _ ?_
    show Steps p.tables e below (T1.setTop (mkF m 8 #[.val (.int (1 : Int32))] [(.ref t1)])) _
    exact retOut X1 hx Bd.returns rfl (Or.inr (Or.inr (Or.inr (Or.inr ⟨rfl, rfl, rfl⟩)))) (hb hby d1_8) hr
  · show Q1_1 Z t1 h0 n0 _ T1.heap _
    rw [e1]
    exact ⟨rfl, N0, rfl⟩
theorem d1_9 : decode method_2_code 9 = .ok (.iload_n 0, 1) := by decide +kernel
theorem d1_10 : decode method_2_code 10 = .ok (.iconst 2, 1) := by decide +kernel
theorem d1_11 : decode method_2_code 11 = .ok (.if_icmp .ne 7, 3) := by decide +kernel
theorem d1_14 : decode method_2_code 14 = .ok (.getstatic 13, 3) := by decide +kernel
theorem d1_17 : decode method_2_code 17 = .ok (.areturn, 1) := by decide +kernel
theorem ef_1_2 (m : MethodId)  : entryFrame m #[(.int (2 : Int32))] 1 = mkF m 0 #[.val (.int (2 : Int32))] [] := by first | (simp [entryFrame, mkF, argsToLocals, Value.category]; done) | rfl
def Q1_2 (Z : State) (t2 : Addr) (h0 : Heap) (n0 : Nat) (v : Option Value) (h : Heap) (L : List Loc) : Prop := v = some (.ref t2) ∧ Fr n0 L ∧ h = h0
set_option maxRecDepth 65536 in
set_option maxHeartbeats 40000000 in
theorem rm1_2 (l : Launch) (Z : State) (a0 : Array Value) (hw : ∀ d ∈ tables_1, d.before a0 Z = true) (ws : List Jvm.Cond) (t2 : Addr) (h0 : Heap) (n0 : Nat) (Z0 : n0 ≤ h0.size) (HS0 : Sta Z h0 "com/example/tapewire/tapewire/model/RecordType" "QUOTE" "Lcom/example/tapewire/tapewire/model/RecordType;" (.ref t2)) :
    MetFree l (⟨"com/example/tapewire/tapewire/model/RecordTypeOfCodePinLaw", "expected", "(I)Lcom/example/tapewire/tapewire/model/RecordType;"⟩ : MethodName) (head1 (Jvm.Cond.code (⟨"com/example/tapewire/tapewire/model/RecordTypeOfCodePinLaw", "expected", "(I)Lcom/example/tapewire/tapewire/model/RecordType;"⟩ : MethodName) method_2_code 1 (some (.object "com/example/tapewire/tapewire/model/RecordType")) :: ws) ({ frames := 0, cells := 0, slots := 0, locals := 0 } : Room)) (fun a U => a = #[(.int (2 : Int32))] ∧ Z.Warmed39 U.vm ∧ U.heap = h0) (fun _ _ _ _ _ => True) (fun _ U o U' => ∃ v L, o = .returned v ∧ Q1_2 Z t2 h0 n0 v U'.heap L ∧ FrameEnd U o U' L ({ frames := 0, cells := 0, slots := 0, locals := 0 } : Room).cells ({ frames := 0, cells := 0, slots := 0, locals := 0 } : Room).slots) := by
  refine MetFree.of_bodySF (plainFor_of_name pn_0) hisR ?_
  intro p e s m args below meth c s₁ Bd hml0 hP hK
  obtain ⟨rfl, hZ, hh⟩ := hP
  have hx := Bd.exec
  have hby := Bd.bytes
  have hml : c.maxLocals = 1 := hml0
  have hown : s.vm.findClass "com/example/tapewire/tapewire/model/RecordTypeOfCodePinLaw" = some m.cls := findClass_of_methodNamed Bd.named
  have hnm := (name_of_methodNamed Bd.named Bd.method).1
  have X0 : Stand p l e ({ frames := 0, cells := 0, slots := 0, locals := 0 } : Room) s m #[(.int (2 : Int32))] below meth c s₁ [] 0 0 := Stand.of_body Bd
  have e0 : s₁.heap = h0 := by rw [← hh, Bd.state]; rfl
  have N0 := Fr.nil n0
  have pre0 : ∀ t, Steps p.tables e below (s₁.setTop (mkF m 0 #[.val (.int (2 : Int32))] [])) t → Steps p.tables e below (s₁.setTop (entryFrame m #[(.int (2 : Int32))] 1)) t := fun t k => castTop (ef_1_2 m ) k
  obtain ⟨T1, X1, e1, st1⟩ := getS2 X0 hx hZ hown (host := "") (Or.inl (hw _ (List.mem_of_getElem? (i := 36) rfl))) Via.refl e0 HS0 (g := (mkF m 14 #[.val (.int (2 : Int32))] [])) rfl (hb hby d1_14)
  obtain ⟨fs, hr, hrun, hended, hW, hsame⟩ := X1.leave (v := some (.ref t2)) (fun h => by rw [Bd.returns] at h; cases h)
  refine ⟨_, _, pre0 _ ?_, hrun, hended, _, _, rfl, ?_, ⟨_, rfl⟩, hW, hsame.mono (by decide) (by decide)⟩
  · show Steps p.tables e below (s₁.setTop (mkF m 0 #[.val (.int (2 : Int32))] [])) _
    refine XS.iloadN X0.here hx rfl (hb hby d1_0) rfl ?_
    show Steps p.tables e below (s₁.setTop (mkF m 1 #[.val (.int (2 : Int32))] [(.int (2 : Int32))])) _
    refine XS.iconst X0.here hx rfl (hb hby d1_1) ?_
    show Steps p.tables e below (s₁.setTop (mkF m 2 #[.val (.int (2 : Int32))] [(.int (1 : Int32)), (.int (2 : Int32))])) _
    refine XS.icmpYes X0.here hx rfl (pc0 := 2) (pc' := 9) rfl (hb hby d1_2) rfl (feq (by decide : ¬ ((2 : Int32) = (1 : Int32)))).2 (by decide) (by decide) ?_
    show Steps p.tables e below (s₁.setTop (mkF m 9 #[.val (.int (2 : Int32))] [])) _
    refine XS.iloadN X0.here hx rfl (hb hby d1_9) rfl ?_
    show Steps p.tables e below (s₁.setTop (mkF m 10 #[.val (.int (2 : Int32))] [(.int (2 : Int32))])) _
    refine XS.iconst X0.here hx rfl (hb hby d1_10) ?_
    show Steps p.tables e below (s₁.setTop (mkF m 11 #[.val (.int (2 : Int32))] [(.int (2 : Int32)), (.int (2 : Int32))])) _
    refine XS.icmpNo X0.here hx rfl (hb hby d1_11) rfl (teq (by decide : (2 : Int32) = (2 : Int32))).2 ?_
    show Steps p.tables e below (s₁.setTop (mkF m 14 #[.val (.int (2 : Int32))] [])) _
    refine st1 _ ?_
    show Steps p.tables e below (T1.setTop (mkF m 17 #[.val (.int (2 : Int32))] [(.ref t2)])) _
    exact retOut X1 hx Bd.returns rfl (Or.inr (Or.inr (Or.inr (Or.inr ⟨rfl, rfl, rfl⟩)))) (hb hby d1_17) hr
  · show Q1_2 Z t2 h0 n0 _ T1.heap _
    rw [e1]
    exact ⟨rfl, N0, rfl⟩
theorem d1_18 : decode method_2_code 18 = .ok (.getstatic 16, 3) := by decide +kernel
theorem d1_21 : decode method_2_code 21 = .ok (.areturn, 1) := by decide +kernel
theorem ef_1_3 (m : MethodId)  : entryFrame m #[(.int (3 : Int32))] 1 = mkF m 0 #[.val (.int (3 : Int32))] [] := by first | (simp [entryFrame, mkF, argsToLocals, Value.category]; done) | rfl
def Q1_3 (Z : State) (t3 : Addr) (h0 : Heap) (n0 : Nat) (v : Option Value) (h : Heap) (L : List Loc) : Prop := v = some (.ref t3) ∧ Fr n0 L ∧ h = h0
set_option maxRecDepth 65536 in
set_option maxHeartbeats 40000000 in
theorem rm1_3 (l : Launch) (Z : State) (a0 : Array Value) (hw : ∀ d ∈ tables_1, d.before a0 Z = true) (ws : List Jvm.Cond) (t3 : Addr) (h0 : Heap) (n0 : Nat) (Z0 : n0 ≤ h0.size) (HS0 : Sta Z h0 "com/example/tapewire/tapewire/model/RecordType" "BAR" "Lcom/example/tapewire/tapewire/model/RecordType;" (.ref t3)) :
    MetFree l (⟨"com/example/tapewire/tapewire/model/RecordTypeOfCodePinLaw", "expected", "(I)Lcom/example/tapewire/tapewire/model/RecordType;"⟩ : MethodName) (head1 (Jvm.Cond.code (⟨"com/example/tapewire/tapewire/model/RecordTypeOfCodePinLaw", "expected", "(I)Lcom/example/tapewire/tapewire/model/RecordType;"⟩ : MethodName) method_2_code 1 (some (.object "com/example/tapewire/tapewire/model/RecordType")) :: ws) ({ frames := 0, cells := 0, slots := 0, locals := 0 } : Room)) (fun a U => a = #[(.int (3 : Int32))] ∧ Z.Warmed39 U.vm ∧ U.heap = h0) (fun _ _ _ _ _ => True) (fun _ U o U' => ∃ v L, o = .returned v ∧ Q1_3 Z t3 h0 n0 v U'.heap L ∧ FrameEnd U o U' L ({ frames := 0, cells := 0, slots := 0, locals := 0 } : Room).cells ({ frames := 0, cells := 0, slots := 0, locals := 0 } : Room).slots) := by
  refine MetFree.of_bodySF (plainFor_of_name pn_0) hisR ?_
  intro p e s m args below meth c s₁ Bd hml0 hP hK
  obtain ⟨rfl, hZ, hh⟩ := hP
  have hx := Bd.exec
  have hby := Bd.bytes
  have hml : c.maxLocals = 1 := hml0
  have hown : s.vm.findClass "com/example/tapewire/tapewire/model/RecordTypeOfCodePinLaw" = some m.cls := findClass_of_methodNamed Bd.named
  have hnm := (name_of_methodNamed Bd.named Bd.method).1
  have X0 : Stand p l e ({ frames := 0, cells := 0, slots := 0, locals := 0 } : Room) s m #[(.int (3 : Int32))] below meth c s₁ [] 0 0 := Stand.of_body Bd
  have e0 : s₁.heap = h0 := by rw [← hh, Bd.state]; rfl
  have N0 := Fr.nil n0
  have pre0 : ∀ t, Steps p.tables e below (s₁.setTop (mkF m 0 #[.val (.int (3 : Int32))] [])) t → Steps p.tables e below (s₁.setTop (entryFrame m #[(.int (3 : Int32))] 1)) t := fun t k => castTop (ef_1_3 m ) k
  obtain ⟨T1, X1, e1, st1⟩ := getS2 X0 hx hZ hown (host := "") (Or.inl (hw _ (List.mem_of_getElem? (i := 35) rfl))) Via.refl e0 HS0 (g := (mkF m 18 #[.val (.int (3 : Int32))] [])) rfl (hb hby d1_18)
  obtain ⟨fs, hr, hrun, hended, hW, hsame⟩ := X1.leave (v := some (.ref t3)) (fun h => by rw [Bd.returns] at h; cases h)
  refine ⟨_, _, pre0 _ ?_, hrun, hended, _, _, rfl, ?_, ⟨_, rfl⟩, hW, hsame.mono (by decide) (by decide)⟩
  · show Steps p.tables e below (s₁.setTop (mkF m 0 #[.val (.int (3 : Int32))] [])) _
    refine XS.iloadN X0.here hx rfl (hb hby d1_0) rfl ?_
    show Steps p.tables e below (s₁.setTop (mkF m 1 #[.val (.int (3 : Int32))] [(.int (3 : Int32))])) _
    refine XS.iconst X0.here hx rfl (hb hby d1_1) ?_
    show Steps p.tables e below (s₁.setTop (mkF m 2 #[.val (.int (3 : Int32))] [(.int (1 : Int32)), (.int (3 : Int32))])) _
    refine XS.icmpYes X0.here hx rfl (pc0 := 2) (pc' := 9) rfl (hb hby d1_2) rfl (feq (by decide : ¬ ((3 : Int32) = (1 : Int32)))).2 (by decide) (by decide) ?_
    show Steps p.tables e below (s₁.setTop (mkF m 9 #[.val (.int (3 : Int32))] [])) _
    refine XS.iloadN X0.here hx rfl (hb hby d1_9) rfl ?_
    show Steps p.tables e below (s₁.setTop (mkF m 10 #[.val (.int (3 : Int32))] [(.int (3 : Int32))])) _
    refine XS.iconst X0.here hx rfl (hb hby d1_10) ?_
    show Steps p.tables e below (s₁.setTop (mkF m 11 #[.val (.int (3 : Int32))] [(.int (2 : Int32)), (.int (3 : Int32))])) _
    refine XS.icmpYes X0.here hx rfl (pc0 := 11) (pc' := 18) rfl (hb hby d1_11) rfl (feq (by decide : ¬ ((3 : Int32) = (2 : Int32)))).2 (by decide) (by decide) ?_
    show Steps p.tables e below (s₁.setTop (mkF m 18 #[.val (.int (3 : Int32))] [])) _
    refine st1 _ ?_
    show Steps p.tables e below (T1.setTop (mkF m 21 #[.val (.int (3 : Int32))] [(.ref t3)])) _
    exact retOut X1 hx Bd.returns rfl (Or.inr (Or.inr (Or.inr (Or.inr ⟨rfl, rfl, rfl⟩)))) (hb hby d1_21) hr
  · show Q1_3 Z t3 h0 n0 _ T1.heap _
    rw [e1]
    exact ⟨rfl, N0, rfl⟩
theorem pn_1 : plainName "com/example/tapewire/tapewire/model/RecordType" = true := by first | (simp [plainName, overriddenIn]; done) | decide +kernel
theorem d3_0 : decode prog_57_method_1_code 0 = .ok (.getstatic 13, 3) := by decide +kernel
theorem d3_3 : decode prog_57_method_1_code 3 = .ok (.invokevirtual 17, 3) := by decide +kernel
theorem d3_6 : decode prog_57_method_1_code 6 = .ok (.checkcast 18, 3) := by decide +kernel
theorem d3_9 : decode prog_57_method_1_code 9 = .ok (.areturn, 1) := by decide +kernel
theorem ef_3 (m : MethodId)  : entryFrame m #[] 0 = mkF m 0 #[] [] := by first | (simp [entryFrame, mkF, argsToLocals, Value.category]; done) | rfl
def Q3 (Z : State) (aV : Addr) (kk : ClassId) (t1 : Addr) (t2 : Addr) (t3 : Addr) (h0 : Heap) (n0 : Nat) (v : Option Value) (h : Heap) (L : List Loc) : Prop := ∃ (b : Addr), v = some (.ref b) ∧ Fr n0 L ∧ Keep h0 h [] ∧ Arv Z h b kk (.object "com/example/tapewire/tapewire/model/RecordType") (3 : Int32) [(.ref t1), (.ref t2), (.ref t3)] .null
set_option maxRecDepth 65536 in
set_option maxHeartbeats 40000000 in
theorem rm3 (l : Launch) (Z : State) (a0 : Array Value) (hw : ∀ d ∈ tables_1, d.before a0 Z = true) (ws : List Jvm.Cond) (aV : Addr) (kk : ClassId) (t1 : Addr) (t2 : Addr) (t3 : Addr) (h0 : Heap) (n0 : Nat) (Z0 : n0 ≤ h0.size) (HS0 : Sta Z h0 "com/example/tapewire/tapewire/model/RecordType" "$VALUES" "[Lcom/example/tapewire/tapewire/model/RecordType;" (.ref aV)) (HV1 : Arv Z h0 aV kk (.object "com/example/tapewire/tapewire/model/RecordType") (3 : Int32) [(.ref t1), (.ref t2), (.ref t3)] .null) (HE2 : Exa Z h0 aV "[Lcom/example/tapewire/tapewire/model/RecordType;") :
    MetFree l (⟨"com/example/tapewire/tapewire/model/RecordType", "values", "()[Lcom/example/tapewire/tapewire/model/RecordType;"⟩ : MethodName) (head1 (Jvm.Cond.code (⟨"com/example/tapewire/tapewire/model/RecordType", "values", "()[Lcom/example/tapewire/tapewire/model/RecordType;"⟩ : MethodName) prog_57_method_1_code 0 (some (.array (.object "com/example/tapewire/tapewire/model/RecordType"))) :: ws) ({ frames := 1, cells := 1, slots := 3, locals := 14 } : Room)) (fun a U => a = #[] ∧ Z.Warmed39 U.vm ∧ U.heap = h0) (fun _ _ _ _ _ => True) (fun _ U o U' => ∃ v L, o = .returned v ∧ Q3 Z aV kk t1 t2 t3 h0 n0 v U'.heap L ∧ FrameEnd U o U' L ({ frames := 1, cells := 1, slots := 3, locals := 14 } : Room).cells ({ frames := 1, cells := 1, slots := 3, locals := 14 } : Room).slots) := by
  refine MetFree.of_bodySF (plainFor_of_name pn_1) hisR ?_
  intro p e s m args below meth c s₁ Bd hml0 hP hK
  obtain ⟨rfl, hZ, hh⟩ := hP
  have hx := Bd.exec
  have hby := Bd.bytes
  have hml : c.maxLocals = 0 := hml0
  have hown : s.vm.findClass "com/example/tapewire/tapewire/model/RecordType" = some m.cls := findClass_of_methodNamed Bd.named
  have hnm := (name_of_methodNamed Bd.named Bd.method).1
  have X0 : Stand p l e ({ frames := 1, cells := 1, slots := 3, locals := 14 } : Room) s m #[] below meth c s₁ [] 0 0 := Stand.of_body Bd
  have e0 : s₁.heap = h0 := by rw [← hh, Bd.state]; rfl
  have N0 := Fr.nil n0
  have pre0 : ∀ t, Steps p.tables e below (s₁.setTop (mkF m 0 #[] [])) t → Steps p.tables e below (s₁.setTop (entryFrame m #[] 0)) t := fun t k => castTop (ef_3 m ) k
  obtain ⟨T1, X1, e1, st1⟩ := getS2 X0 hx hZ hown (host := "") (Or.inl (hw _ (List.mem_of_getElem? (i := 14) rfl))) Via.refl e0 HS0 (g := (mkF m 0 #[] [])) rfl (hb hby d3_0)
  obtain ⟨T2, h2, X2, e2, E2, B2, A2, st2⟩ := cloneH X1 hx hZ hown (hw _ (List.mem_of_getElem? (i := 16) rfl)) (hw _ (List.mem_of_getElem? (i := 17) rfl)) (hw _ (List.mem_of_getElem? (i := 21) rfl)) (hw _ (List.mem_of_getElem? (i := 19) rfl)) (hw _ (List.mem_of_getElem? (i := 20) rfl)) (hw _ (List.mem_of_getElem? (i := 22) rfl)) e1 (Arv.arh HV1) HE2 (g := (mkF m 3 #[] [(.ref aV)])) rfl (by rw [hml]; rfl) rfl (hb hby d3_3) (by decide) (W := 0) (by show 2 * 0 + _ ≤ _; exact Nat.le_of_eq rfl) (by decide) (cap := 3) (by decide) (by decide) (by decide)
  obtain ⟨b2, g2⟩ : ∃ z, z = h0.size := ⟨_, rfl⟩
  rw [← g2] at A2 B2 st2
  have ne3 : aV ≠ b2 := Nat.ne_of_lt (Nat.lt_of_lt_of_le HV1.lt (Nat.le_of_eq g2.symm))
  have g_b2 : n0 ≤ b2 := Nat.le_trans Z0 (Nat.le_of_eq g2.symm)
  have sz_b2 : h0.size ≤ b2 := Nat.le_trans (Keep.refl h0 []).1 (Nat.le_of_eq g2.symm)
  have F4 : Sta Z h2 "com/example/tapewire/tapewire/model/RecordType" "$VALUES" "[Lcom/example/tapewire/tapewire/model/RecordType;" (.ref aV) := HS0.ext E2
  have F5 : Arv Z h2 aV kk (.object "com/example/tapewire/tapewire/model/RecordType") (3 : Int32) [(.ref t1), (.ref t2), (.ref t3)] .null := HV1.ext E2
  have F6 : Exa Z h2 aV "[Lcom/example/tapewire/tapewire/model/RecordType;" := HE2.ext E2
  have Z7 : n0 ≤ h2.size := Nat.le_trans Z0 E2.1
  have K8 : Keep h0 h2 [] := (Keep.refl h0 []).ext E2
  have V2 : Arv Z h2 b2 kk (.object "com/example/tapewire/tapewire/model/RecordType") (3 : Int32) [(.ref t1), (.ref t2), (.ref t3)] .null := B2
  obtain ⟨T9, X9, e9, st9⟩ := castY X2 hx hZ hown (hw _ (List.mem_of_getElem? (i := 26) rfl)) e2 (Ins.self A2) (g := (mkF m 6 #[] [(.ref b2)])) rfl rfl (hb hby d3_6)
  obtain ⟨fs, hr, hrun, hended, hW, hsame⟩ := X9.leave (v := some (.ref b2)) (fun h => by rw [Bd.returns] at h; cases h)
  refine ⟨_, _, pre0 _ ?_, hrun, hended, _, _, rfl, ?_, ⟨_, rfl⟩, hW, hsame.mono (by decide) (by decide)⟩
  · show Steps p.tables e below (s₁.setTop (mkF m 0 #[] [])) _
    refine st1 _ ?_
    show Steps p.tables e below (T1.setTop (mkF m 3 #[] [(.ref aV)])) _
    refine st2 _ ?_
    show Steps p.tables e below (T2.setTop (mkF m 6 #[] [(.ref b2)])) _
    refine st9 _ ?_
    show Steps p.tables e below (T9.setTop (mkF m 9 #[] [(.ref b2)])) _
    exact retOut X9 hx Bd.returns rfl (Or.inr (Or.inr (Or.inr (Or.inr ⟨rfl, rfl, rfl⟩)))) (hb hby d3_9) hr
  · show Q3 Z aV kk t1 t2 t3 h0 n0 _ T9.heap _
    rw [e9]
    exact ⟨b2, rfl, N0, K8, V2⟩
theorem d2_0 : decode prog_57_method_12_code 0 = .ok (.invokestatic 57, 3) := by decide +kernel
theorem pd_0 : parseMethodDescriptor "()[Lcom/example/tapewire/tapewire/model/RecordType;" = some ⟨[], some (.array (.object "com/example/tapewire/tapewire/model/RecordType"))⟩ := by decide +kernel
theorem d2_3 : decode prog_57_method_12_code 3 = .ok (.astore_n 1, 1) := by decide +kernel
theorem d2_4 : decode prog_57_method_12_code 4 = .ok (.aload_n 1, 1) := by decide +kernel
theorem d2_5 : decode prog_57_method_12_code 5 = .ok (.arraylength, 1) := by decide +kernel
theorem d2_6 : decode prog_57_method_12_code 6 = .ok (.istore_n 2, 1) := by decide +kernel
theorem d2_7 : decode prog_57_method_12_code 7 = .ok (.iconst 0, 1) := by decide +kernel
theorem d2_8 : decode prog_57_method_12_code 8 = .ok (.istore_n 3, 1) := by decide +kernel
theorem d2_9 : decode prog_57_method_12_code 9 = .ok (.iload_n 3, 1) := by decide +kernel
theorem d2_10 : decode prog_57_method_12_code 10 = .ok (.iload_n 2, 1) := by decide +kernel
theorem d2_11 : decode prog_57_method_12_code 11 = .ok (.if_icmp .ge 26, 3) := by decide +kernel
theorem d2_14 : decode prog_57_method_12_code 14 = .ok (.aload_n 1, 1) := by decide +kernel
theorem d2_15 : decode prog_57_method_12_code 15 = .ok (.iload_n 3, 1) := by decide +kernel
theorem d2_16 : decode prog_57_method_12_code 16 = .ok (.aaload, 1) := by decide +kernel
theorem d2_17 : decode prog_57_method_12_code 17 = .ok (.astore 4, 2) := by decide +kernel
theorem d2_19 : decode prog_57_method_12_code 19 = .ok (.aload 4, 2) := by decide +kernel
theorem d2_21 : decode prog_57_method_12_code 21 = .ok (.getfield 32, 3) := by decide +kernel
theorem d2_24 : decode prog_57_method_12_code 24 = .ok (.iload_n 0, 1) := by decide +kernel
theorem d2_25 : decode prog_57_method_12_code 25 = .ok (.if_icmp .ne 6, 3) := by decide +kernel
theorem d2_28 : decode prog_57_method_12_code 28 = .ok (.aload 4, 2) := by decide +kernel
theorem d2_30 : decode prog_57_method_12_code 30 = .ok (.areturn, 1) := by decide +kernel
theorem ef_2_1 (m : MethodId)  : entryFrame m #[(.int (1 : Int32))] 5 = mkF m 0 #[.val (.int (1 : Int32)), .unset, .unset, .unset, .unset] [] := by first | (simp [entryFrame, mkF, argsToLocals, Value.category]; done) | rfl
def Q2_1 (Z : State) (aV : Addr) (kk : ClassId) (t1 : Addr) (t2 : Addr) (t3 : Addr) (h0 : Heap) (n0 : Nat) (v : Option Value) (h : Heap) (L : List Loc) : Prop := v = some (.ref t1) ∧ Fr n0 L ∧ Keep h0 h []
set_option maxRecDepth 65536 in
set_option maxHeartbeats 40000000 in
theorem rm2_1 (l : Launch) (Z : State) (a0 : Array Value) (hw : ∀ d ∈ tables_1, d.before a0 Z = true) (ws : List Jvm.Cond) (aV : Addr) (kk : ClassId) (t1 : Addr) (t2 : Addr) (t3 : Addr) (h0 : Heap) (n0 : Nat) (Z0 : n0 ≤ h0.size) (HS0 : Sta Z h0 "com/example/tapewire/tapewire/model/RecordType" "$VALUES" "[Lcom/example/tapewire/tapewire/model/RecordType;" (.ref aV)) (HV1 : Arv Z h0 aV kk (.object "com/example/tapewire/tapewire/model/RecordType") (3 : Int32) [(.ref t1), (.ref t2), (.ref t3)] .null) (HE2 : Exa Z h0 aV "[Lcom/example/tapewire/tapewire/model/RecordType;") (HF3 : Fld Z h0 t1 "com/example/tapewire/tapewire/model/RecordType" "code" "I" (.int (1 : Int32))) (HF4 : Fld Z h0 t2 "com/example/tapewire/tapewire/model/RecordType" "code" "I" (.int (2 : Int32))) (HF5 : Fld Z h0 t3 "com/example/tapewire/tapewire/model/RecordType" "code" "I" (.int (3 : Int32))) :
    MetFree l (⟨"com/example/tapewire/tapewire/model/RecordType", "ofCode", "(I)Lcom/example/tapewire/tapewire/model/RecordType;"⟩ : MethodName) (head1 (Jvm.Cond.code (⟨"com/example/tapewire/tapewire/model/RecordType", "ofCode", "(I)Lcom/example/tapewire/tapewire/model/RecordType;"⟩ : MethodName) prog_57_method_12_code 5 (some (.object "com/example/tapewire/tapewire/model/RecordType")) :: ws) ({ frames := 2, cells := 1, slots := 3, locals := 25 } : Room)) (fun a U => a = #[(.int (1 : Int32))] ∧ Z.Warmed39 U.vm ∧ U.heap = h0) (fun _ _ _ _ _ => True) (fun _ U o U' => ∃ v L, o = .returned v ∧ Q2_1 Z aV kk t1 t2 t3 h0 n0 v U'.heap L ∧ FrameEnd U o U' L ({ frames := 2, cells := 1, slots := 3, locals := 25 } : Room).cells ({ frames := 2, cells := 1, slots := 3, locals := 25 } : Room).slots) := by
  refine MetFree.of_bodySF (plainFor_of_name pn_1) hisR ?_
  intro p e s m args below meth c s₁ Bd hml0 hP hK
  obtain ⟨rfl, hZ, hh⟩ := hP
  have hx := Bd.exec
  have hby := Bd.bytes
  have hml : c.maxLocals = 5 := hml0
  have hown : s.vm.findClass "com/example/tapewire/tapewire/model/RecordType" = some m.cls := findClass_of_methodNamed Bd.named
  have hnm := (name_of_methodNamed Bd.named Bd.method).1
  have X0 : Stand p l e ({ frames := 2, cells := 1, slots := 3, locals := 25 } : Room) s m #[(.int (1 : Int32))] below meth c s₁ [] 0 0 := Stand.of_body Bd
  have e0 : s₁.heap = h0 := by rw [← hh, Bd.state]; rfl
  have N0 := Fr.nil n0
  have pre0 : ∀ t, Steps p.tables e below (s₁.setTop (mkF m 0 #[.val (.int (1 : Int32)), .unset, .unset, .unset, .unset] [])) t → Steps p.tables e below (s₁.setTop (entryFrame m #[(.int (1 : Int32))] 5)) t := fun t k => castTop (ef_2_1 m ) k
  obtain ⟨_, _, ⟨T1, L1, k1, n1⟩, -, X1, ⟨Lc1, hQ1, l1, y1, z1⟩, st1⟩ := Jvm.LawKit.callS X0 hx (y := (⟨"com/example/tapewire/tapewire/model/RecordType", "values", "()[Lcom/example/tapewire/tapewire/model/RecordType;"⟩ : MethodName)) hown (mvT hZ (hw _ (List.mem_of_getElem? (i := 11) rfl))) (mvT hZ (hw _ (List.mem_of_getElem? (i := 12) rfl))) (mvT hZ (hw _ (List.mem_of_getElem? (i := 6) rfl))) (mvT hZ (hw _ (List.mem_of_getElem? (i := 13) rfl))) (by decide) (backOf (W := 0) (rm3 l Z a0 hw [] aV kk t1 t2 t3 h0 n0 Z0 HS0 HV1 HE2) hZ (hw _ (List.mem_of_getElem? (i := 13) rfl)) (hw _ (List.mem_of_getElem? (i := 6) rfl)) (by decide) (by decide)) (g := (mkF m 0 #[.val (.int (1 : Int32)), .unset, .unset, .unset, .unset] [])) rfl (by rw [hml]; rfl) (argsL := []) (rest := []) (lenOf pd_0 rfl) rfl (by show 2 * 0 + _ ≤ _; exact Nat.le_of_eq rfl) (hb hby d2_0) (fun _ _ => ⟨rfl, e0, (by decide : 0 + 1 ≤ _), (by decide : 0 + 3 ≤ _)⟩)
  dsimp only [Pt.U, Pt.locs, Pt.cells, Pt.slots] at X1 l1 y1 z1 st1 hQ1
  subst l1 y1 z1
  obtain ⟨b2, rfl, N1q, R3, R4⟩ := hQ1
  have N1 := Fr.app N0 N1q
  have F5 : Sta Z T1.heap "com/example/tapewire/tapewire/model/RecordType" "$VALUES" "[Lcom/example/tapewire/tapewire/model/RecordType;" (.ref aV) := own_staKeep HS0 R3 all0
  have F6 : Arv Z T1.heap aV kk (.object "com/example/tapewire/tapewire/model/RecordType") (3 : Int32) [(.ref t1), (.ref t2), (.ref t3)] .null := HV1.keep R3 nin0
  have F7 : Exa Z T1.heap aV "[Lcom/example/tapewire/tapewire/model/RecordType;" := HE2.keep R3
  have F8 : Fld Z T1.heap t1 "com/example/tapewire/tapewire/model/RecordType" "code" "I" (.int (1 : Int32)) := HF3.keep R3 nin0
  have F9 : Fld Z T1.heap t2 "com/example/tapewire/tapewire/model/RecordType" "code" "I" (.int (2 : Int32)) := HF4.keep R3 nin0
  have F10 : Fld Z T1.heap t3 "com/example/tapewire/tapewire/model/RecordType" "code" "I" (.int (3 : Int32)) := HF5.keep R3 nin0
  have Z11 : n0 ≤ T1.heap.size := Nat.le_trans Z0 R3.1
  have K12 : Keep h0 T1.heap [] := (Keep.refl h0 []).trans R3 all0
  obtain ⟨co13, Ao13, qo13, So13, Mo13, Bo13, Go13⟩ := id R4
  obtain ⟨co14, Ao14, qo14, So14, Mo14, Bo14, Go14⟩ := id R4
  obtain ⟨T15, X15, e15, st15⟩ := getF X1 hx hZ hown (host := "") (Or.inl (hw _ (List.mem_of_getElem? (i := 28) rfl))) Via.refl rfl F8 (g := (mkF m 21 #[.val (.int (1 : Int32)), .val (.ref b2), .val (.int (3 : Int32)), .val (.int (0 : Int32)), .val (.ref t1)] [(.ref t1)])) rfl rfl (hb hby d2_21)
  obtain ⟨fs, hr, hrun, hended, hW, hsame⟩ := X15.leave (v := some (.ref t1)) (fun h => by rw [Bd.returns] at h; cases h)
  refine ⟨_, _, pre0 _ ?_, hrun, hended, _, _, rfl, ?_, ⟨_, rfl⟩, hW, hsame.mono (by decide) (by decide)⟩
  · show Steps p.tables e below (s₁.setTop (mkF m 0 #[.val (.int (1 : Int32)), .unset, .unset, .unset, .unset] [])) _
    refine st1 _ ?_
    show Steps p.tables e below (T1.setTop (mkF m 3 #[.val (.int (1 : Int32)), .unset, .unset, .unset, .unset] [(.ref b2)])) _
    refine XS.astoreN X1.here hx rfl (hb hby d2_3) rfl rfl (l' := #[.val (.int (1 : Int32)), .val (.ref b2), .unset, .unset, .unset]) rfl ?_
    show Steps p.tables e below (T1.setTop (mkF m 4 #[.val (.int (1 : Int32)), .val (.ref b2), .unset, .unset, .unset] [])) _
    refine XS.aloadN X1.here hx rfl (hb hby d2_4) rfl rfl ?_
    show Steps p.tables e below (T1.setTop (mkF m 5 #[.val (.int (1 : Int32)), .val (.ref b2), .unset, .unset, .unset] [(.ref b2)])) _
    refine X1.arraylength hx Ao13.1 (State.isArrayOf_alike hZ.alike Ao13.2.1) (g := (mkF m 5 #[.val (.int (1 : Int32)), .val (.ref b2), .unset, .unset, .unset] [(.ref b2)])) rfl rfl (hb hby d2_5) _ ?_
    rw [len_of So13 Mo13]
    show Steps p.tables e below (T1.setTop (mkF m 6 #[.val (.int (1 : Int32)), .val (.ref b2), .unset, .unset, .unset] [(.int (3 : Int32))])) _
    refine XS.istoreN X1.here hx rfl (hb hby d2_6) rfl (l' := #[.val (.int (1 : Int32)), .val (.ref b2), .val (.int (3 : Int32)), .unset, .unset]) rfl ?_
    show Steps p.tables e below (T1.setTop (mkF m 7 #[.val (.int (1 : Int32)), .val (.ref b2), .val (.int (3 : Int32)), .unset, .unset] [])) _
    refine XS.iconst X1.here hx rfl (hb hby d2_7) ?_
    show Steps p.tables e below (T1.setTop (mkF m 8 #[.val (.int (1 : Int32)), .val (.ref b2), .val (.int (3 : Int32)), .unset, .unset] [(.int (0 : Int32))])) _
    refine XS.istoreN X1.here hx rfl (hb hby d2_8) rfl (l' := #[.val (.int (1 : Int32)), .val (.ref b2), .val (.int (3 : Int32)), .val (.int (0 : Int32)), .unset]) rfl ?_
    show Steps p.tables e below (T1.setTop (mkF m 9 #[.val (.int (1 : Int32)), .val (.ref b2), .val (.int (3 : Int32)), .val (.int (0 : Int32)), .unset] [])) _
    refine XS.iloadN X1.here hx rfl (hb hby d2_9) rfl ?_
    show Steps p.tables e below (T1.setTop (mkF m 10 #[.val (.int (1 : Int32)), .val (.ref b2), .val (.int (3 : Int32)), .val (.int (0 : Int32)), .unset] [(.int (0 : Int32))])) _
    refine XS.iloadN X1.here hx rfl (hb hby d2_10) rfl ?_
    show Steps p.tables e below (T1.setTop (mkF m 11 #[.val (.int (1 : Int32)), .val (.ref b2), .val (.int (3 : Int32)), .val (.int (0 : Int32)), .unset] [(.int (3 : Int32)), (.int (0 : Int32))])) _
    refine XS.icmpNo X1.here hx rfl (hb hby d2_11) rfl (tlt (by decide : (0 : Int32) < (3 : Int32))).2.1 ?_
    show Steps p.tables e below (T1.setTop (mkF m 14 #[.val (.int (1 : Int32)), .val (.ref b2), .val (.int (3 : Int32)), .val (.int (0 : Int32)), .unset] [])) _
    refine XS.aloadN X1.here hx rfl (hb hby d2_14) rfl rfl ?_
    show Steps p.tables e below (T1.setTop (mkF m 15 #[.val (.int (1 : Int32)), .val (.ref b2), .val (.int (3 : Int32)), .val (.int (0 : Int32)), .unset] [(.ref b2)])) _
    refine XS.iloadN X1.here hx rfl (hb hby d2_15) rfl ?_
    show Steps p.tables e below (T1.setTop (mkF m 16 #[.val (.int (1 : Int32)), .val (.ref b2), .val (.int (3 : Int32)), .val (.int (0 : Int32)), .unset] [(.int (0 : Int32)), (.ref b2)])) _
    refine X1.aaload hx (j := (0 : Int32)) (v := (.ref t1)) Ao14.1 (State.isArrayOf_alike hZ.alike Ao14.2.1) rfl Ao14.2.2 (inb_of So14 ⟨(by decide), (by decide)⟩) (Has.at Bo14 (inb_of So14 ⟨(by decide), (by decide)⟩) rfl) (g := (mkF m 16 #[.val (.int (1 : Int32)), .val (.ref b2), .val (.int (3 : Int32)), .val (.int (0 : Int32)), .unset] [(.int (0 : Int32)), (.ref b2)])) rfl rfl (hb hby d2_16) _ ?_
    show Steps p.tables e below (T1.setTop (mkF m 17 #[.val (.int (1 : Int32)), .val (.ref b2), .val (.int (3 : Int32)), .val (.int (0 : Int32)), .unset] [(.ref t1)])) _
    refine XS.astore X1.here hx rfl (hb hby d2_17) rfl rfl (l' := #[.val (.int (1 : Int32)), .val (.ref b2), .val (.int (3 : Int32)), .val (.int (0 : Int32)), .val (.ref t1)]) rfl ?_
    show Steps p.tables e below (T1.setTop (mkF m 19 #[.val (.int (1 : Int32)), .val (.ref b2), .val (.int (3 : Int32)), .val (.int (0 : Int32)), .val (.ref t1)] [])) _
    refine XS.aload X1.here hx rfl (hb hby d2_19) rfl rfl ?_
    show Steps p.tables e below (T1.setTop (mkF m 21 #[.val (.int (1 : Int32)), .val (.ref b2), .val (.int (3 : Int32)), .val (.int (0 : Int32)), .val (.ref t1)] [(.ref t1)])) _
    refine st15 _ ?_
    show Steps p.tables e below (T15.setTop (mkF m 24 #[.val (.int (1 : Int32)), .val (.ref b2), .val (.int (3 : Int32)), .val (.int (0 : Int32)), .val (.ref t1)] [(.int (1 : Int32))])) _
    refine XS.iloadN X15.here hx rfl (hb hby d2_24) rfl ?_
    show Steps p.tables e below (T15.setTop (mkF m 25 #[.val (.int (1 : Int32)), .val (.ref b2), .val (.int (3 : Int32)), .val (.int (0 : Int32)), .val (.ref t1)] [(.int (1 : Int32)), (.int (1 : Int32))])) _
    refine XS.icmpNo X15.here hx rfl (hb hby d2_25) rfl (teq (by decide : (1 : Int32) = (1 : Int32))).2 ?_
    show Steps p.tables e below (T15.setTop (mkF m 28 #[.val (.int (1 : Int32)), .val (.ref b2), .val (.int (3 : Int32)), .val (.int (0 : Int32)), .val (.ref t1)] [])) _
    refine XS.aload X15.here hx rfl (hb hby d2_28) rfl rfl ?_
    show Steps p.tables e below (T15.setTop (mkF m 30 #[.val (.int (1 : Int32)), .val (.ref b2), .val (.int (3 : Int32)), .val (.int (0 : Int32)), .val (.ref t1)] [(.ref t1)])) _
    exact retOut X15 hx Bd.returns rfl (Or.inr (Or.inr (Or.inr (Or.inr ⟨rfl, rfl, rfl⟩)))) (hb hby d2_30) hr
  · show Q2_1 Z aV kk t1 t2 t3 h0 n0 _ T15.heap _
    rw [e15]
    exact ⟨rfl, N1, K12⟩
theorem d2_31 : decode prog_57_method_12_code 31 = .ok (.iinc 3 1, 3) := by decide +kernel
theorem d2_34 : decode prog_57_method_12_code 34 = .ok (.goto (-25), 3) := by decide +kernel
theorem ef_2_2 (m : MethodId)  : entryFrame m #[(.int (2 : Int32))] 5 = mkF m 0 #[.val (.int (2 : Int32)), .unset, .unset, .unset, .unset] [] := by first | (simp [entryFrame, mkF, argsToLocals, Value.category]; done) | rfl
def Q2_2 (Z : State) (aV : Addr) (kk : ClassId) (t1 : Addr) (t2 : Addr) (t3 : Addr) (h0 : Heap) (n0 : Nat) (v : Option Value) (h : Heap) (L : List Loc) : Prop := v = some (.ref t2) ∧ Fr n0 L ∧ Keep h0 h []
set_option maxRecDepth 65536 in
set_option maxHeartbeats 40000000 in
theorem rm2_2 (l : Launch) (Z : State) (a0 : Array Value) (hw : ∀ d ∈ tables_1, d.before a0 Z = true) (ws : List Jvm.Cond) (aV : Addr) (kk : ClassId) (t1 : Addr) (t2 : Addr) (t3 : Addr) (h0 : Heap) (n0 : Nat) (Z0 : n0 ≤ h0.size) (HS0 : Sta Z h0 "com/example/tapewire/tapewire/model/RecordType" "$VALUES" "[Lcom/example/tapewire/tapewire/model/RecordType;" (.ref aV)) (HV1 : Arv Z h0 aV kk (.object "com/example/tapewire/tapewire/model/RecordType") (3 : Int32) [(.ref t1), (.ref t2), (.ref t3)] .null) (HE2 : Exa Z h0 aV "[Lcom/example/tapewire/tapewire/model/RecordType;") (HF3 : Fld Z h0 t1 "com/example/tapewire/tapewire/model/RecordType" "code" "I" (.int (1 : Int32))) (HF4 : Fld Z h0 t2 "com/example/tapewire/tapewire/model/RecordType" "code" "I" (.int (2 : Int32))) (HF5 : Fld Z h0 t3 "com/example/tapewire/tapewire/model/RecordType" "code" "I" (.int (3 : Int32))) :
    MetFree l (⟨"com/example/tapewire/tapewire/model/RecordType", "ofCode", "(I)Lcom/example/tapewire/tapewire/model/RecordType;"⟩ : MethodName) (head1 (Jvm.Cond.code (⟨"com/example/tapewire/tapewire/model/RecordType", "ofCode", "(I)Lcom/example/tapewire/tapewire/model/RecordType;"⟩ : MethodName) prog_57_method_12_code 5 (some (.object "com/example/tapewire/tapewire/model/RecordType")) :: ws) ({ frames := 2, cells := 1, slots := 3, locals := 25 } : Room)) (fun a U => a = #[(.int (2 : Int32))] ∧ Z.Warmed39 U.vm ∧ U.heap = h0) (fun _ _ _ _ _ => True) (fun _ U o U' => ∃ v L, o = .returned v ∧ Q2_2 Z aV kk t1 t2 t3 h0 n0 v U'.heap L ∧ FrameEnd U o U' L ({ frames := 2, cells := 1, slots := 3, locals := 25 } : Room).cells ({ frames := 2, cells := 1, slots := 3, locals := 25 } : Room).slots) := by
  refine MetFree.of_bodySF (plainFor_of_name pn_1) hisR ?_
  intro p e s m args below meth c s₁ Bd hml0 hP hK
  obtain ⟨rfl, hZ, hh⟩ := hP
  have hx := Bd.exec
  have hby := Bd.bytes
  have hml : c.maxLocals = 5 := hml0
  have hown : s.vm.findClass "com/example/tapewire/tapewire/model/RecordType" = some m.cls := findClass_of_methodNamed Bd.named
  have hnm := (name_of_methodNamed Bd.named Bd.method).1
  have X0 : Stand p l e ({ frames := 2, cells := 1, slots := 3, locals := 25 } : Room) s m #[(.int (2 : Int32))] below meth c s₁ [] 0 0 := Stand.of_body Bd
  have e0 : s₁.heap = h0 := by rw [← hh, Bd.state]; rfl
  have N0 := Fr.nil n0
  have pre0 : ∀ t, Steps p.tables e below (s₁.setTop (mkF m 0 #[.val (.int (2 : Int32)), .unset, .unset, .unset, .unset] [])) t → Steps p.tables e below (s₁.setTop (entryFrame m #[(.int (2 : Int32))] 5)) t := fun t k => castTop (ef_2_2 m ) k
  obtain ⟨_, _, ⟨T1, L1, k1, n1⟩, -, X1, ⟨Lc1, hQ1, l1, y1, z1⟩, st1⟩ := Jvm.LawKit.callS X0 hx (y := (⟨"com/example/tapewire/tapewire/model/RecordType", "values", "()[Lcom/example/tapewire/tapewire/model/RecordType;"⟩ : MethodName)) hown (mvT hZ (hw _ (List.mem_of_getElem? (i := 11) rfl))) (mvT hZ (hw _ (List.mem_of_getElem? (i := 12) rfl))) (mvT hZ (hw _ (List.mem_of_getElem? (i := 6) rfl))) (mvT hZ (hw _ (List.mem_of_getElem? (i := 13) rfl))) (by decide) (backOf (W := 0) (rm3 l Z a0 hw [] aV kk t1 t2 t3 h0 n0 Z0 HS0 HV1 HE2) hZ (hw _ (List.mem_of_getElem? (i := 13) rfl)) (hw _ (List.mem_of_getElem? (i := 6) rfl)) (by decide) (by decide)) (g := (mkF m 0 #[.val (.int (2 : Int32)), .unset, .unset, .unset, .unset] [])) rfl (by rw [hml]; rfl) (argsL := []) (rest := []) (lenOf pd_0 rfl) rfl (by show 2 * 0 + _ ≤ _; exact Nat.le_of_eq rfl) (hb hby d2_0) (fun _ _ => ⟨rfl, e0, (by decide : 0 + 1 ≤ _), (by decide : 0 + 3 ≤ _)⟩)
  dsimp only [Pt.U, Pt.locs, Pt.cells, Pt.slots] at X1 l1 y1 z1 st1 hQ1
  subst l1 y1 z1
  obtain ⟨b2, rfl, N1q, R3, R4⟩ := hQ1
  have N1 := Fr.app N0 N1q
  have F5 : Sta Z T1.heap "com/example/tapewire/tapewire/model/RecordType" "$VALUES" "[Lcom/example/tapewire/tapewire/model/RecordType;" (.ref aV) := own_staKeep HS0 R3 all0
  have F6 : Arv Z T1.heap aV kk (.object "com/example/tapewire/tapewire/model/RecordType") (3 : Int32) [(.ref t1), (.ref t2), (.ref t3)] .null := HV1.keep R3 nin0
  have F7 : Exa Z T1.heap aV "[Lcom/example/tapewire/tapewire/model/RecordType;" := HE2.keep R3
  have F8 : Fld Z T1.heap t1 "com/example/tapewire/tapewire/model/RecordType" "code" "I" (.int (1 : Int32)) := HF3.keep R3 nin0
  have F9 : Fld Z T1.heap t2 "com/example/tapewire/tapewire/model/RecordType" "code" "I" (.int (2 : Int32)) := HF4.keep R3 nin0
  have F10 : Fld Z T1.heap t3 "com/example/tapewire/tapewire/model/RecordType" "code" "I" (.int (3 : Int32)) := HF5.keep R3 nin0
  have Z11 : n0 ≤ T1.heap.size := Nat.le_trans Z0 R3.1
  have K12 : Keep h0 T1.heap [] := (Keep.refl h0 []).trans R3 all0
  obtain ⟨co13, Ao13, qo13, So13, Mo13, Bo13, Go13⟩ := id R4
  obtain ⟨co14, Ao14, qo14, So14, Mo14, Bo14, Go14⟩ := id R4
  obtain ⟨T15, X15, e15, st15⟩ := getF X1 hx hZ hown (host := "") (Or.inl (hw _ (List.mem_of_getElem? (i := 28) rfl))) Via.refl rfl F8 (g := (mkF m 21 #[.val (.int (2 : Int32)), .val (.ref b2), .val (.int (3 : Int32)), .val (.int (0 : Int32)), .val (.ref t1)] [(.ref t1)])) rfl rfl (hb hby d2_21)
  obtain ⟨co16, Ao16, qo16, So16, Mo16, Bo16, Go16⟩ := id R4
  obtain ⟨T17, X17, e17, st17⟩ := getF X15 hx hZ hown (host := "") (Or.inl (hw _ (List.mem_of_getElem? (i := 28) rfl))) Via.refl e15 F9 (g := (mkF m 21 #[.val (.int (2 : Int32)), .val (.ref b2), .val (.int (3 : Int32)), .val (.int (1 : Int32)), .val (.ref t2)] [(.ref t2)])) rfl rfl (hb hby d2_21)
  obtain ⟨fs, hr, hrun, hended, hW, hsame⟩ := X17.leave (v := some (.ref t2)) (fun h => by rw [Bd.returns] at h; cases h)
  refine ⟨_, _, pre0 _ ?_, hrun, hended, _, _, rfl, ?_, ⟨_, rfl⟩, hW, hsame.mono (by decide) (by decide)⟩
  · show Steps p.tables e below (s₁.setTop (mkF m 0 #[.val (.int (2 : Int32)), .unset, .unset, .unset, .unset] [])) _
    refine st1 _ ?_
    show Steps p.tables e below (T1.setTop (mkF m 3 #[.val (.int (2 : Int32)), .unset, .unset, .unset, .unset] [(.ref b2)])) _
    refine XS.astoreN X1.here hx rfl (hb hby d2_3) rfl rfl (l' := #[.val (.int (2 : Int32)), .val (.ref b2), .unset, .unset, .unset]) rfl ?_
    show Steps p.tables e below (T1.setTop (mkF m 4 #[.val (.int (2 : Int32)), .val (.ref b2), .unset, .unset, .unset] [])) _
    refine XS.aloadN X1.here hx rfl (hb hby d2_4) rfl rfl ?_
    show Steps p.tables e below (T1.setTop (mkF m 5 #[.val (.int (2 : Int32)), .val (.ref b2), .unset, .unset, .unset] [(.ref b2)])) _
    refine X1.arraylength hx Ao13.1 (State.isArrayOf_alike hZ.alike Ao13.2.1) (g := (mkF m 5 #[.val (.int (2 : Int32)), .val (.ref b2), .unset, .unset, .unset] [(.ref b2)])) rfl rfl (hb hby d2_5) _ ?_
    rw [len_of So13 Mo13]
    show Steps p.tables e below (T1.setTop (mkF m 6 #[.val (.int (2 : Int32)), .val (.ref b2), .unset, .unset, .unset] [(.int (3 : Int32))])) _
    refine XS.istoreN X1.here hx rfl (hb hby d2_6) rfl (l' := #[.val (.int (2 : Int32)), .val (.ref b2), .val (.int (3 : Int32)), .unset, .unset]) rfl ?_
    show Steps p.tables e below (T1.setTop (mkF m 7 #[.val (.int (2 : Int32)), .val (.ref b2), .val (.int (3 : Int32)), .unset, .unset] [])) _
    refine XS.iconst X1.here hx rfl (hb hby d2_7) ?_
    show Steps p.tables e below (T1.setTop (mkF m 8 #[.val (.int (2 : Int32)), .val (.ref b2), .val (.int (3 : Int32)), .unset, .unset] [(.int (0 : Int32))])) _
    refine XS.istoreN X1.here hx rfl (hb hby d2_8) rfl (l' := #[.val (.int (2 : Int32)), .val (.ref b2), .val (.int (3 : Int32)), .val (.int (0 : Int32)), .unset]) rfl ?_
    show Steps p.tables e below (T1.setTop (mkF m 9 #[.val (.int (2 : Int32)), .val (.ref b2), .val (.int (3 : Int32)), .val (.int (0 : Int32)), .unset] [])) _
    refine XS.iloadN X1.here hx rfl (hb hby d2_9) rfl ?_
    show Steps p.tables e below (T1.setTop (mkF m 10 #[.val (.int (2 : Int32)), .val (.ref b2), .val (.int (3 : Int32)), .val (.int (0 : Int32)), .unset] [(.int (0 : Int32))])) _
    refine XS.iloadN X1.here hx rfl (hb hby d2_10) rfl ?_
    show Steps p.tables e below (T1.setTop (mkF m 11 #[.val (.int (2 : Int32)), .val (.ref b2), .val (.int (3 : Int32)), .val (.int (0 : Int32)), .unset] [(.int (3 : Int32)), (.int (0 : Int32))])) _
    refine XS.icmpNo X1.here hx rfl (hb hby d2_11) rfl (tlt (by decide : (0 : Int32) < (3 : Int32))).2.1 ?_
    show Steps p.tables e below (T1.setTop (mkF m 14 #[.val (.int (2 : Int32)), .val (.ref b2), .val (.int (3 : Int32)), .val (.int (0 : Int32)), .unset] [])) _
    refine XS.aloadN X1.here hx rfl (hb hby d2_14) rfl rfl ?_
    show Steps p.tables e below (T1.setTop (mkF m 15 #[.val (.int (2 : Int32)), .val (.ref b2), .val (.int (3 : Int32)), .val (.int (0 : Int32)), .unset] [(.ref b2)])) _
    refine XS.iloadN X1.here hx rfl (hb hby d2_15) rfl ?_
    show Steps p.tables e below (T1.setTop (mkF m 16 #[.val (.int (2 : Int32)), .val (.ref b2), .val (.int (3 : Int32)), .val (.int (0 : Int32)), .unset] [(.int (0 : Int32)), (.ref b2)])) _
    refine X1.aaload hx (j := (0 : Int32)) (v := (.ref t1)) Ao14.1 (State.isArrayOf_alike hZ.alike Ao14.2.1) rfl Ao14.2.2 (inb_of So14 ⟨(by decide), (by decide)⟩) (Has.at Bo14 (inb_of So14 ⟨(by decide), (by decide)⟩) rfl) (g := (mkF m 16 #[.val (.int (2 : Int32)), .val (.ref b2), .val (.int (3 : Int32)), .val (.int (0 : Int32)), .unset] [(.int (0 : Int32)), (.ref b2)])) rfl rfl (hb hby d2_16) _ ?_
    show Steps p.tables e below (T1.setTop (mkF m 17 #[.val (.int (2 : Int32)), .val (.ref b2), .val (.int (3 : Int32)), .val (.int (0 : Int32)), .unset] [(.ref t1)])) _
    refine XS.astore X1.here hx rfl (hb hby d2_17) rfl rfl (l' := #[.val (.int (2 : Int32)), .val (.ref b2), .val (.int (3 : Int32)), .val (.int (0 : Int32)), .val (.ref t1)]) rfl ?_
    show Steps p.tables e below (T1.setTop (mkF m 19 #[.val (.int (2 : Int32)), .val (.ref b2), .val (.int (3 : Int32)), .val (.int (0 : Int32)), .val (.ref t1)] [])) _
    refine XS.aload X1.here hx rfl (hb hby d2_19) rfl rfl ?_
    show Steps p.tables e below (T1.setTop (mkF m 21 #[.val (.int (2 : Int32)), .val (.ref b2), .val (.int (3 : Int32)), .val (.int (0 : Int32)), .val (.ref t1)] [(.ref t1)])) _
    refine st15 _ ?_
    show Steps p.tables e below (T15.setTop (mkF m 24 #[.val (.int (2 : Int32)), .val (.ref b2), .val (.int (3 : Int32)), .val (.int (0 : Int32)), .val (.ref t1)] [(.int (1 : Int32))])) _
    refine XS.iloadN X15.here hx rfl (hb hby d2_24) rfl ?_
    show Steps p.tables e below (T15.setTop (mkF m 25 #[.val (.int (2 : Int32)), .val (.ref b2), .val (.int (3 : Int32)), .val (.int (0 : Int32)), .val (.ref t1)] [(.int (2 : Int32)), (.int (1 : Int32))])) _
    refine XS.icmpYes X15.here hx rfl (pc0 := 25) (pc' := 31) rfl (hb hby d2_25) rfl (feq (by decide : ¬ ((1 : Int32) = (2 : Int32)))).2 (by decide) (by decide) ?_
    show Steps p.tables e below (T15.setTop (mkF m 31 #[.val (.int (2 : Int32)), .val (.ref b2), .val (.int (3 : Int32)), .val (.int (0 : Int32)), .val (.ref t1)] [])) _
    refine XS.iinc X15.here hx rfl (hb hby d2_31) rfl (l' := #[.val (.int (2 : Int32)), .val (.ref b2), .val (.int (3 : Int32)), .val (.int (1 : Int32)), .val (.ref t1)]) rfl ?_
    show Steps p.tables e below (T15.setTop (mkF m 34 #[.val (.int (2 : Int32)), .val (.ref b2), .val (.int (3 : Int32)), .val (.int (1 : Int32)), .val (.ref t1)] [])) _
    refine XS.goto X15.here hx rfl (pc0 := 34) (pc' := 9) rfl (hb hby d2_34) (by decide) (by decide) ?_
    show Steps p.tables e below (T15.setTop (mkF m 9 #[.val (.int (2 : Int32)), .val (.ref b2), .val (.int (3 : Int32)), .val (.int (1 : Int32)), .val (.ref t1)] [])) _
    refine XS.iloadN X15.here hx rfl (hb hby d2_9) rfl ?_
    show Steps p.tables e below (T15.setTop (mkF m 10 #[.val (.int (2 : Int32)), .val (.ref b2), .val (.int (3 : Int32)), .val (.int (1 : Int32)), .val (.ref t1)] [(.int (1 : Int32))])) _
    refine XS.iloadN X15.here hx rfl (hb hby d2_10) rfl ?_
    show Steps p.tables e below (T15.setTop (mkF m 11 #[.val (.int (2 : Int32)), .val (.ref b2), .val (.int (3 : Int32)), .val (.int (1 : Int32)), .val (.ref t1)] [(.int (3 : Int32)), (.int (1 : Int32))])) _
    refine XS.icmpNo X15.here hx rfl (hb hby d2_11) rfl (tlt (by decide : (1 : Int32) < (3 : Int32))).2.1 ?_
    show Steps p.tables e below (T15.setTop (mkF m 14 #[.val (.int (2 : Int32)), .val (.ref b2), .val (.int (3 : Int32)), .val (.int (1 : Int32)), .val (.ref t1)] [])) _
    refine XS.aloadN X15.here hx rfl (hb hby d2_14) rfl rfl ?_
    show Steps p.tables e below (T15.setTop (mkF m 15 #[.val (.int (2 : Int32)), .val (.ref b2), .val (.int (3 : Int32)), .val (.int (1 : Int32)), .val (.ref t1)] [(.ref b2)])) _
    refine XS.iloadN X15.here hx rfl (hb hby d2_15) rfl ?_
    show Steps p.tables e below (T15.setTop (mkF m 16 #[.val (.int (2 : Int32)), .val (.ref b2), .val (.int (3 : Int32)), .val (.int (1 : Int32)), .val (.ref t1)] [(.int (1 : Int32)), (.ref b2)])) _
    refine X15.aaload hx (j := (1 : Int32)) (v := (.ref t2)) (by rw [e15]; exact Ao16.1) (State.isArrayOf_alike hZ.alike Ao16.2.1) rfl Ao16.2.2 (inb_of So16 ⟨(by decide), (by decide)⟩) (Has.at Bo16 (inb_of So16 ⟨(by decide), (by decide)⟩) rfl) (g := (mkF m 16 #[.val (.int (2 : Int32)), .val (.ref b2), .val (.int (3 : Int32)), .val (.int (1 : Int32)), .val (.ref t1)] [(.int (1 : Int32)), (.ref b2)])) rfl rfl (hb hby d2_16) _ ?_
    show Steps p.tables e below (T15.setTop (mkF m 17 #[.val (.int (2 : Int32)), .val (.ref b2), .val (.int (3 : Int32)), .val (.int (1 : Int32)), .val (.ref t1)] [(.ref t2)])) _
    refine XS.astore X15.here hx rfl (hb hby d2_17) rfl rfl (l' := #[.val (.int (2 : Int32)), .val (.ref b2), .val (.int (3 : Int32)), .val (.int (1 : Int32)), .val (.ref t2)]) rfl ?_
    show Steps p.tables e below (T15.setTop (mkF m 19 #[.val (.int (2 : Int32)), .val (.ref b2), .val (.int (3 : Int32)), .val (.int (1 : Int32)), .val (.ref t2)] [])) _
    refine XS.aload X15.here hx rfl (hb hby d2_19) rfl rfl ?_
    show Steps p.tables e below (T15.setTop (mkF m 21 #[.val (.int (2 : Int32)), .val (.ref b2), .val (.int (3 : Int32)), .val (.int (1 : Int32)), .val (.ref t2)] [(.ref t2)])) _
    refine st17 _ ?_
    show Steps p.tables e below (T17.setTop (mkF m 24 #[.val (.int (2 : Int32)), .val (.ref b2), .val (.int (3 : Int32)), .val (.int (1 : Int32)), .val (.ref t2)] [(.int (2 : Int32))])) _
    refine XS.iloadN X17.here hx rfl (hb hby d2_24) rfl ?_
    show Steps p.tables e below (T17.setTop (mkF m 25 #[.val (.int (2 : Int32)), .val (.ref b2), .val (.int (3 : Int32)), .val (.int (1 : Int32)), .val (.ref t2)] [(.int (2 : Int32)), (.int (2 : Int32))])) _
    refine XS.icmpNo X17.here hx rfl (hb hby d2_25) rfl (teq (by decide : (2 : Int32) = (2 : Int32))).2 ?_
    show Steps p.tables e below (T17.setTop (mkF m 28 #[.val (.int (2 : Int32)), .val (.ref b2), .val (.int (3 : Int32)), .val (.int (1 : Int32)), .val (.ref t2)] [])) _
    refine XS.aload X17.here hx rfl (hb hby d2_28) rfl rfl ?_
    show Steps p.tables e below (T17.setTop (mkF m 30 #[.val (.int (2 : Int32)), .val (.ref b2), .val (.int (3 : Int32)), .val (.int (1 : Int32)), .val (.ref t2)] [(.ref t2)])) _
    exact retOut X17 hx Bd.returns rfl (Or.inr (Or.inr (Or.inr (Or.inr ⟨rfl, rfl, rfl⟩)))) (hb hby d2_30) hr
  · show Q2_2 Z aV kk t1 t2 t3 h0 n0 _ T17.heap _
    rw [e17]
    exact ⟨rfl, N1, K12⟩
theorem ef_2_3 (m : MethodId)  : entryFrame m #[(.int (3 : Int32))] 5 = mkF m 0 #[.val (.int (3 : Int32)), .unset, .unset, .unset, .unset] [] := by first | (simp [entryFrame, mkF, argsToLocals, Value.category]; done) | rfl
def Q2_3 (Z : State) (aV : Addr) (kk : ClassId) (t1 : Addr) (t2 : Addr) (t3 : Addr) (h0 : Heap) (n0 : Nat) (v : Option Value) (h : Heap) (L : List Loc) : Prop := v = some (.ref t3) ∧ Fr n0 L ∧ Keep h0 h []
set_option maxRecDepth 65536 in
set_option maxHeartbeats 40000000 in
theorem rm2_3 (l : Launch) (Z : State) (a0 : Array Value) (hw : ∀ d ∈ tables_1, d.before a0 Z = true) (ws : List Jvm.Cond) (aV : Addr) (kk : ClassId) (t1 : Addr) (t2 : Addr) (t3 : Addr) (h0 : Heap) (n0 : Nat) (Z0 : n0 ≤ h0.size) (HS0 : Sta Z h0 "com/example/tapewire/tapewire/model/RecordType" "$VALUES" "[Lcom/example/tapewire/tapewire/model/RecordType;" (.ref aV)) (HV1 : Arv Z h0 aV kk (.object "com/example/tapewire/tapewire/model/RecordType") (3 : Int32) [(.ref t1), (.ref t2), (.ref t3)] .null) (HE2 : Exa Z h0 aV "[Lcom/example/tapewire/tapewire/model/RecordType;") (HF3 : Fld Z h0 t1 "com/example/tapewire/tapewire/model/RecordType" "code" "I" (.int (1 : Int32))) (HF4 : Fld Z h0 t2 "com/example/tapewire/tapewire/model/RecordType" "code" "I" (.int (2 : Int32))) (HF5 : Fld Z h0 t3 "com/example/tapewire/tapewire/model/RecordType" "code" "I" (.int (3 : Int32))) :
    MetFree l (⟨"com/example/tapewire/tapewire/model/RecordType", "ofCode", "(I)Lcom/example/tapewire/tapewire/model/RecordType;"⟩ : MethodName) (head1 (Jvm.Cond.code (⟨"com/example/tapewire/tapewire/model/RecordType", "ofCode", "(I)Lcom/example/tapewire/tapewire/model/RecordType;"⟩ : MethodName) prog_57_method_12_code 5 (some (.object "com/example/tapewire/tapewire/model/RecordType")) :: ws) ({ frames := 2, cells := 1, slots := 3, locals := 25 } : Room)) (fun a U => a = #[(.int (3 : Int32))] ∧ Z.Warmed39 U.vm ∧ U.heap = h0) (fun _ _ _ _ _ => True) (fun _ U o U' => ∃ v L, o = .returned v ∧ Q2_3 Z aV kk t1 t2 t3 h0 n0 v U'.heap L ∧ FrameEnd U o U' L ({ frames := 2, cells := 1, slots := 3, locals := 25 } : Room).cells ({ frames := 2, cells := 1, slots := 3, locals := 25 } : Room).slots) := by
  refine MetFree.of_bodySF (plainFor_of_name pn_1) hisR ?_
  intro p e s m args below meth c s₁ Bd hml0 hP hK
  obtain ⟨rfl, hZ, hh⟩ := hP
  have hx := Bd.exec
  have hby := Bd.bytes
  have hml : c.maxLocals = 5 := hml0
  have hown : s.vm.findClass "com/example/tapewire/tapewire/model/RecordType" = some m.cls := findClass_of_methodNamed Bd.named
  have hnm := (name_of_methodNamed Bd.named Bd.method).1
  have X0 : Stand p l e ({ frames := 2, cells := 1, slots := 3, locals := 25 } : Room) s m #[(.int (3 : Int32))] below meth c s₁ [] 0 0 := Stand.of_body Bd
  have e0 : s₁.heap = h0 := by rw [← hh, Bd.state]; rfl
  have N0 := Fr.nil n0
  have pre0 : ∀ t, Steps p.tables e below (s₁.setTop (mkF m 0 #[.val (.int (3 : Int32)), .unset, .unset, .unset, .unset] [])) t → Steps p.tables e below (s₁.setTop (entryFrame m #[(.int (3 : Int32))] 5)) t := fun t k => castTop (ef_2_3 m ) k
  obtain ⟨_, _, ⟨T1, L1, k1, n1⟩, -, X1, ⟨Lc1, hQ1, l1, y1, z1⟩, st1⟩ := Jvm.LawKit.callS X0 hx (y := (⟨"com/example/tapewire/tapewire/model/RecordType", "values", "()[Lcom/example/tapewire/tapewire/model/RecordType;"⟩ : MethodName)) hown (mvT hZ (hw _ (List.mem_of_getElem? (i := 11) rfl))) (mvT hZ (hw _ (List.mem_of_getElem? (i := 12) rfl))) (mvT hZ (hw _ (List.mem_of_getElem? (i := 6) rfl))) (mvT hZ (hw _ (List.mem_of_getElem? (i := 13) rfl))) (by decide) (backOf (W := 0) (rm3 l Z a0 hw [] aV kk t1 t2 t3 h0 n0 Z0 HS0 HV1 HE2) hZ (hw _ (List.mem_of_getElem? (i := 13) rfl)) (hw _ (List.mem_of_getElem? (i := 6) rfl)) (by decide) (by decide)) (g := (mkF m 0 #[.val (.int (3 : Int32)), .unset, .unset, .unset, .unset] [])) rfl (by rw [hml]; rfl) (argsL := []) (rest := []) (lenOf pd_0 rfl) rfl (by show 2 * 0 + _ ≤ _; exact Nat.le_of_eq rfl) (hb hby d2_0) (fun _ _ => ⟨rfl, e0, (by decide : 0 + 1 ≤ _), (by decide : 0 + 3 ≤ _)⟩)
  dsimp only [Pt.U, Pt.locs, Pt.cells, Pt.slots] at X1 l1 y1 z1 st1 hQ1
  subst l1 y1 z1
  obtain ⟨b2, rfl, N1q, R3, R4⟩ := hQ1
  have N1 := Fr.app N0 N1q
  have F5 : Sta Z T1.heap "com/example/tapewire/tapewire/model/RecordType" "$VALUES" "[Lcom/example/tapewire/tapewire/model/RecordType;" (.ref aV) := own_staKeep HS0 R3 all0
  have F6 : Arv Z T1.heap aV kk (.object "com/example/tapewire/tapewire/model/RecordType") (3 : Int32) [(.ref t1), (.ref t2), (.ref t3)] .null := HV1.keep R3 nin0
  have F7 : Exa Z T1.heap aV "[Lcom/example/tapewire/tapewire/model/RecordType;" := HE2.keep R3
  have F8 : Fld Z T1.heap t1 "com/example/tapewire/tapewire/model/RecordType" "code" "I" (.int (1 : Int32)) := HF3.keep R3 nin0
  have F9 : Fld Z T1.heap t2 "com/example/tapewire/tapewire/model/RecordType" "code" "I" (.int (2 : Int32)) := HF4.keep R3 nin0
  have F10 : Fld Z T1.heap t3 "com/example/tapewire/tapewire/model/RecordType" "code" "I" (.int (3 : Int32)) := HF5.keep R3 nin0
  have Z11 : n0 ≤ T1.heap.size := Nat.le_trans Z0 R3.1
  have K12 : Keep h0 T1.heap [] := (Keep.refl h0 []).trans R3 all0
  obtain ⟨co13, Ao13, qo13, So13, Mo13, Bo13, Go13⟩ := id R4
  obtain ⟨co14, Ao14, qo14, So14, Mo14, Bo14, Go14⟩ := id R4
  obtain ⟨T15, X15, e15, st15⟩ := getF X1 hx hZ hown (host := "") (Or.inl (hw _ (List.mem_of_getElem? (i := 28) rfl))) Via.refl rfl F8 (g := (mkF m 21 #[.val (.int (3 : Int32)), .val (.ref b2), .val (.int (3 : Int32)), .val (.int (0 : Int32)), .val (.ref t1)] [(.ref t1)])) rfl rfl (hb hby d2_21)
  obtain ⟨co16, Ao16, qo16, So16, Mo16, Bo16, Go16⟩ := id R4
  obtain ⟨T17, X17, e17, st17⟩ := getF X15 hx hZ hown (host := "") (Or.inl (hw _ (List.mem_of_getElem? (i := 28) rfl))) Via.refl e15 F9 (g := (mkF m 21 #[.val (.int (3 : Int32)), .val (.ref b2), .val (.int (3 : Int32)), .val (.int (1 : Int32)), .val (.ref t2)] [(.ref t2)])) rfl rfl (hb hby d2_21)
  obtain ⟨co18, Ao18, qo18, So18, Mo18, Bo18, Go18⟩ := id R4
  obtain ⟨T19, X19, e19, st19⟩ := getF X17 hx hZ hown (host := "") (Or.inl (hw _ (List.mem_of_getElem? (i := 28) rfl))) Via.refl e17 F10 (g := (mkF m 21 #[.val (.int (3 : Int32)), .val (.ref b2), .val (.int (3 : Int32)), .val (.int (2 : Int32)), .val (.ref t3)] [(.ref t3)])) rfl rfl (hb hby d2_21)
  obtain ⟨fs, hr, hrun, hended, hW, hsame⟩ := X19.leave (v := some (.ref t3)) (fun h => by rw [Bd.returns] at h; cases h)
  refine ⟨_, _, pre0 _ ?_, hrun, hended, _, _, rfl, ?_, ⟨_, rfl⟩, hW, hsame.mono (by decide) (by decide)⟩
  · show Steps p.tables e below (s₁.setTop (mkF m 0 #[.val (.int (3 : Int32)), .unset, .unset, .unset, .unset] [])) _
    refine st1 _ ?_
    show Steps p.tables e below (T1.setTop (mkF m 3 #[.val (.int (3 : Int32)), .unset, .unset, .unset, .unset] [(.ref b2)])) _
    refine XS.astoreN X1.here hx rfl (hb hby d2_3) rfl rfl (l' := #[.val (.int (3 : Int32)), .val (.ref b2), .unset, .unset, .unset]) rfl ?_
    show Steps p.tables e below (T1.setTop (mkF m 4 #[.val (.int (3 : Int32)), .val (.ref b2), .unset, .unset, .unset] [])) _
    refine XS.aloadN X1.here hx rfl (hb hby d2_4) rfl rfl ?_
    show Steps p.tables e below (T1.setTop (mkF m 5 #[.val (.int (3 : Int32)), .val (.ref b2), .unset, .unset, .unset] [(.ref b2)])) _
    refine X1.arraylength hx Ao13.1 (State.isArrayOf_alike hZ.alike Ao13.2.1) (g := (mkF m 5 #[.val (.int (3 : Int32)), .val (.ref b2), .unset, .unset, .unset] [(.ref b2)])) rfl rfl (hb hby d2_5) _ ?_
    rw [len_of So13 Mo13]
    show Steps p.tables e below (T1.setTop (mkF m 6 #[.val (.int (3 : Int32)), .val (.ref b2), .unset, .unset, .unset] [(.int (3 : Int32))])) _
    refine XS.istoreN X1.here hx rfl (hb hby d2_6) rfl (l' := #[.val (.int (3 : Int32)), .val (.ref b2), .val (.int (3 : Int32)), .unset, .unset]) rfl ?_
    show Steps p.tables e below (T1.setTop (mkF m 7 #[.val (.int (3 : Int32)), .val (.ref b2), .val (.int (3 : Int32)), .unset, .unset] [])) _
    refine XS.iconst X1.here hx rfl (hb hby d2_7) ?_
    show Steps p.tables e below (T1.setTop (mkF m 8 #[.val (.int (3 : Int32)), .val (.ref b2), .val (.int (3 : Int32)), .unset, .unset] [(.int (0 : Int32))])) _
    refine XS.istoreN X1.here hx rfl (hb hby d2_8) rfl (l' := #[.val (.int (3 : Int32)), .val (.ref b2), .val (.int (3 : Int32)), .val (.int (0 : Int32)), .unset]) rfl ?_
    show Steps p.tables e below (T1.setTop (mkF m 9 #[.val (.int (3 : Int32)), .val (.ref b2), .val (.int (3 : Int32)), .val (.int (0 : Int32)), .unset] [])) _
    refine XS.iloadN X1.here hx rfl (hb hby d2_9) rfl ?_
    show Steps p.tables e below (T1.setTop (mkF m 10 #[.val (.int (3 : Int32)), .val (.ref b2), .val (.int (3 : Int32)), .val (.int (0 : Int32)), .unset] [(.int (0 : Int32))])) _
    refine XS.iloadN X1.here hx rfl (hb hby d2_10) rfl ?_
    show Steps p.tables e below (T1.setTop (mkF m 11 #[.val (.int (3 : Int32)), .val (.ref b2), .val (.int (3 : Int32)), .val (.int (0 : Int32)), .unset] [(.int (3 : Int32)), (.int (0 : Int32))])) _
    refine XS.icmpNo X1.here hx rfl (hb hby d2_11) rfl (tlt (by decide : (0 : Int32) < (3 : Int32))).2.1 ?_
    show Steps p.tables e below (T1.setTop (mkF m 14 #[.val (.int (3 : Int32)), .val (.ref b2), .val (.int (3 : Int32)), .val (.int (0 : Int32)), .unset] [])) _
    refine XS.aloadN X1.here hx rfl (hb hby d2_14) rfl rfl ?_
    show Steps p.tables e below (T1.setTop (mkF m 15 #[.val (.int (3 : Int32)), .val (.ref b2), .val (.int (3 : Int32)), .val (.int (0 : Int32)), .unset] [(.ref b2)])) _
    refine XS.iloadN X1.here hx rfl (hb hby d2_15) rfl ?_
    show Steps p.tables e below (T1.setTop (mkF m 16 #[.val (.int (3 : Int32)), .val (.ref b2), .val (.int (3 : Int32)), .val (.int (0 : Int32)), .unset] [(.int (0 : Int32)), (.ref b2)])) _
    refine X1.aaload hx (j := (0 : Int32)) (v := (.ref t1)) Ao14.1 (State.isArrayOf_alike hZ.alike Ao14.2.1) rfl Ao14.2.2 (inb_of So14 ⟨(by decide), (by decide)⟩) (Has.at Bo14 (inb_of So14 ⟨(by decide), (by decide)⟩) rfl) (g := (mkF m 16 #[.val (.int (3 : Int32)), .val (.ref b2), .val (.int (3 : Int32)), .val (.int (0 : Int32)), .unset] [(.int (0 : Int32)), (.ref b2)])) rfl rfl (hb hby d2_16) _ ?_
    show Steps p.tables e below (T1.setTop (mkF m 17 #[.val (.int (3 : Int32)), .val (.ref b2), .val (.int (3 : Int32)), .val (.int (0 : Int32)), .unset] [(.ref t1)])) _
    refine XS.astore X1.here hx rfl (hb hby d2_17) rfl rfl (l' := #[.val (.int (3 : Int32)), .val (.ref b2), .val (.int (3 : Int32)), .val (.int (0 : Int32)), .val (.ref t1)]) rfl ?_
    show Steps p.tables e below (T1.setTop (mkF m 19 #[.val (.int (3 : Int32)), .val (.ref b2), .val (.int (3 : Int32)), .val (.int (0 : Int32)), .val (.ref t1)] [])) _
    refine XS.aload X1.here hx rfl (hb hby d2_19) rfl rfl ?_
    show Steps p.tables e below (T1.setTop (mkF m 21 #[.val (.int (3 : Int32)), .val (.ref b2), .val (.int (3 : Int32)), .val (.int (0 : Int32)), .val (.ref t1)] [(.ref t1)])) _
    refine st15 _ ?_
    show Steps p.tables e below (T15.setTop (mkF m 24 #[.val (.int (3 : Int32)), .val (.ref b2), .val (.int (3 : Int32)), .val (.int (0 : Int32)), .val (.ref t1)] [(.int (1 : Int32))])) _
    refine XS.iloadN X15.here hx rfl (hb hby d2_24) rfl ?_
    show Steps p.tables e below (T15.setTop (mkF m 25 #[.val (.int (3 : Int32)), .val (.ref b2), .val (.int (3 : Int32)), .val (.int (0 : Int32)), .val (.ref t1)] [(.int (3 : Int32)), (.int (1 : Int32))])) _
    refine XS.icmpYes X15.here hx rfl (pc0 := 25) (pc' := 31) rfl (hb hby d2_25) rfl (feq (by decide : ¬ ((1 : Int32) = (3 : Int32)))).2 (by decide) (by decide) ?_
    show Steps p.tables e below (T15.setTop (mkF m 31 #[.val (.int (3 : Int32)), .val (.ref b2), .val (.int (3 : Int32)), .val (.int (0 : Int32)), .val (.ref t1)] [])) _
    refine XS.iinc X15.here hx rfl (hb hby d2_31) rfl (l' := #[.val (.int (3 : Int32)), .val (.ref b2), .val (.int (3 : Int32)), .val (.int (1 : Int32)), .val (.ref t1)]) rfl ?_
    show Steps p.tables e below (T15.setTop (mkF m 34 #[.val (.int (3 : Int32)), .val (.ref b2), .val (.int (3 : Int32)), .val (.int (1 : Int32)), .val (.ref t1)] [])) _
    refine XS.goto X15.here hx rfl (pc0 := 34) (pc' := 9) rfl (hb hby d2_34) (by decide) (by decide) ?_
    show Steps p.tables e below (T15.setTop (mkF m 9 #[.val (.int (3 : Int32)), .val (.ref b2), .val (.int (3 : Int32)), .val (.int (1 : Int32)), .val (.ref t1)] [])) _
    refine XS.iloadN X15.here hx rfl (hb hby d2_9) rfl ?_
    show Steps p.tables e below (T15.setTop (mkF m 10 #[.val (.int (3 : Int32)), .val (.ref b2), .val (.int (3 : Int32)), .val (.int (1 : Int32)), .val (.ref t1)] [(.int (1 : Int32))])) _
    refine XS.iloadN X15.here hx rfl (hb hby d2_10) rfl ?_
    show Steps p.tables e below (T15.setTop (mkF m 11 #[.val (.int (3 : Int32)), .val (.ref b2), .val (.int (3 : Int32)), .val (.int (1 : Int32)), .val (.ref t1)] [(.int (3 : Int32)), (.int (1 : Int32))])) _
    refine XS.icmpNo X15.here hx rfl (hb hby d2_11) rfl (tlt (by decide : (1 : Int32) < (3 : Int32))).2.1 ?_
    show Steps p.tables e below (T15.setTop (mkF m 14 #[.val (.int (3 : Int32)), .val (.ref b2), .val (.int (3 : Int32)), .val (.int (1 : Int32)), .val (.ref t1)] [])) _
    refine XS.aloadN X15.here hx rfl (hb hby d2_14) rfl rfl ?_
    show Steps p.tables e below (T15.setTop (mkF m 15 #[.val (.int (3 : Int32)), .val (.ref b2), .val (.int (3 : Int32)), .val (.int (1 : Int32)), .val (.ref t1)] [(.ref b2)])) _
    refine XS.iloadN X15.here hx rfl (hb hby d2_15) rfl ?_
    show Steps p.tables e below (T15.setTop (mkF m 16 #[.val (.int (3 : Int32)), .val (.ref b2), .val (.int (3 : Int32)), .val (.int (1 : Int32)), .val (.ref t1)] [(.int (1 : Int32)), (.ref b2)])) _
    refine X15.aaload hx (j := (1 : Int32)) (v := (.ref t2)) (by rw [e15]; exact Ao16.1) (State.isArrayOf_alike hZ.alike Ao16.2.1) rfl Ao16.2.2 (inb_of So16 ⟨(by decide), (by decide)⟩) (Has.at Bo16 (inb_of So16 ⟨(by decide), (by decide)⟩) rfl) (g := (mkF m 16 #[.val (.int (3 : Int32)), .val (.ref b2), .val (.int (3 : Int32)), .val (.int (1 : Int32)), .val (.ref t1)] [(.int (1 : Int32)), (.ref b2)])) rfl rfl (hb hby d2_16) _ ?_
    show Steps p.tables e below (T15.setTop (mkF m 17 #[.val (.int (3 : Int32)), .val (.ref b2), .val (.int (3 : Int32)), .val (.int (1 : Int32)), .val (.ref t1)] [(.ref t2)])) _
    refine XS.astore X15.here hx rfl (hb hby d2_17) rfl rfl (l' := #[.val (.int (3 : Int32)), .val (.ref b2), .val (.int (3 : Int32)), .val (.int (1 : Int32)), .val (.ref t2)]) rfl ?_
    show Steps p.tables e below (T15.setTop (mkF m 19 #[.val (.int (3 : Int32)), .val (.ref b2), .val (.int (3 : Int32)), .val (.int (1 : Int32)), .val (.ref t2)] [])) _
    refine XS.aload X15.here hx rfl (hb hby d2_19) rfl rfl ?_
    show Steps p.tables e below (T15.setTop (mkF m 21 #[.val (.int (3 : Int32)), .val (.ref b2), .val (.int (3 : Int32)), .val (.int (1 : Int32)), .val (.ref t2)] [(.ref t2)])) _
    refine st17 _ ?_
    show Steps p.tables e below (T17.setTop (mkF m 24 #[.val (.int (3 : Int32)), .val (.ref b2), .val (.int (3 : Int32)), .val (.int (1 : Int32)), .val (.ref t2)] [(.int (2 : Int32))])) _
    refine XS.iloadN X17.here hx rfl (hb hby d2_24) rfl ?_
    show Steps p.tables e below (T17.setTop (mkF m 25 #[.val (.int (3 : Int32)), .val (.ref b2), .val (.int (3 : Int32)), .val (.int (1 : Int32)), .val (.ref t2)] [(.int (3 : Int32)), (.int (2 : Int32))])) _
    refine XS.icmpYes X17.here hx rfl (pc0 := 25) (pc' := 31) rfl (hb hby d2_25) rfl (feq (by decide : ¬ ((2 : Int32) = (3 : Int32)))).2 (by decide) (by decide) ?_
    show Steps p.tables e below (T17.setTop (mkF m 31 #[.val (.int (3 : Int32)), .val (.ref b2), .val (.int (3 : Int32)), .val (.int (1 : Int32)), .val (.ref t2)] [])) _
    refine XS.iinc X17.here hx rfl (hb hby d2_31) rfl (l' := #[.val (.int (3 : Int32)), .val (.ref b2), .val (.int (3 : Int32)), .val (.int (2 : Int32)), .val (.ref t2)]) rfl ?_
    show Steps p.tables e below (T17.setTop (mkF m 34 #[.val (.int (3 : Int32)), .val (.ref b2), .val (.int (3 : Int32)), .val (.int (2 : Int32)), .val (.ref t2)] [])) _
    refine XS.goto X17.here hx rfl (pc0 := 34) (pc' := 9) rfl (hb hby d2_34) (by decide) (by decide) ?_
    show Steps p.tables e below (T17.setTop (mkF m 9 #[.val (.int (3 : Int32)), .val (.ref b2), .val (.int (3 : Int32)), .val (.int (2 : Int32)), .val (.ref t2)] [])) _
    refine XS.iloadN X17.here hx rfl (hb hby d2_9) rfl ?_
    show Steps p.tables e below (T17.setTop (mkF m 10 #[.val (.int (3 : Int32)), .val (.ref b2), .val (.int (3 : Int32)), .val (.int (2 : Int32)), .val (.ref t2)] [(.int (2 : Int32))])) _
    refine XS.iloadN X17.here hx rfl (hb hby d2_10) rfl ?_
    show Steps p.tables e below (T17.setTop (mkF m 11 #[.val (.int (3 : Int32)), .val (.ref b2), .val (.int (3 : Int32)), .val (.int (2 : Int32)), .val (.ref t2)] [(.int (3 : Int32)), (.int (2 : Int32))])) _
    refine XS.icmpNo X17.here hx rfl (hb hby d2_11) rfl (tlt (by decide : (2 : Int32) < (3 : Int32))).2.1 ?_
    show Steps p.tables e below (T17.setTop (mkF m 14 #[.val (.int (3 : Int32)), .val (.ref b2), .val (.int (3 : Int32)), .val (.int (2 : Int32)), .val (.ref t2)] [])) _
    refine XS.aloadN X17.here hx rfl (hb hby d2_14) rfl rfl ?_
    show Steps p.tables e below (T17.setTop (mkF m 15 #[.val (.int (3 : Int32)), .val (.ref b2), .val (.int (3 : Int32)), .val (.int (2 : Int32)), .val (.ref t2)] [(.ref b2)])) _
    refine XS.iloadN X17.here hx rfl (hb hby d2_15) rfl ?_
    show Steps p.tables e below (T17.setTop (mkF m 16 #[.val (.int (3 : Int32)), .val (.ref b2), .val (.int (3 : Int32)), .val (.int (2 : Int32)), .val (.ref t2)] [(.int (2 : Int32)), (.ref b2)])) _
    refine X17.aaload hx (j := (2 : Int32)) (v := (.ref t3)) (by rw [e17]; exact Ao18.1) (State.isArrayOf_alike hZ.alike Ao18.2.1) rfl Ao18.2.2 (inb_of So18 ⟨(by decide), (by decide)⟩) (Has.at Bo18 (inb_of So18 ⟨(by decide), (by decide)⟩) rfl) (g := (mkF m 16 #[.val (.int (3 : Int32)), .val (.ref b2), .val (.int (3 : Int32)), .val (.int (2 : Int32)), .val (.ref t2)] [(.int (2 : Int32)), (.ref b2)])) rfl rfl (hb hby d2_16) _ ?_
    show Steps p.tables e below (T17.setTop (mkF m 17 #[.val (.int (3 : Int32)), .val (.ref b2), .val (.int (3 : Int32)), .val (.int (2 : Int32)), .val (.ref t2)] [(.ref t3)])) _
    refine XS.astore X17.here hx rfl (hb hby d2_17) rfl rfl (l' := #[.val (.int (3 : Int32)), .val (.ref b2), .val (.int (3 : Int32)), .val (.int (2 : Int32)), .val (.ref t3)]) rfl ?_
    show Steps p.tables e below (T17.setTop (mkF m 19 #[.val (.int (3 : Int32)), .val (.ref b2), .val (.int (3 : Int32)), .val (.int (2 : Int32)), .val (.ref t3)] [])) _
    refine XS.aload X17.here hx rfl (hb hby d2_19) rfl rfl ?_
    show Steps p.tables e below (T17.setTop (mkF m 21 #[.val (.int (3 : Int32)), .val (.ref b2), .val (.int (3 : Int32)), .val (.int (2 : Int32)), .val (.ref t3)] [(.ref t3)])) _
    refine st19 _ ?_
    show Steps p.tables e below (T19.setTop (mkF m 24 #[.val (.int (3 : Int32)), .val (.ref b2), .val (.int (3 : Int32)), .val (.int (2 : Int32)), .val (.ref t3)] [(.int (3 : Int32))])) _
    refine XS.iloadN X19.here hx rfl (hb hby d2_24) rfl ?_
    show Steps p.tables e below (T19.setTop (mkF m 25 #[.val (.int (3 : Int32)), .val (.ref b2), .val (.int (3 : Int32)), .val (.int (2 : Int32)), .val (.ref t3)] [(.int (3 : Int32)), (.int (3 : Int32))])) _
    refine XS.icmpNo X19.here hx rfl (hb hby d2_25) rfl (teq (by decide : (3 : Int32) = (3 : Int32))).2 ?_
    show Steps p.tables e below (T19.setTop (mkF m 28 #[.val (.int (3 : Int32)), .val (.ref b2), .val (.int (3 : Int32)), .val (.int (2 : Int32)), .val (.ref t3)] [])) _
    refine XS.aload X19.here hx rfl (hb hby d2_28) rfl rfl ?_
    show Steps p.tables e below (T19.setTop (mkF m 30 #[.val (.int (3 : Int32)), .val (.ref b2), .val (.int (3 : Int32)), .val (.int (2 : Int32)), .val (.ref t3)] [(.ref t3)])) _
    exact retOut X19 hx Bd.returns rfl (Or.inr (Or.inr (Or.inr (Or.inr ⟨rfl, rfl, rfl⟩)))) (hb hby d2_30) hr
  · show Q2_3 Z aV kk t1 t2 t3 h0 n0 _ T19.heap _
    rw [e19]
    exact ⟨rfl, N1, K12⟩
theorem d4_0 : decode prog_57_method_4_code 0 = .ok (.aload_n 0, 1) := by decide +kernel
theorem d4_1 : decode prog_57_method_4_code 1 = .ok (.getfield 32, 3) := by decide +kernel
theorem d4_4 : decode prog_57_method_4_code 4 = .ok (.ireturn, 1) := by decide +kernel
theorem ef_4 (m : MethodId) (a1 : Addr) : entryFrame m #[(.ref a1)] 1 = mkF m 0 #[.val (.ref a1)] [] := by first | (simp [entryFrame, mkF, argsToLocals, Value.category]; done) | rfl
def Q4 (Z : State) (a1 : Addr) (p1 : Int32) (h0 : Heap) (n0 : Nat) (v : Option Value) (h : Heap) (L : List Loc) : Prop := v = some (.int p1) ∧ Fr n0 L ∧ h = h0
set_option maxRecDepth 65536 in
set_option maxHeartbeats 40000000 in
theorem rm4 (l : Launch) (Z : State) (a0 : Array Value) (hw : ∀ d ∈ tables_1, d.before a0 Z = true) (ws : List Jvm.Cond) (a1 : Addr) (p1 : Int32) (h0 : Heap) (n0 : Nat) (Z0 : n0 ≤ h0.size) (HF0 : Fld Z h0 a1 "com/example/tapewire/tapewire/model/RecordType" "code" "I" (.int p1)) :
    MetFree l (⟨"com/example/tapewire/tapewire/model/RecordType", "code", "()I"⟩ : MethodName) (head1 (Jvm.Cond.code (⟨"com/example/tapewire/tapewire/model/RecordType", "code", "()I"⟩ : MethodName) prog_57_method_4_code 1 (some .int) :: ws) ({ frames := 0, cells := 0, slots := 0, locals := 0 } : Room)) (fun a U => a = #[(.ref a1)] ∧ Z.Warmed39 U.vm ∧ U.heap = h0) (fun _ _ _ _ _ => True) (fun _ U o U' => ∃ v L, o = .returned v ∧ Q4 Z a1 p1 h0 n0 v U'.heap L ∧ FrameEnd U o U' L ({ frames := 0, cells := 0, slots := 0, locals := 0 } : Room).cells ({ frames := 0, cells := 0, slots := 0, locals := 0 } : Room).slots) := by
  refine MetFree.of_bodySF (plainFor_of_name pn_1) hisR ?_
  intro p e s m args below meth c s₁ Bd hml0 hP hK
  obtain ⟨rfl, hZ, hh⟩ := hP
  have hx := Bd.exec
  have hby := Bd.bytes
  have hml : c.maxLocals = 1 := hml0
  have hown : s.vm.findClass "com/example/tapewire/tapewire/model/RecordType" = some m.cls := findClass_of_methodNamed Bd.named
  have hnm := (name_of_methodNamed Bd.named Bd.method).1
  have X0 : Stand p l e ({ frames := 0, cells := 0, slots := 0, locals := 0 } : Room) s m #[(.ref a1)] below meth c s₁ [] 0 0 := Stand.of_body Bd
  have e0 : s₁.heap = h0 := by rw [← hh, Bd.state]; rfl
  have N0 := Fr.nil n0
  have pre0 : ∀ t, Steps p.tables e below (s₁.setTop (mkF m 0 #[.val (.ref a1)] [])) t → Steps p.tables e below (s₁.setTop (entryFrame m #[(.ref a1)] 1)) t := fun t k => castTop (ef_4 m a1) k
  obtain ⟨T1, X1, e1, st1⟩ := getF X0 hx hZ hown (host := "") (Or.inl (hw _ (List.mem_of_getElem? (i := 28) rfl))) Via.refl e0 HF0 (g := (mkF m 1 #[.val (.ref a1)] [(.ref a1)])) rfl rfl (hb hby d4_1)
  obtain ⟨fs, hr, hrun, hended, hW, hsame⟩ := X1.leave (v := some (.int p1)) (fun h => by rw [Bd.returns] at h; cases h)
  refine ⟨_, _, pre0 _ ?_, hrun, hended, _, _, rfl, ?_, ⟨_, rfl⟩, hW, hsame.mono (by decide) (by decide)⟩
  · show Steps p.tables e below (s₁.setTop (mkF m 0 #[.val (.ref a1)] [])) _
    refine XS.aloadN X0.here hx rfl (hb hby d4_0) rfl rfl ?_
    show Steps p.tables e below (s₁.setTop (mkF m 1 #[.val (.ref a1)] [(.ref a1)])) _
    refine st1 _ ?_
    show Steps p.tables e below (T1.setTop (mkF m 4 #[.val (.ref a1)] [(.int p1)])) _
    exact retI X1 hx Bd.returns (hb hby d4_4) hr
  · show Q4 Z a1 p1 h0 n0 _ T1.heap _
    rw [e1]
    exact ⟨rfl, N0, rfl⟩
theorem own_3 (z : Int32) : (((z &&& (2147483647 : Int32)) % (3 : Int32)) + (1 : Int32)) = 1 ∨ (((z &&& (2147483647 : Int32)) % (3 : Int32)) + (1 : Int32)) = 2 ∨ (((z &&& (2147483647 : Int32)) % (3 : Int32)) + (1 : Int32)) = 3 := by
  have m := c_mask z 2147483647 31 (by decide) (by decide)
  have q := (c_irem (z &&& (2147483647 : Int32)) 3 3 rfl).1 (by omega)
  generalize (z &&& (2147483647 : Int32)) % (3 : Int32) = y at *
  have hk : y.toInt = 0 ∨ y.toInt = 1 ∨ y.toInt = 2 := by omega
  rcases hk with h | h | h
  · have e : y = 0 := Int32.toInt_inj.mp h
    subst e; exact Or.inl (by decide)
  · have e : y = 1 := Int32.toInt_inj.mp h
    subst e; exact Or.inr (Or.inl (by decide))
  · have e : y = 2 := Int32.toInt_inj.mp h
    subst e; exact Or.inr (Or.inr (by decide))
theorem pd_1 : parseMethodDescriptor "(I)Lcom/example/tapewire/tapewire/model/RecordType;" = some ⟨[.int], some (.object "com/example/tapewire/tapewire/model/RecordType")⟩ := by decide +kernel
theorem pd_2 : parseMethodDescriptor "()I" = some ⟨[], some .int⟩ := by decide +kernel
theorem ef_0 (m : MethodId) (p0 : Int32) : entryFrame m #[(.int p0)] maxLocals = mkF m 0 #[.val (.int p0), .unset, .unset, .unset] [] := by first | (simp [entryFrame, mkF, argsToLocals, Value.category, maxLocals]; done) | rfl
def Q0 (Z : State) (p0 : Int32) (aV : Addr) (kk : ClassId) (t1 : Addr) (t2 : Addr) (t3 : Addr) (h0 : Heap) (n0 : Nat) (v : Option Value) (h : Heap) (L : List Loc) : Prop := v = some (.int (1 : Int32)) ∧ Fr n0 L
set_option maxRecDepth 65536 in
set_option maxHeartbeats 40000000 in
theorem rm0 (l : Launch) (Z : State) (a0 : Array Value) (hw : ∀ d ∈ tables_1, d.before a0 Z = true) (ws : List Jvm.Cond) (p0 : Int32) (aV : Addr) (kk : ClassId) (t1 : Addr) (t2 : Addr) (t3 : Addr) (h0 : Heap) (n0 : Nat) (Z0 : n0 ≤ h0.size) (HS0 : Sta Z h0 "com/example/tapewire/tapewire/model/RecordType" "$VALUES" "[Lcom/example/tapewire/tapewire/model/RecordType;" (.ref aV)) (HV1 : Arv Z h0 aV kk (.object "com/example/tapewire/tapewire/model/RecordType") (3 : Int32) [(.ref t1), (.ref t2), (.ref t3)] .null) (HE2 : Exa Z h0 aV "[Lcom/example/tapewire/tapewire/model/RecordType;") (HS3 : Sta Z h0 "com/example/tapewire/tapewire/model/RecordType" "TRADE" "Lcom/example/tapewire/tapewire/model/RecordType;" (.ref t1)) (HS4 : Sta Z h0 "com/example/tapewire/tapewire/model/RecordType" "QUOTE" "Lcom/example/tapewire/tapewire/model/RecordType;" (.ref t2)) (HS5 : Sta Z h0 "com/example/tapewire/tapewire/model/RecordType" "BAR" "Lcom/example/tapewire/tapewire/model/RecordType;" (.ref t3)) (HF6 : Fld Z h0 t1 "com/example/tapewire/tapewire/model/RecordType" "code" "I" (.int (1 : Int32))) (HF7 : Fld Z h0 t2 "com/example/tapewire/tapewire/model/RecordType" "code" "I" (.int (2 : Int32))) (HF8 : Fld Z h0 t3 "com/example/tapewire/tapewire/model/RecordType" "code" "I" (.int (3 : Int32))) (HE9 : Exa Z h0 t1 "com/example/tapewire/tapewire/model/RecordType") (HE10 : Exa Z h0 t2 "com/example/tapewire/tapewire/model/RecordType") (HE11 : Exa Z h0 t3 "com/example/tapewire/tapewire/model/RecordType") :
    MetFree l x (head1 (Jvm.Cond.code x code maxLocals ret :: ws) room_1) (fun a U => a = #[(.int p0)] ∧ Z.Warmed39 U.vm ∧ U.heap = h0) (fun _ _ _ _ _ => True) (fun _ U o U' => ∃ v L, o = .returned v ∧ Q0 Z p0 aV kk t1 t2 t3 h0 n0 v U'.heap L ∧ FrameEnd U o U' L room_1.cells room_1.slots) := by
  refine MetFree.of_bodySF (plainFor_of_name pn_0) hisR ?_
  intro p e s m args below meth c s₁ Bd hml0 hP hK
  obtain ⟨rfl, hZ, hh⟩ := hP
  have hx := Bd.exec
  have hby := Bd.bytes
  have hml : c.maxLocals = 4 := hml0
  have hown : s.vm.findClass "com/example/tapewire/tapewire/model/RecordTypeOfCodePinLaw" = some m.cls := findClass_of_methodNamed Bd.named
  have hnm := (name_of_methodNamed Bd.named Bd.method).1
  have X0 : Stand p l e room_1 s m #[(.int p0)] below meth c s₁ [] 0 0 := Stand.of_body Bd
  have e0 : s₁.heap = h0 := by rw [← hh, Bd.state]; rfl
  have N0 := Fr.nil n0
  have pre0 : ∀ t, Steps p.tables e below (s₁.setTop (mkF m 0 #[.val (.int p0), .unset, .unset, .unset] [])) t → Steps p.tables e below (s₁.setTop (entryFrame m #[(.int p0)] maxLocals)) t := fun t k => castTop (ef_0 m p0) k
  have P1 : ∀ t, Steps p.tables e below (s₁.setTop (mkF m 9 #[.val (.int p0), .val (.int (((p0 &&& (2147483647 : Int32)) % (3 : Int32)) + (1 : Int32))), .unset, .unset] [])) t → Steps p.tables e below (s₁.setTop (entryFrame m #[(.int p0)] maxLocals)) t := by
    intro t k
    refine pre0 t ?_
    show Steps p.tables e below (s₁.setTop (mkF m 0 #[.val (.int p0), .unset, .unset, .unset] [])) _
    refine XS.iloadN X0.here hx rfl (hb hby at_0) rfl ?_
    show Steps p.tables e below (s₁.setTop (mkF m 1 #[.val (.int p0), .unset, .unset, .unset] [(.int p0)])) _
    refine X0.ldcInt hx hown (mvT hZ (hw _ (List.mem_of_getElem? (i := 0) rfl))) (g := (mkF m 1 #[.val (.int p0), .unset, .unset, .unset] [(.int p0)])) rfl (hb hby at_1) _ ?_
    show Steps p.tables e below (s₁.setTop (mkF m 3 #[.val (.int p0), .unset, .unset, .unset] [(.int (2147483647 : Int32)), (.int p0)])) _
    refine XS.iand X0.here hx rfl (hb hby at_3) rfl ?_
    show Steps p.tables e below (s₁.setTop (mkF m 4 #[.val (.int p0), .unset, .unset, .unset] [(.int (p0 &&& (2147483647 : Int32)))])) _
    refine XS.iconst X0.here hx rfl (hb hby at_4) ?_
    show Steps p.tables e below (s₁.setTop (mkF m 5 #[.val (.int p0), .unset, .unset, .unset] [(.int (3 : Int32)), (.int (p0 &&& (2147483647 : Int32)))])) _
    refine iremM X0 hx rfl (hb hby at_5) rfl (by decide) ?_
    show Steps p.tables e below (s₁.setTop (mkF m 6 #[.val (.int p0), .unset, .unset, .unset] [(.int ((p0 &&& (2147483647 : Int32)) % (3 : Int32)))])) _
    refine XS.iconst X0.here hx rfl (hb hby at_6) ?_
    show Steps p.tables e below (s₁.setTop (mkF m 7 #[.val (.int p0), .unset, .unset, .unset] [(.int (1 : Int32)), (.int ((p0 &&& (2147483647 : Int32)) % (3 : Int32)))])) _
    refine XS.iadd X0.here hx rfl (hb hby at_7) rfl ?_
    show Steps p.tables e below (s₁.setTop (mkF m 8 #[.val (.int p0), .unset, .unset, .unset] [(.int (((p0 &&& (2147483647 : Int32)) % (3 : Int32)) + (1 : Int32)))])) _
    refine XS.istoreN X0.here hx rfl (hb hby at_8) rfl (l' := #[.val (.int p0), .val (.int (((p0 &&& (2147483647 : Int32)) % (3 : Int32)) + (1 : Int32))), .unset, .unset]) rfl ?_
    exact k
  obtain ⟨iv, hiv⟩ : ∃ z : Int32, z = (((p0 &&& (2147483647 : Int32)) % (3 : Int32)) + (1 : Int32)) := ⟨_, rfl⟩
  have P2 : ∀ t, Steps p.tables e below (s₁.setTop (mkF m 9 #[.val (.int p0), .val (.int iv), .unset, .unset] [])) t → Steps p.tables e below (s₁.setTop (entryFrame m #[(.int p0)] maxLocals)) t := by rw [hiv]; exact P1
  have h3 := own_3 p0
  rw [← hiv] at h3
  rcases h3 with rfl | rfl | rfl
  · obtain ⟨_, _, ⟨T3, L3, k3, n3⟩, -, X3, ⟨Lc3, hQ3, l3, y3, z3⟩, st3⟩ := Jvm.LawKit.callS X0 hx (y := (⟨"com/example/tapewire/tapewire/model/RecordTypeOfCodePinLaw", "expected", "(I)Lcom/example/tapewire/tapewire/model/RecordType;"⟩ : MethodName)) hown (mvT hZ (hw _ (List.mem_of_getElem? (i := 1) rfl))) (mvT hZ (hw _ (List.mem_of_getElem? (i := 2) rfl))) (mvT hZ (hw _ (List.mem_of_getElem? (i := 3) rfl))) (mvT hZ (hw _ (List.mem_of_getElem? (i := 4) rfl))) (by decide) (backOf (W := 0) (rm1_1 l Z a0 hw [] t1 h0 n0 Z0 HS3) hZ (hw _ (List.mem_of_getElem? (i := 4) rfl)) (hw _ (List.mem_of_getElem? (i := 3) rfl)) (by decide) (by decide)) (g := (mkF m 10 #[.val (.int p0), .val (.int (1 : Int32)), .unset, .unset] [(.int (1 : Int32))])) rfl (by rw [hml]; rfl) (argsL := [(.int (1 : Int32))]) (rest := []) (lenOf pd_1 rfl) rfl (by show 2 * 0 + _ ≤ _; exact Nat.le_of_eq rfl) (hb hby at_10) (fun _ _ => ⟨rfl, e0, (by decide : 0 + 0 ≤ _), (by decide : 0 + 0 ≤ _)⟩)
    dsimp only [Pt.U, Pt.locs, Pt.cells, Pt.slots] at X3 l3 y3 z3 st3 hQ3
    subst l3 y3 z3
    obtain ⟨rfl, N3q, R4⟩ := hQ3
    have N3 := Fr.app N0 N3q
    obtain ⟨_, _, ⟨T5, L5, k5, n5⟩, -, X5, ⟨Lc5, hQ5, l5, y5, z5⟩, st5⟩ := Jvm.LawKit.callS X3 hx (y := (⟨"com/example/tapewire/tapewire/model/RecordType", "ofCode", "(I)Lcom/example/tapewire/tapewire/model/RecordType;"⟩ : MethodName)) hown (mvT hZ (hw _ (List.mem_of_getElem? (i := 8) rfl))) (mvT hZ (hw _ (List.mem_of_getElem? (i := 9) rfl))) (mvT hZ (hw _ (List.mem_of_getElem? (i := 6) rfl))) (mvT hZ (hw _ (List.mem_of_getElem? (i := 10) rfl))) (by decide) (backOf (W := 0) (rm2_1 l Z a0 hw [] aV kk t1 t2 t3 h0 n0 Z0 HS0 HV1 HE2 HF6 HF7 HF8) hZ (hw _ (List.mem_of_getElem? (i := 10) rfl)) (hw _ (List.mem_of_getElem? (i := 6) rfl)) (by decide) (by decide)) (g := (mkF m 15 #[.val (.int p0), .val (.int (1 : Int32)), .val (.ref t1), .unset] [(.int (1 : Int32))])) rfl (by rw [hml]; rfl) (argsL := [(.int (1 : Int32))]) (rest := []) (lenOf pd_1 rfl) rfl (by show 2 * 0 + _ ≤ _; exact Nat.le_of_eq rfl) (hb hby at_15) (fun _ _ => ⟨rfl, R4, (by decide : 0 + 1 ≤ _), (by decide : 0 + 3 ≤ _)⟩)
    dsimp only [Pt.U, Pt.locs, Pt.cells, Pt.slots] at X5 l5 y5 z5 st5 hQ5
    subst l5 y5 z5
    obtain ⟨rfl, N5q, R6⟩ := hQ5
    have N5 := Fr.app N3 N5q
    have F7 : Sta Z T5.heap "com/example/tapewire/tapewire/model/RecordType" "$VALUES" "[Lcom/example/tapewire/tapewire/model/RecordType;" (.ref aV) := own_staKeep HS0 R6 all0
    have F8 : Arv Z T5.heap aV kk (.object "com/example/tapewire/tapewire/model/RecordType") (3 : Int32) [(.ref t1), (.ref t2), (.ref t3)] .null := HV1.keep R6 nin0
    have F9 : Exa Z T5.heap aV "[Lcom/example/tapewire/tapewire/model/RecordType;" := HE2.keep R6
    have F10 : Sta Z T5.heap "com/example/tapewire/tapewire/model/RecordType" "TRADE" "Lcom/example/tapewire/tapewire/model/RecordType;" (.ref t1) := own_staKeep HS3 R6 all0
    have F11 : Sta Z T5.heap "com/example/tapewire/tapewire/model/RecordType" "QUOTE" "Lcom/example/tapewire/tapewire/model/RecordType;" (.ref t2) := own_staKeep HS4 R6 all0
    have F12 : Sta Z T5.heap "com/example/tapewire/tapewire/model/RecordType" "BAR" "Lcom/example/tapewire/tapewire/model/RecordType;" (.ref t3) := own_staKeep HS5 R6 all0
    have F13 : Fld Z T5.heap t1 "com/example/tapewire/tapewire/model/RecordType" "code" "I" (.int (1 : Int32)) := HF6.keep R6 nin0
    have F14 : Fld Z T5.heap t2 "com/example/tapewire/tapewire/model/RecordType" "code" "I" (.int (2 : Int32)) := HF7.keep R6 nin0
    have F15 : Fld Z T5.heap t3 "com/example/tapewire/tapewire/model/RecordType" "code" "I" (.int (3 : Int32)) := HF8.keep R6 nin0
    have F16 : Exa Z T5.heap t1 "com/example/tapewire/tapewire/model/RecordType" := HE9.keep R6
    have F17 : Exa Z T5.heap t2 "com/example/tapewire/tapewire/model/RecordType" := HE10.keep R6
    have F18 : Exa Z T5.heap t3 "com/example/tapewire/tapewire/model/RecordType" := HE11.keep R6
    have Z19 : n0 ≤ T5.heap.size := Nat.le_trans Z0 R6.1
    obtain ⟨cq20, kq20, q20a, q20b, q20c⟩ := isOf hZ rfl F16
    obtain ⟨_, _, ⟨T20, L20, k20, n20⟩, -, X20, ⟨Lc20, hQ20, l20, y20, z20⟩, st20⟩ := X5.virtualBack hx (y := (⟨"com/example/tapewire/tapewire/model/RecordType", "code", "()I"⟩ : MethodName)) (z := (⟨"com/example/tapewire/tapewire/model/RecordType", "code", "()I"⟩ : MethodName)) hown (mvT hZ (hw _ (List.mem_of_getElem? (i := 30) rfl))) (mvT hZ (hw _ (List.mem_of_getElem? (i := 31) rfl))) (notFace_of_selects (args := #[]) (mvT hZ (hw _ (List.mem_of_getElem? (i := 33) rfl)))) (mvT hZ (hw _ (List.mem_of_getElem? (i := 33) rfl))) (mvT hZ (hw _ (List.mem_of_getElem? (i := 32) rfl))) (by decide) (backOf (W := 0) (rm4 l Z a0 hw [] t1 (1 : Int32) T5.heap n0 Z19 F13) hZ (hw _ (List.mem_of_getElem? (i := 34) rfl)) (hw _ (List.mem_of_getElem? (i := 6) rfl)) (by decide) (by decide)) q20a q20c (g := (mkF m 25 #[.val (.int p0), .val (.int (1 : Int32)), .val (.ref t1), .val (.ref t1)] [(.ref t1)])) rfl (by rw [hml]; rfl) (Steps.refl _) (argsL := []) (rest := []) (lenOf pd_2 rfl) rfl (by show 2 * 0 + _ ≤ _; exact Nat.le_of_eq rfl) (hb hby at_25) (fun _ _ => ⟨rfl, rfl, (by decide : 1 + 0 ≤ _), (by decide : 3 + 0 ≤ _)⟩)
    dsimp only [Pt.U, Pt.locs, Pt.cells, Pt.slots] at X20 l20 y20 z20 st20 hQ20
    subst l20 y20 z20
    obtain ⟨rfl, N20q, R21⟩ := hQ20
    have N20 := Fr.app N5 N20q
    obtain ⟨cq22, kq22, q22a, q22b, q22c⟩ := isOf hZ R21 F16
    obtain ⟨_, _, ⟨T22, L22, k22, n22⟩, -, X22, ⟨Lc22, hQ22, l22, y22, z22⟩, st22⟩ := X20.virtualBack hx (y := (⟨"com/example/tapewire/tapewire/model/RecordType", "code", "()I"⟩ : MethodName)) (z := (⟨"com/example/tapewire/tapewire/model/RecordType", "code", "()I"⟩ : MethodName)) hown (mvT hZ (hw _ (List.mem_of_getElem? (i := 30) rfl))) (mvT hZ (hw _ (List.mem_of_getElem? (i := 31) rfl))) (notFace_of_selects (args := #[]) (mvT hZ (hw _ (List.mem_of_getElem? (i := 33) rfl)))) (mvT hZ (hw _ (List.mem_of_getElem? (i := 33) rfl))) (mvT hZ (hw _ (List.mem_of_getElem? (i := 32) rfl))) (by decide) (backOf (W := 0) (rm4 l Z a0 hw [] t1 (1 : Int32) T5.heap n0 Z19 F13) hZ (hw _ (List.mem_of_getElem? (i := 34) rfl)) (hw _ (List.mem_of_getElem? (i := 6) rfl)) (by decide) (by decide)) q22a q22c (g := (mkF m 33 #[.val (.int p0), .val (.int (1 : Int32)), .val (.ref t1), .val (.ref t1)] [(.ref t1)])) rfl (by rw [hml]; rfl) (Steps.refl _) (argsL := []) (rest := []) (lenOf pd_2 rfl) rfl (by show 2 * 0 + _ ≤ _; exact Nat.le_of_eq rfl) (hb hby at_33) (fun _ _ => ⟨rfl, R21, (by decide : 1 + 0 ≤ _), (by decide : 3 + 0 ≤ _)⟩)
    dsimp only [Pt.U, Pt.locs, Pt.cells, Pt.slots] at X22 l22 y22 z22 st22 hQ22
    subst l22 y22 z22
    obtain ⟨rfl, N22q, R23⟩ := hQ22
    have N22 := Fr.app N20 N22q
    obtain ⟨_, _, ⟨T24, L24, k24, n24⟩, -, X24, ⟨Lc24, hQ24, l24, y24, z24⟩, st24⟩ := Jvm.LawKit.callS X22 hx (y := (⟨"com/example/tapewire/tapewire/model/RecordType", "ofCode", "(I)Lcom/example/tapewire/tapewire/model/RecordType;"⟩ : MethodName)) hown (mvT hZ (hw _ (List.mem_of_getElem? (i := 8) rfl))) (mvT hZ (hw _ (List.mem_of_getElem? (i := 9) rfl))) (mvT hZ (hw _ (List.mem_of_getElem? (i := 6) rfl))) (mvT hZ (hw _ (List.mem_of_getElem? (i := 10) rfl))) (by decide) (backOf (W := 0) (rm2_1 l Z a0 hw [] aV kk t1 t2 t3 T5.heap n0 Z19 F7 F8 F9 F13 F14 F15) hZ (hw _ (List.mem_of_getElem? (i := 10) rfl)) (hw _ (List.mem_of_getElem? (i := 6) rfl)) (by decide) (by decide)) (g := (mkF m 36 #[.val (.int p0), .val (.int (1 : Int32)), .val (.ref t1), .val (.ref t1)] [(.int (1 : Int32))])) rfl (by rw [hml]; rfl) (argsL := [(.int (1 : Int32))]) (rest := []) (lenOf pd_1 rfl) rfl (by show 2 * 0 + _ ≤ _; exact Nat.le_of_eq rfl) (hb hby at_36) (fun _ _ => ⟨rfl, R23, (by decide : 1 + 1 ≤ _), (by decide : 3 + 3 ≤ _)⟩)
    dsimp only [Pt.U, Pt.locs, Pt.cells, Pt.slots] at X24 l24 y24 z24 st24 hQ24
    subst l24 y24 z24
    obtain ⟨rfl, N24q, R25⟩ := hQ24
    have N24 := Fr.app N22 N24q
    have F26 : Sta Z T24.heap "com/example/tapewire/tapewire/model/RecordType" "$VALUES" "[Lcom/example/tapewire/tapewire/model/RecordType;" (.ref aV) := own_staKeep F7 R25 all0
    have F27 : Arv Z T24.heap aV kk (.object "com/example/tapewire/tapewire/model/RecordType") (3 : Int32) [(.ref t1), (.ref t2), (.ref t3)] .null := F8.keep R25 nin0
    have F28 : Exa Z T24.heap aV "[Lcom/example/tapewire/tapewire/model/RecordType;" := F9.keep R25
    have F29 : Sta Z T24.heap "com/example/tapewire/tapewire/model/RecordType" "TRADE" "Lcom/example/tapewire/tapewire/model/RecordType;" (.ref t1) := own_staKeep F10 R25 all0
    have F30 : Sta Z T24.heap "com/example/tapewire/tapewire/model/RecordType" "QUOTE" "Lcom/example/tapewire/tapewire/model/RecordType;" (.ref t2) := own_staKeep F11 R25 all0
    have F31 : Sta Z T24.heap "com/example/tapewire/tapewire/model/RecordType" "BAR" "Lcom/example/tapewire/tapewire/model/RecordType;" (.ref t3) := own_staKeep F12 R25 all0
    have F32 : Fld Z T24.heap t1 "com/example/tapewire/tapewire/model/RecordType" "code" "I" (.int (1 : Int32)) := F13.keep R25 nin0
    have F33 : Fld Z T24.heap t2 "com/example/tapewire/tapewire/model/RecordType" "code" "I" (.int (2 : Int32)) := F14.keep R25 nin0
    have F34 : Fld Z T24.heap t3 "com/example/tapewire/tapewire/model/RecordType" "code" "I" (.int (3 : Int32)) := F15.keep R25 nin0
    have F35 : Exa Z T24.heap t1 "com/example/tapewire/tapewire/model/RecordType" := F16.keep R25
    have F36 : Exa Z T24.heap t2 "com/example/tapewire/tapewire/model/RecordType" := F17.keep R25
    have F37 : Exa Z T24.heap t3 "com/example/tapewire/tapewire/model/RecordType" := F18.keep R25
    have Z38 : n0 ≤ T24.heap.size := Nat.le_trans Z19 R25.1
    obtain ⟨fs, hr, hrun, hended, hW, hsame⟩ := X24.leave (v := some (.int (1 : Int32))) (fun h => by rw [Bd.returns] at h; cases h)
    refine ⟨_, _, P2 _ ?_, hrun, hended, _, _, rfl, ?_, ⟨_, rfl⟩, hW, hsame.mono (by decide) (by decide)⟩
    · show Steps p.tables e below (s₁.setTop (mkF m 9 #[.val (.int p0), .val (.int (1 : Int32)), .unset, .unset] [])) _
      refine XS.iloadN X0.here hx rfl (hb hby at_9) rfl ?_
      show Steps p.tables e below (s₁.setTop (mkF m 10 #[.val (.int p0), .val (.int (1 : Int32)), .unset, .unset] [(.int (1 : Int32))])) _
      refine st3 _ ?_
      show Steps p.tables e below (T3.setTop (mkF m 13 #[.val (.int p0), .val (.int (1 : Int32)), .unset, .unset] [(.ref t1)])) _
      refine XS.astoreN X3.here hx rfl (hb hby at_13) rfl rfl (l' := #[.val (.int p0), .val (.int (1 : Int32)), .val (.ref t1), .unset]) rfl ?_
      show Steps p.tables e below (T3.setTop (mkF m 14 #[.val (.int p0), .val (.int (1 : Int32)), .val (.ref t1), .unset] [])) _
      refine XS.iloadN X3.here hx rfl (hb hby at_14) rfl ?_
      show Steps p.tables e below (T3.setTop (mkF m 15 #[.val (.int p0), .val (.int (1 : Int32)), .val (.ref t1), .unset] [(.int (1 : Int32))])) _
      refine st5 _ ?_
      show Steps p.tables e below (T5.setTop (mkF m 18 #[.val (.int p0), .val (.int (1 : Int32)), .val (.ref t1), .unset] [(.ref t1)])) _
      refine XS.astoreN X5.here hx rfl (hb hby at_18) rfl rfl (l' := #[.val (.int p0), .val (.int (1 : Int32)), .val (.ref t1), .val (.ref t1)]) rfl ?_
      show Steps p.tables e below (T5.setTop (mkF m 19 #[.val (.int p0), .val (.int (1 : Int32)), .val (.ref t1), .val (.ref t1)] [])) _
      refine XS.aloadN X5.here hx rfl (hb hby at_19) rfl rfl ?_
      show Steps p.tables e below (T5.setTop (mkF m 20 #[.val (.int p0), .val (.int (1 : Int32)), .val (.ref t1), .val (.ref t1)] [(.ref t1)])) _
      refine XS.aloadN X5.here hx rfl (hb hby at_20) rfl rfl ?_
      show Steps p.tables e below (T5.setTop (mkF m 21 #[.val (.int p0), .val (.int (1 : Int32)), .val (.ref t1), .val (.ref t1)] [(.ref t1), (.ref t1)])) _
      refine Jvm.RoadKit.acmp (g := (mkF m 21 #[.val (.int p0), .val (.int (1 : Int32)), .val (.ref t1), .val (.ref t1)] [(.ref t1), (.ref t1)])) X5 hx rfl rfl rfl (pc0 := 21) (pc' := 24) (same := true) rfl (hb hby at_21) rfl (decide_eq_true rfl) (by decide) (by decide) ?_
      show Steps p.tables e below (T5.setTop (mkF m 24 #[.val (.int p0), .val (.int (1 : Int32)), .val (.ref t1), .val (.ref t1)] [])) _
      refine XS.aloadN X5.here hx rfl (hb hby at_24) rfl rfl ?_
      show Steps p.tables e below (T5.setTop (mkF m 25 #[.val (.int p0), .val (.int (1 : Int32)), .val (.ref t1), .val (.ref t1)] [(.ref t1)])) _
      refine st20.trans ?_
      show Steps p.tables e below (T20.setTop (mkF m 28 #[.val (.int p0), .val (.int (1 : Int32)), .val (.ref t1), .val (.ref t1)] [(.int (1 : Int32))])) _
      refine XS.iloadN X20.here hx rfl (hb hby at_28) rfl ?_
      show Steps p.tables e below (T20.setTop (mkF m 29 #[.val (.int p0), .val (.int (1 : Int32)), .val (.ref t1), .val (.ref t1)] [(.int (1 : Int32)), (.int (1 : Int32))])) _
      refine XS.icmpNo X20.here hx rfl (hb hby at_29) rfl (teq (by decide : (1 : Int32) = (1 : Int32))).2 ?_
      show Steps p.tables e below (T20.setTop (mkF m 32 #[.val (.int p0), .val (.int (1 : Int32)), .val (.ref t1), .val (.ref t1)] [])) _
      refine XS.aloadN X20.here hx rfl (hb hby at_32) rfl rfl ?_
      show Steps p.tables e below (T20.setTop (mkF m 33 #[.val (.int p0), .val (.int (1 : Int32)), .val (.ref t1), .val (.ref t1)] [(.ref t1)])) _
      refine st22.trans ?_
      show Steps p.tables e below (T22.setTop (mkF m 36 #[.val (.int p0), .val (.int (1 : Int32)), .val (.ref t1), .val (.ref t1)] [(.int (1 : Int32))])) _
      refine st24 _ ?_
      show Steps p.tables e below (T24.setTop (mkF m 39 #[.val (.int p0), .val (.int (1 : Int32)), .val (.ref t1), .val (.ref t1)] [(.ref t1)])) _
      refine XS.aloadN X24.here hx rfl (hb hby at_39) rfl rfl ?_
      show Steps p.tables e below (T24.setTop (mkF m 40 #[.val (.int p0), .val (.int (1 : Int32)), .val (.ref t1), .val (.ref t1)] [(.ref t1), (.ref t1)])) _
      refine Jvm.RoadKit.acmp (g := (mkF m 40 #[.val (.int p0), .val (.int (1 : Int32)), .val (.ref t1), .val (.ref t1)] [(.ref t1), (.ref t1)])) X24 hx rfl rfl rfl (pc0 := 40) (pc' := 43) (same := true) rfl (hb hby at_40) rfl (decide_eq_true rfl) (by decide) (by decide) ?_
      show Steps p.tables e below (T24.setTop (mkF m 43 #[.val (.int p0), .val (.int (1 : Int32)), .val (.ref t1), .val (.ref t1)] [])) _
      refine XS.iconst X24.here hx rfl (hb hby at_43) ?_
      show Steps p.tables e below (T24.setTop (mkF m 44 #[.val (.int p0), .val (.int (1 : Int32)), .val (.ref t1), .val (.ref t1)] [(.int (1 : Int32))])) _
      refine XS.goto X24.here hx rfl (pc0 := 44) (pc' := 48) rfl (hb hby at_44) (by decide) (by decide) ?_
      show Steps p.tables e below (T24.setTop (mkF m 48 #[.val (.int p0), .val (.int (1 : Int32)), .val (.ref t1), .val (.ref t1)] [(.int (1 : Int32))])) _
      exact retN X24 hx (t := .boolean) Bd.returns (by simp) (hb hby at_48) hr
    · show Q0 Z p0 aV kk t1 t2 t3 h0 n0 _ T24.heap _
      exact ⟨rfl, N24⟩
  · obtain ⟨_, _, ⟨T39, L39, k39, n39⟩, -, X39, ⟨Lc39, hQ39, l39, y39, z39⟩, st39⟩ := Jvm.LawKit.callS X0 hx (y := (⟨"com/example/tapewire/tapewire/model/RecordTypeOfCodePinLaw", "expected", "(I)Lcom/example/tapewire/tapewire/model/RecordType;"⟩ : MethodName)) hown (mvT hZ (hw _ (List.mem_of_getElem? (i := 1) rfl))) (mvT hZ (hw _ (List.mem_of_getElem? (i := 2) rfl))) (mvT hZ (hw _ (List.mem_of_getElem? (i := 3) rfl))) (mvT hZ (hw _ (List.mem_of_getElem? (i := 4) rfl))) (by decide) (backOf (W := 0) (rm1_2 l Z a0 hw [] t2 h0 n0 Z0 HS4) hZ (hw _ (List.mem_of_getElem? (i := 4) rfl)) (hw _ (List.mem_of_getElem? (i := 3) rfl)) (by decide) (by decide)) (g := (mkF m 10 #[.val (.int p0), .val (.int (2 : Int32)), .unset, .unset] [(.int (2 : Int32))])) rfl (by rw [hml]; rfl) (argsL := [(.int (2 : Int32))]) (rest := []) (lenOf pd_1 rfl) rfl (by show 2 * 0 + _ ≤ _; exact Nat.le_of_eq rfl) (hb hby at_10) (fun _ _ => ⟨rfl, e0, (by decide : 0 + 0 ≤ _), (by decide : 0 + 0 ≤ _)⟩)
    dsimp only [Pt.U, Pt.locs, Pt.cells, Pt.slots] at X39 l39 y39 z39 st39 hQ39
    subst l39 y39 z39
    obtain ⟨rfl, N39q, R40⟩ := hQ39
    have N39 := Fr.app N0 N39q
    obtain ⟨_, _, ⟨T41, L41, k41, n41⟩, -, X41, ⟨Lc41, hQ41, l41, y41, z41⟩, st41⟩ := Jvm.LawKit.callS X39 hx (y := (⟨"com/example/tapewire/tapewire/model/RecordType", "ofCode", "(I)Lcom/example/tapewire/tapewire/model/RecordType;"⟩ : MethodName)) hown (mvT hZ (hw _ (List.mem_of_getElem? (i := 8) rfl))) (mvT hZ (hw _ (List.mem_of_getElem? (i := 9) rfl))) (mvT hZ (hw _ (List.mem_of_getElem? (i := 6) rfl))) (mvT hZ (hw _ (List.mem_of_getElem? (i := 10) rfl))) (by decide) (backOf (W := 0) (rm2_2 l Z a0 hw [] aV kk t1 t2 t3 h0 n0 Z0 HS0 HV1 HE2 HF6 HF7 HF8) hZ (hw _ (List.mem_of_getElem? (i := 10) rfl)) (hw _ (List.mem_of_getElem? (i := 6) rfl)) (by decide) (by decide)) (g := (mkF m 15 #[.val (.int p0), .val (.int (2 : Int32)), .val (.ref t2), .unset] [(.int (2 : Int32))])) rfl (by rw [hml]; rfl) (argsL := [(.int (2 : Int32))]) (rest := []) (lenOf pd_1 rfl) rfl (by show 2 * 0 + _ ≤ _; exact Nat.le_of_eq rfl) (hb hby at_15) (fun _ _ => ⟨rfl, R40, (by decide : 0 + 1 ≤ _), (by decide : 0 + 3 ≤ _)⟩)
    dsimp only [Pt.U, Pt.locs, Pt.cells, Pt.slots] at X41 l41 y41 z41 st41 hQ41
    subst l41 y41 z41
    obtain ⟨rfl, N41q, R42⟩ := hQ41
    have N41 := Fr.app N39 N41q
    have F43 : Sta Z T41.heap "com/example/tapewire/tapewire/model/RecordType" "$VALUES" "[Lcom/example/tapewire/tapewire/model/RecordType;" (.ref aV) := own_staKeep HS0 R42 all0
    have F44 : Arv Z T41.heap aV kk (.object "com/example/tapewire/tapewire/model/RecordType") (3 : Int32) [(.ref t1), (.ref t2), (.ref t3)] .null := HV1.keep R42 nin0
    have F45 : Exa Z T41.heap aV "[Lcom/example/tapewire/tapewire/model/RecordType;" := HE2.keep R42
    have F46 : Sta Z T41.heap "com/example/tapewire/tapewire/model/RecordType" "TRADE" "Lcom/example/tapewire/tapewire/model/RecordType;" (.ref t1) := own_staKeep HS3 R42 all0
    have F47 : Sta Z T41.heap "com/example/tapewire/tapewire/model/RecordType" "QUOTE" "Lcom/example/tapewire/tapewire/model/RecordType;" (.ref t2) := own_staKeep HS4 R42 all0
    have F48 : Sta Z T41.heap "com/example/tapewire/tapewire/model/RecordType" "BAR" "Lcom/example/tapewire/tapewire/model/RecordType;" (.ref t3) := own_staKeep HS5 R42 all0
    have F49 : Fld Z T41.heap t1 "com/example/tapewire/tapewire/model/RecordType" "code" "I" (.int (1 : Int32)) := HF6.keep R42 nin0
    have F50 : Fld Z T41.heap t2 "com/example/tapewire/tapewire/model/RecordType" "code" "I" (.int (2 : Int32)) := HF7.keep R42 nin0
    have F51 : Fld Z T41.heap t3 "com/example/tapewire/tapewire/model/RecordType" "code" "I" (.int (3 : Int32)) := HF8.keep R42 nin0
    have F52 : Exa Z T41.heap t1 "com/example/tapewire/tapewire/model/RecordType" := HE9.keep R42
    have F53 : Exa Z T41.heap t2 "com/example/tapewire/tapewire/model/RecordType" := HE10.keep R42
    have F54 : Exa Z T41.heap t3 "com/example/tapewire/tapewire/model/RecordType" := HE11.keep R42
    have Z55 : n0 ≤ T41.heap.size := Nat.le_trans Z0 R42.1
    obtain ⟨cq56, kq56, q56a, q56b, q56c⟩ := isOf hZ rfl F53
    obtain ⟨_, _, ⟨T56, L56, k56, n56⟩, -, X56, ⟨Lc56, hQ56, l56, y56, z56⟩, st56⟩ := X41.virtualBack hx (y := (⟨"com/example/tapewire/tapewire/model/RecordType", "code", "()I"⟩ : MethodName)) (z := (⟨"com/example/tapewire/tapewire/model/RecordType", "code", "()I"⟩ : MethodName)) hown (mvT hZ (hw _ (List.mem_of_getElem? (i := 30) rfl))) (mvT hZ (hw _ (List.mem_of_getElem? (i := 31) rfl))) (notFace_of_selects (args := #[]) (mvT hZ (hw _ (List.mem_of_getElem? (i := 33) rfl)))) (mvT hZ (hw _ (List.mem_of_getElem? (i := 33) rfl))) (mvT hZ (hw _ (List.mem_of_getElem? (i := 32) rfl))) (by decide) (backOf (W := 0) (rm4 l Z a0 hw [] t2 (2 : Int32) T41.heap n0 Z55 F50) hZ (hw _ (List.mem_of_getElem? (i := 34) rfl)) (hw _ (List.mem_of_getElem? (i := 6) rfl)) (by decide) (by decide)) q56a q56c (g := (mkF m 25 #[.val (.int p0), .val (.int (2 : Int32)), .val (.ref t2), .val (.ref t2)] [(.ref t2)])) rfl (by rw [hml]; rfl) (Steps.refl _) (argsL := []) (rest := []) (lenOf pd_2 rfl) rfl (by show 2 * 0 + _ ≤ _; exact Nat.le_of_eq rfl) (hb hby at_25) (fun _ _ => ⟨rfl, rfl, (by decide : 1 + 0 ≤ _), (by decide : 3 + 0 ≤ _)⟩)
    dsimp only [Pt.U, Pt.locs, Pt.cells, Pt.slots] at X56 l56 y56 z56 st56 hQ56
    subst l56 y56 z56
    obtain ⟨rfl, N56q, R57⟩ := hQ56
    have N56 := Fr.app N41 N56q
    obtain ⟨cq58, kq58, q58a, q58b, q58c⟩ := isOf hZ R57 F53
    obtain ⟨_, _, ⟨T58, L58, k58, n58⟩, -, X58, ⟨Lc58, hQ58, l58, y58, z58⟩, st58⟩ := X56.virtualBack hx (y := (⟨"com/example/tapewire/tapewire/model/RecordType", "code", "()I"⟩ : MethodName)) (z := (⟨"com/example/tapewire/tapewire/model/RecordType", "code", "()I"⟩ : MethodName)) hown (mvT hZ (hw _ (List.mem_of_getElem? (i := 30) rfl))) (mvT hZ (hw _ (List.mem_of_getElem? (i := 31) rfl))) (notFace_of_selects (args := #[]) (mvT hZ (hw _ (List.mem_of_getElem? (i := 33) rfl)))) (mvT hZ (hw _ (List.mem_of_getElem? (i := 33) rfl))) (mvT hZ (hw _ (List.mem_of_getElem? (i := 32) rfl))) (by decide) (backOf (W := 0) (rm4 l Z a0 hw [] t2 (2 : Int32) T41.heap n0 Z55 F50) hZ (hw _ (List.mem_of_getElem? (i := 34) rfl)) (hw _ (List.mem_of_getElem? (i := 6) rfl)) (by decide) (by decide)) q58a q58c (g := (mkF m 33 #[.val (.int p0), .val (.int (2 : Int32)), .val (.ref t2), .val (.ref t2)] [(.ref t2)])) rfl (by rw [hml]; rfl) (Steps.refl _) (argsL := []) (rest := []) (lenOf pd_2 rfl) rfl (by show 2 * 0 + _ ≤ _; exact Nat.le_of_eq rfl) (hb hby at_33) (fun _ _ => ⟨rfl, R57, (by decide : 1 + 0 ≤ _), (by decide : 3 + 0 ≤ _)⟩)
    dsimp only [Pt.U, Pt.locs, Pt.cells, Pt.slots] at X58 l58 y58 z58 st58 hQ58
    subst l58 y58 z58
    obtain ⟨rfl, N58q, R59⟩ := hQ58
    have N58 := Fr.app N56 N58q
    obtain ⟨_, _, ⟨T60, L60, k60, n60⟩, -, X60, ⟨Lc60, hQ60, l60, y60, z60⟩, st60⟩ := Jvm.LawKit.callS X58 hx (y := (⟨"com/example/tapewire/tapewire/model/RecordType", "ofCode", "(I)Lcom/example/tapewire/tapewire/model/RecordType;"⟩ : MethodName)) hown (mvT hZ (hw _ (List.mem_of_getElem? (i := 8) rfl))) (mvT hZ (hw _ (List.mem_of_getElem? (i := 9) rfl))) (mvT hZ (hw _ (List.mem_of_getElem? (i := 6) rfl))) (mvT hZ (hw _ (List.mem_of_getElem? (i := 10) rfl))) (by decide) (backOf (W := 0) (rm2_2 l Z a0 hw [] aV kk t1 t2 t3 T41.heap n0 Z55 F43 F44 F45 F49 F50 F51) hZ (hw _ (List.mem_of_getElem? (i := 10) rfl)) (hw _ (List.mem_of_getElem? (i := 6) rfl)) (by decide) (by decide)) (g := (mkF m 36 #[.val (.int p0), .val (.int (2 : Int32)), .val (.ref t2), .val (.ref t2)] [(.int (2 : Int32))])) rfl (by rw [hml]; rfl) (argsL := [(.int (2 : Int32))]) (rest := []) (lenOf pd_1 rfl) rfl (by show 2 * 0 + _ ≤ _; exact Nat.le_of_eq rfl) (hb hby at_36) (fun _ _ => ⟨rfl, R59, (by decide : 1 + 1 ≤ _), (by decide : 3 + 3 ≤ _)⟩)
    dsimp only [Pt.U, Pt.locs, Pt.cells, Pt.slots] at X60 l60 y60 z60 st60 hQ60
    subst l60 y60 z60
    obtain ⟨rfl, N60q, R61⟩ := hQ60
    have N60 := Fr.app N58 N60q
    have F62 : Sta Z T60.heap "com/example/tapewire/tapewire/model/RecordType" "$VALUES" "[Lcom/example/tapewire/tapewire/model/RecordType;" (.ref aV) := own_staKeep F43 R61 all0
    have F63 : Arv Z T60.heap aV kk (.object "com/example/tapewire/tapewire/model/RecordType") (3 : Int32) [(.ref t1), (.ref t2), (.ref t3)] .null := F44.keep R61 nin0
    have F64 : Exa Z T60.heap aV "[Lcom/example/tapewire/tapewire/model/RecordType;" := F45.keep R61
    have F65 : Sta Z T60.heap "com/example/tapewire/tapewire/model/RecordType" "TRADE" "Lcom/example/tapewire/tapewire/model/RecordType;" (.ref t1) := own_staKeep F46 R61 all0
    have F66 : Sta Z T60.heap "com/example/tapewire/tapewire/model/RecordType" "QUOTE" "Lcom/example/tapewire/tapewire/model/RecordType;" (.ref t2) := own_staKeep F47 R61 all0
    have F67 : Sta Z T60.heap "com/example/tapewire/tapewire/model/RecordType" "BAR" "Lcom/example/tapewire/tapewire/model/RecordType;" (.ref t3) := own_staKeep F48 R61 all0
    have F68 : Fld Z T60.heap t1 "com/example/tapewire/tapewire/model/RecordType" "code" "I" (.int (1 : Int32)) := F49.keep R61 nin0
    have F69 : Fld Z T60.heap t2 "com/example/tapewire/tapewire/model/RecordType" "code" "I" (.int (2 : Int32)) := F50.keep R61 nin0
    have F70 : Fld Z T60.heap t3 "com/example/tapewire/tapewire/model/RecordType" "code" "I" (.int (3 : Int32)) := F51.keep R61 nin0
    have F71 : Exa Z T60.heap t1 "com/example/tapewire/tapewire/model/RecordType" := F52.keep R61
    have F72 : Exa Z T60.heap t2 "com/example/tapewire/tapewire/model/RecordType" := F53.keep R61
    have F73 : Exa Z T60.heap t3 "com/example/tapewire/tapewire/model/RecordType" := F54.keep R61
    have Z74 : n0 ≤ T60.heap.size := Nat.le_trans Z55 R61.1
    obtain ⟨fs, hr, hrun, hended, hW, hsame⟩ := X60.leave (v := some (.int (1 : Int32))) (fun h => by rw [Bd.returns] at h; cases h)
    refine ⟨_, _, P2 _ ?_, hrun, hended, _, _, rfl, ?_, ⟨_, rfl⟩, hW, hsame.mono (by decide) (by decide)⟩
    · show Steps p.tables e below (s₁.setTop (mkF m 9 #[.val (.int p0), .val (.int (2 : Int32)), .unset, .unset] [])) _
      refine XS.iloadN X0.here hx rfl (hb hby at_9) rfl ?_
      show Steps p.tables e below (s₁.setTop (mkF m 10 #[.val (.int p0), .val (.int (2 : Int32)), .unset, .unset] [(.int (2 : Int32))])) _
      refine st39 _ ?_
      show Steps p.tables e below (T39.setTop (mkF m 13 #[.val (.int p0), .val (.int (2 : Int32)), .unset, .unset] [(.ref t2)])) _
      refine XS.astoreN X39.here hx rfl (hb hby at_13) rfl rfl (l' := #[.val (.int p0), .val (.int (2 : Int32)), .val (.ref t2), .unset]) rfl ?_
      show Steps p.tables e below (T39.setTop (mkF m 14 #[.val (.int p0), .val (.int (2 : Int32)), .val (.ref t2), .unset] [])) _
      refine XS.iloadN X39.here hx rfl (hb hby at_14) rfl ?_
      show Steps p.tables e below (T39.setTop (mkF m 15 #[.val (.int p0), .val (.int (2 : Int32)), .val (.ref t2), .unset] [(.int (2 : Int32))])) _
      refine st41 _ ?_
      show Steps p.tables e below (T41.setTop (mkF m 18 #[.val (.int p0), .val (.int (2 : Int32)), .val (.ref t2), .unset] [(.ref t2)])) _
      refine XS.astoreN X41.here hx rfl (hb hby at_18) rfl rfl (l' := #[.val (.int p0), .val (.int (2 : Int32)), .val (.ref t2), .val (.ref t2)]) rfl ?_
      show Steps p.tables e below (T41.setTop (mkF m 19 #[.val (.int p0), .val (.int (2 : Int32)), .val (.ref t2), .val (.ref t2)] [])) _
      refine XS.aloadN X41.here hx rfl (hb hby at_19) rfl rfl ?_
      show Steps p.tables e below (T41.setTop (mkF m 20 #[.val (.int p0), .val (.int (2 : Int32)), .val (.ref t2), .val (.ref t2)] [(.ref t2)])) _
      refine XS.aloadN X41.here hx rfl (hb hby at_20) rfl rfl ?_
      show Steps p.tables e below (T41.setTop (mkF m 21 #[.val (.int p0), .val (.int (2 : Int32)), .val (.ref t2), .val (.ref t2)] [(.ref t2), (.ref t2)])) _
      refine Jvm.RoadKit.acmp (g := (mkF m 21 #[.val (.int p0), .val (.int (2 : Int32)), .val (.ref t2), .val (.ref t2)] [(.ref t2), (.ref t2)])) X41 hx rfl rfl rfl (pc0 := 21) (pc' := 24) (same := true) rfl (hb hby at_21) rfl (decide_eq_true rfl) (by decide) (by decide) ?_
      show Steps p.tables e below (T41.setTop (mkF m 24 #[.val (.int p0), .val (.int (2 : Int32)), .val (.ref t2), .val (.ref t2)] [])) _
      refine XS.aloadN X41.here hx rfl (hb hby at_24) rfl rfl ?_
      show Steps p.tables e below (T41.setTop (mkF m 25 #[.val (.int p0), .val (.int (2 : Int32)), .val (.ref t2), .val (.ref t2)] [(.ref t2)])) _
      refine st56.trans ?_
      show Steps p.tables e below (T56.setTop (mkF m 28 #[.val (.int p0), .val (.int (2 : Int32)), .val (.ref t2), .val (.ref t2)] [(.int (2 : Int32))])) _
      refine XS.iloadN X56.here hx rfl (hb hby at_28) rfl ?_
      show Steps p.tables e below (T56.setTop (mkF m 29 #[.val (.int p0), .val (.int (2 : Int32)), .val (.ref t2), .val (.ref t2)] [(.int (2 : Int32)), (.int (2 : Int32))])) _
      refine XS.icmpNo X56.here hx rfl (hb hby at_29) rfl (teq (by decide : (2 : Int32) = (2 : Int32))).2 ?_
      show Steps p.tables e below (T56.setTop (mkF m 32 #[.val (.int p0), .val (.int (2 : Int32)), .val (.ref t2), .val (.ref t2)] [])) _
      refine XS.aloadN X56.here hx rfl (hb hby at_32) rfl rfl ?_
      show Steps p.tables e below (T56.setTop (mkF m 33 #[.val (.int p0), .val (.int (2 : Int32)), .val (.ref t2), .val (.ref t2)] [(.ref t2)])) _
      refine st58.trans ?_
      show Steps p.tables e below (T58.setTop (mkF m 36 #[.val (.int p0), .val (.int (2 : Int32)), .val (.ref t2), .val (.ref t2)] [(.int (2 : Int32))])) _
      refine st60 _ ?_
      show Steps p.tables e below (T60.setTop (mkF m 39 #[.val (.int p0), .val (.int (2 : Int32)), .val (.ref t2), .val (.ref t2)] [(.ref t2)])) _
      refine XS.aloadN X60.here hx rfl (hb hby at_39) rfl rfl ?_
      show Steps p.tables e below (T60.setTop (mkF m 40 #[.val (.int p0), .val (.int (2 : Int32)), .val (.ref t2), .val (.ref t2)] [(.ref t2), (.ref t2)])) _
      refine Jvm.RoadKit.acmp (g := (mkF m 40 #[.val (.int p0), .val (.int (2 : Int32)), .val (.ref t2), .val (.ref t2)] [(.ref t2), (.ref t2)])) X60 hx rfl rfl rfl (pc0 := 40) (pc' := 43) (same := true) rfl (hb hby at_40) rfl (decide_eq_true rfl) (by decide) (by decide) ?_
      show Steps p.tables e below (T60.setTop (mkF m 43 #[.val (.int p0), .val (.int (2 : Int32)), .val (.ref t2), .val (.ref t2)] [])) _
      refine XS.iconst X60.here hx rfl (hb hby at_43) ?_
      show Steps p.tables e below (T60.setTop (mkF m 44 #[.val (.int p0), .val (.int (2 : Int32)), .val (.ref t2), .val (.ref t2)] [(.int (1 : Int32))])) _
      refine XS.goto X60.here hx rfl (pc0 := 44) (pc' := 48) rfl (hb hby at_44) (by decide) (by decide) ?_
      show Steps p.tables e below (T60.setTop (mkF m 48 #[.val (.int p0), .val (.int (2 : Int32)), .val (.ref t2), .val (.ref t2)] [(.int (1 : Int32))])) _
      exact retN X60 hx (t := .boolean) Bd.returns (by simp) (hb hby at_48) hr
    · show Q0 Z p0 aV kk t1 t2 t3 h0 n0 _ T60.heap _
      exact ⟨rfl, N60⟩
  · obtain ⟨_, _, ⟨T75, L75, k75, n75⟩, -, X75, ⟨Lc75, hQ75, l75, y75, z75⟩, st75⟩ := Jvm.LawKit.callS X0 hx (y := (⟨"com/example/tapewire/tapewire/model/RecordTypeOfCodePinLaw", "expected", "(I)Lcom/example/tapewire/tapewire/model/RecordType;"⟩ : MethodName)) hown (mvT hZ (hw _ (List.mem_of_getElem? (i := 1) rfl))) (mvT hZ (hw _ (List.mem_of_getElem? (i := 2) rfl))) (mvT hZ (hw _ (List.mem_of_getElem? (i := 3) rfl))) (mvT hZ (hw _ (List.mem_of_getElem? (i := 4) rfl))) (by decide) (backOf (W := 0) (rm1_3 l Z a0 hw [] t3 h0 n0 Z0 HS5) hZ (hw _ (List.mem_of_getElem? (i := 4) rfl)) (hw _ (List.mem_of_getElem? (i := 3) rfl)) (by decide) (by decide)) (g := (mkF m 10 #[.val (.int p0), .val (.int (3 : Int32)), .unset, .unset] [(.int (3 : Int32))])) rfl (by rw [hml]; rfl) (argsL := [(.int (3 : Int32))]) (rest := []) (lenOf pd_1 rfl) rfl (by show 2 * 0 + _ ≤ _; exact Nat.le_of_eq rfl) (hb hby at_10) (fun _ _ => ⟨rfl, e0, (by decide : 0 + 0 ≤ _), (by decide : 0 + 0 ≤ _)⟩)
    dsimp only [Pt.U, Pt.locs, Pt.cells, Pt.slots] at X75 l75 y75 z75 st75 hQ75
    subst l75 y75 z75
    obtain ⟨rfl, N75q, R76⟩ := hQ75
    have N75 := Fr.app N0 N75q
    obtain ⟨_, _, ⟨T77, L77, k77, n77⟩, -, X77, ⟨Lc77, hQ77, l77, y77, z77⟩, st77⟩ := Jvm.LawKit.callS X75 hx (y := (⟨"com/example/tapewire/tapewire/model/RecordType", "ofCode", "(I)Lcom/example/tapewire/tapewire/model/RecordType;"⟩ : MethodName)) hown (mvT hZ (hw _ (List.mem_of_getElem? (i := 8) rfl))) (mvT hZ (hw _ (List.mem_of_getElem? (i := 9) rfl))) (mvT hZ (hw _ (List.mem_of_getElem? (i := 6) rfl))) (mvT hZ (hw _ (List.mem_of_getElem? (i := 10) rfl))) (by decide) (backOf (W := 0) (rm2_3 l Z a0 hw [] aV kk t1 t2 t3 h0 n0 Z0 HS0 HV1 HE2 HF6 HF7 HF8) hZ (hw _ (List.mem_of_getElem? (i := 10) rfl)) (hw _ (List.mem_of_getElem? (i := 6) rfl)) (by decide) (by decide)) (g := (mkF m 15 #[.val (.int p0), .val (.int (3 : Int32)), .val (.ref t3), .unset] [(.int (3 : Int32))])) rfl (by rw [hml]; rfl) (argsL := [(.int (3 : Int32))]) (rest := []) (lenOf pd_1 rfl) rfl (by show 2 * 0 + _ ≤ _; exact Nat.le_of_eq rfl) (hb hby at_15) (fun _ _ => ⟨rfl, R76, (by decide : 0 + 1 ≤ _), (by decide : 0 + 3 ≤ _)⟩)
    dsimp only [Pt.U, Pt.locs, Pt.cells, Pt.slots] at X77 l77 y77 z77 st77 hQ77
    subst l77 y77 z77
    obtain ⟨rfl, N77q, R78⟩ := hQ77
    have N77 := Fr.app N75 N77q
    have F79 : Sta Z T77.heap "com/example/tapewire/tapewire/model/RecordType" "$VALUES" "[Lcom/example/tapewire/tapewire/model/RecordType;" (.ref aV) := own_staKeep HS0 R78 all0
    have F80 : Arv Z T77.heap aV kk (.object "com/example/tapewire/tapewire/model/RecordType") (3 : Int32) [(.ref t1), (.ref t2), (.ref t3)] .null := HV1.keep R78 nin0
    have F81 : Exa Z T77.heap aV "[Lcom/example/tapewire/tapewire/model/RecordType;" := HE2.keep R78
    have F82 : Sta Z T77.heap "com/example/tapewire/tapewire/model/RecordType" "TRADE" "Lcom/example/tapewire/tapewire/model/RecordType;" (.ref t1) := own_staKeep HS3 R78 all0
    have F83 : Sta Z T77.heap "com/example/tapewire/tapewire/model/RecordType" "QUOTE" "Lcom/example/tapewire/tapewire/model/RecordType;" (.ref t2) := own_staKeep HS4 R78 all0
    have F84 : Sta Z T77.heap "com/example/tapewire/tapewire/model/RecordType" "BAR" "Lcom/example/tapewire/tapewire/model/RecordType;" (.ref t3) := own_staKeep HS5 R78 all0
    have F85 : Fld Z T77.heap t1 "com/example/tapewire/tapewire/model/RecordType" "code" "I" (.int (1 : Int32)) := HF6.keep R78 nin0
    have F86 : Fld Z T77.heap t2 "com/example/tapewire/tapewire/model/RecordType" "code" "I" (.int (2 : Int32)) := HF7.keep R78 nin0
    have F87 : Fld Z T77.heap t3 "com/example/tapewire/tapewire/model/RecordType" "code" "I" (.int (3 : Int32)) := HF8.keep R78 nin0
    have F88 : Exa Z T77.heap t1 "com/example/tapewire/tapewire/model/RecordType" := HE9.keep R78
    have F89 : Exa Z T77.heap t2 "com/example/tapewire/tapewire/model/RecordType" := HE10.keep R78
    have F90 : Exa Z T77.heap t3 "com/example/tapewire/tapewire/model/RecordType" := HE11.keep R78
    have Z91 : n0 ≤ T77.heap.size := Nat.le_trans Z0 R78.1
    obtain ⟨cq92, kq92, q92a, q92b, q92c⟩ := isOf hZ rfl F90
    obtain ⟨_, _, ⟨T92, L92, k92, n92⟩, -, X92, ⟨Lc92, hQ92, l92, y92, z92⟩, st92⟩ := X77.virtualBack hx (y := (⟨"com/example/tapewire/tapewire/model/RecordType", "code", "()I"⟩ : MethodName)) (z := (⟨"com/example/tapewire/tapewire/model/RecordType", "code", "()I"⟩ : MethodName)) hown (mvT hZ (hw _ (List.mem_of_getElem? (i := 30) rfl))) (mvT hZ (hw _ (List.mem_of_getElem? (i := 31) rfl))) (notFace_of_selects (args := #[]) (mvT hZ (hw _ (List.mem_of_getElem? (i := 33) rfl)))) (mvT hZ (hw _ (List.mem_of_getElem? (i := 33) rfl))) (mvT hZ (hw _ (List.mem_of_getElem? (i := 32) rfl))) (by decide) (backOf (W := 0) (rm4 l Z a0 hw [] t3 (3 : Int32) T77.heap n0 Z91 F87) hZ (hw _ (List.mem_of_getElem? (i := 34) rfl)) (hw _ (List.mem_of_getElem? (i := 6) rfl)) (by decide) (by decide)) q92a q92c (g := (mkF m 25 #[.val (.int p0), .val (.int (3 : Int32)), .val (.ref t3), .val (.ref t3)] [(.ref t3)])) rfl (by rw [hml]; rfl) (Steps.refl _) (argsL := []) (rest := []) (lenOf pd_2 rfl) rfl (by show 2 * 0 + _ ≤ _; exact Nat.le_of_eq rfl) (hb hby at_25) (fun _ _ => ⟨rfl, rfl, (by decide : 1 + 0 ≤ _), (by decide : 3 + 0 ≤ _)⟩)
    dsimp only [Pt.U, Pt.locs, Pt.cells, Pt.slots] at X92 l92 y92 z92 st92 hQ92
    subst l92 y92 z92
    obtain ⟨rfl, N92q, R93⟩ := hQ92
    have N92 := Fr.app N77 N92q
    obtain ⟨cq94, kq94, q94a, q94b, q94c⟩ := isOf hZ R93 F90
    obtain ⟨_, _, ⟨T94, L94, k94, n94⟩, -, X94, ⟨Lc94, hQ94, l94, y94, z94⟩, st94⟩ := X92.virtualBack hx (y := (⟨"com/example/tapewire/tapewire/model/RecordType", "code", "()I"⟩ : MethodName)) (z := (⟨"com/example/tapewire/tapewire/model/RecordType", "code", "()I"⟩ : MethodName)) hown (mvT hZ (hw _ (List.mem_of_getElem? (i := 30) rfl))) (mvT hZ (hw _ (List.mem_of_getElem? (i := 31) rfl))) (notFace_of_selects (args := #[]) (mvT hZ (hw _ (List.mem_of_getElem? (i := 33) rfl)))) (mvT hZ (hw _ (List.mem_of_getElem? (i := 33) rfl))) (mvT hZ (hw _ (List.mem_of_getElem? (i := 32) rfl))) (by decide) (backOf (W := 0) (rm4 l Z a0 hw [] t3 (3 : Int32) T77.heap n0 Z91 F87) hZ (hw _ (List.mem_of_getElem? (i := 34) rfl)) (hw _ (List.mem_of_getElem? (i := 6) rfl)) (by decide) (by decide)) q94a q94c (g := (mkF m 33 #[.val (.int p0), .val (.int (3 : Int32)), .val (.ref t3), .val (.ref t3)] [(.ref t3)])) rfl (by rw [hml]; rfl) (Steps.refl _) (argsL := []) (rest := []) (lenOf pd_2 rfl) rfl (by show 2 * 0 + _ ≤ _; exact Nat.le_of_eq rfl) (hb hby at_33) (fun _ _ => ⟨rfl, R93, (by decide : 1 + 0 ≤ _), (by decide : 3 + 0 ≤ _)⟩)
    dsimp only [Pt.U, Pt.locs, Pt.cells, Pt.slots] at X94 l94 y94 z94 st94 hQ94
    subst l94 y94 z94
    obtain ⟨rfl, N94q, R95⟩ := hQ94
    have N94 := Fr.app N92 N94q
    obtain ⟨_, _, ⟨T96, L96, k96, n96⟩, -, X96, ⟨Lc96, hQ96, l96, y96, z96⟩, st96⟩ := Jvm.LawKit.callS X94 hx (y := (⟨"com/example/tapewire/tapewire/model/RecordType", "ofCode", "(I)Lcom/example/tapewire/tapewire/model/RecordType;"⟩ : MethodName)) hown (mvT hZ (hw _ (List.mem_of_getElem? (i := 8) rfl))) (mvT hZ (hw _ (List.mem_of_getElem? (i := 9) rfl))) (mvT hZ (hw _ (List.mem_of_getElem? (i := 6) rfl))) (mvT hZ (hw _ (List.mem_of_getElem? (i := 10) rfl))) (by decide) (backOf (W := 0) (rm2_3 l Z a0 hw [] aV kk t1 t2 t3 T77.heap n0 Z91 F79 F80 F81 F85 F86 F87) hZ (hw _ (List.mem_of_getElem? (i := 10) rfl)) (hw _ (List.mem_of_getElem? (i := 6) rfl)) (by decide) (by decide)) (g := (mkF m 36 #[.val (.int p0), .val (.int (3 : Int32)), .val (.ref t3), .val (.ref t3)] [(.int (3 : Int32))])) rfl (by rw [hml]; rfl) (argsL := [(.int (3 : Int32))]) (rest := []) (lenOf pd_1 rfl) rfl (by show 2 * 0 + _ ≤ _; exact Nat.le_of_eq rfl) (hb hby at_36) (fun _ _ => ⟨rfl, R95, (by decide : 1 + 1 ≤ _), (by decide : 3 + 3 ≤ _)⟩)
    dsimp only [Pt.U, Pt.locs, Pt.cells, Pt.slots] at X96 l96 y96 z96 st96 hQ96
    subst l96 y96 z96
    obtain ⟨rfl, N96q, R97⟩ := hQ96
    have N96 := Fr.app N94 N96q
    have F98 : Sta Z T96.heap "com/example/tapewire/tapewire/model/RecordType" "$VALUES" "[Lcom/example/tapewire/tapewire/model/RecordType;" (.ref aV) := own_staKeep F79 R97 all0
    have F99 : Arv Z T96.heap aV kk (.object "com/example/tapewire/tapewire/model/RecordType") (3 : Int32) [(.ref t1), (.ref t2), (.ref t3)] .null := F80.keep R97 nin0
    have F100 : Exa Z T96.heap aV "[Lcom/example/tapewire/tapewire/model/RecordType;" := F81.keep R97
    have F101 : Sta Z T96.heap "com/example/tapewire/tapewire/model/RecordType" "TRADE" "Lcom/example/tapewire/tapewire/model/RecordType;" (.ref t1) := own_staKeep F82 R97 all0
    have F102 : Sta Z T96.heap "com/example/tapewire/tapewire/model/RecordType" "QUOTE" "Lcom/example/tapewire/tapewire/model/RecordType;" (.ref t2) := own_staKeep F83 R97 all0
    have F103 : Sta Z T96.heap "com/example/tapewire/tapewire/model/RecordType" "BAR" "Lcom/example/tapewire/tapewire/model/RecordType;" (.ref t3) := own_staKeep F84 R97 all0
    have F104 : Fld Z T96.heap t1 "com/example/tapewire/tapewire/model/RecordType" "code" "I" (.int (1 : Int32)) := F85.keep R97 nin0
    have F105 : Fld Z T96.heap t2 "com/example/tapewire/tapewire/model/RecordType" "code" "I" (.int (2 : Int32)) := F86.keep R97 nin0
    have F106 : Fld Z T96.heap t3 "com/example/tapewire/tapewire/model/RecordType" "code" "I" (.int (3 : Int32)) := F87.keep R97 nin0
    have F107 : Exa Z T96.heap t1 "com/example/tapewire/tapewire/model/RecordType" := F88.keep R97
    have F108 : Exa Z T96.heap t2 "com/example/tapewire/tapewire/model/RecordType" := F89.keep R97
    have F109 : Exa Z T96.heap t3 "com/example/tapewire/tapewire/model/RecordType" := F90.keep R97
    have Z110 : n0 ≤ T96.heap.size := Nat.le_trans Z91 R97.1
    obtain ⟨fs, hr, hrun, hended, hW, hsame⟩ := X96.leave (v := some (.int (1 : Int32))) (fun h => by rw [Bd.returns] at h; cases h)
    refine ⟨_, _, P2 _ ?_, hrun, hended, _, _, rfl, ?_, ⟨_, rfl⟩, hW, hsame.mono (by decide) (by decide)⟩
    · show Steps p.tables e below (s₁.setTop (mkF m 9 #[.val (.int p0), .val (.int (3 : Int32)), .unset, .unset] [])) _
      refine XS.iloadN X0.here hx rfl (hb hby at_9) rfl ?_
      show Steps p.tables e below (s₁.setTop (mkF m 10 #[.val (.int p0), .val (.int (3 : Int32)), .unset, .unset] [(.int (3 : Int32))])) _
      refine st75 _ ?_
      show Steps p.tables e below (T75.setTop (mkF m 13 #[.val (.int p0), .val (.int (3 : Int32)), .unset, .unset] [(.ref t3)])) _
      refine XS.astoreN X75.here hx rfl (hb hby at_13) rfl rfl (l' := #[.val (.int p0), .val (.int (3 : Int32)), .val (.ref t3), .unset]) rfl ?_
      show Steps p.tables e below (T75.setTop (mkF m 14 #[.val (.int p0), .val (.int (3 : Int32)), .val (.ref t3), .unset] [])) _
      refine XS.iloadN X75.here hx rfl (hb hby at_14) rfl ?_
      show Steps p.tables e below (T75.setTop (mkF m 15 #[.val (.int p0), .val (.int (3 : Int32)), .val (.ref t3), .unset] [(.int (3 : Int32))])) _
      refine st77 _ ?_
      show Steps p.tables e below (T77.setTop (mkF m 18 #[.val (.int p0), .val (.int (3 : Int32)), .val (.ref t3), .unset] [(.ref t3)])) _
      refine XS.astoreN X77.here hx rfl (hb hby at_18) rfl rfl (l' := #[.val (.int p0), .val (.int (3 : Int32)), .val (.ref t3), .val (.ref t3)]) rfl ?_
      show Steps p.tables e below (T77.setTop (mkF m 19 #[.val (.int p0), .val (.int (3 : Int32)), .val (.ref t3), .val (.ref t3)] [])) _
      refine XS.aloadN X77.here hx rfl (hb hby at_19) rfl rfl ?_
      show Steps p.tables e below (T77.setTop (mkF m 20 #[.val (.int p0), .val (.int (3 : Int32)), .val (.ref t3), .val (.ref t3)] [(.ref t3)])) _
      refine XS.aloadN X77.here hx rfl (hb hby at_20) rfl rfl ?_
      show Steps p.tables e below (T77.setTop (mkF m 21 #[.val (.int p0), .val (.int (3 : Int32)), .val (.ref t3), .val (.ref t3)] [(.ref t3), (.ref t3)])) _
      refine Jvm.RoadKit.acmp (g := (mkF m 21 #[.val (.int p0), .val (.int (3 : Int32)), .val (.ref t3), .val (.ref t3)] [(.ref t3), (.ref t3)])) X77 hx rfl rfl rfl (pc0 := 21) (pc' := 24) (same := true) rfl (hb hby at_21) rfl (decide_eq_true rfl) (by decide) (by decide) ?_
      show Steps p.tables e below (T77.setTop (mkF m 24 #[.val (.int p0), .val (.int (3 : Int32)), .val (.ref t3), .val (.ref t3)] [])) _
      refine XS.aloadN X77.here hx rfl (hb hby at_24) rfl rfl ?_
      show Steps p.tables e below (T77.setTop (mkF m 25 #[.val (.int p0), .val (.int (3 : Int32)), .val (.ref t3), .val (.ref t3)] [(.ref t3)])) _
      refine st92.trans ?_
      show Steps p.tables e below (T92.setTop (mkF m 28 #[.val (.int p0), .val (.int (3 : Int32)), .val (.ref t3), .val (.ref t3)] [(.int (3 : Int32))])) _
      refine XS.iloadN X92.here hx rfl (hb hby at_28) rfl ?_
      show Steps p.tables e below (T92.setTop (mkF m 29 #[.val (.int p0), .val (.int (3 : Int32)), .val (.ref t3), .val (.ref t3)] [(.int (3 : Int32)), (.int (3 : Int32))])) _
      refine XS.icmpNo X92.here hx rfl (hb hby at_29) rfl (teq (by decide : (3 : Int32) = (3 : Int32))).2 ?_
      show Steps p.tables e below (T92.setTop (mkF m 32 #[.val (.int p0), .val (.int (3 : Int32)), .val (.ref t3), .val (.ref t3)] [])) _
      refine XS.aloadN X92.here hx rfl (hb hby at_32) rfl rfl ?_
      show Steps p.tables e below (T92.setTop (mkF m 33 #[.val (.int p0), .val (.int (3 : Int32)), .val (.ref t3), .val (.ref t3)] [(.ref t3)])) _
      refine st94.trans ?_
      show Steps p.tables e below (T94.setTop (mkF m 36 #[.val (.int p0), .val (.int (3 : Int32)), .val (.ref t3), .val (.ref t3)] [(.int (3 : Int32))])) _
      refine st96 _ ?_
      show Steps p.tables e below (T96.setTop (mkF m 39 #[.val (.int p0), .val (.int (3 : Int32)), .val (.ref t3), .val (.ref t3)] [(.ref t3)])) _
      refine XS.aloadN X96.here hx rfl (hb hby at_39) rfl rfl ?_
      show Steps p.tables e below (T96.setTop (mkF m 40 #[.val (.int p0), .val (.int (3 : Int32)), .val (.ref t3), .val (.ref t3)] [(.ref t3), (.ref t3)])) _
      refine Jvm.RoadKit.acmp (g := (mkF m 40 #[.val (.int p0), .val (.int (3 : Int32)), .val (.ref t3), .val (.ref t3)] [(.ref t3), (.ref t3)])) X96 hx rfl rfl rfl (pc0 := 40) (pc' := 43) (same := true) rfl (hb hby at_40) rfl (decide_eq_true rfl) (by decide) (by decide) ?_
      show Steps p.tables e below (T96.setTop (mkF m 43 #[.val (.int p0), .val (.int (3 : Int32)), .val (.ref t3), .val (.ref t3)] [])) _
      refine XS.iconst X96.here hx rfl (hb hby at_43) ?_
      show Steps p.tables e below (T96.setTop (mkF m 44 #[.val (.int p0), .val (.int (3 : Int32)), .val (.ref t3), .val (.ref t3)] [(.int (1 : Int32))])) _
      refine XS.goto X96.here hx rfl (pc0 := 44) (pc' := 48) rfl (hb hby at_44) (by decide) (by decide) ?_
      show Steps p.tables e below (T96.setTop (mkF m 48 #[.val (.int p0), .val (.int (3 : Int32)), .val (.ref t3), .val (.ref t3)] [(.int (1 : Int32))])) _
      exact retN X96 hx (t := .boolean) Bd.returns (by simp) (hb hby at_48) hr
    · show Q0 Z p0 aV kk t1 t2 t3 h0 n0 _ T96.heap _
      exact ⟨rfl, N96⟩
theorem own_fld {args : Array Value} {s : State} {t : Term} {a : Addr} {C n d : String} {z : Int32} (ev : t.eval args s none [] s = some (.ref a)) (h : (Jvm.Cond.eq (Jvm.Term.field t C n d) (Jvm.Term.int z)).value args s none s [] = some true) : Fld s s.heap a C n d (.int z) := by
  have e := fld_at (C := C) (n := n) (dd := d) (args := args) (first := s) (o := none) (idx := []) (s := s) ev
  cases hf : s.fieldOf? a C n d with
  | none => simp [Cond.value, Term.eval, ev, hf] at h
  | some v =>
    rw [hf] at e
    cases v with
    | int y =>
      have q := (Cond.eq_ints e (Term.int_eval z)).symm.trans h
      have q2 : y = z := by simpa using q
      subst q2
      exact Fld.start hf
    | _ => simp [Cond.value, Term.eval, ev, hf] at h
theorem own_len {args : Array Value} {s : State} {t : Term} {aA : Addr} {cl : Cell} {ty : FieldType} (ev : t.eval args s none [] s = some (.ref aA)) (A : Arr s s.heap aA cl ty) (h : (Jvm.Cond.eq (Jvm.Term.length t) (Jvm.Term.int (3 : Int32))).value args s none s [] = some true) : cl.slots.size = (3 : Int32).toNatClampNeg := by
  have hA := Arr.fin (State.Warmed39.refl s).alike A
  by_cases hl : cl.slots.size < 2 ^ 31
  · have e := len_f (args := args) (first := s) (o := none) (idx := []) ev hA hl
    have q : some (decide (cl.slots.size.toInt32 = (3 : Int32))) = some true := (Cond.eq_ints e (Term.int_eval 3)).symm.trans h
    have q2 : cl.slots.size.toInt32 = (3 : Int32) := by simpa using q
    have q3 : cl.slots.size.toInt32.toInt = 3 := by rw [q2]; rfl
    have q4 : cl.slots.size.toInt32.toInt = (cl.slots.size : Int) := Int32.toInt_ofNat_of_lt hl
    show cl.slots.size = 3
    omega
  · exfalso
    simp [Cond.value, Term.eval, ev, hA, hl] at h
theorem own_elem {args : Array Value} {s : State} {t u : Term} {aA a : Addr} {cl : Cell} {ty : FieldType} {j iv : Int32} (ev : t.eval args s none [] s = some (.ref aA)) (A : Arr s s.heap aA cl ty) (h : (Jvm.Cond.eq (Jvm.Term.elem t (Jvm.Term.int j)) u).value args s none s [] = some true) (eu : u.eval args s none [] s = some (.ref a)) (hj : ¬ j < 0) (hiv : iv = j) : cl.slots[iv.toNatClampNeg]? = some (.ref a) := by
  subst hiv
  have hA := Arr.fin (State.Warmed39.refl s).alike A
  have e := elem_f (t := t) (a := Jvm.Term.int iv) (first := s) (o := none) (idx := []) (s := s) (args := args) ev (Term.int_eval iv) hA hj
  cases hv : cl.slots[iv.toNatClampNeg]? with
  | none => rw [hv] at e; simp [Cond.value, e] at h
  | some v =>
    rw [hv] at e
    cases v with
    | ref y =>
      have q := (eq_R e eu rfl rfl).symm.trans h
      have q2 : y = a := by simpa using q
      rw [q2]
    | null =>
      have q := (eq_R e eu rfl rfl).symm.trans h
      simp at q
    | _ => simp [Cond.value, e, eu] at h
set_option maxRecDepth 65536 in
set_option maxHeartbeats 40000000 in
theorem comes_1 {Post : Tables → Env → Array Value → State → Outcome → State → Prop} (hpost : ∀ tb e args s v u, (limb_1_1.after args s (.returned v) u = true ∧ limb_1_2.after args s (.returned v) u = true ∧ True) → FrameEnd s (.returned v) u (Jvm.fieldLocs frame_1_writes args s ++ Jvm.arrayLocs frame_1_arrays args s ++ Jvm.staticLocs frame_1_statics s) 16 128 → Post tb e args s (.returned v) u) :
    ArmFor flags0 classFile x code maxLocals ret World_1 tables_1 room_1 Calls_1 rest_1 Pre_1 Post := by
  intro l hfl _ _ p e ha hc hk s m args below hf hA hF happ hP
  obtain ⟨hcalls, hrest, hpre⟩ := hP
  obtain ⟨-, -, -, hnamed, -, -, -, hat⟩ := (Spec.applies_iff hf).mp happ
  obtain ⟨hg, hn⟩ := and_e (Cond.before_iff.mp (show (Jvm.Cond.and given_1 narrow_1).before args s = true from hpre))
  obtain ⟨hcount, hg0⟩ := and_e hg
  obtain ⟨w0, rfl⟩ : ∃ w0 : Value, args = #[w0] := by
    have hs : args.size = 1 := by simpa [Cond.value, given_1] using hcount
    obtain ⟨L⟩ := args
    match L, hs with
    | [w0], _ => exact ⟨w0, rfl⟩
  have hw := fun d (hd : d ∈ tables_1) => atoms_spec (ws := Jvm.Cond.code x code maxLocals ret :: tables_1) hat d (List.mem_cons_of_mem _ hd)
  have hfit : Fit s := fun {y c} hc i hi => by
    obtain ⟨ha, rfl⟩ := Array.getElem?_eq_some_iff.mp hc
    have q := List.all_eq_true.mp ((Array.all_eq_true_iff_forall_mem.mp hF) _ (Array.getElem_mem ha)) i (List.mem_range.mpr hi)
    simpa [Array.getElem?_eq_getElem hi] using q
  obtain ⟨i0, ei0⟩ := is_v hg0
  obtain rfl : w0 = (.int i0) := Option.some.inj ei0
  obtain ⟨u0, v0⟩ := and_e hn
  obtain ⟨u1, v1⟩ := and_e v0
  obtain ⟨u2, v2⟩ := and_e v1
  obtain ⟨u3, v3⟩ := and_e v2
  obtain ⟨u4, v4⟩ := and_e v3
  obtain ⟨u5, v5⟩ := and_e v4
  obtain ⟨u6, v6⟩ := and_e v5
  obtain ⟨u7, v7⟩ := and_e v6
  obtain ⟨u8, v8⟩ := and_e v7
  obtain ⟨u9, v9⟩ := and_e v8
  obtain ⟨u10, v10⟩ := and_e v9
  obtain ⟨aV, eV⟩ := arr_v u1
  obtain ⟨cl, Ar⟩ := Arr.start eV u1
  have EV : Exa s s.heap aV "[Lcom/example/tapewire/tapewire/model/RecordType;" := Exa.start eV u2
  have SV : Sta s s.heap "com/example/tapewire/tapewire/model/RecordType" "$VALUES" "[Lcom/example/tapewire/tapewire/model/RecordType;" (.ref aV) := Sta.start eV (Or.inr ⟨(hw _ (List.mem_of_getElem? (i := 6) rfl)), (hw _ (List.mem_of_getElem? (i := 15) rfl))⟩)
  have hsz : cl.slots.size = (3 : Int32).toNatClampNeg := own_len eV Ar u3
  obtain ⟨t1, e_t1⟩ := exa_v u0
  have E_t1 : Exa s s.heap t1 "com/example/tapewire/tapewire/model/RecordType" := Exa.start e_t1 u0
  have F_t1 : Fld s s.heap t1 "com/example/tapewire/tapewire/model/RecordType" "code" "I" (.int (1 : Int32)) := own_fld e_t1 u9
  have S_t1 : Sta s s.heap "com/example/tapewire/tapewire/model/RecordType" "TRADE" "Lcom/example/tapewire/tapewire/model/RecordType;" (.ref t1) := Sta.start e_t1 (Or.inr ⟨(hw _ (List.mem_of_getElem? (i := 6) rfl)), (hw _ (List.mem_of_getElem? (i := 7) rfl))⟩)
  have L_t1 : cl.slots[(0 : Int32).toNatClampNeg]? = some (.ref t1) := own_elem eV Ar u4 e_t1 (by decide) rfl
  obtain ⟨t2, e_t2⟩ := exa_v u5
  have E_t2 : Exa s s.heap t2 "com/example/tapewire/tapewire/model/RecordType" := Exa.start e_t2 u5
  have F_t2 : Fld s s.heap t2 "com/example/tapewire/tapewire/model/RecordType" "code" "I" (.int (2 : Int32)) := own_fld e_t2 u10
  have S_t2 : Sta s s.heap "com/example/tapewire/tapewire/model/RecordType" "QUOTE" "Lcom/example/tapewire/tapewire/model/RecordType;" (.ref t2) := Sta.start e_t2 (Or.inr ⟨(hw _ (List.mem_of_getElem? (i := 6) rfl)), (hw _ (List.mem_of_getElem? (i := 23) rfl))⟩)
  have L_t2 : cl.slots[(1 : Int32).toNatClampNeg]? = some (.ref t2) := own_elem eV Ar u6 e_t2 (by decide) rfl
  obtain ⟨t3, e_t3⟩ := exa_v u7
  have E_t3 : Exa s s.heap t3 "com/example/tapewire/tapewire/model/RecordType" := Exa.start e_t3 u7
  have F_t3 : Fld s s.heap t3 "com/example/tapewire/tapewire/model/RecordType" "code" "I" (.int (3 : Int32)) := own_fld e_t3 v10
  have S_t3 : Sta s s.heap "com/example/tapewire/tapewire/model/RecordType" "BAR" "Lcom/example/tapewire/tapewire/model/RecordType;" (.ref t3) := Sta.start e_t3 (Or.inr ⟨(hw _ (List.mem_of_getElem? (i := 6) rfl)), (hw _ (List.mem_of_getElem? (i := 24) rfl))⟩)
  have L_t3 : cl.slots[(2 : Int32).toNatClampNeg]? = some (.ref t3) := own_elem eV Ar u8 e_t3 (by decide) rfl
  have VV : Arv s s.heap aV cl.cls (.object "com/example/tapewire/tapewire/model/RecordType") (3 : Int32) [(.ref t1), (.ref t2), (.ref t3)] .null := Arv.start hfit Ar (by rw [hsz]; decide) (by rw [hsz]; decide) (by decide) rfl ⟨L_t1, L_t2, L_t3, trivial⟩
  obtain ⟨n, o, h1, h2, h3, _, L, rfl, ⟨rfl, N⟩, hq⟩ := rm0 l s _ hw tables_1 i0 aV cl.cls t1 t2 t3 s.heap s.heap.size (Nat.le_refl _) SV VV EV S_t1 S_t2 S_t3 F_t1 F_t2 F_t3 E_t1 E_t2 E_t3 p e ha hc hk s m _ below hf ((Spec.applies_iff_loose hf).mp happ).1 ⟨rfl, State.Warmed39.refl s, rfl⟩ trivial
  exact ⟨n, _, h1, h2, h3, hpost _ _ _ _ _ _ ⟨Cond.after_iff.mpr rfl, Cond.after_iff.mpr (eq_i res_at (Term.int_eval (1)) rfl), trivial⟩ ⟨hq.1, hq.2.1, (hq.2.2.sift fun y hy => Or.inr (N y hy)).mono (by decide) (by decide)⟩⟩
theorem main_1_1 : Claimed_1_1 := comes_1 fun _ _ _ _ _ _ h hF => ⟨h.1, hF⟩
theorem main_1_2 : Claimed_1_2 := comes_1 fun _ _ _ _ _ _ h hF => ⟨h.2.1, hF⟩
end Jvm.Pilot.@@N@@
namespace Jvm.Pilot.@@N@@
open Jvm Jvm.ClassFile Sem Op Lib Jvm.Free Jvm.Stand Jvm.Pilot.@@N@@.Jvm.D
/-! MADE BY PROGRAM (witnessworld.py) out of the Statement's table words and the real class files: 13 classes; the members and pool entries that the words name. The judged class is class 1, her method 2. -/
namespace start1
open Jvm.ClassFile
def u (s : String) : CpInfo := .utf8 (stringToUtf16 s)
/-- a pool by its gaps: so many unusable entries, then the entry; so many at the end -/
def gap : Nat → List CpInfo → List CpInfo
  | 0, r => r
  | n + 1, r => .unusable :: gap n r
def poolList (es : List (Nat × CpInfo)) (last : Nat) : List CpInfo := es.foldr (fun e r => gap e.1 (e.2 :: r)) (gap last [])
def pool (es : List (Nat × CpInfo)) (last : Nat) : Array CpInfo := ⟨poolList es last⟩
def fileOf (pool : Array CpInfo) (this : Nat) (attrs : Array Attribute := #[]) (ms : Array MethodInfo := #[]) (fl : Nat := 33) (sup : Nat := 0) (ifs : Array Nat := #[]) (fds : Array FieldInfo := #[]) : ClassFile where
  minorVersion := 0
  majorVersion := 65
  constantPool := pool
  accessFlags := fl
  thisClass := this
  superClass := sup
  interfaces := ifs
  fields := fds
  methods := ms
  attributes := attrs
def plain (name : String) (sup : Option ClassId) : Class where
  name := name
  kind := .ordinary
  loader := none
  accessFlags := 33
  super := sup
  interfaces := #[]
  cf := none
  fields := #[]
  methods := #[]
  instanceTypes := #[]
  staticTypes := #[]
  resolved := #[]
  callSites := []
  init := .initialized
  statics := none
  mirror := none

def pool0 : Array CpInfo := pool [(5, u "<init>"), (0, u "()V"), (1, .class_ 10), (1, u "java/lang/Object"), (85, u "clone"), (0, u "()Ljava/lang/Object;")] 26

def k0m0 : Method := { name := "<init>", desc := "()V", sig := { parameters := [], returnType := none }, accessFlags := 1, code := none }
def k0m1 : Method := { name := "clone", desc := "()Ljava/lang/Object;", sig := { parameters := [], returnType := some (.object "java/lang/Object") }, accessFlags := 260, code := none }
/-- java/lang/Object -/
def k0 : Class := { plain "java/lang/Object" none with
  accessFlags := 33
  interfaces := #[]
  cf := some (fileOf pool0 8 #[] #[{ accessFlags := 1, nameIndex := 5, descriptorIndex := 6, attributes := #[] }, { accessFlags := 260, nameIndex := 96, descriptorIndex := 97, attributes := #[] }] 33 0 #[] #[])
  fields := #[]
  methods := #[k0m0, k0m1]
  instanceTypes := #[]
  staticTypes := #[]
  resolved := Array.replicate 124 none
  statics := none }

def pool1 : Array CpInfo := pool [(2, .class_ 4), (1, u "java/lang/Object"), (0, u "<init>"), (0, u "()V"), (0, .fieldref 8 9), (0, .class_ 10), (0, .nameAndType 11 12), (0, u "com/example/tapewire/tapewire/model/RecordType"), (0, u "TRADE"), (0, u "Lcom/example/tapewire/tapewire/model/RecordType;"), (0, .fieldref 8 14), (0, .nameAndType 15 12), (0, u "QUOTE"), (0, .fieldref 8 17), (0, .nameAndType 18 12), (0, u "BAR"), (0, .integer 2147483647), (0, .methodref 21 22), (0, .class_ 23), (0, .nameAndType 24 25), (0, u "com/example/tapewire/tapewire/model/RecordTypeOfCodePinLaw"), (0, u "expected"), (0, u "(I)Lcom/example/tapewire/tapewire/model/RecordType;"), (0, .methodref 8 27), (0, .nameAndType 28 25), (0, u "ofCode"), (0, .methodref 8 30), (0, .nameAndType 31 32), (0, u "code"), (0, u "()I"), (3, u "law"), (0, u "(I)Z")] 2

def k1m0 : Method := { name := "<init>", desc := "()V", sig := { parameters := [], returnType := none }, accessFlags := 2, code := none }
def k1c1 : Code := { maxStack := 2, maxLocals := 1, code := method_2_code, exceptionTable := #[], attributes := #[] }
def k1m1 : Method := { name := "expected", desc := "(I)Lcom/example/tapewire/tapewire/model/RecordType;", sig := { parameters := [.int], returnType := some (.object "com/example/tapewire/tapewire/model/RecordType") }, accessFlags := 10, code := some k1c1 }
def k1c2 : Code := { maxStack := 2, maxLocals := 4, code := code, exceptionTable := #[], attributes := #[] }
def k1m2 : Method := { name := "law", desc := "(I)Z", sig := { parameters := [.int], returnType := some .boolean }, accessFlags := 9, code := some k1c2 }
/-- com/example/tapewire/tapewire/model/RecordTypeOfCodePinLaw -/
def k1 : Class := { plain "com/example/tapewire/tapewire/model/RecordTypeOfCodePinLaw" (some 0) with
  accessFlags := 49
  interfaces := #[]
  cf := some (fileOf pool1 21 #[] #[{ accessFlags := 2, nameIndex := 5, descriptorIndex := 6, attributes := #[] }, { accessFlags := 10, nameIndex := 24, descriptorIndex := 25, attributes := #[] }, { accessFlags := 9, nameIndex := 36, descriptorIndex := 37, attributes := #[] }] 49 2 #[] #[])
  fields := #[]
  methods := #[k1m0, k1m1, k1m2]
  instanceTypes := #[]
  staticTypes := #[]
  resolved := Array.replicate 40 none
  statics := none }

def pool2 : Array CpInfo := pool [(1, .class_ 2), (0, u "java/lang/constant/Constable"), (0, .class_ 4), (0, u "java/lang/Object")] 6

/-- java/lang/constant/Constable -/
def k2 : Class := { plain "java/lang/constant/Constable" (some 0) with
  accessFlags := 1537
  interfaces := #[]
  cf := some (fileOf pool2 1 #[] #[] 1537 3 #[] #[])
  fields := #[]
  methods := #[]
  instanceTypes := #[]
  staticTypes := #[]
  resolved := Array.replicate 11 none
  statics := none }

def pool3 : Array CpInfo := pool [(1, .class_ 2), (0, u "java/lang/Comparable"), (0, .class_ 4), (0, u "java/lang/Object")] 7

/-- java/lang/Comparable -/
def k3 : Class := { plain "java/lang/Comparable" (some 0) with
  accessFlags := 1537
  interfaces := #[]
  cf := some (fileOf pool3 1 #[] #[] 1537 3 #[] #[])
  fields := #[]
  methods := #[]
  instanceTypes := #[]
  staticTypes := #[]
  resolved := Array.replicate 12 none
  statics := none }

def pool4 : Array CpInfo := pool [(1, .class_ 2), (0, u "java/io/Serializable"), (0, .class_ 4), (0, u "java/lang/Object")] 2

/-- java/io/Serializable -/
def k4 : Class := { plain "java/io/Serializable" (some 0) with
  accessFlags := 1537
  interfaces := #[]
  cf := some (fileOf pool4 1 #[] #[] 1537 3 #[] #[])
  fields := #[]
  methods := #[]
  instanceTypes := #[]
  staticTypes := #[]
  resolved := Array.replicate 7 none
  statics := none }

def pool5 : Array CpInfo := pool [(2, .class_ 4), (1, u "java/lang/Enum"), (0, u "name"), (0, u "Ljava/lang/String;"), (2, u "ordinal"), (0, u "I"), (1, .class_ 14), (1, u "java/lang/Object"), (4, u "hash"), (86, .class_ 108), (1, u "java/lang/Enum$EnumDesc"), (2, .class_ 112), (0, u "java/lang/constant/Constable"), (0, .class_ 114), (0, u "java/lang/Comparable"), (0, .class_ 116), (0, u "java/io/Serializable")] 87

/-- java/lang/Enum -/
def k5 : Class := { plain "java/lang/Enum" (some 0) with
  accessFlags := 1057
  interfaces := #[2, 3, 4]
  cf := some (fileOf pool5 2 #[.nestMembers #[106]] #[] 1057 12 #[111, 113, 115] #[{ accessFlags := 18, nameIndex := 5, descriptorIndex := 6, attributes := #[] }, { accessFlags := 18, nameIndex := 9, descriptorIndex := 10, attributes := #[] }, { accessFlags := 2, nameIndex := 19, descriptorIndex := 10, attributes := #[] }])
  fields := #[{ name := "name", type := (.object "java/lang/String"), accessFlags := 18, slot := 0, constantValue := 0 }, { name := "ordinal", type := .int, accessFlags := 18, slot := 1, constantValue := 0 }, { name := "hash", type := .int, accessFlags := 2, slot := 2, constantValue := 0 }]
  methods := #[]
  instanceTypes := #[(.object "java/lang/String"), .int, .int]
  staticTypes := #[]
  resolved := Array.replicate 204 none
  statics := none }

def pool6 : Array CpInfo := pool [(1, .class_ 2), (0, u "com/example/tapewire/tapewire/model/RecordType"), (2, u "TRADE"), (0, u "Lcom/example/tapewire/tapewire/model/RecordType;"), (2, u "QUOTE"), (2, u "BAR"), (0, .fieldref 1 14), (0, .nameAndType 15 16), (0, u "$VALUES"), (0, u "[Lcom/example/tapewire/tapewire/model/RecordType;"), (0, .methodref 18 19), (0, .class_ 16), (0, .nameAndType 20 21), (0, u "clone"), (0, u "()Ljava/lang/Object;"), (1, .class_ 25), (1, u "java/lang/Enum"), (6, .fieldref 1 33), (0, .nameAndType 34 35), (0, u "code"), (0, u "I"), (2, u "displayName"), (0, u "Ljava/lang/String;"), (2, u "perVenue"), (0, u "Z"), (2, u "computed"), (8, u "fields"), (0, u "Ljava/util/List;"), (0, .methodref 1 58), (0, .nameAndType 59 60), (0, u "values"), (0, u "()[Lcom/example/tapewire/tapewire/model/RecordType;"), (138, u "()I"), (7, u "ofCode"), (0, u "(I)Lcom/example/tapewire/tapewire/model/RecordType;")] 21

def k6c0 : Code := { maxStack := 1, maxLocals := 0, code := prog_57_method_1_code, exceptionTable := #[], attributes := #[] }
def k6m0 : Method := { name := "values", desc := "()[Lcom/example/tapewire/tapewire/model/RecordType;", sig := { parameters := [], returnType := some (.array (.object "com/example/tapewire/tapewire/model/RecordType")) }, accessFlags := 9, code := some k6c0 }
def k6c1 : Code := { maxStack := 1, maxLocals := 1, code := prog_57_method_4_code, exceptionTable := #[], attributes := #[] }
def k6m1 : Method := { name := "code", desc := "()I", sig := { parameters := [], returnType := some .int }, accessFlags := 1, code := some k6c1 }
def k6c2 : Code := { maxStack := 3, maxLocals := 5, code := prog_57_method_12_code, exceptionTable := #[], attributes := #[] }
def k6m2 : Method := { name := "ofCode", desc := "(I)Lcom/example/tapewire/tapewire/model/RecordType;", sig := { parameters := [.int], returnType := some (.object "com/example/tapewire/tapewire/model/RecordType") }, accessFlags := 9, code := some k6c2 }
/-- com/example/tapewire/tapewire/model/RecordType -/
def k6 : Class := { plain "com/example/tapewire/tapewire/model/RecordType" (some 5) with
  accessFlags := 16433
  interfaces := #[]
  cf := some (fileOf pool6 1 #[] #[{ accessFlags := 9, nameIndex := 59, descriptorIndex := 60, attributes := #[] }, { accessFlags := 1, nameIndex := 34, descriptorIndex := 199, attributes := #[] }, { accessFlags := 9, nameIndex := 207, descriptorIndex := 208, attributes := #[] }] 16433 23 #[] #[{ accessFlags := 16409, nameIndex := 5, descriptorIndex := 6, attributes := #[] }, { accessFlags := 16409, nameIndex := 9, descriptorIndex := 6, attributes := #[] }, { accessFlags := 16409, nameIndex := 12, descriptorIndex := 6, attributes := #[] }, { accessFlags := 18, nameIndex := 34, descriptorIndex := 35, attributes := #[] }, { accessFlags := 18, nameIndex := 38, descriptorIndex := 39, attributes := #[] }, { accessFlags := 18, nameIndex := 42, descriptorIndex := 43, attributes := #[] }, { accessFlags := 18, nameIndex := 46, descriptorIndex := 43, attributes := #[] }, { accessFlags := 18, nameIndex := 55, descriptorIndex := 56, attributes := #[] }, { accessFlags := 4122, nameIndex := 15, descriptorIndex := 16, attributes := #[] }])
  fields := #[{ name := "TRADE", type := (.object "com/example/tapewire/tapewire/model/RecordType"), accessFlags := 16409, slot := 0, constantValue := 0 }, { name := "QUOTE", type := (.object "com/example/tapewire/tapewire/model/RecordType"), accessFlags := 16409, slot := 1, constantValue := 0 }, { name := "BAR", type := (.object "com/example/tapewire/tapewire/model/RecordType"), accessFlags := 16409, slot := 2, constantValue := 0 }, { name := "code", type := .int, accessFlags := 18, slot := 3, constantValue := 0 }, { name := "displayName", type := (.object "java/lang/String"), accessFlags := 18, slot := 4, constantValue := 0 }, { name := "perVenue", type := .boolean, accessFlags := 18, slot := 5, constantValue := 0 }, { name := "computed", type := .boolean, accessFlags := 18, slot := 6, constantValue := 0 }, { name := "fields", type := (.object "java/util/List"), accessFlags := 18, slot := 7, constantValue := 0 }, { name := "$VALUES", type := (.array (.object "com/example/tapewire/tapewire/model/RecordType")), accessFlags := 4122, slot := 3, constantValue := 0 }]
  methods := #[k6m0, k6m1, k6m2]
  instanceTypes := #[(.object "java/lang/String"), .int, .int, .int, (.object "java/lang/String"), .boolean, .boolean, (.object "java/util/List")]
  staticTypes := #[(.object "com/example/tapewire/tapewire/model/RecordType"), (.object "com/example/tapewire/tapewire/model/RecordType"), (.object "com/example/tapewire/tapewire/model/RecordType"), (.array (.object "com/example/tapewire/tapewire/model/RecordType"))]
  resolved := Array.replicate 230 none
  statics := some 0 }

def pool7 : Array CpInfo := pool [(1, .class_ 2), (0, u "java/lang/Cloneable"), (0, .class_ 4), (0, u "java/lang/Object")] 2

/-- java/lang/Cloneable -/
def k7 : Class := { plain "java/lang/Cloneable" (some 0) with
  accessFlags := 1537
  interfaces := #[]
  cf := some (fileOf pool7 1 #[] #[] 1537 3 #[] #[])
  fields := #[]
  methods := #[]
  instanceTypes := #[]
  staticTypes := #[]
  resolved := Array.replicate 7 none
  statics := none }

/-- the primitive byte -/
def k8 : Class := { plain "byte" none with kind := .primitive 'B', accessFlags := 0x411 }
/-- [B -/
def k9 : Class := { plain "[B" (some 0) with kind := .array 8 .byte, interfaces := #[7, 4], accessFlags := 1041 }

/-- the primitive int -/
def k10 : Class := { plain "int" none with kind := .primitive 'I', accessFlags := 0x411 }
/-- [I -/
def k11 : Class := { plain "[I" (some 0) with kind := .array 10 .int, interfaces := #[7, 4], accessFlags := 1041 }

/-- [Lcom/example/tapewire/tapewire/model/RecordType; -/
def k12 : Class := { plain "[Lcom/example/tapewire/tapewire/model/RecordType;" (some 0) with kind := .array 6 (.object "com/example/tapewire/tapewire/model/RecordType"), interfaces := #[7, 4], accessFlags := 1041 }

def heap : Heap := #[{ cls := 6, slots := #[.ref 2, .ref 3, .ref 4, .ref 1], vm := .statics 6 },
  { cls := 12, slots := #[.ref 2, .ref 3, .ref 4], vm := .none },
  { cls := 6, slots := #[.null, .int 0, .int 0, .int 1, .null, .int 0, .int 0, .null], vm := .none },
  { cls := 6, slots := #[.null, .int 1, .int 0, .int 2, .null, .int 0, .int 0, .null], vm := .none },
  { cls := 6, slots := #[.null, .int 2, .int 0, .int 3, .null, .int 0, .int 0, .null], vm := .none }]
def classes : Array Class := #[k0, k1, k2, k3, k4, k5, k6, k7, k8, k9, k10, k11, k12]
def interned : List (Array UInt16 × Addr) := []
def slotsUsed : Nat := 31
def theMethod : MethodId := ⟨1, 2⟩
def args0 : Array Value := #[.int 5]
def aboutOver (below : List Frame) : State where
  vm := { classes := classes, interned := interned.toArray }
  heap := heap
  slotsUsed := slotsUsed
  threads := #[{ frames := .invoking theMethod args0 :: below }]
def below0 : List Frame := [.native { method := ⟨0, 0⟩, args := #[] }]
def about1 : State := aboutOver below0
def p0 : Program := .bare "" "" ""
def e0 : Env := launch0.env 0 0 0
theorem w_frames : about1.frames = Frame.invoking theMethod args0 :: below0 := rfl
set_option maxRecDepth 65536 in
theorem w_args : argsFit about1.vm theMethod args0 = true := by decide +kernel
set_option maxRecDepth 65536 in
theorem w_heap : heapFits about1 = true := by decide +kernel
set_option maxRecDepth 65536 in
theorem w_runnable : about1.curStatus? = some .runnable := by decide +kernel
set_option maxRecDepth 65536 in
theorem w_alone : about1.alone = true := by decide +kernel
set_option maxRecDepth 65536 in
theorem w_named : about1.methodNamed? x = some theMethod := by decide +kernel
set_option maxRecDepth 65536 in
theorem w_hears : about1.hears theMethod below0 = true := by decide +kernel
set_option maxRecDepth 65536 in
theorem w_ripe : about1.ripe theMethod args0 below0 = true := by decide +kernel
theorem w_running : about1.status = .running := rfl
set_option maxRecDepth 65536 in
theorem w_room : about1.hasRoom e0.platform room_1 = true :=
  launch0.hasRoom_least _ room_1 (by decide +kernel) (by decide +kernel) (by decide +kernel) (by decide +kernel) (by decide +kernel) (by decide +kernel)
theorem allAtoms_all (ts : List Jvm.Cond) (a : Array Jvm.Value) (st : Jvm.State) : (allAtoms ts).before a st = ts.all (fun c => c.before a st) := by
  induction ts with
  | nil => rfl
  | cons c t ih =>
    show (Jvm.Cond.and c (allAtoms t)).before a st = _
    rw [Jvm.Cond.before_and, ih, List.all_cons]
def words1 : List Jvm.Cond := Jvm.Cond.code x code maxLocals ret :: tables_1
/-- a 'code' word, met by the world's own term for the bytes: nothing is compared byte by byte -/
theorem code_word {y : MethodName} {bytes : ByteArray} {mx : Nat} {rt : Option FieldType} {a : Array Value} {s : State} {m : MethodId} {meth : Method} {c : Code} (h1 : s.methodNamed? y = some m) (h2 : s.vm.method? m = some meth) (h3 : meth.code = some c) (h4 : c.code = bytes)
    (h5 : (c.maxLocals == mx && c.exceptionTable.isEmpty && decide (c.maxStack ≤ mostOperands) && decide (meth.sig.returnType = rt) && !meth.locks && decide (parseMethodDescriptor y.desc = some meth.sig)) = true) : (Jvm.Cond.code y bytes mx rt).before a s = true := by
  simp only [Bool.and_eq_true, beq_iff_eq, Bool.not_eq_true', decide_eq_true_eq] at h5
  obtain ⟨⟨⟨⟨⟨g1, g2⟩, g3⟩, g4⟩, g5⟩, g6⟩ := h5
  simp [Cond.before, Cond.holds, Cond.value, h1, h2, h3, h4, g1, g2, g3, g4, g5, g6]
def isCode : Jvm.Cond → Bool
  | .code _ _ _ _ => true
  | _ => false
theorem all_split {L : List Jvm.Cond} {P : Jvm.Cond → Bool} (h1 : L.all (fun c => isCode c || P c) = true) (h2 : ∀ c ∈ L.filter isCode, P c = true) : L.all P = true := by
  refine List.all_eq_true.mpr fun c hc => ?_
  have h := List.all_eq_true.mp h1 c hc
  rcases Bool.eq_false_or_eq_true (isCode c) with hi | hi
  · exact h2 c (List.mem_filter.mpr ⟨hc, hi⟩)
  · simpa [hi] using h
set_option maxRecDepth 65536 in
theorem w_c0 : (Jvm.Cond.code x code maxLocals ret).before args0 about1 = true := code_word (m := ⟨1, 2⟩) (meth := k1m2) (c := k1c2) (by decide +kernel) rfl rfl rfl (by decide +kernel)
set_option maxRecDepth 65536 in
theorem w_c1 : (Jvm.Cond.code ({ cls := "com/example/tapewire/tapewire/model/RecordTypeOfCodePinLaw", name := "expected", desc := "(I)Lcom/example/tapewire/tapewire/model/RecordType;" } : Jvm.MethodName) method_2_code (1 : Nat) (Option.some (Jvm.ClassFile.FieldType.object "com/example/tapewire/tapewire/model/RecordType"))).before args0 about1 = true := code_word (m := ⟨1, 1⟩) (meth := k1m1) (c := k1c1) (by decide +kernel) rfl rfl rfl (by decide +kernel)
set_option maxRecDepth 65536 in
theorem w_c2 : (Jvm.Cond.code ({ cls := "com/example/tapewire/tapewire/model/RecordType", name := "ofCode", desc := "(I)Lcom/example/tapewire/tapewire/model/RecordType;" } : Jvm.MethodName) prog_57_method_12_code (5 : Nat) (Option.some (Jvm.ClassFile.FieldType.object "com/example/tapewire/tapewire/model/RecordType"))).before args0 about1 = true := code_word (m := ⟨6, 2⟩) (meth := k6m2) (c := k6c2) (by decide +kernel) rfl rfl rfl (by decide +kernel)
set_option maxRecDepth 65536 in
theorem w_c3 : (Jvm.Cond.code ({ cls := "com/example/tapewire/tapewire/model/RecordType", name := "values", desc := "()[Lcom/example/tapewire/tapewire/model/RecordType;" } : Jvm.MethodName) prog_57_method_1_code (0 : Nat) (Option.some (Jvm.ClassFile.FieldType.array (Jvm.ClassFile.FieldType.object "com/example/tapewire/tapewire/model/RecordType")))).before args0 about1 = true := code_word (m := ⟨6, 0⟩) (meth := k6m0) (c := k6c0) (by decide +kernel) rfl rfl rfl (by decide +kernel)
set_option maxRecDepth 65536 in
theorem w_c4 : (Jvm.Cond.code ({ cls := "com/example/tapewire/tapewire/model/RecordType", name := "code", desc := "()I" } : Jvm.MethodName) prog_57_method_4_code (1 : Nat) (Option.some Jvm.ClassFile.FieldType.int)).before args0 about1 = true := code_word (m := ⟨6, 1⟩) (meth := k6m1) (c := k6c1) (by decide +kernel) rfl rfl rfl (by decide +kernel)
def codes1 : List Jvm.Cond := [Jvm.Cond.code x code maxLocals ret, Jvm.Cond.code ({ cls := "com/example/tapewire/tapewire/model/RecordTypeOfCodePinLaw", name := "expected", desc := "(I)Lcom/example/tapewire/tapewire/model/RecordType;" } : Jvm.MethodName) method_2_code (1 : Nat) (Option.some (Jvm.ClassFile.FieldType.object "com/example/tapewire/tapewire/model/RecordType")), Jvm.Cond.code ({ cls := "com/example/tapewire/tapewire/model/RecordType", name := "ofCode", desc := "(I)Lcom/example/tapewire/tapewire/model/RecordType;" } : Jvm.MethodName) prog_57_method_12_code (5 : Nat) (Option.some (Jvm.ClassFile.FieldType.object "com/example/tapewire/tapewire/model/RecordType")), Jvm.Cond.code ({ cls := "com/example/tapewire/tapewire/model/RecordType", name := "values", desc := "()[Lcom/example/tapewire/tapewire/model/RecordType;" } : Jvm.MethodName) prog_57_method_1_code (0 : Nat) (Option.some (Jvm.ClassFile.FieldType.array (Jvm.ClassFile.FieldType.object "com/example/tapewire/tapewire/model/RecordType"))), Jvm.Cond.code ({ cls := "com/example/tapewire/tapewire/model/RecordType", name := "code", desc := "()I" } : Jvm.MethodName) prog_57_method_4_code (1 : Nat) (Option.some Jvm.ClassFile.FieldType.int)]
set_option maxRecDepth 65536 in
theorem codes_eq : words1.filter isCode = codes1 := rfl
theorem w_codes : ∀ c ∈ words1.filter isCode, c.before args0 about1 = true := by
  rw [codes_eq]
  intro c hc
  simp only [codes1, List.mem_cons, List.not_mem_nil, or_false] at hc
  rcases hc with rfl | rfl | rfl | rfl | rfl
  · exact w_c0
  · exact w_c1
  · exact w_c2
  · exact w_c3
  · exact w_c4
set_option maxRecDepth 65536 in
theorem w_t1 : (words1.take 24).all (fun c => isCode c || c.before args0 about1) = true := by decide +kernel
set_option maxRecDepth 65536 in
theorem w_t2 : (words1.drop 24).all (fun c => isCode c || c.before args0 about1) = true := by decide +kernel
theorem w_tables : (allAtoms (Jvm.Cond.code x code maxLocals ret :: tables_1)).before args0 about1 = true := by
  rw [allAtoms_all]
  show words1.all (fun c => c.before args0 about1) = true
  refine all_split ?_ w_codes
  rw [← List.take_append_drop 24 words1, List.all_append, w_t1, w_t2]
  rfl
set_option maxRecDepth 65536 in
theorem w_case : (Jvm.Cond.and given_1 narrow_1).before args0 about1 = true := by decide +kernel
theorem w_applies : (headSpec (Jvm.Cond.code x code maxLocals ret :: tables_1) room_1).applies x e0.platform about1 = true :=
  (Spec.applies_iff w_frames).mpr ⟨w_running, w_runnable, w_alone, w_named, w_hears, w_ripe, w_room, w_tables⟩
theorem atStart : AtStart classFile x code maxLocals ret World_1 tables_1 room_1 Calls_1 rest_1 Pre_1 launch0 p0 e0 about1 theMethod args0 below0 :=
  ⟨lists_1, trivial, launch0.admits_env _ _ _, launch0.least_env, fairChoices_fair.cas, fairChoices_fair.clock, w_frames, w_args, w_heap, w_applies, trivial, trivial, w_case⟩
end start1
theorem witness_1 : WitnessClaimed_1 := ⟨start1.p0, start1.e0, start1.about1, start1.theMethod, start1.args0, start1.below0, start1.atStart⟩
end Jvm.Pilot.@@N@@
