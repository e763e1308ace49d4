import JvmDerived
import JvmDerived.Pilot.@@N@@Statement
import JvmDerived.Pilot.@@N@@Code
set_option linter.unusedVariables false
set_option linter.unusedSimpArgs false
namespace Jvm.RoadKit
open Sem ClassFile Op Lib Jvm.Stand Jvm.Free Jvm.LawKit
section New
variable {p : Program} {l : Launch} {e : Env} {R : Room} {s : State} {m : MethodId} {args : Array Value} {below : List Frame} {meth : Method} {c : Code} {T : State} {locs : List Loc} {cells slots : Nat}
theorem retI (X : Stand p l e R s m args below meth c T locs cells slots) (hx : p.tables.exec = Jvm.exec) {pc : Nat} {Ls : Array Slot} {z : Int32} {rest : List Value} (hret : meth.sig.returnType = some .int) (hd : decode c.code pc = .ok (.ireturn, 1)) {fs : List Frame}
    (hl : ∀ (f : JFrame) (acts : List Action), f.method = m → f.locked = none → f.entered = [] → (doReturn e (T.setTop f) acts (some (.int z))).1 = T.setFrames fs) : Steps p.tables e below (T.setTop (mkF m pc Ls (.int z :: rest))) (T.setFrames fs) := by
  have hm' : T.vm.method? m = some meth := X.method'
  have hn : narrow .int (.int z) = .int z := rfl
  show Steps p.tables e below (T.setTop { method := m, pc := pc, locals := Ls, stack := _ :: rest, locked := none }) _
  jvm_step X.here [X.here.top, hx, hd, hm', hret, hn]
  first | (intro acts; rw [hl _ acts rfl rfl rfl]) | rw [hl _ _ rfl rfl rfl]
  exact Steps.refl _
end New
end Jvm.RoadKit
namespace Jvm.Pilot.@@N@@
open Jvm Jvm.ClassFile Sem Op Lib Jvm.Free Jvm.Stand Jvm.LawKit Jvm.RoadKit Bundle Jvm.Pilot.@@N@@.Jvm.D
theorem pn_0 : plainName "com/example/compensa/compensa/comum/FatorVencimento" = true := by first | (simp [plainName, overriddenIn]; done) | decide +kernel
theorem d1_0 : decode prog_62_method_4_code 0 = .ok (.lload_n 0, 1) := by decide +kernel
theorem d1_1 : decode prog_62_method_4_code 1 = .ok (.getstatic 67, 3) := by decide +kernel
theorem d1_4 : decode prog_62_method_4_code 4 = .ok (.lsub, 1) := by decide +kernel
theorem d1_5 : decode prog_62_method_4_code 5 = .ok (.ldc2_w 65, 3) := by decide +kernel
theorem d1_8 : decode prog_62_method_4_code 8 = .ok (.lcmp, 1) := by decide +kernel
theorem d1_9 : decode prog_62_method_4_code 9 = .ok (.ifCond .lt 7, 3) := by decide +kernel
theorem d1_16 : decode prog_62_method_4_code 16 = .ok (.iconst 0, 1) := by decide +kernel
theorem d1_17 : decode prog_62_method_4_code 17 = .ok (.ireturn, 1) := by decide +kernel
theorem d1_12 : decode prog_62_method_4_code 12 = .ok (.iconst 1, 1) := by decide +kernel
theorem d1_13 : decode prog_62_method_4_code 13 = .ok (.goto 4, 3) := by decide +kernel
theorem ef_1 (m : MethodId) (q1 : Int64) : entryFrame m #[(.long q1)] 2 = mkF m 0 #[.val (.long q1), .second] [] := by first | (simp [entryFrame, mkF, argsToLocals, Value.category]; done) | rfl
def Q1 (Z : State) (q1 : Int64) (h0 : Heap) (n0 : Nat) (v : Option Value) (h : Heap) (L : List Loc) : Prop := ∃ (r : Int32), v = some (.int r) ∧ Fr n0 L ∧ ((q1 - (10141 : Int64) < (1000 : Int64) ∧ r = 0) ∨ (¬ (q1 - (10141 : Int64) < (1000 : Int64)) ∧ r = 1)) ∧ h = h0
set_option maxRecDepth 65536 in
set_option maxHeartbeats 40000000 in
theorem rm1 (l : Launch) (Z : State) (a0 : Array Value) (hw : ∀ d ∈ tables_1, d.before a0 Z = true) (ws : List Jvm.Cond) (q1 : Int64) (h0 : Heap) (n0 : Nat) (Z0 : n0 ≤ h0.size) (HS0 : Sta Z h0 "com/example/compensa/compensa/comum/FatorVencimento" "DIA_BASE" "J" (.long (10141 : Int64))) :
    MetFree l (⟨"com/example/compensa/compensa/comum/FatorVencimento", "exprime", "(J)Z"⟩ : MethodName) (head1 (Jvm.Cond.code (⟨"com/example/compensa/compensa/comum/FatorVencimento", "exprime", "(J)Z"⟩ : MethodName) prog_62_method_4_code 2 (some .boolean) :: ws) ({ frames := 0, cells := 0, slots := 0, locals := 0 } : Room)) (fun a U => a = #[(.long q1)] ∧ Z.Warmed39 U.vm ∧ U.heap = h0) (fun _ _ _ _ _ => True) (fun _ U o U' => ∃ v L, o = .returned v ∧ Q1 Z q1 h0 n0 v U'.heap L ∧ FrameEnd U o U' L ({ frames := 0, cells := 0, slots := 0, locals := 0 } : Room).cells ({ frames := 0, cells := 0, slots := 0, locals := 0 } : Room).slots) := by
  refine MetFree.of_bodySF (plainFor_of_name pn_0) hisR ?_
  intro p e s m args below meth c s₁ Bd hml0 hP hK
  obtain ⟨rfl, hZ, hh⟩ := hP
  have hx := Bd.exec
  have hby := Bd.bytes
  have hml : c.maxLocals = 2 := hml0
  have hown : s.vm.findClass "com/example/compensa/compensa/comum/FatorVencimento" = some m.cls := findClass_of_methodNamed Bd.named
  have hnm := (name_of_methodNamed Bd.named Bd.method).1
  have X0 : Stand p l e ({ frames := 0, cells := 0, slots := 0, locals := 0 } : Room) s m #[(.long q1)] below meth c s₁ [] 0 0 := Stand.of_body Bd
  have e0 : s₁.heap = h0 := by rw [← hh, Bd.state]; rfl
  have N0 := Fr.nil n0
  have pre0 : ∀ t, Steps p.tables e below (s₁.setTop (mkF m 0 #[.val (.long q1), .second] [])) t → Steps p.tables e below (s₁.setTop (entryFrame m #[(.long q1)] 2)) t := fun t k => castTop (ef_1 m q1) k
  obtain ⟨T1, X1, e1, st1⟩ := getS2 X0 hx hZ hown (host := "") (Or.inl (hw _ (List.mem_of_getElem? (i := 5) rfl))) Via.refl e0 HS0 (g := (mkF m 1 #[.val (.long q1), .second] [(.long q1)])) rfl (hb hby d1_1)
  have P2 : ∀ t, Steps p.tables e below (T1.setTop (mkF m 9 #[.val (.long q1), .second] [(.int (lcmpW (q1 - (10141 : Int64)) (1000 : Int64)))])) t → Steps p.tables e below (s₁.setTop (entryFrame m #[(.long q1)] 2)) t := by
    intro t k
    refine pre0 t ?_
    show Steps p.tables e below (s₁.setTop (mkF m 0 #[.val (.long q1), .second] [])) _
    refine XS.lloadN X0.here hx rfl (hb hby d1_0) rfl ?_
    show Steps p.tables e below (s₁.setTop (mkF m 1 #[.val (.long q1), .second] [(.long q1)])) _
    refine st1 _ ?_
    show Steps p.tables e below (T1.setTop (mkF m 4 #[.val (.long q1), .second] [(.long (10141 : Int64)), (.long q1)])) _
    refine XS.lsub X1.here hx rfl (hb hby d1_4) rfl ?_
    show Steps p.tables e below (T1.setTop (mkF m 5 #[.val (.long q1), .second] [(.long (q1 - (10141 : Int64)))])) _
    refine X1.ldc2Long hx hown (mvT hZ (hw _ (List.mem_of_getElem? (i := 7) rfl))) (g := (mkF m 5 #[.val (.long q1), .second] [(.long (q1 - (10141 : Int64)))])) rfl (hb hby d1_5) _ ?_
    show Steps p.tables e below (T1.setTop (mkF m 8 #[.val (.long q1), .second] [(.long (1000 : Int64)), (.long (q1 - (10141 : Int64)))])) _
    refine XS.lcmp X1.here hx rfl (hb hby d1_8) rfl ?_
    exact k
  by_cases h1 : (lcmpW (q1 - (10141 : Int64)) (1000 : Int64)) < (0 : Int32)
  · obtain ⟨fs, hr, hrun, hended, hW, hsame⟩ := X1.leave (v := some (.int (0 : Int32))) (fun h => by rw [Bd.returns] at h; cases h)
    refine ⟨_, _, P2 _ ?_, hrun, hended, _, _, rfl, ?_, ⟨_, rfl⟩, hW, hsame.mono (by decide) (by decide)⟩
    · show Steps p.tables e below (T1.setTop (mkF m 9 #[.val (.long q1), .second] [(.int (lcmpW (q1 - (10141 : Int64)) (1000 : Int64)))])) _
      refine XS.ifYes X1.here hx rfl (pc0 := 9) (pc' := 16) rfl (hb hby d1_9) rfl ((if0 _ _).trans (tlt h1).1) (by decide) (by decide) ?_
      show Steps p.tables e below (T1.setTop (mkF m 16 #[.val (.long q1), .second] [])) _
      refine XS.iconst X1.here hx rfl (hb hby d1_16) ?_
      show Steps p.tables e below (T1.setTop (mkF m 17 #[.val (.long q1), .second] [(.int (0 : Int32))])) _
      exact retN X1 hx (t := .boolean) Bd.returns (by simp) (hb hby d1_17) hr
    · show Q1 Z q1 h0 n0 _ T1.heap _
      rw [e1]
      exact ⟨(0 : Int32), rfl, N0, Or.inl ⟨(lw_lt _ _).mp h1, rfl⟩, rfl⟩
  · obtain ⟨fs, hr, hrun, hended, hW, hsame⟩ := X1.leave (v := some (.int (1 : Int32))) (fun h => by rw [Bd.returns] at h; cases h)
    refine ⟨_, _, P2 _ ?_, hrun, hended, _, _, rfl, ?_, ⟨_, rfl⟩, hW, hsame.mono (by decide) (by decide)⟩
    · show Steps p.tables e below (T1.setTop (mkF m 9 #[.val (.long q1), .second] [(.int (lcmpW (q1 - (10141 : Int64)) (1000 : Int64)))])) _
      refine XS.ifNo X1.here hx rfl (hb hby d1_9) rfl ((if0 _ _).trans (flt h1).1) ?_
      show Steps p.tables e below (T1.setTop (mkF m 12 #[.val (.long q1), .second] [])) _
      refine XS.iconst X1.here hx rfl (hb hby d1_12) ?_
      show Steps p.tables e below (T1.setTop (mkF m 13 #[.val (.long q1), .second] [(.int (1 : Int32))])) _
      refine XS.goto X1.here hx rfl (pc0 := 13) (pc' := 17) rfl (hb hby d1_13) (by decide) (by decide) ?_
      show Steps p.tables e below (T1.setTop (mkF m 17 #[.val (.long q1), .second] [(.int (1 : Int32))])) _
      exact retN X1 hx (t := .boolean) Bd.returns (by simp) (hb hby d1_17) hr
    · show Q1 Z q1 h0 n0 _ T1.heap _
      rw [e1]
      exact ⟨(1 : Int32), rfl, N0, Or.inr ⟨fun q => h1 ((lw_lt _ _).mpr q), rfl⟩, rfl⟩
theorem own_lb (a : Int64) : -365000000000 < (a % (365000000000 : Int64)).toInt ∧ (a % (365000000000 : Int64)).toInt < 365000000000 := by
  rw [Int64.toInt_mod]
  have e : (365000000000 : Int64).toInt = 365000000000 := rfl
  rw [e]
  have q := tr a.toInt 365000000000
  rcases Int.lt_or_le a.toInt 0 with h | h
  · rw [q.2 h]; omega
  · rw [q.1 h]; omega
theorem own_ib (d : Int32) : -365000000000 < ((11141 : Int64) + (d % (1000 : Int32)).toInt64).toInt ∧ ((11141 : Int64) + (d % (1000 : Int32)).toInt64).toInt < 365000000000 := by
  have q := c_irem d 1000 1000 rfl
  have a := c_ladd (11141 : Int64) (d % (1000 : Int32)).toInt64
  rw [c_i2l] at a
  have r := rng64 ((11141 : Int64) + (d % (1000 : Int32)).toInt64)
  have e : (11141 : Int64).toInt = 11141 := rfl
  rw [e] at a
  rcases Int.lt_or_le d.toInt 0 with h | h
  · have := q.2 h; omega
  · have := q.1 h; omega
theorem own_sub (y : Int64) (h1 : -365000000000 < y.toInt) (h2 : y.toInt < 365000000000) : (y - (10141 : Int64) < (1000 : Int64)) ↔ y < (11141 : Int64) := by
  rw [Int64.lt_iff_toInt_lt, Int64.lt_iff_toInt_lt]
  have a := c_lsub y (10141 : Int64)
  have r := rng64 (y - (10141 : Int64))
  have e1 : (10141 : Int64).toInt = 10141 := rfl
  have e2 : (11141 : Int64).toInt = 11141 := rfl
  have e3 : (1000 : Int64).toInt = 1000 := rfl
  rw [e1] at a
  rw [e2, e3]
  omega
theorem pn_1 : plainName "com/example/compensa/compensa/comum/FatorVencimentoExprimePinLaw" = true := by first | (simp [plainName, overriddenIn]; done) | decide +kernel
theorem pd_0 : parseMethodDescriptor "(J)Z" = some ⟨[.long], some .boolean⟩ := by decide +kernel
theorem own_close (yv : Int64) (zv : Int32) (r8 : Int32) (bv : Int32) (hm5 : ((lcmpW yv (11141 : Int64)) < (0 : Int32) ∧ zv = (0 : Int32)) ∨ (¬ ((lcmpW yv (11141 : Int64)) < (0 : Int32)) ∧ zv = (1 : Int32))) (R9 : (yv - (10141 : Int64) < (1000 : Int64) ∧ r8 = 0) ∨ (¬ (yv - (10141 : Int64) < (1000 : Int64)) ∧ r8 = 1)) (hm12 : (r8 = zv ∧ bv = (1 : Int32)) ∨ (¬ (r8 = zv) ∧ bv = (0 : Int32))) (hs : (yv - (10141 : Int64) < (1000 : Int64)) ↔ yv < (11141 : Int64)) : bv = 1 := by
  simp only [lw_lt, hs] at hm5 R9
  by_cases A : yv < (11141 : Int64) <;> simp_all
theorem ef_0 (m : MethodId) (q0 : Int64) (p0 : Int32) (p1 : Int32) : entryFrame m #[(.long q0), (.int p0), (.int p1)] maxLocals = mkF m 0 #[.val (.long q0), .second, .val (.int p0), .val (.int p1), .unset, .unset, .unset] [] := by first | (simp [entryFrame, mkF, argsToLocals, Value.category, maxLocals]; done) | rfl
def Q0 (Z : State) (q0 : Int64) (p0 : Int32) (p1 : Int32) (h0 : Heap) (n0 : Nat) (v : Option Value) (h : Heap) (L : List Loc) : Prop := v = some (.int (1 : Int32)) ∧ Fr n0 L
set_option maxRecDepth 65536 in
set_option maxHeartbeats 40000000 in
theorem rm0 (l : Launch) (Z : State) (a0 : Array Value) (hw : ∀ d ∈ tables_1, d.before a0 Z = true) (ws : List Jvm.Cond) (q0 : Int64) (p0 : Int32) (p1 : Int32) (h0 : Heap) (n0 : Nat) (Z0 : n0 ≤ h0.size) (HS0 : Sta Z h0 "com/example/compensa/compensa/comum/FatorVencimento" "DIA_BASE" "J" (.long (10141 : Int64))) :
    MetFree l x (head1 (Jvm.Cond.code x code maxLocals ret :: ws) room_1) (fun a U => a = #[(.long q0), (.int p0), (.int p1)] ∧ Z.Warmed39 U.vm ∧ U.heap = h0) (fun _ _ _ _ _ => True) (fun _ U o U' => ∃ v L, o = .returned v ∧ Q0 Z q0 p0 p1 h0 n0 v U'.heap L ∧ FrameEnd U o U' L room_1.cells room_1.slots) := by
  refine MetFree.of_bodySF (plainFor_of_name pn_1) hisR ?_
  intro p e s m args below meth c s₁ Bd hml0 hP hK
  obtain ⟨rfl, hZ, hh⟩ := hP
  have hx := Bd.exec
  have hby := Bd.bytes
  have hml : c.maxLocals = 7 := hml0
  have hown : s.vm.findClass "com/example/compensa/compensa/comum/FatorVencimentoExprimePinLaw" = some m.cls := findClass_of_methodNamed Bd.named
  have hnm := (name_of_methodNamed Bd.named Bd.method).1
  have X0 : Stand p l e room_1 s m #[(.long q0), (.int p0), (.int p1)] below meth c s₁ [] 0 0 := Stand.of_body Bd
  have e0 : s₁.heap = h0 := by rw [← hh, Bd.state]; rfl
  have N0 := Fr.nil n0
  have pre0 : ∀ t, Steps p.tables e below (s₁.setTop (mkF m 0 #[.val (.long q0), .second, .val (.int p0), .val (.int p1), .unset, .unset, .unset] [])) t → Steps p.tables e below (s₁.setTop (entryFrame m #[(.long q0), (.int p0), (.int p1)] maxLocals)) t := fun t k => castTop (ef_0 m q0 p0 p1) k
  have P1 : ∀ t, Steps p.tables e below (s₁.setTop (mkF m 3 #[.val (.long q0), .second, .val (.int p0), .val (.int p1), .unset, .unset, .unset] [(.int (p1 &&& (1 : Int32)))])) t → Steps p.tables e below (s₁.setTop (entryFrame m #[(.long q0), (.int p0), (.int p1)] maxLocals)) t := by
    intro t k
    refine pre0 t ?_
    show Steps p.tables e below (s₁.setTop (mkF m 0 #[.val (.long q0), .second, .val (.int p0), .val (.int p1), .unset, .unset, .unset] [])) _
    refine XS.iloadN X0.here hx rfl (hb hby at_0) rfl ?_
    show Steps p.tables e below (s₁.setTop (mkF m 1 #[.val (.long q0), .second, .val (.int p0), .val (.int p1), .unset, .unset, .unset] [(.int p1)])) _
    refine XS.iconst X0.here hx rfl (hb hby at_1) ?_
    show Steps p.tables e below (s₁.setTop (mkF m 2 #[.val (.long q0), .second, .val (.int p0), .val (.int p1), .unset, .unset, .unset] [(.int (1 : Int32)), (.int p1)])) _
    refine XS.iand X0.here hx rfl (hb hby at_2) rfl ?_
    exact k
  obtain ⟨yv, hm2, P3⟩ : ∃ (yv : Int64), (((p1 &&& (1 : Int32)) = (0 : Int32) ∧ yv = (q0 % (365000000000 : Int64))) ∨ (¬ ((p1 &&& (1 : Int32)) = (0 : Int32)) ∧ yv = ((11141 : Int64) + ((p0 % (1000 : Int32)).toInt64)))) ∧ ∀ t, Steps p.tables e below (s₁.setTop (mkF m 28 #[.val (.long q0), .second, .val (.int p0), .val (.int p1), .val (.long yv), .second, .unset] [])) t → Steps p.tables e below (s₁.setTop (entryFrame m #[(.long q0), (.int p0), (.int p1)] maxLocals)) t := by
    by_cases hd3_0 : (p1 &&& (1 : Int32)) = (0 : Int32)
    ·
      refine ⟨(q0 % (365000000000 : Int64)), Or.inl ⟨hd3_0, rfl⟩, fun t k => ?_⟩
      refine P1 t ?_
      show Steps p.tables e below (s₁.setTop (mkF m 3 #[.val (.long q0), .second, .val (.int p0), .val (.int p1), .unset, .unset, .unset] [(.int (p1 &&& (1 : Int32)))])) _
      refine XS.ifYes X0.here hx rfl (pc0 := 3) (pc' := 21) rfl (hb hby at_3) rfl ((if0 _ _).trans (teq hd3_0).1) (by decide) (by decide) ?_
      show Steps p.tables e below (s₁.setTop (mkF m 21 #[.val (.long q0), .second, .val (.int p0), .val (.int p1), .unset, .unset, .unset] [])) _
      refine XS.lloadN X0.here hx rfl (hb hby at_21) rfl ?_
      show Steps p.tables e below (s₁.setTop (mkF m 22 #[.val (.long q0), .second, .val (.int p0), .val (.int p1), .unset, .unset, .unset] [(.long q0)])) _
      refine X0.ldc2Long hx hown (mvT hZ (hw _ (List.mem_of_getElem? (i := 8) rfl))) (g := (mkF m 22 #[.val (.long q0), .second, .val (.int p0), .val (.int p1), .unset, .unset, .unset] [(.long q0)])) rfl (hb hby at_22) _ ?_
      show Steps p.tables e below (s₁.setTop (mkF m 25 #[.val (.long q0), .second, .val (.int p0), .val (.int p1), .unset, .unset, .unset] [(.long (365000000000 : Int64)), (.long q0)])) _
      refine XS.lrem X0.here hx rfl (hb hby at_25) rfl (by decide) ?_
      rw [lrem_mod]
      show Steps p.tables e below (s₁.setTop (mkF m 26 #[.val (.long q0), .second, .val (.int p0), .val (.int p1), .unset, .unset, .unset] [(.long (q0 % (365000000000 : Int64)))])) _
      refine XS.lstore X0.here hx rfl (hb hby at_26) rfl (l' := #[.val (.long q0), .second, .val (.int p0), .val (.int p1), .val (.long (q0 % (365000000000 : Int64))), .second, .unset]) rfl ?_
      exact k
    ·
      refine ⟨((11141 : Int64) + ((p0 % (1000 : Int32)).toInt64)), Or.inr (⟨hd3_0, rfl⟩), fun t k => ?_⟩
      refine P1 t ?_
      show Steps p.tables e below (s₁.setTop (mkF m 3 #[.val (.long q0), .second, .val (.int p0), .val (.int p1), .unset, .unset, .unset] [(.int (p1 &&& (1 : Int32)))])) _
      refine XS.ifNo X0.here hx rfl (hb hby at_3) rfl ((if0 _ _).trans (feq hd3_0).1) ?_
      show Steps p.tables e below (s₁.setTop (mkF m 6 #[.val (.long q0), .second, .val (.int p0), .val (.int p1), .unset, .unset, .unset] [])) _
      refine X0.ldc2Long hx hown (mvT hZ (hw _ (List.mem_of_getElem? (i := 0) rfl))) (g := (mkF m 6 #[.val (.long q0), .second, .val (.int p0), .val (.int p1), .unset, .unset, .unset] [])) rfl (hb hby at_6) _ ?_
      show Steps p.tables e below (s₁.setTop (mkF m 9 #[.val (.long q0), .second, .val (.int p0), .val (.int p1), .unset, .unset, .unset] [(.long (11141 : Int64))])) _
      refine XS.iloadN X0.here hx rfl (hb hby at_9) rfl ?_
      show Steps p.tables e below (s₁.setTop (mkF m 10 #[.val (.long q0), .second, .val (.int p0), .val (.int p1), .unset, .unset, .unset] [(.int p0), (.long (11141 : Int64))])) _
      refine XS.sipush X0.here hx rfl (hb hby at_10) ?_
      show Steps p.tables e below (s₁.setTop (mkF m 13 #[.val (.long q0), .second, .val (.int p0), .val (.int p1), .unset, .unset, .unset] [(.int (1000 : Int32)), (.int p0), (.long (11141 : Int64))])) _
      refine iremM X0 hx rfl (hb hby at_13) rfl (by decide) ?_
      show Steps p.tables e below (s₁.setTop (mkF m 14 #[.val (.long q0), .second, .val (.int p0), .val (.int p1), .unset, .unset, .unset] [(.int (p0 % (1000 : Int32))), (.long (11141 : Int64))])) _
      refine XS.i2l X0.here hx rfl (hb hby at_14) rfl ?_
      show Steps p.tables e below (s₁.setTop (mkF m 15 #[.val (.long q0), .second, .val (.int p0), .val (.int p1), .unset, .unset, .unset] [(.long ((p0 % (1000 : Int32)).toInt64)), (.long (11141 : Int64))])) _
      refine XS.ladd X0.here hx rfl (hb hby at_15) rfl ?_
      show Steps p.tables e below (s₁.setTop (mkF m 16 #[.val (.long q0), .second, .val (.int p0), .val (.int p1), .unset, .unset, .unset] [(.long ((11141 : Int64) + ((p0 % (1000 : Int32)).toInt64)))])) _
      refine XS.lstore X0.here hx rfl (hb hby at_16) rfl (l' := #[.val (.long q0), .second, .val (.int p0), .val (.int p1), .val (.long ((11141 : Int64) + ((p0 % (1000 : Int32)).toInt64))), .second, .unset]) rfl ?_
      show Steps p.tables e below (s₁.setTop (mkF m 18 #[.val (.long q0), .second, .val (.int p0), .val (.int p1), .val (.long ((11141 : Int64) + ((p0 % (1000 : Int32)).toInt64))), .second, .unset] [])) _
      refine XS.goto X0.here hx rfl (pc0 := 18) (pc' := 28) rfl (hb hby at_18) (by decide) (by decide) ?_
      exact k
  have P4 : ∀ t, Steps p.tables e below (s₁.setTop (mkF m 34 #[.val (.long q0), .second, .val (.int p0), .val (.int p1), .val (.long yv), .second, .unset] [(.int (lcmpW yv (11141 : Int64)))])) t → Steps p.tables e below (s₁.setTop (entryFrame m #[(.long q0), (.int p0), (.int p1)] maxLocals)) t := by
    intro t k
    refine P3 t ?_
    show Steps p.tables e below (s₁.setTop (mkF m 28 #[.val (.long q0), .second, .val (.int p0), .val (.int p1), .val (.long yv), .second, .unset] [])) _
    refine XS.lload X0.here hx rfl (hb hby at_28) rfl ?_
    show Steps p.tables e below (s₁.setTop (mkF m 30 #[.val (.long q0), .second, .val (.int p0), .val (.int p1), .val (.long yv), .second, .unset] [(.long yv)])) _
    refine X0.ldc2Long hx hown (mvT hZ (hw _ (List.mem_of_getElem? (i := 0) rfl))) (g := (mkF m 30 #[.val (.long q0), .second, .val (.int p0), .val (.int p1), .val (.long yv), .second, .unset] [(.long yv)])) rfl (hb hby at_30) _ ?_
    show Steps p.tables e below (s₁.setTop (mkF m 33 #[.val (.long q0), .second, .val (.int p0), .val (.int p1), .val (.long yv), .second, .unset] [(.long (11141 : Int64)), (.long yv)])) _
    refine XS.lcmp X0.here hx rfl (hb hby at_33) rfl ?_
    exact k
  obtain ⟨zv, hm5, P6⟩ : ∃ (zv : Int32), (((lcmpW yv (11141 : Int64)) < (0 : Int32) ∧ zv = (0 : Int32)) ∨ (¬ ((lcmpW yv (11141 : Int64)) < (0 : Int32)) ∧ zv = (1 : Int32))) ∧ ∀ t, Steps p.tables e below (s₁.setTop (mkF m 44 #[.val (.long q0), .second, .val (.int p0), .val (.int p1), .val (.long yv), .second, .val (.int zv)] [])) t → Steps p.tables e below (s₁.setTop (entryFrame m #[(.long q0), (.int p0), (.int p1)] maxLocals)) t := by
    by_cases hd34_0 : (lcmpW yv (11141 : Int64)) < (0 : Int32)
    ·
      refine ⟨(0 : Int32), Or.inl ⟨hd34_0, rfl⟩, fun t k => ?_⟩
      refine P4 t ?_
      show Steps p.tables e below (s₁.setTop (mkF m 34 #[.val (.long q0), .second, .val (.int p0), .val (.int p1), .val (.long yv), .second, .unset] [(.int (lcmpW yv (11141 : Int64)))])) _
      refine XS.ifYes X0.here hx rfl (pc0 := 34) (pc' := 41) rfl (hb hby at_34) rfl ((if0 _ _).trans (tlt hd34_0).1) (by decide) (by decide) ?_
      show Steps p.tables e below (s₁.setTop (mkF m 41 #[.val (.long q0), .second, .val (.int p0), .val (.int p1), .val (.long yv), .second, .unset] [])) _
      refine XS.iconst X0.here hx rfl (hb hby at_41) ?_
      show Steps p.tables e below (s₁.setTop (mkF m 42 #[.val (.long q0), .second, .val (.int p0), .val (.int p1), .val (.long yv), .second, .unset] [(.int (0 : Int32))])) _
      refine XS.istore X0.here hx rfl (hb hby at_42) rfl (l' := #[.val (.long q0), .second, .val (.int p0), .val (.int p1), .val (.long yv), .second, .val (.int (0 : Int32))]) rfl ?_
      exact k
    ·
      refine ⟨(1 : Int32), Or.inr (⟨hd34_0, rfl⟩), fun t k => ?_⟩
      refine P4 t ?_
      show Steps p.tables e below (s₁.setTop (mkF m 34 #[.val (.long q0), .second, .val (.int p0), .val (.int p1), .val (.long yv), .second, .unset] [(.int (lcmpW yv (11141 : Int64)))])) _
      refine XS.ifNo X0.here hx rfl (hb hby at_34) rfl ((if0 _ _).trans (flt hd34_0).1) ?_
      show Steps p.tables e below (s₁.setTop (mkF m 37 #[.val (.long q0), .second, .val (.int p0), .val (.int p1), .val (.long yv), .second, .unset] [])) _
      refine XS.iconst X0.here hx rfl (hb hby at_37) ?_
      show Steps p.tables e below (s₁.setTop (mkF m 38 #[.val (.long q0), .second, .val (.int p0), .val (.int p1), .val (.long yv), .second, .unset] [(.int (1 : Int32))])) _
      refine XS.goto X0.here hx rfl (pc0 := 38) (pc' := 42) rfl (hb hby at_38) (by decide) (by decide) ?_
      show Steps p.tables e below (s₁.setTop (mkF m 42 #[.val (.long q0), .second, .val (.int p0), .val (.int p1), .val (.long yv), .second, .unset] [(.int (1 : Int32))])) _
      refine XS.istore X0.here hx rfl (hb hby at_42) rfl (l' := #[.val (.long q0), .second, .val (.int p0), .val (.int p1), .val (.long yv), .second, .val (.int (1 : Int32))]) rfl ?_
      exact k
  obtain ⟨_, _, ⟨T7, L7, k7, n7⟩, -, X7, ⟨Lc7, hQ7, l7, y7, z7⟩, st7⟩ := Jvm.LawKit.callS X0 hx (y := (⟨"com/example/compensa/compensa/comum/FatorVencimento", "exprime", "(J)Z"⟩ : MethodName)) hown (mvT hZ (hw _ (List.mem_of_getElem? (i := 1) rfl))) (mvT hZ (hw _ (List.mem_of_getElem? (i := 2) rfl))) (mvT hZ (hw _ (List.mem_of_getElem? (i := 3) rfl))) (mvT hZ (hw _ (List.mem_of_getElem? (i := 4) rfl))) (by decide) (backOf (W := 0) (rm1 l Z a0 hw [] yv h0 n0 Z0 HS0) hZ (hw _ (List.mem_of_getElem? (i := 4) rfl)) (hw _ (List.mem_of_getElem? (i := 3) rfl)) (by decide) (by decide)) (g := (mkF m 46 #[.val (.long q0), .second, .val (.int p0), .val (.int p1), .val (.long yv), .second, .val (.int zv)] [(.long yv)])) rfl (by rw [hml]; rfl) (argsL := [(.long yv)]) (rest := []) (lenOf pd_0 rfl) rfl (by show 2 * 0 + _ ≤ _; exact Nat.le_of_eq rfl) (hb hby at_46) (fun _ _ => ⟨rfl, e0, (by decide : 0 + 0 ≤ _), (by decide : 0 + 0 ≤ _)⟩)
  dsimp only [Pt.U, Pt.locs, Pt.cells, Pt.slots] at X7 l7 y7 z7 st7 hQ7
  subst l7 y7 z7
  obtain ⟨r8, rfl, N7q, R9, R10⟩ := hQ7
  have N7 := Fr.app N0 N7q
  have P11 : ∀ t, Steps p.tables e below (T7.setTop (mkF m 51 #[.val (.long q0), .second, .val (.int p0), .val (.int p1), .val (.long yv), .second, .val (.int zv)] [(.int zv), (.int r8)])) t → Steps p.tables e below (s₁.setTop (entryFrame m #[(.long q0), (.int p0), (.int p1)] maxLocals)) t := by
    intro t k
    refine P6 t ?_
    show Steps p.tables e below (s₁.setTop (mkF m 44 #[.val (.long q0), .second, .val (.int p0), .val (.int p1), .val (.long yv), .second, .val (.int zv)] [])) _
    refine XS.lload X0.here hx rfl (hb hby at_44) rfl ?_
    show Steps p.tables e below (s₁.setTop (mkF m 46 #[.val (.long q0), .second, .val (.int p0), .val (.int p1), .val (.long yv), .second, .val (.int zv)] [(.long yv)])) _
    refine st7 _ ?_
    show Steps p.tables e below (T7.setTop (mkF m 49 #[.val (.long q0), .second, .val (.int p0), .val (.int p1), .val (.long yv), .second, .val (.int zv)] [(.int r8)])) _
    refine XS.iload X7.here hx rfl (hb hby at_49) rfl ?_
    exact k
  obtain ⟨bv, hm12, P13⟩ : ∃ (bv : Int32), ((r8 = zv ∧ bv = (1 : Int32)) ∨ (¬ (r8 = zv) ∧ bv = (0 : Int32))) ∧ ∀ t, Steps p.tables e below (T7.setTop (mkF m 59 #[.val (.long q0), .second, .val (.int p0), .val (.int p1), .val (.long yv), .second, .val (.int zv)] [(.int bv)])) t → Steps p.tables e below (s₁.setTop (entryFrame m #[(.long q0), (.int p0), (.int p1)] maxLocals)) t := by
    by_cases hd51_0 : r8 = zv
    ·
      refine ⟨(1 : Int32), Or.inl ⟨hd51_0, rfl⟩, fun t k => ?_⟩
      refine P11 t ?_
      show Steps p.tables e below (T7.setTop (mkF m 51 #[.val (.long q0), .second, .val (.int p0), .val (.int p1), .val (.long yv), .second, .val (.int zv)] [(.int zv), (.int r8)])) _
      refine XS.icmpNo X7.here hx rfl (hb hby at_51) rfl (teq hd51_0).2 ?_
      show Steps p.tables e below (T7.setTop (mkF m 54 #[.val (.long q0), .second, .val (.int p0), .val (.int p1), .val (.long yv), .second, .val (.int zv)] [])) _
      refine XS.iconst X7.here hx rfl (hb hby at_54) ?_
      show Steps p.tables e below (T7.setTop (mkF m 55 #[.val (.long q0), .second, .val (.int p0), .val (.int p1), .val (.long yv), .second, .val (.int zv)] [(.int (1 : Int32))])) _
      refine XS.goto X7.here hx rfl (pc0 := 55) (pc' := 59) rfl (hb hby at_55) (by decide) (by decide) ?_
      exact k
    ·
      refine ⟨(0 : Int32), Or.inr (⟨hd51_0, rfl⟩), fun t k => ?_⟩
      refine P11 t ?_
      show Steps p.tables e below (T7.setTop (mkF m 51 #[.val (.long q0), .second, .val (.int p0), .val (.int p1), .val (.long yv), .second, .val (.int zv)] [(.int zv), (.int r8)])) _
      refine XS.icmpYes X7.here hx rfl (pc0 := 51) (pc' := 58) rfl (hb hby at_51) rfl (feq hd51_0).2 (by decide) (by decide) ?_
      show Steps p.tables e below (T7.setTop (mkF m 58 #[.val (.long q0), .second, .val (.int p0), .val (.int p1), .val (.long yv), .second, .val (.int zv)] [])) _
      refine XS.iconst X7.here hx rfl (hb hby at_58) ?_
      exact k
  have hy : -365000000000 < yv.toInt ∧ yv.toInt < 365000000000 := by
    rcases hm2 with ⟨-, rfl⟩ | ⟨-, rfl⟩
    · exact own_lb q0
    · exact own_ib p0
  have hs := own_sub yv hy.1 hy.2
  have hb : bv = 1 := own_close yv zv r8 bv hm5 R9 hm12 hs
  subst hb
  obtain ⟨fs, hr, hrun, hended, hW, hsame⟩ := X7.leave (v := some (.int (1 : Int32))) (fun h => by rw [Bd.returns] at h; cases h)
  refine ⟨_, _, P13 _ ?_, hrun, hended, _, _, rfl, ?_, ⟨_, rfl⟩, hW, hsame.mono (by decide) (by decide)⟩
  · show Steps p.tables e below (T7.setTop (mkF m 59 #[.val (.long q0), .second, .val (.int p0), .val (.int p1), .val (.long yv), .second, .val (.int zv)] [(.int (1 : Int32))])) _
    exact retN X7 hx (t := .boolean) Bd.returns (by simp) (hb hby at_59) hr
  · show Q0 Z q0 p0 p1 h0 n0 _ T7.heap _
    rw [R10]
    exact ⟨rfl, N7⟩
set_option maxRecDepth 65536 in
set_option maxHeartbeats 40000000 in
theorem comes_1 {Post : Tables → Env → Array Value → State → Outcome → State → Prop} (hpost : ∀ tb e args s v u, (limb_1_1.after args s (.returned v) u = true ∧ limb_1_2.after args s (.returned v) u = true ∧ True) → FrameEnd s (.returned v) u (Jvm.fieldLocs frame_1_writes args s ++ Jvm.arrayLocs frame_1_arrays args s ++ Jvm.staticLocs frame_1_statics s) 0 0 → Post tb e args s (.returned v) u) :
    ArmFor flags0 classFile x code maxLocals ret World_1 tables_1 room_1 Calls_1 rest_1 Pre_1 Post := by
  intro l hfl _ _ p e ha hc hk s m args below hf hA hF happ hP
  obtain ⟨hcalls, hrest, hpre⟩ := hP
  obtain ⟨-, -, -, hnamed, -, -, -, hat⟩ := (Spec.applies_iff hf).mp happ
  obtain ⟨hg, hn⟩ := and_e (Cond.before_iff.mp (show (Jvm.Cond.and given_1 narrow_1).before args s = true from hpre))
  obtain ⟨hcount, hg0⟩ := and_e hg
  obtain ⟨ha0, hg1⟩ := and_e hg0
  obtain ⟨ha1, hg2⟩ := and_e hg1
  obtain ⟨w0, w1, w2, rfl⟩ : ∃ w0 w1 w2 : Value, args = #[w0, w1, w2] := by
    have hs : args.size = 3 := by simpa [Cond.value, given_1] using hcount
    obtain ⟨L⟩ := args
    match L, hs with
    | [w0, w1, w2], _ => exact ⟨w0, w1, w2, rfl⟩
  have hw := fun d (hd : d ∈ tables_1) => atoms_spec (ws := Jvm.Cond.code x code maxLocals ret :: tables_1) hat d (List.mem_cons_of_mem _ hd)
  have hfit : Fit s := fun {y c} hc i hi => by
    obtain ⟨ha, rfl⟩ := Array.getElem?_eq_some_iff.mp hc
    have q := List.all_eq_true.mp ((Array.all_eq_true_iff_forall_mem.mp hF) _ (Array.getElem_mem ha)) i (List.mem_range.mpr hi)
    simpa [Array.getElem?_eq_getElem hi] using q
  obtain ⟨i0, ei0⟩ := isL_v ha0
  obtain rfl : w0 = (.long i0) := Option.some.inj ei0
  obtain ⟨i1, ei1⟩ := is_v ha1
  obtain rfl : w1 = (.int i1) := Option.some.inj ei1
  obtain ⟨i2, ei2⟩ := is_v hg2
  obtain rfl : w2 = (.int i2) := Option.some.inj ei2
  obtain ⟨v0, hv0, hf0⟩ := static_fit hfit (hw _ (List.mem_of_getElem? (i := 6) rfl)) (ty := .long) rfl
  obtain ⟨w0, rfl⟩ := fit_J hf0
  have hq0 : w0 = (10141 : Int64) := by
    have q := (eq_L hv0 (long_at (10141 : Int64))).symm.trans hn
    simpa using q
  subst hq0
  have S0 : Sta s s.heap "com/example/compensa/compensa/comum/FatorVencimento" "DIA_BASE" "J" (.long (10141 : Int64)) := Sta.start hv0 (Or.inr ⟨hw _ (List.mem_of_getElem? (i := 3) rfl), hw _ (List.mem_of_getElem? (i := 6) rfl)⟩)
  obtain ⟨n, o, h1, h2, h3, _, L, rfl, ⟨rfl, N⟩, hq⟩ := rm0 l s _ hw tables_1 i0 i1 i2 s.heap s.heap.size (Nat.le_refl _) S0 p e ha hc hk s m _ below hf ((Spec.applies_iff_loose hf).mp happ).1 ⟨rfl, State.Warmed39.refl s, rfl⟩ trivial
  exact ⟨n, _, h1, h2, h3, hpost _ _ _ _ _ _ ⟨Cond.after_iff.mpr rfl, Cond.after_iff.mpr (eq_i res_at (Term.int_eval (1)) rfl), trivial⟩ ⟨hq.1, hq.2.1, (hq.2.2.sift fun y hy => Or.inr (N y hy)).mono (by decide) (by decide)⟩⟩
theorem main_1_1 : Claimed_1_1 := comes_1 fun _ _ _ _ _ _ h hF => ⟨h.1, hF⟩
theorem main_1_2 : Claimed_1_2 := comes_1 fun _ _ _ _ _ _ h hF => ⟨h.2.1, hF⟩
end Jvm.Pilot.@@N@@
namespace Jvm.Pilot.@@N@@
open Jvm Jvm.ClassFile Sem Op Lib Jvm.Free Jvm.Stand Jvm.Pilot.@@N@@.Jvm.D
/-! MADE BY PROGRAM (witnessworld.py) out of the Statement's table words and the real class files: 9 classes; the members and pool entries that the words name. The judged class is class 1, her method 1. -/
namespace start1
open Jvm.ClassFile
def u (s : String) : CpInfo := .utf8 (stringToUtf16 s)
/-- a pool by its gaps: so many unusable entries, then the entry; so many at the end -/
def gap : Nat → List CpInfo → List CpInfo
  | 0, r => r
  | n + 1, r => .unusable :: gap n r
def poolList (es : List (Nat × CpInfo)) (last : Nat) : List CpInfo := es.foldr (fun e r => gap e.1 (e.2 :: r)) (gap last [])
def pool (es : List (Nat × CpInfo)) (last : Nat) : Array CpInfo := ⟨poolList es last⟩
def fileOf (pool : Array CpInfo) (this : Nat) (attrs : Array Attribute := #[]) (ms : Array MethodInfo := #[]) (fl : Nat := 33) (sup : Nat := 0) (ifs : Array Nat := #[]) (fds : Array FieldInfo := #[]) : ClassFile where
  minorVersion := 0
  majorVersion := 65
  constantPool := pool
  accessFlags := fl
  thisClass := this
  superClass := sup
  interfaces := ifs
  fields := fds
  methods := ms
  attributes := attrs
def plain (name : String) (sup : Option ClassId) : Class where
  name := name
  kind := .ordinary
  loader := none
  accessFlags := 33
  super := sup
  interfaces := #[]
  cf := none
  fields := #[]
  methods := #[]
  instanceTypes := #[]
  staticTypes := #[]
  resolved := #[]
  callSites := []
  init := .initialized
  statics := none
  mirror := none

def pool0 : Array CpInfo := pool [(5, u "<init>"), (0, u "()V"), (1, .class_ 10), (1, u "java/lang/Object")] 113

def k0m0 : Method := { name := "<init>", desc := "()V", sig := { parameters := [], returnType := none }, accessFlags := 1, code := none }
/-- java/lang/Object -/
def k0 : Class := { plain "java/lang/Object" none with
  accessFlags := 33
  interfaces := #[]
  cf := some (fileOf pool0 8 #[] #[{ accessFlags := 1, nameIndex := 5, descriptorIndex := 6, attributes := #[] }] 33 0 #[] #[])
  fields := #[]
  methods := #[k0m0]
  instanceTypes := #[]
  staticTypes := #[]
  resolved := Array.replicate 124 none
  statics := none }

def pool1 : Array CpInfo := pool [(2, .class_ 4), (1, u "java/lang/Object"), (0, u "<init>"), (0, u "()V"), (0, .long 11141), (1, .long 365000000000), (1, .methodref 12 13), (0, .class_ 14), (0, .nameAndType 15 16), (0, u "com/example/compensa/compensa/comum/FatorVencimento"), (0, u "exprime"), (0, u "(J)Z"), (0, .class_ 18), (0, u "com/example/compensa/compensa/comum/FatorVencimentoExprimePinLaw"), (2, u "law"), (0, u "(JII)Z")] 3

def k1m0 : Method := { name := "<init>", desc := "()V", sig := { parameters := [], returnType := none }, accessFlags := 2, code := none }
def k1c1 : Code := { maxStack := 4, maxLocals := 7, code := code, exceptionTable := #[], attributes := #[] }
def k1m1 : Method := { name := "law", desc := "(JII)Z", sig := { parameters := [.long, .int, .int], returnType := some .boolean }, accessFlags := 9, code := some k1c1 }
/-- com/example/compensa/compensa/comum/FatorVencimentoExprimePinLaw -/
def k1 : Class := { plain "com/example/compensa/compensa/comum/FatorVencimentoExprimePinLaw" (some 0) with
  accessFlags := 49
  interfaces := #[]
  cf := some (fileOf pool1 17 #[] #[{ accessFlags := 2, nameIndex := 5, descriptorIndex := 6, attributes := #[] }, { accessFlags := 9, nameIndex := 21, descriptorIndex := 22, attributes := #[] }] 49 2 #[] #[])
  fields := #[]
  methods := #[k1m0, k1m1]
  instanceTypes := #[]
  staticTypes := #[]
  resolved := Array.replicate 26 none
  statics := none }

def pool2 : Array CpInfo := pool [(2, .class_ 4), (1, u "java/lang/Object"), (0, u "<init>"), (0, u "()V"), (7, .class_ 16), (1, u "com/example/compensa/compensa/comum/FatorVencimento"), (0, u "BASE"), (0, u "Ljava/time/LocalDate;"), (35, u "exprime"), (0, u "(J)Z"), (4, u "ANTES_DO_PRIMEIRO"), (0, u "Ljava/lang/String;"), (3, .long 1000), (1, .fieldref 14 68), (0, .nameAndType 69 70), (0, u "DIA_BASE"), (0, u "J"), (17, u "CICLO"), (1, u "PRIMEIRO"), (0, u "I")] 29

def k2m0 : Method := { name := "<init>", desc := "()V", sig := { parameters := [], returnType := none }, accessFlags := 2, code := none }
def k2c1 : Code := { maxStack := 4, maxLocals := 2, code := prog_62_method_4_code, exceptionTable := #[], attributes := #[] }
def k2m1 : Method := { name := "exprime", desc := "(J)Z", sig := { parameters := [.long], returnType := some .boolean }, accessFlags := 9, code := some k2c1 }
/-- com/example/compensa/compensa/comum/FatorVencimento -/
def k2 : Class := { plain "com/example/compensa/compensa/comum/FatorVencimento" (some 0) with
  accessFlags := 49
  interfaces := #[]
  cf := some (fileOf pool2 14 #[] #[{ accessFlags := 2, nameIndex := 5, descriptorIndex := 6, attributes := #[] }, { accessFlags := 9, nameIndex := 54, descriptorIndex := 55, attributes := #[] }] 49 2 #[] #[{ accessFlags := 26, nameIndex := 17, descriptorIndex := 18, attributes := #[] }, { accessFlags := 26, nameIndex := 69, descriptorIndex := 70, attributes := #[] }, { accessFlags := 26, nameIndex := 88, descriptorIndex := 70, attributes := #[] }, { accessFlags := 26, nameIndex := 90, descriptorIndex := 91, attributes := #[] }, { accessFlags := 25, nameIndex := 60, descriptorIndex := 61, attributes := #[] }])
  fields := #[{ name := "BASE", type := (.object "java/time/LocalDate"), accessFlags := 26, slot := 0, constantValue := 0 }, { name := "DIA_BASE", type := .long, accessFlags := 26, slot := 1, constantValue := 0 }, { name := "CICLO", type := .long, accessFlags := 26, slot := 2, constantValue := 0 }, { name := "PRIMEIRO", type := .int, accessFlags := 26, slot := 3, constantValue := 0 }, { name := "ANTES_DO_PRIMEIRO", type := (.object "java/lang/String"), accessFlags := 25, slot := 4, constantValue := 0 }]
  methods := #[k2m0, k2m1]
  instanceTypes := #[]
  staticTypes := #[(.object "java/time/LocalDate"), .long, .long, .int, (.object "java/lang/String")]
  resolved := Array.replicate 121 none
  statics := some 0 }

def pool3 : Array CpInfo := pool [(1, u "java/lang/Cloneable"), (0, .class_ 1), (0, u "java/lang/Object"), (0, .class_ 3)] 3

/-- java/lang/Cloneable -/
def k3 : Class := { plain "java/lang/Cloneable" (some 0) with
  accessFlags := 1537
  interfaces := #[]
  cf := some (fileOf pool3 2 #[] #[] 1537 4 #[] #[])
  fields := #[]
  methods := #[]
  instanceTypes := #[]
  staticTypes := #[]
  resolved := Array.replicate 8 none
  statics := none }

def pool4 : Array CpInfo := pool [(1, u "java/io/Serializable"), (0, .class_ 1), (0, u "java/lang/Object"), (0, .class_ 3)] 3

/-- java/io/Serializable -/
def k4 : Class := { plain "java/io/Serializable" (some 0) with
  accessFlags := 1537
  interfaces := #[]
  cf := some (fileOf pool4 2 #[] #[] 1537 4 #[] #[])
  fields := #[]
  methods := #[]
  instanceTypes := #[]
  staticTypes := #[]
  resolved := Array.replicate 8 none
  statics := none }

/-- the primitive byte -/
def k5 : Class := { plain "byte" none with kind := .primitive 'B', accessFlags := 0x411 }
/-- [B -/
def k6 : Class := { plain "[B" (some 0) with kind := .array 5 .byte, interfaces := #[3, 4], accessFlags := 1041 }

/-- the primitive int -/
def k7 : Class := { plain "int" none with kind := .primitive 'I', accessFlags := 0x411 }
/-- [I -/
def k8 : Class := { plain "[I" (some 0) with kind := .array 7 .int, interfaces := #[3, 4], accessFlags := 1041 }

def heap : Heap := #[{ cls := 2, slots := #[.null, .long 10141, .long 0, .int 0, .null], vm := .statics 2 }]
def classes : Array Class := #[k0, k1, k2, k3, k4, k5, k6, k7, k8]
def interned : List (Array UInt16 × Addr) := []
def slotsUsed : Nat := 5
def theMethod : MethodId := ⟨1, 1⟩
def args0 : Array Value := #[.long 5, .int 5, .int 1]
def aboutOver (below : List Frame) : State where
  vm := { classes := classes, interned := interned.toArray }
  heap := heap
  slotsUsed := slotsUsed
  threads := #[{ frames := .invoking theMethod args0 :: below }]
def below0 : List Frame := [.native { method := ⟨0, 0⟩, args := #[] }]
def about1 : State := aboutOver below0
def p0 : Program := .bare "" "" ""
def e0 : Env := launch0.env 0 0 0
theorem w_frames : about1.frames = Frame.invoking theMethod args0 :: below0 := rfl
set_option maxRecDepth 65536 in
theorem w_args : argsFit about1.vm theMethod args0 = true := by decide +kernel
set_option maxRecDepth 65536 in
theorem w_heap : heapFits about1 = true := by decide +kernel
set_option maxRecDepth 65536 in
theorem w_runnable : about1.curStatus? = some .runnable := by decide +kernel
set_option maxRecDepth 65536 in
theorem w_alone : about1.alone = true := by decide +kernel
set_option maxRecDepth 65536 in
theorem w_named : about1.methodNamed? x = some theMethod := by decide +kernel
set_option maxRecDepth 65536 in
theorem w_hears : about1.hears theMethod below0 = true := by decide +kernel
set_option maxRecDepth 65536 in
theorem w_ripe : about1.ripe theMethod args0 below0 = true := by decide +kernel
theorem w_running : about1.status = .running := rfl
set_option maxRecDepth 65536 in
theorem w_room : about1.hasRoom e0.platform room_1 = true :=
  launch0.hasRoom_least _ room_1 (by decide +kernel) (by decide +kernel) (by decide +kernel) (by decide +kernel) (by decide +kernel) (by decide +kernel)
theorem allAtoms_all (ts : List Jvm.Cond) (a : Array Jvm.Value) (st : Jvm.State) : (allAtoms ts).before a st = ts.all (fun c => c.before a st) := by
  induction ts with
  | nil => rfl
  | cons c t ih =>
    show (Jvm.Cond.and c (allAtoms t)).before a st = _
    rw [Jvm.Cond.before_and, ih, List.all_cons]
def words1 : List Jvm.Cond := Jvm.Cond.code x code maxLocals ret :: tables_1
/-- a 'code' word, met by the world's own term for the bytes: nothing is compared byte by byte -/
theorem code_word {y : MethodName} {bytes : ByteArray} {mx : Nat} {rt : Option FieldType} {a : Array Value} {s : State} {m : MethodId} {meth : Method} {c : Code} (h1 : s.methodNamed? y = some m) (h2 : s.vm.method? m = some meth) (h3 : meth.code = some c) (h4 : c.code = bytes)
    (h5 : (c.maxLocals == mx && c.exceptionTable.isEmpty && decide (c.maxStack ≤ mostOperands) && decide (meth.sig.returnType = rt) && !meth.locks && decide (parseMethodDescriptor y.desc = some meth.sig)) = true) : (Jvm.Cond.code y bytes mx rt).before a s = true := by
  simp only [Bool.and_eq_true, beq_iff_eq, Bool.not_eq_true', decide_eq_true_eq] at h5
  obtain ⟨⟨⟨⟨⟨g1, g2⟩, g3⟩, g4⟩, g5⟩, g6⟩ := h5
  simp [Cond.before, Cond.holds, Cond.value, h1, h2, h3, h4, g1, g2, g3, g4, g5, g6]
def isCode : Jvm.Cond → Bool
  | .code _ _ _ _ => true
  | _ => false
theorem all_split {L : List Jvm.Cond} {P : Jvm.Cond → Bool} (h1 : L.all (fun c => isCode c || P c) = true) (h2 : ∀ c ∈ L.filter isCode, P c = true) : L.all P = true := by
  refine List.all_eq_true.mpr fun c hc => ?_
  have h := List.all_eq_true.mp h1 c hc
  rcases Bool.eq_false_or_eq_true (isCode c) with hi | hi
  · exact h2 c (List.mem_filter.mpr ⟨hc, hi⟩)
  · simpa [hi] using h
set_option maxRecDepth 65536 in
theorem w_c0 : (Jvm.Cond.code x code maxLocals ret).before args0 about1 = true := code_word (m := ⟨1, 1⟩) (meth := k1m1) (c := k1c1) (by decide +kernel) rfl rfl rfl (by decide +kernel)
set_option maxRecDepth 65536 in
theorem w_c1 : (Jvm.Cond.code ({ cls := "com/example/compensa/compensa/comum/FatorVencimento", name := "exprime", desc := "(J)Z" } : Jvm.MethodName) prog_62_method_4_code (2 : Nat) (Option.some Jvm.ClassFile.FieldType.boolean)).before args0 about1 = true := code_word (m := ⟨2, 1⟩) (meth := k2m1) (c := k2c1) (by decide +kernel) rfl rfl rfl (by decide +kernel)
def codes1 : List Jvm.Cond := [Jvm.Cond.code x code maxLocals ret, Jvm.Cond.code ({ cls := "com/example/compensa/compensa/comum/FatorVencimento", name := "exprime", desc := "(J)Z" } : Jvm.MethodName) prog_62_method_4_code (2 : Nat) (Option.some Jvm.ClassFile.FieldType.boolean)]
set_option maxRecDepth 65536 in
theorem codes_eq : words1.filter isCode = codes1 := rfl
theorem w_codes : ∀ c ∈ words1.filter isCode, c.before args0 about1 = true := by
  rw [codes_eq]
  intro c hc
  simp only [codes1, List.mem_cons, List.not_mem_nil, or_false] at hc
  rcases hc with rfl | rfl
  · exact w_c0
  · exact w_c1
set_option maxRecDepth 65536 in
theorem w_t1 : words1.all (fun c => isCode c || c.before args0 about1) = true := by decide +kernel
theorem w_tables : (allAtoms (Jvm.Cond.code x code maxLocals ret :: tables_1)).before args0 about1 = true := by
  rw [allAtoms_all]
  show words1.all (fun c => c.before args0 about1) = true
  refine all_split ?_ w_codes
  rw [w_t1]
set_option maxRecDepth 65536 in
theorem w_case : (Jvm.Cond.and given_1 narrow_1).before args0 about1 = true := by decide +kernel
theorem w_applies : (headSpec (Jvm.Cond.code x code maxLocals ret :: tables_1) room_1).applies x e0.platform about1 = true :=
  (Spec.applies_iff w_frames).mpr ⟨w_running, w_runnable, w_alone, w_named, w_hears, w_ripe, w_room, w_tables⟩
theorem atStart : AtStart classFile x code maxLocals ret World_1 tables_1 room_1 Calls_1 rest_1 Pre_1 launch0 p0 e0 about1 theMethod args0 below0 :=
  ⟨lists_1, trivial, launch0.admits_env _ _ _, launch0.least_env, fairChoices_fair.cas, fairChoices_fair.clock, w_frames, w_args, w_heap, w_applies, trivial, trivial, w_case⟩
end start1
theorem witness_1 : WitnessClaimed_1 := ⟨start1.p0, start1.e0, start1.about1, start1.theMethod, start1.args0, start1.below0, start1.atStart⟩
end Jvm.Pilot.@@N@@
