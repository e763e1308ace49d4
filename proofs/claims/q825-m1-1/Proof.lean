import JvmDerived
import JvmDerived.Pilot.@@N@@Statement
import JvmDerived.Pilot.@@N@@Code
set_option linter.unusedVariables false
set_option linter.unusedSimpArgs false
namespace Jvm.RoadKit
open Sem ClassFile Op Lib Jvm.Stand Jvm.Free Jvm.LawKit
section New
variable {p : Program} {l : Launch} {e : Env} {R : Room} {s : State} {m : MethodId} {args : Array Value} {below : List Frame} {meth : Method} {c : Code} {T : State} {locs : List Loc} {cells slots : Nat}
theorem retI (X : Stand p l e R s m args below meth c T locs cells slots) (hx : p.tables.exec = Jvm.exec) {pc : Nat} {Ls : Array Slot} {z : Int32} {rest : List Value} (hret : meth.sig.returnType = some .int) (hd : decode c.code pc = .ok (.ireturn, 1)) {fs : List Frame}
    (hl : ∀ (f : JFrame) (acts : List Action), f.method = m → f.locked = none → f.entered = [] → (doReturn e (T.setTop f) acts (some (.int z))).1 = T.setFrames fs) : Steps p.tables e below (T.setTop (mkF m pc Ls (.int z :: rest))) (T.setFrames fs) := by
  have hm' : T.vm.method? m = some meth := X.method'
  have hn : narrow .int (.int z) = .int z := rfl
  show Steps p.tables e below (T.setTop { method := m, pc := pc, locals := Ls, stack := _ :: rest, locked := none }) _
  jvm_step X.here [X.here.top, hx, hd, hm', hret, hn]
  first | (intro acts; rw [hl _ acts rfl rfl rfl]) | rw [hl _ _ rfl rfl rfl]
  exact Steps.refl _
end New
end Jvm.RoadKit
namespace Jvm.Pilot.@@N@@
open Jvm Jvm.ClassFile Sem Op Lib Jvm.Free Jvm.Stand Jvm.LawKit Jvm.RoadKit Bundle Jvm.Pilot.@@N@@.Jvm.D
theorem own_addz (a : Int64) (ha : B53 a) : FP.dadd (FP.l2d a) 9223372036854775808 = FP.l2d a := by
  have h0 : B53 0 := ⟨by decide, by decide⟩
  have e : FP.dadd (FP.l2d a) (FP.l2d 0) = FP.l2d a := by rw [dadd_w ha h0]; congr 1; exact Int64.add_zero a
  by_cases hz : a = 0
  · subst hz; decide +kernel
  · have e' := e
    rw [l2d_zero] at e'
    have c := dcmp_ws ha h0
    rw [l2d_zero] at c
    have hd1 : FP.Core.decode FP.Core.b64 (9223372036854775808 : UInt64).toNat = .fin true 0 FP.Core.b64.qmin := by decide +kernel
    have hd0 : FP.Core.decode FP.Core.b64 (0 : UInt64).toNat = .fin false 0 FP.Core.b64.qmin := by decide +kernel
    have key : FP.Core.exactSum (FP.Core.decode FP.Core.b64 (FP.l2d a).toNat) (.fin true 0 FP.Core.b64.qmin) = FP.Core.exactSum (FP.Core.decode FP.Core.b64 (FP.l2d a).toNat) (.fin false 0 FP.Core.b64.qmin) := by
      have c2 : FP.Core.order (FP.Core.decode FP.Core.b64 (FP.l2d a).toNat) (FP.Core.decode FP.Core.b64 (0 : UInt64).toNat) = some (if a.toInt < (0 : Int64).toInt then .lt else if a.toInt = (0 : Int64).toInt then .eq else .gt) := c
      rw [hd0] at c2
      cases hq : FP.Core.decode FP.Core.b64 (FP.l2d a).toNat with
      | nan => rfl
      | inf s => rfl
      | fin s k q =>
        rw [hq] at c2
        have hs : FP.Core.sumUnits s k q true 0 FP.Core.b64.qmin (min q FP.Core.b64.qmin) = FP.Core.sumUnits s k q false 0 FP.Core.b64.qmin (min q FP.Core.b64.qmin) := by
          simp [FP.Core.sumUnits, FP.Core.inUnits, FP.Core.signed]
        have hne : FP.Core.sumUnits s k q false 0 FP.Core.b64.qmin (min q FP.Core.b64.qmin) ≠ 0 := by
          intro hv
          have e1 : FP.Core.signed s (FP.Core.inUnits k q (min q FP.Core.b64.qmin)) = 0 := by simpa [FP.Core.sumUnits, FP.Core.inUnits, FP.Core.signed] using hv
          have e2 : FP.Core.signed false (FP.Core.inUnits 0 FP.Core.b64.qmin (min q FP.Core.b64.qmin)) = 0 := by simp [FP.Core.inUnits, FP.Core.signed]
          simp only [FP.Core.order, e1, e2] at c2
          have e3 : (0 : Int64).toInt = 0 := rfl
          have hz2 : ¬ a.toInt = 0 := fun z => hz (Int64.toInt_inj.mp z)
          rw [e3, if_neg hz2] at c2
          have e4 : compare (0 : Int) 0 = .eq := by decide
          rw [e4] at c2
          by_cases hl : a.toInt < 0
          · rw [if_pos hl] at c2; cases c2
          · rw [if_neg hl] at c2; cases c2
        simp only [FP.Core.exactSum, hs, FP.Core.sumSign, if_neg hne]
    refine Eq.trans ?_ e'
    show UInt64.ofNat (FP.Core.encode FP.Core.b64 (FP.Core.round FP.Core.b64 (FP.Core.exactSum (FP.Core.decode FP.Core.b64 (FP.l2d a).toNat) (FP.Core.decode FP.Core.b64 (9223372036854775808 : UInt64).toNat)))) = UInt64.ofNat (FP.Core.encode FP.Core.b64 (FP.Core.round FP.Core.b64 (FP.Core.exactSum (FP.Core.decode FP.Core.b64 (FP.l2d a).toNat) (FP.Core.decode FP.Core.b64 (0 : UInt64).toNat))))
    rw [hd1, key, hd0]
def own_sm (K : Int) (a : Int64) : Prop := -K ≤ a.toInt ∧ a.toInt ≤ K
theorem own_b53 {K : Int} {a : Int64} (h : own_sm K a) (hK : K < 9007199254740992) : B53 a := by obtain ⟨h1, h2⟩ := h; exact ⟨by omega, by omega⟩
theorem own_mulb {a b : Int64} (ha : own_sm 32768 a) (hb : own_sm 32768 b) : -1073741824 ≤ a.toInt * b.toInt ∧ a.toInt * b.toInt ≤ 1073741824 := by
  obtain ⟨a1, a2⟩ := ha
  obtain ⟨b1, b2⟩ := hb
  have hm : (a.toInt * b.toInt).natAbs ≤ 32768 * 32768 := by rw [Int.natAbs_mul]; exact Nat.mul_le_mul (by omega) (by omega)
  omega
theorem own_muli {a b : Int64} (ha : own_sm 32768 a) (hb : own_sm 32768 b) : own_sm 1073741824 (a * b) := by
  have q := own_mulb ha hb
  have e : (a * b).toInt = a.toInt * b.toInt := by rw [Int64.toInt_mul]; apply Int.bmod_eq_of_le <;> omega
  unfold own_sm
  rw [e]
  exact ⟨by omega, by omega⟩
theorem own_addi {K : Int} {s t : Int64} (hs : own_sm K s) (ht : own_sm 1073741824 t) (hK : K < 9007199254740992) : own_sm (K + 1073741824) (s + t) := by
  obtain ⟨s1, s2⟩ := hs
  obtain ⟨t1, t2⟩ := ht
  have e : (s + t).toInt = s.toInt + t.toInt := by rw [Int64.toInt_add]; apply Int.bmod_eq_of_le <;> omega
  unfold own_sm
  rw [e]
  exact ⟨by omega, by omega⟩
theorem own_mulcase {a b : Int64} (ha : own_sm 32768 a) (hb : own_sm 32768 b) : FP.dmul (FP.l2d a) (FP.l2d b) = FP.l2d (a * b) ∨ (FP.dmul (FP.l2d a) (FP.l2d b) = 9223372036854775808 ∧ a * b = 0) := by
  have h1 := own_b53 ha (by decide)
  have h2 := own_b53 hb (by decide)
  have q := own_mulb ha hb
  by_cases h : a = 0 ∨ b = 0
  · have hz : a * b = 0 := by rcases h with rfl | rfl <;> simp
    rw [dmul_z h1 h2 h, hz]
    split
    · exact Or.inr ⟨rfl, rfl⟩
    · exact Or.inl rfl
  · exact Or.inl (dmul_w h1 h2 (fun z => h (Or.inl z)) (fun z => h (Or.inr z)) (by omega) (by omega))
theorem own_mulnn {a b : Int64} (ha : own_sm 32768 a) (hb : own_sm 32768 b) : Jvm.Free.Fl.NoNaN64 (FP.dmul (FP.l2d a) (FP.l2d b)) := by
  rcases own_mulcase ha hb with h | ⟨h, -⟩
  · exact nn_w h
  · rw [h]; decide +kernel
theorem own_fma {K : Int} {s a b : Int64} (hs : own_sm K s) (ha : own_sm 32768 a) (hb : own_sm 32768 b) (hK : K < 9007199254740992) : FP.dadd (FP.l2d s) (FP.dmul (FP.l2d a) (FP.l2d b)) = FP.l2d (s + a * b) := by
  rcases own_mulcase ha hb with h | ⟨h, hz⟩
  · rw [h]; exact dadd_w (own_b53 hs hK) (own_b53 (own_muli ha hb) (by decide))
  · rw [h, hz, own_addz s (own_b53 hs hK)]; congr 1; exact (Int64.add_zero s).symm
theorem own_short (y : Int32) : own_sm 32768 (y.toInt16.toInt32.toInt64) := by
  have q := c_i2s y
  unfold own_sm
  rw [c_i2l]
  exact ⟨by omega, by omega⟩
theorem own_sm0 : own_sm 0 (0 : Int64) := ⟨by decide, by decide⟩
theorem own_n5 (z : Int32) : ((z &&& (7 : Int32)) % (5 : Int32)) = 0 ∨ ((z &&& (7 : Int32)) % (5 : Int32)) = 1 ∨ ((z &&& (7 : Int32)) % (5 : Int32)) = 2 ∨ ((z &&& (7 : Int32)) % (5 : Int32)) = 3 ∨ ((z &&& (7 : Int32)) % (5 : Int32)) = 4 := by
  have m := c_mask z 7 3 (by decide) (by decide)
  have q := (c_irem (z &&& (7 : Int32)) 5 5 rfl).1 (by omega)
  generalize (z &&& (7 : Int32)) % (5 : Int32) = y at *
  have hk : y.toInt = 0 ∨ y.toInt = 1 ∨ y.toInt = 2 ∨ y.toInt = 3 ∨ y.toInt = 4 := by omega
  rcases hk with h | h | h | h | h
  · exact Or.inl (Int32.toInt_inj.mp h)
  · exact Or.inr (Or.inl (Int32.toInt_inj.mp h))
  · exact Or.inr (Or.inr (Or.inl (Int32.toInt_inj.mp h)))
  · exact Or.inr (Or.inr (Or.inr (Or.inl (Int32.toInt_inj.mp h))))
  · exact Or.inr (Or.inr (Or.inr (Or.inr (Int32.toInt_inj.mp h))))
theorem pn_0 : plainName "com/example/prudent_feedback/prudentfeedback/coefficient/LogisticFitDotPinLaw" = true := by first | (simp [plainName, overriddenIn]; done) | decide +kernel
theorem d1_0 : decode method_3_code 0 = .ok (.iload_n 0, 1) := by decide +kernel
theorem d1_1 : decode method_3_code 1 = .ok (.ifCond .ne 7, 3) := by decide +kernel
theorem d1_4 : decode method_3_code 4 = .ok (.iconst 0, 1) := by decide +kernel
theorem d1_5 : decode method_3_code 5 = .ok (.newarray .double, 2) := by decide +kernel
theorem d1_7 : decode method_3_code 7 = .ok (.areturn, 1) := by decide +kernel
theorem ef_1_0 (m : MethodId) (p1 : Int32) (p2 : Int32) (p3 : Int32) (p4 : Int32) : entryFrame m #[(.int (0 : Int32)), (.int p1), (.int p2), (.int p3), (.int p4)] 5 = mkF m 0 #[.val (.int (0 : Int32)), .val (.int p1), .val (.int p2), .val (.int p3), .val (.int p4)] [] := by first | (simp [entryFrame, mkF, argsToLocals, Value.category]; done) | rfl
def Q1_0 (Z : State) (p1 : Int32) (p2 : Int32) (p3 : Int32) (p4 : Int32) (h0 : Heap) (n0 : Nat) (v : Option Value) (h : Heap) (L : List Loc) : Prop := ∃ (b : Addr) (kk : ClassId), v = some (.ref b) ∧ Fr n0 L ∧ Keep h0 h [] ∧ Arv Z h b kk .double (0 : Int32) [] (.double (FP.l2d 0))
set_option maxRecDepth 65536 in
set_option maxHeartbeats 40000000 in
theorem rm1_0 (l : Launch) (Z : State) (a0 : Array Value) (hw : ∀ d ∈ tables_1, d.before a0 Z = true) (ws : List Jvm.Cond) (p1 : Int32) (p2 : Int32) (p3 : Int32) (p4 : Int32) (h0 : Heap) (n0 : Nat) (Z0 : n0 ≤ h0.size)  :
    MetFree l (⟨"com/example/prudent_feedback/prudentfeedback/coefficient/LogisticFitDotPinLaw", "take", "(IIIII)[D"⟩ : MethodName) (head1 (Jvm.Cond.code (⟨"com/example/prudent_feedback/prudentfeedback/coefficient/LogisticFitDotPinLaw", "take", "(IIIII)[D"⟩ : MethodName) method_3_code 5 (some (.array .double)) :: ws) ({ frames := 0, cells := 1, slots := 0, locals := 0 } : Room)) (fun a U => a = #[(.int (0 : Int32)), (.int p1), (.int p2), (.int p3), (.int p4)] ∧ Z.Warmed39 U.vm ∧ U.heap = h0) (fun _ _ _ _ _ => True) (fun _ U o U' => ∃ v L, o = .returned v ∧ Q1_0 Z p1 p2 p3 p4 h0 n0 v U'.heap L ∧ FrameEnd U o U' L ({ frames := 0, cells := 1, slots := 0, locals := 0 } : Room).cells ({ frames := 0, cells := 1, slots := 0, locals := 0 } : Room).slots) := by
  refine MetFree.of_bodySF (plainFor_of_name pn_0) hisR ?_
  intro p e s m args below meth c s₁ Bd hml0 hP hK
  obtain ⟨rfl, hZ, hh⟩ := hP
  have hx := Bd.exec
  have hby := Bd.bytes
  have hml : c.maxLocals = 5 := hml0
  have hown : s.vm.findClass "com/example/prudent_feedback/prudentfeedback/coefficient/LogisticFitDotPinLaw" = some m.cls := findClass_of_methodNamed Bd.named
  have hnm := (name_of_methodNamed Bd.named Bd.method).1
  have X0 : Stand p l e ({ frames := 0, cells := 1, slots := 0, locals := 0 } : Room) s m #[(.int (0 : Int32)), (.int p1), (.int p2), (.int p3), (.int p4)] below meth c s₁ [] 0 0 := Stand.of_body Bd
  have e0 : s₁.heap = h0 := by rw [← hh, Bd.state]; rfl
  have N0 := Fr.nil n0
  have pre0 : ∀ t, Steps p.tables e below (s₁.setTop (mkF m 0 #[.val (.int (0 : Int32)), .val (.int p1), .val (.int p2), .val (.int p3), .val (.int p4)] [])) t → Steps p.tables e below (s₁.setTop (entryFrame m #[(.int (0 : Int32)), (.int p1), (.int p2), (.int p3), (.int p4)] 5)) t := fun t k => castTop (ef_1_0 m p1 p2 p3 p4) k
  obtain ⟨T1, h1, k1, X1, e1, E1, A1, st1⟩ := newP X0 hx hZ (hw _ (List.mem_of_getElem? (i := 4) rfl)) e0 (g := (mkF m 5 #[.val (.int (0 : Int32)), .val (.int p1), .val (.int p2), .val (.int p3), .val (.int p4)] [(.int (0 : Int32))])) rfl (hb hby d1_5) rfl (by decide) (cap := 0) (by decide) (by decide) (by decide) (by decide)
  obtain ⟨b1, g1⟩ : ∃ z, z = h0.size := ⟨_, rfl⟩
  rw [← g1] at A1 st1
  have g_b1 : n0 ≤ b1 := Nat.le_trans Z0 (Nat.le_of_eq g1.symm)
  have sz_b1 : h0.size ≤ b1 := Nat.le_trans (Keep.refl h0 []).1 (Nat.le_of_eq g1.symm)
  have Z2 : n0 ≤ h1.size := Nat.le_trans Z0 E1.1
  have K3 : Keep h0 h1 [] := (Keep.refl h0 []).ext E1
  have V1 : Arv Z h1 b1 k1 .double (0 : Int32) [] (.double (FP.l2d 0)) := Arv.newD A1 (by decide)
  obtain ⟨fs, hr, hrun, hended, hW, hsame⟩ := X1.leave (v := some (.ref b1)) (fun h => by rw [Bd.returns] at h; cases h)
  refine ⟨_, _, pre0 _ ?_, hrun, hended, _, _, rfl, ?_, ⟨_, rfl⟩, hW, hsame.mono (by decide) (by decide)⟩
  · show Steps p.tables e below (s₁.setTop (mkF m 0 #[.val (.int (0 : Int32)), .val (.int p1), .val (.int p2), .val (.int p3), .val (.int p4)] [])) _
    refine XS.iloadN X0.here hx rfl (hb hby d1_0) rfl ?_
    show Steps p.tables e below (s₁.setTop (mkF m 1 #[.val (.int (0 : Int32)), .val (.int p1), .val (.int p2), .val (.int p3), .val (.int p4)] [(.int (0 : Int32))])) _
    refine XS.ifNo X0.here hx rfl (hb hby d1_1) rfl ((if0 _ _).trans (teq (by decide : (0 : Int32) = (0 : Int32))).2) ?_
    show Steps p.tables e below (s₁.setTop (mkF m 4 #[.val (.int (0 : Int32)), .val (.int p1), .val (.int p2), .val (.int p3), .val (.int p4)] [])) _
    refine XS.iconst X0.here hx rfl (hb hby d1_4) ?_
    show Steps p.tables e below (s₁.setTop (mkF m 5 #[.val (.int (0 : Int32)), .val (.int p1), .val (.int p2), .val (.int p3), .val (.int p4)] [(.int (0 : Int32))])) _
    refine st1 _ ?_
    show Steps p.tables e below (T1.setTop (mkF m 7 #[.val (.int (0 : Int32)), .val (.int p1), .val (.int p2), .val (.int p3), .val (.int p4)] [(.ref b1)])) _
    exact retOut X1 hx Bd.returns rfl (Or.inr (Or.inr (Or.inr (Or.inr ⟨rfl, rfl, rfl⟩)))) (hb hby d1_7) hr
  · show Q1_0 Z p1 p2 p3 p4 h0 n0 _ T1.heap _
    rw [e1]
    exact ⟨b1, k1, rfl, N0, K3, V1⟩
theorem d1_8 : decode method_3_code 8 = .ok (.iload_n 0, 1) := by decide +kernel
theorem d1_9 : decode method_3_code 9 = .ok (.iconst 1, 1) := by decide +kernel
theorem d1_10 : decode method_3_code 10 = .ok (.if_icmp .ne 12, 3) := by decide +kernel
theorem d1_13 : decode method_3_code 13 = .ok (.iconst 1, 1) := by decide +kernel
theorem d1_14 : decode method_3_code 14 = .ok (.newarray .double, 2) := by decide +kernel
theorem d1_16 : decode method_3_code 16 = .ok (.dup, 1) := by decide +kernel
theorem d1_17 : decode method_3_code 17 = .ok (.iconst 0, 1) := by decide +kernel
theorem d1_18 : decode method_3_code 18 = .ok (.iload_n 1, 1) := by decide +kernel
theorem d1_19 : decode method_3_code 19 = .ok (.i2d, 1) := by decide +kernel
theorem d1_20 : decode method_3_code 20 = .ok (.dastore, 1) := by decide +kernel
theorem d1_21 : decode method_3_code 21 = .ok (.areturn, 1) := by decide +kernel
theorem ef_1_1 (m : MethodId) (p1 : Int32) (p2 : Int32) (p3 : Int32) (p4 : Int32) : entryFrame m #[(.int (1 : Int32)), (.int p1), (.int p2), (.int p3), (.int p4)] 5 = mkF m 0 #[.val (.int (1 : Int32)), .val (.int p1), .val (.int p2), .val (.int p3), .val (.int p4)] [] := by first | (simp [entryFrame, mkF, argsToLocals, Value.category]; done) | rfl
def Q1_1 (Z : State) (p1 : Int32) (p2 : Int32) (p3 : Int32) (p4 : Int32) (h0 : Heap) (n0 : Nat) (v : Option Value) (h : Heap) (L : List Loc) : Prop := ∃ (b : Addr) (kk : ClassId), v = some (.ref b) ∧ Fr n0 L ∧ Keep h0 h [] ∧ Arv Z h b kk .double (1 : Int32) [(.double (FP.l2d p1.toInt64))] (.double (FP.l2d 0))
set_option maxRecDepth 65536 in
set_option maxHeartbeats 40000000 in
theorem rm1_1 (l : Launch) (Z : State) (a0 : Array Value) (hw : ∀ d ∈ tables_1, d.before a0 Z = true) (ws : List Jvm.Cond) (p1 : Int32) (p2 : Int32) (p3 : Int32) (p4 : Int32) (h0 : Heap) (n0 : Nat) (Z0 : n0 ≤ h0.size)  :
    MetFree l (⟨"com/example/prudent_feedback/prudentfeedback/coefficient/LogisticFitDotPinLaw", "take", "(IIIII)[D"⟩ : MethodName) (head1 (Jvm.Cond.code (⟨"com/example/prudent_feedback/prudentfeedback/coefficient/LogisticFitDotPinLaw", "take", "(IIIII)[D"⟩ : MethodName) method_3_code 5 (some (.array .double)) :: ws) ({ frames := 0, cells := 1, slots := 1, locals := 0 } : Room)) (fun a U => a = #[(.int (1 : Int32)), (.int p1), (.int p2), (.int p3), (.int p4)] ∧ Z.Warmed39 U.vm ∧ U.heap = h0) (fun _ _ _ _ _ => True) (fun _ U o U' => ∃ v L, o = .returned v ∧ Q1_1 Z p1 p2 p3 p4 h0 n0 v U'.heap L ∧ FrameEnd U o U' L ({ frames := 0, cells := 1, slots := 1, locals := 0 } : Room).cells ({ frames := 0, cells := 1, slots := 1, locals := 0 } : Room).slots) := by
  refine MetFree.of_bodySF (plainFor_of_name pn_0) hisR ?_
  intro p e s m args below meth c s₁ Bd hml0 hP hK
  obtain ⟨rfl, hZ, hh⟩ := hP
  have hx := Bd.exec
  have hby := Bd.bytes
  have hml : c.maxLocals = 5 := hml0
  have hown : s.vm.findClass "com/example/prudent_feedback/prudentfeedback/coefficient/LogisticFitDotPinLaw" = some m.cls := findClass_of_methodNamed Bd.named
  have hnm := (name_of_methodNamed Bd.named Bd.method).1
  have X0 : Stand p l e ({ frames := 0, cells := 1, slots := 1, locals := 0 } : Room) s m #[(.int (1 : Int32)), (.int p1), (.int p2), (.int p3), (.int p4)] below meth c s₁ [] 0 0 := Stand.of_body Bd
  have e0 : s₁.heap = h0 := by rw [← hh, Bd.state]; rfl
  have N0 := Fr.nil n0
  have pre0 : ∀ t, Steps p.tables e below (s₁.setTop (mkF m 0 #[.val (.int (1 : Int32)), .val (.int p1), .val (.int p2), .val (.int p3), .val (.int p4)] [])) t → Steps p.tables e below (s₁.setTop (entryFrame m #[(.int (1 : Int32)), (.int p1), (.int p2), (.int p3), (.int p4)] 5)) t := fun t k => castTop (ef_1_1 m p1 p2 p3 p4) k
  obtain ⟨T1, h1, k1, X1, e1, E1, A1, st1⟩ := newP X0 hx hZ (hw _ (List.mem_of_getElem? (i := 4) rfl)) e0 (g := (mkF m 14 #[.val (.int (1 : Int32)), .val (.int p1), .val (.int p2), .val (.int p3), .val (.int p4)] [(.int (1 : Int32))])) rfl (hb hby d1_14) rfl (by decide) (cap := 1) (by decide) (by decide) (by decide) (by decide)
  obtain ⟨b1, g1⟩ : ∃ z, z = h0.size := ⟨_, rfl⟩
  rw [← g1] at A1 st1
  have g_b1 : n0 ≤ b1 := Nat.le_trans Z0 (Nat.le_of_eq g1.symm)
  have sz_b1 : h0.size ≤ b1 := Nat.le_trans (Keep.refl h0 []).1 (Nat.le_of_eq g1.symm)
  have Z2 : n0 ≤ h1.size := Nat.le_trans Z0 E1.1
  have K3 : Keep h0 h1 [] := (Keep.refl h0 []).ext E1
  have V1 : Arv Z h1 b1 k1 .double (1 : Int32) [(.double (FP.l2d 0))] (.double (FP.l2d 0)) := (Arv.newD A1 (by decide)).pad (pad_rep [] (.double (FP.l2d 0)) 1)
  obtain ⟨co4, Ao4, qo4, So4, Mo4, Bo4, Go4⟩ := id V1
  obtain ⟨T5, h5, X5, e5, W5, st5⟩ := stD X1 hx hZ e1 Ao4 (j := (0 : Int32)) (inb_of So4 ⟨(by decide), (by decide)⟩) (g := (mkF m 20 #[.val (.int (1 : Int32)), .val (.int p1), .val (.int p2), .val (.int p3), .val (.int p4)] [(.double (FP.l2d p1.toInt64)), (.int (0 : Int32)), (.ref b1), (.ref b1)])) rfl rfl (hb hby d1_20)
  have V5 : Arv Z h5 b1 k1 .double (1 : Int32) [(.double (FP.l2d p1.toInt64))] (.double (FP.l2d 0)) := Arv.set Ao4 qo4 So4 Mo4 Bo4 Go4 rfl W5 0 rfl (Nat.le_of_ble_eq_true rfl)
  have Z6 : n0 ≤ h5.size := Nat.le_trans Z2 (Keep.of_wr W5).1
  have K7 : Keep h0 h5 [] := K3.wr W5 (Or.inr sz_b1)
  have N8 := Fr.snoc X5 N0 g_b1
  obtain ⟨fs, hr, hrun, hended, hW, hsame⟩ := X5.leave (v := some (.ref b1)) (fun h => by rw [Bd.returns] at h; cases h)
  refine ⟨_, _, pre0 _ ?_, hrun, hended, _, _, rfl, ?_, ⟨_, rfl⟩, hW, hsame.mono (by decide) (by decide)⟩
  · show Steps p.tables e below (s₁.setTop (mkF m 0 #[.val (.int (1 : Int32)), .val (.int p1), .val (.int p2), .val (.int p3), .val (.int p4)] [])) _
    refine XS.iloadN X0.here hx rfl (hb hby d1_0) rfl ?_
    show Steps p.tables e below (s₁.setTop (mkF m 1 #[.val (.int (1 : Int32)), .val (.int p1), .val (.int p2), .val (.int p3), .val (.int p4)] [(.int (1 : Int32))])) _
    refine XS.ifYes X0.here hx rfl (pc0 := 1) (pc' := 8) rfl (hb hby d1_1) rfl ((if0 _ _).trans (feq (by decide : ¬ ((1 : Int32) = (0 : Int32)))).2) (by decide) (by decide) ?_
    show Steps p.tables e below (s₁.setTop (mkF m 8 #[.val (.int (1 : Int32)), .val (.int p1), .val (.int p2), .val (.int p3), .val (.int p4)] [])) _
    refine XS.iloadN X0.here hx rfl (hb hby d1_8) rfl ?_
    show Steps p.tables e below (s₁.setTop (mkF m 9 #[.val (.int (1 : Int32)), .val (.int p1), .val (.int p2), .val (.int p3), .val (.int p4)] [(.int (1 : Int32))])) _
    refine XS.iconst X0.here hx rfl (hb hby d1_9) ?_
    show Steps p.tables e below (s₁.setTop (mkF m 10 #[.val (.int (1 : Int32)), .val (.int p1), .val (.int p2), .val (.int p3), .val (.int p4)] [(.int (1 : Int32)), (.int (1 : Int32))])) _
    refine XS.icmpNo X0.here hx rfl (hb hby d1_10) rfl (teq (by decide : (1 : Int32) = (1 : Int32))).2 ?_
    show Steps p.tables e below (s₁.setTop (mkF m 13 #[.val (.int (1 : Int32)), .val (.int p1), .val (.int p2), .val (.int p3), .val (.int p4)] [])) _
    refine XS.iconst X0.here hx rfl (hb hby d1_13) ?_
    show Steps p.tables e below (s₁.setTop (mkF m 14 #[.val (.int (1 : Int32)), .val (.int p1), .val (.int p2), .val (.int p3), .val (.int p4)] [(.int (1 : Int32))])) _
    refine st1 _ ?_
    show Steps p.tables e below (T1.setTop (mkF m 16 #[.val (.int (1 : Int32)), .val (.int p1), .val (.int p2), .val (.int p3), .val (.int p4)] [(.ref b1)])) _
    refine XS.dup X1.here hx rfl (hb hby d1_16) rfl rfl ?_
    show Steps p.tables e below (T1.setTop (mkF m 17 #[.val (.int (1 : Int32)), .val (.int p1), .val (.int p2), .val (.int p3), .val (.int p4)] [(.ref b1), (.ref b1)])) _
    refine XS.iconst X1.here hx rfl (hb hby d1_17) ?_
    show Steps p.tables e below (T1.setTop (mkF m 18 #[.val (.int (1 : Int32)), .val (.int p1), .val (.int p2), .val (.int p3), .val (.int p4)] [(.int (0 : Int32)), (.ref b1), (.ref b1)])) _
    refine XS.iloadN X1.here hx rfl (hb hby d1_18) rfl ?_
    show Steps p.tables e below (T1.setTop (mkF m 19 #[.val (.int (1 : Int32)), .val (.int p1), .val (.int p2), .val (.int p3), .val (.int p4)] [(.int p1), (.int (0 : Int32)), (.ref b1), (.ref b1)])) _
    refine XS.i2dS X1.here hx rfl (hb hby d1_19) rfl (v := FP.l2d p1.toInt64) (i2d_w _) ?_
    show Steps p.tables e below (T1.setTop (mkF m 20 #[.val (.int (1 : Int32)), .val (.int p1), .val (.int p2), .val (.int p3), .val (.int p4)] [(.double (FP.l2d p1.toInt64)), (.int (0 : Int32)), (.ref b1), (.ref b1)])) _
    refine st5 _ ?_
    show Steps p.tables e below (T5.setTop (mkF m 21 #[.val (.int (1 : Int32)), .val (.int p1), .val (.int p2), .val (.int p3), .val (.int p4)] [(.ref b1)])) _
    exact retOut X5 hx Bd.returns rfl (Or.inr (Or.inr (Or.inr (Or.inr ⟨rfl, rfl, rfl⟩)))) (hb hby d1_21) hr
  · show Q1_1 Z p1 p2 p3 p4 h0 n0 _ T5.heap _
    rw [e5]
    exact ⟨b1, k1, rfl, N8, K7, V5⟩
theorem d1_22 : decode method_3_code 22 = .ok (.iload_n 0, 1) := by decide +kernel
theorem d1_23 : decode method_3_code 23 = .ok (.iconst 2, 1) := by decide +kernel
theorem d1_24 : decode method_3_code 24 = .ok (.if_icmp .ne 17, 3) := by decide +kernel
theorem d1_27 : decode method_3_code 27 = .ok (.iconst 2, 1) := by decide +kernel
theorem d1_28 : decode method_3_code 28 = .ok (.newarray .double, 2) := by decide +kernel
theorem d1_30 : decode method_3_code 30 = .ok (.dup, 1) := by decide +kernel
theorem d1_31 : decode method_3_code 31 = .ok (.iconst 0, 1) := by decide +kernel
theorem d1_32 : decode method_3_code 32 = .ok (.iload_n 1, 1) := by decide +kernel
theorem d1_33 : decode method_3_code 33 = .ok (.i2d, 1) := by decide +kernel
theorem d1_34 : decode method_3_code 34 = .ok (.dastore, 1) := by decide +kernel
theorem d1_35 : decode method_3_code 35 = .ok (.dup, 1) := by decide +kernel
theorem d1_36 : decode method_3_code 36 = .ok (.iconst 1, 1) := by decide +kernel
theorem d1_37 : decode method_3_code 37 = .ok (.iload_n 2, 1) := by decide +kernel
theorem d1_38 : decode method_3_code 38 = .ok (.i2d, 1) := by decide +kernel
theorem d1_39 : decode method_3_code 39 = .ok (.dastore, 1) := by decide +kernel
theorem d1_40 : decode method_3_code 40 = .ok (.areturn, 1) := by decide +kernel
theorem ef_1_2 (m : MethodId) (p1 : Int32) (p2 : Int32) (p3 : Int32) (p4 : Int32) : entryFrame m #[(.int (2 : Int32)), (.int p1), (.int p2), (.int p3), (.int p4)] 5 = mkF m 0 #[.val (.int (2 : Int32)), .val (.int p1), .val (.int p2), .val (.int p3), .val (.int p4)] [] := by first | (simp [entryFrame, mkF, argsToLocals, Value.category]; done) | rfl
def Q1_2 (Z : State) (p1 : Int32) (p2 : Int32) (p3 : Int32) (p4 : Int32) (h0 : Heap) (n0 : Nat) (v : Option Value) (h : Heap) (L : List Loc) : Prop := ∃ (b : Addr) (kk : ClassId), v = some (.ref b) ∧ Fr n0 L ∧ Keep h0 h [] ∧ Arv Z h b kk .double (2 : Int32) [(.double (FP.l2d p1.toInt64)), (.double (FP.l2d p2.toInt64))] (.double (FP.l2d 0))
set_option maxRecDepth 65536 in
set_option maxHeartbeats 40000000 in
theorem rm1_2 (l : Launch) (Z : State) (a0 : Array Value) (hw : ∀ d ∈ tables_1, d.before a0 Z = true) (ws : List Jvm.Cond) (p1 : Int32) (p2 : Int32) (p3 : Int32) (p4 : Int32) (h0 : Heap) (n0 : Nat) (Z0 : n0 ≤ h0.size)  :
    MetFree l (⟨"com/example/prudent_feedback/prudentfeedback/coefficient/LogisticFitDotPinLaw", "take", "(IIIII)[D"⟩ : MethodName) (head1 (Jvm.Cond.code (⟨"com/example/prudent_feedback/prudentfeedback/coefficient/LogisticFitDotPinLaw", "take", "(IIIII)[D"⟩ : MethodName) method_3_code 5 (some (.array .double)) :: ws) ({ frames := 0, cells := 1, slots := 2, locals := 0 } : Room)) (fun a U => a = #[(.int (2 : Int32)), (.int p1), (.int p2), (.int p3), (.int p4)] ∧ Z.Warmed39 U.vm ∧ U.heap = h0) (fun _ _ _ _ _ => True) (fun _ U o U' => ∃ v L, o = .returned v ∧ Q1_2 Z p1 p2 p3 p4 h0 n0 v U'.heap L ∧ FrameEnd U o U' L ({ frames := 0, cells := 1, slots := 2, locals := 0 } : Room).cells ({ frames := 0, cells := 1, slots := 2, locals := 0 } : Room).slots) := by
  refine MetFree.of_bodySF (plainFor_of_name pn_0) hisR ?_
  intro p e s m args below meth c s₁ Bd hml0 hP hK
  obtain ⟨rfl, hZ, hh⟩ := hP
  have hx := Bd.exec
  have hby := Bd.bytes
  have hml : c.maxLocals = 5 := hml0
  have hown : s.vm.findClass "com/example/prudent_feedback/prudentfeedback/coefficient/LogisticFitDotPinLaw" = some m.cls := findClass_of_methodNamed Bd.named
  have hnm := (name_of_methodNamed Bd.named Bd.method).1
  have X0 : Stand p l e ({ frames := 0, cells := 1, slots := 2, locals := 0 } : Room) s m #[(.int (2 : Int32)), (.int p1), (.int p2), (.int p3), (.int p4)] below meth c s₁ [] 0 0 := Stand.of_body Bd
  have e0 : s₁.heap = h0 := by rw [← hh, Bd.state]; rfl
  have N0 := Fr.nil n0
  have pre0 : ∀ t, Steps p.tables e below (s₁.setTop (mkF m 0 #[.val (.int (2 : Int32)), .val (.int p1), .val (.int p2), .val (.int p3), .val (.int p4)] [])) t → Steps p.tables e below (s₁.setTop (entryFrame m #[(.int (2 : Int32)), (.int p1), (.int p2), (.int p3), (.int p4)] 5)) t := fun t k => castTop (ef_1_2 m p1 p2 p3 p4) k
  obtain ⟨T1, h1, k1, X1, e1, E1, A1, st1⟩ := newP X0 hx hZ (hw _ (List.mem_of_getElem? (i := 4) rfl)) e0 (g := (mkF m 28 #[.val (.int (2 : Int32)), .val (.int p1), .val (.int p2), .val (.int p3), .val (.int p4)] [(.int (2 : Int32))])) rfl (hb hby d1_28) rfl (by decide) (cap := 2) (by decide) (by decide) (by decide) (by decide)
  obtain ⟨b1, g1⟩ : ∃ z, z = h0.size := ⟨_, rfl⟩
  rw [← g1] at A1 st1
  have g_b1 : n0 ≤ b1 := Nat.le_trans Z0 (Nat.le_of_eq g1.symm)
  have sz_b1 : h0.size ≤ b1 := Nat.le_trans (Keep.refl h0 []).1 (Nat.le_of_eq g1.symm)
  have Z2 : n0 ≤ h1.size := Nat.le_trans Z0 E1.1
  have K3 : Keep h0 h1 [] := (Keep.refl h0 []).ext E1
  have V1 : Arv Z h1 b1 k1 .double (2 : Int32) [(.double (FP.l2d 0)), (.double (FP.l2d 0))] (.double (FP.l2d 0)) := (Arv.newD A1 (by decide)).pad (pad_rep [] (.double (FP.l2d 0)) 2)
  obtain ⟨co4, Ao4, qo4, So4, Mo4, Bo4, Go4⟩ := id V1
  obtain ⟨T5, h5, X5, e5, W5, st5⟩ := stD X1 hx hZ e1 Ao4 (j := (0 : Int32)) (inb_of So4 ⟨(by decide), (by decide)⟩) (g := (mkF m 34 #[.val (.int (2 : Int32)), .val (.int p1), .val (.int p2), .val (.int p3), .val (.int p4)] [(.double (FP.l2d p1.toInt64)), (.int (0 : Int32)), (.ref b1), (.ref b1)])) rfl rfl (hb hby d1_34)
  have V5 : Arv Z h5 b1 k1 .double (2 : Int32) [(.double (FP.l2d p1.toInt64)), (.double (FP.l2d 0))] (.double (FP.l2d 0)) := Arv.set Ao4 qo4 So4 Mo4 Bo4 Go4 rfl W5 0 rfl (Nat.le_of_ble_eq_true rfl)
  have Z6 : n0 ≤ h5.size := Nat.le_trans Z2 (Keep.of_wr W5).1
  have K7 : Keep h0 h5 [] := K3.wr W5 (Or.inr sz_b1)
  have N8 := Fr.snoc X5 N0 g_b1
  obtain ⟨co9, Ao9, qo9, So9, Mo9, Bo9, Go9⟩ := id V5
  obtain ⟨T10, h10, X10, e10, W10, st10⟩ := stD X5 hx hZ e5 Ao9 (j := (1 : Int32)) (inb_of So9 ⟨(by decide), (by decide)⟩) (g := (mkF m 39 #[.val (.int (2 : Int32)), .val (.int p1), .val (.int p2), .val (.int p3), .val (.int p4)] [(.double (FP.l2d p2.toInt64)), (.int (1 : Int32)), (.ref b1), (.ref b1)])) rfl rfl (hb hby d1_39)
  have V10 : Arv Z h10 b1 k1 .double (2 : Int32) [(.double (FP.l2d p1.toInt64)), (.double (FP.l2d p2.toInt64))] (.double (FP.l2d 0)) := Arv.set Ao9 qo9 So9 Mo9 Bo9 Go9 rfl W10 1 rfl (Nat.le_of_ble_eq_true rfl)
  have Z11 : n0 ≤ h10.size := Nat.le_trans Z6 (Keep.of_wr W10).1
  have K12 : Keep h0 h10 [] := K7.wr W10 (Or.inr sz_b1)
  have N13 := Fr.snoc X10 N8 g_b1
  obtain ⟨fs, hr, hrun, hended, hW, hsame⟩ := X10.leave (v := some (.ref b1)) (fun h => by rw [Bd.returns] at h; cases h)
  refine ⟨_, _, pre0 _ ?_, hrun, hended, _, _, rfl, ?_, ⟨_, rfl⟩, hW, hsame.mono (by decide) (by decide)⟩
  · show Steps p.tables e below (s₁.setTop (mkF m 0 #[.val (.int (2 : Int32)), .val (.int p1), .val (.int p2), .val (.int p3), .val (.int p4)] [])) _
    refine XS.iloadN X0.here hx rfl (hb hby d1_0) rfl ?_
    show Steps p.tables e below (s₁.setTop (mkF m 1 #[.val (.int (2 : Int32)), .val (.int p1), .val (.int p2), .val (.int p3), .val (.int p4)] [(.int (2 : Int32))])) _
    refine XS.ifYes X0.here hx rfl (pc0 := 1) (pc' := 8) rfl (hb hby d1_1) rfl ((if0 _ _).trans (feq (by decide : ¬ ((2 : Int32) = (0 : Int32)))).2) (by decide) (by decide) ?_
    show Steps p.tables e below (s₁.setTop (mkF m 8 #[.val (.int (2 : Int32)), .val (.int p1), .val (.int p2), .val (.int p3), .val (.int p4)] [])) _
    refine XS.iloadN X0.here hx rfl (hb hby d1_8) rfl ?_
    show Steps p.tables e below (s₁.setTop (mkF m 9 #[.val (.int (2 : Int32)), .val (.int p1), .val (.int p2), .val (.int p3), .val (.int p4)] [(.int (2 : Int32))])) _
    refine XS.iconst X0.here hx rfl (hb hby d1_9) ?_
    show Steps p.tables e below (s₁.setTop (mkF m 10 #[.val (.int (2 : Int32)), .val (.int p1), .val (.int p2), .val (.int p3), .val (.int p4)] [(.int (1 : Int32)), (.int (2 : Int32))])) _
    refine XS.icmpYes X0.here hx rfl (pc0 := 10) (pc' := 22) rfl (hb hby d1_10) rfl (feq (by decide : ¬ ((2 : Int32) = (1 : Int32)))).2 (by decide) (by decide) ?_
    show Steps p.tables e below (s₁.setTop (mkF m 22 #[.val (.int (2 : Int32)), .val (.int p1), .val (.int p2), .val (.int p3), .val (.int p4)] [])) _
    refine XS.iloadN X0.here hx rfl (hb hby d1_22) rfl ?_
    show Steps p.tables e below (s₁.setTop (mkF m 23 #[.val (.int (2 : Int32)), .val (.int p1), .val (.int p2), .val (.int p3), .val (.int p4)] [(.int (2 : Int32))])) _
    refine XS.iconst X0.here hx rfl (hb hby d1_23) ?_
    show Steps p.tables e below (s₁.setTop (mkF m 24 #[.val (.int (2 : Int32)), .val (.int p1), .val (.int p2), .val (.int p3), .val (.int p4)] [(.int (2 : Int32)), (.int (2 : Int32))])) _
    refine XS.icmpNo X0.here hx rfl (hb hby d1_24) rfl (teq (by decide : (2 : Int32) = (2 : Int32))).2 ?_
    show Steps p.tables e below (s₁.setTop (mkF m 27 #[.val (.int (2 : Int32)), .val (.int p1), .val (.int p2), .val (.int p3), .val (.int p4)] [])) _
    refine XS.iconst X0.here hx rfl (hb hby d1_27) ?_
    show Steps p.tables e below (s₁.setTop (mkF m 28 #[.val (.int (2 : Int32)), .val (.int p1), .val (.int p2), .val (.int p3), .val (.int p4)] [(.int (2 : Int32))])) _
    refine st1 _ ?_
    show Steps p.tables e below (T1.setTop (mkF m 30 #[.val (.int (2 : Int32)), .val (.int p1), .val (.int p2), .val (.int p3), .val (.int p4)] [(.ref b1)])) _
    refine XS.dup X1.here hx rfl (hb hby d1_30) rfl rfl ?_
    show Steps p.tables e below (T1.setTop (mkF m 31 #[.val (.int (2 : Int32)), .val (.int p1), .val (.int p2), .val (.int p3), .val (.int p4)] [(.ref b1), (.ref b1)])) _
    refine XS.iconst X1.here hx rfl (hb hby d1_31) ?_
    show Steps p.tables e below (T1.setTop (mkF m 32 #[.val (.int (2 : Int32)), .val (.int p1), .val (.int p2), .val (.int p3), .val (.int p4)] [(.int (0 : Int32)), (.ref b1), (.ref b1)])) _
    refine XS.iloadN X1.here hx rfl (hb hby d1_32) rfl ?_
    show Steps p.tables e below (T1.setTop (mkF m 33 #[.val (.int (2 : Int32)), .val (.int p1), .val (.int p2), .val (.int p3), .val (.int p4)] [(.int p1), (.int (0 : Int32)), (.ref b1), (.ref b1)])) _
    refine XS.i2dS X1.here hx rfl (hb hby d1_33) rfl (v := FP.l2d p1.toInt64) (i2d_w _) ?_
    show Steps p.tables e below (T1.setTop (mkF m 34 #[.val (.int (2 : Int32)), .val (.int p1), .val (.int p2), .val (.int p3), .val (.int p4)] [(.double (FP.l2d p1.toInt64)), (.int (0 : Int32)), (.ref b1), (.ref b1)])) _
    refine st5 _ ?_
    show Steps p.tables e below (T5.setTop (mkF m 35 #[.val (.int (2 : Int32)), .val (.int p1), .val (.int p2), .val (.int p3), .val (.int p4)] [(.ref b1)])) _
    refine XS.dup X5.here hx rfl (hb hby d1_35) rfl rfl ?_
    show Steps p.tables e below (T5.setTop (mkF m 36 #[.val (.int (2 : Int32)), .val (.int p1), .val (.int p2), .val (.int p3), .val (.int p4)] [(.ref b1), (.ref b1)])) _
    refine XS.iconst X5.here hx rfl (hb hby d1_36) ?_
    show Steps p.tables e below (T5.setTop (mkF m 37 #[.val (.int (2 : Int32)), .val (.int p1), .val (.int p2), .val (.int p3), .val (.int p4)] [(.int (1 : Int32)), (.ref b1), (.ref b1)])) _
    refine XS.iloadN X5.here hx rfl (hb hby d1_37) rfl ?_
    show Steps p.tables e below (T5.setTop (mkF m 38 #[.val (.int (2 : Int32)), .val (.int p1), .val (.int p2), .val (.int p3), .val (.int p4)] [(.int p2), (.int (1 : Int32)), (.ref b1), (.ref b1)])) _
    refine XS.i2dS X5.here hx rfl (hb hby d1_38) rfl (v := FP.l2d p2.toInt64) (i2d_w _) ?_
    show Steps p.tables e below (T5.setTop (mkF m 39 #[.val (.int (2 : Int32)), .val (.int p1), .val (.int p2), .val (.int p3), .val (.int p4)] [(.double (FP.l2d p2.toInt64)), (.int (1 : Int32)), (.ref b1), (.ref b1)])) _
    refine st10 _ ?_
    show Steps p.tables e below (T10.setTop (mkF m 40 #[.val (.int (2 : Int32)), .val (.int p1), .val (.int p2), .val (.int p3), .val (.int p4)] [(.ref b1)])) _
    exact retOut X10 hx Bd.returns rfl (Or.inr (Or.inr (Or.inr (Or.inr ⟨rfl, rfl, rfl⟩)))) (hb hby d1_40) hr
  · show Q1_2 Z p1 p2 p3 p4 h0 n0 _ T10.heap _
    rw [e10]
    exact ⟨b1, k1, rfl, N13, K12, V10⟩
theorem d1_41 : decode method_3_code 41 = .ok (.iload_n 0, 1) := by decide +kernel
theorem d1_42 : decode method_3_code 42 = .ok (.iconst 3, 1) := by decide +kernel
theorem d1_43 : decode method_3_code 43 = .ok (.if_icmp .ne 22, 3) := by decide +kernel
theorem d1_46 : decode method_3_code 46 = .ok (.iconst 3, 1) := by decide +kernel
theorem d1_47 : decode method_3_code 47 = .ok (.newarray .double, 2) := by decide +kernel
theorem d1_49 : decode method_3_code 49 = .ok (.dup, 1) := by decide +kernel
theorem d1_50 : decode method_3_code 50 = .ok (.iconst 0, 1) := by decide +kernel
theorem d1_51 : decode method_3_code 51 = .ok (.iload_n 1, 1) := by decide +kernel
theorem d1_52 : decode method_3_code 52 = .ok (.i2d, 1) := by decide +kernel
theorem d1_53 : decode method_3_code 53 = .ok (.dastore, 1) := by decide +kernel
theorem d1_54 : decode method_3_code 54 = .ok (.dup, 1) := by decide +kernel
theorem d1_55 : decode method_3_code 55 = .ok (.iconst 1, 1) := by decide +kernel
theorem d1_56 : decode method_3_code 56 = .ok (.iload_n 2, 1) := by decide +kernel
theorem d1_57 : decode method_3_code 57 = .ok (.i2d, 1) := by decide +kernel
theorem d1_58 : decode method_3_code 58 = .ok (.dastore, 1) := by decide +kernel
theorem d1_59 : decode method_3_code 59 = .ok (.dup, 1) := by decide +kernel
theorem d1_60 : decode method_3_code 60 = .ok (.iconst 2, 1) := by decide +kernel
theorem d1_61 : decode method_3_code 61 = .ok (.iload_n 3, 1) := by decide +kernel
theorem d1_62 : decode method_3_code 62 = .ok (.i2d, 1) := by decide +kernel
theorem d1_63 : decode method_3_code 63 = .ok (.dastore, 1) := by decide +kernel
theorem d1_64 : decode method_3_code 64 = .ok (.areturn, 1) := by decide +kernel
theorem ef_1_3 (m : MethodId) (p1 : Int32) (p2 : Int32) (p3 : Int32) (p4 : Int32) : entryFrame m #[(.int (3 : Int32)), (.int p1), (.int p2), (.int p3), (.int p4)] 5 = mkF m 0 #[.val (.int (3 : Int32)), .val (.int p1), .val (.int p2), .val (.int p3), .val (.int p4)] [] := by first | (simp [entryFrame, mkF, argsToLocals, Value.category]; done) | rfl
def Q1_3 (Z : State) (p1 : Int32) (p2 : Int32) (p3 : Int32) (p4 : Int32) (h0 : Heap) (n0 : Nat) (v : Option Value) (h : Heap) (L : List Loc) : Prop := ∃ (b : Addr) (kk : ClassId), v = some (.ref b) ∧ Fr n0 L ∧ Keep h0 h [] ∧ Arv Z h b kk .double (3 : Int32) [(.double (FP.l2d p1.toInt64)), (.double (FP.l2d p2.toInt64)), (.double (FP.l2d p3.toInt64))] (.double (FP.l2d 0))
set_option maxRecDepth 65536 in
set_option maxHeartbeats 40000000 in
theorem rm1_3 (l : Launch) (Z : State) (a0 : Array Value) (hw : ∀ d ∈ tables_1, d.before a0 Z = true) (ws : List Jvm.Cond) (p1 : Int32) (p2 : Int32) (p3 : Int32) (p4 : Int32) (h0 : Heap) (n0 : Nat) (Z0 : n0 ≤ h0.size)  :
    MetFree l (⟨"com/example/prudent_feedback/prudentfeedback/coefficient/LogisticFitDotPinLaw", "take", "(IIIII)[D"⟩ : MethodName) (head1 (Jvm.Cond.code (⟨"com/example/prudent_feedback/prudentfeedback/coefficient/LogisticFitDotPinLaw", "take", "(IIIII)[D"⟩ : MethodName) method_3_code 5 (some (.array .double)) :: ws) ({ frames := 0, cells := 1, slots := 3, locals := 0 } : Room)) (fun a U => a = #[(.int (3 : Int32)), (.int p1), (.int p2), (.int p3), (.int p4)] ∧ Z.Warmed39 U.vm ∧ U.heap = h0) (fun _ _ _ _ _ => True) (fun _ U o U' => ∃ v L, o = .returned v ∧ Q1_3 Z p1 p2 p3 p4 h0 n0 v U'.heap L ∧ FrameEnd U o U' L ({ frames := 0, cells := 1, slots := 3, locals := 0 } : Room).cells ({ frames := 0, cells := 1, slots := 3, locals := 0 } : Room).slots) := by
  refine MetFree.of_bodySF (plainFor_of_name pn_0) hisR ?_
  intro p e s m args below meth c s₁ Bd hml0 hP hK
  obtain ⟨rfl, hZ, hh⟩ := hP
  have hx := Bd.exec
  have hby := Bd.bytes
  have hml : c.maxLocals = 5 := hml0
  have hown : s.vm.findClass "com/example/prudent_feedback/prudentfeedback/coefficient/LogisticFitDotPinLaw" = some m.cls := findClass_of_methodNamed Bd.named
  have hnm := (name_of_methodNamed Bd.named Bd.method).1
  have X0 : Stand p l e ({ frames := 0, cells := 1, slots := 3, locals := 0 } : Room) s m #[(.int (3 : Int32)), (.int p1), (.int p2), (.int p3), (.int p4)] below meth c s₁ [] 0 0 := Stand.of_body Bd
  have e0 : s₁.heap = h0 := by rw [← hh, Bd.state]; rfl
  have N0 := Fr.nil n0
  have pre0 : ∀ t, Steps p.tables e below (s₁.setTop (mkF m 0 #[.val (.int (3 : Int32)), .val (.int p1), .val (.int p2), .val (.int p3), .val (.int p4)] [])) t → Steps p.tables e below (s₁.setTop (entryFrame m #[(.int (3 : Int32)), (.int p1), (.int p2), (.int p3), (.int p4)] 5)) t := fun t k => castTop (ef_1_3 m p1 p2 p3 p4) k
  obtain ⟨T1, h1, k1, X1, e1, E1, A1, st1⟩ := newP X0 hx hZ (hw _ (List.mem_of_getElem? (i := 4) rfl)) e0 (g := (mkF m 47 #[.val (.int (3 : Int32)), .val (.int p1), .val (.int p2), .val (.int p3), .val (.int p4)] [(.int (3 : Int32))])) rfl (hb hby d1_47) rfl (by decide) (cap := 3) (by decide) (by decide) (by decide) (by decide)
  obtain ⟨b1, g1⟩ : ∃ z, z = h0.size := ⟨_, rfl⟩
  rw [← g1] at A1 st1
  have g_b1 : n0 ≤ b1 := Nat.le_trans Z0 (Nat.le_of_eq g1.symm)
  have sz_b1 : h0.size ≤ b1 := Nat.le_trans (Keep.refl h0 []).1 (Nat.le_of_eq g1.symm)
  have Z2 : n0 ≤ h1.size := Nat.le_trans Z0 E1.1
  have K3 : Keep h0 h1 [] := (Keep.refl h0 []).ext E1
  have V1 : Arv Z h1 b1 k1 .double (3 : Int32) [(.double (FP.l2d 0)), (.double (FP.l2d 0)), (.double (FP.l2d 0))] (.double (FP.l2d 0)) := (Arv.newD A1 (by decide)).pad (pad_rep [] (.double (FP.l2d 0)) 3)
  obtain ⟨co4, Ao4, qo4, So4, Mo4, Bo4, Go4⟩ := id V1
  obtain ⟨T5, h5, X5, e5, W5, st5⟩ := stD X1 hx hZ e1 Ao4 (j := (0 : Int32)) (inb_of So4 ⟨(by decide), (by decide)⟩) (g := (mkF m 53 #[.val (.int (3 : Int32)), .val (.int p1), .val (.int p2), .val (.int p3), .val (.int p4)] [(.double (FP.l2d p1.toInt64)), (.int (0 : Int32)), (.ref b1), (.ref b1)])) rfl rfl (hb hby d1_53)
  have V5 : Arv Z h5 b1 k1 .double (3 : Int32) [(.double (FP.l2d p1.toInt64)), (.double (FP.l2d 0)), (.double (FP.l2d 0))] (.double (FP.l2d 0)) := Arv.set Ao4 qo4 So4 Mo4 Bo4 Go4 rfl W5 0 rfl (Nat.le_of_ble_eq_true rfl)
  have Z6 : n0 ≤ h5.size := Nat.le_trans Z2 (Keep.of_wr W5).1
  have K7 : Keep h0 h5 [] := K3.wr W5 (Or.inr sz_b1)
  have N8 := Fr.snoc X5 N0 g_b1
  obtain ⟨co9, Ao9, qo9, So9, Mo9, Bo9, Go9⟩ := id V5
  obtain ⟨T10, h10, X10, e10, W10, st10⟩ := stD X5 hx hZ e5 Ao9 (j := (1 : Int32)) (inb_of So9 ⟨(by decide), (by decide)⟩) (g := (mkF m 58 #[.val (.int (3 : Int32)), .val (.int p1), .val (.int p2), .val (.int p3), .val (.int p4)] [(.double (FP.l2d p2.toInt64)), (.int (1 : Int32)), (.ref b1), (.ref b1)])) rfl rfl (hb hby d1_58)
  have V10 : Arv Z h10 b1 k1 .double (3 : Int32) [(.double (FP.l2d p1.toInt64)), (.double (FP.l2d p2.toInt64)), (.double (FP.l2d 0))] (.double (FP.l2d 0)) := Arv.set Ao9 qo9 So9 Mo9 Bo9 Go9 rfl W10 1 rfl (Nat.le_of_ble_eq_true rfl)
  have Z11 : n0 ≤ h10.size := Nat.le_trans Z6 (Keep.of_wr W10).1
  have K12 : Keep h0 h10 [] := K7.wr W10 (Or.inr sz_b1)
  have N13 := Fr.snoc X10 N8 g_b1
  obtain ⟨co14, Ao14, qo14, So14, Mo14, Bo14, Go14⟩ := id V10
  obtain ⟨T15, h15, X15, e15, W15, st15⟩ := stD X10 hx hZ e10 Ao14 (j := (2 : Int32)) (inb_of So14 ⟨(by decide), (by decide)⟩) (g := (mkF m 63 #[.val (.int (3 : Int32)), .val (.int p1), .val (.int p2), .val (.int p3), .val (.int p4)] [(.double (FP.l2d p3.toInt64)), (.int (2 : Int32)), (.ref b1), (.ref b1)])) rfl rfl (hb hby d1_63)
  have V15 : Arv Z h15 b1 k1 .double (3 : Int32) [(.double (FP.l2d p1.toInt64)), (.double (FP.l2d p2.toInt64)), (.double (FP.l2d p3.toInt64))] (.double (FP.l2d 0)) := Arv.set Ao14 qo14 So14 Mo14 Bo14 Go14 rfl W15 2 rfl (Nat.le_of_ble_eq_true rfl)
  have Z16 : n0 ≤ h15.size := Nat.le_trans Z11 (Keep.of_wr W15).1
  have K17 : Keep h0 h15 [] := K12.wr W15 (Or.inr sz_b1)
  have N18 := Fr.snoc X15 N13 g_b1
  obtain ⟨fs, hr, hrun, hended, hW, hsame⟩ := X15.leave (v := some (.ref b1)) (fun h => by rw [Bd.returns] at h; cases h)
  refine ⟨_, _, pre0 _ ?_, hrun, hended, _, _, rfl, ?_, ⟨_, rfl⟩, hW, hsame.mono (by decide) (by decide)⟩
  · show Steps p.tables e below (s₁.setTop (mkF m 0 #[.val (.int (3 : Int32)), .val (.int p1), .val (.int p2), .val (.int p3), .val (.int p4)] [])) _
    refine XS.iloadN X0.here hx rfl (hb hby d1_0) rfl ?_
    show Steps p.tables e below (s₁.setTop (mkF m 1 #[.val (.int (3 : Int32)), .val (.int p1), .val (.int p2), .val (.int p3), .val (.int p4)] [(.int (3 : Int32))])) _
    refine XS.ifYes X0.here hx rfl (pc0 := 1) (pc' := 8) rfl (hb hby d1_1) rfl ((if0 _ _).trans (feq (by decide : ¬ ((3 : Int32) = (0 : Int32)))).2) (by decide) (by decide) ?_
    show Steps p.tables e below (s₁.setTop (mkF m 8 #[.val (.int (3 : Int32)), .val (.int p1), .val (.int p2), .val (.int p3), .val (.int p4)] [])) _
    refine XS.iloadN X0.here hx rfl (hb hby d1_8) rfl ?_
    show Steps p.tables e below (s₁.setTop (mkF m 9 #[.val (.int (3 : Int32)), .val (.int p1), .val (.int p2), .val (.int p3), .val (.int p4)] [(.int (3 : Int32))])) _
    refine XS.iconst X0.here hx rfl (hb hby d1_9) ?_
    show Steps p.tables e below (s₁.setTop (mkF m 10 #[.val (.int (3 : Int32)), .val (.int p1), .val (.int p2), .val (.int p3), .val (.int p4)] [(.int (1 : Int32)), (.int (3 : Int32))])) _
    refine XS.icmpYes X0.here hx rfl (pc0 := 10) (pc' := 22) rfl (hb hby d1_10) rfl (feq (by decide : ¬ ((3 : Int32) = (1 : Int32)))).2 (by decide) (by decide) ?_
    show Steps p.tables e below (s₁.setTop (mkF m 22 #[.val (.int (3 : Int32)), .val (.int p1), .val (.int p2), .val (.int p3), .val (.int p4)] [])) _
    refine XS.iloadN X0.here hx rfl (hb hby d1_22) rfl ?_
    show Steps p.tables e below (s₁.setTop (mkF m 23 #[.val (.int (3 : Int32)), .val (.int p1), .val (.int p2), .val (.int p3), .val (.int p4)] [(.int (3 : Int32))])) _
    refine XS.iconst X0.here hx rfl (hb hby d1_23) ?_
    show Steps p.tables e below (s₁.setTop (mkF m 24 #[.val (.int (3 : Int32)), .val (.int p1), .val (.int p2), .val (.int p3), .val (.int p4)] [(.int (2 : Int32)), (.int (3 : Int32))])) _
    refine XS.icmpYes X0.here hx rfl (pc0 := 24) (pc' := 41) rfl (hb hby d1_24) rfl (feq (by decide : ¬ ((3 : Int32) = (2 : Int32)))).2 (by decide) (by decide) ?_
    show Steps p.tables e below (s₁.setTop (mkF m 41 #[.val (.int (3 : Int32)), .val (.int p1), .val (.int p2), .val (.int p3), .val (.int p4)] [])) _
    refine XS.iloadN X0.here hx rfl (hb hby d1_41) rfl ?_
    show Steps p.tables e below (s₁.setTop (mkF m 42 #[.val (.int (3 : Int32)), .val (.int p1), .val (.int p2), .val (.int p3), .val (.int p4)] [(.int (3 : Int32))])) _
    refine XS.iconst X0.here hx rfl (hb hby d1_42) ?_
    show Steps p.tables e below (s₁.setTop (mkF m 43 #[.val (.int (3 : Int32)), .val (.int p1), .val (.int p2), .val (.int p3), .val (.int p4)] [(.int (3 : Int32)), (.int (3 : Int32))])) _
    refine XS.icmpNo X0.here hx rfl (hb hby d1_43) rfl (teq (by decide : (3 : Int32) = (3 : Int32))).2 ?_
    show Steps p.tables e below (s₁.setTop (mkF m 46 #[.val (.int (3 : Int32)), .val (.int p1), .val (.int p2), .val (.int p3), .val (.int p4)] [])) _
    refine XS.iconst X0.here hx rfl (hb hby d1_46) ?_
    show Steps p.tables e below (s₁.setTop (mkF m 47 #[.val (.int (3 : Int32)), .val (.int p1), .val (.int p2), .val (.int p3), .val (.int p4)] [(.int (3 : Int32))])) _
    refine st1 _ ?_
    show Steps p.tables e below (T1.setTop (mkF m 49 #[.val (.int (3 : Int32)), .val (.int p1), .val (.int p2), .val (.int p3), .val (.int p4)] [(.ref b1)])) _
    refine XS.dup X1.here hx rfl (hb hby d1_49) rfl rfl ?_
    show Steps p.tables e below (T1.setTop (mkF m 50 #[.val (.int (3 : Int32)), .val (.int p1), .val (.int p2), .val (.int p3), .val (.int p4)] [(.ref b1), (.ref b1)])) _
    refine XS.iconst X1.here hx rfl (hb hby d1_50) ?_
    show Steps p.tables e below (T1.setTop (mkF m 51 #[.val (.int (3 : Int32)), .val (.int p1), .val (.int p2), .val (.int p3), .val (.int p4)] [(.int (0 : Int32)), (.ref b1), (.ref b1)])) _
    refine XS.iloadN X1.here hx rfl (hb hby d1_51) rfl ?_
    show Steps p.tables e below (T1.setTop (mkF m 52 #[.val (.int (3 : Int32)), .val (.int p1), .val (.int p2), .val (.int p3), .val (.int p4)] [(.int p1), (.int (0 : Int32)), (.ref b1), (.ref b1)])) _
    refine XS.i2dS X1.here hx rfl (hb hby d1_52) rfl (v := FP.l2d p1.toInt64) (i2d_w _) ?_
    show Steps p.tables e below (T1.setTop (mkF m 53 #[.val (.int (3 : Int32)), .val (.int p1), .val (.int p2), .val (.int p3), .val (.int p4)] [(.double (FP.l2d p1.toInt64)), (.int (0 : Int32)), (.ref b1), (.ref b1)])) _
    refine st5 _ ?_
    show Steps p.tables e below (T5.setTop (mkF m 54 #[.val (.int (3 : Int32)), .val (.int p1), .val (.int p2), .val (.int p3), .val (.int p4)] [(.ref b1)])) _
    refine XS.dup X5.here hx rfl (hb hby d1_54) rfl rfl ?_
    show Steps p.tables e below (T5.setTop (mkF m 55 #[.val (.int (3 : Int32)), .val (.int p1), .val (.int p2), .val (.int p3), .val (.int p4)] [(.ref b1), (.ref b1)])) _
    refine XS.iconst X5.here hx rfl (hb hby d1_55) ?_
    show Steps p.tables e below (T5.setTop (mkF m 56 #[.val (.int (3 : Int32)), .val (.int p1), .val (.int p2), .val (.int p3), .val (.int p4)] [(.int (1 : Int32)), (.ref b1), (.ref b1)])) _
    refine XS.iloadN X5.here hx rfl (hb hby d1_56) rfl ?_
    show Steps p.tables e below (T5.setTop (mkF m 57 #[.val (.int (3 : Int32)), .val (.int p1), .val (.int p2), .val (.int p3), .val (.int p4)] [(.int p2), (.int (1 : Int32)), (.ref b1), (.ref b1)])) _
    refine XS.i2dS X5.here hx rfl (hb hby d1_57) rfl (v := FP.l2d p2.toInt64) (i2d_w _) ?_
    show Steps p.tables e below (T5.setTop (mkF m 58 #[.val (.int (3 : Int32)), .val (.int p1), .val (.int p2), .val (.int p3), .val (.int p4)] [(.double (FP.l2d p2.toInt64)), (.int (1 : Int32)), (.ref b1), (.ref b1)])) _
    refine st10 _ ?_
    show Steps p.tables e below (T10.setTop (mkF m 59 #[.val (.int (3 : Int32)), .val (.int p1), .val (.int p2), .val (.int p3), .val (.int p4)] [(.ref b1)])) _
    refine XS.dup X10.here hx rfl (hb hby d1_59) rfl rfl ?_
    show Steps p.tables e below (T10.setTop (mkF m 60 #[.val (.int (3 : Int32)), .val (.int p1), .val (.int p2), .val (.int p3), .val (.int p4)] [(.ref b1), (.ref b1)])) _
    refine XS.iconst X10.here hx rfl (hb hby d1_60) ?_
    show Steps p.tables e below (T10.setTop (mkF m 61 #[.val (.int (3 : Int32)), .val (.int p1), .val (.int p2), .val (.int p3), .val (.int p4)] [(.int (2 : Int32)), (.ref b1), (.ref b1)])) _
    refine XS.iloadN X10.here hx rfl (hb hby d1_61) rfl ?_
    show Steps p.tables e below (T10.setTop (mkF m 62 #[.val (.int (3 : Int32)), .val (.int p1), .val (.int p2), .val (.int p3), .val (.int p4)] [(.int p3), (.int (2 : Int32)), (.ref b1), (.ref b1)])) _
    refine XS.i2dS X10.here hx rfl (hb hby d1_62) rfl (v := FP.l2d p3.toInt64) (i2d_w _) ?_
    show Steps p.tables e below (T10.setTop (mkF m 63 #[.val (.int (3 : Int32)), .val (.int p1), .val (.int p2), .val (.int p3), .val (.int p4)] [(.double (FP.l2d p3.toInt64)), (.int (2 : Int32)), (.ref b1), (.ref b1)])) _
    refine st15 _ ?_
    show Steps p.tables e below (T15.setTop (mkF m 64 #[.val (.int (3 : Int32)), .val (.int p1), .val (.int p2), .val (.int p3), .val (.int p4)] [(.ref b1)])) _
    exact retOut X15 hx Bd.returns rfl (Or.inr (Or.inr (Or.inr (Or.inr ⟨rfl, rfl, rfl⟩)))) (hb hby d1_64) hr
  · show Q1_3 Z p1 p2 p3 p4 h0 n0 _ T15.heap _
    rw [e15]
    exact ⟨b1, k1, rfl, N18, K17, V15⟩
theorem d1_65 : decode method_3_code 65 = .ok (.iconst 4, 1) := by decide +kernel
theorem d1_66 : decode method_3_code 66 = .ok (.newarray .double, 2) := by decide +kernel
theorem d1_68 : decode method_3_code 68 = .ok (.dup, 1) := by decide +kernel
theorem d1_69 : decode method_3_code 69 = .ok (.iconst 0, 1) := by decide +kernel
theorem d1_70 : decode method_3_code 70 = .ok (.iload_n 1, 1) := by decide +kernel
theorem d1_71 : decode method_3_code 71 = .ok (.i2d, 1) := by decide +kernel
theorem d1_72 : decode method_3_code 72 = .ok (.dastore, 1) := by decide +kernel
theorem d1_73 : decode method_3_code 73 = .ok (.dup, 1) := by decide +kernel
theorem d1_74 : decode method_3_code 74 = .ok (.iconst 1, 1) := by decide +kernel
theorem d1_75 : decode method_3_code 75 = .ok (.iload_n 2, 1) := by decide +kernel
theorem d1_76 : decode method_3_code 76 = .ok (.i2d, 1) := by decide +kernel
theorem d1_77 : decode method_3_code 77 = .ok (.dastore, 1) := by decide +kernel
theorem d1_78 : decode method_3_code 78 = .ok (.dup, 1) := by decide +kernel
theorem d1_79 : decode method_3_code 79 = .ok (.iconst 2, 1) := by decide +kernel
theorem d1_80 : decode method_3_code 80 = .ok (.iload_n 3, 1) := by decide +kernel
theorem d1_81 : decode method_3_code 81 = .ok (.i2d, 1) := by decide +kernel
theorem d1_82 : decode method_3_code 82 = .ok (.dastore, 1) := by decide +kernel
theorem d1_83 : decode method_3_code 83 = .ok (.dup, 1) := by decide +kernel
theorem d1_84 : decode method_3_code 84 = .ok (.iconst 3, 1) := by decide +kernel
theorem d1_85 : decode method_3_code 85 = .ok (.iload 4, 2) := by decide +kernel
theorem d1_87 : decode method_3_code 87 = .ok (.i2d, 1) := by decide +kernel
theorem d1_88 : decode method_3_code 88 = .ok (.dastore, 1) := by decide +kernel
theorem d1_89 : decode method_3_code 89 = .ok (.areturn, 1) := by decide +kernel
theorem ef_1_4 (m : MethodId) (p1 : Int32) (p2 : Int32) (p3 : Int32) (p4 : Int32) : entryFrame m #[(.int (4 : Int32)), (.int p1), (.int p2), (.int p3), (.int p4)] 5 = mkF m 0 #[.val (.int (4 : Int32)), .val (.int p1), .val (.int p2), .val (.int p3), .val (.int p4)] [] := by first | (simp [entryFrame, mkF, argsToLocals, Value.category]; done) | rfl
def Q1_4 (Z : State) (p1 : Int32) (p2 : Int32) (p3 : Int32) (p4 : Int32) (h0 : Heap) (n0 : Nat) (v : Option Value) (h : Heap) (L : List Loc) : Prop := ∃ (b : Addr) (kk : ClassId), v = some (.ref b) ∧ Fr n0 L ∧ Keep h0 h [] ∧ Arv Z h b kk .double (4 : Int32) [(.double (FP.l2d p1.toInt64)), (.double (FP.l2d p2.toInt64)), (.double (FP.l2d p3.toInt64)), (.double (FP.l2d p4.toInt64))] (.double (FP.l2d 0))
set_option maxRecDepth 65536 in
set_option maxHeartbeats 40000000 in
theorem rm1_4 (l : Launch) (Z : State) (a0 : Array Value) (hw : ∀ d ∈ tables_1, d.before a0 Z = true) (ws : List Jvm.Cond) (p1 : Int32) (p2 : Int32) (p3 : Int32) (p4 : Int32) (h0 : Heap) (n0 : Nat) (Z0 : n0 ≤ h0.size)  :
    MetFree l (⟨"com/example/prudent_feedback/prudentfeedback/coefficient/LogisticFitDotPinLaw", "take", "(IIIII)[D"⟩ : MethodName) (head1 (Jvm.Cond.code (⟨"com/example/prudent_feedback/prudentfeedback/coefficient/LogisticFitDotPinLaw", "take", "(IIIII)[D"⟩ : MethodName) method_3_code 5 (some (.array .double)) :: ws) ({ frames := 0, cells := 1, slots := 4, locals := 0 } : Room)) (fun a U => a = #[(.int (4 : Int32)), (.int p1), (.int p2), (.int p3), (.int p4)] ∧ Z.Warmed39 U.vm ∧ U.heap = h0) (fun _ _ _ _ _ => True) (fun _ U o U' => ∃ v L, o = .returned v ∧ Q1_4 Z p1 p2 p3 p4 h0 n0 v U'.heap L ∧ FrameEnd U o U' L ({ frames := 0, cells := 1, slots := 4, locals := 0 } : Room).cells ({ frames := 0, cells := 1, slots := 4, locals := 0 } : Room).slots) := by
  refine MetFree.of_bodySF (plainFor_of_name pn_0) hisR ?_
  intro p e s m args below meth c s₁ Bd hml0 hP hK
  obtain ⟨rfl, hZ, hh⟩ := hP
  have hx := Bd.exec
  have hby := Bd.bytes
  have hml : c.maxLocals = 5 := hml0
  have hown : s.vm.findClass "com/example/prudent_feedback/prudentfeedback/coefficient/LogisticFitDotPinLaw" = some m.cls := findClass_of_methodNamed Bd.named
  have hnm := (name_of_methodNamed Bd.named Bd.method).1
  have X0 : Stand p l e ({ frames := 0, cells := 1, slots := 4, locals := 0 } : Room) s m #[(.int (4 : Int32)), (.int p1), (.int p2), (.int p3), (.int p4)] below meth c s₁ [] 0 0 := Stand.of_body Bd
  have e0 : s₁.heap = h0 := by rw [← hh, Bd.state]; rfl
  have N0 := Fr.nil n0
  have pre0 : ∀ t, Steps p.tables e below (s₁.setTop (mkF m 0 #[.val (.int (4 : Int32)), .val (.int p1), .val (.int p2), .val (.int p3), .val (.int p4)] [])) t → Steps p.tables e below (s₁.setTop (entryFrame m #[(.int (4 : Int32)), (.int p1), (.int p2), (.int p3), (.int p4)] 5)) t := fun t k => castTop (ef_1_4 m p1 p2 p3 p4) k
  obtain ⟨T1, h1, k1, X1, e1, E1, A1, st1⟩ := newP X0 hx hZ (hw _ (List.mem_of_getElem? (i := 4) rfl)) e0 (g := (mkF m 66 #[.val (.int (4 : Int32)), .val (.int p1), .val (.int p2), .val (.int p3), .val (.int p4)] [(.int (4 : Int32))])) rfl (hb hby d1_66) rfl (by decide) (cap := 4) (by decide) (by decide) (by decide) (by decide)
  obtain ⟨b1, g1⟩ : ∃ z, z = h0.size := ⟨_, rfl⟩
  rw [← g1] at A1 st1
  have g_b1 : n0 ≤ b1 := Nat.le_trans Z0 (Nat.le_of_eq g1.symm)
  have sz_b1 : h0.size ≤ b1 := Nat.le_trans (Keep.refl h0 []).1 (Nat.le_of_eq g1.symm)
  have Z2 : n0 ≤ h1.size := Nat.le_trans Z0 E1.1
  have K3 : Keep h0 h1 [] := (Keep.refl h0 []).ext E1
  have V1 : Arv Z h1 b1 k1 .double (4 : Int32) [(.double (FP.l2d 0)), (.double (FP.l2d 0)), (.double (FP.l2d 0)), (.double (FP.l2d 0))] (.double (FP.l2d 0)) := (Arv.newD A1 (by decide)).pad (pad_rep [] (.double (FP.l2d 0)) 4)
  obtain ⟨co4, Ao4, qo4, So4, Mo4, Bo4, Go4⟩ := id V1
  obtain ⟨T5, h5, X5, e5, W5, st5⟩ := stD X1 hx hZ e1 Ao4 (j := (0 : Int32)) (inb_of So4 ⟨(by decide), (by decide)⟩) (g := (mkF m 72 #[.val (.int (4 : Int32)), .val (.int p1), .val (.int p2), .val (.int p3), .val (.int p4)] [(.double (FP.l2d p1.toInt64)), (.int (0 : Int32)), (.ref b1), (.ref b1)])) rfl rfl (hb hby d1_72)
  have V5 : Arv Z h5 b1 k1 .double (4 : Int32) [(.double (FP.l2d p1.toInt64)), (.double (FP.l2d 0)), (.double (FP.l2d 0)), (.double (FP.l2d 0))] (.double (FP.l2d 0)) := Arv.set Ao4 qo4 So4 Mo4 Bo4 Go4 rfl W5 0 rfl (Nat.le_of_ble_eq_true rfl)
  have Z6 : n0 ≤ h5.size := Nat.le_trans Z2 (Keep.of_wr W5).1
  have K7 : Keep h0 h5 [] := K3.wr W5 (Or.inr sz_b1)
  have N8 := Fr.snoc X5 N0 g_b1
  obtain ⟨co9, Ao9, qo9, So9, Mo9, Bo9, Go9⟩ := id V5
  obtain ⟨T10, h10, X10, e10, W10, st10⟩ := stD X5 hx hZ e5 Ao9 (j := (1 : Int32)) (inb_of So9 ⟨(by decide), (by decide)⟩) (g := (mkF m 77 #[.val (.int (4 : Int32)), .val (.int p1), .val (.int p2), .val (.int p3), .val (.int p4)] [(.double (FP.l2d p2.toInt64)), (.int (1 : Int32)), (.ref b1), (.ref b1)])) rfl rfl (hb hby d1_77)
  have V10 : Arv Z h10 b1 k1 .double (4 : Int32) [(.double (FP.l2d p1.toInt64)), (.double (FP.l2d p2.toInt64)), (.double (FP.l2d 0)), (.double (FP.l2d 0))] (.double (FP.l2d 0)) := Arv.set Ao9 qo9 So9 Mo9 Bo9 Go9 rfl W10 1 rfl (Nat.le_of_ble_eq_true rfl)
  have Z11 : n0 ≤ h10.size := Nat.le_trans Z6 (Keep.of_wr W10).1
  have K12 : Keep h0 h10 [] := K7.wr W10 (Or.inr sz_b1)
  have N13 := Fr.snoc X10 N8 g_b1
  obtain ⟨co14, Ao14, qo14, So14, Mo14, Bo14, Go14⟩ := id V10
  obtain ⟨T15, h15, X15, e15, W15, st15⟩ := stD X10 hx hZ e10 Ao14 (j := (2 : Int32)) (inb_of So14 ⟨(by decide), (by decide)⟩) (g := (mkF m 82 #[.val (.int (4 : Int32)), .val (.int p1), .val (.int p2), .val (.int p3), .val (.int p4)] [(.double (FP.l2d p3.toInt64)), (.int (2 : Int32)), (.ref b1), (.ref b1)])) rfl rfl (hb hby d1_82)
  have V15 : Arv Z h15 b1 k1 .double (4 : Int32) [(.double (FP.l2d p1.toInt64)), (.double (FP.l2d p2.toInt64)), (.double (FP.l2d p3.toInt64)), (.double (FP.l2d 0))] (.double (FP.l2d 0)) := Arv.set Ao14 qo14 So14 Mo14 Bo14 Go14 rfl W15 2 rfl (Nat.le_of_ble_eq_true rfl)
  have Z16 : n0 ≤ h15.size := Nat.le_trans Z11 (Keep.of_wr W15).1
  have K17 : Keep h0 h15 [] := K12.wr W15 (Or.inr sz_b1)
  have N18 := Fr.snoc X15 N13 g_b1
  obtain ⟨co19, Ao19, qo19, So19, Mo19, Bo19, Go19⟩ := id V15
  obtain ⟨T20, h20, X20, e20, W20, st20⟩ := stD X15 hx hZ e15 Ao19 (j := (3 : Int32)) (inb_of So19 ⟨(by decide), (by decide)⟩) (g := (mkF m 88 #[.val (.int (4 : Int32)), .val (.int p1), .val (.int p2), .val (.int p3), .val (.int p4)] [(.double (FP.l2d p4.toInt64)), (.int (3 : Int32)), (.ref b1), (.ref b1)])) rfl rfl (hb hby d1_88)
  have V20 : Arv Z h20 b1 k1 .double (4 : Int32) [(.double (FP.l2d p1.toInt64)), (.double (FP.l2d p2.toInt64)), (.double (FP.l2d p3.toInt64)), (.double (FP.l2d p4.toInt64))] (.double (FP.l2d 0)) := Arv.set Ao19 qo19 So19 Mo19 Bo19 Go19 rfl W20 3 rfl (Nat.le_of_ble_eq_true rfl)
  have Z21 : n0 ≤ h20.size := Nat.le_trans Z16 (Keep.of_wr W20).1
  have K22 : Keep h0 h20 [] := K17.wr W20 (Or.inr sz_b1)
  have N23 := Fr.snoc X20 N18 g_b1
  obtain ⟨fs, hr, hrun, hended, hW, hsame⟩ := X20.leave (v := some (.ref b1)) (fun h => by rw [Bd.returns] at h; cases h)
  refine ⟨_, _, pre0 _ ?_, hrun, hended, _, _, rfl, ?_, ⟨_, rfl⟩, hW, hsame.mono (by decide) (by decide)⟩
  · show Steps p.tables e below (s₁.setTop (mkF m 0 #[.val (.int (4 : Int32)), .val (.int p1), .val (.int p2), .val (.int p3), .val (.int p4)] [])) _
    refine XS.iloadN X0.here hx rfl (hb hby d1_0) rfl ?_
    show Steps p.tables e below (s₁.setTop (mkF m 1 #[.val (.int (4 : Int32)), .val (.int p1), .val (.int p2), .val (.int p3), .val (.int p4)] [(.int (4 : Int32))])) _
    refine XS.ifYes X0.here hx rfl (pc0 := 1) (pc' := 8) rfl (hb hby d1_1) rfl ((if0 _ _).trans (feq (by decide : ¬ ((4 : Int32) = (0 : Int32)))).2) (by decide) (by decide) ?_
    show Steps p.tables e below (s₁.setTop (mkF m 8 #[.val (.int (4 : Int32)), .val (.int p1), .val (.int p2), .val (.int p3), .val (.int p4)] [])) _
    refine XS.iloadN X0.here hx rfl (hb hby d1_8) rfl ?_
    show Steps p.tables e below (s₁.setTop (mkF m 9 #[.val (.int (4 : Int32)), .val (.int p1), .val (.int p2), .val (.int p3), .val (.int p4)] [(.int (4 : Int32))])) _
    refine XS.iconst X0.here hx rfl (hb hby d1_9) ?_
    show Steps p.tables e below (s₁.setTop (mkF m 10 #[.val (.int (4 : Int32)), .val (.int p1), .val (.int p2), .val (.int p3), .val (.int p4)] [(.int (1 : Int32)), (.int (4 : Int32))])) _
    refine XS.icmpYes X0.here hx rfl (pc0 := 10) (pc' := 22) rfl (hb hby d1_10) rfl (feq (by decide : ¬ ((4 : Int32) = (1 : Int32)))).2 (by decide) (by decide) ?_
    show Steps p.tables e below (s₁.setTop (mkF m 22 #[.val (.int (4 : Int32)), .val (.int p1), .val (.int p2), .val (.int p3), .val (.int p4)] [])) _
    refine XS.iloadN X0.here hx rfl (hb hby d1_22) rfl ?_
    show Steps p.tables e below (s₁.setTop (mkF m 23 #[.val (.int (4 : Int32)), .val (.int p1), .val (.int p2), .val (.int p3), .val (.int p4)] [(.int (4 : Int32))])) _
    refine XS.iconst X0.here hx rfl (hb hby d1_23) ?_
    show Steps p.tables e below (s₁.setTop (mkF m 24 #[.val (.int (4 : Int32)), .val (.int p1), .val (.int p2), .val (.int p3), .val (.int p4)] [(.int (2 : Int32)), (.int (4 : Int32))])) _
    refine XS.icmpYes X0.here hx rfl (pc0 := 24) (pc' := 41) rfl (hb hby d1_24) rfl (feq (by decide : ¬ ((4 : Int32) = (2 : Int32)))).2 (by decide) (by decide) ?_
    show Steps p.tables e below (s₁.setTop (mkF m 41 #[.val (.int (4 : Int32)), .val (.int p1), .val (.int p2), .val (.int p3), .val (.int p4)] [])) _
    refine XS.iloadN X0.here hx rfl (hb hby d1_41) rfl ?_
    show Steps p.tables e below (s₁.setTop (mkF m 42 #[.val (.int (4 : Int32)), .val (.int p1), .val (.int p2), .val (.int p3), .val (.int p4)] [(.int (4 : Int32))])) _
    refine XS.iconst X0.here hx rfl (hb hby d1_42) ?_
    show Steps p.tables e below (s₁.setTop (mkF m 43 #[.val (.int (4 : Int32)), .val (.int p1), .val (.int p2), .val (.int p3), .val (.int p4)] [(.int (3 : Int32)), (.int (4 : Int32))])) _
    refine XS.icmpYes X0.here hx rfl (pc0 := 43) (pc' := 65) rfl (hb hby d1_43) rfl (feq (by decide : ¬ ((4 : Int32) = (3 : Int32)))).2 (by decide) (by decide) ?_
    show Steps p.tables e below (s₁.setTop (mkF m 65 #[.val (.int (4 : Int32)), .val (.int p1), .val (.int p2), .val (.int p3), .val (.int p4)] [])) _
    refine XS.iconst X0.here hx rfl (hb hby d1_65) ?_
    show Steps p.tables e below (s₁.setTop (mkF m 66 #[.val (.int (4 : Int32)), .val (.int p1), .val (.int p2), .val (.int p3), .val (.int p4)] [(.int (4 : Int32))])) _
    refine st1 _ ?_
    show Steps p.tables e below (T1.setTop (mkF m 68 #[.val (.int (4 : Int32)), .val (.int p1), .val (.int p2), .val (.int p3), .val (.int p4)] [(.ref b1)])) _
    refine XS.dup X1.here hx rfl (hb hby d1_68) rfl rfl ?_
    show Steps p.tables e below (T1.setTop (mkF m 69 #[.val (.int (4 : Int32)), .val (.int p1), .val (.int p2), .val (.int p3), .val (.int p4)] [(.ref b1), (.ref b1)])) _
    refine XS.iconst X1.here hx rfl (hb hby d1_69) ?_
    show Steps p.tables e below (T1.setTop (mkF m 70 #[.val (.int (4 : Int32)), .val (.int p1), .val (.int p2), .val (.int p3), .val (.int p4)] [(.int (0 : Int32)), (.ref b1), (.ref b1)])) _
    refine XS.iloadN X1.here hx rfl (hb hby d1_70) rfl ?_
    show Steps p.tables e below (T1.setTop (mkF m 71 #[.val (.int (4 : Int32)), .val (.int p1), .val (.int p2), .val (.int p3), .val (.int p4)] [(.int p1), (.int (0 : Int32)), (.ref b1), (.ref b1)])) _
    refine XS.i2dS X1.here hx rfl (hb hby d1_71) rfl (v := FP.l2d p1.toInt64) (i2d_w _) ?_
    show Steps p.tables e below (T1.setTop (mkF m 72 #[.val (.int (4 : Int32)), .val (.int p1), .val (.int p2), .val (.int p3), .val (.int p4)] [(.double (FP.l2d p1.toInt64)), (.int (0 : Int32)), (.ref b1), (.ref b1)])) _
    refine st5 _ ?_
    show Steps p.tables e below (T5.setTop (mkF m 73 #[.val (.int (4 : Int32)), .val (.int p1), .val (.int p2), .val (.int p3), .val (.int p4)] [(.ref b1)])) _
    refine XS.dup X5.here hx rfl (hb hby d1_73) rfl rfl ?_
    show Steps p.tables e below (T5.setTop (mkF m 74 #[.val (.int (4 : Int32)), .val (.int p1), .val (.int p2), .val (.int p3), .val (.int p4)] [(.ref b1), (.ref b1)])) _
    refine XS.iconst X5.here hx rfl (hb hby d1_74) ?_
    show Steps p.tables e below (T5.setTop (mkF m 75 #[.val (.int (4 : Int32)), .val (.int p1), .val (.int p2), .val (.int p3), .val (.int p4)] [(.int (1 : Int32)), (.ref b1), (.ref b1)])) _
    refine XS.iloadN X5.here hx rfl (hb hby d1_75) rfl ?_
    show Steps p.tables e below (T5.setTop (mkF m 76 #[.val (.int (4 : Int32)), .val (.int p1), .val (.int p2), .val (.int p3), .val (.int p4)] [(.int p2), (.int (1 : Int32)), (.ref b1), (.ref b1)])) _
    refine XS.i2dS X5.here hx rfl (hb hby d1_76) rfl (v := FP.l2d p2.toInt64) (i2d_w _) ?_
    show Steps p.tables e below (T5.setTop (mkF m 77 #[.val (.int (4 : Int32)), .val (.int p1), .val (.int p2), .val (.int p3), .val (.int p4)] [(.double (FP.l2d p2.toInt64)), (.int (1 : Int32)), (.ref b1), (.ref b1)])) _
    refine st10 _ ?_
    show Steps p.tables e below (T10.setTop (mkF m 78 #[.val (.int (4 : Int32)), .val (.int p1), .val (.int p2), .val (.int p3), .val (.int p4)] [(.ref b1)])) _
    refine XS.dup X10.here hx rfl (hb hby d1_78) rfl rfl ?_
    show Steps p.tables e below (T10.setTop (mkF m 79 #[.val (.int (4 : Int32)), .val (.int p1), .val (.int p2), .val (.int p3), .val (.int p4)] [(.ref b1), (.ref b1)])) _
    refine XS.iconst X10.here hx rfl (hb hby d1_79) ?_
    show Steps p.tables e below (T10.setTop (mkF m 80 #[.val (.int (4 : Int32)), .val (.int p1), .val (.int p2), .val (.int p3), .val (.int p4)] [(.int (2 : Int32)), (.ref b1), (.ref b1)])) _
    refine XS.iloadN X10.here hx rfl (hb hby d1_80) rfl ?_
    show Steps p.tables e below (T10.setTop (mkF m 81 #[.val (.int (4 : Int32)), .val (.int p1), .val (.int p2), .val (.int p3), .val (.int p4)] [(.int p3), (.int (2 : Int32)), (.ref b1), (.ref b1)])) _
    refine XS.i2dS X10.here hx rfl (hb hby d1_81) rfl (v := FP.l2d p3.toInt64) (i2d_w _) ?_
    show Steps p.tables e below (T10.setTop (mkF m 82 #[.val (.int (4 : Int32)), .val (.int p1), .val (.int p2), .val (.int p3), .val (.int p4)] [(.double (FP.l2d p3.toInt64)), (.int (2 : Int32)), (.ref b1), (.ref b1)])) _
    refine st15 _ ?_
    show Steps p.tables e below (T15.setTop (mkF m 83 #[.val (.int (4 : Int32)), .val (.int p1), .val (.int p2), .val (.int p3), .val (.int p4)] [(.ref b1)])) _
    refine XS.dup X15.here hx rfl (hb hby d1_83) rfl rfl ?_
    show Steps p.tables e below (T15.setTop (mkF m 84 #[.val (.int (4 : Int32)), .val (.int p1), .val (.int p2), .val (.int p3), .val (.int p4)] [(.ref b1), (.ref b1)])) _
    refine XS.iconst X15.here hx rfl (hb hby d1_84) ?_
    show Steps p.tables e below (T15.setTop (mkF m 85 #[.val (.int (4 : Int32)), .val (.int p1), .val (.int p2), .val (.int p3), .val (.int p4)] [(.int (3 : Int32)), (.ref b1), (.ref b1)])) _
    refine XS.iload X15.here hx rfl (hb hby d1_85) rfl ?_
    show Steps p.tables e below (T15.setTop (mkF m 87 #[.val (.int (4 : Int32)), .val (.int p1), .val (.int p2), .val (.int p3), .val (.int p4)] [(.int p4), (.int (3 : Int32)), (.ref b1), (.ref b1)])) _
    refine XS.i2dS X15.here hx rfl (hb hby d1_87) rfl (v := FP.l2d p4.toInt64) (i2d_w _) ?_
    show Steps p.tables e below (T15.setTop (mkF m 88 #[.val (.int (4 : Int32)), .val (.int p1), .val (.int p2), .val (.int p3), .val (.int p4)] [(.double (FP.l2d p4.toInt64)), (.int (3 : Int32)), (.ref b1), (.ref b1)])) _
    refine st20 _ ?_
    show Steps p.tables e below (T20.setTop (mkF m 89 #[.val (.int (4 : Int32)), .val (.int p1), .val (.int p2), .val (.int p3), .val (.int p4)] [(.ref b1)])) _
    exact retOut X20 hx Bd.returns rfl (Or.inr (Or.inr (Or.inr (Or.inr ⟨rfl, rfl, rfl⟩)))) (hb hby d1_89) hr
  · show Q1_4 Z p1 p2 p3 p4 h0 n0 _ T20.heap _
    rw [e20]
    exact ⟨b1, k1, rfl, N23, K22, V20⟩
theorem pn_1 : plainName "com/example/prudent_feedback/prudentfeedback/coefficient/LogisticFit" = true := by first | (simp [plainName, overriddenIn]; done) | decide +kernel
theorem d2_0 : decode prog_9_method_8_code 0 = .ok (.dconst 0, 1) := by decide +kernel
theorem d2_1 : decode prog_9_method_8_code 1 = .ok (.dstore_n 2, 1) := by decide +kernel
theorem d2_2 : decode prog_9_method_8_code 2 = .ok (.iconst 0, 1) := by decide +kernel
theorem d2_3 : decode prog_9_method_8_code 3 = .ok (.istore 4, 2) := by decide +kernel
theorem d2_5 : decode prog_9_method_8_code 5 = .ok (.iload 4, 2) := by decide +kernel
theorem d2_7 : decode prog_9_method_8_code 7 = .ok (.aload_n 0, 1) := by decide +kernel
theorem d2_8 : decode prog_9_method_8_code 8 = .ok (.arraylength, 1) := by decide +kernel
theorem d2_9 : decode prog_9_method_8_code 9 = .ok (.if_icmp .ge 21, 3) := by decide +kernel
theorem d2_30 : decode prog_9_method_8_code 30 = .ok (.dload_n 2, 1) := by decide +kernel
theorem d2_31 : decode prog_9_method_8_code 31 = .ok (.dreturn, 1) := by decide +kernel
theorem ef_2_0 (m : MethodId) (a1 : Addr) (a2 : Addr) : entryFrame m #[(.ref a1), (.ref a2)] 5 = mkF m 0 #[.val (.ref a1), .val (.ref a2), .unset, .unset, .unset] [] := by first | (simp [entryFrame, mkF, argsToLocals, Value.category]; done) | rfl
def Q2_0 (Z : State) (a1 : Addr) (a2 : Addr) (k1 : ClassId) (k2 : ClassId) (h0 : Heap) (n0 : Nat) (v : Option Value) (h : Heap) (L : List Loc) : Prop := v = some (.double (FP.l2d (0 : Int64))) ∧ Fr n0 L ∧ h = h0
set_option maxRecDepth 65536 in
set_option maxHeartbeats 40000000 in
theorem rm2_0 (l : Launch) (Z : State) (a0 : Array Value) (hw : ∀ d ∈ tables_1, d.before a0 Z = true) (ws : List Jvm.Cond) (a1 : Addr) (a2 : Addr) (k1 : ClassId) (k2 : ClassId) (h0 : Heap) (n0 : Nat) (Z0 : n0 ≤ h0.size) (HV0 : Arv Z h0 a1 k1 .double (0 : Int32) [] (.double (FP.l2d 0))) (HV1 : Arv Z h0 a2 k2 .double (0 : Int32) [] (.double (FP.l2d 0))) :
    MetFree l (⟨"com/example/prudent_feedback/prudentfeedback/coefficient/LogisticFit", "dot", "([D[D)D"⟩ : MethodName) (head1 (Jvm.Cond.code (⟨"com/example/prudent_feedback/prudentfeedback/coefficient/LogisticFit", "dot", "([D[D)D"⟩ : MethodName) prog_9_method_8_code 5 (some .double) :: ws) ({ frames := 0, cells := 0, slots := 0, locals := 0 } : Room)) (fun a U => a = #[(.ref a1), (.ref a2)] ∧ Z.Warmed39 U.vm ∧ U.heap = h0) (fun _ _ _ _ _ => True) (fun _ U o U' => ∃ v L, o = .returned v ∧ Q2_0 Z a1 a2 k1 k2 h0 n0 v U'.heap L ∧ FrameEnd U o U' L ({ frames := 0, cells := 0, slots := 0, locals := 0 } : Room).cells ({ frames := 0, cells := 0, slots := 0, locals := 0 } : Room).slots) := by
  refine MetFree.of_bodySF (plainFor_of_name pn_1) hisR ?_
  intro p e s m args below meth c s₁ Bd hml0 hP hK
  obtain ⟨rfl, hZ, hh⟩ := hP
  have hx := Bd.exec
  have hby := Bd.bytes
  have hml : c.maxLocals = 5 := hml0
  have hown : s.vm.findClass "com/example/prudent_feedback/prudentfeedback/coefficient/LogisticFit" = some m.cls := findClass_of_methodNamed Bd.named
  have hnm := (name_of_methodNamed Bd.named Bd.method).1
  have X0 : Stand p l e ({ frames := 0, cells := 0, slots := 0, locals := 0 } : Room) s m #[(.ref a1), (.ref a2)] below meth c s₁ [] 0 0 := Stand.of_body Bd
  have e0 : s₁.heap = h0 := by rw [← hh, Bd.state]; rfl
  have N0 := Fr.nil n0
  have pre0 : ∀ t, Steps p.tables e below (s₁.setTop (mkF m 0 #[.val (.ref a1), .val (.ref a2), .unset, .unset, .unset] [])) t → Steps p.tables e below (s₁.setTop (entryFrame m #[(.ref a1), (.ref a2)] 5)) t := fun t k => castTop (ef_2_0 m a1 a2) k
  have hs0 : own_sm 0 (0 : Int64) := own_sm0
  obtain ⟨co1, Ao1, qo1, So1, Mo1, Bo1, Go1⟩ := id HV0
  obtain ⟨fs, hr, hrun, hended, hW, hsame⟩ := X0.leave (v := some (.double (FP.l2d (0 : Int64)))) (fun h => by rw [Bd.returns] at h; cases h)
  refine ⟨_, _, pre0 _ ?_, hrun, hended, _, _, rfl, ?_, ⟨_, rfl⟩, hW, hsame.mono (by decide) (by decide)⟩
  · show Steps p.tables e below (s₁.setTop (mkF m 0 #[.val (.ref a1), .val (.ref a2), .unset, .unset, .unset] [])) _
    refine XS.dconst0 X0.here hx rfl (hb hby d2_0) (v := FP.l2d 0) (by decide +kernel) ?_
    show Steps p.tables e below (s₁.setTop (mkF m 1 #[.val (.ref a1), .val (.ref a2), .unset, .unset, .unset] [(.double (FP.l2d 0))])) _
    refine XS.dstoreN X0.here hx rfl (hb hby d2_1) rfl (l' := #[.val (.ref a1), .val (.ref a2), .val (.double (FP.l2d 0)), .second, .unset]) rfl ?_
    show Steps p.tables e below (s₁.setTop (mkF m 2 #[.val (.ref a1), .val (.ref a2), .val (.double (FP.l2d 0)), .second, .unset] [])) _
    refine XS.iconst X0.here hx rfl (hb hby d2_2) ?_
    show Steps p.tables e below (s₁.setTop (mkF m 3 #[.val (.ref a1), .val (.ref a2), .val (.double (FP.l2d 0)), .second, .unset] [(.int (0 : Int32))])) _
    refine XS.istore X0.here hx rfl (hb hby d2_3) rfl (l' := #[.val (.ref a1), .val (.ref a2), .val (.double (FP.l2d 0)), .second, .val (.int (0 : Int32))]) rfl ?_
    show Steps p.tables e below (s₁.setTop (mkF m 5 #[.val (.ref a1), .val (.ref a2), .val (.double (FP.l2d 0)), .second, .val (.int (0 : Int32))] [])) _
    refine XS.iload X0.here hx rfl (hb hby d2_5) rfl ?_
    show Steps p.tables e below (s₁.setTop (mkF m 7 #[.val (.ref a1), .val (.ref a2), .val (.double (FP.l2d 0)), .second, .val (.int (0 : Int32))] [(.int (0 : Int32))])) _
    refine XS.aloadN X0.here hx rfl (hb hby d2_7) rfl rfl ?_
    show Steps p.tables e below (s₁.setTop (mkF m 8 #[.val (.ref a1), .val (.ref a2), .val (.double (FP.l2d 0)), .second, .val (.int (0 : Int32))] [(.ref a1), (.int (0 : Int32))])) _
    refine X0.arraylength hx (by rw [e0]; exact Ao1.1) (State.isArrayOf_alike hZ.alike Ao1.2.1) (g := (mkF m 8 #[.val (.ref a1), .val (.ref a2), .val (.double (FP.l2d 0)), .second, .val (.int (0 : Int32))] [(.ref a1), (.int (0 : Int32))])) rfl rfl (hb hby d2_8) _ ?_
    rw [len_of So1 Mo1]
    show Steps p.tables e below (s₁.setTop (mkF m 9 #[.val (.ref a1), .val (.ref a2), .val (.double (FP.l2d 0)), .second, .val (.int (0 : Int32))] [(.int (0 : Int32)), (.int (0 : Int32))])) _
    refine XS.icmpYes X0.here hx rfl (pc0 := 9) (pc' := 30) rfl (hb hby d2_9) rfl (flt (by decide : ¬ ((0 : Int32) < (0 : Int32)))).2.1 (by decide) (by decide) ?_
    show Steps p.tables e below (s₁.setTop (mkF m 30 #[.val (.ref a1), .val (.ref a2), .val (.double (FP.l2d 0)), .second, .val (.int (0 : Int32))] [])) _
    refine XS.dloadN X0.here hx rfl (hb hby d2_30) rfl ?_
    show Steps p.tables e below (s₁.setTop (mkF m 31 #[.val (.ref a1), .val (.ref a2), .val (.double (FP.l2d 0)), .second, .val (.int (0 : Int32))] [(.double (FP.l2d 0))])) _
    exact retOut X0 hx Bd.returns rfl (Or.inr (Or.inr (Or.inl ⟨rfl, rfl, _, rfl⟩))) (hb hby d2_31) hr
  · show Q2_0 Z a1 a2 k1 k2 h0 n0 _ s₁.heap _
    rw [e0]
    exact ⟨rfl, N0, rfl⟩
theorem d2_12 : decode prog_9_method_8_code 12 = .ok (.dload_n 2, 1) := by decide +kernel
theorem d2_13 : decode prog_9_method_8_code 13 = .ok (.aload_n 0, 1) := by decide +kernel
theorem d2_14 : decode prog_9_method_8_code 14 = .ok (.iload 4, 2) := by decide +kernel
theorem d2_16 : decode prog_9_method_8_code 16 = .ok (.daload, 1) := by decide +kernel
theorem d2_17 : decode prog_9_method_8_code 17 = .ok (.aload_n 1, 1) := by decide +kernel
theorem d2_18 : decode prog_9_method_8_code 18 = .ok (.iload 4, 2) := by decide +kernel
theorem d2_20 : decode prog_9_method_8_code 20 = .ok (.daload, 1) := by decide +kernel
theorem d2_21 : decode prog_9_method_8_code 21 = .ok (.dmul, 1) := by decide +kernel
theorem d2_22 : decode prog_9_method_8_code 22 = .ok (.dadd, 1) := by decide +kernel
theorem d2_23 : decode prog_9_method_8_code 23 = .ok (.dstore_n 2, 1) := by decide +kernel
theorem d2_24 : decode prog_9_method_8_code 24 = .ok (.iinc 4 1, 3) := by decide +kernel
theorem d2_27 : decode prog_9_method_8_code 27 = .ok (.goto (-22), 3) := by decide +kernel
theorem ef_2_1 (m : MethodId) (a1 : Addr) (a2 : Addr) : entryFrame m #[(.ref a1), (.ref a2)] 5 = mkF m 0 #[.val (.ref a1), .val (.ref a2), .unset, .unset, .unset] [] := by first | (simp [entryFrame, mkF, argsToLocals, Value.category]; done) | rfl
def Q2_1 (Z : State) (a1 : Addr) (a2 : Addr) (k1 : ClassId) (k2 : ClassId) (x0 : Int64) (y0 : Int64) (h0 : Heap) (n0 : Nat) (v : Option Value) (h : Heap) (L : List Loc) : Prop := v = some (.double (FP.l2d ((0 : Int64) + (x0 * y0)))) ∧ Fr n0 L ∧ h = h0
set_option maxRecDepth 65536 in
set_option maxHeartbeats 40000000 in
theorem rm2_1 (l : Launch) (Z : State) (a0 : Array Value) (hw : ∀ d ∈ tables_1, d.before a0 Z = true) (ws : List Jvm.Cond) (a1 : Addr) (a2 : Addr) (k1 : ClassId) (k2 : ClassId) (x0 : Int64) (y0 : Int64) (h0 : Heap) (n0 : Nat) (Z0 : n0 ≤ h0.size) (HV0 : Arv Z h0 a1 k1 .double (1 : Int32) [(.double (FP.l2d x0))] (.double (FP.l2d 0))) (HV1 : Arv Z h0 a2 k2 .double (1 : Int32) [(.double (FP.l2d y0))] (.double (FP.l2d 0))) (hx0 : (own_sm 32768 x0)) (hy0 : (own_sm 32768 y0)) :
    MetFree l (⟨"com/example/prudent_feedback/prudentfeedback/coefficient/LogisticFit", "dot", "([D[D)D"⟩ : MethodName) (head1 (Jvm.Cond.code (⟨"com/example/prudent_feedback/prudentfeedback/coefficient/LogisticFit", "dot", "([D[D)D"⟩ : MethodName) prog_9_method_8_code 5 (some .double) :: ws) ({ frames := 0, cells := 0, slots := 0, locals := 0 } : Room)) (fun a U => a = #[(.ref a1), (.ref a2)] ∧ Z.Warmed39 U.vm ∧ U.heap = h0) (fun _ _ _ _ _ => True) (fun _ U o U' => ∃ v L, o = .returned v ∧ Q2_1 Z a1 a2 k1 k2 x0 y0 h0 n0 v U'.heap L ∧ FrameEnd U o U' L ({ frames := 0, cells := 0, slots := 0, locals := 0 } : Room).cells ({ frames := 0, cells := 0, slots := 0, locals := 0 } : Room).slots) := by
  refine MetFree.of_bodySF (plainFor_of_name pn_1) hisR ?_
  intro p e s m args below meth c s₁ Bd hml0 hP hK
  obtain ⟨rfl, hZ, hh⟩ := hP
  have hx := Bd.exec
  have hby := Bd.bytes
  have hml : c.maxLocals = 5 := hml0
  have hown : s.vm.findClass "com/example/prudent_feedback/prudentfeedback/coefficient/LogisticFit" = some m.cls := findClass_of_methodNamed Bd.named
  have hnm := (name_of_methodNamed Bd.named Bd.method).1
  have X0 : Stand p l e ({ frames := 0, cells := 0, slots := 0, locals := 0 } : Room) s m #[(.ref a1), (.ref a2)] below meth c s₁ [] 0 0 := Stand.of_body Bd
  have e0 : s₁.heap = h0 := by rw [← hh, Bd.state]; rfl
  have N0 := Fr.nil n0
  have pre0 : ∀ t, Steps p.tables e below (s₁.setTop (mkF m 0 #[.val (.ref a1), .val (.ref a2), .unset, .unset, .unset] [])) t → Steps p.tables e below (s₁.setTop (entryFrame m #[(.ref a1), (.ref a2)] 5)) t := fun t k => castTop (ef_2_1 m a1 a2) k
  have hs0 : own_sm 0 (0 : Int64) := own_sm0
  have hs1 : own_sm 1073741824 ((0 : Int64) + (x0 * y0)) := own_addi hs0 (own_muli hx0 hy0) (by decide)
  obtain ⟨co1, Ao1, qo1, So1, Mo1, Bo1, Go1⟩ := id HV0
  obtain ⟨co2, Ao2, qo2, So2, Mo2, Bo2, Go2⟩ := id HV0
  obtain ⟨co3, Ao3, qo3, So3, Mo3, Bo3, Go3⟩ := id HV1
  obtain ⟨co4, Ao4, qo4, So4, Mo4, Bo4, Go4⟩ := id HV0
  obtain ⟨fs, hr, hrun, hended, hW, hsame⟩ := X0.leave (v := some (.double (FP.l2d ((0 : Int64) + (x0 * y0))))) (fun h => by rw [Bd.returns] at h; cases h)
  refine ⟨_, _, pre0 _ ?_, hrun, hended, _, _, rfl, ?_, ⟨_, rfl⟩, hW, hsame.mono (by decide) (by decide)⟩
  · show Steps p.tables e below (s₁.setTop (mkF m 0 #[.val (.ref a1), .val (.ref a2), .unset, .unset, .unset] [])) _
    refine XS.dconst0 X0.here hx rfl (hb hby d2_0) (v := FP.l2d 0) (by decide +kernel) ?_
    show Steps p.tables e below (s₁.setTop (mkF m 1 #[.val (.ref a1), .val (.ref a2), .unset, .unset, .unset] [(.double (FP.l2d 0))])) _
    refine XS.dstoreN X0.here hx rfl (hb hby d2_1) rfl (l' := #[.val (.ref a1), .val (.ref a2), .val (.double (FP.l2d 0)), .second, .unset]) rfl ?_
    show Steps p.tables e below (s₁.setTop (mkF m 2 #[.val (.ref a1), .val (.ref a2), .val (.double (FP.l2d 0)), .second, .unset] [])) _
    refine XS.iconst X0.here hx rfl (hb hby d2_2) ?_
    show Steps p.tables e below (s₁.setTop (mkF m 3 #[.val (.ref a1), .val (.ref a2), .val (.double (FP.l2d 0)), .second, .unset] [(.int (0 : Int32))])) _
    refine XS.istore X0.here hx rfl (hb hby d2_3) rfl (l' := #[.val (.ref a1), .val (.ref a2), .val (.double (FP.l2d 0)), .second, .val (.int (0 : Int32))]) rfl ?_
    show Steps p.tables e below (s₁.setTop (mkF m 5 #[.val (.ref a1), .val (.ref a2), .val (.double (FP.l2d 0)), .second, .val (.int (0 : Int32))] [])) _
    refine XS.iload X0.here hx rfl (hb hby d2_5) rfl ?_
    show Steps p.tables e below (s₁.setTop (mkF m 7 #[.val (.ref a1), .val (.ref a2), .val (.double (FP.l2d 0)), .second, .val (.int (0 : Int32))] [(.int (0 : Int32))])) _
    refine XS.aloadN X0.here hx rfl (hb hby d2_7) rfl rfl ?_
    show Steps p.tables e below (s₁.setTop (mkF m 8 #[.val (.ref a1), .val (.ref a2), .val (.double (FP.l2d 0)), .second, .val (.int (0 : Int32))] [(.ref a1), (.int (0 : Int32))])) _
    refine X0.arraylength hx (by rw [e0]; exact Ao1.1) (State.isArrayOf_alike hZ.alike Ao1.2.1) (g := (mkF m 8 #[.val (.ref a1), .val (.ref a2), .val (.double (FP.l2d 0)), .second, .val (.int (0 : Int32))] [(.ref a1), (.int (0 : Int32))])) rfl rfl (hb hby d2_8) _ ?_
    rw [len_of So1 Mo1]
    show Steps p.tables e below (s₁.setTop (mkF m 9 #[.val (.ref a1), .val (.ref a2), .val (.double (FP.l2d 0)), .second, .val (.int (0 : Int32))] [(.int (1 : Int32)), (.int (0 : Int32))])) _
    refine XS.icmpNo X0.here hx rfl (hb hby d2_9) rfl (tlt (by decide : (0 : Int32) < (1 : Int32))).2.1 ?_
    show Steps p.tables e below (s₁.setTop (mkF m 12 #[.val (.ref a1), .val (.ref a2), .val (.double (FP.l2d 0)), .second, .val (.int (0 : Int32))] [])) _
    refine XS.dloadN X0.here hx rfl (hb hby d2_12) rfl ?_
    show Steps p.tables e below (s₁.setTop (mkF m 13 #[.val (.ref a1), .val (.ref a2), .val (.double (FP.l2d 0)), .second, .val (.int (0 : Int32))] [(.double (FP.l2d 0))])) _
    refine XS.aloadN X0.here hx rfl (hb hby d2_13) rfl rfl ?_
    show Steps p.tables e below (s₁.setTop (mkF m 14 #[.val (.ref a1), .val (.ref a2), .val (.double (FP.l2d 0)), .second, .val (.int (0 : Int32))] [(.ref a1), (.double (FP.l2d 0))])) _
    refine XS.iload X0.here hx rfl (hb hby d2_14) rfl ?_
    show Steps p.tables e below (s₁.setTop (mkF m 16 #[.val (.ref a1), .val (.ref a2), .val (.double (FP.l2d 0)), .second, .val (.int (0 : Int32))] [(.int (0 : Int32)), (.ref a1), (.double (FP.l2d 0))])) _
    refine X0.daload hx (j := (0 : Int32)) (v := (.double (FP.l2d x0))) (by rw [e0]; exact Ao2.1) (State.isArrayOf_alike hZ.alike Ao2.2.1) Ao2.2.2 (inb_of So2 ⟨(by decide), (by decide)⟩) (Has.at Bo2 (inb_of So2 ⟨(by decide), (by decide)⟩) rfl) (g := (mkF m 16 #[.val (.ref a1), .val (.ref a2), .val (.double (FP.l2d 0)), .second, .val (.int (0 : Int32))] [(.int (0 : Int32)), (.ref a1), (.double (FP.l2d 0))])) rfl rfl (hb hby d2_16) _ ?_
    show Steps p.tables e below (s₁.setTop (mkF m 17 #[.val (.ref a1), .val (.ref a2), .val (.double (FP.l2d 0)), .second, .val (.int (0 : Int32))] [(.double (FP.l2d x0)), (.double (FP.l2d 0))])) _
    refine XS.aloadN X0.here hx rfl (hb hby d2_17) rfl rfl ?_
    show Steps p.tables e below (s₁.setTop (mkF m 18 #[.val (.ref a1), .val (.ref a2), .val (.double (FP.l2d 0)), .second, .val (.int (0 : Int32))] [(.ref a2), (.double (FP.l2d x0)), (.double (FP.l2d 0))])) _
    refine XS.iload X0.here hx rfl (hb hby d2_18) rfl ?_
    show Steps p.tables e below (s₁.setTop (mkF m 20 #[.val (.ref a1), .val (.ref a2), .val (.double (FP.l2d 0)), .second, .val (.int (0 : Int32))] [(.int (0 : Int32)), (.ref a2), (.double (FP.l2d x0)), (.double (FP.l2d 0))])) _
    refine X0.daload hx (j := (0 : Int32)) (v := (.double (FP.l2d y0))) (by rw [e0]; exact Ao3.1) (State.isArrayOf_alike hZ.alike Ao3.2.1) Ao3.2.2 (inb_of So3 ⟨(by decide), (by decide)⟩) (Has.at Bo3 (inb_of So3 ⟨(by decide), (by decide)⟩) rfl) (g := (mkF m 20 #[.val (.ref a1), .val (.ref a2), .val (.double (FP.l2d 0)), .second, .val (.int (0 : Int32))] [(.int (0 : Int32)), (.ref a2), (.double (FP.l2d x0)), (.double (FP.l2d 0))])) rfl rfl (hb hby d2_20) _ ?_
    show Steps p.tables e below (s₁.setTop (mkF m 21 #[.val (.ref a1), .val (.ref a2), .val (.double (FP.l2d 0)), .second, .val (.int (0 : Int32))] [(.double (FP.l2d y0)), (.double (FP.l2d x0)), (.double (FP.l2d 0))])) _
    refine XS.dmulS X0.here hx rfl (hb hby d2_21) rfl (own_mulnn hx0 hy0) (v := (FP.dmul (FP.l2d x0) (FP.l2d y0))) rfl ?_
    show Steps p.tables e below (s₁.setTop (mkF m 22 #[.val (.ref a1), .val (.ref a2), .val (.double (FP.l2d 0)), .second, .val (.int (0 : Int32))] [(.double (FP.dmul (FP.l2d x0) (FP.l2d y0))), (.double (FP.l2d 0))])) _
    refine XS.daddS X0.here hx rfl (hb hby d2_22) rfl (nn_w (own_fma hs0 hx0 hy0 (by decide))) (v := (FP.l2d ((0 : Int64) + (x0 * y0)))) (own_fma hs0 hx0 hy0 (by decide)) ?_
    show Steps p.tables e below (s₁.setTop (mkF m 23 #[.val (.ref a1), .val (.ref a2), .val (.double (FP.l2d 0)), .second, .val (.int (0 : Int32))] [(.double (FP.l2d ((0 : Int64) + (x0 * y0))))])) _
    refine XS.dstoreN X0.here hx rfl (hb hby d2_23) rfl (l' := #[.val (.ref a1), .val (.ref a2), .val (.double (FP.l2d ((0 : Int64) + (x0 * y0)))), .second, .val (.int (0 : Int32))]) rfl ?_
    show Steps p.tables e below (s₁.setTop (mkF m 24 #[.val (.ref a1), .val (.ref a2), .val (.double (FP.l2d ((0 : Int64) + (x0 * y0)))), .second, .val (.int (0 : Int32))] [])) _
    refine XS.iinc X0.here hx rfl (hb hby d2_24) rfl (l' := #[.val (.ref a1), .val (.ref a2), .val (.double (FP.l2d ((0 : Int64) + (x0 * y0)))), .second, .val (.int (1 : Int32))]) rfl ?_
    show Steps p.tables e below (s₁.setTop (mkF m 27 #[.val (.ref a1), .val (.ref a2), .val (.double (FP.l2d ((0 : Int64) + (x0 * y0)))), .second, .val (.int (1 : Int32))] [])) _
    refine XS.goto X0.here hx rfl (pc0 := 27) (pc' := 5) rfl (hb hby d2_27) (by decide) (by decide) ?_
    show Steps p.tables e below (s₁.setTop (mkF m 5 #[.val (.ref a1), .val (.ref a2), .val (.double (FP.l2d ((0 : Int64) + (x0 * y0)))), .second, .val (.int (1 : Int32))] [])) _
    refine XS.iload X0.here hx rfl (hb hby d2_5) rfl ?_
    show Steps p.tables e below (s₁.setTop (mkF m 7 #[.val (.ref a1), .val (.ref a2), .val (.double (FP.l2d ((0 : Int64) + (x0 * y0)))), .second, .val (.int (1 : Int32))] [(.int (1 : Int32))])) _
    refine XS.aloadN X0.here hx rfl (hb hby d2_7) rfl rfl ?_
    show Steps p.tables e below (s₁.setTop (mkF m 8 #[.val (.ref a1), .val (.ref a2), .val (.double (FP.l2d ((0 : Int64) + (x0 * y0)))), .second, .val (.int (1 : Int32))] [(.ref a1), (.int (1 : Int32))])) _
    refine X0.arraylength hx (by rw [e0]; exact Ao4.1) (State.isArrayOf_alike hZ.alike Ao4.2.1) (g := (mkF m 8 #[.val (.ref a1), .val (.ref a2), .val (.double (FP.l2d ((0 : Int64) + (x0 * y0)))), .second, .val (.int (1 : Int32))] [(.ref a1), (.int (1 : Int32))])) rfl rfl (hb hby d2_8) _ ?_
    rw [len_of So4 Mo4]
    show Steps p.tables e below (s₁.setTop (mkF m 9 #[.val (.ref a1), .val (.ref a2), .val (.double (FP.l2d ((0 : Int64) + (x0 * y0)))), .second, .val (.int (1 : Int32))] [(.int (1 : Int32)), (.int (1 : Int32))])) _
    refine XS.icmpYes X0.here hx rfl (pc0 := 9) (pc' := 30) rfl (hb hby d2_9) rfl (flt (by decide : ¬ ((1 : Int32) < (1 : Int32)))).2.1 (by decide) (by decide) ?_
    show Steps p.tables e below (s₁.setTop (mkF m 30 #[.val (.ref a1), .val (.ref a2), .val (.double (FP.l2d ((0 : Int64) + (x0 * y0)))), .second, .val (.int (1 : Int32))] [])) _
    refine XS.dloadN X0.here hx rfl (hb hby d2_30) rfl ?_
    show Steps p.tables e below (s₁.setTop (mkF m 31 #[.val (.ref a1), .val (.ref a2), .val (.double (FP.l2d ((0 : Int64) + (x0 * y0)))), .second, .val (.int (1 : Int32))] [(.double (FP.l2d ((0 : Int64) + (x0 * y0))))])) _
    exact retOut X0 hx Bd.returns rfl (Or.inr (Or.inr (Or.inl ⟨rfl, rfl, _, rfl⟩))) (hb hby d2_31) hr
  · show Q2_1 Z a1 a2 k1 k2 x0 y0 h0 n0 _ s₁.heap _
    rw [e0]
    exact ⟨rfl, N0, rfl⟩
theorem ef_2_2 (m : MethodId) (a1 : Addr) (a2 : Addr) : entryFrame m #[(.ref a1), (.ref a2)] 5 = mkF m 0 #[.val (.ref a1), .val (.ref a2), .unset, .unset, .unset] [] := by first | (simp [entryFrame, mkF, argsToLocals, Value.category]; done) | rfl
def Q2_2 (Z : State) (a1 : Addr) (a2 : Addr) (k1 : ClassId) (k2 : ClassId) (x0 : Int64) (x1 : Int64) (y0 : Int64) (y1 : Int64) (h0 : Heap) (n0 : Nat) (v : Option Value) (h : Heap) (L : List Loc) : Prop := v = some (.double (FP.l2d (((0 : Int64) + (x0 * y0)) + (x1 * y1)))) ∧ Fr n0 L ∧ h = h0
set_option maxRecDepth 65536 in
set_option maxHeartbeats 40000000 in
theorem rm2_2 (l : Launch) (Z : State) (a0 : Array Value) (hw : ∀ d ∈ tables_1, d.before a0 Z = true) (ws : List Jvm.Cond) (a1 : Addr) (a2 : Addr) (k1 : ClassId) (k2 : ClassId) (x0 : Int64) (x1 : Int64) (y0 : Int64) (y1 : Int64) (h0 : Heap) (n0 : Nat) (Z0 : n0 ≤ h0.size) (HV0 : Arv Z h0 a1 k1 .double (2 : Int32) [(.double (FP.l2d x0)), (.double (FP.l2d x1))] (.double (FP.l2d 0))) (HV1 : Arv Z h0 a2 k2 .double (2 : Int32) [(.double (FP.l2d y0)), (.double (FP.l2d y1))] (.double (FP.l2d 0))) (hx0 : (own_sm 32768 x0)) (hx1 : (own_sm 32768 x1)) (hy0 : (own_sm 32768 y0)) (hy1 : (own_sm 32768 y1)) :
    MetFree l (⟨"com/example/prudent_feedback/prudentfeedback/coefficient/LogisticFit", "dot", "([D[D)D"⟩ : MethodName) (head1 (Jvm.Cond.code (⟨"com/example/prudent_feedback/prudentfeedback/coefficient/LogisticFit", "dot", "([D[D)D"⟩ : MethodName) prog_9_method_8_code 5 (some .double) :: ws) ({ frames := 0, cells := 0, slots := 0, locals := 0 } : Room)) (fun a U => a = #[(.ref a1), (.ref a2)] ∧ Z.Warmed39 U.vm ∧ U.heap = h0) (fun _ _ _ _ _ => True) (fun _ U o U' => ∃ v L, o = .returned v ∧ Q2_2 Z a1 a2 k1 k2 x0 x1 y0 y1 h0 n0 v U'.heap L ∧ FrameEnd U o U' L ({ frames := 0, cells := 0, slots := 0, locals := 0 } : Room).cells ({ frames := 0, cells := 0, slots := 0, locals := 0 } : Room).slots) := by
  refine MetFree.of_bodySF (plainFor_of_name pn_1) hisR ?_
  intro p e s m args below meth c s₁ Bd hml0 hP hK
  obtain ⟨rfl, hZ, hh⟩ := hP
  have hx := Bd.exec
  have hby := Bd.bytes
  have hml : c.maxLocals = 5 := hml0
  have hown : s.vm.findClass "com/example/prudent_feedback/prudentfeedback/coefficient/LogisticFit" = some m.cls := findClass_of_methodNamed Bd.named
  have hnm := (name_of_methodNamed Bd.named Bd.method).1
  have X0 : Stand p l e ({ frames := 0, cells := 0, slots := 0, locals := 0 } : Room) s m #[(.ref a1), (.ref a2)] below meth c s₁ [] 0 0 := Stand.of_body Bd
  have e0 : s₁.heap = h0 := by rw [← hh, Bd.state]; rfl
  have N0 := Fr.nil n0
  have pre0 : ∀ t, Steps p.tables e below (s₁.setTop (mkF m 0 #[.val (.ref a1), .val (.ref a2), .unset, .unset, .unset] [])) t → Steps p.tables e below (s₁.setTop (entryFrame m #[(.ref a1), (.ref a2)] 5)) t := fun t k => castTop (ef_2_2 m a1 a2) k
  have hs0 : own_sm 0 (0 : Int64) := own_sm0
  have hs1 : own_sm 1073741824 ((0 : Int64) + (x0 * y0)) := own_addi hs0 (own_muli hx0 hy0) (by decide)
  have hs2 : own_sm 2147483648 (((0 : Int64) + (x0 * y0)) + (x1 * y1)) := own_addi hs1 (own_muli hx1 hy1) (by decide)
  obtain ⟨co1, Ao1, qo1, So1, Mo1, Bo1, Go1⟩ := id HV0
  obtain ⟨co2, Ao2, qo2, So2, Mo2, Bo2, Go2⟩ := id HV0
  obtain ⟨co3, Ao3, qo3, So3, Mo3, Bo3, Go3⟩ := id HV1
  obtain ⟨co4, Ao4, qo4, So4, Mo4, Bo4, Go4⟩ := id HV0
  obtain ⟨co5, Ao5, qo5, So5, Mo5, Bo5, Go5⟩ := id HV0
  obtain ⟨co6, Ao6, qo6, So6, Mo6, Bo6, Go6⟩ := id HV1
  obtain ⟨co7, Ao7, qo7, So7, Mo7, Bo7, Go7⟩ := id HV0
  obtain ⟨fs, hr, hrun, hended, hW, hsame⟩ := X0.leave (v := some (.double (FP.l2d (((0 : Int64) + (x0 * y0)) + (x1 * y1))))) (fun h => by rw [Bd.returns] at h; cases h)
  refine ⟨_, _, pre0 _ ?_, hrun, hended, _, _, rfl, ?_, ⟨_, rfl⟩, hW, hsame.mono (by decide) (by decide)⟩
  · show Steps p.tables e below (s₁.setTop (mkF m 0 #[.val (.ref a1), .val (.ref a2), .unset, .unset, .unset] [])) _
    refine XS.dconst0 X0.here hx rfl (hb hby d2_0) (v := FP.l2d 0) (by decide +kernel) ?_
    show Steps p.tables e below (s₁.setTop (mkF m 1 #[.val (.ref a1), .val (.ref a2), .unset, .unset, .unset] [(.double (FP.l2d 0))])) _
    refine XS.dstoreN X0.here hx rfl (hb hby d2_1) rfl (l' := #[.val (.ref a1), .val (.ref a2), .val (.double (FP.l2d 0)), .second, .unset]) rfl ?_
    show Steps p.tables e below (s₁.setTop (mkF m 2 #[.val (.ref a1), .val (.ref a2), .val (.double (FP.l2d 0)), .second, .unset] [])) _
    refine XS.iconst X0.here hx rfl (hb hby d2_2) ?_
    show Steps p.tables e below (s₁.setTop (mkF m 3 #[.val (.ref a1), .val (.ref a2), .val (.double (FP.l2d 0)), .second, .unset] [(.int (0 : Int32))])) _
    refine XS.istore X0.here hx rfl (hb hby d2_3) rfl (l' := #[.val (.ref a1), .val (.ref a2), .val (.double (FP.l2d 0)), .second, .val (.int (0 : Int32))]) rfl ?_
    show Steps p.tables e below (s₁.setTop (mkF m 5 #[.val (.ref a1), .val (.ref a2), .val (.double (FP.l2d 0)), .second, .val (.int (0 : Int32))] [])) _
    refine XS.iload X0.here hx rfl (hb hby d2_5) rfl ?_
    show Steps p.tables e below (s₁.setTop (mkF m 7 #[.val (.ref a1), .val (.ref a2), .val (.double (FP.l2d 0)), .second, .val (.int (0 : Int32))] [(.int (0 : Int32))])) _
    refine XS.aloadN X0.here hx rfl (hb hby d2_7) rfl rfl ?_
    show Steps p.tables e below (s₁.setTop (mkF m 8 #[.val (.ref a1), .val (.ref a2), .val (.double (FP.l2d 0)), .second, .val (.int (0 : Int32))] [(.ref a1), (.int (0 : Int32))])) _
    refine X0.arraylength hx (by rw [e0]; exact Ao1.1) (State.isArrayOf_alike hZ.alike Ao1.2.1) (g := (mkF m 8 #[.val (.ref a1), .val (.ref a2), .val (.double (FP.l2d 0)), .second, .val (.int (0 : Int32))] [(.ref a1), (.int (0 : Int32))])) rfl rfl (hb hby d2_8) _ ?_
    rw [len_of So1 Mo1]
    show Steps p.tables e below (s₁.setTop (mkF m 9 #[.val (.ref a1), .val (.ref a2), .val (.double (FP.l2d 0)), .second, .val (.int (0 : Int32))] [(.int (2 : Int32)), (.int (0 : Int32))])) _
    refine XS.icmpNo X0.here hx rfl (hb hby d2_9) rfl (tlt (by decide : (0 : Int32) < (2 : Int32))).2.1 ?_
    show Steps p.tables e below (s₁.setTop (mkF m 12 #[.val (.ref a1), .val (.ref a2), .val (.double (FP.l2d 0)), .second, .val (.int (0 : Int32))] [])) _
    refine XS.dloadN X0.here hx rfl (hb hby d2_12) rfl ?_
    show Steps p.tables e below (s₁.setTop (mkF m 13 #[.val (.ref a1), .val (.ref a2), .val (.double (FP.l2d 0)), .second, .val (.int (0 : Int32))] [(.double (FP.l2d 0))])) _
    refine XS.aloadN X0.here hx rfl (hb hby d2_13) rfl rfl ?_
    show Steps p.tables e below (s₁.setTop (mkF m 14 #[.val (.ref a1), .val (.ref a2), .val (.double (FP.l2d 0)), .second, .val (.int (0 : Int32))] [(.ref a1), (.double (FP.l2d 0))])) _
    refine XS.iload X0.here hx rfl (hb hby d2_14) rfl ?_
    show Steps p.tables e below (s₁.setTop (mkF m 16 #[.val (.ref a1), .val (.ref a2), .val (.double (FP.l2d 0)), .second, .val (.int (0 : Int32))] [(.int (0 : Int32)), (.ref a1), (.double (FP.l2d 0))])) _
    refine X0.daload hx (j := (0 : Int32)) (v := (.double (FP.l2d x0))) (by rw [e0]; exact Ao2.1) (State.isArrayOf_alike hZ.alike Ao2.2.1) Ao2.2.2 (inb_of So2 ⟨(by decide), (by decide)⟩) (Has.at Bo2 (inb_of So2 ⟨(by decide), (by decide)⟩) rfl) (g := (mkF m 16 #[.val (.ref a1), .val (.ref a2), .val (.double (FP.l2d 0)), .second, .val (.int (0 : Int32))] [(.int (0 : Int32)), (.ref a1), (.double (FP.l2d 0))])) rfl rfl (hb hby d2_16) _ ?_
    show Steps p.tables e below (s₁.setTop (mkF m 17 #[.val (.ref a1), .val (.ref a2), .val (.double (FP.l2d 0)), .second, .val (.int (0 : Int32))] [(.double (FP.l2d x0)), (.double (FP.l2d 0))])) _
    refine XS.aloadN X0.here hx rfl (hb hby d2_17) rfl rfl ?_
    show Steps p.tables e below (s₁.setTop (mkF m 18 #[.val (.ref a1), .val (.ref a2), .val (.double (FP.l2d 0)), .second, .val (.int (0 : Int32))] [(.ref a2), (.double (FP.l2d x0)), (.double (FP.l2d 0))])) _
    refine XS.iload X0.here hx rfl (hb hby d2_18) rfl ?_
    show Steps p.tables e below (s₁.setTop (mkF m 20 #[.val (.ref a1), .val (.ref a2), .val (.double (FP.l2d 0)), .second, .val (.int (0 : Int32))] [(.int (0 : Int32)), (.ref a2), (.double (FP.l2d x0)), (.double (FP.l2d 0))])) _
    refine X0.daload hx (j := (0 : Int32)) (v := (.double (FP.l2d y0))) (by rw [e0]; exact Ao3.1) (State.isArrayOf_alike hZ.alike Ao3.2.1) Ao3.2.2 (inb_of So3 ⟨(by decide), (by decide)⟩) (Has.at Bo3 (inb_of So3 ⟨(by decide), (by decide)⟩) rfl) (g := (mkF m 20 #[.val (.ref a1), .val (.ref a2), .val (.double (FP.l2d 0)), .second, .val (.int (0 : Int32))] [(.int (0 : Int32)), (.ref a2), (.double (FP.l2d x0)), (.double (FP.l2d 0))])) rfl rfl (hb hby d2_20) _ ?_
    show Steps p.tables e below (s₁.setTop (mkF m 21 #[.val (.ref a1), .val (.ref a2), .val (.double (FP.l2d 0)), .second, .val (.int (0 : Int32))] [(.double (FP.l2d y0)), (.double (FP.l2d x0)), (.double (FP.l2d 0))])) _
    refine XS.dmulS X0.here hx rfl (hb hby d2_21) rfl (own_mulnn hx0 hy0) (v := (FP.dmul (FP.l2d x0) (FP.l2d y0))) rfl ?_
    show Steps p.tables e below (s₁.setTop (mkF m 22 #[.val (.ref a1), .val (.ref a2), .val (.double (FP.l2d 0)), .second, .val (.int (0 : Int32))] [(.double (FP.dmul (FP.l2d x0) (FP.l2d y0))), (.double (FP.l2d 0))])) _
    refine XS.daddS X0.here hx rfl (hb hby d2_22) rfl (nn_w (own_fma hs0 hx0 hy0 (by decide))) (v := (FP.l2d ((0 : Int64) + (x0 * y0)))) (own_fma hs0 hx0 hy0 (by decide)) ?_
    show Steps p.tables e below (s₁.setTop (mkF m 23 #[.val (.ref a1), .val (.ref a2), .val (.double (FP.l2d 0)), .second, .val (.int (0 : Int32))] [(.double (FP.l2d ((0 : Int64) + (x0 * y0))))])) _
    refine XS.dstoreN X0.here hx rfl (hb hby d2_23) rfl (l' := #[.val (.ref a1), .val (.ref a2), .val (.double (FP.l2d ((0 : Int64) + (x0 * y0)))), .second, .val (.int (0 : Int32))]) rfl ?_
    show Steps p.tables e below (s₁.setTop (mkF m 24 #[.val (.ref a1), .val (.ref a2), .val (.double (FP.l2d ((0 : Int64) + (x0 * y0)))), .second, .val (.int (0 : Int32))] [])) _
    refine XS.iinc X0.here hx rfl (hb hby d2_24) rfl (l' := #[.val (.ref a1), .val (.ref a2), .val (.double (FP.l2d ((0 : Int64) + (x0 * y0)))), .second, .val (.int (1 : Int32))]) rfl ?_
    show Steps p.tables e below (s₁.setTop (mkF m 27 #[.val (.ref a1), .val (.ref a2), .val (.double (FP.l2d ((0 : Int64) + (x0 * y0)))), .second, .val (.int (1 : Int32))] [])) _
    refine XS.goto X0.here hx rfl (pc0 := 27) (pc' := 5) rfl (hb hby d2_27) (by decide) (by decide) ?_
    show Steps p.tables e below (s₁.setTop (mkF m 5 #[.val (.ref a1), .val (.ref a2), .val (.double (FP.l2d ((0 : Int64) + (x0 * y0)))), .second, .val (.int (1 : Int32))] [])) _
    refine XS.iload X0.here hx rfl (hb hby d2_5) rfl ?_
    show Steps p.tables e below (s₁.setTop (mkF m 7 #[.val (.ref a1), .val (.ref a2), .val (.double (FP.l2d ((0 : Int64) + (x0 * y0)))), .second, .val (.int (1 : Int32))] [(.int (1 : Int32))])) _
    refine XS.aloadN X0.here hx rfl (hb hby d2_7) rfl rfl ?_
    show Steps p.tables e below (s₁.setTop (mkF m 8 #[.val (.ref a1), .val (.ref a2), .val (.double (FP.l2d ((0 : Int64) + (x0 * y0)))), .second, .val (.int (1 : Int32))] [(.ref a1), (.int (1 : Int32))])) _
    refine X0.arraylength hx (by rw [e0]; exact Ao4.1) (State.isArrayOf_alike hZ.alike Ao4.2.1) (g := (mkF m 8 #[.val (.ref a1), .val (.ref a2), .val (.double (FP.l2d ((0 : Int64) + (x0 * y0)))), .second, .val (.int (1 : Int32))] [(.ref a1), (.int (1 : Int32))])) rfl rfl (hb hby d2_8) _ ?_
    rw [len_of So4 Mo4]
    show Steps p.tables e below (s₁.setTop (mkF m 9 #[.val (.ref a1), .val (.ref a2), .val (.double (FP.l2d ((0 : Int64) + (x0 * y0)))), .second, .val (.int (1 : Int32))] [(.int (2 : Int32)), (.int (1 : Int32))])) _
    refine XS.icmpNo X0.here hx rfl (hb hby d2_9) rfl (tlt (by decide : (1 : Int32) < (2 : Int32))).2.1 ?_
    show Steps p.tables e below (s₁.setTop (mkF m 12 #[.val (.ref a1), .val (.ref a2), .val (.double (FP.l2d ((0 : Int64) + (x0 * y0)))), .second, .val (.int (1 : Int32))] [])) _
    refine XS.dloadN X0.here hx rfl (hb hby d2_12) rfl ?_
    show Steps p.tables e below (s₁.setTop (mkF m 13 #[.val (.ref a1), .val (.ref a2), .val (.double (FP.l2d ((0 : Int64) + (x0 * y0)))), .second, .val (.int (1 : Int32))] [(.double (FP.l2d ((0 : Int64) + (x0 * y0))))])) _
    refine XS.aloadN X0.here hx rfl (hb hby d2_13) rfl rfl ?_
    show Steps p.tables e below (s₁.setTop (mkF m 14 #[.val (.ref a1), .val (.ref a2), .val (.double (FP.l2d ((0 : Int64) + (x0 * y0)))), .second, .val (.int (1 : Int32))] [(.ref a1), (.double (FP.l2d ((0 : Int64) + (x0 * y0))))])) _
    refine XS.iload X0.here hx rfl (hb hby d2_14) rfl ?_
    show Steps p.tables e below (s₁.setTop (mkF m 16 #[.val (.ref a1), .val (.ref a2), .val (.double (FP.l2d ((0 : Int64) + (x0 * y0)))), .second, .val (.int (1 : Int32))] [(.int (1 : Int32)), (.ref a1), (.double (FP.l2d ((0 : Int64) + (x0 * y0))))])) _
    refine X0.daload hx (j := (1 : Int32)) (v := (.double (FP.l2d x1))) (by rw [e0]; exact Ao5.1) (State.isArrayOf_alike hZ.alike Ao5.2.1) Ao5.2.2 (inb_of So5 ⟨(by decide), (by decide)⟩) (Has.at Bo5 (inb_of So5 ⟨(by decide), (by decide)⟩) rfl) (g := (mkF m 16 #[.val (.ref a1), .val (.ref a2), .val (.double (FP.l2d ((0 : Int64) + (x0 * y0)))), .second, .val (.int (1 : Int32))] [(.int (1 : Int32)), (.ref a1), (.double (FP.l2d ((0 : Int64) + (x0 * y0))))])) rfl rfl (hb hby d2_16) _ ?_
    show Steps p.tables e below (s₁.setTop (mkF m 17 #[.val (.ref a1), .val (.ref a2), .val (.double (FP.l2d ((0 : Int64) + (x0 * y0)))), .second, .val (.int (1 : Int32))] [(.double (FP.l2d x1)), (.double (FP.l2d ((0 : Int64) + (x0 * y0))))])) _
    refine XS.aloadN X0.here hx rfl (hb hby d2_17) rfl rfl ?_
    show Steps p.tables e below (s₁.setTop (mkF m 18 #[.val (.ref a1), .val (.ref a2), .val (.double (FP.l2d ((0 : Int64) + (x0 * y0)))), .second, .val (.int (1 : Int32))] [(.ref a2), (.double (FP.l2d x1)), (.double (FP.l2d ((0 : Int64) + (x0 * y0))))])) _
    refine XS.iload X0.here hx rfl (hb hby d2_18) rfl ?_
    show Steps p.tables e below (s₁.setTop (mkF m 20 #[.val (.ref a1), .val (.ref a2), .val (.double (FP.l2d ((0 : Int64) + (x0 * y0)))), .second, .val (.int (1 : Int32))] [(.int (1 : Int32)), (.ref a2), (.double (FP.l2d x1)), (.double (FP.l2d ((0 : Int64) + (x0 * y0))))])) _
    refine X0.daload hx (j := (1 : Int32)) (v := (.double (FP.l2d y1))) (by rw [e0]; exact Ao6.1) (State.isArrayOf_alike hZ.alike Ao6.2.1) Ao6.2.2 (inb_of So6 ⟨(by decide), (by decide)⟩) (Has.at Bo6 (inb_of So6 ⟨(by decide), (by decide)⟩) rfl) (g := (mkF m 20 #[.val (.ref a1), .val (.ref a2), .val (.double (FP.l2d ((0 : Int64) + (x0 * y0)))), .second, .val (.int (1 : Int32))] [(.int (1 : Int32)), (.ref a2), (.double (FP.l2d x1)), (.double (FP.l2d ((0 : Int64) + (x0 * y0))))])) rfl rfl (hb hby d2_20) _ ?_
    show Steps p.tables e below (s₁.setTop (mkF m 21 #[.val (.ref a1), .val (.ref a2), .val (.double (FP.l2d ((0 : Int64) + (x0 * y0)))), .second, .val (.int (1 : Int32))] [(.double (FP.l2d y1)), (.double (FP.l2d x1)), (.double (FP.l2d ((0 : Int64) + (x0 * y0))))])) _
    refine XS.dmulS X0.here hx rfl (hb hby d2_21) rfl (own_mulnn hx1 hy1) (v := (FP.dmul (FP.l2d x1) (FP.l2d y1))) rfl ?_
    show Steps p.tables e below (s₁.setTop (mkF m 22 #[.val (.ref a1), .val (.ref a2), .val (.double (FP.l2d ((0 : Int64) + (x0 * y0)))), .second, .val (.int (1 : Int32))] [(.double (FP.dmul (FP.l2d x1) (FP.l2d y1))), (.double (FP.l2d ((0 : Int64) + (x0 * y0))))])) _
    refine XS.daddS X0.here hx rfl (hb hby d2_22) rfl (nn_w (own_fma hs1 hx1 hy1 (by decide))) (v := (FP.l2d (((0 : Int64) + (x0 * y0)) + (x1 * y1)))) (own_fma hs1 hx1 hy1 (by decide)) ?_
    show Steps p.tables e below (s₁.setTop (mkF m 23 #[.val (.ref a1), .val (.ref a2), .val (.double (FP.l2d ((0 : Int64) + (x0 * y0)))), .second, .val (.int (1 : Int32))] [(.double (FP.l2d (((0 : Int64) + (x0 * y0)) + (x1 * y1))))])) _
    refine XS.dstoreN X0.here hx rfl (hb hby d2_23) rfl (l' := #[.val (.ref a1), .val (.ref a2), .val (.double (FP.l2d (((0 : Int64) + (x0 * y0)) + (x1 * y1)))), .second, .val (.int (1 : Int32))]) rfl ?_
    show Steps p.tables e below (s₁.setTop (mkF m 24 #[.val (.ref a1), .val (.ref a2), .val (.double (FP.l2d (((0 : Int64) + (x0 * y0)) + (x1 * y1)))), .second, .val (.int (1 : Int32))] [])) _
    refine XS.iinc X0.here hx rfl (hb hby d2_24) rfl (l' := #[.val (.ref a1), .val (.ref a2), .val (.double (FP.l2d (((0 : Int64) + (x0 * y0)) + (x1 * y1)))), .second, .val (.int (2 : Int32))]) rfl ?_
    show Steps p.tables e below (s₁.setTop (mkF m 27 #[.val (.ref a1), .val (.ref a2), .val (.double (FP.l2d (((0 : Int64) + (x0 * y0)) + (x1 * y1)))), .second, .val (.int (2 : Int32))] [])) _
    refine XS.goto X0.here hx rfl (pc0 := 27) (pc' := 5) rfl (hb hby d2_27) (by decide) (by decide) ?_
    show Steps p.tables e below (s₁.setTop (mkF m 5 #[.val (.ref a1), .val (.ref a2), .val (.double (FP.l2d (((0 : Int64) + (x0 * y0)) + (x1 * y1)))), .second, .val (.int (2 : Int32))] [])) _
    refine XS.iload X0.here hx rfl (hb hby d2_5) rfl ?_
    show Steps p.tables e below (s₁.setTop (mkF m 7 #[.val (.ref a1), .val (.ref a2), .val (.double (FP.l2d (((0 : Int64) + (x0 * y0)) + (x1 * y1)))), .second, .val (.int (2 : Int32))] [(.int (2 : Int32))])) _
    refine XS.aloadN X0.here hx rfl (hb hby d2_7) rfl rfl ?_
    show Steps p.tables e below (s₁.setTop (mkF m 8 #[.val (.ref a1), .val (.ref a2), .val (.double (FP.l2d (((0 : Int64) + (x0 * y0)) + (x1 * y1)))), .second, .val (.int (2 : Int32))] [(.ref a1), (.int (2 : Int32))])) _
    refine X0.arraylength hx (by rw [e0]; exact Ao7.1) (State.isArrayOf_alike hZ.alike Ao7.2.1) (g := (mkF m 8 #[.val (.ref a1), .val (.ref a2), .val (.double (FP.l2d (((0 : Int64) + (x0 * y0)) + (x1 * y1)))), .second, .val (.int (2 : Int32))] [(.ref a1), (.int (2 : Int32))])) rfl rfl (hb hby d2_8) _ ?_
    rw [len_of So7 Mo7]
    show Steps p.tables e below (s₁.setTop (mkF m 9 #[.val (.ref a1), .val (.ref a2), .val (.double (FP.l2d (((0 : Int64) + (x0 * y0)) + (x1 * y1)))), .second, .val (.int (2 : Int32))] [(.int (2 : Int32)), (.int (2 : Int32))])) _
    refine XS.icmpYes X0.here hx rfl (pc0 := 9) (pc' := 30) rfl (hb hby d2_9) rfl (flt (by decide : ¬ ((2 : Int32) < (2 : Int32)))).2.1 (by decide) (by decide) ?_
    show Steps p.tables e below (s₁.setTop (mkF m 30 #[.val (.ref a1), .val (.ref a2), .val (.double (FP.l2d (((0 : Int64) + (x0 * y0)) + (x1 * y1)))), .second, .val (.int (2 : Int32))] [])) _
    refine XS.dloadN X0.here hx rfl (hb hby d2_30) rfl ?_
    show Steps p.tables e below (s₁.setTop (mkF m 31 #[.val (.ref a1), .val (.ref a2), .val (.double (FP.l2d (((0 : Int64) + (x0 * y0)) + (x1 * y1)))), .second, .val (.int (2 : Int32))] [(.double (FP.l2d (((0 : Int64) + (x0 * y0)) + (x1 * y1))))])) _
    exact retOut X0 hx Bd.returns rfl (Or.inr (Or.inr (Or.inl ⟨rfl, rfl, _, rfl⟩))) (hb hby d2_31) hr
  · show Q2_2 Z a1 a2 k1 k2 x0 x1 y0 y1 h0 n0 _ s₁.heap _
    rw [e0]
    exact ⟨rfl, N0, rfl⟩
theorem ef_2_3 (m : MethodId) (a1 : Addr) (a2 : Addr) : entryFrame m #[(.ref a1), (.ref a2)] 5 = mkF m 0 #[.val (.ref a1), .val (.ref a2), .unset, .unset, .unset] [] := by first | (simp [entryFrame, mkF, argsToLocals, Value.category]; done) | rfl
def Q2_3 (Z : State) (a1 : Addr) (a2 : Addr) (k1 : ClassId) (k2 : ClassId) (x0 : Int64) (x1 : Int64) (x2 : Int64) (y0 : Int64) (y1 : Int64) (y2 : Int64) (h0 : Heap) (n0 : Nat) (v : Option Value) (h : Heap) (L : List Loc) : Prop := v = some (.double (FP.l2d ((((0 : Int64) + (x0 * y0)) + (x1 * y1)) + (x2 * y2)))) ∧ Fr n0 L ∧ h = h0
set_option maxRecDepth 65536 in
set_option maxHeartbeats 40000000 in
theorem rm2_3 (l : Launch) (Z : State) (a0 : Array Value) (hw : ∀ d ∈ tables_1, d.before a0 Z = true) (ws : List Jvm.Cond) (a1 : Addr) (a2 : Addr) (k1 : ClassId) (k2 : ClassId) (x0 : Int64) (x1 : Int64) (x2 : Int64) (y0 : Int64) (y1 : Int64) (y2 : Int64) (h0 : Heap) (n0 : Nat) (Z0 : n0 ≤ h0.size) (HV0 : Arv Z h0 a1 k1 .double (3 : Int32) [(.double (FP.l2d x0)), (.double (FP.l2d x1)), (.double (FP.l2d x2))] (.double (FP.l2d 0))) (HV1 : Arv Z h0 a2 k2 .double (3 : Int32) [(.double (FP.l2d y0)), (.double (FP.l2d y1)), (.double (FP.l2d y2))] (.double (FP.l2d 0))) (hx0 : (own_sm 32768 x0)) (hx1 : (own_sm 32768 x1)) (hx2 : (own_sm 32768 x2)) (hy0 : (own_sm 32768 y0)) (hy1 : (own_sm 32768 y1)) (hy2 : (own_sm 32768 y2)) :
    MetFree l (⟨"com/example/prudent_feedback/prudentfeedback/coefficient/LogisticFit", "dot", "([D[D)D"⟩ : MethodName) (head1 (Jvm.Cond.code (⟨"com/example/prudent_feedback/prudentfeedback/coefficient/LogisticFit", "dot", "([D[D)D"⟩ : MethodName) prog_9_method_8_code 5 (some .double) :: ws) ({ frames := 0, cells := 0, slots := 0, locals := 0 } : Room)) (fun a U => a = #[(.ref a1), (.ref a2)] ∧ Z.Warmed39 U.vm ∧ U.heap = h0) (fun _ _ _ _ _ => True) (fun _ U o U' => ∃ v L, o = .returned v ∧ Q2_3 Z a1 a2 k1 k2 x0 x1 x2 y0 y1 y2 h0 n0 v U'.heap L ∧ FrameEnd U o U' L ({ frames := 0, cells := 0, slots := 0, locals := 0 } : Room).cells ({ frames := 0, cells := 0, slots := 0, locals := 0 } : Room).slots) := by
  refine MetFree.of_bodySF (plainFor_of_name pn_1) hisR ?_
  intro p e s m args below meth c s₁ Bd hml0 hP hK
  obtain ⟨rfl, hZ, hh⟩ := hP
  have hx := Bd.exec
  have hby := Bd.bytes
  have hml : c.maxLocals = 5 := hml0
  have hown : s.vm.findClass "com/example/prudent_feedback/prudentfeedback/coefficient/LogisticFit" = some m.cls := findClass_of_methodNamed Bd.named
  have hnm := (name_of_methodNamed Bd.named Bd.method).1
  have X0 : Stand p l e ({ frames := 0, cells := 0, slots := 0, locals := 0 } : Room) s m #[(.ref a1), (.ref a2)] below meth c s₁ [] 0 0 := Stand.of_body Bd
  have e0 : s₁.heap = h0 := by rw [← hh, Bd.state]; rfl
  have N0 := Fr.nil n0
  have pre0 : ∀ t, Steps p.tables e below (s₁.setTop (mkF m 0 #[.val (.ref a1), .val (.ref a2), .unset, .unset, .unset] [])) t → Steps p.tables e below (s₁.setTop (entryFrame m #[(.ref a1), (.ref a2)] 5)) t := fun t k => castTop (ef_2_3 m a1 a2) k
  have hs0 : own_sm 0 (0 : Int64) := own_sm0
  have hs1 : own_sm 1073741824 ((0 : Int64) + (x0 * y0)) := own_addi hs0 (own_muli hx0 hy0) (by decide)
  have hs2 : own_sm 2147483648 (((0 : Int64) + (x0 * y0)) + (x1 * y1)) := own_addi hs1 (own_muli hx1 hy1) (by decide)
  have hs3 : own_sm 3221225472 ((((0 : Int64) + (x0 * y0)) + (x1 * y1)) + (x2 * y2)) := own_addi hs2 (own_muli hx2 hy2) (by decide)
  obtain ⟨co1, Ao1, qo1, So1, Mo1, Bo1, Go1⟩ := id HV0
  obtain ⟨co2, Ao2, qo2, So2, Mo2, Bo2, Go2⟩ := id HV0
  obtain ⟨co3, Ao3, qo3, So3, Mo3, Bo3, Go3⟩ := id HV1
  obtain ⟨co4, Ao4, qo4, So4, Mo4, Bo4, Go4⟩ := id HV0
  obtain ⟨co5, Ao5, qo5, So5, Mo5, Bo5, Go5⟩ := id HV0
  obtain ⟨co6, Ao6, qo6, So6, Mo6, Bo6, Go6⟩ := id HV1
  obtain ⟨co7, Ao7, qo7, So7, Mo7, Bo7, Go7⟩ := id HV0
  obtain ⟨co8, Ao8, qo8, So8, Mo8, Bo8, Go8⟩ := id HV0
  obtain ⟨co9, Ao9, qo9, So9, Mo9, Bo9, Go9⟩ := id HV1
  obtain ⟨co10, Ao10, qo10, So10, Mo10, Bo10, Go10⟩ := id HV0
  obtain ⟨fs, hr, hrun, hended, hW, hsame⟩ := X0.leave (v := some (.double (FP.l2d ((((0 : Int64) + (x0 * y0)) + (x1 * y1)) + (x2 * y2))))) (fun h => by rw [Bd.returns] at h; cases h)
  refine ⟨_, _, pre0 _ ?_, hrun, hended, _, _, rfl, ?_, ⟨_, rfl⟩, hW, hsame.mono (by decide) (by decide)⟩
  · show Steps p.tables e below (s₁.setTop (mkF m 0 #[.val (.ref a1), .val (.ref a2), .unset, .unset, .unset] [])) _
    refine XS.dconst0 X0.here hx rfl (hb hby d2_0) (v := FP.l2d 0) (by decide +kernel) ?_
    show Steps p.tables e below (s₁.setTop (mkF m 1 #[.val (.ref a1), .val (.ref a2), .unset, .unset, .unset] [(.double (FP.l2d 0))])) _
    refine XS.dstoreN X0.here hx rfl (hb hby d2_1) rfl (l' := #[.val (.ref a1), .val (.ref a2), .val (.double (FP.l2d 0)), .second, .unset]) rfl ?_
    show Steps p.tables e below (s₁.setTop (mkF m 2 #[.val (.ref a1), .val (.ref a2), .val (.double (FP.l2d 0)), .second, .unset] [])) _
    refine XS.iconst X0.here hx rfl (hb hby d2_2) ?_
    show Steps p.tables e below (s₁.setTop (mkF m 3 #[.val (.ref a1), .val (.ref a2), .val (.double (FP.l2d 0)), .second, .unset] [(.int (0 : Int32))])) _
    refine XS.istore X0.here hx rfl (hb hby d2_3) rfl (l' := #[.val (.ref a1), .val (.ref a2), .val (.double (FP.l2d 0)), .second, .val (.int (0 : Int32))]) rfl ?_
    show Steps p.tables e below (s₁.setTop (mkF m 5 #[.val (.ref a1), .val (.ref a2), .val (.double (FP.l2d 0)), .second, .val (.int (0 : Int32))] [])) _
    refine XS.iload X0.here hx rfl (hb hby d2_5) rfl ?_
    show Steps p.tables e below (s₁.setTop (mkF m 7 #[.val (.ref a1), .val (.ref a2), .val (.double (FP.l2d 0)), .second, .val (.int (0 : Int32))] [(.int (0 : Int32))])) _
    refine XS.aloadN X0.here hx rfl (hb hby d2_7) rfl rfl ?_
    show Steps p.tables e below (s₁.setTop (mkF m 8 #[.val (.ref a1), .val (.ref a2), .val (.double (FP.l2d 0)), .second, .val (.int (0 : Int32))] [(.ref a1), (.int (0 : Int32))])) _
    refine X0.arraylength hx (by rw [e0]; exact Ao1.1) (State.isArrayOf_alike hZ.alike Ao1.2.1) (g := (mkF m 8 #[.val (.ref a1), .val (.ref a2), .val (.double (FP.l2d 0)), .second, .val (.int (0 : Int32))] [(.ref a1), (.int (0 : Int32))])) rfl rfl (hb hby d2_8) _ ?_
    rw [len_of So1 Mo1]
    show Steps p.tables e below (s₁.setTop (mkF m 9 #[.val (.ref a1), .val (.ref a2), .val (.double (FP.l2d 0)), .second, .val (.int (0 : Int32))] [(.int (3 : Int32)), (.int (0 : Int32))])) _
    refine XS.icmpNo X0.here hx rfl (hb hby d2_9) rfl (tlt (by decide : (0 : Int32) < (3 : Int32))).2.1 ?_
    show Steps p.tables e below (s₁.setTop (mkF m 12 #[.val (.ref a1), .val (.ref a2), .val (.double (FP.l2d 0)), .second, .val (.int (0 : Int32))] [])) _
    refine XS.dloadN X0.here hx rfl (hb hby d2_12) rfl ?_
    show Steps p.tables e below (s₁.setTop (mkF m 13 #[.val (.ref a1), .val (.ref a2), .val (.double (FP.l2d 0)), .second, .val (.int (0 : Int32))] [(.double (FP.l2d 0))])) _
    refine XS.aloadN X0.here hx rfl (hb hby d2_13) rfl rfl ?_
    show Steps p.tables e below (s₁.setTop (mkF m 14 #[.val (.ref a1), .val (.ref a2), .val (.double (FP.l2d 0)), .second, .val (.int (0 : Int32))] [(.ref a1), (.double (FP.l2d 0))])) _
    refine XS.iload X0.here hx rfl (hb hby d2_14) rfl ?_
    show Steps p.tables e below (s₁.setTop (mkF m 16 #[.val (.ref a1), .val (.ref a2), .val (.double (FP.l2d 0)), .second, .val (.int (0 : Int32))] [(.int (0 : Int32)), (.ref a1), (.double (FP.l2d 0))])) _
    refine X0.daload hx (j := (0 : Int32)) (v := (.double (FP.l2d x0))) (by rw [e0]; exact Ao2.1) (State.isArrayOf_alike hZ.alike Ao2.2.1) Ao2.2.2 (inb_of So2 ⟨(by decide), (by decide)⟩) (Has.at Bo2 (inb_of So2 ⟨(by decide), (by decide)⟩) rfl) (g := (mkF m 16 #[.val (.ref a1), .val (.ref a2), .val (.double (FP.l2d 0)), .second, .val (.int (0 : Int32))] [(.int (0 : Int32)), (.ref a1), (.double (FP.l2d 0))])) rfl rfl (hb hby d2_16) _ ?_
    show Steps p.tables e below (s₁.setTop (mkF m 17 #[.val (.ref a1), .val (.ref a2), .val (.double (FP.l2d 0)), .second, .val (.int (0 : Int32))] [(.double (FP.l2d x0)), (.double (FP.l2d 0))])) _
    refine XS.aloadN X0.here hx rfl (hb hby d2_17) rfl rfl ?_
    show Steps p.tables e below (s₁.setTop (mkF m 18 #[.val (.ref a1), .val (.ref a2), .val (.double (FP.l2d 0)), .second, .val (.int (0 : Int32))] [(.ref a2), (.double (FP.l2d x0)), (.double (FP.l2d 0))])) _
    refine XS.iload X0.here hx rfl (hb hby d2_18) rfl ?_
    show Steps p.tables e below (s₁.setTop (mkF m 20 #[.val (.ref a1), .val (.ref a2), .val (.double (FP.l2d 0)), .second, .val (.int (0 : Int32))] [(.int (0 : Int32)), (.ref a2), (.double (FP.l2d x0)), (.double (FP.l2d 0))])) _
    refine X0.daload hx (j := (0 : Int32)) (v := (.double (FP.l2d y0))) (by rw [e0]; exact Ao3.1) (State.isArrayOf_alike hZ.alike Ao3.2.1) Ao3.2.2 (inb_of So3 ⟨(by decide), (by decide)⟩) (Has.at Bo3 (inb_of So3 ⟨(by decide), (by decide)⟩) rfl) (g := (mkF m 20 #[.val (.ref a1), .val (.ref a2), .val (.double (FP.l2d 0)), .second, .val (.int (0 : Int32))] [(.int (0 : Int32)), (.ref a2), (.double (FP.l2d x0)), (.double (FP.l2d 0))])) rfl rfl (hb hby d2_20) _ ?_
    show Steps p.tables e below (s₁.setTop (mkF m 21 #[.val (.ref a1), .val (.ref a2), .val (.double (FP.l2d 0)), .second, .val (.int (0 : Int32))] [(.double (FP.l2d y0)), (.double (FP.l2d x0)), (.double (FP.l2d 0))])) _
    refine XS.dmulS X0.here hx rfl (hb hby d2_21) rfl (own_mulnn hx0 hy0) (v := (FP.dmul (FP.l2d x0) (FP.l2d y0))) rfl ?_
    show Steps p.tables e below (s₁.setTop (mkF m 22 #[.val (.ref a1), .val (.ref a2), .val (.double (FP.l2d 0)), .second, .val (.int (0 : Int32))] [(.double (FP.dmul (FP.l2d x0) (FP.l2d y0))), (.double (FP.l2d 0))])) _
    refine XS.daddS X0.here hx rfl (hb hby d2_22) rfl (nn_w (own_fma hs0 hx0 hy0 (by decide))) (v := (FP.l2d ((0 : Int64) + (x0 * y0)))) (own_fma hs0 hx0 hy0 (by decide)) ?_
    show Steps p.tables e below (s₁.setTop (mkF m 23 #[.val (.ref a1), .val (.ref a2), .val (.double (FP.l2d 0)), .second, .val (.int (0 : Int32))] [(.double (FP.l2d ((0 : Int64) + (x0 * y0))))])) _
    refine XS.dstoreN X0.here hx rfl (hb hby d2_23) rfl (l' := #[.val (.ref a1), .val (.ref a2), .val (.double (FP.l2d ((0 : Int64) + (x0 * y0)))), .second, .val (.int (0 : Int32))]) rfl ?_
    show Steps p.tables e below (s₁.setTop (mkF m 24 #[.val (.ref a1), .val (.ref a2), .val (.double (FP.l2d ((0 : Int64) + (x0 * y0)))), .second, .val (.int (0 : Int32))] [])) _
    refine XS.iinc X0.here hx rfl (hb hby d2_24) rfl (l' := #[.val (.ref a1), .val (.ref a2), .val (.double (FP.l2d ((0 : Int64) + (x0 * y0)))), .second, .val (.int (1 : Int32))]) rfl ?_
    show Steps p.tables e below (s₁.setTop (mkF m 27 #[.val (.ref a1), .val (.ref a2), .val (.double (FP.l2d ((0 : Int64) + (x0 * y0)))), .second, .val (.int (1 : Int32))] [])) _
    refine XS.goto X0.here hx rfl (pc0 := 27) (pc' := 5) rfl (hb hby d2_27) (by decide) (by decide) ?_
    show Steps p.tables e below (s₁.setTop (mkF m 5 #[.val (.ref a1), .val (.ref a2), .val (.double (FP.l2d ((0 : Int64) + (x0 * y0)))), .second, .val (.int (1 : Int32))] [])) _
    refine XS.iload X0.here hx rfl (hb hby d2_5) rfl ?_
    show Steps p.tables e below (s₁.setTop (mkF m 7 #[.val (.ref a1), .val (.ref a2), .val (.double (FP.l2d ((0 : Int64) + (x0 * y0)))), .second, .val (.int (1 : Int32))] [(.int (1 : Int32))])) _
    refine XS.aloadN X0.here hx rfl (hb hby d2_7) rfl rfl ?_
    show Steps p.tables e below (s₁.setTop (mkF m 8 #[.val (.ref a1), .val (.ref a2), .val (.double (FP.l2d ((0 : Int64) + (x0 * y0)))), .second, .val (.int (1 : Int32))] [(.ref a1), (.int (1 : Int32))])) _
    refine X0.arraylength hx (by rw [e0]; exact Ao4.1) (State.isArrayOf_alike hZ.alike Ao4.2.1) (g := (mkF m 8 #[.val (.ref a1), .val (.ref a2), .val (.double (FP.l2d ((0 : Int64) + (x0 * y0)))), .second, .val (.int (1 : Int32))] [(.ref a1), (.int (1 : Int32))])) rfl rfl (hb hby d2_8) _ ?_
    rw [len_of So4 Mo4]
    show Steps p.tables e below (s₁.setTop (mkF m 9 #[.val (.ref a1), .val (.ref a2), .val (.double (FP.l2d ((0 : Int64) + (x0 * y0)))), .second, .val (.int (1 : Int32))] [(.int (3 : Int32)), (.int (1 : Int32))])) _
    refine XS.icmpNo X0.here hx rfl (hb hby d2_9) rfl (tlt (by decide : (1 : Int32) < (3 : Int32))).2.1 ?_
    show Steps p.tables e below (s₁.setTop (mkF m 12 #[.val (.ref a1), .val (.ref a2), .val (.double (FP.l2d ((0 : Int64) + (x0 * y0)))), .second, .val (.int (1 : Int32))] [])) _
    refine XS.dloadN X0.here hx rfl (hb hby d2_12) rfl ?_
    show Steps p.tables e below (s₁.setTop (mkF m 13 #[.val (.ref a1), .val (.ref a2), .val (.double (FP.l2d ((0 : Int64) + (x0 * y0)))), .second, .val (.int (1 : Int32))] [(.double (FP.l2d ((0 : Int64) + (x0 * y0))))])) _
    refine XS.aloadN X0.here hx rfl (hb hby d2_13) rfl rfl ?_
    show Steps p.tables e below (s₁.setTop (mkF m 14 #[.val (.ref a1), .val (.ref a2), .val (.double (FP.l2d ((0 : Int64) + (x0 * y0)))), .second, .val (.int (1 : Int32))] [(.ref a1), (.double (FP.l2d ((0 : Int64) + (x0 * y0))))])) _
    refine XS.iload X0.here hx rfl (hb hby d2_14) rfl ?_
    show Steps p.tables e below (s₁.setTop (mkF m 16 #[.val (.ref a1), .val (.ref a2), .val (.double (FP.l2d ((0 : Int64) + (x0 * y0)))), .second, .val (.int (1 : Int32))] [(.int (1 : Int32)), (.ref a1), (.double (FP.l2d ((0 : Int64) + (x0 * y0))))])) _
    refine X0.daload hx (j := (1 : Int32)) (v := (.double (FP.l2d x1))) (by rw [e0]; exact Ao5.1) (State.isArrayOf_alike hZ.alike Ao5.2.1) Ao5.2.2 (inb_of So5 ⟨(by decide), (by decide)⟩) (Has.at Bo5 (inb_of So5 ⟨(by decide), (by decide)⟩) rfl) (g := (mkF m 16 #[.val (.ref a1), .val (.ref a2), .val (.double (FP.l2d ((0 : Int64) + (x0 * y0)))), .second, .val (.int (1 : Int32))] [(.int (1 : Int32)), (.ref a1), (.double (FP.l2d ((0 : Int64) + (x0 * y0))))])) rfl rfl (hb hby d2_16) _ ?_
    show Steps p.tables e below (s₁.setTop (mkF m 17 #[.val (.ref a1), .val (.ref a2), .val (.double (FP.l2d ((0 : Int64) + (x0 * y0)))), .second, .val (.int (1 : Int32))] [(.double (FP.l2d x1)), (.double (FP.l2d ((0 : Int64) + (x0 * y0))))])) _
    refine XS.aloadN X0.here hx rfl (hb hby d2_17) rfl rfl ?_
    show Steps p.tables e below (s₁.setTop (mkF m 18 #[.val (.ref a1), .val (.ref a2), .val (.double (FP.l2d ((0 : Int64) + (x0 * y0)))), .second, .val (.int (1 : Int32))] [(.ref a2), (.double (FP.l2d x1)), (.double (FP.l2d ((0 : Int64) + (x0 * y0))))])) _
    refine XS.iload X0.here hx rfl (hb hby d2_18) rfl ?_
    show Steps p.tables e below (s₁.setTop (mkF m 20 #[.val (.ref a1), .val (.ref a2), .val (.double (FP.l2d ((0 : Int64) + (x0 * y0)))), .second, .val (.int (1 : Int32))] [(.int (1 : Int32)), (.ref a2), (.double (FP.l2d x1)), (.double (FP.l2d ((0 : Int64) + (x0 * y0))))])) _
    refine X0.daload hx (j := (1 : Int32)) (v := (.double (FP.l2d y1))) (by rw [e0]; exact Ao6.1) (State.isArrayOf_alike hZ.alike Ao6.2.1) Ao6.2.2 (inb_of So6 ⟨(by decide), (by decide)⟩) (Has.at Bo6 (inb_of So6 ⟨(by decide), (by decide)⟩) rfl) (g := (mkF m 20 #[.val (.ref a1), .val (.ref a2), .val (.double (FP.l2d ((0 : Int64) + (x0 * y0)))), .second, .val (.int (1 : Int32))] [(.int (1 : Int32)), (.ref a2), (.double (FP.l2d x1)), (.double (FP.l2d ((0 : Int64) + (x0 * y0))))])) rfl rfl (hb hby d2_20) _ ?_
    show Steps p.tables e below (s₁.setTop (mkF m 21 #[.val (.ref a1), .val (.ref a2), .val (.double (FP.l2d ((0 : Int64) + (x0 * y0)))), .second, .val (.int (1 : Int32))] [(.double (FP.l2d y1)), (.double (FP.l2d x1)), (.double (FP.l2d ((0 : Int64) + (x0 * y0))))])) _
    refine XS.dmulS X0.here hx rfl (hb hby d2_21) rfl (own_mulnn hx1 hy1) (v := (FP.dmul (FP.l2d x1) (FP.l2d y1))) rfl ?_
    show Steps p.tables e below (s₁.setTop (mkF m 22 #[.val (.ref a1), .val (.ref a2), .val (.double (FP.l2d ((0 : Int64) + (x0 * y0)))), .second, .val (.int (1 : Int32))] [(.double (FP.dmul (FP.l2d x1) (FP.l2d y1))), (.double (FP.l2d ((0 : Int64) + (x0 * y0))))])) _
    refine XS.daddS X0.here hx rfl (hb hby d2_22) rfl (nn_w (own_fma hs1 hx1 hy1 (by decide))) (v := (FP.l2d (((0 : Int64) + (x0 * y0)) + (x1 * y1)))) (own_fma hs1 hx1 hy1 (by decide)) ?_
    show Steps p.tables e below (s₁.setTop (mkF m 23 #[.val (.ref a1), .val (.ref a2), .val (.double (FP.l2d ((0 : Int64) + (x0 * y0)))), .second, .val (.int (1 : Int32))] [(.double (FP.l2d (((0 : Int64) + (x0 * y0)) + (x1 * y1))))])) _
    refine XS.dstoreN X0.here hx rfl (hb hby d2_23) rfl (l' := #[.val (.ref a1), .val (.ref a2), .val (.double (FP.l2d (((0 : Int64) + (x0 * y0)) + (x1 * y1)))), .second, .val (.int (1 : Int32))]) rfl ?_
    show Steps p.tables e below (s₁.setTop (mkF m 24 #[.val (.ref a1), .val (.ref a2), .val (.double (FP.l2d (((0 : Int64) + (x0 * y0)) + (x1 * y1)))), .second, .val (.int (1 : Int32))] [])) _
    refine XS.iinc X0.here hx rfl (hb hby d2_24) rfl (l' := #[.val (.ref a1), .val (.ref a2), .val (.double (FP.l2d (((0 : Int64) + (x0 * y0)) + (x1 * y1)))), .second, .val (.int (2 : Int32))]) rfl ?_
    show Steps p.tables e below (s₁.setTop (mkF m 27 #[.val (.ref a1), .val (.ref a2), .val (.double (FP.l2d (((0 : Int64) + (x0 * y0)) + (x1 * y1)))), .second, .val (.int (2 : Int32))] [])) _
    refine XS.goto X0.here hx rfl (pc0 := 27) (pc' := 5) rfl (hb hby d2_27) (by decide) (by decide) ?_
    show Steps p.tables e below (s₁.setTop (mkF m 5 #[.val (.ref a1), .val (.ref a2), .val (.double (FP.l2d (((0 : Int64) + (x0 * y0)) + (x1 * y1)))), .second, .val (.int (2 : Int32))] [])) _
    refine XS.iload X0.here hx rfl (hb hby d2_5) rfl ?_
    show Steps p.tables e below (s₁.setTop (mkF m 7 #[.val (.ref a1), .val (.ref a2), .val (.double (FP.l2d (((0 : Int64) + (x0 * y0)) + (x1 * y1)))), .second, .val (.int (2 : Int32))] [(.int (2 : Int32))])) _
    refine XS.aloadN X0.here hx rfl (hb hby d2_7) rfl rfl ?_
    show Steps p.tables e below (s₁.setTop (mkF m 8 #[.val (.ref a1), .val (.ref a2), .val (.double (FP.l2d (((0 : Int64) + (x0 * y0)) + (x1 * y1)))), .second, .val (.int (2 : Int32))] [(.ref a1), (.int (2 : Int32))])) _
    refine X0.arraylength hx (by rw [e0]; exact Ao7.1) (State.isArrayOf_alike hZ.alike Ao7.2.1) (g := (mkF m 8 #[.val (.ref a1), .val (.ref a2), .val (.double (FP.l2d (((0 : Int64) + (x0 * y0)) + (x1 * y1)))), .second, .val (.int (2 : Int32))] [(.ref a1), (.int (2 : Int32))])) rfl rfl (hb hby d2_8) _ ?_
    rw [len_of So7 Mo7]
    show Steps p.tables e below (s₁.setTop (mkF m 9 #[.val (.ref a1), .val (.ref a2), .val (.double (FP.l2d (((0 : Int64) + (x0 * y0)) + (x1 * y1)))), .second, .val (.int (2 : Int32))] [(.int (3 : Int32)), (.int (2 : Int32))])) _
    refine XS.icmpNo X0.here hx rfl (hb hby d2_9) rfl (tlt (by decide : (2 : Int32) < (3 : Int32))).2.1 ?_
    show Steps p.tables e below (s₁.setTop (mkF m 12 #[.val (.ref a1), .val (.ref a2), .val (.double (FP.l2d (((0 : Int64) + (x0 * y0)) + (x1 * y1)))), .second, .val (.int (2 : Int32))] [])) _
    refine XS.dloadN X0.here hx rfl (hb hby d2_12) rfl ?_
    show Steps p.tables e below (s₁.setTop (mkF m 13 #[.val (.ref a1), .val (.ref a2), .val (.double (FP.l2d (((0 : Int64) + (x0 * y0)) + (x1 * y1)))), .second, .val (.int (2 : Int32))] [(.double (FP.l2d (((0 : Int64) + (x0 * y0)) + (x1 * y1))))])) _
    refine XS.aloadN X0.here hx rfl (hb hby d2_13) rfl rfl ?_
    show Steps p.tables e below (s₁.setTop (mkF m 14 #[.val (.ref a1), .val (.ref a2), .val (.double (FP.l2d (((0 : Int64) + (x0 * y0)) + (x1 * y1)))), .second, .val (.int (2 : Int32))] [(.ref a1), (.double (FP.l2d (((0 : Int64) + (x0 * y0)) + (x1 * y1))))])) _
    refine XS.iload X0.here hx rfl (hb hby d2_14) rfl ?_
    show Steps p.tables e below (s₁.setTop (mkF m 16 #[.val (.ref a1), .val (.ref a2), .val (.double (FP.l2d (((0 : Int64) + (x0 * y0)) + (x1 * y1)))), .second, .val (.int (2 : Int32))] [(.int (2 : Int32)), (.ref a1), (.double (FP.l2d (((0 : Int64) + (x0 * y0)) + (x1 * y1))))])) _
    refine X0.daload hx (j := (2 : Int32)) (v := (.double (FP.l2d x2))) (by rw [e0]; exact Ao8.1) (State.isArrayOf_alike hZ.alike Ao8.2.1) Ao8.2.2 (inb_of So8 ⟨(by decide), (by decide)⟩) (Has.at Bo8 (inb_of So8 ⟨(by decide), (by decide)⟩) rfl) (g := (mkF m 16 #[.val (.ref a1), .val (.ref a2), .val (.double (FP.l2d (((0 : Int64) + (x0 * y0)) + (x1 * y1)))), .second, .val (.int (2 : Int32))] [(.int (2 : Int32)), (.ref a1), (.double (FP.l2d (((0 : Int64) + (x0 * y0)) + (x1 * y1))))])) rfl rfl (hb hby d2_16) _ ?_
    show Steps p.tables e below (s₁.setTop (mkF m 17 #[.val (.ref a1), .val (.ref a2), .val (.double (FP.l2d (((0 : Int64) + (x0 * y0)) + (x1 * y1)))), .second, .val (.int (2 : Int32))] [(.double (FP.l2d x2)), (.double (FP.l2d (((0 : Int64) + (x0 * y0)) + (x1 * y1))))])) _
    refine XS.aloadN X0.here hx rfl (hb hby d2_17) rfl rfl ?_
    show Steps p.tables e below (s₁.setTop (mkF m 18 #[.val (.ref a1), .val (.ref a2), .val (.double (FP.l2d (((0 : Int64) + (x0 * y0)) + (x1 * y1)))), .second, .val (.int (2 : Int32))] [(.ref a2), (.double (FP.l2d x2)), (.double (FP.l2d (((0 : Int64) + (x0 * y0)) + (x1 * y1))))])) _
    refine XS.iload X0.here hx rfl (hb hby d2_18) rfl ?_
    show Steps p.tables e below (s₁.setTop (mkF m 20 #[.val (.ref a1), .val (.ref a2), .val (.double (FP.l2d (((0 : Int64) + (x0 * y0)) + (x1 * y1)))), .second, .val (.int (2 : Int32))] [(.int (2 : Int32)), (.ref a2), (.double (FP.l2d x2)), (.double (FP.l2d (((0 : Int64) + (x0 * y0)) + (x1 * y1))))])) _
    refine X0.daload hx (j := (2 : Int32)) (v := (.double (FP.l2d y2))) (by rw [e0]; exact Ao9.1) (State.isArrayOf_alike hZ.alike Ao9.2.1) Ao9.2.2 (inb_of So9 ⟨(by decide), (by decide)⟩) (Has.at Bo9 (inb_of So9 ⟨(by decide), (by decide)⟩) rfl) (g := (mkF m 20 #[.val (.ref a1), .val (.ref a2), .val (.double (FP.l2d (((0 : Int64) + (x0 * y0)) + (x1 * y1)))), .second, .val (.int (2 : Int32))] [(.int (2 : Int32)), (.ref a2), (.double (FP.l2d x2)), (.double (FP.l2d (((0 : Int64) + (x0 * y0)) + (x1 * y1))))])) rfl rfl (hb hby d2_20) _ ?_
    show Steps p.tables e below (s₁.setTop (mkF m 21 #[.val (.ref a1), .val (.ref a2), .val (.double (FP.l2d (((0 : Int64) + (x0 * y0)) + (x1 * y1)))), .second, .val (.int (2 : Int32))] [(.double (FP.l2d y2)), (.double (FP.l2d x2)), (.double (FP.l2d (((0 : Int64) + (x0 * y0)) + (x1 * y1))))])) _
    refine XS.dmulS X0.here hx rfl (hb hby d2_21) rfl (own_mulnn hx2 hy2) (v := (FP.dmul (FP.l2d x2) (FP.l2d y2))) rfl ?_
    show Steps p.tables e below (s₁.setTop (mkF m 22 #[.val (.ref a1), .val (.ref a2), .val (.double (FP.l2d (((0 : Int64) + (x0 * y0)) + (x1 * y1)))), .second, .val (.int (2 : Int32))] [(.double (FP.dmul (FP.l2d x2) (FP.l2d y2))), (.double (FP.l2d (((0 : Int64) + (x0 * y0)) + (x1 * y1))))])) _
    refine XS.daddS X0.here hx rfl (hb hby d2_22) rfl (nn_w (own_fma hs2 hx2 hy2 (by decide))) (v := (FP.l2d ((((0 : Int64) + (x0 * y0)) + (x1 * y1)) + (x2 * y2)))) (own_fma hs2 hx2 hy2 (by decide)) ?_
    show Steps p.tables e below (s₁.setTop (mkF m 23 #[.val (.ref a1), .val (.ref a2), .val (.double (FP.l2d (((0 : Int64) + (x0 * y0)) + (x1 * y1)))), .second, .val (.int (2 : Int32))] [(.double (FP.l2d ((((0 : Int64) + (x0 * y0)) + (x1 * y1)) + (x2 * y2))))])) _
    refine XS.dstoreN X0.here hx rfl (hb hby d2_23) rfl (l' := #[.val (.ref a1), .val (.ref a2), .val (.double (FP.l2d ((((0 : Int64) + (x0 * y0)) + (x1 * y1)) + (x2 * y2)))), .second, .val (.int (2 : Int32))]) rfl ?_
    show Steps p.tables e below (s₁.setTop (mkF m 24 #[.val (.ref a1), .val (.ref a2), .val (.double (FP.l2d ((((0 : Int64) + (x0 * y0)) + (x1 * y1)) + (x2 * y2)))), .second, .val (.int (2 : Int32))] [])) _
    refine XS.iinc X0.here hx rfl (hb hby d2_24) rfl (l' := #[.val (.ref a1), .val (.ref a2), .val (.double (FP.l2d ((((0 : Int64) + (x0 * y0)) + (x1 * y1)) + (x2 * y2)))), .second, .val (.int (3 : Int32))]) rfl ?_
    show Steps p.tables e below (s₁.setTop (mkF m 27 #[.val (.ref a1), .val (.ref a2), .val (.double (FP.l2d ((((0 : Int64) + (x0 * y0)) + (x1 * y1)) + (x2 * y2)))), .second, .val (.int (3 : Int32))] [])) _
    refine XS.goto X0.here hx rfl (pc0 := 27) (pc' := 5) rfl (hb hby d2_27) (by decide) (by decide) ?_
    show Steps p.tables e below (s₁.setTop (mkF m 5 #[.val (.ref a1), .val (.ref a2), .val (.double (FP.l2d ((((0 : Int64) + (x0 * y0)) + (x1 * y1)) + (x2 * y2)))), .second, .val (.int (3 : Int32))] [])) _
    refine XS.iload X0.here hx rfl (hb hby d2_5) rfl ?_
    show Steps p.tables e below (s₁.setTop (mkF m 7 #[.val (.ref a1), .val (.ref a2), .val (.double (FP.l2d ((((0 : Int64) + (x0 * y0)) + (x1 * y1)) + (x2 * y2)))), .second, .val (.int (3 : Int32))] [(.int (3 : Int32))])) _
    refine XS.aloadN X0.here hx rfl (hb hby d2_7) rfl rfl ?_
    show Steps p.tables e below (s₁.setTop (mkF m 8 #[.val (.ref a1), .val (.ref a2), .val (.double (FP.l2d ((((0 : Int64) + (x0 * y0)) + (x1 * y1)) + (x2 * y2)))), .second, .val (.int (3 : Int32))] [(.ref a1), (.int (3 : Int32))])) _
    refine X0.arraylength hx (by rw [e0]; exact Ao10.1) (State.isArrayOf_alike hZ.alike Ao10.2.1) (g := (mkF m 8 #[.val (.ref a1), .val (.ref a2), .val (.double (FP.l2d ((((0 : Int64) + (x0 * y0)) + (x1 * y1)) + (x2 * y2)))), .second, .val (.int (3 : Int32))] [(.ref a1), (.int (3 : Int32))])) rfl rfl (hb hby d2_8) _ ?_
    rw [len_of So10 Mo10]
    show Steps p.tables e below (s₁.setTop (mkF m 9 #[.val (.ref a1), .val (.ref a2), .val (.double (FP.l2d ((((0 : Int64) + (x0 * y0)) + (x1 * y1)) + (x2 * y2)))), .second, .val (.int (3 : Int32))] [(.int (3 : Int32)), (.int (3 : Int32))])) _
    refine XS.icmpYes X0.here hx rfl (pc0 := 9) (pc' := 30) rfl (hb hby d2_9) rfl (flt (by decide : ¬ ((3 : Int32) < (3 : Int32)))).2.1 (by decide) (by decide) ?_
    show Steps p.tables e below (s₁.setTop (mkF m 30 #[.val (.ref a1), .val (.ref a2), .val (.double (FP.l2d ((((0 : Int64) + (x0 * y0)) + (x1 * y1)) + (x2 * y2)))), .second, .val (.int (3 : Int32))] [])) _
    refine XS.dloadN X0.here hx rfl (hb hby d2_30) rfl ?_
    show Steps p.tables e below (s₁.setTop (mkF m 31 #[.val (.ref a1), .val (.ref a2), .val (.double (FP.l2d ((((0 : Int64) + (x0 * y0)) + (x1 * y1)) + (x2 * y2)))), .second, .val (.int (3 : Int32))] [(.double (FP.l2d ((((0 : Int64) + (x0 * y0)) + (x1 * y1)) + (x2 * y2))))])) _
    exact retOut X0 hx Bd.returns rfl (Or.inr (Or.inr (Or.inl ⟨rfl, rfl, _, rfl⟩))) (hb hby d2_31) hr
  · show Q2_3 Z a1 a2 k1 k2 x0 x1 x2 y0 y1 y2 h0 n0 _ s₁.heap _
    rw [e0]
    exact ⟨rfl, N0, rfl⟩
theorem ef_2_4 (m : MethodId) (a1 : Addr) (a2 : Addr) : entryFrame m #[(.ref a1), (.ref a2)] 5 = mkF m 0 #[.val (.ref a1), .val (.ref a2), .unset, .unset, .unset] [] := by first | (simp [entryFrame, mkF, argsToLocals, Value.category]; done) | rfl
def Q2_4 (Z : State) (a1 : Addr) (a2 : Addr) (k1 : ClassId) (k2 : ClassId) (x0 : Int64) (x1 : Int64) (x2 : Int64) (x3 : Int64) (y0 : Int64) (y1 : Int64) (y2 : Int64) (y3 : Int64) (h0 : Heap) (n0 : Nat) (v : Option Value) (h : Heap) (L : List Loc) : Prop := v = some (.double (FP.l2d (((((0 : Int64) + (x0 * y0)) + (x1 * y1)) + (x2 * y2)) + (x3 * y3)))) ∧ Fr n0 L ∧ h = h0
set_option maxRecDepth 65536 in
set_option maxHeartbeats 40000000 in
theorem rm2_4 (l : Launch) (Z : State) (a0 : Array Value) (hw : ∀ d ∈ tables_1, d.before a0 Z = true) (ws : List Jvm.Cond) (a1 : Addr) (a2 : Addr) (k1 : ClassId) (k2 : ClassId) (x0 : Int64) (x1 : Int64) (x2 : Int64) (x3 : Int64) (y0 : Int64) (y1 : Int64) (y2 : Int64) (y3 : Int64) (h0 : Heap) (n0 : Nat) (Z0 : n0 ≤ h0.size) (HV0 : Arv Z h0 a1 k1 .double (4 : Int32) [(.double (FP.l2d x0)), (.double (FP.l2d x1)), (.double (FP.l2d x2)), (.double (FP.l2d x3))] (.double (FP.l2d 0))) (HV1 : Arv Z h0 a2 k2 .double (4 : Int32) [(.double (FP.l2d y0)), (.double (FP.l2d y1)), (.double (FP.l2d y2)), (.double (FP.l2d y3))] (.double (FP.l2d 0))) (hx0 : (own_sm 32768 x0)) (hx1 : (own_sm 32768 x1)) (hx2 : (own_sm 32768 x2)) (hx3 : (own_sm 32768 x3)) (hy0 : (own_sm 32768 y0)) (hy1 : (own_sm 32768 y1)) (hy2 : (own_sm 32768 y2)) (hy3 : (own_sm 32768 y3)) :
    MetFree l (⟨"com/example/prudent_feedback/prudentfeedback/coefficient/LogisticFit", "dot", "([D[D)D"⟩ : MethodName) (head1 (Jvm.Cond.code (⟨"com/example/prudent_feedback/prudentfeedback/coefficient/LogisticFit", "dot", "([D[D)D"⟩ : MethodName) prog_9_method_8_code 5 (some .double) :: ws) ({ frames := 0, cells := 0, slots := 0, locals := 0 } : Room)) (fun a U => a = #[(.ref a1), (.ref a2)] ∧ Z.Warmed39 U.vm ∧ U.heap = h0) (fun _ _ _ _ _ => True) (fun _ U o U' => ∃ v L, o = .returned v ∧ Q2_4 Z a1 a2 k1 k2 x0 x1 x2 x3 y0 y1 y2 y3 h0 n0 v U'.heap L ∧ FrameEnd U o U' L ({ frames := 0, cells := 0, slots := 0, locals := 0 } : Room).cells ({ frames := 0, cells := 0, slots := 0, locals := 0 } : Room).slots) := by
  refine MetFree.of_bodySF (plainFor_of_name pn_1) hisR ?_
  intro p e s m args below meth c s₁ Bd hml0 hP hK
  obtain ⟨rfl, hZ, hh⟩ := hP
  have hx := Bd.exec
  have hby := Bd.bytes
  have hml : c.maxLocals = 5 := hml0
  have hown : s.vm.findClass "com/example/prudent_feedback/prudentfeedback/coefficient/LogisticFit" = some m.cls := findClass_of_methodNamed Bd.named
  have hnm := (name_of_methodNamed Bd.named Bd.method).1
  have X0 : Stand p l e ({ frames := 0, cells := 0, slots := 0, locals := 0 } : Room) s m #[(.ref a1), (.ref a2)] below meth c s₁ [] 0 0 := Stand.of_body Bd
  have e0 : s₁.heap = h0 := by rw [← hh, Bd.state]; rfl
  have N0 := Fr.nil n0
  have pre0 : ∀ t, Steps p.tables e below (s₁.setTop (mkF m 0 #[.val (.ref a1), .val (.ref a2), .unset, .unset, .unset] [])) t → Steps p.tables e below (s₁.setTop (entryFrame m #[(.ref a1), (.ref a2)] 5)) t := fun t k => castTop (ef_2_4 m a1 a2) k
  have hs0 : own_sm 0 (0 : Int64) := own_sm0
  have hs1 : own_sm 1073741824 ((0 : Int64) + (x0 * y0)) := own_addi hs0 (own_muli hx0 hy0) (by decide)
  have hs2 : own_sm 2147483648 (((0 : Int64) + (x0 * y0)) + (x1 * y1)) := own_addi hs1 (own_muli hx1 hy1) (by decide)
  have hs3 : own_sm 3221225472 ((((0 : Int64) + (x0 * y0)) + (x1 * y1)) + (x2 * y2)) := own_addi hs2 (own_muli hx2 hy2) (by decide)
  have hs4 : own_sm 4294967296 (((((0 : Int64) + (x0 * y0)) + (x1 * y1)) + (x2 * y2)) + (x3 * y3)) := own_addi hs3 (own_muli hx3 hy3) (by decide)
  obtain ⟨co1, Ao1, qo1, So1, Mo1, Bo1, Go1⟩ := id HV0
  obtain ⟨co2, Ao2, qo2, So2, Mo2, Bo2, Go2⟩ := id HV0
  obtain ⟨co3, Ao3, qo3, So3, Mo3, Bo3, Go3⟩ := id HV1
  obtain ⟨co4, Ao4, qo4, So4, Mo4, Bo4, Go4⟩ := id HV0
  obtain ⟨co5, Ao5, qo5, So5, Mo5, Bo5, Go5⟩ := id HV0
  obtain ⟨co6, Ao6, qo6, So6, Mo6, Bo6, Go6⟩ := id HV1
  obtain ⟨co7, Ao7, qo7, So7, Mo7, Bo7, Go7⟩ := id HV0
  obtain ⟨co8, Ao8, qo8, So8, Mo8, Bo8, Go8⟩ := id HV0
  obtain ⟨co9, Ao9, qo9, So9, Mo9, Bo9, Go9⟩ := id HV1
  obtain ⟨co10, Ao10, qo10, So10, Mo10, Bo10, Go10⟩ := id HV0
  obtain ⟨co11, Ao11, qo11, So11, Mo11, Bo11, Go11⟩ := id HV0
  obtain ⟨co12, Ao12, qo12, So12, Mo12, Bo12, Go12⟩ := id HV1
  obtain ⟨co13, Ao13, qo13, So13, Mo13, Bo13, Go13⟩ := id HV0
  obtain ⟨fs, hr, hrun, hended, hW, hsame⟩ := X0.leave (v := some (.double (FP.l2d (((((0 : Int64) + (x0 * y0)) + (x1 * y1)) + (x2 * y2)) + (x3 * y3))))) (fun h => by rw [Bd.returns] at h; cases h)
  refine ⟨_, _, pre0 _ ?_, hrun, hended, _, _, rfl, ?_, ⟨_, rfl⟩, hW, hsame.mono (by decide) (by decide)⟩
  · show Steps p.tables e below (s₁.setTop (mkF m 0 #[.val (.ref a1), .val (.ref a2), .unset, .unset, .unset] [])) _
    refine XS.dconst0 X0.here hx rfl (hb hby d2_0) (v := FP.l2d 0) (by decide +kernel) ?_
    show Steps p.tables e below (s₁.setTop (mkF m 1 #[.val (.ref a1), .val (.ref a2), .unset, .unset, .unset] [(.double (FP.l2d 0))])) _
    refine XS.dstoreN X0.here hx rfl (hb hby d2_1) rfl (l' := #[.val (.ref a1), .val (.ref a2), .val (.double (FP.l2d 0)), .second, .unset]) rfl ?_
    show Steps p.tables e below (s₁.setTop (mkF m 2 #[.val (.ref a1), .val (.ref a2), .val (.double (FP.l2d 0)), .second, .unset] [])) _
    refine XS.iconst X0.here hx rfl (hb hby d2_2) ?_
    show Steps p.tables e below (s₁.setTop (mkF m 3 #[.val (.ref a1), .val (.ref a2), .val (.double (FP.l2d 0)), .second, .unset] [(.int (0 : Int32))])) _
    refine XS.istore X0.here hx rfl (hb hby d2_3) rfl (l' := #[.val (.ref a1), .val (.ref a2), .val (.double (FP.l2d 0)), .second, .val (.int (0 : Int32))]) rfl ?_
    show Steps p.tables e below (s₁.setTop (mkF m 5 #[.val (.ref a1), .val (.ref a2), .val (.double (FP.l2d 0)), .second, .val (.int (0 : Int32))] [])) _
    refine XS.iload X0.here hx rfl (hb hby d2_5) rfl ?_
    show Steps p.tables e below (s₁.setTop (mkF m 7 #[.val (.ref a1), .val (.ref a2), .val (.double (FP.l2d 0)), .second, .val (.int (0 : Int32))] [(.int (0 : Int32))])) _
    refine XS.aloadN X0.here hx rfl (hb hby d2_7) rfl rfl ?_
    show Steps p.tables e below (s₁.setTop (mkF m 8 #[.val (.ref a1), .val (.ref a2), .val (.double (FP.l2d 0)), .second, .val (.int (0 : Int32))] [(.ref a1), (.int (0 : Int32))])) _
    refine X0.arraylength hx (by rw [e0]; exact Ao1.1) (State.isArrayOf_alike hZ.alike Ao1.2.1) (g := (mkF m 8 #[.val (.ref a1), .val (.ref a2), .val (.double (FP.l2d 0)), .second, .val (.int (0 : Int32))] [(.ref a1), (.int (0 : Int32))])) rfl rfl (hb hby d2_8) _ ?_
    rw [len_of So1 Mo1]
    show Steps p.tables e below (s₁.setTop (mkF m 9 #[.val (.ref a1), .val (.ref a2), .val (.double (FP.l2d 0)), .second, .val (.int (0 : Int32))] [(.int (4 : Int32)), (.int (0 : Int32))])) _
    refine XS.icmpNo X0.here hx rfl (hb hby d2_9) rfl (tlt (by decide : (0 : Int32) < (4 : Int32))).2.1 ?_
    show Steps p.tables e below (s₁.setTop (mkF m 12 #[.val (.ref a1), .val (.ref a2), .val (.double (FP.l2d 0)), .second, .val (.int (0 : Int32))] [])) _
    refine XS.dloadN X0.here hx rfl (hb hby d2_12) rfl ?_
    show Steps p.tables e below (s₁.setTop (mkF m 13 #[.val (.ref a1), .val (.ref a2), .val (.double (FP.l2d 0)), .second, .val (.int (0 : Int32))] [(.double (FP.l2d 0))])) _
    refine XS.aloadN X0.here hx rfl (hb hby d2_13) rfl rfl ?_
    show Steps p.tables e below (s₁.setTop (mkF m 14 #[.val (.ref a1), .val (.ref a2), .val (.double (FP.l2d 0)), .second, .val (.int (0 : Int32))] [(.ref a1), (.double (FP.l2d 0))])) _
    refine XS.iload X0.here hx rfl (hb hby d2_14) rfl ?_
    show Steps p.tables e below (s₁.setTop (mkF m 16 #[.val (.ref a1), .val (.ref a2), .val (.double (FP.l2d 0)), .second, .val (.int (0 : Int32))] [(.int (0 : Int32)), (.ref a1), (.double (FP.l2d 0))])) _
    refine X0.daload hx (j := (0 : Int32)) (v := (.double (FP.l2d x0))) (by rw [e0]; exact Ao2.1) (State.isArrayOf_alike hZ.alike Ao2.2.1) Ao2.2.2 (inb_of So2 ⟨(by decide), (by decide)⟩) (Has.at Bo2 (inb_of So2 ⟨(by decide), (by decide)⟩) rfl) (g := (mkF m 16 #[.val (.ref a1), .val (.ref a2), .val (.double (FP.l2d 0)), .second, .val (.int (0 : Int32))] [(.int (0 : Int32)), (.ref a1), (.double (FP.l2d 0))])) rfl rfl (hb hby d2_16) _ ?_
    show Steps p.tables e below (s₁.setTop (mkF m 17 #[.val (.ref a1), .val (.ref a2), .val (.double (FP.l2d 0)), .second, .val (.int (0 : Int32))] [(.double (FP.l2d x0)), (.double (FP.l2d 0))])) _
    refine XS.aloadN X0.here hx rfl (hb hby d2_17) rfl rfl ?_
    show Steps p.tables e below (s₁.setTop (mkF m 18 #[.val (.ref a1), .val (.ref a2), .val (.double (FP.l2d 0)), .second, .val (.int (0 : Int32))] [(.ref a2), (.double (FP.l2d x0)), (.double (FP.l2d 0))])) _
    refine XS.iload X0.here hx rfl (hb hby d2_18) rfl ?_
    show Steps p.tables e below (s₁.setTop (mkF m 20 #[.val (.ref a1), .val (.ref a2), .val (.double (FP.l2d 0)), .second, .val (.int (0 : Int32))] [(.int (0 : Int32)), (.ref a2), (.double (FP.l2d x0)), (.double (FP.l2d 0))])) _
    refine X0.daload hx (j := (0 : Int32)) (v := (.double (FP.l2d y0))) (by rw [e0]; exact Ao3.1) (State.isArrayOf_alike hZ.alike Ao3.2.1) Ao3.2.2 (inb_of So3 ⟨(by decide), (by decide)⟩) (Has.at Bo3 (inb_of So3 ⟨(by decide), (by decide)⟩) rfl) (g := (mkF m 20 #[.val (.ref a1), .val (.ref a2), .val (.double (FP.l2d 0)), .second, .val (.int (0 : Int32))] [(.int (0 : Int32)), (.ref a2), (.double (FP.l2d x0)), (.double (FP.l2d 0))])) rfl rfl (hb hby d2_20) _ ?_
    show Steps p.tables e below (s₁.setTop (mkF m 21 #[.val (.ref a1), .val (.ref a2), .val (.double (FP.l2d 0)), .second, .val (.int (0 : Int32))] [(.double (FP.l2d y0)), (.double (FP.l2d x0)), (.double (FP.l2d 0))])) _
    refine XS.dmulS X0.here hx rfl (hb hby d2_21) rfl (own_mulnn hx0 hy0) (v := (FP.dmul (FP.l2d x0) (FP.l2d y0))) rfl ?_
    show Steps p.tables e below (s₁.setTop (mkF m 22 #[.val (.ref a1), .val (.ref a2), .val (.double (FP.l2d 0)), .second, .val (.int (0 : Int32))] [(.double (FP.dmul (FP.l2d x0) (FP.l2d y0))), (.double (FP.l2d 0))])) _
    refine XS.daddS X0.here hx rfl (hb hby d2_22) rfl (nn_w (own_fma hs0 hx0 hy0 (by decide))) (v := (FP.l2d ((0 : Int64) + (x0 * y0)))) (own_fma hs0 hx0 hy0 (by decide)) ?_
    show Steps p.tables e below (s₁.setTop (mkF m 23 #[.val (.ref a1), .val (.ref a2), .val (.double (FP.l2d 0)), .second, .val (.int (0 : Int32))] [(.double (FP.l2d ((0 : Int64) + (x0 * y0))))])) _
    refine XS.dstoreN X0.here hx rfl (hb hby d2_23) rfl (l' := #[.val (.ref a1), .val (.ref a2), .val (.double (FP.l2d ((0 : Int64) + (x0 * y0)))), .second, .val (.int (0 : Int32))]) rfl ?_
    show Steps p.tables e below (s₁.setTop (mkF m 24 #[.val (.ref a1), .val (.ref a2), .val (.double (FP.l2d ((0 : Int64) + (x0 * y0)))), .second, .val (.int (0 : Int32))] [])) _
    refine XS.iinc X0.here hx rfl (hb hby d2_24) rfl (l' := #[.val (.ref a1), .val (.ref a2), .val (.double (FP.l2d ((0 : Int64) + (x0 * y0)))), .second, .val (.int (1 : Int32))]) rfl ?_
    show Steps p.tables e below (s₁.setTop (mkF m 27 #[.val (.ref a1), .val (.ref a2), .val (.double (FP.l2d ((0 : Int64) + (x0 * y0)))), .second, .val (.int (1 : Int32))] [])) _
    refine XS.goto X0.here hx rfl (pc0 := 27) (pc' := 5) rfl (hb hby d2_27) (by decide) (by decide) ?_
    show Steps p.tables e below (s₁.setTop (mkF m 5 #[.val (.ref a1), .val (.ref a2), .val (.double (FP.l2d ((0 : Int64) + (x0 * y0)))), .second, .val (.int (1 : Int32))] [])) _
    refine XS.iload X0.here hx rfl (hb hby d2_5) rfl ?_
    show Steps p.tables e below (s₁.setTop (mkF m 7 #[.val (.ref a1), .val (.ref a2), .val (.double (FP.l2d ((0 : Int64) + (x0 * y0)))), .second, .val (.int (1 : Int32))] [(.int (1 : Int32))])) _
    refine XS.aloadN X0.here hx rfl (hb hby d2_7) rfl rfl ?_
    show Steps p.tables e below (s₁.setTop (mkF m 8 #[.val (.ref a1), .val (.ref a2), .val (.double (FP.l2d ((0 : Int64) + (x0 * y0)))), .second, .val (.int (1 : Int32))] [(.ref a1), (.int (1 : Int32))])) _
    refine X0.arraylength hx (by rw [e0]; exact Ao4.1) (State.isArrayOf_alike hZ.alike Ao4.2.1) (g := (mkF m 8 #[.val (.ref a1), .val (.ref a2), .val (.double (FP.l2d ((0 : Int64) + (x0 * y0)))), .second, .val (.int (1 : Int32))] [(.ref a1), (.int (1 : Int32))])) rfl rfl (hb hby d2_8) _ ?_
    rw [len_of So4 Mo4]
    show Steps p.tables e below (s₁.setTop (mkF m 9 #[.val (.ref a1), .val (.ref a2), .val (.double (FP.l2d ((0 : Int64) + (x0 * y0)))), .second, .val (.int (1 : Int32))] [(.int (4 : Int32)), (.int (1 : Int32))])) _
    refine XS.icmpNo X0.here hx rfl (hb hby d2_9) rfl (tlt (by decide : (1 : Int32) < (4 : Int32))).2.1 ?_
    show Steps p.tables e below (s₁.setTop (mkF m 12 #[.val (.ref a1), .val (.ref a2), .val (.double (FP.l2d ((0 : Int64) + (x0 * y0)))), .second, .val (.int (1 : Int32))] [])) _
    refine XS.dloadN X0.here hx rfl (hb hby d2_12) rfl ?_
    show Steps p.tables e below (s₁.setTop (mkF m 13 #[.val (.ref a1), .val (.ref a2), .val (.double (FP.l2d ((0 : Int64) + (x0 * y0)))), .second, .val (.int (1 : Int32))] [(.double (FP.l2d ((0 : Int64) + (x0 * y0))))])) _
    refine XS.aloadN X0.here hx rfl (hb hby d2_13) rfl rfl ?_
    show Steps p.tables e below (s₁.setTop (mkF m 14 #[.val (.ref a1), .val (.ref a2), .val (.double (FP.l2d ((0 : Int64) + (x0 * y0)))), .second, .val (.int (1 : Int32))] [(.ref a1), (.double (FP.l2d ((0 : Int64) + (x0 * y0))))])) _
    refine XS.iload X0.here hx rfl (hb hby d2_14) rfl ?_
    show Steps p.tables e below (s₁.setTop (mkF m 16 #[.val (.ref a1), .val (.ref a2), .val (.double (FP.l2d ((0 : Int64) + (x0 * y0)))), .second, .val (.int (1 : Int32))] [(.int (1 : Int32)), (.ref a1), (.double (FP.l2d ((0 : Int64) + (x0 * y0))))])) _
    refine X0.daload hx (j := (1 : Int32)) (v := (.double (FP.l2d x1))) (by rw [e0]; exact Ao5.1) (State.isArrayOf_alike hZ.alike Ao5.2.1) Ao5.2.2 (inb_of So5 ⟨(by decide), (by decide)⟩) (Has.at Bo5 (inb_of So5 ⟨(by decide), (by decide)⟩) rfl) (g := (mkF m 16 #[.val (.ref a1), .val (.ref a2), .val (.double (FP.l2d ((0 : Int64) + (x0 * y0)))), .second, .val (.int (1 : Int32))] [(.int (1 : Int32)), (.ref a1), (.double (FP.l2d ((0 : Int64) + (x0 * y0))))])) rfl rfl (hb hby d2_16) _ ?_
    show Steps p.tables e below (s₁.setTop (mkF m 17 #[.val (.ref a1), .val (.ref a2), .val (.double (FP.l2d ((0 : Int64) + (x0 * y0)))), .second, .val (.int (1 : Int32))] [(.double (FP.l2d x1)), (.double (FP.l2d ((0 : Int64) + (x0 * y0))))])) _
    refine XS.aloadN X0.here hx rfl (hb hby d2_17) rfl rfl ?_
    show Steps p.tables e below (s₁.setTop (mkF m 18 #[.val (.ref a1), .val (.ref a2), .val (.double (FP.l2d ((0 : Int64) + (x0 * y0)))), .second, .val (.int (1 : Int32))] [(.ref a2), (.double (FP.l2d x1)), (.double (FP.l2d ((0 : Int64) + (x0 * y0))))])) _
    refine XS.iload X0.here hx rfl (hb hby d2_18) rfl ?_
    show Steps p.tables e below (s₁.setTop (mkF m 20 #[.val (.ref a1), .val (.ref a2), .val (.double (FP.l2d ((0 : Int64) + (x0 * y0)))), .second, .val (.int (1 : Int32))] [(.int (1 : Int32)), (.ref a2), (.double (FP.l2d x1)), (.double (FP.l2d ((0 : Int64) + (x0 * y0))))])) _
    refine X0.daload hx (j := (1 : Int32)) (v := (.double (FP.l2d y1))) (by rw [e0]; exact Ao6.1) (State.isArrayOf_alike hZ.alike Ao6.2.1) Ao6.2.2 (inb_of So6 ⟨(by decide), (by decide)⟩) (Has.at Bo6 (inb_of So6 ⟨(by decide), (by decide)⟩) rfl) (g := (mkF m 20 #[.val (.ref a1), .val (.ref a2), .val (.double (FP.l2d ((0 : Int64) + (x0 * y0)))), .second, .val (.int (1 : Int32))] [(.int (1 : Int32)), (.ref a2), (.double (FP.l2d x1)), (.double (FP.l2d ((0 : Int64) + (x0 * y0))))])) rfl rfl (hb hby d2_20) _ ?_
    show Steps p.tables e below (s₁.setTop (mkF m 21 #[.val (.ref a1), .val (.ref a2), .val (.double (FP.l2d ((0 : Int64) + (x0 * y0)))), .second, .val (.int (1 : Int32))] [(.double (FP.l2d y1)), (.double (FP.l2d x1)), (.double (FP.l2d ((0 : Int64) + (x0 * y0))))])) _
    refine XS.dmulS X0.here hx rfl (hb hby d2_21) rfl (own_mulnn hx1 hy1) (v := (FP.dmul (FP.l2d x1) (FP.l2d y1))) rfl ?_
    show Steps p.tables e below (s₁.setTop (mkF m 22 #[.val (.ref a1), .val (.ref a2), .val (.double (FP.l2d ((0 : Int64) + (x0 * y0)))), .second, .val (.int (1 : Int32))] [(.double (FP.dmul (FP.l2d x1) (FP.l2d y1))), (.double (FP.l2d ((0 : Int64) + (x0 * y0))))])) _
    refine XS.daddS X0.here hx rfl (hb hby d2_22) rfl (nn_w (own_fma hs1 hx1 hy1 (by decide))) (v := (FP.l2d (((0 : Int64) + (x0 * y0)) + (x1 * y1)))) (own_fma hs1 hx1 hy1 (by decide)) ?_
    show Steps p.tables e below (s₁.setTop (mkF m 23 #[.val (.ref a1), .val (.ref a2), .val (.double (FP.l2d ((0 : Int64) + (x0 * y0)))), .second, .val (.int (1 : Int32))] [(.double (FP.l2d (((0 : Int64) + (x0 * y0)) + (x1 * y1))))])) _
    refine XS.dstoreN X0.here hx rfl (hb hby d2_23) rfl (l' := #[.val (.ref a1), .val (.ref a2), .val (.double (FP.l2d (((0 : Int64) + (x0 * y0)) + (x1 * y1)))), .second, .val (.int (1 : Int32))]) rfl ?_
    show Steps p.tables e below (s₁.setTop (mkF m 24 #[.val (.ref a1), .val (.ref a2), .val (.double (FP.l2d (((0 : Int64) + (x0 * y0)) + (x1 * y1)))), .second, .val (.int (1 : Int32))] [])) _
    refine XS.iinc X0.here hx rfl (hb hby d2_24) rfl (l' := #[.val (.ref a1), .val (.ref a2), .val (.double (FP.l2d (((0 : Int64) + (x0 * y0)) + (x1 * y1)))), .second, .val (.int (2 : Int32))]) rfl ?_
    show Steps p.tables e below (s₁.setTop (mkF m 27 #[.val (.ref a1), .val (.ref a2), .val (.double (FP.l2d (((0 : Int64) + (x0 * y0)) + (x1 * y1)))), .second, .val (.int (2 : Int32))] [])) _
    refine XS.goto X0.here hx rfl (pc0 := 27) (pc' := 5) rfl (hb hby d2_27) (by decide) (by decide) ?_
    show Steps p.tables e below (s₁.setTop (mkF m 5 #[.val (.ref a1), .val (.ref a2), .val (.double (FP.l2d (((0 : Int64) + (x0 * y0)) + (x1 * y1)))), .second, .val (.int (2 : Int32))] [])) _
    refine XS.iload X0.here hx rfl (hb hby d2_5) rfl ?_
    show Steps p.tables e below (s₁.setTop (mkF m 7 #[.val (.ref a1), .val (.ref a2), .val (.double (FP.l2d (((0 : Int64) + (x0 * y0)) + (x1 * y1)))), .second, .val (.int (2 : Int32))] [(.int (2 : Int32))])) _
    refine XS.aloadN X0.here hx rfl (hb hby d2_7) rfl rfl ?_
    show Steps p.tables e below (s₁.setTop (mkF m 8 #[.val (.ref a1), .val (.ref a2), .val (.double (FP.l2d (((0 : Int64) + (x0 * y0)) + (x1 * y1)))), .second, .val (.int (2 : Int32))] [(.ref a1), (.int (2 : Int32))])) _
    refine X0.arraylength hx (by rw [e0]; exact Ao7.1) (State.isArrayOf_alike hZ.alike Ao7.2.1) (g := (mkF m 8 #[.val (.ref a1), .val (.ref a2), .val (.double (FP.l2d (((0 : Int64) + (x0 * y0)) + (x1 * y1)))), .second, .val (.int (2 : Int32))] [(.ref a1), (.int (2 : Int32))])) rfl rfl (hb hby d2_8) _ ?_
    rw [len_of So7 Mo7]
    show Steps p.tables e below (s₁.setTop (mkF m 9 #[.val (.ref a1), .val (.ref a2), .val (.double (FP.l2d (((0 : Int64) + (x0 * y0)) + (x1 * y1)))), .second, .val (.int (2 : Int32))] [(.int (4 : Int32)), (.int (2 : Int32))])) _
    refine XS.icmpNo X0.here hx rfl (hb hby d2_9) rfl (tlt (by decide : (2 : Int32) < (4 : Int32))).2.1 ?_
    show Steps p.tables e below (s₁.setTop (mkF m 12 #[.val (.ref a1), .val (.ref a2), .val (.double (FP.l2d (((0 : Int64) + (x0 * y0)) + (x1 * y1)))), .second, .val (.int (2 : Int32))] [])) _
    refine XS.dloadN X0.here hx rfl (hb hby d2_12) rfl ?_
    show Steps p.tables e below (s₁.setTop (mkF m 13 #[.val (.ref a1), .val (.ref a2), .val (.double (FP.l2d (((0 : Int64) + (x0 * y0)) + (x1 * y1)))), .second, .val (.int (2 : Int32))] [(.double (FP.l2d (((0 : Int64) + (x0 * y0)) + (x1 * y1))))])) _
    refine XS.aloadN X0.here hx rfl (hb hby d2_13) rfl rfl ?_
    show Steps p.tables e below (s₁.setTop (mkF m 14 #[.val (.ref a1), .val (.ref a2), .val (.double (FP.l2d (((0 : Int64) + (x0 * y0)) + (x1 * y1)))), .second, .val (.int (2 : Int32))] [(.ref a1), (.double (FP.l2d (((0 : Int64) + (x0 * y0)) + (x1 * y1))))])) _
    refine XS.iload X0.here hx rfl (hb hby d2_14) rfl ?_
    show Steps p.tables e below (s₁.setTop (mkF m 16 #[.val (.ref a1), .val (.ref a2), .val (.double (FP.l2d (((0 : Int64) + (x0 * y0)) + (x1 * y1)))), .second, .val (.int (2 : Int32))] [(.int (2 : Int32)), (.ref a1), (.double (FP.l2d (((0 : Int64) + (x0 * y0)) + (x1 * y1))))])) _
    refine X0.daload hx (j := (2 : Int32)) (v := (.double (FP.l2d x2))) (by rw [e0]; exact Ao8.1) (State.isArrayOf_alike hZ.alike Ao8.2.1) Ao8.2.2 (inb_of So8 ⟨(by decide), (by decide)⟩) (Has.at Bo8 (inb_of So8 ⟨(by decide), (by decide)⟩) rfl) (g := (mkF m 16 #[.val (.ref a1), .val (.ref a2), .val (.double (FP.l2d (((0 : Int64) + (x0 * y0)) + (x1 * y1)))), .second, .val (.int (2 : Int32))] [(.int (2 : Int32)), (.ref a1), (.double (FP.l2d (((0 : Int64) + (x0 * y0)) + (x1 * y1))))])) rfl rfl (hb hby d2_16) _ ?_
    show Steps p.tables e below (s₁.setTop (mkF m 17 #[.val (.ref a1), .val (.ref a2), .val (.double (FP.l2d (((0 : Int64) + (x0 * y0)) + (x1 * y1)))), .second, .val (.int (2 : Int32))] [(.double (FP.l2d x2)), (.double (FP.l2d (((0 : Int64) + (x0 * y0)) + (x1 * y1))))])) _
    refine XS.aloadN X0.here hx rfl (hb hby d2_17) rfl rfl ?_
    show Steps p.tables e below (s₁.setTop (mkF m 18 #[.val (.ref a1), .val (.ref a2), .val (.double (FP.l2d (((0 : Int64) + (x0 * y0)) + (x1 * y1)))), .second, .val (.int (2 : Int32))] [(.ref a2), (.double (FP.l2d x2)), (.double (FP.l2d (((0 : Int64) + (x0 * y0)) + (x1 * y1))))])) _
    refine XS.iload X0.here hx rfl (hb hby d2_18) rfl ?_
    show Steps p.tables e below (s₁.setTop (mkF m 20 #[.val (.ref a1), .val (.ref a2), .val (.double (FP.l2d (((0 : Int64) + (x0 * y0)) + (x1 * y1)))), .second, .val (.int (2 : Int32))] [(.int (2 : Int32)), (.ref a2), (.double (FP.l2d x2)), (.double (FP.l2d (((0 : Int64) + (x0 * y0)) + (x1 * y1))))])) _
    refine X0.daload hx (j := (2 : Int32)) (v := (.double (FP.l2d y2))) (by rw [e0]; exact Ao9.1) (State.isArrayOf_alike hZ.alike Ao9.2.1) Ao9.2.2 (inb_of So9 ⟨(by decide), (by decide)⟩) (Has.at Bo9 (inb_of So9 ⟨(by decide), (by decide)⟩) rfl) (g := (mkF m 20 #[.val (.ref a1), .val (.ref a2), .val (.double (FP.l2d (((0 : Int64) + (x0 * y0)) + (x1 * y1)))), .second, .val (.int (2 : Int32))] [(.int (2 : Int32)), (.ref a2), (.double (FP.l2d x2)), (.double (FP.l2d (((0 : Int64) + (x0 * y0)) + (x1 * y1))))])) rfl rfl (hb hby d2_20) _ ?_
    show Steps p.tables e below (s₁.setTop (mkF m 21 #[.val (.ref a1), .val (.ref a2), .val (.double (FP.l2d (((0 : Int64) + (x0 * y0)) + (x1 * y1)))), .second, .val (.int (2 : Int32))] [(.double (FP.l2d y2)), (.double (FP.l2d x2)), (.double (FP.l2d (((0 : Int64) + (x0 * y0)) + (x1 * y1))))])) _
    refine XS.dmulS X0.here hx rfl (hb hby d2_21) rfl (own_mulnn hx2 hy2) (v := (FP.dmul (FP.l2d x2) (FP.l2d y2))) rfl ?_
    show Steps p.tables e below (s₁.setTop (mkF m 22 #[.val (.ref a1), .val (.ref a2), .val (.double (FP.l2d (((0 : Int64) + (x0 * y0)) + (x1 * y1)))), .second, .val (.int (2 : Int32))] [(.double (FP.dmul (FP.l2d x2) (FP.l2d y2))), (.double (FP.l2d (((0 : Int64) + (x0 * y0)) + (x1 * y1))))])) _
    refine XS.daddS X0.here hx rfl (hb hby d2_22) rfl (nn_w (own_fma hs2 hx2 hy2 (by decide))) (v := (FP.l2d ((((0 : Int64) + (x0 * y0)) + (x1 * y1)) + (x2 * y2)))) (own_fma hs2 hx2 hy2 (by decide)) ?_
    show Steps p.tables e below (s₁.setTop (mkF m 23 #[.val (.ref a1), .val (.ref a2), .val (.double (FP.l2d (((0 : Int64) + (x0 * y0)) + (x1 * y1)))), .second, .val (.int (2 : Int32))] [(.double (FP.l2d ((((0 : Int64) + (x0 * y0)) + (x1 * y1)) + (x2 * y2))))])) _
    refine XS.dstoreN X0.here hx rfl (hb hby d2_23) rfl (l' := #[.val (.ref a1), .val (.ref a2), .val (.double (FP.l2d ((((0 : Int64) + (x0 * y0)) + (x1 * y1)) + (x2 * y2)))), .second, .val (.int (2 : Int32))]) rfl ?_
    show Steps p.tables e below (s₁.setTop (mkF m 24 #[.val (.ref a1), .val (.ref a2), .val (.double (FP.l2d ((((0 : Int64) + (x0 * y0)) + (x1 * y1)) + (x2 * y2)))), .second, .val (.int (2 : Int32))] [])) _
    refine XS.iinc X0.here hx rfl (hb hby d2_24) rfl (l' := #[.val (.ref a1), .val (.ref a2), .val (.double (FP.l2d ((((0 : Int64) + (x0 * y0)) + (x1 * y1)) + (x2 * y2)))), .second, .val (.int (3 : Int32))]) rfl ?_
    show Steps p.tables e below (s₁.setTop (mkF m 27 #[.val (.ref a1), .val (.ref a2), .val (.double (FP.l2d ((((0 : Int64) + (x0 * y0)) + (x1 * y1)) + (x2 * y2)))), .second, .val (.int (3 : Int32))] [])) _
    refine XS.goto X0.here hx rfl (pc0 := 27) (pc' := 5) rfl (hb hby d2_27) (by decide) (by decide) ?_
    show Steps p.tables e below (s₁.setTop (mkF m 5 #[.val (.ref a1), .val (.ref a2), .val (.double (FP.l2d ((((0 : Int64) + (x0 * y0)) + (x1 * y1)) + (x2 * y2)))), .second, .val (.int (3 : Int32))] [])) _
    refine XS.iload X0.here hx rfl (hb hby d2_5) rfl ?_
    show Steps p.tables e below (s₁.setTop (mkF m 7 #[.val (.ref a1), .val (.ref a2), .val (.double (FP.l2d ((((0 : Int64) + (x0 * y0)) + (x1 * y1)) + (x2 * y2)))), .second, .val (.int (3 : Int32))] [(.int (3 : Int32))])) _
    refine XS.aloadN X0.here hx rfl (hb hby d2_7) rfl rfl ?_
    show Steps p.tables e below (s₁.setTop (mkF m 8 #[.val (.ref a1), .val (.ref a2), .val (.double (FP.l2d ((((0 : Int64) + (x0 * y0)) + (x1 * y1)) + (x2 * y2)))), .second, .val (.int (3 : Int32))] [(.ref a1), (.int (3 : Int32))])) _
    refine X0.arraylength hx (by rw [e0]; exact Ao10.1) (State.isArrayOf_alike hZ.alike Ao10.2.1) (g := (mkF m 8 #[.val (.ref a1), .val (.ref a2), .val (.double (FP.l2d ((((0 : Int64) + (x0 * y0)) + (x1 * y1)) + (x2 * y2)))), .second, .val (.int (3 : Int32))] [(.ref a1), (.int (3 : Int32))])) rfl rfl (hb hby d2_8) _ ?_
    rw [len_of So10 Mo10]
    show Steps p.tables e below (s₁.setTop (mkF m 9 #[.val (.ref a1), .val (.ref a2), .val (.double (FP.l2d ((((0 : Int64) + (x0 * y0)) + (x1 * y1)) + (x2 * y2)))), .second, .val (.int (3 : Int32))] [(.int (4 : Int32)), (.int (3 : Int32))])) _
    refine XS.icmpNo X0.here hx rfl (hb hby d2_9) rfl (tlt (by decide : (3 : Int32) < (4 : Int32))).2.1 ?_
    show Steps p.tables e below (s₁.setTop (mkF m 12 #[.val (.ref a1), .val (.ref a2), .val (.double (FP.l2d ((((0 : Int64) + (x0 * y0)) + (x1 * y1)) + (x2 * y2)))), .second, .val (.int (3 : Int32))] [])) _
    refine XS.dloadN X0.here hx rfl (hb hby d2_12) rfl ?_
    show Steps p.tables e below (s₁.setTop (mkF m 13 #[.val (.ref a1), .val (.ref a2), .val (.double (FP.l2d ((((0 : Int64) + (x0 * y0)) + (x1 * y1)) + (x2 * y2)))), .second, .val (.int (3 : Int32))] [(.double (FP.l2d ((((0 : Int64) + (x0 * y0)) + (x1 * y1)) + (x2 * y2))))])) _
    refine XS.aloadN X0.here hx rfl (hb hby d2_13) rfl rfl ?_
    show Steps p.tables e below (s₁.setTop (mkF m 14 #[.val (.ref a1), .val (.ref a2), .val (.double (FP.l2d ((((0 : Int64) + (x0 * y0)) + (x1 * y1)) + (x2 * y2)))), .second, .val (.int (3 : Int32))] [(.ref a1), (.double (FP.l2d ((((0 : Int64) + (x0 * y0)) + (x1 * y1)) + (x2 * y2))))])) _
    refine XS.iload X0.here hx rfl (hb hby d2_14) rfl ?_
    show Steps p.tables e below (s₁.setTop (mkF m 16 #[.val (.ref a1), .val (.ref a2), .val (.double (FP.l2d ((((0 : Int64) + (x0 * y0)) + (x1 * y1)) + (x2 * y2)))), .second, .val (.int (3 : Int32))] [(.int (3 : Int32)), (.ref a1), (.double (FP.l2d ((((0 : Int64) + (x0 * y0)) + (x1 * y1)) + (x2 * y2))))])) _
    refine X0.daload hx (j := (3 : Int32)) (v := (.double (FP.l2d x3))) (by rw [e0]; exact Ao11.1) (State.isArrayOf_alike hZ.alike Ao11.2.1) Ao11.2.2 (inb_of So11 ⟨(by decide), (by decide)⟩) (Has.at Bo11 (inb_of So11 ⟨(by decide), (by decide)⟩) rfl) (g := (mkF m 16 #[.val (.ref a1), .val (.ref a2), .val (.double (FP.l2d ((((0 : Int64) + (x0 * y0)) + (x1 * y1)) + (x2 * y2)))), .second, .val (.int (3 : Int32))] [(.int (3 : Int32)), (.ref a1), (.double (FP.l2d ((((0 : Int64) + (x0 * y0)) + (x1 * y1)) + (x2 * y2))))])) rfl rfl (hb hby d2_16) _ ?_
    show Steps p.tables e below (s₁.setTop (mkF m 17 #[.val (.ref a1), .val (.ref a2), .val (.double (FP.l2d ((((0 : Int64) + (x0 * y0)) + (x1 * y1)) + (x2 * y2)))), .second, .val (.int (3 : Int32))] [(.double (FP.l2d x3)), (.double (FP.l2d ((((0 : Int64) + (x0 * y0)) + (x1 * y1)) + (x2 * y2))))])) _
    refine XS.aloadN X0.here hx rfl (hb hby d2_17) rfl rfl ?_
    show Steps p.tables e below (s₁.setTop (mkF m 18 #[.val (.ref a1), .val (.ref a2), .val (.double (FP.l2d ((((0 : Int64) + (x0 * y0)) + (x1 * y1)) + (x2 * y2)))), .second, .val (.int (3 : Int32))] [(.ref a2), (.double (FP.l2d x3)), (.double (FP.l2d ((((0 : Int64) + (x0 * y0)) + (x1 * y1)) + (x2 * y2))))])) _
    refine XS.iload X0.here hx rfl (hb hby d2_18) rfl ?_
    show Steps p.tables e below (s₁.setTop (mkF m 20 #[.val (.ref a1), .val (.ref a2), .val (.double (FP.l2d ((((0 : Int64) + (x0 * y0)) + (x1 * y1)) + (x2 * y2)))), .second, .val (.int (3 : Int32))] [(.int (3 : Int32)), (.ref a2), (.double (FP.l2d x3)), (.double (FP.l2d ((((0 : Int64) + (x0 * y0)) + (x1 * y1)) + (x2 * y2))))])) _
    refine X0.daload hx (j := (3 : Int32)) (v := (.double (FP.l2d y3))) (by rw [e0]; exact Ao12.1) (State.isArrayOf_alike hZ.alike Ao12.2.1) Ao12.2.2 (inb_of So12 ⟨(by decide), (by decide)⟩) (Has.at Bo12 (inb_of So12 ⟨(by decide), (by decide)⟩) rfl) (g := (mkF m 20 #[.val (.ref a1), .val (.ref a2), .val (.double (FP.l2d ((((0 : Int64) + (x0 * y0)) + (x1 * y1)) + (x2 * y2)))), .second, .val (.int (3 : Int32))] [(.int (3 : Int32)), (.ref a2), (.double (FP.l2d x3)), (.double (FP.l2d ((((0 : Int64) + (x0 * y0)) + (x1 * y1)) + (x2 * y2))))])) rfl rfl (hb hby d2_20) _ ?_
    show Steps p.tables e below (s₁.setTop (mkF m 21 #[.val (.ref a1), .val (.ref a2), .val (.double (FP.l2d ((((0 : Int64) + (x0 * y0)) + (x1 * y1)) + (x2 * y2)))), .second, .val (.int (3 : Int32))] [(.double (FP.l2d y3)), (.double (FP.l2d x3)), (.double (FP.l2d ((((0 : Int64) + (x0 * y0)) + (x1 * y1)) + (x2 * y2))))])) _
    refine XS.dmulS X0.here hx rfl (hb hby d2_21) rfl (own_mulnn hx3 hy3) (v := (FP.dmul (FP.l2d x3) (FP.l2d y3))) rfl ?_
    show Steps p.tables e below (s₁.setTop (mkF m 22 #[.val (.ref a1), .val (.ref a2), .val (.double (FP.l2d ((((0 : Int64) + (x0 * y0)) + (x1 * y1)) + (x2 * y2)))), .second, .val (.int (3 : Int32))] [(.double (FP.dmul (FP.l2d x3) (FP.l2d y3))), (.double (FP.l2d ((((0 : Int64) + (x0 * y0)) + (x1 * y1)) + (x2 * y2))))])) _
    refine XS.daddS X0.here hx rfl (hb hby d2_22) rfl (nn_w (own_fma hs3 hx3 hy3 (by decide))) (v := (FP.l2d (((((0 : Int64) + (x0 * y0)) + (x1 * y1)) + (x2 * y2)) + (x3 * y3)))) (own_fma hs3 hx3 hy3 (by decide)) ?_
    show Steps p.tables e below (s₁.setTop (mkF m 23 #[.val (.ref a1), .val (.ref a2), .val (.double (FP.l2d ((((0 : Int64) + (x0 * y0)) + (x1 * y1)) + (x2 * y2)))), .second, .val (.int (3 : Int32))] [(.double (FP.l2d (((((0 : Int64) + (x0 * y0)) + (x1 * y1)) + (x2 * y2)) + (x3 * y3))))])) _
    refine XS.dstoreN X0.here hx rfl (hb hby d2_23) rfl (l' := #[.val (.ref a1), .val (.ref a2), .val (.double (FP.l2d (((((0 : Int64) + (x0 * y0)) + (x1 * y1)) + (x2 * y2)) + (x3 * y3)))), .second, .val (.int (3 : Int32))]) rfl ?_
    show Steps p.tables e below (s₁.setTop (mkF m 24 #[.val (.ref a1), .val (.ref a2), .val (.double (FP.l2d (((((0 : Int64) + (x0 * y0)) + (x1 * y1)) + (x2 * y2)) + (x3 * y3)))), .second, .val (.int (3 : Int32))] [])) _
    refine XS.iinc X0.here hx rfl (hb hby d2_24) rfl (l' := #[.val (.ref a1), .val (.ref a2), .val (.double (FP.l2d (((((0 : Int64) + (x0 * y0)) + (x1 * y1)) + (x2 * y2)) + (x3 * y3)))), .second, .val (.int (4 : Int32))]) rfl ?_
    show Steps p.tables e below (s₁.setTop (mkF m 27 #[.val (.ref a1), .val (.ref a2), .val (.double (FP.l2d (((((0 : Int64) + (x0 * y0)) + (x1 * y1)) + (x2 * y2)) + (x3 * y3)))), .second, .val (.int (4 : Int32))] [])) _
    refine XS.goto X0.here hx rfl (pc0 := 27) (pc' := 5) rfl (hb hby d2_27) (by decide) (by decide) ?_
    show Steps p.tables e below (s₁.setTop (mkF m 5 #[.val (.ref a1), .val (.ref a2), .val (.double (FP.l2d (((((0 : Int64) + (x0 * y0)) + (x1 * y1)) + (x2 * y2)) + (x3 * y3)))), .second, .val (.int (4 : Int32))] [])) _
    refine XS.iload X0.here hx rfl (hb hby d2_5) rfl ?_
    show Steps p.tables e below (s₁.setTop (mkF m 7 #[.val (.ref a1), .val (.ref a2), .val (.double (FP.l2d (((((0 : Int64) + (x0 * y0)) + (x1 * y1)) + (x2 * y2)) + (x3 * y3)))), .second, .val (.int (4 : Int32))] [(.int (4 : Int32))])) _
    refine XS.aloadN X0.here hx rfl (hb hby d2_7) rfl rfl ?_
    show Steps p.tables e below (s₁.setTop (mkF m 8 #[.val (.ref a1), .val (.ref a2), .val (.double (FP.l2d (((((0 : Int64) + (x0 * y0)) + (x1 * y1)) + (x2 * y2)) + (x3 * y3)))), .second, .val (.int (4 : Int32))] [(.ref a1), (.int (4 : Int32))])) _
    refine X0.arraylength hx (by rw [e0]; exact Ao13.1) (State.isArrayOf_alike hZ.alike Ao13.2.1) (g := (mkF m 8 #[.val (.ref a1), .val (.ref a2), .val (.double (FP.l2d (((((0 : Int64) + (x0 * y0)) + (x1 * y1)) + (x2 * y2)) + (x3 * y3)))), .second, .val (.int (4 : Int32))] [(.ref a1), (.int (4 : Int32))])) rfl rfl (hb hby d2_8) _ ?_
    rw [len_of So13 Mo13]
    show Steps p.tables e below (s₁.setTop (mkF m 9 #[.val (.ref a1), .val (.ref a2), .val (.double (FP.l2d (((((0 : Int64) + (x0 * y0)) + (x1 * y1)) + (x2 * y2)) + (x3 * y3)))), .second, .val (.int (4 : Int32))] [(.int (4 : Int32)), (.int (4 : Int32))])) _
    refine XS.icmpYes X0.here hx rfl (pc0 := 9) (pc' := 30) rfl (hb hby d2_9) rfl (flt (by decide : ¬ ((4 : Int32) < (4 : Int32)))).2.1 (by decide) (by decide) ?_
    show Steps p.tables e below (s₁.setTop (mkF m 30 #[.val (.ref a1), .val (.ref a2), .val (.double (FP.l2d (((((0 : Int64) + (x0 * y0)) + (x1 * y1)) + (x2 * y2)) + (x3 * y3)))), .second, .val (.int (4 : Int32))] [])) _
    refine XS.dloadN X0.here hx rfl (hb hby d2_30) rfl ?_
    show Steps p.tables e below (s₁.setTop (mkF m 31 #[.val (.ref a1), .val (.ref a2), .val (.double (FP.l2d (((((0 : Int64) + (x0 * y0)) + (x1 * y1)) + (x2 * y2)) + (x3 * y3)))), .second, .val (.int (4 : Int32))] [(.double (FP.l2d (((((0 : Int64) + (x0 * y0)) + (x1 * y1)) + (x2 * y2)) + (x3 * y3))))])) _
    exact retOut X0 hx Bd.returns rfl (Or.inr (Or.inr (Or.inl ⟨rfl, rfl, _, rfl⟩))) (hb hby d2_31) hr
  · show Q2_4 Z a1 a2 k1 k2 x0 x1 x2 x3 y0 y1 y2 y3 h0 n0 _ s₁.heap _
    rw [e0]
    exact ⟨rfl, N0, rfl⟩
theorem pd_0 : parseMethodDescriptor "(IIIII)[D" = some ⟨[.int, .int, .int, .int, .int], some (.array .double)⟩ := by decide +kernel
theorem pd_1 : parseMethodDescriptor "([D[D)D" = some ⟨[(.array .double), (.array .double)], some .double⟩ := by decide +kernel
theorem ef_0 (m : MethodId) (p0 : Int32) (q1 : Int64) (q2 : Int64) : entryFrame m #[(.int p0), (.long q1), (.long q2)] maxLocals = mkF m 0 #[.val (.int p0), .val (.long q1), .second, .val (.long q2), .second, .unset, .unset, .unset, .unset, .unset, .unset, .unset, .unset, .unset, .unset, .unset, .unset, .unset] [] := by first | (simp [entryFrame, mkF, argsToLocals, Value.category, maxLocals]; done) | rfl
def Q0 (Z : State) (p0 : Int32) (q1 : Int64) (q2 : Int64) (h0 : Heap) (n0 : Nat) (v : Option Value) (h : Heap) (L : List Loc) : Prop := v = some (.int (1 : Int32)) ∧ Fr n0 L
set_option maxRecDepth 65536 in
set_option maxHeartbeats 40000000 in
theorem rm0 (l : Launch) (Z : State) (a0 : Array Value) (hw : ∀ d ∈ tables_1, d.before a0 Z = true) (ws : List Jvm.Cond) (p0 : Int32) (q1 : Int64) (q2 : Int64) (h0 : Heap) (n0 : Nat) (Z0 : n0 ≤ h0.size)  :
    MetFree l x (head1 (Jvm.Cond.code x code maxLocals ret :: ws) room_1) (fun a U => a = #[(.int p0), (.long q1), (.long q2)] ∧ Z.Warmed39 U.vm ∧ U.heap = h0) (fun _ _ _ _ _ => True) (fun _ U o U' => ∃ v L, o = .returned v ∧ Q0 Z p0 q1 q2 h0 n0 v U'.heap L ∧ FrameEnd U o U' L room_1.cells room_1.slots) := by
  refine MetFree.of_bodySF (plainFor_of_name pn_0) hisR ?_
  intro p e s m args below meth c s₁ Bd hml0 hP hK
  obtain ⟨rfl, hZ, hh⟩ := hP
  have hx := Bd.exec
  have hby := Bd.bytes
  have hml : c.maxLocals = 18 := hml0
  have hown : s.vm.findClass "com/example/prudent_feedback/prudentfeedback/coefficient/LogisticFitDotPinLaw" = some m.cls := findClass_of_methodNamed Bd.named
  have hnm := (name_of_methodNamed Bd.named Bd.method).1
  have X0 : Stand p l e room_1 s m #[(.int p0), (.long q1), (.long q2)] below meth c s₁ [] 0 0 := Stand.of_body Bd
  have e0 : s₁.heap = h0 := by rw [← hh, Bd.state]; rfl
  have N0 := Fr.nil n0
  have pre0 : ∀ t, Steps p.tables e below (s₁.setTop (mkF m 0 #[.val (.int p0), .val (.long q1), .second, .val (.long q2), .second, .unset, .unset, .unset, .unset, .unset, .unset, .unset, .unset, .unset, .unset, .unset, .unset, .unset] [])) t → Steps p.tables e below (s₁.setTop (entryFrame m #[(.int p0), (.long q1), (.long q2)] maxLocals)) t := fun t k => castTop (ef_0 m p0 q1 q2) k
  have P1 : ∀ t, Steps p.tables e below (s₁.setTop (mkF m 8 #[.val (.int p0), .val (.long q1), .second, .val (.long q2), .second, .val (.int ((p0 &&& (7 : Int32)) % (5 : Int32))), .unset, .unset, .unset, .unset, .unset, .unset, .unset, .unset, .unset, .unset, .unset, .unset] [])) t → Steps p.tables e below (s₁.setTop (entryFrame m #[(.int p0), (.long q1), (.long q2)] maxLocals)) t := by
    intro t k
    refine pre0 t ?_
    show Steps p.tables e below (s₁.setTop (mkF m 0 #[.val (.int p0), .val (.long q1), .second, .val (.long q2), .second, .unset, .unset, .unset, .unset, .unset, .unset, .unset, .unset, .unset, .unset, .unset, .unset, .unset] [])) _
    refine XS.iloadN X0.here hx rfl (hb hby at_0) rfl ?_
    show Steps p.tables e below (s₁.setTop (mkF m 1 #[.val (.int p0), .val (.long q1), .second, .val (.long q2), .second, .unset, .unset, .unset, .unset, .unset, .unset, .unset, .unset, .unset, .unset, .unset, .unset, .unset] [(.int p0)])) _
    refine XS.bipush X0.here hx rfl (hb hby at_1) ?_
    show Steps p.tables e below (s₁.setTop (mkF m 3 #[.val (.int p0), .val (.long q1), .second, .val (.long q2), .second, .unset, .unset, .unset, .unset, .unset, .unset, .unset, .unset, .unset, .unset, .unset, .unset, .unset] [(.int (7 : Int32)), (.int p0)])) _
    refine XS.iand X0.here hx rfl (hb hby at_3) rfl ?_
    show Steps p.tables e below (s₁.setTop (mkF m 4 #[.val (.int p0), .val (.long q1), .second, .val (.long q2), .second, .unset, .unset, .unset, .unset, .unset, .unset, .unset, .unset, .unset, .unset, .unset, .unset, .unset] [(.int (p0 &&& (7 : Int32)))])) _
    refine XS.iconst X0.here hx rfl (hb hby at_4) ?_
    show Steps p.tables e below (s₁.setTop (mkF m 5 #[.val (.int p0), .val (.long q1), .second, .val (.long q2), .second, .unset, .unset, .unset, .unset, .unset, .unset, .unset, .unset, .unset, .unset, .unset, .unset, .unset] [(.int (5 : Int32)), (.int (p0 &&& (7 : Int32)))])) _
    refine iremM X0 hx rfl (hb hby at_5) rfl (by decide) ?_
    show Steps p.tables e below (s₁.setTop (mkF m 6 #[.val (.int p0), .val (.long q1), .second, .val (.long q2), .second, .unset, .unset, .unset, .unset, .unset, .unset, .unset, .unset, .unset, .unset, .unset, .unset, .unset] [(.int ((p0 &&& (7 : Int32)) % (5 : Int32)))])) _
    refine XS.istore X0.here hx rfl (hb hby at_6) rfl (l' := #[.val (.int p0), .val (.long q1), .second, .val (.long q2), .second, .val (.int ((p0 &&& (7 : Int32)) % (5 : Int32))), .unset, .unset, .unset, .unset, .unset, .unset, .unset, .unset, .unset, .unset, .unset, .unset]) rfl ?_
    exact k
  obtain ⟨nv, hnv⟩ : ∃ z : Int32, z = ((p0 &&& (7 : Int32)) % (5 : Int32)) := ⟨_, rfl⟩
  have P2 : ∀ t, Steps p.tables e below (s₁.setTop (mkF m 8 #[.val (.int p0), .val (.long q1), .second, .val (.long q2), .second, .val (.int nv), .unset, .unset, .unset, .unset, .unset, .unset, .unset, .unset, .unset, .unset, .unset, .unset] [])) t → Steps p.tables e below (s₁.setTop (entryFrame m #[(.int p0), (.long q1), (.long q2)] maxLocals)) t := by rw [hnv]; exact P1
  have P3 : ∀ t, Steps p.tables e below (s₁.setTop (mkF m 66 #[.val (.int p0), .val (.long q1), .second, .val (.long q2), .second, .val (.int nv), .val (.int ((q1.toInt32).toInt16.toInt32)), .val (.int ((((q1.toUInt64 >>> ((16 : Int32) &&& 0x3f).toInt64.toUInt64).toInt64).toInt32).toInt16.toInt32)), .val (.int ((((q1.toUInt64 >>> ((32 : Int32) &&& 0x3f).toInt64.toUInt64).toInt64).toInt32).toInt16.toInt32)), .val (.int ((((q1.toUInt64 >>> ((48 : Int32) &&& 0x3f).toInt64.toUInt64).toInt64).toInt32).toInt16.toInt32)), .val (.int ((q2.toInt32).toInt16.toInt32)), .val (.int ((((q2.toUInt64 >>> ((16 : Int32) &&& 0x3f).toInt64.toUInt64).toInt64).toInt32).toInt16.toInt32)), .val (.int ((((q2.toUInt64 >>> ((32 : Int32) &&& 0x3f).toInt64.toUInt64).toInt64).toInt32).toInt16.toInt32)), .val (.int ((((q2.toUInt64 >>> ((48 : Int32) &&& 0x3f).toInt64.toUInt64).toInt64).toInt32).toInt16.toInt32)), .unset, .unset, .unset, .unset] [])) t → Steps p.tables e below (s₁.setTop (entryFrame m #[(.int p0), (.long q1), (.long q2)] maxLocals)) t := by
    intro t k
    refine P2 t ?_
    show Steps p.tables e below (s₁.setTop (mkF m 8 #[.val (.int p0), .val (.long q1), .second, .val (.long q2), .second, .val (.int nv), .unset, .unset, .unset, .unset, .unset, .unset, .unset, .unset, .unset, .unset, .unset, .unset] [])) _
    refine XS.lloadN X0.here hx rfl (hb hby at_8) rfl ?_
    show Steps p.tables e below (s₁.setTop (mkF m 9 #[.val (.int p0), .val (.long q1), .second, .val (.long q2), .second, .val (.int nv), .unset, .unset, .unset, .unset, .unset, .unset, .unset, .unset, .unset, .unset, .unset, .unset] [(.long q1)])) _
    refine XS.l2i X0.here hx rfl (hb hby at_9) rfl ?_
    show Steps p.tables e below (s₁.setTop (mkF m 10 #[.val (.int p0), .val (.long q1), .second, .val (.long q2), .second, .val (.int nv), .unset, .unset, .unset, .unset, .unset, .unset, .unset, .unset, .unset, .unset, .unset, .unset] [(.int (q1.toInt32))])) _
    refine XS.i2s X0.here hx rfl (hb hby at_10) rfl ?_
    show Steps p.tables e below (s₁.setTop (mkF m 11 #[.val (.int p0), .val (.long q1), .second, .val (.long q2), .second, .val (.int nv), .unset, .unset, .unset, .unset, .unset, .unset, .unset, .unset, .unset, .unset, .unset, .unset] [(.int ((q1.toInt32).toInt16.toInt32))])) _
    refine XS.istore X0.here hx rfl (hb hby at_11) rfl (l' := #[.val (.int p0), .val (.long q1), .second, .val (.long q2), .second, .val (.int nv), .val (.int ((q1.toInt32).toInt16.toInt32)), .unset, .unset, .unset, .unset, .unset, .unset, .unset, .unset, .unset, .unset, .unset]) rfl ?_
    show Steps p.tables e below (s₁.setTop (mkF m 13 #[.val (.int p0), .val (.long q1), .second, .val (.long q2), .second, .val (.int nv), .val (.int ((q1.toInt32).toInt16.toInt32)), .unset, .unset, .unset, .unset, .unset, .unset, .unset, .unset, .unset, .unset, .unset] [])) _
    refine XS.lloadN X0.here hx rfl (hb hby at_13) rfl ?_
    show Steps p.tables e below (s₁.setTop (mkF m 14 #[.val (.int p0), .val (.long q1), .second, .val (.long q2), .second, .val (.int nv), .val (.int ((q1.toInt32).toInt16.toInt32)), .unset, .unset, .unset, .unset, .unset, .unset, .unset, .unset, .unset, .unset, .unset] [(.long q1)])) _
    refine XS.bipush X0.here hx rfl (hb hby at_14) ?_
    show Steps p.tables e below (s₁.setTop (mkF m 16 #[.val (.int p0), .val (.long q1), .second, .val (.long q2), .second, .val (.int nv), .val (.int ((q1.toInt32).toInt16.toInt32)), .unset, .unset, .unset, .unset, .unset, .unset, .unset, .unset, .unset, .unset, .unset] [(.int (16 : Int32)), (.long q1)])) _
    refine XS.lushr X0.here hx rfl (hb hby at_16) rfl ?_
    show Steps p.tables e below (s₁.setTop (mkF m 17 #[.val (.int p0), .val (.long q1), .second, .val (.long q2), .second, .val (.int nv), .val (.int ((q1.toInt32).toInt16.toInt32)), .unset, .unset, .unset, .unset, .unset, .unset, .unset, .unset, .unset, .unset, .unset] [(.long ((q1.toUInt64 >>> ((16 : Int32) &&& 0x3f).toInt64.toUInt64).toInt64))])) _
    refine XS.l2i X0.here hx rfl (hb hby at_17) rfl ?_
    show Steps p.tables e below (s₁.setTop (mkF m 18 #[.val (.int p0), .val (.long q1), .second, .val (.long q2), .second, .val (.int nv), .val (.int ((q1.toInt32).toInt16.toInt32)), .unset, .unset, .unset, .unset, .unset, .unset, .unset, .unset, .unset, .unset, .unset] [(.int (((q1.toUInt64 >>> ((16 : Int32) &&& 0x3f).toInt64.toUInt64).toInt64).toInt32))])) _
    refine XS.i2s X0.here hx rfl (hb hby at_18) rfl ?_
    show Steps p.tables e below (s₁.setTop (mkF m 19 #[.val (.int p0), .val (.long q1), .second, .val (.long q2), .second, .val (.int nv), .val (.int ((q1.toInt32).toInt16.toInt32)), .unset, .unset, .unset, .unset, .unset, .unset, .unset, .unset, .unset, .unset, .unset] [(.int ((((q1.toUInt64 >>> ((16 : Int32) &&& 0x3f).toInt64.toUInt64).toInt64).toInt32).toInt16.toInt32))])) _
    refine XS.istore X0.here hx rfl (hb hby at_19) rfl (l' := #[.val (.int p0), .val (.long q1), .second, .val (.long q2), .second, .val (.int nv), .val (.int ((q1.toInt32).toInt16.toInt32)), .val (.int ((((q1.toUInt64 >>> ((16 : Int32) &&& 0x3f).toInt64.toUInt64).toInt64).toInt32).toInt16.toInt32)), .unset, .unset, .unset, .unset, .unset, .unset, .unset, .unset, .unset, .unset]) rfl ?_
    show Steps p.tables e below (s₁.setTop (mkF m 21 #[.val (.int p0), .val (.long q1), .second, .val (.long q2), .second, .val (.int nv), .val (.int ((q1.toInt32).toInt16.toInt32)), .val (.int ((((q1.toUInt64 >>> ((16 : Int32) &&& 0x3f).toInt64.toUInt64).toInt64).toInt32).toInt16.toInt32)), .unset, .unset, .unset, .unset, .unset, .unset, .unset, .unset, .unset, .unset] [])) _
    refine XS.lloadN X0.here hx rfl (hb hby at_21) rfl ?_
    show Steps p.tables e below (s₁.setTop (mkF m 22 #[.val (.int p0), .val (.long q1), .second, .val (.long q2), .second, .val (.int nv), .val (.int ((q1.toInt32).toInt16.toInt32)), .val (.int ((((q1.toUInt64 >>> ((16 : Int32) &&& 0x3f).toInt64.toUInt64).toInt64).toInt32).toInt16.toInt32)), .unset, .unset, .unset, .unset, .unset, .unset, .unset, .unset, .unset, .unset] [(.long q1)])) _
    refine XS.bipush X0.here hx rfl (hb hby at_22) ?_
    show Steps p.tables e below (s₁.setTop (mkF m 24 #[.val (.int p0), .val (.long q1), .second, .val (.long q2), .second, .val (.int nv), .val (.int ((q1.toInt32).toInt16.toInt32)), .val (.int ((((q1.toUInt64 >>> ((16 : Int32) &&& 0x3f).toInt64.toUInt64).toInt64).toInt32).toInt16.toInt32)), .unset, .unset, .unset, .unset, .unset, .unset, .unset, .unset, .unset, .unset] [(.int (32 : Int32)), (.long q1)])) _
    refine XS.lushr X0.here hx rfl (hb hby at_24) rfl ?_
    show Steps p.tables e below (s₁.setTop (mkF m 25 #[.val (.int p0), .val (.long q1), .second, .val (.long q2), .second, .val (.int nv), .val (.int ((q1.toInt32).toInt16.toInt32)), .val (.int ((((q1.toUInt64 >>> ((16 : Int32) &&& 0x3f).toInt64.toUInt64).toInt64).toInt32).toInt16.toInt32)), .unset, .unset, .unset, .unset, .unset, .unset, .unset, .unset, .unset, .unset] [(.long ((q1.toUInt64 >>> ((32 : Int32) &&& 0x3f).toInt64.toUInt64).toInt64))])) _
    refine XS.l2i X0.here hx rfl (hb hby at_25) rfl ?_
    show Steps p.tables e below (s₁.setTop (mkF m 26 #[.val (.int p0), .val (.long q1), .second, .val (.long q2), .second, .val (.int nv), .val (.int ((q1.toInt32).toInt16.toInt32)), .val (.int ((((q1.toUInt64 >>> ((16 : Int32) &&& 0x3f).toInt64.toUInt64).toInt64).toInt32).toInt16.toInt32)), .unset, .unset, .unset, .unset, .unset, .unset, .unset, .unset, .unset, .unset] [(.int (((q1.toUInt64 >>> ((32 : Int32) &&& 0x3f).toInt64.toUInt64).toInt64).toInt32))])) _
    refine XS.i2s X0.here hx rfl (hb hby at_26) rfl ?_
    show Steps p.tables e below (s₁.setTop (mkF m 27 #[.val (.int p0), .val (.long q1), .second, .val (.long q2), .second, .val (.int nv), .val (.int ((q1.toInt32).toInt16.toInt32)), .val (.int ((((q1.toUInt64 >>> ((16 : Int32) &&& 0x3f).toInt64.toUInt64).toInt64).toInt32).toInt16.toInt32)), .unset, .unset, .unset, .unset, .unset, .unset, .unset, .unset, .unset, .unset] [(.int ((((q1.toUInt64 >>> ((32 : Int32) &&& 0x3f).toInt64.toUInt64).toInt64).toInt32).toInt16.toInt32))])) _
    refine XS.istore X0.here hx rfl (hb hby at_27) rfl (l' := #[.val (.int p0), .val (.long q1), .second, .val (.long q2), .second, .val (.int nv), .val (.int ((q1.toInt32).toInt16.toInt32)), .val (.int ((((q1.toUInt64 >>> ((16 : Int32) &&& 0x3f).toInt64.toUInt64).toInt64).toInt32).toInt16.toInt32)), .val (.int ((((q1.toUInt64 >>> ((32 : Int32) &&& 0x3f).toInt64.toUInt64).toInt64).toInt32).toInt16.toInt32)), .unset, .unset, .unset, .unset, .unset, .unset, .unset, .unset, .unset]) rfl ?_
    show Steps p.tables e below (s₁.setTop (mkF m 29 #[.val (.int p0), .val (.long q1), .second, .val (.long q2), .second, .val (.int nv), .val (.int ((q1.toInt32).toInt16.toInt32)), .val (.int ((((q1.toUInt64 >>> ((16 : Int32) &&& 0x3f).toInt64.toUInt64).toInt64).toInt32).toInt16.toInt32)), .val (.int ((((q1.toUInt64 >>> ((32 : Int32) &&& 0x3f).toInt64.toUInt64).toInt64).toInt32).toInt16.toInt32)), .unset, .unset, .unset, .unset, .unset, .unset, .unset, .unset, .unset] [])) _
    refine XS.lloadN X0.here hx rfl (hb hby at_29) rfl ?_
    show Steps p.tables e below (s₁.setTop (mkF m 30 #[.val (.int p0), .val (.long q1), .second, .val (.long q2), .second, .val (.int nv), .val (.int ((q1.toInt32).toInt16.toInt32)), .val (.int ((((q1.toUInt64 >>> ((16 : Int32) &&& 0x3f).toInt64.toUInt64).toInt64).toInt32).toInt16.toInt32)), .val (.int ((((q1.toUInt64 >>> ((32 : Int32) &&& 0x3f).toInt64.toUInt64).toInt64).toInt32).toInt16.toInt32)), .unset, .unset, .unset, .unset, .unset, .unset, .unset, .unset, .unset] [(.long q1)])) _
    refine XS.bipush X0.here hx rfl (hb hby at_30) ?_
    show Steps p.tables e below (s₁.setTop (mkF m 32 #[.val (.int p0), .val (.long q1), .second, .val (.long q2), .second, .val (.int nv), .val (.int ((q1.toInt32).toInt16.toInt32)), .val (.int ((((q1.toUInt64 >>> ((16 : Int32) &&& 0x3f).toInt64.toUInt64).toInt64).toInt32).toInt16.toInt32)), .val (.int ((((q1.toUInt64 >>> ((32 : Int32) &&& 0x3f).toInt64.toUInt64).toInt64).toInt32).toInt16.toInt32)), .unset, .unset, .unset, .unset, .unset, .unset, .unset, .unset, .unset] [(.int (48 : Int32)), (.long q1)])) _
    refine XS.lushr X0.here hx rfl (hb hby at_32) rfl ?_
    show Steps p.tables e below (s₁.setTop (mkF m 33 #[.val (.int p0), .val (.long q1), .second, .val (.long q2), .second, .val (.int nv), .val (.int ((q1.toInt32).toInt16.toInt32)), .val (.int ((((q1.toUInt64 >>> ((16 : Int32) &&& 0x3f).toInt64.toUInt64).toInt64).toInt32).toInt16.toInt32)), .val (.int ((((q1.toUInt64 >>> ((32 : Int32) &&& 0x3f).toInt64.toUInt64).toInt64).toInt32).toInt16.toInt32)), .unset, .unset, .unset, .unset, .unset, .unset, .unset, .unset, .unset] [(.long ((q1.toUInt64 >>> ((48 : Int32) &&& 0x3f).toInt64.toUInt64).toInt64))])) _
    refine XS.l2i X0.here hx rfl (hb hby at_33) rfl ?_
    show Steps p.tables e below (s₁.setTop (mkF m 34 #[.val (.int p0), .val (.long q1), .second, .val (.long q2), .second, .val (.int nv), .val (.int ((q1.toInt32).toInt16.toInt32)), .val (.int ((((q1.toUInt64 >>> ((16 : Int32) &&& 0x3f).toInt64.toUInt64).toInt64).toInt32).toInt16.toInt32)), .val (.int ((((q1.toUInt64 >>> ((32 : Int32) &&& 0x3f).toInt64.toUInt64).toInt64).toInt32).toInt16.toInt32)), .unset, .unset, .unset, .unset, .unset, .unset, .unset, .unset, .unset] [(.int (((q1.toUInt64 >>> ((48 : Int32) &&& 0x3f).toInt64.toUInt64).toInt64).toInt32))])) _
    refine XS.i2s X0.here hx rfl (hb hby at_34) rfl ?_
    show Steps p.tables e below (s₁.setTop (mkF m 35 #[.val (.int p0), .val (.long q1), .second, .val (.long q2), .second, .val (.int nv), .val (.int ((q1.toInt32).toInt16.toInt32)), .val (.int ((((q1.toUInt64 >>> ((16 : Int32) &&& 0x3f).toInt64.toUInt64).toInt64).toInt32).toInt16.toInt32)), .val (.int ((((q1.toUInt64 >>> ((32 : Int32) &&& 0x3f).toInt64.toUInt64).toInt64).toInt32).toInt16.toInt32)), .unset, .unset, .unset, .unset, .unset, .unset, .unset, .unset, .unset] [(.int ((((q1.toUInt64 >>> ((48 : Int32) &&& 0x3f).toInt64.toUInt64).toInt64).toInt32).toInt16.toInt32))])) _
    refine XS.istore X0.here hx rfl (hb hby at_35) rfl (l' := #[.val (.int p0), .val (.long q1), .second, .val (.long q2), .second, .val (.int nv), .val (.int ((q1.toInt32).toInt16.toInt32)), .val (.int ((((q1.toUInt64 >>> ((16 : Int32) &&& 0x3f).toInt64.toUInt64).toInt64).toInt32).toInt16.toInt32)), .val (.int ((((q1.toUInt64 >>> ((32 : Int32) &&& 0x3f).toInt64.toUInt64).toInt64).toInt32).toInt16.toInt32)), .val (.int ((((q1.toUInt64 >>> ((48 : Int32) &&& 0x3f).toInt64.toUInt64).toInt64).toInt32).toInt16.toInt32)), .unset, .unset, .unset, .unset, .unset, .unset, .unset, .unset]) rfl ?_
    show Steps p.tables e below (s₁.setTop (mkF m 37 #[.val (.int p0), .val (.long q1), .second, .val (.long q2), .second, .val (.int nv), .val (.int ((q1.toInt32).toInt16.toInt32)), .val (.int ((((q1.toUInt64 >>> ((16 : Int32) &&& 0x3f).toInt64.toUInt64).toInt64).toInt32).toInt16.toInt32)), .val (.int ((((q1.toUInt64 >>> ((32 : Int32) &&& 0x3f).toInt64.toUInt64).toInt64).toInt32).toInt16.toInt32)), .val (.int ((((q1.toUInt64 >>> ((48 : Int32) &&& 0x3f).toInt64.toUInt64).toInt64).toInt32).toInt16.toInt32)), .unset, .unset, .unset, .unset, .unset, .unset, .unset, .unset] [])) _
    refine XS.lloadN X0.here hx rfl (hb hby at_37) rfl ?_
    show Steps p.tables e below (s₁.setTop (mkF m 38 #[.val (.int p0), .val (.long q1), .second, .val (.long q2), .second, .val (.int nv), .val (.int ((q1.toInt32).toInt16.toInt32)), .val (.int ((((q1.toUInt64 >>> ((16 : Int32) &&& 0x3f).toInt64.toUInt64).toInt64).toInt32).toInt16.toInt32)), .val (.int ((((q1.toUInt64 >>> ((32 : Int32) &&& 0x3f).toInt64.toUInt64).toInt64).toInt32).toInt16.toInt32)), .val (.int ((((q1.toUInt64 >>> ((48 : Int32) &&& 0x3f).toInt64.toUInt64).toInt64).toInt32).toInt16.toInt32)), .unset, .unset, .unset, .unset, .unset, .unset, .unset, .unset] [(.long q2)])) _
    refine XS.l2i X0.here hx rfl (hb hby at_38) rfl ?_
    show Steps p.tables e below (s₁.setTop (mkF m 39 #[.val (.int p0), .val (.long q1), .second, .val (.long q2), .second, .val (.int nv), .val (.int ((q1.toInt32).toInt16.toInt32)), .val (.int ((((q1.toUInt64 >>> ((16 : Int32) &&& 0x3f).toInt64.toUInt64).toInt64).toInt32).toInt16.toInt32)), .val (.int ((((q1.toUInt64 >>> ((32 : Int32) &&& 0x3f).toInt64.toUInt64).toInt64).toInt32).toInt16.toInt32)), .val (.int ((((q1.toUInt64 >>> ((48 : Int32) &&& 0x3f).toInt64.toUInt64).toInt64).toInt32).toInt16.toInt32)), .unset, .unset, .unset, .unset, .unset, .unset, .unset, .unset] [(.int (q2.toInt32))])) _
    refine XS.i2s X0.here hx rfl (hb hby at_39) rfl ?_
    show Steps p.tables e below (s₁.setTop (mkF m 40 #[.val (.int p0), .val (.long q1), .second, .val (.long q2), .second, .val (.int nv), .val (.int ((q1.toInt32).toInt16.toInt32)), .val (.int ((((q1.toUInt64 >>> ((16 : Int32) &&& 0x3f).toInt64.toUInt64).toInt64).toInt32).toInt16.toInt32)), .val (.int ((((q1.toUInt64 >>> ((32 : Int32) &&& 0x3f).toInt64.toUInt64).toInt64).toInt32).toInt16.toInt32)), .val (.int ((((q1.toUInt64 >>> ((48 : Int32) &&& 0x3f).toInt64.toUInt64).toInt64).toInt32).toInt16.toInt32)), .unset, .unset, .unset, .unset, .unset, .unset, .unset, .unset] [(.int ((q2.toInt32).toInt16.toInt32))])) _
    refine XS.istore X0.here hx rfl (hb hby at_40) rfl (l' := #[.val (.int p0), .val (.long q1), .second, .val (.long q2), .second, .val (.int nv), .val (.int ((q1.toInt32).toInt16.toInt32)), .val (.int ((((q1.toUInt64 >>> ((16 : Int32) &&& 0x3f).toInt64.toUInt64).toInt64).toInt32).toInt16.toInt32)), .val (.int ((((q1.toUInt64 >>> ((32 : Int32) &&& 0x3f).toInt64.toUInt64).toInt64).toInt32).toInt16.toInt32)), .val (.int ((((q1.toUInt64 >>> ((48 : Int32) &&& 0x3f).toInt64.toUInt64).toInt64).toInt32).toInt16.toInt32)), .val (.int ((q2.toInt32).toInt16.toInt32)), .unset, .unset, .unset, .unset, .unset, .unset, .unset]) rfl ?_
    show Steps p.tables e below (s₁.setTop (mkF m 42 #[.val (.int p0), .val (.long q1), .second, .val (.long q2), .second, .val (.int nv), .val (.int ((q1.toInt32).toInt16.toInt32)), .val (.int ((((q1.toUInt64 >>> ((16 : Int32) &&& 0x3f).toInt64.toUInt64).toInt64).toInt32).toInt16.toInt32)), .val (.int ((((q1.toUInt64 >>> ((32 : Int32) &&& 0x3f).toInt64.toUInt64).toInt64).toInt32).toInt16.toInt32)), .val (.int ((((q1.toUInt64 >>> ((48 : Int32) &&& 0x3f).toInt64.toUInt64).toInt64).toInt32).toInt16.toInt32)), .val (.int ((q2.toInt32).toInt16.toInt32)), .unset, .unset, .unset, .unset, .unset, .unset, .unset] [])) _
    refine XS.lloadN X0.here hx rfl (hb hby at_42) rfl ?_
    show Steps p.tables e below (s₁.setTop (mkF m 43 #[.val (.int p0), .val (.long q1), .second, .val (.long q2), .second, .val (.int nv), .val (.int ((q1.toInt32).toInt16.toInt32)), .val (.int ((((q1.toUInt64 >>> ((16 : Int32) &&& 0x3f).toInt64.toUInt64).toInt64).toInt32).toInt16.toInt32)), .val (.int ((((q1.toUInt64 >>> ((32 : Int32) &&& 0x3f).toInt64.toUInt64).toInt64).toInt32).toInt16.toInt32)), .val (.int ((((q1.toUInt64 >>> ((48 : Int32) &&& 0x3f).toInt64.toUInt64).toInt64).toInt32).toInt16.toInt32)), .val (.int ((q2.toInt32).toInt16.toInt32)), .unset, .unset, .unset, .unset, .unset, .unset, .unset] [(.long q2)])) _
    refine XS.bipush X0.here hx rfl (hb hby at_43) ?_
    show Steps p.tables e below (s₁.setTop (mkF m 45 #[.val (.int p0), .val (.long q1), .second, .val (.long q2), .second, .val (.int nv), .val (.int ((q1.toInt32).toInt16.toInt32)), .val (.int ((((q1.toUInt64 >>> ((16 : Int32) &&& 0x3f).toInt64.toUInt64).toInt64).toInt32).toInt16.toInt32)), .val (.int ((((q1.toUInt64 >>> ((32 : Int32) &&& 0x3f).toInt64.toUInt64).toInt64).toInt32).toInt16.toInt32)), .val (.int ((((q1.toUInt64 >>> ((48 : Int32) &&& 0x3f).toInt64.toUInt64).toInt64).toInt32).toInt16.toInt32)), .val (.int ((q2.toInt32).toInt16.toInt32)), .unset, .unset, .unset, .unset, .unset, .unset, .unset] [(.int (16 : Int32)), (.long q2)])) _
    refine XS.lushr X0.here hx rfl (hb hby at_45) rfl ?_
    show Steps p.tables e below (s₁.setTop (mkF m 46 #[.val (.int p0), .val (.long q1), .second, .val (.long q2), .second, .val (.int nv), .val (.int ((q1.toInt32).toInt16.toInt32)), .val (.int ((((q1.toUInt64 >>> ((16 : Int32) &&& 0x3f).toInt64.toUInt64).toInt64).toInt32).toInt16.toInt32)), .val (.int ((((q1.toUInt64 >>> ((32 : Int32) &&& 0x3f).toInt64.toUInt64).toInt64).toInt32).toInt16.toInt32)), .val (.int ((((q1.toUInt64 >>> ((48 : Int32) &&& 0x3f).toInt64.toUInt64).toInt64).toInt32).toInt16.toInt32)), .val (.int ((q2.toInt32).toInt16.toInt32)), .unset, .unset, .unset, .unset, .unset, .unset, .unset] [(.long ((q2.toUInt64 >>> ((16 : Int32) &&& 0x3f).toInt64.toUInt64).toInt64))])) _
    refine XS.l2i X0.here hx rfl (hb hby at_46) rfl ?_
    show Steps p.tables e below (s₁.setTop (mkF m 47 #[.val (.int p0), .val (.long q1), .second, .val (.long q2), .second, .val (.int nv), .val (.int ((q1.toInt32).toInt16.toInt32)), .val (.int ((((q1.toUInt64 >>> ((16 : Int32) &&& 0x3f).toInt64.toUInt64).toInt64).toInt32).toInt16.toInt32)), .val (.int ((((q1.toUInt64 >>> ((32 : Int32) &&& 0x3f).toInt64.toUInt64).toInt64).toInt32).toInt16.toInt32)), .val (.int ((((q1.toUInt64 >>> ((48 : Int32) &&& 0x3f).toInt64.toUInt64).toInt64).toInt32).toInt16.toInt32)), .val (.int ((q2.toInt32).toInt16.toInt32)), .unset, .unset, .unset, .unset, .unset, .unset, .unset] [(.int (((q2.toUInt64 >>> ((16 : Int32) &&& 0x3f).toInt64.toUInt64).toInt64).toInt32))])) _
    refine XS.i2s X0.here hx rfl (hb hby at_47) rfl ?_
    show Steps p.tables e below (s₁.setTop (mkF m 48 #[.val (.int p0), .val (.long q1), .second, .val (.long q2), .second, .val (.int nv), .val (.int ((q1.toInt32).toInt16.toInt32)), .val (.int ((((q1.toUInt64 >>> ((16 : Int32) &&& 0x3f).toInt64.toUInt64).toInt64).toInt32).toInt16.toInt32)), .val (.int ((((q1.toUInt64 >>> ((32 : Int32) &&& 0x3f).toInt64.toUInt64).toInt64).toInt32).toInt16.toInt32)), .val (.int ((((q1.toUInt64 >>> ((48 : Int32) &&& 0x3f).toInt64.toUInt64).toInt64).toInt32).toInt16.toInt32)), .val (.int ((q2.toInt32).toInt16.toInt32)), .unset, .unset, .unset, .unset, .unset, .unset, .unset] [(.int ((((q2.toUInt64 >>> ((16 : Int32) &&& 0x3f).toInt64.toUInt64).toInt64).toInt32).toInt16.toInt32))])) _
    refine XS.istore X0.here hx rfl (hb hby at_48) rfl (l' := #[.val (.int p0), .val (.long q1), .second, .val (.long q2), .second, .val (.int nv), .val (.int ((q1.toInt32).toInt16.toInt32)), .val (.int ((((q1.toUInt64 >>> ((16 : Int32) &&& 0x3f).toInt64.toUInt64).toInt64).toInt32).toInt16.toInt32)), .val (.int ((((q1.toUInt64 >>> ((32 : Int32) &&& 0x3f).toInt64.toUInt64).toInt64).toInt32).toInt16.toInt32)), .val (.int ((((q1.toUInt64 >>> ((48 : Int32) &&& 0x3f).toInt64.toUInt64).toInt64).toInt32).toInt16.toInt32)), .val (.int ((q2.toInt32).toInt16.toInt32)), .val (.int ((((q2.toUInt64 >>> ((16 : Int32) &&& 0x3f).toInt64.toUInt64).toInt64).toInt32).toInt16.toInt32)), .unset, .unset, .unset, .unset, .unset, .unset]) rfl ?_
    show Steps p.tables e below (s₁.setTop (mkF m 50 #[.val (.int p0), .val (.long q1), .second, .val (.long q2), .second, .val (.int nv), .val (.int ((q1.toInt32).toInt16.toInt32)), .val (.int ((((q1.toUInt64 >>> ((16 : Int32) &&& 0x3f).toInt64.toUInt64).toInt64).toInt32).toInt16.toInt32)), .val (.int ((((q1.toUInt64 >>> ((32 : Int32) &&& 0x3f).toInt64.toUInt64).toInt64).toInt32).toInt16.toInt32)), .val (.int ((((q1.toUInt64 >>> ((48 : Int32) &&& 0x3f).toInt64.toUInt64).toInt64).toInt32).toInt16.toInt32)), .val (.int ((q2.toInt32).toInt16.toInt32)), .val (.int ((((q2.toUInt64 >>> ((16 : Int32) &&& 0x3f).toInt64.toUInt64).toInt64).toInt32).toInt16.toInt32)), .unset, .unset, .unset, .unset, .unset, .unset] [])) _
    refine XS.lloadN X0.here hx rfl (hb hby at_50) rfl ?_
    show Steps p.tables e below (s₁.setTop (mkF m 51 #[.val (.int p0), .val (.long q1), .second, .val (.long q2), .second, .val (.int nv), .val (.int ((q1.toInt32).toInt16.toInt32)), .val (.int ((((q1.toUInt64 >>> ((16 : Int32) &&& 0x3f).toInt64.toUInt64).toInt64).toInt32).toInt16.toInt32)), .val (.int ((((q1.toUInt64 >>> ((32 : Int32) &&& 0x3f).toInt64.toUInt64).toInt64).toInt32).toInt16.toInt32)), .val (.int ((((q1.toUInt64 >>> ((48 : Int32) &&& 0x3f).toInt64.toUInt64).toInt64).toInt32).toInt16.toInt32)), .val (.int ((q2.toInt32).toInt16.toInt32)), .val (.int ((((q2.toUInt64 >>> ((16 : Int32) &&& 0x3f).toInt64.toUInt64).toInt64).toInt32).toInt16.toInt32)), .unset, .unset, .unset, .unset, .unset, .unset] [(.long q2)])) _
    refine XS.bipush X0.here hx rfl (hb hby at_51) ?_
    show Steps p.tables e below (s₁.setTop (mkF m 53 #[.val (.int p0), .val (.long q1), .second, .val (.long q2), .second, .val (.int nv), .val (.int ((q1.toInt32).toInt16.toInt32)), .val (.int ((((q1.toUInt64 >>> ((16 : Int32) &&& 0x3f).toInt64.toUInt64).toInt64).toInt32).toInt16.toInt32)), .val (.int ((((q1.toUInt64 >>> ((32 : Int32) &&& 0x3f).toInt64.toUInt64).toInt64).toInt32).toInt16.toInt32)), .val (.int ((((q1.toUInt64 >>> ((48 : Int32) &&& 0x3f).toInt64.toUInt64).toInt64).toInt32).toInt16.toInt32)), .val (.int ((q2.toInt32).toInt16.toInt32)), .val (.int ((((q2.toUInt64 >>> ((16 : Int32) &&& 0x3f).toInt64.toUInt64).toInt64).toInt32).toInt16.toInt32)), .unset, .unset, .unset, .unset, .unset, .unset] [(.int (32 : Int32)), (.long q2)])) _
    refine XS.lushr X0.here hx rfl (hb hby at_53) rfl ?_
    show Steps p.tables e below (s₁.setTop (mkF m 54 #[.val (.int p0), .val (.long q1), .second, .val (.long q2), .second, .val (.int nv), .val (.int ((q1.toInt32).toInt16.toInt32)), .val (.int ((((q1.toUInt64 >>> ((16 : Int32) &&& 0x3f).toInt64.toUInt64).toInt64).toInt32).toInt16.toInt32)), .val (.int ((((q1.toUInt64 >>> ((32 : Int32) &&& 0x3f).toInt64.toUInt64).toInt64).toInt32).toInt16.toInt32)), .val (.int ((((q1.toUInt64 >>> ((48 : Int32) &&& 0x3f).toInt64.toUInt64).toInt64).toInt32).toInt16.toInt32)), .val (.int ((q2.toInt32).toInt16.toInt32)), .val (.int ((((q2.toUInt64 >>> ((16 : Int32) &&& 0x3f).toInt64.toUInt64).toInt64).toInt32).toInt16.toInt32)), .unset, .unset, .unset, .unset, .unset, .unset] [(.long ((q2.toUInt64 >>> ((32 : Int32) &&& 0x3f).toInt64.toUInt64).toInt64))])) _
    refine XS.l2i X0.here hx rfl (hb hby at_54) rfl ?_
    show Steps p.tables e below (s₁.setTop (mkF m 55 #[.val (.int p0), .val (.long q1), .second, .val (.long q2), .second, .val (.int nv), .val (.int ((q1.toInt32).toInt16.toInt32)), .val (.int ((((q1.toUInt64 >>> ((16 : Int32) &&& 0x3f).toInt64.toUInt64).toInt64).toInt32).toInt16.toInt32)), .val (.int ((((q1.toUInt64 >>> ((32 : Int32) &&& 0x3f).toInt64.toUInt64).toInt64).toInt32).toInt16.toInt32)), .val (.int ((((q1.toUInt64 >>> ((48 : Int32) &&& 0x3f).toInt64.toUInt64).toInt64).toInt32).toInt16.toInt32)), .val (.int ((q2.toInt32).toInt16.toInt32)), .val (.int ((((q2.toUInt64 >>> ((16 : Int32) &&& 0x3f).toInt64.toUInt64).toInt64).toInt32).toInt16.toInt32)), .unset, .unset, .unset, .unset, .unset, .unset] [(.int (((q2.toUInt64 >>> ((32 : Int32) &&& 0x3f).toInt64.toUInt64).toInt64).toInt32))])) _
    refine XS.i2s X0.here hx rfl (hb hby at_55) rfl ?_
    show Steps p.tables e below (s₁.setTop (mkF m 56 #[.val (.int p0), .val (.long q1), .second, .val (.long q2), .second, .val (.int nv), .val (.int ((q1.toInt32).toInt16.toInt32)), .val (.int ((((q1.toUInt64 >>> ((16 : Int32) &&& 0x3f).toInt64.toUInt64).toInt64).toInt32).toInt16.toInt32)), .val (.int ((((q1.toUInt64 >>> ((32 : Int32) &&& 0x3f).toInt64.toUInt64).toInt64).toInt32).toInt16.toInt32)), .val (.int ((((q1.toUInt64 >>> ((48 : Int32) &&& 0x3f).toInt64.toUInt64).toInt64).toInt32).toInt16.toInt32)), .val (.int ((q2.toInt32).toInt16.toInt32)), .val (.int ((((q2.toUInt64 >>> ((16 : Int32) &&& 0x3f).toInt64.toUInt64).toInt64).toInt32).toInt16.toInt32)), .unset, .unset, .unset, .unset, .unset, .unset] [(.int ((((q2.toUInt64 >>> ((32 : Int32) &&& 0x3f).toInt64.toUInt64).toInt64).toInt32).toInt16.toInt32))])) _
    refine XS.istore X0.here hx rfl (hb hby at_56) rfl (l' := #[.val (.int p0), .val (.long q1), .second, .val (.long q2), .second, .val (.int nv), .val (.int ((q1.toInt32).toInt16.toInt32)), .val (.int ((((q1.toUInt64 >>> ((16 : Int32) &&& 0x3f).toInt64.toUInt64).toInt64).toInt32).toInt16.toInt32)), .val (.int ((((q1.toUInt64 >>> ((32 : Int32) &&& 0x3f).toInt64.toUInt64).toInt64).toInt32).toInt16.toInt32)), .val (.int ((((q1.toUInt64 >>> ((48 : Int32) &&& 0x3f).toInt64.toUInt64).toInt64).toInt32).toInt16.toInt32)), .val (.int ((q2.toInt32).toInt16.toInt32)), .val (.int ((((q2.toUInt64 >>> ((16 : Int32) &&& 0x3f).toInt64.toUInt64).toInt64).toInt32).toInt16.toInt32)), .val (.int ((((q2.toUInt64 >>> ((32 : Int32) &&& 0x3f).toInt64.toUInt64).toInt64).toInt32).toInt16.toInt32)), .unset, .unset, .unset, .unset, .unset]) rfl ?_
    show Steps p.tables e below (s₁.setTop (mkF m 58 #[.val (.int p0), .val (.long q1), .second, .val (.long q2), .second, .val (.int nv), .val (.int ((q1.toInt32).toInt16.toInt32)), .val (.int ((((q1.toUInt64 >>> ((16 : Int32) &&& 0x3f).toInt64.toUInt64).toInt64).toInt32).toInt16.toInt32)), .val (.int ((((q1.toUInt64 >>> ((32 : Int32) &&& 0x3f).toInt64.toUInt64).toInt64).toInt32).toInt16.toInt32)), .val (.int ((((q1.toUInt64 >>> ((48 : Int32) &&& 0x3f).toInt64.toUInt64).toInt64).toInt32).toInt16.toInt32)), .val (.int ((q2.toInt32).toInt16.toInt32)), .val (.int ((((q2.toUInt64 >>> ((16 : Int32) &&& 0x3f).toInt64.toUInt64).toInt64).toInt32).toInt16.toInt32)), .val (.int ((((q2.toUInt64 >>> ((32 : Int32) &&& 0x3f).toInt64.toUInt64).toInt64).toInt32).toInt16.toInt32)), .unset, .unset, .unset, .unset, .unset] [])) _
    refine XS.lloadN X0.here hx rfl (hb hby at_58) rfl ?_
    show Steps p.tables e below (s₁.setTop (mkF m 59 #[.val (.int p0), .val (.long q1), .second, .val (.long q2), .second, .val (.int nv), .val (.int ((q1.toInt32).toInt16.toInt32)), .val (.int ((((q1.toUInt64 >>> ((16 : Int32) &&& 0x3f).toInt64.toUInt64).toInt64).toInt32).toInt16.toInt32)), .val (.int ((((q1.toUInt64 >>> ((32 : Int32) &&& 0x3f).toInt64.toUInt64).toInt64).toInt32).toInt16.toInt32)), .val (.int ((((q1.toUInt64 >>> ((48 : Int32) &&& 0x3f).toInt64.toUInt64).toInt64).toInt32).toInt16.toInt32)), .val (.int ((q2.toInt32).toInt16.toInt32)), .val (.int ((((q2.toUInt64 >>> ((16 : Int32) &&& 0x3f).toInt64.toUInt64).toInt64).toInt32).toInt16.toInt32)), .val (.int ((((q2.toUInt64 >>> ((32 : Int32) &&& 0x3f).toInt64.toUInt64).toInt64).toInt32).toInt16.toInt32)), .unset, .unset, .unset, .unset, .unset] [(.long q2)])) _
    refine XS.bipush X0.here hx rfl (hb hby at_59) ?_
    show Steps p.tables e below (s₁.setTop (mkF m 61 #[.val (.int p0), .val (.long q1), .second, .val (.long q2), .second, .val (.int nv), .val (.int ((q1.toInt32).toInt16.toInt32)), .val (.int ((((q1.toUInt64 >>> ((16 : Int32) &&& 0x3f).toInt64.toUInt64).toInt64).toInt32).toInt16.toInt32)), .val (.int ((((q1.toUInt64 >>> ((32 : Int32) &&& 0x3f).toInt64.toUInt64).toInt64).toInt32).toInt16.toInt32)), .val (.int ((((q1.toUInt64 >>> ((48 : Int32) &&& 0x3f).toInt64.toUInt64).toInt64).toInt32).toInt16.toInt32)), .val (.int ((q2.toInt32).toInt16.toInt32)), .val (.int ((((q2.toUInt64 >>> ((16 : Int32) &&& 0x3f).toInt64.toUInt64).toInt64).toInt32).toInt16.toInt32)), .val (.int ((((q2.toUInt64 >>> ((32 : Int32) &&& 0x3f).toInt64.toUInt64).toInt64).toInt32).toInt16.toInt32)), .unset, .unset, .unset, .unset, .unset] [(.int (48 : Int32)), (.long q2)])) _
    refine XS.lushr X0.here hx rfl (hb hby at_61) rfl ?_
    show Steps p.tables e below (s₁.setTop (mkF m 62 #[.val (.int p0), .val (.long q1), .second, .val (.long q2), .second, .val (.int nv), .val (.int ((q1.toInt32).toInt16.toInt32)), .val (.int ((((q1.toUInt64 >>> ((16 : Int32) &&& 0x3f).toInt64.toUInt64).toInt64).toInt32).toInt16.toInt32)), .val (.int ((((q1.toUInt64 >>> ((32 : Int32) &&& 0x3f).toInt64.toUInt64).toInt64).toInt32).toInt16.toInt32)), .val (.int ((((q1.toUInt64 >>> ((48 : Int32) &&& 0x3f).toInt64.toUInt64).toInt64).toInt32).toInt16.toInt32)), .val (.int ((q2.toInt32).toInt16.toInt32)), .val (.int ((((q2.toUInt64 >>> ((16 : Int32) &&& 0x3f).toInt64.toUInt64).toInt64).toInt32).toInt16.toInt32)), .val (.int ((((q2.toUInt64 >>> ((32 : Int32) &&& 0x3f).toInt64.toUInt64).toInt64).toInt32).toInt16.toInt32)), .unset, .unset, .unset, .unset, .unset] [(.long ((q2.toUInt64 >>> ((48 : Int32) &&& 0x3f).toInt64.toUInt64).toInt64))])) _
    refine XS.l2i X0.here hx rfl (hb hby at_62) rfl ?_
    show Steps p.tables e below (s₁.setTop (mkF m 63 #[.val (.int p0), .val (.long q1), .second, .val (.long q2), .second, .val (.int nv), .val (.int ((q1.toInt32).toInt16.toInt32)), .val (.int ((((q1.toUInt64 >>> ((16 : Int32) &&& 0x3f).toInt64.toUInt64).toInt64).toInt32).toInt16.toInt32)), .val (.int ((((q1.toUInt64 >>> ((32 : Int32) &&& 0x3f).toInt64.toUInt64).toInt64).toInt32).toInt16.toInt32)), .val (.int ((((q1.toUInt64 >>> ((48 : Int32) &&& 0x3f).toInt64.toUInt64).toInt64).toInt32).toInt16.toInt32)), .val (.int ((q2.toInt32).toInt16.toInt32)), .val (.int ((((q2.toUInt64 >>> ((16 : Int32) &&& 0x3f).toInt64.toUInt64).toInt64).toInt32).toInt16.toInt32)), .val (.int ((((q2.toUInt64 >>> ((32 : Int32) &&& 0x3f).toInt64.toUInt64).toInt64).toInt32).toInt16.toInt32)), .unset, .unset, .unset, .unset, .unset] [(.int (((q2.toUInt64 >>> ((48 : Int32) &&& 0x3f).toInt64.toUInt64).toInt64).toInt32))])) _
    refine XS.i2s X0.here hx rfl (hb hby at_63) rfl ?_
    show Steps p.tables e below (s₁.setTop (mkF m 64 #[.val (.int p0), .val (.long q1), .second, .val (.long q2), .second, .val (.int nv), .val (.int ((q1.toInt32).toInt16.toInt32)), .val (.int ((((q1.toUInt64 >>> ((16 : Int32) &&& 0x3f).toInt64.toUInt64).toInt64).toInt32).toInt16.toInt32)), .val (.int ((((q1.toUInt64 >>> ((32 : Int32) &&& 0x3f).toInt64.toUInt64).toInt64).toInt32).toInt16.toInt32)), .val (.int ((((q1.toUInt64 >>> ((48 : Int32) &&& 0x3f).toInt64.toUInt64).toInt64).toInt32).toInt16.toInt32)), .val (.int ((q2.toInt32).toInt16.toInt32)), .val (.int ((((q2.toUInt64 >>> ((16 : Int32) &&& 0x3f).toInt64.toUInt64).toInt64).toInt32).toInt16.toInt32)), .val (.int ((((q2.toUInt64 >>> ((32 : Int32) &&& 0x3f).toInt64.toUInt64).toInt64).toInt32).toInt16.toInt32)), .unset, .unset, .unset, .unset, .unset] [(.int ((((q2.toUInt64 >>> ((48 : Int32) &&& 0x3f).toInt64.toUInt64).toInt64).toInt32).toInt16.toInt32))])) _
    refine XS.istore X0.here hx rfl (hb hby at_64) rfl (l' := #[.val (.int p0), .val (.long q1), .second, .val (.long q2), .second, .val (.int nv), .val (.int ((q1.toInt32).toInt16.toInt32)), .val (.int ((((q1.toUInt64 >>> ((16 : Int32) &&& 0x3f).toInt64.toUInt64).toInt64).toInt32).toInt16.toInt32)), .val (.int ((((q1.toUInt64 >>> ((32 : Int32) &&& 0x3f).toInt64.toUInt64).toInt64).toInt32).toInt16.toInt32)), .val (.int ((((q1.toUInt64 >>> ((48 : Int32) &&& 0x3f).toInt64.toUInt64).toInt64).toInt32).toInt16.toInt32)), .val (.int ((q2.toInt32).toInt16.toInt32)), .val (.int ((((q2.toUInt64 >>> ((16 : Int32) &&& 0x3f).toInt64.toUInt64).toInt64).toInt32).toInt16.toInt32)), .val (.int ((((q2.toUInt64 >>> ((32 : Int32) &&& 0x3f).toInt64.toUInt64).toInt64).toInt32).toInt16.toInt32)), .val (.int ((((q2.toUInt64 >>> ((48 : Int32) &&& 0x3f).toInt64.toUInt64).toInt64).toInt32).toInt16.toInt32)), .unset, .unset, .unset, .unset]) rfl ?_
    exact k
  obtain ⟨s0, hs0⟩ : ∃ z : Int32, z = ((q1.toInt32).toInt16.toInt32) := ⟨_, rfl⟩
  have P4 : ∀ t, Steps p.tables e below (s₁.setTop (mkF m 66 #[.val (.int p0), .val (.long q1), .second, .val (.long q2), .second, .val (.int nv), .val (.int s0), .val (.int ((((q1.toUInt64 >>> ((16 : Int32) &&& 0x3f).toInt64.toUInt64).toInt64).toInt32).toInt16.toInt32)), .val (.int ((((q1.toUInt64 >>> ((32 : Int32) &&& 0x3f).toInt64.toUInt64).toInt64).toInt32).toInt16.toInt32)), .val (.int ((((q1.toUInt64 >>> ((48 : Int32) &&& 0x3f).toInt64.toUInt64).toInt64).toInt32).toInt16.toInt32)), .val (.int ((q2.toInt32).toInt16.toInt32)), .val (.int ((((q2.toUInt64 >>> ((16 : Int32) &&& 0x3f).toInt64.toUInt64).toInt64).toInt32).toInt16.toInt32)), .val (.int ((((q2.toUInt64 >>> ((32 : Int32) &&& 0x3f).toInt64.toUInt64).toInt64).toInt32).toInt16.toInt32)), .val (.int ((((q2.toUInt64 >>> ((48 : Int32) &&& 0x3f).toInt64.toUInt64).toInt64).toInt32).toInt16.toInt32)), .unset, .unset, .unset, .unset] [])) t → Steps p.tables e below (s₁.setTop (entryFrame m #[(.int p0), (.long q1), (.long q2)] maxLocals)) t := by rw [hs0]; exact P3
  have hb0 : own_sm 32768 s0.toInt64 := by rw [hs0]; exact own_short _
  obtain ⟨s1, hs1⟩ : ∃ z : Int32, z = ((((q1.toUInt64 >>> ((16 : Int32) &&& 0x3f).toInt64.toUInt64).toInt64).toInt32).toInt16.toInt32) := ⟨_, rfl⟩
  have P5 : ∀ t, Steps p.tables e below (s₁.setTop (mkF m 66 #[.val (.int p0), .val (.long q1), .second, .val (.long q2), .second, .val (.int nv), .val (.int s0), .val (.int s1), .val (.int ((((q1.toUInt64 >>> ((32 : Int32) &&& 0x3f).toInt64.toUInt64).toInt64).toInt32).toInt16.toInt32)), .val (.int ((((q1.toUInt64 >>> ((48 : Int32) &&& 0x3f).toInt64.toUInt64).toInt64).toInt32).toInt16.toInt32)), .val (.int ((q2.toInt32).toInt16.toInt32)), .val (.int ((((q2.toUInt64 >>> ((16 : Int32) &&& 0x3f).toInt64.toUInt64).toInt64).toInt32).toInt16.toInt32)), .val (.int ((((q2.toUInt64 >>> ((32 : Int32) &&& 0x3f).toInt64.toUInt64).toInt64).toInt32).toInt16.toInt32)), .val (.int ((((q2.toUInt64 >>> ((48 : Int32) &&& 0x3f).toInt64.toUInt64).toInt64).toInt32).toInt16.toInt32)), .unset, .unset, .unset, .unset] [])) t → Steps p.tables e below (s₁.setTop (entryFrame m #[(.int p0), (.long q1), (.long q2)] maxLocals)) t := by rw [hs1]; exact P4
  have hb1 : own_sm 32768 s1.toInt64 := by rw [hs1]; exact own_short _
  obtain ⟨s2, hs2⟩ : ∃ z : Int32, z = ((((q1.toUInt64 >>> ((32 : Int32) &&& 0x3f).toInt64.toUInt64).toInt64).toInt32).toInt16.toInt32) := ⟨_, rfl⟩
  have P6 : ∀ t, Steps p.tables e below (s₁.setTop (mkF m 66 #[.val (.int p0), .val (.long q1), .second, .val (.long q2), .second, .val (.int nv), .val (.int s0), .val (.int s1), .val (.int s2), .val (.int ((((q1.toUInt64 >>> ((48 : Int32) &&& 0x3f).toInt64.toUInt64).toInt64).toInt32).toInt16.toInt32)), .val (.int ((q2.toInt32).toInt16.toInt32)), .val (.int ((((q2.toUInt64 >>> ((16 : Int32) &&& 0x3f).toInt64.toUInt64).toInt64).toInt32).toInt16.toInt32)), .val (.int ((((q2.toUInt64 >>> ((32 : Int32) &&& 0x3f).toInt64.toUInt64).toInt64).toInt32).toInt16.toInt32)), .val (.int ((((q2.toUInt64 >>> ((48 : Int32) &&& 0x3f).toInt64.toUInt64).toInt64).toInt32).toInt16.toInt32)), .unset, .unset, .unset, .unset] [])) t → Steps p.tables e below (s₁.setTop (entryFrame m #[(.int p0), (.long q1), (.long q2)] maxLocals)) t := by rw [hs2]; exact P5
  have hb2 : own_sm 32768 s2.toInt64 := by rw [hs2]; exact own_short _
  obtain ⟨s3, hs3⟩ : ∃ z : Int32, z = ((((q1.toUInt64 >>> ((48 : Int32) &&& 0x3f).toInt64.toUInt64).toInt64).toInt32).toInt16.toInt32) := ⟨_, rfl⟩
  have P7 : ∀ t, Steps p.tables e below (s₁.setTop (mkF m 66 #[.val (.int p0), .val (.long q1), .second, .val (.long q2), .second, .val (.int nv), .val (.int s0), .val (.int s1), .val (.int s2), .val (.int s3), .val (.int ((q2.toInt32).toInt16.toInt32)), .val (.int ((((q2.toUInt64 >>> ((16 : Int32) &&& 0x3f).toInt64.toUInt64).toInt64).toInt32).toInt16.toInt32)), .val (.int ((((q2.toUInt64 >>> ((32 : Int32) &&& 0x3f).toInt64.toUInt64).toInt64).toInt32).toInt16.toInt32)), .val (.int ((((q2.toUInt64 >>> ((48 : Int32) &&& 0x3f).toInt64.toUInt64).toInt64).toInt32).toInt16.toInt32)), .unset, .unset, .unset, .unset] [])) t → Steps p.tables e below (s₁.setTop (entryFrame m #[(.int p0), (.long q1), (.long q2)] maxLocals)) t := by rw [hs3]; exact P6
  have hb3 : own_sm 32768 s3.toInt64 := by rw [hs3]; exact own_short _
  obtain ⟨s4, hs4⟩ : ∃ z : Int32, z = ((q2.toInt32).toInt16.toInt32) := ⟨_, rfl⟩
  have P8 : ∀ t, Steps p.tables e below (s₁.setTop (mkF m 66 #[.val (.int p0), .val (.long q1), .second, .val (.long q2), .second, .val (.int nv), .val (.int s0), .val (.int s1), .val (.int s2), .val (.int s3), .val (.int s4), .val (.int ((((q2.toUInt64 >>> ((16 : Int32) &&& 0x3f).toInt64.toUInt64).toInt64).toInt32).toInt16.toInt32)), .val (.int ((((q2.toUInt64 >>> ((32 : Int32) &&& 0x3f).toInt64.toUInt64).toInt64).toInt32).toInt16.toInt32)), .val (.int ((((q2.toUInt64 >>> ((48 : Int32) &&& 0x3f).toInt64.toUInt64).toInt64).toInt32).toInt16.toInt32)), .unset, .unset, .unset, .unset] [])) t → Steps p.tables e below (s₁.setTop (entryFrame m #[(.int p0), (.long q1), (.long q2)] maxLocals)) t := by rw [hs4]; exact P7
  have hb4 : own_sm 32768 s4.toInt64 := by rw [hs4]; exact own_short _
  obtain ⟨s5, hs5⟩ : ∃ z : Int32, z = ((((q2.toUInt64 >>> ((16 : Int32) &&& 0x3f).toInt64.toUInt64).toInt64).toInt32).toInt16.toInt32) := ⟨_, rfl⟩
  have P9 : ∀ t, Steps p.tables e below (s₁.setTop (mkF m 66 #[.val (.int p0), .val (.long q1), .second, .val (.long q2), .second, .val (.int nv), .val (.int s0), .val (.int s1), .val (.int s2), .val (.int s3), .val (.int s4), .val (.int s5), .val (.int ((((q2.toUInt64 >>> ((32 : Int32) &&& 0x3f).toInt64.toUInt64).toInt64).toInt32).toInt16.toInt32)), .val (.int ((((q2.toUInt64 >>> ((48 : Int32) &&& 0x3f).toInt64.toUInt64).toInt64).toInt32).toInt16.toInt32)), .unset, .unset, .unset, .unset] [])) t → Steps p.tables e below (s₁.setTop (entryFrame m #[(.int p0), (.long q1), (.long q2)] maxLocals)) t := by rw [hs5]; exact P8
  have hb5 : own_sm 32768 s5.toInt64 := by rw [hs5]; exact own_short _
  obtain ⟨s6, hs6⟩ : ∃ z : Int32, z = ((((q2.toUInt64 >>> ((32 : Int32) &&& 0x3f).toInt64.toUInt64).toInt64).toInt32).toInt16.toInt32) := ⟨_, rfl⟩
  have P10 : ∀ t, Steps p.tables e below (s₁.setTop (mkF m 66 #[.val (.int p0), .val (.long q1), .second, .val (.long q2), .second, .val (.int nv), .val (.int s0), .val (.int s1), .val (.int s2), .val (.int s3), .val (.int s4), .val (.int s5), .val (.int s6), .val (.int ((((q2.toUInt64 >>> ((48 : Int32) &&& 0x3f).toInt64.toUInt64).toInt64).toInt32).toInt16.toInt32)), .unset, .unset, .unset, .unset] [])) t → Steps p.tables e below (s₁.setTop (entryFrame m #[(.int p0), (.long q1), (.long q2)] maxLocals)) t := by rw [hs6]; exact P9
  have hb6 : own_sm 32768 s6.toInt64 := by rw [hs6]; exact own_short _
  obtain ⟨s7, hs7⟩ : ∃ z : Int32, z = ((((q2.toUInt64 >>> ((48 : Int32) &&& 0x3f).toInt64.toUInt64).toInt64).toInt32).toInt16.toInt32) := ⟨_, rfl⟩
  have P11 : ∀ t, Steps p.tables e below (s₁.setTop (mkF m 66 #[.val (.int p0), .val (.long q1), .second, .val (.long q2), .second, .val (.int nv), .val (.int s0), .val (.int s1), .val (.int s2), .val (.int s3), .val (.int s4), .val (.int s5), .val (.int s6), .val (.int s7), .unset, .unset, .unset, .unset] [])) t → Steps p.tables e below (s₁.setTop (entryFrame m #[(.int p0), (.long q1), (.long q2)] maxLocals)) t := by rw [hs7]; exact P10
  have hb7 : own_sm 32768 s7.toInt64 := by rw [hs7]; exact own_short _
  have h5 := own_n5 p0
  rw [← hnv] at h5
  rcases h5 with rfl | rfl | rfl | rfl | rfl
  · obtain ⟨_, _, ⟨T12, L12, k12, n12⟩, -, X12, ⟨Lc12, hQ12, l12, y12, z12⟩, st12⟩ := Jvm.LawKit.callS X0 hx (y := (⟨"com/example/prudent_feedback/prudentfeedback/coefficient/LogisticFitDotPinLaw", "take", "(IIIII)[D"⟩ : MethodName)) hown (mvT hZ (hw _ (List.mem_of_getElem? (i := 0) rfl))) (mvT hZ (hw _ (List.mem_of_getElem? (i := 1) rfl))) (mvT hZ (hw _ (List.mem_of_getElem? (i := 2) rfl))) (mvT hZ (hw _ (List.mem_of_getElem? (i := 3) rfl))) (by decide) (backOf (W := 0) (rm1_0 l Z a0 hw [] s0 s1 s2 s3 h0 n0 Z0 ) hZ (hw _ (List.mem_of_getElem? (i := 3) rfl)) (hw _ (List.mem_of_getElem? (i := 2) rfl)) (by decide) (by decide)) (g := (mkF m 76 #[.val (.int p0), .val (.long q1), .second, .val (.long q2), .second, .val (.int (0 : Int32)), .val (.int s0), .val (.int s1), .val (.int s2), .val (.int s3), .val (.int s4), .val (.int s5), .val (.int s6), .val (.int s7), .unset, .unset, .unset, .unset] [(.int s3), (.int s2), (.int s1), (.int s0), (.int (0 : Int32))])) rfl (by rw [hml]; rfl) (argsL := [(.int (0 : Int32)), (.int s0), (.int s1), (.int s2), (.int s3)]) (rest := []) (lenOf pd_0 rfl) rfl (by show 2 * 0 + _ ≤ _; exact Nat.le_of_eq rfl) (hb hby at_76) (fun _ _ => ⟨rfl, e0, (by decide : 0 + 1 ≤ _), (by decide : 0 + 0 ≤ _)⟩)
    dsimp only [Pt.U, Pt.locs, Pt.cells, Pt.slots] at X12 l12 y12 z12 st12 hQ12
    subst l12 y12 z12
    obtain ⟨b13, kk14, rfl, N12q, R15, R16⟩ := hQ12
    have N12 := Fr.app N0 N12q
    have Z17 : n0 ≤ T12.heap.size := Nat.le_trans Z0 R15.1
    obtain ⟨_, _, ⟨T18, L18, k18, n18⟩, -, X18, ⟨Lc18, hQ18, l18, y18, z18⟩, st18⟩ := Jvm.LawKit.callS X12 hx (y := (⟨"com/example/prudent_feedback/prudentfeedback/coefficient/LogisticFitDotPinLaw", "take", "(IIIII)[D"⟩ : MethodName)) hown (mvT hZ (hw _ (List.mem_of_getElem? (i := 0) rfl))) (mvT hZ (hw _ (List.mem_of_getElem? (i := 1) rfl))) (mvT hZ (hw _ (List.mem_of_getElem? (i := 2) rfl))) (mvT hZ (hw _ (List.mem_of_getElem? (i := 3) rfl))) (by decide) (backOf (W := 0) (rm1_0 l Z a0 hw [] s4 s5 s6 s7 T12.heap n0 Z17 ) hZ (hw _ (List.mem_of_getElem? (i := 3) rfl)) (hw _ (List.mem_of_getElem? (i := 2) rfl)) (by decide) (by decide)) (g := (mkF m 91 #[.val (.int p0), .val (.long q1), .second, .val (.long q2), .second, .val (.int (0 : Int32)), .val (.int s0), .val (.int s1), .val (.int s2), .val (.int s3), .val (.int s4), .val (.int s5), .val (.int s6), .val (.int s7), .val (.ref b13), .unset, .unset, .unset] [(.int s7), (.int s6), (.int s5), (.int s4), (.int (0 : Int32))])) rfl (by rw [hml]; rfl) (argsL := [(.int (0 : Int32)), (.int s4), (.int s5), (.int s6), (.int s7)]) (rest := []) (lenOf pd_0 rfl) rfl (by show 2 * 0 + _ ≤ _; exact Nat.le_of_eq rfl) (hb hby at_91) (fun _ _ => ⟨rfl, rfl, (by decide : 1 + 1 ≤ _), (by decide : 0 + 0 ≤ _)⟩)
    dsimp only [Pt.U, Pt.locs, Pt.cells, Pt.slots] at X18 l18 y18 z18 st18 hQ18
    subst l18 y18 z18
    obtain ⟨b19, kk20, rfl, N18q, R21, R22⟩ := hQ18
    have N18 := Fr.app N12 N18q
    have F23 : Arv Z T18.heap b13 kk14 .double (0 : Int32) [] (.double (FP.l2d 0)) := R16.keep R21 nin0
    have Z24 : n0 ≤ T18.heap.size := Nat.le_trans Z17 R21.1
    obtain ⟨_, _, ⟨T25, L25, k25, n25⟩, -, X25, ⟨Lc25, hQ25, l25, y25, z25⟩, st25⟩ := Jvm.LawKit.callS X18 hx (y := (⟨"com/example/prudent_feedback/prudentfeedback/coefficient/LogisticFit", "dot", "([D[D)D"⟩ : MethodName)) hown (mvT hZ (hw _ (List.mem_of_getElem? (i := 5) rfl))) (mvT hZ (hw _ (List.mem_of_getElem? (i := 6) rfl))) (mvT hZ (hw _ (List.mem_of_getElem? (i := 7) rfl))) (mvT hZ (hw _ (List.mem_of_getElem? (i := 8) rfl))) (by decide) (backOf (W := 0) (rm2_0 l Z a0 hw [] b13 b19 kk14 kk20 T18.heap n0 Z24 F23 R22) hZ (hw _ (List.mem_of_getElem? (i := 8) rfl)) (hw _ (List.mem_of_getElem? (i := 7) rfl)) (by decide) (by decide)) (g := (mkF m 174 #[.val (.int p0), .val (.long q1), .second, .val (.long q2), .second, .val (.int (0 : Int32)), .val (.int s0), .val (.int s1), .val (.int s2), .val (.int s3), .val (.int s4), .val (.int s5), .val (.int s6), .val (.int s7), .val (.ref b13), .val (.ref b19), .val (.long (0 : Int64)), .second] [(.ref b19), (.ref b13)])) rfl (by rw [hml]; rfl) (argsL := [(.ref b13), (.ref b19)]) (rest := []) (lenOf pd_1 rfl) rfl (by show 2 * 0 + _ ≤ _; exact Nat.le_of_eq rfl) (hb hby at_174) (fun _ _ => ⟨rfl, rfl, (by decide : 2 + 0 ≤ _), (by decide : 0 + 0 ≤ _)⟩)
    dsimp only [Pt.U, Pt.locs, Pt.cells, Pt.slots] at X25 l25 y25 z25 st25 hQ25
    subst l25 y25 z25
    obtain ⟨rfl, N25q, R26⟩ := hQ25
    have N25 := Fr.app N18 N25q
    obtain ⟨fs, hr, hrun, hended, hW, hsame⟩ := X25.leave (v := some (.int (1 : Int32))) (fun h => by rw [Bd.returns] at h; cases h)
    refine ⟨_, _, P11 _ ?_, hrun, hended, _, _, rfl, ?_, ⟨_, rfl⟩, hW, hsame.mono (by decide) (by decide)⟩
    · show Steps p.tables e below (s₁.setTop (mkF m 66 #[.val (.int p0), .val (.long q1), .second, .val (.long q2), .second, .val (.int (0 : Int32)), .val (.int s0), .val (.int s1), .val (.int s2), .val (.int s3), .val (.int s4), .val (.int s5), .val (.int s6), .val (.int s7), .unset, .unset, .unset, .unset] [])) _
      refine XS.iload X0.here hx rfl (hb hby at_66) rfl ?_
      show Steps p.tables e below (s₁.setTop (mkF m 68 #[.val (.int p0), .val (.long q1), .second, .val (.long q2), .second, .val (.int (0 : Int32)), .val (.int s0), .val (.int s1), .val (.int s2), .val (.int s3), .val (.int s4), .val (.int s5), .val (.int s6), .val (.int s7), .unset, .unset, .unset, .unset] [(.int (0 : Int32))])) _
      refine XS.iload X0.here hx rfl (hb hby at_68) rfl ?_
      show Steps p.tables e below (s₁.setTop (mkF m 70 #[.val (.int p0), .val (.long q1), .second, .val (.long q2), .second, .val (.int (0 : Int32)), .val (.int s0), .val (.int s1), .val (.int s2), .val (.int s3), .val (.int s4), .val (.int s5), .val (.int s6), .val (.int s7), .unset, .unset, .unset, .unset] [(.int s0), (.int (0 : Int32))])) _
      refine XS.iload X0.here hx rfl (hb hby at_70) rfl ?_
      show Steps p.tables e below (s₁.setTop (mkF m 72 #[.val (.int p0), .val (.long q1), .second, .val (.long q2), .second, .val (.int (0 : Int32)), .val (.int s0), .val (.int s1), .val (.int s2), .val (.int s3), .val (.int s4), .val (.int s5), .val (.int s6), .val (.int s7), .unset, .unset, .unset, .unset] [(.int s1), (.int s0), (.int (0 : Int32))])) _
      refine XS.iload X0.here hx rfl (hb hby at_72) rfl ?_
      show Steps p.tables e below (s₁.setTop (mkF m 74 #[.val (.int p0), .val (.long q1), .second, .val (.long q2), .second, .val (.int (0 : Int32)), .val (.int s0), .val (.int s1), .val (.int s2), .val (.int s3), .val (.int s4), .val (.int s5), .val (.int s6), .val (.int s7), .unset, .unset, .unset, .unset] [(.int s2), (.int s1), (.int s0), (.int (0 : Int32))])) _
      refine XS.iload X0.here hx rfl (hb hby at_74) rfl ?_
      show Steps p.tables e below (s₁.setTop (mkF m 76 #[.val (.int p0), .val (.long q1), .second, .val (.long q2), .second, .val (.int (0 : Int32)), .val (.int s0), .val (.int s1), .val (.int s2), .val (.int s3), .val (.int s4), .val (.int s5), .val (.int s6), .val (.int s7), .unset, .unset, .unset, .unset] [(.int s3), (.int s2), (.int s1), (.int s0), (.int (0 : Int32))])) _
      refine st12 _ ?_
      show Steps p.tables e below (T12.setTop (mkF m 79 #[.val (.int p0), .val (.long q1), .second, .val (.long q2), .second, .val (.int (0 : Int32)), .val (.int s0), .val (.int s1), .val (.int s2), .val (.int s3), .val (.int s4), .val (.int s5), .val (.int s6), .val (.int s7), .unset, .unset, .unset, .unset] [(.ref b13)])) _
      refine XS.astore X12.here hx rfl (hb hby at_79) rfl rfl (l' := #[.val (.int p0), .val (.long q1), .second, .val (.long q2), .second, .val (.int (0 : Int32)), .val (.int s0), .val (.int s1), .val (.int s2), .val (.int s3), .val (.int s4), .val (.int s5), .val (.int s6), .val (.int s7), .val (.ref b13), .unset, .unset, .unset]) rfl ?_
      show Steps p.tables e below (T12.setTop (mkF m 81 #[.val (.int p0), .val (.long q1), .second, .val (.long q2), .second, .val (.int (0 : Int32)), .val (.int s0), .val (.int s1), .val (.int s2), .val (.int s3), .val (.int s4), .val (.int s5), .val (.int s6), .val (.int s7), .val (.ref b13), .unset, .unset, .unset] [])) _
      refine XS.iload X12.here hx rfl (hb hby at_81) rfl ?_
      show Steps p.tables e below (T12.setTop (mkF m 83 #[.val (.int p0), .val (.long q1), .second, .val (.long q2), .second, .val (.int (0 : Int32)), .val (.int s0), .val (.int s1), .val (.int s2), .val (.int s3), .val (.int s4), .val (.int s5), .val (.int s6), .val (.int s7), .val (.ref b13), .unset, .unset, .unset] [(.int (0 : Int32))])) _
      refine XS.iload X12.here hx rfl (hb hby at_83) rfl ?_
      show Steps p.tables e below (T12.setTop (mkF m 85 #[.val (.int p0), .val (.long q1), .second, .val (.long q2), .second, .val (.int (0 : Int32)), .val (.int s0), .val (.int s1), .val (.int s2), .val (.int s3), .val (.int s4), .val (.int s5), .val (.int s6), .val (.int s7), .val (.ref b13), .unset, .unset, .unset] [(.int s4), (.int (0 : Int32))])) _
      refine XS.iload X12.here hx rfl (hb hby at_85) rfl ?_
      show Steps p.tables e below (T12.setTop (mkF m 87 #[.val (.int p0), .val (.long q1), .second, .val (.long q2), .second, .val (.int (0 : Int32)), .val (.int s0), .val (.int s1), .val (.int s2), .val (.int s3), .val (.int s4), .val (.int s5), .val (.int s6), .val (.int s7), .val (.ref b13), .unset, .unset, .unset] [(.int s5), (.int s4), (.int (0 : Int32))])) _
      refine XS.iload X12.here hx rfl (hb hby at_87) rfl ?_
      show Steps p.tables e below (T12.setTop (mkF m 89 #[.val (.int p0), .val (.long q1), .second, .val (.long q2), .second, .val (.int (0 : Int32)), .val (.int s0), .val (.int s1), .val (.int s2), .val (.int s3), .val (.int s4), .val (.int s5), .val (.int s6), .val (.int s7), .val (.ref b13), .unset, .unset, .unset] [(.int s6), (.int s5), (.int s4), (.int (0 : Int32))])) _
      refine XS.iload X12.here hx rfl (hb hby at_89) rfl ?_
      show Steps p.tables e below (T12.setTop (mkF m 91 #[.val (.int p0), .val (.long q1), .second, .val (.long q2), .second, .val (.int (0 : Int32)), .val (.int s0), .val (.int s1), .val (.int s2), .val (.int s3), .val (.int s4), .val (.int s5), .val (.int s6), .val (.int s7), .val (.ref b13), .unset, .unset, .unset] [(.int s7), (.int s6), (.int s5), (.int s4), (.int (0 : Int32))])) _
      refine st18 _ ?_
      show Steps p.tables e below (T18.setTop (mkF m 94 #[.val (.int p0), .val (.long q1), .second, .val (.long q2), .second, .val (.int (0 : Int32)), .val (.int s0), .val (.int s1), .val (.int s2), .val (.int s3), .val (.int s4), .val (.int s5), .val (.int s6), .val (.int s7), .val (.ref b13), .unset, .unset, .unset] [(.ref b19)])) _
      refine XS.astore X18.here hx rfl (hb hby at_94) rfl rfl (l' := #[.val (.int p0), .val (.long q1), .second, .val (.long q2), .second, .val (.int (0 : Int32)), .val (.int s0), .val (.int s1), .val (.int s2), .val (.int s3), .val (.int s4), .val (.int s5), .val (.int s6), .val (.int s7), .val (.ref b13), .val (.ref b19), .unset, .unset]) rfl ?_
      show Steps p.tables e below (T18.setTop (mkF m 96 #[.val (.int p0), .val (.long q1), .second, .val (.long q2), .second, .val (.int (0 : Int32)), .val (.int s0), .val (.int s1), .val (.int s2), .val (.int s3), .val (.int s4), .val (.int s5), .val (.int s6), .val (.int s7), .val (.ref b13), .val (.ref b19), .unset, .unset] [])) _
      refine XS.lconst X18.here hx rfl (hb hby at_96) ?_
      show Steps p.tables e below (T18.setTop (mkF m 97 #[.val (.int p0), .val (.long q1), .second, .val (.long q2), .second, .val (.int (0 : Int32)), .val (.int s0), .val (.int s1), .val (.int s2), .val (.int s3), .val (.int s4), .val (.int s5), .val (.int s6), .val (.int s7), .val (.ref b13), .val (.ref b19), .unset, .unset] [(.long (0 : Int64))])) _
      refine XS.lstore X18.here hx rfl (hb hby at_97) rfl (l' := #[.val (.int p0), .val (.long q1), .second, .val (.long q2), .second, .val (.int (0 : Int32)), .val (.int s0), .val (.int s1), .val (.int s2), .val (.int s3), .val (.int s4), .val (.int s5), .val (.int s6), .val (.int s7), .val (.ref b13), .val (.ref b19), .val (.long (0 : Int64)), .second]) rfl ?_
      show Steps p.tables e below (T18.setTop (mkF m 99 #[.val (.int p0), .val (.long q1), .second, .val (.long q2), .second, .val (.int (0 : Int32)), .val (.int s0), .val (.int s1), .val (.int s2), .val (.int s3), .val (.int s4), .val (.int s5), .val (.int s6), .val (.int s7), .val (.ref b13), .val (.ref b19), .val (.long (0 : Int64)), .second] [])) _
      refine XS.iload X18.here hx rfl (hb hby at_99) rfl ?_
      show Steps p.tables e below (T18.setTop (mkF m 101 #[.val (.int p0), .val (.long q1), .second, .val (.long q2), .second, .val (.int (0 : Int32)), .val (.int s0), .val (.int s1), .val (.int s2), .val (.int s3), .val (.int s4), .val (.int s5), .val (.int s6), .val (.int s7), .val (.ref b13), .val (.ref b19), .val (.long (0 : Int64)), .second] [(.int (0 : Int32))])) _
      refine XS.ifYes X18.here hx rfl (pc0 := 101) (pc' := 116) rfl (hb hby at_101) rfl ((if0 _ _).trans (flt (by decide : ¬ ((0 : Int32) < (0 : Int32)))).2.2.2) (by decide) (by decide) ?_
      show Steps p.tables e below (T18.setTop (mkF m 116 #[.val (.int p0), .val (.long q1), .second, .val (.long q2), .second, .val (.int (0 : Int32)), .val (.int s0), .val (.int s1), .val (.int s2), .val (.int s3), .val (.int s4), .val (.int s5), .val (.int s6), .val (.int s7), .val (.ref b13), .val (.ref b19), .val (.long (0 : Int64)), .second] [])) _
      refine XS.iload X18.here hx rfl (hb hby at_116) rfl ?_
      show Steps p.tables e below (T18.setTop (mkF m 118 #[.val (.int p0), .val (.long q1), .second, .val (.long q2), .second, .val (.int (0 : Int32)), .val (.int s0), .val (.int s1), .val (.int s2), .val (.int s3), .val (.int s4), .val (.int s5), .val (.int s6), .val (.int s7), .val (.ref b13), .val (.ref b19), .val (.long (0 : Int64)), .second] [(.int (0 : Int32))])) _
      refine XS.iconst X18.here hx rfl (hb hby at_118) ?_
      show Steps p.tables e below (T18.setTop (mkF m 119 #[.val (.int p0), .val (.long q1), .second, .val (.long q2), .second, .val (.int (0 : Int32)), .val (.int s0), .val (.int s1), .val (.int s2), .val (.int s3), .val (.int s4), .val (.int s5), .val (.int s6), .val (.int s7), .val (.ref b13), .val (.ref b19), .val (.long (0 : Int64)), .second] [(.int (1 : Int32)), (.int (0 : Int32))])) _
      refine XS.icmpYes X18.here hx rfl (pc0 := 119) (pc' := 134) rfl (hb hby at_119) rfl (flt (by decide : ¬ ((1 : Int32) < (0 : Int32)))).2.2.2 (by decide) (by decide) ?_
      show Steps p.tables e below (T18.setTop (mkF m 134 #[.val (.int p0), .val (.long q1), .second, .val (.long q2), .second, .val (.int (0 : Int32)), .val (.int s0), .val (.int s1), .val (.int s2), .val (.int s3), .val (.int s4), .val (.int s5), .val (.int s6), .val (.int s7), .val (.ref b13), .val (.ref b19), .val (.long (0 : Int64)), .second] [])) _
      refine XS.iload X18.here hx rfl (hb hby at_134) rfl ?_
      show Steps p.tables e below (T18.setTop (mkF m 136 #[.val (.int p0), .val (.long q1), .second, .val (.long q2), .second, .val (.int (0 : Int32)), .val (.int s0), .val (.int s1), .val (.int s2), .val (.int s3), .val (.int s4), .val (.int s5), .val (.int s6), .val (.int s7), .val (.ref b13), .val (.ref b19), .val (.long (0 : Int64)), .second] [(.int (0 : Int32))])) _
      refine XS.iconst X18.here hx rfl (hb hby at_136) ?_
      show Steps p.tables e below (T18.setTop (mkF m 137 #[.val (.int p0), .val (.long q1), .second, .val (.long q2), .second, .val (.int (0 : Int32)), .val (.int s0), .val (.int s1), .val (.int s2), .val (.int s3), .val (.int s4), .val (.int s5), .val (.int s6), .val (.int s7), .val (.ref b13), .val (.ref b19), .val (.long (0 : Int64)), .second] [(.int (2 : Int32)), (.int (0 : Int32))])) _
      refine XS.icmpYes X18.here hx rfl (pc0 := 137) (pc' := 152) rfl (hb hby at_137) rfl (flt (by decide : ¬ ((2 : Int32) < (0 : Int32)))).2.2.2 (by decide) (by decide) ?_
      show Steps p.tables e below (T18.setTop (mkF m 152 #[.val (.int p0), .val (.long q1), .second, .val (.long q2), .second, .val (.int (0 : Int32)), .val (.int s0), .val (.int s1), .val (.int s2), .val (.int s3), .val (.int s4), .val (.int s5), .val (.int s6), .val (.int s7), .val (.ref b13), .val (.ref b19), .val (.long (0 : Int64)), .second] [])) _
      refine XS.iload X18.here hx rfl (hb hby at_152) rfl ?_
      show Steps p.tables e below (T18.setTop (mkF m 154 #[.val (.int p0), .val (.long q1), .second, .val (.long q2), .second, .val (.int (0 : Int32)), .val (.int s0), .val (.int s1), .val (.int s2), .val (.int s3), .val (.int s4), .val (.int s5), .val (.int s6), .val (.int s7), .val (.ref b13), .val (.ref b19), .val (.long (0 : Int64)), .second] [(.int (0 : Int32))])) _
      refine XS.iconst X18.here hx rfl (hb hby at_154) ?_
      show Steps p.tables e below (T18.setTop (mkF m 155 #[.val (.int p0), .val (.long q1), .second, .val (.long q2), .second, .val (.int (0 : Int32)), .val (.int s0), .val (.int s1), .val (.int s2), .val (.int s3), .val (.int s4), .val (.int s5), .val (.int s6), .val (.int s7), .val (.ref b13), .val (.ref b19), .val (.long (0 : Int64)), .second] [(.int (3 : Int32)), (.int (0 : Int32))])) _
      refine XS.icmpYes X18.here hx rfl (pc0 := 155) (pc' := 170) rfl (hb hby at_155) rfl (flt (by decide : ¬ ((3 : Int32) < (0 : Int32)))).2.2.2 (by decide) (by decide) ?_
      show Steps p.tables e below (T18.setTop (mkF m 170 #[.val (.int p0), .val (.long q1), .second, .val (.long q2), .second, .val (.int (0 : Int32)), .val (.int s0), .val (.int s1), .val (.int s2), .val (.int s3), .val (.int s4), .val (.int s5), .val (.int s6), .val (.int s7), .val (.ref b13), .val (.ref b19), .val (.long (0 : Int64)), .second] [])) _
      refine XS.aload X18.here hx rfl (hb hby at_170) rfl rfl ?_
      show Steps p.tables e below (T18.setTop (mkF m 172 #[.val (.int p0), .val (.long q1), .second, .val (.long q2), .second, .val (.int (0 : Int32)), .val (.int s0), .val (.int s1), .val (.int s2), .val (.int s3), .val (.int s4), .val (.int s5), .val (.int s6), .val (.int s7), .val (.ref b13), .val (.ref b19), .val (.long (0 : Int64)), .second] [(.ref b13)])) _
      refine XS.aload X18.here hx rfl (hb hby at_172) rfl rfl ?_
      show Steps p.tables e below (T18.setTop (mkF m 174 #[.val (.int p0), .val (.long q1), .second, .val (.long q2), .second, .val (.int (0 : Int32)), .val (.int s0), .val (.int s1), .val (.int s2), .val (.int s3), .val (.int s4), .val (.int s5), .val (.int s6), .val (.int s7), .val (.ref b13), .val (.ref b19), .val (.long (0 : Int64)), .second] [(.ref b19), (.ref b13)])) _
      refine st25 _ ?_
      show Steps p.tables e below (T25.setTop (mkF m 177 #[.val (.int p0), .val (.long q1), .second, .val (.long q2), .second, .val (.int (0 : Int32)), .val (.int s0), .val (.int s1), .val (.int s2), .val (.int s3), .val (.int s4), .val (.int s5), .val (.int s6), .val (.int s7), .val (.ref b13), .val (.ref b19), .val (.long (0 : Int64)), .second] [(.double (FP.l2d (0 : Int64)))])) _
      refine XS.lload X25.here hx rfl (hb hby at_177) rfl ?_
      show Steps p.tables e below (T25.setTop (mkF m 179 #[.val (.int p0), .val (.long q1), .second, .val (.long q2), .second, .val (.int (0 : Int32)), .val (.int s0), .val (.int s1), .val (.int s2), .val (.int s3), .val (.int s4), .val (.int s5), .val (.int s6), .val (.int s7), .val (.ref b13), .val (.ref b19), .val (.long (0 : Int64)), .second] [(.long (0 : Int64)), (.double (FP.l2d (0 : Int64)))])) _
      refine XS.l2dS X25.here hx rfl (hb hby at_179) rfl (v := FP.l2d (0 : Int64)) rfl ?_
      show Steps p.tables e below (T25.setTop (mkF m 180 #[.val (.int p0), .val (.long q1), .second, .val (.long q2), .second, .val (.int (0 : Int32)), .val (.int s0), .val (.int s1), .val (.int s2), .val (.int s3), .val (.int s4), .val (.int s5), .val (.int s6), .val (.int s7), .val (.ref b13), .val (.ref b19), .val (.long (0 : Int64)), .second] [(.double (FP.l2d (0 : Int64))), (.double (FP.l2d (0 : Int64)))])) _
      refine XS.dcmpS X25.here hx rfl (hb hby at_180) rfl (v := (0 : Int32)) (dcmpV_self (nn_w rfl) _) ?_
      show Steps p.tables e below (T25.setTop (mkF m 181 #[.val (.int p0), .val (.long q1), .second, .val (.long q2), .second, .val (.int (0 : Int32)), .val (.int s0), .val (.int s1), .val (.int s2), .val (.int s3), .val (.int s4), .val (.int s5), .val (.int s6), .val (.int s7), .val (.ref b13), .val (.ref b19), .val (.long (0 : Int64)), .second] [(.int (0 : Int32))])) _
      refine XS.ifNo X25.here hx rfl (hb hby at_181) rfl ((if0 _ _).trans (teq (by decide : (0 : Int32) = (0 : Int32))).2) ?_
      show Steps p.tables e below (T25.setTop (mkF m 184 #[.val (.int p0), .val (.long q1), .second, .val (.long q2), .second, .val (.int (0 : Int32)), .val (.int s0), .val (.int s1), .val (.int s2), .val (.int s3), .val (.int s4), .val (.int s5), .val (.int s6), .val (.int s7), .val (.ref b13), .val (.ref b19), .val (.long (0 : Int64)), .second] [])) _
      refine XS.iconst X25.here hx rfl (hb hby at_184) ?_
      show Steps p.tables e below (T25.setTop (mkF m 185 #[.val (.int p0), .val (.long q1), .second, .val (.long q2), .second, .val (.int (0 : Int32)), .val (.int s0), .val (.int s1), .val (.int s2), .val (.int s3), .val (.int s4), .val (.int s5), .val (.int s6), .val (.int s7), .val (.ref b13), .val (.ref b19), .val (.long (0 : Int64)), .second] [(.int (1 : Int32))])) _
      refine XS.goto X25.here hx rfl (pc0 := 185) (pc' := 189) rfl (hb hby at_185) (by decide) (by decide) ?_
      show Steps p.tables e below (T25.setTop (mkF m 189 #[.val (.int p0), .val (.long q1), .second, .val (.long q2), .second, .val (.int (0 : Int32)), .val (.int s0), .val (.int s1), .val (.int s2), .val (.int s3), .val (.int s4), .val (.int s5), .val (.int s6), .val (.int s7), .val (.ref b13), .val (.ref b19), .val (.long (0 : Int64)), .second] [(.int (1 : Int32))])) _
      exact retN X25 hx (t := .boolean) Bd.returns (by simp) (hb hby at_189) hr
    · show Q0 Z p0 q1 q2 h0 n0 _ T25.heap _
      rw [R26]
      exact ⟨rfl, N25⟩
  · obtain ⟨_, _, ⟨T27, L27, k27, n27⟩, -, X27, ⟨Lc27, hQ27, l27, y27, z27⟩, st27⟩ := Jvm.LawKit.callS X0 hx (y := (⟨"com/example/prudent_feedback/prudentfeedback/coefficient/LogisticFitDotPinLaw", "take", "(IIIII)[D"⟩ : MethodName)) hown (mvT hZ (hw _ (List.mem_of_getElem? (i := 0) rfl))) (mvT hZ (hw _ (List.mem_of_getElem? (i := 1) rfl))) (mvT hZ (hw _ (List.mem_of_getElem? (i := 2) rfl))) (mvT hZ (hw _ (List.mem_of_getElem? (i := 3) rfl))) (by decide) (backOf (W := 0) (rm1_1 l Z a0 hw [] s0 s1 s2 s3 h0 n0 Z0 ) hZ (hw _ (List.mem_of_getElem? (i := 3) rfl)) (hw _ (List.mem_of_getElem? (i := 2) rfl)) (by decide) (by decide)) (g := (mkF m 76 #[.val (.int p0), .val (.long q1), .second, .val (.long q2), .second, .val (.int (1 : Int32)), .val (.int s0), .val (.int s1), .val (.int s2), .val (.int s3), .val (.int s4), .val (.int s5), .val (.int s6), .val (.int s7), .unset, .unset, .unset, .unset] [(.int s3), (.int s2), (.int s1), (.int s0), (.int (1 : Int32))])) rfl (by rw [hml]; rfl) (argsL := [(.int (1 : Int32)), (.int s0), (.int s1), (.int s2), (.int s3)]) (rest := []) (lenOf pd_0 rfl) rfl (by show 2 * 0 + _ ≤ _; exact Nat.le_of_eq rfl) (hb hby at_76) (fun _ _ => ⟨rfl, e0, (by decide : 0 + 1 ≤ _), (by decide : 0 + 1 ≤ _)⟩)
    dsimp only [Pt.U, Pt.locs, Pt.cells, Pt.slots] at X27 l27 y27 z27 st27 hQ27
    subst l27 y27 z27
    obtain ⟨b28, kk29, rfl, N27q, R30, R31⟩ := hQ27
    have N27 := Fr.app N0 N27q
    have Z32 : n0 ≤ T27.heap.size := Nat.le_trans Z0 R30.1
    obtain ⟨_, _, ⟨T33, L33, k33, n33⟩, -, X33, ⟨Lc33, hQ33, l33, y33, z33⟩, st33⟩ := Jvm.LawKit.callS X27 hx (y := (⟨"com/example/prudent_feedback/prudentfeedback/coefficient/LogisticFitDotPinLaw", "take", "(IIIII)[D"⟩ : MethodName)) hown (mvT hZ (hw _ (List.mem_of_getElem? (i := 0) rfl))) (mvT hZ (hw _ (List.mem_of_getElem? (i := 1) rfl))) (mvT hZ (hw _ (List.mem_of_getElem? (i := 2) rfl))) (mvT hZ (hw _ (List.mem_of_getElem? (i := 3) rfl))) (by decide) (backOf (W := 0) (rm1_1 l Z a0 hw [] s4 s5 s6 s7 T27.heap n0 Z32 ) hZ (hw _ (List.mem_of_getElem? (i := 3) rfl)) (hw _ (List.mem_of_getElem? (i := 2) rfl)) (by decide) (by decide)) (g := (mkF m 91 #[.val (.int p0), .val (.long q1), .second, .val (.long q2), .second, .val (.int (1 : Int32)), .val (.int s0), .val (.int s1), .val (.int s2), .val (.int s3), .val (.int s4), .val (.int s5), .val (.int s6), .val (.int s7), .val (.ref b28), .unset, .unset, .unset] [(.int s7), (.int s6), (.int s5), (.int s4), (.int (1 : Int32))])) rfl (by rw [hml]; rfl) (argsL := [(.int (1 : Int32)), (.int s4), (.int s5), (.int s6), (.int s7)]) (rest := []) (lenOf pd_0 rfl) rfl (by show 2 * 0 + _ ≤ _; exact Nat.le_of_eq rfl) (hb hby at_91) (fun _ _ => ⟨rfl, rfl, (by decide : 1 + 1 ≤ _), (by decide : 1 + 1 ≤ _)⟩)
    dsimp only [Pt.U, Pt.locs, Pt.cells, Pt.slots] at X33 l33 y33 z33 st33 hQ33
    subst l33 y33 z33
    obtain ⟨b34, kk35, rfl, N33q, R36, R37⟩ := hQ33
    have N33 := Fr.app N27 N33q
    have F38 : Arv Z T33.heap b28 kk29 .double (1 : Int32) [(.double (FP.l2d s0.toInt64))] (.double (FP.l2d 0)) := R31.keep R36 nin0
    have Z39 : n0 ≤ T33.heap.size := Nat.le_trans Z32 R36.1
    have hp40 : own_sm 32768 s0.toInt64 := hb0
    have hp41 : own_sm 32768 s4.toInt64 := hb4
    obtain ⟨_, _, ⟨T42, L42, k42, n42⟩, -, X42, ⟨Lc42, hQ42, l42, y42, z42⟩, st42⟩ := Jvm.LawKit.callS X33 hx (y := (⟨"com/example/prudent_feedback/prudentfeedback/coefficient/LogisticFit", "dot", "([D[D)D"⟩ : MethodName)) hown (mvT hZ (hw _ (List.mem_of_getElem? (i := 5) rfl))) (mvT hZ (hw _ (List.mem_of_getElem? (i := 6) rfl))) (mvT hZ (hw _ (List.mem_of_getElem? (i := 7) rfl))) (mvT hZ (hw _ (List.mem_of_getElem? (i := 8) rfl))) (by decide) (backOf (W := 0) (rm2_1 l Z a0 hw [] b28 b34 kk29 kk35 s0.toInt64 s4.toInt64 T33.heap n0 Z39 F38 R37 hp40 hp41) hZ (hw _ (List.mem_of_getElem? (i := 8) rfl)) (hw _ (List.mem_of_getElem? (i := 7) rfl)) (by decide) (by decide)) (g := (mkF m 174 #[.val (.int p0), .val (.long q1), .second, .val (.long q2), .second, .val (.int (1 : Int32)), .val (.int s0), .val (.int s1), .val (.int s2), .val (.int s3), .val (.int s4), .val (.int s5), .val (.int s6), .val (.int s7), .val (.ref b28), .val (.ref b34), .val (.long ((0 : Int64) + ((s0.toInt64) * (s4.toInt64)))), .second] [(.ref b34), (.ref b28)])) rfl (by rw [hml]; rfl) (argsL := [(.ref b28), (.ref b34)]) (rest := []) (lenOf pd_1 rfl) rfl (by show 2 * 0 + _ ≤ _; exact Nat.le_of_eq rfl) (hb hby at_174) (fun _ _ => ⟨rfl, rfl, (by decide : 2 + 0 ≤ _), (by decide : 2 + 0 ≤ _)⟩)
    dsimp only [Pt.U, Pt.locs, Pt.cells, Pt.slots] at X42 l42 y42 z42 st42 hQ42
    subst l42 y42 z42
    obtain ⟨rfl, N42q, R43⟩ := hQ42
    have N42 := Fr.app N33 N42q
    obtain ⟨fs, hr, hrun, hended, hW, hsame⟩ := X42.leave (v := some (.int (1 : Int32))) (fun h => by rw [Bd.returns] at h; cases h)
    refine ⟨_, _, P11 _ ?_, hrun, hended, _, _, rfl, ?_, ⟨_, rfl⟩, hW, hsame.mono (by decide) (by decide)⟩
    · show Steps p.tables e below (s₁.setTop (mkF m 66 #[.val (.int p0), .val (.long q1), .second, .val (.long q2), .second, .val (.int (1 : Int32)), .val (.int s0), .val (.int s1), .val (.int s2), .val (.int s3), .val (.int s4), .val (.int s5), .val (.int s6), .val (.int s7), .unset, .unset, .unset, .unset] [])) _
      refine XS.iload X0.here hx rfl (hb hby at_66) rfl ?_
      show Steps p.tables e below (s₁.setTop (mkF m 68 #[.val (.int p0), .val (.long q1), .second, .val (.long q2), .second, .val (.int (1 : Int32)), .val (.int s0), .val (.int s1), .val (.int s2), .val (.int s3), .val (.int s4), .val (.int s5), .val (.int s6), .val (.int s7), .unset, .unset, .unset, .unset] [(.int (1 : Int32))])) _
      refine XS.iload X0.here hx rfl (hb hby at_68) rfl ?_
      show Steps p.tables e below (s₁.setTop (mkF m 70 #[.val (.int p0), .val (.long q1), .second, .val (.long q2), .second, .val (.int (1 : Int32)), .val (.int s0), .val (.int s1), .val (.int s2), .val (.int s3), .val (.int s4), .val (.int s5), .val (.int s6), .val (.int s7), .unset, .unset, .unset, .unset] [(.int s0), (.int (1 : Int32))])) _
      refine XS.iload X0.here hx rfl (hb hby at_70) rfl ?_
      show Steps p.tables e below (s₁.setTop (mkF m 72 #[.val (.int p0), .val (.long q1), .second, .val (.long q2), .second, .val (.int (1 : Int32)), .val (.int s0), .val (.int s1), .val (.int s2), .val (.int s3), .val (.int s4), .val (.int s5), .val (.int s6), .val (.int s7), .unset, .unset, .unset, .unset] [(.int s1), (.int s0), (.int (1 : Int32))])) _
      refine XS.iload X0.here hx rfl (hb hby at_72) rfl ?_
      show Steps p.tables e below (s₁.setTop (mkF m 74 #[.val (.int p0), .val (.long q1), .second, .val (.long q2), .second, .val (.int (1 : Int32)), .val (.int s0), .val (.int s1), .val (.int s2), .val (.int s3), .val (.int s4), .val (.int s5), .val (.int s6), .val (.int s7), .unset, .unset, .unset, .unset] [(.int s2), (.int s1), (.int s0), (.int (1 : Int32))])) _
      refine XS.iload X0.here hx rfl (hb hby at_74) rfl ?_
      show Steps p.tables e below (s₁.setTop (mkF m 76 #[.val (.int p0), .val (.long q1), .second, .val (.long q2), .second, .val (.int (1 : Int32)), .val (.int s0), .val (.int s1), .val (.int s2), .val (.int s3), .val (.int s4), .val (.int s5), .val (.int s6), .val (.int s7), .unset, .unset, .unset, .unset] [(.int s3), (.int s2), (.int s1), (.int s0), (.int (1 : Int32))])) _
      refine st27 _ ?_
      show Steps p.tables e below (T27.setTop (mkF m 79 #[.val (.int p0), .val (.long q1), .second, .val (.long q2), .second, .val (.int (1 : Int32)), .val (.int s0), .val (.int s1), .val (.int s2), .val (.int s3), .val (.int s4), .val (.int s5), .val (.int s6), .val (.int s7), .unset, .unset, .unset, .unset] [(.ref b28)])) _
      refine XS.astore X27.here hx rfl (hb hby at_79) rfl rfl (l' := #[.val (.int p0), .val (.long q1), .second, .val (.long q2), .second, .val (.int (1 : Int32)), .val (.int s0), .val (.int s1), .val (.int s2), .val (.int s3), .val (.int s4), .val (.int s5), .val (.int s6), .val (.int s7), .val (.ref b28), .unset, .unset, .unset]) rfl ?_
      show Steps p.tables e below (T27.setTop (mkF m 81 #[.val (.int p0), .val (.long q1), .second, .val (.long q2), .second, .val (.int (1 : Int32)), .val (.int s0), .val (.int s1), .val (.int s2), .val (.int s3), .val (.int s4), .val (.int s5), .val (.int s6), .val (.int s7), .val (.ref b28), .unset, .unset, .unset] [])) _
      refine XS.iload X27.here hx rfl (hb hby at_81) rfl ?_
      show Steps p.tables e below (T27.setTop (mkF m 83 #[.val (.int p0), .val (.long q1), .second, .val (.long q2), .second, .val (.int (1 : Int32)), .val (.int s0), .val (.int s1), .val (.int s2), .val (.int s3), .val (.int s4), .val (.int s5), .val (.int s6), .val (.int s7), .val (.ref b28), .unset, .unset, .unset] [(.int (1 : Int32))])) _
      refine XS.iload X27.here hx rfl (hb hby at_83) rfl ?_
      show Steps p.tables e below (T27.setTop (mkF m 85 #[.val (.int p0), .val (.long q1), .second, .val (.long q2), .second, .val (.int (1 : Int32)), .val (.int s0), .val (.int s1), .val (.int s2), .val (.int s3), .val (.int s4), .val (.int s5), .val (.int s6), .val (.int s7), .val (.ref b28), .unset, .unset, .unset] [(.int s4), (.int (1 : Int32))])) _
      refine XS.iload X27.here hx rfl (hb hby at_85) rfl ?_
      show Steps p.tables e below (T27.setTop (mkF m 87 #[.val (.int p0), .val (.long q1), .second, .val (.long q2), .second, .val (.int (1 : Int32)), .val (.int s0), .val (.int s1), .val (.int s2), .val (.int s3), .val (.int s4), .val (.int s5), .val (.int s6), .val (.int s7), .val (.ref b28), .unset, .unset, .unset] [(.int s5), (.int s4), (.int (1 : Int32))])) _
      refine XS.iload X27.here hx rfl (hb hby at_87) rfl ?_
      show Steps p.tables e below (T27.setTop (mkF m 89 #[.val (.int p0), .val (.long q1), .second, .val (.long q2), .second, .val (.int (1 : Int32)), .val (.int s0), .val (.int s1), .val (.int s2), .val (.int s3), .val (.int s4), .val (.int s5), .val (.int s6), .val (.int s7), .val (.ref b28), .unset, .unset, .unset] [(.int s6), (.int s5), (.int s4), (.int (1 : Int32))])) _
      refine XS.iload X27.here hx rfl (hb hby at_89) rfl ?_
      show Steps p.tables e below (T27.setTop (mkF m 91 #[.val (.int p0), .val (.long q1), .second, .val (.long q2), .second, .val (.int (1 : Int32)), .val (.int s0), .val (.int s1), .val (.int s2), .val (.int s3), .val (.int s4), .val (.int s5), .val (.int s6), .val (.int s7), .val (.ref b28), .unset, .unset, .unset] [(.int s7), (.int s6), (.int s5), (.int s4), (.int (1 : Int32))])) _
      refine st33 _ ?_
      show Steps p.tables e below (T33.setTop (mkF m 94 #[.val (.int p0), .val (.long q1), .second, .val (.long q2), .second, .val (.int (1 : Int32)), .val (.int s0), .val (.int s1), .val (.int s2), .val (.int s3), .val (.int s4), .val (.int s5), .val (.int s6), .val (.int s7), .val (.ref b28), .unset, .unset, .unset] [(.ref b34)])) _
      refine XS.astore X33.here hx rfl (hb hby at_94) rfl rfl (l' := #[.val (.int p0), .val (.long q1), .second, .val (.long q2), .second, .val (.int (1 : Int32)), .val (.int s0), .val (.int s1), .val (.int s2), .val (.int s3), .val (.int s4), .val (.int s5), .val (.int s6), .val (.int s7), .val (.ref b28), .val (.ref b34), .unset, .unset]) rfl ?_
      show Steps p.tables e below (T33.setTop (mkF m 96 #[.val (.int p0), .val (.long q1), .second, .val (.long q2), .second, .val (.int (1 : Int32)), .val (.int s0), .val (.int s1), .val (.int s2), .val (.int s3), .val (.int s4), .val (.int s5), .val (.int s6), .val (.int s7), .val (.ref b28), .val (.ref b34), .unset, .unset] [])) _
      refine XS.lconst X33.here hx rfl (hb hby at_96) ?_
      show Steps p.tables e below (T33.setTop (mkF m 97 #[.val (.int p0), .val (.long q1), .second, .val (.long q2), .second, .val (.int (1 : Int32)), .val (.int s0), .val (.int s1), .val (.int s2), .val (.int s3), .val (.int s4), .val (.int s5), .val (.int s6), .val (.int s7), .val (.ref b28), .val (.ref b34), .unset, .unset] [(.long (0 : Int64))])) _
      refine XS.lstore X33.here hx rfl (hb hby at_97) rfl (l' := #[.val (.int p0), .val (.long q1), .second, .val (.long q2), .second, .val (.int (1 : Int32)), .val (.int s0), .val (.int s1), .val (.int s2), .val (.int s3), .val (.int s4), .val (.int s5), .val (.int s6), .val (.int s7), .val (.ref b28), .val (.ref b34), .val (.long (0 : Int64)), .second]) rfl ?_
      show Steps p.tables e below (T33.setTop (mkF m 99 #[.val (.int p0), .val (.long q1), .second, .val (.long q2), .second, .val (.int (1 : Int32)), .val (.int s0), .val (.int s1), .val (.int s2), .val (.int s3), .val (.int s4), .val (.int s5), .val (.int s6), .val (.int s7), .val (.ref b28), .val (.ref b34), .val (.long (0 : Int64)), .second] [])) _
      refine XS.iload X33.here hx rfl (hb hby at_99) rfl ?_
      show Steps p.tables e below (T33.setTop (mkF m 101 #[.val (.int p0), .val (.long q1), .second, .val (.long q2), .second, .val (.int (1 : Int32)), .val (.int s0), .val (.int s1), .val (.int s2), .val (.int s3), .val (.int s4), .val (.int s5), .val (.int s6), .val (.int s7), .val (.ref b28), .val (.ref b34), .val (.long (0 : Int64)), .second] [(.int (1 : Int32))])) _
      refine XS.ifNo X33.here hx rfl (hb hby at_101) rfl ((if0 _ _).trans (tlt (by decide : (0 : Int32) < (1 : Int32))).2.2.2) ?_
      show Steps p.tables e below (T33.setTop (mkF m 104 #[.val (.int p0), .val (.long q1), .second, .val (.long q2), .second, .val (.int (1 : Int32)), .val (.int s0), .val (.int s1), .val (.int s2), .val (.int s3), .val (.int s4), .val (.int s5), .val (.int s6), .val (.int s7), .val (.ref b28), .val (.ref b34), .val (.long (0 : Int64)), .second] [])) _
      refine XS.lload X33.here hx rfl (hb hby at_104) rfl ?_
      show Steps p.tables e below (T33.setTop (mkF m 106 #[.val (.int p0), .val (.long q1), .second, .val (.long q2), .second, .val (.int (1 : Int32)), .val (.int s0), .val (.int s1), .val (.int s2), .val (.int s3), .val (.int s4), .val (.int s5), .val (.int s6), .val (.int s7), .val (.ref b28), .val (.ref b34), .val (.long (0 : Int64)), .second] [(.long (0 : Int64))])) _
      refine XS.iload X33.here hx rfl (hb hby at_106) rfl ?_
      show Steps p.tables e below (T33.setTop (mkF m 108 #[.val (.int p0), .val (.long q1), .second, .val (.long q2), .second, .val (.int (1 : Int32)), .val (.int s0), .val (.int s1), .val (.int s2), .val (.int s3), .val (.int s4), .val (.int s5), .val (.int s6), .val (.int s7), .val (.ref b28), .val (.ref b34), .val (.long (0 : Int64)), .second] [(.int s0), (.long (0 : Int64))])) _
      refine XS.i2l X33.here hx rfl (hb hby at_108) rfl ?_
      show Steps p.tables e below (T33.setTop (mkF m 109 #[.val (.int p0), .val (.long q1), .second, .val (.long q2), .second, .val (.int (1 : Int32)), .val (.int s0), .val (.int s1), .val (.int s2), .val (.int s3), .val (.int s4), .val (.int s5), .val (.int s6), .val (.int s7), .val (.ref b28), .val (.ref b34), .val (.long (0 : Int64)), .second] [(.long (s0.toInt64)), (.long (0 : Int64))])) _
      refine XS.iload X33.here hx rfl (hb hby at_109) rfl ?_
      show Steps p.tables e below (T33.setTop (mkF m 111 #[.val (.int p0), .val (.long q1), .second, .val (.long q2), .second, .val (.int (1 : Int32)), .val (.int s0), .val (.int s1), .val (.int s2), .val (.int s3), .val (.int s4), .val (.int s5), .val (.int s6), .val (.int s7), .val (.ref b28), .val (.ref b34), .val (.long (0 : Int64)), .second] [(.int s4), (.long (s0.toInt64)), (.long (0 : Int64))])) _
      refine XS.i2l X33.here hx rfl (hb hby at_111) rfl ?_
      show Steps p.tables e below (T33.setTop (mkF m 112 #[.val (.int p0), .val (.long q1), .second, .val (.long q2), .second, .val (.int (1 : Int32)), .val (.int s0), .val (.int s1), .val (.int s2), .val (.int s3), .val (.int s4), .val (.int s5), .val (.int s6), .val (.int s7), .val (.ref b28), .val (.ref b34), .val (.long (0 : Int64)), .second] [(.long (s4.toInt64)), (.long (s0.toInt64)), (.long (0 : Int64))])) _
      refine XS.lmul X33.here hx rfl (hb hby at_112) rfl ?_
      show Steps p.tables e below (T33.setTop (mkF m 113 #[.val (.int p0), .val (.long q1), .second, .val (.long q2), .second, .val (.int (1 : Int32)), .val (.int s0), .val (.int s1), .val (.int s2), .val (.int s3), .val (.int s4), .val (.int s5), .val (.int s6), .val (.int s7), .val (.ref b28), .val (.ref b34), .val (.long (0 : Int64)), .second] [(.long ((s0.toInt64) * (s4.toInt64))), (.long (0 : Int64))])) _
      refine XS.ladd X33.here hx rfl (hb hby at_113) rfl ?_
      show Steps p.tables e below (T33.setTop (mkF m 114 #[.val (.int p0), .val (.long q1), .second, .val (.long q2), .second, .val (.int (1 : Int32)), .val (.int s0), .val (.int s1), .val (.int s2), .val (.int s3), .val (.int s4), .val (.int s5), .val (.int s6), .val (.int s7), .val (.ref b28), .val (.ref b34), .val (.long (0 : Int64)), .second] [(.long ((0 : Int64) + ((s0.toInt64) * (s4.toInt64))))])) _
      refine XS.lstore X33.here hx rfl (hb hby at_114) rfl (l' := #[.val (.int p0), .val (.long q1), .second, .val (.long q2), .second, .val (.int (1 : Int32)), .val (.int s0), .val (.int s1), .val (.int s2), .val (.int s3), .val (.int s4), .val (.int s5), .val (.int s6), .val (.int s7), .val (.ref b28), .val (.ref b34), .val (.long ((0 : Int64) + ((s0.toInt64) * (s4.toInt64)))), .second]) rfl ?_
      show Steps p.tables e below (T33.setTop (mkF m 116 #[.val (.int p0), .val (.long q1), .second, .val (.long q2), .second, .val (.int (1 : Int32)), .val (.int s0), .val (.int s1), .val (.int s2), .val (.int s3), .val (.int s4), .val (.int s5), .val (.int s6), .val (.int s7), .val (.ref b28), .val (.ref b34), .val (.long ((0 : Int64) + ((s0.toInt64) * (s4.toInt64)))), .second] [])) _
      refine XS.iload X33.here hx rfl (hb hby at_116) rfl ?_
      show Steps p.tables e below (T33.setTop (mkF m 118 #[.val (.int p0), .val (.long q1), .second, .val (.long q2), .second, .val (.int (1 : Int32)), .val (.int s0), .val (.int s1), .val (.int s2), .val (.int s3), .val (.int s4), .val (.int s5), .val (.int s6), .val (.int s7), .val (.ref b28), .val (.ref b34), .val (.long ((0 : Int64) + ((s0.toInt64) * (s4.toInt64)))), .second] [(.int (1 : Int32))])) _
      refine XS.iconst X33.here hx rfl (hb hby at_118) ?_
      show Steps p.tables e below (T33.setTop (mkF m 119 #[.val (.int p0), .val (.long q1), .second, .val (.long q2), .second, .val (.int (1 : Int32)), .val (.int s0), .val (.int s1), .val (.int s2), .val (.int s3), .val (.int s4), .val (.int s5), .val (.int s6), .val (.int s7), .val (.ref b28), .val (.ref b34), .val (.long ((0 : Int64) + ((s0.toInt64) * (s4.toInt64)))), .second] [(.int (1 : Int32)), (.int (1 : Int32))])) _
      refine XS.icmpYes X33.here hx rfl (pc0 := 119) (pc' := 134) rfl (hb hby at_119) rfl (flt (by decide : ¬ ((1 : Int32) < (1 : Int32)))).2.2.2 (by decide) (by decide) ?_
      show Steps p.tables e below (T33.setTop (mkF m 134 #[.val (.int p0), .val (.long q1), .second, .val (.long q2), .second, .val (.int (1 : Int32)), .val (.int s0), .val (.int s1), .val (.int s2), .val (.int s3), .val (.int s4), .val (.int s5), .val (.int s6), .val (.int s7), .val (.ref b28), .val (.ref b34), .val (.long ((0 : Int64) + ((s0.toInt64) * (s4.toInt64)))), .second] [])) _
      refine XS.iload X33.here hx rfl (hb hby at_134) rfl ?_
      show Steps p.tables e below (T33.setTop (mkF m 136 #[.val (.int p0), .val (.long q1), .second, .val (.long q2), .second, .val (.int (1 : Int32)), .val (.int s0), .val (.int s1), .val (.int s2), .val (.int s3), .val (.int s4), .val (.int s5), .val (.int s6), .val (.int s7), .val (.ref b28), .val (.ref b34), .val (.long ((0 : Int64) + ((s0.toInt64) * (s4.toInt64)))), .second] [(.int (1 : Int32))])) _
      refine XS.iconst X33.here hx rfl (hb hby at_136) ?_
      show Steps p.tables e below (T33.setTop (mkF m 137 #[.val (.int p0), .val (.long q1), .second, .val (.long q2), .second, .val (.int (1 : Int32)), .val (.int s0), .val (.int s1), .val (.int s2), .val (.int s3), .val (.int s4), .val (.int s5), .val (.int s6), .val (.int s7), .val (.ref b28), .val (.ref b34), .val (.long ((0 : Int64) + ((s0.toInt64) * (s4.toInt64)))), .second] [(.int (2 : Int32)), (.int (1 : Int32))])) _
      refine XS.icmpYes X33.here hx rfl (pc0 := 137) (pc' := 152) rfl (hb hby at_137) rfl (flt (by decide : ¬ ((2 : Int32) < (1 : Int32)))).2.2.2 (by decide) (by decide) ?_
      show Steps p.tables e below (T33.setTop (mkF m 152 #[.val (.int p0), .val (.long q1), .second, .val (.long q2), .second, .val (.int (1 : Int32)), .val (.int s0), .val (.int s1), .val (.int s2), .val (.int s3), .val (.int s4), .val (.int s5), .val (.int s6), .val (.int s7), .val (.ref b28), .val (.ref b34), .val (.long ((0 : Int64) + ((s0.toInt64) * (s4.toInt64)))), .second] [])) _
      refine XS.iload X33.here hx rfl (hb hby at_152) rfl ?_
      show Steps p.tables e below (T33.setTop (mkF m 154 #[.val (.int p0), .val (.long q1), .second, .val (.long q2), .second, .val (.int (1 : Int32)), .val (.int s0), .val (.int s1), .val (.int s2), .val (.int s3), .val (.int s4), .val (.int s5), .val (.int s6), .val (.int s7), .val (.ref b28), .val (.ref b34), .val (.long ((0 : Int64) + ((s0.toInt64) * (s4.toInt64)))), .second] [(.int (1 : Int32))])) _
      refine XS.iconst X33.here hx rfl (hb hby at_154) ?_
      show Steps p.tables e below (T33.setTop (mkF m 155 #[.val (.int p0), .val (.long q1), .second, .val (.long q2), .second, .val (.int (1 : Int32)), .val (.int s0), .val (.int s1), .val (.int s2), .val (.int s3), .val (.int s4), .val (.int s5), .val (.int s6), .val (.int s7), .val (.ref b28), .val (.ref b34), .val (.long ((0 : Int64) + ((s0.toInt64) * (s4.toInt64)))), .second] [(.int (3 : Int32)), (.int (1 : Int32))])) _
      refine XS.icmpYes X33.here hx rfl (pc0 := 155) (pc' := 170) rfl (hb hby at_155) rfl (flt (by decide : ¬ ((3 : Int32) < (1 : Int32)))).2.2.2 (by decide) (by decide) ?_
      show Steps p.tables e below (T33.setTop (mkF m 170 #[.val (.int p0), .val (.long q1), .second, .val (.long q2), .second, .val (.int (1 : Int32)), .val (.int s0), .val (.int s1), .val (.int s2), .val (.int s3), .val (.int s4), .val (.int s5), .val (.int s6), .val (.int s7), .val (.ref b28), .val (.ref b34), .val (.long ((0 : Int64) + ((s0.toInt64) * (s4.toInt64)))), .second] [])) _
      refine XS.aload X33.here hx rfl (hb hby at_170) rfl rfl ?_
      show Steps p.tables e below (T33.setTop (mkF m 172 #[.val (.int p0), .val (.long q1), .second, .val (.long q2), .second, .val (.int (1 : Int32)), .val (.int s0), .val (.int s1), .val (.int s2), .val (.int s3), .val (.int s4), .val (.int s5), .val (.int s6), .val (.int s7), .val (.ref b28), .val (.ref b34), .val (.long ((0 : Int64) + ((s0.toInt64) * (s4.toInt64)))), .second] [(.ref b28)])) _
      refine XS.aload X33.here hx rfl (hb hby at_172) rfl rfl ?_
      show Steps p.tables e below (T33.setTop (mkF m 174 #[.val (.int p0), .val (.long q1), .second, .val (.long q2), .second, .val (.int (1 : Int32)), .val (.int s0), .val (.int s1), .val (.int s2), .val (.int s3), .val (.int s4), .val (.int s5), .val (.int s6), .val (.int s7), .val (.ref b28), .val (.ref b34), .val (.long ((0 : Int64) + ((s0.toInt64) * (s4.toInt64)))), .second] [(.ref b34), (.ref b28)])) _
      refine st42 _ ?_
      show Steps p.tables e below (T42.setTop (mkF m 177 #[.val (.int p0), .val (.long q1), .second, .val (.long q2), .second, .val (.int (1 : Int32)), .val (.int s0), .val (.int s1), .val (.int s2), .val (.int s3), .val (.int s4), .val (.int s5), .val (.int s6), .val (.int s7), .val (.ref b28), .val (.ref b34), .val (.long ((0 : Int64) + ((s0.toInt64) * (s4.toInt64)))), .second] [(.double (FP.l2d ((0 : Int64) + (s0.toInt64 * s4.toInt64))))])) _
      refine XS.lload X42.here hx rfl (hb hby at_177) rfl ?_
      show Steps p.tables e below (T42.setTop (mkF m 179 #[.val (.int p0), .val (.long q1), .second, .val (.long q2), .second, .val (.int (1 : Int32)), .val (.int s0), .val (.int s1), .val (.int s2), .val (.int s3), .val (.int s4), .val (.int s5), .val (.int s6), .val (.int s7), .val (.ref b28), .val (.ref b34), .val (.long ((0 : Int64) + ((s0.toInt64) * (s4.toInt64)))), .second] [(.long ((0 : Int64) + ((s0.toInt64) * (s4.toInt64)))), (.double (FP.l2d ((0 : Int64) + (s0.toInt64 * s4.toInt64))))])) _
      refine XS.l2dS X42.here hx rfl (hb hby at_179) rfl (v := FP.l2d ((0 : Int64) + ((s0.toInt64) * (s4.toInt64)))) rfl ?_
      show Steps p.tables e below (T42.setTop (mkF m 180 #[.val (.int p0), .val (.long q1), .second, .val (.long q2), .second, .val (.int (1 : Int32)), .val (.int s0), .val (.int s1), .val (.int s2), .val (.int s3), .val (.int s4), .val (.int s5), .val (.int s6), .val (.int s7), .val (.ref b28), .val (.ref b34), .val (.long ((0 : Int64) + ((s0.toInt64) * (s4.toInt64)))), .second] [(.double (FP.l2d ((0 : Int64) + ((s0.toInt64) * (s4.toInt64))))), (.double (FP.l2d ((0 : Int64) + (s0.toInt64 * s4.toInt64))))])) _
      refine XS.dcmpS X42.here hx rfl (hb hby at_180) rfl (v := (0 : Int32)) (dcmpV_self (nn_w rfl) _) ?_
      show Steps p.tables e below (T42.setTop (mkF m 181 #[.val (.int p0), .val (.long q1), .second, .val (.long q2), .second, .val (.int (1 : Int32)), .val (.int s0), .val (.int s1), .val (.int s2), .val (.int s3), .val (.int s4), .val (.int s5), .val (.int s6), .val (.int s7), .val (.ref b28), .val (.ref b34), .val (.long ((0 : Int64) + ((s0.toInt64) * (s4.toInt64)))), .second] [(.int (0 : Int32))])) _
      refine XS.ifNo X42.here hx rfl (hb hby at_181) rfl ((if0 _ _).trans (teq (by decide : (0 : Int32) = (0 : Int32))).2) ?_
      show Steps p.tables e below (T42.setTop (mkF m 184 #[.val (.int p0), .val (.long q1), .second, .val (.long q2), .second, .val (.int (1 : Int32)), .val (.int s0), .val (.int s1), .val (.int s2), .val (.int s3), .val (.int s4), .val (.int s5), .val (.int s6), .val (.int s7), .val (.ref b28), .val (.ref b34), .val (.long ((0 : Int64) + ((s0.toInt64) * (s4.toInt64)))), .second] [])) _
      refine XS.iconst X42.here hx rfl (hb hby at_184) ?_
      show Steps p.tables e below (T42.setTop (mkF m 185 #[.val (.int p0), .val (.long q1), .second, .val (.long q2), .second, .val (.int (1 : Int32)), .val (.int s0), .val (.int s1), .val (.int s2), .val (.int s3), .val (.int s4), .val (.int s5), .val (.int s6), .val (.int s7), .val (.ref b28), .val (.ref b34), .val (.long ((0 : Int64) + ((s0.toInt64) * (s4.toInt64)))), .second] [(.int (1 : Int32))])) _
      refine XS.goto X42.here hx rfl (pc0 := 185) (pc' := 189) rfl (hb hby at_185) (by decide) (by decide) ?_
      show Steps p.tables e below (T42.setTop (mkF m 189 #[.val (.int p0), .val (.long q1), .second, .val (.long q2), .second, .val (.int (1 : Int32)), .val (.int s0), .val (.int s1), .val (.int s2), .val (.int s3), .val (.int s4), .val (.int s5), .val (.int s6), .val (.int s7), .val (.ref b28), .val (.ref b34), .val (.long ((0 : Int64) + ((s0.toInt64) * (s4.toInt64)))), .second] [(.int (1 : Int32))])) _
      exact retN X42 hx (t := .boolean) Bd.returns (by simp) (hb hby at_189) hr
    · show Q0 Z p0 q1 q2 h0 n0 _ T42.heap _
      rw [R43]
      exact ⟨rfl, N42⟩
  · obtain ⟨_, _, ⟨T44, L44, k44, n44⟩, -, X44, ⟨Lc44, hQ44, l44, y44, z44⟩, st44⟩ := Jvm.LawKit.callS X0 hx (y := (⟨"com/example/prudent_feedback/prudentfeedback/coefficient/LogisticFitDotPinLaw", "take", "(IIIII)[D"⟩ : MethodName)) hown (mvT hZ (hw _ (List.mem_of_getElem? (i := 0) rfl))) (mvT hZ (hw _ (List.mem_of_getElem? (i := 1) rfl))) (mvT hZ (hw _ (List.mem_of_getElem? (i := 2) rfl))) (mvT hZ (hw _ (List.mem_of_getElem? (i := 3) rfl))) (by decide) (backOf (W := 0) (rm1_2 l Z a0 hw [] s0 s1 s2 s3 h0 n0 Z0 ) hZ (hw _ (List.mem_of_getElem? (i := 3) rfl)) (hw _ (List.mem_of_getElem? (i := 2) rfl)) (by decide) (by decide)) (g := (mkF m 76 #[.val (.int p0), .val (.long q1), .second, .val (.long q2), .second, .val (.int (2 : Int32)), .val (.int s0), .val (.int s1), .val (.int s2), .val (.int s3), .val (.int s4), .val (.int s5), .val (.int s6), .val (.int s7), .unset, .unset, .unset, .unset] [(.int s3), (.int s2), (.int s1), (.int s0), (.int (2 : Int32))])) rfl (by rw [hml]; rfl) (argsL := [(.int (2 : Int32)), (.int s0), (.int s1), (.int s2), (.int s3)]) (rest := []) (lenOf pd_0 rfl) rfl (by show 2 * 0 + _ ≤ _; exact Nat.le_of_eq rfl) (hb hby at_76) (fun _ _ => ⟨rfl, e0, (by decide : 0 + 1 ≤ _), (by decide : 0 + 2 ≤ _)⟩)
    dsimp only [Pt.U, Pt.locs, Pt.cells, Pt.slots] at X44 l44 y44 z44 st44 hQ44
    subst l44 y44 z44
    obtain ⟨b45, kk46, rfl, N44q, R47, R48⟩ := hQ44
    have N44 := Fr.app N0 N44q
    have Z49 : n0 ≤ T44.heap.size := Nat.le_trans Z0 R47.1
    obtain ⟨_, _, ⟨T50, L50, k50, n50⟩, -, X50, ⟨Lc50, hQ50, l50, y50, z50⟩, st50⟩ := Jvm.LawKit.callS X44 hx (y := (⟨"com/example/prudent_feedback/prudentfeedback/coefficient/LogisticFitDotPinLaw", "take", "(IIIII)[D"⟩ : MethodName)) hown (mvT hZ (hw _ (List.mem_of_getElem? (i := 0) rfl))) (mvT hZ (hw _ (List.mem_of_getElem? (i := 1) rfl))) (mvT hZ (hw _ (List.mem_of_getElem? (i := 2) rfl))) (mvT hZ (hw _ (List.mem_of_getElem? (i := 3) rfl))) (by decide) (backOf (W := 0) (rm1_2 l Z a0 hw [] s4 s5 s6 s7 T44.heap n0 Z49 ) hZ (hw _ (List.mem_of_getElem? (i := 3) rfl)) (hw _ (List.mem_of_getElem? (i := 2) rfl)) (by decide) (by decide)) (g := (mkF m 91 #[.val (.int p0), .val (.long q1), .second, .val (.long q2), .second, .val (.int (2 : Int32)), .val (.int s0), .val (.int s1), .val (.int s2), .val (.int s3), .val (.int s4), .val (.int s5), .val (.int s6), .val (.int s7), .val (.ref b45), .unset, .unset, .unset] [(.int s7), (.int s6), (.int s5), (.int s4), (.int (2 : Int32))])) rfl (by rw [hml]; rfl) (argsL := [(.int (2 : Int32)), (.int s4), (.int s5), (.int s6), (.int s7)]) (rest := []) (lenOf pd_0 rfl) rfl (by show 2 * 0 + _ ≤ _; exact Nat.le_of_eq rfl) (hb hby at_91) (fun _ _ => ⟨rfl, rfl, (by decide : 1 + 1 ≤ _), (by decide : 2 + 2 ≤ _)⟩)
    dsimp only [Pt.U, Pt.locs, Pt.cells, Pt.slots] at X50 l50 y50 z50 st50 hQ50
    subst l50 y50 z50
    obtain ⟨b51, kk52, rfl, N50q, R53, R54⟩ := hQ50
    have N50 := Fr.app N44 N50q
    have F55 : Arv Z T50.heap b45 kk46 .double (2 : Int32) [(.double (FP.l2d s0.toInt64)), (.double (FP.l2d s1.toInt64))] (.double (FP.l2d 0)) := R48.keep R53 nin0
    have Z56 : n0 ≤ T50.heap.size := Nat.le_trans Z49 R53.1
    have hp57 : own_sm 32768 s0.toInt64 := hb0
    have hp58 : own_sm 32768 s1.toInt64 := hb1
    have hp59 : own_sm 32768 s4.toInt64 := hb4
    have hp60 : own_sm 32768 s5.toInt64 := hb5
    obtain ⟨_, _, ⟨T61, L61, k61, n61⟩, -, X61, ⟨Lc61, hQ61, l61, y61, z61⟩, st61⟩ := Jvm.LawKit.callS X50 hx (y := (⟨"com/example/prudent_feedback/prudentfeedback/coefficient/LogisticFit", "dot", "([D[D)D"⟩ : MethodName)) hown (mvT hZ (hw _ (List.mem_of_getElem? (i := 5) rfl))) (mvT hZ (hw _ (List.mem_of_getElem? (i := 6) rfl))) (mvT hZ (hw _ (List.mem_of_getElem? (i := 7) rfl))) (mvT hZ (hw _ (List.mem_of_getElem? (i := 8) rfl))) (by decide) (backOf (W := 0) (rm2_2 l Z a0 hw [] b45 b51 kk46 kk52 s0.toInt64 s1.toInt64 s4.toInt64 s5.toInt64 T50.heap n0 Z56 F55 R54 hp57 hp58 hp59 hp60) hZ (hw _ (List.mem_of_getElem? (i := 8) rfl)) (hw _ (List.mem_of_getElem? (i := 7) rfl)) (by decide) (by decide)) (g := (mkF m 174 #[.val (.int p0), .val (.long q1), .second, .val (.long q2), .second, .val (.int (2 : Int32)), .val (.int s0), .val (.int s1), .val (.int s2), .val (.int s3), .val (.int s4), .val (.int s5), .val (.int s6), .val (.int s7), .val (.ref b45), .val (.ref b51), .val (.long (((0 : Int64) + ((s0.toInt64) * (s4.toInt64))) + ((s1.toInt64) * (s5.toInt64)))), .second] [(.ref b51), (.ref b45)])) rfl (by rw [hml]; rfl) (argsL := [(.ref b45), (.ref b51)]) (rest := []) (lenOf pd_1 rfl) rfl (by show 2 * 0 + _ ≤ _; exact Nat.le_of_eq rfl) (hb hby at_174) (fun _ _ => ⟨rfl, rfl, (by decide : 2 + 0 ≤ _), (by decide : 4 + 0 ≤ _)⟩)
    dsimp only [Pt.U, Pt.locs, Pt.cells, Pt.slots] at X61 l61 y61 z61 st61 hQ61
    subst l61 y61 z61
    obtain ⟨rfl, N61q, R62⟩ := hQ61
    have N61 := Fr.app N50 N61q
    obtain ⟨fs, hr, hrun, hended, hW, hsame⟩ := X61.leave (v := some (.int (1 : Int32))) (fun h => by rw [Bd.returns] at h; cases h)
    refine ⟨_, _, P11 _ ?_, hrun, hended, _, _, rfl, ?_, ⟨_, rfl⟩, hW, hsame.mono (by decide) (by decide)⟩
    · show Steps p.tables e below (s₁.setTop (mkF m 66 #[.val (.int p0), .val (.long q1), .second, .val (.long q2), .second, .val (.int (2 : Int32)), .val (.int s0), .val (.int s1), .val (.int s2), .val (.int s3), .val (.int s4), .val (.int s5), .val (.int s6), .val (.int s7), .unset, .unset, .unset, .unset] [])) _
      refine XS.iload X0.here hx rfl (hb hby at_66) rfl ?_
      show Steps p.tables e below (s₁.setTop (mkF m 68 #[.val (.int p0), .val (.long q1), .second, .val (.long q2), .second, .val (.int (2 : Int32)), .val (.int s0), .val (.int s1), .val (.int s2), .val (.int s3), .val (.int s4), .val (.int s5), .val (.int s6), .val (.int s7), .unset, .unset, .unset, .unset] [(.int (2 : Int32))])) _
      refine XS.iload X0.here hx rfl (hb hby at_68) rfl ?_
      show Steps p.tables e below (s₁.setTop (mkF m 70 #[.val (.int p0), .val (.long q1), .second, .val (.long q2), .second, .val (.int (2 : Int32)), .val (.int s0), .val (.int s1), .val (.int s2), .val (.int s3), .val (.int s4), .val (.int s5), .val (.int s6), .val (.int s7), .unset, .unset, .unset, .unset] [(.int s0), (.int (2 : Int32))])) _
      refine XS.iload X0.here hx rfl (hb hby at_70) rfl ?_
      show Steps p.tables e below (s₁.setTop (mkF m 72 #[.val (.int p0), .val (.long q1), .second, .val (.long q2), .second, .val (.int (2 : Int32)), .val (.int s0), .val (.int s1), .val (.int s2), .val (.int s3), .val (.int s4), .val (.int s5), .val (.int s6), .val (.int s7), .unset, .unset, .unset, .unset] [(.int s1), (.int s0), (.int (2 : Int32))])) _
      refine XS.iload X0.here hx rfl (hb hby at_72) rfl ?_
      show Steps p.tables e below (s₁.setTop (mkF m 74 #[.val (.int p0), .val (.long q1), .second, .val (.long q2), .second, .val (.int (2 : Int32)), .val (.int s0), .val (.int s1), .val (.int s2), .val (.int s3), .val (.int s4), .val (.int s5), .val (.int s6), .val (.int s7), .unset, .unset, .unset, .unset] [(.int s2), (.int s1), (.int s0), (.int (2 : Int32))])) _
      refine XS.iload X0.here hx rfl (hb hby at_74) rfl ?_
      show Steps p.tables e below (s₁.setTop (mkF m 76 #[.val (.int p0), .val (.long q1), .second, .val (.long q2), .second, .val (.int (2 : Int32)), .val (.int s0), .val (.int s1), .val (.int s2), .val (.int s3), .val (.int s4), .val (.int s5), .val (.int s6), .val (.int s7), .unset, .unset, .unset, .unset] [(.int s3), (.int s2), (.int s1), (.int s0), (.int (2 : Int32))])) _
      refine st44 _ ?_
      show Steps p.tables e below (T44.setTop (mkF m 79 #[.val (.int p0), .val (.long q1), .second, .val (.long q2), .second, .val (.int (2 : Int32)), .val (.int s0), .val (.int s1), .val (.int s2), .val (.int s3), .val (.int s4), .val (.int s5), .val (.int s6), .val (.int s7), .unset, .unset, .unset, .unset] [(.ref b45)])) _
      refine XS.astore X44.here hx rfl (hb hby at_79) rfl rfl (l' := #[.val (.int p0), .val (.long q1), .second, .val (.long q2), .second, .val (.int (2 : Int32)), .val (.int s0), .val (.int s1), .val (.int s2), .val (.int s3), .val (.int s4), .val (.int s5), .val (.int s6), .val (.int s7), .val (.ref b45), .unset, .unset, .unset]) rfl ?_
      show Steps p.tables e below (T44.setTop (mkF m 81 #[.val (.int p0), .val (.long q1), .second, .val (.long q2), .second, .val (.int (2 : Int32)), .val (.int s0), .val (.int s1), .val (.int s2), .val (.int s3), .val (.int s4), .val (.int s5), .val (.int s6), .val (.int s7), .val (.ref b45), .unset, .unset, .unset] [])) _
      refine XS.iload X44.here hx rfl (hb hby at_81) rfl ?_
      show Steps p.tables e below (T44.setTop (mkF m 83 #[.val (.int p0), .val (.long q1), .second, .val (.long q2), .second, .val (.int (2 : Int32)), .val (.int s0), .val (.int s1), .val (.int s2), .val (.int s3), .val (.int s4), .val (.int s5), .val (.int s6), .val (.int s7), .val (.ref b45), .unset, .unset, .unset] [(.int (2 : Int32))])) _
      refine XS.iload X44.here hx rfl (hb hby at_83) rfl ?_
      show Steps p.tables e below (T44.setTop (mkF m 85 #[.val (.int p0), .val (.long q1), .second, .val (.long q2), .second, .val (.int (2 : Int32)), .val (.int s0), .val (.int s1), .val (.int s2), .val (.int s3), .val (.int s4), .val (.int s5), .val (.int s6), .val (.int s7), .val (.ref b45), .unset, .unset, .unset] [(.int s4), (.int (2 : Int32))])) _
      refine XS.iload X44.here hx rfl (hb hby at_85) rfl ?_
      show Steps p.tables e below (T44.setTop (mkF m 87 #[.val (.int p0), .val (.long q1), .second, .val (.long q2), .second, .val (.int (2 : Int32)), .val (.int s0), .val (.int s1), .val (.int s2), .val (.int s3), .val (.int s4), .val (.int s5), .val (.int s6), .val (.int s7), .val (.ref b45), .unset, .unset, .unset] [(.int s5), (.int s4), (.int (2 : Int32))])) _
      refine XS.iload X44.here hx rfl (hb hby at_87) rfl ?_
      show Steps p.tables e below (T44.setTop (mkF m 89 #[.val (.int p0), .val (.long q1), .second, .val (.long q2), .second, .val (.int (2 : Int32)), .val (.int s0), .val (.int s1), .val (.int s2), .val (.int s3), .val (.int s4), .val (.int s5), .val (.int s6), .val (.int s7), .val (.ref b45), .unset, .unset, .unset] [(.int s6), (.int s5), (.int s4), (.int (2 : Int32))])) _
      refine XS.iload X44.here hx rfl (hb hby at_89) rfl ?_
      show Steps p.tables e below (T44.setTop (mkF m 91 #[.val (.int p0), .val (.long q1), .second, .val (.long q2), .second, .val (.int (2 : Int32)), .val (.int s0), .val (.int s1), .val (.int s2), .val (.int s3), .val (.int s4), .val (.int s5), .val (.int s6), .val (.int s7), .val (.ref b45), .unset, .unset, .unset] [(.int s7), (.int s6), (.int s5), (.int s4), (.int (2 : Int32))])) _
      refine st50 _ ?_
      show Steps p.tables e below (T50.setTop (mkF m 94 #[.val (.int p0), .val (.long q1), .second, .val (.long q2), .second, .val (.int (2 : Int32)), .val (.int s0), .val (.int s1), .val (.int s2), .val (.int s3), .val (.int s4), .val (.int s5), .val (.int s6), .val (.int s7), .val (.ref b45), .unset, .unset, .unset] [(.ref b51)])) _
      refine XS.astore X50.here hx rfl (hb hby at_94) rfl rfl (l' := #[.val (.int p0), .val (.long q1), .second, .val (.long q2), .second, .val (.int (2 : Int32)), .val (.int s0), .val (.int s1), .val (.int s2), .val (.int s3), .val (.int s4), .val (.int s5), .val (.int s6), .val (.int s7), .val (.ref b45), .val (.ref b51), .unset, .unset]) rfl ?_
      show Steps p.tables e below (T50.setTop (mkF m 96 #[.val (.int p0), .val (.long q1), .second, .val (.long q2), .second, .val (.int (2 : Int32)), .val (.int s0), .val (.int s1), .val (.int s2), .val (.int s3), .val (.int s4), .val (.int s5), .val (.int s6), .val (.int s7), .val (.ref b45), .val (.ref b51), .unset, .unset] [])) _
      refine XS.lconst X50.here hx rfl (hb hby at_96) ?_
      show Steps p.tables e below (T50.setTop (mkF m 97 #[.val (.int p0), .val (.long q1), .second, .val (.long q2), .second, .val (.int (2 : Int32)), .val (.int s0), .val (.int s1), .val (.int s2), .val (.int s3), .val (.int s4), .val (.int s5), .val (.int s6), .val (.int s7), .val (.ref b45), .val (.ref b51), .unset, .unset] [(.long (0 : Int64))])) _
      refine XS.lstore X50.here hx rfl (hb hby at_97) rfl (l' := #[.val (.int p0), .val (.long q1), .second, .val (.long q2), .second, .val (.int (2 : Int32)), .val (.int s0), .val (.int s1), .val (.int s2), .val (.int s3), .val (.int s4), .val (.int s5), .val (.int s6), .val (.int s7), .val (.ref b45), .val (.ref b51), .val (.long (0 : Int64)), .second]) rfl ?_
      show Steps p.tables e below (T50.setTop (mkF m 99 #[.val (.int p0), .val (.long q1), .second, .val (.long q2), .second, .val (.int (2 : Int32)), .val (.int s0), .val (.int s1), .val (.int s2), .val (.int s3), .val (.int s4), .val (.int s5), .val (.int s6), .val (.int s7), .val (.ref b45), .val (.ref b51), .val (.long (0 : Int64)), .second] [])) _
      refine XS.iload X50.here hx rfl (hb hby at_99) rfl ?_
      show Steps p.tables e below (T50.setTop (mkF m 101 #[.val (.int p0), .val (.long q1), .second, .val (.long q2), .second, .val (.int (2 : Int32)), .val (.int s0), .val (.int s1), .val (.int s2), .val (.int s3), .val (.int s4), .val (.int s5), .val (.int s6), .val (.int s7), .val (.ref b45), .val (.ref b51), .val (.long (0 : Int64)), .second] [(.int (2 : Int32))])) _
      refine XS.ifNo X50.here hx rfl (hb hby at_101) rfl ((if0 _ _).trans (tlt (by decide : (0 : Int32) < (2 : Int32))).2.2.2) ?_
      show Steps p.tables e below (T50.setTop (mkF m 104 #[.val (.int p0), .val (.long q1), .second, .val (.long q2), .second, .val (.int (2 : Int32)), .val (.int s0), .val (.int s1), .val (.int s2), .val (.int s3), .val (.int s4), .val (.int s5), .val (.int s6), .val (.int s7), .val (.ref b45), .val (.ref b51), .val (.long (0 : Int64)), .second] [])) _
      refine XS.lload X50.here hx rfl (hb hby at_104) rfl ?_
      show Steps p.tables e below (T50.setTop (mkF m 106 #[.val (.int p0), .val (.long q1), .second, .val (.long q2), .second, .val (.int (2 : Int32)), .val (.int s0), .val (.int s1), .val (.int s2), .val (.int s3), .val (.int s4), .val (.int s5), .val (.int s6), .val (.int s7), .val (.ref b45), .val (.ref b51), .val (.long (0 : Int64)), .second] [(.long (0 : Int64))])) _
      refine XS.iload X50.here hx rfl (hb hby at_106) rfl ?_
      show Steps p.tables e below (T50.setTop (mkF m 108 #[.val (.int p0), .val (.long q1), .second, .val (.long q2), .second, .val (.int (2 : Int32)), .val (.int s0), .val (.int s1), .val (.int s2), .val (.int s3), .val (.int s4), .val (.int s5), .val (.int s6), .val (.int s7), .val (.ref b45), .val (.ref b51), .val (.long (0 : Int64)), .second] [(.int s0), (.long (0 : Int64))])) _
      refine XS.i2l X50.here hx rfl (hb hby at_108) rfl ?_
      show Steps p.tables e below (T50.setTop (mkF m 109 #[.val (.int p0), .val (.long q1), .second, .val (.long q2), .second, .val (.int (2 : Int32)), .val (.int s0), .val (.int s1), .val (.int s2), .val (.int s3), .val (.int s4), .val (.int s5), .val (.int s6), .val (.int s7), .val (.ref b45), .val (.ref b51), .val (.long (0 : Int64)), .second] [(.long (s0.toInt64)), (.long (0 : Int64))])) _
      refine XS.iload X50.here hx rfl (hb hby at_109) rfl ?_
      show Steps p.tables e below (T50.setTop (mkF m 111 #[.val (.int p0), .val (.long q1), .second, .val (.long q2), .second, .val (.int (2 : Int32)), .val (.int s0), .val (.int s1), .val (.int s2), .val (.int s3), .val (.int s4), .val (.int s5), .val (.int s6), .val (.int s7), .val (.ref b45), .val (.ref b51), .val (.long (0 : Int64)), .second] [(.int s4), (.long (s0.toInt64)), (.long (0 : Int64))])) _
      refine XS.i2l X50.here hx rfl (hb hby at_111) rfl ?_
      show Steps p.tables e below (T50.setTop (mkF m 112 #[.val (.int p0), .val (.long q1), .second, .val (.long q2), .second, .val (.int (2 : Int32)), .val (.int s0), .val (.int s1), .val (.int s2), .val (.int s3), .val (.int s4), .val (.int s5), .val (.int s6), .val (.int s7), .val (.ref b45), .val (.ref b51), .val (.long (0 : Int64)), .second] [(.long (s4.toInt64)), (.long (s0.toInt64)), (.long (0 : Int64))])) _
      refine XS.lmul X50.here hx rfl (hb hby at_112) rfl ?_
      show Steps p.tables e below (T50.setTop (mkF m 113 #[.val (.int p0), .val (.long q1), .second, .val (.long q2), .second, .val (.int (2 : Int32)), .val (.int s0), .val (.int s1), .val (.int s2), .val (.int s3), .val (.int s4), .val (.int s5), .val (.int s6), .val (.int s7), .val (.ref b45), .val (.ref b51), .val (.long (0 : Int64)), .second] [(.long ((s0.toInt64) * (s4.toInt64))), (.long (0 : Int64))])) _
      refine XS.ladd X50.here hx rfl (hb hby at_113) rfl ?_
      show Steps p.tables e below (T50.setTop (mkF m 114 #[.val (.int p0), .val (.long q1), .second, .val (.long q2), .second, .val (.int (2 : Int32)), .val (.int s0), .val (.int s1), .val (.int s2), .val (.int s3), .val (.int s4), .val (.int s5), .val (.int s6), .val (.int s7), .val (.ref b45), .val (.ref b51), .val (.long (0 : Int64)), .second] [(.long ((0 : Int64) + ((s0.toInt64) * (s4.toInt64))))])) _
      refine XS.lstore X50.here hx rfl (hb hby at_114) rfl (l' := #[.val (.int p0), .val (.long q1), .second, .val (.long q2), .second, .val (.int (2 : Int32)), .val (.int s0), .val (.int s1), .val (.int s2), .val (.int s3), .val (.int s4), .val (.int s5), .val (.int s6), .val (.int s7), .val (.ref b45), .val (.ref b51), .val (.long ((0 : Int64) + ((s0.toInt64) * (s4.toInt64)))), .second]) rfl ?_
      show Steps p.tables e below (T50.setTop (mkF m 116 #[.val (.int p0), .val (.long q1), .second, .val (.long q2), .second, .val (.int (2 : Int32)), .val (.int s0), .val (.int s1), .val (.int s2), .val (.int s3), .val (.int s4), .val (.int s5), .val (.int s6), .val (.int s7), .val (.ref b45), .val (.ref b51), .val (.long ((0 : Int64) + ((s0.toInt64) * (s4.toInt64)))), .second] [])) _
      refine XS.iload X50.here hx rfl (hb hby at_116) rfl ?_
      show Steps p.tables e below (T50.setTop (mkF m 118 #[.val (.int p0), .val (.long q1), .second, .val (.long q2), .second, .val (.int (2 : Int32)), .val (.int s0), .val (.int s1), .val (.int s2), .val (.int s3), .val (.int s4), .val (.int s5), .val (.int s6), .val (.int s7), .val (.ref b45), .val (.ref b51), .val (.long ((0 : Int64) + ((s0.toInt64) * (s4.toInt64)))), .second] [(.int (2 : Int32))])) _
      refine XS.iconst X50.here hx rfl (hb hby at_118) ?_
      show Steps p.tables e below (T50.setTop (mkF m 119 #[.val (.int p0), .val (.long q1), .second, .val (.long q2), .second, .val (.int (2 : Int32)), .val (.int s0), .val (.int s1), .val (.int s2), .val (.int s3), .val (.int s4), .val (.int s5), .val (.int s6), .val (.int s7), .val (.ref b45), .val (.ref b51), .val (.long ((0 : Int64) + ((s0.toInt64) * (s4.toInt64)))), .second] [(.int (1 : Int32)), (.int (2 : Int32))])) _
      refine XS.icmpNo X50.here hx rfl (hb hby at_119) rfl (tlt (by decide : (1 : Int32) < (2 : Int32))).2.2.2 ?_
      show Steps p.tables e below (T50.setTop (mkF m 122 #[.val (.int p0), .val (.long q1), .second, .val (.long q2), .second, .val (.int (2 : Int32)), .val (.int s0), .val (.int s1), .val (.int s2), .val (.int s3), .val (.int s4), .val (.int s5), .val (.int s6), .val (.int s7), .val (.ref b45), .val (.ref b51), .val (.long ((0 : Int64) + ((s0.toInt64) * (s4.toInt64)))), .second] [])) _
      refine XS.lload X50.here hx rfl (hb hby at_122) rfl ?_
      show Steps p.tables e below (T50.setTop (mkF m 124 #[.val (.int p0), .val (.long q1), .second, .val (.long q2), .second, .val (.int (2 : Int32)), .val (.int s0), .val (.int s1), .val (.int s2), .val (.int s3), .val (.int s4), .val (.int s5), .val (.int s6), .val (.int s7), .val (.ref b45), .val (.ref b51), .val (.long ((0 : Int64) + ((s0.toInt64) * (s4.toInt64)))), .second] [(.long ((0 : Int64) + ((s0.toInt64) * (s4.toInt64))))])) _
      refine XS.iload X50.here hx rfl (hb hby at_124) rfl ?_
      show Steps p.tables e below (T50.setTop (mkF m 126 #[.val (.int p0), .val (.long q1), .second, .val (.long q2), .second, .val (.int (2 : Int32)), .val (.int s0), .val (.int s1), .val (.int s2), .val (.int s3), .val (.int s4), .val (.int s5), .val (.int s6), .val (.int s7), .val (.ref b45), .val (.ref b51), .val (.long ((0 : Int64) + ((s0.toInt64) * (s4.toInt64)))), .second] [(.int s1), (.long ((0 : Int64) + ((s0.toInt64) * (s4.toInt64))))])) _
      refine XS.i2l X50.here hx rfl (hb hby at_126) rfl ?_
      show Steps p.tables e below (T50.setTop (mkF m 127 #[.val (.int p0), .val (.long q1), .second, .val (.long q2), .second, .val (.int (2 : Int32)), .val (.int s0), .val (.int s1), .val (.int s2), .val (.int s3), .val (.int s4), .val (.int s5), .val (.int s6), .val (.int s7), .val (.ref b45), .val (.ref b51), .val (.long ((0 : Int64) + ((s0.toInt64) * (s4.toInt64)))), .second] [(.long (s1.toInt64)), (.long ((0 : Int64) + ((s0.toInt64) * (s4.toInt64))))])) _
      refine XS.iload X50.here hx rfl (hb hby at_127) rfl ?_
      show Steps p.tables e below (T50.setTop (mkF m 129 #[.val (.int p0), .val (.long q1), .second, .val (.long q2), .second, .val (.int (2 : Int32)), .val (.int s0), .val (.int s1), .val (.int s2), .val (.int s3), .val (.int s4), .val (.int s5), .val (.int s6), .val (.int s7), .val (.ref b45), .val (.ref b51), .val (.long ((0 : Int64) + ((s0.toInt64) * (s4.toInt64)))), .second] [(.int s5), (.long (s1.toInt64)), (.long ((0 : Int64) + ((s0.toInt64) * (s4.toInt64))))])) _
      refine XS.i2l X50.here hx rfl (hb hby at_129) rfl ?_
      show Steps p.tables e below (T50.setTop (mkF m 130 #[.val (.int p0), .val (.long q1), .second, .val (.long q2), .second, .val (.int (2 : Int32)), .val (.int s0), .val (.int s1), .val (.int s2), .val (.int s3), .val (.int s4), .val (.int s5), .val (.int s6), .val (.int s7), .val (.ref b45), .val (.ref b51), .val (.long ((0 : Int64) + ((s0.toInt64) * (s4.toInt64)))), .second] [(.long (s5.toInt64)), (.long (s1.toInt64)), (.long ((0 : Int64) + ((s0.toInt64) * (s4.toInt64))))])) _
      refine XS.lmul X50.here hx rfl (hb hby at_130) rfl ?_
      show Steps p.tables e below (T50.setTop (mkF m 131 #[.val (.int p0), .val (.long q1), .second, .val (.long q2), .second, .val (.int (2 : Int32)), .val (.int s0), .val (.int s1), .val (.int s2), .val (.int s3), .val (.int s4), .val (.int s5), .val (.int s6), .val (.int s7), .val (.ref b45), .val (.ref b51), .val (.long ((0 : Int64) + ((s0.toInt64) * (s4.toInt64)))), .second] [(.long ((s1.toInt64) * (s5.toInt64))), (.long ((0 : Int64) + ((s0.toInt64) * (s4.toInt64))))])) _
      refine XS.ladd X50.here hx rfl (hb hby at_131) rfl ?_
      show Steps p.tables e below (T50.setTop (mkF m 132 #[.val (.int p0), .val (.long q1), .second, .val (.long q2), .second, .val (.int (2 : Int32)), .val (.int s0), .val (.int s1), .val (.int s2), .val (.int s3), .val (.int s4), .val (.int s5), .val (.int s6), .val (.int s7), .val (.ref b45), .val (.ref b51), .val (.long ((0 : Int64) + ((s0.toInt64) * (s4.toInt64)))), .second] [(.long (((0 : Int64) + ((s0.toInt64) * (s4.toInt64))) + ((s1.toInt64) * (s5.toInt64))))])) _
      refine XS.lstore X50.here hx rfl (hb hby at_132) rfl (l' := #[.val (.int p0), .val (.long q1), .second, .val (.long q2), .second, .val (.int (2 : Int32)), .val (.int s0), .val (.int s1), .val (.int s2), .val (.int s3), .val (.int s4), .val (.int s5), .val (.int s6), .val (.int s7), .val (.ref b45), .val (.ref b51), .val (.long (((0 : Int64) + ((s0.toInt64) * (s4.toInt64))) + ((s1.toInt64) * (s5.toInt64)))), .second]) rfl ?_
      show Steps p.tables e below (T50.setTop (mkF m 134 #[.val (.int p0), .val (.long q1), .second, .val (.long q2), .second, .val (.int (2 : Int32)), .val (.int s0), .val (.int s1), .val (.int s2), .val (.int s3), .val (.int s4), .val (.int s5), .val (.int s6), .val (.int s7), .val (.ref b45), .val (.ref b51), .val (.long (((0 : Int64) + ((s0.toInt64) * (s4.toInt64))) + ((s1.toInt64) * (s5.toInt64)))), .second] [])) _
      refine XS.iload X50.here hx rfl (hb hby at_134) rfl ?_
      show Steps p.tables e below (T50.setTop (mkF m 136 #[.val (.int p0), .val (.long q1), .second, .val (.long q2), .second, .val (.int (2 : Int32)), .val (.int s0), .val (.int s1), .val (.int s2), .val (.int s3), .val (.int s4), .val (.int s5), .val (.int s6), .val (.int s7), .val (.ref b45), .val (.ref b51), .val (.long (((0 : Int64) + ((s0.toInt64) * (s4.toInt64))) + ((s1.toInt64) * (s5.toInt64)))), .second] [(.int (2 : Int32))])) _
      refine XS.iconst X50.here hx rfl (hb hby at_136) ?_
      show Steps p.tables e below (T50.setTop (mkF m 137 #[.val (.int p0), .val (.long q1), .second, .val (.long q2), .second, .val (.int (2 : Int32)), .val (.int s0), .val (.int s1), .val (.int s2), .val (.int s3), .val (.int s4), .val (.int s5), .val (.int s6), .val (.int s7), .val (.ref b45), .val (.ref b51), .val (.long (((0 : Int64) + ((s0.toInt64) * (s4.toInt64))) + ((s1.toInt64) * (s5.toInt64)))), .second] [(.int (2 : Int32)), (.int (2 : Int32))])) _
      refine XS.icmpYes X50.here hx rfl (pc0 := 137) (pc' := 152) rfl (hb hby at_137) rfl (flt (by decide : ¬ ((2 : Int32) < (2 : Int32)))).2.2.2 (by decide) (by decide) ?_
      show Steps p.tables e below (T50.setTop (mkF m 152 #[.val (.int p0), .val (.long q1), .second, .val (.long q2), .second, .val (.int (2 : Int32)), .val (.int s0), .val (.int s1), .val (.int s2), .val (.int s3), .val (.int s4), .val (.int s5), .val (.int s6), .val (.int s7), .val (.ref b45), .val (.ref b51), .val (.long (((0 : Int64) + ((s0.toInt64) * (s4.toInt64))) + ((s1.toInt64) * (s5.toInt64)))), .second] [])) _
      refine XS.iload X50.here hx rfl (hb hby at_152) rfl ?_
      show Steps p.tables e below (T50.setTop (mkF m 154 #[.val (.int p0), .val (.long q1), .second, .val (.long q2), .second, .val (.int (2 : Int32)), .val (.int s0), .val (.int s1), .val (.int s2), .val (.int s3), .val (.int s4), .val (.int s5), .val (.int s6), .val (.int s7), .val (.ref b45), .val (.ref b51), .val (.long (((0 : Int64) + ((s0.toInt64) * (s4.toInt64))) + ((s1.toInt64) * (s5.toInt64)))), .second] [(.int (2 : Int32))])) _
      refine XS.iconst X50.here hx rfl (hb hby at_154) ?_
      show Steps p.tables e below (T50.setTop (mkF m 155 #[.val (.int p0), .val (.long q1), .second, .val (.long q2), .second, .val (.int (2 : Int32)), .val (.int s0), .val (.int s1), .val (.int s2), .val (.int s3), .val (.int s4), .val (.int s5), .val (.int s6), .val (.int s7), .val (.ref b45), .val (.ref b51), .val (.long (((0 : Int64) + ((s0.toInt64) * (s4.toInt64))) + ((s1.toInt64) * (s5.toInt64)))), .second] [(.int (3 : Int32)), (.int (2 : Int32))])) _
      refine XS.icmpYes X50.here hx rfl (pc0 := 155) (pc' := 170) rfl (hb hby at_155) rfl (flt (by decide : ¬ ((3 : Int32) < (2 : Int32)))).2.2.2 (by decide) (by decide) ?_
      show Steps p.tables e below (T50.setTop (mkF m 170 #[.val (.int p0), .val (.long q1), .second, .val (.long q2), .second, .val (.int (2 : Int32)), .val (.int s0), .val (.int s1), .val (.int s2), .val (.int s3), .val (.int s4), .val (.int s5), .val (.int s6), .val (.int s7), .val (.ref b45), .val (.ref b51), .val (.long (((0 : Int64) + ((s0.toInt64) * (s4.toInt64))) + ((s1.toInt64) * (s5.toInt64)))), .second] [])) _
      refine XS.aload X50.here hx rfl (hb hby at_170) rfl rfl ?_
      show Steps p.tables e below (T50.setTop (mkF m 172 #[.val (.int p0), .val (.long q1), .second, .val (.long q2), .second, .val (.int (2 : Int32)), .val (.int s0), .val (.int s1), .val (.int s2), .val (.int s3), .val (.int s4), .val (.int s5), .val (.int s6), .val (.int s7), .val (.ref b45), .val (.ref b51), .val (.long (((0 : Int64) + ((s0.toInt64) * (s4.toInt64))) + ((s1.toInt64) * (s5.toInt64)))), .second] [(.ref b45)])) _
      refine XS.aload X50.here hx rfl (hb hby at_172) rfl rfl ?_
      show Steps p.tables e below (T50.setTop (mkF m 174 #[.val (.int p0), .val (.long q1), .second, .val (.long q2), .second, .val (.int (2 : Int32)), .val (.int s0), .val (.int s1), .val (.int s2), .val (.int s3), .val (.int s4), .val (.int s5), .val (.int s6), .val (.int s7), .val (.ref b45), .val (.ref b51), .val (.long (((0 : Int64) + ((s0.toInt64) * (s4.toInt64))) + ((s1.toInt64) * (s5.toInt64)))), .second] [(.ref b51), (.ref b45)])) _
      refine st61 _ ?_
      show Steps p.tables e below (T61.setTop (mkF m 177 #[.val (.int p0), .val (.long q1), .second, .val (.long q2), .second, .val (.int (2 : Int32)), .val (.int s0), .val (.int s1), .val (.int s2), .val (.int s3), .val (.int s4), .val (.int s5), .val (.int s6), .val (.int s7), .val (.ref b45), .val (.ref b51), .val (.long (((0 : Int64) + ((s0.toInt64) * (s4.toInt64))) + ((s1.toInt64) * (s5.toInt64)))), .second] [(.double (FP.l2d (((0 : Int64) + (s0.toInt64 * s4.toInt64)) + (s1.toInt64 * s5.toInt64))))])) _
      refine XS.lload X61.here hx rfl (hb hby at_177) rfl ?_
      show Steps p.tables e below (T61.setTop (mkF m 179 #[.val (.int p0), .val (.long q1), .second, .val (.long q2), .second, .val (.int (2 : Int32)), .val (.int s0), .val (.int s1), .val (.int s2), .val (.int s3), .val (.int s4), .val (.int s5), .val (.int s6), .val (.int s7), .val (.ref b45), .val (.ref b51), .val (.long (((0 : Int64) + ((s0.toInt64) * (s4.toInt64))) + ((s1.toInt64) * (s5.toInt64)))), .second] [(.long (((0 : Int64) + ((s0.toInt64) * (s4.toInt64))) + ((s1.toInt64) * (s5.toInt64)))), (.double (FP.l2d (((0 : Int64) + (s0.toInt64 * s4.toInt64)) + (s1.toInt64 * s5.toInt64))))])) _
      refine XS.l2dS X61.here hx rfl (hb hby at_179) rfl (v := FP.l2d (((0 : Int64) + ((s0.toInt64) * (s4.toInt64))) + ((s1.toInt64) * (s5.toInt64)))) rfl ?_
      show Steps p.tables e below (T61.setTop (mkF m 180 #[.val (.int p0), .val (.long q1), .second, .val (.long q2), .second, .val (.int (2 : Int32)), .val (.int s0), .val (.int s1), .val (.int s2), .val (.int s3), .val (.int s4), .val (.int s5), .val (.int s6), .val (.int s7), .val (.ref b45), .val (.ref b51), .val (.long (((0 : Int64) + ((s0.toInt64) * (s4.toInt64))) + ((s1.toInt64) * (s5.toInt64)))), .second] [(.double (FP.l2d (((0 : Int64) + ((s0.toInt64) * (s4.toInt64))) + ((s1.toInt64) * (s5.toInt64))))), (.double (FP.l2d (((0 : Int64) + (s0.toInt64 * s4.toInt64)) + (s1.toInt64 * s5.toInt64))))])) _
      refine XS.dcmpS X61.here hx rfl (hb hby at_180) rfl (v := (0 : Int32)) (dcmpV_self (nn_w rfl) _) ?_
      show Steps p.tables e below (T61.setTop (mkF m 181 #[.val (.int p0), .val (.long q1), .second, .val (.long q2), .second, .val (.int (2 : Int32)), .val (.int s0), .val (.int s1), .val (.int s2), .val (.int s3), .val (.int s4), .val (.int s5), .val (.int s6), .val (.int s7), .val (.ref b45), .val (.ref b51), .val (.long (((0 : Int64) + ((s0.toInt64) * (s4.toInt64))) + ((s1.toInt64) * (s5.toInt64)))), .second] [(.int (0 : Int32))])) _
      refine XS.ifNo X61.here hx rfl (hb hby at_181) rfl ((if0 _ _).trans (teq (by decide : (0 : Int32) = (0 : Int32))).2) ?_
      show Steps p.tables e below (T61.setTop (mkF m 184 #[.val (.int p0), .val (.long q1), .second, .val (.long q2), .second, .val (.int (2 : Int32)), .val (.int s0), .val (.int s1), .val (.int s2), .val (.int s3), .val (.int s4), .val (.int s5), .val (.int s6), .val (.int s7), .val (.ref b45), .val (.ref b51), .val (.long (((0 : Int64) + ((s0.toInt64) * (s4.toInt64))) + ((s1.toInt64) * (s5.toInt64)))), .second] [])) _
      refine XS.iconst X61.here hx rfl (hb hby at_184) ?_
      show Steps p.tables e below (T61.setTop (mkF m 185 #[.val (.int p0), .val (.long q1), .second, .val (.long q2), .second, .val (.int (2 : Int32)), .val (.int s0), .val (.int s1), .val (.int s2), .val (.int s3), .val (.int s4), .val (.int s5), .val (.int s6), .val (.int s7), .val (.ref b45), .val (.ref b51), .val (.long (((0 : Int64) + ((s0.toInt64) * (s4.toInt64))) + ((s1.toInt64) * (s5.toInt64)))), .second] [(.int (1 : Int32))])) _
      refine XS.goto X61.here hx rfl (pc0 := 185) (pc' := 189) rfl (hb hby at_185) (by decide) (by decide) ?_
      show Steps p.tables e below (T61.setTop (mkF m 189 #[.val (.int p0), .val (.long q1), .second, .val (.long q2), .second, .val (.int (2 : Int32)), .val (.int s0), .val (.int s1), .val (.int s2), .val (.int s3), .val (.int s4), .val (.int s5), .val (.int s6), .val (.int s7), .val (.ref b45), .val (.ref b51), .val (.long (((0 : Int64) + ((s0.toInt64) * (s4.toInt64))) + ((s1.toInt64) * (s5.toInt64)))), .second] [(.int (1 : Int32))])) _
      exact retN X61 hx (t := .boolean) Bd.returns (by simp) (hb hby at_189) hr
    · show Q0 Z p0 q1 q2 h0 n0 _ T61.heap _
      rw [R62]
      exact ⟨rfl, N61⟩
  · obtain ⟨_, _, ⟨T63, L63, k63, n63⟩, -, X63, ⟨Lc63, hQ63, l63, y63, z63⟩, st63⟩ := Jvm.LawKit.callS X0 hx (y := (⟨"com/example/prudent_feedback/prudentfeedback/coefficient/LogisticFitDotPinLaw", "take", "(IIIII)[D"⟩ : MethodName)) hown (mvT hZ (hw _ (List.mem_of_getElem? (i := 0) rfl))) (mvT hZ (hw _ (List.mem_of_getElem? (i := 1) rfl))) (mvT hZ (hw _ (List.mem_of_getElem? (i := 2) rfl))) (mvT hZ (hw _ (List.mem_of_getElem? (i := 3) rfl))) (by decide) (backOf (W := 0) (rm1_3 l Z a0 hw [] s0 s1 s2 s3 h0 n0 Z0 ) hZ (hw _ (List.mem_of_getElem? (i := 3) rfl)) (hw _ (List.mem_of_getElem? (i := 2) rfl)) (by decide) (by decide)) (g := (mkF m 76 #[.val (.int p0), .val (.long q1), .second, .val (.long q2), .second, .val (.int (3 : Int32)), .val (.int s0), .val (.int s1), .val (.int s2), .val (.int s3), .val (.int s4), .val (.int s5), .val (.int s6), .val (.int s7), .unset, .unset, .unset, .unset] [(.int s3), (.int s2), (.int s1), (.int s0), (.int (3 : Int32))])) rfl (by rw [hml]; rfl) (argsL := [(.int (3 : Int32)), (.int s0), (.int s1), (.int s2), (.int s3)]) (rest := []) (lenOf pd_0 rfl) rfl (by show 2 * 0 + _ ≤ _; exact Nat.le_of_eq rfl) (hb hby at_76) (fun _ _ => ⟨rfl, e0, (by decide : 0 + 1 ≤ _), (by decide : 0 + 3 ≤ _)⟩)
    dsimp only [Pt.U, Pt.locs, Pt.cells, Pt.slots] at X63 l63 y63 z63 st63 hQ63
    subst l63 y63 z63
    obtain ⟨b64, kk65, rfl, N63q, R66, R67⟩ := hQ63
    have N63 := Fr.app N0 N63q
    have Z68 : n0 ≤ T63.heap.size := Nat.le_trans Z0 R66.1
    obtain ⟨_, _, ⟨T69, L69, k69, n69⟩, -, X69, ⟨Lc69, hQ69, l69, y69, z69⟩, st69⟩ := Jvm.LawKit.callS X63 hx (y := (⟨"com/example/prudent_feedback/prudentfeedback/coefficient/LogisticFitDotPinLaw", "take", "(IIIII)[D"⟩ : MethodName)) hown (mvT hZ (hw _ (List.mem_of_getElem? (i := 0) rfl))) (mvT hZ (hw _ (List.mem_of_getElem? (i := 1) rfl))) (mvT hZ (hw _ (List.mem_of_getElem? (i := 2) rfl))) (mvT hZ (hw _ (List.mem_of_getElem? (i := 3) rfl))) (by decide) (backOf (W := 0) (rm1_3 l Z a0 hw [] s4 s5 s6 s7 T63.heap n0 Z68 ) hZ (hw _ (List.mem_of_getElem? (i := 3) rfl)) (hw _ (List.mem_of_getElem? (i := 2) rfl)) (by decide) (by decide)) (g := (mkF m 91 #[.val (.int p0), .val (.long q1), .second, .val (.long q2), .second, .val (.int (3 : Int32)), .val (.int s0), .val (.int s1), .val (.int s2), .val (.int s3), .val (.int s4), .val (.int s5), .val (.int s6), .val (.int s7), .val (.ref b64), .unset, .unset, .unset] [(.int s7), (.int s6), (.int s5), (.int s4), (.int (3 : Int32))])) rfl (by rw [hml]; rfl) (argsL := [(.int (3 : Int32)), (.int s4), (.int s5), (.int s6), (.int s7)]) (rest := []) (lenOf pd_0 rfl) rfl (by show 2 * 0 + _ ≤ _; exact Nat.le_of_eq rfl) (hb hby at_91) (fun _ _ => ⟨rfl, rfl, (by decide : 1 + 1 ≤ _), (by decide : 3 + 3 ≤ _)⟩)
    dsimp only [Pt.U, Pt.locs, Pt.cells, Pt.slots] at X69 l69 y69 z69 st69 hQ69
    subst l69 y69 z69
    obtain ⟨b70, kk71, rfl, N69q, R72, R73⟩ := hQ69
    have N69 := Fr.app N63 N69q
    have F74 : Arv Z T69.heap b64 kk65 .double (3 : Int32) [(.double (FP.l2d s0.toInt64)), (.double (FP.l2d s1.toInt64)), (.double (FP.l2d s2.toInt64))] (.double (FP.l2d 0)) := R67.keep R72 nin0
    have Z75 : n0 ≤ T69.heap.size := Nat.le_trans Z68 R72.1
    have hp76 : own_sm 32768 s0.toInt64 := hb0
    have hp77 : own_sm 32768 s1.toInt64 := hb1
    have hp78 : own_sm 32768 s2.toInt64 := hb2
    have hp79 : own_sm 32768 s4.toInt64 := hb4
    have hp80 : own_sm 32768 s5.toInt64 := hb5
    have hp81 : own_sm 32768 s6.toInt64 := hb6
    obtain ⟨_, _, ⟨T82, L82, k82, n82⟩, -, X82, ⟨Lc82, hQ82, l82, y82, z82⟩, st82⟩ := Jvm.LawKit.callS X69 hx (y := (⟨"com/example/prudent_feedback/prudentfeedback/coefficient/LogisticFit", "dot", "([D[D)D"⟩ : MethodName)) hown (mvT hZ (hw _ (List.mem_of_getElem? (i := 5) rfl))) (mvT hZ (hw _ (List.mem_of_getElem? (i := 6) rfl))) (mvT hZ (hw _ (List.mem_of_getElem? (i := 7) rfl))) (mvT hZ (hw _ (List.mem_of_getElem? (i := 8) rfl))) (by decide) (backOf (W := 0) (rm2_3 l Z a0 hw [] b64 b70 kk65 kk71 s0.toInt64 s1.toInt64 s2.toInt64 s4.toInt64 s5.toInt64 s6.toInt64 T69.heap n0 Z75 F74 R73 hp76 hp77 hp78 hp79 hp80 hp81) hZ (hw _ (List.mem_of_getElem? (i := 8) rfl)) (hw _ (List.mem_of_getElem? (i := 7) rfl)) (by decide) (by decide)) (g := (mkF m 174 #[.val (.int p0), .val (.long q1), .second, .val (.long q2), .second, .val (.int (3 : Int32)), .val (.int s0), .val (.int s1), .val (.int s2), .val (.int s3), .val (.int s4), .val (.int s5), .val (.int s6), .val (.int s7), .val (.ref b64), .val (.ref b70), .val (.long ((((0 : Int64) + ((s0.toInt64) * (s4.toInt64))) + ((s1.toInt64) * (s5.toInt64))) + ((s2.toInt64) * (s6.toInt64)))), .second] [(.ref b70), (.ref b64)])) rfl (by rw [hml]; rfl) (argsL := [(.ref b64), (.ref b70)]) (rest := []) (lenOf pd_1 rfl) rfl (by show 2 * 0 + _ ≤ _; exact Nat.le_of_eq rfl) (hb hby at_174) (fun _ _ => ⟨rfl, rfl, (by decide : 2 + 0 ≤ _), (by decide : 6 + 0 ≤ _)⟩)
    dsimp only [Pt.U, Pt.locs, Pt.cells, Pt.slots] at X82 l82 y82 z82 st82 hQ82
    subst l82 y82 z82
    obtain ⟨rfl, N82q, R83⟩ := hQ82
    have N82 := Fr.app N69 N82q
    obtain ⟨fs, hr, hrun, hended, hW, hsame⟩ := X82.leave (v := some (.int (1 : Int32))) (fun h => by rw [Bd.returns] at h; cases h)
    refine ⟨_, _, P11 _ ?_, hrun, hended, _, _, rfl, ?_, ⟨_, rfl⟩, hW, hsame.mono (by decide) (by decide)⟩
    · show Steps p.tables e below (s₁.setTop (mkF m 66 #[.val (.int p0), .val (.long q1), .second, .val (.long q2), .second, .val (.int (3 : Int32)), .val (.int s0), .val (.int s1), .val (.int s2), .val (.int s3), .val (.int s4), .val (.int s5), .val (.int s6), .val (.int s7), .unset, .unset, .unset, .unset] [])) _
      refine XS.iload X0.here hx rfl (hb hby at_66) rfl ?_
      show Steps p.tables e below (s₁.setTop (mkF m 68 #[.val (.int p0), .val (.long q1), .second, .val (.long q2), .second, .val (.int (3 : Int32)), .val (.int s0), .val (.int s1), .val (.int s2), .val (.int s3), .val (.int s4), .val (.int s5), .val (.int s6), .val (.int s7), .unset, .unset, .unset, .unset] [(.int (3 : Int32))])) _
      refine XS.iload X0.here hx rfl (hb hby at_68) rfl ?_
      show Steps p.tables e below (s₁.setTop (mkF m 70 #[.val (.int p0), .val (.long q1), .second, .val (.long q2), .second, .val (.int (3 : Int32)), .val (.int s0), .val (.int s1), .val (.int s2), .val (.int s3), .val (.int s4), .val (.int s5), .val (.int s6), .val (.int s7), .unset, .unset, .unset, .unset] [(.int s0), (.int (3 : Int32))])) _
      refine XS.iload X0.here hx rfl (hb hby at_70) rfl ?_
      show Steps p.tables e below (s₁.setTop (mkF m 72 #[.val (.int p0), .val (.long q1), .second, .val (.long q2), .second, .val (.int (3 : Int32)), .val (.int s0), .val (.int s1), .val (.int s2), .val (.int s3), .val (.int s4), .val (.int s5), .val (.int s6), .val (.int s7), .unset, .unset, .unset, .unset] [(.int s1), (.int s0), (.int (3 : Int32))])) _
      refine XS.iload X0.here hx rfl (hb hby at_72) rfl ?_
      show Steps p.tables e below (s₁.setTop (mkF m 74 #[.val (.int p0), .val (.long q1), .second, .val (.long q2), .second, .val (.int (3 : Int32)), .val (.int s0), .val (.int s1), .val (.int s2), .val (.int s3), .val (.int s4), .val (.int s5), .val (.int s6), .val (.int s7), .unset, .unset, .unset, .unset] [(.int s2), (.int s1), (.int s0), (.int (3 : Int32))])) _
      refine XS.iload X0.here hx rfl (hb hby at_74) rfl ?_
      show Steps p.tables e below (s₁.setTop (mkF m 76 #[.val (.int p0), .val (.long q1), .second, .val (.long q2), .second, .val (.int (3 : Int32)), .val (.int s0), .val (.int s1), .val (.int s2), .val (.int s3), .val (.int s4), .val (.int s5), .val (.int s6), .val (.int s7), .unset, .unset, .unset, .unset] [(.int s3), (.int s2), (.int s1), (.int s0), (.int (3 : Int32))])) _
      refine st63 _ ?_
      show Steps p.tables e below (T63.setTop (mkF m 79 #[.val (.int p0), .val (.long q1), .second, .val (.long q2), .second, .val (.int (3 : Int32)), .val (.int s0), .val (.int s1), .val (.int s2), .val (.int s3), .val (.int s4), .val (.int s5), .val (.int s6), .val (.int s7), .unset, .unset, .unset, .unset] [(.ref b64)])) _
      refine XS.astore X63.here hx rfl (hb hby at_79) rfl rfl (l' := #[.val (.int p0), .val (.long q1), .second, .val (.long q2), .second, .val (.int (3 : Int32)), .val (.int s0), .val (.int s1), .val (.int s2), .val (.int s3), .val (.int s4), .val (.int s5), .val (.int s6), .val (.int s7), .val (.ref b64), .unset, .unset, .unset]) rfl ?_
      show Steps p.tables e below (T63.setTop (mkF m 81 #[.val (.int p0), .val (.long q1), .second, .val (.long q2), .second, .val (.int (3 : Int32)), .val (.int s0), .val (.int s1), .val (.int s2), .val (.int s3), .val (.int s4), .val (.int s5), .val (.int s6), .val (.int s7), .val (.ref b64), .unset, .unset, .unset] [])) _
      refine XS.iload X63.here hx rfl (hb hby at_81) rfl ?_
      show Steps p.tables e below (T63.setTop (mkF m 83 #[.val (.int p0), .val (.long q1), .second, .val (.long q2), .second, .val (.int (3 : Int32)), .val (.int s0), .val (.int s1), .val (.int s2), .val (.int s3), .val (.int s4), .val (.int s5), .val (.int s6), .val (.int s7), .val (.ref b64), .unset, .unset, .unset] [(.int (3 : Int32))])) _
      refine XS.iload X63.here hx rfl (hb hby at_83) rfl ?_
      show Steps p.tables e below (T63.setTop (mkF m 85 #[.val (.int p0), .val (.long q1), .second, .val (.long q2), .second, .val (.int (3 : Int32)), .val (.int s0), .val (.int s1), .val (.int s2), .val (.int s3), .val (.int s4), .val (.int s5), .val (.int s6), .val (.int s7), .val (.ref b64), .unset, .unset, .unset] [(.int s4), (.int (3 : Int32))])) _
      refine XS.iload X63.here hx rfl (hb hby at_85) rfl ?_
      show Steps p.tables e below (T63.setTop (mkF m 87 #[.val (.int p0), .val (.long q1), .second, .val (.long q2), .second, .val (.int (3 : Int32)), .val (.int s0), .val (.int s1), .val (.int s2), .val (.int s3), .val (.int s4), .val (.int s5), .val (.int s6), .val (.int s7), .val (.ref b64), .unset, .unset, .unset] [(.int s5), (.int s4), (.int (3 : Int32))])) _
      refine XS.iload X63.here hx rfl (hb hby at_87) rfl ?_
      show Steps p.tables e below (T63.setTop (mkF m 89 #[.val (.int p0), .val (.long q1), .second, .val (.long q2), .second, .val (.int (3 : Int32)), .val (.int s0), .val (.int s1), .val (.int s2), .val (.int s3), .val (.int s4), .val (.int s5), .val (.int s6), .val (.int s7), .val (.ref b64), .unset, .unset, .unset] [(.int s6), (.int s5), (.int s4), (.int (3 : Int32))])) _
      refine XS.iload X63.here hx rfl (hb hby at_89) rfl ?_
      show Steps p.tables e below (T63.setTop (mkF m 91 #[.val (.int p0), .val (.long q1), .second, .val (.long q2), .second, .val (.int (3 : Int32)), .val (.int s0), .val (.int s1), .val (.int s2), .val (.int s3), .val (.int s4), .val (.int s5), .val (.int s6), .val (.int s7), .val (.ref b64), .unset, .unset, .unset] [(.int s7), (.int s6), (.int s5), (.int s4), (.int (3 : Int32))])) _
      refine st69 _ ?_
      show Steps p.tables e below (T69.setTop (mkF m 94 #[.val (.int p0), .val (.long q1), .second, .val (.long q2), .second, .val (.int (3 : Int32)), .val (.int s0), .val (.int s1), .val (.int s2), .val (.int s3), .val (.int s4), .val (.int s5), .val (.int s6), .val (.int s7), .val (.ref b64), .unset, .unset, .unset] [(.ref b70)])) _
      refine XS.astore X69.here hx rfl (hb hby at_94) rfl rfl (l' := #[.val (.int p0), .val (.long q1), .second, .val (.long q2), .second, .val (.int (3 : Int32)), .val (.int s0), .val (.int s1), .val (.int s2), .val (.int s3), .val (.int s4), .val (.int s5), .val (.int s6), .val (.int s7), .val (.ref b64), .val (.ref b70), .unset, .unset]) rfl ?_
      show Steps p.tables e below (T69.setTop (mkF m 96 #[.val (.int p0), .val (.long q1), .second, .val (.long q2), .second, .val (.int (3 : Int32)), .val (.int s0), .val (.int s1), .val (.int s2), .val (.int s3), .val (.int s4), .val (.int s5), .val (.int s6), .val (.int s7), .val (.ref b64), .val (.ref b70), .unset, .unset] [])) _
      refine XS.lconst X69.here hx rfl (hb hby at_96) ?_
      show Steps p.tables e below (T69.setTop (mkF m 97 #[.val (.int p0), .val (.long q1), .second, .val (.long q2), .second, .val (.int (3 : Int32)), .val (.int s0), .val (.int s1), .val (.int s2), .val (.int s3), .val (.int s4), .val (.int s5), .val (.int s6), .val (.int s7), .val (.ref b64), .val (.ref b70), .unset, .unset] [(.long (0 : Int64))])) _
      refine XS.lstore X69.here hx rfl (hb hby at_97) rfl (l' := #[.val (.int p0), .val (.long q1), .second, .val (.long q2), .second, .val (.int (3 : Int32)), .val (.int s0), .val (.int s1), .val (.int s2), .val (.int s3), .val (.int s4), .val (.int s5), .val (.int s6), .val (.int s7), .val (.ref b64), .val (.ref b70), .val (.long (0 : Int64)), .second]) rfl ?_
      show Steps p.tables e below (T69.setTop (mkF m 99 #[.val (.int p0), .val (.long q1), .second, .val (.long q2), .second, .val (.int (3 : Int32)), .val (.int s0), .val (.int s1), .val (.int s2), .val (.int s3), .val (.int s4), .val (.int s5), .val (.int s6), .val (.int s7), .val (.ref b64), .val (.ref b70), .val (.long (0 : Int64)), .second] [])) _
      refine XS.iload X69.here hx rfl (hb hby at_99) rfl ?_
      show Steps p.tables e below (T69.setTop (mkF m 101 #[.val (.int p0), .val (.long q1), .second, .val (.long q2), .second, .val (.int (3 : Int32)), .val (.int s0), .val (.int s1), .val (.int s2), .val (.int s3), .val (.int s4), .val (.int s5), .val (.int s6), .val (.int s7), .val (.ref b64), .val (.ref b70), .val (.long (0 : Int64)), .second] [(.int (3 : Int32))])) _
      refine XS.ifNo X69.here hx rfl (hb hby at_101) rfl ((if0 _ _).trans (tlt (by decide : (0 : Int32) < (3 : Int32))).2.2.2) ?_
      show Steps p.tables e below (T69.setTop (mkF m 104 #[.val (.int p0), .val (.long q1), .second, .val (.long q2), .second, .val (.int (3 : Int32)), .val (.int s0), .val (.int s1), .val (.int s2), .val (.int s3), .val (.int s4), .val (.int s5), .val (.int s6), .val (.int s7), .val (.ref b64), .val (.ref b70), .val (.long (0 : Int64)), .second] [])) _
      refine XS.lload X69.here hx rfl (hb hby at_104) rfl ?_
      show Steps p.tables e below (T69.setTop (mkF m 106 #[.val (.int p0), .val (.long q1), .second, .val (.long q2), .second, .val (.int (3 : Int32)), .val (.int s0), .val (.int s1), .val (.int s2), .val (.int s3), .val (.int s4), .val (.int s5), .val (.int s6), .val (.int s7), .val (.ref b64), .val (.ref b70), .val (.long (0 : Int64)), .second] [(.long (0 : Int64))])) _
      refine XS.iload X69.here hx rfl (hb hby at_106) rfl ?_
      show Steps p.tables e below (T69.setTop (mkF m 108 #[.val (.int p0), .val (.long q1), .second, .val (.long q2), .second, .val (.int (3 : Int32)), .val (.int s0), .val (.int s1), .val (.int s2), .val (.int s3), .val (.int s4), .val (.int s5), .val (.int s6), .val (.int s7), .val (.ref b64), .val (.ref b70), .val (.long (0 : Int64)), .second] [(.int s0), (.long (0 : Int64))])) _
      refine XS.i2l X69.here hx rfl (hb hby at_108) rfl ?_
      show Steps p.tables e below (T69.setTop (mkF m 109 #[.val (.int p0), .val (.long q1), .second, .val (.long q2), .second, .val (.int (3 : Int32)), .val (.int s0), .val (.int s1), .val (.int s2), .val (.int s3), .val (.int s4), .val (.int s5), .val (.int s6), .val (.int s7), .val (.ref b64), .val (.ref b70), .val (.long (0 : Int64)), .second] [(.long (s0.toInt64)), (.long (0 : Int64))])) _
      refine XS.iload X69.here hx rfl (hb hby at_109) rfl ?_
      show Steps p.tables e below (T69.setTop (mkF m 111 #[.val (.int p0), .val (.long q1), .second, .val (.long q2), .second, .val (.int (3 : Int32)), .val (.int s0), .val (.int s1), .val (.int s2), .val (.int s3), .val (.int s4), .val (.int s5), .val (.int s6), .val (.int s7), .val (.ref b64), .val (.ref b70), .val (.long (0 : Int64)), .second] [(.int s4), (.long (s0.toInt64)), (.long (0 : Int64))])) _
      refine XS.i2l X69.here hx rfl (hb hby at_111) rfl ?_
      show Steps p.tables e below (T69.setTop (mkF m 112 #[.val (.int p0), .val (.long q1), .second, .val (.long q2), .second, .val (.int (3 : Int32)), .val (.int s0), .val (.int s1), .val (.int s2), .val (.int s3), .val (.int s4), .val (.int s5), .val (.int s6), .val (.int s7), .val (.ref b64), .val (.ref b70), .val (.long (0 : Int64)), .second] [(.long (s4.toInt64)), (.long (s0.toInt64)), (.long (0 : Int64))])) _
      refine XS.lmul X69.here hx rfl (hb hby at_112) rfl ?_
      show Steps p.tables e below (T69.setTop (mkF m 113 #[.val (.int p0), .val (.long q1), .second, .val (.long q2), .second, .val (.int (3 : Int32)), .val (.int s0), .val (.int s1), .val (.int s2), .val (.int s3), .val (.int s4), .val (.int s5), .val (.int s6), .val (.int s7), .val (.ref b64), .val (.ref b70), .val (.long (0 : Int64)), .second] [(.long ((s0.toInt64) * (s4.toInt64))), (.long (0 : Int64))])) _
      refine XS.ladd X69.here hx rfl (hb hby at_113) rfl ?_
      show Steps p.tables e below (T69.setTop (mkF m 114 #[.val (.int p0), .val (.long q1), .second, .val (.long q2), .second, .val (.int (3 : Int32)), .val (.int s0), .val (.int s1), .val (.int s2), .val (.int s3), .val (.int s4), .val (.int s5), .val (.int s6), .val (.int s7), .val (.ref b64), .val (.ref b70), .val (.long (0 : Int64)), .second] [(.long ((0 : Int64) + ((s0.toInt64) * (s4.toInt64))))])) _
      refine XS.lstore X69.here hx rfl (hb hby at_114) rfl (l' := #[.val (.int p0), .val (.long q1), .second, .val (.long q2), .second, .val (.int (3 : Int32)), .val (.int s0), .val (.int s1), .val (.int s2), .val (.int s3), .val (.int s4), .val (.int s5), .val (.int s6), .val (.int s7), .val (.ref b64), .val (.ref b70), .val (.long ((0 : Int64) + ((s0.toInt64) * (s4.toInt64)))), .second]) rfl ?_
      show Steps p.tables e below (T69.setTop (mkF m 116 #[.val (.int p0), .val (.long q1), .second, .val (.long q2), .second, .val (.int (3 : Int32)), .val (.int s0), .val (.int s1), .val (.int s2), .val (.int s3), .val (.int s4), .val (.int s5), .val (.int s6), .val (.int s7), .val (.ref b64), .val (.ref b70), .val (.long ((0 : Int64) + ((s0.toInt64) * (s4.toInt64)))), .second] [])) _
      refine XS.iload X69.here hx rfl (hb hby at_116) rfl ?_
      show Steps p.tables e below (T69.setTop (mkF m 118 #[.val (.int p0), .val (.long q1), .second, .val (.long q2), .second, .val (.int (3 : Int32)), .val (.int s0), .val (.int s1), .val (.int s2), .val (.int s3), .val (.int s4), .val (.int s5), .val (.int s6), .val (.int s7), .val (.ref b64), .val (.ref b70), .val (.long ((0 : Int64) + ((s0.toInt64) * (s4.toInt64)))), .second] [(.int (3 : Int32))])) _
      refine XS.iconst X69.here hx rfl (hb hby at_118) ?_
      show Steps p.tables e below (T69.setTop (mkF m 119 #[.val (.int p0), .val (.long q1), .second, .val (.long q2), .second, .val (.int (3 : Int32)), .val (.int s0), .val (.int s1), .val (.int s2), .val (.int s3), .val (.int s4), .val (.int s5), .val (.int s6), .val (.int s7), .val (.ref b64), .val (.ref b70), .val (.long ((0 : Int64) + ((s0.toInt64) * (s4.toInt64)))), .second] [(.int (1 : Int32)), (.int (3 : Int32))])) _
      refine XS.icmpNo X69.here hx rfl (hb hby at_119) rfl (tlt (by decide : (1 : Int32) < (3 : Int32))).2.2.2 ?_
      show Steps p.tables e below (T69.setTop (mkF m 122 #[.val (.int p0), .val (.long q1), .second, .val (.long q2), .second, .val (.int (3 : Int32)), .val (.int s0), .val (.int s1), .val (.int s2), .val (.int s3), .val (.int s4), .val (.int s5), .val (.int s6), .val (.int s7), .val (.ref b64), .val (.ref b70), .val (.long ((0 : Int64) + ((s0.toInt64) * (s4.toInt64)))), .second] [])) _
      refine XS.lload X69.here hx rfl (hb hby at_122) rfl ?_
      show Steps p.tables e below (T69.setTop (mkF m 124 #[.val (.int p0), .val (.long q1), .second, .val (.long q2), .second, .val (.int (3 : Int32)), .val (.int s0), .val (.int s1), .val (.int s2), .val (.int s3), .val (.int s4), .val (.int s5), .val (.int s6), .val (.int s7), .val (.ref b64), .val (.ref b70), .val (.long ((0 : Int64) + ((s0.toInt64) * (s4.toInt64)))), .second] [(.long ((0 : Int64) + ((s0.toInt64) * (s4.toInt64))))])) _
      refine XS.iload X69.here hx rfl (hb hby at_124) rfl ?_
      show Steps p.tables e below (T69.setTop (mkF m 126 #[.val (.int p0), .val (.long q1), .second, .val (.long q2), .second, .val (.int (3 : Int32)), .val (.int s0), .val (.int s1), .val (.int s2), .val (.int s3), .val (.int s4), .val (.int s5), .val (.int s6), .val (.int s7), .val (.ref b64), .val (.ref b70), .val (.long ((0 : Int64) + ((s0.toInt64) * (s4.toInt64)))), .second] [(.int s1), (.long ((0 : Int64) + ((s0.toInt64) * (s4.toInt64))))])) _
      refine XS.i2l X69.here hx rfl (hb hby at_126) rfl ?_
      show Steps p.tables e below (T69.setTop (mkF m 127 #[.val (.int p0), .val (.long q1), .second, .val (.long q2), .second, .val (.int (3 : Int32)), .val (.int s0), .val (.int s1), .val (.int s2), .val (.int s3), .val (.int s4), .val (.int s5), .val (.int s6), .val (.int s7), .val (.ref b64), .val (.ref b70), .val (.long ((0 : Int64) + ((s0.toInt64) * (s4.toInt64)))), .second] [(.long (s1.toInt64)), (.long ((0 : Int64) + ((s0.toInt64) * (s4.toInt64))))])) _
      refine XS.iload X69.here hx rfl (hb hby at_127) rfl ?_
      show Steps p.tables e below (T69.setTop (mkF m 129 #[.val (.int p0), .val (.long q1), .second, .val (.long q2), .second, .val (.int (3 : Int32)), .val (.int s0), .val (.int s1), .val (.int s2), .val (.int s3), .val (.int s4), .val (.int s5), .val (.int s6), .val (.int s7), .val (.ref b64), .val (.ref b70), .val (.long ((0 : Int64) + ((s0.toInt64) * (s4.toInt64)))), .second] [(.int s5), (.long (s1.toInt64)), (.long ((0 : Int64) + ((s0.toInt64) * (s4.toInt64))))])) _
      refine XS.i2l X69.here hx rfl (hb hby at_129) rfl ?_
      show Steps p.tables e below (T69.setTop (mkF m 130 #[.val (.int p0), .val (.long q1), .second, .val (.long q2), .second, .val (.int (3 : Int32)), .val (.int s0), .val (.int s1), .val (.int s2), .val (.int s3), .val (.int s4), .val (.int s5), .val (.int s6), .val (.int s7), .val (.ref b64), .val (.ref b70), .val (.long ((0 : Int64) + ((s0.toInt64) * (s4.toInt64)))), .second] [(.long (s5.toInt64)), (.long (s1.toInt64)), (.long ((0 : Int64) + ((s0.toInt64) * (s4.toInt64))))])) _
      refine XS.lmul X69.here hx rfl (hb hby at_130) rfl ?_
      show Steps p.tables e below (T69.setTop (mkF m 131 #[.val (.int p0), .val (.long q1), .second, .val (.long q2), .second, .val (.int (3 : Int32)), .val (.int s0), .val (.int s1), .val (.int s2), .val (.int s3), .val (.int s4), .val (.int s5), .val (.int s6), .val (.int s7), .val (.ref b64), .val (.ref b70), .val (.long ((0 : Int64) + ((s0.toInt64) * (s4.toInt64)))), .second] [(.long ((s1.toInt64) * (s5.toInt64))), (.long ((0 : Int64) + ((s0.toInt64) * (s4.toInt64))))])) _
      refine XS.ladd X69.here hx rfl (hb hby at_131) rfl ?_
      show Steps p.tables e below (T69.setTop (mkF m 132 #[.val (.int p0), .val (.long q1), .second, .val (.long q2), .second, .val (.int (3 : Int32)), .val (.int s0), .val (.int s1), .val (.int s2), .val (.int s3), .val (.int s4), .val (.int s5), .val (.int s6), .val (.int s7), .val (.ref b64), .val (.ref b70), .val (.long ((0 : Int64) + ((s0.toInt64) * (s4.toInt64)))), .second] [(.long (((0 : Int64) + ((s0.toInt64) * (s4.toInt64))) + ((s1.toInt64) * (s5.toInt64))))])) _
      refine XS.lstore X69.here hx rfl (hb hby at_132) rfl (l' := #[.val (.int p0), .val (.long q1), .second, .val (.long q2), .second, .val (.int (3 : Int32)), .val (.int s0), .val (.int s1), .val (.int s2), .val (.int s3), .val (.int s4), .val (.int s5), .val (.int s6), .val (.int s7), .val (.ref b64), .val (.ref b70), .val (.long (((0 : Int64) + ((s0.toInt64) * (s4.toInt64))) + ((s1.toInt64) * (s5.toInt64)))), .second]) rfl ?_
      show Steps p.tables e below (T69.setTop (mkF m 134 #[.val (.int p0), .val (.long q1), .second, .val (.long q2), .second, .val (.int (3 : Int32)), .val (.int s0), .val (.int s1), .val (.int s2), .val (.int s3), .val (.int s4), .val (.int s5), .val (.int s6), .val (.int s7), .val (.ref b64), .val (.ref b70), .val (.long (((0 : Int64) + ((s0.toInt64) * (s4.toInt64))) + ((s1.toInt64) * (s5.toInt64)))), .second] [])) _
      refine XS.iload X69.here hx rfl (hb hby at_134) rfl ?_
      show Steps p.tables e below (T69.setTop (mkF m 136 #[.val (.int p0), .val (.long q1), .second, .val (.long q2), .second, .val (.int (3 : Int32)), .val (.int s0), .val (.int s1), .val (.int s2), .val (.int s3), .val (.int s4), .val (.int s5), .val (.int s6), .val (.int s7), .val (.ref b64), .val (.ref b70), .val (.long (((0 : Int64) + ((s0.toInt64) * (s4.toInt64))) + ((s1.toInt64) * (s5.toInt64)))), .second] [(.int (3 : Int32))])) _
      refine XS.iconst X69.here hx rfl (hb hby at_136) ?_
      show Steps p.tables e below (T69.setTop (mkF m 137 #[.val (.int p0), .val (.long q1), .second, .val (.long q2), .second, .val (.int (3 : Int32)), .val (.int s0), .val (.int s1), .val (.int s2), .val (.int s3), .val (.int s4), .val (.int s5), .val (.int s6), .val (.int s7), .val (.ref b64), .val (.ref b70), .val (.long (((0 : Int64) + ((s0.toInt64) * (s4.toInt64))) + ((s1.toInt64) * (s5.toInt64)))), .second] [(.int (2 : Int32)), (.int (3 : Int32))])) _
      refine XS.icmpNo X69.here hx rfl (hb hby at_137) rfl (tlt (by decide : (2 : Int32) < (3 : Int32))).2.2.2 ?_
      show Steps p.tables e below (T69.setTop (mkF m 140 #[.val (.int p0), .val (.long q1), .second, .val (.long q2), .second, .val (.int (3 : Int32)), .val (.int s0), .val (.int s1), .val (.int s2), .val (.int s3), .val (.int s4), .val (.int s5), .val (.int s6), .val (.int s7), .val (.ref b64), .val (.ref b70), .val (.long (((0 : Int64) + ((s0.toInt64) * (s4.toInt64))) + ((s1.toInt64) * (s5.toInt64)))), .second] [])) _
      refine XS.lload X69.here hx rfl (hb hby at_140) rfl ?_
      show Steps p.tables e below (T69.setTop (mkF m 142 #[.val (.int p0), .val (.long q1), .second, .val (.long q2), .second, .val (.int (3 : Int32)), .val (.int s0), .val (.int s1), .val (.int s2), .val (.int s3), .val (.int s4), .val (.int s5), .val (.int s6), .val (.int s7), .val (.ref b64), .val (.ref b70), .val (.long (((0 : Int64) + ((s0.toInt64) * (s4.toInt64))) + ((s1.toInt64) * (s5.toInt64)))), .second] [(.long (((0 : Int64) + ((s0.toInt64) * (s4.toInt64))) + ((s1.toInt64) * (s5.toInt64))))])) _
      refine XS.iload X69.here hx rfl (hb hby at_142) rfl ?_
      show Steps p.tables e below (T69.setTop (mkF m 144 #[.val (.int p0), .val (.long q1), .second, .val (.long q2), .second, .val (.int (3 : Int32)), .val (.int s0), .val (.int s1), .val (.int s2), .val (.int s3), .val (.int s4), .val (.int s5), .val (.int s6), .val (.int s7), .val (.ref b64), .val (.ref b70), .val (.long (((0 : Int64) + ((s0.toInt64) * (s4.toInt64))) + ((s1.toInt64) * (s5.toInt64)))), .second] [(.int s2), (.long (((0 : Int64) + ((s0.toInt64) * (s4.toInt64))) + ((s1.toInt64) * (s5.toInt64))))])) _
      refine XS.i2l X69.here hx rfl (hb hby at_144) rfl ?_
      show Steps p.tables e below (T69.setTop (mkF m 145 #[.val (.int p0), .val (.long q1), .second, .val (.long q2), .second, .val (.int (3 : Int32)), .val (.int s0), .val (.int s1), .val (.int s2), .val (.int s3), .val (.int s4), .val (.int s5), .val (.int s6), .val (.int s7), .val (.ref b64), .val (.ref b70), .val (.long (((0 : Int64) + ((s0.toInt64) * (s4.toInt64))) + ((s1.toInt64) * (s5.toInt64)))), .second] [(.long (s2.toInt64)), (.long (((0 : Int64) + ((s0.toInt64) * (s4.toInt64))) + ((s1.toInt64) * (s5.toInt64))))])) _
      refine XS.iload X69.here hx rfl (hb hby at_145) rfl ?_
      show Steps p.tables e below (T69.setTop (mkF m 147 #[.val (.int p0), .val (.long q1), .second, .val (.long q2), .second, .val (.int (3 : Int32)), .val (.int s0), .val (.int s1), .val (.int s2), .val (.int s3), .val (.int s4), .val (.int s5), .val (.int s6), .val (.int s7), .val (.ref b64), .val (.ref b70), .val (.long (((0 : Int64) + ((s0.toInt64) * (s4.toInt64))) + ((s1.toInt64) * (s5.toInt64)))), .second] [(.int s6), (.long (s2.toInt64)), (.long (((0 : Int64) + ((s0.toInt64) * (s4.toInt64))) + ((s1.toInt64) * (s5.toInt64))))])) _
      refine XS.i2l X69.here hx rfl (hb hby at_147) rfl ?_
      show Steps p.tables e below (T69.setTop (mkF m 148 #[.val (.int p0), .val (.long q1), .second, .val (.long q2), .second, .val (.int (3 : Int32)), .val (.int s0), .val (.int s1), .val (.int s2), .val (.int s3), .val (.int s4), .val (.int s5), .val (.int s6), .val (.int s7), .val (.ref b64), .val (.ref b70), .val (.long (((0 : Int64) + ((s0.toInt64) * (s4.toInt64))) + ((s1.toInt64) * (s5.toInt64)))), .second] [(.long (s6.toInt64)), (.long (s2.toInt64)), (.long (((0 : Int64) + ((s0.toInt64) * (s4.toInt64))) + ((s1.toInt64) * (s5.toInt64))))])) _
      refine XS.lmul X69.here hx rfl (hb hby at_148) rfl ?_
      show Steps p.tables e below (T69.setTop (mkF m 149 #[.val (.int p0), .val (.long q1), .second, .val (.long q2), .second, .val (.int (3 : Int32)), .val (.int s0), .val (.int s1), .val (.int s2), .val (.int s3), .val (.int s4), .val (.int s5), .val (.int s6), .val (.int s7), .val (.ref b64), .val (.ref b70), .val (.long (((0 : Int64) + ((s0.toInt64) * (s4.toInt64))) + ((s1.toInt64) * (s5.toInt64)))), .second] [(.long ((s2.toInt64) * (s6.toInt64))), (.long (((0 : Int64) + ((s0.toInt64) * (s4.toInt64))) + ((s1.toInt64) * (s5.toInt64))))])) _
      refine XS.ladd X69.here hx rfl (hb hby at_149) rfl ?_
      show Steps p.tables e below (T69.setTop (mkF m 150 #[.val (.int p0), .val (.long q1), .second, .val (.long q2), .second, .val (.int (3 : Int32)), .val (.int s0), .val (.int s1), .val (.int s2), .val (.int s3), .val (.int s4), .val (.int s5), .val (.int s6), .val (.int s7), .val (.ref b64), .val (.ref b70), .val (.long (((0 : Int64) + ((s0.toInt64) * (s4.toInt64))) + ((s1.toInt64) * (s5.toInt64)))), .second] [(.long ((((0 : Int64) + ((s0.toInt64) * (s4.toInt64))) + ((s1.toInt64) * (s5.toInt64))) + ((s2.toInt64) * (s6.toInt64))))])) _
      refine XS.lstore X69.here hx rfl (hb hby at_150) rfl (l' := #[.val (.int p0), .val (.long q1), .second, .val (.long q2), .second, .val (.int (3 : Int32)), .val (.int s0), .val (.int s1), .val (.int s2), .val (.int s3), .val (.int s4), .val (.int s5), .val (.int s6), .val (.int s7), .val (.ref b64), .val (.ref b70), .val (.long ((((0 : Int64) + ((s0.toInt64) * (s4.toInt64))) + ((s1.toInt64) * (s5.toInt64))) + ((s2.toInt64) * (s6.toInt64)))), .second]) rfl ?_
      show Steps p.tables e below (T69.setTop (mkF m 152 #[.val (.int p0), .val (.long q1), .second, .val (.long q2), .second, .val (.int (3 : Int32)), .val (.int s0), .val (.int s1), .val (.int s2), .val (.int s3), .val (.int s4), .val (.int s5), .val (.int s6), .val (.int s7), .val (.ref b64), .val (.ref b70), .val (.long ((((0 : Int64) + ((s0.toInt64) * (s4.toInt64))) + ((s1.toInt64) * (s5.toInt64))) + ((s2.toInt64) * (s6.toInt64)))), .second] [])) _
      refine XS.iload X69.here hx rfl (hb hby at_152) rfl ?_
      show Steps p.tables e below (T69.setTop (mkF m 154 #[.val (.int p0), .val (.long q1), .second, .val (.long q2), .second, .val (.int (3 : Int32)), .val (.int s0), .val (.int s1), .val (.int s2), .val (.int s3), .val (.int s4), .val (.int s5), .val (.int s6), .val (.int s7), .val (.ref b64), .val (.ref b70), .val (.long ((((0 : Int64) + ((s0.toInt64) * (s4.toInt64))) + ((s1.toInt64) * (s5.toInt64))) + ((s2.toInt64) * (s6.toInt64)))), .second] [(.int (3 : Int32))])) _
      refine XS.iconst X69.here hx rfl (hb hby at_154) ?_
      show Steps p.tables e below (T69.setTop (mkF m 155 #[.val (.int p0), .val (.long q1), .second, .val (.long q2), .second, .val (.int (3 : Int32)), .val (.int s0), .val (.int s1), .val (.int s2), .val (.int s3), .val (.int s4), .val (.int s5), .val (.int s6), .val (.int s7), .val (.ref b64), .val (.ref b70), .val (.long ((((0 : Int64) + ((s0.toInt64) * (s4.toInt64))) + ((s1.toInt64) * (s5.toInt64))) + ((s2.toInt64) * (s6.toInt64)))), .second] [(.int (3 : Int32)), (.int (3 : Int32))])) _
      refine XS.icmpYes X69.here hx rfl (pc0 := 155) (pc' := 170) rfl (hb hby at_155) rfl (flt (by decide : ¬ ((3 : Int32) < (3 : Int32)))).2.2.2 (by decide) (by decide) ?_
      show Steps p.tables e below (T69.setTop (mkF m 170 #[.val (.int p0), .val (.long q1), .second, .val (.long q2), .second, .val (.int (3 : Int32)), .val (.int s0), .val (.int s1), .val (.int s2), .val (.int s3), .val (.int s4), .val (.int s5), .val (.int s6), .val (.int s7), .val (.ref b64), .val (.ref b70), .val (.long ((((0 : Int64) + ((s0.toInt64) * (s4.toInt64))) + ((s1.toInt64) * (s5.toInt64))) + ((s2.toInt64) * (s6.toInt64)))), .second] [])) _
      refine XS.aload X69.here hx rfl (hb hby at_170) rfl rfl ?_
      show Steps p.tables e below (T69.setTop (mkF m 172 #[.val (.int p0), .val (.long q1), .second, .val (.long q2), .second, .val (.int (3 : Int32)), .val (.int s0), .val (.int s1), .val (.int s2), .val (.int s3), .val (.int s4), .val (.int s5), .val (.int s6), .val (.int s7), .val (.ref b64), .val (.ref b70), .val (.long ((((0 : Int64) + ((s0.toInt64) * (s4.toInt64))) + ((s1.toInt64) * (s5.toInt64))) + ((s2.toInt64) * (s6.toInt64)))), .second] [(.ref b64)])) _
      refine XS.aload X69.here hx rfl (hb hby at_172) rfl rfl ?_
      show Steps p.tables e below (T69.setTop (mkF m 174 #[.val (.int p0), .val (.long q1), .second, .val (.long q2), .second, .val (.int (3 : Int32)), .val (.int s0), .val (.int s1), .val (.int s2), .val (.int s3), .val (.int s4), .val (.int s5), .val (.int s6), .val (.int s7), .val (.ref b64), .val (.ref b70), .val (.long ((((0 : Int64) + ((s0.toInt64) * (s4.toInt64))) + ((s1.toInt64) * (s5.toInt64))) + ((s2.toInt64) * (s6.toInt64)))), .second] [(.ref b70), (.ref b64)])) _
      refine st82 _ ?_
      show Steps p.tables e below (T82.setTop (mkF m 177 #[.val (.int p0), .val (.long q1), .second, .val (.long q2), .second, .val (.int (3 : Int32)), .val (.int s0), .val (.int s1), .val (.int s2), .val (.int s3), .val (.int s4), .val (.int s5), .val (.int s6), .val (.int s7), .val (.ref b64), .val (.ref b70), .val (.long ((((0 : Int64) + ((s0.toInt64) * (s4.toInt64))) + ((s1.toInt64) * (s5.toInt64))) + ((s2.toInt64) * (s6.toInt64)))), .second] [(.double (FP.l2d ((((0 : Int64) + (s0.toInt64 * s4.toInt64)) + (s1.toInt64 * s5.toInt64)) + (s2.toInt64 * s6.toInt64))))])) _
      refine XS.lload X82.here hx rfl (hb hby at_177) rfl ?_
      show Steps p.tables e below (T82.setTop (mkF m 179 #[.val (.int p0), .val (.long q1), .second, .val (.long q2), .second, .val (.int (3 : Int32)), .val (.int s0), .val (.int s1), .val (.int s2), .val (.int s3), .val (.int s4), .val (.int s5), .val (.int s6), .val (.int s7), .val (.ref b64), .val (.ref b70), .val (.long ((((0 : Int64) + ((s0.toInt64) * (s4.toInt64))) + ((s1.toInt64) * (s5.toInt64))) + ((s2.toInt64) * (s6.toInt64)))), .second] [(.long ((((0 : Int64) + ((s0.toInt64) * (s4.toInt64))) + ((s1.toInt64) * (s5.toInt64))) + ((s2.toInt64) * (s6.toInt64)))), (.double (FP.l2d ((((0 : Int64) + (s0.toInt64 * s4.toInt64)) + (s1.toInt64 * s5.toInt64)) + (s2.toInt64 * s6.toInt64))))])) _
      refine XS.l2dS X82.here hx rfl (hb hby at_179) rfl (v := FP.l2d ((((0 : Int64) + ((s0.toInt64) * (s4.toInt64))) + ((s1.toInt64) * (s5.toInt64))) + ((s2.toInt64) * (s6.toInt64)))) rfl ?_
      show Steps p.tables e below (T82.setTop (mkF m 180 #[.val (.int p0), .val (.long q1), .second, .val (.long q2), .second, .val (.int (3 : Int32)), .val (.int s0), .val (.int s1), .val (.int s2), .val (.int s3), .val (.int s4), .val (.int s5), .val (.int s6), .val (.int s7), .val (.ref b64), .val (.ref b70), .val (.long ((((0 : Int64) + ((s0.toInt64) * (s4.toInt64))) + ((s1.toInt64) * (s5.toInt64))) + ((s2.toInt64) * (s6.toInt64)))), .second] [(.double (FP.l2d ((((0 : Int64) + ((s0.toInt64) * (s4.toInt64))) + ((s1.toInt64) * (s5.toInt64))) + ((s2.toInt64) * (s6.toInt64))))), (.double (FP.l2d ((((0 : Int64) + (s0.toInt64 * s4.toInt64)) + (s1.toInt64 * s5.toInt64)) + (s2.toInt64 * s6.toInt64))))])) _
      refine XS.dcmpS X82.here hx rfl (hb hby at_180) rfl (v := (0 : Int32)) (dcmpV_self (nn_w rfl) _) ?_
      show Steps p.tables e below (T82.setTop (mkF m 181 #[.val (.int p0), .val (.long q1), .second, .val (.long q2), .second, .val (.int (3 : Int32)), .val (.int s0), .val (.int s1), .val (.int s2), .val (.int s3), .val (.int s4), .val (.int s5), .val (.int s6), .val (.int s7), .val (.ref b64), .val (.ref b70), .val (.long ((((0 : Int64) + ((s0.toInt64) * (s4.toInt64))) + ((s1.toInt64) * (s5.toInt64))) + ((s2.toInt64) * (s6.toInt64)))), .second] [(.int (0 : Int32))])) _
      refine XS.ifNo X82.here hx rfl (hb hby at_181) rfl ((if0 _ _).trans (teq (by decide : (0 : Int32) = (0 : Int32))).2) ?_
      show Steps p.tables e below (T82.setTop (mkF m 184 #[.val (.int p0), .val (.long q1), .second, .val (.long q2), .second, .val (.int (3 : Int32)), .val (.int s0), .val (.int s1), .val (.int s2), .val (.int s3), .val (.int s4), .val (.int s5), .val (.int s6), .val (.int s7), .val (.ref b64), .val (.ref b70), .val (.long ((((0 : Int64) + ((s0.toInt64) * (s4.toInt64))) + ((s1.toInt64) * (s5.toInt64))) + ((s2.toInt64) * (s6.toInt64)))), .second] [])) _
      refine XS.iconst X82.here hx rfl (hb hby at_184) ?_
      show Steps p.tables e below (T82.setTop (mkF m 185 #[.val (.int p0), .val (.long q1), .second, .val (.long q2), .second, .val (.int (3 : Int32)), .val (.int s0), .val (.int s1), .val (.int s2), .val (.int s3), .val (.int s4), .val (.int s5), .val (.int s6), .val (.int s7), .val (.ref b64), .val (.ref b70), .val (.long ((((0 : Int64) + ((s0.toInt64) * (s4.toInt64))) + ((s1.toInt64) * (s5.toInt64))) + ((s2.toInt64) * (s6.toInt64)))), .second] [(.int (1 : Int32))])) _
      refine XS.goto X82.here hx rfl (pc0 := 185) (pc' := 189) rfl (hb hby at_185) (by decide) (by decide) ?_
      show Steps p.tables e below (T82.setTop (mkF m 189 #[.val (.int p0), .val (.long q1), .second, .val (.long q2), .second, .val (.int (3 : Int32)), .val (.int s0), .val (.int s1), .val (.int s2), .val (.int s3), .val (.int s4), .val (.int s5), .val (.int s6), .val (.int s7), .val (.ref b64), .val (.ref b70), .val (.long ((((0 : Int64) + ((s0.toInt64) * (s4.toInt64))) + ((s1.toInt64) * (s5.toInt64))) + ((s2.toInt64) * (s6.toInt64)))), .second] [(.int (1 : Int32))])) _
      exact retN X82 hx (t := .boolean) Bd.returns (by simp) (hb hby at_189) hr
    · show Q0 Z p0 q1 q2 h0 n0 _ T82.heap _
      rw [R83]
      exact ⟨rfl, N82⟩
  · obtain ⟨_, _, ⟨T84, L84, k84, n84⟩, -, X84, ⟨Lc84, hQ84, l84, y84, z84⟩, st84⟩ := Jvm.LawKit.callS X0 hx (y := (⟨"com/example/prudent_feedback/prudentfeedback/coefficient/LogisticFitDotPinLaw", "take", "(IIIII)[D"⟩ : MethodName)) hown (mvT hZ (hw _ (List.mem_of_getElem? (i := 0) rfl))) (mvT hZ (hw _ (List.mem_of_getElem? (i := 1) rfl))) (mvT hZ (hw _ (List.mem_of_getElem? (i := 2) rfl))) (mvT hZ (hw _ (List.mem_of_getElem? (i := 3) rfl))) (by decide) (backOf (W := 0) (rm1_4 l Z a0 hw [] s0 s1 s2 s3 h0 n0 Z0 ) hZ (hw _ (List.mem_of_getElem? (i := 3) rfl)) (hw _ (List.mem_of_getElem? (i := 2) rfl)) (by decide) (by decide)) (g := (mkF m 76 #[.val (.int p0), .val (.long q1), .second, .val (.long q2), .second, .val (.int (4 : Int32)), .val (.int s0), .val (.int s1), .val (.int s2), .val (.int s3), .val (.int s4), .val (.int s5), .val (.int s6), .val (.int s7), .unset, .unset, .unset, .unset] [(.int s3), (.int s2), (.int s1), (.int s0), (.int (4 : Int32))])) rfl (by rw [hml]; rfl) (argsL := [(.int (4 : Int32)), (.int s0), (.int s1), (.int s2), (.int s3)]) (rest := []) (lenOf pd_0 rfl) rfl (by show 2 * 0 + _ ≤ _; exact Nat.le_of_eq rfl) (hb hby at_76) (fun _ _ => ⟨rfl, e0, (by decide : 0 + 1 ≤ _), (by decide : 0 + 4 ≤ _)⟩)
    dsimp only [Pt.U, Pt.locs, Pt.cells, Pt.slots] at X84 l84 y84 z84 st84 hQ84
    subst l84 y84 z84
    obtain ⟨b85, kk86, rfl, N84q, R87, R88⟩ := hQ84
    have N84 := Fr.app N0 N84q
    have Z89 : n0 ≤ T84.heap.size := Nat.le_trans Z0 R87.1
    obtain ⟨_, _, ⟨T90, L90, k90, n90⟩, -, X90, ⟨Lc90, hQ90, l90, y90, z90⟩, st90⟩ := Jvm.LawKit.callS X84 hx (y := (⟨"com/example/prudent_feedback/prudentfeedback/coefficient/LogisticFitDotPinLaw", "take", "(IIIII)[D"⟩ : MethodName)) hown (mvT hZ (hw _ (List.mem_of_getElem? (i := 0) rfl))) (mvT hZ (hw _ (List.mem_of_getElem? (i := 1) rfl))) (mvT hZ (hw _ (List.mem_of_getElem? (i := 2) rfl))) (mvT hZ (hw _ (List.mem_of_getElem? (i := 3) rfl))) (by decide) (backOf (W := 0) (rm1_4 l Z a0 hw [] s4 s5 s6 s7 T84.heap n0 Z89 ) hZ (hw _ (List.mem_of_getElem? (i := 3) rfl)) (hw _ (List.mem_of_getElem? (i := 2) rfl)) (by decide) (by decide)) (g := (mkF m 91 #[.val (.int p0), .val (.long q1), .second, .val (.long q2), .second, .val (.int (4 : Int32)), .val (.int s0), .val (.int s1), .val (.int s2), .val (.int s3), .val (.int s4), .val (.int s5), .val (.int s6), .val (.int s7), .val (.ref b85), .unset, .unset, .unset] [(.int s7), (.int s6), (.int s5), (.int s4), (.int (4 : Int32))])) rfl (by rw [hml]; rfl) (argsL := [(.int (4 : Int32)), (.int s4), (.int s5), (.int s6), (.int s7)]) (rest := []) (lenOf pd_0 rfl) rfl (by show 2 * 0 + _ ≤ _; exact Nat.le_of_eq rfl) (hb hby at_91) (fun _ _ => ⟨rfl, rfl, (by decide : 1 + 1 ≤ _), (by decide : 4 + 4 ≤ _)⟩)
    dsimp only [Pt.U, Pt.locs, Pt.cells, Pt.slots] at X90 l90 y90 z90 st90 hQ90
    subst l90 y90 z90
    obtain ⟨b91, kk92, rfl, N90q, R93, R94⟩ := hQ90
    have N90 := Fr.app N84 N90q
    have F95 : Arv Z T90.heap b85 kk86 .double (4 : Int32) [(.double (FP.l2d s0.toInt64)), (.double (FP.l2d s1.toInt64)), (.double (FP.l2d s2.toInt64)), (.double (FP.l2d s3.toInt64))] (.double (FP.l2d 0)) := R88.keep R93 nin0
    have Z96 : n0 ≤ T90.heap.size := Nat.le_trans Z89 R93.1
    have hp97 : own_sm 32768 s0.toInt64 := hb0
    have hp98 : own_sm 32768 s1.toInt64 := hb1
    have hp99 : own_sm 32768 s2.toInt64 := hb2
    have hp100 : own_sm 32768 s3.toInt64 := hb3
    have hp101 : own_sm 32768 s4.toInt64 := hb4
    have hp102 : own_sm 32768 s5.toInt64 := hb5
    have hp103 : own_sm 32768 s6.toInt64 := hb6
    have hp104 : own_sm 32768 s7.toInt64 := hb7
    obtain ⟨_, _, ⟨T105, L105, k105, n105⟩, -, X105, ⟨Lc105, hQ105, l105, y105, z105⟩, st105⟩ := Jvm.LawKit.callS X90 hx (y := (⟨"com/example/prudent_feedback/prudentfeedback/coefficient/LogisticFit", "dot", "([D[D)D"⟩ : MethodName)) hown (mvT hZ (hw _ (List.mem_of_getElem? (i := 5) rfl))) (mvT hZ (hw _ (List.mem_of_getElem? (i := 6) rfl))) (mvT hZ (hw _ (List.mem_of_getElem? (i := 7) rfl))) (mvT hZ (hw _ (List.mem_of_getElem? (i := 8) rfl))) (by decide) (backOf (W := 0) (rm2_4 l Z a0 hw [] b85 b91 kk86 kk92 s0.toInt64 s1.toInt64 s2.toInt64 s3.toInt64 s4.toInt64 s5.toInt64 s6.toInt64 s7.toInt64 T90.heap n0 Z96 F95 R94 hp97 hp98 hp99 hp100 hp101 hp102 hp103 hp104) hZ (hw _ (List.mem_of_getElem? (i := 8) rfl)) (hw _ (List.mem_of_getElem? (i := 7) rfl)) (by decide) (by decide)) (g := (mkF m 174 #[.val (.int p0), .val (.long q1), .second, .val (.long q2), .second, .val (.int (4 : Int32)), .val (.int s0), .val (.int s1), .val (.int s2), .val (.int s3), .val (.int s4), .val (.int s5), .val (.int s6), .val (.int s7), .val (.ref b85), .val (.ref b91), .val (.long (((((0 : Int64) + ((s0.toInt64) * (s4.toInt64))) + ((s1.toInt64) * (s5.toInt64))) + ((s2.toInt64) * (s6.toInt64))) + ((s3.toInt64) * (s7.toInt64)))), .second] [(.ref b91), (.ref b85)])) rfl (by rw [hml]; rfl) (argsL := [(.ref b85), (.ref b91)]) (rest := []) (lenOf pd_1 rfl) rfl (by show 2 * 0 + _ ≤ _; exact Nat.le_of_eq rfl) (hb hby at_174) (fun _ _ => ⟨rfl, rfl, (by decide : 2 + 0 ≤ _), (by decide : 8 + 0 ≤ _)⟩)
    dsimp only [Pt.U, Pt.locs, Pt.cells, Pt.slots] at X105 l105 y105 z105 st105 hQ105
    subst l105 y105 z105
    obtain ⟨rfl, N105q, R106⟩ := hQ105
    have N105 := Fr.app N90 N105q
    obtain ⟨fs, hr, hrun, hended, hW, hsame⟩ := X105.leave (v := some (.int (1 : Int32))) (fun h => by rw [Bd.returns] at h; cases h)
    refine ⟨_, _, P11 _ ?_, hrun, hended, _, _, rfl, ?_, ⟨_, rfl⟩, hW, hsame.mono (by decide) (by decide)⟩
    · show Steps p.tables e below (s₁.setTop (mkF m 66 #[.val (.int p0), .val (.long q1), .second, .val (.long q2), .second, .val (.int (4 : Int32)), .val (.int s0), .val (.int s1), .val (.int s2), .val (.int s3), .val (.int s4), .val (.int s5), .val (.int s6), .val (.int s7), .unset, .unset, .unset, .unset] [])) _
      refine XS.iload X0.here hx rfl (hb hby at_66) rfl ?_
      show Steps p.tables e below (s₁.setTop (mkF m 68 #[.val (.int p0), .val (.long q1), .second, .val (.long q2), .second, .val (.int (4 : Int32)), .val (.int s0), .val (.int s1), .val (.int s2), .val (.int s3), .val (.int s4), .val (.int s5), .val (.int s6), .val (.int s7), .unset, .unset, .unset, .unset] [(.int (4 : Int32))])) _
      refine XS.iload X0.here hx rfl (hb hby at_68) rfl ?_
      show Steps p.tables e below (s₁.setTop (mkF m 70 #[.val (.int p0), .val (.long q1), .second, .val (.long q2), .second, .val (.int (4 : Int32)), .val (.int s0), .val (.int s1), .val (.int s2), .val (.int s3), .val (.int s4), .val (.int s5), .val (.int s6), .val (.int s7), .unset, .unset, .unset, .unset] [(.int s0), (.int (4 : Int32))])) _
      refine XS.iload X0.here hx rfl (hb hby at_70) rfl ?_
      show Steps p.tables e below (s₁.setTop (mkF m 72 #[.val (.int p0), .val (.long q1), .second, .val (.long q2), .second, .val (.int (4 : Int32)), .val (.int s0), .val (.int s1), .val (.int s2), .val (.int s3), .val (.int s4), .val (.int s5), .val (.int s6), .val (.int s7), .unset, .unset, .unset, .unset] [(.int s1), (.int s0), (.int (4 : Int32))])) _
      refine XS.iload X0.here hx rfl (hb hby at_72) rfl ?_
      show Steps p.tables e below (s₁.setTop (mkF m 74 #[.val (.int p0), .val (.long q1), .second, .val (.long q2), .second, .val (.int (4 : Int32)), .val (.int s0), .val (.int s1), .val (.int s2), .val (.int s3), .val (.int s4), .val (.int s5), .val (.int s6), .val (.int s7), .unset, .unset, .unset, .unset] [(.int s2), (.int s1), (.int s0), (.int (4 : Int32))])) _
      refine XS.iload X0.here hx rfl (hb hby at_74) rfl ?_
      show Steps p.tables e below (s₁.setTop (mkF m 76 #[.val (.int p0), .val (.long q1), .second, .val (.long q2), .second, .val (.int (4 : Int32)), .val (.int s0), .val (.int s1), .val (.int s2), .val (.int s3), .val (.int s4), .val (.int s5), .val (.int s6), .val (.int s7), .unset, .unset, .unset, .unset] [(.int s3), (.int s2), (.int s1), (.int s0), (.int (4 : Int32))])) _
      refine st84 _ ?_
      show Steps p.tables e below (T84.setTop (mkF m 79 #[.val (.int p0), .val (.long q1), .second, .val (.long q2), .second, .val (.int (4 : Int32)), .val (.int s0), .val (.int s1), .val (.int s2), .val (.int s3), .val (.int s4), .val (.int s5), .val (.int s6), .val (.int s7), .unset, .unset, .unset, .unset] [(.ref b85)])) _
      refine XS.astore X84.here hx rfl (hb hby at_79) rfl rfl (l' := #[.val (.int p0), .val (.long q1), .second, .val (.long q2), .second, .val (.int (4 : Int32)), .val (.int s0), .val (.int s1), .val (.int s2), .val (.int s3), .val (.int s4), .val (.int s5), .val (.int s6), .val (.int s7), .val (.ref b85), .unset, .unset, .unset]) rfl ?_
      show Steps p.tables e below (T84.setTop (mkF m 81 #[.val (.int p0), .val (.long q1), .second, .val (.long q2), .second, .val (.int (4 : Int32)), .val (.int s0), .val (.int s1), .val (.int s2), .val (.int s3), .val (.int s4), .val (.int s5), .val (.int s6), .val (.int s7), .val (.ref b85), .unset, .unset, .unset] [])) _
      refine XS.iload X84.here hx rfl (hb hby at_81) rfl ?_
      show Steps p.tables e below (T84.setTop (mkF m 83 #[.val (.int p0), .val (.long q1), .second, .val (.long q2), .second, .val (.int (4 : Int32)), .val (.int s0), .val (.int s1), .val (.int s2), .val (.int s3), .val (.int s4), .val (.int s5), .val (.int s6), .val (.int s7), .val (.ref b85), .unset, .unset, .unset] [(.int (4 : Int32))])) _
      refine XS.iload X84.here hx rfl (hb hby at_83) rfl ?_
      show Steps p.tables e below (T84.setTop (mkF m 85 #[.val (.int p0), .val (.long q1), .second, .val (.long q2), .second, .val (.int (4 : Int32)), .val (.int s0), .val (.int s1), .val (.int s2), .val (.int s3), .val (.int s4), .val (.int s5), .val (.int s6), .val (.int s7), .val (.ref b85), .unset, .unset, .unset] [(.int s4), (.int (4 : Int32))])) _
      refine XS.iload X84.here hx rfl (hb hby at_85) rfl ?_
      show Steps p.tables e below (T84.setTop (mkF m 87 #[.val (.int p0), .val (.long q1), .second, .val (.long q2), .second, .val (.int (4 : Int32)), .val (.int s0), .val (.int s1), .val (.int s2), .val (.int s3), .val (.int s4), .val (.int s5), .val (.int s6), .val (.int s7), .val (.ref b85), .unset, .unset, .unset] [(.int s5), (.int s4), (.int (4 : Int32))])) _
      refine XS.iload X84.here hx rfl (hb hby at_87) rfl ?_
      show Steps p.tables e below (T84.setTop (mkF m 89 #[.val (.int p0), .val (.long q1), .second, .val (.long q2), .second, .val (.int (4 : Int32)), .val (.int s0), .val (.int s1), .val (.int s2), .val (.int s3), .val (.int s4), .val (.int s5), .val (.int s6), .val (.int s7), .val (.ref b85), .unset, .unset, .unset] [(.int s6), (.int s5), (.int s4), (.int (4 : Int32))])) _
      refine XS.iload X84.here hx rfl (hb hby at_89) rfl ?_
      show Steps p.tables e below (T84.setTop (mkF m 91 #[.val (.int p0), .val (.long q1), .second, .val (.long q2), .second, .val (.int (4 : Int32)), .val (.int s0), .val (.int s1), .val (.int s2), .val (.int s3), .val (.int s4), .val (.int s5), .val (.int s6), .val (.int s7), .val (.ref b85), .unset, .unset, .unset] [(.int s7), (.int s6), (.int s5), (.int s4), (.int (4 : Int32))])) _
      refine st90 _ ?_
      show Steps p.tables e below (T90.setTop (mkF m 94 #[.val (.int p0), .val (.long q1), .second, .val (.long q2), .second, .val (.int (4 : Int32)), .val (.int s0), .val (.int s1), .val (.int s2), .val (.int s3), .val (.int s4), .val (.int s5), .val (.int s6), .val (.int s7), .val (.ref b85), .unset, .unset, .unset] [(.ref b91)])) _
      refine XS.astore X90.here hx rfl (hb hby at_94) rfl rfl (l' := #[.val (.int p0), .val (.long q1), .second, .val (.long q2), .second, .val (.int (4 : Int32)), .val (.int s0), .val (.int s1), .val (.int s2), .val (.int s3), .val (.int s4), .val (.int s5), .val (.int s6), .val (.int s7), .val (.ref b85), .val (.ref b91), .unset, .unset]) rfl ?_
      show Steps p.tables e below (T90.setTop (mkF m 96 #[.val (.int p0), .val (.long q1), .second, .val (.long q2), .second, .val (.int (4 : Int32)), .val (.int s0), .val (.int s1), .val (.int s2), .val (.int s3), .val (.int s4), .val (.int s5), .val (.int s6), .val (.int s7), .val (.ref b85), .val (.ref b91), .unset, .unset] [])) _
      refine XS.lconst X90.here hx rfl (hb hby at_96) ?_
      show Steps p.tables e below (T90.setTop (mkF m 97 #[.val (.int p0), .val (.long q1), .second, .val (.long q2), .second, .val (.int (4 : Int32)), .val (.int s0), .val (.int s1), .val (.int s2), .val (.int s3), .val (.int s4), .val (.int s5), .val (.int s6), .val (.int s7), .val (.ref b85), .val (.ref b91), .unset, .unset] [(.long (0 : Int64))])) _
      refine XS.lstore X90.here hx rfl (hb hby at_97) rfl (l' := #[.val (.int p0), .val (.long q1), .second, .val (.long q2), .second, .val (.int (4 : Int32)), .val (.int s0), .val (.int s1), .val (.int s2), .val (.int s3), .val (.int s4), .val (.int s5), .val (.int s6), .val (.int s7), .val (.ref b85), .val (.ref b91), .val (.long (0 : Int64)), .second]) rfl ?_
      show Steps p.tables e below (T90.setTop (mkF m 99 #[.val (.int p0), .val (.long q1), .second, .val (.long q2), .second, .val (.int (4 : Int32)), .val (.int s0), .val (.int s1), .val (.int s2), .val (.int s3), .val (.int s4), .val (.int s5), .val (.int s6), .val (.int s7), .val (.ref b85), .val (.ref b91), .val (.long (0 : Int64)), .second] [])) _
      refine XS.iload X90.here hx rfl (hb hby at_99) rfl ?_
      show Steps p.tables e below (T90.setTop (mkF m 101 #[.val (.int p0), .val (.long q1), .second, .val (.long q2), .second, .val (.int (4 : Int32)), .val (.int s0), .val (.int s1), .val (.int s2), .val (.int s3), .val (.int s4), .val (.int s5), .val (.int s6), .val (.int s7), .val (.ref b85), .val (.ref b91), .val (.long (0 : Int64)), .second] [(.int (4 : Int32))])) _
      refine XS.ifNo X90.here hx rfl (hb hby at_101) rfl ((if0 _ _).trans (tlt (by decide : (0 : Int32) < (4 : Int32))).2.2.2) ?_
      show Steps p.tables e below (T90.setTop (mkF m 104 #[.val (.int p0), .val (.long q1), .second, .val (.long q2), .second, .val (.int (4 : Int32)), .val (.int s0), .val (.int s1), .val (.int s2), .val (.int s3), .val (.int s4), .val (.int s5), .val (.int s6), .val (.int s7), .val (.ref b85), .val (.ref b91), .val (.long (0 : Int64)), .second] [])) _
      refine XS.lload X90.here hx rfl (hb hby at_104) rfl ?_
      show Steps p.tables e below (T90.setTop (mkF m 106 #[.val (.int p0), .val (.long q1), .second, .val (.long q2), .second, .val (.int (4 : Int32)), .val (.int s0), .val (.int s1), .val (.int s2), .val (.int s3), .val (.int s4), .val (.int s5), .val (.int s6), .val (.int s7), .val (.ref b85), .val (.ref b91), .val (.long (0 : Int64)), .second] [(.long (0 : Int64))])) _
      refine XS.iload X90.here hx rfl (hb hby at_106) rfl ?_
      show Steps p.tables e below (T90.setTop (mkF m 108 #[.val (.int p0), .val (.long q1), .second, .val (.long q2), .second, .val (.int (4 : Int32)), .val (.int s0), .val (.int s1), .val (.int s2), .val (.int s3), .val (.int s4), .val (.int s5), .val (.int s6), .val (.int s7), .val (.ref b85), .val (.ref b91), .val (.long (0 : Int64)), .second] [(.int s0), (.long (0 : Int64))])) _
      refine XS.i2l X90.here hx rfl (hb hby at_108) rfl ?_
      show Steps p.tables e below (T90.setTop (mkF m 109 #[.val (.int p0), .val (.long q1), .second, .val (.long q2), .second, .val (.int (4 : Int32)), .val (.int s0), .val (.int s1), .val (.int s2), .val (.int s3), .val (.int s4), .val (.int s5), .val (.int s6), .val (.int s7), .val (.ref b85), .val (.ref b91), .val (.long (0 : Int64)), .second] [(.long (s0.toInt64)), (.long (0 : Int64))])) _
      refine XS.iload X90.here hx rfl (hb hby at_109) rfl ?_
      show Steps p.tables e below (T90.setTop (mkF m 111 #[.val (.int p0), .val (.long q1), .second, .val (.long q2), .second, .val (.int (4 : Int32)), .val (.int s0), .val (.int s1), .val (.int s2), .val (.int s3), .val (.int s4), .val (.int s5), .val (.int s6), .val (.int s7), .val (.ref b85), .val (.ref b91), .val (.long (0 : Int64)), .second] [(.int s4), (.long (s0.toInt64)), (.long (0 : Int64))])) _
      refine XS.i2l X90.here hx rfl (hb hby at_111) rfl ?_
      show Steps p.tables e below (T90.setTop (mkF m 112 #[.val (.int p0), .val (.long q1), .second, .val (.long q2), .second, .val (.int (4 : Int32)), .val (.int s0), .val (.int s1), .val (.int s2), .val (.int s3), .val (.int s4), .val (.int s5), .val (.int s6), .val (.int s7), .val (.ref b85), .val (.ref b91), .val (.long (0 : Int64)), .second] [(.long (s4.toInt64)), (.long (s0.toInt64)), (.long (0 : Int64))])) _
      refine XS.lmul X90.here hx rfl (hb hby at_112) rfl ?_
      show Steps p.tables e below (T90.setTop (mkF m 113 #[.val (.int p0), .val (.long q1), .second, .val (.long q2), .second, .val (.int (4 : Int32)), .val (.int s0), .val (.int s1), .val (.int s2), .val (.int s3), .val (.int s4), .val (.int s5), .val (.int s6), .val (.int s7), .val (.ref b85), .val (.ref b91), .val (.long (0 : Int64)), .second] [(.long ((s0.toInt64) * (s4.toInt64))), (.long (0 : Int64))])) _
      refine XS.ladd X90.here hx rfl (hb hby at_113) rfl ?_
      show Steps p.tables e below (T90.setTop (mkF m 114 #[.val (.int p0), .val (.long q1), .second, .val (.long q2), .second, .val (.int (4 : Int32)), .val (.int s0), .val (.int s1), .val (.int s2), .val (.int s3), .val (.int s4), .val (.int s5), .val (.int s6), .val (.int s7), .val (.ref b85), .val (.ref b91), .val (.long (0 : Int64)), .second] [(.long ((0 : Int64) + ((s0.toInt64) * (s4.toInt64))))])) _
      refine XS.lstore X90.here hx rfl (hb hby at_114) rfl (l' := #[.val (.int p0), .val (.long q1), .second, .val (.long q2), .second, .val (.int (4 : Int32)), .val (.int s0), .val (.int s1), .val (.int s2), .val (.int s3), .val (.int s4), .val (.int s5), .val (.int s6), .val (.int s7), .val (.ref b85), .val (.ref b91), .val (.long ((0 : Int64) + ((s0.toInt64) * (s4.toInt64)))), .second]) rfl ?_
      show Steps p.tables e below (T90.setTop (mkF m 116 #[.val (.int p0), .val (.long q1), .second, .val (.long q2), .second, .val (.int (4 : Int32)), .val (.int s0), .val (.int s1), .val (.int s2), .val (.int s3), .val (.int s4), .val (.int s5), .val (.int s6), .val (.int s7), .val (.ref b85), .val (.ref b91), .val (.long ((0 : Int64) + ((s0.toInt64) * (s4.toInt64)))), .second] [])) _
      refine XS.iload X90.here hx rfl (hb hby at_116) rfl ?_
      show Steps p.tables e below (T90.setTop (mkF m 118 #[.val (.int p0), .val (.long q1), .second, .val (.long q2), .second, .val (.int (4 : Int32)), .val (.int s0), .val (.int s1), .val (.int s2), .val (.int s3), .val (.int s4), .val (.int s5), .val (.int s6), .val (.int s7), .val (.ref b85), .val (.ref b91), .val (.long ((0 : Int64) + ((s0.toInt64) * (s4.toInt64)))), .second] [(.int (4 : Int32))])) _
      refine XS.iconst X90.here hx rfl (hb hby at_118) ?_
      show Steps p.tables e below (T90.setTop (mkF m 119 #[.val (.int p0), .val (.long q1), .second, .val (.long q2), .second, .val (.int (4 : Int32)), .val (.int s0), .val (.int s1), .val (.int s2), .val (.int s3), .val (.int s4), .val (.int s5), .val (.int s6), .val (.int s7), .val (.ref b85), .val (.ref b91), .val (.long ((0 : Int64) + ((s0.toInt64) * (s4.toInt64)))), .second] [(.int (1 : Int32)), (.int (4 : Int32))])) _
      refine XS.icmpNo X90.here hx rfl (hb hby at_119) rfl (tlt (by decide : (1 : Int32) < (4 : Int32))).2.2.2 ?_
      show Steps p.tables e below (T90.setTop (mkF m 122 #[.val (.int p0), .val (.long q1), .second, .val (.long q2), .second, .val (.int (4 : Int32)), .val (.int s0), .val (.int s1), .val (.int s2), .val (.int s3), .val (.int s4), .val (.int s5), .val (.int s6), .val (.int s7), .val (.ref b85), .val (.ref b91), .val (.long ((0 : Int64) + ((s0.toInt64) * (s4.toInt64)))), .second] [])) _
      refine XS.lload X90.here hx rfl (hb hby at_122) rfl ?_
      show Steps p.tables e below (T90.setTop (mkF m 124 #[.val (.int p0), .val (.long q1), .second, .val (.long q2), .second, .val (.int (4 : Int32)), .val (.int s0), .val (.int s1), .val (.int s2), .val (.int s3), .val (.int s4), .val (.int s5), .val (.int s6), .val (.int s7), .val (.ref b85), .val (.ref b91), .val (.long ((0 : Int64) + ((s0.toInt64) * (s4.toInt64)))), .second] [(.long ((0 : Int64) + ((s0.toInt64) * (s4.toInt64))))])) _
      refine XS.iload X90.here hx rfl (hb hby at_124) rfl ?_
      show Steps p.tables e below (T90.setTop (mkF m 126 #[.val (.int p0), .val (.long q1), .second, .val (.long q2), .second, .val (.int (4 : Int32)), .val (.int s0), .val (.int s1), .val (.int s2), .val (.int s3), .val (.int s4), .val (.int s5), .val (.int s6), .val (.int s7), .val (.ref b85), .val (.ref b91), .val (.long ((0 : Int64) + ((s0.toInt64) * (s4.toInt64)))), .second] [(.int s1), (.long ((0 : Int64) + ((s0.toInt64) * (s4.toInt64))))])) _
      refine XS.i2l X90.here hx rfl (hb hby at_126) rfl ?_
      show Steps p.tables e below (T90.setTop (mkF m 127 #[.val (.int p0), .val (.long q1), .second, .val (.long q2), .second, .val (.int (4 : Int32)), .val (.int s0), .val (.int s1), .val (.int s2), .val (.int s3), .val (.int s4), .val (.int s5), .val (.int s6), .val (.int s7), .val (.ref b85), .val (.ref b91), .val (.long ((0 : Int64) + ((s0.toInt64) * (s4.toInt64)))), .second] [(.long (s1.toInt64)), (.long ((0 : Int64) + ((s0.toInt64) * (s4.toInt64))))])) _
      refine XS.iload X90.here hx rfl (hb hby at_127) rfl ?_
      show Steps p.tables e below (T90.setTop (mkF m 129 #[.val (.int p0), .val (.long q1), .second, .val (.long q2), .second, .val (.int (4 : Int32)), .val (.int s0), .val (.int s1), .val (.int s2), .val (.int s3), .val (.int s4), .val (.int s5), .val (.int s6), .val (.int s7), .val (.ref b85), .val (.ref b91), .val (.long ((0 : Int64) + ((s0.toInt64) * (s4.toInt64)))), .second] [(.int s5), (.long (s1.toInt64)), (.long ((0 : Int64) + ((s0.toInt64) * (s4.toInt64))))])) _
      refine XS.i2l X90.here hx rfl (hb hby at_129) rfl ?_
      show Steps p.tables e below (T90.setTop (mkF m 130 #[.val (.int p0), .val (.long q1), .second, .val (.long q2), .second, .val (.int (4 : Int32)), .val (.int s0), .val (.int s1), .val (.int s2), .val (.int s3), .val (.int s4), .val (.int s5), .val (.int s6), .val (.int s7), .val (.ref b85), .val (.ref b91), .val (.long ((0 : Int64) + ((s0.toInt64) * (s4.toInt64)))), .second] [(.long (s5.toInt64)), (.long (s1.toInt64)), (.long ((0 : Int64) + ((s0.toInt64) * (s4.toInt64))))])) _
      refine XS.lmul X90.here hx rfl (hb hby at_130) rfl ?_
      show Steps p.tables e below (T90.setTop (mkF m 131 #[.val (.int p0), .val (.long q1), .second, .val (.long q2), .second, .val (.int (4 : Int32)), .val (.int s0), .val (.int s1), .val (.int s2), .val (.int s3), .val (.int s4), .val (.int s5), .val (.int s6), .val (.int s7), .val (.ref b85), .val (.ref b91), .val (.long ((0 : Int64) + ((s0.toInt64) * (s4.toInt64)))), .second] [(.long ((s1.toInt64) * (s5.toInt64))), (.long ((0 : Int64) + ((s0.toInt64) * (s4.toInt64))))])) _
      refine XS.ladd X90.here hx rfl (hb hby at_131) rfl ?_
      show Steps p.tables e below (T90.setTop (mkF m 132 #[.val (.int p0), .val (.long q1), .second, .val (.long q2), .second, .val (.int (4 : Int32)), .val (.int s0), .val (.int s1), .val (.int s2), .val (.int s3), .val (.int s4), .val (.int s5), .val (.int s6), .val (.int s7), .val (.ref b85), .val (.ref b91), .val (.long ((0 : Int64) + ((s0.toInt64) * (s4.toInt64)))), .second] [(.long (((0 : Int64) + ((s0.toInt64) * (s4.toInt64))) + ((s1.toInt64) * (s5.toInt64))))])) _
      refine XS.lstore X90.here hx rfl (hb hby at_132) rfl (l' := #[.val (.int p0), .val (.long q1), .second, .val (.long q2), .second, .val (.int (4 : Int32)), .val (.int s0), .val (.int s1), .val (.int s2), .val (.int s3), .val (.int s4), .val (.int s5), .val (.int s6), .val (.int s7), .val (.ref b85), .val (.ref b91), .val (.long (((0 : Int64) + ((s0.toInt64) * (s4.toInt64))) + ((s1.toInt64) * (s5.toInt64)))), .second]) rfl ?_
      show Steps p.tables e below (T90.setTop (mkF m 134 #[.val (.int p0), .val (.long q1), .second, .val (.long q2), .second, .val (.int (4 : Int32)), .val (.int s0), .val (.int s1), .val (.int s2), .val (.int s3), .val (.int s4), .val (.int s5), .val (.int s6), .val (.int s7), .val (.ref b85), .val (.ref b91), .val (.long (((0 : Int64) + ((s0.toInt64) * (s4.toInt64))) + ((s1.toInt64) * (s5.toInt64)))), .second] [])) _
      refine XS.iload X90.here hx rfl (hb hby at_134) rfl ?_
      show Steps p.tables e below (T90.setTop (mkF m 136 #[.val (.int p0), .val (.long q1), .second, .val (.long q2), .second, .val (.int (4 : Int32)), .val (.int s0), .val (.int s1), .val (.int s2), .val (.int s3), .val (.int s4), .val (.int s5), .val (.int s6), .val (.int s7), .val (.ref b85), .val (.ref b91), .val (.long (((0 : Int64) + ((s0.toInt64) * (s4.toInt64))) + ((s1.toInt64) * (s5.toInt64)))), .second] [(.int (4 : Int32))])) _
      refine XS.iconst X90.here hx rfl (hb hby at_136) ?_
      show Steps p.tables e below (T90.setTop (mkF m 137 #[.val (.int p0), .val (.long q1), .second, .val (.long q2), .second, .val (.int (4 : Int32)), .val (.int s0), .val (.int s1), .val (.int s2), .val (.int s3), .val (.int s4), .val (.int s5), .val (.int s6), .val (.int s7), .val (.ref b85), .val (.ref b91), .val (.long (((0 : Int64) + ((s0.toInt64) * (s4.toInt64))) + ((s1.toInt64) * (s5.toInt64)))), .second] [(.int (2 : Int32)), (.int (4 : Int32))])) _
      refine XS.icmpNo X90.here hx rfl (hb hby at_137) rfl (tlt (by decide : (2 : Int32) < (4 : Int32))).2.2.2 ?_
      show Steps p.tables e below (T90.setTop (mkF m 140 #[.val (.int p0), .val (.long q1), .second, .val (.long q2), .second, .val (.int (4 : Int32)), .val (.int s0), .val (.int s1), .val (.int s2), .val (.int s3), .val (.int s4), .val (.int s5), .val (.int s6), .val (.int s7), .val (.ref b85), .val (.ref b91), .val (.long (((0 : Int64) + ((s0.toInt64) * (s4.toInt64))) + ((s1.toInt64) * (s5.toInt64)))), .second] [])) _
      refine XS.lload X90.here hx rfl (hb hby at_140) rfl ?_
      show Steps p.tables e below (T90.setTop (mkF m 142 #[.val (.int p0), .val (.long q1), .second, .val (.long q2), .second, .val (.int (4 : Int32)), .val (.int s0), .val (.int s1), .val (.int s2), .val (.int s3), .val (.int s4), .val (.int s5), .val (.int s6), .val (.int s7), .val (.ref b85), .val (.ref b91), .val (.long (((0 : Int64) + ((s0.toInt64) * (s4.toInt64))) + ((s1.toInt64) * (s5.toInt64)))), .second] [(.long (((0 : Int64) + ((s0.toInt64) * (s4.toInt64))) + ((s1.toInt64) * (s5.toInt64))))])) _
      refine XS.iload X90.here hx rfl (hb hby at_142) rfl ?_
      show Steps p.tables e below (T90.setTop (mkF m 144 #[.val (.int p0), .val (.long q1), .second, .val (.long q2), .second, .val (.int (4 : Int32)), .val (.int s0), .val (.int s1), .val (.int s2), .val (.int s3), .val (.int s4), .val (.int s5), .val (.int s6), .val (.int s7), .val (.ref b85), .val (.ref b91), .val (.long (((0 : Int64) + ((s0.toInt64) * (s4.toInt64))) + ((s1.toInt64) * (s5.toInt64)))), .second] [(.int s2), (.long (((0 : Int64) + ((s0.toInt64) * (s4.toInt64))) + ((s1.toInt64) * (s5.toInt64))))])) _
      refine XS.i2l X90.here hx rfl (hb hby at_144) rfl ?_
      show Steps p.tables e below (T90.setTop (mkF m 145 #[.val (.int p0), .val (.long q1), .second, .val (.long q2), .second, .val (.int (4 : Int32)), .val (.int s0), .val (.int s1), .val (.int s2), .val (.int s3), .val (.int s4), .val (.int s5), .val (.int s6), .val (.int s7), .val (.ref b85), .val (.ref b91), .val (.long (((0 : Int64) + ((s0.toInt64) * (s4.toInt64))) + ((s1.toInt64) * (s5.toInt64)))), .second] [(.long (s2.toInt64)), (.long (((0 : Int64) + ((s0.toInt64) * (s4.toInt64))) + ((s1.toInt64) * (s5.toInt64))))])) _
      refine XS.iload X90.here hx rfl (hb hby at_145) rfl ?_
      show Steps p.tables e below (T90.setTop (mkF m 147 #[.val (.int p0), .val (.long q1), .second, .val (.long q2), .second, .val (.int (4 : Int32)), .val (.int s0), .val (.int s1), .val (.int s2), .val (.int s3), .val (.int s4), .val (.int s5), .val (.int s6), .val (.int s7), .val (.ref b85), .val (.ref b91), .val (.long (((0 : Int64) + ((s0.toInt64) * (s4.toInt64))) + ((s1.toInt64) * (s5.toInt64)))), .second] [(.int s6), (.long (s2.toInt64)), (.long (((0 : Int64) + ((s0.toInt64) * (s4.toInt64))) + ((s1.toInt64) * (s5.toInt64))))])) _
      refine XS.i2l X90.here hx rfl (hb hby at_147) rfl ?_
      show Steps p.tables e below (T90.setTop (mkF m 148 #[.val (.int p0), .val (.long q1), .second, .val (.long q2), .second, .val (.int (4 : Int32)), .val (.int s0), .val (.int s1), .val (.int s2), .val (.int s3), .val (.int s4), .val (.int s5), .val (.int s6), .val (.int s7), .val (.ref b85), .val (.ref b91), .val (.long (((0 : Int64) + ((s0.toInt64) * (s4.toInt64))) + ((s1.toInt64) * (s5.toInt64)))), .second] [(.long (s6.toInt64)), (.long (s2.toInt64)), (.long (((0 : Int64) + ((s0.toInt64) * (s4.toInt64))) + ((s1.toInt64) * (s5.toInt64))))])) _
      refine XS.lmul X90.here hx rfl (hb hby at_148) rfl ?_
      show Steps p.tables e below (T90.setTop (mkF m 149 #[.val (.int p0), .val (.long q1), .second, .val (.long q2), .second, .val (.int (4 : Int32)), .val (.int s0), .val (.int s1), .val (.int s2), .val (.int s3), .val (.int s4), .val (.int s5), .val (.int s6), .val (.int s7), .val (.ref b85), .val (.ref b91), .val (.long (((0 : Int64) + ((s0.toInt64) * (s4.toInt64))) + ((s1.toInt64) * (s5.toInt64)))), .second] [(.long ((s2.toInt64) * (s6.toInt64))), (.long (((0 : Int64) + ((s0.toInt64) * (s4.toInt64))) + ((s1.toInt64) * (s5.toInt64))))])) _
      refine XS.ladd X90.here hx rfl (hb hby at_149) rfl ?_
      show Steps p.tables e below (T90.setTop (mkF m 150 #[.val (.int p0), .val (.long q1), .second, .val (.long q2), .second, .val (.int (4 : Int32)), .val (.int s0), .val (.int s1), .val (.int s2), .val (.int s3), .val (.int s4), .val (.int s5), .val (.int s6), .val (.int s7), .val (.ref b85), .val (.ref b91), .val (.long (((0 : Int64) + ((s0.toInt64) * (s4.toInt64))) + ((s1.toInt64) * (s5.toInt64)))), .second] [(.long ((((0 : Int64) + ((s0.toInt64) * (s4.toInt64))) + ((s1.toInt64) * (s5.toInt64))) + ((s2.toInt64) * (s6.toInt64))))])) _
      refine XS.lstore X90.here hx rfl (hb hby at_150) rfl (l' := #[.val (.int p0), .val (.long q1), .second, .val (.long q2), .second, .val (.int (4 : Int32)), .val (.int s0), .val (.int s1), .val (.int s2), .val (.int s3), .val (.int s4), .val (.int s5), .val (.int s6), .val (.int s7), .val (.ref b85), .val (.ref b91), .val (.long ((((0 : Int64) + ((s0.toInt64) * (s4.toInt64))) + ((s1.toInt64) * (s5.toInt64))) + ((s2.toInt64) * (s6.toInt64)))), .second]) rfl ?_
      show Steps p.tables e below (T90.setTop (mkF m 152 #[.val (.int p0), .val (.long q1), .second, .val (.long q2), .second, .val (.int (4 : Int32)), .val (.int s0), .val (.int s1), .val (.int s2), .val (.int s3), .val (.int s4), .val (.int s5), .val (.int s6), .val (.int s7), .val (.ref b85), .val (.ref b91), .val (.long ((((0 : Int64) + ((s0.toInt64) * (s4.toInt64))) + ((s1.toInt64) * (s5.toInt64))) + ((s2.toInt64) * (s6.toInt64)))), .second] [])) _
      refine XS.iload X90.here hx rfl (hb hby at_152) rfl ?_
      show Steps p.tables e below (T90.setTop (mkF m 154 #[.val (.int p0), .val (.long q1), .second, .val (.long q2), .second, .val (.int (4 : Int32)), .val (.int s0), .val (.int s1), .val (.int s2), .val (.int s3), .val (.int s4), .val (.int s5), .val (.int s6), .val (.int s7), .val (.ref b85), .val (.ref b91), .val (.long ((((0 : Int64) + ((s0.toInt64) * (s4.toInt64))) + ((s1.toInt64) * (s5.toInt64))) + ((s2.toInt64) * (s6.toInt64)))), .second] [(.int (4 : Int32))])) _
      refine XS.iconst X90.here hx rfl (hb hby at_154) ?_
      show Steps p.tables e below (T90.setTop (mkF m 155 #[.val (.int p0), .val (.long q1), .second, .val (.long q2), .second, .val (.int (4 : Int32)), .val (.int s0), .val (.int s1), .val (.int s2), .val (.int s3), .val (.int s4), .val (.int s5), .val (.int s6), .val (.int s7), .val (.ref b85), .val (.ref b91), .val (.long ((((0 : Int64) + ((s0.toInt64) * (s4.toInt64))) + ((s1.toInt64) * (s5.toInt64))) + ((s2.toInt64) * (s6.toInt64)))), .second] [(.int (3 : Int32)), (.int (4 : Int32))])) _
      refine XS.icmpNo X90.here hx rfl (hb hby at_155) rfl (tlt (by decide : (3 : Int32) < (4 : Int32))).2.2.2 ?_
      show Steps p.tables e below (T90.setTop (mkF m 158 #[.val (.int p0), .val (.long q1), .second, .val (.long q2), .second, .val (.int (4 : Int32)), .val (.int s0), .val (.int s1), .val (.int s2), .val (.int s3), .val (.int s4), .val (.int s5), .val (.int s6), .val (.int s7), .val (.ref b85), .val (.ref b91), .val (.long ((((0 : Int64) + ((s0.toInt64) * (s4.toInt64))) + ((s1.toInt64) * (s5.toInt64))) + ((s2.toInt64) * (s6.toInt64)))), .second] [])) _
      refine XS.lload X90.here hx rfl (hb hby at_158) rfl ?_
      show Steps p.tables e below (T90.setTop (mkF m 160 #[.val (.int p0), .val (.long q1), .second, .val (.long q2), .second, .val (.int (4 : Int32)), .val (.int s0), .val (.int s1), .val (.int s2), .val (.int s3), .val (.int s4), .val (.int s5), .val (.int s6), .val (.int s7), .val (.ref b85), .val (.ref b91), .val (.long ((((0 : Int64) + ((s0.toInt64) * (s4.toInt64))) + ((s1.toInt64) * (s5.toInt64))) + ((s2.toInt64) * (s6.toInt64)))), .second] [(.long ((((0 : Int64) + ((s0.toInt64) * (s4.toInt64))) + ((s1.toInt64) * (s5.toInt64))) + ((s2.toInt64) * (s6.toInt64))))])) _
      refine XS.iload X90.here hx rfl (hb hby at_160) rfl ?_
      show Steps p.tables e below (T90.setTop (mkF m 162 #[.val (.int p0), .val (.long q1), .second, .val (.long q2), .second, .val (.int (4 : Int32)), .val (.int s0), .val (.int s1), .val (.int s2), .val (.int s3), .val (.int s4), .val (.int s5), .val (.int s6), .val (.int s7), .val (.ref b85), .val (.ref b91), .val (.long ((((0 : Int64) + ((s0.toInt64) * (s4.toInt64))) + ((s1.toInt64) * (s5.toInt64))) + ((s2.toInt64) * (s6.toInt64)))), .second] [(.int s3), (.long ((((0 : Int64) + ((s0.toInt64) * (s4.toInt64))) + ((s1.toInt64) * (s5.toInt64))) + ((s2.toInt64) * (s6.toInt64))))])) _
      refine XS.i2l X90.here hx rfl (hb hby at_162) rfl ?_
      show Steps p.tables e below (T90.setTop (mkF m 163 #[.val (.int p0), .val (.long q1), .second, .val (.long q2), .second, .val (.int (4 : Int32)), .val (.int s0), .val (.int s1), .val (.int s2), .val (.int s3), .val (.int s4), .val (.int s5), .val (.int s6), .val (.int s7), .val (.ref b85), .val (.ref b91), .val (.long ((((0 : Int64) + ((s0.toInt64) * (s4.toInt64))) + ((s1.toInt64) * (s5.toInt64))) + ((s2.toInt64) * (s6.toInt64)))), .second] [(.long (s3.toInt64)), (.long ((((0 : Int64) + ((s0.toInt64) * (s4.toInt64))) + ((s1.toInt64) * (s5.toInt64))) + ((s2.toInt64) * (s6.toInt64))))])) _
      refine XS.iload X90.here hx rfl (hb hby at_163) rfl ?_
      show Steps p.tables e below (T90.setTop (mkF m 165 #[.val (.int p0), .val (.long q1), .second, .val (.long q2), .second, .val (.int (4 : Int32)), .val (.int s0), .val (.int s1), .val (.int s2), .val (.int s3), .val (.int s4), .val (.int s5), .val (.int s6), .val (.int s7), .val (.ref b85), .val (.ref b91), .val (.long ((((0 : Int64) + ((s0.toInt64) * (s4.toInt64))) + ((s1.toInt64) * (s5.toInt64))) + ((s2.toInt64) * (s6.toInt64)))), .second] [(.int s7), (.long (s3.toInt64)), (.long ((((0 : Int64) + ((s0.toInt64) * (s4.toInt64))) + ((s1.toInt64) * (s5.toInt64))) + ((s2.toInt64) * (s6.toInt64))))])) _
      refine XS.i2l X90.here hx rfl (hb hby at_165) rfl ?_
      show Steps p.tables e below (T90.setTop (mkF m 166 #[.val (.int p0), .val (.long q1), .second, .val (.long q2), .second, .val (.int (4 : Int32)), .val (.int s0), .val (.int s1), .val (.int s2), .val (.int s3), .val (.int s4), .val (.int s5), .val (.int s6), .val (.int s7), .val (.ref b85), .val (.ref b91), .val (.long ((((0 : Int64) + ((s0.toInt64) * (s4.toInt64))) + ((s1.toInt64) * (s5.toInt64))) + ((s2.toInt64) * (s6.toInt64)))), .second] [(.long (s7.toInt64)), (.long (s3.toInt64)), (.long ((((0 : Int64) + ((s0.toInt64) * (s4.toInt64))) + ((s1.toInt64) * (s5.toInt64))) + ((s2.toInt64) * (s6.toInt64))))])) _
      refine XS.lmul X90.here hx rfl (hb hby at_166) rfl ?_
      show Steps p.tables e below (T90.setTop (mkF m 167 #[.val (.int p0), .val (.long q1), .second, .val (.long q2), .second, .val (.int (4 : Int32)), .val (.int s0), .val (.int s1), .val (.int s2), .val (.int s3), .val (.int s4), .val (.int s5), .val (.int s6), .val (.int s7), .val (.ref b85), .val (.ref b91), .val (.long ((((0 : Int64) + ((s0.toInt64) * (s4.toInt64))) + ((s1.toInt64) * (s5.toInt64))) + ((s2.toInt64) * (s6.toInt64)))), .second] [(.long ((s3.toInt64) * (s7.toInt64))), (.long ((((0 : Int64) + ((s0.toInt64) * (s4.toInt64))) + ((s1.toInt64) * (s5.toInt64))) + ((s2.toInt64) * (s6.toInt64))))])) _
      refine XS.ladd X90.here hx rfl (hb hby at_167) rfl ?_
      show Steps p.tables e below (T90.setTop (mkF m 168 #[.val (.int p0), .val (.long q1), .second, .val (.long q2), .second, .val (.int (4 : Int32)), .val (.int s0), .val (.int s1), .val (.int s2), .val (.int s3), .val (.int s4), .val (.int s5), .val (.int s6), .val (.int s7), .val (.ref b85), .val (.ref b91), .val (.long ((((0 : Int64) + ((s0.toInt64) * (s4.toInt64))) + ((s1.toInt64) * (s5.toInt64))) + ((s2.toInt64) * (s6.toInt64)))), .second] [(.long (((((0 : Int64) + ((s0.toInt64) * (s4.toInt64))) + ((s1.toInt64) * (s5.toInt64))) + ((s2.toInt64) * (s6.toInt64))) + ((s3.toInt64) * (s7.toInt64))))])) _
      refine XS.lstore X90.here hx rfl (hb hby at_168) rfl (l' := #[.val (.int p0), .val (.long q1), .second, .val (.long q2), .second, .val (.int (4 : Int32)), .val (.int s0), .val (.int s1), .val (.int s2), .val (.int s3), .val (.int s4), .val (.int s5), .val (.int s6), .val (.int s7), .val (.ref b85), .val (.ref b91), .val (.long (((((0 : Int64) + ((s0.toInt64) * (s4.toInt64))) + ((s1.toInt64) * (s5.toInt64))) + ((s2.toInt64) * (s6.toInt64))) + ((s3.toInt64) * (s7.toInt64)))), .second]) rfl ?_
      show Steps p.tables e below (T90.setTop (mkF m 170 #[.val (.int p0), .val (.long q1), .second, .val (.long q2), .second, .val (.int (4 : Int32)), .val (.int s0), .val (.int s1), .val (.int s2), .val (.int s3), .val (.int s4), .val (.int s5), .val (.int s6), .val (.int s7), .val (.ref b85), .val (.ref b91), .val (.long (((((0 : Int64) + ((s0.toInt64) * (s4.toInt64))) + ((s1.toInt64) * (s5.toInt64))) + ((s2.toInt64) * (s6.toInt64))) + ((s3.toInt64) * (s7.toInt64)))), .second] [])) _
      refine XS.aload X90.here hx rfl (hb hby at_170) rfl rfl ?_
      show Steps p.tables e below (T90.setTop (mkF m 172 #[.val (.int p0), .val (.long q1), .second, .val (.long q2), .second, .val (.int (4 : Int32)), .val (.int s0), .val (.int s1), .val (.int s2), .val (.int s3), .val (.int s4), .val (.int s5), .val (.int s6), .val (.int s7), .val (.ref b85), .val (.ref b91), .val (.long (((((0 : Int64) + ((s0.toInt64) * (s4.toInt64))) + ((s1.toInt64) * (s5.toInt64))) + ((s2.toInt64) * (s6.toInt64))) + ((s3.toInt64) * (s7.toInt64)))), .second] [(.ref b85)])) _
      refine XS.aload X90.here hx rfl (hb hby at_172) rfl rfl ?_
      show Steps p.tables e below (T90.setTop (mkF m 174 #[.val (.int p0), .val (.long q1), .second, .val (.long q2), .second, .val (.int (4 : Int32)), .val (.int s0), .val (.int s1), .val (.int s2), .val (.int s3), .val (.int s4), .val (.int s5), .val (.int s6), .val (.int s7), .val (.ref b85), .val (.ref b91), .val (.long (((((0 : Int64) + ((s0.toInt64) * (s4.toInt64))) + ((s1.toInt64) * (s5.toInt64))) + ((s2.toInt64) * (s6.toInt64))) + ((s3.toInt64) * (s7.toInt64)))), .second] [(.ref b91), (.ref b85)])) _
      refine st105 _ ?_
      show Steps p.tables e below (T105.setTop (mkF m 177 #[.val (.int p0), .val (.long q1), .second, .val (.long q2), .second, .val (.int (4 : Int32)), .val (.int s0), .val (.int s1), .val (.int s2), .val (.int s3), .val (.int s4), .val (.int s5), .val (.int s6), .val (.int s7), .val (.ref b85), .val (.ref b91), .val (.long (((((0 : Int64) + ((s0.toInt64) * (s4.toInt64))) + ((s1.toInt64) * (s5.toInt64))) + ((s2.toInt64) * (s6.toInt64))) + ((s3.toInt64) * (s7.toInt64)))), .second] [(.double (FP.l2d (((((0 : Int64) + (s0.toInt64 * s4.toInt64)) + (s1.toInt64 * s5.toInt64)) + (s2.toInt64 * s6.toInt64)) + (s3.toInt64 * s7.toInt64))))])) _
      refine XS.lload X105.here hx rfl (hb hby at_177) rfl ?_
      show Steps p.tables e below (T105.setTop (mkF m 179 #[.val (.int p0), .val (.long q1), .second, .val (.long q2), .second, .val (.int (4 : Int32)), .val (.int s0), .val (.int s1), .val (.int s2), .val (.int s3), .val (.int s4), .val (.int s5), .val (.int s6), .val (.int s7), .val (.ref b85), .val (.ref b91), .val (.long (((((0 : Int64) + ((s0.toInt64) * (s4.toInt64))) + ((s1.toInt64) * (s5.toInt64))) + ((s2.toInt64) * (s6.toInt64))) + ((s3.toInt64) * (s7.toInt64)))), .second] [(.long (((((0 : Int64) + ((s0.toInt64) * (s4.toInt64))) + ((s1.toInt64) * (s5.toInt64))) + ((s2.toInt64) * (s6.toInt64))) + ((s3.toInt64) * (s7.toInt64)))), (.double (FP.l2d (((((0 : Int64) + (s0.toInt64 * s4.toInt64)) + (s1.toInt64 * s5.toInt64)) + (s2.toInt64 * s6.toInt64)) + (s3.toInt64 * s7.toInt64))))])) _
      refine XS.l2dS X105.here hx rfl (hb hby at_179) rfl (v := FP.l2d (((((0 : Int64) + ((s0.toInt64) * (s4.toInt64))) + ((s1.toInt64) * (s5.toInt64))) + ((s2.toInt64) * (s6.toInt64))) + ((s3.toInt64) * (s7.toInt64)))) rfl ?_
      show Steps p.tables e below (T105.setTop (mkF m 180 #[.val (.int p0), .val (.long q1), .second, .val (.long q2), .second, .val (.int (4 : Int32)), .val (.int s0), .val (.int s1), .val (.int s2), .val (.int s3), .val (.int s4), .val (.int s5), .val (.int s6), .val (.int s7), .val (.ref b85), .val (.ref b91), .val (.long (((((0 : Int64) + ((s0.toInt64) * (s4.toInt64))) + ((s1.toInt64) * (s5.toInt64))) + ((s2.toInt64) * (s6.toInt64))) + ((s3.toInt64) * (s7.toInt64)))), .second] [(.double (FP.l2d (((((0 : Int64) + ((s0.toInt64) * (s4.toInt64))) + ((s1.toInt64) * (s5.toInt64))) + ((s2.toInt64) * (s6.toInt64))) + ((s3.toInt64) * (s7.toInt64))))), (.double (FP.l2d (((((0 : Int64) + (s0.toInt64 * s4.toInt64)) + (s1.toInt64 * s5.toInt64)) + (s2.toInt64 * s6.toInt64)) + (s3.toInt64 * s7.toInt64))))])) _
      refine XS.dcmpS X105.here hx rfl (hb hby at_180) rfl (v := (0 : Int32)) (dcmpV_self (nn_w rfl) _) ?_
      show Steps p.tables e below (T105.setTop (mkF m 181 #[.val (.int p0), .val (.long q1), .second, .val (.long q2), .second, .val (.int (4 : Int32)), .val (.int s0), .val (.int s1), .val (.int s2), .val (.int s3), .val (.int s4), .val (.int s5), .val (.int s6), .val (.int s7), .val (.ref b85), .val (.ref b91), .val (.long (((((0 : Int64) + ((s0.toInt64) * (s4.toInt64))) + ((s1.toInt64) * (s5.toInt64))) + ((s2.toInt64) * (s6.toInt64))) + ((s3.toInt64) * (s7.toInt64)))), .second] [(.int (0 : Int32))])) _
      refine XS.ifNo X105.here hx rfl (hb hby at_181) rfl ((if0 _ _).trans (teq (by decide : (0 : Int32) = (0 : Int32))).2) ?_
      show Steps p.tables e below (T105.setTop (mkF m 184 #[.val (.int p0), .val (.long q1), .second, .val (.long q2), .second, .val (.int (4 : Int32)), .val (.int s0), .val (.int s1), .val (.int s2), .val (.int s3), .val (.int s4), .val (.int s5), .val (.int s6), .val (.int s7), .val (.ref b85), .val (.ref b91), .val (.long (((((0 : Int64) + ((s0.toInt64) * (s4.toInt64))) + ((s1.toInt64) * (s5.toInt64))) + ((s2.toInt64) * (s6.toInt64))) + ((s3.toInt64) * (s7.toInt64)))), .second] [])) _
      refine XS.iconst X105.here hx rfl (hb hby at_184) ?_
      show Steps p.tables e below (T105.setTop (mkF m 185 #[.val (.int p0), .val (.long q1), .second, .val (.long q2), .second, .val (.int (4 : Int32)), .val (.int s0), .val (.int s1), .val (.int s2), .val (.int s3), .val (.int s4), .val (.int s5), .val (.int s6), .val (.int s7), .val (.ref b85), .val (.ref b91), .val (.long (((((0 : Int64) + ((s0.toInt64) * (s4.toInt64))) + ((s1.toInt64) * (s5.toInt64))) + ((s2.toInt64) * (s6.toInt64))) + ((s3.toInt64) * (s7.toInt64)))), .second] [(.int (1 : Int32))])) _
      refine XS.goto X105.here hx rfl (pc0 := 185) (pc' := 189) rfl (hb hby at_185) (by decide) (by decide) ?_
      show Steps p.tables e below (T105.setTop (mkF m 189 #[.val (.int p0), .val (.long q1), .second, .val (.long q2), .second, .val (.int (4 : Int32)), .val (.int s0), .val (.int s1), .val (.int s2), .val (.int s3), .val (.int s4), .val (.int s5), .val (.int s6), .val (.int s7), .val (.ref b85), .val (.ref b91), .val (.long (((((0 : Int64) + ((s0.toInt64) * (s4.toInt64))) + ((s1.toInt64) * (s5.toInt64))) + ((s2.toInt64) * (s6.toInt64))) + ((s3.toInt64) * (s7.toInt64)))), .second] [(.int (1 : Int32))])) _
      exact retN X105 hx (t := .boolean) Bd.returns (by simp) (hb hby at_189) hr
    · show Q0 Z p0 q1 q2 h0 n0 _ T105.heap _
      rw [R106]
      exact ⟨rfl, N105⟩
set_option maxRecDepth 65536 in
set_option maxHeartbeats 40000000 in
theorem comes_1 {Post : Tables → Env → Array Value → State → Outcome → State → Prop} (hpost : ∀ tb e args s v u, (limb_1_1.after args s (.returned v) u = true ∧ limb_1_2.after args s (.returned v) u = true ∧ True) → FrameEnd s (.returned v) u (Jvm.fieldLocs frame_1_writes args s ++ Jvm.arrayLocs frame_1_arrays args s ++ Jvm.staticLocs frame_1_statics s) 16 128 → Post tb e args s (.returned v) u) :
    ArmFor flags0 classFile x code maxLocals ret World_1 tables_1 room_1 Calls_1 rest_1 Pre_1 Post := by
  intro l hfl _ _ p e ha hc hk s m args below hf hA hF happ hP
  obtain ⟨hcalls, hrest, hpre⟩ := hP
  obtain ⟨-, -, -, hnamed, -, -, -, hat⟩ := (Spec.applies_iff hf).mp happ
  obtain ⟨hg, hn⟩ := and_e (Cond.before_iff.mp (show (Jvm.Cond.and given_1 narrow_1).before args s = true from hpre))
  obtain ⟨hcount, hg0⟩ := and_e hg
  obtain ⟨ha0, hg1⟩ := and_e hg0
  obtain ⟨ha1, hg2⟩ := and_e hg1
  obtain ⟨w0, w1, w2, rfl⟩ : ∃ w0 w1 w2 : Value, args = #[w0, w1, w2] := by
    have hs : args.size = 3 := by simpa [Cond.value, given_1] using hcount
    obtain ⟨L⟩ := args
    match L, hs with
    | [w0, w1, w2], _ => exact ⟨w0, w1, w2, rfl⟩
  have hw := fun d (hd : d ∈ tables_1) => atoms_spec (ws := Jvm.Cond.code x code maxLocals ret :: tables_1) hat d (List.mem_cons_of_mem _ hd)
  have hfit : Fit s := fun {y c} hc i hi => by
    obtain ⟨ha, rfl⟩ := Array.getElem?_eq_some_iff.mp hc
    have q := List.all_eq_true.mp ((Array.all_eq_true_iff_forall_mem.mp hF) _ (Array.getElem_mem ha)) i (List.mem_range.mpr hi)
    simpa [Array.getElem?_eq_getElem hi] using q
  obtain ⟨i0, ei0⟩ := is_v ha0
  obtain rfl : w0 = (.int i0) := Option.some.inj ei0
  obtain ⟨i1, ei1⟩ := isL_v ha1
  obtain rfl : w1 = (.long i1) := Option.some.inj ei1
  obtain ⟨i2, ei2⟩ := isL_v hg2
  obtain rfl : w2 = (.long i2) := Option.some.inj ei2
  obtain ⟨n, o, h1, h2, h3, _, L, rfl, ⟨rfl, N⟩, hq⟩ := rm0 l s _ hw tables_1 i0 i1 i2 s.heap s.heap.size (Nat.le_refl _)  p e ha hc hk s m _ below hf ((Spec.applies_iff_loose hf).mp happ).1 ⟨rfl, State.Warmed39.refl s, rfl⟩ trivial
  exact ⟨n, _, h1, h2, h3, hpost _ _ _ _ _ _ ⟨Cond.after_iff.mpr rfl, Cond.after_iff.mpr (eq_i res_at (Term.int_eval (1)) rfl), trivial⟩ ⟨hq.1, hq.2.1, (hq.2.2.sift fun y hy => Or.inr (N y hy)).mono (by decide) (by decide)⟩⟩
theorem main_1_1 : Claimed_1_1 := comes_1 fun _ _ _ _ _ _ h hF => ⟨h.1, hF⟩
theorem main_1_2 : Claimed_1_2 := comes_1 fun _ _ _ _ _ _ h hF => ⟨h.2.1, hF⟩
end Jvm.Pilot.@@N@@
namespace Jvm.Pilot.@@N@@
open Jvm Jvm.ClassFile Sem Op Lib Jvm.Free Jvm.Stand Jvm.Pilot.@@N@@.Jvm.D
/-! MADE BY PROGRAM (witnessworld.py) out of the Statement's table words and the real class files: 9 classes; the members and pool entries that the words name. The judged class is class 1, her method 1. -/
namespace start1
open Jvm.ClassFile
def u (s : String) : CpInfo := .utf8 (stringToUtf16 s)
/-- a pool by its gaps: so many unusable entries, then the entry; so many at the end -/
def gap : Nat → List CpInfo → List CpInfo
  | 0, r => r
  | n + 1, r => .unusable :: gap n r
def poolList (es : List (Nat × CpInfo)) (last : Nat) : List CpInfo := es.foldr (fun e r => gap e.1 (e.2 :: r)) (gap last [])
def pool (es : List (Nat × CpInfo)) (last : Nat) : Array CpInfo := ⟨poolList es last⟩
def fileOf (pool : Array CpInfo) (this : Nat) (attrs : Array Attribute := #[]) (ms : Array MethodInfo := #[]) (fl : Nat := 33) (sup : Nat := 0) (ifs : Array Nat := #[]) (fds : Array FieldInfo := #[]) : ClassFile where
  minorVersion := 0
  majorVersion := 65
  constantPool := pool
  accessFlags := fl
  thisClass := this
  superClass := sup
  interfaces := ifs
  fields := fds
  methods := ms
  attributes := attrs
def plain (name : String) (sup : Option ClassId) : Class where
  name := name
  kind := .ordinary
  loader := none
  accessFlags := 33
  super := sup
  interfaces := #[]
  cf := none
  fields := #[]
  methods := #[]
  instanceTypes := #[]
  staticTypes := #[]
  resolved := #[]
  callSites := []
  init := .initialized
  statics := none
  mirror := none

def pool0 : Array CpInfo := pool [(5, u "<init>"), (0, u "()V"), (1, .class_ 10), (1, u "java/lang/Object")] 113

def k0m0 : Method := { name := "<init>", desc := "()V", sig := { parameters := [], returnType := none }, accessFlags := 1, code := none }
/-- java/lang/Object -/
def k0 : Class := { plain "java/lang/Object" none with
  accessFlags := 33
  interfaces := #[]
  cf := some (fileOf pool0 8 #[] #[{ accessFlags := 1, nameIndex := 5, descriptorIndex := 6, attributes := #[] }] 33 0 #[] #[])
  fields := #[]
  methods := #[k0m0]
  instanceTypes := #[]
  staticTypes := #[]
  resolved := Array.replicate 124 none
  statics := none }

def pool1 : Array CpInfo := pool [(2, .class_ 4), (1, u "java/lang/Object"), (0, u "<init>"), (0, u "()V"), (0, .methodref 8 9), (0, .class_ 10), (0, .nameAndType 11 12), (0, u "com/example/prudent_feedback/prudentfeedback/coefficient/LogisticFitDotPinLaw"), (0, u "take"), (0, u "(IIIII)[D"), (0, .methodref 14 15), (0, .class_ 16), (0, .nameAndType 17 18), (0, u "com/example/prudent_feedback/prudentfeedback/coefficient/LogisticFit"), (0, u "dot"), (0, u "([D[D)D"), (2, u "law"), (0, u "(IJJ)Z")] 5

def k1m0 : Method := { name := "<init>", desc := "()V", sig := { parameters := [], returnType := none }, accessFlags := 1, code := none }
def k1c1 : Code := { maxStack := 6, maxLocals := 18, code := code, exceptionTable := #[], attributes := #[] }
def k1m1 : Method := { name := "law", desc := "(IJJ)Z", sig := { parameters := [.int, .long, .long], returnType := some .boolean }, accessFlags := 9, code := some k1c1 }
def k1c2 : Code := { maxStack := 5, maxLocals := 5, code := method_3_code, exceptionTable := #[], attributes := #[] }
def k1m2 : Method := { name := "take", desc := "(IIIII)[D", sig := { parameters := [.int, .int, .int, .int, .int], returnType := some (.array .double) }, accessFlags := 10, code := some k1c2 }
/-- com/example/prudent_feedback/prudentfeedback/coefficient/LogisticFitDotPinLaw -/
def k1 : Class := { plain "com/example/prudent_feedback/prudentfeedback/coefficient/LogisticFitDotPinLaw" (some 0) with
  accessFlags := 49
  interfaces := #[]
  cf := some (fileOf pool1 8 #[] #[{ accessFlags := 1, nameIndex := 5, descriptorIndex := 6, attributes := #[] }, { accessFlags := 9, nameIndex := 21, descriptorIndex := 22, attributes := #[] }, { accessFlags := 10, nameIndex := 11, descriptorIndex := 12, attributes := #[] }] 49 2 #[] #[])
  fields := #[]
  methods := #[k1m0, k1m1, k1m2]
  instanceTypes := #[]
  staticTypes := #[]
  resolved := Array.replicate 28 none
  statics := none }

def pool2 : Array CpInfo := pool [(2, .class_ 4), (1, u "java/lang/Object"), (0, u "<init>"), (0, u "()V"), (1, .class_ 10), (1, u "com/example/prudent_feedback/prudentfeedback/coefficient/LogisticFit"), (34, u "dot"), (0, u "([D[D)D"), (19, u "PENALTY"), (0, u "D"), (3, u "TOLERANCE"), (0, u "STEPS"), (0, u "I"), (1, u "HALVINGS")] 9

def k2m0 : Method := { name := "<init>", desc := "()V", sig := { parameters := [], returnType := none }, accessFlags := 2, code := none }
def k2c1 : Code := { maxStack := 6, maxLocals := 5, code := prog_9_method_8_code, exceptionTable := #[], attributes := #[] }
def k2m1 : Method := { name := "dot", desc := "([D[D)D", sig := { parameters := [(.array .double), (.array .double)], returnType := some .double }, accessFlags := 8, code := some k2c1 }
/-- com/example/prudent_feedback/prudentfeedback/coefficient/LogisticFit -/
def k2 : Class := { plain "com/example/prudent_feedback/prudentfeedback/coefficient/LogisticFit" (some 0) with
  accessFlags := 48
  interfaces := #[]
  cf := some (fileOf pool2 8 #[] #[{ accessFlags := 2, nameIndex := 5, descriptorIndex := 6, attributes := #[] }, { accessFlags := 8, nameIndex := 45, descriptorIndex := 46, attributes := #[] }] 48 2 #[] #[{ accessFlags := 26, nameIndex := 66, descriptorIndex := 67, attributes := #[] }, { accessFlags := 26, nameIndex := 71, descriptorIndex := 67, attributes := #[] }, { accessFlags := 26, nameIndex := 72, descriptorIndex := 73, attributes := #[] }, { accessFlags := 26, nameIndex := 75, descriptorIndex := 73, attributes := #[] }])
  fields := #[{ name := "PENALTY", type := .double, accessFlags := 26, slot := 0, constantValue := 0 }, { name := "TOLERANCE", type := .double, accessFlags := 26, slot := 1, constantValue := 0 }, { name := "STEPS", type := .int, accessFlags := 26, slot := 2, constantValue := 0 }, { name := "HALVINGS", type := .int, accessFlags := 26, slot := 3, constantValue := 0 }]
  methods := #[k2m0, k2m1]
  instanceTypes := #[]
  staticTypes := #[.double, .double, .int, .int]
  resolved := Array.replicate 85 none
  statics := none }

def pool3 : Array CpInfo := pool [(1, u "java/lang/Cloneable"), (0, .class_ 1), (0, u "java/lang/Object"), (0, .class_ 3)] 3

/-- java/lang/Cloneable -/
def k3 : Class := { plain "java/lang/Cloneable" (some 0) with
  accessFlags := 1537
  interfaces := #[]
  cf := some (fileOf pool3 2 #[] #[] 1537 4 #[] #[])
  fields := #[]
  methods := #[]
  instanceTypes := #[]
  staticTypes := #[]
  resolved := Array.replicate 8 none
  statics := none }

def pool4 : Array CpInfo := pool [(1, u "java/io/Serializable"), (0, .class_ 1), (0, u "java/lang/Object"), (0, .class_ 3)] 3

/-- java/io/Serializable -/
def k4 : Class := { plain "java/io/Serializable" (some 0) with
  accessFlags := 1537
  interfaces := #[]
  cf := some (fileOf pool4 2 #[] #[] 1537 4 #[] #[])
  fields := #[]
  methods := #[]
  instanceTypes := #[]
  staticTypes := #[]
  resolved := Array.replicate 8 none
  statics := none }

/-- the primitive byte -/
def k5 : Class := { plain "byte" none with kind := .primitive 'B', accessFlags := 0x411 }
/-- [B -/
def k6 : Class := { plain "[B" (some 0) with kind := .array 5 .byte, interfaces := #[3, 4], accessFlags := 1041 }

/-- the primitive int -/
def k7 : Class := { plain "int" none with kind := .primitive 'I', accessFlags := 0x411 }
/-- [I -/
def k8 : Class := { plain "[I" (some 0) with kind := .array 7 .int, interfaces := #[3, 4], accessFlags := 1041 }

/-- the primitive double -/
def k9 : Class := { plain "double" none with kind := .primitive 'D', accessFlags := 0x411 }
/-- [D -/
def k10 : Class := { plain "[D" (some 0) with kind := .array 9 .double, interfaces := #[3, 4], accessFlags := 1041 }

def heap : Heap := #[]
def classes : Array Class := #[k0, k1, k2, k3, k4, k5, k6, k7, k8, k9, k10]
def interned : List (Array UInt16 × Addr) := []
def slotsUsed : Nat := 0
def theMethod : MethodId := ⟨1, 1⟩
def args0 : Array Value := #[.int 3, .long 5, .long 6]
def aboutOver (below : List Frame) : State where
  vm := { classes := classes, interned := interned.toArray }
  heap := heap
  slotsUsed := slotsUsed
  threads := #[{ frames := .invoking theMethod args0 :: below }]
def below0 : List Frame := [.native { method := ⟨0, 0⟩, args := #[] }]
def about1 : State := aboutOver below0
def p0 : Program := .bare "" "" ""
def e0 : Env := launch0.env 0 0 0
theorem w_frames : about1.frames = Frame.invoking theMethod args0 :: below0 := rfl
set_option maxRecDepth 65536 in
theorem w_args : argsFit about1.vm theMethod args0 = true := by decide +kernel
set_option maxRecDepth 65536 in
theorem w_heap : heapFits about1 = true := by decide +kernel
set_option maxRecDepth 65536 in
theorem w_runnable : about1.curStatus? = some .runnable := by decide +kernel
set_option maxRecDepth 65536 in
theorem w_alone : about1.alone = true := by decide +kernel
set_option maxRecDepth 65536 in
theorem w_named : about1.methodNamed? x = some theMethod := by decide +kernel
set_option maxRecDepth 65536 in
theorem w_hears : about1.hears theMethod below0 = true := by decide +kernel
set_option maxRecDepth 65536 in
theorem w_ripe : about1.ripe theMethod args0 below0 = true := by decide +kernel
theorem w_running : about1.status = .running := rfl
set_option maxRecDepth 65536 in
theorem w_room : about1.hasRoom e0.platform room_1 = true :=
  launch0.hasRoom_least _ room_1 (by decide +kernel) (by decide +kernel) (by decide +kernel) (by decide +kernel) (by decide +kernel) (by decide +kernel)
theorem allAtoms_all (ts : List Jvm.Cond) (a : Array Jvm.Value) (st : Jvm.State) : (allAtoms ts).before a st = ts.all (fun c => c.before a st) := by
  induction ts with
  | nil => rfl
  | cons c t ih =>
    show (Jvm.Cond.and c (allAtoms t)).before a st = _
    rw [Jvm.Cond.before_and, ih, List.all_cons]
def words1 : List Jvm.Cond := Jvm.Cond.code x code maxLocals ret :: tables_1
/-- a 'code' word, met by the world's own term for the bytes: nothing is compared byte by byte -/
theorem code_word {y : MethodName} {bytes : ByteArray} {mx : Nat} {rt : Option FieldType} {a : Array Value} {s : State} {m : MethodId} {meth : Method} {c : Code} (h1 : s.methodNamed? y = some m) (h2 : s.vm.method? m = some meth) (h3 : meth.code = some c) (h4 : c.code = bytes)
    (h5 : (c.maxLocals == mx && c.exceptionTable.isEmpty && decide (c.maxStack ≤ mostOperands) && decide (meth.sig.returnType = rt) && !meth.locks && decide (parseMethodDescriptor y.desc = some meth.sig)) = true) : (Jvm.Cond.code y bytes mx rt).before a s = true := by
  simp only [Bool.and_eq_true, beq_iff_eq, Bool.not_eq_true', decide_eq_true_eq] at h5
  obtain ⟨⟨⟨⟨⟨g1, g2⟩, g3⟩, g4⟩, g5⟩, g6⟩ := h5
  simp [Cond.before, Cond.holds, Cond.value, h1, h2, h3, h4, g1, g2, g3, g4, g5, g6]
def isCode : Jvm.Cond → Bool
  | .code _ _ _ _ => true
  | _ => false
theorem all_split {L : List Jvm.Cond} {P : Jvm.Cond → Bool} (h1 : L.all (fun c => isCode c || P c) = true) (h2 : ∀ c ∈ L.filter isCode, P c = true) : L.all P = true := by
  refine List.all_eq_true.mpr fun c hc => ?_
  have h := List.all_eq_true.mp h1 c hc
  rcases Bool.eq_false_or_eq_true (isCode c) with hi | hi
  · exact h2 c (List.mem_filter.mpr ⟨hc, hi⟩)
  · simpa [hi] using h
set_option maxRecDepth 65536 in
theorem w_c0 : (Jvm.Cond.code x code maxLocals ret).before args0 about1 = true := code_word (m := ⟨1, 1⟩) (meth := k1m1) (c := k1c1) (by decide +kernel) rfl rfl rfl (by decide +kernel)
set_option maxRecDepth 65536 in
theorem w_c1 : (Jvm.Cond.code ({ cls := "com/example/prudent_feedback/prudentfeedback/coefficient/LogisticFitDotPinLaw", name := "take", desc := "(IIIII)[D" } : Jvm.MethodName) method_3_code (5 : Nat) (Option.some (Jvm.ClassFile.FieldType.array Jvm.ClassFile.FieldType.double))).before args0 about1 = true := code_word (m := ⟨1, 2⟩) (meth := k1m2) (c := k1c2) (by decide +kernel) rfl rfl rfl (by decide +kernel)
set_option maxRecDepth 65536 in
theorem w_c2 : (Jvm.Cond.code ({ cls := "com/example/prudent_feedback/prudentfeedback/coefficient/LogisticFit", name := "dot", desc := "([D[D)D" } : Jvm.MethodName) prog_9_method_8_code (5 : Nat) (Option.some Jvm.ClassFile.FieldType.double)).before args0 about1 = true := code_word (m := ⟨2, 1⟩) (meth := k2m1) (c := k2c1) (by decide +kernel) rfl rfl rfl (by decide +kernel)
def codes1 : List Jvm.Cond := [Jvm.Cond.code x code maxLocals ret, Jvm.Cond.code ({ cls := "com/example/prudent_feedback/prudentfeedback/coefficient/LogisticFitDotPinLaw", name := "take", desc := "(IIIII)[D" } : Jvm.MethodName) method_3_code (5 : Nat) (Option.some (Jvm.ClassFile.FieldType.array Jvm.ClassFile.FieldType.double)), Jvm.Cond.code ({ cls := "com/example/prudent_feedback/prudentfeedback/coefficient/LogisticFit", name := "dot", desc := "([D[D)D" } : Jvm.MethodName) prog_9_method_8_code (5 : Nat) (Option.some Jvm.ClassFile.FieldType.double)]
set_option maxRecDepth 65536 in
theorem codes_eq : words1.filter isCode = codes1 := rfl
theorem w_codes : ∀ c ∈ words1.filter isCode, c.before args0 about1 = true := by
  rw [codes_eq]
  intro c hc
  simp only [codes1, List.mem_cons, List.not_mem_nil, or_false] at hc
  rcases hc with rfl | rfl | rfl
  · exact w_c0
  · exact w_c1
  · exact w_c2
set_option maxRecDepth 65536 in
theorem w_t1 : words1.all (fun c => isCode c || c.before args0 about1) = true := by decide +kernel
theorem w_tables : (allAtoms (Jvm.Cond.code x code maxLocals ret :: tables_1)).before args0 about1 = true := by
  rw [allAtoms_all]
  show words1.all (fun c => c.before args0 about1) = true
  refine all_split ?_ w_codes
  rw [w_t1]
set_option maxRecDepth 65536 in
theorem w_case : (Jvm.Cond.and given_1 narrow_1).before args0 about1 = true := by decide +kernel
theorem w_applies : (headSpec (Jvm.Cond.code x code maxLocals ret :: tables_1) room_1).applies x e0.platform about1 = true :=
  (Spec.applies_iff w_frames).mpr ⟨w_running, w_runnable, w_alone, w_named, w_hears, w_ripe, w_room, w_tables⟩
theorem atStart : AtStart classFile x code maxLocals ret World_1 tables_1 room_1 Calls_1 rest_1 Pre_1 launch0 p0 e0 about1 theMethod args0 below0 :=
  ⟨lists_1, trivial, launch0.admits_env _ _ _, launch0.least_env, fairChoices_fair.cas, fairChoices_fair.clock, w_frames, w_args, w_heap, w_applies, trivial, trivial, w_case⟩
end start1
theorem witness_1 : WitnessClaimed_1 := ⟨start1.p0, start1.e0, start1.about1, start1.theMethod, start1.args0, start1.below0, start1.atStart⟩
end Jvm.Pilot.@@N@@
