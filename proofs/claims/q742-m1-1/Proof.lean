import JvmDerived
import JvmDerived.Pilot.@@N@@Statement
import JvmDerived.Pilot.@@N@@Code
set_option linter.unusedVariables false
set_option linter.unusedSimpArgs false
namespace Jvm.RoadKit
open Sem ClassFile Op Lib Jvm.Stand Jvm.Free Jvm.LawKit
section New
variable {p : Program} {l : Launch} {e : Env} {R : Room} {s : State} {m : MethodId} {args : Array Value} {below : List Frame} {meth : Method} {c : Code} {T : State} {locs : List Loc} {cells slots : Nat}
theorem retI (X : Stand p l e R s m args below meth c T locs cells slots) (hx : p.tables.exec = Jvm.exec) {pc : Nat} {Ls : Array Slot} {z : Int32} {rest : List Value} (hret : meth.sig.returnType = some .int) (hd : decode c.code pc = .ok (.ireturn, 1)) {fs : List Frame}
    (hl : ∀ (f : JFrame) (acts : List Action), f.method = m → f.locked = none → f.entered = [] → (doReturn e (T.setTop f) acts (some (.int z))).1 = T.setFrames fs) : Steps p.tables e below (T.setTop (mkF m pc Ls (.int z :: rest))) (T.setFrames fs) := by
  have hm' : T.vm.method? m = some meth := X.method'
  have hn : narrow .int (.int z) = .int z := rfl
  show Steps p.tables e below (T.setTop { method := m, pc := pc, locals := Ls, stack := _ :: rest, locked := none }) _
  jvm_step X.here [X.here.top, hx, hd, hm', hret, hn]
  first | (intro acts; rw [hl _ acts rfl rfl rfl]) | rw [hl _ _ rfl rfl rfl]
  exact Steps.refl _
end New
end Jvm.RoadKit
namespace Jvm.Pilot.@@N@@
open Jvm Jvm.ClassFile Sem Op Lib Jvm.Free Jvm.Stand Jvm.LawKit Jvm.RoadKit Bundle Jvm.Pilot.@@N@@.Jvm.D
theorem own_staKeep {Z : State} {h h' : Heap} {C n d : String} {v : Value} {ws : List Addr} (F : Sta Z h C n d v) (K : Keep h h' ws) (q : ∀ x ∈ ws, ∀ c : Cell, h[x]? = some c → c.vm.isStatics = false) : Sta Z h' C n d v := by
  obtain ⟨cf, i, k, f, st, cell, h1, h2, h3, h4, h5, h6, h7⟩ := F
  refine ⟨cf, i, k, f, st, cell, h1, h2, h3, h4, K.2.1 st cell h5 (fun m => ?_), h6, h7⟩
  have w := q st m cell h5
  rw [h6] at w
  cases w
theorem own_plainE {Z : State} {h : Heap} {a : Addr} {C : String} (F : Exa Z h a C) : ∀ c : Cell, h[a]? = some c → c.vm.isStatics = false := fun c hc => by
  obtain ⟨cell, k, h1, h2, h3, h4, -⟩ := F
  cases h1.symm.trans hc
  exact h4
theorem own_plainV {Z : State} {h : Heap} {a : Addr} {k : ClassId} {ty : FieldType} {n : Int32} {vs : List Value} {d : Value} (F : Arv Z h a k ty n vs d) : ∀ c : Cell, h[a]? = some c → c.vm.isStatics = false := fun c hc => by
  obtain ⟨cell, A, -⟩ := F
  cases A.1.symm.trans hc
  exact A.plain
theorem own_arrKeep {Z : State} {h h' : Heap} {a : Addr} {c : Cell} {ty : FieldType} {ws : List Addr} (F : Arr Z h a c ty) (K : Keep h h' ws) (q : a ∉ ws) : Arr Z h' a c ty := ⟨K.2.1 a c F.1 q, F.2⟩
theorem own_insKeep {Z : State} {h h' : Heap} {a : Addr} {C : String} {b : Bool} {ws : List Addr} (F : Ins Z h a C b) (K : Keep h h' ws) : Ins Z h' a C b := by
  obtain ⟨cell, cT, h1, h2, h3⟩ := F
  obtain ⟨c', q1, q2, q3, -⟩ := K.2.2 a cell h1
  exact ⟨c', cT, q1, h2, by rw [q2, q3]; exact h3⟩
def own_Str (Z : State) (h : Heap) (aB : Addr) (f : Nat → Addr) : Prop := ∃ cl : Cell, Arr Z h aB cl (.object "java/lang/Object") ∧ cl.slots.size = 64 ∧ ∀ k, k < 64 → cl.slots[k]? = some (.ref (f k))
theorem own_i {i : Nat} (h : i < 64) : (Int32.ofNat i).toInt = i := Int32.toInt_ofNat_of_lt (by omega)
theorem own_ilt {i : Nat} (h : i < 64) : Int32.ofNat i < (64 : Int32) := by
  rw [Int32.lt_iff_toInt_lt, own_i h]
  have e : (64 : Int32).toInt = 64 := rfl
  omega
theorem own_i0 {i : Nat} (h : i < 64) : ¬ (Int32.ofNat i < (0 : Int32)) := by
  rw [Int32.lt_iff_toInt_lt, own_i h]
  have e : (0 : Int32).toInt = 0 := rfl
  omega
theorem own_inat {i : Nat} (h : i < 64) : (Int32.ofNat i).toNatClampNeg = i := by
  show (Int32.ofNat i).toInt.toNat = i
  rw [own_i h]; rfl
theorem own_isucc {i : Nat} (h : i < 64) : Int32.ofNat i + (1 : Int32) = Int32.ofNat (i + 1) := by
  rw [← Int32.toInt_inj, Int32.toInt_add, own_i h, Int32.toInt_ofNat_of_lt (by omega)]
  have e1 : (1 : Int32).toInt = 1 := rfl
  rw [e1, Int.bmod_eq_of_le (by omega) (by omega)]
  omega
theorem own_set {cl : Cell} {i : Nat} {f : Nat → Addr} {b : Addr} (hs : cl.slots.size = 64) (hi : i < 64) (hk : ∀ k, k < i → cl.slots[k]? = some (.ref (f k))) : ∀ k, k < i + 1 → (cl.setSlot i (.ref b)).slots[k]? = some (.ref ((fun k => if k = i then b else f k) k)) := by
  intro k h
  by_cases e : k = i
  · subst e
    simp [Cell.setSlot, hs, hi]
  · have h2 : k < i := by omega
    have e2 : ¬ (i = k) := fun q => e q.symm
    simp [Cell.setSlot, Array.getElem?_setIfInBounds, e, e2, hk k h2]
theorem pn_0 : plainName "com/example/grant4/grant4/store/KeyLocks" = true := by first | (simp [plainName, overriddenIn]; done) | decide +kernel
theorem d1_0 : decode prog_33_method_1_code 0 = .ok (.aload_n 0, 1) := by decide +kernel
theorem d1_1 : decode prog_33_method_1_code 1 = .ok (.invokespecial 1, 3) := by decide +kernel
theorem d1_4 : decode prog_33_method_1_code 4 = .ok (.aload_n 0, 1) := by decide +kernel
theorem d1_5 : decode prog_33_method_1_code 5 = .ok (.bipush 64, 2) := by decide +kernel
theorem d1_7 : decode prog_33_method_1_code 7 = .ok (.anewarray 2, 3) := by decide +kernel
theorem d1_10 : decode prog_33_method_1_code 10 = .ok (.putfield 9, 3) := by decide +kernel
theorem d1_13 : decode prog_33_method_1_code 13 = .ok (.iconst 0, 1) := by decide +kernel
theorem d1_14 : decode prog_33_method_1_code 14 = .ok (.istore_n 1, 1) := by decide +kernel
theorem d1_15 : decode prog_33_method_1_code 15 = .ok (.iload_n 1, 1) := by decide +kernel
theorem d1_16 : decode prog_33_method_1_code 16 = .ok (.bipush 64, 2) := by decide +kernel
theorem d1_18 : decode prog_33_method_1_code 18 = .ok (.if_icmp .ge 22, 3) := by decide +kernel
theorem d1_21 : decode prog_33_method_1_code 21 = .ok (.aload_n 0, 1) := by decide +kernel
theorem d1_22 : decode prog_33_method_1_code 22 = .ok (.getfield 9, 3) := by decide +kernel
theorem d1_25 : decode prog_33_method_1_code 25 = .ok (.iload_n 1, 1) := by decide +kernel
theorem d1_26 : decode prog_33_method_1_code 26 = .ok (.new 2, 3) := by decide +kernel
theorem d1_29 : decode prog_33_method_1_code 29 = .ok (.dup, 1) := by decide +kernel
theorem d1_30 : decode prog_33_method_1_code 30 = .ok (.invokespecial 1, 3) := by decide +kernel
theorem d1_33 : decode prog_33_method_1_code 33 = .ok (.aastore, 1) := by decide +kernel
theorem d1_34 : decode prog_33_method_1_code 34 = .ok (.iinc 1 1, 3) := by decide +kernel
theorem d1_37 : decode prog_33_method_1_code 37 = .ok (.goto (-22), 3) := by decide +kernel
theorem d1_40 : decode prog_33_method_1_code 40 = .ok (.return_, 1) := by decide +kernel
theorem ef_1 (m : MethodId) (a1 : Addr) : entryFrame m #[(.ref a1)] 2 = mkF m 0 #[.val (.ref a1), .unset] [] := by first | (simp [entryFrame, mkF, argsToLocals, Value.category]; done) | rfl
def Q1 (Z : State) (a1 : Addr) (h0 : Heap) (n0 : Nat) (v : Option Value) (h : Heap) (L : List Loc) : Prop := ∃ (aB : Addr) (f : Nat → Addr), v = none ∧ Fr n0 L ∧ Keep h0 h [a1] ∧ Exa Z h a1 "com/example/grant4/grant4/store/KeyLocks" ∧ Fld Z h a1 "com/example/grant4/grant4/store/KeyLocks" "stripes" "[Ljava/lang/Object;" (.ref aB) ∧ (own_Str Z h aB f) ∧ (∀ j k, j < k → k < 64 → f j < f k)
set_option maxRecDepth 65536 in
set_option maxHeartbeats 40000000 in
theorem rm1 (l : Launch) (Z : State) (a0 : Array Value) (hw : ∀ d ∈ tables_1, d.before a0 Z = true) (ws : List Jvm.Cond) (a1 : Addr) (h0 : Heap) (n0 : Nat) (Z0 : n0 ≤ h0.size) (HE0 : Exa Z h0 a1 "com/example/grant4/grant4/store/KeyLocks") (Hg1 : n0 ≤ a1) (HF2 : Fld Z h0 a1 "com/example/grant4/grant4/store/KeyLocks" "stripes" "[Ljava/lang/Object;" .null) :
    MetFree l (⟨"com/example/grant4/grant4/store/KeyLocks", "<init>", "()V"⟩ : MethodName) (head1 (Jvm.Cond.code (⟨"com/example/grant4/grant4/store/KeyLocks", "<init>", "()V"⟩ : MethodName) prog_33_method_1_code 2 none :: ws) ({ frames := 1, cells := 65, slots := 64, locals := 15 } : Room)) (fun a U => a = #[(.ref a1)] ∧ Z.Warmed39 U.vm ∧ U.heap = h0) (fun _ _ _ _ _ => True) (fun _ U o U' => ∃ v L, o = .returned v ∧ Q1 Z a1 h0 n0 v U'.heap L ∧ FrameEnd U o U' L ({ frames := 1, cells := 65, slots := 64, locals := 15 } : Room).cells ({ frames := 1, cells := 65, slots := 64, locals := 15 } : Room).slots) := by
  refine MetFree.of_bodySF (plainFor_of_name pn_0) hisR ?_
  intro p e s m args below meth c s₁ Bd hml0 hP hK
  obtain ⟨rfl, hZ, hh⟩ := hP
  have hx := Bd.exec
  have hby := Bd.bytes
  have hml : c.maxLocals = 2 := hml0
  have hown : s.vm.findClass "com/example/grant4/grant4/store/KeyLocks" = some m.cls := findClass_of_methodNamed Bd.named
  have hnm := (name_of_methodNamed Bd.named Bd.method).1
  have X0 : Stand p l e ({ frames := 1, cells := 65, slots := 64, locals := 15 } : Room) s m #[(.ref a1)] below meth c s₁ [] 0 0 := Stand.of_body Bd
  have e0 : s₁.heap = h0 := by rw [← hh, Bd.state]; rfl
  have N0 := Fr.nil n0
  have pre0 : ∀ t, Steps p.tables e below (s₁.setTop (mkF m 0 #[.val (.ref a1), .unset] [])) t → Steps p.tables e below (s₁.setTop (entryFrame m #[(.ref a1)] 2)) t := fun t k => castTop (ef_1 m a1) k
  obtain ⟨T1, X1, e1, st1⟩ := initO X0 hx hZ hown (hw _ (List.mem_of_getElem? (i := 7) rfl)) (hw _ (List.mem_of_getElem? (i := 8) rfl)) (hw _ (List.mem_of_getElem? (i := 9) rfl)) e0 (g := (mkF m 1 #[.val (.ref a1), .unset] [(.ref a1)])) rfl (by rw [hml]; rfl) rfl (hb hby d1_1) (by decide) (W := 0) (by show 2 * 0 + _ ≤ _; exact Nat.le_of_eq rfl) (by decide)
  obtain ⟨T2, h2, k2, X2, e2, E2, A2, O2, st2⟩ := newR X1 hx hZ hown (hw _ (List.mem_of_getElem? (i := 10) rfl)) (hw _ (List.mem_of_getElem? (i := 11) rfl)) e1 (g := (mkF m 7 #[.val (.ref a1), .unset] [(.int (64 : Int32)), (.ref a1)])) rfl (hb hby d1_7) rfl (by decide) (cap := 64) (by decide) (by decide) (by decide) (by decide)
  obtain ⟨b2, g2⟩ : ∃ z, z = h0.size := ⟨_, rfl⟩
  rw [← g2] at A2 st2
  have ne3 : a1 ≠ b2 := Nat.ne_of_lt (Nat.lt_of_lt_of_le HE0.lt (Nat.le_of_eq g2.symm))
  have g_b2 : n0 ≤ b2 := Nat.le_trans Z0 (Nat.le_of_eq g2.symm)
  have sz_b2 : h0.size ≤ b2 := Nat.le_trans (Keep.refl h0 [a1]).1 (Nat.le_of_eq g2.symm)
  have F4 : Exa Z h2 a1 "com/example/grant4/grant4/store/KeyLocks" := HE0.ext E2
  have F5 : Fld Z h2 a1 "com/example/grant4/grant4/store/KeyLocks" "stripes" "[Ljava/lang/Object;" .null := HF2.ext E2
  have Z6 : n0 ≤ h2.size := Nat.le_trans Z0 E2.1
  have K7 : Keep h0 h2 [a1] := (Keep.refl h0 [a1]).ext E2
  have V2 : Arv Z h2 b2 k2 (.object "java/lang/Object") (64 : Int32) [] .null := Arv.new A2 (by decide)
  obtain ⟨T8, h8, X8, e8, W8, st8⟩ := putF X2 hx hZ hown (host := "") (Or.inl (hw _ (List.mem_of_getElem? (i := 12) rfl))) Via.refl e2 F5 F4 (Or.inr ⟨(hw _ (List.mem_of_getElem? (i := 13) rfl)), rfl, hnm⟩) (hw _ (List.mem_of_getElem? (i := 2) rfl)) (ty := (.array (.object "java/lang/Object"))) (by decide) rfl rfl (g := (mkF m 10 #[.val (.ref a1), .unset] [(.ref b2), (.ref a1)])) rfl rfl (hb hby d1_10)
  have Fw8 : Fld Z h8 a1 "com/example/grant4/grant4/store/KeyLocks" "stripes" "[Ljava/lang/Object;" (.ref b2) := F5.same W8
  have F9 : Exa Z h8 a1 "com/example/grant4/grant4/store/KeyLocks" := F4.wr W8
  have F10 : Arv Z h8 b2 k2 (.object "java/lang/Object") (64 : Int32) [] .null := V2.other W8 (Ne.symm ne3)
  have Z11 : n0 ≤ h8.size := Nat.le_trans Z6 (Keep.of_wr W8).1
  have K12 : Keep h0 h8 [a1] := K7.wr W8 (Or.inl (List.mem_of_getElem? (i := 0) rfl))
  have N13 := Fr.snoc X8 N0 Hg1
  have P14 : ∀ t, Steps p.tables e below (T8.setTop (mkF m 15 #[.val (.ref a1), .val (.int (0 : Int32))] [])) t → Steps p.tables e below (s₁.setTop (entryFrame m #[(.ref a1)] 2)) t := by
    intro t k
    refine pre0 t ?_
    show Steps p.tables e below (s₁.setTop (mkF m 0 #[.val (.ref a1), .unset] [])) _
    refine XS.aloadN X0.here hx rfl (hb hby d1_0) rfl rfl ?_
    show Steps p.tables e below (s₁.setTop (mkF m 1 #[.val (.ref a1), .unset] [(.ref a1)])) _
    refine st1 _ ?_
    show Steps p.tables e below (T1.setTop (mkF m 4 #[.val (.ref a1), .unset] [])) _
    refine XS.aloadN X1.here hx rfl (hb hby d1_4) rfl rfl ?_
    show Steps p.tables e below (T1.setTop (mkF m 5 #[.val (.ref a1), .unset] [(.ref a1)])) _
    refine XS.bipush X1.here hx rfl (hb hby d1_5) ?_
    show Steps p.tables e below (T1.setTop (mkF m 7 #[.val (.ref a1), .unset] [(.int (64 : Int32)), (.ref a1)])) _
    refine st2 _ ?_
    show Steps p.tables e below (T2.setTop (mkF m 10 #[.val (.ref a1), .unset] [(.ref b2), (.ref a1)])) _
    refine st8 _ ?_
    show Steps p.tables e below (T8.setTop (mkF m 13 #[.val (.ref a1), .unset] [])) _
    refine XS.iconst X8.here hx rfl (hb hby d1_13) ?_
    show Steps p.tables e below (T8.setTop (mkF m 14 #[.val (.ref a1), .unset] [(.int (0 : Int32))])) _
    refine XS.istoreN X8.here hx rfl (hb hby d1_14) rfl (l' := #[.val (.ref a1), .val (.int (0 : Int32))]) rfl ?_
    exact k
  obtain ⟨co15, Ao15, qo15, So15, Mo15, Bo15, Go15⟩ := id F10
  have loop : ∀ (n i : Nat), n + i = 64 → ∀ (Tl : State) (lo : List Loc) (cn : Nat) (hl : Heap) (f : Nat → Addr) (cl : Cell), Stand p l e ({ frames := 1, cells := 65, slots := 64, locals := 15 } : Room) s m #[(.ref a1)] below meth c Tl lo cn 64 → Tl.heap = hl → cn + n ≤ 65 → Exa Z hl a1 "com/example/grant4/grant4/store/KeyLocks" → Fld Z hl a1 "com/example/grant4/grant4/store/KeyLocks" "stripes" "[Ljava/lang/Object;" (.ref b2) → Arr Z hl b2 cl (.object "java/lang/Object") → cl.cls = k2 → cl.slots.size = 64 → (∀ k, k < i → cl.slots[k]? = some (.ref (f k))) → (∀ k, k < i → f k < hl.size) → (∀ j k, j < k → k < i → f j < f k) → Keep h0 hl [a1] → Fr n0 lo → n0 ≤ hl.size → (∀ t, Steps p.tables e below (Tl.setTop (mkF m 15 #[.val (.ref a1), .val (.int (Int32.ofNat i))] [])) t → Steps p.tables e below (s₁.setTop (entryFrame m #[(.ref a1)] 2)) t) →
      ∃ (T' : State) (lo' : List Loc) (h' : Heap) (f' : Nat → Addr), Stand p l e ({ frames := 1, cells := 65, slots := 64, locals := 15 } : Room) s m #[(.ref a1)] below meth c T' lo' 65 64 ∧ T'.heap = h' ∧ Exa Z h' a1 "com/example/grant4/grant4/store/KeyLocks" ∧ Fld Z h' a1 "com/example/grant4/grant4/store/KeyLocks" "stripes" "[Ljava/lang/Object;" (.ref b2) ∧ own_Str Z h' b2 f' ∧ (∀ j k, j < k → k < 64 → f' j < f' k) ∧ Keep h0 h' [a1] ∧ Fr n0 lo' ∧ ∀ t, Steps p.tables e below (T'.setTop (mkF m 40 #[.val (.ref a1), .val (.int (64 : Int32))] [])) t → Steps p.tables e below (s₁.setTop (entryFrame m #[(.ref a1)] 2)) t := by
    intro n
    induction n with
    | zero =>
      intro i hi Tl lo cn hl f cl Xl el hcn El Fl Al ql Sl hk hf hm Kl Nl Zl Pl
      obtain rfl : i = 64 := by omega
      have P16 : ∀ t, Steps p.tables e below (Tl.setTop (mkF m 40 #[.val (.ref a1), .val (.int (64 : Int32))] [])) t → Steps p.tables e below (s₁.setTop (entryFrame m #[(.ref a1)] 2)) t := by
        intro t k
        refine Pl t ?_
        show Steps p.tables e below (Tl.setTop (mkF m 15 #[.val (.ref a1), .val (.int (64 : Int32))] [])) _
        refine XS.iloadN Xl.here hx rfl (hb hby d1_15) rfl ?_
        show Steps p.tables e below (Tl.setTop (mkF m 16 #[.val (.ref a1), .val (.int (64 : Int32))] [(.int (64 : Int32))])) _
        refine XS.bipush Xl.here hx rfl (hb hby d1_16) ?_
        show Steps p.tables e below (Tl.setTop (mkF m 18 #[.val (.ref a1), .val (.int (64 : Int32))] [(.int (64 : Int32)), (.int (64 : Int32))])) _
        refine XS.icmpYes Xl.here hx rfl (pc0 := 18) (pc' := 40) rfl (hb hby d1_18) rfl (flt (by decide : ¬ ((64 : Int32) < (64 : Int32)))).2.1 (by decide) (by decide) ?_
        exact k
      exact ⟨Tl, lo, hl, f, Xl.more (by omega) (Nat.le_refl _), el, El, Fl, ⟨cl, Al, Sl, hk⟩, hm, Kl, Nl, P16⟩
    | succ n ih =>
      intro i hi Tl lo cn hl f cl Xl el hcn El Fl Al ql Sl hk hf hm Kl Nl Zl Pl
      have hi64 : i < 64 := by omega
      have hc18_17 : (Int32.ofNat i) < (64 : Int32) := own_ilt hi64
      obtain ⟨T18, X18, e18, st18⟩ := getF Xl hx hZ hown (host := "") (Or.inl (hw _ (List.mem_of_getElem? (i := 12) rfl))) Via.refl el Fl (g := (mkF m 22 #[.val (.ref a1), .val (.int (Int32.ofNat i))] [(.ref a1)])) rfl rfl (hb hby d1_22)
      obtain ⟨T19, h19, X19, e19, E19, A19, D19, -, st19⟩ := newO X18 hx hZ hown (hw _ (List.mem_of_getElem? (i := 10) rfl)) (hw _ (List.mem_of_getElem? (i := 14) rfl)) (hw _ (List.mem_of_getElem? (i := 15) rfl)) e18 (g := (mkF m 26 #[.val (.ref a1), .val (.int (Int32.ofNat i))] [(.int (Int32.ofNat i)), (.ref b2)])) rfl (hb hby d1_26) (by show cn + 1 ≤ (65 : Nat); omega) (by show 64 + 0 ≤ (64 : Nat); omega)
      obtain ⟨b19, g19⟩ : ∃ z, z = hl.size := ⟨_, rfl⟩
      rw [← g19] at A19 D19 st19
      have ne20 : a1 ≠ b19 := Nat.ne_of_lt (Nat.lt_of_lt_of_le El.lt (Nat.le_of_eq g19.symm))
      have ne21 : b2 ≠ b19 := Nat.ne_of_lt (Nat.lt_of_lt_of_le Al.lt (Nat.le_of_eq g19.symm))
      have g_b19 : n0 ≤ b19 := Nat.le_trans Zl (Nat.le_of_eq g19.symm)
      have sz_b19 : h0.size ≤ b19 := Nat.le_trans Kl.1 (Nat.le_of_eq g19.symm)
      have F22 : Exa Z h19 a1 "com/example/grant4/grant4/store/KeyLocks" := El.ext E19
      have F23 : Fld Z h19 a1 "com/example/grant4/grant4/store/KeyLocks" "stripes" "[Ljava/lang/Object;" (.ref b2) := Fl.ext E19
      have F24 : Arr Z h19 b2 cl (.object "java/lang/Object") := Al.ext E19
      have Z25 : n0 ≤ h19.size := Nat.le_trans Zl E19.1
      have K26 : Keep h0 h19 [a1] := Kl.ext E19
      obtain ⟨T27, X27, e27, st27⟩ := initO X19 hx hZ hown (hw _ (List.mem_of_getElem? (i := 7) rfl)) (hw _ (List.mem_of_getElem? (i := 8) rfl)) (hw _ (List.mem_of_getElem? (i := 9) rfl)) e19 (g := (mkF m 30 #[.val (.ref a1), .val (.int (Int32.ofNat i))] [(.ref b19), (.ref b19), (.int (Int32.ofNat i)), (.ref b2)])) rfl (by rw [hml]; rfl) rfl (hb hby d1_30) (by decide) (W := 3) (by show 2 * 0 + _ ≤ _; exact Nat.le_of_eq rfl) (by decide)
      have hsl : cl.slots.size = (64 : Int32).toNatClampNeg := Sl
      obtain ⟨T28, h28, X28, e28, W28, st28⟩ := stR X27 hx hZ e27 F24 (j := (Int32.ofNat i)) (inb_of hsl ⟨own_i0 hi64, own_ilt hi64⟩) rfl (Sto.of F24 (ql ▸ O2) (Ins.self A19)) (g := (mkF m 33 #[.val (.ref a1), .val (.int (Int32.ofNat i))] [(.ref b19), (.int (Int32.ofNat i)), (.ref b2)])) rfl rfl (hb hby d1_33)
      have Ar28 : Arr Z h28 b2 (cl.setSlot ((Int32.ofNat i)).toNatClampNeg (.ref b19)) (.object "java/lang/Object") := F24.same W28
      have F29 : Exa Z h28 a1 "com/example/grant4/grant4/store/KeyLocks" := F22.wr W28
      have F30 : Fld Z h28 a1 "com/example/grant4/grant4/store/KeyLocks" "stripes" "[Ljava/lang/Object;" (.ref b2) := F23.other W28 (Or.inl ne3)
      have F31 : Exa Z h28 b19 "java/lang/Object" := A19.wr W28
      have Z32 : n0 ≤ h28.size := Nat.le_trans Z25 (Keep.of_wr W28).1
      have K33 : Keep h0 h28 [a1] := K26.wr W28 (Or.inr sz_b2)
      have N34 := Fr.snoc X28 Nl g_b2
      have P35 : ∀ t, Steps p.tables e below (T28.setTop (mkF m 15 #[.val (.ref a1), .val (.int ((Int32.ofNat i) + (1 : Int32)))] [])) t → Steps p.tables e below (s₁.setTop (entryFrame m #[(.ref a1)] 2)) t := by
        intro t k
        refine Pl t ?_
        show Steps p.tables e below (Tl.setTop (mkF m 15 #[.val (.ref a1), .val (.int (Int32.ofNat i))] [])) _
        refine XS.iloadN Xl.here hx rfl (hb hby d1_15) rfl ?_
        show Steps p.tables e below (Tl.setTop (mkF m 16 #[.val (.ref a1), .val (.int (Int32.ofNat i))] [(.int (Int32.ofNat i))])) _
        refine XS.bipush Xl.here hx rfl (hb hby d1_16) ?_
        show Steps p.tables e below (Tl.setTop (mkF m 18 #[.val (.ref a1), .val (.int (Int32.ofNat i))] [(.int (64 : Int32)), (.int (Int32.ofNat i))])) _
        refine XS.icmpNo Xl.here hx rfl (hb hby d1_18) rfl (tlt hc18_17).2.1 ?_
        show Steps p.tables e below (Tl.setTop (mkF m 21 #[.val (.ref a1), .val (.int (Int32.ofNat i))] [])) _
        refine XS.aloadN Xl.here hx rfl (hb hby d1_21) rfl rfl ?_
        show Steps p.tables e below (Tl.setTop (mkF m 22 #[.val (.ref a1), .val (.int (Int32.ofNat i))] [(.ref a1)])) _
        refine st18 _ ?_
        show Steps p.tables e below (T18.setTop (mkF m 25 #[.val (.ref a1), .val (.int (Int32.ofNat i))] [(.ref b2)])) _
        refine XS.iloadN X18.here hx rfl (hb hby d1_25) rfl ?_
        show Steps p.tables e below (T18.setTop (mkF m 26 #[.val (.ref a1), .val (.int (Int32.ofNat i))] [(.int (Int32.ofNat i)), (.ref b2)])) _
        refine st19 _ ?_
        show Steps p.tables e below (T19.setTop (mkF m 29 #[.val (.ref a1), .val (.int (Int32.ofNat i))] [(.ref b19), (.int (Int32.ofNat i)), (.ref b2)])) _
        refine XS.dup X19.here hx rfl (hb hby d1_29) rfl rfl ?_
        show Steps p.tables e below (T19.setTop (mkF m 30 #[.val (.ref a1), .val (.int (Int32.ofNat i))] [(.ref b19), (.ref b19), (.int (Int32.ofNat i)), (.ref b2)])) _
        refine st27 _ ?_
        show Steps p.tables e below (T27.setTop (mkF m 33 #[.val (.ref a1), .val (.int (Int32.ofNat i))] [(.ref b19), (.int (Int32.ofNat i)), (.ref b2)])) _
        refine st28 _ ?_
        show Steps p.tables e below (T28.setTop (mkF m 34 #[.val (.ref a1), .val (.int (Int32.ofNat i))] [])) _
        refine XS.iinc X28.here hx rfl (hb hby d1_34) rfl (l' := #[.val (.ref a1), .val (.int ((Int32.ofNat i) + (1 : Int32)))]) rfl ?_
        show Steps p.tables e below (T28.setTop (mkF m 37 #[.val (.ref a1), .val (.int ((Int32.ofNat i) + (1 : Int32)))] [])) _
        refine XS.goto X28.here hx rfl (pc0 := 37) (pc' := 15) rfl (hb hby d1_37) (by decide) (by decide) ?_
        exact k
      have Aq : Arr Z h28 b2 (cl.setSlot i (.ref b19)) (.object "java/lang/Object") := by
        have q := Ar28
        rw [own_inat hi64] at q
        exact q
      have P36 : ∀ t, Steps p.tables e below (T28.setTop (mkF m 15 #[.val (.ref a1), .val (.int (Int32.ofNat (i + 1)))] [])) t → Steps p.tables e below (s₁.setTop (entryFrame m #[(.ref a1)] 2)) t := by rw [← own_isucc hi64]; exact P35
      have hbl : b19 < h28.size := F31.lt
      have hle : hl.size ≤ h28.size := Nat.le_trans E19.1 (Nat.le_of_eq W28.size.symm)
      have hbs : b19 = hl.size := g19
      exact ih (i + 1) (by omega) T28 _ (cn + 1) h28 (fun k => if k = i then b19 else f k) _ X28 e28 (by omega) F29 F30 Aq ql (by simp [Cell.setSlot, Sl]) (own_set Sl hi64 hk) (fun k h => by
        by_cases e : k = i
        · simp only [e, if_true]; exact hbl
        · simp only [e, if_false]; exact Nat.lt_of_lt_of_le (hf k (by omega)) hle) (fun j k h1 h2 => by
        by_cases e : k = i
        · have e3 : ¬ j = i := by omega
          simp only [e, e3, if_true, if_false]; exact Nat.lt_of_lt_of_le (hf j (by omega)) (Nat.le_of_eq hbs.symm)
        · have e3 : ¬ j = i := by omega
          simp only [e, e3, if_false]; exact hm j k h1 (by omega)) K33 N34 Z32 P36
  obtain ⟨Te, le, he, fe, Xe, ee, Ee, Fe, Se, me, Ke, Ne, Pe⟩ := loop 64 0 rfl T8 _ 1 h8 (fun _ => 0) co15 X8 e8 (by omega) F9 Fw8 Ao15 qo15 So15 (fun k h => absurd h (Nat.not_lt_zero k)) (fun k h => absurd h (Nat.not_lt_zero k)) (fun j k h1 h2 => absurd h2 (Nat.not_lt_zero k)) K12 N13 Z11 P14
  obtain ⟨fs, hr, hrun, hended, hW, hsame⟩ := Xe.leave (v := none) (fun _ => rfl)
  refine ⟨_, _, Pe _ ?_, hrun, hended, _, _, rfl, ?_, ⟨_, rfl⟩, hW, hsame.mono (by decide) (by decide)⟩
  · show Steps p.tables e below (Te.setTop (mkF m 40 #[.val (.ref a1), .val (.int (64 : Int32))] [])) _
    exact Xe.returnOut hx Bd.returns (hb hby d1_40) hr
  · show Q1 Z a1 h0 n0 _ Te.heap _
    rw [ee]
    exact ⟨b2, fe, rfl, Ne, Ke, Ee, Fe, Se, me⟩
theorem own_fm1 (z : Int32) (h : ¬ ((z ^^^ (64 : Int32)) < (0 : Int32))) : (z % (64 : Int32)).toInt = z.toInt % 64 := by
  rw [Int32.lt_iff_toInt_lt] at h
  have x := c_xorS z 64
  have e0 : (0 : Int32).toInt = 0 := rfl
  have e64 : (64 : Int32).toInt = 64 := rfl
  rw [e64] at x
  have q := c_irem z 64 64 rfl
  rcases Int.lt_or_le z.toInt 0 with g | g
  · have := x.2.1 g (by omega); omega
  · exact q.1 g
theorem own_fm2 (z : Int32) (h : (z ^^^ (64 : Int32)) < (0 : Int32)) : z.toInt < 0 := by
  rw [Int32.lt_iff_toInt_lt] at h
  have x := c_xorS z 64
  have e0 : (0 : Int32).toInt = 0 := rfl
  have e64 : (64 : Int32).toInt = 64 := rfl
  rw [e64] at x
  rcases Int.lt_or_le z.toInt 0 with g | g
  · exact g
  · have := x.2.2.2 g (by omega); omega
theorem own_fm3 (z : Int32) (h : (z ^^^ (64 : Int32)) < (0 : Int32)) (h2 : (z % (64 : Int32)) = (0 : Int32)) : (z % (64 : Int32)).toInt = z.toInt % 64 := by
  have g := own_fm2 z h
  have q := (c_irem z 64 64 rfl).2 g
  rw [h2] at q ⊢
  have e0 : (0 : Int32).toInt = 0 := rfl
  omega
theorem own_fm4 (z : Int32) (h : (z ^^^ (64 : Int32)) < (0 : Int32)) (h2 : ¬ ((z % (64 : Int32)) = (0 : Int32))) : ((z % (64 : Int32)) + (64 : Int32)).toInt = z.toInt % 64 := by
  have g := own_fm2 z h
  have q := (c_irem z 64 64 rfl).2 g
  rw [← Int32.toInt_inj] at h2
  have e0 : (0 : Int32).toInt = 0 := rfl
  have e64 : (64 : Int32).toInt = 64 := rfl
  have a := c_iadd (z % (64 : Int32)) 64
  have r := rng32 ((z % (64 : Int32)) + (64 : Int32))
  omega
theorem d5_0 : decode jdk_29_method_50_code 0 = .ok (.iload_n 0, 1) := by decide +kernel
theorem d5_1 : decode jdk_29_method_50_code 1 = .ok (.iload_n 1, 1) := by decide +kernel
theorem d5_2 : decode jdk_29_method_50_code 2 = .ok (.irem, 1) := by decide +kernel
theorem d5_3 : decode jdk_29_method_50_code 3 = .ok (.istore_n 2, 1) := by decide +kernel
theorem d5_4 : decode jdk_29_method_50_code 4 = .ok (.iload_n 0, 1) := by decide +kernel
theorem d5_5 : decode jdk_29_method_50_code 5 = .ok (.iload_n 1, 1) := by decide +kernel
theorem d5_6 : decode jdk_29_method_50_code 6 = .ok (.ixor, 1) := by decide +kernel
theorem d5_7 : decode jdk_29_method_50_code 7 = .ok (.ifCond .ge 11, 3) := by decide +kernel
theorem d5_10 : decode jdk_29_method_50_code 10 = .ok (.iload_n 2, 1) := by decide +kernel
theorem d5_11 : decode jdk_29_method_50_code 11 = .ok (.ifCond .eq 7, 3) := by decide +kernel
theorem d5_18 : decode jdk_29_method_50_code 18 = .ok (.iload_n 2, 1) := by decide +kernel
theorem d5_19 : decode jdk_29_method_50_code 19 = .ok (.ireturn, 1) := by decide +kernel
theorem d5_14 : decode jdk_29_method_50_code 14 = .ok (.iload_n 2, 1) := by decide +kernel
theorem d5_15 : decode jdk_29_method_50_code 15 = .ok (.iload_n 1, 1) := by decide +kernel
theorem d5_16 : decode jdk_29_method_50_code 16 = .ok (.iadd, 1) := by decide +kernel
theorem d5_17 : decode jdk_29_method_50_code 17 = .ok (.ireturn, 1) := by decide +kernel
theorem ef_5 (m : MethodId) (p1 : Int32) : entryFrame m #[(.int p1), (.int (64 : Int32))] 3 = mkF m 0 #[.val (.int p1), .val (.int (64 : Int32)), .unset] [] := by first | (simp [entryFrame, mkF, argsToLocals, Value.category]; done) | rfl
def Q5 (Z : State) (p1 : Int32) (h0 : Heap) (n0 : Nat) (v : Option Value) (h : Heap) (L : List Loc) : Prop := ∃ (r : Int32), v = some (.int r) ∧ Fr n0 L ∧ (r.toInt = p1.toInt % 64) ∧ h = h0
set_option maxRecDepth 65536 in
set_option maxHeartbeats 40000000 in
theorem rm5 (l : Launch) (Z : State) (a0 : Array Value) (hw : ∀ d ∈ tables_1, d.before a0 Z = true) (ws : List Jvm.Cond) (p1 : Int32) (h0 : Heap) (n0 : Nat) (Z0 : n0 ≤ h0.size)  :
    MetFree l (⟨"java/lang/Math", "floorMod", "(II)I"⟩ : MethodName) (head1 (Jvm.Cond.code (⟨"java/lang/Math", "floorMod", "(II)I"⟩ : MethodName) jdk_29_method_50_code 3 (some .int) :: ws) ({ frames := 0, cells := 0, slots := 0, locals := 0 } : Room)) (fun a U => a = #[(.int p1), (.int (64 : Int32))] ∧ Z.Warmed39 U.vm ∧ U.heap = h0) (fun _ _ _ _ _ => True) (fun _ U o U' => ∃ v L, o = .returned v ∧ Q5 Z p1 h0 n0 v U'.heap L ∧ FrameEnd U o U' L ({ frames := 0, cells := 0, slots := 0, locals := 0 } : Room).cells ({ frames := 0, cells := 0, slots := 0, locals := 0 } : Room).slots) := by
  refine MetFree.of_bodySF (Jvm.Free.JP.mathPlain rfl (by decide +kernel)) hisR ?_
  intro p e s m args below meth c s₁ Bd hml0 hP hK
  obtain ⟨rfl, hZ, hh⟩ := hP
  have hx := Bd.exec
  have hby := Bd.bytes
  have hml : c.maxLocals = 3 := hml0
  have hown : s.vm.findClass "java/lang/Math" = some m.cls := findClass_of_methodNamed Bd.named
  have hnm := (name_of_methodNamed Bd.named Bd.method).1
  have X0 : Stand p l e ({ frames := 0, cells := 0, slots := 0, locals := 0 } : Room) s m #[(.int p1), (.int (64 : Int32))] below meth c s₁ [] 0 0 := Stand.of_body Bd
  have e0 : s₁.heap = h0 := by rw [← hh, Bd.state]; rfl
  have N0 := Fr.nil n0
  have pre0 : ∀ t, Steps p.tables e below (s₁.setTop (mkF m 0 #[.val (.int p1), .val (.int (64 : Int32)), .unset] [])) t → Steps p.tables e below (s₁.setTop (entryFrame m #[(.int p1), (.int (64 : Int32))] 3)) t := fun t k => castTop (ef_5 m p1) k
  have P1 : ∀ t, Steps p.tables e below (s₁.setTop (mkF m 7 #[.val (.int p1), .val (.int (64 : Int32)), .val (.int (p1 % (64 : Int32)))] [(.int (p1 ^^^ (64 : Int32)))])) t → Steps p.tables e below (s₁.setTop (entryFrame m #[(.int p1), (.int (64 : Int32))] 3)) t := by
    intro t k
    refine pre0 t ?_
    show Steps p.tables e below (s₁.setTop (mkF m 0 #[.val (.int p1), .val (.int (64 : Int32)), .unset] [])) _
    refine XS.iloadN X0.here hx rfl (hb hby d5_0) rfl ?_
    show Steps p.tables e below (s₁.setTop (mkF m 1 #[.val (.int p1), .val (.int (64 : Int32)), .unset] [(.int p1)])) _
    refine XS.iloadN X0.here hx rfl (hb hby d5_1) rfl ?_
    show Steps p.tables e below (s₁.setTop (mkF m 2 #[.val (.int p1), .val (.int (64 : Int32)), .unset] [(.int (64 : Int32)), (.int p1)])) _
    refine iremM X0 hx rfl (hb hby d5_2) rfl (by decide) ?_
    show Steps p.tables e below (s₁.setTop (mkF m 3 #[.val (.int p1), .val (.int (64 : Int32)), .unset] [(.int (p1 % (64 : Int32)))])) _
    refine XS.istoreN X0.here hx rfl (hb hby d5_3) rfl (l' := #[.val (.int p1), .val (.int (64 : Int32)), .val (.int (p1 % (64 : Int32)))]) rfl ?_
    show Steps p.tables e below (s₁.setTop (mkF m 4 #[.val (.int p1), .val (.int (64 : Int32)), .val (.int (p1 % (64 : Int32)))] [])) _
    refine XS.iloadN X0.here hx rfl (hb hby d5_4) rfl ?_
    show Steps p.tables e below (s₁.setTop (mkF m 5 #[.val (.int p1), .val (.int (64 : Int32)), .val (.int (p1 % (64 : Int32)))] [(.int p1)])) _
    refine XS.iloadN X0.here hx rfl (hb hby d5_5) rfl ?_
    show Steps p.tables e below (s₁.setTop (mkF m 6 #[.val (.int p1), .val (.int (64 : Int32)), .val (.int (p1 % (64 : Int32)))] [(.int (64 : Int32)), (.int p1)])) _
    refine XS.ixor X0.here hx rfl (hb hby d5_6) rfl ?_
    exact k
  by_cases h1 : (p1 ^^^ (64 : Int32)) < (0 : Int32)
  · have P2 : ∀ t, Steps p.tables e below (s₁.setTop (mkF m 11 #[.val (.int p1), .val (.int (64 : Int32)), .val (.int (p1 % (64 : Int32)))] [(.int (p1 % (64 : Int32)))])) t → Steps p.tables e below (s₁.setTop (entryFrame m #[(.int p1), (.int (64 : Int32))] 3)) t := by
      intro t k
      refine P1 t ?_
      show Steps p.tables e below (s₁.setTop (mkF m 7 #[.val (.int p1), .val (.int (64 : Int32)), .val (.int (p1 % (64 : Int32)))] [(.int (p1 ^^^ (64 : Int32)))])) _
      refine XS.ifNo X0.here hx rfl (hb hby d5_7) rfl ((if0 _ _).trans (tlt h1).2.1) ?_
      show Steps p.tables e below (s₁.setTop (mkF m 10 #[.val (.int p1), .val (.int (64 : Int32)), .val (.int (p1 % (64 : Int32)))] [])) _
      refine XS.iloadN X0.here hx rfl (hb hby d5_10) rfl ?_
      exact k
    by_cases h2 : (p1 % (64 : Int32)) = (0 : Int32)
    · obtain ⟨fs, hr, hrun, hended, hW, hsame⟩ := X0.leave (v := some (.int (p1 % (64 : Int32)))) (fun h => by rw [Bd.returns] at h; cases h)
      refine ⟨_, _, P2 _ ?_, hrun, hended, _, _, rfl, ?_, ⟨_, rfl⟩, hW, hsame.mono (by decide) (by decide)⟩
      · show Steps p.tables e below (s₁.setTop (mkF m 11 #[.val (.int p1), .val (.int (64 : Int32)), .val (.int (p1 % (64 : Int32)))] [(.int (p1 % (64 : Int32)))])) _
        refine XS.ifYes X0.here hx rfl (pc0 := 11) (pc' := 18) rfl (hb hby d5_11) rfl ((if0 _ _).trans (teq h2).1) (by decide) (by decide) ?_
        show Steps p.tables e below (s₁.setTop (mkF m 18 #[.val (.int p1), .val (.int (64 : Int32)), .val (.int (p1 % (64 : Int32)))] [])) _
        refine XS.iloadN X0.here hx rfl (hb hby d5_18) rfl ?_
        show Steps p.tables e below (s₁.setTop (mkF m 19 #[.val (.int p1), .val (.int (64 : Int32)), .val (.int (p1 % (64 : Int32)))] [(.int (p1 % (64 : Int32)))])) _
        exact retI X0 hx Bd.returns (hb hby d5_19) hr
      · show Q5 Z p1 h0 n0 _ s₁.heap _
        rw [e0]
        exact ⟨(p1 % (64 : Int32)), rfl, N0, own_fm3 p1 h1 h2, rfl⟩
    · obtain ⟨fs, hr, hrun, hended, hW, hsame⟩ := X0.leave (v := some (.int ((p1 % (64 : Int32)) + (64 : Int32)))) (fun h => by rw [Bd.returns] at h; cases h)
      refine ⟨_, _, P2 _ ?_, hrun, hended, _, _, rfl, ?_, ⟨_, rfl⟩, hW, hsame.mono (by decide) (by decide)⟩
      · show Steps p.tables e below (s₁.setTop (mkF m 11 #[.val (.int p1), .val (.int (64 : Int32)), .val (.int (p1 % (64 : Int32)))] [(.int (p1 % (64 : Int32)))])) _
        refine XS.ifNo X0.here hx rfl (hb hby d5_11) rfl ((if0 _ _).trans (feq h2).1) ?_
        show Steps p.tables e below (s₁.setTop (mkF m 14 #[.val (.int p1), .val (.int (64 : Int32)), .val (.int (p1 % (64 : Int32)))] [])) _
        refine XS.iloadN X0.here hx rfl (hb hby d5_14) rfl ?_
        show Steps p.tables e below (s₁.setTop (mkF m 15 #[.val (.int p1), .val (.int (64 : Int32)), .val (.int (p1 % (64 : Int32)))] [(.int (p1 % (64 : Int32)))])) _
        refine XS.iloadN X0.here hx rfl (hb hby d5_15) rfl ?_
        show Steps p.tables e below (s₁.setTop (mkF m 16 #[.val (.int p1), .val (.int (64 : Int32)), .val (.int (p1 % (64 : Int32)))] [(.int (64 : Int32)), (.int (p1 % (64 : Int32)))])) _
        refine XS.iadd X0.here hx rfl (hb hby d5_16) rfl ?_
        show Steps p.tables e below (s₁.setTop (mkF m 17 #[.val (.int p1), .val (.int (64 : Int32)), .val (.int (p1 % (64 : Int32)))] [(.int ((p1 % (64 : Int32)) + (64 : Int32)))])) _
        exact retI X0 hx Bd.returns (hb hby d5_17) hr
      · show Q5 Z p1 h0 n0 _ s₁.heap _
        rw [e0]
        exact ⟨((p1 % (64 : Int32)) + (64 : Int32)), rfl, N0, own_fm4 p1 h1 h2, rfl⟩
  · obtain ⟨fs, hr, hrun, hended, hW, hsame⟩ := X0.leave (v := some (.int (p1 % (64 : Int32)))) (fun h => by rw [Bd.returns] at h; cases h)
    refine ⟨_, _, P1 _ ?_, hrun, hended, _, _, rfl, ?_, ⟨_, rfl⟩, hW, hsame.mono (by decide) (by decide)⟩
    · show Steps p.tables e below (s₁.setTop (mkF m 7 #[.val (.int p1), .val (.int (64 : Int32)), .val (.int (p1 % (64 : Int32)))] [(.int (p1 ^^^ (64 : Int32)))])) _
      refine XS.ifYes X0.here hx rfl (pc0 := 7) (pc' := 18) rfl (hb hby d5_7) rfl ((if0 _ _).trans (flt h1).2.1) (by decide) (by decide) ?_
      show Steps p.tables e below (s₁.setTop (mkF m 18 #[.val (.int p1), .val (.int (64 : Int32)), .val (.int (p1 % (64 : Int32)))] [])) _
      refine XS.iloadN X0.here hx rfl (hb hby d5_18) rfl ?_
      show Steps p.tables e below (s₁.setTop (mkF m 19 #[.val (.int p1), .val (.int (64 : Int32)), .val (.int (p1 % (64 : Int32)))] [(.int (p1 % (64 : Int32)))])) _
      exact retI X0 hx Bd.returns (hb hby d5_19) hr
    · show Q5 Z p1 h0 n0 _ s₁.heap _
      rw [e0]
      exact ⟨(p1 % (64 : Int32)), rfl, N0, own_fm1 p1 h1, rfl⟩
theorem pn_1 : plainName "java/util/Arrays" = true := by first | (simp [plainName, overriddenIn]; done) | decide +kernel
theorem d4_0 : decode jdk_65_method_153_code 0 = .ok (.aload_n 0, 1) := by decide +kernel
theorem d4_1 : decode jdk_65_method_153_code 1 = .ok (.ifnonnull 5, 3) := by decide +kernel
theorem d4_6 : decode jdk_65_method_153_code 6 = .ok (.aload_n 0, 1) := by decide +kernel
theorem d4_7 : decode jdk_65_method_153_code 7 = .ok (.arraylength, 1) := by decide +kernel
theorem d4_8 : decode jdk_65_method_153_code 8 = .ok (.lookupswitch 41 #[(0, 28), (1, 32)], 28) := by decide +kernel
theorem d4_36 : decode jdk_65_method_153_code 36 = .ok (.iconst 1, 1) := by decide +kernel
theorem d4_37 : decode jdk_65_method_153_code 37 = .ok (.goto 22, 3) := by decide +kernel
theorem d4_59 : decode jdk_65_method_153_code 59 = .ok (.ireturn, 1) := by decide +kernel
theorem ef_4_0 (m : MethodId) (a1 : Addr) : entryFrame m #[(.ref a1)] 1 = mkF m 0 #[.val (.ref a1)] [] := by first | (simp [entryFrame, mkF, argsToLocals, Value.category]; done) | rfl
def Q4_0 (Z : State) (a1 : Addr) (kk : ClassId) (h0 : Heap) (n0 : Nat) (v : Option Value) (h : Heap) (L : List Loc) : Prop := v = some (.int (1 : Int32)) ∧ Fr n0 L ∧ h = h0
set_option maxRecDepth 65536 in
set_option maxHeartbeats 40000000 in
theorem rm4_0 (l : Launch) (Z : State) (a0 : Array Value) (hw : ∀ d ∈ tables_1, d.before a0 Z = true) (ws : List Jvm.Cond) (a1 : Addr) (kk : ClassId) (h0 : Heap) (n0 : Nat) (Z0 : n0 ≤ h0.size) (HV0 : Arv Z h0 a1 kk .byte (0 : Int32) [] (.int (0 : Int32))) (HE1 : Exa Z h0 a1 "[B") :
    MetFree l (⟨"java/util/Arrays", "hashCode", "([B)I"⟩ : MethodName) (head1 (Jvm.Cond.code (⟨"java/util/Arrays", "hashCode", "([B)I"⟩ : MethodName) jdk_65_method_153_code 1 (some .int) :: ws) ({ frames := 0, cells := 0, slots := 0, locals := 0 } : Room)) (fun a U => a = #[(.ref a1)] ∧ Z.Warmed39 U.vm ∧ U.heap = h0) (fun _ _ _ _ _ => True) (fun _ U o U' => ∃ v L, o = .returned v ∧ Q4_0 Z a1 kk h0 n0 v U'.heap L ∧ FrameEnd U o U' L ({ frames := 0, cells := 0, slots := 0, locals := 0 } : Room).cells ({ frames := 0, cells := 0, slots := 0, locals := 0 } : Room).slots) := by
  refine MetFree.of_bodySF (plainFor_of_name pn_1) hisR ?_
  intro p e s m args below meth c s₁ Bd hml0 hP hK
  obtain ⟨rfl, hZ, hh⟩ := hP
  have hx := Bd.exec
  have hby := Bd.bytes
  have hml : c.maxLocals = 1 := hml0
  have hown : s.vm.findClass "java/util/Arrays" = some m.cls := findClass_of_methodNamed Bd.named
  have hnm := (name_of_methodNamed Bd.named Bd.method).1
  have X0 : Stand p l e ({ frames := 0, cells := 0, slots := 0, locals := 0 } : Room) s m #[(.ref a1)] below meth c s₁ [] 0 0 := Stand.of_body Bd
  have e0 : s₁.heap = h0 := by rw [← hh, Bd.state]; rfl
  have N0 := Fr.nil n0
  have pre0 : ∀ t, Steps p.tables e below (s₁.setTop (mkF m 0 #[.val (.ref a1)] [])) t → Steps p.tables e below (s₁.setTop (entryFrame m #[(.ref a1)] 1)) t := fun t k => castTop (ef_4_0 m a1) k
  obtain ⟨co1, Ao1, qo1, So1, Mo1, Bo1, Go1⟩ := id HV0
  obtain ⟨fs, hr, hrun, hended, hW, hsame⟩ := X0.leave (v := some (.int (1 : Int32))) (fun h => by rw [Bd.returns] at h; cases h)
  refine ⟨_, _, pre0 _ ?_, hrun, hended, _, _, rfl, ?_, ⟨_, rfl⟩, hW, hsame.mono (by decide) (by decide)⟩
  · show Steps p.tables e below (s₁.setTop (mkF m 0 #[.val (.ref a1)] [])) _
    refine XS.aloadN X0.here hx rfl (hb hby d4_0) rfl rfl ?_
    show Steps p.tables e below (s₁.setTop (mkF m 1 #[.val (.ref a1)] [(.ref a1)])) _
    refine XS.ifnonnullYes X0.here hx rfl (pc0 := 1) (pc' := 6) rfl (hb hby d4_1) rfl (by decide) (by decide) ?_
    show Steps p.tables e below (s₁.setTop (mkF m 6 #[.val (.ref a1)] [])) _
    refine XS.aloadN X0.here hx rfl (hb hby d4_6) rfl rfl ?_
    show Steps p.tables e below (s₁.setTop (mkF m 7 #[.val (.ref a1)] [(.ref a1)])) _
    refine X0.arraylength hx (by rw [e0]; exact Ao1.1) (State.isArrayOf_alike hZ.alike Ao1.2.1) (g := (mkF m 7 #[.val (.ref a1)] [(.ref a1)])) rfl rfl (hb hby d4_7) _ ?_
    rw [len_of So1 Mo1]
    show Steps p.tables e below (s₁.setTop (mkF m 8 #[.val (.ref a1)] [(.int (0 : Int32))])) _
    refine X0.lookupswitchHit hx (g := (mkF m 8 #[.val (.ref a1)] [(.int (0 : Int32))])) rfl rfl (hb hby d4_8) (by decide) (a := 0) (off := 28) (by decide) (by show (0 : Int) ≤ ((8 : Nat) : Int) + (28); decide) _ ?_
    show Steps p.tables e below (s₁.setTop (mkF m 36 #[.val (.ref a1)] [])) _
    refine XS.iconst X0.here hx rfl (hb hby d4_36) ?_
    show Steps p.tables e below (s₁.setTop (mkF m 37 #[.val (.ref a1)] [(.int (1 : Int32))])) _
    refine XS.goto X0.here hx rfl (pc0 := 37) (pc' := 59) rfl (hb hby d4_37) (by decide) (by decide) ?_
    show Steps p.tables e below (s₁.setTop (mkF m 59 #[.val (.ref a1)] [(.int (1 : Int32))])) _
    exact retI X0 hx Bd.returns (hb hby d4_59) hr
  · show Q4_0 Z a1 kk h0 n0 _ s₁.heap _
    rw [e0]
    exact ⟨rfl, N0, rfl⟩
theorem d4_40 : decode jdk_65_method_153_code 40 = .ok (.bipush 31, 2) := by decide +kernel
theorem d4_42 : decode jdk_65_method_153_code 42 = .ok (.aload_n 0, 1) := by decide +kernel
theorem d4_43 : decode jdk_65_method_153_code 43 = .ok (.iconst 0, 1) := by decide +kernel
theorem d4_44 : decode jdk_65_method_153_code 44 = .ok (.baload, 1) := by decide +kernel
theorem d4_45 : decode jdk_65_method_153_code 45 = .ok (.iadd, 1) := by decide +kernel
theorem d4_46 : decode jdk_65_method_153_code 46 = .ok (.goto 13, 3) := by decide +kernel
theorem ef_4_1 (m : MethodId) (a1 : Addr) : entryFrame m #[(.ref a1)] 1 = mkF m 0 #[.val (.ref a1)] [] := by first | (simp [entryFrame, mkF, argsToLocals, Value.category]; done) | rfl
def Q4_1 (Z : State) (a1 : Addr) (kk : ClassId) (w0 : Int32) (h0 : Heap) (n0 : Nat) (v : Option Value) (h : Heap) (L : List Loc) : Prop := v = some (.int ((31 : Int32) + w0)) ∧ Fr n0 L ∧ h = h0
set_option maxRecDepth 65536 in
set_option maxHeartbeats 40000000 in
theorem rm4_1 (l : Launch) (Z : State) (a0 : Array Value) (hw : ∀ d ∈ tables_1, d.before a0 Z = true) (ws : List Jvm.Cond) (a1 : Addr) (kk : ClassId) (w0 : Int32) (h0 : Heap) (n0 : Nat) (Z0 : n0 ≤ h0.size) (HV0 : Arv Z h0 a1 kk .byte (1 : Int32) [(.int w0)] (.int (0 : Int32))) (HE1 : Exa Z h0 a1 "[B") :
    MetFree l (⟨"java/util/Arrays", "hashCode", "([B)I"⟩ : MethodName) (head1 (Jvm.Cond.code (⟨"java/util/Arrays", "hashCode", "([B)I"⟩ : MethodName) jdk_65_method_153_code 1 (some .int) :: ws) ({ frames := 0, cells := 0, slots := 0, locals := 0 } : Room)) (fun a U => a = #[(.ref a1)] ∧ Z.Warmed39 U.vm ∧ U.heap = h0) (fun _ _ _ _ _ => True) (fun _ U o U' => ∃ v L, o = .returned v ∧ Q4_1 Z a1 kk w0 h0 n0 v U'.heap L ∧ FrameEnd U o U' L ({ frames := 0, cells := 0, slots := 0, locals := 0 } : Room).cells ({ frames := 0, cells := 0, slots := 0, locals := 0 } : Room).slots) := by
  refine MetFree.of_bodySF (plainFor_of_name pn_1) hisR ?_
  intro p e s m args below meth c s₁ Bd hml0 hP hK
  obtain ⟨rfl, hZ, hh⟩ := hP
  have hx := Bd.exec
  have hby := Bd.bytes
  have hml : c.maxLocals = 1 := hml0
  have hown : s.vm.findClass "java/util/Arrays" = some m.cls := findClass_of_methodNamed Bd.named
  have hnm := (name_of_methodNamed Bd.named Bd.method).1
  have X0 : Stand p l e ({ frames := 0, cells := 0, slots := 0, locals := 0 } : Room) s m #[(.ref a1)] below meth c s₁ [] 0 0 := Stand.of_body Bd
  have e0 : s₁.heap = h0 := by rw [← hh, Bd.state]; rfl
  have N0 := Fr.nil n0
  have pre0 : ∀ t, Steps p.tables e below (s₁.setTop (mkF m 0 #[.val (.ref a1)] [])) t → Steps p.tables e below (s₁.setTop (entryFrame m #[(.ref a1)] 1)) t := fun t k => castTop (ef_4_1 m a1) k
  obtain ⟨co1, Ao1, qo1, So1, Mo1, Bo1, Go1⟩ := id HV0
  obtain ⟨co2, Ao2, qo2, So2, Mo2, Bo2, Go2⟩ := id HV0
  obtain ⟨fs, hr, hrun, hended, hW, hsame⟩ := X0.leave (v := some (.int ((31 : Int32) + w0))) (fun h => by rw [Bd.returns] at h; cases h)
  refine ⟨_, _, pre0 _ ?_, hrun, hended, _, _, rfl, ?_, ⟨_, rfl⟩, hW, hsame.mono (by decide) (by decide)⟩
  · show Steps p.tables e below (s₁.setTop (mkF m 0 #[.val (.ref a1)] [])) _
    refine XS.aloadN X0.here hx rfl (hb hby d4_0) rfl rfl ?_
    show Steps p.tables e below (s₁.setTop (mkF m 1 #[.val (.ref a1)] [(.ref a1)])) _
    refine XS.ifnonnullYes X0.here hx rfl (pc0 := 1) (pc' := 6) rfl (hb hby d4_1) rfl (by decide) (by decide) ?_
    show Steps p.tables e below (s₁.setTop (mkF m 6 #[.val (.ref a1)] [])) _
    refine XS.aloadN X0.here hx rfl (hb hby d4_6) rfl rfl ?_
    show Steps p.tables e below (s₁.setTop (mkF m 7 #[.val (.ref a1)] [(.ref a1)])) _
    refine X0.arraylength hx (by rw [e0]; exact Ao1.1) (State.isArrayOf_alike hZ.alike Ao1.2.1) (g := (mkF m 7 #[.val (.ref a1)] [(.ref a1)])) rfl rfl (hb hby d4_7) _ ?_
    rw [len_of So1 Mo1]
    show Steps p.tables e below (s₁.setTop (mkF m 8 #[.val (.ref a1)] [(.int (1 : Int32))])) _
    refine X0.lookupswitchHit hx (g := (mkF m 8 #[.val (.ref a1)] [(.int (1 : Int32))])) rfl rfl (hb hby d4_8) (by decide) (a := 1) (off := 32) (by decide) (by show (0 : Int) ≤ ((8 : Nat) : Int) + (32); decide) _ ?_
    show Steps p.tables e below (s₁.setTop (mkF m 40 #[.val (.ref a1)] [])) _
    refine XS.bipush X0.here hx rfl (hb hby d4_40) ?_
    show Steps p.tables e below (s₁.setTop (mkF m 42 #[.val (.ref a1)] [(.int (31 : Int32))])) _
    refine XS.aloadN X0.here hx rfl (hb hby d4_42) rfl rfl ?_
    show Steps p.tables e below (s₁.setTop (mkF m 43 #[.val (.ref a1)] [(.ref a1), (.int (31 : Int32))])) _
    refine XS.iconst X0.here hx rfl (hb hby d4_43) ?_
    show Steps p.tables e below (s₁.setTop (mkF m 44 #[.val (.ref a1)] [(.int (0 : Int32)), (.ref a1), (.int (31 : Int32))])) _
    refine X0.baloadBytes hx (j := (0 : Int32)) (v := (.int w0)) (by rw [e0]; exact Ao2.1) (State.isArrayOf_alike hZ.alike Ao2.2.1) Ao2.2.2 (inb_of So2 ⟨(by decide), (by decide)⟩) (Has.at Bo2 (inb_of So2 ⟨(by decide), (by decide)⟩) rfl) (g := (mkF m 44 #[.val (.ref a1)] [(.int (0 : Int32)), (.ref a1), (.int (31 : Int32))])) rfl rfl (hb hby d4_44) _ ?_
    show Steps p.tables e below (s₁.setTop (mkF m 45 #[.val (.ref a1)] [(.int w0), (.int (31 : Int32))])) _
    refine XS.iadd X0.here hx rfl (hb hby d4_45) rfl ?_
    show Steps p.tables e below (s₁.setTop (mkF m 46 #[.val (.ref a1)] [(.int ((31 : Int32) + w0))])) _
    refine XS.goto X0.here hx rfl (pc0 := 46) (pc' := 59) rfl (hb hby d4_46) (by decide) (by decide) ?_
    show Steps p.tables e below (s₁.setTop (mkF m 59 #[.val (.ref a1)] [(.int ((31 : Int32) + w0))])) _
    exact retI X0 hx Bd.returns (hb hby d4_59) hr
  · show Q4_1 Z a1 kk w0 h0 n0 _ s₁.heap _
    rw [e0]
    exact ⟨rfl, N0, rfl⟩
theorem pn_2 : plainName "jdk/internal/util/ArraysSupport" = true := by first | (simp [plainName, overriddenIn]; done) | decide +kernel
theorem d7_0 : decode jdk_48_method_6_code 0 = .ok (.iload_n 2, 1) := by decide +kernel
theorem d7_1 : decode jdk_48_method_6_code 1 = .ok (.iload_n 3, 1) := by decide +kernel
theorem d7_2 : decode jdk_48_method_6_code 2 = .ok (.iadd, 1) := by decide +kernel
theorem d7_3 : decode jdk_48_method_6_code 3 = .ok (.istore 4, 2) := by decide +kernel
theorem d7_5 : decode jdk_48_method_6_code 5 = .ok (.iload_n 2, 1) := by decide +kernel
theorem d7_6 : decode jdk_48_method_6_code 6 = .ok (.istore 5, 2) := by decide +kernel
theorem d7_8 : decode jdk_48_method_6_code 8 = .ok (.iload 5, 2) := by decide +kernel
theorem d7_10 : decode jdk_48_method_6_code 10 = .ok (.iload 4, 2) := by decide +kernel
theorem d7_12 : decode jdk_48_method_6_code 12 = .ok (.if_icmp .ge 19, 3) := by decide +kernel
theorem d7_15 : decode jdk_48_method_6_code 15 = .ok (.bipush 31, 2) := by decide +kernel
theorem d7_17 : decode jdk_48_method_6_code 17 = .ok (.iload_n 0, 1) := by decide +kernel
theorem d7_18 : decode jdk_48_method_6_code 18 = .ok (.imul, 1) := by decide +kernel
theorem d7_19 : decode jdk_48_method_6_code 19 = .ok (.aload_n 1, 1) := by decide +kernel
theorem d7_20 : decode jdk_48_method_6_code 20 = .ok (.iload 5, 2) := by decide +kernel
theorem d7_22 : decode jdk_48_method_6_code 22 = .ok (.baload, 1) := by decide +kernel
theorem d7_23 : decode jdk_48_method_6_code 23 = .ok (.iadd, 1) := by decide +kernel
theorem d7_24 : decode jdk_48_method_6_code 24 = .ok (.istore_n 0, 1) := by decide +kernel
theorem d7_25 : decode jdk_48_method_6_code 25 = .ok (.iinc 5 1, 3) := by decide +kernel
theorem d7_28 : decode jdk_48_method_6_code 28 = .ok (.goto (-20), 3) := by decide +kernel
theorem d7_31 : decode jdk_48_method_6_code 31 = .ok (.iload_n 0, 1) := by decide +kernel
theorem d7_32 : decode jdk_48_method_6_code 32 = .ok (.ireturn, 1) := by decide +kernel
theorem ef_7_2 (m : MethodId) (a1 : Addr) : entryFrame m #[(.int (1 : Int32)), (.ref a1), (.int (0 : Int32)), (.int (2 : Int32))] 6 = mkF m 0 #[.val (.int (1 : Int32)), .val (.ref a1), .val (.int (0 : Int32)), .val (.int (2 : Int32)), .unset, .unset] [] := by first | (simp [entryFrame, mkF, argsToLocals, Value.category]; done) | rfl
def Q7_2 (Z : State) (a1 : Addr) (kk : ClassId) (w0 : Int32) (w1 : Int32) (h0 : Heap) (n0 : Nat) (v : Option Value) (h : Heap) (L : List Loc) : Prop := v = some (.int (((31 : Int32) * ((31 : Int32) + w0)) + w1)) ∧ Fr n0 L ∧ h = h0
set_option maxRecDepth 65536 in
set_option maxHeartbeats 40000000 in
theorem rm7_2 (l : Launch) (Z : State) (a0 : Array Value) (hw : ∀ d ∈ tables_1, d.before a0 Z = true) (ws : List Jvm.Cond) (a1 : Addr) (kk : ClassId) (w0 : Int32) (w1 : Int32) (h0 : Heap) (n0 : Nat) (Z0 : n0 ≤ h0.size) (HV0 : Arv Z h0 a1 kk .byte (2 : Int32) [(.int w0), (.int w1)] (.int (0 : Int32))) :
    MetFree l (⟨"jdk/internal/util/ArraysSupport", "hashCode", "(I[BII)I"⟩ : MethodName) (head1 (Jvm.Cond.code (⟨"jdk/internal/util/ArraysSupport", "hashCode", "(I[BII)I"⟩ : MethodName) jdk_48_method_6_code 6 (some .int) :: ws) ({ frames := 0, cells := 0, slots := 0, locals := 0 } : Room)) (fun a U => a = #[(.int (1 : Int32)), (.ref a1), (.int (0 : Int32)), (.int (2 : Int32))] ∧ Z.Warmed39 U.vm ∧ U.heap = h0) (fun _ _ _ _ _ => True) (fun _ U o U' => ∃ v L, o = .returned v ∧ Q7_2 Z a1 kk w0 w1 h0 n0 v U'.heap L ∧ FrameEnd U o U' L ({ frames := 0, cells := 0, slots := 0, locals := 0 } : Room).cells ({ frames := 0, cells := 0, slots := 0, locals := 0 } : Room).slots) := by
  refine MetFree.of_bodySF (plainFor_of_name pn_2) hisR ?_
  intro p e s m args below meth c s₁ Bd hml0 hP hK
  obtain ⟨rfl, hZ, hh⟩ := hP
  have hx := Bd.exec
  have hby := Bd.bytes
  have hml : c.maxLocals = 6 := hml0
  have hown : s.vm.findClass "jdk/internal/util/ArraysSupport" = some m.cls := findClass_of_methodNamed Bd.named
  have hnm := (name_of_methodNamed Bd.named Bd.method).1
  have X0 : Stand p l e ({ frames := 0, cells := 0, slots := 0, locals := 0 } : Room) s m #[(.int (1 : Int32)), (.ref a1), (.int (0 : Int32)), (.int (2 : Int32))] below meth c s₁ [] 0 0 := Stand.of_body Bd
  have e0 : s₁.heap = h0 := by rw [← hh, Bd.state]; rfl
  have N0 := Fr.nil n0
  have pre0 : ∀ t, Steps p.tables e below (s₁.setTop (mkF m 0 #[.val (.int (1 : Int32)), .val (.ref a1), .val (.int (0 : Int32)), .val (.int (2 : Int32)), .unset, .unset] [])) t → Steps p.tables e below (s₁.setTop (entryFrame m #[(.int (1 : Int32)), (.ref a1), (.int (0 : Int32)), (.int (2 : Int32))] 6)) t := fun t k => castTop (ef_7_2 m a1) k
  obtain ⟨co1, Ao1, qo1, So1, Mo1, Bo1, Go1⟩ := id HV0
  obtain ⟨co2, Ao2, qo2, So2, Mo2, Bo2, Go2⟩ := id HV0
  obtain ⟨fs, hr, hrun, hended, hW, hsame⟩ := X0.leave (v := some (.int (((31 : Int32) * ((31 : Int32) + w0)) + w1))) (fun h => by rw [Bd.returns] at h; cases h)
  refine ⟨_, _, pre0 _ ?_, hrun, hended, _, _, rfl, ?_, ⟨_, rfl⟩, hW, hsame.mono (by decide) (by decide)⟩
  · show Steps p.tables e below (s₁.setTop (mkF m 0 #[.val (.int (1 : Int32)), .val (.ref a1), .val (.int (0 : Int32)), .val (.int (2 : Int32)), .unset, .unset] [])) _
    refine XS.iloadN X0.here hx rfl (hb hby d7_0) rfl ?_
    show Steps p.tables e below (s₁.setTop (mkF m 1 #[.val (.int (1 : Int32)), .val (.ref a1), .val (.int (0 : Int32)), .val (.int (2 : Int32)), .unset, .unset] [(.int (0 : Int32))])) _
    refine XS.iloadN X0.here hx rfl (hb hby d7_1) rfl ?_
    show Steps p.tables e below (s₁.setTop (mkF m 2 #[.val (.int (1 : Int32)), .val (.ref a1), .val (.int (0 : Int32)), .val (.int (2 : Int32)), .unset, .unset] [(.int (2 : Int32)), (.int (0 : Int32))])) _
    refine XS.iadd X0.here hx rfl (hb hby d7_2) rfl ?_
    show Steps p.tables e below (s₁.setTop (mkF m 3 #[.val (.int (1 : Int32)), .val (.ref a1), .val (.int (0 : Int32)), .val (.int (2 : Int32)), .unset, .unset] [(.int (2 : Int32))])) _
    refine XS.istore X0.here hx rfl (hb hby d7_3) rfl (l' := #[.val (.int (1 : Int32)), .val (.ref a1), .val (.int (0 : Int32)), .val (.int (2 : Int32)), .val (.int (2 : Int32)), .unset]) rfl ?_
    show Steps p.tables e below (s₁.setTop (mkF m 5 #[.val (.int (1 : Int32)), .val (.ref a1), .val (.int (0 : Int32)), .val (.int (2 : Int32)), .val (.int (2 : Int32)), .unset] [])) _
    refine XS.iloadN X0.here hx rfl (hb hby d7_5) rfl ?_
    show Steps p.tables e below (s₁.setTop (mkF m 6 #[.val (.int (1 : Int32)), .val (.ref a1), .val (.int (0 : Int32)), .val (.int (2 : Int32)), .val (.int (2 : Int32)), .unset] [(.int (0 : Int32))])) _
    refine XS.istore X0.here hx rfl (hb hby d7_6) rfl (l' := #[.val (.int (1 : Int32)), .val (.ref a1), .val (.int (0 : Int32)), .val (.int (2 : Int32)), .val (.int (2 : Int32)), .val (.int (0 : Int32))]) rfl ?_
    show Steps p.tables e below (s₁.setTop (mkF m 8 #[.val (.int (1 : Int32)), .val (.ref a1), .val (.int (0 : Int32)), .val (.int (2 : Int32)), .val (.int (2 : Int32)), .val (.int (0 : Int32))] [])) _
    refine XS.iload X0.here hx rfl (hb hby d7_8) rfl ?_
    show Steps p.tables e below (s₁.setTop (mkF m 10 #[.val (.int (1 : Int32)), .val (.ref a1), .val (.int (0 : Int32)), .val (.int (2 : Int32)), .val (.int (2 : Int32)), .val (.int (0 : Int32))] [(.int (0 : Int32))])) _
    refine XS.iload X0.here hx rfl (hb hby d7_10) rfl ?_
    show Steps p.tables e below (s₁.setTop (mkF m 12 #[.val (.int (1 : Int32)), .val (.ref a1), .val (.int (0 : Int32)), .val (.int (2 : Int32)), .val (.int (2 : Int32)), .val (.int (0 : Int32))] [(.int (2 : Int32)), (.int (0 : Int32))])) _
    refine XS.icmpNo X0.here hx rfl (hb hby d7_12) rfl (tlt (by decide : (0 : Int32) < (2 : Int32))).2.1 ?_
    show Steps p.tables e below (s₁.setTop (mkF m 15 #[.val (.int (1 : Int32)), .val (.ref a1), .val (.int (0 : Int32)), .val (.int (2 : Int32)), .val (.int (2 : Int32)), .val (.int (0 : Int32))] [])) _
    refine XS.bipush X0.here hx rfl (hb hby d7_15) ?_
    show Steps p.tables e below (s₁.setTop (mkF m 17 #[.val (.int (1 : Int32)), .val (.ref a1), .val (.int (0 : Int32)), .val (.int (2 : Int32)), .val (.int (2 : Int32)), .val (.int (0 : Int32))] [(.int (31 : Int32))])) _
    refine XS.iloadN X0.here hx rfl (hb hby d7_17) rfl ?_
    show Steps p.tables e below (s₁.setTop (mkF m 18 #[.val (.int (1 : Int32)), .val (.ref a1), .val (.int (0 : Int32)), .val (.int (2 : Int32)), .val (.int (2 : Int32)), .val (.int (0 : Int32))] [(.int (1 : Int32)), (.int (31 : Int32))])) _
    refine XS.imul X0.here hx rfl (hb hby d7_18) rfl ?_
    show Steps p.tables e below (s₁.setTop (mkF m 19 #[.val (.int (1 : Int32)), .val (.ref a1), .val (.int (0 : Int32)), .val (.int (2 : Int32)), .val (.int (2 : Int32)), .val (.int (0 : Int32))] [(.int (31 : Int32))])) _
    refine XS.aloadN X0.here hx rfl (hb hby d7_19) rfl rfl ?_
    show Steps p.tables e below (s₁.setTop (mkF m 20 #[.val (.int (1 : Int32)), .val (.ref a1), .val (.int (0 : Int32)), .val (.int (2 : Int32)), .val (.int (2 : Int32)), .val (.int (0 : Int32))] [(.ref a1), (.int (31 : Int32))])) _
    refine XS.iload X0.here hx rfl (hb hby d7_20) rfl ?_
    show Steps p.tables e below (s₁.setTop (mkF m 22 #[.val (.int (1 : Int32)), .val (.ref a1), .val (.int (0 : Int32)), .val (.int (2 : Int32)), .val (.int (2 : Int32)), .val (.int (0 : Int32))] [(.int (0 : Int32)), (.ref a1), (.int (31 : Int32))])) _
    refine X0.baloadBytes hx (j := (0 : Int32)) (v := (.int w0)) (by rw [e0]; exact Ao1.1) (State.isArrayOf_alike hZ.alike Ao1.2.1) Ao1.2.2 (inb_of So1 ⟨(by decide), (by decide)⟩) (Has.at Bo1 (inb_of So1 ⟨(by decide), (by decide)⟩) rfl) (g := (mkF m 22 #[.val (.int (1 : Int32)), .val (.ref a1), .val (.int (0 : Int32)), .val (.int (2 : Int32)), .val (.int (2 : Int32)), .val (.int (0 : Int32))] [(.int (0 : Int32)), (.ref a1), (.int (31 : Int32))])) rfl rfl (hb hby d7_22) _ ?_
    show Steps p.tables e below (s₁.setTop (mkF m 23 #[.val (.int (1 : Int32)), .val (.ref a1), .val (.int (0 : Int32)), .val (.int (2 : Int32)), .val (.int (2 : Int32)), .val (.int (0 : Int32))] [(.int w0), (.int (31 : Int32))])) _
    refine XS.iadd X0.here hx rfl (hb hby d7_23) rfl ?_
    show Steps p.tables e below (s₁.setTop (mkF m 24 #[.val (.int (1 : Int32)), .val (.ref a1), .val (.int (0 : Int32)), .val (.int (2 : Int32)), .val (.int (2 : Int32)), .val (.int (0 : Int32))] [(.int ((31 : Int32) + w0))])) _
    refine XS.istoreN X0.here hx rfl (hb hby d7_24) rfl (l' := #[.val (.int ((31 : Int32) + w0)), .val (.ref a1), .val (.int (0 : Int32)), .val (.int (2 : Int32)), .val (.int (2 : Int32)), .val (.int (0 : Int32))]) rfl ?_
    show Steps p.tables e below (s₁.setTop (mkF m 25 #[.val (.int ((31 : Int32) + w0)), .val (.ref a1), .val (.int (0 : Int32)), .val (.int (2 : Int32)), .val (.int (2 : Int32)), .val (.int (0 : Int32))] [])) _
    refine XS.iinc X0.here hx rfl (hb hby d7_25) rfl (l' := #[.val (.int ((31 : Int32) + w0)), .val (.ref a1), .val (.int (0 : Int32)), .val (.int (2 : Int32)), .val (.int (2 : Int32)), .val (.int (1 : Int32))]) rfl ?_
    show Steps p.tables e below (s₁.setTop (mkF m 28 #[.val (.int ((31 : Int32) + w0)), .val (.ref a1), .val (.int (0 : Int32)), .val (.int (2 : Int32)), .val (.int (2 : Int32)), .val (.int (1 : Int32))] [])) _
    refine XS.goto X0.here hx rfl (pc0 := 28) (pc' := 8) rfl (hb hby d7_28) (by decide) (by decide) ?_
    show Steps p.tables e below (s₁.setTop (mkF m 8 #[.val (.int ((31 : Int32) + w0)), .val (.ref a1), .val (.int (0 : Int32)), .val (.int (2 : Int32)), .val (.int (2 : Int32)), .val (.int (1 : Int32))] [])) _
    refine XS.iload X0.here hx rfl (hb hby d7_8) rfl ?_
    show Steps p.tables e below (s₁.setTop (mkF m 10 #[.val (.int ((31 : Int32) + w0)), .val (.ref a1), .val (.int (0 : Int32)), .val (.int (2 : Int32)), .val (.int (2 : Int32)), .val (.int (1 : Int32))] [(.int (1 : Int32))])) _
    refine XS.iload X0.here hx rfl (hb hby d7_10) rfl ?_
    show Steps p.tables e below (s₁.setTop (mkF m 12 #[.val (.int ((31 : Int32) + w0)), .val (.ref a1), .val (.int (0 : Int32)), .val (.int (2 : Int32)), .val (.int (2 : Int32)), .val (.int (1 : Int32))] [(.int (2 : Int32)), (.int (1 : Int32))])) _
    refine XS.icmpNo X0.here hx rfl (hb hby d7_12) rfl (tlt (by decide : (1 : Int32) < (2 : Int32))).2.1 ?_
    show Steps p.tables e below (s₁.setTop (mkF m 15 #[.val (.int ((31 : Int32) + w0)), .val (.ref a1), .val (.int (0 : Int32)), .val (.int (2 : Int32)), .val (.int (2 : Int32)), .val (.int (1 : Int32))] [])) _
    refine XS.bipush X0.here hx rfl (hb hby d7_15) ?_
    show Steps p.tables e below (s₁.setTop (mkF m 17 #[.val (.int ((31 : Int32) + w0)), .val (.ref a1), .val (.int (0 : Int32)), .val (.int (2 : Int32)), .val (.int (2 : Int32)), .val (.int (1 : Int32))] [(.int (31 : Int32))])) _
    refine XS.iloadN X0.here hx rfl (hb hby d7_17) rfl ?_
    show Steps p.tables e below (s₁.setTop (mkF m 18 #[.val (.int ((31 : Int32) + w0)), .val (.ref a1), .val (.int (0 : Int32)), .val (.int (2 : Int32)), .val (.int (2 : Int32)), .val (.int (1 : Int32))] [(.int ((31 : Int32) + w0)), (.int (31 : Int32))])) _
    refine XS.imul X0.here hx rfl (hb hby d7_18) rfl ?_
    show Steps p.tables e below (s₁.setTop (mkF m 19 #[.val (.int ((31 : Int32) + w0)), .val (.ref a1), .val (.int (0 : Int32)), .val (.int (2 : Int32)), .val (.int (2 : Int32)), .val (.int (1 : Int32))] [(.int ((31 : Int32) * ((31 : Int32) + w0)))])) _
    refine XS.aloadN X0.here hx rfl (hb hby d7_19) rfl rfl ?_
    show Steps p.tables e below (s₁.setTop (mkF m 20 #[.val (.int ((31 : Int32) + w0)), .val (.ref a1), .val (.int (0 : Int32)), .val (.int (2 : Int32)), .val (.int (2 : Int32)), .val (.int (1 : Int32))] [(.ref a1), (.int ((31 : Int32) * ((31 : Int32) + w0)))])) _
    refine XS.iload X0.here hx rfl (hb hby d7_20) rfl ?_
    show Steps p.tables e below (s₁.setTop (mkF m 22 #[.val (.int ((31 : Int32) + w0)), .val (.ref a1), .val (.int (0 : Int32)), .val (.int (2 : Int32)), .val (.int (2 : Int32)), .val (.int (1 : Int32))] [(.int (1 : Int32)), (.ref a1), (.int ((31 : Int32) * ((31 : Int32) + w0)))])) _
    refine X0.baloadBytes hx (j := (1 : Int32)) (v := (.int w1)) (by rw [e0]; exact Ao2.1) (State.isArrayOf_alike hZ.alike Ao2.2.1) Ao2.2.2 (inb_of So2 ⟨(by decide), (by decide)⟩) (Has.at Bo2 (inb_of So2 ⟨(by decide), (by decide)⟩) rfl) (g := (mkF m 22 #[.val (.int ((31 : Int32) + w0)), .val (.ref a1), .val (.int (0 : Int32)), .val (.int (2 : Int32)), .val (.int (2 : Int32)), .val (.int (1 : Int32))] [(.int (1 : Int32)), (.ref a1), (.int ((31 : Int32) * ((31 : Int32) + w0)))])) rfl rfl (hb hby d7_22) _ ?_
    show Steps p.tables e below (s₁.setTop (mkF m 23 #[.val (.int ((31 : Int32) + w0)), .val (.ref a1), .val (.int (0 : Int32)), .val (.int (2 : Int32)), .val (.int (2 : Int32)), .val (.int (1 : Int32))] [(.int w1), (.int ((31 : Int32) * ((31 : Int32) + w0)))])) _
    refine XS.iadd X0.here hx rfl (hb hby d7_23) rfl ?_
    show Steps p.tables e below (s₁.setTop (mkF m 24 #[.val (.int ((31 : Int32) + w0)), .val (.ref a1), .val (.int (0 : Int32)), .val (.int (2 : Int32)), .val (.int (2 : Int32)), .val (.int (1 : Int32))] [(.int (((31 : Int32) * ((31 : Int32) + w0)) + w1))])) _
    refine XS.istoreN X0.here hx rfl (hb hby d7_24) rfl (l' := #[.val (.int (((31 : Int32) * ((31 : Int32) + w0)) + w1)), .val (.ref a1), .val (.int (0 : Int32)), .val (.int (2 : Int32)), .val (.int (2 : Int32)), .val (.int (1 : Int32))]) rfl ?_
    show Steps p.tables e below (s₁.setTop (mkF m 25 #[.val (.int (((31 : Int32) * ((31 : Int32) + w0)) + w1)), .val (.ref a1), .val (.int (0 : Int32)), .val (.int (2 : Int32)), .val (.int (2 : Int32)), .val (.int (1 : Int32))] [])) _
    refine XS.iinc X0.here hx rfl (hb hby d7_25) rfl (l' := #[.val (.int (((31 : Int32) * ((31 : Int32) + w0)) + w1)), .val (.ref a1), .val (.int (0 : Int32)), .val (.int (2 : Int32)), .val (.int (2 : Int32)), .val (.int (2 : Int32))]) rfl ?_
    show Steps p.tables e below (s₁.setTop (mkF m 28 #[.val (.int (((31 : Int32) * ((31 : Int32) + w0)) + w1)), .val (.ref a1), .val (.int (0 : Int32)), .val (.int (2 : Int32)), .val (.int (2 : Int32)), .val (.int (2 : Int32))] [])) _
    refine XS.goto X0.here hx rfl (pc0 := 28) (pc' := 8) rfl (hb hby d7_28) (by decide) (by decide) ?_
    show Steps p.tables e below (s₁.setTop (mkF m 8 #[.val (.int (((31 : Int32) * ((31 : Int32) + w0)) + w1)), .val (.ref a1), .val (.int (0 : Int32)), .val (.int (2 : Int32)), .val (.int (2 : Int32)), .val (.int (2 : Int32))] [])) _
    refine XS.iload X0.here hx rfl (hb hby d7_8) rfl ?_
    show Steps p.tables e below (s₁.setTop (mkF m 10 #[.val (.int (((31 : Int32) * ((31 : Int32) + w0)) + w1)), .val (.ref a1), .val (.int (0 : Int32)), .val (.int (2 : Int32)), .val (.int (2 : Int32)), .val (.int (2 : Int32))] [(.int (2 : Int32))])) _
    refine XS.iload X0.here hx rfl (hb hby d7_10) rfl ?_
    show Steps p.tables e below (s₁.setTop (mkF m 12 #[.val (.int (((31 : Int32) * ((31 : Int32) + w0)) + w1)), .val (.ref a1), .val (.int (0 : Int32)), .val (.int (2 : Int32)), .val (.int (2 : Int32)), .val (.int (2 : Int32))] [(.int (2 : Int32)), (.int (2 : Int32))])) _
    refine XS.icmpYes X0.here hx rfl (pc0 := 12) (pc' := 31) rfl (hb hby d7_12) rfl (flt (by decide : ¬ ((2 : Int32) < (2 : Int32)))).2.1 (by decide) (by decide) ?_
    show Steps p.tables e below (s₁.setTop (mkF m 31 #[.val (.int (((31 : Int32) * ((31 : Int32) + w0)) + w1)), .val (.ref a1), .val (.int (0 : Int32)), .val (.int (2 : Int32)), .val (.int (2 : Int32)), .val (.int (2 : Int32))] [])) _
    refine XS.iloadN X0.here hx rfl (hb hby d7_31) rfl ?_
    show Steps p.tables e below (s₁.setTop (mkF m 32 #[.val (.int (((31 : Int32) * ((31 : Int32) + w0)) + w1)), .val (.ref a1), .val (.int (0 : Int32)), .val (.int (2 : Int32)), .val (.int (2 : Int32)), .val (.int (2 : Int32))] [(.int (((31 : Int32) * ((31 : Int32) + w0)) + w1))])) _
    exact retI X0 hx Bd.returns (hb hby d7_32) hr
  · show Q7_2 Z a1 kk w0 w1 h0 n0 _ s₁.heap _
    rw [e0]
    exact ⟨rfl, N0, rfl⟩
theorem d6_0 : decode jdk_48_method_4_code 0 = .ok (.iload 4, 2) := by decide +kernel
theorem d6_2 : decode jdk_48_method_4_code 2 = .ok (.tableswitch 127 4 10 #[42, 55, 127, 127, 88, 101, 114], 42) := by decide +kernel
theorem d6_90 : decode jdk_48_method_4_code 90 = .ok (.iload_n 3, 1) := by decide +kernel
theorem d6_91 : decode jdk_48_method_4_code 91 = .ok (.aload_n 0, 1) := by decide +kernel
theorem d6_92 : decode jdk_48_method_4_code 92 = .ok (.checkcast 60, 3) := by decide +kernel
theorem d6_95 : decode jdk_48_method_4_code 95 = .ok (.iload_n 1, 1) := by decide +kernel
theorem d6_96 : decode jdk_48_method_4_code 96 = .ok (.iload_n 2, 1) := by decide +kernel
theorem d6_97 : decode jdk_48_method_4_code 97 = .ok (.invokestatic 75, 3) := by decide +kernel
theorem pd_0 : parseMethodDescriptor "(I[BII)I" = some ⟨[.int, (.array .byte), .int, .int], some .int⟩ := by decide +kernel
theorem d6_100 : decode jdk_48_method_4_code 100 = .ok (.goto 57, 3) := by decide +kernel
theorem d6_157 : decode jdk_48_method_4_code 157 = .ok (.ireturn, 1) := by decide +kernel
theorem ef_6_2 (m : MethodId) (a1 : Addr) : entryFrame m #[(.ref a1), (.int (0 : Int32)), (.int (2 : Int32)), (.int (1 : Int32)), (.int (8 : Int32))] 5 = mkF m 0 #[.val (.ref a1), .val (.int (0 : Int32)), .val (.int (2 : Int32)), .val (.int (1 : Int32)), .val (.int (8 : Int32))] [] := by first | (simp [entryFrame, mkF, argsToLocals, Value.category]; done) | rfl
def Q6_2 (Z : State) (a1 : Addr) (kk : ClassId) (w0 : Int32) (w1 : Int32) (h0 : Heap) (n0 : Nat) (v : Option Value) (h : Heap) (L : List Loc) : Prop := v = some (.int (((31 : Int32) * ((31 : Int32) + w0)) + w1)) ∧ Fr n0 L ∧ h = h0
set_option maxRecDepth 65536 in
set_option maxHeartbeats 40000000 in
theorem rm6_2 (l : Launch) (Z : State) (a0 : Array Value) (hw : ∀ d ∈ tables_1, d.before a0 Z = true) (ws : List Jvm.Cond) (a1 : Addr) (kk : ClassId) (w0 : Int32) (w1 : Int32) (h0 : Heap) (n0 : Nat) (Z0 : n0 ≤ h0.size) (HV0 : Arv Z h0 a1 kk .byte (2 : Int32) [(.int w0), (.int w1)] (.int (0 : Int32))) (HE1 : Exa Z h0 a1 "[B") :
    MetFree l (⟨"jdk/internal/util/ArraysSupport", "vectorizedHashCode", "(Ljava/lang/Object;IIII)I"⟩ : MethodName) (head1 (Jvm.Cond.code (⟨"jdk/internal/util/ArraysSupport", "vectorizedHashCode", "(Ljava/lang/Object;IIII)I"⟩ : MethodName) jdk_48_method_4_code 5 (some .int) :: ws) ({ frames := 1, cells := 0, slots := 0, locals := 17 } : Room)) (fun a U => a = #[(.ref a1), (.int (0 : Int32)), (.int (2 : Int32)), (.int (1 : Int32)), (.int (8 : Int32))] ∧ Z.Warmed39 U.vm ∧ U.heap = h0) (fun _ _ _ _ _ => True) (fun _ U o U' => ∃ v L, o = .returned v ∧ Q6_2 Z a1 kk w0 w1 h0 n0 v U'.heap L ∧ FrameEnd U o U' L ({ frames := 1, cells := 0, slots := 0, locals := 17 } : Room).cells ({ frames := 1, cells := 0, slots := 0, locals := 17 } : Room).slots) := by
  refine MetFree.of_bodySF (plainFor_of_name pn_2) hisR ?_
  intro p e s m args below meth c s₁ Bd hml0 hP hK
  obtain ⟨rfl, hZ, hh⟩ := hP
  have hx := Bd.exec
  have hby := Bd.bytes
  have hml : c.maxLocals = 5 := hml0
  have hown : s.vm.findClass "jdk/internal/util/ArraysSupport" = some m.cls := findClass_of_methodNamed Bd.named
  have hnm := (name_of_methodNamed Bd.named Bd.method).1
  have X0 : Stand p l e ({ frames := 1, cells := 0, slots := 0, locals := 17 } : Room) s m #[(.ref a1), (.int (0 : Int32)), (.int (2 : Int32)), (.int (1 : Int32)), (.int (8 : Int32))] below meth c s₁ [] 0 0 := Stand.of_body Bd
  have e0 : s₁.heap = h0 := by rw [← hh, Bd.state]; rfl
  have N0 := Fr.nil n0
  have pre0 : ∀ t, Steps p.tables e below (s₁.setTop (mkF m 0 #[.val (.ref a1), .val (.int (0 : Int32)), .val (.int (2 : Int32)), .val (.int (1 : Int32)), .val (.int (8 : Int32))] [])) t → Steps p.tables e below (s₁.setTop (entryFrame m #[(.ref a1), (.int (0 : Int32)), (.int (2 : Int32)), (.int (1 : Int32)), (.int (8 : Int32))] 5)) t := fun t k => castTop (ef_6_2 m a1) k
  obtain ⟨T1, X1, e1, st1⟩ := castY X0 hx hZ hown (hw _ (List.mem_of_getElem? (i := 34) rfl)) e0 (Ins.self HE1) (g := (mkF m 92 #[.val (.ref a1), .val (.int (0 : Int32)), .val (.int (2 : Int32)), .val (.int (1 : Int32)), .val (.int (8 : Int32))] [(.ref a1), (.int (1 : Int32))])) rfl rfl (hb hby d6_92)
  obtain ⟨_, _, ⟨T2, L2, k2, n2⟩, -, X2, ⟨Lc2, hQ2, l2, y2, z2⟩, st2⟩ := Jvm.LawKit.callS X1 hx (y := (⟨"jdk/internal/util/ArraysSupport", "hashCode", "(I[BII)I"⟩ : MethodName)) hown (mvT hZ (hw _ (List.mem_of_getElem? (i := 36) rfl))) (mvT hZ (hw _ (List.mem_of_getElem? (i := 37) rfl))) (mvT hZ (hw _ (List.mem_of_getElem? (i := 32) rfl))) (mvT hZ (hw _ (List.mem_of_getElem? (i := 38) rfl))) (by decide) (backOf (W := 0) (rm7_2 l Z a0 hw [] a1 kk w0 w1 h0 n0 Z0 HV0) hZ (hw _ (List.mem_of_getElem? (i := 38) rfl)) (hw _ (List.mem_of_getElem? (i := 32) rfl)) (by decide) (by decide)) (g := (mkF m 97 #[.val (.ref a1), .val (.int (0 : Int32)), .val (.int (2 : Int32)), .val (.int (1 : Int32)), .val (.int (8 : Int32))] [(.int (2 : Int32)), (.int (0 : Int32)), (.ref a1), (.int (1 : Int32))])) rfl (by rw [hml]; rfl) (argsL := [(.int (1 : Int32)), (.ref a1), (.int (0 : Int32)), (.int (2 : Int32))]) (rest := []) (lenOf pd_0 rfl) rfl (by show 2 * 0 + _ ≤ _; exact Nat.le_of_eq rfl) (hb hby d6_97) (fun _ _ => ⟨rfl, e1, (by decide : 0 + 0 ≤ _), (by decide : 0 + 0 ≤ _)⟩)
  dsimp only [Pt.U, Pt.locs, Pt.cells, Pt.slots] at X2 l2 y2 z2 st2 hQ2
  subst l2 y2 z2
  obtain ⟨rfl, N2q, R3⟩ := hQ2
  have N2 := Fr.app N0 N2q
  obtain ⟨fs, hr, hrun, hended, hW, hsame⟩ := X2.leave (v := some (.int (((31 : Int32) * ((31 : Int32) + w0)) + w1))) (fun h => by rw [Bd.returns] at h; cases h)
  refine ⟨_, _, pre0 _ ?_, hrun, hended, _, _, rfl, ?_, ⟨_, rfl⟩, hW, hsame.mono (by decide) (by decide)⟩
  · show Steps p.tables e below (s₁.setTop (mkF m 0 #[.val (.ref a1), .val (.int (0 : Int32)), .val (.int (2 : Int32)), .val (.int (1 : Int32)), .val (.int (8 : Int32))] [])) _
    refine XS.iload X0.here hx rfl (hb hby d6_0) rfl ?_
    show Steps p.tables e below (s₁.setTop (mkF m 2 #[.val (.ref a1), .val (.int (0 : Int32)), .val (.int (2 : Int32)), .val (.int (1 : Int32)), .val (.int (8 : Int32))] [(.int (8 : Int32))])) _
    refine XS.tswIn X0.here hx rfl (pc0 := 2) (pc' := 90) rfl (hb hby d6_2) rfl (by decide) (o := 88) (by decide) (by decide) (by decide) ?_
    show Steps p.tables e below (s₁.setTop (mkF m 90 #[.val (.ref a1), .val (.int (0 : Int32)), .val (.int (2 : Int32)), .val (.int (1 : Int32)), .val (.int (8 : Int32))] [])) _
    refine XS.iloadN X0.here hx rfl (hb hby d6_90) rfl ?_
    show Steps p.tables e below (s₁.setTop (mkF m 91 #[.val (.ref a1), .val (.int (0 : Int32)), .val (.int (2 : Int32)), .val (.int (1 : Int32)), .val (.int (8 : Int32))] [(.int (1 : Int32))])) _
    refine XS.aloadN X0.here hx rfl (hb hby d6_91) rfl rfl ?_
    show Steps p.tables e below (s₁.setTop (mkF m 92 #[.val (.ref a1), .val (.int (0 : Int32)), .val (.int (2 : Int32)), .val (.int (1 : Int32)), .val (.int (8 : Int32))] [(.ref a1), (.int (1 : Int32))])) _
    refine st1 _ ?_
    show Steps p.tables e below (T1.setTop (mkF m 95 #[.val (.ref a1), .val (.int (0 : Int32)), .val (.int (2 : Int32)), .val (.int (1 : Int32)), .val (.int (8 : Int32))] [(.ref a1), (.int (1 : Int32))])) _
    refine XS.iloadN X1.here hx rfl (hb hby d6_95) rfl ?_
    show Steps p.tables e below (T1.setTop (mkF m 96 #[.val (.ref a1), .val (.int (0 : Int32)), .val (.int (2 : Int32)), .val (.int (1 : Int32)), .val (.int (8 : Int32))] [(.int (0 : Int32)), (.ref a1), (.int (1 : Int32))])) _
    refine XS.iloadN X1.here hx rfl (hb hby d6_96) rfl ?_
    show Steps p.tables e below (T1.setTop (mkF m 97 #[.val (.ref a1), .val (.int (0 : Int32)), .val (.int (2 : Int32)), .val (.int (1 : Int32)), .val (.int (8 : Int32))] [(.int (2 : Int32)), (.int (0 : Int32)), (.ref a1), (.int (1 : Int32))])) _
    refine st2 _ ?_
    show Steps p.tables e below (T2.setTop (mkF m 100 #[.val (.ref a1), .val (.int (0 : Int32)), .val (.int (2 : Int32)), .val (.int (1 : Int32)), .val (.int (8 : Int32))] [(.int (((31 : Int32) * ((31 : Int32) + w0)) + w1))])) _
    refine XS.goto X2.here hx rfl (pc0 := 100) (pc' := 157) rfl (hb hby d6_100) (by decide) (by decide) ?_
    show Steps p.tables e below (T2.setTop (mkF m 157 #[.val (.ref a1), .val (.int (0 : Int32)), .val (.int (2 : Int32)), .val (.int (1 : Int32)), .val (.int (8 : Int32))] [(.int (((31 : Int32) * ((31 : Int32) + w0)) + w1))])) _
    exact retI X2 hx Bd.returns (hb hby d6_157) hr
  · show Q6_2 Z a1 kk w0 w1 h0 n0 _ T2.heap _
    rw [R3]
    exact ⟨rfl, N2, rfl⟩
theorem d4_49 : decode jdk_65_method_153_code 49 = .ok (.aload_n 0, 1) := by decide +kernel
theorem d4_50 : decode jdk_65_method_153_code 50 = .ok (.iconst 0, 1) := by decide +kernel
theorem d4_51 : decode jdk_65_method_153_code 51 = .ok (.aload_n 0, 1) := by decide +kernel
theorem d4_52 : decode jdk_65_method_153_code 52 = .ok (.arraylength, 1) := by decide +kernel
theorem d4_53 : decode jdk_65_method_153_code 53 = .ok (.iconst 1, 1) := by decide +kernel
theorem d4_54 : decode jdk_65_method_153_code 54 = .ok (.bipush 8, 2) := by decide +kernel
theorem d4_56 : decode jdk_65_method_153_code 56 = .ok (.invokestatic 379, 3) := by decide +kernel
theorem pd_1 : parseMethodDescriptor "(Ljava/lang/Object;IIII)I" = some ⟨[(.object "java/lang/Object"), .int, .int, .int, .int], some .int⟩ := by decide +kernel
theorem ef_4_2 (m : MethodId) (a1 : Addr) : entryFrame m #[(.ref a1)] 1 = mkF m 0 #[.val (.ref a1)] [] := by first | (simp [entryFrame, mkF, argsToLocals, Value.category]; done) | rfl
def Q4_2 (Z : State) (a1 : Addr) (kk : ClassId) (w0 : Int32) (w1 : Int32) (h0 : Heap) (n0 : Nat) (v : Option Value) (h : Heap) (L : List Loc) : Prop := v = some (.int (((31 : Int32) * ((31 : Int32) + w0)) + w1)) ∧ Fr n0 L ∧ h = h0
set_option maxRecDepth 65536 in
set_option maxHeartbeats 40000000 in
theorem rm4_2 (l : Launch) (Z : State) (a0 : Array Value) (hw : ∀ d ∈ tables_1, d.before a0 Z = true) (ws : List Jvm.Cond) (a1 : Addr) (kk : ClassId) (w0 : Int32) (w1 : Int32) (h0 : Heap) (n0 : Nat) (Z0 : n0 ≤ h0.size) (HV0 : Arv Z h0 a1 kk .byte (2 : Int32) [(.int w0), (.int w1)] (.int (0 : Int32))) (HE1 : Exa Z h0 a1 "[B") :
    MetFree l (⟨"java/util/Arrays", "hashCode", "([B)I"⟩ : MethodName) (head1 (Jvm.Cond.code (⟨"java/util/Arrays", "hashCode", "([B)I"⟩ : MethodName) jdk_65_method_153_code 1 (some .int) :: ws) ({ frames := 2, cells := 0, slots := 0, locals := 33 } : Room)) (fun a U => a = #[(.ref a1)] ∧ Z.Warmed39 U.vm ∧ U.heap = h0) (fun _ _ _ _ _ => True) (fun _ U o U' => ∃ v L, o = .returned v ∧ Q4_2 Z a1 kk w0 w1 h0 n0 v U'.heap L ∧ FrameEnd U o U' L ({ frames := 2, cells := 0, slots := 0, locals := 33 } : Room).cells ({ frames := 2, cells := 0, slots := 0, locals := 33 } : Room).slots) := by
  refine MetFree.of_bodySF (plainFor_of_name pn_1) hisR ?_
  intro p e s m args below meth c s₁ Bd hml0 hP hK
  obtain ⟨rfl, hZ, hh⟩ := hP
  have hx := Bd.exec
  have hby := Bd.bytes
  have hml : c.maxLocals = 1 := hml0
  have hown : s.vm.findClass "java/util/Arrays" = some m.cls := findClass_of_methodNamed Bd.named
  have hnm := (name_of_methodNamed Bd.named Bd.method).1
  have X0 : Stand p l e ({ frames := 2, cells := 0, slots := 0, locals := 33 } : Room) s m #[(.ref a1)] below meth c s₁ [] 0 0 := Stand.of_body Bd
  have e0 : s₁.heap = h0 := by rw [← hh, Bd.state]; rfl
  have N0 := Fr.nil n0
  have pre0 : ∀ t, Steps p.tables e below (s₁.setTop (mkF m 0 #[.val (.ref a1)] [])) t → Steps p.tables e below (s₁.setTop (entryFrame m #[(.ref a1)] 1)) t := fun t k => castTop (ef_4_2 m a1) k
  obtain ⟨co1, Ao1, qo1, So1, Mo1, Bo1, Go1⟩ := id HV0
  obtain ⟨co2, Ao2, qo2, So2, Mo2, Bo2, Go2⟩ := id HV0
  obtain ⟨_, _, ⟨T3, L3, k3, n3⟩, -, X3, ⟨Lc3, hQ3, l3, y3, z3⟩, st3⟩ := Jvm.LawKit.callS X0 hx (y := (⟨"jdk/internal/util/ArraysSupport", "vectorizedHashCode", "(Ljava/lang/Object;IIII)I"⟩ : MethodName)) hown (mvT hZ (hw _ (List.mem_of_getElem? (i := 30) rfl))) (mvT hZ (hw _ (List.mem_of_getElem? (i := 31) rfl))) (mvT hZ (hw _ (List.mem_of_getElem? (i := 32) rfl))) (mvT hZ (hw _ (List.mem_of_getElem? (i := 33) rfl))) (by decide) (backOf (W := 0) (rm6_2 l Z a0 hw [] a1 kk w0 w1 h0 n0 Z0 HV0 HE1) hZ (hw _ (List.mem_of_getElem? (i := 33) rfl)) (hw _ (List.mem_of_getElem? (i := 32) rfl)) (by decide) (by decide)) (g := (mkF m 56 #[.val (.ref a1)] [(.int (8 : Int32)), (.int (1 : Int32)), (.int (2 : Int32)), (.int (0 : Int32)), (.ref a1)])) rfl (by rw [hml]; rfl) (argsL := [(.ref a1), (.int (0 : Int32)), (.int (2 : Int32)), (.int (1 : Int32)), (.int (8 : Int32))]) (rest := []) (lenOf pd_1 rfl) rfl (by show 2 * 0 + _ ≤ _; exact Nat.le_of_eq rfl) (hb hby d4_56) (fun _ _ => ⟨rfl, e0, (by decide : 0 + 0 ≤ _), (by decide : 0 + 0 ≤ _)⟩)
  dsimp only [Pt.U, Pt.locs, Pt.cells, Pt.slots] at X3 l3 y3 z3 st3 hQ3
  subst l3 y3 z3
  obtain ⟨rfl, N3q, R4⟩ := hQ3
  have N3 := Fr.app N0 N3q
  obtain ⟨fs, hr, hrun, hended, hW, hsame⟩ := X3.leave (v := some (.int (((31 : Int32) * ((31 : Int32) + w0)) + w1))) (fun h => by rw [Bd.returns] at h; cases h)
  refine ⟨_, _, pre0 _ ?_, hrun, hended, _, _, rfl, ?_, ⟨_, rfl⟩, hW, hsame.mono (by decide) (by decide)⟩
  · show Steps p.tables e below (s₁.setTop (mkF m 0 #[.val (.ref a1)] [])) _
    refine XS.aloadN X0.here hx rfl (hb hby d4_0) rfl rfl ?_
    show Steps p.tables e below (s₁.setTop (mkF m 1 #[.val (.ref a1)] [(.ref a1)])) _
    refine XS.ifnonnullYes X0.here hx rfl (pc0 := 1) (pc' := 6) rfl (hb hby d4_1) rfl (by decide) (by decide) ?_
    show Steps p.tables e below (s₁.setTop (mkF m 6 #[.val (.ref a1)] [])) _
    refine XS.aloadN X0.here hx rfl (hb hby d4_6) rfl rfl ?_
    show Steps p.tables e below (s₁.setTop (mkF m 7 #[.val (.ref a1)] [(.ref a1)])) _
    refine X0.arraylength hx (by rw [e0]; exact Ao1.1) (State.isArrayOf_alike hZ.alike Ao1.2.1) (g := (mkF m 7 #[.val (.ref a1)] [(.ref a1)])) rfl rfl (hb hby d4_7) _ ?_
    rw [len_of So1 Mo1]
    show Steps p.tables e below (s₁.setTop (mkF m 8 #[.val (.ref a1)] [(.int (2 : Int32))])) _
    refine X0.lookupswitchMiss hx (g := (mkF m 8 #[.val (.ref a1)] [(.int (2 : Int32))])) rfl rfl (hb hby d4_8) (by decide) (by decide) (by show (0 : Int) ≤ ((8 : Nat) : Int) + (41); decide) _ ?_
    show Steps p.tables e below (s₁.setTop (mkF m 49 #[.val (.ref a1)] [])) _
    refine XS.aloadN X0.here hx rfl (hb hby d4_49) rfl rfl ?_
    show Steps p.tables e below (s₁.setTop (mkF m 50 #[.val (.ref a1)] [(.ref a1)])) _
    refine XS.iconst X0.here hx rfl (hb hby d4_50) ?_
    show Steps p.tables e below (s₁.setTop (mkF m 51 #[.val (.ref a1)] [(.int (0 : Int32)), (.ref a1)])) _
    refine XS.aloadN X0.here hx rfl (hb hby d4_51) rfl rfl ?_
    show Steps p.tables e below (s₁.setTop (mkF m 52 #[.val (.ref a1)] [(.ref a1), (.int (0 : Int32)), (.ref a1)])) _
    refine X0.arraylength hx (by rw [e0]; exact Ao2.1) (State.isArrayOf_alike hZ.alike Ao2.2.1) (g := (mkF m 52 #[.val (.ref a1)] [(.ref a1), (.int (0 : Int32)), (.ref a1)])) rfl rfl (hb hby d4_52) _ ?_
    rw [len_of So2 Mo2]
    show Steps p.tables e below (s₁.setTop (mkF m 53 #[.val (.ref a1)] [(.int (2 : Int32)), (.int (0 : Int32)), (.ref a1)])) _
    refine XS.iconst X0.here hx rfl (hb hby d4_53) ?_
    show Steps p.tables e below (s₁.setTop (mkF m 54 #[.val (.ref a1)] [(.int (1 : Int32)), (.int (2 : Int32)), (.int (0 : Int32)), (.ref a1)])) _
    refine XS.bipush X0.here hx rfl (hb hby d4_54) ?_
    show Steps p.tables e below (s₁.setTop (mkF m 56 #[.val (.ref a1)] [(.int (8 : Int32)), (.int (1 : Int32)), (.int (2 : Int32)), (.int (0 : Int32)), (.ref a1)])) _
    refine st3 _ ?_
    show Steps p.tables e below (T3.setTop (mkF m 59 #[.val (.ref a1)] [(.int (((31 : Int32) * ((31 : Int32) + w0)) + w1))])) _
    exact retI X3 hx Bd.returns (hb hby d4_59) hr
  · show Q4_2 Z a1 kk w0 w1 h0 n0 _ T3.heap _
    rw [R4]
    exact ⟨rfl, N3, rfl⟩
theorem ef_7_3 (m : MethodId) (a1 : Addr) : entryFrame m #[(.int (1 : Int32)), (.ref a1), (.int (0 : Int32)), (.int (3 : Int32))] 6 = mkF m 0 #[.val (.int (1 : Int32)), .val (.ref a1), .val (.int (0 : Int32)), .val (.int (3 : Int32)), .unset, .unset] [] := by first | (simp [entryFrame, mkF, argsToLocals, Value.category]; done) | rfl
def Q7_3 (Z : State) (a1 : Addr) (kk : ClassId) (w0 : Int32) (w1 : Int32) (w2 : Int32) (h0 : Heap) (n0 : Nat) (v : Option Value) (h : Heap) (L : List Loc) : Prop := v = some (.int (((31 : Int32) * (((31 : Int32) * ((31 : Int32) + w0)) + w1)) + w2)) ∧ Fr n0 L ∧ h = h0
set_option maxRecDepth 65536 in
set_option maxHeartbeats 40000000 in
theorem rm7_3 (l : Launch) (Z : State) (a0 : Array Value) (hw : ∀ d ∈ tables_1, d.before a0 Z = true) (ws : List Jvm.Cond) (a1 : Addr) (kk : ClassId) (w0 : Int32) (w1 : Int32) (w2 : Int32) (h0 : Heap) (n0 : Nat) (Z0 : n0 ≤ h0.size) (HV0 : Arv Z h0 a1 kk .byte (3 : Int32) [(.int w0), (.int w1), (.int w2)] (.int (0 : Int32))) :
    MetFree l (⟨"jdk/internal/util/ArraysSupport", "hashCode", "(I[BII)I"⟩ : MethodName) (head1 (Jvm.Cond.code (⟨"jdk/internal/util/ArraysSupport", "hashCode", "(I[BII)I"⟩ : MethodName) jdk_48_method_6_code 6 (some .int) :: ws) ({ frames := 0, cells := 0, slots := 0, locals := 0 } : Room)) (fun a U => a = #[(.int (1 : Int32)), (.ref a1), (.int (0 : Int32)), (.int (3 : Int32))] ∧ Z.Warmed39 U.vm ∧ U.heap = h0) (fun _ _ _ _ _ => True) (fun _ U o U' => ∃ v L, o = .returned v ∧ Q7_3 Z a1 kk w0 w1 w2 h0 n0 v U'.heap L ∧ FrameEnd U o U' L ({ frames := 0, cells := 0, slots := 0, locals := 0 } : Room).cells ({ frames := 0, cells := 0, slots := 0, locals := 0 } : Room).slots) := by
  refine MetFree.of_bodySF (plainFor_of_name pn_2) hisR ?_
  intro p e s m args below meth c s₁ Bd hml0 hP hK
  obtain ⟨rfl, hZ, hh⟩ := hP
  have hx := Bd.exec
  have hby := Bd.bytes
  have hml : c.maxLocals = 6 := hml0
  have hown : s.vm.findClass "jdk/internal/util/ArraysSupport" = some m.cls := findClass_of_methodNamed Bd.named
  have hnm := (name_of_methodNamed Bd.named Bd.method).1
  have X0 : Stand p l e ({ frames := 0, cells := 0, slots := 0, locals := 0 } : Room) s m #[(.int (1 : Int32)), (.ref a1), (.int (0 : Int32)), (.int (3 : Int32))] below meth c s₁ [] 0 0 := Stand.of_body Bd
  have e0 : s₁.heap = h0 := by rw [← hh, Bd.state]; rfl
  have N0 := Fr.nil n0
  have pre0 : ∀ t, Steps p.tables e below (s₁.setTop (mkF m 0 #[.val (.int (1 : Int32)), .val (.ref a1), .val (.int (0 : Int32)), .val (.int (3 : Int32)), .unset, .unset] [])) t → Steps p.tables e below (s₁.setTop (entryFrame m #[(.int (1 : Int32)), (.ref a1), (.int (0 : Int32)), (.int (3 : Int32))] 6)) t := fun t k => castTop (ef_7_3 m a1) k
  obtain ⟨co1, Ao1, qo1, So1, Mo1, Bo1, Go1⟩ := id HV0
  obtain ⟨co2, Ao2, qo2, So2, Mo2, Bo2, Go2⟩ := id HV0
  obtain ⟨co3, Ao3, qo3, So3, Mo3, Bo3, Go3⟩ := id HV0
  obtain ⟨fs, hr, hrun, hended, hW, hsame⟩ := X0.leave (v := some (.int (((31 : Int32) * (((31 : Int32) * ((31 : Int32) + w0)) + w1)) + w2))) (fun h => by rw [Bd.returns] at h; cases h)
  refine ⟨_, _, pre0 _ ?_, hrun, hended, _, _, rfl, ?_, ⟨_, rfl⟩, hW, hsame.mono (by decide) (by decide)⟩
  · show Steps p.tables e below (s₁.setTop (mkF m 0 #[.val (.int (1 : Int32)), .val (.ref a1), .val (.int (0 : Int32)), .val (.int (3 : Int32)), .unset, .unset] [])) _
    refine XS.iloadN X0.here hx rfl (hb hby d7_0) rfl ?_
    show Steps p.tables e below (s₁.setTop (mkF m 1 #[.val (.int (1 : Int32)), .val (.ref a1), .val (.int (0 : Int32)), .val (.int (3 : Int32)), .unset, .unset] [(.int (0 : Int32))])) _
    refine XS.iloadN X0.here hx rfl (hb hby d7_1) rfl ?_
    show Steps p.tables e below (s₁.setTop (mkF m 2 #[.val (.int (1 : Int32)), .val (.ref a1), .val (.int (0 : Int32)), .val (.int (3 : Int32)), .unset, .unset] [(.int (3 : Int32)), (.int (0 : Int32))])) _
    refine XS.iadd X0.here hx rfl (hb hby d7_2) rfl ?_
    show Steps p.tables e below (s₁.setTop (mkF m 3 #[.val (.int (1 : Int32)), .val (.ref a1), .val (.int (0 : Int32)), .val (.int (3 : Int32)), .unset, .unset] [(.int (3 : Int32))])) _
    refine XS.istore X0.here hx rfl (hb hby d7_3) rfl (l' := #[.val (.int (1 : Int32)), .val (.ref a1), .val (.int (0 : Int32)), .val (.int (3 : Int32)), .val (.int (3 : Int32)), .unset]) rfl ?_
    show Steps p.tables e below (s₁.setTop (mkF m 5 #[.val (.int (1 : Int32)), .val (.ref a1), .val (.int (0 : Int32)), .val (.int (3 : Int32)), .val (.int (3 : Int32)), .unset] [])) _
    refine XS.iloadN X0.here hx rfl (hb hby d7_5) rfl ?_
    show Steps p.tables e below (s₁.setTop (mkF m 6 #[.val (.int (1 : Int32)), .val (.ref a1), .val (.int (0 : Int32)), .val (.int (3 : Int32)), .val (.int (3 : Int32)), .unset] [(.int (0 : Int32))])) _
    refine XS.istore X0.here hx rfl (hb hby d7_6) rfl (l' := #[.val (.int (1 : Int32)), .val (.ref a1), .val (.int (0 : Int32)), .val (.int (3 : Int32)), .val (.int (3 : Int32)), .val (.int (0 : Int32))]) rfl ?_
    show Steps p.tables e below (s₁.setTop (mkF m 8 #[.val (.int (1 : Int32)), .val (.ref a1), .val (.int (0 : Int32)), .val (.int (3 : Int32)), .val (.int (3 : Int32)), .val (.int (0 : Int32))] [])) _
    refine XS.iload X0.here hx rfl (hb hby d7_8) rfl ?_
    show Steps p.tables e below (s₁.setTop (mkF m 10 #[.val (.int (1 : Int32)), .val (.ref a1), .val (.int (0 : Int32)), .val (.int (3 : Int32)), .val (.int (3 : Int32)), .val (.int (0 : Int32))] [(.int (0 : Int32))])) _
    refine XS.iload X0.here hx rfl (hb hby d7_10) rfl ?_
    show Steps p.tables e below (s₁.setTop (mkF m 12 #[.val (.int (1 : Int32)), .val (.ref a1), .val (.int (0 : Int32)), .val (.int (3 : Int32)), .val (.int (3 : Int32)), .val (.int (0 : Int32))] [(.int (3 : Int32)), (.int (0 : Int32))])) _
    refine XS.icmpNo X0.here hx rfl (hb hby d7_12) rfl (tlt (by decide : (0 : Int32) < (3 : Int32))).2.1 ?_
    show Steps p.tables e below (s₁.setTop (mkF m 15 #[.val (.int (1 : Int32)), .val (.ref a1), .val (.int (0 : Int32)), .val (.int (3 : Int32)), .val (.int (3 : Int32)), .val (.int (0 : Int32))] [])) _
    refine XS.bipush X0.here hx rfl (hb hby d7_15) ?_
    show Steps p.tables e below (s₁.setTop (mkF m 17 #[.val (.int (1 : Int32)), .val (.ref a1), .val (.int (0 : Int32)), .val (.int (3 : Int32)), .val (.int (3 : Int32)), .val (.int (0 : Int32))] [(.int (31 : Int32))])) _
    refine XS.iloadN X0.here hx rfl (hb hby d7_17) rfl ?_
    show Steps p.tables e below (s₁.setTop (mkF m 18 #[.val (.int (1 : Int32)), .val (.ref a1), .val (.int (0 : Int32)), .val (.int (3 : Int32)), .val (.int (3 : Int32)), .val (.int (0 : Int32))] [(.int (1 : Int32)), (.int (31 : Int32))])) _
    refine XS.imul X0.here hx rfl (hb hby d7_18) rfl ?_
    show Steps p.tables e below (s₁.setTop (mkF m 19 #[.val (.int (1 : Int32)), .val (.ref a1), .val (.int (0 : Int32)), .val (.int (3 : Int32)), .val (.int (3 : Int32)), .val (.int (0 : Int32))] [(.int (31 : Int32))])) _
    refine XS.aloadN X0.here hx rfl (hb hby d7_19) rfl rfl ?_
    show Steps p.tables e below (s₁.setTop (mkF m 20 #[.val (.int (1 : Int32)), .val (.ref a1), .val (.int (0 : Int32)), .val (.int (3 : Int32)), .val (.int (3 : Int32)), .val (.int (0 : Int32))] [(.ref a1), (.int (31 : Int32))])) _
    refine XS.iload X0.here hx rfl (hb hby d7_20) rfl ?_
    show Steps p.tables e below (s₁.setTop (mkF m 22 #[.val (.int (1 : Int32)), .val (.ref a1), .val (.int (0 : Int32)), .val (.int (3 : Int32)), .val (.int (3 : Int32)), .val (.int (0 : Int32))] [(.int (0 : Int32)), (.ref a1), (.int (31 : Int32))])) _
    refine X0.baloadBytes hx (j := (0 : Int32)) (v := (.int w0)) (by rw [e0]; exact Ao1.1) (State.isArrayOf_alike hZ.alike Ao1.2.1) Ao1.2.2 (inb_of So1 ⟨(by decide), (by decide)⟩) (Has.at Bo1 (inb_of So1 ⟨(by decide), (by decide)⟩) rfl) (g := (mkF m 22 #[.val (.int (1 : Int32)), .val (.ref a1), .val (.int (0 : Int32)), .val (.int (3 : Int32)), .val (.int (3 : Int32)), .val (.int (0 : Int32))] [(.int (0 : Int32)), (.ref a1), (.int (31 : Int32))])) rfl rfl (hb hby d7_22) _ ?_
    show Steps p.tables e below (s₁.setTop (mkF m 23 #[.val (.int (1 : Int32)), .val (.ref a1), .val (.int (0 : Int32)), .val (.int (3 : Int32)), .val (.int (3 : Int32)), .val (.int (0 : Int32))] [(.int w0), (.int (31 : Int32))])) _
    refine XS.iadd X0.here hx rfl (hb hby d7_23) rfl ?_
    show Steps p.tables e below (s₁.setTop (mkF m 24 #[.val (.int (1 : Int32)), .val (.ref a1), .val (.int (0 : Int32)), .val (.int (3 : Int32)), .val (.int (3 : Int32)), .val (.int (0 : Int32))] [(.int ((31 : Int32) + w0))])) _
    refine XS.istoreN X0.here hx rfl (hb hby d7_24) rfl (l' := #[.val (.int ((31 : Int32) + w0)), .val (.ref a1), .val (.int (0 : Int32)), .val (.int (3 : Int32)), .val (.int (3 : Int32)), .val (.int (0 : Int32))]) rfl ?_
    show Steps p.tables e below (s₁.setTop (mkF m 25 #[.val (.int ((31 : Int32) + w0)), .val (.ref a1), .val (.int (0 : Int32)), .val (.int (3 : Int32)), .val (.int (3 : Int32)), .val (.int (0 : Int32))] [])) _
    refine XS.iinc X0.here hx rfl (hb hby d7_25) rfl (l' := #[.val (.int ((31 : Int32) + w0)), .val (.ref a1), .val (.int (0 : Int32)), .val (.int (3 : Int32)), .val (.int (3 : Int32)), .val (.int (1 : Int32))]) rfl ?_
    show Steps p.tables e below (s₁.setTop (mkF m 28 #[.val (.int ((31 : Int32) + w0)), .val (.ref a1), .val (.int (0 : Int32)), .val (.int (3 : Int32)), .val (.int (3 : Int32)), .val (.int (1 : Int32))] [])) _
    refine XS.goto X0.here hx rfl (pc0 := 28) (pc' := 8) rfl (hb hby d7_28) (by decide) (by decide) ?_
    show Steps p.tables e below (s₁.setTop (mkF m 8 #[.val (.int ((31 : Int32) + w0)), .val (.ref a1), .val (.int (0 : Int32)), .val (.int (3 : Int32)), .val (.int (3 : Int32)), .val (.int (1 : Int32))] [])) _
    refine XS.iload X0.here hx rfl (hb hby d7_8) rfl ?_
    show Steps p.tables e below (s₁.setTop (mkF m 10 #[.val (.int ((31 : Int32) + w0)), .val (.ref a1), .val (.int (0 : Int32)), .val (.int (3 : Int32)), .val (.int (3 : Int32)), .val (.int (1 : Int32))] [(.int (1 : Int32))])) _
    refine XS.iload X0.here hx rfl (hb hby d7_10) rfl ?_
    show Steps p.tables e below (s₁.setTop (mkF m 12 #[.val (.int ((31 : Int32) + w0)), .val (.ref a1), .val (.int (0 : Int32)), .val (.int (3 : Int32)), .val (.int (3 : Int32)), .val (.int (1 : Int32))] [(.int (3 : Int32)), (.int (1 : Int32))])) _
    refine XS.icmpNo X0.here hx rfl (hb hby d7_12) rfl (tlt (by decide : (1 : Int32) < (3 : Int32))).2.1 ?_
    show Steps p.tables e below (s₁.setTop (mkF m 15 #[.val (.int ((31 : Int32) + w0)), .val (.ref a1), .val (.int (0 : Int32)), .val (.int (3 : Int32)), .val (.int (3 : Int32)), .val (.int (1 : Int32))] [])) _
    refine XS.bipush X0.here hx rfl (hb hby d7_15) ?_
    show Steps p.tables e below (s₁.setTop (mkF m 17 #[.val (.int ((31 : Int32) + w0)), .val (.ref a1), .val (.int (0 : Int32)), .val (.int (3 : Int32)), .val (.int (3 : Int32)), .val (.int (1 : Int32))] [(.int (31 : Int32))])) _
    refine XS.iloadN X0.here hx rfl (hb hby d7_17) rfl ?_
    show Steps p.tables e below (s₁.setTop (mkF m 18 #[.val (.int ((31 : Int32) + w0)), .val (.ref a1), .val (.int (0 : Int32)), .val (.int (3 : Int32)), .val (.int (3 : Int32)), .val (.int (1 : Int32))] [(.int ((31 : Int32) + w0)), (.int (31 : Int32))])) _
    refine XS.imul X0.here hx rfl (hb hby d7_18) rfl ?_
    show Steps p.tables e below (s₁.setTop (mkF m 19 #[.val (.int ((31 : Int32) + w0)), .val (.ref a1), .val (.int (0 : Int32)), .val (.int (3 : Int32)), .val (.int (3 : Int32)), .val (.int (1 : Int32))] [(.int ((31 : Int32) * ((31 : Int32) + w0)))])) _
    refine XS.aloadN X0.here hx rfl (hb hby d7_19) rfl rfl ?_
    show Steps p.tables e below (s₁.setTop (mkF m 20 #[.val (.int ((31 : Int32) + w0)), .val (.ref a1), .val (.int (0 : Int32)), .val (.int (3 : Int32)), .val (.int (3 : Int32)), .val (.int (1 : Int32))] [(.ref a1), (.int ((31 : Int32) * ((31 : Int32) + w0)))])) _
    refine XS.iload X0.here hx rfl (hb hby d7_20) rfl ?_
    show Steps p.tables e below (s₁.setTop (mkF m 22 #[.val (.int ((31 : Int32) + w0)), .val (.ref a1), .val (.int (0 : Int32)), .val (.int (3 : Int32)), .val (.int (3 : Int32)), .val (.int (1 : Int32))] [(.int (1 : Int32)), (.ref a1), (.int ((31 : Int32) * ((31 : Int32) + w0)))])) _
    refine X0.baloadBytes hx (j := (1 : Int32)) (v := (.int w1)) (by rw [e0]; exact Ao2.1) (State.isArrayOf_alike hZ.alike Ao2.2.1) Ao2.2.2 (inb_of So2 ⟨(by decide), (by decide)⟩) (Has.at Bo2 (inb_of So2 ⟨(by decide), (by decide)⟩) rfl) (g := (mkF m 22 #[.val (.int ((31 : Int32) + w0)), .val (.ref a1), .val (.int (0 : Int32)), .val (.int (3 : Int32)), .val (.int (3 : Int32)), .val (.int (1 : Int32))] [(.int (1 : Int32)), (.ref a1), (.int ((31 : Int32) * ((31 : Int32) + w0)))])) rfl rfl (hb hby d7_22) _ ?_
    show Steps p.tables e below (s₁.setTop (mkF m 23 #[.val (.int ((31 : Int32) + w0)), .val (.ref a1), .val (.int (0 : Int32)), .val (.int (3 : Int32)), .val (.int (3 : Int32)), .val (.int (1 : Int32))] [(.int w1), (.int ((31 : Int32) * ((31 : Int32) + w0)))])) _
    refine XS.iadd X0.here hx rfl (hb hby d7_23) rfl ?_
    show Steps p.tables e below (s₁.setTop (mkF m 24 #[.val (.int ((31 : Int32) + w0)), .val (.ref a1), .val (.int (0 : Int32)), .val (.int (3 : Int32)), .val (.int (3 : Int32)), .val (.int (1 : Int32))] [(.int (((31 : Int32) * ((31 : Int32) + w0)) + w1))])) _
    refine XS.istoreN X0.here hx rfl (hb hby d7_24) rfl (l' := #[.val (.int (((31 : Int32) * ((31 : Int32) + w0)) + w1)), .val (.ref a1), .val (.int (0 : Int32)), .val (.int (3 : Int32)), .val (.int (3 : Int32)), .val (.int (1 : Int32))]) rfl ?_
    show Steps p.tables e below (s₁.setTop (mkF m 25 #[.val (.int (((31 : Int32) * ((31 : Int32) + w0)) + w1)), .val (.ref a1), .val (.int (0 : Int32)), .val (.int (3 : Int32)), .val (.int (3 : Int32)), .val (.int (1 : Int32))] [])) _
    refine XS.iinc X0.here hx rfl (hb hby d7_25) rfl (l' := #[.val (.int (((31 : Int32) * ((31 : Int32) + w0)) + w1)), .val (.ref a1), .val (.int (0 : Int32)), .val (.int (3 : Int32)), .val (.int (3 : Int32)), .val (.int (2 : Int32))]) rfl ?_
    show Steps p.tables e below (s₁.setTop (mkF m 28 #[.val (.int (((31 : Int32) * ((31 : Int32) + w0)) + w1)), .val (.ref a1), .val (.int (0 : Int32)), .val (.int (3 : Int32)), .val (.int (3 : Int32)), .val (.int (2 : Int32))] [])) _
    refine XS.goto X0.here hx rfl (pc0 := 28) (pc' := 8) rfl (hb hby d7_28) (by decide) (by decide) ?_
    show Steps p.tables e below (s₁.setTop (mkF m 8 #[.val (.int (((31 : Int32) * ((31 : Int32) + w0)) + w1)), .val (.ref a1), .val (.int (0 : Int32)), .val (.int (3 : Int32)), .val (.int (3 : Int32)), .val (.int (2 : Int32))] [])) _
    refine XS.iload X0.here hx rfl (hb hby d7_8) rfl ?_
    show Steps p.tables e below (s₁.setTop (mkF m 10 #[.val (.int (((31 : Int32) * ((31 : Int32) + w0)) + w1)), .val (.ref a1), .val (.int (0 : Int32)), .val (.int (3 : Int32)), .val (.int (3 : Int32)), .val (.int (2 : Int32))] [(.int (2 : Int32))])) _
    refine XS.iload X0.here hx rfl (hb hby d7_10) rfl ?_
    show Steps p.tables e below (s₁.setTop (mkF m 12 #[.val (.int (((31 : Int32) * ((31 : Int32) + w0)) + w1)), .val (.ref a1), .val (.int (0 : Int32)), .val (.int (3 : Int32)), .val (.int (3 : Int32)), .val (.int (2 : Int32))] [(.int (3 : Int32)), (.int (2 : Int32))])) _
    refine XS.icmpNo X0.here hx rfl (hb hby d7_12) rfl (tlt (by decide : (2 : Int32) < (3 : Int32))).2.1 ?_
    show Steps p.tables e below (s₁.setTop (mkF m 15 #[.val (.int (((31 : Int32) * ((31 : Int32) + w0)) + w1)), .val (.ref a1), .val (.int (0 : Int32)), .val (.int (3 : Int32)), .val (.int (3 : Int32)), .val (.int (2 : Int32))] [])) _
    refine XS.bipush X0.here hx rfl (hb hby d7_15) ?_
    show Steps p.tables e below (s₁.setTop (mkF m 17 #[.val (.int (((31 : Int32) * ((31 : Int32) + w0)) + w1)), .val (.ref a1), .val (.int (0 : Int32)), .val (.int (3 : Int32)), .val (.int (3 : Int32)), .val (.int (2 : Int32))] [(.int (31 : Int32))])) _
    refine XS.iloadN X0.here hx rfl (hb hby d7_17) rfl ?_
    show Steps p.tables e below (s₁.setTop (mkF m 18 #[.val (.int (((31 : Int32) * ((31 : Int32) + w0)) + w1)), .val (.ref a1), .val (.int (0 : Int32)), .val (.int (3 : Int32)), .val (.int (3 : Int32)), .val (.int (2 : Int32))] [(.int (((31 : Int32) * ((31 : Int32) + w0)) + w1)), (.int (31 : Int32))])) _
    refine XS.imul X0.here hx rfl (hb hby d7_18) rfl ?_
    show Steps p.tables e below (s₁.setTop (mkF m 19 #[.val (.int (((31 : Int32) * ((31 : Int32) + w0)) + w1)), .val (.ref a1), .val (.int (0 : Int32)), .val (.int (3 : Int32)), .val (.int (3 : Int32)), .val (.int (2 : Int32))] [(.int ((31 : Int32) * (((31 : Int32) * ((31 : Int32) + w0)) + w1)))])) _
    refine XS.aloadN X0.here hx rfl (hb hby d7_19) rfl rfl ?_
    show Steps p.tables e below (s₁.setTop (mkF m 20 #[.val (.int (((31 : Int32) * ((31 : Int32) + w0)) + w1)), .val (.ref a1), .val (.int (0 : Int32)), .val (.int (3 : Int32)), .val (.int (3 : Int32)), .val (.int (2 : Int32))] [(.ref a1), (.int ((31 : Int32) * (((31 : Int32) * ((31 : Int32) + w0)) + w1)))])) _
    refine XS.iload X0.here hx rfl (hb hby d7_20) rfl ?_
    show Steps p.tables e below (s₁.setTop (mkF m 22 #[.val (.int (((31 : Int32) * ((31 : Int32) + w0)) + w1)), .val (.ref a1), .val (.int (0 : Int32)), .val (.int (3 : Int32)), .val (.int (3 : Int32)), .val (.int (2 : Int32))] [(.int (2 : Int32)), (.ref a1), (.int ((31 : Int32) * (((31 : Int32) * ((31 : Int32) + w0)) + w1)))])) _
    refine X0.baloadBytes hx (j := (2 : Int32)) (v := (.int w2)) (by rw [e0]; exact Ao3.1) (State.isArrayOf_alike hZ.alike Ao3.2.1) Ao3.2.2 (inb_of So3 ⟨(by decide), (by decide)⟩) (Has.at Bo3 (inb_of So3 ⟨(by decide), (by decide)⟩) rfl) (g := (mkF m 22 #[.val (.int (((31 : Int32) * ((31 : Int32) + w0)) + w1)), .val (.ref a1), .val (.int (0 : Int32)), .val (.int (3 : Int32)), .val (.int (3 : Int32)), .val (.int (2 : Int32))] [(.int (2 : Int32)), (.ref a1), (.int ((31 : Int32) * (((31 : Int32) * ((31 : Int32) + w0)) + w1)))])) rfl rfl (hb hby d7_22) _ ?_
    show Steps p.tables e below (s₁.setTop (mkF m 23 #[.val (.int (((31 : Int32) * ((31 : Int32) + w0)) + w1)), .val (.ref a1), .val (.int (0 : Int32)), .val (.int (3 : Int32)), .val (.int (3 : Int32)), .val (.int (2 : Int32))] [(.int w2), (.int ((31 : Int32) * (((31 : Int32) * ((31 : Int32) + w0)) + w1)))])) _
    refine XS.iadd X0.here hx rfl (hb hby d7_23) rfl ?_
    show Steps p.tables e below (s₁.setTop (mkF m 24 #[.val (.int (((31 : Int32) * ((31 : Int32) + w0)) + w1)), .val (.ref a1), .val (.int (0 : Int32)), .val (.int (3 : Int32)), .val (.int (3 : Int32)), .val (.int (2 : Int32))] [(.int (((31 : Int32) * (((31 : Int32) * ((31 : Int32) + w0)) + w1)) + w2))])) _
    refine XS.istoreN X0.here hx rfl (hb hby d7_24) rfl (l' := #[.val (.int (((31 : Int32) * (((31 : Int32) * ((31 : Int32) + w0)) + w1)) + w2)), .val (.ref a1), .val (.int (0 : Int32)), .val (.int (3 : Int32)), .val (.int (3 : Int32)), .val (.int (2 : Int32))]) rfl ?_
    show Steps p.tables e below (s₁.setTop (mkF m 25 #[.val (.int (((31 : Int32) * (((31 : Int32) * ((31 : Int32) + w0)) + w1)) + w2)), .val (.ref a1), .val (.int (0 : Int32)), .val (.int (3 : Int32)), .val (.int (3 : Int32)), .val (.int (2 : Int32))] [])) _
    refine XS.iinc X0.here hx rfl (hb hby d7_25) rfl (l' := #[.val (.int (((31 : Int32) * (((31 : Int32) * ((31 : Int32) + w0)) + w1)) + w2)), .val (.ref a1), .val (.int (0 : Int32)), .val (.int (3 : Int32)), .val (.int (3 : Int32)), .val (.int (3 : Int32))]) rfl ?_
    show Steps p.tables e below (s₁.setTop (mkF m 28 #[.val (.int (((31 : Int32) * (((31 : Int32) * ((31 : Int32) + w0)) + w1)) + w2)), .val (.ref a1), .val (.int (0 : Int32)), .val (.int (3 : Int32)), .val (.int (3 : Int32)), .val (.int (3 : Int32))] [])) _
    refine XS.goto X0.here hx rfl (pc0 := 28) (pc' := 8) rfl (hb hby d7_28) (by decide) (by decide) ?_
    show Steps p.tables e below (s₁.setTop (mkF m 8 #[.val (.int (((31 : Int32) * (((31 : Int32) * ((31 : Int32) + w0)) + w1)) + w2)), .val (.ref a1), .val (.int (0 : Int32)), .val (.int (3 : Int32)), .val (.int (3 : Int32)), .val (.int (3 : Int32))] [])) _
    refine XS.iload X0.here hx rfl (hb hby d7_8) rfl ?_
    show Steps p.tables e below (s₁.setTop (mkF m 10 #[.val (.int (((31 : Int32) * (((31 : Int32) * ((31 : Int32) + w0)) + w1)) + w2)), .val (.ref a1), .val (.int (0 : Int32)), .val (.int (3 : Int32)), .val (.int (3 : Int32)), .val (.int (3 : Int32))] [(.int (3 : Int32))])) _
    refine XS.iload X0.here hx rfl (hb hby d7_10) rfl ?_
    show Steps p.tables e below (s₁.setTop (mkF m 12 #[.val (.int (((31 : Int32) * (((31 : Int32) * ((31 : Int32) + w0)) + w1)) + w2)), .val (.ref a1), .val (.int (0 : Int32)), .val (.int (3 : Int32)), .val (.int (3 : Int32)), .val (.int (3 : Int32))] [(.int (3 : Int32)), (.int (3 : Int32))])) _
    refine XS.icmpYes X0.here hx rfl (pc0 := 12) (pc' := 31) rfl (hb hby d7_12) rfl (flt (by decide : ¬ ((3 : Int32) < (3 : Int32)))).2.1 (by decide) (by decide) ?_
    show Steps p.tables e below (s₁.setTop (mkF m 31 #[.val (.int (((31 : Int32) * (((31 : Int32) * ((31 : Int32) + w0)) + w1)) + w2)), .val (.ref a1), .val (.int (0 : Int32)), .val (.int (3 : Int32)), .val (.int (3 : Int32)), .val (.int (3 : Int32))] [])) _
    refine XS.iloadN X0.here hx rfl (hb hby d7_31) rfl ?_
    show Steps p.tables e below (s₁.setTop (mkF m 32 #[.val (.int (((31 : Int32) * (((31 : Int32) * ((31 : Int32) + w0)) + w1)) + w2)), .val (.ref a1), .val (.int (0 : Int32)), .val (.int (3 : Int32)), .val (.int (3 : Int32)), .val (.int (3 : Int32))] [(.int (((31 : Int32) * (((31 : Int32) * ((31 : Int32) + w0)) + w1)) + w2))])) _
    exact retI X0 hx Bd.returns (hb hby d7_32) hr
  · show Q7_3 Z a1 kk w0 w1 w2 h0 n0 _ s₁.heap _
    rw [e0]
    exact ⟨rfl, N0, rfl⟩
theorem ef_6_3 (m : MethodId) (a1 : Addr) : entryFrame m #[(.ref a1), (.int (0 : Int32)), (.int (3 : Int32)), (.int (1 : Int32)), (.int (8 : Int32))] 5 = mkF m 0 #[.val (.ref a1), .val (.int (0 : Int32)), .val (.int (3 : Int32)), .val (.int (1 : Int32)), .val (.int (8 : Int32))] [] := by first | (simp [entryFrame, mkF, argsToLocals, Value.category]; done) | rfl
def Q6_3 (Z : State) (a1 : Addr) (kk : ClassId) (w0 : Int32) (w1 : Int32) (w2 : Int32) (h0 : Heap) (n0 : Nat) (v : Option Value) (h : Heap) (L : List Loc) : Prop := v = some (.int (((31 : Int32) * (((31 : Int32) * ((31 : Int32) + w0)) + w1)) + w2)) ∧ Fr n0 L ∧ h = h0
set_option maxRecDepth 65536 in
set_option maxHeartbeats 40000000 in
theorem rm6_3 (l : Launch) (Z : State) (a0 : Array Value) (hw : ∀ d ∈ tables_1, d.before a0 Z = true) (ws : List Jvm.Cond) (a1 : Addr) (kk : ClassId) (w0 : Int32) (w1 : Int32) (w2 : Int32) (h0 : Heap) (n0 : Nat) (Z0 : n0 ≤ h0.size) (HV0 : Arv Z h0 a1 kk .byte (3 : Int32) [(.int w0), (.int w1), (.int w2)] (.int (0 : Int32))) (HE1 : Exa Z h0 a1 "[B") :
    MetFree l (⟨"jdk/internal/util/ArraysSupport", "vectorizedHashCode", "(Ljava/lang/Object;IIII)I"⟩ : MethodName) (head1 (Jvm.Cond.code (⟨"jdk/internal/util/ArraysSupport", "vectorizedHashCode", "(Ljava/lang/Object;IIII)I"⟩ : MethodName) jdk_48_method_4_code 5 (some .int) :: ws) ({ frames := 1, cells := 0, slots := 0, locals := 17 } : Room)) (fun a U => a = #[(.ref a1), (.int (0 : Int32)), (.int (3 : Int32)), (.int (1 : Int32)), (.int (8 : Int32))] ∧ Z.Warmed39 U.vm ∧ U.heap = h0) (fun _ _ _ _ _ => True) (fun _ U o U' => ∃ v L, o = .returned v ∧ Q6_3 Z a1 kk w0 w1 w2 h0 n0 v U'.heap L ∧ FrameEnd U o U' L ({ frames := 1, cells := 0, slots := 0, locals := 17 } : Room).cells ({ frames := 1, cells := 0, slots := 0, locals := 17 } : Room).slots) := by
  refine MetFree.of_bodySF (plainFor_of_name pn_2) hisR ?_
  intro p e s m args below meth c s₁ Bd hml0 hP hK
  obtain ⟨rfl, hZ, hh⟩ := hP
  have hx := Bd.exec
  have hby := Bd.bytes
  have hml : c.maxLocals = 5 := hml0
  have hown : s.vm.findClass "jdk/internal/util/ArraysSupport" = some m.cls := findClass_of_methodNamed Bd.named
  have hnm := (name_of_methodNamed Bd.named Bd.method).1
  have X0 : Stand p l e ({ frames := 1, cells := 0, slots := 0, locals := 17 } : Room) s m #[(.ref a1), (.int (0 : Int32)), (.int (3 : Int32)), (.int (1 : Int32)), (.int (8 : Int32))] below meth c s₁ [] 0 0 := Stand.of_body Bd
  have e0 : s₁.heap = h0 := by rw [← hh, Bd.state]; rfl
  have N0 := Fr.nil n0
  have pre0 : ∀ t, Steps p.tables e below (s₁.setTop (mkF m 0 #[.val (.ref a1), .val (.int (0 : Int32)), .val (.int (3 : Int32)), .val (.int (1 : Int32)), .val (.int (8 : Int32))] [])) t → Steps p.tables e below (s₁.setTop (entryFrame m #[(.ref a1), (.int (0 : Int32)), (.int (3 : Int32)), (.int (1 : Int32)), (.int (8 : Int32))] 5)) t := fun t k => castTop (ef_6_3 m a1) k
  obtain ⟨T1, X1, e1, st1⟩ := castY X0 hx hZ hown (hw _ (List.mem_of_getElem? (i := 34) rfl)) e0 (Ins.self HE1) (g := (mkF m 92 #[.val (.ref a1), .val (.int (0 : Int32)), .val (.int (3 : Int32)), .val (.int (1 : Int32)), .val (.int (8 : Int32))] [(.ref a1), (.int (1 : Int32))])) rfl rfl (hb hby d6_92)
  obtain ⟨_, _, ⟨T2, L2, k2, n2⟩, -, X2, ⟨Lc2, hQ2, l2, y2, z2⟩, st2⟩ := Jvm.LawKit.callS X1 hx (y := (⟨"jdk/internal/util/ArraysSupport", "hashCode", "(I[BII)I"⟩ : MethodName)) hown (mvT hZ (hw _ (List.mem_of_getElem? (i := 36) rfl))) (mvT hZ (hw _ (List.mem_of_getElem? (i := 37) rfl))) (mvT hZ (hw _ (List.mem_of_getElem? (i := 32) rfl))) (mvT hZ (hw _ (List.mem_of_getElem? (i := 38) rfl))) (by decide) (backOf (W := 0) (rm7_3 l Z a0 hw [] a1 kk w0 w1 w2 h0 n0 Z0 HV0) hZ (hw _ (List.mem_of_getElem? (i := 38) rfl)) (hw _ (List.mem_of_getElem? (i := 32) rfl)) (by decide) (by decide)) (g := (mkF m 97 #[.val (.ref a1), .val (.int (0 : Int32)), .val (.int (3 : Int32)), .val (.int (1 : Int32)), .val (.int (8 : Int32))] [(.int (3 : Int32)), (.int (0 : Int32)), (.ref a1), (.int (1 : Int32))])) rfl (by rw [hml]; rfl) (argsL := [(.int (1 : Int32)), (.ref a1), (.int (0 : Int32)), (.int (3 : Int32))]) (rest := []) (lenOf pd_0 rfl) rfl (by show 2 * 0 + _ ≤ _; exact Nat.le_of_eq rfl) (hb hby d6_97) (fun _ _ => ⟨rfl, e1, (by decide : 0 + 0 ≤ _), (by decide : 0 + 0 ≤ _)⟩)
  dsimp only [Pt.U, Pt.locs, Pt.cells, Pt.slots] at X2 l2 y2 z2 st2 hQ2
  subst l2 y2 z2
  obtain ⟨rfl, N2q, R3⟩ := hQ2
  have N2 := Fr.app N0 N2q
  obtain ⟨fs, hr, hrun, hended, hW, hsame⟩ := X2.leave (v := some (.int (((31 : Int32) * (((31 : Int32) * ((31 : Int32) + w0)) + w1)) + w2))) (fun h => by rw [Bd.returns] at h; cases h)
  refine ⟨_, _, pre0 _ ?_, hrun, hended, _, _, rfl, ?_, ⟨_, rfl⟩, hW, hsame.mono (by decide) (by decide)⟩
  · show Steps p.tables e below (s₁.setTop (mkF m 0 #[.val (.ref a1), .val (.int (0 : Int32)), .val (.int (3 : Int32)), .val (.int (1 : Int32)), .val (.int (8 : Int32))] [])) _
    refine XS.iload X0.here hx rfl (hb hby d6_0) rfl ?_
    show Steps p.tables e below (s₁.setTop (mkF m 2 #[.val (.ref a1), .val (.int (0 : Int32)), .val (.int (3 : Int32)), .val (.int (1 : Int32)), .val (.int (8 : Int32))] [(.int (8 : Int32))])) _
    refine XS.tswIn X0.here hx rfl (pc0 := 2) (pc' := 90) rfl (hb hby d6_2) rfl (by decide) (o := 88) (by decide) (by decide) (by decide) ?_
    show Steps p.tables e below (s₁.setTop (mkF m 90 #[.val (.ref a1), .val (.int (0 : Int32)), .val (.int (3 : Int32)), .val (.int (1 : Int32)), .val (.int (8 : Int32))] [])) _
    refine XS.iloadN X0.here hx rfl (hb hby d6_90) rfl ?_
    show Steps p.tables e below (s₁.setTop (mkF m 91 #[.val (.ref a1), .val (.int (0 : Int32)), .val (.int (3 : Int32)), .val (.int (1 : Int32)), .val (.int (8 : Int32))] [(.int (1 : Int32))])) _
    refine XS.aloadN X0.here hx rfl (hb hby d6_91) rfl rfl ?_
    show Steps p.tables e below (s₁.setTop (mkF m 92 #[.val (.ref a1), .val (.int (0 : Int32)), .val (.int (3 : Int32)), .val (.int (1 : Int32)), .val (.int (8 : Int32))] [(.ref a1), (.int (1 : Int32))])) _
    refine st1 _ ?_
    show Steps p.tables e below (T1.setTop (mkF m 95 #[.val (.ref a1), .val (.int (0 : Int32)), .val (.int (3 : Int32)), .val (.int (1 : Int32)), .val (.int (8 : Int32))] [(.ref a1), (.int (1 : Int32))])) _
    refine XS.iloadN X1.here hx rfl (hb hby d6_95) rfl ?_
    show Steps p.tables e below (T1.setTop (mkF m 96 #[.val (.ref a1), .val (.int (0 : Int32)), .val (.int (3 : Int32)), .val (.int (1 : Int32)), .val (.int (8 : Int32))] [(.int (0 : Int32)), (.ref a1), (.int (1 : Int32))])) _
    refine XS.iloadN X1.here hx rfl (hb hby d6_96) rfl ?_
    show Steps p.tables e below (T1.setTop (mkF m 97 #[.val (.ref a1), .val (.int (0 : Int32)), .val (.int (3 : Int32)), .val (.int (1 : Int32)), .val (.int (8 : Int32))] [(.int (3 : Int32)), (.int (0 : Int32)), (.ref a1), (.int (1 : Int32))])) _
    refine st2 _ ?_
    show Steps p.tables e below (T2.setTop (mkF m 100 #[.val (.ref a1), .val (.int (0 : Int32)), .val (.int (3 : Int32)), .val (.int (1 : Int32)), .val (.int (8 : Int32))] [(.int (((31 : Int32) * (((31 : Int32) * ((31 : Int32) + w0)) + w1)) + w2))])) _
    refine XS.goto X2.here hx rfl (pc0 := 100) (pc' := 157) rfl (hb hby d6_100) (by decide) (by decide) ?_
    show Steps p.tables e below (T2.setTop (mkF m 157 #[.val (.ref a1), .val (.int (0 : Int32)), .val (.int (3 : Int32)), .val (.int (1 : Int32)), .val (.int (8 : Int32))] [(.int (((31 : Int32) * (((31 : Int32) * ((31 : Int32) + w0)) + w1)) + w2))])) _
    exact retI X2 hx Bd.returns (hb hby d6_157) hr
  · show Q6_3 Z a1 kk w0 w1 w2 h0 n0 _ T2.heap _
    rw [R3]
    exact ⟨rfl, N2, rfl⟩
theorem ef_4_3 (m : MethodId) (a1 : Addr) : entryFrame m #[(.ref a1)] 1 = mkF m 0 #[.val (.ref a1)] [] := by first | (simp [entryFrame, mkF, argsToLocals, Value.category]; done) | rfl
def Q4_3 (Z : State) (a1 : Addr) (kk : ClassId) (w0 : Int32) (w1 : Int32) (w2 : Int32) (h0 : Heap) (n0 : Nat) (v : Option Value) (h : Heap) (L : List Loc) : Prop := v = some (.int (((31 : Int32) * (((31 : Int32) * ((31 : Int32) + w0)) + w1)) + w2)) ∧ Fr n0 L ∧ h = h0
set_option maxRecDepth 65536 in
set_option maxHeartbeats 40000000 in
theorem rm4_3 (l : Launch) (Z : State) (a0 : Array Value) (hw : ∀ d ∈ tables_1, d.before a0 Z = true) (ws : List Jvm.Cond) (a1 : Addr) (kk : ClassId) (w0 : Int32) (w1 : Int32) (w2 : Int32) (h0 : Heap) (n0 : Nat) (Z0 : n0 ≤ h0.size) (HV0 : Arv Z h0 a1 kk .byte (3 : Int32) [(.int w0), (.int w1), (.int w2)] (.int (0 : Int32))) (HE1 : Exa Z h0 a1 "[B") :
    MetFree l (⟨"java/util/Arrays", "hashCode", "([B)I"⟩ : MethodName) (head1 (Jvm.Cond.code (⟨"java/util/Arrays", "hashCode", "([B)I"⟩ : MethodName) jdk_65_method_153_code 1 (some .int) :: ws) ({ frames := 2, cells := 0, slots := 0, locals := 33 } : Room)) (fun a U => a = #[(.ref a1)] ∧ Z.Warmed39 U.vm ∧ U.heap = h0) (fun _ _ _ _ _ => True) (fun _ U o U' => ∃ v L, o = .returned v ∧ Q4_3 Z a1 kk w0 w1 w2 h0 n0 v U'.heap L ∧ FrameEnd U o U' L ({ frames := 2, cells := 0, slots := 0, locals := 33 } : Room).cells ({ frames := 2, cells := 0, slots := 0, locals := 33 } : Room).slots) := by
  refine MetFree.of_bodySF (plainFor_of_name pn_1) hisR ?_
  intro p e s m args below meth c s₁ Bd hml0 hP hK
  obtain ⟨rfl, hZ, hh⟩ := hP
  have hx := Bd.exec
  have hby := Bd.bytes
  have hml : c.maxLocals = 1 := hml0
  have hown : s.vm.findClass "java/util/Arrays" = some m.cls := findClass_of_methodNamed Bd.named
  have hnm := (name_of_methodNamed Bd.named Bd.method).1
  have X0 : Stand p l e ({ frames := 2, cells := 0, slots := 0, locals := 33 } : Room) s m #[(.ref a1)] below meth c s₁ [] 0 0 := Stand.of_body Bd
  have e0 : s₁.heap = h0 := by rw [← hh, Bd.state]; rfl
  have N0 := Fr.nil n0
  have pre0 : ∀ t, Steps p.tables e below (s₁.setTop (mkF m 0 #[.val (.ref a1)] [])) t → Steps p.tables e below (s₁.setTop (entryFrame m #[(.ref a1)] 1)) t := fun t k => castTop (ef_4_3 m a1) k
  obtain ⟨co1, Ao1, qo1, So1, Mo1, Bo1, Go1⟩ := id HV0
  obtain ⟨co2, Ao2, qo2, So2, Mo2, Bo2, Go2⟩ := id HV0
  obtain ⟨_, _, ⟨T3, L3, k3, n3⟩, -, X3, ⟨Lc3, hQ3, l3, y3, z3⟩, st3⟩ := Jvm.LawKit.callS X0 hx (y := (⟨"jdk/internal/util/ArraysSupport", "vectorizedHashCode", "(Ljava/lang/Object;IIII)I"⟩ : MethodName)) hown (mvT hZ (hw _ (List.mem_of_getElem? (i := 30) rfl))) (mvT hZ (hw _ (List.mem_of_getElem? (i := 31) rfl))) (mvT hZ (hw _ (List.mem_of_getElem? (i := 32) rfl))) (mvT hZ (hw _ (List.mem_of_getElem? (i := 33) rfl))) (by decide) (backOf (W := 0) (rm6_3 l Z a0 hw [] a1 kk w0 w1 w2 h0 n0 Z0 HV0 HE1) hZ (hw _ (List.mem_of_getElem? (i := 33) rfl)) (hw _ (List.mem_of_getElem? (i := 32) rfl)) (by decide) (by decide)) (g := (mkF m 56 #[.val (.ref a1)] [(.int (8 : Int32)), (.int (1 : Int32)), (.int (3 : Int32)), (.int (0 : Int32)), (.ref a1)])) rfl (by rw [hml]; rfl) (argsL := [(.ref a1), (.int (0 : Int32)), (.int (3 : Int32)), (.int (1 : Int32)), (.int (8 : Int32))]) (rest := []) (lenOf pd_1 rfl) rfl (by show 2 * 0 + _ ≤ _; exact Nat.le_of_eq rfl) (hb hby d4_56) (fun _ _ => ⟨rfl, e0, (by decide : 0 + 0 ≤ _), (by decide : 0 + 0 ≤ _)⟩)
  dsimp only [Pt.U, Pt.locs, Pt.cells, Pt.slots] at X3 l3 y3 z3 st3 hQ3
  subst l3 y3 z3
  obtain ⟨rfl, N3q, R4⟩ := hQ3
  have N3 := Fr.app N0 N3q
  obtain ⟨fs, hr, hrun, hended, hW, hsame⟩ := X3.leave (v := some (.int (((31 : Int32) * (((31 : Int32) * ((31 : Int32) + w0)) + w1)) + w2))) (fun h => by rw [Bd.returns] at h; cases h)
  refine ⟨_, _, pre0 _ ?_, hrun, hended, _, _, rfl, ?_, ⟨_, rfl⟩, hW, hsame.mono (by decide) (by decide)⟩
  · show Steps p.tables e below (s₁.setTop (mkF m 0 #[.val (.ref a1)] [])) _
    refine XS.aloadN X0.here hx rfl (hb hby d4_0) rfl rfl ?_
    show Steps p.tables e below (s₁.setTop (mkF m 1 #[.val (.ref a1)] [(.ref a1)])) _
    refine XS.ifnonnullYes X0.here hx rfl (pc0 := 1) (pc' := 6) rfl (hb hby d4_1) rfl (by decide) (by decide) ?_
    show Steps p.tables e below (s₁.setTop (mkF m 6 #[.val (.ref a1)] [])) _
    refine XS.aloadN X0.here hx rfl (hb hby d4_6) rfl rfl ?_
    show Steps p.tables e below (s₁.setTop (mkF m 7 #[.val (.ref a1)] [(.ref a1)])) _
    refine X0.arraylength hx (by rw [e0]; exact Ao1.1) (State.isArrayOf_alike hZ.alike Ao1.2.1) (g := (mkF m 7 #[.val (.ref a1)] [(.ref a1)])) rfl rfl (hb hby d4_7) _ ?_
    rw [len_of So1 Mo1]
    show Steps p.tables e below (s₁.setTop (mkF m 8 #[.val (.ref a1)] [(.int (3 : Int32))])) _
    refine X0.lookupswitchMiss hx (g := (mkF m 8 #[.val (.ref a1)] [(.int (3 : Int32))])) rfl rfl (hb hby d4_8) (by decide) (by decide) (by show (0 : Int) ≤ ((8 : Nat) : Int) + (41); decide) _ ?_
    show Steps p.tables e below (s₁.setTop (mkF m 49 #[.val (.ref a1)] [])) _
    refine XS.aloadN X0.here hx rfl (hb hby d4_49) rfl rfl ?_
    show Steps p.tables e below (s₁.setTop (mkF m 50 #[.val (.ref a1)] [(.ref a1)])) _
    refine XS.iconst X0.here hx rfl (hb hby d4_50) ?_
    show Steps p.tables e below (s₁.setTop (mkF m 51 #[.val (.ref a1)] [(.int (0 : Int32)), (.ref a1)])) _
    refine XS.aloadN X0.here hx rfl (hb hby d4_51) rfl rfl ?_
    show Steps p.tables e below (s₁.setTop (mkF m 52 #[.val (.ref a1)] [(.ref a1), (.int (0 : Int32)), (.ref a1)])) _
    refine X0.arraylength hx (by rw [e0]; exact Ao2.1) (State.isArrayOf_alike hZ.alike Ao2.2.1) (g := (mkF m 52 #[.val (.ref a1)] [(.ref a1), (.int (0 : Int32)), (.ref a1)])) rfl rfl (hb hby d4_52) _ ?_
    rw [len_of So2 Mo2]
    show Steps p.tables e below (s₁.setTop (mkF m 53 #[.val (.ref a1)] [(.int (3 : Int32)), (.int (0 : Int32)), (.ref a1)])) _
    refine XS.iconst X0.here hx rfl (hb hby d4_53) ?_
    show Steps p.tables e below (s₁.setTop (mkF m 54 #[.val (.ref a1)] [(.int (1 : Int32)), (.int (3 : Int32)), (.int (0 : Int32)), (.ref a1)])) _
    refine XS.bipush X0.here hx rfl (hb hby d4_54) ?_
    show Steps p.tables e below (s₁.setTop (mkF m 56 #[.val (.ref a1)] [(.int (8 : Int32)), (.int (1 : Int32)), (.int (3 : Int32)), (.int (0 : Int32)), (.ref a1)])) _
    refine st3 _ ?_
    show Steps p.tables e below (T3.setTop (mkF m 59 #[.val (.ref a1)] [(.int (((31 : Int32) * (((31 : Int32) * ((31 : Int32) + w0)) + w1)) + w2))])) _
    exact retI X3 hx Bd.returns (hb hby d4_59) hr
  · show Q4_3 Z a1 kk w0 w1 w2 h0 n0 _ T3.heap _
    rw [R4]
    exact ⟨rfl, N3, rfl⟩
theorem own_at {cl : Cell} {f : Nat → Addr} {r z : Int32} (hs : cl.slots.size = 64) (hk : ∀ k, k < 64 → cl.slots[k]? = some (.ref (f k))) (hr : r.toInt = z.toInt % 64) : ¬ (r < 0 ∨ cl.slots.size ≤ r.toNatClampNeg) ∧ cl.slots[r.toNatClampNeg]? = some (.ref (f (z.toInt % 64).toNat)) := by
  have e : r.toNatClampNeg = (z.toInt % 64).toNat := by show r.toInt.toNat = _; rw [hr]
  have e0 : (0 : Int32).toInt = 0 := rfl
  have hl : (z.toInt % 64).toNat < 64 := by omega
  refine ⟨?_, by rw [e]; exact hk _ hl⟩
  rw [hs, e, Int32.lt_iff_toInt_lt, hr, e0]
  omega
theorem d3_0 : decode prog_33_method_2_code 0 = .ok (.aload_n 0, 1) := by decide +kernel
theorem d3_1 : decode prog_33_method_2_code 1 = .ok (.getfield 9, 3) := by decide +kernel
theorem d3_4 : decode prog_33_method_2_code 4 = .ok (.aload_n 1, 1) := by decide +kernel
theorem d3_5 : decode prog_33_method_2_code 5 = .ok (.invokestatic 13, 3) := by decide +kernel
theorem pd_2 : parseMethodDescriptor "([B)I" = some ⟨[(.array .byte)], some .int⟩ := by decide +kernel
theorem d3_8 : decode prog_33_method_2_code 8 = .ok (.bipush 64, 2) := by decide +kernel
theorem d3_10 : decode prog_33_method_2_code 10 = .ok (.invokestatic 19, 3) := by decide +kernel
theorem pd_3 : parseMethodDescriptor "(II)I" = some ⟨[.int, .int], some .int⟩ := by decide +kernel
theorem d3_13 : decode prog_33_method_2_code 13 = .ok (.aaload, 1) := by decide +kernel
theorem d3_14 : decode prog_33_method_2_code 14 = .ok (.areturn, 1) := by decide +kernel
theorem ef_3_0 (m : MethodId) (a1 : Addr) (a2 : Addr) : entryFrame m #[(.ref a1), (.ref a2)] 2 = mkF m 0 #[.val (.ref a1), .val (.ref a2)] [] := by first | (simp [entryFrame, mkF, argsToLocals, Value.category]; done) | rfl
def Q3_0 (Z : State) (a1 : Addr) (a2 : Addr) (aB : Addr) (f : Nat → Addr) (kk : ClassId) (h0 : Heap) (n0 : Nat) (v : Option Value) (h : Heap) (L : List Loc) : Prop := v = some (.ref (f (((1 : Int32)).toInt % 64).toNat)) ∧ Fr n0 L ∧ h = h0
set_option maxRecDepth 65536 in
set_option maxHeartbeats 40000000 in
theorem rm3_0 (l : Launch) (Z : State) (a0 : Array Value) (hw : ∀ d ∈ tables_1, d.before a0 Z = true) (ws : List Jvm.Cond) (a1 : Addr) (a2 : Addr) (aB : Addr) (f : Nat → Addr) (kk : ClassId) (h0 : Heap) (n0 : Nat) (Z0 : n0 ≤ h0.size) (HF0 : Fld Z h0 a1 "com/example/grant4/grant4/store/KeyLocks" "stripes" "[Ljava/lang/Object;" (.ref aB)) (hstr : (own_Str Z h0 aB f)) (HV2 : Arv Z h0 a2 kk .byte (0 : Int32) [] (.int (0 : Int32))) (HE3 : Exa Z h0 a2 "[B") :
    MetFree l (⟨"com/example/grant4/grant4/store/KeyLocks", "of", "([B)Ljava/lang/Object;"⟩ : MethodName) (head1 (Jvm.Cond.code (⟨"com/example/grant4/grant4/store/KeyLocks", "of", "([B)Ljava/lang/Object;"⟩ : MethodName) prog_33_method_2_code 2 (some (.object "java/lang/Object")) :: ws) ({ frames := 1, cells := 0, slots := 0, locals := 15 } : Room)) (fun a U => a = #[(.ref a1), (.ref a2)] ∧ Z.Warmed39 U.vm ∧ U.heap = h0) (fun _ _ _ _ _ => True) (fun _ U o U' => ∃ v L, o = .returned v ∧ Q3_0 Z a1 a2 aB f kk h0 n0 v U'.heap L ∧ FrameEnd U o U' L ({ frames := 1, cells := 0, slots := 0, locals := 15 } : Room).cells ({ frames := 1, cells := 0, slots := 0, locals := 15 } : Room).slots) := by
  refine MetFree.of_bodySF (plainFor_of_name pn_0) hisR ?_
  intro p e s m args below meth c s₁ Bd hml0 hP hK
  obtain ⟨rfl, hZ, hh⟩ := hP
  have hx := Bd.exec
  have hby := Bd.bytes
  have hml : c.maxLocals = 2 := hml0
  have hown : s.vm.findClass "com/example/grant4/grant4/store/KeyLocks" = some m.cls := findClass_of_methodNamed Bd.named
  have hnm := (name_of_methodNamed Bd.named Bd.method).1
  have X0 : Stand p l e ({ frames := 1, cells := 0, slots := 0, locals := 15 } : Room) s m #[(.ref a1), (.ref a2)] below meth c s₁ [] 0 0 := Stand.of_body Bd
  have e0 : s₁.heap = h0 := by rw [← hh, Bd.state]; rfl
  have N0 := Fr.nil n0
  have pre0 : ∀ t, Steps p.tables e below (s₁.setTop (mkF m 0 #[.val (.ref a1), .val (.ref a2)] [])) t → Steps p.tables e below (s₁.setTop (entryFrame m #[(.ref a1), (.ref a2)] 2)) t := fun t k => castTop (ef_3_0 m a1 a2) k
  obtain ⟨T1, X1, e1, st1⟩ := getF X0 hx hZ hown (host := "") (Or.inl (hw _ (List.mem_of_getElem? (i := 12) rfl))) Via.refl e0 HF0 (g := (mkF m 1 #[.val (.ref a1), .val (.ref a2)] [(.ref a1)])) rfl rfl (hb hby d3_1)
  obtain ⟨_, _, ⟨T2, L2, k2, n2⟩, -, X2, ⟨Lc2, hQ2, l2, y2, z2⟩, st2⟩ := Jvm.LawKit.callS X1 hx (y := (⟨"java/util/Arrays", "hashCode", "([B)I"⟩ : MethodName)) hown (mvT hZ (hw _ (List.mem_of_getElem? (i := 22) rfl))) (mvT hZ (hw _ (List.mem_of_getElem? (i := 23) rfl))) (mvT hZ (hw _ (List.mem_of_getElem? (i := 24) rfl))) (mvT hZ (hw _ (List.mem_of_getElem? (i := 25) rfl))) (by decide) (backOf (W := 1) (rm4_0 l Z a0 hw [] a2 kk h0 n0 Z0 HV2 HE3) hZ (hw _ (List.mem_of_getElem? (i := 25) rfl)) (hw _ (List.mem_of_getElem? (i := 24) rfl)) (by decide) (by decide)) (g := (mkF m 5 #[.val (.ref a1), .val (.ref a2)] [(.ref a2), (.ref aB)])) rfl (by rw [hml]; rfl) (argsL := [(.ref a2)]) (rest := [(.ref aB)]) (lenOf pd_2 rfl) rfl (by show 2 * 0 + _ ≤ _; exact Nat.le_of_eq rfl) (hb hby d3_5) (fun _ _ => ⟨rfl, e1, (by decide : 0 + 0 ≤ _), (by decide : 0 + 0 ≤ _)⟩)
  dsimp only [Pt.U, Pt.locs, Pt.cells, Pt.slots] at X2 l2 y2 z2 st2 hQ2
  subst l2 y2 z2
  obtain ⟨rfl, N2q, R3⟩ := hQ2
  have N2 := Fr.app N0 N2q
  obtain ⟨_, _, ⟨T4, L4, k4, n4⟩, -, X4, ⟨Lc4, hQ4, l4, y4, z4⟩, st4⟩ := Jvm.LawKit.callS X2 hx (y := (⟨"java/lang/Math", "floorMod", "(II)I"⟩ : MethodName)) hown (mvT hZ (hw _ (List.mem_of_getElem? (i := 26) rfl))) (mvT hZ (hw _ (List.mem_of_getElem? (i := 27) rfl))) (mvT hZ (hw _ (List.mem_of_getElem? (i := 28) rfl))) (mvT hZ (hw _ (List.mem_of_getElem? (i := 29) rfl))) (by decide) (backOf (W := 1) (rm5 l Z a0 hw [] (1 : Int32) h0 n0 Z0 ) hZ (hw _ (List.mem_of_getElem? (i := 29) rfl)) (hw _ (List.mem_of_getElem? (i := 28) rfl)) (by decide) (by decide)) (g := (mkF m 10 #[.val (.ref a1), .val (.ref a2)] [(.int (64 : Int32)), (.int (1 : Int32)), (.ref aB)])) rfl (by rw [hml]; rfl) (argsL := [(.int (1 : Int32)), (.int (64 : Int32))]) (rest := [(.ref aB)]) (lenOf pd_3 rfl) rfl (by show 2 * 0 + _ ≤ _; exact Nat.le_of_eq rfl) (hb hby d3_10) (fun _ _ => ⟨rfl, R3, (by decide : 0 + 0 ≤ _), (by decide : 0 + 0 ≤ _)⟩)
  dsimp only [Pt.U, Pt.locs, Pt.cells, Pt.slots] at X4 l4 y4 z4 st4 hQ4
  subst l4 y4 z4
  obtain ⟨r5, rfl, N4q, R6, R7⟩ := hQ4
  have N4 := Fr.app N2 N4q
  obtain ⟨cl, Ar, hsl, hel⟩ := hstr
  obtain ⟨hin, hat⟩ := own_at hsl hel R6
  obtain ⟨fs, hr, hrun, hended, hW, hsame⟩ := X4.leave (v := some (.ref (f (((1 : Int32)).toInt % 64).toNat))) (fun h => by rw [Bd.returns] at h; cases h)
  refine ⟨_, _, pre0 _ ?_, hrun, hended, _, _, rfl, ?_, ⟨_, rfl⟩, hW, hsame.mono (by decide) (by decide)⟩
  · show Steps p.tables e below (s₁.setTop (mkF m 0 #[.val (.ref a1), .val (.ref a2)] [])) _
    refine XS.aloadN X0.here hx rfl (hb hby d3_0) rfl rfl ?_
    show Steps p.tables e below (s₁.setTop (mkF m 1 #[.val (.ref a1), .val (.ref a2)] [(.ref a1)])) _
    refine st1 _ ?_
    show Steps p.tables e below (T1.setTop (mkF m 4 #[.val (.ref a1), .val (.ref a2)] [(.ref aB)])) _
    refine XS.aloadN X1.here hx rfl (hb hby d3_4) rfl rfl ?_
    show Steps p.tables e below (T1.setTop (mkF m 5 #[.val (.ref a1), .val (.ref a2)] [(.ref a2), (.ref aB)])) _
    refine st2 _ ?_
    show Steps p.tables e below (T2.setTop (mkF m 8 #[.val (.ref a1), .val (.ref a2)] [(.int (1 : Int32)), (.ref aB)])) _
    refine XS.bipush X2.here hx rfl (hb hby d3_8) ?_
    show Steps p.tables e below (T2.setTop (mkF m 10 #[.val (.ref a1), .val (.ref a2)] [(.int (64 : Int32)), (.int (1 : Int32)), (.ref aB)])) _
    refine st4 _ ?_
    show Steps p.tables e below (T4.setTop (mkF m 13 #[.val (.ref a1), .val (.ref a2)] [(.int r5), (.ref aB)])) _
    refine X4.aaload hx (j := r5) (v := (.ref (f (((1 : Int32)).toInt % 64).toNat))) (by rw [R7]; exact Ar.1) (State.isArrayOf_alike hZ.alike Ar.2.1) rfl Ar.2.2 hin hat (g := (mkF m 13 #[.val (.ref a1), .val (.ref a2)] [(.int r5), (.ref aB)])) rfl rfl (hb hby d3_13) _ ?_
    show Steps p.tables e below (T4.setTop (mkF m 14 #[.val (.ref a1), .val (.ref a2)] [(.ref (f (((1 : Int32)).toInt % 64).toNat))])) _
    exact retOut X4 hx Bd.returns rfl (Or.inr (Or.inr (Or.inr (Or.inr ⟨rfl, rfl, rfl⟩)))) (hb hby d3_14) hr
  · show Q3_0 Z a1 a2 aB f kk h0 n0 _ T4.heap _
    rw [R7]
    exact ⟨rfl, N4, rfl⟩
theorem ef_3_1 (m : MethodId) (a1 : Addr) (a2 : Addr) : entryFrame m #[(.ref a1), (.ref a2)] 2 = mkF m 0 #[.val (.ref a1), .val (.ref a2)] [] := by first | (simp [entryFrame, mkF, argsToLocals, Value.category]; done) | rfl
def Q3_1 (Z : State) (a1 : Addr) (a2 : Addr) (aB : Addr) (f : Nat → Addr) (kk : ClassId) (w0 : Int32) (h0 : Heap) (n0 : Nat) (v : Option Value) (h : Heap) (L : List Loc) : Prop := v = some (.ref (f ((((31 : Int32) + w0)).toInt % 64).toNat)) ∧ Fr n0 L ∧ h = h0
set_option maxRecDepth 65536 in
set_option maxHeartbeats 40000000 in
theorem rm3_1 (l : Launch) (Z : State) (a0 : Array Value) (hw : ∀ d ∈ tables_1, d.before a0 Z = true) (ws : List Jvm.Cond) (a1 : Addr) (a2 : Addr) (aB : Addr) (f : Nat → Addr) (kk : ClassId) (w0 : Int32) (h0 : Heap) (n0 : Nat) (Z0 : n0 ≤ h0.size) (HF0 : Fld Z h0 a1 "com/example/grant4/grant4/store/KeyLocks" "stripes" "[Ljava/lang/Object;" (.ref aB)) (hstr : (own_Str Z h0 aB f)) (HV2 : Arv Z h0 a2 kk .byte (1 : Int32) [(.int w0)] (.int (0 : Int32))) (HE3 : Exa Z h0 a2 "[B") :
    MetFree l (⟨"com/example/grant4/grant4/store/KeyLocks", "of", "([B)Ljava/lang/Object;"⟩ : MethodName) (head1 (Jvm.Cond.code (⟨"com/example/grant4/grant4/store/KeyLocks", "of", "([B)Ljava/lang/Object;"⟩ : MethodName) prog_33_method_2_code 2 (some (.object "java/lang/Object")) :: ws) ({ frames := 1, cells := 0, slots := 0, locals := 15 } : Room)) (fun a U => a = #[(.ref a1), (.ref a2)] ∧ Z.Warmed39 U.vm ∧ U.heap = h0) (fun _ _ _ _ _ => True) (fun _ U o U' => ∃ v L, o = .returned v ∧ Q3_1 Z a1 a2 aB f kk w0 h0 n0 v U'.heap L ∧ FrameEnd U o U' L ({ frames := 1, cells := 0, slots := 0, locals := 15 } : Room).cells ({ frames := 1, cells := 0, slots := 0, locals := 15 } : Room).slots) := by
  refine MetFree.of_bodySF (plainFor_of_name pn_0) hisR ?_
  intro p e s m args below meth c s₁ Bd hml0 hP hK
  obtain ⟨rfl, hZ, hh⟩ := hP
  have hx := Bd.exec
  have hby := Bd.bytes
  have hml : c.maxLocals = 2 := hml0
  have hown : s.vm.findClass "com/example/grant4/grant4/store/KeyLocks" = some m.cls := findClass_of_methodNamed Bd.named
  have hnm := (name_of_methodNamed Bd.named Bd.method).1
  have X0 : Stand p l e ({ frames := 1, cells := 0, slots := 0, locals := 15 } : Room) s m #[(.ref a1), (.ref a2)] below meth c s₁ [] 0 0 := Stand.of_body Bd
  have e0 : s₁.heap = h0 := by rw [← hh, Bd.state]; rfl
  have N0 := Fr.nil n0
  have pre0 : ∀ t, Steps p.tables e below (s₁.setTop (mkF m 0 #[.val (.ref a1), .val (.ref a2)] [])) t → Steps p.tables e below (s₁.setTop (entryFrame m #[(.ref a1), (.ref a2)] 2)) t := fun t k => castTop (ef_3_1 m a1 a2) k
  obtain ⟨T1, X1, e1, st1⟩ := getF X0 hx hZ hown (host := "") (Or.inl (hw _ (List.mem_of_getElem? (i := 12) rfl))) Via.refl e0 HF0 (g := (mkF m 1 #[.val (.ref a1), .val (.ref a2)] [(.ref a1)])) rfl rfl (hb hby d3_1)
  obtain ⟨_, _, ⟨T2, L2, k2, n2⟩, -, X2, ⟨Lc2, hQ2, l2, y2, z2⟩, st2⟩ := Jvm.LawKit.callS X1 hx (y := (⟨"java/util/Arrays", "hashCode", "([B)I"⟩ : MethodName)) hown (mvT hZ (hw _ (List.mem_of_getElem? (i := 22) rfl))) (mvT hZ (hw _ (List.mem_of_getElem? (i := 23) rfl))) (mvT hZ (hw _ (List.mem_of_getElem? (i := 24) rfl))) (mvT hZ (hw _ (List.mem_of_getElem? (i := 25) rfl))) (by decide) (backOf (W := 1) (rm4_1 l Z a0 hw [] a2 kk w0 h0 n0 Z0 HV2 HE3) hZ (hw _ (List.mem_of_getElem? (i := 25) rfl)) (hw _ (List.mem_of_getElem? (i := 24) rfl)) (by decide) (by decide)) (g := (mkF m 5 #[.val (.ref a1), .val (.ref a2)] [(.ref a2), (.ref aB)])) rfl (by rw [hml]; rfl) (argsL := [(.ref a2)]) (rest := [(.ref aB)]) (lenOf pd_2 rfl) rfl (by show 2 * 0 + _ ≤ _; exact Nat.le_of_eq rfl) (hb hby d3_5) (fun _ _ => ⟨rfl, e1, (by decide : 0 + 0 ≤ _), (by decide : 0 + 0 ≤ _)⟩)
  dsimp only [Pt.U, Pt.locs, Pt.cells, Pt.slots] at X2 l2 y2 z2 st2 hQ2
  subst l2 y2 z2
  obtain ⟨rfl, N2q, R3⟩ := hQ2
  have N2 := Fr.app N0 N2q
  obtain ⟨_, _, ⟨T4, L4, k4, n4⟩, -, X4, ⟨Lc4, hQ4, l4, y4, z4⟩, st4⟩ := Jvm.LawKit.callS X2 hx (y := (⟨"java/lang/Math", "floorMod", "(II)I"⟩ : MethodName)) hown (mvT hZ (hw _ (List.mem_of_getElem? (i := 26) rfl))) (mvT hZ (hw _ (List.mem_of_getElem? (i := 27) rfl))) (mvT hZ (hw _ (List.mem_of_getElem? (i := 28) rfl))) (mvT hZ (hw _ (List.mem_of_getElem? (i := 29) rfl))) (by decide) (backOf (W := 1) (rm5 l Z a0 hw [] ((31 : Int32) + w0) h0 n0 Z0 ) hZ (hw _ (List.mem_of_getElem? (i := 29) rfl)) (hw _ (List.mem_of_getElem? (i := 28) rfl)) (by decide) (by decide)) (g := (mkF m 10 #[.val (.ref a1), .val (.ref a2)] [(.int (64 : Int32)), (.int ((31 : Int32) + w0)), (.ref aB)])) rfl (by rw [hml]; rfl) (argsL := [(.int ((31 : Int32) + w0)), (.int (64 : Int32))]) (rest := [(.ref aB)]) (lenOf pd_3 rfl) rfl (by show 2 * 0 + _ ≤ _; exact Nat.le_of_eq rfl) (hb hby d3_10) (fun _ _ => ⟨rfl, R3, (by decide : 0 + 0 ≤ _), (by decide : 0 + 0 ≤ _)⟩)
  dsimp only [Pt.U, Pt.locs, Pt.cells, Pt.slots] at X4 l4 y4 z4 st4 hQ4
  subst l4 y4 z4
  obtain ⟨r5, rfl, N4q, R6, R7⟩ := hQ4
  have N4 := Fr.app N2 N4q
  obtain ⟨cl, Ar, hsl, hel⟩ := hstr
  obtain ⟨hin, hat⟩ := own_at hsl hel R6
  obtain ⟨fs, hr, hrun, hended, hW, hsame⟩ := X4.leave (v := some (.ref (f ((((31 : Int32) + w0)).toInt % 64).toNat))) (fun h => by rw [Bd.returns] at h; cases h)
  refine ⟨_, _, pre0 _ ?_, hrun, hended, _, _, rfl, ?_, ⟨_, rfl⟩, hW, hsame.mono (by decide) (by decide)⟩
  · show Steps p.tables e below (s₁.setTop (mkF m 0 #[.val (.ref a1), .val (.ref a2)] [])) _
    refine XS.aloadN X0.here hx rfl (hb hby d3_0) rfl rfl ?_
    show Steps p.tables e below (s₁.setTop (mkF m 1 #[.val (.ref a1), .val (.ref a2)] [(.ref a1)])) _
    refine st1 _ ?_
    show Steps p.tables e below (T1.setTop (mkF m 4 #[.val (.ref a1), .val (.ref a2)] [(.ref aB)])) _
    refine XS.aloadN X1.here hx rfl (hb hby d3_4) rfl rfl ?_
    show Steps p.tables e below (T1.setTop (mkF m 5 #[.val (.ref a1), .val (.ref a2)] [(.ref a2), (.ref aB)])) _
    refine st2 _ ?_
    show Steps p.tables e below (T2.setTop (mkF m 8 #[.val (.ref a1), .val (.ref a2)] [(.int ((31 : Int32) + w0)), (.ref aB)])) _
    refine XS.bipush X2.here hx rfl (hb hby d3_8) ?_
    show Steps p.tables e below (T2.setTop (mkF m 10 #[.val (.ref a1), .val (.ref a2)] [(.int (64 : Int32)), (.int ((31 : Int32) + w0)), (.ref aB)])) _
    refine st4 _ ?_
    show Steps p.tables e below (T4.setTop (mkF m 13 #[.val (.ref a1), .val (.ref a2)] [(.int r5), (.ref aB)])) _
    refine X4.aaload hx (j := r5) (v := (.ref (f ((((31 : Int32) + w0)).toInt % 64).toNat))) (by rw [R7]; exact Ar.1) (State.isArrayOf_alike hZ.alike Ar.2.1) rfl Ar.2.2 hin hat (g := (mkF m 13 #[.val (.ref a1), .val (.ref a2)] [(.int r5), (.ref aB)])) rfl rfl (hb hby d3_13) _ ?_
    show Steps p.tables e below (T4.setTop (mkF m 14 #[.val (.ref a1), .val (.ref a2)] [(.ref (f ((((31 : Int32) + w0)).toInt % 64).toNat))])) _
    exact retOut X4 hx Bd.returns rfl (Or.inr (Or.inr (Or.inr (Or.inr ⟨rfl, rfl, rfl⟩)))) (hb hby d3_14) hr
  · show Q3_1 Z a1 a2 aB f kk w0 h0 n0 _ T4.heap _
    rw [R7]
    exact ⟨rfl, N4, rfl⟩
theorem ef_3_2 (m : MethodId) (a1 : Addr) (a2 : Addr) : entryFrame m #[(.ref a1), (.ref a2)] 2 = mkF m 0 #[.val (.ref a1), .val (.ref a2)] [] := by first | (simp [entryFrame, mkF, argsToLocals, Value.category]; done) | rfl
def Q3_2 (Z : State) (a1 : Addr) (a2 : Addr) (aB : Addr) (f : Nat → Addr) (kk : ClassId) (w0 : Int32) (w1 : Int32) (h0 : Heap) (n0 : Nat) (v : Option Value) (h : Heap) (L : List Loc) : Prop := v = some (.ref (f (((((31 : Int32) * ((31 : Int32) + w0)) + w1)).toInt % 64).toNat)) ∧ Fr n0 L ∧ h = h0
set_option maxRecDepth 65536 in
set_option maxHeartbeats 40000000 in
theorem rm3_2 (l : Launch) (Z : State) (a0 : Array Value) (hw : ∀ d ∈ tables_1, d.before a0 Z = true) (ws : List Jvm.Cond) (a1 : Addr) (a2 : Addr) (aB : Addr) (f : Nat → Addr) (kk : ClassId) (w0 : Int32) (w1 : Int32) (h0 : Heap) (n0 : Nat) (Z0 : n0 ≤ h0.size) (HF0 : Fld Z h0 a1 "com/example/grant4/grant4/store/KeyLocks" "stripes" "[Ljava/lang/Object;" (.ref aB)) (hstr : (own_Str Z h0 aB f)) (HV2 : Arv Z h0 a2 kk .byte (2 : Int32) [(.int w0), (.int w1)] (.int (0 : Int32))) (HE3 : Exa Z h0 a2 "[B") :
    MetFree l (⟨"com/example/grant4/grant4/store/KeyLocks", "of", "([B)Ljava/lang/Object;"⟩ : MethodName) (head1 (Jvm.Cond.code (⟨"com/example/grant4/grant4/store/KeyLocks", "of", "([B)Ljava/lang/Object;"⟩ : MethodName) prog_33_method_2_code 2 (some (.object "java/lang/Object")) :: ws) ({ frames := 3, cells := 0, slots := 0, locals := 46 } : Room)) (fun a U => a = #[(.ref a1), (.ref a2)] ∧ Z.Warmed39 U.vm ∧ U.heap = h0) (fun _ _ _ _ _ => True) (fun _ U o U' => ∃ v L, o = .returned v ∧ Q3_2 Z a1 a2 aB f kk w0 w1 h0 n0 v U'.heap L ∧ FrameEnd U o U' L ({ frames := 3, cells := 0, slots := 0, locals := 46 } : Room).cells ({ frames := 3, cells := 0, slots := 0, locals := 46 } : Room).slots) := by
  refine MetFree.of_bodySF (plainFor_of_name pn_0) hisR ?_
  intro p e s m args below meth c s₁ Bd hml0 hP hK
  obtain ⟨rfl, hZ, hh⟩ := hP
  have hx := Bd.exec
  have hby := Bd.bytes
  have hml : c.maxLocals = 2 := hml0
  have hown : s.vm.findClass "com/example/grant4/grant4/store/KeyLocks" = some m.cls := findClass_of_methodNamed Bd.named
  have hnm := (name_of_methodNamed Bd.named Bd.method).1
  have X0 : Stand p l e ({ frames := 3, cells := 0, slots := 0, locals := 46 } : Room) s m #[(.ref a1), (.ref a2)] below meth c s₁ [] 0 0 := Stand.of_body Bd
  have e0 : s₁.heap = h0 := by rw [← hh, Bd.state]; rfl
  have N0 := Fr.nil n0
  have pre0 : ∀ t, Steps p.tables e below (s₁.setTop (mkF m 0 #[.val (.ref a1), .val (.ref a2)] [])) t → Steps p.tables e below (s₁.setTop (entryFrame m #[(.ref a1), (.ref a2)] 2)) t := fun t k => castTop (ef_3_2 m a1 a2) k
  obtain ⟨T1, X1, e1, st1⟩ := getF X0 hx hZ hown (host := "") (Or.inl (hw _ (List.mem_of_getElem? (i := 12) rfl))) Via.refl e0 HF0 (g := (mkF m 1 #[.val (.ref a1), .val (.ref a2)] [(.ref a1)])) rfl rfl (hb hby d3_1)
  obtain ⟨_, _, ⟨T2, L2, k2, n2⟩, -, X2, ⟨Lc2, hQ2, l2, y2, z2⟩, st2⟩ := Jvm.LawKit.callS X1 hx (y := (⟨"java/util/Arrays", "hashCode", "([B)I"⟩ : MethodName)) hown (mvT hZ (hw _ (List.mem_of_getElem? (i := 22) rfl))) (mvT hZ (hw _ (List.mem_of_getElem? (i := 23) rfl))) (mvT hZ (hw _ (List.mem_of_getElem? (i := 24) rfl))) (mvT hZ (hw _ (List.mem_of_getElem? (i := 25) rfl))) (by decide) (backOf (W := 1) (rm4_2 l Z a0 hw [] a2 kk w0 w1 h0 n0 Z0 HV2 HE3) hZ (hw _ (List.mem_of_getElem? (i := 25) rfl)) (hw _ (List.mem_of_getElem? (i := 24) rfl)) (by decide) (by decide)) (g := (mkF m 5 #[.val (.ref a1), .val (.ref a2)] [(.ref a2), (.ref aB)])) rfl (by rw [hml]; rfl) (argsL := [(.ref a2)]) (rest := [(.ref aB)]) (lenOf pd_2 rfl) rfl (by show 2 * 0 + _ ≤ _; exact Nat.le_of_eq rfl) (hb hby d3_5) (fun _ _ => ⟨rfl, e1, (by decide : 0 + 0 ≤ _), (by decide : 0 + 0 ≤ _)⟩)
  dsimp only [Pt.U, Pt.locs, Pt.cells, Pt.slots] at X2 l2 y2 z2 st2 hQ2
  subst l2 y2 z2
  obtain ⟨rfl, N2q, R3⟩ := hQ2
  have N2 := Fr.app N0 N2q
  obtain ⟨_, _, ⟨T4, L4, k4, n4⟩, -, X4, ⟨Lc4, hQ4, l4, y4, z4⟩, st4⟩ := Jvm.LawKit.callS X2 hx (y := (⟨"java/lang/Math", "floorMod", "(II)I"⟩ : MethodName)) hown (mvT hZ (hw _ (List.mem_of_getElem? (i := 26) rfl))) (mvT hZ (hw _ (List.mem_of_getElem? (i := 27) rfl))) (mvT hZ (hw _ (List.mem_of_getElem? (i := 28) rfl))) (mvT hZ (hw _ (List.mem_of_getElem? (i := 29) rfl))) (by decide) (backOf (W := 1) (rm5 l Z a0 hw [] (((31 : Int32) * ((31 : Int32) + w0)) + w1) h0 n0 Z0 ) hZ (hw _ (List.mem_of_getElem? (i := 29) rfl)) (hw _ (List.mem_of_getElem? (i := 28) rfl)) (by decide) (by decide)) (g := (mkF m 10 #[.val (.ref a1), .val (.ref a2)] [(.int (64 : Int32)), (.int (((31 : Int32) * ((31 : Int32) + w0)) + w1)), (.ref aB)])) rfl (by rw [hml]; rfl) (argsL := [(.int (((31 : Int32) * ((31 : Int32) + w0)) + w1)), (.int (64 : Int32))]) (rest := [(.ref aB)]) (lenOf pd_3 rfl) rfl (by show 2 * 0 + _ ≤ _; exact Nat.le_of_eq rfl) (hb hby d3_10) (fun _ _ => ⟨rfl, R3, (by decide : 0 + 0 ≤ _), (by decide : 0 + 0 ≤ _)⟩)
  dsimp only [Pt.U, Pt.locs, Pt.cells, Pt.slots] at X4 l4 y4 z4 st4 hQ4
  subst l4 y4 z4
  obtain ⟨r5, rfl, N4q, R6, R7⟩ := hQ4
  have N4 := Fr.app N2 N4q
  obtain ⟨cl, Ar, hsl, hel⟩ := hstr
  obtain ⟨hin, hat⟩ := own_at hsl hel R6
  obtain ⟨fs, hr, hrun, hended, hW, hsame⟩ := X4.leave (v := some (.ref (f (((((31 : Int32) * ((31 : Int32) + w0)) + w1)).toInt % 64).toNat))) (fun h => by rw [Bd.returns] at h; cases h)
  refine ⟨_, _, pre0 _ ?_, hrun, hended, _, _, rfl, ?_, ⟨_, rfl⟩, hW, hsame.mono (by decide) (by decide)⟩
  · show Steps p.tables e below (s₁.setTop (mkF m 0 #[.val (.ref a1), .val (.ref a2)] [])) _
    refine XS.aloadN X0.here hx rfl (hb hby d3_0) rfl rfl ?_
    show Steps p.tables e below (s₁.setTop (mkF m 1 #[.val (.ref a1), .val (.ref a2)] [(.ref a1)])) _
    refine st1 _ ?_
    show Steps p.tables e below (T1.setTop (mkF m 4 #[.val (.ref a1), .val (.ref a2)] [(.ref aB)])) _
    refine XS.aloadN X1.here hx rfl (hb hby d3_4) rfl rfl ?_
    show Steps p.tables e below (T1.setTop (mkF m 5 #[.val (.ref a1), .val (.ref a2)] [(.ref a2), (.ref aB)])) _
    refine st2 _ ?_
    show Steps p.tables e below (T2.setTop (mkF m 8 #[.val (.ref a1), .val (.ref a2)] [(.int (((31 : Int32) * ((31 : Int32) + w0)) + w1)), (.ref aB)])) _
    refine XS.bipush X2.here hx rfl (hb hby d3_8) ?_
    show Steps p.tables e below (T2.setTop (mkF m 10 #[.val (.ref a1), .val (.ref a2)] [(.int (64 : Int32)), (.int (((31 : Int32) * ((31 : Int32) + w0)) + w1)), (.ref aB)])) _
    refine st4 _ ?_
    show Steps p.tables e below (T4.setTop (mkF m 13 #[.val (.ref a1), .val (.ref a2)] [(.int r5), (.ref aB)])) _
    refine X4.aaload hx (j := r5) (v := (.ref (f (((((31 : Int32) * ((31 : Int32) + w0)) + w1)).toInt % 64).toNat))) (by rw [R7]; exact Ar.1) (State.isArrayOf_alike hZ.alike Ar.2.1) rfl Ar.2.2 hin hat (g := (mkF m 13 #[.val (.ref a1), .val (.ref a2)] [(.int r5), (.ref aB)])) rfl rfl (hb hby d3_13) _ ?_
    show Steps p.tables e below (T4.setTop (mkF m 14 #[.val (.ref a1), .val (.ref a2)] [(.ref (f (((((31 : Int32) * ((31 : Int32) + w0)) + w1)).toInt % 64).toNat))])) _
    exact retOut X4 hx Bd.returns rfl (Or.inr (Or.inr (Or.inr (Or.inr ⟨rfl, rfl, rfl⟩)))) (hb hby d3_14) hr
  · show Q3_2 Z a1 a2 aB f kk w0 w1 h0 n0 _ T4.heap _
    rw [R7]
    exact ⟨rfl, N4, rfl⟩
theorem ef_3_3 (m : MethodId) (a1 : Addr) (a2 : Addr) : entryFrame m #[(.ref a1), (.ref a2)] 2 = mkF m 0 #[.val (.ref a1), .val (.ref a2)] [] := by first | (simp [entryFrame, mkF, argsToLocals, Value.category]; done) | rfl
def Q3_3 (Z : State) (a1 : Addr) (a2 : Addr) (aB : Addr) (f : Nat → Addr) (kk : ClassId) (w0 : Int32) (w1 : Int32) (w2 : Int32) (h0 : Heap) (n0 : Nat) (v : Option Value) (h : Heap) (L : List Loc) : Prop := v = some (.ref (f (((((31 : Int32) * (((31 : Int32) * ((31 : Int32) + w0)) + w1)) + w2)).toInt % 64).toNat)) ∧ Fr n0 L ∧ h = h0
set_option maxRecDepth 65536 in
set_option maxHeartbeats 40000000 in
theorem rm3_3 (l : Launch) (Z : State) (a0 : Array Value) (hw : ∀ d ∈ tables_1, d.before a0 Z = true) (ws : List Jvm.Cond) (a1 : Addr) (a2 : Addr) (aB : Addr) (f : Nat → Addr) (kk : ClassId) (w0 : Int32) (w1 : Int32) (w2 : Int32) (h0 : Heap) (n0 : Nat) (Z0 : n0 ≤ h0.size) (HF0 : Fld Z h0 a1 "com/example/grant4/grant4/store/KeyLocks" "stripes" "[Ljava/lang/Object;" (.ref aB)) (hstr : (own_Str Z h0 aB f)) (HV2 : Arv Z h0 a2 kk .byte (3 : Int32) [(.int w0), (.int w1), (.int w2)] (.int (0 : Int32))) (HE3 : Exa Z h0 a2 "[B") :
    MetFree l (⟨"com/example/grant4/grant4/store/KeyLocks", "of", "([B)Ljava/lang/Object;"⟩ : MethodName) (head1 (Jvm.Cond.code (⟨"com/example/grant4/grant4/store/KeyLocks", "of", "([B)Ljava/lang/Object;"⟩ : MethodName) prog_33_method_2_code 2 (some (.object "java/lang/Object")) :: ws) ({ frames := 3, cells := 0, slots := 0, locals := 46 } : Room)) (fun a U => a = #[(.ref a1), (.ref a2)] ∧ Z.Warmed39 U.vm ∧ U.heap = h0) (fun _ _ _ _ _ => True) (fun _ U o U' => ∃ v L, o = .returned v ∧ Q3_3 Z a1 a2 aB f kk w0 w1 w2 h0 n0 v U'.heap L ∧ FrameEnd U o U' L ({ frames := 3, cells := 0, slots := 0, locals := 46 } : Room).cells ({ frames := 3, cells := 0, slots := 0, locals := 46 } : Room).slots) := by
  refine MetFree.of_bodySF (plainFor_of_name pn_0) hisR ?_
  intro p e s m args below meth c s₁ Bd hml0 hP hK
  obtain ⟨rfl, hZ, hh⟩ := hP
  have hx := Bd.exec
  have hby := Bd.bytes
  have hml : c.maxLocals = 2 := hml0
  have hown : s.vm.findClass "com/example/grant4/grant4/store/KeyLocks" = some m.cls := findClass_of_methodNamed Bd.named
  have hnm := (name_of_methodNamed Bd.named Bd.method).1
  have X0 : Stand p l e ({ frames := 3, cells := 0, slots := 0, locals := 46 } : Room) s m #[(.ref a1), (.ref a2)] below meth c s₁ [] 0 0 := Stand.of_body Bd
  have e0 : s₁.heap = h0 := by rw [← hh, Bd.state]; rfl
  have N0 := Fr.nil n0
  have pre0 : ∀ t, Steps p.tables e below (s₁.setTop (mkF m 0 #[.val (.ref a1), .val (.ref a2)] [])) t → Steps p.tables e below (s₁.setTop (entryFrame m #[(.ref a1), (.ref a2)] 2)) t := fun t k => castTop (ef_3_3 m a1 a2) k
  obtain ⟨T1, X1, e1, st1⟩ := getF X0 hx hZ hown (host := "") (Or.inl (hw _ (List.mem_of_getElem? (i := 12) rfl))) Via.refl e0 HF0 (g := (mkF m 1 #[.val (.ref a1), .val (.ref a2)] [(.ref a1)])) rfl rfl (hb hby d3_1)
  obtain ⟨_, _, ⟨T2, L2, k2, n2⟩, -, X2, ⟨Lc2, hQ2, l2, y2, z2⟩, st2⟩ := Jvm.LawKit.callS X1 hx (y := (⟨"java/util/Arrays", "hashCode", "([B)I"⟩ : MethodName)) hown (mvT hZ (hw _ (List.mem_of_getElem? (i := 22) rfl))) (mvT hZ (hw _ (List.mem_of_getElem? (i := 23) rfl))) (mvT hZ (hw _ (List.mem_of_getElem? (i := 24) rfl))) (mvT hZ (hw _ (List.mem_of_getElem? (i := 25) rfl))) (by decide) (backOf (W := 1) (rm4_3 l Z a0 hw [] a2 kk w0 w1 w2 h0 n0 Z0 HV2 HE3) hZ (hw _ (List.mem_of_getElem? (i := 25) rfl)) (hw _ (List.mem_of_getElem? (i := 24) rfl)) (by decide) (by decide)) (g := (mkF m 5 #[.val (.ref a1), .val (.ref a2)] [(.ref a2), (.ref aB)])) rfl (by rw [hml]; rfl) (argsL := [(.ref a2)]) (rest := [(.ref aB)]) (lenOf pd_2 rfl) rfl (by show 2 * 0 + _ ≤ _; exact Nat.le_of_eq rfl) (hb hby d3_5) (fun _ _ => ⟨rfl, e1, (by decide : 0 + 0 ≤ _), (by decide : 0 + 0 ≤ _)⟩)
  dsimp only [Pt.U, Pt.locs, Pt.cells, Pt.slots] at X2 l2 y2 z2 st2 hQ2
  subst l2 y2 z2
  obtain ⟨rfl, N2q, R3⟩ := hQ2
  have N2 := Fr.app N0 N2q
  obtain ⟨_, _, ⟨T4, L4, k4, n4⟩, -, X4, ⟨Lc4, hQ4, l4, y4, z4⟩, st4⟩ := Jvm.LawKit.callS X2 hx (y := (⟨"java/lang/Math", "floorMod", "(II)I"⟩ : MethodName)) hown (mvT hZ (hw _ (List.mem_of_getElem? (i := 26) rfl))) (mvT hZ (hw _ (List.mem_of_getElem? (i := 27) rfl))) (mvT hZ (hw _ (List.mem_of_getElem? (i := 28) rfl))) (mvT hZ (hw _ (List.mem_of_getElem? (i := 29) rfl))) (by decide) (backOf (W := 1) (rm5 l Z a0 hw [] (((31 : Int32) * (((31 : Int32) * ((31 : Int32) + w0)) + w1)) + w2) h0 n0 Z0 ) hZ (hw _ (List.mem_of_getElem? (i := 29) rfl)) (hw _ (List.mem_of_getElem? (i := 28) rfl)) (by decide) (by decide)) (g := (mkF m 10 #[.val (.ref a1), .val (.ref a2)] [(.int (64 : Int32)), (.int (((31 : Int32) * (((31 : Int32) * ((31 : Int32) + w0)) + w1)) + w2)), (.ref aB)])) rfl (by rw [hml]; rfl) (argsL := [(.int (((31 : Int32) * (((31 : Int32) * ((31 : Int32) + w0)) + w1)) + w2)), (.int (64 : Int32))]) (rest := [(.ref aB)]) (lenOf pd_3 rfl) rfl (by show 2 * 0 + _ ≤ _; exact Nat.le_of_eq rfl) (hb hby d3_10) (fun _ _ => ⟨rfl, R3, (by decide : 0 + 0 ≤ _), (by decide : 0 + 0 ≤ _)⟩)
  dsimp only [Pt.U, Pt.locs, Pt.cells, Pt.slots] at X4 l4 y4 z4 st4 hQ4
  subst l4 y4 z4
  obtain ⟨r5, rfl, N4q, R6, R7⟩ := hQ4
  have N4 := Fr.app N2 N4q
  obtain ⟨cl, Ar, hsl, hel⟩ := hstr
  obtain ⟨hin, hat⟩ := own_at hsl hel R6
  obtain ⟨fs, hr, hrun, hended, hW, hsame⟩ := X4.leave (v := some (.ref (f (((((31 : Int32) * (((31 : Int32) * ((31 : Int32) + w0)) + w1)) + w2)).toInt % 64).toNat))) (fun h => by rw [Bd.returns] at h; cases h)
  refine ⟨_, _, pre0 _ ?_, hrun, hended, _, _, rfl, ?_, ⟨_, rfl⟩, hW, hsame.mono (by decide) (by decide)⟩
  · show Steps p.tables e below (s₁.setTop (mkF m 0 #[.val (.ref a1), .val (.ref a2)] [])) _
    refine XS.aloadN X0.here hx rfl (hb hby d3_0) rfl rfl ?_
    show Steps p.tables e below (s₁.setTop (mkF m 1 #[.val (.ref a1), .val (.ref a2)] [(.ref a1)])) _
    refine st1 _ ?_
    show Steps p.tables e below (T1.setTop (mkF m 4 #[.val (.ref a1), .val (.ref a2)] [(.ref aB)])) _
    refine XS.aloadN X1.here hx rfl (hb hby d3_4) rfl rfl ?_
    show Steps p.tables e below (T1.setTop (mkF m 5 #[.val (.ref a1), .val (.ref a2)] [(.ref a2), (.ref aB)])) _
    refine st2 _ ?_
    show Steps p.tables e below (T2.setTop (mkF m 8 #[.val (.ref a1), .val (.ref a2)] [(.int (((31 : Int32) * (((31 : Int32) * ((31 : Int32) + w0)) + w1)) + w2)), (.ref aB)])) _
    refine XS.bipush X2.here hx rfl (hb hby d3_8) ?_
    show Steps p.tables e below (T2.setTop (mkF m 10 #[.val (.ref a1), .val (.ref a2)] [(.int (64 : Int32)), (.int (((31 : Int32) * (((31 : Int32) * ((31 : Int32) + w0)) + w1)) + w2)), (.ref aB)])) _
    refine st4 _ ?_
    show Steps p.tables e below (T4.setTop (mkF m 13 #[.val (.ref a1), .val (.ref a2)] [(.int r5), (.ref aB)])) _
    refine X4.aaload hx (j := r5) (v := (.ref (f (((((31 : Int32) * (((31 : Int32) * ((31 : Int32) + w0)) + w1)) + w2)).toInt % 64).toNat))) (by rw [R7]; exact Ar.1) (State.isArrayOf_alike hZ.alike Ar.2.1) rfl Ar.2.2 hin hat (g := (mkF m 13 #[.val (.ref a1), .val (.ref a2)] [(.int r5), (.ref aB)])) rfl rfl (hb hby d3_13) _ ?_
    show Steps p.tables e below (T4.setTop (mkF m 14 #[.val (.ref a1), .val (.ref a2)] [(.ref (f (((((31 : Int32) * (((31 : Int32) * ((31 : Int32) + w0)) + w1)) + w2)).toInt % 64).toNat))])) _
    exact retOut X4 hx Bd.returns rfl (Or.inr (Or.inr (Or.inr (Or.inr ⟨rfl, rfl, rfl⟩)))) (hb hby d3_14) hr
  · show Q3_3 Z a1 a2 aB f kk w0 w1 w2 h0 n0 _ T4.heap _
    rw [R7]
    exact ⟨rfl, N4, rfl⟩
theorem own_mB : ∀ v : BitVec 8, ((Int8.ofBitVec v).toInt32 = (127 : Int32) → (((31 : Int32) + (Int8.ofBitVec v).toInt32.toInt8.toInt32).toInt % 64) ≠ (((31 : Int32) + (126 : Int32).toInt8.toInt32).toInt % 64)) ∧ (¬ (Int8.ofBitVec v).toInt32 = (127 : Int32) → (((31 : Int32) + (Int8.ofBitVec v).toInt32.toInt8.toInt32).toInt % 64) ≠ (((31 : Int32) + ((Int8.ofBitVec v).toInt32 + (1 : Int32)).toInt8.toInt32.toInt8.toInt32).toInt % 64)) := by decide +kernel
theorem own_m (p x y : Int32) (f : Nat → Addr) (hf : ∀ j k, j < k → k < 64 → f j < f k) (hx : x = p.toInt8.toInt32) (h : (x = (127 : Int32) ∧ y = (126 : Int32)) ∨ (¬ (x = (127 : Int32)) ∧ y = ((x + (1 : Int32)).toInt8.toInt32))) : ¬ (f (((31 : Int32) + (nar .byte x)).toInt % 64).toNat = f (((31 : Int32) + (nar .byte y)).toInt % 64).toNat) := by
  have hn : ∀ z : Int32, nar .byte z = z.toInt8.toInt32 := fun _ => rfl
  rw [hn, hn]
  have q := own_mB p.toInt8.toBitVec
  have e : (Int8.ofBitVec p.toInt8.toBitVec).toInt32 = x := hx.symm
  rw [e] at q
  have hne : (((31 : Int32) + x.toInt8.toInt32).toInt % 64) ≠ (((31 : Int32) + y.toInt8.toInt32).toInt % 64) := by
    rcases h with ⟨h1, rfl⟩ | ⟨h1, rfl⟩
    · exact q.1 h1
    · exact q.2 h1
  generalize ((31 : Int32) + x.toInt8.toInt32).toInt = u at *
  generalize ((31 : Int32) + y.toInt8.toInt32).toInt = v at *
  rcases Nat.lt_trichotomy (u % 64).toNat (v % 64).toNat with g | g | g
  · exact Nat.ne_of_lt (hf _ _ g (by omega))
  · exfalso; omega
  · exact fun z => Nat.ne_of_lt (hf _ _ g (by omega)) z.symm
theorem own_n (z : Int32) : (z &&& (3 : Int32)) = 0 ∨ (z &&& (3 : Int32)) = 1 ∨ (z &&& (3 : Int32)) = 2 ∨ (z &&& (3 : Int32)) = 3 := by
  have m := c_mask z 3 2 (by decide) (by decide)
  have e0 : (0 : Int32).toInt = 0 := rfl
  have e1 : (1 : Int32).toInt = 1 := rfl
  have e2 : (2 : Int32).toInt = 2 := rfl
  have e3 : (3 : Int32).toInt = 3 := rfl
  rw [← Int32.toInt_inj, ← Int32.toInt_inj, ← Int32.toInt_inj, ← Int32.toInt_inj, e0, e1, e2, e3]
  omega
theorem pn_3 : plainName "com/example/grant4/grant4/store/KeyLocksOfPinLaw" = true := by first | (simp [plainName, overriddenIn]; done) | decide +kernel
theorem pd_4 : parseMethodDescriptor "()V" = some ⟨[], none⟩ := by decide +kernel
theorem pd_5 : parseMethodDescriptor "([B)Ljava/lang/Object;" = some ⟨[(.array .byte)], some (.object "java/lang/Object")⟩ := by decide +kernel
theorem ef_0 (m : MethodId) (p0 : Int32) (p1 : Int32) (p2 : Int32) (p3 : Int32) : entryFrame m #[(.int p0), (.int p1), (.int p2), (.int p3)] maxLocals = mkF m 0 #[.val (.int p0), .val (.int p1), .val (.int p2), .val (.int p3), .unset, .unset, .unset, .unset, .unset, .unset, .unset, .unset, .unset, .unset, .unset, .unset, .unset] [] := by first | (simp [entryFrame, mkF, argsToLocals, Value.category, maxLocals]; done) | rfl
def Q0 (Z : State) (p0 : Int32) (p1 : Int32) (p2 : Int32) (p3 : Int32) (h0 : Heap) (n0 : Nat) (v : Option Value) (h : Heap) (L : List Loc) : Prop := v = some (.int (1 : Int32)) ∧ Fr n0 L
set_option maxRecDepth 65536 in
set_option maxHeartbeats 40000000 in
theorem rm0 (l : Launch) (Z : State) (a0 : Array Value) (hw : ∀ d ∈ tables_1, d.before a0 Z = true) (ws : List Jvm.Cond) (p0 : Int32) (p1 : Int32) (p2 : Int32) (p3 : Int32) (h0 : Heap) (n0 : Nat) (Z0 : n0 ≤ h0.size)  :
    MetFree l x (head1 (Jvm.Cond.code x code maxLocals ret :: ws) room_1) (fun a U => a = #[(.int p0), (.int p1), (.int p2), (.int p3)] ∧ Z.Warmed39 U.vm ∧ U.heap = h0) (fun _ _ _ _ _ => True) (fun _ U o U' => ∃ v L, o = .returned v ∧ Q0 Z p0 p1 p2 p3 h0 n0 v U'.heap L ∧ FrameEnd U o U' L room_1.cells room_1.slots) := by
  refine MetFree.of_bodySF (plainFor_of_name pn_3) hisR ?_
  intro p e s m args below meth c s₁ Bd hml0 hP hK
  obtain ⟨rfl, hZ, hh⟩ := hP
  have hx := Bd.exec
  have hby := Bd.bytes
  have hml : c.maxLocals = 17 := hml0
  have hown : s.vm.findClass "com/example/grant4/grant4/store/KeyLocksOfPinLaw" = some m.cls := findClass_of_methodNamed Bd.named
  have hnm := (name_of_methodNamed Bd.named Bd.method).1
  have X0 : Stand p l e room_1 s m #[(.int p0), (.int p1), (.int p2), (.int p3)] below meth c s₁ [] 0 0 := Stand.of_body Bd
  have e0 : s₁.heap = h0 := by rw [← hh, Bd.state]; rfl
  have N0 := Fr.nil n0
  have pre0 : ∀ t, Steps p.tables e below (s₁.setTop (mkF m 0 #[.val (.int p0), .val (.int p1), .val (.int p2), .val (.int p3), .unset, .unset, .unset, .unset, .unset, .unset, .unset, .unset, .unset, .unset, .unset, .unset, .unset] [])) t → Steps p.tables e below (s₁.setTop (entryFrame m #[(.int p0), (.int p1), (.int p2), (.int p3)] maxLocals)) t := fun t k => castTop (ef_0 m p0 p1 p2 p3) k
  have P1 : ∀ t, Steps p.tables e below (s₁.setTop (mkF m 5 #[.val (.int p0), .val (.int p1), .val (.int p2), .val (.int p3), .val (.int (p3 &&& (3 : Int32))), .unset, .unset, .unset, .unset, .unset, .unset, .unset, .unset, .unset, .unset, .unset, .unset] [])) t → Steps p.tables e below (s₁.setTop (entryFrame m #[(.int p0), (.int p1), (.int p2), (.int p3)] maxLocals)) t := by
    intro t k
    refine pre0 t ?_
    show Steps p.tables e below (s₁.setTop (mkF m 0 #[.val (.int p0), .val (.int p1), .val (.int p2), .val (.int p3), .unset, .unset, .unset, .unset, .unset, .unset, .unset, .unset, .unset, .unset, .unset, .unset, .unset] [])) _
    refine XS.iloadN X0.here hx rfl (hb hby at_0) rfl ?_
    show Steps p.tables e below (s₁.setTop (mkF m 1 #[.val (.int p0), .val (.int p1), .val (.int p2), .val (.int p3), .unset, .unset, .unset, .unset, .unset, .unset, .unset, .unset, .unset, .unset, .unset, .unset, .unset] [(.int p3)])) _
    refine XS.iconst X0.here hx rfl (hb hby at_1) ?_
    show Steps p.tables e below (s₁.setTop (mkF m 2 #[.val (.int p0), .val (.int p1), .val (.int p2), .val (.int p3), .unset, .unset, .unset, .unset, .unset, .unset, .unset, .unset, .unset, .unset, .unset, .unset, .unset] [(.int (3 : Int32)), (.int p3)])) _
    refine XS.iand X0.here hx rfl (hb hby at_2) rfl ?_
    show Steps p.tables e below (s₁.setTop (mkF m 3 #[.val (.int p0), .val (.int p1), .val (.int p2), .val (.int p3), .unset, .unset, .unset, .unset, .unset, .unset, .unset, .unset, .unset, .unset, .unset, .unset, .unset] [(.int (p3 &&& (3 : Int32)))])) _
    refine XS.istore X0.here hx rfl (hb hby at_3) rfl (l' := #[.val (.int p0), .val (.int p1), .val (.int p2), .val (.int p3), .val (.int (p3 &&& (3 : Int32))), .unset, .unset, .unset, .unset, .unset, .unset, .unset, .unset, .unset, .unset, .unset, .unset]) rfl ?_
    exact k
  obtain ⟨nv, hnv⟩ : ∃ z : Int32, z = (p3 &&& (3 : Int32)) := ⟨_, rfl⟩
  have P2 : ∀ t, Steps p.tables e below (s₁.setTop (mkF m 5 #[.val (.int p0), .val (.int p1), .val (.int p2), .val (.int p3), .val (.int nv), .unset, .unset, .unset, .unset, .unset, .unset, .unset, .unset, .unset, .unset, .unset, .unset] [])) t → Steps p.tables e below (s₁.setTop (entryFrame m #[(.int p0), (.int p1), (.int p2), (.int p3)] maxLocals)) t := by rw [hnv]; exact P1
  have hn4 := own_n p3
  rw [← hnv] at hn4
  rcases hn4 with rfl | rfl | rfl | rfl
  · obtain ⟨T3, h3, k3, X3, e3, E3, A3, Y3, st3⟩ := newPE X0 hx hZ (hw _ (List.mem_of_getElem? (i := 0) rfl)) e0 (g := (mkF m 7 #[.val (.int p0), .val (.int p1), .val (.int p2), .val (.int p3), .val (.int (0 : Int32)), .unset, .unset, .unset, .unset, .unset, .unset, .unset, .unset, .unset, .unset, .unset, .unset] [(.int (0 : Int32))])) rfl (hb hby at_7) rfl (by decide) (cap := 0) (by decide) (by decide) (by decide) (by decide) (ad := "[B") (by decide)
    obtain ⟨b3, g3⟩ : ∃ z, z = h0.size := ⟨_, rfl⟩
    rw [← g3] at A3 st3 Y3
    have g_b3 : n0 ≤ b3 := Nat.le_trans Z0 (Nat.le_of_eq g3.symm)
    have Z4 : n0 ≤ h3.size := Nat.le_trans Z0 E3.1
    have V3 : Arv Z h3 b3 k3 .byte (0 : Int32) [] (.int (0 : Int32)) := Arv.new A3 (by decide)
    obtain ⟨T5, h5, k5, X5, e5, E5, A5, Y5, st5⟩ := newPE X3 hx hZ (hw _ (List.mem_of_getElem? (i := 0) rfl)) e3 (g := (mkF m 13 #[.val (.int p0), .val (.int p1), .val (.int p2), .val (.int p3), .val (.int (0 : Int32)), .val (.ref b3), .unset, .unset, .unset, .unset, .unset, .unset, .unset, .unset, .unset, .unset, .unset] [(.int (0 : Int32))])) rfl (hb hby at_13) rfl (by decide) (cap := 0) (by decide) (by decide) (by decide) (by decide) (ad := "[B") (by decide)
    obtain ⟨b5, g5⟩ : ∃ z, z = h3.size := ⟨_, rfl⟩
    rw [← g5] at A5 st5 Y5
    have ne6 : b3 ≠ b5 := Nat.ne_of_lt (Nat.lt_of_lt_of_le Y3.lt (Nat.le_of_eq g5.symm))
    have g_b5 : n0 ≤ b5 := Nat.le_trans Z4 (Nat.le_of_eq g5.symm)
    have F7 : Exa Z h5 b3 "[B" := Y3.ext E5
    have F8 : Arv Z h5 b3 k3 .byte (0 : Int32) [] (.int (0 : Int32)) := V3.ext E5
    have Z9 : n0 ≤ h5.size := Nat.le_trans Z4 E5.1
    have V5 : Arv Z h5 b5 k5 .byte (0 : Int32) [] (.int (0 : Int32)) := Arv.new A5 (by decide)
    have P10 : ∀ t, Steps p.tables e below (T5.setTop (mkF m 74 #[.val (.int p0), .val (.int p1), .val (.int p2), .val (.int p3), .val (.int (0 : Int32)), .val (.ref b3), .val (.ref b5), .val (.int (p0.toInt8.toInt32)), .unset, .unset, .unset, .unset, .unset, .unset, .unset, .unset, .unset] [])) t → Steps p.tables e below (s₁.setTop (entryFrame m #[(.int p0), (.int p1), (.int p2), (.int p3)] maxLocals)) t := by
      intro t k
      refine P2 t ?_
      show Steps p.tables e below (s₁.setTop (mkF m 5 #[.val (.int p0), .val (.int p1), .val (.int p2), .val (.int p3), .val (.int (0 : Int32)), .unset, .unset, .unset, .unset, .unset, .unset, .unset, .unset, .unset, .unset, .unset, .unset] [])) _
      refine XS.iload X0.here hx rfl (hb hby at_5) rfl ?_
      show Steps p.tables e below (s₁.setTop (mkF m 7 #[.val (.int p0), .val (.int p1), .val (.int p2), .val (.int p3), .val (.int (0 : Int32)), .unset, .unset, .unset, .unset, .unset, .unset, .unset, .unset, .unset, .unset, .unset, .unset] [(.int (0 : Int32))])) _
      refine st3 _ ?_
      show Steps p.tables e below (T3.setTop (mkF m 9 #[.val (.int p0), .val (.int p1), .val (.int p2), .val (.int p3), .val (.int (0 : Int32)), .unset, .unset, .unset, .unset, .unset, .unset, .unset, .unset, .unset, .unset, .unset, .unset] [(.ref b3)])) _
      refine XS.astore X3.here hx rfl (hb hby at_9) rfl rfl (l' := #[.val (.int p0), .val (.int p1), .val (.int p2), .val (.int p3), .val (.int (0 : Int32)), .val (.ref b3), .unset, .unset, .unset, .unset, .unset, .unset, .unset, .unset, .unset, .unset, .unset]) rfl ?_
      show Steps p.tables e below (T3.setTop (mkF m 11 #[.val (.int p0), .val (.int p1), .val (.int p2), .val (.int p3), .val (.int (0 : Int32)), .val (.ref b3), .unset, .unset, .unset, .unset, .unset, .unset, .unset, .unset, .unset, .unset, .unset] [])) _
      refine XS.iload X3.here hx rfl (hb hby at_11) rfl ?_
      show Steps p.tables e below (T3.setTop (mkF m 13 #[.val (.int p0), .val (.int p1), .val (.int p2), .val (.int p3), .val (.int (0 : Int32)), .val (.ref b3), .unset, .unset, .unset, .unset, .unset, .unset, .unset, .unset, .unset, .unset, .unset] [(.int (0 : Int32))])) _
      refine st5 _ ?_
      show Steps p.tables e below (T5.setTop (mkF m 15 #[.val (.int p0), .val (.int p1), .val (.int p2), .val (.int p3), .val (.int (0 : Int32)), .val (.ref b3), .unset, .unset, .unset, .unset, .unset, .unset, .unset, .unset, .unset, .unset, .unset] [(.ref b5)])) _
      refine XS.astore X5.here hx rfl (hb hby at_15) rfl rfl (l' := #[.val (.int p0), .val (.int p1), .val (.int p2), .val (.int p3), .val (.int (0 : Int32)), .val (.ref b3), .val (.ref b5), .unset, .unset, .unset, .unset, .unset, .unset, .unset, .unset, .unset, .unset]) rfl ?_
      show Steps p.tables e below (T5.setTop (mkF m 17 #[.val (.int p0), .val (.int p1), .val (.int p2), .val (.int p3), .val (.int (0 : Int32)), .val (.ref b3), .val (.ref b5), .unset, .unset, .unset, .unset, .unset, .unset, .unset, .unset, .unset, .unset] [])) _
      refine XS.iload X5.here hx rfl (hb hby at_17) rfl ?_
      show Steps p.tables e below (T5.setTop (mkF m 19 #[.val (.int p0), .val (.int p1), .val (.int p2), .val (.int p3), .val (.int (0 : Int32)), .val (.ref b3), .val (.ref b5), .unset, .unset, .unset, .unset, .unset, .unset, .unset, .unset, .unset, .unset] [(.int (0 : Int32))])) _
      refine XS.ifYes X5.here hx rfl (pc0 := 19) (pc' := 34) rfl (hb hby at_19) rfl ((if0 _ _).trans (flt (by decide : ¬ ((0 : Int32) < (0 : Int32)))).2.2.2) (by decide) (by decide) ?_
      show Steps p.tables e below (T5.setTop (mkF m 34 #[.val (.int p0), .val (.int p1), .val (.int p2), .val (.int p3), .val (.int (0 : Int32)), .val (.ref b3), .val (.ref b5), .unset, .unset, .unset, .unset, .unset, .unset, .unset, .unset, .unset, .unset] [])) _
      refine XS.iload X5.here hx rfl (hb hby at_34) rfl ?_
      show Steps p.tables e below (T5.setTop (mkF m 36 #[.val (.int p0), .val (.int p1), .val (.int p2), .val (.int p3), .val (.int (0 : Int32)), .val (.ref b3), .val (.ref b5), .unset, .unset, .unset, .unset, .unset, .unset, .unset, .unset, .unset, .unset] [(.int (0 : Int32))])) _
      refine XS.iconst X5.here hx rfl (hb hby at_36) ?_
      show Steps p.tables e below (T5.setTop (mkF m 37 #[.val (.int p0), .val (.int p1), .val (.int p2), .val (.int p3), .val (.int (0 : Int32)), .val (.ref b3), .val (.ref b5), .unset, .unset, .unset, .unset, .unset, .unset, .unset, .unset, .unset, .unset] [(.int (1 : Int32)), (.int (0 : Int32))])) _
      refine XS.icmpYes X5.here hx rfl (pc0 := 37) (pc' := 52) rfl (hb hby at_37) rfl (flt (by decide : ¬ ((1 : Int32) < (0 : Int32)))).2.2.2 (by decide) (by decide) ?_
      show Steps p.tables e below (T5.setTop (mkF m 52 #[.val (.int p0), .val (.int p1), .val (.int p2), .val (.int p3), .val (.int (0 : Int32)), .val (.ref b3), .val (.ref b5), .unset, .unset, .unset, .unset, .unset, .unset, .unset, .unset, .unset, .unset] [])) _
      refine XS.iload X5.here hx rfl (hb hby at_52) rfl ?_
      show Steps p.tables e below (T5.setTop (mkF m 54 #[.val (.int p0), .val (.int p1), .val (.int p2), .val (.int p3), .val (.int (0 : Int32)), .val (.ref b3), .val (.ref b5), .unset, .unset, .unset, .unset, .unset, .unset, .unset, .unset, .unset, .unset] [(.int (0 : Int32))])) _
      refine XS.iconst X5.here hx rfl (hb hby at_54) ?_
      show Steps p.tables e below (T5.setTop (mkF m 55 #[.val (.int p0), .val (.int p1), .val (.int p2), .val (.int p3), .val (.int (0 : Int32)), .val (.ref b3), .val (.ref b5), .unset, .unset, .unset, .unset, .unset, .unset, .unset, .unset, .unset, .unset] [(.int (2 : Int32)), (.int (0 : Int32))])) _
      refine XS.icmpYes X5.here hx rfl (pc0 := 55) (pc' := 70) rfl (hb hby at_55) rfl (flt (by decide : ¬ ((2 : Int32) < (0 : Int32)))).2.2.2 (by decide) (by decide) ?_
      show Steps p.tables e below (T5.setTop (mkF m 70 #[.val (.int p0), .val (.int p1), .val (.int p2), .val (.int p3), .val (.int (0 : Int32)), .val (.ref b3), .val (.ref b5), .unset, .unset, .unset, .unset, .unset, .unset, .unset, .unset, .unset, .unset] [])) _
      refine XS.iloadN X5.here hx rfl (hb hby at_70) rfl ?_
      show Steps p.tables e below (T5.setTop (mkF m 71 #[.val (.int p0), .val (.int p1), .val (.int p2), .val (.int p3), .val (.int (0 : Int32)), .val (.ref b3), .val (.ref b5), .unset, .unset, .unset, .unset, .unset, .unset, .unset, .unset, .unset, .unset] [(.int p0)])) _
      refine XS.i2b X5.here hx rfl (hb hby at_71) rfl ?_
      show Steps p.tables e below (T5.setTop (mkF m 72 #[.val (.int p0), .val (.int p1), .val (.int p2), .val (.int p3), .val (.int (0 : Int32)), .val (.ref b3), .val (.ref b5), .unset, .unset, .unset, .unset, .unset, .unset, .unset, .unset, .unset, .unset] [(.int (p0.toInt8.toInt32))])) _
      refine XS.istore X5.here hx rfl (hb hby at_72) rfl (l' := #[.val (.int p0), .val (.int p1), .val (.int p2), .val (.int p3), .val (.int (0 : Int32)), .val (.ref b3), .val (.ref b5), .val (.int (p0.toInt8.toInt32)), .unset, .unset, .unset, .unset, .unset, .unset, .unset, .unset, .unset]) rfl ?_
      exact k
    obtain ⟨xv, hxv⟩ : ∃ z : Int32, z = (p0.toInt8.toInt32) := ⟨_, rfl⟩
    have P11 : ∀ t, Steps p.tables e below (T5.setTop (mkF m 74 #[.val (.int p0), .val (.int p1), .val (.int p2), .val (.int p3), .val (.int (0 : Int32)), .val (.ref b3), .val (.ref b5), .val (.int xv), .unset, .unset, .unset, .unset, .unset, .unset, .unset, .unset, .unset] [])) t → Steps p.tables e below (s₁.setTop (entryFrame m #[(.int p0), (.int p1), (.int p2), (.int p3)] maxLocals)) t := by rw [hxv]; exact P10
    have P12 : ∀ t, Steps p.tables e below (T5.setTop (mkF m 78 #[.val (.int p0), .val (.int p1), .val (.int p2), .val (.int p3), .val (.int (0 : Int32)), .val (.ref b3), .val (.ref b5), .val (.int xv), .unset, .unset, .unset, .unset, .unset, .unset, .unset, .unset, .unset] [(.int (127 : Int32)), (.int xv)])) t → Steps p.tables e below (s₁.setTop (entryFrame m #[(.int p0), (.int p1), (.int p2), (.int p3)] maxLocals)) t := by
      intro t k
      refine P11 t ?_
      show Steps p.tables e below (T5.setTop (mkF m 74 #[.val (.int p0), .val (.int p1), .val (.int p2), .val (.int p3), .val (.int (0 : Int32)), .val (.ref b3), .val (.ref b5), .val (.int xv), .unset, .unset, .unset, .unset, .unset, .unset, .unset, .unset, .unset] [])) _
      refine XS.iload X5.here hx rfl (hb hby at_74) rfl ?_
      show Steps p.tables e below (T5.setTop (mkF m 76 #[.val (.int p0), .val (.int p1), .val (.int p2), .val (.int p3), .val (.int (0 : Int32)), .val (.ref b3), .val (.ref b5), .val (.int xv), .unset, .unset, .unset, .unset, .unset, .unset, .unset, .unset, .unset] [(.int xv)])) _
      refine XS.bipush X5.here hx rfl (hb hby at_76) ?_
      exact k
    obtain ⟨yv, hm13, P14⟩ : ∃ (yv : Int32), ((xv = (127 : Int32) ∧ yv = (126 : Int32)) ∨ (¬ (xv = (127 : Int32)) ∧ yv = ((xv + (1 : Int32)).toInt8.toInt32))) ∧ ∀ t, Steps p.tables e below (T5.setTop (mkF m 91 #[.val (.int p0), .val (.int p1), .val (.int p2), .val (.int p3), .val (.int (0 : Int32)), .val (.ref b3), .val (.ref b5), .val (.int xv), .unset, .unset, .unset, .unset, .unset, .unset, .unset, .unset, .unset] [(.int yv)])) t → Steps p.tables e below (s₁.setTop (entryFrame m #[(.int p0), (.int p1), (.int p2), (.int p3)] maxLocals)) t := by
      by_cases hd78_0 : xv = (127 : Int32)
      ·
        refine ⟨(126 : Int32), Or.inl ⟨hd78_0, rfl⟩, fun t k => ?_⟩
        refine P12 t ?_
        show Steps p.tables e below (T5.setTop (mkF m 78 #[.val (.int p0), .val (.int p1), .val (.int p2), .val (.int p3), .val (.int (0 : Int32)), .val (.ref b3), .val (.ref b5), .val (.int xv), .unset, .unset, .unset, .unset, .unset, .unset, .unset, .unset, .unset] [(.int (127 : Int32)), (.int xv)])) _
        refine XS.icmpNo X5.here hx rfl (hb hby at_78) rfl (teq hd78_0).2 ?_
        show Steps p.tables e below (T5.setTop (mkF m 81 #[.val (.int p0), .val (.int p1), .val (.int p2), .val (.int p3), .val (.int (0 : Int32)), .val (.ref b3), .val (.ref b5), .val (.int xv), .unset, .unset, .unset, .unset, .unset, .unset, .unset, .unset, .unset] [])) _
        refine XS.bipush X5.here hx rfl (hb hby at_81) ?_
        show Steps p.tables e below (T5.setTop (mkF m 83 #[.val (.int p0), .val (.int p1), .val (.int p2), .val (.int p3), .val (.int (0 : Int32)), .val (.ref b3), .val (.ref b5), .val (.int xv), .unset, .unset, .unset, .unset, .unset, .unset, .unset, .unset, .unset] [(.int (126 : Int32))])) _
        refine XS.goto X5.here hx rfl (pc0 := 83) (pc' := 91) rfl (hb hby at_83) (by decide) (by decide) ?_
        exact k
      ·
        refine ⟨((xv + (1 : Int32)).toInt8.toInt32), Or.inr (⟨hd78_0, rfl⟩), fun t k => ?_⟩
        refine P12 t ?_
        show Steps p.tables e below (T5.setTop (mkF m 78 #[.val (.int p0), .val (.int p1), .val (.int p2), .val (.int p3), .val (.int (0 : Int32)), .val (.ref b3), .val (.ref b5), .val (.int xv), .unset, .unset, .unset, .unset, .unset, .unset, .unset, .unset, .unset] [(.int (127 : Int32)), (.int xv)])) _
        refine XS.icmpYes X5.here hx rfl (pc0 := 78) (pc' := 86) rfl (hb hby at_78) rfl (feq hd78_0).2 (by decide) (by decide) ?_
        show Steps p.tables e below (T5.setTop (mkF m 86 #[.val (.int p0), .val (.int p1), .val (.int p2), .val (.int p3), .val (.int (0 : Int32)), .val (.ref b3), .val (.ref b5), .val (.int xv), .unset, .unset, .unset, .unset, .unset, .unset, .unset, .unset, .unset] [])) _
        refine XS.iload X5.here hx rfl (hb hby at_86) rfl ?_
        show Steps p.tables e below (T5.setTop (mkF m 88 #[.val (.int p0), .val (.int p1), .val (.int p2), .val (.int p3), .val (.int (0 : Int32)), .val (.ref b3), .val (.ref b5), .val (.int xv), .unset, .unset, .unset, .unset, .unset, .unset, .unset, .unset, .unset] [(.int xv)])) _
        refine XS.iconst X5.here hx rfl (hb hby at_88) ?_
        show Steps p.tables e below (T5.setTop (mkF m 89 #[.val (.int p0), .val (.int p1), .val (.int p2), .val (.int p3), .val (.int (0 : Int32)), .val (.ref b3), .val (.ref b5), .val (.int xv), .unset, .unset, .unset, .unset, .unset, .unset, .unset, .unset, .unset] [(.int (1 : Int32)), (.int xv)])) _
        refine XS.iadd X5.here hx rfl (hb hby at_89) rfl ?_
        show Steps p.tables e below (T5.setTop (mkF m 90 #[.val (.int p0), .val (.int p1), .val (.int p2), .val (.int p3), .val (.int (0 : Int32)), .val (.ref b3), .val (.ref b5), .val (.int xv), .unset, .unset, .unset, .unset, .unset, .unset, .unset, .unset, .unset] [(.int (xv + (1 : Int32)))])) _
        refine XS.i2b X5.here hx rfl (hb hby at_90) rfl ?_
        exact k
    obtain ⟨T15, h15, k15, X15, e15, E15, A15, Y15, st15⟩ := newPE X5 hx hZ (hw _ (List.mem_of_getElem? (i := 0) rfl)) e5 (g := (mkF m 94 #[.val (.int p0), .val (.int p1), .val (.int p2), .val (.int p3), .val (.int (0 : Int32)), .val (.ref b3), .val (.ref b5), .val (.int xv), .val (.int yv), .unset, .unset, .unset, .unset, .unset, .unset, .unset, .unset] [(.int (1 : Int32))])) rfl (hb hby at_94) rfl (by decide) (cap := 1) (by decide) (by decide) (by decide) (by decide) (ad := "[B") (by decide)
    obtain ⟨b15, g15⟩ : ∃ z, z = h5.size := ⟨_, rfl⟩
    rw [← g15] at A15 st15 Y15
    have ne16 : b3 ≠ b15 := Nat.ne_of_lt (Nat.lt_of_lt_of_le F7.lt (Nat.le_of_eq g15.symm))
    have ne17 : b5 ≠ b15 := Nat.ne_of_lt (Nat.lt_of_lt_of_le Y5.lt (Nat.le_of_eq g15.symm))
    have g_b15 : n0 ≤ b15 := Nat.le_trans Z9 (Nat.le_of_eq g15.symm)
    have F18 : Exa Z h15 b3 "[B" := F7.ext E15
    have F19 : Arv Z h15 b3 k3 .byte (0 : Int32) [] (.int (0 : Int32)) := F8.ext E15
    have F20 : Exa Z h15 b5 "[B" := Y5.ext E15
    have F21 : Arv Z h15 b5 k5 .byte (0 : Int32) [] (.int (0 : Int32)) := V5.ext E15
    have Z22 : n0 ≤ h15.size := Nat.le_trans Z9 E15.1
    have V15 : Arv Z h15 b15 k15 .byte (1 : Int32) [(.int (0 : Int32))] (.int (0 : Int32)) := (Arv.new A15 (by decide)).pad (pad_rep [] (.int (0 : Int32)) 1)
    obtain ⟨T23, h23, k23, X23, e23, E23, A23, Y23, st23⟩ := newPE X15 hx hZ (hw _ (List.mem_of_getElem? (i := 0) rfl)) e15 (g := (mkF m 99 #[.val (.int p0), .val (.int p1), .val (.int p2), .val (.int p3), .val (.int (0 : Int32)), .val (.ref b3), .val (.ref b5), .val (.int xv), .val (.int yv), .val (.ref b15), .unset, .unset, .unset, .unset, .unset, .unset, .unset] [(.int (1 : Int32))])) rfl (hb hby at_99) rfl (by decide) (cap := 1) (by decide) (by decide) (by decide) (by decide) (ad := "[B") (by decide)
    obtain ⟨b23, g23⟩ : ∃ z, z = h15.size := ⟨_, rfl⟩
    rw [← g23] at A23 st23 Y23
    have ne24 : b3 ≠ b23 := Nat.ne_of_lt (Nat.lt_of_lt_of_le F18.lt (Nat.le_of_eq g23.symm))
    have ne25 : b5 ≠ b23 := Nat.ne_of_lt (Nat.lt_of_lt_of_le F20.lt (Nat.le_of_eq g23.symm))
    have ne26 : b15 ≠ b23 := Nat.ne_of_lt (Nat.lt_of_lt_of_le Y15.lt (Nat.le_of_eq g23.symm))
    have g_b23 : n0 ≤ b23 := Nat.le_trans Z22 (Nat.le_of_eq g23.symm)
    have F27 : Exa Z h23 b3 "[B" := F18.ext E23
    have F28 : Arv Z h23 b3 k3 .byte (0 : Int32) [] (.int (0 : Int32)) := F19.ext E23
    have F29 : Exa Z h23 b5 "[B" := F20.ext E23
    have F30 : Arv Z h23 b5 k5 .byte (0 : Int32) [] (.int (0 : Int32)) := F21.ext E23
    have F31 : Exa Z h23 b15 "[B" := Y15.ext E23
    have F32 : Arv Z h23 b15 k15 .byte (1 : Int32) [(.int (0 : Int32))] (.int (0 : Int32)) := V15.ext E23
    have Z33 : n0 ≤ h23.size := Nat.le_trans Z22 E23.1
    have V23 : Arv Z h23 b23 k23 .byte (1 : Int32) [(.int (0 : Int32))] (.int (0 : Int32)) := (Arv.new A23 (by decide)).pad (pad_rep [] (.int (0 : Int32)) 1)
    obtain ⟨co34, Ao34, qo34, So34, Mo34, Bo34, Go34⟩ := id F32
    obtain ⟨T35, h35, X35, e35, W35, st35⟩ := stB X23 hx hZ e23 Ao34 (j := (0 : Int32)) (inb_of So34 ⟨(by decide), (by decide)⟩) (g := (mkF m 108 #[.val (.int p0), .val (.int p1), .val (.int p2), .val (.int p3), .val (.int (0 : Int32)), .val (.ref b3), .val (.ref b5), .val (.int xv), .val (.int yv), .val (.ref b15), .val (.ref b23), .unset, .unset, .unset, .unset, .unset, .unset] [(.int xv), (.int (0 : Int32)), (.ref b15)])) rfl rfl (hb hby at_108)
    have V35 : Arv Z h35 b15 k15 .byte (1 : Int32) [(.int (nar .byte xv))] (.int (0 : Int32)) := Arv.set Ao34 qo34 So34 Mo34 Bo34 Go34 (fits_nar_byte _) W35 0 rfl (Nat.le_of_ble_eq_true rfl)
    have F36 : Exa Z h35 b3 "[B" := F27.wr W35
    have F37 : Arv Z h35 b3 k3 .byte (0 : Int32) [] (.int (0 : Int32)) := F28.other W35 ne16
    have F38 : Exa Z h35 b5 "[B" := F29.wr W35
    have F39 : Arv Z h35 b5 k5 .byte (0 : Int32) [] (.int (0 : Int32)) := F30.other W35 ne17
    have F40 : Exa Z h35 b15 "[B" := F31.wr W35
    have F41 : Exa Z h35 b23 "[B" := Y23.wr W35
    have F42 : Arv Z h35 b23 k23 .byte (1 : Int32) [(.int (0 : Int32))] (.int (0 : Int32)) := V23.other W35 (Ne.symm ne26)
    have Z43 : n0 ≤ h35.size := Nat.le_trans Z33 (Keep.of_wr W35).1
    have N44 := Fr.snoc X35 N0 g_b15
    obtain ⟨co45, Ao45, qo45, So45, Mo45, Bo45, Go45⟩ := id F42
    obtain ⟨T46, h46, X46, e46, W46, st46⟩ := stB X35 hx hZ e35 Ao45 (j := (0 : Int32)) (inb_of So45 ⟨(by decide), (by decide)⟩) (g := (mkF m 114 #[.val (.int p0), .val (.int p1), .val (.int p2), .val (.int p3), .val (.int (0 : Int32)), .val (.ref b3), .val (.ref b5), .val (.int xv), .val (.int yv), .val (.ref b15), .val (.ref b23), .unset, .unset, .unset, .unset, .unset, .unset] [(.int yv), (.int (0 : Int32)), (.ref b23)])) rfl rfl (hb hby at_114)
    have V46 : Arv Z h46 b23 k23 .byte (1 : Int32) [(.int (nar .byte yv))] (.int (0 : Int32)) := Arv.set Ao45 qo45 So45 Mo45 Bo45 Go45 (fits_nar_byte _) W46 0 rfl (Nat.le_of_ble_eq_true rfl)
    have F47 : Exa Z h46 b3 "[B" := F36.wr W46
    have F48 : Arv Z h46 b3 k3 .byte (0 : Int32) [] (.int (0 : Int32)) := F37.other W46 ne24
    have F49 : Exa Z h46 b5 "[B" := F38.wr W46
    have F50 : Arv Z h46 b5 k5 .byte (0 : Int32) [] (.int (0 : Int32)) := F39.other W46 ne25
    have F51 : Exa Z h46 b15 "[B" := F40.wr W46
    have F52 : Exa Z h46 b23 "[B" := F41.wr W46
    have F53 : Arv Z h46 b15 k15 .byte (1 : Int32) [(.int (nar .byte xv))] (.int (0 : Int32)) := V35.other W46 ne26
    have Z54 : n0 ≤ h46.size := Nat.le_trans Z43 (Keep.of_wr W46).1
    have N55 := Fr.snoc X46 N44 g_b23
    obtain ⟨T56, h56, X56, e56, E56, A56, D56, -, st56⟩ := newO X46 hx hZ hown (hw _ (List.mem_of_getElem? (i := 1) rfl)) (hw _ (List.mem_of_getElem? (i := 2) rfl)) (hw _ (List.mem_of_getElem? (i := 3) rfl)) e46 (g := (mkF m 115 #[.val (.int p0), .val (.int p1), .val (.int p2), .val (.int p3), .val (.int (0 : Int32)), .val (.ref b3), .val (.ref b5), .val (.int xv), .val (.int yv), .val (.ref b15), .val (.ref b23), .unset, .unset, .unset, .unset, .unset, .unset] [])) rfl (hb hby at_115) (by decide) (by decide)
    obtain ⟨b56, g56⟩ : ∃ z, z = h46.size := ⟨_, rfl⟩
    rw [← g56] at A56 D56 st56
    have ne57 : b3 ≠ b56 := Nat.ne_of_lt (Nat.lt_of_lt_of_le F47.lt (Nat.le_of_eq g56.symm))
    have ne58 : b5 ≠ b56 := Nat.ne_of_lt (Nat.lt_of_lt_of_le F49.lt (Nat.le_of_eq g56.symm))
    have ne59 : b15 ≠ b56 := Nat.ne_of_lt (Nat.lt_of_lt_of_le F51.lt (Nat.le_of_eq g56.symm))
    have ne60 : b23 ≠ b56 := Nat.ne_of_lt (Nat.lt_of_lt_of_le F52.lt (Nat.le_of_eq g56.symm))
    have g_b56 : n0 ≤ b56 := Nat.le_trans Z54 (Nat.le_of_eq g56.symm)
    have F61 : Exa Z h56 b3 "[B" := F47.ext E56
    have F62 : Arv Z h56 b3 k3 .byte (0 : Int32) [] (.int (0 : Int32)) := F48.ext E56
    have F63 : Exa Z h56 b5 "[B" := F49.ext E56
    have F64 : Arv Z h56 b5 k5 .byte (0 : Int32) [] (.int (0 : Int32)) := F50.ext E56
    have F65 : Exa Z h56 b15 "[B" := F51.ext E56
    have F66 : Exa Z h56 b23 "[B" := F52.ext E56
    have F67 : Arv Z h56 b15 k15 .byte (1 : Int32) [(.int (nar .byte xv))] (.int (0 : Int32)) := F53.ext E56
    have F68 : Arv Z h56 b23 k23 .byte (1 : Int32) [(.int (nar .byte yv))] (.int (0 : Int32)) := V46.ext E56
    have Z69 : n0 ≤ h56.size := Nat.le_trans Z54 E56.1
    have F70 : Fld Z h56 b56 "com/example/grant4/grant4/store/KeyLocks" "stripes" "[Ljava/lang/Object;" .null := D56 (Or.inr (hw _ (List.mem_of_getElem? (i := 13) rfl))) (ty := (.array (.object "java/lang/Object"))) (by decide)
    obtain ⟨_, _, ⟨T71, L71, k71, n71⟩, -, X71, ⟨Lc71, hQ71, l71, y71, z71⟩, st71⟩ := X56.specialBack hx (y := (⟨"com/example/grant4/grant4/store/KeyLocks", "<init>", "()V"⟩ : MethodName)) rfl hown (mvT hZ (hw _ (List.mem_of_getElem? (i := 4) rfl))) (mvT hZ (hw _ (List.mem_of_getElem? (i := 5) rfl))) (mvT hZ (hw _ (List.mem_of_getElem? (i := 6) rfl))) (by decide) (backOf (W := 1) (rm1 l Z a0 hw [] b56 h56 n0 Z69 A56 g_b56 F70) hZ (hw _ (List.mem_of_getElem? (i := 6) rfl)) (hw _ (List.mem_of_getElem? (i := 3) rfl)) (by decide) (by decide)) (g := (mkF m 119 #[.val (.int p0), .val (.int p1), .val (.int p2), .val (.int p3), .val (.int (0 : Int32)), .val (.ref b3), .val (.ref b5), .val (.int xv), .val (.int yv), .val (.ref b15), .val (.ref b23), .unset, .unset, .unset, .unset, .unset, .unset] [(.ref b56), (.ref b56)])) rfl (by rw [hml]; rfl) (Steps.refl _) (a := b56) (argsL := []) (rest := [(.ref b56)]) (lenOf pd_4 rfl) rfl (by show 2 * 0 + _ ≤ _; exact Nat.le_of_eq rfl) (hb hby at_119) (fun _ _ => ⟨rfl, e56, (by decide : 5 + 65 ≤ _), (by decide : 3 + 64 ≤ _)⟩)
    dsimp only [Pt.U, Pt.locs, Pt.cells, Pt.slots] at X71 l71 y71 z71 st71 hQ71
    subst l71 y71 z71
    obtain ⟨aB72, f73, rfl, N71q, R74, R75, R76, R77, R78⟩ := hQ71
    have N71 := Fr.app N55 N71q
    have F79 : Exa Z T71.heap b3 "[B" := F61.keep R74
    have F80 : Arv Z T71.heap b3 k3 .byte (0 : Int32) [] (.int (0 : Int32)) := F62.keep R74 (ninS ne57 nin0)
    have F81 : Exa Z T71.heap b5 "[B" := F63.keep R74
    have F82 : Arv Z T71.heap b5 k5 .byte (0 : Int32) [] (.int (0 : Int32)) := F64.keep R74 (ninS ne58 nin0)
    have F83 : Exa Z T71.heap b15 "[B" := F65.keep R74
    have F84 : Exa Z T71.heap b23 "[B" := F66.keep R74
    have F85 : Arv Z T71.heap b15 k15 .byte (1 : Int32) [(.int (nar .byte xv))] (.int (0 : Int32)) := F67.keep R74 (ninS ne59 nin0)
    have F86 : Arv Z T71.heap b23 k23 .byte (1 : Int32) [(.int (nar .byte yv))] (.int (0 : Int32)) := F68.keep R74 (ninS ne60 nin0)
    have F87 : Exa Z T71.heap b56 "com/example/grant4/grant4/store/KeyLocks" := A56.keep R74
    have Z88 : n0 ≤ T71.heap.size := Nat.le_trans Z69 R74.1
    have hp89 : own_Str Z T71.heap aB72 f73 := R77
    obtain ⟨cq90, kq90, q90a, q90b, q90c⟩ := isOf hZ rfl R75
    obtain ⟨_, _, ⟨T90, L90, k90, n90⟩, -, X90, ⟨Lc90, hQ90, l90, y90, z90⟩, st90⟩ := X71.virtualBack hx (y := (⟨"com/example/grant4/grant4/store/KeyLocks", "of", "([B)Ljava/lang/Object;"⟩ : MethodName)) (z := (⟨"com/example/grant4/grant4/store/KeyLocks", "of", "([B)Ljava/lang/Object;"⟩ : MethodName)) hown (mvT hZ (hw _ (List.mem_of_getElem? (i := 17) rfl))) (mvT hZ (hw _ (List.mem_of_getElem? (i := 18) rfl))) (notFace_of_selects (args := #[]) (mvT hZ (hw _ (List.mem_of_getElem? (i := 20) rfl)))) (mvT hZ (hw _ (List.mem_of_getElem? (i := 20) rfl))) (mvT hZ (hw _ (List.mem_of_getElem? (i := 19) rfl))) (by decide) (backOf (W := 0) (rm3_0 l Z a0 hw [] b56 b3 aB72 f73 k3 T71.heap n0 Z88 R76 hp89 F80 F79) hZ (hw _ (List.mem_of_getElem? (i := 21) rfl)) (hw _ (List.mem_of_getElem? (i := 3) rfl)) (by decide) (by decide)) q90a q90c (g := (mkF m 128 #[.val (.int p0), .val (.int p1), .val (.int p2), .val (.int p3), .val (.int (0 : Int32)), .val (.ref b3), .val (.ref b5), .val (.int xv), .val (.int yv), .val (.ref b15), .val (.ref b23), .val (.ref b56), .unset, .unset, .unset, .unset, .unset] [(.ref b3), (.ref b56)])) rfl (by rw [hml]; rfl) (Steps.refl _) (argsL := [(.ref b3)]) (rest := []) (lenOf pd_5 rfl) rfl (by show 2 * 0 + _ ≤ _; exact Nat.le_of_eq rfl) (hb hby at_128) (fun _ _ => ⟨rfl, rfl, (by decide : 70 + 0 ≤ _), (by decide : 67 + 0 ≤ _)⟩)
    dsimp only [Pt.U, Pt.locs, Pt.cells, Pt.slots] at X90 l90 y90 z90 st90 hQ90
    subst l90 y90 z90
    obtain ⟨rfl, N90q, R91⟩ := hQ90
    have N90 := Fr.app N71 N90q
    have hp92 : own_Str Z T71.heap aB72 f73 := R77
    obtain ⟨cq93, kq93, q93a, q93b, q93c⟩ := isOf hZ R91 R75
    obtain ⟨_, _, ⟨T93, L93, k93, n93⟩, -, X93, ⟨Lc93, hQ93, l93, y93, z93⟩, st93⟩ := X90.virtualBack hx (y := (⟨"com/example/grant4/grant4/store/KeyLocks", "of", "([B)Ljava/lang/Object;"⟩ : MethodName)) (z := (⟨"com/example/grant4/grant4/store/KeyLocks", "of", "([B)Ljava/lang/Object;"⟩ : MethodName)) hown (mvT hZ (hw _ (List.mem_of_getElem? (i := 17) rfl))) (mvT hZ (hw _ (List.mem_of_getElem? (i := 18) rfl))) (notFace_of_selects (args := #[]) (mvT hZ (hw _ (List.mem_of_getElem? (i := 20) rfl)))) (mvT hZ (hw _ (List.mem_of_getElem? (i := 20) rfl))) (mvT hZ (hw _ (List.mem_of_getElem? (i := 19) rfl))) (by decide) (backOf (W := 0) (rm3_0 l Z a0 hw [] b56 b5 aB72 f73 k5 T71.heap n0 Z88 R76 hp92 F82 F81) hZ (hw _ (List.mem_of_getElem? (i := 21) rfl)) (hw _ (List.mem_of_getElem? (i := 3) rfl)) (by decide) (by decide)) q93a q93c (g := (mkF m 137 #[.val (.int p0), .val (.int p1), .val (.int p2), .val (.int p3), .val (.int (0 : Int32)), .val (.ref b3), .val (.ref b5), .val (.int xv), .val (.int yv), .val (.ref b15), .val (.ref b23), .val (.ref b56), .val (.ref (f73 (((1 : Int32)).toInt % 64).toNat)), .unset, .unset, .unset, .unset] [(.ref b5), (.ref b56)])) rfl (by rw [hml]; rfl) (Steps.refl _) (argsL := [(.ref b5)]) (rest := []) (lenOf pd_5 rfl) rfl (by show 2 * 0 + _ ≤ _; exact Nat.le_of_eq rfl) (hb hby at_137) (fun _ _ => ⟨rfl, R91, (by decide : 70 + 0 ≤ _), (by decide : 67 + 0 ≤ _)⟩)
    dsimp only [Pt.U, Pt.locs, Pt.cells, Pt.slots] at X93 l93 y93 z93 st93 hQ93
    subst l93 y93 z93
    obtain ⟨rfl, N93q, R94⟩ := hQ93
    have N93 := Fr.app N90 N93q
    have hp95 : own_Str Z T71.heap aB72 f73 := R77
    obtain ⟨cq96, kq96, q96a, q96b, q96c⟩ := isOf hZ R94 R75
    obtain ⟨_, _, ⟨T96, L96, k96, n96⟩, -, X96, ⟨Lc96, hQ96, l96, y96, z96⟩, st96⟩ := X93.virtualBack hx (y := (⟨"com/example/grant4/grant4/store/KeyLocks", "of", "([B)Ljava/lang/Object;"⟩ : MethodName)) (z := (⟨"com/example/grant4/grant4/store/KeyLocks", "of", "([B)Ljava/lang/Object;"⟩ : MethodName)) hown (mvT hZ (hw _ (List.mem_of_getElem? (i := 17) rfl))) (mvT hZ (hw _ (List.mem_of_getElem? (i := 18) rfl))) (notFace_of_selects (args := #[]) (mvT hZ (hw _ (List.mem_of_getElem? (i := 20) rfl)))) (mvT hZ (hw _ (List.mem_of_getElem? (i := 20) rfl))) (mvT hZ (hw _ (List.mem_of_getElem? (i := 19) rfl))) (by decide) (backOf (W := 0) (rm3_0 l Z a0 hw [] b56 b3 aB72 f73 k3 T71.heap n0 Z88 R76 hp95 F80 F79) hZ (hw _ (List.mem_of_getElem? (i := 21) rfl)) (hw _ (List.mem_of_getElem? (i := 3) rfl)) (by decide) (by decide)) q96a q96c (g := (mkF m 146 #[.val (.int p0), .val (.int p1), .val (.int p2), .val (.int p3), .val (.int (0 : Int32)), .val (.ref b3), .val (.ref b5), .val (.int xv), .val (.int yv), .val (.ref b15), .val (.ref b23), .val (.ref b56), .val (.ref (f73 (((1 : Int32)).toInt % 64).toNat)), .val (.ref (f73 (((1 : Int32)).toInt % 64).toNat)), .unset, .unset, .unset] [(.ref b3), (.ref b56)])) rfl (by rw [hml]; rfl) (Steps.refl _) (argsL := [(.ref b3)]) (rest := []) (lenOf pd_5 rfl) rfl (by show 2 * 0 + _ ≤ _; exact Nat.le_of_eq rfl) (hb hby at_146) (fun _ _ => ⟨rfl, R94, (by decide : 70 + 0 ≤ _), (by decide : 67 + 0 ≤ _)⟩)
    dsimp only [Pt.U, Pt.locs, Pt.cells, Pt.slots] at X96 l96 y96 z96 st96 hQ96
    subst l96 y96 z96
    obtain ⟨rfl, N96q, R97⟩ := hQ96
    have N96 := Fr.app N93 N96q
    have hp98 : own_Str Z T71.heap aB72 f73 := R77
    obtain ⟨cq99, kq99, q99a, q99b, q99c⟩ := isOf hZ R97 R75
    obtain ⟨_, _, ⟨T99, L99, k99, n99⟩, -, X99, ⟨Lc99, hQ99, l99, y99, z99⟩, st99⟩ := X96.virtualBack hx (y := (⟨"com/example/grant4/grant4/store/KeyLocks", "of", "([B)Ljava/lang/Object;"⟩ : MethodName)) (z := (⟨"com/example/grant4/grant4/store/KeyLocks", "of", "([B)Ljava/lang/Object;"⟩ : MethodName)) hown (mvT hZ (hw _ (List.mem_of_getElem? (i := 17) rfl))) (mvT hZ (hw _ (List.mem_of_getElem? (i := 18) rfl))) (notFace_of_selects (args := #[]) (mvT hZ (hw _ (List.mem_of_getElem? (i := 20) rfl)))) (mvT hZ (hw _ (List.mem_of_getElem? (i := 20) rfl))) (mvT hZ (hw _ (List.mem_of_getElem? (i := 19) rfl))) (by decide) (backOf (W := 0) (rm3_1 l Z a0 hw [] b56 b15 aB72 f73 k15 (nar .byte xv) T71.heap n0 Z88 R76 hp98 F85 F83) hZ (hw _ (List.mem_of_getElem? (i := 21) rfl)) (hw _ (List.mem_of_getElem? (i := 3) rfl)) (by decide) (by decide)) q99a q99c (g := (mkF m 155 #[.val (.int p0), .val (.int p1), .val (.int p2), .val (.int p3), .val (.int (0 : Int32)), .val (.ref b3), .val (.ref b5), .val (.int xv), .val (.int yv), .val (.ref b15), .val (.ref b23), .val (.ref b56), .val (.ref (f73 (((1 : Int32)).toInt % 64).toNat)), .val (.ref (f73 (((1 : Int32)).toInt % 64).toNat)), .val (.ref (f73 (((1 : Int32)).toInt % 64).toNat)), .unset, .unset] [(.ref b15), (.ref b56)])) rfl (by rw [hml]; rfl) (Steps.refl _) (argsL := [(.ref b15)]) (rest := []) (lenOf pd_5 rfl) rfl (by show 2 * 0 + _ ≤ _; exact Nat.le_of_eq rfl) (hb hby at_155) (fun _ _ => ⟨rfl, R97, (by decide : 70 + 0 ≤ _), (by decide : 67 + 0 ≤ _)⟩)
    dsimp only [Pt.U, Pt.locs, Pt.cells, Pt.slots] at X99 l99 y99 z99 st99 hQ99
    subst l99 y99 z99
    obtain ⟨rfl, N99q, R100⟩ := hQ99
    have N99 := Fr.app N96 N99q
    have hp101 : own_Str Z T71.heap aB72 f73 := R77
    obtain ⟨cq102, kq102, q102a, q102b, q102c⟩ := isOf hZ R100 R75
    obtain ⟨_, _, ⟨T102, L102, k102, n102⟩, -, X102, ⟨Lc102, hQ102, l102, y102, z102⟩, st102⟩ := X99.virtualBack hx (y := (⟨"com/example/grant4/grant4/store/KeyLocks", "of", "([B)Ljava/lang/Object;"⟩ : MethodName)) (z := (⟨"com/example/grant4/grant4/store/KeyLocks", "of", "([B)Ljava/lang/Object;"⟩ : MethodName)) hown (mvT hZ (hw _ (List.mem_of_getElem? (i := 17) rfl))) (mvT hZ (hw _ (List.mem_of_getElem? (i := 18) rfl))) (notFace_of_selects (args := #[]) (mvT hZ (hw _ (List.mem_of_getElem? (i := 20) rfl)))) (mvT hZ (hw _ (List.mem_of_getElem? (i := 20) rfl))) (mvT hZ (hw _ (List.mem_of_getElem? (i := 19) rfl))) (by decide) (backOf (W := 0) (rm3_1 l Z a0 hw [] b56 b23 aB72 f73 k23 (nar .byte yv) T71.heap n0 Z88 R76 hp101 F86 F84) hZ (hw _ (List.mem_of_getElem? (i := 21) rfl)) (hw _ (List.mem_of_getElem? (i := 3) rfl)) (by decide) (by decide)) q102a q102c (g := (mkF m 164 #[.val (.int p0), .val (.int p1), .val (.int p2), .val (.int p3), .val (.int (0 : Int32)), .val (.ref b3), .val (.ref b5), .val (.int xv), .val (.int yv), .val (.ref b15), .val (.ref b23), .val (.ref b56), .val (.ref (f73 (((1 : Int32)).toInt % 64).toNat)), .val (.ref (f73 (((1 : Int32)).toInt % 64).toNat)), .val (.ref (f73 (((1 : Int32)).toInt % 64).toNat)), .val (.ref (f73 ((((31 : Int32) + (nar .byte xv))).toInt % 64).toNat)), .unset] [(.ref b23), (.ref b56)])) rfl (by rw [hml]; rfl) (Steps.refl _) (argsL := [(.ref b23)]) (rest := []) (lenOf pd_5 rfl) rfl (by show 2 * 0 + _ ≤ _; exact Nat.le_of_eq rfl) (hb hby at_164) (fun _ _ => ⟨rfl, R100, (by decide : 70 + 0 ≤ _), (by decide : 67 + 0 ≤ _)⟩)
    dsimp only [Pt.U, Pt.locs, Pt.cells, Pt.slots] at X102 l102 y102 z102 st102 hQ102
    subst l102 y102 z102
    obtain ⟨rfl, N102q, R103⟩ := hQ102
    have N102 := Fr.app N99 N102q
    have ha202_104 : ¬ ((f73 ((((31 : Int32) + (nar .byte xv))).toInt % 64).toNat) = (f73 ((((31 : Int32) + (nar .byte yv))).toInt % 64).toNat)) := own_m p0 xv yv f73 R78 hxv hm13
    obtain ⟨fs, hr, hrun, hended, hW, hsame⟩ := X102.leave (v := some (.int (1 : Int32))) (fun h => by rw [Bd.returns] at h; cases h)
    refine ⟨_, _, P14 _ ?_, hrun, hended, _, _, rfl, ?_, ⟨_, rfl⟩, hW, hsame.mono (by decide) (by decide)⟩
    · show Steps p.tables e below (T5.setTop (mkF m 91 #[.val (.int p0), .val (.int p1), .val (.int p2), .val (.int p3), .val (.int (0 : Int32)), .val (.ref b3), .val (.ref b5), .val (.int xv), .unset, .unset, .unset, .unset, .unset, .unset, .unset, .unset, .unset] [(.int yv)])) _
      refine XS.istore X5.here hx rfl (hb hby at_91) rfl (l' := #[.val (.int p0), .val (.int p1), .val (.int p2), .val (.int p3), .val (.int (0 : Int32)), .val (.ref b3), .val (.ref b5), .val (.int xv), .val (.int yv), .unset, .unset, .unset, .unset, .unset, .unset, .unset, .unset]) rfl ?_
      show Steps p.tables e below (T5.setTop (mkF m 93 #[.val (.int p0), .val (.int p1), .val (.int p2), .val (.int p3), .val (.int (0 : Int32)), .val (.ref b3), .val (.ref b5), .val (.int xv), .val (.int yv), .unset, .unset, .unset, .unset, .unset, .unset, .unset, .unset] [])) _
      refine XS.iconst X5.here hx rfl (hb hby at_93) ?_
      show Steps p.tables e below (T5.setTop (mkF m 94 #[.val (.int p0), .val (.int p1), .val (.int p2), .val (.int p3), .val (.int (0 : Int32)), .val (.ref b3), .val (.ref b5), .val (.int xv), .val (.int yv), .unset, .unset, .unset, .unset, .unset, .unset, .unset, .unset] [(.int (1 : Int32))])) _
      refine st15 _ ?_
      show Steps p.tables e below (T15.setTop (mkF m 96 #[.val (.int p0), .val (.int p1), .val (.int p2), .val (.int p3), .val (.int (0 : Int32)), .val (.ref b3), .val (.ref b5), .val (.int xv), .val (.int yv), .unset, .unset, .unset, .unset, .unset, .unset, .unset, .unset] [(.ref b15)])) _
      refine XS.astore X15.here hx rfl (hb hby at_96) rfl rfl (l' := #[.val (.int p0), .val (.int p1), .val (.int p2), .val (.int p3), .val (.int (0 : Int32)), .val (.ref b3), .val (.ref b5), .val (.int xv), .val (.int yv), .val (.ref b15), .unset, .unset, .unset, .unset, .unset, .unset, .unset]) rfl ?_
      show Steps p.tables e below (T15.setTop (mkF m 98 #[.val (.int p0), .val (.int p1), .val (.int p2), .val (.int p3), .val (.int (0 : Int32)), .val (.ref b3), .val (.ref b5), .val (.int xv), .val (.int yv), .val (.ref b15), .unset, .unset, .unset, .unset, .unset, .unset, .unset] [])) _
      refine XS.iconst X15.here hx rfl (hb hby at_98) ?_
      show Steps p.tables e below (T15.setTop (mkF m 99 #[.val (.int p0), .val (.int p1), .val (.int p2), .val (.int p3), .val (.int (0 : Int32)), .val (.ref b3), .val (.ref b5), .val (.int xv), .val (.int yv), .val (.ref b15), .unset, .unset, .unset, .unset, .unset, .unset, .unset] [(.int (1 : Int32))])) _
      refine st23 _ ?_
      show Steps p.tables e below (T23.setTop (mkF m 101 #[.val (.int p0), .val (.int p1), .val (.int p2), .val (.int p3), .val (.int (0 : Int32)), .val (.ref b3), .val (.ref b5), .val (.int xv), .val (.int yv), .val (.ref b15), .unset, .unset, .unset, .unset, .unset, .unset, .unset] [(.ref b23)])) _
      refine XS.astore X23.here hx rfl (hb hby at_101) rfl rfl (l' := #[.val (.int p0), .val (.int p1), .val (.int p2), .val (.int p3), .val (.int (0 : Int32)), .val (.ref b3), .val (.ref b5), .val (.int xv), .val (.int yv), .val (.ref b15), .val (.ref b23), .unset, .unset, .unset, .unset, .unset, .unset]) rfl ?_
      show Steps p.tables e below (T23.setTop (mkF m 103 #[.val (.int p0), .val (.int p1), .val (.int p2), .val (.int p3), .val (.int (0 : Int32)), .val (.ref b3), .val (.ref b5), .val (.int xv), .val (.int yv), .val (.ref b15), .val (.ref b23), .unset, .unset, .unset, .unset, .unset, .unset] [])) _
      refine XS.aload X23.here hx rfl (hb hby at_103) rfl rfl ?_
      show Steps p.tables e below (T23.setTop (mkF m 105 #[.val (.int p0), .val (.int p1), .val (.int p2), .val (.int p3), .val (.int (0 : Int32)), .val (.ref b3), .val (.ref b5), .val (.int xv), .val (.int yv), .val (.ref b15), .val (.ref b23), .unset, .unset, .unset, .unset, .unset, .unset] [(.ref b15)])) _
      refine XS.iconst X23.here hx rfl (hb hby at_105) ?_
      show Steps p.tables e below (T23.setTop (mkF m 106 #[.val (.int p0), .val (.int p1), .val (.int p2), .val (.int p3), .val (.int (0 : Int32)), .val (.ref b3), .val (.ref b5), .val (.int xv), .val (.int yv), .val (.ref b15), .val (.ref b23), .unset, .unset, .unset, .unset, .unset, .unset] [(.int (0 : Int32)), (.ref b15)])) _
      refine XS.iload X23.here hx rfl (hb hby at_106) rfl ?_
      show Steps p.tables e below (T23.setTop (mkF m 108 #[.val (.int p0), .val (.int p1), .val (.int p2), .val (.int p3), .val (.int (0 : Int32)), .val (.ref b3), .val (.ref b5), .val (.int xv), .val (.int yv), .val (.ref b15), .val (.ref b23), .unset, .unset, .unset, .unset, .unset, .unset] [(.int xv), (.int (0 : Int32)), (.ref b15)])) _
      refine st35 _ ?_
      show Steps p.tables e below (T35.setTop (mkF m 109 #[.val (.int p0), .val (.int p1), .val (.int p2), .val (.int p3), .val (.int (0 : Int32)), .val (.ref b3), .val (.ref b5), .val (.int xv), .val (.int yv), .val (.ref b15), .val (.ref b23), .unset, .unset, .unset, .unset, .unset, .unset] [])) _
      refine XS.aload X35.here hx rfl (hb hby at_109) rfl rfl ?_
      show Steps p.tables e below (T35.setTop (mkF m 111 #[.val (.int p0), .val (.int p1), .val (.int p2), .val (.int p3), .val (.int (0 : Int32)), .val (.ref b3), .val (.ref b5), .val (.int xv), .val (.int yv), .val (.ref b15), .val (.ref b23), .unset, .unset, .unset, .unset, .unset, .unset] [(.ref b23)])) _
      refine XS.iconst X35.here hx rfl (hb hby at_111) ?_
      show Steps p.tables e below (T35.setTop (mkF m 112 #[.val (.int p0), .val (.int p1), .val (.int p2), .val (.int p3), .val (.int (0 : Int32)), .val (.ref b3), .val (.ref b5), .val (.int xv), .val (.int yv), .val (.ref b15), .val (.ref b23), .unset, .unset, .unset, .unset, .unset, .unset] [(.int (0 : Int32)), (.ref b23)])) _
      refine XS.iload X35.here hx rfl (hb hby at_112) rfl ?_
      show Steps p.tables e below (T35.setTop (mkF m 114 #[.val (.int p0), .val (.int p1), .val (.int p2), .val (.int p3), .val (.int (0 : Int32)), .val (.ref b3), .val (.ref b5), .val (.int xv), .val (.int yv), .val (.ref b15), .val (.ref b23), .unset, .unset, .unset, .unset, .unset, .unset] [(.int yv), (.int (0 : Int32)), (.ref b23)])) _
      refine st46 _ ?_
      show Steps p.tables e below (T46.setTop (mkF m 115 #[.val (.int p0), .val (.int p1), .val (.int p2), .val (.int p3), .val (.int (0 : Int32)), .val (.ref b3), .val (.ref b5), .val (.int xv), .val (.int yv), .val (.ref b15), .val (.ref b23), .unset, .unset, .unset, .unset, .unset, .unset] [])) _
      refine st56 _ ?_
      show Steps p.tables e below (T56.setTop (mkF m 118 #[.val (.int p0), .val (.int p1), .val (.int p2), .val (.int p3), .val (.int (0 : Int32)), .val (.ref b3), .val (.ref b5), .val (.int xv), .val (.int yv), .val (.ref b15), .val (.ref b23), .unset, .unset, .unset, .unset, .unset, .unset] [(.ref b56)])) _
      refine XS.dup X56.here hx rfl (hb hby at_118) rfl rfl ?_
      show Steps p.tables e below (T56.setTop (mkF m 119 #[.val (.int p0), .val (.int p1), .val (.int p2), .val (.int p3), .val (.int (0 : Int32)), .val (.ref b3), .val (.ref b5), .val (.int xv), .val (.int yv), .val (.ref b15), .val (.ref b23), .unset, .unset, .unset, .unset, .unset, .unset] [(.ref b56), (.ref b56)])) _
      refine st71.trans ?_
      show Steps p.tables e below (T71.setTop (mkF m 122 #[.val (.int p0), .val (.int p1), .val (.int p2), .val (.int p3), .val (.int (0 : Int32)), .val (.ref b3), .val (.ref b5), .val (.int xv), .val (.int yv), .val (.ref b15), .val (.ref b23), .unset, .unset, .unset, .unset, .unset, .unset] [(.ref b56)])) _
      refine XS.astore X71.here hx rfl (hb hby at_122) rfl rfl (l' := #[.val (.int p0), .val (.int p1), .val (.int p2), .val (.int p3), .val (.int (0 : Int32)), .val (.ref b3), .val (.ref b5), .val (.int xv), .val (.int yv), .val (.ref b15), .val (.ref b23), .val (.ref b56), .unset, .unset, .unset, .unset, .unset]) rfl ?_
      show Steps p.tables e below (T71.setTop (mkF m 124 #[.val (.int p0), .val (.int p1), .val (.int p2), .val (.int p3), .val (.int (0 : Int32)), .val (.ref b3), .val (.ref b5), .val (.int xv), .val (.int yv), .val (.ref b15), .val (.ref b23), .val (.ref b56), .unset, .unset, .unset, .unset, .unset] [])) _
      refine XS.aload X71.here hx rfl (hb hby at_124) rfl rfl ?_
      show Steps p.tables e below (T71.setTop (mkF m 126 #[.val (.int p0), .val (.int p1), .val (.int p2), .val (.int p3), .val (.int (0 : Int32)), .val (.ref b3), .val (.ref b5), .val (.int xv), .val (.int yv), .val (.ref b15), .val (.ref b23), .val (.ref b56), .unset, .unset, .unset, .unset, .unset] [(.ref b56)])) _
      refine XS.aload X71.here hx rfl (hb hby at_126) rfl rfl ?_
      show Steps p.tables e below (T71.setTop (mkF m 128 #[.val (.int p0), .val (.int p1), .val (.int p2), .val (.int p3), .val (.int (0 : Int32)), .val (.ref b3), .val (.ref b5), .val (.int xv), .val (.int yv), .val (.ref b15), .val (.ref b23), .val (.ref b56), .unset, .unset, .unset, .unset, .unset] [(.ref b3), (.ref b56)])) _
      refine st90.trans ?_
      show Steps p.tables e below (T90.setTop (mkF m 131 #[.val (.int p0), .val (.int p1), .val (.int p2), .val (.int p3), .val (.int (0 : Int32)), .val (.ref b3), .val (.ref b5), .val (.int xv), .val (.int yv), .val (.ref b15), .val (.ref b23), .val (.ref b56), .unset, .unset, .unset, .unset, .unset] [(.ref (f73 (((1 : Int32)).toInt % 64).toNat))])) _
      refine XS.astore X90.here hx rfl (hb hby at_131) rfl rfl (l' := #[.val (.int p0), .val (.int p1), .val (.int p2), .val (.int p3), .val (.int (0 : Int32)), .val (.ref b3), .val (.ref b5), .val (.int xv), .val (.int yv), .val (.ref b15), .val (.ref b23), .val (.ref b56), .val (.ref (f73 (((1 : Int32)).toInt % 64).toNat)), .unset, .unset, .unset, .unset]) rfl ?_
      show Steps p.tables e below (T90.setTop (mkF m 133 #[.val (.int p0), .val (.int p1), .val (.int p2), .val (.int p3), .val (.int (0 : Int32)), .val (.ref b3), .val (.ref b5), .val (.int xv), .val (.int yv), .val (.ref b15), .val (.ref b23), .val (.ref b56), .val (.ref (f73 (((1 : Int32)).toInt % 64).toNat)), .unset, .unset, .unset, .unset] [])) _
      refine XS.aload X90.here hx rfl (hb hby at_133) rfl rfl ?_
      show Steps p.tables e below (T90.setTop (mkF m 135 #[.val (.int p0), .val (.int p1), .val (.int p2), .val (.int p3), .val (.int (0 : Int32)), .val (.ref b3), .val (.ref b5), .val (.int xv), .val (.int yv), .val (.ref b15), .val (.ref b23), .val (.ref b56), .val (.ref (f73 (((1 : Int32)).toInt % 64).toNat)), .unset, .unset, .unset, .unset] [(.ref b56)])) _
      refine XS.aload X90.here hx rfl (hb hby at_135) rfl rfl ?_
      show Steps p.tables e below (T90.setTop (mkF m 137 #[.val (.int p0), .val (.int p1), .val (.int p2), .val (.int p3), .val (.int (0 : Int32)), .val (.ref b3), .val (.ref b5), .val (.int xv), .val (.int yv), .val (.ref b15), .val (.ref b23), .val (.ref b56), .val (.ref (f73 (((1 : Int32)).toInt % 64).toNat)), .unset, .unset, .unset, .unset] [(.ref b5), (.ref b56)])) _
      refine st93.trans ?_
      show Steps p.tables e below (T93.setTop (mkF m 140 #[.val (.int p0), .val (.int p1), .val (.int p2), .val (.int p3), .val (.int (0 : Int32)), .val (.ref b3), .val (.ref b5), .val (.int xv), .val (.int yv), .val (.ref b15), .val (.ref b23), .val (.ref b56), .val (.ref (f73 (((1 : Int32)).toInt % 64).toNat)), .unset, .unset, .unset, .unset] [(.ref (f73 (((1 : Int32)).toInt % 64).toNat))])) _
      refine XS.astore X93.here hx rfl (hb hby at_140) rfl rfl (l' := #[.val (.int p0), .val (.int p1), .val (.int p2), .val (.int p3), .val (.int (0 : Int32)), .val (.ref b3), .val (.ref b5), .val (.int xv), .val (.int yv), .val (.ref b15), .val (.ref b23), .val (.ref b56), .val (.ref (f73 (((1 : Int32)).toInt % 64).toNat)), .val (.ref (f73 (((1 : Int32)).toInt % 64).toNat)), .unset, .unset, .unset]) rfl ?_
      show Steps p.tables e below (T93.setTop (mkF m 142 #[.val (.int p0), .val (.int p1), .val (.int p2), .val (.int p3), .val (.int (0 : Int32)), .val (.ref b3), .val (.ref b5), .val (.int xv), .val (.int yv), .val (.ref b15), .val (.ref b23), .val (.ref b56), .val (.ref (f73 (((1 : Int32)).toInt % 64).toNat)), .val (.ref (f73 (((1 : Int32)).toInt % 64).toNat)), .unset, .unset, .unset] [])) _
      refine XS.aload X93.here hx rfl (hb hby at_142) rfl rfl ?_
      show Steps p.tables e below (T93.setTop (mkF m 144 #[.val (.int p0), .val (.int p1), .val (.int p2), .val (.int p3), .val (.int (0 : Int32)), .val (.ref b3), .val (.ref b5), .val (.int xv), .val (.int yv), .val (.ref b15), .val (.ref b23), .val (.ref b56), .val (.ref (f73 (((1 : Int32)).toInt % 64).toNat)), .val (.ref (f73 (((1 : Int32)).toInt % 64).toNat)), .unset, .unset, .unset] [(.ref b56)])) _
      refine XS.aload X93.here hx rfl (hb hby at_144) rfl rfl ?_
      show Steps p.tables e below (T93.setTop (mkF m 146 #[.val (.int p0), .val (.int p1), .val (.int p2), .val (.int p3), .val (.int (0 : Int32)), .val (.ref b3), .val (.ref b5), .val (.int xv), .val (.int yv), .val (.ref b15), .val (.ref b23), .val (.ref b56), .val (.ref (f73 (((1 : Int32)).toInt % 64).toNat)), .val (.ref (f73 (((1 : Int32)).toInt % 64).toNat)), .unset, .unset, .unset] [(.ref b3), (.ref b56)])) _
      refine st96.trans ?_
      show Steps p.tables e below (T96.setTop (mkF m 149 #[.val (.int p0), .val (.int p1), .val (.int p2), .val (.int p3), .val (.int (0 : Int32)), .val (.ref b3), .val (.ref b5), .val (.int xv), .val (.int yv), .val (.ref b15), .val (.ref b23), .val (.ref b56), .val (.ref (f73 (((1 : Int32)).toInt % 64).toNat)), .val (.ref (f73 (((1 : Int32)).toInt % 64).toNat)), .unset, .unset, .unset] [(.ref (f73 (((1 : Int32)).toInt % 64).toNat))])) _
      refine XS.astore X96.here hx rfl (hb hby at_149) rfl rfl (l' := #[.val (.int p0), .val (.int p1), .val (.int p2), .val (.int p3), .val (.int (0 : Int32)), .val (.ref b3), .val (.ref b5), .val (.int xv), .val (.int yv), .val (.ref b15), .val (.ref b23), .val (.ref b56), .val (.ref (f73 (((1 : Int32)).toInt % 64).toNat)), .val (.ref (f73 (((1 : Int32)).toInt % 64).toNat)), .val (.ref (f73 (((1 : Int32)).toInt % 64).toNat)), .unset, .unset]) rfl ?_
      show Steps p.tables e below (T96.setTop (mkF m 151 #[.val (.int p0), .val (.int p1), .val (.int p2), .val (.int p3), .val (.int (0 : Int32)), .val (.ref b3), .val (.ref b5), .val (.int xv), .val (.int yv), .val (.ref b15), .val (.ref b23), .val (.ref b56), .val (.ref (f73 (((1 : Int32)).toInt % 64).toNat)), .val (.ref (f73 (((1 : Int32)).toInt % 64).toNat)), .val (.ref (f73 (((1 : Int32)).toInt % 64).toNat)), .unset, .unset] [])) _
      refine XS.aload X96.here hx rfl (hb hby at_151) rfl rfl ?_
      show Steps p.tables e below (T96.setTop (mkF m 153 #[.val (.int p0), .val (.int p1), .val (.int p2), .val (.int p3), .val (.int (0 : Int32)), .val (.ref b3), .val (.ref b5), .val (.int xv), .val (.int yv), .val (.ref b15), .val (.ref b23), .val (.ref b56), .val (.ref (f73 (((1 : Int32)).toInt % 64).toNat)), .val (.ref (f73 (((1 : Int32)).toInt % 64).toNat)), .val (.ref (f73 (((1 : Int32)).toInt % 64).toNat)), .unset, .unset] [(.ref b56)])) _
      refine XS.aload X96.here hx rfl (hb hby at_153) rfl rfl ?_
      show Steps p.tables e below (T96.setTop (mkF m 155 #[.val (.int p0), .val (.int p1), .val (.int p2), .val (.int p3), .val (.int (0 : Int32)), .val (.ref b3), .val (.ref b5), .val (.int xv), .val (.int yv), .val (.ref b15), .val (.ref b23), .val (.ref b56), .val (.ref (f73 (((1 : Int32)).toInt % 64).toNat)), .val (.ref (f73 (((1 : Int32)).toInt % 64).toNat)), .val (.ref (f73 (((1 : Int32)).toInt % 64).toNat)), .unset, .unset] [(.ref b15), (.ref b56)])) _
      refine st99.trans ?_
      show Steps p.tables e below (T99.setTop (mkF m 158 #[.val (.int p0), .val (.int p1), .val (.int p2), .val (.int p3), .val (.int (0 : Int32)), .val (.ref b3), .val (.ref b5), .val (.int xv), .val (.int yv), .val (.ref b15), .val (.ref b23), .val (.ref b56), .val (.ref (f73 (((1 : Int32)).toInt % 64).toNat)), .val (.ref (f73 (((1 : Int32)).toInt % 64).toNat)), .val (.ref (f73 (((1 : Int32)).toInt % 64).toNat)), .unset, .unset] [(.ref (f73 ((((31 : Int32) + (nar .byte xv))).toInt % 64).toNat))])) _
      refine XS.astore X99.here hx rfl (hb hby at_158) rfl rfl (l' := #[.val (.int p0), .val (.int p1), .val (.int p2), .val (.int p3), .val (.int (0 : Int32)), .val (.ref b3), .val (.ref b5), .val (.int xv), .val (.int yv), .val (.ref b15), .val (.ref b23), .val (.ref b56), .val (.ref (f73 (((1 : Int32)).toInt % 64).toNat)), .val (.ref (f73 (((1 : Int32)).toInt % 64).toNat)), .val (.ref (f73 (((1 : Int32)).toInt % 64).toNat)), .val (.ref (f73 ((((31 : Int32) + (nar .byte xv))).toInt % 64).toNat)), .unset]) rfl ?_
      show Steps p.tables e below (T99.setTop (mkF m 160 #[.val (.int p0), .val (.int p1), .val (.int p2), .val (.int p3), .val (.int (0 : Int32)), .val (.ref b3), .val (.ref b5), .val (.int xv), .val (.int yv), .val (.ref b15), .val (.ref b23), .val (.ref b56), .val (.ref (f73 (((1 : Int32)).toInt % 64).toNat)), .val (.ref (f73 (((1 : Int32)).toInt % 64).toNat)), .val (.ref (f73 (((1 : Int32)).toInt % 64).toNat)), .val (.ref (f73 ((((31 : Int32) + (nar .byte xv))).toInt % 64).toNat)), .unset] [])) _
      refine XS.aload X99.here hx rfl (hb hby at_160) rfl rfl ?_
      show Steps p.tables e below (T99.setTop (mkF m 162 #[.val (.int p0), .val (.int p1), .val (.int p2), .val (.int p3), .val (.int (0 : Int32)), .val (.ref b3), .val (.ref b5), .val (.int xv), .val (.int yv), .val (.ref b15), .val (.ref b23), .val (.ref b56), .val (.ref (f73 (((1 : Int32)).toInt % 64).toNat)), .val (.ref (f73 (((1 : Int32)).toInt % 64).toNat)), .val (.ref (f73 (((1 : Int32)).toInt % 64).toNat)), .val (.ref (f73 ((((31 : Int32) + (nar .byte xv))).toInt % 64).toNat)), .unset] [(.ref b56)])) _
      refine XS.aload X99.here hx rfl (hb hby at_162) rfl rfl ?_
      show Steps p.tables e below (T99.setTop (mkF m 164 #[.val (.int p0), .val (.int p1), .val (.int p2), .val (.int p3), .val (.int (0 : Int32)), .val (.ref b3), .val (.ref b5), .val (.int xv), .val (.int yv), .val (.ref b15), .val (.ref b23), .val (.ref b56), .val (.ref (f73 (((1 : Int32)).toInt % 64).toNat)), .val (.ref (f73 (((1 : Int32)).toInt % 64).toNat)), .val (.ref (f73 (((1 : Int32)).toInt % 64).toNat)), .val (.ref (f73 ((((31 : Int32) + (nar .byte xv))).toInt % 64).toNat)), .unset] [(.ref b23), (.ref b56)])) _
      refine st102.trans ?_
      show Steps p.tables e below (T102.setTop (mkF m 167 #[.val (.int p0), .val (.int p1), .val (.int p2), .val (.int p3), .val (.int (0 : Int32)), .val (.ref b3), .val (.ref b5), .val (.int xv), .val (.int yv), .val (.ref b15), .val (.ref b23), .val (.ref b56), .val (.ref (f73 (((1 : Int32)).toInt % 64).toNat)), .val (.ref (f73 (((1 : Int32)).toInt % 64).toNat)), .val (.ref (f73 (((1 : Int32)).toInt % 64).toNat)), .val (.ref (f73 ((((31 : Int32) + (nar .byte xv))).toInt % 64).toNat)), .unset] [(.ref (f73 ((((31 : Int32) + (nar .byte yv))).toInt % 64).toNat))])) _
      refine XS.astore X102.here hx rfl (hb hby at_167) rfl rfl (l' := #[.val (.int p0), .val (.int p1), .val (.int p2), .val (.int p3), .val (.int (0 : Int32)), .val (.ref b3), .val (.ref b5), .val (.int xv), .val (.int yv), .val (.ref b15), .val (.ref b23), .val (.ref b56), .val (.ref (f73 (((1 : Int32)).toInt % 64).toNat)), .val (.ref (f73 (((1 : Int32)).toInt % 64).toNat)), .val (.ref (f73 (((1 : Int32)).toInt % 64).toNat)), .val (.ref (f73 ((((31 : Int32) + (nar .byte xv))).toInt % 64).toNat)), .val (.ref (f73 ((((31 : Int32) + (nar .byte yv))).toInt % 64).toNat))]) rfl ?_
      show Steps p.tables e below (T102.setTop (mkF m 169 #[.val (.int p0), .val (.int p1), .val (.int p2), .val (.int p3), .val (.int (0 : Int32)), .val (.ref b3), .val (.ref b5), .val (.int xv), .val (.int yv), .val (.ref b15), .val (.ref b23), .val (.ref b56), .val (.ref (f73 (((1 : Int32)).toInt % 64).toNat)), .val (.ref (f73 (((1 : Int32)).toInt % 64).toNat)), .val (.ref (f73 (((1 : Int32)).toInt % 64).toNat)), .val (.ref (f73 ((((31 : Int32) + (nar .byte xv))).toInt % 64).toNat)), .val (.ref (f73 ((((31 : Int32) + (nar .byte yv))).toInt % 64).toNat))] [])) _
      refine XS.aload X102.here hx rfl (hb hby at_169) rfl rfl ?_
      show Steps p.tables e below (T102.setTop (mkF m 171 #[.val (.int p0), .val (.int p1), .val (.int p2), .val (.int p3), .val (.int (0 : Int32)), .val (.ref b3), .val (.ref b5), .val (.int xv), .val (.int yv), .val (.ref b15), .val (.ref b23), .val (.ref b56), .val (.ref (f73 (((1 : Int32)).toInt % 64).toNat)), .val (.ref (f73 (((1 : Int32)).toInt % 64).toNat)), .val (.ref (f73 (((1 : Int32)).toInt % 64).toNat)), .val (.ref (f73 ((((31 : Int32) + (nar .byte xv))).toInt % 64).toNat)), .val (.ref (f73 ((((31 : Int32) + (nar .byte yv))).toInt % 64).toNat))] [(.ref (f73 (((1 : Int32)).toInt % 64).toNat))])) _
      refine XS.ifnullNo X102.here hx rfl (hb hby at_171) rfl ?_
      show Steps p.tables e below (T102.setTop (mkF m 174 #[.val (.int p0), .val (.int p1), .val (.int p2), .val (.int p3), .val (.int (0 : Int32)), .val (.ref b3), .val (.ref b5), .val (.int xv), .val (.int yv), .val (.ref b15), .val (.ref b23), .val (.ref b56), .val (.ref (f73 (((1 : Int32)).toInt % 64).toNat)), .val (.ref (f73 (((1 : Int32)).toInt % 64).toNat)), .val (.ref (f73 (((1 : Int32)).toInt % 64).toNat)), .val (.ref (f73 ((((31 : Int32) + (nar .byte xv))).toInt % 64).toNat)), .val (.ref (f73 ((((31 : Int32) + (nar .byte yv))).toInt % 64).toNat))] [])) _
      refine XS.aload X102.here hx rfl (hb hby at_174) rfl rfl ?_
      show Steps p.tables e below (T102.setTop (mkF m 176 #[.val (.int p0), .val (.int p1), .val (.int p2), .val (.int p3), .val (.int (0 : Int32)), .val (.ref b3), .val (.ref b5), .val (.int xv), .val (.int yv), .val (.ref b15), .val (.ref b23), .val (.ref b56), .val (.ref (f73 (((1 : Int32)).toInt % 64).toNat)), .val (.ref (f73 (((1 : Int32)).toInt % 64).toNat)), .val (.ref (f73 (((1 : Int32)).toInt % 64).toNat)), .val (.ref (f73 ((((31 : Int32) + (nar .byte xv))).toInt % 64).toNat)), .val (.ref (f73 ((((31 : Int32) + (nar .byte yv))).toInt % 64).toNat))] [(.ref (f73 (((1 : Int32)).toInt % 64).toNat))])) _
      refine XS.aload X102.here hx rfl (hb hby at_176) rfl rfl ?_
      show Steps p.tables e below (T102.setTop (mkF m 178 #[.val (.int p0), .val (.int p1), .val (.int p2), .val (.int p3), .val (.int (0 : Int32)), .val (.ref b3), .val (.ref b5), .val (.int xv), .val (.int yv), .val (.ref b15), .val (.ref b23), .val (.ref b56), .val (.ref (f73 (((1 : Int32)).toInt % 64).toNat)), .val (.ref (f73 (((1 : Int32)).toInt % 64).toNat)), .val (.ref (f73 (((1 : Int32)).toInt % 64).toNat)), .val (.ref (f73 ((((31 : Int32) + (nar .byte xv))).toInt % 64).toNat)), .val (.ref (f73 ((((31 : Int32) + (nar .byte yv))).toInt % 64).toNat))] [(.ref (f73 (((1 : Int32)).toInt % 64).toNat)), (.ref (f73 (((1 : Int32)).toInt % 64).toNat))])) _
      refine Jvm.RoadKit.acmp (g := (mkF m 178 #[.val (.int p0), .val (.int p1), .val (.int p2), .val (.int p3), .val (.int (0 : Int32)), .val (.ref b3), .val (.ref b5), .val (.int xv), .val (.int yv), .val (.ref b15), .val (.ref b23), .val (.ref b56), .val (.ref (f73 (((1 : Int32)).toInt % 64).toNat)), .val (.ref (f73 (((1 : Int32)).toInt % 64).toNat)), .val (.ref (f73 (((1 : Int32)).toInt % 64).toNat)), .val (.ref (f73 ((((31 : Int32) + (nar .byte xv))).toInt % 64).toNat)), .val (.ref (f73 ((((31 : Int32) + (nar .byte yv))).toInt % 64).toNat))] [(.ref (f73 (((1 : Int32)).toInt % 64).toNat)), (.ref (f73 (((1 : Int32)).toInt % 64).toNat))])) X102 hx rfl rfl rfl (pc0 := 178) (pc' := 181) (same := true) rfl (hb hby at_178) rfl (decide_eq_true rfl) (by decide) (by decide) ?_
      show Steps p.tables e below (T102.setTop (mkF m 181 #[.val (.int p0), .val (.int p1), .val (.int p2), .val (.int p3), .val (.int (0 : Int32)), .val (.ref b3), .val (.ref b5), .val (.int xv), .val (.int yv), .val (.ref b15), .val (.ref b23), .val (.ref b56), .val (.ref (f73 (((1 : Int32)).toInt % 64).toNat)), .val (.ref (f73 (((1 : Int32)).toInt % 64).toNat)), .val (.ref (f73 (((1 : Int32)).toInt % 64).toNat)), .val (.ref (f73 ((((31 : Int32) + (nar .byte xv))).toInt % 64).toNat)), .val (.ref (f73 ((((31 : Int32) + (nar .byte yv))).toInt % 64).toNat))] [])) _
      refine XS.aload X102.here hx rfl (hb hby at_181) rfl rfl ?_
      show Steps p.tables e below (T102.setTop (mkF m 183 #[.val (.int p0), .val (.int p1), .val (.int p2), .val (.int p3), .val (.int (0 : Int32)), .val (.ref b3), .val (.ref b5), .val (.int xv), .val (.int yv), .val (.ref b15), .val (.ref b23), .val (.ref b56), .val (.ref (f73 (((1 : Int32)).toInt % 64).toNat)), .val (.ref (f73 (((1 : Int32)).toInt % 64).toNat)), .val (.ref (f73 (((1 : Int32)).toInt % 64).toNat)), .val (.ref (f73 ((((31 : Int32) + (nar .byte xv))).toInt % 64).toNat)), .val (.ref (f73 ((((31 : Int32) + (nar .byte yv))).toInt % 64).toNat))] [(.ref (f73 (((1 : Int32)).toInt % 64).toNat))])) _
      refine XS.aload X102.here hx rfl (hb hby at_183) rfl rfl ?_
      show Steps p.tables e below (T102.setTop (mkF m 185 #[.val (.int p0), .val (.int p1), .val (.int p2), .val (.int p3), .val (.int (0 : Int32)), .val (.ref b3), .val (.ref b5), .val (.int xv), .val (.int yv), .val (.ref b15), .val (.ref b23), .val (.ref b56), .val (.ref (f73 (((1 : Int32)).toInt % 64).toNat)), .val (.ref (f73 (((1 : Int32)).toInt % 64).toNat)), .val (.ref (f73 (((1 : Int32)).toInt % 64).toNat)), .val (.ref (f73 ((((31 : Int32) + (nar .byte xv))).toInt % 64).toNat)), .val (.ref (f73 ((((31 : Int32) + (nar .byte yv))).toInt % 64).toNat))] [(.ref (f73 (((1 : Int32)).toInt % 64).toNat)), (.ref (f73 (((1 : Int32)).toInt % 64).toNat))])) _
      refine Jvm.RoadKit.acmp (g := (mkF m 185 #[.val (.int p0), .val (.int p1), .val (.int p2), .val (.int p3), .val (.int (0 : Int32)), .val (.ref b3), .val (.ref b5), .val (.int xv), .val (.int yv), .val (.ref b15), .val (.ref b23), .val (.ref b56), .val (.ref (f73 (((1 : Int32)).toInt % 64).toNat)), .val (.ref (f73 (((1 : Int32)).toInt % 64).toNat)), .val (.ref (f73 (((1 : Int32)).toInt % 64).toNat)), .val (.ref (f73 ((((31 : Int32) + (nar .byte xv))).toInt % 64).toNat)), .val (.ref (f73 ((((31 : Int32) + (nar .byte yv))).toInt % 64).toNat))] [(.ref (f73 (((1 : Int32)).toInt % 64).toNat)), (.ref (f73 (((1 : Int32)).toInt % 64).toNat))])) X102 hx rfl rfl rfl (pc0 := 185) (pc' := 188) (same := true) rfl (hb hby at_185) rfl (decide_eq_true rfl) (by decide) (by decide) ?_
      show Steps p.tables e below (T102.setTop (mkF m 188 #[.val (.int p0), .val (.int p1), .val (.int p2), .val (.int p3), .val (.int (0 : Int32)), .val (.ref b3), .val (.ref b5), .val (.int xv), .val (.int yv), .val (.ref b15), .val (.ref b23), .val (.ref b56), .val (.ref (f73 (((1 : Int32)).toInt % 64).toNat)), .val (.ref (f73 (((1 : Int32)).toInt % 64).toNat)), .val (.ref (f73 (((1 : Int32)).toInt % 64).toNat)), .val (.ref (f73 ((((31 : Int32) + (nar .byte xv))).toInt % 64).toNat)), .val (.ref (f73 ((((31 : Int32) + (nar .byte yv))).toInt % 64).toNat))] [])) _
      refine XS.aload X102.here hx rfl (hb hby at_188) rfl rfl ?_
      show Steps p.tables e below (T102.setTop (mkF m 190 #[.val (.int p0), .val (.int p1), .val (.int p2), .val (.int p3), .val (.int (0 : Int32)), .val (.ref b3), .val (.ref b5), .val (.int xv), .val (.int yv), .val (.ref b15), .val (.ref b23), .val (.ref b56), .val (.ref (f73 (((1 : Int32)).toInt % 64).toNat)), .val (.ref (f73 (((1 : Int32)).toInt % 64).toNat)), .val (.ref (f73 (((1 : Int32)).toInt % 64).toNat)), .val (.ref (f73 ((((31 : Int32) + (nar .byte xv))).toInt % 64).toNat)), .val (.ref (f73 ((((31 : Int32) + (nar .byte yv))).toInt % 64).toNat))] [(.ref (f73 ((((31 : Int32) + (nar .byte xv))).toInt % 64).toNat))])) _
      refine XS.ifnullNo X102.here hx rfl (hb hby at_190) rfl ?_
      show Steps p.tables e below (T102.setTop (mkF m 193 #[.val (.int p0), .val (.int p1), .val (.int p2), .val (.int p3), .val (.int (0 : Int32)), .val (.ref b3), .val (.ref b5), .val (.int xv), .val (.int yv), .val (.ref b15), .val (.ref b23), .val (.ref b56), .val (.ref (f73 (((1 : Int32)).toInt % 64).toNat)), .val (.ref (f73 (((1 : Int32)).toInt % 64).toNat)), .val (.ref (f73 (((1 : Int32)).toInt % 64).toNat)), .val (.ref (f73 ((((31 : Int32) + (nar .byte xv))).toInt % 64).toNat)), .val (.ref (f73 ((((31 : Int32) + (nar .byte yv))).toInt % 64).toNat))] [])) _
      refine XS.aload X102.here hx rfl (hb hby at_193) rfl rfl ?_
      show Steps p.tables e below (T102.setTop (mkF m 195 #[.val (.int p0), .val (.int p1), .val (.int p2), .val (.int p3), .val (.int (0 : Int32)), .val (.ref b3), .val (.ref b5), .val (.int xv), .val (.int yv), .val (.ref b15), .val (.ref b23), .val (.ref b56), .val (.ref (f73 (((1 : Int32)).toInt % 64).toNat)), .val (.ref (f73 (((1 : Int32)).toInt % 64).toNat)), .val (.ref (f73 (((1 : Int32)).toInt % 64).toNat)), .val (.ref (f73 ((((31 : Int32) + (nar .byte xv))).toInt % 64).toNat)), .val (.ref (f73 ((((31 : Int32) + (nar .byte yv))).toInt % 64).toNat))] [(.ref (f73 ((((31 : Int32) + (nar .byte yv))).toInt % 64).toNat))])) _
      refine XS.ifnullNo X102.here hx rfl (hb hby at_195) rfl ?_
      show Steps p.tables e below (T102.setTop (mkF m 198 #[.val (.int p0), .val (.int p1), .val (.int p2), .val (.int p3), .val (.int (0 : Int32)), .val (.ref b3), .val (.ref b5), .val (.int xv), .val (.int yv), .val (.ref b15), .val (.ref b23), .val (.ref b56), .val (.ref (f73 (((1 : Int32)).toInt % 64).toNat)), .val (.ref (f73 (((1 : Int32)).toInt % 64).toNat)), .val (.ref (f73 (((1 : Int32)).toInt % 64).toNat)), .val (.ref (f73 ((((31 : Int32) + (nar .byte xv))).toInt % 64).toNat)), .val (.ref (f73 ((((31 : Int32) + (nar .byte yv))).toInt % 64).toNat))] [])) _
      refine XS.aload X102.here hx rfl (hb hby at_198) rfl rfl ?_
      show Steps p.tables e below (T102.setTop (mkF m 200 #[.val (.int p0), .val (.int p1), .val (.int p2), .val (.int p3), .val (.int (0 : Int32)), .val (.ref b3), .val (.ref b5), .val (.int xv), .val (.int yv), .val (.ref b15), .val (.ref b23), .val (.ref b56), .val (.ref (f73 (((1 : Int32)).toInt % 64).toNat)), .val (.ref (f73 (((1 : Int32)).toInt % 64).toNat)), .val (.ref (f73 (((1 : Int32)).toInt % 64).toNat)), .val (.ref (f73 ((((31 : Int32) + (nar .byte xv))).toInt % 64).toNat)), .val (.ref (f73 ((((31 : Int32) + (nar .byte yv))).toInt % 64).toNat))] [(.ref (f73 ((((31 : Int32) + (nar .byte xv))).toInt % 64).toNat))])) _
      refine XS.aload X102.here hx rfl (hb hby at_200) rfl rfl ?_
      show Steps p.tables e below (T102.setTop (mkF m 202 #[.val (.int p0), .val (.int p1), .val (.int p2), .val (.int p3), .val (.int (0 : Int32)), .val (.ref b3), .val (.ref b5), .val (.int xv), .val (.int yv), .val (.ref b15), .val (.ref b23), .val (.ref b56), .val (.ref (f73 (((1 : Int32)).toInt % 64).toNat)), .val (.ref (f73 (((1 : Int32)).toInt % 64).toNat)), .val (.ref (f73 (((1 : Int32)).toInt % 64).toNat)), .val (.ref (f73 ((((31 : Int32) + (nar .byte xv))).toInt % 64).toNat)), .val (.ref (f73 ((((31 : Int32) + (nar .byte yv))).toInt % 64).toNat))] [(.ref (f73 ((((31 : Int32) + (nar .byte yv))).toInt % 64).toNat)), (.ref (f73 ((((31 : Int32) + (nar .byte xv))).toInt % 64).toNat))])) _
      refine Jvm.RoadKit.acmp (g := (mkF m 202 #[.val (.int p0), .val (.int p1), .val (.int p2), .val (.int p3), .val (.int (0 : Int32)), .val (.ref b3), .val (.ref b5), .val (.int xv), .val (.int yv), .val (.ref b15), .val (.ref b23), .val (.ref b56), .val (.ref (f73 (((1 : Int32)).toInt % 64).toNat)), .val (.ref (f73 (((1 : Int32)).toInt % 64).toNat)), .val (.ref (f73 (((1 : Int32)).toInt % 64).toNat)), .val (.ref (f73 ((((31 : Int32) + (nar .byte xv))).toInt % 64).toNat)), .val (.ref (f73 ((((31 : Int32) + (nar .byte yv))).toInt % 64).toNat))] [(.ref (f73 ((((31 : Int32) + (nar .byte yv))).toInt % 64).toNat)), (.ref (f73 ((((31 : Int32) + (nar .byte xv))).toInt % 64).toNat))])) X102 hx rfl rfl rfl (pc0 := 202) (pc' := 205) (same := false) rfl (hb hby at_202) rfl (decide_eq_false fun q => ha202_104 (Value.ref.inj q)) (by decide) (by decide) ?_
      show Steps p.tables e below (T102.setTop (mkF m 205 #[.val (.int p0), .val (.int p1), .val (.int p2), .val (.int p3), .val (.int (0 : Int32)), .val (.ref b3), .val (.ref b5), .val (.int xv), .val (.int yv), .val (.ref b15), .val (.ref b23), .val (.ref b56), .val (.ref (f73 (((1 : Int32)).toInt % 64).toNat)), .val (.ref (f73 (((1 : Int32)).toInt % 64).toNat)), .val (.ref (f73 (((1 : Int32)).toInt % 64).toNat)), .val (.ref (f73 ((((31 : Int32) + (nar .byte xv))).toInt % 64).toNat)), .val (.ref (f73 ((((31 : Int32) + (nar .byte yv))).toInt % 64).toNat))] [])) _
      refine XS.iconst X102.here hx rfl (hb hby at_205) ?_
      show Steps p.tables e below (T102.setTop (mkF m 206 #[.val (.int p0), .val (.int p1), .val (.int p2), .val (.int p3), .val (.int (0 : Int32)), .val (.ref b3), .val (.ref b5), .val (.int xv), .val (.int yv), .val (.ref b15), .val (.ref b23), .val (.ref b56), .val (.ref (f73 (((1 : Int32)).toInt % 64).toNat)), .val (.ref (f73 (((1 : Int32)).toInt % 64).toNat)), .val (.ref (f73 (((1 : Int32)).toInt % 64).toNat)), .val (.ref (f73 ((((31 : Int32) + (nar .byte xv))).toInt % 64).toNat)), .val (.ref (f73 ((((31 : Int32) + (nar .byte yv))).toInt % 64).toNat))] [(.int (1 : Int32))])) _
      refine XS.goto X102.here hx rfl (pc0 := 206) (pc' := 210) rfl (hb hby at_206) (by decide) (by decide) ?_
      show Steps p.tables e below (T102.setTop (mkF m 210 #[.val (.int p0), .val (.int p1), .val (.int p2), .val (.int p3), .val (.int (0 : Int32)), .val (.ref b3), .val (.ref b5), .val (.int xv), .val (.int yv), .val (.ref b15), .val (.ref b23), .val (.ref b56), .val (.ref (f73 (((1 : Int32)).toInt % 64).toNat)), .val (.ref (f73 (((1 : Int32)).toInt % 64).toNat)), .val (.ref (f73 (((1 : Int32)).toInt % 64).toNat)), .val (.ref (f73 ((((31 : Int32) + (nar .byte xv))).toInt % 64).toNat)), .val (.ref (f73 ((((31 : Int32) + (nar .byte yv))).toInt % 64).toNat))] [(.int (1 : Int32))])) _
      exact retN X102 hx (t := .boolean) Bd.returns (by simp) (hb hby at_210) hr
    · show Q0 Z p0 p1 p2 p3 h0 n0 _ T102.heap _
      rw [R103]
      exact ⟨rfl, N102⟩
  · obtain ⟨T105, h105, k105, X105, e105, E105, A105, Y105, st105⟩ := newPE X0 hx hZ (hw _ (List.mem_of_getElem? (i := 0) rfl)) e0 (g := (mkF m 7 #[.val (.int p0), .val (.int p1), .val (.int p2), .val (.int p3), .val (.int (1 : Int32)), .unset, .unset, .unset, .unset, .unset, .unset, .unset, .unset, .unset, .unset, .unset, .unset] [(.int (1 : Int32))])) rfl (hb hby at_7) rfl (by decide) (cap := 1) (by decide) (by decide) (by decide) (by decide) (ad := "[B") (by decide)
    obtain ⟨b105, g105⟩ : ∃ z, z = h0.size := ⟨_, rfl⟩
    rw [← g105] at A105 st105 Y105
    have g_b105 : n0 ≤ b105 := Nat.le_trans Z0 (Nat.le_of_eq g105.symm)
    have Z106 : n0 ≤ h105.size := Nat.le_trans Z0 E105.1
    have V105 : Arv Z h105 b105 k105 .byte (1 : Int32) [(.int (0 : Int32))] (.int (0 : Int32)) := (Arv.new A105 (by decide)).pad (pad_rep [] (.int (0 : Int32)) 1)
    obtain ⟨T107, h107, k107, X107, e107, E107, A107, Y107, st107⟩ := newPE X105 hx hZ (hw _ (List.mem_of_getElem? (i := 0) rfl)) e105 (g := (mkF m 13 #[.val (.int p0), .val (.int p1), .val (.int p2), .val (.int p3), .val (.int (1 : Int32)), .val (.ref b105), .unset, .unset, .unset, .unset, .unset, .unset, .unset, .unset, .unset, .unset, .unset] [(.int (1 : Int32))])) rfl (hb hby at_13) rfl (by decide) (cap := 1) (by decide) (by decide) (by decide) (by decide) (ad := "[B") (by decide)
    obtain ⟨b107, g107⟩ : ∃ z, z = h105.size := ⟨_, rfl⟩
    rw [← g107] at A107 st107 Y107
    have ne108 : b105 ≠ b107 := Nat.ne_of_lt (Nat.lt_of_lt_of_le Y105.lt (Nat.le_of_eq g107.symm))
    have g_b107 : n0 ≤ b107 := Nat.le_trans Z106 (Nat.le_of_eq g107.symm)
    have F109 : Exa Z h107 b105 "[B" := Y105.ext E107
    have F110 : Arv Z h107 b105 k105 .byte (1 : Int32) [(.int (0 : Int32))] (.int (0 : Int32)) := V105.ext E107
    have Z111 : n0 ≤ h107.size := Nat.le_trans Z106 E107.1
    have V107 : Arv Z h107 b107 k107 .byte (1 : Int32) [(.int (0 : Int32))] (.int (0 : Int32)) := (Arv.new A107 (by decide)).pad (pad_rep [] (.int (0 : Int32)) 1)
    obtain ⟨co112, Ao112, qo112, So112, Mo112, Bo112, Go112⟩ := id F110
    obtain ⟨T113, h113, X113, e113, W113, st113⟩ := stB X107 hx hZ e107 Ao112 (j := (0 : Int32)) (inb_of So112 ⟨(by decide), (by decide)⟩) (g := (mkF m 27 #[.val (.int p0), .val (.int p1), .val (.int p2), .val (.int p3), .val (.int (1 : Int32)), .val (.ref b105), .val (.ref b107), .unset, .unset, .unset, .unset, .unset, .unset, .unset, .unset, .unset, .unset] [(.int (p0.toInt8.toInt32)), (.int (0 : Int32)), (.ref b105)])) rfl rfl (hb hby at_27)
    have V113 : Arv Z h113 b105 k105 .byte (1 : Int32) [(.int (nar .byte (p0.toInt8.toInt32)))] (.int (0 : Int32)) := Arv.set Ao112 qo112 So112 Mo112 Bo112 Go112 (fits_nar_byte _) W113 0 rfl (Nat.le_of_ble_eq_true rfl)
    have F114 : Exa Z h113 b105 "[B" := F109.wr W113
    have F115 : Exa Z h113 b107 "[B" := Y107.wr W113
    have F116 : Arv Z h113 b107 k107 .byte (1 : Int32) [(.int (0 : Int32))] (.int (0 : Int32)) := V107.other W113 (Ne.symm ne108)
    have Z117 : n0 ≤ h113.size := Nat.le_trans Z111 (Keep.of_wr W113).1
    have N118 := Fr.snoc X113 N0 g_b105
    obtain ⟨co119, Ao119, qo119, So119, Mo119, Bo119, Go119⟩ := id F116
    obtain ⟨T120, h120, X120, e120, W120, st120⟩ := stB X113 hx hZ e113 Ao119 (j := (0 : Int32)) (inb_of So119 ⟨(by decide), (by decide)⟩) (g := (mkF m 33 #[.val (.int p0), .val (.int p1), .val (.int p2), .val (.int p3), .val (.int (1 : Int32)), .val (.ref b105), .val (.ref b107), .unset, .unset, .unset, .unset, .unset, .unset, .unset, .unset, .unset, .unset] [(.int (p0.toInt8.toInt32)), (.int (0 : Int32)), (.ref b107)])) rfl rfl (hb hby at_33)
    have V120 : Arv Z h120 b107 k107 .byte (1 : Int32) [(.int (nar .byte (p0.toInt8.toInt32)))] (.int (0 : Int32)) := Arv.set Ao119 qo119 So119 Mo119 Bo119 Go119 (fits_nar_byte _) W120 0 rfl (Nat.le_of_ble_eq_true rfl)
    have F121 : Exa Z h120 b105 "[B" := F114.wr W120
    have F122 : Exa Z h120 b107 "[B" := F115.wr W120
    have F123 : Arv Z h120 b105 k105 .byte (1 : Int32) [(.int (nar .byte (p0.toInt8.toInt32)))] (.int (0 : Int32)) := V113.other W120 ne108
    have Z124 : n0 ≤ h120.size := Nat.le_trans Z117 (Keep.of_wr W120).1
    have N125 := Fr.snoc X120 N118 g_b107
    have P126 : ∀ t, Steps p.tables e below (T120.setTop (mkF m 74 #[.val (.int p0), .val (.int p1), .val (.int p2), .val (.int p3), .val (.int (1 : Int32)), .val (.ref b105), .val (.ref b107), .val (.int (p0.toInt8.toInt32)), .unset, .unset, .unset, .unset, .unset, .unset, .unset, .unset, .unset] [])) t → Steps p.tables e below (s₁.setTop (entryFrame m #[(.int p0), (.int p1), (.int p2), (.int p3)] maxLocals)) t := by
      intro t k
      refine P2 t ?_
      show Steps p.tables e below (s₁.setTop (mkF m 5 #[.val (.int p0), .val (.int p1), .val (.int p2), .val (.int p3), .val (.int (1 : Int32)), .unset, .unset, .unset, .unset, .unset, .unset, .unset, .unset, .unset, .unset, .unset, .unset] [])) _
      refine XS.iload X0.here hx rfl (hb hby at_5) rfl ?_
      show Steps p.tables e below (s₁.setTop (mkF m 7 #[.val (.int p0), .val (.int p1), .val (.int p2), .val (.int p3), .val (.int (1 : Int32)), .unset, .unset, .unset, .unset, .unset, .unset, .unset, .unset, .unset, .unset, .unset, .unset] [(.int (1 : Int32))])) _
      refine st105 _ ?_
      show Steps p.tables e below (T105.setTop (mkF m 9 #[.val (.int p0), .val (.int p1), .val (.int p2), .val (.int p3), .val (.int (1 : Int32)), .unset, .unset, .unset, .unset, .unset, .unset, .unset, .unset, .unset, .unset, .unset, .unset] [(.ref b105)])) _
      refine XS.astore X105.here hx rfl (hb hby at_9) rfl rfl (l' := #[.val (.int p0), .val (.int p1), .val (.int p2), .val (.int p3), .val (.int (1 : Int32)), .val (.ref b105), .unset, .unset, .unset, .unset, .unset, .unset, .unset, .unset, .unset, .unset, .unset]) rfl ?_
      show Steps p.tables e below (T105.setTop (mkF m 11 #[.val (.int p0), .val (.int p1), .val (.int p2), .val (.int p3), .val (.int (1 : Int32)), .val (.ref b105), .unset, .unset, .unset, .unset, .unset, .unset, .unset, .unset, .unset, .unset, .unset] [])) _
      refine XS.iload X105.here hx rfl (hb hby at_11) rfl ?_
      show Steps p.tables e below (T105.setTop (mkF m 13 #[.val (.int p0), .val (.int p1), .val (.int p2), .val (.int p3), .val (.int (1 : Int32)), .val (.ref b105), .unset, .unset, .unset, .unset, .unset, .unset, .unset, .unset, .unset, .unset, .unset] [(.int (1 : Int32))])) _
      refine st107 _ ?_
      show Steps p.tables e below (T107.setTop (mkF m 15 #[.val (.int p0), .val (.int p1), .val (.int p2), .val (.int p3), .val (.int (1 : Int32)), .val (.ref b105), .unset, .unset, .unset, .unset, .unset, .unset, .unset, .unset, .unset, .unset, .unset] [(.ref b107)])) _
      refine XS.astore X107.here hx rfl (hb hby at_15) rfl rfl (l' := #[.val (.int p0), .val (.int p1), .val (.int p2), .val (.int p3), .val (.int (1 : Int32)), .val (.ref b105), .val (.ref b107), .unset, .unset, .unset, .unset, .unset, .unset, .unset, .unset, .unset, .unset]) rfl ?_
      show Steps p.tables e below (T107.setTop (mkF m 17 #[.val (.int p0), .val (.int p1), .val (.int p2), .val (.int p3), .val (.int (1 : Int32)), .val (.ref b105), .val (.ref b107), .unset, .unset, .unset, .unset, .unset, .unset, .unset, .unset, .unset, .unset] [])) _
      refine XS.iload X107.here hx rfl (hb hby at_17) rfl ?_
      show Steps p.tables e below (T107.setTop (mkF m 19 #[.val (.int p0), .val (.int p1), .val (.int p2), .val (.int p3), .val (.int (1 : Int32)), .val (.ref b105), .val (.ref b107), .unset, .unset, .unset, .unset, .unset, .unset, .unset, .unset, .unset, .unset] [(.int (1 : Int32))])) _
      refine XS.ifNo X107.here hx rfl (hb hby at_19) rfl ((if0 _ _).trans (tlt (by decide : (0 : Int32) < (1 : Int32))).2.2.2) ?_
      show Steps p.tables e below (T107.setTop (mkF m 22 #[.val (.int p0), .val (.int p1), .val (.int p2), .val (.int p3), .val (.int (1 : Int32)), .val (.ref b105), .val (.ref b107), .unset, .unset, .unset, .unset, .unset, .unset, .unset, .unset, .unset, .unset] [])) _
      refine XS.aload X107.here hx rfl (hb hby at_22) rfl rfl ?_
      show Steps p.tables e below (T107.setTop (mkF m 24 #[.val (.int p0), .val (.int p1), .val (.int p2), .val (.int p3), .val (.int (1 : Int32)), .val (.ref b105), .val (.ref b107), .unset, .unset, .unset, .unset, .unset, .unset, .unset, .unset, .unset, .unset] [(.ref b105)])) _
      refine XS.iconst X107.here hx rfl (hb hby at_24) ?_
      show Steps p.tables e below (T107.setTop (mkF m 25 #[.val (.int p0), .val (.int p1), .val (.int p2), .val (.int p3), .val (.int (1 : Int32)), .val (.ref b105), .val (.ref b107), .unset, .unset, .unset, .unset, .unset, .unset, .unset, .unset, .unset, .unset] [(.int (0 : Int32)), (.ref b105)])) _
      refine XS.iloadN X107.here hx rfl (hb hby at_25) rfl ?_
      show Steps p.tables e below (T107.setTop (mkF m 26 #[.val (.int p0), .val (.int p1), .val (.int p2), .val (.int p3), .val (.int (1 : Int32)), .val (.ref b105), .val (.ref b107), .unset, .unset, .unset, .unset, .unset, .unset, .unset, .unset, .unset, .unset] [(.int p0), (.int (0 : Int32)), (.ref b105)])) _
      refine XS.i2b X107.here hx rfl (hb hby at_26) rfl ?_
      show Steps p.tables e below (T107.setTop (mkF m 27 #[.val (.int p0), .val (.int p1), .val (.int p2), .val (.int p3), .val (.int (1 : Int32)), .val (.ref b105), .val (.ref b107), .unset, .unset, .unset, .unset, .unset, .unset, .unset, .unset, .unset, .unset] [(.int (p0.toInt8.toInt32)), (.int (0 : Int32)), (.ref b105)])) _
      refine st113 _ ?_
      show Steps p.tables e below (T113.setTop (mkF m 28 #[.val (.int p0), .val (.int p1), .val (.int p2), .val (.int p3), .val (.int (1 : Int32)), .val (.ref b105), .val (.ref b107), .unset, .unset, .unset, .unset, .unset, .unset, .unset, .unset, .unset, .unset] [])) _
      refine XS.aload X113.here hx rfl (hb hby at_28) rfl rfl ?_
      show Steps p.tables e below (T113.setTop (mkF m 30 #[.val (.int p0), .val (.int p1), .val (.int p2), .val (.int p3), .val (.int (1 : Int32)), .val (.ref b105), .val (.ref b107), .unset, .unset, .unset, .unset, .unset, .unset, .unset, .unset, .unset, .unset] [(.ref b107)])) _
      refine XS.iconst X113.here hx rfl (hb hby at_30) ?_
      show Steps p.tables e below (T113.setTop (mkF m 31 #[.val (.int p0), .val (.int p1), .val (.int p2), .val (.int p3), .val (.int (1 : Int32)), .val (.ref b105), .val (.ref b107), .unset, .unset, .unset, .unset, .unset, .unset, .unset, .unset, .unset, .unset] [(.int (0 : Int32)), (.ref b107)])) _
      refine XS.iloadN X113.here hx rfl (hb hby at_31) rfl ?_
      show Steps p.tables e below (T113.setTop (mkF m 32 #[.val (.int p0), .val (.int p1), .val (.int p2), .val (.int p3), .val (.int (1 : Int32)), .val (.ref b105), .val (.ref b107), .unset, .unset, .unset, .unset, .unset, .unset, .unset, .unset, .unset, .unset] [(.int p0), (.int (0 : Int32)), (.ref b107)])) _
      refine XS.i2b X113.here hx rfl (hb hby at_32) rfl ?_
      show Steps p.tables e below (T113.setTop (mkF m 33 #[.val (.int p0), .val (.int p1), .val (.int p2), .val (.int p3), .val (.int (1 : Int32)), .val (.ref b105), .val (.ref b107), .unset, .unset, .unset, .unset, .unset, .unset, .unset, .unset, .unset, .unset] [(.int (p0.toInt8.toInt32)), (.int (0 : Int32)), (.ref b107)])) _
      refine st120 _ ?_
      show Steps p.tables e below (T120.setTop (mkF m 34 #[.val (.int p0), .val (.int p1), .val (.int p2), .val (.int p3), .val (.int (1 : Int32)), .val (.ref b105), .val (.ref b107), .unset, .unset, .unset, .unset, .unset, .unset, .unset, .unset, .unset, .unset] [])) _
      refine XS.iload X120.here hx rfl (hb hby at_34) rfl ?_
      show Steps p.tables e below (T120.setTop (mkF m 36 #[.val (.int p0), .val (.int p1), .val (.int p2), .val (.int p3), .val (.int (1 : Int32)), .val (.ref b105), .val (.ref b107), .unset, .unset, .unset, .unset, .unset, .unset, .unset, .unset, .unset, .unset] [(.int (1 : Int32))])) _
      refine XS.iconst X120.here hx rfl (hb hby at_36) ?_
      show Steps p.tables e below (T120.setTop (mkF m 37 #[.val (.int p0), .val (.int p1), .val (.int p2), .val (.int p3), .val (.int (1 : Int32)), .val (.ref b105), .val (.ref b107), .unset, .unset, .unset, .unset, .unset, .unset, .unset, .unset, .unset, .unset] [(.int (1 : Int32)), (.int (1 : Int32))])) _
      refine XS.icmpYes X120.here hx rfl (pc0 := 37) (pc' := 52) rfl (hb hby at_37) rfl (flt (by decide : ¬ ((1 : Int32) < (1 : Int32)))).2.2.2 (by decide) (by decide) ?_
      show Steps p.tables e below (T120.setTop (mkF m 52 #[.val (.int p0), .val (.int p1), .val (.int p2), .val (.int p3), .val (.int (1 : Int32)), .val (.ref b105), .val (.ref b107), .unset, .unset, .unset, .unset, .unset, .unset, .unset, .unset, .unset, .unset] [])) _
      refine XS.iload X120.here hx rfl (hb hby at_52) rfl ?_
      show Steps p.tables e below (T120.setTop (mkF m 54 #[.val (.int p0), .val (.int p1), .val (.int p2), .val (.int p3), .val (.int (1 : Int32)), .val (.ref b105), .val (.ref b107), .unset, .unset, .unset, .unset, .unset, .unset, .unset, .unset, .unset, .unset] [(.int (1 : Int32))])) _
      refine XS.iconst X120.here hx rfl (hb hby at_54) ?_
      show Steps p.tables e below (T120.setTop (mkF m 55 #[.val (.int p0), .val (.int p1), .val (.int p2), .val (.int p3), .val (.int (1 : Int32)), .val (.ref b105), .val (.ref b107), .unset, .unset, .unset, .unset, .unset, .unset, .unset, .unset, .unset, .unset] [(.int (2 : Int32)), (.int (1 : Int32))])) _
      refine XS.icmpYes X120.here hx rfl (pc0 := 55) (pc' := 70) rfl (hb hby at_55) rfl (flt (by decide : ¬ ((2 : Int32) < (1 : Int32)))).2.2.2 (by decide) (by decide) ?_
      show Steps p.tables e below (T120.setTop (mkF m 70 #[.val (.int p0), .val (.int p1), .val (.int p2), .val (.int p3), .val (.int (1 : Int32)), .val (.ref b105), .val (.ref b107), .unset, .unset, .unset, .unset, .unset, .unset, .unset, .unset, .unset, .unset] [])) _
      refine XS.iloadN X120.here hx rfl (hb hby at_70) rfl ?_
      show Steps p.tables e below (T120.setTop (mkF m 71 #[.val (.int p0), .val (.int p1), .val (.int p2), .val (.int p3), .val (.int (1 : Int32)), .val (.ref b105), .val (.ref b107), .unset, .unset, .unset, .unset, .unset, .unset, .unset, .unset, .unset, .unset] [(.int p0)])) _
      refine XS.i2b X120.here hx rfl (hb hby at_71) rfl ?_
      show Steps p.tables e below (T120.setTop (mkF m 72 #[.val (.int p0), .val (.int p1), .val (.int p2), .val (.int p3), .val (.int (1 : Int32)), .val (.ref b105), .val (.ref b107), .unset, .unset, .unset, .unset, .unset, .unset, .unset, .unset, .unset, .unset] [(.int (p0.toInt8.toInt32))])) _
      refine XS.istore X120.here hx rfl (hb hby at_72) rfl (l' := #[.val (.int p0), .val (.int p1), .val (.int p2), .val (.int p3), .val (.int (1 : Int32)), .val (.ref b105), .val (.ref b107), .val (.int (p0.toInt8.toInt32)), .unset, .unset, .unset, .unset, .unset, .unset, .unset, .unset, .unset]) rfl ?_
      exact k
    obtain ⟨xv, hxv⟩ : ∃ z : Int32, z = (p0.toInt8.toInt32) := ⟨_, rfl⟩
    have P127 : ∀ t, Steps p.tables e below (T120.setTop (mkF m 74 #[.val (.int p0), .val (.int p1), .val (.int p2), .val (.int p3), .val (.int (1 : Int32)), .val (.ref b105), .val (.ref b107), .val (.int xv), .unset, .unset, .unset, .unset, .unset, .unset, .unset, .unset, .unset] [])) t → Steps p.tables e below (s₁.setTop (entryFrame m #[(.int p0), (.int p1), (.int p2), (.int p3)] maxLocals)) t := by rw [hxv]; exact P126
    have P128 : ∀ t, Steps p.tables e below (T120.setTop (mkF m 78 #[.val (.int p0), .val (.int p1), .val (.int p2), .val (.int p3), .val (.int (1 : Int32)), .val (.ref b105), .val (.ref b107), .val (.int xv), .unset, .unset, .unset, .unset, .unset, .unset, .unset, .unset, .unset] [(.int (127 : Int32)), (.int xv)])) t → Steps p.tables e below (s₁.setTop (entryFrame m #[(.int p0), (.int p1), (.int p2), (.int p3)] maxLocals)) t := by
      intro t k
      refine P127 t ?_
      show Steps p.tables e below (T120.setTop (mkF m 74 #[.val (.int p0), .val (.int p1), .val (.int p2), .val (.int p3), .val (.int (1 : Int32)), .val (.ref b105), .val (.ref b107), .val (.int xv), .unset, .unset, .unset, .unset, .unset, .unset, .unset, .unset, .unset] [])) _
      refine XS.iload X120.here hx rfl (hb hby at_74) rfl ?_
      show Steps p.tables e below (T120.setTop (mkF m 76 #[.val (.int p0), .val (.int p1), .val (.int p2), .val (.int p3), .val (.int (1 : Int32)), .val (.ref b105), .val (.ref b107), .val (.int xv), .unset, .unset, .unset, .unset, .unset, .unset, .unset, .unset, .unset] [(.int xv)])) _
      refine XS.bipush X120.here hx rfl (hb hby at_76) ?_
      exact k
    obtain ⟨yv, hm129, P130⟩ : ∃ (yv : Int32), ((xv = (127 : Int32) ∧ yv = (126 : Int32)) ∨ (¬ (xv = (127 : Int32)) ∧ yv = ((xv + (1 : Int32)).toInt8.toInt32))) ∧ ∀ t, Steps p.tables e below (T120.setTop (mkF m 91 #[.val (.int p0), .val (.int p1), .val (.int p2), .val (.int p3), .val (.int (1 : Int32)), .val (.ref b105), .val (.ref b107), .val (.int xv), .unset, .unset, .unset, .unset, .unset, .unset, .unset, .unset, .unset] [(.int yv)])) t → Steps p.tables e below (s₁.setTop (entryFrame m #[(.int p0), (.int p1), (.int p2), (.int p3)] maxLocals)) t := by
      by_cases hd78_0 : xv = (127 : Int32)
      ·
        refine ⟨(126 : Int32), Or.inl ⟨hd78_0, rfl⟩, fun t k => ?_⟩
        refine P128 t ?_
        show Steps p.tables e below (T120.setTop (mkF m 78 #[.val (.int p0), .val (.int p1), .val (.int p2), .val (.int p3), .val (.int (1 : Int32)), .val (.ref b105), .val (.ref b107), .val (.int xv), .unset, .unset, .unset, .unset, .unset, .unset, .unset, .unset, .unset] [(.int (127 : Int32)), (.int xv)])) _
        refine XS.icmpNo X120.here hx rfl (hb hby at_78) rfl (teq hd78_0).2 ?_
        show Steps p.tables e below (T120.setTop (mkF m 81 #[.val (.int p0), .val (.int p1), .val (.int p2), .val (.int p3), .val (.int (1 : Int32)), .val (.ref b105), .val (.ref b107), .val (.int xv), .unset, .unset, .unset, .unset, .unset, .unset, .unset, .unset, .unset] [])) _
        refine XS.bipush X120.here hx rfl (hb hby at_81) ?_
        show Steps p.tables e below (T120.setTop (mkF m 83 #[.val (.int p0), .val (.int p1), .val (.int p2), .val (.int p3), .val (.int (1 : Int32)), .val (.ref b105), .val (.ref b107), .val (.int xv), .unset, .unset, .unset, .unset, .unset, .unset, .unset, .unset, .unset] [(.int (126 : Int32))])) _
        refine XS.goto X120.here hx rfl (pc0 := 83) (pc' := 91) rfl (hb hby at_83) (by decide) (by decide) ?_
        exact k
      ·
        refine ⟨((xv + (1 : Int32)).toInt8.toInt32), Or.inr (⟨hd78_0, rfl⟩), fun t k => ?_⟩
        refine P128 t ?_
        show Steps p.tables e below (T120.setTop (mkF m 78 #[.val (.int p0), .val (.int p1), .val (.int p2), .val (.int p3), .val (.int (1 : Int32)), .val (.ref b105), .val (.ref b107), .val (.int xv), .unset, .unset, .unset, .unset, .unset, .unset, .unset, .unset, .unset] [(.int (127 : Int32)), (.int xv)])) _
        refine XS.icmpYes X120.here hx rfl (pc0 := 78) (pc' := 86) rfl (hb hby at_78) rfl (feq hd78_0).2 (by decide) (by decide) ?_
        show Steps p.tables e below (T120.setTop (mkF m 86 #[.val (.int p0), .val (.int p1), .val (.int p2), .val (.int p3), .val (.int (1 : Int32)), .val (.ref b105), .val (.ref b107), .val (.int xv), .unset, .unset, .unset, .unset, .unset, .unset, .unset, .unset, .unset] [])) _
        refine XS.iload X120.here hx rfl (hb hby at_86) rfl ?_
        show Steps p.tables e below (T120.setTop (mkF m 88 #[.val (.int p0), .val (.int p1), .val (.int p2), .val (.int p3), .val (.int (1 : Int32)), .val (.ref b105), .val (.ref b107), .val (.int xv), .unset, .unset, .unset, .unset, .unset, .unset, .unset, .unset, .unset] [(.int xv)])) _
        refine XS.iconst X120.here hx rfl (hb hby at_88) ?_
        show Steps p.tables e below (T120.setTop (mkF m 89 #[.val (.int p0), .val (.int p1), .val (.int p2), .val (.int p3), .val (.int (1 : Int32)), .val (.ref b105), .val (.ref b107), .val (.int xv), .unset, .unset, .unset, .unset, .unset, .unset, .unset, .unset, .unset] [(.int (1 : Int32)), (.int xv)])) _
        refine XS.iadd X120.here hx rfl (hb hby at_89) rfl ?_
        show Steps p.tables e below (T120.setTop (mkF m 90 #[.val (.int p0), .val (.int p1), .val (.int p2), .val (.int p3), .val (.int (1 : Int32)), .val (.ref b105), .val (.ref b107), .val (.int xv), .unset, .unset, .unset, .unset, .unset, .unset, .unset, .unset, .unset] [(.int (xv + (1 : Int32)))])) _
        refine XS.i2b X120.here hx rfl (hb hby at_90) rfl ?_
        exact k
    obtain ⟨T131, h131, k131, X131, e131, E131, A131, Y131, st131⟩ := newPE X120 hx hZ (hw _ (List.mem_of_getElem? (i := 0) rfl)) e120 (g := (mkF m 94 #[.val (.int p0), .val (.int p1), .val (.int p2), .val (.int p3), .val (.int (1 : Int32)), .val (.ref b105), .val (.ref b107), .val (.int xv), .val (.int yv), .unset, .unset, .unset, .unset, .unset, .unset, .unset, .unset] [(.int (1 : Int32))])) rfl (hb hby at_94) rfl (by decide) (cap := 1) (by decide) (by decide) (by decide) (by decide) (ad := "[B") (by decide)
    obtain ⟨b131, g131⟩ : ∃ z, z = h120.size := ⟨_, rfl⟩
    rw [← g131] at A131 st131 Y131
    have ne132 : b105 ≠ b131 := Nat.ne_of_lt (Nat.lt_of_lt_of_le F121.lt (Nat.le_of_eq g131.symm))
    have ne133 : b107 ≠ b131 := Nat.ne_of_lt (Nat.lt_of_lt_of_le F122.lt (Nat.le_of_eq g131.symm))
    have g_b131 : n0 ≤ b131 := Nat.le_trans Z124 (Nat.le_of_eq g131.symm)
    have F134 : Exa Z h131 b105 "[B" := F121.ext E131
    have F135 : Exa Z h131 b107 "[B" := F122.ext E131
    have F136 : Arv Z h131 b105 k105 .byte (1 : Int32) [(.int (nar .byte (p0.toInt8.toInt32)))] (.int (0 : Int32)) := F123.ext E131
    have F137 : Arv Z h131 b107 k107 .byte (1 : Int32) [(.int (nar .byte (p0.toInt8.toInt32)))] (.int (0 : Int32)) := V120.ext E131
    have Z138 : n0 ≤ h131.size := Nat.le_trans Z124 E131.1
    have V131 : Arv Z h131 b131 k131 .byte (1 : Int32) [(.int (0 : Int32))] (.int (0 : Int32)) := (Arv.new A131 (by decide)).pad (pad_rep [] (.int (0 : Int32)) 1)
    obtain ⟨T139, h139, k139, X139, e139, E139, A139, Y139, st139⟩ := newPE X131 hx hZ (hw _ (List.mem_of_getElem? (i := 0) rfl)) e131 (g := (mkF m 99 #[.val (.int p0), .val (.int p1), .val (.int p2), .val (.int p3), .val (.int (1 : Int32)), .val (.ref b105), .val (.ref b107), .val (.int xv), .val (.int yv), .val (.ref b131), .unset, .unset, .unset, .unset, .unset, .unset, .unset] [(.int (1 : Int32))])) rfl (hb hby at_99) rfl (by decide) (cap := 1) (by decide) (by decide) (by decide) (by decide) (ad := "[B") (by decide)
    obtain ⟨b139, g139⟩ : ∃ z, z = h131.size := ⟨_, rfl⟩
    rw [← g139] at A139 st139 Y139
    have ne140 : b105 ≠ b139 := Nat.ne_of_lt (Nat.lt_of_lt_of_le F134.lt (Nat.le_of_eq g139.symm))
    have ne141 : b107 ≠ b139 := Nat.ne_of_lt (Nat.lt_of_lt_of_le F135.lt (Nat.le_of_eq g139.symm))
    have ne142 : b131 ≠ b139 := Nat.ne_of_lt (Nat.lt_of_lt_of_le Y131.lt (Nat.le_of_eq g139.symm))
    have g_b139 : n0 ≤ b139 := Nat.le_trans Z138 (Nat.le_of_eq g139.symm)
    have F143 : Exa Z h139 b105 "[B" := F134.ext E139
    have F144 : Exa Z h139 b107 "[B" := F135.ext E139
    have F145 : Arv Z h139 b105 k105 .byte (1 : Int32) [(.int (nar .byte (p0.toInt8.toInt32)))] (.int (0 : Int32)) := F136.ext E139
    have F146 : Arv Z h139 b107 k107 .byte (1 : Int32) [(.int (nar .byte (p0.toInt8.toInt32)))] (.int (0 : Int32)) := F137.ext E139
    have F147 : Exa Z h139 b131 "[B" := Y131.ext E139
    have F148 : Arv Z h139 b131 k131 .byte (1 : Int32) [(.int (0 : Int32))] (.int (0 : Int32)) := V131.ext E139
    have Z149 : n0 ≤ h139.size := Nat.le_trans Z138 E139.1
    have V139 : Arv Z h139 b139 k139 .byte (1 : Int32) [(.int (0 : Int32))] (.int (0 : Int32)) := (Arv.new A139 (by decide)).pad (pad_rep [] (.int (0 : Int32)) 1)
    obtain ⟨co150, Ao150, qo150, So150, Mo150, Bo150, Go150⟩ := id F148
    obtain ⟨T151, h151, X151, e151, W151, st151⟩ := stB X139 hx hZ e139 Ao150 (j := (0 : Int32)) (inb_of So150 ⟨(by decide), (by decide)⟩) (g := (mkF m 108 #[.val (.int p0), .val (.int p1), .val (.int p2), .val (.int p3), .val (.int (1 : Int32)), .val (.ref b105), .val (.ref b107), .val (.int xv), .val (.int yv), .val (.ref b131), .val (.ref b139), .unset, .unset, .unset, .unset, .unset, .unset] [(.int xv), (.int (0 : Int32)), (.ref b131)])) rfl rfl (hb hby at_108)
    have V151 : Arv Z h151 b131 k131 .byte (1 : Int32) [(.int (nar .byte xv))] (.int (0 : Int32)) := Arv.set Ao150 qo150 So150 Mo150 Bo150 Go150 (fits_nar_byte _) W151 0 rfl (Nat.le_of_ble_eq_true rfl)
    have F152 : Exa Z h151 b105 "[B" := F143.wr W151
    have F153 : Exa Z h151 b107 "[B" := F144.wr W151
    have F154 : Arv Z h151 b105 k105 .byte (1 : Int32) [(.int (nar .byte (p0.toInt8.toInt32)))] (.int (0 : Int32)) := F145.other W151 ne132
    have F155 : Arv Z h151 b107 k107 .byte (1 : Int32) [(.int (nar .byte (p0.toInt8.toInt32)))] (.int (0 : Int32)) := F146.other W151 ne133
    have F156 : Exa Z h151 b131 "[B" := F147.wr W151
    have F157 : Exa Z h151 b139 "[B" := Y139.wr W151
    have F158 : Arv Z h151 b139 k139 .byte (1 : Int32) [(.int (0 : Int32))] (.int (0 : Int32)) := V139.other W151 (Ne.symm ne142)
    have Z159 : n0 ≤ h151.size := Nat.le_trans Z149 (Keep.of_wr W151).1
    have N160 := Fr.snoc X151 N125 g_b131
    obtain ⟨co161, Ao161, qo161, So161, Mo161, Bo161, Go161⟩ := id F158
    obtain ⟨T162, h162, X162, e162, W162, st162⟩ := stB X151 hx hZ e151 Ao161 (j := (0 : Int32)) (inb_of So161 ⟨(by decide), (by decide)⟩) (g := (mkF m 114 #[.val (.int p0), .val (.int p1), .val (.int p2), .val (.int p3), .val (.int (1 : Int32)), .val (.ref b105), .val (.ref b107), .val (.int xv), .val (.int yv), .val (.ref b131), .val (.ref b139), .unset, .unset, .unset, .unset, .unset, .unset] [(.int yv), (.int (0 : Int32)), (.ref b139)])) rfl rfl (hb hby at_114)
    have V162 : Arv Z h162 b139 k139 .byte (1 : Int32) [(.int (nar .byte yv))] (.int (0 : Int32)) := Arv.set Ao161 qo161 So161 Mo161 Bo161 Go161 (fits_nar_byte _) W162 0 rfl (Nat.le_of_ble_eq_true rfl)
    have F163 : Exa Z h162 b105 "[B" := F152.wr W162
    have F164 : Exa Z h162 b107 "[B" := F153.wr W162
    have F165 : Arv Z h162 b105 k105 .byte (1 : Int32) [(.int (nar .byte (p0.toInt8.toInt32)))] (.int (0 : Int32)) := F154.other W162 ne140
    have F166 : Arv Z h162 b107 k107 .byte (1 : Int32) [(.int (nar .byte (p0.toInt8.toInt32)))] (.int (0 : Int32)) := F155.other W162 ne141
    have F167 : Exa Z h162 b131 "[B" := F156.wr W162
    have F168 : Exa Z h162 b139 "[B" := F157.wr W162
    have F169 : Arv Z h162 b131 k131 .byte (1 : Int32) [(.int (nar .byte xv))] (.int (0 : Int32)) := V151.other W162 ne142
    have Z170 : n0 ≤ h162.size := Nat.le_trans Z159 (Keep.of_wr W162).1
    have N171 := Fr.snoc X162 N160 g_b139
    obtain ⟨T172, h172, X172, e172, E172, A172, D172, -, st172⟩ := newO X162 hx hZ hown (hw _ (List.mem_of_getElem? (i := 1) rfl)) (hw _ (List.mem_of_getElem? (i := 2) rfl)) (hw _ (List.mem_of_getElem? (i := 3) rfl)) e162 (g := (mkF m 115 #[.val (.int p0), .val (.int p1), .val (.int p2), .val (.int p3), .val (.int (1 : Int32)), .val (.ref b105), .val (.ref b107), .val (.int xv), .val (.int yv), .val (.ref b131), .val (.ref b139), .unset, .unset, .unset, .unset, .unset, .unset] [])) rfl (hb hby at_115) (by decide) (by decide)
    obtain ⟨b172, g172⟩ : ∃ z, z = h162.size := ⟨_, rfl⟩
    rw [← g172] at A172 D172 st172
    have ne173 : b105 ≠ b172 := Nat.ne_of_lt (Nat.lt_of_lt_of_le F163.lt (Nat.le_of_eq g172.symm))
    have ne174 : b107 ≠ b172 := Nat.ne_of_lt (Nat.lt_of_lt_of_le F164.lt (Nat.le_of_eq g172.symm))
    have ne175 : b131 ≠ b172 := Nat.ne_of_lt (Nat.lt_of_lt_of_le F167.lt (Nat.le_of_eq g172.symm))
    have ne176 : b139 ≠ b172 := Nat.ne_of_lt (Nat.lt_of_lt_of_le F168.lt (Nat.le_of_eq g172.symm))
    have g_b172 : n0 ≤ b172 := Nat.le_trans Z170 (Nat.le_of_eq g172.symm)
    have F177 : Exa Z h172 b105 "[B" := F163.ext E172
    have F178 : Exa Z h172 b107 "[B" := F164.ext E172
    have F179 : Arv Z h172 b105 k105 .byte (1 : Int32) [(.int (nar .byte (p0.toInt8.toInt32)))] (.int (0 : Int32)) := F165.ext E172
    have F180 : Arv Z h172 b107 k107 .byte (1 : Int32) [(.int (nar .byte (p0.toInt8.toInt32)))] (.int (0 : Int32)) := F166.ext E172
    have F181 : Exa Z h172 b131 "[B" := F167.ext E172
    have F182 : Exa Z h172 b139 "[B" := F168.ext E172
    have F183 : Arv Z h172 b131 k131 .byte (1 : Int32) [(.int (nar .byte xv))] (.int (0 : Int32)) := F169.ext E172
    have F184 : Arv Z h172 b139 k139 .byte (1 : Int32) [(.int (nar .byte yv))] (.int (0 : Int32)) := V162.ext E172
    have Z185 : n0 ≤ h172.size := Nat.le_trans Z170 E172.1
    have F186 : Fld Z h172 b172 "com/example/grant4/grant4/store/KeyLocks" "stripes" "[Ljava/lang/Object;" .null := D172 (Or.inr (hw _ (List.mem_of_getElem? (i := 13) rfl))) (ty := (.array (.object "java/lang/Object"))) (by decide)
    obtain ⟨_, _, ⟨T187, L187, k187, n187⟩, -, X187, ⟨Lc187, hQ187, l187, y187, z187⟩, st187⟩ := X172.specialBack hx (y := (⟨"com/example/grant4/grant4/store/KeyLocks", "<init>", "()V"⟩ : MethodName)) rfl hown (mvT hZ (hw _ (List.mem_of_getElem? (i := 4) rfl))) (mvT hZ (hw _ (List.mem_of_getElem? (i := 5) rfl))) (mvT hZ (hw _ (List.mem_of_getElem? (i := 6) rfl))) (by decide) (backOf (W := 1) (rm1 l Z a0 hw [] b172 h172 n0 Z185 A172 g_b172 F186) hZ (hw _ (List.mem_of_getElem? (i := 6) rfl)) (hw _ (List.mem_of_getElem? (i := 3) rfl)) (by decide) (by decide)) (g := (mkF m 119 #[.val (.int p0), .val (.int p1), .val (.int p2), .val (.int p3), .val (.int (1 : Int32)), .val (.ref b105), .val (.ref b107), .val (.int xv), .val (.int yv), .val (.ref b131), .val (.ref b139), .unset, .unset, .unset, .unset, .unset, .unset] [(.ref b172), (.ref b172)])) rfl (by rw [hml]; rfl) (Steps.refl _) (a := b172) (argsL := []) (rest := [(.ref b172)]) (lenOf pd_4 rfl) rfl (by show 2 * 0 + _ ≤ _; exact Nat.le_of_eq rfl) (hb hby at_119) (fun _ _ => ⟨rfl, e172, (by decide : 5 + 65 ≤ _), (by decide : 5 + 64 ≤ _)⟩)
    dsimp only [Pt.U, Pt.locs, Pt.cells, Pt.slots] at X187 l187 y187 z187 st187 hQ187
    subst l187 y187 z187
    obtain ⟨aB188, f189, rfl, N187q, R190, R191, R192, R193, R194⟩ := hQ187
    have N187 := Fr.app N171 N187q
    have F195 : Exa Z T187.heap b105 "[B" := F177.keep R190
    have F196 : Exa Z T187.heap b107 "[B" := F178.keep R190
    have F197 : Arv Z T187.heap b105 k105 .byte (1 : Int32) [(.int (nar .byte (p0.toInt8.toInt32)))] (.int (0 : Int32)) := F179.keep R190 (ninS ne173 nin0)
    have F198 : Arv Z T187.heap b107 k107 .byte (1 : Int32) [(.int (nar .byte (p0.toInt8.toInt32)))] (.int (0 : Int32)) := F180.keep R190 (ninS ne174 nin0)
    have F199 : Exa Z T187.heap b131 "[B" := F181.keep R190
    have F200 : Exa Z T187.heap b139 "[B" := F182.keep R190
    have F201 : Arv Z T187.heap b131 k131 .byte (1 : Int32) [(.int (nar .byte xv))] (.int (0 : Int32)) := F183.keep R190 (ninS ne175 nin0)
    have F202 : Arv Z T187.heap b139 k139 .byte (1 : Int32) [(.int (nar .byte yv))] (.int (0 : Int32)) := F184.keep R190 (ninS ne176 nin0)
    have F203 : Exa Z T187.heap b172 "com/example/grant4/grant4/store/KeyLocks" := A172.keep R190
    have Z204 : n0 ≤ T187.heap.size := Nat.le_trans Z185 R190.1
    have hp205 : own_Str Z T187.heap aB188 f189 := R193
    obtain ⟨cq206, kq206, q206a, q206b, q206c⟩ := isOf hZ rfl R191
    obtain ⟨_, _, ⟨T206, L206, k206, n206⟩, -, X206, ⟨Lc206, hQ206, l206, y206, z206⟩, st206⟩ := X187.virtualBack hx (y := (⟨"com/example/grant4/grant4/store/KeyLocks", "of", "([B)Ljava/lang/Object;"⟩ : MethodName)) (z := (⟨"com/example/grant4/grant4/store/KeyLocks", "of", "([B)Ljava/lang/Object;"⟩ : MethodName)) hown (mvT hZ (hw _ (List.mem_of_getElem? (i := 17) rfl))) (mvT hZ (hw _ (List.mem_of_getElem? (i := 18) rfl))) (notFace_of_selects (args := #[]) (mvT hZ (hw _ (List.mem_of_getElem? (i := 20) rfl)))) (mvT hZ (hw _ (List.mem_of_getElem? (i := 20) rfl))) (mvT hZ (hw _ (List.mem_of_getElem? (i := 19) rfl))) (by decide) (backOf (W := 0) (rm3_1 l Z a0 hw [] b172 b105 aB188 f189 k105 (nar .byte (p0.toInt8.toInt32)) T187.heap n0 Z204 R192 hp205 F197 F195) hZ (hw _ (List.mem_of_getElem? (i := 21) rfl)) (hw _ (List.mem_of_getElem? (i := 3) rfl)) (by decide) (by decide)) q206a q206c (g := (mkF m 128 #[.val (.int p0), .val (.int p1), .val (.int p2), .val (.int p3), .val (.int (1 : Int32)), .val (.ref b105), .val (.ref b107), .val (.int xv), .val (.int yv), .val (.ref b131), .val (.ref b139), .val (.ref b172), .unset, .unset, .unset, .unset, .unset] [(.ref b105), (.ref b172)])) rfl (by rw [hml]; rfl) (Steps.refl _) (argsL := [(.ref b105)]) (rest := []) (lenOf pd_5 rfl) rfl (by show 2 * 0 + _ ≤ _; exact Nat.le_of_eq rfl) (hb hby at_128) (fun _ _ => ⟨rfl, rfl, (by decide : 70 + 0 ≤ _), (by decide : 69 + 0 ≤ _)⟩)
    dsimp only [Pt.U, Pt.locs, Pt.cells, Pt.slots] at X206 l206 y206 z206 st206 hQ206
    subst l206 y206 z206
    obtain ⟨rfl, N206q, R207⟩ := hQ206
    have N206 := Fr.app N187 N206q
    have hp208 : own_Str Z T187.heap aB188 f189 := R193
    obtain ⟨cq209, kq209, q209a, q209b, q209c⟩ := isOf hZ R207 R191
    obtain ⟨_, _, ⟨T209, L209, k209, n209⟩, -, X209, ⟨Lc209, hQ209, l209, y209, z209⟩, st209⟩ := X206.virtualBack hx (y := (⟨"com/example/grant4/grant4/store/KeyLocks", "of", "([B)Ljava/lang/Object;"⟩ : MethodName)) (z := (⟨"com/example/grant4/grant4/store/KeyLocks", "of", "([B)Ljava/lang/Object;"⟩ : MethodName)) hown (mvT hZ (hw _ (List.mem_of_getElem? (i := 17) rfl))) (mvT hZ (hw _ (List.mem_of_getElem? (i := 18) rfl))) (notFace_of_selects (args := #[]) (mvT hZ (hw _ (List.mem_of_getElem? (i := 20) rfl)))) (mvT hZ (hw _ (List.mem_of_getElem? (i := 20) rfl))) (mvT hZ (hw _ (List.mem_of_getElem? (i := 19) rfl))) (by decide) (backOf (W := 0) (rm3_1 l Z a0 hw [] b172 b107 aB188 f189 k107 (nar .byte (p0.toInt8.toInt32)) T187.heap n0 Z204 R192 hp208 F198 F196) hZ (hw _ (List.mem_of_getElem? (i := 21) rfl)) (hw _ (List.mem_of_getElem? (i := 3) rfl)) (by decide) (by decide)) q209a q209c (g := (mkF m 137 #[.val (.int p0), .val (.int p1), .val (.int p2), .val (.int p3), .val (.int (1 : Int32)), .val (.ref b105), .val (.ref b107), .val (.int xv), .val (.int yv), .val (.ref b131), .val (.ref b139), .val (.ref b172), .val (.ref (f189 ((((31 : Int32) + (nar .byte (p0.toInt8.toInt32)))).toInt % 64).toNat)), .unset, .unset, .unset, .unset] [(.ref b107), (.ref b172)])) rfl (by rw [hml]; rfl) (Steps.refl _) (argsL := [(.ref b107)]) (rest := []) (lenOf pd_5 rfl) rfl (by show 2 * 0 + _ ≤ _; exact Nat.le_of_eq rfl) (hb hby at_137) (fun _ _ => ⟨rfl, R207, (by decide : 70 + 0 ≤ _), (by decide : 69 + 0 ≤ _)⟩)
    dsimp only [Pt.U, Pt.locs, Pt.cells, Pt.slots] at X209 l209 y209 z209 st209 hQ209
    subst l209 y209 z209
    obtain ⟨rfl, N209q, R210⟩ := hQ209
    have N209 := Fr.app N206 N209q
    have hp211 : own_Str Z T187.heap aB188 f189 := R193
    obtain ⟨cq212, kq212, q212a, q212b, q212c⟩ := isOf hZ R210 R191
    obtain ⟨_, _, ⟨T212, L212, k212, n212⟩, -, X212, ⟨Lc212, hQ212, l212, y212, z212⟩, st212⟩ := X209.virtualBack hx (y := (⟨"com/example/grant4/grant4/store/KeyLocks", "of", "([B)Ljava/lang/Object;"⟩ : MethodName)) (z := (⟨"com/example/grant4/grant4/store/KeyLocks", "of", "([B)Ljava/lang/Object;"⟩ : MethodName)) hown (mvT hZ (hw _ (List.mem_of_getElem? (i := 17) rfl))) (mvT hZ (hw _ (List.mem_of_getElem? (i := 18) rfl))) (notFace_of_selects (args := #[]) (mvT hZ (hw _ (List.mem_of_getElem? (i := 20) rfl)))) (mvT hZ (hw _ (List.mem_of_getElem? (i := 20) rfl))) (mvT hZ (hw _ (List.mem_of_getElem? (i := 19) rfl))) (by decide) (backOf (W := 0) (rm3_1 l Z a0 hw [] b172 b105 aB188 f189 k105 (nar .byte (p0.toInt8.toInt32)) T187.heap n0 Z204 R192 hp211 F197 F195) hZ (hw _ (List.mem_of_getElem? (i := 21) rfl)) (hw _ (List.mem_of_getElem? (i := 3) rfl)) (by decide) (by decide)) q212a q212c (g := (mkF m 146 #[.val (.int p0), .val (.int p1), .val (.int p2), .val (.int p3), .val (.int (1 : Int32)), .val (.ref b105), .val (.ref b107), .val (.int xv), .val (.int yv), .val (.ref b131), .val (.ref b139), .val (.ref b172), .val (.ref (f189 ((((31 : Int32) + (nar .byte (p0.toInt8.toInt32)))).toInt % 64).toNat)), .val (.ref (f189 ((((31 : Int32) + (nar .byte (p0.toInt8.toInt32)))).toInt % 64).toNat)), .unset, .unset, .unset] [(.ref b105), (.ref b172)])) rfl (by rw [hml]; rfl) (Steps.refl _) (argsL := [(.ref b105)]) (rest := []) (lenOf pd_5 rfl) rfl (by show 2 * 0 + _ ≤ _; exact Nat.le_of_eq rfl) (hb hby at_146) (fun _ _ => ⟨rfl, R210, (by decide : 70 + 0 ≤ _), (by decide : 69 + 0 ≤ _)⟩)
    dsimp only [Pt.U, Pt.locs, Pt.cells, Pt.slots] at X212 l212 y212 z212 st212 hQ212
    subst l212 y212 z212
    obtain ⟨rfl, N212q, R213⟩ := hQ212
    have N212 := Fr.app N209 N212q
    have hp214 : own_Str Z T187.heap aB188 f189 := R193
    obtain ⟨cq215, kq215, q215a, q215b, q215c⟩ := isOf hZ R213 R191
    obtain ⟨_, _, ⟨T215, L215, k215, n215⟩, -, X215, ⟨Lc215, hQ215, l215, y215, z215⟩, st215⟩ := X212.virtualBack hx (y := (⟨"com/example/grant4/grant4/store/KeyLocks", "of", "([B)Ljava/lang/Object;"⟩ : MethodName)) (z := (⟨"com/example/grant4/grant4/store/KeyLocks", "of", "([B)Ljava/lang/Object;"⟩ : MethodName)) hown (mvT hZ (hw _ (List.mem_of_getElem? (i := 17) rfl))) (mvT hZ (hw _ (List.mem_of_getElem? (i := 18) rfl))) (notFace_of_selects (args := #[]) (mvT hZ (hw _ (List.mem_of_getElem? (i := 20) rfl)))) (mvT hZ (hw _ (List.mem_of_getElem? (i := 20) rfl))) (mvT hZ (hw _ (List.mem_of_getElem? (i := 19) rfl))) (by decide) (backOf (W := 0) (rm3_1 l Z a0 hw [] b172 b131 aB188 f189 k131 (nar .byte xv) T187.heap n0 Z204 R192 hp214 F201 F199) hZ (hw _ (List.mem_of_getElem? (i := 21) rfl)) (hw _ (List.mem_of_getElem? (i := 3) rfl)) (by decide) (by decide)) q215a q215c (g := (mkF m 155 #[.val (.int p0), .val (.int p1), .val (.int p2), .val (.int p3), .val (.int (1 : Int32)), .val (.ref b105), .val (.ref b107), .val (.int xv), .val (.int yv), .val (.ref b131), .val (.ref b139), .val (.ref b172), .val (.ref (f189 ((((31 : Int32) + (nar .byte (p0.toInt8.toInt32)))).toInt % 64).toNat)), .val (.ref (f189 ((((31 : Int32) + (nar .byte (p0.toInt8.toInt32)))).toInt % 64).toNat)), .val (.ref (f189 ((((31 : Int32) + (nar .byte (p0.toInt8.toInt32)))).toInt % 64).toNat)), .unset, .unset] [(.ref b131), (.ref b172)])) rfl (by rw [hml]; rfl) (Steps.refl _) (argsL := [(.ref b131)]) (rest := []) (lenOf pd_5 rfl) rfl (by show 2 * 0 + _ ≤ _; exact Nat.le_of_eq rfl) (hb hby at_155) (fun _ _ => ⟨rfl, R213, (by decide : 70 + 0 ≤ _), (by decide : 69 + 0 ≤ _)⟩)
    dsimp only [Pt.U, Pt.locs, Pt.cells, Pt.slots] at X215 l215 y215 z215 st215 hQ215
    subst l215 y215 z215
    obtain ⟨rfl, N215q, R216⟩ := hQ215
    have N215 := Fr.app N212 N215q
    have hp217 : own_Str Z T187.heap aB188 f189 := R193
    obtain ⟨cq218, kq218, q218a, q218b, q218c⟩ := isOf hZ R216 R191
    obtain ⟨_, _, ⟨T218, L218, k218, n218⟩, -, X218, ⟨Lc218, hQ218, l218, y218, z218⟩, st218⟩ := X215.virtualBack hx (y := (⟨"com/example/grant4/grant4/store/KeyLocks", "of", "([B)Ljava/lang/Object;"⟩ : MethodName)) (z := (⟨"com/example/grant4/grant4/store/KeyLocks", "of", "([B)Ljava/lang/Object;"⟩ : MethodName)) hown (mvT hZ (hw _ (List.mem_of_getElem? (i := 17) rfl))) (mvT hZ (hw _ (List.mem_of_getElem? (i := 18) rfl))) (notFace_of_selects (args := #[]) (mvT hZ (hw _ (List.mem_of_getElem? (i := 20) rfl)))) (mvT hZ (hw _ (List.mem_of_getElem? (i := 20) rfl))) (mvT hZ (hw _ (List.mem_of_getElem? (i := 19) rfl))) (by decide) (backOf (W := 0) (rm3_1 l Z a0 hw [] b172 b139 aB188 f189 k139 (nar .byte yv) T187.heap n0 Z204 R192 hp217 F202 F200) hZ (hw _ (List.mem_of_getElem? (i := 21) rfl)) (hw _ (List.mem_of_getElem? (i := 3) rfl)) (by decide) (by decide)) q218a q218c (g := (mkF m 164 #[.val (.int p0), .val (.int p1), .val (.int p2), .val (.int p3), .val (.int (1 : Int32)), .val (.ref b105), .val (.ref b107), .val (.int xv), .val (.int yv), .val (.ref b131), .val (.ref b139), .val (.ref b172), .val (.ref (f189 ((((31 : Int32) + (nar .byte (p0.toInt8.toInt32)))).toInt % 64).toNat)), .val (.ref (f189 ((((31 : Int32) + (nar .byte (p0.toInt8.toInt32)))).toInt % 64).toNat)), .val (.ref (f189 ((((31 : Int32) + (nar .byte (p0.toInt8.toInt32)))).toInt % 64).toNat)), .val (.ref (f189 ((((31 : Int32) + (nar .byte xv))).toInt % 64).toNat)), .unset] [(.ref b139), (.ref b172)])) rfl (by rw [hml]; rfl) (Steps.refl _) (argsL := [(.ref b139)]) (rest := []) (lenOf pd_5 rfl) rfl (by show 2 * 0 + _ ≤ _; exact Nat.le_of_eq rfl) (hb hby at_164) (fun _ _ => ⟨rfl, R216, (by decide : 70 + 0 ≤ _), (by decide : 69 + 0 ≤ _)⟩)
    dsimp only [Pt.U, Pt.locs, Pt.cells, Pt.slots] at X218 l218 y218 z218 st218 hQ218
    subst l218 y218 z218
    obtain ⟨rfl, N218q, R219⟩ := hQ218
    have N218 := Fr.app N215 N218q
    have ha202_220 : ¬ ((f189 ((((31 : Int32) + (nar .byte xv))).toInt % 64).toNat) = (f189 ((((31 : Int32) + (nar .byte yv))).toInt % 64).toNat)) := own_m p0 xv yv f189 R194 hxv hm129
    obtain ⟨fs, hr, hrun, hended, hW, hsame⟩ := X218.leave (v := some (.int (1 : Int32))) (fun h => by rw [Bd.returns] at h; cases h)
    refine ⟨_, _, P130 _ ?_, hrun, hended, _, _, rfl, ?_, ⟨_, rfl⟩, hW, hsame.mono (by decide) (by decide)⟩
    · show Steps p.tables e below (T120.setTop (mkF m 91 #[.val (.int p0), .val (.int p1), .val (.int p2), .val (.int p3), .val (.int (1 : Int32)), .val (.ref b105), .val (.ref b107), .val (.int xv), .unset, .unset, .unset, .unset, .unset, .unset, .unset, .unset, .unset] [(.int yv)])) _
      refine XS.istore X120.here hx rfl (hb hby at_91) rfl (l' := #[.val (.int p0), .val (.int p1), .val (.int p2), .val (.int p3), .val (.int (1 : Int32)), .val (.ref b105), .val (.ref b107), .val (.int xv), .val (.int yv), .unset, .unset, .unset, .unset, .unset, .unset, .unset, .unset]) rfl ?_
      show Steps p.tables e below (T120.setTop (mkF m 93 #[.val (.int p0), .val (.int p1), .val (.int p2), .val (.int p3), .val (.int (1 : Int32)), .val (.ref b105), .val (.ref b107), .val (.int xv), .val (.int yv), .unset, .unset, .unset, .unset, .unset, .unset, .unset, .unset] [])) _
      refine XS.iconst X120.here hx rfl (hb hby at_93) ?_
      show Steps p.tables e below (T120.setTop (mkF m 94 #[.val (.int p0), .val (.int p1), .val (.int p2), .val (.int p3), .val (.int (1 : Int32)), .val (.ref b105), .val (.ref b107), .val (.int xv), .val (.int yv), .unset, .unset, .unset, .unset, .unset, .unset, .unset, .unset] [(.int (1 : Int32))])) _
      refine st131 _ ?_
      show Steps p.tables e below (T131.setTop (mkF m 96 #[.val (.int p0), .val (.int p1), .val (.int p2), .val (.int p3), .val (.int (1 : Int32)), .val (.ref b105), .val (.ref b107), .val (.int xv), .val (.int yv), .unset, .unset, .unset, .unset, .unset, .unset, .unset, .unset] [(.ref b131)])) _
      refine XS.astore X131.here hx rfl (hb hby at_96) rfl rfl (l' := #[.val (.int p0), .val (.int p1), .val (.int p2), .val (.int p3), .val (.int (1 : Int32)), .val (.ref b105), .val (.ref b107), .val (.int xv), .val (.int yv), .val (.ref b131), .unset, .unset, .unset, .unset, .unset, .unset, .unset]) rfl ?_
      show Steps p.tables e below (T131.setTop (mkF m 98 #[.val (.int p0), .val (.int p1), .val (.int p2), .val (.int p3), .val (.int (1 : Int32)), .val (.ref b105), .val (.ref b107), .val (.int xv), .val (.int yv), .val (.ref b131), .unset, .unset, .unset, .unset, .unset, .unset, .unset] [])) _
      refine XS.iconst X131.here hx rfl (hb hby at_98) ?_
      show Steps p.tables e below (T131.setTop (mkF m 99 #[.val (.int p0), .val (.int p1), .val (.int p2), .val (.int p3), .val (.int (1 : Int32)), .val (.ref b105), .val (.ref b107), .val (.int xv), .val (.int yv), .val (.ref b131), .unset, .unset, .unset, .unset, .unset, .unset, .unset] [(.int (1 : Int32))])) _
      refine st139 _ ?_
      show Steps p.tables e below (T139.setTop (mkF m 101 #[.val (.int p0), .val (.int p1), .val (.int p2), .val (.int p3), .val (.int (1 : Int32)), .val (.ref b105), .val (.ref b107), .val (.int xv), .val (.int yv), .val (.ref b131), .unset, .unset, .unset, .unset, .unset, .unset, .unset] [(.ref b139)])) _
      refine XS.astore X139.here hx rfl (hb hby at_101) rfl rfl (l' := #[.val (.int p0), .val (.int p1), .val (.int p2), .val (.int p3), .val (.int (1 : Int32)), .val (.ref b105), .val (.ref b107), .val (.int xv), .val (.int yv), .val (.ref b131), .val (.ref b139), .unset, .unset, .unset, .unset, .unset, .unset]) rfl ?_
      show Steps p.tables e below (T139.setTop (mkF m 103 #[.val (.int p0), .val (.int p1), .val (.int p2), .val (.int p3), .val (.int (1 : Int32)), .val (.ref b105), .val (.ref b107), .val (.int xv), .val (.int yv), .val (.ref b131), .val (.ref b139), .unset, .unset, .unset, .unset, .unset, .unset] [])) _
      refine XS.aload X139.here hx rfl (hb hby at_103) rfl rfl ?_
      show Steps p.tables e below (T139.setTop (mkF m 105 #[.val (.int p0), .val (.int p1), .val (.int p2), .val (.int p3), .val (.int (1 : Int32)), .val (.ref b105), .val (.ref b107), .val (.int xv), .val (.int yv), .val (.ref b131), .val (.ref b139), .unset, .unset, .unset, .unset, .unset, .unset] [(.ref b131)])) _
      refine XS.iconst X139.here hx rfl (hb hby at_105) ?_
      show Steps p.tables e below (T139.setTop (mkF m 106 #[.val (.int p0), .val (.int p1), .val (.int p2), .val (.int p3), .val (.int (1 : Int32)), .val (.ref b105), .val (.ref b107), .val (.int xv), .val (.int yv), .val (.ref b131), .val (.ref b139), .unset, .unset, .unset, .unset, .unset, .unset] [(.int (0 : Int32)), (.ref b131)])) _
      refine XS.iload X139.here hx rfl (hb hby at_106) rfl ?_
      show Steps p.tables e below (T139.setTop (mkF m 108 #[.val (.int p0), .val (.int p1), .val (.int p2), .val (.int p3), .val (.int (1 : Int32)), .val (.ref b105), .val (.ref b107), .val (.int xv), .val (.int yv), .val (.ref b131), .val (.ref b139), .unset, .unset, .unset, .unset, .unset, .unset] [(.int xv), (.int (0 : Int32)), (.ref b131)])) _
      refine st151 _ ?_
      show Steps p.tables e below (T151.setTop (mkF m 109 #[.val (.int p0), .val (.int p1), .val (.int p2), .val (.int p3), .val (.int (1 : Int32)), .val (.ref b105), .val (.ref b107), .val (.int xv), .val (.int yv), .val (.ref b131), .val (.ref b139), .unset, .unset, .unset, .unset, .unset, .unset] [])) _
      refine XS.aload X151.here hx rfl (hb hby at_109) rfl rfl ?_
      show Steps p.tables e below (T151.setTop (mkF m 111 #[.val (.int p0), .val (.int p1), .val (.int p2), .val (.int p3), .val (.int (1 : Int32)), .val (.ref b105), .val (.ref b107), .val (.int xv), .val (.int yv), .val (.ref b131), .val (.ref b139), .unset, .unset, .unset, .unset, .unset, .unset] [(.ref b139)])) _
      refine XS.iconst X151.here hx rfl (hb hby at_111) ?_
      show Steps p.tables e below (T151.setTop (mkF m 112 #[.val (.int p0), .val (.int p1), .val (.int p2), .val (.int p3), .val (.int (1 : Int32)), .val (.ref b105), .val (.ref b107), .val (.int xv), .val (.int yv), .val (.ref b131), .val (.ref b139), .unset, .unset, .unset, .unset, .unset, .unset] [(.int (0 : Int32)), (.ref b139)])) _
      refine XS.iload X151.here hx rfl (hb hby at_112) rfl ?_
      show Steps p.tables e below (T151.setTop (mkF m 114 #[.val (.int p0), .val (.int p1), .val (.int p2), .val (.int p3), .val (.int (1 : Int32)), .val (.ref b105), .val (.ref b107), .val (.int xv), .val (.int yv), .val (.ref b131), .val (.ref b139), .unset, .unset, .unset, .unset, .unset, .unset] [(.int yv), (.int (0 : Int32)), (.ref b139)])) _
      refine st162 _ ?_
      show Steps p.tables e below (T162.setTop (mkF m 115 #[.val (.int p0), .val (.int p1), .val (.int p2), .val (.int p3), .val (.int (1 : Int32)), .val (.ref b105), .val (.ref b107), .val (.int xv), .val (.int yv), .val (.ref b131), .val (.ref b139), .unset, .unset, .unset, .unset, .unset, .unset] [])) _
      refine st172 _ ?_
      show Steps p.tables e below (T172.setTop (mkF m 118 #[.val (.int p0), .val (.int p1), .val (.int p2), .val (.int p3), .val (.int (1 : Int32)), .val (.ref b105), .val (.ref b107), .val (.int xv), .val (.int yv), .val (.ref b131), .val (.ref b139), .unset, .unset, .unset, .unset, .unset, .unset] [(.ref b172)])) _
      refine XS.dup X172.here hx rfl (hb hby at_118) rfl rfl ?_
      show Steps p.tables e below (T172.setTop (mkF m 119 #[.val (.int p0), .val (.int p1), .val (.int p2), .val (.int p3), .val (.int (1 : Int32)), .val (.ref b105), .val (.ref b107), .val (.int xv), .val (.int yv), .val (.ref b131), .val (.ref b139), .unset, .unset, .unset, .unset, .unset, .unset] [(.ref b172), (.ref b172)])) _
      refine st187.trans ?_
      show Steps p.tables e below (T187.setTop (mkF m 122 #[.val (.int p0), .val (.int p1), .val (.int p2), .val (.int p3), .val (.int (1 : Int32)), .val (.ref b105), .val (.ref b107), .val (.int xv), .val (.int yv), .val (.ref b131), .val (.ref b139), .unset, .unset, .unset, .unset, .unset, .unset] [(.ref b172)])) _
      refine XS.astore X187.here hx rfl (hb hby at_122) rfl rfl (l' := #[.val (.int p0), .val (.int p1), .val (.int p2), .val (.int p3), .val (.int (1 : Int32)), .val (.ref b105), .val (.ref b107), .val (.int xv), .val (.int yv), .val (.ref b131), .val (.ref b139), .val (.ref b172), .unset, .unset, .unset, .unset, .unset]) rfl ?_
      show Steps p.tables e below (T187.setTop (mkF m 124 #[.val (.int p0), .val (.int p1), .val (.int p2), .val (.int p3), .val (.int (1 : Int32)), .val (.ref b105), .val (.ref b107), .val (.int xv), .val (.int yv), .val (.ref b131), .val (.ref b139), .val (.ref b172), .unset, .unset, .unset, .unset, .unset] [])) _
      refine XS.aload X187.here hx rfl (hb hby at_124) rfl rfl ?_
      show Steps p.tables e below (T187.setTop (mkF m 126 #[.val (.int p0), .val (.int p1), .val (.int p2), .val (.int p3), .val (.int (1 : Int32)), .val (.ref b105), .val (.ref b107), .val (.int xv), .val (.int yv), .val (.ref b131), .val (.ref b139), .val (.ref b172), .unset, .unset, .unset, .unset, .unset] [(.ref b172)])) _
      refine XS.aload X187.here hx rfl (hb hby at_126) rfl rfl ?_
      show Steps p.tables e below (T187.setTop (mkF m 128 #[.val (.int p0), .val (.int p1), .val (.int p2), .val (.int p3), .val (.int (1 : Int32)), .val (.ref b105), .val (.ref b107), .val (.int xv), .val (.int yv), .val (.ref b131), .val (.ref b139), .val (.ref b172), .unset, .unset, .unset, .unset, .unset] [(.ref b105), (.ref b172)])) _
      refine st206.trans ?_
      show Steps p.tables e below (T206.setTop (mkF m 131 #[.val (.int p0), .val (.int p1), .val (.int p2), .val (.int p3), .val (.int (1 : Int32)), .val (.ref b105), .val (.ref b107), .val (.int xv), .val (.int yv), .val (.ref b131), .val (.ref b139), .val (.ref b172), .unset, .unset, .unset, .unset, .unset] [(.ref (f189 ((((31 : Int32) + (nar .byte (p0.toInt8.toInt32)))).toInt % 64).toNat))])) _
      refine XS.astore X206.here hx rfl (hb hby at_131) rfl rfl (l' := #[.val (.int p0), .val (.int p1), .val (.int p2), .val (.int p3), .val (.int (1 : Int32)), .val (.ref b105), .val (.ref b107), .val (.int xv), .val (.int yv), .val (.ref b131), .val (.ref b139), .val (.ref b172), .val (.ref (f189 ((((31 : Int32) + (nar .byte (p0.toInt8.toInt32)))).toInt % 64).toNat)), .unset, .unset, .unset, .unset]) rfl ?_
      show Steps p.tables e below (T206.setTop (mkF m 133 #[.val (.int p0), .val (.int p1), .val (.int p2), .val (.int p3), .val (.int (1 : Int32)), .val (.ref b105), .val (.ref b107), .val (.int xv), .val (.int yv), .val (.ref b131), .val (.ref b139), .val (.ref b172), .val (.ref (f189 ((((31 : Int32) + (nar .byte (p0.toInt8.toInt32)))).toInt % 64).toNat)), .unset, .unset, .unset, .unset] [])) _
      refine XS.aload X206.here hx rfl (hb hby at_133) rfl rfl ?_
      show Steps p.tables e below (T206.setTop (mkF m 135 #[.val (.int p0), .val (.int p1), .val (.int p2), .val (.int p3), .val (.int (1 : Int32)), .val (.ref b105), .val (.ref b107), .val (.int xv), .val (.int yv), .val (.ref b131), .val (.ref b139), .val (.ref b172), .val (.ref (f189 ((((31 : Int32) + (nar .byte (p0.toInt8.toInt32)))).toInt % 64).toNat)), .unset, .unset, .unset, .unset] [(.ref b172)])) _
      refine XS.aload X206.here hx rfl (hb hby at_135) rfl rfl ?_
      show Steps p.tables e below (T206.setTop (mkF m 137 #[.val (.int p0), .val (.int p1), .val (.int p2), .val (.int p3), .val (.int (1 : Int32)), .val (.ref b105), .val (.ref b107), .val (.int xv), .val (.int yv), .val (.ref b131), .val (.ref b139), .val (.ref b172), .val (.ref (f189 ((((31 : Int32) + (nar .byte (p0.toInt8.toInt32)))).toInt % 64).toNat)), .unset, .unset, .unset, .unset] [(.ref b107), (.ref b172)])) _
      refine st209.trans ?_
      show Steps p.tables e below (T209.setTop (mkF m 140 #[.val (.int p0), .val (.int p1), .val (.int p2), .val (.int p3), .val (.int (1 : Int32)), .val (.ref b105), .val (.ref b107), .val (.int xv), .val (.int yv), .val (.ref b131), .val (.ref b139), .val (.ref b172), .val (.ref (f189 ((((31 : Int32) + (nar .byte (p0.toInt8.toInt32)))).toInt % 64).toNat)), .unset, .unset, .unset, .unset] [(.ref (f189 ((((31 : Int32) + (nar .byte (p0.toInt8.toInt32)))).toInt % 64).toNat))])) _
      refine XS.astore X209.here hx rfl (hb hby at_140) rfl rfl (l' := #[.val (.int p0), .val (.int p1), .val (.int p2), .val (.int p3), .val (.int (1 : Int32)), .val (.ref b105), .val (.ref b107), .val (.int xv), .val (.int yv), .val (.ref b131), .val (.ref b139), .val (.ref b172), .val (.ref (f189 ((((31 : Int32) + (nar .byte (p0.toInt8.toInt32)))).toInt % 64).toNat)), .val (.ref (f189 ((((31 : Int32) + (nar .byte (p0.toInt8.toInt32)))).toInt % 64).toNat)), .unset, .unset, .unset]) rfl ?_
      show Steps p.tables e below (T209.setTop (mkF m 142 #[.val (.int p0), .val (.int p1), .val (.int p2), .val (.int p3), .val (.int (1 : Int32)), .val (.ref b105), .val (.ref b107), .val (.int xv), .val (.int yv), .val (.ref b131), .val (.ref b139), .val (.ref b172), .val (.ref (f189 ((((31 : Int32) + (nar .byte (p0.toInt8.toInt32)))).toInt % 64).toNat)), .val (.ref (f189 ((((31 : Int32) + (nar .byte (p0.toInt8.toInt32)))).toInt % 64).toNat)), .unset, .unset, .unset] [])) _
      refine XS.aload X209.here hx rfl (hb hby at_142) rfl rfl ?_
      show Steps p.tables e below (T209.setTop (mkF m 144 #[.val (.int p0), .val (.int p1), .val (.int p2), .val (.int p3), .val (.int (1 : Int32)), .val (.ref b105), .val (.ref b107), .val (.int xv), .val (.int yv), .val (.ref b131), .val (.ref b139), .val (.ref b172), .val (.ref (f189 ((((31 : Int32) + (nar .byte (p0.toInt8.toInt32)))).toInt % 64).toNat)), .val (.ref (f189 ((((31 : Int32) + (nar .byte (p0.toInt8.toInt32)))).toInt % 64).toNat)), .unset, .unset, .unset] [(.ref b172)])) _
      refine XS.aload X209.here hx rfl (hb hby at_144) rfl rfl ?_
      show Steps p.tables e below (T209.setTop (mkF m 146 #[.val (.int p0), .val (.int p1), .val (.int p2), .val (.int p3), .val (.int (1 : Int32)), .val (.ref b105), .val (.ref b107), .val (.int xv), .val (.int yv), .val (.ref b131), .val (.ref b139), .val (.ref b172), .val (.ref (f189 ((((31 : Int32) + (nar .byte (p0.toInt8.toInt32)))).toInt % 64).toNat)), .val (.ref (f189 ((((31 : Int32) + (nar .byte (p0.toInt8.toInt32)))).toInt % 64).toNat)), .unset, .unset, .unset] [(.ref b105), (.ref b172)])) _
      refine st212.trans ?_
      show Steps p.tables e below (T212.setTop (mkF m 149 #[.val (.int p0), .val (.int p1), .val (.int p2), .val (.int p3), .val (.int (1 : Int32)), .val (.ref b105), .val (.ref b107), .val (.int xv), .val (.int yv), .val (.ref b131), .val (.ref b139), .val (.ref b172), .val (.ref (f189 ((((31 : Int32) + (nar .byte (p0.toInt8.toInt32)))).toInt % 64).toNat)), .val (.ref (f189 ((((31 : Int32) + (nar .byte (p0.toInt8.toInt32)))).toInt % 64).toNat)), .unset, .unset, .unset] [(.ref (f189 ((((31 : Int32) + (nar .byte (p0.toInt8.toInt32)))).toInt % 64).toNat))])) _
      refine XS.astore X212.here hx rfl (hb hby at_149) rfl rfl (l' := #[.val (.int p0), .val (.int p1), .val (.int p2), .val (.int p3), .val (.int (1 : Int32)), .val (.ref b105), .val (.ref b107), .val (.int xv), .val (.int yv), .val (.ref b131), .val (.ref b139), .val (.ref b172), .val (.ref (f189 ((((31 : Int32) + (nar .byte (p0.toInt8.toInt32)))).toInt % 64).toNat)), .val (.ref (f189 ((((31 : Int32) + (nar .byte (p0.toInt8.toInt32)))).toInt % 64).toNat)), .val (.ref (f189 ((((31 : Int32) + (nar .byte (p0.toInt8.toInt32)))).toInt % 64).toNat)), .unset, .unset]) rfl ?_
      show Steps p.tables e below (T212.setTop (mkF m 151 #[.val (.int p0), .val (.int p1), .val (.int p2), .val (.int p3), .val (.int (1 : Int32)), .val (.ref b105), .val (.ref b107), .val (.int xv), .val (.int yv), .val (.ref b131), .val (.ref b139), .val (.ref b172), .val (.ref (f189 ((((31 : Int32) + (nar .byte (p0.toInt8.toInt32)))).toInt % 64).toNat)), .val (.ref (f189 ((((31 : Int32) + (nar .byte (p0.toInt8.toInt32)))).toInt % 64).toNat)), .val (.ref (f189 ((((31 : Int32) + (nar .byte (p0.toInt8.toInt32)))).toInt % 64).toNat)), .unset, .unset] [])) _
      refine XS.aload X212.here hx rfl (hb hby at_151) rfl rfl ?_
      show Steps p.tables e below (T212.setTop (mkF m 153 #[.val (.int p0), .val (.int p1), .val (.int p2), .val (.int p3), .val (.int (1 : Int32)), .val (.ref b105), .val (.ref b107), .val (.int xv), .val (.int yv), .val (.ref b131), .val (.ref b139), .val (.ref b172), .val (.ref (f189 ((((31 : Int32) + (nar .byte (p0.toInt8.toInt32)))).toInt % 64).toNat)), .val (.ref (f189 ((((31 : Int32) + (nar .byte (p0.toInt8.toInt32)))).toInt % 64).toNat)), .val (.ref (f189 ((((31 : Int32) + (nar .byte (p0.toInt8.toInt32)))).toInt % 64).toNat)), .unset, .unset] [(.ref b172)])) _
      refine XS.aload X212.here hx rfl (hb hby at_153) rfl rfl ?_
      show Steps p.tables e below (T212.setTop (mkF m 155 #[.val (.int p0), .val (.int p1), .val (.int p2), .val (.int p3), .val (.int (1 : Int32)), .val (.ref b105), .val (.ref b107), .val (.int xv), .val (.int yv), .val (.ref b131), .val (.ref b139), .val (.ref b172), .val (.ref (f189 ((((31 : Int32) + (nar .byte (p0.toInt8.toInt32)))).toInt % 64).toNat)), .val (.ref (f189 ((((31 : Int32) + (nar .byte (p0.toInt8.toInt32)))).toInt % 64).toNat)), .val (.ref (f189 ((((31 : Int32) + (nar .byte (p0.toInt8.toInt32)))).toInt % 64).toNat)), .unset, .unset] [(.ref b131), (.ref b172)])) _
      refine st215.trans ?_
      show Steps p.tables e below (T215.setTop (mkF m 158 #[.val (.int p0), .val (.int p1), .val (.int p2), .val (.int p3), .val (.int (1 : Int32)), .val (.ref b105), .val (.ref b107), .val (.int xv), .val (.int yv), .val (.ref b131), .val (.ref b139), .val (.ref b172), .val (.ref (f189 ((((31 : Int32) + (nar .byte (p0.toInt8.toInt32)))).toInt % 64).toNat)), .val (.ref (f189 ((((31 : Int32) + (nar .byte (p0.toInt8.toInt32)))).toInt % 64).toNat)), .val (.ref (f189 ((((31 : Int32) + (nar .byte (p0.toInt8.toInt32)))).toInt % 64).toNat)), .unset, .unset] [(.ref (f189 ((((31 : Int32) + (nar .byte xv))).toInt % 64).toNat))])) _
      refine XS.astore X215.here hx rfl (hb hby at_158) rfl rfl (l' := #[.val (.int p0), .val (.int p1), .val (.int p2), .val (.int p3), .val (.int (1 : Int32)), .val (.ref b105), .val (.ref b107), .val (.int xv), .val (.int yv), .val (.ref b131), .val (.ref b139), .val (.ref b172), .val (.ref (f189 ((((31 : Int32) + (nar .byte (p0.toInt8.toInt32)))).toInt % 64).toNat)), .val (.ref (f189 ((((31 : Int32) + (nar .byte (p0.toInt8.toInt32)))).toInt % 64).toNat)), .val (.ref (f189 ((((31 : Int32) + (nar .byte (p0.toInt8.toInt32)))).toInt % 64).toNat)), .val (.ref (f189 ((((31 : Int32) + (nar .byte xv))).toInt % 64).toNat)), .unset]) rfl ?_
      show Steps p.tables e below (T215.setTop (mkF m 160 #[.val (.int p0), .val (.int p1), .val (.int p2), .val (.int p3), .val (.int (1 : Int32)), .val (.ref b105), .val (.ref b107), .val (.int xv), .val (.int yv), .val (.ref b131), .val (.ref b139), .val (.ref b172), .val (.ref (f189 ((((31 : Int32) + (nar .byte (p0.toInt8.toInt32)))).toInt % 64).toNat)), .val (.ref (f189 ((((31 : Int32) + (nar .byte (p0.toInt8.toInt32)))).toInt % 64).toNat)), .val (.ref (f189 ((((31 : Int32) + (nar .byte (p0.toInt8.toInt32)))).toInt % 64).toNat)), .val (.ref (f189 ((((31 : Int32) + (nar .byte xv))).toInt % 64).toNat)), .unset] [])) _
      refine XS.aload X215.here hx rfl (hb hby at_160) rfl rfl ?_
      show Steps p.tables e below (T215.setTop (mkF m 162 #[.val (.int p0), .val (.int p1), .val (.int p2), .val (.int p3), .val (.int (1 : Int32)), .val (.ref b105), .val (.ref b107), .val (.int xv), .val (.int yv), .val (.ref b131), .val (.ref b139), .val (.ref b172), .val (.ref (f189 ((((31 : Int32) + (nar .byte (p0.toInt8.toInt32)))).toInt % 64).toNat)), .val (.ref (f189 ((((31 : Int32) + (nar .byte (p0.toInt8.toInt32)))).toInt % 64).toNat)), .val (.ref (f189 ((((31 : Int32) + (nar .byte (p0.toInt8.toInt32)))).toInt % 64).toNat)), .val (.ref (f189 ((((31 : Int32) + (nar .byte xv))).toInt % 64).toNat)), .unset] [(.ref b172)])) _
      refine XS.aload X215.here hx rfl (hb hby at_162) rfl rfl ?_
      show Steps p.tables e below (T215.setTop (mkF m 164 #[.val (.int p0), .val (.int p1), .val (.int p2), .val (.int p3), .val (.int (1 : Int32)), .val (.ref b105), .val (.ref b107), .val (.int xv), .val (.int yv), .val (.ref b131), .val (.ref b139), .val (.ref b172), .val (.ref (f189 ((((31 : Int32) + (nar .byte (p0.toInt8.toInt32)))).toInt % 64).toNat)), .val (.ref (f189 ((((31 : Int32) + (nar .byte (p0.toInt8.toInt32)))).toInt % 64).toNat)), .val (.ref (f189 ((((31 : Int32) + (nar .byte (p0.toInt8.toInt32)))).toInt % 64).toNat)), .val (.ref (f189 ((((31 : Int32) + (nar .byte xv))).toInt % 64).toNat)), .unset] [(.ref b139), (.ref b172)])) _
      refine st218.trans ?_
      show Steps p.tables e below (T218.setTop (mkF m 167 #[.val (.int p0), .val (.int p1), .val (.int p2), .val (.int p3), .val (.int (1 : Int32)), .val (.ref b105), .val (.ref b107), .val (.int xv), .val (.int yv), .val (.ref b131), .val (.ref b139), .val (.ref b172), .val (.ref (f189 ((((31 : Int32) + (nar .byte (p0.toInt8.toInt32)))).toInt % 64).toNat)), .val (.ref (f189 ((((31 : Int32) + (nar .byte (p0.toInt8.toInt32)))).toInt % 64).toNat)), .val (.ref (f189 ((((31 : Int32) + (nar .byte (p0.toInt8.toInt32)))).toInt % 64).toNat)), .val (.ref (f189 ((((31 : Int32) + (nar .byte xv))).toInt % 64).toNat)), .unset] [(.ref (f189 ((((31 : Int32) + (nar .byte yv))).toInt % 64).toNat))])) _
      refine XS.astore X218.here hx rfl (hb hby at_167) rfl rfl (l' := #[.val (.int p0), .val (.int p1), .val (.int p2), .val (.int p3), .val (.int (1 : Int32)), .val (.ref b105), .val (.ref b107), .val (.int xv), .val (.int yv), .val (.ref b131), .val (.ref b139), .val (.ref b172), .val (.ref (f189 ((((31 : Int32) + (nar .byte (p0.toInt8.toInt32)))).toInt % 64).toNat)), .val (.ref (f189 ((((31 : Int32) + (nar .byte (p0.toInt8.toInt32)))).toInt % 64).toNat)), .val (.ref (f189 ((((31 : Int32) + (nar .byte (p0.toInt8.toInt32)))).toInt % 64).toNat)), .val (.ref (f189 ((((31 : Int32) + (nar .byte xv))).toInt % 64).toNat)), .val (.ref (f189 ((((31 : Int32) + (nar .byte yv))).toInt % 64).toNat))]) rfl ?_
      show Steps p.tables e below (T218.setTop (mkF m 169 #[.val (.int p0), .val (.int p1), .val (.int p2), .val (.int p3), .val (.int (1 : Int32)), .val (.ref b105), .val (.ref b107), .val (.int xv), .val (.int yv), .val (.ref b131), .val (.ref b139), .val (.ref b172), .val (.ref (f189 ((((31 : Int32) + (nar .byte (p0.toInt8.toInt32)))).toInt % 64).toNat)), .val (.ref (f189 ((((31 : Int32) + (nar .byte (p0.toInt8.toInt32)))).toInt % 64).toNat)), .val (.ref (f189 ((((31 : Int32) + (nar .byte (p0.toInt8.toInt32)))).toInt % 64).toNat)), .val (.ref (f189 ((((31 : Int32) + (nar .byte xv))).toInt % 64).toNat)), .val (.ref (f189 ((((31 : Int32) + (nar .byte yv))).toInt % 64).toNat))] [])) _
      refine XS.aload X218.here hx rfl (hb hby at_169) rfl rfl ?_
      show Steps p.tables e below (T218.setTop (mkF m 171 #[.val (.int p0), .val (.int p1), .val (.int p2), .val (.int p3), .val (.int (1 : Int32)), .val (.ref b105), .val (.ref b107), .val (.int xv), .val (.int yv), .val (.ref b131), .val (.ref b139), .val (.ref b172), .val (.ref (f189 ((((31 : Int32) + (nar .byte (p0.toInt8.toInt32)))).toInt % 64).toNat)), .val (.ref (f189 ((((31 : Int32) + (nar .byte (p0.toInt8.toInt32)))).toInt % 64).toNat)), .val (.ref (f189 ((((31 : Int32) + (nar .byte (p0.toInt8.toInt32)))).toInt % 64).toNat)), .val (.ref (f189 ((((31 : Int32) + (nar .byte xv))).toInt % 64).toNat)), .val (.ref (f189 ((((31 : Int32) + (nar .byte yv))).toInt % 64).toNat))] [(.ref (f189 ((((31 : Int32) + (nar .byte (p0.toInt8.toInt32)))).toInt % 64).toNat))])) _
      refine XS.ifnullNo X218.here hx rfl (hb hby at_171) rfl ?_
      show Steps p.tables e below (T218.setTop (mkF m 174 #[.val (.int p0), .val (.int p1), .val (.int p2), .val (.int p3), .val (.int (1 : Int32)), .val (.ref b105), .val (.ref b107), .val (.int xv), .val (.int yv), .val (.ref b131), .val (.ref b139), .val (.ref b172), .val (.ref (f189 ((((31 : Int32) + (nar .byte (p0.toInt8.toInt32)))).toInt % 64).toNat)), .val (.ref (f189 ((((31 : Int32) + (nar .byte (p0.toInt8.toInt32)))).toInt % 64).toNat)), .val (.ref (f189 ((((31 : Int32) + (nar .byte (p0.toInt8.toInt32)))).toInt % 64).toNat)), .val (.ref (f189 ((((31 : Int32) + (nar .byte xv))).toInt % 64).toNat)), .val (.ref (f189 ((((31 : Int32) + (nar .byte yv))).toInt % 64).toNat))] [])) _
      refine XS.aload X218.here hx rfl (hb hby at_174) rfl rfl ?_
      show Steps p.tables e below (T218.setTop (mkF m 176 #[.val (.int p0), .val (.int p1), .val (.int p2), .val (.int p3), .val (.int (1 : Int32)), .val (.ref b105), .val (.ref b107), .val (.int xv), .val (.int yv), .val (.ref b131), .val (.ref b139), .val (.ref b172), .val (.ref (f189 ((((31 : Int32) + (nar .byte (p0.toInt8.toInt32)))).toInt % 64).toNat)), .val (.ref (f189 ((((31 : Int32) + (nar .byte (p0.toInt8.toInt32)))).toInt % 64).toNat)), .val (.ref (f189 ((((31 : Int32) + (nar .byte (p0.toInt8.toInt32)))).toInt % 64).toNat)), .val (.ref (f189 ((((31 : Int32) + (nar .byte xv))).toInt % 64).toNat)), .val (.ref (f189 ((((31 : Int32) + (nar .byte yv))).toInt % 64).toNat))] [(.ref (f189 ((((31 : Int32) + (nar .byte (p0.toInt8.toInt32)))).toInt % 64).toNat))])) _
      refine XS.aload X218.here hx rfl (hb hby at_176) rfl rfl ?_
      show Steps p.tables e below (T218.setTop (mkF m 178 #[.val (.int p0), .val (.int p1), .val (.int p2), .val (.int p3), .val (.int (1 : Int32)), .val (.ref b105), .val (.ref b107), .val (.int xv), .val (.int yv), .val (.ref b131), .val (.ref b139), .val (.ref b172), .val (.ref (f189 ((((31 : Int32) + (nar .byte (p0.toInt8.toInt32)))).toInt % 64).toNat)), .val (.ref (f189 ((((31 : Int32) + (nar .byte (p0.toInt8.toInt32)))).toInt % 64).toNat)), .val (.ref (f189 ((((31 : Int32) + (nar .byte (p0.toInt8.toInt32)))).toInt % 64).toNat)), .val (.ref (f189 ((((31 : Int32) + (nar .byte xv))).toInt % 64).toNat)), .val (.ref (f189 ((((31 : Int32) + (nar .byte yv))).toInt % 64).toNat))] [(.ref (f189 ((((31 : Int32) + (nar .byte (p0.toInt8.toInt32)))).toInt % 64).toNat)), (.ref (f189 ((((31 : Int32) + (nar .byte (p0.toInt8.toInt32)))).toInt % 64).toNat))])) _
      refine Jvm.RoadKit.acmp (g := (mkF m 178 #[.val (.int p0), .val (.int p1), .val (.int p2), .val (.int p3), .val (.int (1 : Int32)), .val (.ref b105), .val (.ref b107), .val (.int xv), .val (.int yv), .val (.ref b131), .val (.ref b139), .val (.ref b172), .val (.ref (f189 ((((31 : Int32) + (nar .byte (p0.toInt8.toInt32)))).toInt % 64).toNat)), .val (.ref (f189 ((((31 : Int32) + (nar .byte (p0.toInt8.toInt32)))).toInt % 64).toNat)), .val (.ref (f189 ((((31 : Int32) + (nar .byte (p0.toInt8.toInt32)))).toInt % 64).toNat)), .val (.ref (f189 ((((31 : Int32) + (nar .byte xv))).toInt % 64).toNat)), .val (.ref (f189 ((((31 : Int32) + (nar .byte yv))).toInt % 64).toNat))] [(.ref (f189 ((((31 : Int32) + (nar .byte (p0.toInt8.toInt32)))).toInt % 64).toNat)), (.ref (f189 ((((31 : Int32) + (nar .byte (p0.toInt8.toInt32)))).toInt % 64).toNat))])) X218 hx rfl rfl rfl (pc0 := 178) (pc' := 181) (same := true) rfl (hb hby at_178) rfl (decide_eq_true rfl) (by decide) (by decide) ?_
      show Steps p.tables e below (T218.setTop (mkF m 181 #[.val (.int p0), .val (.int p1), .val (.int p2), .val (.int p3), .val (.int (1 : Int32)), .val (.ref b105), .val (.ref b107), .val (.int xv), .val (.int yv), .val (.ref b131), .val (.ref b139), .val (.ref b172), .val (.ref (f189 ((((31 : Int32) + (nar .byte (p0.toInt8.toInt32)))).toInt % 64).toNat)), .val (.ref (f189 ((((31 : Int32) + (nar .byte (p0.toInt8.toInt32)))).toInt % 64).toNat)), .val (.ref (f189 ((((31 : Int32) + (nar .byte (p0.toInt8.toInt32)))).toInt % 64).toNat)), .val (.ref (f189 ((((31 : Int32) + (nar .byte xv))).toInt % 64).toNat)), .val (.ref (f189 ((((31 : Int32) + (nar .byte yv))).toInt % 64).toNat))] [])) _
      refine XS.aload X218.here hx rfl (hb hby at_181) rfl rfl ?_
      show Steps p.tables e below (T218.setTop (mkF m 183 #[.val (.int p0), .val (.int p1), .val (.int p2), .val (.int p3), .val (.int (1 : Int32)), .val (.ref b105), .val (.ref b107), .val (.int xv), .val (.int yv), .val (.ref b131), .val (.ref b139), .val (.ref b172), .val (.ref (f189 ((((31 : Int32) + (nar .byte (p0.toInt8.toInt32)))).toInt % 64).toNat)), .val (.ref (f189 ((((31 : Int32) + (nar .byte (p0.toInt8.toInt32)))).toInt % 64).toNat)), .val (.ref (f189 ((((31 : Int32) + (nar .byte (p0.toInt8.toInt32)))).toInt % 64).toNat)), .val (.ref (f189 ((((31 : Int32) + (nar .byte xv))).toInt % 64).toNat)), .val (.ref (f189 ((((31 : Int32) + (nar .byte yv))).toInt % 64).toNat))] [(.ref (f189 ((((31 : Int32) + (nar .byte (p0.toInt8.toInt32)))).toInt % 64).toNat))])) _
      refine XS.aload X218.here hx rfl (hb hby at_183) rfl rfl ?_
      show Steps p.tables e below (T218.setTop (mkF m 185 #[.val (.int p0), .val (.int p1), .val (.int p2), .val (.int p3), .val (.int (1 : Int32)), .val (.ref b105), .val (.ref b107), .val (.int xv), .val (.int yv), .val (.ref b131), .val (.ref b139), .val (.ref b172), .val (.ref (f189 ((((31 : Int32) + (nar .byte (p0.toInt8.toInt32)))).toInt % 64).toNat)), .val (.ref (f189 ((((31 : Int32) + (nar .byte (p0.toInt8.toInt32)))).toInt % 64).toNat)), .val (.ref (f189 ((((31 : Int32) + (nar .byte (p0.toInt8.toInt32)))).toInt % 64).toNat)), .val (.ref (f189 ((((31 : Int32) + (nar .byte xv))).toInt % 64).toNat)), .val (.ref (f189 ((((31 : Int32) + (nar .byte yv))).toInt % 64).toNat))] [(.ref (f189 ((((31 : Int32) + (nar .byte (p0.toInt8.toInt32)))).toInt % 64).toNat)), (.ref (f189 ((((31 : Int32) + (nar .byte (p0.toInt8.toInt32)))).toInt % 64).toNat))])) _
      refine Jvm.RoadKit.acmp (g := (mkF m 185 #[.val (.int p0), .val (.int p1), .val (.int p2), .val (.int p3), .val (.int (1 : Int32)), .val (.ref b105), .val (.ref b107), .val (.int xv), .val (.int yv), .val (.ref b131), .val (.ref b139), .val (.ref b172), .val (.ref (f189 ((((31 : Int32) + (nar .byte (p0.toInt8.toInt32)))).toInt % 64).toNat)), .val (.ref (f189 ((((31 : Int32) + (nar .byte (p0.toInt8.toInt32)))).toInt % 64).toNat)), .val (.ref (f189 ((((31 : Int32) + (nar .byte (p0.toInt8.toInt32)))).toInt % 64).toNat)), .val (.ref (f189 ((((31 : Int32) + (nar .byte xv))).toInt % 64).toNat)), .val (.ref (f189 ((((31 : Int32) + (nar .byte yv))).toInt % 64).toNat))] [(.ref (f189 ((((31 : Int32) + (nar .byte (p0.toInt8.toInt32)))).toInt % 64).toNat)), (.ref (f189 ((((31 : Int32) + (nar .byte (p0.toInt8.toInt32)))).toInt % 64).toNat))])) X218 hx rfl rfl rfl (pc0 := 185) (pc' := 188) (same := true) rfl (hb hby at_185) rfl (decide_eq_true rfl) (by decide) (by decide) ?_
      show Steps p.tables e below (T218.setTop (mkF m 188 #[.val (.int p0), .val (.int p1), .val (.int p2), .val (.int p3), .val (.int (1 : Int32)), .val (.ref b105), .val (.ref b107), .val (.int xv), .val (.int yv), .val (.ref b131), .val (.ref b139), .val (.ref b172), .val (.ref (f189 ((((31 : Int32) + (nar .byte (p0.toInt8.toInt32)))).toInt % 64).toNat)), .val (.ref (f189 ((((31 : Int32) + (nar .byte (p0.toInt8.toInt32)))).toInt % 64).toNat)), .val (.ref (f189 ((((31 : Int32) + (nar .byte (p0.toInt8.toInt32)))).toInt % 64).toNat)), .val (.ref (f189 ((((31 : Int32) + (nar .byte xv))).toInt % 64).toNat)), .val (.ref (f189 ((((31 : Int32) + (nar .byte yv))).toInt % 64).toNat))] [])) _
      refine XS.aload X218.here hx rfl (hb hby at_188) rfl rfl ?_
      show Steps p.tables e below (T218.setTop (mkF m 190 #[.val (.int p0), .val (.int p1), .val (.int p2), .val (.int p3), .val (.int (1 : Int32)), .val (.ref b105), .val (.ref b107), .val (.int xv), .val (.int yv), .val (.ref b131), .val (.ref b139), .val (.ref b172), .val (.ref (f189 ((((31 : Int32) + (nar .byte (p0.toInt8.toInt32)))).toInt % 64).toNat)), .val (.ref (f189 ((((31 : Int32) + (nar .byte (p0.toInt8.toInt32)))).toInt % 64).toNat)), .val (.ref (f189 ((((31 : Int32) + (nar .byte (p0.toInt8.toInt32)))).toInt % 64).toNat)), .val (.ref (f189 ((((31 : Int32) + (nar .byte xv))).toInt % 64).toNat)), .val (.ref (f189 ((((31 : Int32) + (nar .byte yv))).toInt % 64).toNat))] [(.ref (f189 ((((31 : Int32) + (nar .byte xv))).toInt % 64).toNat))])) _
      refine XS.ifnullNo X218.here hx rfl (hb hby at_190) rfl ?_
      show Steps p.tables e below (T218.setTop (mkF m 193 #[.val (.int p0), .val (.int p1), .val (.int p2), .val (.int p3), .val (.int (1 : Int32)), .val (.ref b105), .val (.ref b107), .val (.int xv), .val (.int yv), .val (.ref b131), .val (.ref b139), .val (.ref b172), .val (.ref (f189 ((((31 : Int32) + (nar .byte (p0.toInt8.toInt32)))).toInt % 64).toNat)), .val (.ref (f189 ((((31 : Int32) + (nar .byte (p0.toInt8.toInt32)))).toInt % 64).toNat)), .val (.ref (f189 ((((31 : Int32) + (nar .byte (p0.toInt8.toInt32)))).toInt % 64).toNat)), .val (.ref (f189 ((((31 : Int32) + (nar .byte xv))).toInt % 64).toNat)), .val (.ref (f189 ((((31 : Int32) + (nar .byte yv))).toInt % 64).toNat))] [])) _
      refine XS.aload X218.here hx rfl (hb hby at_193) rfl rfl ?_
      show Steps p.tables e below (T218.setTop (mkF m 195 #[.val (.int p0), .val (.int p1), .val (.int p2), .val (.int p3), .val (.int (1 : Int32)), .val (.ref b105), .val (.ref b107), .val (.int xv), .val (.int yv), .val (.ref b131), .val (.ref b139), .val (.ref b172), .val (.ref (f189 ((((31 : Int32) + (nar .byte (p0.toInt8.toInt32)))).toInt % 64).toNat)), .val (.ref (f189 ((((31 : Int32) + (nar .byte (p0.toInt8.toInt32)))).toInt % 64).toNat)), .val (.ref (f189 ((((31 : Int32) + (nar .byte (p0.toInt8.toInt32)))).toInt % 64).toNat)), .val (.ref (f189 ((((31 : Int32) + (nar .byte xv))).toInt % 64).toNat)), .val (.ref (f189 ((((31 : Int32) + (nar .byte yv))).toInt % 64).toNat))] [(.ref (f189 ((((31 : Int32) + (nar .byte yv))).toInt % 64).toNat))])) _
      refine XS.ifnullNo X218.here hx rfl (hb hby at_195) rfl ?_
      show Steps p.tables e below (T218.setTop (mkF m 198 #[.val (.int p0), .val (.int p1), .val (.int p2), .val (.int p3), .val (.int (1 : Int32)), .val (.ref b105), .val (.ref b107), .val (.int xv), .val (.int yv), .val (.ref b131), .val (.ref b139), .val (.ref b172), .val (.ref (f189 ((((31 : Int32) + (nar .byte (p0.toInt8.toInt32)))).toInt % 64).toNat)), .val (.ref (f189 ((((31 : Int32) + (nar .byte (p0.toInt8.toInt32)))).toInt % 64).toNat)), .val (.ref (f189 ((((31 : Int32) + (nar .byte (p0.toInt8.toInt32)))).toInt % 64).toNat)), .val (.ref (f189 ((((31 : Int32) + (nar .byte xv))).toInt % 64).toNat)), .val (.ref (f189 ((((31 : Int32) + (nar .byte yv))).toInt % 64).toNat))] [])) _
      refine XS.aload X218.here hx rfl (hb hby at_198) rfl rfl ?_
      show Steps p.tables e below (T218.setTop (mkF m 200 #[.val (.int p0), .val (.int p1), .val (.int p2), .val (.int p3), .val (.int (1 : Int32)), .val (.ref b105), .val (.ref b107), .val (.int xv), .val (.int yv), .val (.ref b131), .val (.ref b139), .val (.ref b172), .val (.ref (f189 ((((31 : Int32) + (nar .byte (p0.toInt8.toInt32)))).toInt % 64).toNat)), .val (.ref (f189 ((((31 : Int32) + (nar .byte (p0.toInt8.toInt32)))).toInt % 64).toNat)), .val (.ref (f189 ((((31 : Int32) + (nar .byte (p0.toInt8.toInt32)))).toInt % 64).toNat)), .val (.ref (f189 ((((31 : Int32) + (nar .byte xv))).toInt % 64).toNat)), .val (.ref (f189 ((((31 : Int32) + (nar .byte yv))).toInt % 64).toNat))] [(.ref (f189 ((((31 : Int32) + (nar .byte xv))).toInt % 64).toNat))])) _
      refine XS.aload X218.here hx rfl (hb hby at_200) rfl rfl ?_
      show Steps p.tables e below (T218.setTop (mkF m 202 #[.val (.int p0), .val (.int p1), .val (.int p2), .val (.int p3), .val (.int (1 : Int32)), .val (.ref b105), .val (.ref b107), .val (.int xv), .val (.int yv), .val (.ref b131), .val (.ref b139), .val (.ref b172), .val (.ref (f189 ((((31 : Int32) + (nar .byte (p0.toInt8.toInt32)))).toInt % 64).toNat)), .val (.ref (f189 ((((31 : Int32) + (nar .byte (p0.toInt8.toInt32)))).toInt % 64).toNat)), .val (.ref (f189 ((((31 : Int32) + (nar .byte (p0.toInt8.toInt32)))).toInt % 64).toNat)), .val (.ref (f189 ((((31 : Int32) + (nar .byte xv))).toInt % 64).toNat)), .val (.ref (f189 ((((31 : Int32) + (nar .byte yv))).toInt % 64).toNat))] [(.ref (f189 ((((31 : Int32) + (nar .byte yv))).toInt % 64).toNat)), (.ref (f189 ((((31 : Int32) + (nar .byte xv))).toInt % 64).toNat))])) _
      refine Jvm.RoadKit.acmp (g := (mkF m 202 #[.val (.int p0), .val (.int p1), .val (.int p2), .val (.int p3), .val (.int (1 : Int32)), .val (.ref b105), .val (.ref b107), .val (.int xv), .val (.int yv), .val (.ref b131), .val (.ref b139), .val (.ref b172), .val (.ref (f189 ((((31 : Int32) + (nar .byte (p0.toInt8.toInt32)))).toInt % 64).toNat)), .val (.ref (f189 ((((31 : Int32) + (nar .byte (p0.toInt8.toInt32)))).toInt % 64).toNat)), .val (.ref (f189 ((((31 : Int32) + (nar .byte (p0.toInt8.toInt32)))).toInt % 64).toNat)), .val (.ref (f189 ((((31 : Int32) + (nar .byte xv))).toInt % 64).toNat)), .val (.ref (f189 ((((31 : Int32) + (nar .byte yv))).toInt % 64).toNat))] [(.ref (f189 ((((31 : Int32) + (nar .byte yv))).toInt % 64).toNat)), (.ref (f189 ((((31 : Int32) + (nar .byte xv))).toInt % 64).toNat))])) X218 hx rfl rfl rfl (pc0 := 202) (pc' := 205) (same := false) rfl (hb hby at_202) rfl (decide_eq_false fun q => ha202_220 (Value.ref.inj q)) (by decide) (by decide) ?_
      show Steps p.tables e below (T218.setTop (mkF m 205 #[.val (.int p0), .val (.int p1), .val (.int p2), .val (.int p3), .val (.int (1 : Int32)), .val (.ref b105), .val (.ref b107), .val (.int xv), .val (.int yv), .val (.ref b131), .val (.ref b139), .val (.ref b172), .val (.ref (f189 ((((31 : Int32) + (nar .byte (p0.toInt8.toInt32)))).toInt % 64).toNat)), .val (.ref (f189 ((((31 : Int32) + (nar .byte (p0.toInt8.toInt32)))).toInt % 64).toNat)), .val (.ref (f189 ((((31 : Int32) + (nar .byte (p0.toInt8.toInt32)))).toInt % 64).toNat)), .val (.ref (f189 ((((31 : Int32) + (nar .byte xv))).toInt % 64).toNat)), .val (.ref (f189 ((((31 : Int32) + (nar .byte yv))).toInt % 64).toNat))] [])) _
      refine XS.iconst X218.here hx rfl (hb hby at_205) ?_
      show Steps p.tables e below (T218.setTop (mkF m 206 #[.val (.int p0), .val (.int p1), .val (.int p2), .val (.int p3), .val (.int (1 : Int32)), .val (.ref b105), .val (.ref b107), .val (.int xv), .val (.int yv), .val (.ref b131), .val (.ref b139), .val (.ref b172), .val (.ref (f189 ((((31 : Int32) + (nar .byte (p0.toInt8.toInt32)))).toInt % 64).toNat)), .val (.ref (f189 ((((31 : Int32) + (nar .byte (p0.toInt8.toInt32)))).toInt % 64).toNat)), .val (.ref (f189 ((((31 : Int32) + (nar .byte (p0.toInt8.toInt32)))).toInt % 64).toNat)), .val (.ref (f189 ((((31 : Int32) + (nar .byte xv))).toInt % 64).toNat)), .val (.ref (f189 ((((31 : Int32) + (nar .byte yv))).toInt % 64).toNat))] [(.int (1 : Int32))])) _
      refine XS.goto X218.here hx rfl (pc0 := 206) (pc' := 210) rfl (hb hby at_206) (by decide) (by decide) ?_
      show Steps p.tables e below (T218.setTop (mkF m 210 #[.val (.int p0), .val (.int p1), .val (.int p2), .val (.int p3), .val (.int (1 : Int32)), .val (.ref b105), .val (.ref b107), .val (.int xv), .val (.int yv), .val (.ref b131), .val (.ref b139), .val (.ref b172), .val (.ref (f189 ((((31 : Int32) + (nar .byte (p0.toInt8.toInt32)))).toInt % 64).toNat)), .val (.ref (f189 ((((31 : Int32) + (nar .byte (p0.toInt8.toInt32)))).toInt % 64).toNat)), .val (.ref (f189 ((((31 : Int32) + (nar .byte (p0.toInt8.toInt32)))).toInt % 64).toNat)), .val (.ref (f189 ((((31 : Int32) + (nar .byte xv))).toInt % 64).toNat)), .val (.ref (f189 ((((31 : Int32) + (nar .byte yv))).toInt % 64).toNat))] [(.int (1 : Int32))])) _
      exact retN X218 hx (t := .boolean) Bd.returns (by simp) (hb hby at_210) hr
    · show Q0 Z p0 p1 p2 p3 h0 n0 _ T218.heap _
      rw [R219]
      exact ⟨rfl, N218⟩
  · obtain ⟨T221, h221, k221, X221, e221, E221, A221, Y221, st221⟩ := newPE X0 hx hZ (hw _ (List.mem_of_getElem? (i := 0) rfl)) e0 (g := (mkF m 7 #[.val (.int p0), .val (.int p1), .val (.int p2), .val (.int p3), .val (.int (2 : Int32)), .unset, .unset, .unset, .unset, .unset, .unset, .unset, .unset, .unset, .unset, .unset, .unset] [(.int (2 : Int32))])) rfl (hb hby at_7) rfl (by decide) (cap := 2) (by decide) (by decide) (by decide) (by decide) (ad := "[B") (by decide)
    obtain ⟨b221, g221⟩ : ∃ z, z = h0.size := ⟨_, rfl⟩
    rw [← g221] at A221 st221 Y221
    have g_b221 : n0 ≤ b221 := Nat.le_trans Z0 (Nat.le_of_eq g221.symm)
    have Z222 : n0 ≤ h221.size := Nat.le_trans Z0 E221.1
    have V221 : Arv Z h221 b221 k221 .byte (2 : Int32) [(.int (0 : Int32)), (.int (0 : Int32))] (.int (0 : Int32)) := (Arv.new A221 (by decide)).pad (pad_rep [] (.int (0 : Int32)) 2)
    obtain ⟨T223, h223, k223, X223, e223, E223, A223, Y223, st223⟩ := newPE X221 hx hZ (hw _ (List.mem_of_getElem? (i := 0) rfl)) e221 (g := (mkF m 13 #[.val (.int p0), .val (.int p1), .val (.int p2), .val (.int p3), .val (.int (2 : Int32)), .val (.ref b221), .unset, .unset, .unset, .unset, .unset, .unset, .unset, .unset, .unset, .unset, .unset] [(.int (2 : Int32))])) rfl (hb hby at_13) rfl (by decide) (cap := 2) (by decide) (by decide) (by decide) (by decide) (ad := "[B") (by decide)
    obtain ⟨b223, g223⟩ : ∃ z, z = h221.size := ⟨_, rfl⟩
    rw [← g223] at A223 st223 Y223
    have ne224 : b221 ≠ b223 := Nat.ne_of_lt (Nat.lt_of_lt_of_le Y221.lt (Nat.le_of_eq g223.symm))
    have g_b223 : n0 ≤ b223 := Nat.le_trans Z222 (Nat.le_of_eq g223.symm)
    have F225 : Exa Z h223 b221 "[B" := Y221.ext E223
    have F226 : Arv Z h223 b221 k221 .byte (2 : Int32) [(.int (0 : Int32)), (.int (0 : Int32))] (.int (0 : Int32)) := V221.ext E223
    have Z227 : n0 ≤ h223.size := Nat.le_trans Z222 E223.1
    have V223 : Arv Z h223 b223 k223 .byte (2 : Int32) [(.int (0 : Int32)), (.int (0 : Int32))] (.int (0 : Int32)) := (Arv.new A223 (by decide)).pad (pad_rep [] (.int (0 : Int32)) 2)
    obtain ⟨co228, Ao228, qo228, So228, Mo228, Bo228, Go228⟩ := id F226
    obtain ⟨T229, h229, X229, e229, W229, st229⟩ := stB X223 hx hZ e223 Ao228 (j := (0 : Int32)) (inb_of So228 ⟨(by decide), (by decide)⟩) (g := (mkF m 27 #[.val (.int p0), .val (.int p1), .val (.int p2), .val (.int p3), .val (.int (2 : Int32)), .val (.ref b221), .val (.ref b223), .unset, .unset, .unset, .unset, .unset, .unset, .unset, .unset, .unset, .unset] [(.int (p0.toInt8.toInt32)), (.int (0 : Int32)), (.ref b221)])) rfl rfl (hb hby at_27)
    have V229 : Arv Z h229 b221 k221 .byte (2 : Int32) [(.int (nar .byte (p0.toInt8.toInt32))), (.int (0 : Int32))] (.int (0 : Int32)) := Arv.set Ao228 qo228 So228 Mo228 Bo228 Go228 (fits_nar_byte _) W229 0 rfl (Nat.le_of_ble_eq_true rfl)
    have F230 : Exa Z h229 b221 "[B" := F225.wr W229
    have F231 : Exa Z h229 b223 "[B" := Y223.wr W229
    have F232 : Arv Z h229 b223 k223 .byte (2 : Int32) [(.int (0 : Int32)), (.int (0 : Int32))] (.int (0 : Int32)) := V223.other W229 (Ne.symm ne224)
    have Z233 : n0 ≤ h229.size := Nat.le_trans Z227 (Keep.of_wr W229).1
    have N234 := Fr.snoc X229 N0 g_b221
    obtain ⟨co235, Ao235, qo235, So235, Mo235, Bo235, Go235⟩ := id F232
    obtain ⟨T236, h236, X236, e236, W236, st236⟩ := stB X229 hx hZ e229 Ao235 (j := (0 : Int32)) (inb_of So235 ⟨(by decide), (by decide)⟩) (g := (mkF m 33 #[.val (.int p0), .val (.int p1), .val (.int p2), .val (.int p3), .val (.int (2 : Int32)), .val (.ref b221), .val (.ref b223), .unset, .unset, .unset, .unset, .unset, .unset, .unset, .unset, .unset, .unset] [(.int (p0.toInt8.toInt32)), (.int (0 : Int32)), (.ref b223)])) rfl rfl (hb hby at_33)
    have V236 : Arv Z h236 b223 k223 .byte (2 : Int32) [(.int (nar .byte (p0.toInt8.toInt32))), (.int (0 : Int32))] (.int (0 : Int32)) := Arv.set Ao235 qo235 So235 Mo235 Bo235 Go235 (fits_nar_byte _) W236 0 rfl (Nat.le_of_ble_eq_true rfl)
    have F237 : Exa Z h236 b221 "[B" := F230.wr W236
    have F238 : Exa Z h236 b223 "[B" := F231.wr W236
    have F239 : Arv Z h236 b221 k221 .byte (2 : Int32) [(.int (nar .byte (p0.toInt8.toInt32))), (.int (0 : Int32))] (.int (0 : Int32)) := V229.other W236 ne224
    have Z240 : n0 ≤ h236.size := Nat.le_trans Z233 (Keep.of_wr W236).1
    have N241 := Fr.snoc X236 N234 g_b223
    obtain ⟨co242, Ao242, qo242, So242, Mo242, Bo242, Go242⟩ := id F239
    obtain ⟨T243, h243, X243, e243, W243, st243⟩ := stB X236 hx hZ e236 Ao242 (j := (1 : Int32)) (inb_of So242 ⟨(by decide), (by decide)⟩) (g := (mkF m 45 #[.val (.int p0), .val (.int p1), .val (.int p2), .val (.int p3), .val (.int (2 : Int32)), .val (.ref b221), .val (.ref b223), .unset, .unset, .unset, .unset, .unset, .unset, .unset, .unset, .unset, .unset] [(.int (p1.toInt8.toInt32)), (.int (1 : Int32)), (.ref b221)])) rfl rfl (hb hby at_45)
    have V243 : Arv Z h243 b221 k221 .byte (2 : Int32) [(.int (nar .byte (p0.toInt8.toInt32))), (.int (nar .byte (p1.toInt8.toInt32)))] (.int (0 : Int32)) := Arv.set Ao242 qo242 So242 Mo242 Bo242 Go242 (fits_nar_byte _) W243 1 rfl (Nat.le_of_ble_eq_true rfl)
    have F244 : Exa Z h243 b221 "[B" := F237.wr W243
    have F245 : Exa Z h243 b223 "[B" := F238.wr W243
    have F246 : Arv Z h243 b223 k223 .byte (2 : Int32) [(.int (nar .byte (p0.toInt8.toInt32))), (.int (0 : Int32))] (.int (0 : Int32)) := V236.other W243 (Ne.symm ne224)
    have Z247 : n0 ≤ h243.size := Nat.le_trans Z240 (Keep.of_wr W243).1
    have N248 := Fr.snoc X243 N241 g_b221
    obtain ⟨co249, Ao249, qo249, So249, Mo249, Bo249, Go249⟩ := id F246
    obtain ⟨T250, h250, X250, e250, W250, st250⟩ := stB X243 hx hZ e243 Ao249 (j := (1 : Int32)) (inb_of So249 ⟨(by decide), (by decide)⟩) (g := (mkF m 51 #[.val (.int p0), .val (.int p1), .val (.int p2), .val (.int p3), .val (.int (2 : Int32)), .val (.ref b221), .val (.ref b223), .unset, .unset, .unset, .unset, .unset, .unset, .unset, .unset, .unset, .unset] [(.int (p1.toInt8.toInt32)), (.int (1 : Int32)), (.ref b223)])) rfl rfl (hb hby at_51)
    have V250 : Arv Z h250 b223 k223 .byte (2 : Int32) [(.int (nar .byte (p0.toInt8.toInt32))), (.int (nar .byte (p1.toInt8.toInt32)))] (.int (0 : Int32)) := Arv.set Ao249 qo249 So249 Mo249 Bo249 Go249 (fits_nar_byte _) W250 1 rfl (Nat.le_of_ble_eq_true rfl)
    have F251 : Exa Z h250 b221 "[B" := F244.wr W250
    have F252 : Exa Z h250 b223 "[B" := F245.wr W250
    have F253 : Arv Z h250 b221 k221 .byte (2 : Int32) [(.int (nar .byte (p0.toInt8.toInt32))), (.int (nar .byte (p1.toInt8.toInt32)))] (.int (0 : Int32)) := V243.other W250 ne224
    have Z254 : n0 ≤ h250.size := Nat.le_trans Z247 (Keep.of_wr W250).1
    have N255 := Fr.snoc X250 N248 g_b223
    have P256 : ∀ t, Steps p.tables e below (T250.setTop (mkF m 74 #[.val (.int p0), .val (.int p1), .val (.int p2), .val (.int p3), .val (.int (2 : Int32)), .val (.ref b221), .val (.ref b223), .val (.int (p0.toInt8.toInt32)), .unset, .unset, .unset, .unset, .unset, .unset, .unset, .unset, .unset] [])) t → Steps p.tables e below (s₁.setTop (entryFrame m #[(.int p0), (.int p1), (.int p2), (.int p3)] maxLocals)) t := by
      intro t k
      refine P2 t ?_
      show Steps p.tables e below (s₁.setTop (mkF m 5 #[.val (.int p0), .val (.int p1), .val (.int p2), .val (.int p3), .val (.int (2 : Int32)), .unset, .unset, .unset, .unset, .unset, .unset, .unset, .unset, .unset, .unset, .unset, .unset] [])) _
      refine XS.iload X0.here hx rfl (hb hby at_5) rfl ?_
      show Steps p.tables e below (s₁.setTop (mkF m 7 #[.val (.int p0), .val (.int p1), .val (.int p2), .val (.int p3), .val (.int (2 : Int32)), .unset, .unset, .unset, .unset, .unset, .unset, .unset, .unset, .unset, .unset, .unset, .unset] [(.int (2 : Int32))])) _
      refine st221 _ ?_
      show Steps p.tables e below (T221.setTop (mkF m 9 #[.val (.int p0), .val (.int p1), .val (.int p2), .val (.int p3), .val (.int (2 : Int32)), .unset, .unset, .unset, .unset, .unset, .unset, .unset, .unset, .unset, .unset, .unset, .unset] [(.ref b221)])) _
      refine XS.astore X221.here hx rfl (hb hby at_9) rfl rfl (l' := #[.val (.int p0), .val (.int p1), .val (.int p2), .val (.int p3), .val (.int (2 : Int32)), .val (.ref b221), .unset, .unset, .unset, .unset, .unset, .unset, .unset, .unset, .unset, .unset, .unset]) rfl ?_
      show Steps p.tables e below (T221.setTop (mkF m 11 #[.val (.int p0), .val (.int p1), .val (.int p2), .val (.int p3), .val (.int (2 : Int32)), .val (.ref b221), .unset, .unset, .unset, .unset, .unset, .unset, .unset, .unset, .unset, .unset, .unset] [])) _
      refine XS.iload X221.here hx rfl (hb hby at_11) rfl ?_
      show Steps p.tables e below (T221.setTop (mkF m 13 #[.val (.int p0), .val (.int p1), .val (.int p2), .val (.int p3), .val (.int (2 : Int32)), .val (.ref b221), .unset, .unset, .unset, .unset, .unset, .unset, .unset, .unset, .unset, .unset, .unset] [(.int (2 : Int32))])) _
      refine st223 _ ?_
      show Steps p.tables e below (T223.setTop (mkF m 15 #[.val (.int p0), .val (.int p1), .val (.int p2), .val (.int p3), .val (.int (2 : Int32)), .val (.ref b221), .unset, .unset, .unset, .unset, .unset, .unset, .unset, .unset, .unset, .unset, .unset] [(.ref b223)])) _
      refine XS.astore X223.here hx rfl (hb hby at_15) rfl rfl (l' := #[.val (.int p0), .val (.int p1), .val (.int p2), .val (.int p3), .val (.int (2 : Int32)), .val (.ref b221), .val (.ref b223), .unset, .unset, .unset, .unset, .unset, .unset, .unset, .unset, .unset, .unset]) rfl ?_
      show Steps p.tables e below (T223.setTop (mkF m 17 #[.val (.int p0), .val (.int p1), .val (.int p2), .val (.int p3), .val (.int (2 : Int32)), .val (.ref b221), .val (.ref b223), .unset, .unset, .unset, .unset, .unset, .unset, .unset, .unset, .unset, .unset] [])) _
      refine XS.iload X223.here hx rfl (hb hby at_17) rfl ?_
      show Steps p.tables e below (T223.setTop (mkF m 19 #[.val (.int p0), .val (.int p1), .val (.int p2), .val (.int p3), .val (.int (2 : Int32)), .val (.ref b221), .val (.ref b223), .unset, .unset, .unset, .unset, .unset, .unset, .unset, .unset, .unset, .unset] [(.int (2 : Int32))])) _
      refine XS.ifNo X223.here hx rfl (hb hby at_19) rfl ((if0 _ _).trans (tlt (by decide : (0 : Int32) < (2 : Int32))).2.2.2) ?_
      show Steps p.tables e below (T223.setTop (mkF m 22 #[.val (.int p0), .val (.int p1), .val (.int p2), .val (.int p3), .val (.int (2 : Int32)), .val (.ref b221), .val (.ref b223), .unset, .unset, .unset, .unset, .unset, .unset, .unset, .unset, .unset, .unset] [])) _
      refine XS.aload X223.here hx rfl (hb hby at_22) rfl rfl ?_
      show Steps p.tables e below (T223.setTop (mkF m 24 #[.val (.int p0), .val (.int p1), .val (.int p2), .val (.int p3), .val (.int (2 : Int32)), .val (.ref b221), .val (.ref b223), .unset, .unset, .unset, .unset, .unset, .unset, .unset, .unset, .unset, .unset] [(.ref b221)])) _
      refine XS.iconst X223.here hx rfl (hb hby at_24) ?_
      show Steps p.tables e below (T223.setTop (mkF m 25 #[.val (.int p0), .val (.int p1), .val (.int p2), .val (.int p3), .val (.int (2 : Int32)), .val (.ref b221), .val (.ref b223), .unset, .unset, .unset, .unset, .unset, .unset, .unset, .unset, .unset, .unset] [(.int (0 : Int32)), (.ref b221)])) _
      refine XS.iloadN X223.here hx rfl (hb hby at_25) rfl ?_
      show Steps p.tables e below (T223.setTop (mkF m 26 #[.val (.int p0), .val (.int p1), .val (.int p2), .val (.int p3), .val (.int (2 : Int32)), .val (.ref b221), .val (.ref b223), .unset, .unset, .unset, .unset, .unset, .unset, .unset, .unset, .unset, .unset] [(.int p0), (.int (0 : Int32)), (.ref b221)])) _
      refine XS.i2b X223.here hx rfl (hb hby at_26) rfl ?_
      show Steps p.tables e below (T223.setTop (mkF m 27 #[.val (.int p0), .val (.int p1), .val (.int p2), .val (.int p3), .val (.int (2 : Int32)), .val (.ref b221), .val (.ref b223), .unset, .unset, .unset, .unset, .unset, .unset, .unset, .unset, .unset, .unset] [(.int (p0.toInt8.toInt32)), (.int (0 : Int32)), (.ref b221)])) _
      refine st229 _ ?_
      show Steps p.tables e below (T229.setTop (mkF m 28 #[.val (.int p0), .val (.int p1), .val (.int p2), .val (.int p3), .val (.int (2 : Int32)), .val (.ref b221), .val (.ref b223), .unset, .unset, .unset, .unset, .unset, .unset, .unset, .unset, .unset, .unset] [])) _
      refine XS.aload X229.here hx rfl (hb hby at_28) rfl rfl ?_
      show Steps p.tables e below (T229.setTop (mkF m 30 #[.val (.int p0), .val (.int p1), .val (.int p2), .val (.int p3), .val (.int (2 : Int32)), .val (.ref b221), .val (.ref b223), .unset, .unset, .unset, .unset, .unset, .unset, .unset, .unset, .unset, .unset] [(.ref b223)])) _
      refine XS.iconst X229.here hx rfl (hb hby at_30) ?_
      show Steps p.tables e below (T229.setTop (mkF m 31 #[.val (.int p0), .val (.int p1), .val (.int p2), .val (.int p3), .val (.int (2 : Int32)), .val (.ref b221), .val (.ref b223), .unset, .unset, .unset, .unset, .unset, .unset, .unset, .unset, .unset, .unset] [(.int (0 : Int32)), (.ref b223)])) _
      refine XS.iloadN X229.here hx rfl (hb hby at_31) rfl ?_
      show Steps p.tables e below (T229.setTop (mkF m 32 #[.val (.int p0), .val (.int p1), .val (.int p2), .val (.int p3), .val (.int (2 : Int32)), .val (.ref b221), .val (.ref b223), .unset, .unset, .unset, .unset, .unset, .unset, .unset, .unset, .unset, .unset] [(.int p0), (.int (0 : Int32)), (.ref b223)])) _
      refine XS.i2b X229.here hx rfl (hb hby at_32) rfl ?_
      show Steps p.tables e below (T229.setTop (mkF m 33 #[.val (.int p0), .val (.int p1), .val (.int p2), .val (.int p3), .val (.int (2 : Int32)), .val (.ref b221), .val (.ref b223), .unset, .unset, .unset, .unset, .unset, .unset, .unset, .unset, .unset, .unset] [(.int (p0.toInt8.toInt32)), (.int (0 : Int32)), (.ref b223)])) _
      refine st236 _ ?_
      show Steps p.tables e below (T236.setTop (mkF m 34 #[.val (.int p0), .val (.int p1), .val (.int p2), .val (.int p3), .val (.int (2 : Int32)), .val (.ref b221), .val (.ref b223), .unset, .unset, .unset, .unset, .unset, .unset, .unset, .unset, .unset, .unset] [])) _
      refine XS.iload X236.here hx rfl (hb hby at_34) rfl ?_
      show Steps p.tables e below (T236.setTop (mkF m 36 #[.val (.int p0), .val (.int p1), .val (.int p2), .val (.int p3), .val (.int (2 : Int32)), .val (.ref b221), .val (.ref b223), .unset, .unset, .unset, .unset, .unset, .unset, .unset, .unset, .unset, .unset] [(.int (2 : Int32))])) _
      refine XS.iconst X236.here hx rfl (hb hby at_36) ?_
      show Steps p.tables e below (T236.setTop (mkF m 37 #[.val (.int p0), .val (.int p1), .val (.int p2), .val (.int p3), .val (.int (2 : Int32)), .val (.ref b221), .val (.ref b223), .unset, .unset, .unset, .unset, .unset, .unset, .unset, .unset, .unset, .unset] [(.int (1 : Int32)), (.int (2 : Int32))])) _
      refine XS.icmpNo X236.here hx rfl (hb hby at_37) rfl (tlt (by decide : (1 : Int32) < (2 : Int32))).2.2.2 ?_
      show Steps p.tables e below (T236.setTop (mkF m 40 #[.val (.int p0), .val (.int p1), .val (.int p2), .val (.int p3), .val (.int (2 : Int32)), .val (.ref b221), .val (.ref b223), .unset, .unset, .unset, .unset, .unset, .unset, .unset, .unset, .unset, .unset] [])) _
      refine XS.aload X236.here hx rfl (hb hby at_40) rfl rfl ?_
      show Steps p.tables e below (T236.setTop (mkF m 42 #[.val (.int p0), .val (.int p1), .val (.int p2), .val (.int p3), .val (.int (2 : Int32)), .val (.ref b221), .val (.ref b223), .unset, .unset, .unset, .unset, .unset, .unset, .unset, .unset, .unset, .unset] [(.ref b221)])) _
      refine XS.iconst X236.here hx rfl (hb hby at_42) ?_
      show Steps p.tables e below (T236.setTop (mkF m 43 #[.val (.int p0), .val (.int p1), .val (.int p2), .val (.int p3), .val (.int (2 : Int32)), .val (.ref b221), .val (.ref b223), .unset, .unset, .unset, .unset, .unset, .unset, .unset, .unset, .unset, .unset] [(.int (1 : Int32)), (.ref b221)])) _
      refine XS.iloadN X236.here hx rfl (hb hby at_43) rfl ?_
      show Steps p.tables e below (T236.setTop (mkF m 44 #[.val (.int p0), .val (.int p1), .val (.int p2), .val (.int p3), .val (.int (2 : Int32)), .val (.ref b221), .val (.ref b223), .unset, .unset, .unset, .unset, .unset, .unset, .unset, .unset, .unset, .unset] [(.int p1), (.int (1 : Int32)), (.ref b221)])) _
      refine XS.i2b X236.here hx rfl (hb hby at_44) rfl ?_
      show Steps p.tables e below (T236.setTop (mkF m 45 #[.val (.int p0), .val (.int p1), .val (.int p2), .val (.int p3), .val (.int (2 : Int32)), .val (.ref b221), .val (.ref b223), .unset, .unset, .unset, .unset, .unset, .unset, .unset, .unset, .unset, .unset] [(.int (p1.toInt8.toInt32)), (.int (1 : Int32)), (.ref b221)])) _
      refine st243 _ ?_
      show Steps p.tables e below (T243.setTop (mkF m 46 #[.val (.int p0), .val (.int p1), .val (.int p2), .val (.int p3), .val (.int (2 : Int32)), .val (.ref b221), .val (.ref b223), .unset, .unset, .unset, .unset, .unset, .unset, .unset, .unset, .unset, .unset] [])) _
      refine XS.aload X243.here hx rfl (hb hby at_46) rfl rfl ?_
      show Steps p.tables e below (T243.setTop (mkF m 48 #[.val (.int p0), .val (.int p1), .val (.int p2), .val (.int p3), .val (.int (2 : Int32)), .val (.ref b221), .val (.ref b223), .unset, .unset, .unset, .unset, .unset, .unset, .unset, .unset, .unset, .unset] [(.ref b223)])) _
      refine XS.iconst X243.here hx rfl (hb hby at_48) ?_
      show Steps p.tables e below (T243.setTop (mkF m 49 #[.val (.int p0), .val (.int p1), .val (.int p2), .val (.int p3), .val (.int (2 : Int32)), .val (.ref b221), .val (.ref b223), .unset, .unset, .unset, .unset, .unset, .unset, .unset, .unset, .unset, .unset] [(.int (1 : Int32)), (.ref b223)])) _
      refine XS.iloadN X243.here hx rfl (hb hby at_49) rfl ?_
      show Steps p.tables e below (T243.setTop (mkF m 50 #[.val (.int p0), .val (.int p1), .val (.int p2), .val (.int p3), .val (.int (2 : Int32)), .val (.ref b221), .val (.ref b223), .unset, .unset, .unset, .unset, .unset, .unset, .unset, .unset, .unset, .unset] [(.int p1), (.int (1 : Int32)), (.ref b223)])) _
      refine XS.i2b X243.here hx rfl (hb hby at_50) rfl ?_
      show Steps p.tables e below (T243.setTop (mkF m 51 #[.val (.int p0), .val (.int p1), .val (.int p2), .val (.int p3), .val (.int (2 : Int32)), .val (.ref b221), .val (.ref b223), .unset, .unset, .unset, .unset, .unset, .unset, .unset, .unset, .unset, .unset] [(.int (p1.toInt8.toInt32)), (.int (1 : Int32)), (.ref b223)])) _
      refine st250 _ ?_
      show Steps p.tables e below (T250.setTop (mkF m 52 #[.val (.int p0), .val (.int p1), .val (.int p2), .val (.int p3), .val (.int (2 : Int32)), .val (.ref b221), .val (.ref b223), .unset, .unset, .unset, .unset, .unset, .unset, .unset, .unset, .unset, .unset] [])) _
      refine XS.iload X250.here hx rfl (hb hby at_52) rfl ?_
      show Steps p.tables e below (T250.setTop (mkF m 54 #[.val (.int p0), .val (.int p1), .val (.int p2), .val (.int p3), .val (.int (2 : Int32)), .val (.ref b221), .val (.ref b223), .unset, .unset, .unset, .unset, .unset, .unset, .unset, .unset, .unset, .unset] [(.int (2 : Int32))])) _
      refine XS.iconst X250.here hx rfl (hb hby at_54) ?_
      show Steps p.tables e below (T250.setTop (mkF m 55 #[.val (.int p0), .val (.int p1), .val (.int p2), .val (.int p3), .val (.int (2 : Int32)), .val (.ref b221), .val (.ref b223), .unset, .unset, .unset, .unset, .unset, .unset, .unset, .unset, .unset, .unset] [(.int (2 : Int32)), (.int (2 : Int32))])) _
      refine XS.icmpYes X250.here hx rfl (pc0 := 55) (pc' := 70) rfl (hb hby at_55) rfl (flt (by decide : ¬ ((2 : Int32) < (2 : Int32)))).2.2.2 (by decide) (by decide) ?_
      show Steps p.tables e below (T250.setTop (mkF m 70 #[.val (.int p0), .val (.int p1), .val (.int p2), .val (.int p3), .val (.int (2 : Int32)), .val (.ref b221), .val (.ref b223), .unset, .unset, .unset, .unset, .unset, .unset, .unset, .unset, .unset, .unset] [])) _
      refine XS.iloadN X250.here hx rfl (hb hby at_70) rfl ?_
      show Steps p.tables e below (T250.setTop (mkF m 71 #[.val (.int p0), .val (.int p1), .val (.int p2), .val (.int p3), .val (.int (2 : Int32)), .val (.ref b221), .val (.ref b223), .unset, .unset, .unset, .unset, .unset, .unset, .unset, .unset, .unset, .unset] [(.int p0)])) _
      refine XS.i2b X250.here hx rfl (hb hby at_71) rfl ?_
      show Steps p.tables e below (T250.setTop (mkF m 72 #[.val (.int p0), .val (.int p1), .val (.int p2), .val (.int p3), .val (.int (2 : Int32)), .val (.ref b221), .val (.ref b223), .unset, .unset, .unset, .unset, .unset, .unset, .unset, .unset, .unset, .unset] [(.int (p0.toInt8.toInt32))])) _
      refine XS.istore X250.here hx rfl (hb hby at_72) rfl (l' := #[.val (.int p0), .val (.int p1), .val (.int p2), .val (.int p3), .val (.int (2 : Int32)), .val (.ref b221), .val (.ref b223), .val (.int (p0.toInt8.toInt32)), .unset, .unset, .unset, .unset, .unset, .unset, .unset, .unset, .unset]) rfl ?_
      exact k
    obtain ⟨xv, hxv⟩ : ∃ z : Int32, z = (p0.toInt8.toInt32) := ⟨_, rfl⟩
    have P257 : ∀ t, Steps p.tables e below (T250.setTop (mkF m 74 #[.val (.int p0), .val (.int p1), .val (.int p2), .val (.int p3), .val (.int (2 : Int32)), .val (.ref b221), .val (.ref b223), .val (.int xv), .unset, .unset, .unset, .unset, .unset, .unset, .unset, .unset, .unset] [])) t → Steps p.tables e below (s₁.setTop (entryFrame m #[(.int p0), (.int p1), (.int p2), (.int p3)] maxLocals)) t := by rw [hxv]; exact P256
    have P258 : ∀ t, Steps p.tables e below (T250.setTop (mkF m 78 #[.val (.int p0), .val (.int p1), .val (.int p2), .val (.int p3), .val (.int (2 : Int32)), .val (.ref b221), .val (.ref b223), .val (.int xv), .unset, .unset, .unset, .unset, .unset, .unset, .unset, .unset, .unset] [(.int (127 : Int32)), (.int xv)])) t → Steps p.tables e below (s₁.setTop (entryFrame m #[(.int p0), (.int p1), (.int p2), (.int p3)] maxLocals)) t := by
      intro t k
      refine P257 t ?_
      show Steps p.tables e below (T250.setTop (mkF m 74 #[.val (.int p0), .val (.int p1), .val (.int p2), .val (.int p3), .val (.int (2 : Int32)), .val (.ref b221), .val (.ref b223), .val (.int xv), .unset, .unset, .unset, .unset, .unset, .unset, .unset, .unset, .unset] [])) _
      refine XS.iload X250.here hx rfl (hb hby at_74) rfl ?_
      show Steps p.tables e below (T250.setTop (mkF m 76 #[.val (.int p0), .val (.int p1), .val (.int p2), .val (.int p3), .val (.int (2 : Int32)), .val (.ref b221), .val (.ref b223), .val (.int xv), .unset, .unset, .unset, .unset, .unset, .unset, .unset, .unset, .unset] [(.int xv)])) _
      refine XS.bipush X250.here hx rfl (hb hby at_76) ?_
      exact k
    obtain ⟨yv, hm259, P260⟩ : ∃ (yv : Int32), ((xv = (127 : Int32) ∧ yv = (126 : Int32)) ∨ (¬ (xv = (127 : Int32)) ∧ yv = ((xv + (1 : Int32)).toInt8.toInt32))) ∧ ∀ t, Steps p.tables e below (T250.setTop (mkF m 91 #[.val (.int p0), .val (.int p1), .val (.int p2), .val (.int p3), .val (.int (2 : Int32)), .val (.ref b221), .val (.ref b223), .val (.int xv), .unset, .unset, .unset, .unset, .unset, .unset, .unset, .unset, .unset] [(.int yv)])) t → Steps p.tables e below (s₁.setTop (entryFrame m #[(.int p0), (.int p1), (.int p2), (.int p3)] maxLocals)) t := by
      by_cases hd78_0 : xv = (127 : Int32)
      ·
        refine ⟨(126 : Int32), Or.inl ⟨hd78_0, rfl⟩, fun t k => ?_⟩
        refine P258 t ?_
        show Steps p.tables e below (T250.setTop (mkF m 78 #[.val (.int p0), .val (.int p1), .val (.int p2), .val (.int p3), .val (.int (2 : Int32)), .val (.ref b221), .val (.ref b223), .val (.int xv), .unset, .unset, .unset, .unset, .unset, .unset, .unset, .unset, .unset] [(.int (127 : Int32)), (.int xv)])) _
        refine XS.icmpNo X250.here hx rfl (hb hby at_78) rfl (teq hd78_0).2 ?_
        show Steps p.tables e below (T250.setTop (mkF m 81 #[.val (.int p0), .val (.int p1), .val (.int p2), .val (.int p3), .val (.int (2 : Int32)), .val (.ref b221), .val (.ref b223), .val (.int xv), .unset, .unset, .unset, .unset, .unset, .unset, .unset, .unset, .unset] [])) _
        refine XS.bipush X250.here hx rfl (hb hby at_81) ?_
        show Steps p.tables e below (T250.setTop (mkF m 83 #[.val (.int p0), .val (.int p1), .val (.int p2), .val (.int p3), .val (.int (2 : Int32)), .val (.ref b221), .val (.ref b223), .val (.int xv), .unset, .unset, .unset, .unset, .unset, .unset, .unset, .unset, .unset] [(.int (126 : Int32))])) _
        refine XS.goto X250.here hx rfl (pc0 := 83) (pc' := 91) rfl (hb hby at_83) (by decide) (by decide) ?_
        exact k
      ·
        refine ⟨((xv + (1 : Int32)).toInt8.toInt32), Or.inr (⟨hd78_0, rfl⟩), fun t k => ?_⟩
        refine P258 t ?_
        show Steps p.tables e below (T250.setTop (mkF m 78 #[.val (.int p0), .val (.int p1), .val (.int p2), .val (.int p3), .val (.int (2 : Int32)), .val (.ref b221), .val (.ref b223), .val (.int xv), .unset, .unset, .unset, .unset, .unset, .unset, .unset, .unset, .unset] [(.int (127 : Int32)), (.int xv)])) _
        refine XS.icmpYes X250.here hx rfl (pc0 := 78) (pc' := 86) rfl (hb hby at_78) rfl (feq hd78_0).2 (by decide) (by decide) ?_
        show Steps p.tables e below (T250.setTop (mkF m 86 #[.val (.int p0), .val (.int p1), .val (.int p2), .val (.int p3), .val (.int (2 : Int32)), .val (.ref b221), .val (.ref b223), .val (.int xv), .unset, .unset, .unset, .unset, .unset, .unset, .unset, .unset, .unset] [])) _
        refine XS.iload X250.here hx rfl (hb hby at_86) rfl ?_
        show Steps p.tables e below (T250.setTop (mkF m 88 #[.val (.int p0), .val (.int p1), .val (.int p2), .val (.int p3), .val (.int (2 : Int32)), .val (.ref b221), .val (.ref b223), .val (.int xv), .unset, .unset, .unset, .unset, .unset, .unset, .unset, .unset, .unset] [(.int xv)])) _
        refine XS.iconst X250.here hx rfl (hb hby at_88) ?_
        show Steps p.tables e below (T250.setTop (mkF m 89 #[.val (.int p0), .val (.int p1), .val (.int p2), .val (.int p3), .val (.int (2 : Int32)), .val (.ref b221), .val (.ref b223), .val (.int xv), .unset, .unset, .unset, .unset, .unset, .unset, .unset, .unset, .unset] [(.int (1 : Int32)), (.int xv)])) _
        refine XS.iadd X250.here hx rfl (hb hby at_89) rfl ?_
        show Steps p.tables e below (T250.setTop (mkF m 90 #[.val (.int p0), .val (.int p1), .val (.int p2), .val (.int p3), .val (.int (2 : Int32)), .val (.ref b221), .val (.ref b223), .val (.int xv), .unset, .unset, .unset, .unset, .unset, .unset, .unset, .unset, .unset] [(.int (xv + (1 : Int32)))])) _
        refine XS.i2b X250.here hx rfl (hb hby at_90) rfl ?_
        exact k
    obtain ⟨T261, h261, k261, X261, e261, E261, A261, Y261, st261⟩ := newPE X250 hx hZ (hw _ (List.mem_of_getElem? (i := 0) rfl)) e250 (g := (mkF m 94 #[.val (.int p0), .val (.int p1), .val (.int p2), .val (.int p3), .val (.int (2 : Int32)), .val (.ref b221), .val (.ref b223), .val (.int xv), .val (.int yv), .unset, .unset, .unset, .unset, .unset, .unset, .unset, .unset] [(.int (1 : Int32))])) rfl (hb hby at_94) rfl (by decide) (cap := 1) (by decide) (by decide) (by decide) (by decide) (ad := "[B") (by decide)
    obtain ⟨b261, g261⟩ : ∃ z, z = h250.size := ⟨_, rfl⟩
    rw [← g261] at A261 st261 Y261
    have ne262 : b221 ≠ b261 := Nat.ne_of_lt (Nat.lt_of_lt_of_le F251.lt (Nat.le_of_eq g261.symm))
    have ne263 : b223 ≠ b261 := Nat.ne_of_lt (Nat.lt_of_lt_of_le F252.lt (Nat.le_of_eq g261.symm))
    have g_b261 : n0 ≤ b261 := Nat.le_trans Z254 (Nat.le_of_eq g261.symm)
    have F264 : Exa Z h261 b221 "[B" := F251.ext E261
    have F265 : Exa Z h261 b223 "[B" := F252.ext E261
    have F266 : Arv Z h261 b221 k221 .byte (2 : Int32) [(.int (nar .byte (p0.toInt8.toInt32))), (.int (nar .byte (p1.toInt8.toInt32)))] (.int (0 : Int32)) := F253.ext E261
    have F267 : Arv Z h261 b223 k223 .byte (2 : Int32) [(.int (nar .byte (p0.toInt8.toInt32))), (.int (nar .byte (p1.toInt8.toInt32)))] (.int (0 : Int32)) := V250.ext E261
    have Z268 : n0 ≤ h261.size := Nat.le_trans Z254 E261.1
    have V261 : Arv Z h261 b261 k261 .byte (1 : Int32) [(.int (0 : Int32))] (.int (0 : Int32)) := (Arv.new A261 (by decide)).pad (pad_rep [] (.int (0 : Int32)) 1)
    obtain ⟨T269, h269, k269, X269, e269, E269, A269, Y269, st269⟩ := newPE X261 hx hZ (hw _ (List.mem_of_getElem? (i := 0) rfl)) e261 (g := (mkF m 99 #[.val (.int p0), .val (.int p1), .val (.int p2), .val (.int p3), .val (.int (2 : Int32)), .val (.ref b221), .val (.ref b223), .val (.int xv), .val (.int yv), .val (.ref b261), .unset, .unset, .unset, .unset, .unset, .unset, .unset] [(.int (1 : Int32))])) rfl (hb hby at_99) rfl (by decide) (cap := 1) (by decide) (by decide) (by decide) (by decide) (ad := "[B") (by decide)
    obtain ⟨b269, g269⟩ : ∃ z, z = h261.size := ⟨_, rfl⟩
    rw [← g269] at A269 st269 Y269
    have ne270 : b221 ≠ b269 := Nat.ne_of_lt (Nat.lt_of_lt_of_le F264.lt (Nat.le_of_eq g269.symm))
    have ne271 : b223 ≠ b269 := Nat.ne_of_lt (Nat.lt_of_lt_of_le F265.lt (Nat.le_of_eq g269.symm))
    have ne272 : b261 ≠ b269 := Nat.ne_of_lt (Nat.lt_of_lt_of_le Y261.lt (Nat.le_of_eq g269.symm))
    have g_b269 : n0 ≤ b269 := Nat.le_trans Z268 (Nat.le_of_eq g269.symm)
    have F273 : Exa Z h269 b221 "[B" := F264.ext E269
    have F274 : Exa Z h269 b223 "[B" := F265.ext E269
    have F275 : Arv Z h269 b221 k221 .byte (2 : Int32) [(.int (nar .byte (p0.toInt8.toInt32))), (.int (nar .byte (p1.toInt8.toInt32)))] (.int (0 : Int32)) := F266.ext E269
    have F276 : Arv Z h269 b223 k223 .byte (2 : Int32) [(.int (nar .byte (p0.toInt8.toInt32))), (.int (nar .byte (p1.toInt8.toInt32)))] (.int (0 : Int32)) := F267.ext E269
    have F277 : Exa Z h269 b261 "[B" := Y261.ext E269
    have F278 : Arv Z h269 b261 k261 .byte (1 : Int32) [(.int (0 : Int32))] (.int (0 : Int32)) := V261.ext E269
    have Z279 : n0 ≤ h269.size := Nat.le_trans Z268 E269.1
    have V269 : Arv Z h269 b269 k269 .byte (1 : Int32) [(.int (0 : Int32))] (.int (0 : Int32)) := (Arv.new A269 (by decide)).pad (pad_rep [] (.int (0 : Int32)) 1)
    obtain ⟨co280, Ao280, qo280, So280, Mo280, Bo280, Go280⟩ := id F278
    obtain ⟨T281, h281, X281, e281, W281, st281⟩ := stB X269 hx hZ e269 Ao280 (j := (0 : Int32)) (inb_of So280 ⟨(by decide), (by decide)⟩) (g := (mkF m 108 #[.val (.int p0), .val (.int p1), .val (.int p2), .val (.int p3), .val (.int (2 : Int32)), .val (.ref b221), .val (.ref b223), .val (.int xv), .val (.int yv), .val (.ref b261), .val (.ref b269), .unset, .unset, .unset, .unset, .unset, .unset] [(.int xv), (.int (0 : Int32)), (.ref b261)])) rfl rfl (hb hby at_108)
    have V281 : Arv Z h281 b261 k261 .byte (1 : Int32) [(.int (nar .byte xv))] (.int (0 : Int32)) := Arv.set Ao280 qo280 So280 Mo280 Bo280 Go280 (fits_nar_byte _) W281 0 rfl (Nat.le_of_ble_eq_true rfl)
    have F282 : Exa Z h281 b221 "[B" := F273.wr W281
    have F283 : Exa Z h281 b223 "[B" := F274.wr W281
    have F284 : Arv Z h281 b221 k221 .byte (2 : Int32) [(.int (nar .byte (p0.toInt8.toInt32))), (.int (nar .byte (p1.toInt8.toInt32)))] (.int (0 : Int32)) := F275.other W281 ne262
    have F285 : Arv Z h281 b223 k223 .byte (2 : Int32) [(.int (nar .byte (p0.toInt8.toInt32))), (.int (nar .byte (p1.toInt8.toInt32)))] (.int (0 : Int32)) := F276.other W281 ne263
    have F286 : Exa Z h281 b261 "[B" := F277.wr W281
    have F287 : Exa Z h281 b269 "[B" := Y269.wr W281
    have F288 : Arv Z h281 b269 k269 .byte (1 : Int32) [(.int (0 : Int32))] (.int (0 : Int32)) := V269.other W281 (Ne.symm ne272)
    have Z289 : n0 ≤ h281.size := Nat.le_trans Z279 (Keep.of_wr W281).1
    have N290 := Fr.snoc X281 N255 g_b261
    obtain ⟨co291, Ao291, qo291, So291, Mo291, Bo291, Go291⟩ := id F288
    obtain ⟨T292, h292, X292, e292, W292, st292⟩ := stB X281 hx hZ e281 Ao291 (j := (0 : Int32)) (inb_of So291 ⟨(by decide), (by decide)⟩) (g := (mkF m 114 #[.val (.int p0), .val (.int p1), .val (.int p2), .val (.int p3), .val (.int (2 : Int32)), .val (.ref b221), .val (.ref b223), .val (.int xv), .val (.int yv), .val (.ref b261), .val (.ref b269), .unset, .unset, .unset, .unset, .unset, .unset] [(.int yv), (.int (0 : Int32)), (.ref b269)])) rfl rfl (hb hby at_114)
    have V292 : Arv Z h292 b269 k269 .byte (1 : Int32) [(.int (nar .byte yv))] (.int (0 : Int32)) := Arv.set Ao291 qo291 So291 Mo291 Bo291 Go291 (fits_nar_byte _) W292 0 rfl (Nat.le_of_ble_eq_true rfl)
    have F293 : Exa Z h292 b221 "[B" := F282.wr W292
    have F294 : Exa Z h292 b223 "[B" := F283.wr W292
    have F295 : Arv Z h292 b221 k221 .byte (2 : Int32) [(.int (nar .byte (p0.toInt8.toInt32))), (.int (nar .byte (p1.toInt8.toInt32)))] (.int (0 : Int32)) := F284.other W292 ne270
    have F296 : Arv Z h292 b223 k223 .byte (2 : Int32) [(.int (nar .byte (p0.toInt8.toInt32))), (.int (nar .byte (p1.toInt8.toInt32)))] (.int (0 : Int32)) := F285.other W292 ne271
    have F297 : Exa Z h292 b261 "[B" := F286.wr W292
    have F298 : Exa Z h292 b269 "[B" := F287.wr W292
    have F299 : Arv Z h292 b261 k261 .byte (1 : Int32) [(.int (nar .byte xv))] (.int (0 : Int32)) := V281.other W292 ne272
    have Z300 : n0 ≤ h292.size := Nat.le_trans Z289 (Keep.of_wr W292).1
    have N301 := Fr.snoc X292 N290 g_b269
    obtain ⟨T302, h302, X302, e302, E302, A302, D302, -, st302⟩ := newO X292 hx hZ hown (hw _ (List.mem_of_getElem? (i := 1) rfl)) (hw _ (List.mem_of_getElem? (i := 2) rfl)) (hw _ (List.mem_of_getElem? (i := 3) rfl)) e292 (g := (mkF m 115 #[.val (.int p0), .val (.int p1), .val (.int p2), .val (.int p3), .val (.int (2 : Int32)), .val (.ref b221), .val (.ref b223), .val (.int xv), .val (.int yv), .val (.ref b261), .val (.ref b269), .unset, .unset, .unset, .unset, .unset, .unset] [])) rfl (hb hby at_115) (by decide) (by decide)
    obtain ⟨b302, g302⟩ : ∃ z, z = h292.size := ⟨_, rfl⟩
    rw [← g302] at A302 D302 st302
    have ne303 : b221 ≠ b302 := Nat.ne_of_lt (Nat.lt_of_lt_of_le F293.lt (Nat.le_of_eq g302.symm))
    have ne304 : b223 ≠ b302 := Nat.ne_of_lt (Nat.lt_of_lt_of_le F294.lt (Nat.le_of_eq g302.symm))
    have ne305 : b261 ≠ b302 := Nat.ne_of_lt (Nat.lt_of_lt_of_le F297.lt (Nat.le_of_eq g302.symm))
    have ne306 : b269 ≠ b302 := Nat.ne_of_lt (Nat.lt_of_lt_of_le F298.lt (Nat.le_of_eq g302.symm))
    have g_b302 : n0 ≤ b302 := Nat.le_trans Z300 (Nat.le_of_eq g302.symm)
    have F307 : Exa Z h302 b221 "[B" := F293.ext E302
    have F308 : Exa Z h302 b223 "[B" := F294.ext E302
    have F309 : Arv Z h302 b221 k221 .byte (2 : Int32) [(.int (nar .byte (p0.toInt8.toInt32))), (.int (nar .byte (p1.toInt8.toInt32)))] (.int (0 : Int32)) := F295.ext E302
    have F310 : Arv Z h302 b223 k223 .byte (2 : Int32) [(.int (nar .byte (p0.toInt8.toInt32))), (.int (nar .byte (p1.toInt8.toInt32)))] (.int (0 : Int32)) := F296.ext E302
    have F311 : Exa Z h302 b261 "[B" := F297.ext E302
    have F312 : Exa Z h302 b269 "[B" := F298.ext E302
    have F313 : Arv Z h302 b261 k261 .byte (1 : Int32) [(.int (nar .byte xv))] (.int (0 : Int32)) := F299.ext E302
    have F314 : Arv Z h302 b269 k269 .byte (1 : Int32) [(.int (nar .byte yv))] (.int (0 : Int32)) := V292.ext E302
    have Z315 : n0 ≤ h302.size := Nat.le_trans Z300 E302.1
    have F316 : Fld Z h302 b302 "com/example/grant4/grant4/store/KeyLocks" "stripes" "[Ljava/lang/Object;" .null := D302 (Or.inr (hw _ (List.mem_of_getElem? (i := 13) rfl))) (ty := (.array (.object "java/lang/Object"))) (by decide)
    obtain ⟨_, _, ⟨T317, L317, k317, n317⟩, -, X317, ⟨Lc317, hQ317, l317, y317, z317⟩, st317⟩ := X302.specialBack hx (y := (⟨"com/example/grant4/grant4/store/KeyLocks", "<init>", "()V"⟩ : MethodName)) rfl hown (mvT hZ (hw _ (List.mem_of_getElem? (i := 4) rfl))) (mvT hZ (hw _ (List.mem_of_getElem? (i := 5) rfl))) (mvT hZ (hw _ (List.mem_of_getElem? (i := 6) rfl))) (by decide) (backOf (W := 1) (rm1 l Z a0 hw [] b302 h302 n0 Z315 A302 g_b302 F316) hZ (hw _ (List.mem_of_getElem? (i := 6) rfl)) (hw _ (List.mem_of_getElem? (i := 3) rfl)) (by decide) (by decide)) (g := (mkF m 119 #[.val (.int p0), .val (.int p1), .val (.int p2), .val (.int p3), .val (.int (2 : Int32)), .val (.ref b221), .val (.ref b223), .val (.int xv), .val (.int yv), .val (.ref b261), .val (.ref b269), .unset, .unset, .unset, .unset, .unset, .unset] [(.ref b302), (.ref b302)])) rfl (by rw [hml]; rfl) (Steps.refl _) (a := b302) (argsL := []) (rest := [(.ref b302)]) (lenOf pd_4 rfl) rfl (by show 2 * 0 + _ ≤ _; exact Nat.le_of_eq rfl) (hb hby at_119) (fun _ _ => ⟨rfl, e302, (by decide : 5 + 65 ≤ _), (by decide : 7 + 64 ≤ _)⟩)
    dsimp only [Pt.U, Pt.locs, Pt.cells, Pt.slots] at X317 l317 y317 z317 st317 hQ317
    subst l317 y317 z317
    obtain ⟨aB318, f319, rfl, N317q, R320, R321, R322, R323, R324⟩ := hQ317
    have N317 := Fr.app N301 N317q
    have F325 : Exa Z T317.heap b221 "[B" := F307.keep R320
    have F326 : Exa Z T317.heap b223 "[B" := F308.keep R320
    have F327 : Arv Z T317.heap b221 k221 .byte (2 : Int32) [(.int (nar .byte (p0.toInt8.toInt32))), (.int (nar .byte (p1.toInt8.toInt32)))] (.int (0 : Int32)) := F309.keep R320 (ninS ne303 nin0)
    have F328 : Arv Z T317.heap b223 k223 .byte (2 : Int32) [(.int (nar .byte (p0.toInt8.toInt32))), (.int (nar .byte (p1.toInt8.toInt32)))] (.int (0 : Int32)) := F310.keep R320 (ninS ne304 nin0)
    have F329 : Exa Z T317.heap b261 "[B" := F311.keep R320
    have F330 : Exa Z T317.heap b269 "[B" := F312.keep R320
    have F331 : Arv Z T317.heap b261 k261 .byte (1 : Int32) [(.int (nar .byte xv))] (.int (0 : Int32)) := F313.keep R320 (ninS ne305 nin0)
    have F332 : Arv Z T317.heap b269 k269 .byte (1 : Int32) [(.int (nar .byte yv))] (.int (0 : Int32)) := F314.keep R320 (ninS ne306 nin0)
    have F333 : Exa Z T317.heap b302 "com/example/grant4/grant4/store/KeyLocks" := A302.keep R320
    have Z334 : n0 ≤ T317.heap.size := Nat.le_trans Z315 R320.1
    have hp335 : own_Str Z T317.heap aB318 f319 := R323
    obtain ⟨cq336, kq336, q336a, q336b, q336c⟩ := isOf hZ rfl R321
    obtain ⟨_, _, ⟨T336, L336, k336, n336⟩, -, X336, ⟨Lc336, hQ336, l336, y336, z336⟩, st336⟩ := X317.virtualBack hx (y := (⟨"com/example/grant4/grant4/store/KeyLocks", "of", "([B)Ljava/lang/Object;"⟩ : MethodName)) (z := (⟨"com/example/grant4/grant4/store/KeyLocks", "of", "([B)Ljava/lang/Object;"⟩ : MethodName)) hown (mvT hZ (hw _ (List.mem_of_getElem? (i := 17) rfl))) (mvT hZ (hw _ (List.mem_of_getElem? (i := 18) rfl))) (notFace_of_selects (args := #[]) (mvT hZ (hw _ (List.mem_of_getElem? (i := 20) rfl)))) (mvT hZ (hw _ (List.mem_of_getElem? (i := 20) rfl))) (mvT hZ (hw _ (List.mem_of_getElem? (i := 19) rfl))) (by decide) (backOf (W := 0) (rm3_2 l Z a0 hw [] b302 b221 aB318 f319 k221 (nar .byte (p0.toInt8.toInt32)) (nar .byte (p1.toInt8.toInt32)) T317.heap n0 Z334 R322 hp335 F327 F325) hZ (hw _ (List.mem_of_getElem? (i := 21) rfl)) (hw _ (List.mem_of_getElem? (i := 3) rfl)) (by decide) (by decide)) q336a q336c (g := (mkF m 128 #[.val (.int p0), .val (.int p1), .val (.int p2), .val (.int p3), .val (.int (2 : Int32)), .val (.ref b221), .val (.ref b223), .val (.int xv), .val (.int yv), .val (.ref b261), .val (.ref b269), .val (.ref b302), .unset, .unset, .unset, .unset, .unset] [(.ref b221), (.ref b302)])) rfl (by rw [hml]; rfl) (Steps.refl _) (argsL := [(.ref b221)]) (rest := []) (lenOf pd_5 rfl) rfl (by show 2 * 0 + _ ≤ _; exact Nat.le_of_eq rfl) (hb hby at_128) (fun _ _ => ⟨rfl, rfl, (by decide : 70 + 0 ≤ _), (by decide : 71 + 0 ≤ _)⟩)
    dsimp only [Pt.U, Pt.locs, Pt.cells, Pt.slots] at X336 l336 y336 z336 st336 hQ336
    subst l336 y336 z336
    obtain ⟨rfl, N336q, R337⟩ := hQ336
    have N336 := Fr.app N317 N336q
    have hp338 : own_Str Z T317.heap aB318 f319 := R323
    obtain ⟨cq339, kq339, q339a, q339b, q339c⟩ := isOf hZ R337 R321
    obtain ⟨_, _, ⟨T339, L339, k339, n339⟩, -, X339, ⟨Lc339, hQ339, l339, y339, z339⟩, st339⟩ := X336.virtualBack hx (y := (⟨"com/example/grant4/grant4/store/KeyLocks", "of", "([B)Ljava/lang/Object;"⟩ : MethodName)) (z := (⟨"com/example/grant4/grant4/store/KeyLocks", "of", "([B)Ljava/lang/Object;"⟩ : MethodName)) hown (mvT hZ (hw _ (List.mem_of_getElem? (i := 17) rfl))) (mvT hZ (hw _ (List.mem_of_getElem? (i := 18) rfl))) (notFace_of_selects (args := #[]) (mvT hZ (hw _ (List.mem_of_getElem? (i := 20) rfl)))) (mvT hZ (hw _ (List.mem_of_getElem? (i := 20) rfl))) (mvT hZ (hw _ (List.mem_of_getElem? (i := 19) rfl))) (by decide) (backOf (W := 0) (rm3_2 l Z a0 hw [] b302 b223 aB318 f319 k223 (nar .byte (p0.toInt8.toInt32)) (nar .byte (p1.toInt8.toInt32)) T317.heap n0 Z334 R322 hp338 F328 F326) hZ (hw _ (List.mem_of_getElem? (i := 21) rfl)) (hw _ (List.mem_of_getElem? (i := 3) rfl)) (by decide) (by decide)) q339a q339c (g := (mkF m 137 #[.val (.int p0), .val (.int p1), .val (.int p2), .val (.int p3), .val (.int (2 : Int32)), .val (.ref b221), .val (.ref b223), .val (.int xv), .val (.int yv), .val (.ref b261), .val (.ref b269), .val (.ref b302), .val (.ref (f319 (((((31 : Int32) * ((31 : Int32) + (nar .byte (p0.toInt8.toInt32)))) + (nar .byte (p1.toInt8.toInt32)))).toInt % 64).toNat)), .unset, .unset, .unset, .unset] [(.ref b223), (.ref b302)])) rfl (by rw [hml]; rfl) (Steps.refl _) (argsL := [(.ref b223)]) (rest := []) (lenOf pd_5 rfl) rfl (by show 2 * 0 + _ ≤ _; exact Nat.le_of_eq rfl) (hb hby at_137) (fun _ _ => ⟨rfl, R337, (by decide : 70 + 0 ≤ _), (by decide : 71 + 0 ≤ _)⟩)
    dsimp only [Pt.U, Pt.locs, Pt.cells, Pt.slots] at X339 l339 y339 z339 st339 hQ339
    subst l339 y339 z339
    obtain ⟨rfl, N339q, R340⟩ := hQ339
    have N339 := Fr.app N336 N339q
    have hp341 : own_Str Z T317.heap aB318 f319 := R323
    obtain ⟨cq342, kq342, q342a, q342b, q342c⟩ := isOf hZ R340 R321
    obtain ⟨_, _, ⟨T342, L342, k342, n342⟩, -, X342, ⟨Lc342, hQ342, l342, y342, z342⟩, st342⟩ := X339.virtualBack hx (y := (⟨"com/example/grant4/grant4/store/KeyLocks", "of", "([B)Ljava/lang/Object;"⟩ : MethodName)) (z := (⟨"com/example/grant4/grant4/store/KeyLocks", "of", "([B)Ljava/lang/Object;"⟩ : MethodName)) hown (mvT hZ (hw _ (List.mem_of_getElem? (i := 17) rfl))) (mvT hZ (hw _ (List.mem_of_getElem? (i := 18) rfl))) (notFace_of_selects (args := #[]) (mvT hZ (hw _ (List.mem_of_getElem? (i := 20) rfl)))) (mvT hZ (hw _ (List.mem_of_getElem? (i := 20) rfl))) (mvT hZ (hw _ (List.mem_of_getElem? (i := 19) rfl))) (by decide) (backOf (W := 0) (rm3_2 l Z a0 hw [] b302 b221 aB318 f319 k221 (nar .byte (p0.toInt8.toInt32)) (nar .byte (p1.toInt8.toInt32)) T317.heap n0 Z334 R322 hp341 F327 F325) hZ (hw _ (List.mem_of_getElem? (i := 21) rfl)) (hw _ (List.mem_of_getElem? (i := 3) rfl)) (by decide) (by decide)) q342a q342c (g := (mkF m 146 #[.val (.int p0), .val (.int p1), .val (.int p2), .val (.int p3), .val (.int (2 : Int32)), .val (.ref b221), .val (.ref b223), .val (.int xv), .val (.int yv), .val (.ref b261), .val (.ref b269), .val (.ref b302), .val (.ref (f319 (((((31 : Int32) * ((31 : Int32) + (nar .byte (p0.toInt8.toInt32)))) + (nar .byte (p1.toInt8.toInt32)))).toInt % 64).toNat)), .val (.ref (f319 (((((31 : Int32) * ((31 : Int32) + (nar .byte (p0.toInt8.toInt32)))) + (nar .byte (p1.toInt8.toInt32)))).toInt % 64).toNat)), .unset, .unset, .unset] [(.ref b221), (.ref b302)])) rfl (by rw [hml]; rfl) (Steps.refl _) (argsL := [(.ref b221)]) (rest := []) (lenOf pd_5 rfl) rfl (by show 2 * 0 + _ ≤ _; exact Nat.le_of_eq rfl) (hb hby at_146) (fun _ _ => ⟨rfl, R340, (by decide : 70 + 0 ≤ _), (by decide : 71 + 0 ≤ _)⟩)
    dsimp only [Pt.U, Pt.locs, Pt.cells, Pt.slots] at X342 l342 y342 z342 st342 hQ342
    subst l342 y342 z342
    obtain ⟨rfl, N342q, R343⟩ := hQ342
    have N342 := Fr.app N339 N342q
    have hp344 : own_Str Z T317.heap aB318 f319 := R323
    obtain ⟨cq345, kq345, q345a, q345b, q345c⟩ := isOf hZ R343 R321
    obtain ⟨_, _, ⟨T345, L345, k345, n345⟩, -, X345, ⟨Lc345, hQ345, l345, y345, z345⟩, st345⟩ := X342.virtualBack hx (y := (⟨"com/example/grant4/grant4/store/KeyLocks", "of", "([B)Ljava/lang/Object;"⟩ : MethodName)) (z := (⟨"com/example/grant4/grant4/store/KeyLocks", "of", "([B)Ljava/lang/Object;"⟩ : MethodName)) hown (mvT hZ (hw _ (List.mem_of_getElem? (i := 17) rfl))) (mvT hZ (hw _ (List.mem_of_getElem? (i := 18) rfl))) (notFace_of_selects (args := #[]) (mvT hZ (hw _ (List.mem_of_getElem? (i := 20) rfl)))) (mvT hZ (hw _ (List.mem_of_getElem? (i := 20) rfl))) (mvT hZ (hw _ (List.mem_of_getElem? (i := 19) rfl))) (by decide) (backOf (W := 0) (rm3_1 l Z a0 hw [] b302 b261 aB318 f319 k261 (nar .byte xv) T317.heap n0 Z334 R322 hp344 F331 F329) hZ (hw _ (List.mem_of_getElem? (i := 21) rfl)) (hw _ (List.mem_of_getElem? (i := 3) rfl)) (by decide) (by decide)) q345a q345c (g := (mkF m 155 #[.val (.int p0), .val (.int p1), .val (.int p2), .val (.int p3), .val (.int (2 : Int32)), .val (.ref b221), .val (.ref b223), .val (.int xv), .val (.int yv), .val (.ref b261), .val (.ref b269), .val (.ref b302), .val (.ref (f319 (((((31 : Int32) * ((31 : Int32) + (nar .byte (p0.toInt8.toInt32)))) + (nar .byte (p1.toInt8.toInt32)))).toInt % 64).toNat)), .val (.ref (f319 (((((31 : Int32) * ((31 : Int32) + (nar .byte (p0.toInt8.toInt32)))) + (nar .byte (p1.toInt8.toInt32)))).toInt % 64).toNat)), .val (.ref (f319 (((((31 : Int32) * ((31 : Int32) + (nar .byte (p0.toInt8.toInt32)))) + (nar .byte (p1.toInt8.toInt32)))).toInt % 64).toNat)), .unset, .unset] [(.ref b261), (.ref b302)])) rfl (by rw [hml]; rfl) (Steps.refl _) (argsL := [(.ref b261)]) (rest := []) (lenOf pd_5 rfl) rfl (by show 2 * 0 + _ ≤ _; exact Nat.le_of_eq rfl) (hb hby at_155) (fun _ _ => ⟨rfl, R343, (by decide : 70 + 0 ≤ _), (by decide : 71 + 0 ≤ _)⟩)
    dsimp only [Pt.U, Pt.locs, Pt.cells, Pt.slots] at X345 l345 y345 z345 st345 hQ345
    subst l345 y345 z345
    obtain ⟨rfl, N345q, R346⟩ := hQ345
    have N345 := Fr.app N342 N345q
    have hp347 : own_Str Z T317.heap aB318 f319 := R323
    obtain ⟨cq348, kq348, q348a, q348b, q348c⟩ := isOf hZ R346 R321
    obtain ⟨_, _, ⟨T348, L348, k348, n348⟩, -, X348, ⟨Lc348, hQ348, l348, y348, z348⟩, st348⟩ := X345.virtualBack hx (y := (⟨"com/example/grant4/grant4/store/KeyLocks", "of", "([B)Ljava/lang/Object;"⟩ : MethodName)) (z := (⟨"com/example/grant4/grant4/store/KeyLocks", "of", "([B)Ljava/lang/Object;"⟩ : MethodName)) hown (mvT hZ (hw _ (List.mem_of_getElem? (i := 17) rfl))) (mvT hZ (hw _ (List.mem_of_getElem? (i := 18) rfl))) (notFace_of_selects (args := #[]) (mvT hZ (hw _ (List.mem_of_getElem? (i := 20) rfl)))) (mvT hZ (hw _ (List.mem_of_getElem? (i := 20) rfl))) (mvT hZ (hw _ (List.mem_of_getElem? (i := 19) rfl))) (by decide) (backOf (W := 0) (rm3_1 l Z a0 hw [] b302 b269 aB318 f319 k269 (nar .byte yv) T317.heap n0 Z334 R322 hp347 F332 F330) hZ (hw _ (List.mem_of_getElem? (i := 21) rfl)) (hw _ (List.mem_of_getElem? (i := 3) rfl)) (by decide) (by decide)) q348a q348c (g := (mkF m 164 #[.val (.int p0), .val (.int p1), .val (.int p2), .val (.int p3), .val (.int (2 : Int32)), .val (.ref b221), .val (.ref b223), .val (.int xv), .val (.int yv), .val (.ref b261), .val (.ref b269), .val (.ref b302), .val (.ref (f319 (((((31 : Int32) * ((31 : Int32) + (nar .byte (p0.toInt8.toInt32)))) + (nar .byte (p1.toInt8.toInt32)))).toInt % 64).toNat)), .val (.ref (f319 (((((31 : Int32) * ((31 : Int32) + (nar .byte (p0.toInt8.toInt32)))) + (nar .byte (p1.toInt8.toInt32)))).toInt % 64).toNat)), .val (.ref (f319 (((((31 : Int32) * ((31 : Int32) + (nar .byte (p0.toInt8.toInt32)))) + (nar .byte (p1.toInt8.toInt32)))).toInt % 64).toNat)), .val (.ref (f319 ((((31 : Int32) + (nar .byte xv))).toInt % 64).toNat)), .unset] [(.ref b269), (.ref b302)])) rfl (by rw [hml]; rfl) (Steps.refl _) (argsL := [(.ref b269)]) (rest := []) (lenOf pd_5 rfl) rfl (by show 2 * 0 + _ ≤ _; exact Nat.le_of_eq rfl) (hb hby at_164) (fun _ _ => ⟨rfl, R346, (by decide : 70 + 0 ≤ _), (by decide : 71 + 0 ≤ _)⟩)
    dsimp only [Pt.U, Pt.locs, Pt.cells, Pt.slots] at X348 l348 y348 z348 st348 hQ348
    subst l348 y348 z348
    obtain ⟨rfl, N348q, R349⟩ := hQ348
    have N348 := Fr.app N345 N348q
    have ha202_350 : ¬ ((f319 ((((31 : Int32) + (nar .byte xv))).toInt % 64).toNat) = (f319 ((((31 : Int32) + (nar .byte yv))).toInt % 64).toNat)) := own_m p0 xv yv f319 R324 hxv hm259
    obtain ⟨fs, hr, hrun, hended, hW, hsame⟩ := X348.leave (v := some (.int (1 : Int32))) (fun h => by rw [Bd.returns] at h; cases h)
    refine ⟨_, _, P260 _ ?_, hrun, hended, _, _, rfl, ?_, ⟨_, rfl⟩, hW, hsame.mono (by decide) (by decide)⟩
    · show Steps p.tables e below (T250.setTop (mkF m 91 #[.val (.int p0), .val (.int p1), .val (.int p2), .val (.int p3), .val (.int (2 : Int32)), .val (.ref b221), .val (.ref b223), .val (.int xv), .unset, .unset, .unset, .unset, .unset, .unset, .unset, .unset, .unset] [(.int yv)])) _
      refine XS.istore X250.here hx rfl (hb hby at_91) rfl (l' := #[.val (.int p0), .val (.int p1), .val (.int p2), .val (.int p3), .val (.int (2 : Int32)), .val (.ref b221), .val (.ref b223), .val (.int xv), .val (.int yv), .unset, .unset, .unset, .unset, .unset, .unset, .unset, .unset]) rfl ?_
      show Steps p.tables e below (T250.setTop (mkF m 93 #[.val (.int p0), .val (.int p1), .val (.int p2), .val (.int p3), .val (.int (2 : Int32)), .val (.ref b221), .val (.ref b223), .val (.int xv), .val (.int yv), .unset, .unset, .unset, .unset, .unset, .unset, .unset, .unset] [])) _
      refine XS.iconst X250.here hx rfl (hb hby at_93) ?_
      show Steps p.tables e below (T250.setTop (mkF m 94 #[.val (.int p0), .val (.int p1), .val (.int p2), .val (.int p3), .val (.int (2 : Int32)), .val (.ref b221), .val (.ref b223), .val (.int xv), .val (.int yv), .unset, .unset, .unset, .unset, .unset, .unset, .unset, .unset] [(.int (1 : Int32))])) _
      refine st261 _ ?_
      show Steps p.tables e below (T261.setTop (mkF m 96 #[.val (.int p0), .val (.int p1), .val (.int p2), .val (.int p3), .val (.int (2 : Int32)), .val (.ref b221), .val (.ref b223), .val (.int xv), .val (.int yv), .unset, .unset, .unset, .unset, .unset, .unset, .unset, .unset] [(.ref b261)])) _
      refine XS.astore X261.here hx rfl (hb hby at_96) rfl rfl (l' := #[.val (.int p0), .val (.int p1), .val (.int p2), .val (.int p3), .val (.int (2 : Int32)), .val (.ref b221), .val (.ref b223), .val (.int xv), .val (.int yv), .val (.ref b261), .unset, .unset, .unset, .unset, .unset, .unset, .unset]) rfl ?_
      show Steps p.tables e below (T261.setTop (mkF m 98 #[.val (.int p0), .val (.int p1), .val (.int p2), .val (.int p3), .val (.int (2 : Int32)), .val (.ref b221), .val (.ref b223), .val (.int xv), .val (.int yv), .val (.ref b261), .unset, .unset, .unset, .unset, .unset, .unset, .unset] [])) _
      refine XS.iconst X261.here hx rfl (hb hby at_98) ?_
      show Steps p.tables e below (T261.setTop (mkF m 99 #[.val (.int p0), .val (.int p1), .val (.int p2), .val (.int p3), .val (.int (2 : Int32)), .val (.ref b221), .val (.ref b223), .val (.int xv), .val (.int yv), .val (.ref b261), .unset, .unset, .unset, .unset, .unset, .unset, .unset] [(.int (1 : Int32))])) _
      refine st269 _ ?_
      show Steps p.tables e below (T269.setTop (mkF m 101 #[.val (.int p0), .val (.int p1), .val (.int p2), .val (.int p3), .val (.int (2 : Int32)), .val (.ref b221), .val (.ref b223), .val (.int xv), .val (.int yv), .val (.ref b261), .unset, .unset, .unset, .unset, .unset, .unset, .unset] [(.ref b269)])) _
      refine XS.astore X269.here hx rfl (hb hby at_101) rfl rfl (l' := #[.val (.int p0), .val (.int p1), .val (.int p2), .val (.int p3), .val (.int (2 : Int32)), .val (.ref b221), .val (.ref b223), .val (.int xv), .val (.int yv), .val (.ref b261), .val (.ref b269), .unset, .unset, .unset, .unset, .unset, .unset]) rfl ?_
      show Steps p.tables e below (T269.setTop (mkF m 103 #[.val (.int p0), .val (.int p1), .val (.int p2), .val (.int p3), .val (.int (2 : Int32)), .val (.ref b221), .val (.ref b223), .val (.int xv), .val (.int yv), .val (.ref b261), .val (.ref b269), .unset, .unset, .unset, .unset, .unset, .unset] [])) _
      refine XS.aload X269.here hx rfl (hb hby at_103) rfl rfl ?_
      show Steps p.tables e below (T269.setTop (mkF m 105 #[.val (.int p0), .val (.int p1), .val (.int p2), .val (.int p3), .val (.int (2 : Int32)), .val (.ref b221), .val (.ref b223), .val (.int xv), .val (.int yv), .val (.ref b261), .val (.ref b269), .unset, .unset, .unset, .unset, .unset, .unset] [(.ref b261)])) _
      refine XS.iconst X269.here hx rfl (hb hby at_105) ?_
      show Steps p.tables e below (T269.setTop (mkF m 106 #[.val (.int p0), .val (.int p1), .val (.int p2), .val (.int p3), .val (.int (2 : Int32)), .val (.ref b221), .val (.ref b223), .val (.int xv), .val (.int yv), .val (.ref b261), .val (.ref b269), .unset, .unset, .unset, .unset, .unset, .unset] [(.int (0 : Int32)), (.ref b261)])) _
      refine XS.iload X269.here hx rfl (hb hby at_106) rfl ?_
      show Steps p.tables e below (T269.setTop (mkF m 108 #[.val (.int p0), .val (.int p1), .val (.int p2), .val (.int p3), .val (.int (2 : Int32)), .val (.ref b221), .val (.ref b223), .val (.int xv), .val (.int yv), .val (.ref b261), .val (.ref b269), .unset, .unset, .unset, .unset, .unset, .unset] [(.int xv), (.int (0 : Int32)), (.ref b261)])) _
      refine st281 _ ?_
      show Steps p.tables e below (T281.setTop (mkF m 109 #[.val (.int p0), .val (.int p1), .val (.int p2), .val (.int p3), .val (.int (2 : Int32)), .val (.ref b221), .val (.ref b223), .val (.int xv), .val (.int yv), .val (.ref b261), .val (.ref b269), .unset, .unset, .unset, .unset, .unset, .unset] [])) _
      refine XS.aload X281.here hx rfl (hb hby at_109) rfl rfl ?_
      show Steps p.tables e below (T281.setTop (mkF m 111 #[.val (.int p0), .val (.int p1), .val (.int p2), .val (.int p3), .val (.int (2 : Int32)), .val (.ref b221), .val (.ref b223), .val (.int xv), .val (.int yv), .val (.ref b261), .val (.ref b269), .unset, .unset, .unset, .unset, .unset, .unset] [(.ref b269)])) _
      refine XS.iconst X281.here hx rfl (hb hby at_111) ?_
      show Steps p.tables e below (T281.setTop (mkF m 112 #[.val (.int p0), .val (.int p1), .val (.int p2), .val (.int p3), .val (.int (2 : Int32)), .val (.ref b221), .val (.ref b223), .val (.int xv), .val (.int yv), .val (.ref b261), .val (.ref b269), .unset, .unset, .unset, .unset, .unset, .unset] [(.int (0 : Int32)), (.ref b269)])) _
      refine XS.iload X281.here hx rfl (hb hby at_112) rfl ?_
      show Steps p.tables e below (T281.setTop (mkF m 114 #[.val (.int p0), .val (.int p1), .val (.int p2), .val (.int p3), .val (.int (2 : Int32)), .val (.ref b221), .val (.ref b223), .val (.int xv), .val (.int yv), .val (.ref b261), .val (.ref b269), .unset, .unset, .unset, .unset, .unset, .unset] [(.int yv), (.int (0 : Int32)), (.ref b269)])) _
      refine st292 _ ?_
      show Steps p.tables e below (T292.setTop (mkF m 115 #[.val (.int p0), .val (.int p1), .val (.int p2), .val (.int p3), .val (.int (2 : Int32)), .val (.ref b221), .val (.ref b223), .val (.int xv), .val (.int yv), .val (.ref b261), .val (.ref b269), .unset, .unset, .unset, .unset, .unset, .unset] [])) _
      refine st302 _ ?_
      show Steps p.tables e below (T302.setTop (mkF m 118 #[.val (.int p0), .val (.int p1), .val (.int p2), .val (.int p3), .val (.int (2 : Int32)), .val (.ref b221), .val (.ref b223), .val (.int xv), .val (.int yv), .val (.ref b261), .val (.ref b269), .unset, .unset, .unset, .unset, .unset, .unset] [(.ref b302)])) _
      refine XS.dup X302.here hx rfl (hb hby at_118) rfl rfl ?_
      show Steps p.tables e below (T302.setTop (mkF m 119 #[.val (.int p0), .val (.int p1), .val (.int p2), .val (.int p3), .val (.int (2 : Int32)), .val (.ref b221), .val (.ref b223), .val (.int xv), .val (.int yv), .val (.ref b261), .val (.ref b269), .unset, .unset, .unset, .unset, .unset, .unset] [(.ref b302), (.ref b302)])) _
      refine st317.trans ?_
      show Steps p.tables e below (T317.setTop (mkF m 122 #[.val (.int p0), .val (.int p1), .val (.int p2), .val (.int p3), .val (.int (2 : Int32)), .val (.ref b221), .val (.ref b223), .val (.int xv), .val (.int yv), .val (.ref b261), .val (.ref b269), .unset, .unset, .unset, .unset, .unset, .unset] [(.ref b302)])) _
      refine XS.astore X317.here hx rfl (hb hby at_122) rfl rfl (l' := #[.val (.int p0), .val (.int p1), .val (.int p2), .val (.int p3), .val (.int (2 : Int32)), .val (.ref b221), .val (.ref b223), .val (.int xv), .val (.int yv), .val (.ref b261), .val (.ref b269), .val (.ref b302), .unset, .unset, .unset, .unset, .unset]) rfl ?_
      show Steps p.tables e below (T317.setTop (mkF m 124 #[.val (.int p0), .val (.int p1), .val (.int p2), .val (.int p3), .val (.int (2 : Int32)), .val (.ref b221), .val (.ref b223), .val (.int xv), .val (.int yv), .val (.ref b261), .val (.ref b269), .val (.ref b302), .unset, .unset, .unset, .unset, .unset] [])) _
      refine XS.aload X317.here hx rfl (hb hby at_124) rfl rfl ?_
      show Steps p.tables e below (T317.setTop (mkF m 126 #[.val (.int p0), .val (.int p1), .val (.int p2), .val (.int p3), .val (.int (2 : Int32)), .val (.ref b221), .val (.ref b223), .val (.int xv), .val (.int yv), .val (.ref b261), .val (.ref b269), .val (.ref b302), .unset, .unset, .unset, .unset, .unset] [(.ref b302)])) _
      refine XS.aload X317.here hx rfl (hb hby at_126) rfl rfl ?_
      show Steps p.tables e below (T317.setTop (mkF m 128 #[.val (.int p0), .val (.int p1), .val (.int p2), .val (.int p3), .val (.int (2 : Int32)), .val (.ref b221), .val (.ref b223), .val (.int xv), .val (.int yv), .val (.ref b261), .val (.ref b269), .val (.ref b302), .unset, .unset, .unset, .unset, .unset] [(.ref b221), (.ref b302)])) _
      refine st336.trans ?_
      show Steps p.tables e below (T336.setTop (mkF m 131 #[.val (.int p0), .val (.int p1), .val (.int p2), .val (.int p3), .val (.int (2 : Int32)), .val (.ref b221), .val (.ref b223), .val (.int xv), .val (.int yv), .val (.ref b261), .val (.ref b269), .val (.ref b302), .unset, .unset, .unset, .unset, .unset] [(.ref (f319 (((((31 : Int32) * ((31 : Int32) + (nar .byte (p0.toInt8.toInt32)))) + (nar .byte (p1.toInt8.toInt32)))).toInt % 64).toNat))])) _
      refine XS.astore X336.here hx rfl (hb hby at_131) rfl rfl (l' := #[.val (.int p0), .val (.int p1), .val (.int p2), .val (.int p3), .val (.int (2 : Int32)), .val (.ref b221), .val (.ref b223), .val (.int xv), .val (.int yv), .val (.ref b261), .val (.ref b269), .val (.ref b302), .val (.ref (f319 (((((31 : Int32) * ((31 : Int32) + (nar .byte (p0.toInt8.toInt32)))) + (nar .byte (p1.toInt8.toInt32)))).toInt % 64).toNat)), .unset, .unset, .unset, .unset]) rfl ?_
      show Steps p.tables e below (T336.setTop (mkF m 133 #[.val (.int p0), .val (.int p1), .val (.int p2), .val (.int p3), .val (.int (2 : Int32)), .val (.ref b221), .val (.ref b223), .val (.int xv), .val (.int yv), .val (.ref b261), .val (.ref b269), .val (.ref b302), .val (.ref (f319 (((((31 : Int32) * ((31 : Int32) + (nar .byte (p0.toInt8.toInt32)))) + (nar .byte (p1.toInt8.toInt32)))).toInt % 64).toNat)), .unset, .unset, .unset, .unset] [])) _
      refine XS.aload X336.here hx rfl (hb hby at_133) rfl rfl ?_
      show Steps p.tables e below (T336.setTop (mkF m 135 #[.val (.int p0), .val (.int p1), .val (.int p2), .val (.int p3), .val (.int (2 : Int32)), .val (.ref b221), .val (.ref b223), .val (.int xv), .val (.int yv), .val (.ref b261), .val (.ref b269), .val (.ref b302), .val (.ref (f319 (((((31 : Int32) * ((31 : Int32) + (nar .byte (p0.toInt8.toInt32)))) + (nar .byte (p1.toInt8.toInt32)))).toInt % 64).toNat)), .unset, .unset, .unset, .unset] [(.ref b302)])) _
      refine XS.aload X336.here hx rfl (hb hby at_135) rfl rfl ?_
      show Steps p.tables e below (T336.setTop (mkF m 137 #[.val (.int p0), .val (.int p1), .val (.int p2), .val (.int p3), .val (.int (2 : Int32)), .val (.ref b221), .val (.ref b223), .val (.int xv), .val (.int yv), .val (.ref b261), .val (.ref b269), .val (.ref b302), .val (.ref (f319 (((((31 : Int32) * ((31 : Int32) + (nar .byte (p0.toInt8.toInt32)))) + (nar .byte (p1.toInt8.toInt32)))).toInt % 64).toNat)), .unset, .unset, .unset, .unset] [(.ref b223), (.ref b302)])) _
      refine st339.trans ?_
      show Steps p.tables e below (T339.setTop (mkF m 140 #[.val (.int p0), .val (.int p1), .val (.int p2), .val (.int p3), .val (.int (2 : Int32)), .val (.ref b221), .val (.ref b223), .val (.int xv), .val (.int yv), .val (.ref b261), .val (.ref b269), .val (.ref b302), .val (.ref (f319 (((((31 : Int32) * ((31 : Int32) + (nar .byte (p0.toInt8.toInt32)))) + (nar .byte (p1.toInt8.toInt32)))).toInt % 64).toNat)), .unset, .unset, .unset, .unset] [(.ref (f319 (((((31 : Int32) * ((31 : Int32) + (nar .byte (p0.toInt8.toInt32)))) + (nar .byte (p1.toInt8.toInt32)))).toInt % 64).toNat))])) _
      refine XS.astore X339.here hx rfl (hb hby at_140) rfl rfl (l' := #[.val (.int p0), .val (.int p1), .val (.int p2), .val (.int p3), .val (.int (2 : Int32)), .val (.ref b221), .val (.ref b223), .val (.int xv), .val (.int yv), .val (.ref b261), .val (.ref b269), .val (.ref b302), .val (.ref (f319 (((((31 : Int32) * ((31 : Int32) + (nar .byte (p0.toInt8.toInt32)))) + (nar .byte (p1.toInt8.toInt32)))).toInt % 64).toNat)), .val (.ref (f319 (((((31 : Int32) * ((31 : Int32) + (nar .byte (p0.toInt8.toInt32)))) + (nar .byte (p1.toInt8.toInt32)))).toInt % 64).toNat)), .unset, .unset, .unset]) rfl ?_
      show Steps p.tables e below (T339.setTop (mkF m 142 #[.val (.int p0), .val (.int p1), .val (.int p2), .val (.int p3), .val (.int (2 : Int32)), .val (.ref b221), .val (.ref b223), .val (.int xv), .val (.int yv), .val (.ref b261), .val (.ref b269), .val (.ref b302), .val (.ref (f319 (((((31 : Int32) * ((31 : Int32) + (nar .byte (p0.toInt8.toInt32)))) + (nar .byte (p1.toInt8.toInt32)))).toInt % 64).toNat)), .val (.ref (f319 (((((31 : Int32) * ((31 : Int32) + (nar .byte (p0.toInt8.toInt32)))) + (nar .byte (p1.toInt8.toInt32)))).toInt % 64).toNat)), .unset, .unset, .unset] [])) _
      refine XS.aload X339.here hx rfl (hb hby at_142) rfl rfl ?_
      show Steps p.tables e below (T339.setTop (mkF m 144 #[.val (.int p0), .val (.int p1), .val (.int p2), .val (.int p3), .val (.int (2 : Int32)), .val (.ref b221), .val (.ref b223), .val (.int xv), .val (.int yv), .val (.ref b261), .val (.ref b269), .val (.ref b302), .val (.ref (f319 (((((31 : Int32) * ((31 : Int32) + (nar .byte (p0.toInt8.toInt32)))) + (nar .byte (p1.toInt8.toInt32)))).toInt % 64).toNat)), .val (.ref (f319 (((((31 : Int32) * ((31 : Int32) + (nar .byte (p0.toInt8.toInt32)))) + (nar .byte (p1.toInt8.toInt32)))).toInt % 64).toNat)), .unset, .unset, .unset] [(.ref b302)])) _
      refine XS.aload X339.here hx rfl (hb hby at_144) rfl rfl ?_
      show Steps p.tables e below (T339.setTop (mkF m 146 #[.val (.int p0), .val (.int p1), .val (.int p2), .val (.int p3), .val (.int (2 : Int32)), .val (.ref b221), .val (.ref b223), .val (.int xv), .val (.int yv), .val (.ref b261), .val (.ref b269), .val (.ref b302), .val (.ref (f319 (((((31 : Int32) * ((31 : Int32) + (nar .byte (p0.toInt8.toInt32)))) + (nar .byte (p1.toInt8.toInt32)))).toInt % 64).toNat)), .val (.ref (f319 (((((31 : Int32) * ((31 : Int32) + (nar .byte (p0.toInt8.toInt32)))) + (nar .byte (p1.toInt8.toInt32)))).toInt % 64).toNat)), .unset, .unset, .unset] [(.ref b221), (.ref b302)])) _
      refine st342.trans ?_
      show Steps p.tables e below (T342.setTop (mkF m 149 #[.val (.int p0), .val (.int p1), .val (.int p2), .val (.int p3), .val (.int (2 : Int32)), .val (.ref b221), .val (.ref b223), .val (.int xv), .val (.int yv), .val (.ref b261), .val (.ref b269), .val (.ref b302), .val (.ref (f319 (((((31 : Int32) * ((31 : Int32) + (nar .byte (p0.toInt8.toInt32)))) + (nar .byte (p1.toInt8.toInt32)))).toInt % 64).toNat)), .val (.ref (f319 (((((31 : Int32) * ((31 : Int32) + (nar .byte (p0.toInt8.toInt32)))) + (nar .byte (p1.toInt8.toInt32)))).toInt % 64).toNat)), .unset, .unset, .unset] [(.ref (f319 (((((31 : Int32) * ((31 : Int32) + (nar .byte (p0.toInt8.toInt32)))) + (nar .byte (p1.toInt8.toInt32)))).toInt % 64).toNat))])) _
      refine XS.astore X342.here hx rfl (hb hby at_149) rfl rfl (l' := #[.val (.int p0), .val (.int p1), .val (.int p2), .val (.int p3), .val (.int (2 : Int32)), .val (.ref b221), .val (.ref b223), .val (.int xv), .val (.int yv), .val (.ref b261), .val (.ref b269), .val (.ref b302), .val (.ref (f319 (((((31 : Int32) * ((31 : Int32) + (nar .byte (p0.toInt8.toInt32)))) + (nar .byte (p1.toInt8.toInt32)))).toInt % 64).toNat)), .val (.ref (f319 (((((31 : Int32) * ((31 : Int32) + (nar .byte (p0.toInt8.toInt32)))) + (nar .byte (p1.toInt8.toInt32)))).toInt % 64).toNat)), .val (.ref (f319 (((((31 : Int32) * ((31 : Int32) + (nar .byte (p0.toInt8.toInt32)))) + (nar .byte (p1.toInt8.toInt32)))).toInt % 64).toNat)), .unset, .unset]) rfl ?_
      show Steps p.tables e below (T342.setTop (mkF m 151 #[.val (.int p0), .val (.int p1), .val (.int p2), .val (.int p3), .val (.int (2 : Int32)), .val (.ref b221), .val (.ref b223), .val (.int xv), .val (.int yv), .val (.ref b261), .val (.ref b269), .val (.ref b302), .val (.ref (f319 (((((31 : Int32) * ((31 : Int32) + (nar .byte (p0.toInt8.toInt32)))) + (nar .byte (p1.toInt8.toInt32)))).toInt % 64).toNat)), .val (.ref (f319 (((((31 : Int32) * ((31 : Int32) + (nar .byte (p0.toInt8.toInt32)))) + (nar .byte (p1.toInt8.toInt32)))).toInt % 64).toNat)), .val (.ref (f319 (((((31 : Int32) * ((31 : Int32) + (nar .byte (p0.toInt8.toInt32)))) + (nar .byte (p1.toInt8.toInt32)))).toInt % 64).toNat)), .unset, .unset] [])) _
      refine XS.aload X342.here hx rfl (hb hby at_151) rfl rfl ?_
      show Steps p.tables e below (T342.setTop (mkF m 153 #[.val (.int p0), .val (.int p1), .val (.int p2), .val (.int p3), .val (.int (2 : Int32)), .val (.ref b221), .val (.ref b223), .val (.int xv), .val (.int yv), .val (.ref b261), .val (.ref b269), .val (.ref b302), .val (.ref (f319 (((((31 : Int32) * ((31 : Int32) + (nar .byte (p0.toInt8.toInt32)))) + (nar .byte (p1.toInt8.toInt32)))).toInt % 64).toNat)), .val (.ref (f319 (((((31 : Int32) * ((31 : Int32) + (nar .byte (p0.toInt8.toInt32)))) + (nar .byte (p1.toInt8.toInt32)))).toInt % 64).toNat)), .val (.ref (f319 (((((31 : Int32) * ((31 : Int32) + (nar .byte (p0.toInt8.toInt32)))) + (nar .byte (p1.toInt8.toInt32)))).toInt % 64).toNat)), .unset, .unset] [(.ref b302)])) _
      refine XS.aload X342.here hx rfl (hb hby at_153) rfl rfl ?_
      show Steps p.tables e below (T342.setTop (mkF m 155 #[.val (.int p0), .val (.int p1), .val (.int p2), .val (.int p3), .val (.int (2 : Int32)), .val (.ref b221), .val (.ref b223), .val (.int xv), .val (.int yv), .val (.ref b261), .val (.ref b269), .val (.ref b302), .val (.ref (f319 (((((31 : Int32) * ((31 : Int32) + (nar .byte (p0.toInt8.toInt32)))) + (nar .byte (p1.toInt8.toInt32)))).toInt % 64).toNat)), .val (.ref (f319 (((((31 : Int32) * ((31 : Int32) + (nar .byte (p0.toInt8.toInt32)))) + (nar .byte (p1.toInt8.toInt32)))).toInt % 64).toNat)), .val (.ref (f319 (((((31 : Int32) * ((31 : Int32) + (nar .byte (p0.toInt8.toInt32)))) + (nar .byte (p1.toInt8.toInt32)))).toInt % 64).toNat)), .unset, .unset] [(.ref b261), (.ref b302)])) _
      refine st345.trans ?_
      show Steps p.tables e below (T345.setTop (mkF m 158 #[.val (.int p0), .val (.int p1), .val (.int p2), .val (.int p3), .val (.int (2 : Int32)), .val (.ref b221), .val (.ref b223), .val (.int xv), .val (.int yv), .val (.ref b261), .val (.ref b269), .val (.ref b302), .val (.ref (f319 (((((31 : Int32) * ((31 : Int32) + (nar .byte (p0.toInt8.toInt32)))) + (nar .byte (p1.toInt8.toInt32)))).toInt % 64).toNat)), .val (.ref (f319 (((((31 : Int32) * ((31 : Int32) + (nar .byte (p0.toInt8.toInt32)))) + (nar .byte (p1.toInt8.toInt32)))).toInt % 64).toNat)), .val (.ref (f319 (((((31 : Int32) * ((31 : Int32) + (nar .byte (p0.toInt8.toInt32)))) + (nar .byte (p1.toInt8.toInt32)))).toInt % 64).toNat)), .unset, .unset] [(.ref (f319 ((((31 : Int32) + (nar .byte xv))).toInt % 64).toNat))])) _
      refine XS.astore X345.here hx rfl (hb hby at_158) rfl rfl (l' := #[.val (.int p0), .val (.int p1), .val (.int p2), .val (.int p3), .val (.int (2 : Int32)), .val (.ref b221), .val (.ref b223), .val (.int xv), .val (.int yv), .val (.ref b261), .val (.ref b269), .val (.ref b302), .val (.ref (f319 (((((31 : Int32) * ((31 : Int32) + (nar .byte (p0.toInt8.toInt32)))) + (nar .byte (p1.toInt8.toInt32)))).toInt % 64).toNat)), .val (.ref (f319 (((((31 : Int32) * ((31 : Int32) + (nar .byte (p0.toInt8.toInt32)))) + (nar .byte (p1.toInt8.toInt32)))).toInt % 64).toNat)), .val (.ref (f319 (((((31 : Int32) * ((31 : Int32) + (nar .byte (p0.toInt8.toInt32)))) + (nar .byte (p1.toInt8.toInt32)))).toInt % 64).toNat)), .val (.ref (f319 ((((31 : Int32) + (nar .byte xv))).toInt % 64).toNat)), .unset]) rfl ?_
      show Steps p.tables e below (T345.setTop (mkF m 160 #[.val (.int p0), .val (.int p1), .val (.int p2), .val (.int p3), .val (.int (2 : Int32)), .val (.ref b221), .val (.ref b223), .val (.int xv), .val (.int yv), .val (.ref b261), .val (.ref b269), .val (.ref b302), .val (.ref (f319 (((((31 : Int32) * ((31 : Int32) + (nar .byte (p0.toInt8.toInt32)))) + (nar .byte (p1.toInt8.toInt32)))).toInt % 64).toNat)), .val (.ref (f319 (((((31 : Int32) * ((31 : Int32) + (nar .byte (p0.toInt8.toInt32)))) + (nar .byte (p1.toInt8.toInt32)))).toInt % 64).toNat)), .val (.ref (f319 (((((31 : Int32) * ((31 : Int32) + (nar .byte (p0.toInt8.toInt32)))) + (nar .byte (p1.toInt8.toInt32)))).toInt % 64).toNat)), .val (.ref (f319 ((((31 : Int32) + (nar .byte xv))).toInt % 64).toNat)), .unset] [])) _
      refine XS.aload X345.here hx rfl (hb hby at_160) rfl rfl ?_
      show Steps p.tables e below (T345.setTop (mkF m 162 #[.val (.int p0), .val (.int p1), .val (.int p2), .val (.int p3), .val (.int (2 : Int32)), .val (.ref b221), .val (.ref b223), .val (.int xv), .val (.int yv), .val (.ref b261), .val (.ref b269), .val (.ref b302), .val (.ref (f319 (((((31 : Int32) * ((31 : Int32) + (nar .byte (p0.toInt8.toInt32)))) + (nar .byte (p1.toInt8.toInt32)))).toInt % 64).toNat)), .val (.ref (f319 (((((31 : Int32) * ((31 : Int32) + (nar .byte (p0.toInt8.toInt32)))) + (nar .byte (p1.toInt8.toInt32)))).toInt % 64).toNat)), .val (.ref (f319 (((((31 : Int32) * ((31 : Int32) + (nar .byte (p0.toInt8.toInt32)))) + (nar .byte (p1.toInt8.toInt32)))).toInt % 64).toNat)), .val (.ref (f319 ((((31 : Int32) + (nar .byte xv))).toInt % 64).toNat)), .unset] [(.ref b302)])) _
      refine XS.aload X345.here hx rfl (hb hby at_162) rfl rfl ?_
      show Steps p.tables e below (T345.setTop (mkF m 164 #[.val (.int p0), .val (.int p1), .val (.int p2), .val (.int p3), .val (.int (2 : Int32)), .val (.ref b221), .val (.ref b223), .val (.int xv), .val (.int yv), .val (.ref b261), .val (.ref b269), .val (.ref b302), .val (.ref (f319 (((((31 : Int32) * ((31 : Int32) + (nar .byte (p0.toInt8.toInt32)))) + (nar .byte (p1.toInt8.toInt32)))).toInt % 64).toNat)), .val (.ref (f319 (((((31 : Int32) * ((31 : Int32) + (nar .byte (p0.toInt8.toInt32)))) + (nar .byte (p1.toInt8.toInt32)))).toInt % 64).toNat)), .val (.ref (f319 (((((31 : Int32) * ((31 : Int32) + (nar .byte (p0.toInt8.toInt32)))) + (nar .byte (p1.toInt8.toInt32)))).toInt % 64).toNat)), .val (.ref (f319 ((((31 : Int32) + (nar .byte xv))).toInt % 64).toNat)), .unset] [(.ref b269), (.ref b302)])) _
      refine st348.trans ?_
      show Steps p.tables e below (T348.setTop (mkF m 167 #[.val (.int p0), .val (.int p1), .val (.int p2), .val (.int p3), .val (.int (2 : Int32)), .val (.ref b221), .val (.ref b223), .val (.int xv), .val (.int yv), .val (.ref b261), .val (.ref b269), .val (.ref b302), .val (.ref (f319 (((((31 : Int32) * ((31 : Int32) + (nar .byte (p0.toInt8.toInt32)))) + (nar .byte (p1.toInt8.toInt32)))).toInt % 64).toNat)), .val (.ref (f319 (((((31 : Int32) * ((31 : Int32) + (nar .byte (p0.toInt8.toInt32)))) + (nar .byte (p1.toInt8.toInt32)))).toInt % 64).toNat)), .val (.ref (f319 (((((31 : Int32) * ((31 : Int32) + (nar .byte (p0.toInt8.toInt32)))) + (nar .byte (p1.toInt8.toInt32)))).toInt % 64).toNat)), .val (.ref (f319 ((((31 : Int32) + (nar .byte xv))).toInt % 64).toNat)), .unset] [(.ref (f319 ((((31 : Int32) + (nar .byte yv))).toInt % 64).toNat))])) _
      refine XS.astore X348.here hx rfl (hb hby at_167) rfl rfl (l' := #[.val (.int p0), .val (.int p1), .val (.int p2), .val (.int p3), .val (.int (2 : Int32)), .val (.ref b221), .val (.ref b223), .val (.int xv), .val (.int yv), .val (.ref b261), .val (.ref b269), .val (.ref b302), .val (.ref (f319 (((((31 : Int32) * ((31 : Int32) + (nar .byte (p0.toInt8.toInt32)))) + (nar .byte (p1.toInt8.toInt32)))).toInt % 64).toNat)), .val (.ref (f319 (((((31 : Int32) * ((31 : Int32) + (nar .byte (p0.toInt8.toInt32)))) + (nar .byte (p1.toInt8.toInt32)))).toInt % 64).toNat)), .val (.ref (f319 (((((31 : Int32) * ((31 : Int32) + (nar .byte (p0.toInt8.toInt32)))) + (nar .byte (p1.toInt8.toInt32)))).toInt % 64).toNat)), .val (.ref (f319 ((((31 : Int32) + (nar .byte xv))).toInt % 64).toNat)), .val (.ref (f319 ((((31 : Int32) + (nar .byte yv))).toInt % 64).toNat))]) rfl ?_
      show Steps p.tables e below (T348.setTop (mkF m 169 #[.val (.int p0), .val (.int p1), .val (.int p2), .val (.int p3), .val (.int (2 : Int32)), .val (.ref b221), .val (.ref b223), .val (.int xv), .val (.int yv), .val (.ref b261), .val (.ref b269), .val (.ref b302), .val (.ref (f319 (((((31 : Int32) * ((31 : Int32) + (nar .byte (p0.toInt8.toInt32)))) + (nar .byte (p1.toInt8.toInt32)))).toInt % 64).toNat)), .val (.ref (f319 (((((31 : Int32) * ((31 : Int32) + (nar .byte (p0.toInt8.toInt32)))) + (nar .byte (p1.toInt8.toInt32)))).toInt % 64).toNat)), .val (.ref (f319 (((((31 : Int32) * ((31 : Int32) + (nar .byte (p0.toInt8.toInt32)))) + (nar .byte (p1.toInt8.toInt32)))).toInt % 64).toNat)), .val (.ref (f319 ((((31 : Int32) + (nar .byte xv))).toInt % 64).toNat)), .val (.ref (f319 ((((31 : Int32) + (nar .byte yv))).toInt % 64).toNat))] [])) _
      refine XS.aload X348.here hx rfl (hb hby at_169) rfl rfl ?_
      show Steps p.tables e below (T348.setTop (mkF m 171 #[.val (.int p0), .val (.int p1), .val (.int p2), .val (.int p3), .val (.int (2 : Int32)), .val (.ref b221), .val (.ref b223), .val (.int xv), .val (.int yv), .val (.ref b261), .val (.ref b269), .val (.ref b302), .val (.ref (f319 (((((31 : Int32) * ((31 : Int32) + (nar .byte (p0.toInt8.toInt32)))) + (nar .byte (p1.toInt8.toInt32)))).toInt % 64).toNat)), .val (.ref (f319 (((((31 : Int32) * ((31 : Int32) + (nar .byte (p0.toInt8.toInt32)))) + (nar .byte (p1.toInt8.toInt32)))).toInt % 64).toNat)), .val (.ref (f319 (((((31 : Int32) * ((31 : Int32) + (nar .byte (p0.toInt8.toInt32)))) + (nar .byte (p1.toInt8.toInt32)))).toInt % 64).toNat)), .val (.ref (f319 ((((31 : Int32) + (nar .byte xv))).toInt % 64).toNat)), .val (.ref (f319 ((((31 : Int32) + (nar .byte yv))).toInt % 64).toNat))] [(.ref (f319 (((((31 : Int32) * ((31 : Int32) + (nar .byte (p0.toInt8.toInt32)))) + (nar .byte (p1.toInt8.toInt32)))).toInt % 64).toNat))])) _
      refine XS.ifnullNo X348.here hx rfl (hb hby at_171) rfl ?_
      show Steps p.tables e below (T348.setTop (mkF m 174 #[.val (.int p0), .val (.int p1), .val (.int p2), .val (.int p3), .val (.int (2 : Int32)), .val (.ref b221), .val (.ref b223), .val (.int xv), .val (.int yv), .val (.ref b261), .val (.ref b269), .val (.ref b302), .val (.ref (f319 (((((31 : Int32) * ((31 : Int32) + (nar .byte (p0.toInt8.toInt32)))) + (nar .byte (p1.toInt8.toInt32)))).toInt % 64).toNat)), .val (.ref (f319 (((((31 : Int32) * ((31 : Int32) + (nar .byte (p0.toInt8.toInt32)))) + (nar .byte (p1.toInt8.toInt32)))).toInt % 64).toNat)), .val (.ref (f319 (((((31 : Int32) * ((31 : Int32) + (nar .byte (p0.toInt8.toInt32)))) + (nar .byte (p1.toInt8.toInt32)))).toInt % 64).toNat)), .val (.ref (f319 ((((31 : Int32) + (nar .byte xv))).toInt % 64).toNat)), .val (.ref (f319 ((((31 : Int32) + (nar .byte yv))).toInt % 64).toNat))] [])) _
      refine XS.aload X348.here hx rfl (hb hby at_174) rfl rfl ?_
      show Steps p.tables e below (T348.setTop (mkF m 176 #[.val (.int p0), .val (.int p1), .val (.int p2), .val (.int p3), .val (.int (2 : Int32)), .val (.ref b221), .val (.ref b223), .val (.int xv), .val (.int yv), .val (.ref b261), .val (.ref b269), .val (.ref b302), .val (.ref (f319 (((((31 : Int32) * ((31 : Int32) + (nar .byte (p0.toInt8.toInt32)))) + (nar .byte (p1.toInt8.toInt32)))).toInt % 64).toNat)), .val (.ref (f319 (((((31 : Int32) * ((31 : Int32) + (nar .byte (p0.toInt8.toInt32)))) + (nar .byte (p1.toInt8.toInt32)))).toInt % 64).toNat)), .val (.ref (f319 (((((31 : Int32) * ((31 : Int32) + (nar .byte (p0.toInt8.toInt32)))) + (nar .byte (p1.toInt8.toInt32)))).toInt % 64).toNat)), .val (.ref (f319 ((((31 : Int32) + (nar .byte xv))).toInt % 64).toNat)), .val (.ref (f319 ((((31 : Int32) + (nar .byte yv))).toInt % 64).toNat))] [(.ref (f319 (((((31 : Int32) * ((31 : Int32) + (nar .byte (p0.toInt8.toInt32)))) + (nar .byte (p1.toInt8.toInt32)))).toInt % 64).toNat))])) _
      refine XS.aload X348.here hx rfl (hb hby at_176) rfl rfl ?_
      show Steps p.tables e below (T348.setTop (mkF m 178 #[.val (.int p0), .val (.int p1), .val (.int p2), .val (.int p3), .val (.int (2 : Int32)), .val (.ref b221), .val (.ref b223), .val (.int xv), .val (.int yv), .val (.ref b261), .val (.ref b269), .val (.ref b302), .val (.ref (f319 (((((31 : Int32) * ((31 : Int32) + (nar .byte (p0.toInt8.toInt32)))) + (nar .byte (p1.toInt8.toInt32)))).toInt % 64).toNat)), .val (.ref (f319 (((((31 : Int32) * ((31 : Int32) + (nar .byte (p0.toInt8.toInt32)))) + (nar .byte (p1.toInt8.toInt32)))).toInt % 64).toNat)), .val (.ref (f319 (((((31 : Int32) * ((31 : Int32) + (nar .byte (p0.toInt8.toInt32)))) + (nar .byte (p1.toInt8.toInt32)))).toInt % 64).toNat)), .val (.ref (f319 ((((31 : Int32) + (nar .byte xv))).toInt % 64).toNat)), .val (.ref (f319 ((((31 : Int32) + (nar .byte yv))).toInt % 64).toNat))] [(.ref (f319 (((((31 : Int32) * ((31 : Int32) + (nar .byte (p0.toInt8.toInt32)))) + (nar .byte (p1.toInt8.toInt32)))).toInt % 64).toNat)), (.ref (f319 (((((31 : Int32) * ((31 : Int32) + (nar .byte (p0.toInt8.toInt32)))) + (nar .byte (p1.toInt8.toInt32)))).toInt % 64).toNat))])) _
      refine Jvm.RoadKit.acmp (g := (mkF m 178 #[.val (.int p0), .val (.int p1), .val (.int p2), .val (.int p3), .val (.int (2 : Int32)), .val (.ref b221), .val (.ref b223), .val (.int xv), .val (.int yv), .val (.ref b261), .val (.ref b269), .val (.ref b302), .val (.ref (f319 (((((31 : Int32) * ((31 : Int32) + (nar .byte (p0.toInt8.toInt32)))) + (nar .byte (p1.toInt8.toInt32)))).toInt % 64).toNat)), .val (.ref (f319 (((((31 : Int32) * ((31 : Int32) + (nar .byte (p0.toInt8.toInt32)))) + (nar .byte (p1.toInt8.toInt32)))).toInt % 64).toNat)), .val (.ref (f319 (((((31 : Int32) * ((31 : Int32) + (nar .byte (p0.toInt8.toInt32)))) + (nar .byte (p1.toInt8.toInt32)))).toInt % 64).toNat)), .val (.ref (f319 ((((31 : Int32) + (nar .byte xv))).toInt % 64).toNat)), .val (.ref (f319 ((((31 : Int32) + (nar .byte yv))).toInt % 64).toNat))] [(.ref (f319 (((((31 : Int32) * ((31 : Int32) + (nar .byte (p0.toInt8.toInt32)))) + (nar .byte (p1.toInt8.toInt32)))).toInt % 64).toNat)), (.ref (f319 (((((31 : Int32) * ((31 : Int32) + (nar .byte (p0.toInt8.toInt32)))) + (nar .byte (p1.toInt8.toInt32)))).toInt % 64).toNat))])) X348 hx rfl rfl rfl (pc0 := 178) (pc' := 181) (same := true) rfl (hb hby at_178) rfl (decide_eq_true rfl) (by decide) (by decide) ?_
      show Steps p.tables e below (T348.setTop (mkF m 181 #[.val (.int p0), .val (.int p1), .val (.int p2), .val (.int p3), .val (.int (2 : Int32)), .val (.ref b221), .val (.ref b223), .val (.int xv), .val (.int yv), .val (.ref b261), .val (.ref b269), .val (.ref b302), .val (.ref (f319 (((((31 : Int32) * ((31 : Int32) + (nar .byte (p0.toInt8.toInt32)))) + (nar .byte (p1.toInt8.toInt32)))).toInt % 64).toNat)), .val (.ref (f319 (((((31 : Int32) * ((31 : Int32) + (nar .byte (p0.toInt8.toInt32)))) + (nar .byte (p1.toInt8.toInt32)))).toInt % 64).toNat)), .val (.ref (f319 (((((31 : Int32) * ((31 : Int32) + (nar .byte (p0.toInt8.toInt32)))) + (nar .byte (p1.toInt8.toInt32)))).toInt % 64).toNat)), .val (.ref (f319 ((((31 : Int32) + (nar .byte xv))).toInt % 64).toNat)), .val (.ref (f319 ((((31 : Int32) + (nar .byte yv))).toInt % 64).toNat))] [])) _
      refine XS.aload X348.here hx rfl (hb hby at_181) rfl rfl ?_
      show Steps p.tables e below (T348.setTop (mkF m 183 #[.val (.int p0), .val (.int p1), .val (.int p2), .val (.int p3), .val (.int (2 : Int32)), .val (.ref b221), .val (.ref b223), .val (.int xv), .val (.int yv), .val (.ref b261), .val (.ref b269), .val (.ref b302), .val (.ref (f319 (((((31 : Int32) * ((31 : Int32) + (nar .byte (p0.toInt8.toInt32)))) + (nar .byte (p1.toInt8.toInt32)))).toInt % 64).toNat)), .val (.ref (f319 (((((31 : Int32) * ((31 : Int32) + (nar .byte (p0.toInt8.toInt32)))) + (nar .byte (p1.toInt8.toInt32)))).toInt % 64).toNat)), .val (.ref (f319 (((((31 : Int32) * ((31 : Int32) + (nar .byte (p0.toInt8.toInt32)))) + (nar .byte (p1.toInt8.toInt32)))).toInt % 64).toNat)), .val (.ref (f319 ((((31 : Int32) + (nar .byte xv))).toInt % 64).toNat)), .val (.ref (f319 ((((31 : Int32) + (nar .byte yv))).toInt % 64).toNat))] [(.ref (f319 (((((31 : Int32) * ((31 : Int32) + (nar .byte (p0.toInt8.toInt32)))) + (nar .byte (p1.toInt8.toInt32)))).toInt % 64).toNat))])) _
      refine XS.aload X348.here hx rfl (hb hby at_183) rfl rfl ?_
      show Steps p.tables e below (T348.setTop (mkF m 185 #[.val (.int p0), .val (.int p1), .val (.int p2), .val (.int p3), .val (.int (2 : Int32)), .val (.ref b221), .val (.ref b223), .val (.int xv), .val (.int yv), .val (.ref b261), .val (.ref b269), .val (.ref b302), .val (.ref (f319 (((((31 : Int32) * ((31 : Int32) + (nar .byte (p0.toInt8.toInt32)))) + (nar .byte (p1.toInt8.toInt32)))).toInt % 64).toNat)), .val (.ref (f319 (((((31 : Int32) * ((31 : Int32) + (nar .byte (p0.toInt8.toInt32)))) + (nar .byte (p1.toInt8.toInt32)))).toInt % 64).toNat)), .val (.ref (f319 (((((31 : Int32) * ((31 : Int32) + (nar .byte (p0.toInt8.toInt32)))) + (nar .byte (p1.toInt8.toInt32)))).toInt % 64).toNat)), .val (.ref (f319 ((((31 : Int32) + (nar .byte xv))).toInt % 64).toNat)), .val (.ref (f319 ((((31 : Int32) + (nar .byte yv))).toInt % 64).toNat))] [(.ref (f319 (((((31 : Int32) * ((31 : Int32) + (nar .byte (p0.toInt8.toInt32)))) + (nar .byte (p1.toInt8.toInt32)))).toInt % 64).toNat)), (.ref (f319 (((((31 : Int32) * ((31 : Int32) + (nar .byte (p0.toInt8.toInt32)))) + (nar .byte (p1.toInt8.toInt32)))).toInt % 64).toNat))])) _
      refine Jvm.RoadKit.acmp (g := (mkF m 185 #[.val (.int p0), .val (.int p1), .val (.int p2), .val (.int p3), .val (.int (2 : Int32)), .val (.ref b221), .val (.ref b223), .val (.int xv), .val (.int yv), .val (.ref b261), .val (.ref b269), .val (.ref b302), .val (.ref (f319 (((((31 : Int32) * ((31 : Int32) + (nar .byte (p0.toInt8.toInt32)))) + (nar .byte (p1.toInt8.toInt32)))).toInt % 64).toNat)), .val (.ref (f319 (((((31 : Int32) * ((31 : Int32) + (nar .byte (p0.toInt8.toInt32)))) + (nar .byte (p1.toInt8.toInt32)))).toInt % 64).toNat)), .val (.ref (f319 (((((31 : Int32) * ((31 : Int32) + (nar .byte (p0.toInt8.toInt32)))) + (nar .byte (p1.toInt8.toInt32)))).toInt % 64).toNat)), .val (.ref (f319 ((((31 : Int32) + (nar .byte xv))).toInt % 64).toNat)), .val (.ref (f319 ((((31 : Int32) + (nar .byte yv))).toInt % 64).toNat))] [(.ref (f319 (((((31 : Int32) * ((31 : Int32) + (nar .byte (p0.toInt8.toInt32)))) + (nar .byte (p1.toInt8.toInt32)))).toInt % 64).toNat)), (.ref (f319 (((((31 : Int32) * ((31 : Int32) + (nar .byte (p0.toInt8.toInt32)))) + (nar .byte (p1.toInt8.toInt32)))).toInt % 64).toNat))])) X348 hx rfl rfl rfl (pc0 := 185) (pc' := 188) (same := true) rfl (hb hby at_185) rfl (decide_eq_true rfl) (by decide) (by decide) ?_
      show Steps p.tables e below (T348.setTop (mkF m 188 #[.val (.int p0), .val (.int p1), .val (.int p2), .val (.int p3), .val (.int (2 : Int32)), .val (.ref b221), .val (.ref b223), .val (.int xv), .val (.int yv), .val (.ref b261), .val (.ref b269), .val (.ref b302), .val (.ref (f319 (((((31 : Int32) * ((31 : Int32) + (nar .byte (p0.toInt8.toInt32)))) + (nar .byte (p1.toInt8.toInt32)))).toInt % 64).toNat)), .val (.ref (f319 (((((31 : Int32) * ((31 : Int32) + (nar .byte (p0.toInt8.toInt32)))) + (nar .byte (p1.toInt8.toInt32)))).toInt % 64).toNat)), .val (.ref (f319 (((((31 : Int32) * ((31 : Int32) + (nar .byte (p0.toInt8.toInt32)))) + (nar .byte (p1.toInt8.toInt32)))).toInt % 64).toNat)), .val (.ref (f319 ((((31 : Int32) + (nar .byte xv))).toInt % 64).toNat)), .val (.ref (f319 ((((31 : Int32) + (nar .byte yv))).toInt % 64).toNat))] [])) _
      refine XS.aload X348.here hx rfl (hb hby at_188) rfl rfl ?_
      show Steps p.tables e below (T348.setTop (mkF m 190 #[.val (.int p0), .val (.int p1), .val (.int p2), .val (.int p3), .val (.int (2 : Int32)), .val (.ref b221), .val (.ref b223), .val (.int xv), .val (.int yv), .val (.ref b261), .val (.ref b269), .val (.ref b302), .val (.ref (f319 (((((31 : Int32) * ((31 : Int32) + (nar .byte (p0.toInt8.toInt32)))) + (nar .byte (p1.toInt8.toInt32)))).toInt % 64).toNat)), .val (.ref (f319 (((((31 : Int32) * ((31 : Int32) + (nar .byte (p0.toInt8.toInt32)))) + (nar .byte (p1.toInt8.toInt32)))).toInt % 64).toNat)), .val (.ref (f319 (((((31 : Int32) * ((31 : Int32) + (nar .byte (p0.toInt8.toInt32)))) + (nar .byte (p1.toInt8.toInt32)))).toInt % 64).toNat)), .val (.ref (f319 ((((31 : Int32) + (nar .byte xv))).toInt % 64).toNat)), .val (.ref (f319 ((((31 : Int32) + (nar .byte yv))).toInt % 64).toNat))] [(.ref (f319 ((((31 : Int32) + (nar .byte xv))).toInt % 64).toNat))])) _
      refine XS.ifnullNo X348.here hx rfl (hb hby at_190) rfl ?_
      show Steps p.tables e below (T348.setTop (mkF m 193 #[.val (.int p0), .val (.int p1), .val (.int p2), .val (.int p3), .val (.int (2 : Int32)), .val (.ref b221), .val (.ref b223), .val (.int xv), .val (.int yv), .val (.ref b261), .val (.ref b269), .val (.ref b302), .val (.ref (f319 (((((31 : Int32) * ((31 : Int32) + (nar .byte (p0.toInt8.toInt32)))) + (nar .byte (p1.toInt8.toInt32)))).toInt % 64).toNat)), .val (.ref (f319 (((((31 : Int32) * ((31 : Int32) + (nar .byte (p0.toInt8.toInt32)))) + (nar .byte (p1.toInt8.toInt32)))).toInt % 64).toNat)), .val (.ref (f319 (((((31 : Int32) * ((31 : Int32) + (nar .byte (p0.toInt8.toInt32)))) + (nar .byte (p1.toInt8.toInt32)))).toInt % 64).toNat)), .val (.ref (f319 ((((31 : Int32) + (nar .byte xv))).toInt % 64).toNat)), .val (.ref (f319 ((((31 : Int32) + (nar .byte yv))).toInt % 64).toNat))] [])) _
      refine XS.aload X348.here hx rfl (hb hby at_193) rfl rfl ?_
      show Steps p.tables e below (T348.setTop (mkF m 195 #[.val (.int p0), .val (.int p1), .val (.int p2), .val (.int p3), .val (.int (2 : Int32)), .val (.ref b221), .val (.ref b223), .val (.int xv), .val (.int yv), .val (.ref b261), .val (.ref b269), .val (.ref b302), .val (.ref (f319 (((((31 : Int32) * ((31 : Int32) + (nar .byte (p0.toInt8.toInt32)))) + (nar .byte (p1.toInt8.toInt32)))).toInt % 64).toNat)), .val (.ref (f319 (((((31 : Int32) * ((31 : Int32) + (nar .byte (p0.toInt8.toInt32)))) + (nar .byte (p1.toInt8.toInt32)))).toInt % 64).toNat)), .val (.ref (f319 (((((31 : Int32) * ((31 : Int32) + (nar .byte (p0.toInt8.toInt32)))) + (nar .byte (p1.toInt8.toInt32)))).toInt % 64).toNat)), .val (.ref (f319 ((((31 : Int32) + (nar .byte xv))).toInt % 64).toNat)), .val (.ref (f319 ((((31 : Int32) + (nar .byte yv))).toInt % 64).toNat))] [(.ref (f319 ((((31 : Int32) + (nar .byte yv))).toInt % 64).toNat))])) _
      refine XS.ifnullNo X348.here hx rfl (hb hby at_195) rfl ?_
      show Steps p.tables e below (T348.setTop (mkF m 198 #[.val (.int p0), .val (.int p1), .val (.int p2), .val (.int p3), .val (.int (2 : Int32)), .val (.ref b221), .val (.ref b223), .val (.int xv), .val (.int yv), .val (.ref b261), .val (.ref b269), .val (.ref b302), .val (.ref (f319 (((((31 : Int32) * ((31 : Int32) + (nar .byte (p0.toInt8.toInt32)))) + (nar .byte (p1.toInt8.toInt32)))).toInt % 64).toNat)), .val (.ref (f319 (((((31 : Int32) * ((31 : Int32) + (nar .byte (p0.toInt8.toInt32)))) + (nar .byte (p1.toInt8.toInt32)))).toInt % 64).toNat)), .val (.ref (f319 (((((31 : Int32) * ((31 : Int32) + (nar .byte (p0.toInt8.toInt32)))) + (nar .byte (p1.toInt8.toInt32)))).toInt % 64).toNat)), .val (.ref (f319 ((((31 : Int32) + (nar .byte xv))).toInt % 64).toNat)), .val (.ref (f319 ((((31 : Int32) + (nar .byte yv))).toInt % 64).toNat))] [])) _
      refine XS.aload X348.here hx rfl (hb hby at_198) rfl rfl ?_
      show Steps p.tables e below (T348.setTop (mkF m 200 #[.val (.int p0), .val (.int p1), .val (.int p2), .val (.int p3), .val (.int (2 : Int32)), .val (.ref b221), .val (.ref b223), .val (.int xv), .val (.int yv), .val (.ref b261), .val (.ref b269), .val (.ref b302), .val (.ref (f319 (((((31 : Int32) * ((31 : Int32) + (nar .byte (p0.toInt8.toInt32)))) + (nar .byte (p1.toInt8.toInt32)))).toInt % 64).toNat)), .val (.ref (f319 (((((31 : Int32) * ((31 : Int32) + (nar .byte (p0.toInt8.toInt32)))) + (nar .byte (p1.toInt8.toInt32)))).toInt % 64).toNat)), .val (.ref (f319 (((((31 : Int32) * ((31 : Int32) + (nar .byte (p0.toInt8.toInt32)))) + (nar .byte (p1.toInt8.toInt32)))).toInt % 64).toNat)), .val (.ref (f319 ((((31 : Int32) + (nar .byte xv))).toInt % 64).toNat)), .val (.ref (f319 ((((31 : Int32) + (nar .byte yv))).toInt % 64).toNat))] [(.ref (f319 ((((31 : Int32) + (nar .byte xv))).toInt % 64).toNat))])) _
      refine XS.aload X348.here hx rfl (hb hby at_200) rfl rfl ?_
      show Steps p.tables e below (T348.setTop (mkF m 202 #[.val (.int p0), .val (.int p1), .val (.int p2), .val (.int p3), .val (.int (2 : Int32)), .val (.ref b221), .val (.ref b223), .val (.int xv), .val (.int yv), .val (.ref b261), .val (.ref b269), .val (.ref b302), .val (.ref (f319 (((((31 : Int32) * ((31 : Int32) + (nar .byte (p0.toInt8.toInt32)))) + (nar .byte (p1.toInt8.toInt32)))).toInt % 64).toNat)), .val (.ref (f319 (((((31 : Int32) * ((31 : Int32) + (nar .byte (p0.toInt8.toInt32)))) + (nar .byte (p1.toInt8.toInt32)))).toInt % 64).toNat)), .val (.ref (f319 (((((31 : Int32) * ((31 : Int32) + (nar .byte (p0.toInt8.toInt32)))) + (nar .byte (p1.toInt8.toInt32)))).toInt % 64).toNat)), .val (.ref (f319 ((((31 : Int32) + (nar .byte xv))).toInt % 64).toNat)), .val (.ref (f319 ((((31 : Int32) + (nar .byte yv))).toInt % 64).toNat))] [(.ref (f319 ((((31 : Int32) + (nar .byte yv))).toInt % 64).toNat)), (.ref (f319 ((((31 : Int32) + (nar .byte xv))).toInt % 64).toNat))])) _
      refine Jvm.RoadKit.acmp (g := (mkF m 202 #[.val (.int p0), .val (.int p1), .val (.int p2), .val (.int p3), .val (.int (2 : Int32)), .val (.ref b221), .val (.ref b223), .val (.int xv), .val (.int yv), .val (.ref b261), .val (.ref b269), .val (.ref b302), .val (.ref (f319 (((((31 : Int32) * ((31 : Int32) + (nar .byte (p0.toInt8.toInt32)))) + (nar .byte (p1.toInt8.toInt32)))).toInt % 64).toNat)), .val (.ref (f319 (((((31 : Int32) * ((31 : Int32) + (nar .byte (p0.toInt8.toInt32)))) + (nar .byte (p1.toInt8.toInt32)))).toInt % 64).toNat)), .val (.ref (f319 (((((31 : Int32) * ((31 : Int32) + (nar .byte (p0.toInt8.toInt32)))) + (nar .byte (p1.toInt8.toInt32)))).toInt % 64).toNat)), .val (.ref (f319 ((((31 : Int32) + (nar .byte xv))).toInt % 64).toNat)), .val (.ref (f319 ((((31 : Int32) + (nar .byte yv))).toInt % 64).toNat))] [(.ref (f319 ((((31 : Int32) + (nar .byte yv))).toInt % 64).toNat)), (.ref (f319 ((((31 : Int32) + (nar .byte xv))).toInt % 64).toNat))])) X348 hx rfl rfl rfl (pc0 := 202) (pc' := 205) (same := false) rfl (hb hby at_202) rfl (decide_eq_false fun q => ha202_350 (Value.ref.inj q)) (by decide) (by decide) ?_
      show Steps p.tables e below (T348.setTop (mkF m 205 #[.val (.int p0), .val (.int p1), .val (.int p2), .val (.int p3), .val (.int (2 : Int32)), .val (.ref b221), .val (.ref b223), .val (.int xv), .val (.int yv), .val (.ref b261), .val (.ref b269), .val (.ref b302), .val (.ref (f319 (((((31 : Int32) * ((31 : Int32) + (nar .byte (p0.toInt8.toInt32)))) + (nar .byte (p1.toInt8.toInt32)))).toInt % 64).toNat)), .val (.ref (f319 (((((31 : Int32) * ((31 : Int32) + (nar .byte (p0.toInt8.toInt32)))) + (nar .byte (p1.toInt8.toInt32)))).toInt % 64).toNat)), .val (.ref (f319 (((((31 : Int32) * ((31 : Int32) + (nar .byte (p0.toInt8.toInt32)))) + (nar .byte (p1.toInt8.toInt32)))).toInt % 64).toNat)), .val (.ref (f319 ((((31 : Int32) + (nar .byte xv))).toInt % 64).toNat)), .val (.ref (f319 ((((31 : Int32) + (nar .byte yv))).toInt % 64).toNat))] [])) _
      refine XS.iconst X348.here hx rfl (hb hby at_205) ?_
      show Steps p.tables e below (T348.setTop (mkF m 206 #[.val (.int p0), .val (.int p1), .val (.int p2), .val (.int p3), .val (.int (2 : Int32)), .val (.ref b221), .val (.ref b223), .val (.int xv), .val (.int yv), .val (.ref b261), .val (.ref b269), .val (.ref b302), .val (.ref (f319 (((((31 : Int32) * ((31 : Int32) + (nar .byte (p0.toInt8.toInt32)))) + (nar .byte (p1.toInt8.toInt32)))).toInt % 64).toNat)), .val (.ref (f319 (((((31 : Int32) * ((31 : Int32) + (nar .byte (p0.toInt8.toInt32)))) + (nar .byte (p1.toInt8.toInt32)))).toInt % 64).toNat)), .val (.ref (f319 (((((31 : Int32) * ((31 : Int32) + (nar .byte (p0.toInt8.toInt32)))) + (nar .byte (p1.toInt8.toInt32)))).toInt % 64).toNat)), .val (.ref (f319 ((((31 : Int32) + (nar .byte xv))).toInt % 64).toNat)), .val (.ref (f319 ((((31 : Int32) + (nar .byte yv))).toInt % 64).toNat))] [(.int (1 : Int32))])) _
      refine XS.goto X348.here hx rfl (pc0 := 206) (pc' := 210) rfl (hb hby at_206) (by decide) (by decide) ?_
      show Steps p.tables e below (T348.setTop (mkF m 210 #[.val (.int p0), .val (.int p1), .val (.int p2), .val (.int p3), .val (.int (2 : Int32)), .val (.ref b221), .val (.ref b223), .val (.int xv), .val (.int yv), .val (.ref b261), .val (.ref b269), .val (.ref b302), .val (.ref (f319 (((((31 : Int32) * ((31 : Int32) + (nar .byte (p0.toInt8.toInt32)))) + (nar .byte (p1.toInt8.toInt32)))).toInt % 64).toNat)), .val (.ref (f319 (((((31 : Int32) * ((31 : Int32) + (nar .byte (p0.toInt8.toInt32)))) + (nar .byte (p1.toInt8.toInt32)))).toInt % 64).toNat)), .val (.ref (f319 (((((31 : Int32) * ((31 : Int32) + (nar .byte (p0.toInt8.toInt32)))) + (nar .byte (p1.toInt8.toInt32)))).toInt % 64).toNat)), .val (.ref (f319 ((((31 : Int32) + (nar .byte xv))).toInt % 64).toNat)), .val (.ref (f319 ((((31 : Int32) + (nar .byte yv))).toInt % 64).toNat))] [(.int (1 : Int32))])) _
      exact retN X348 hx (t := .boolean) Bd.returns (by simp) (hb hby at_210) hr
    · show Q0 Z p0 p1 p2 p3 h0 n0 _ T348.heap _
      rw [R349]
      exact ⟨rfl, N348⟩
  · obtain ⟨T351, h351, k351, X351, e351, E351, A351, Y351, st351⟩ := newPE X0 hx hZ (hw _ (List.mem_of_getElem? (i := 0) rfl)) e0 (g := (mkF m 7 #[.val (.int p0), .val (.int p1), .val (.int p2), .val (.int p3), .val (.int (3 : Int32)), .unset, .unset, .unset, .unset, .unset, .unset, .unset, .unset, .unset, .unset, .unset, .unset] [(.int (3 : Int32))])) rfl (hb hby at_7) rfl (by decide) (cap := 3) (by decide) (by decide) (by decide) (by decide) (ad := "[B") (by decide)
    obtain ⟨b351, g351⟩ : ∃ z, z = h0.size := ⟨_, rfl⟩
    rw [← g351] at A351 st351 Y351
    have g_b351 : n0 ≤ b351 := Nat.le_trans Z0 (Nat.le_of_eq g351.symm)
    have Z352 : n0 ≤ h351.size := Nat.le_trans Z0 E351.1
    have V351 : Arv Z h351 b351 k351 .byte (3 : Int32) [(.int (0 : Int32)), (.int (0 : Int32)), (.int (0 : Int32))] (.int (0 : Int32)) := (Arv.new A351 (by decide)).pad (pad_rep [] (.int (0 : Int32)) 3)
    obtain ⟨T353, h353, k353, X353, e353, E353, A353, Y353, st353⟩ := newPE X351 hx hZ (hw _ (List.mem_of_getElem? (i := 0) rfl)) e351 (g := (mkF m 13 #[.val (.int p0), .val (.int p1), .val (.int p2), .val (.int p3), .val (.int (3 : Int32)), .val (.ref b351), .unset, .unset, .unset, .unset, .unset, .unset, .unset, .unset, .unset, .unset, .unset] [(.int (3 : Int32))])) rfl (hb hby at_13) rfl (by decide) (cap := 3) (by decide) (by decide) (by decide) (by decide) (ad := "[B") (by decide)
    obtain ⟨b353, g353⟩ : ∃ z, z = h351.size := ⟨_, rfl⟩
    rw [← g353] at A353 st353 Y353
    have ne354 : b351 ≠ b353 := Nat.ne_of_lt (Nat.lt_of_lt_of_le Y351.lt (Nat.le_of_eq g353.symm))
    have g_b353 : n0 ≤ b353 := Nat.le_trans Z352 (Nat.le_of_eq g353.symm)
    have F355 : Exa Z h353 b351 "[B" := Y351.ext E353
    have F356 : Arv Z h353 b351 k351 .byte (3 : Int32) [(.int (0 : Int32)), (.int (0 : Int32)), (.int (0 : Int32))] (.int (0 : Int32)) := V351.ext E353
    have Z357 : n0 ≤ h353.size := Nat.le_trans Z352 E353.1
    have V353 : Arv Z h353 b353 k353 .byte (3 : Int32) [(.int (0 : Int32)), (.int (0 : Int32)), (.int (0 : Int32))] (.int (0 : Int32)) := (Arv.new A353 (by decide)).pad (pad_rep [] (.int (0 : Int32)) 3)
    obtain ⟨co358, Ao358, qo358, So358, Mo358, Bo358, Go358⟩ := id F356
    obtain ⟨T359, h359, X359, e359, W359, st359⟩ := stB X353 hx hZ e353 Ao358 (j := (0 : Int32)) (inb_of So358 ⟨(by decide), (by decide)⟩) (g := (mkF m 27 #[.val (.int p0), .val (.int p1), .val (.int p2), .val (.int p3), .val (.int (3 : Int32)), .val (.ref b351), .val (.ref b353), .unset, .unset, .unset, .unset, .unset, .unset, .unset, .unset, .unset, .unset] [(.int (p0.toInt8.toInt32)), (.int (0 : Int32)), (.ref b351)])) rfl rfl (hb hby at_27)
    have V359 : Arv Z h359 b351 k351 .byte (3 : Int32) [(.int (nar .byte (p0.toInt8.toInt32))), (.int (0 : Int32)), (.int (0 : Int32))] (.int (0 : Int32)) := Arv.set Ao358 qo358 So358 Mo358 Bo358 Go358 (fits_nar_byte _) W359 0 rfl (Nat.le_of_ble_eq_true rfl)
    have F360 : Exa Z h359 b351 "[B" := F355.wr W359
    have F361 : Exa Z h359 b353 "[B" := Y353.wr W359
    have F362 : Arv Z h359 b353 k353 .byte (3 : Int32) [(.int (0 : Int32)), (.int (0 : Int32)), (.int (0 : Int32))] (.int (0 : Int32)) := V353.other W359 (Ne.symm ne354)
    have Z363 : n0 ≤ h359.size := Nat.le_trans Z357 (Keep.of_wr W359).1
    have N364 := Fr.snoc X359 N0 g_b351
    obtain ⟨co365, Ao365, qo365, So365, Mo365, Bo365, Go365⟩ := id F362
    obtain ⟨T366, h366, X366, e366, W366, st366⟩ := stB X359 hx hZ e359 Ao365 (j := (0 : Int32)) (inb_of So365 ⟨(by decide), (by decide)⟩) (g := (mkF m 33 #[.val (.int p0), .val (.int p1), .val (.int p2), .val (.int p3), .val (.int (3 : Int32)), .val (.ref b351), .val (.ref b353), .unset, .unset, .unset, .unset, .unset, .unset, .unset, .unset, .unset, .unset] [(.int (p0.toInt8.toInt32)), (.int (0 : Int32)), (.ref b353)])) rfl rfl (hb hby at_33)
    have V366 : Arv Z h366 b353 k353 .byte (3 : Int32) [(.int (nar .byte (p0.toInt8.toInt32))), (.int (0 : Int32)), (.int (0 : Int32))] (.int (0 : Int32)) := Arv.set Ao365 qo365 So365 Mo365 Bo365 Go365 (fits_nar_byte _) W366 0 rfl (Nat.le_of_ble_eq_true rfl)
    have F367 : Exa Z h366 b351 "[B" := F360.wr W366
    have F368 : Exa Z h366 b353 "[B" := F361.wr W366
    have F369 : Arv Z h366 b351 k351 .byte (3 : Int32) [(.int (nar .byte (p0.toInt8.toInt32))), (.int (0 : Int32)), (.int (0 : Int32))] (.int (0 : Int32)) := V359.other W366 ne354
    have Z370 : n0 ≤ h366.size := Nat.le_trans Z363 (Keep.of_wr W366).1
    have N371 := Fr.snoc X366 N364 g_b353
    obtain ⟨co372, Ao372, qo372, So372, Mo372, Bo372, Go372⟩ := id F369
    obtain ⟨T373, h373, X373, e373, W373, st373⟩ := stB X366 hx hZ e366 Ao372 (j := (1 : Int32)) (inb_of So372 ⟨(by decide), (by decide)⟩) (g := (mkF m 45 #[.val (.int p0), .val (.int p1), .val (.int p2), .val (.int p3), .val (.int (3 : Int32)), .val (.ref b351), .val (.ref b353), .unset, .unset, .unset, .unset, .unset, .unset, .unset, .unset, .unset, .unset] [(.int (p1.toInt8.toInt32)), (.int (1 : Int32)), (.ref b351)])) rfl rfl (hb hby at_45)
    have V373 : Arv Z h373 b351 k351 .byte (3 : Int32) [(.int (nar .byte (p0.toInt8.toInt32))), (.int (nar .byte (p1.toInt8.toInt32))), (.int (0 : Int32))] (.int (0 : Int32)) := Arv.set Ao372 qo372 So372 Mo372 Bo372 Go372 (fits_nar_byte _) W373 1 rfl (Nat.le_of_ble_eq_true rfl)
    have F374 : Exa Z h373 b351 "[B" := F367.wr W373
    have F375 : Exa Z h373 b353 "[B" := F368.wr W373
    have F376 : Arv Z h373 b353 k353 .byte (3 : Int32) [(.int (nar .byte (p0.toInt8.toInt32))), (.int (0 : Int32)), (.int (0 : Int32))] (.int (0 : Int32)) := V366.other W373 (Ne.symm ne354)
    have Z377 : n0 ≤ h373.size := Nat.le_trans Z370 (Keep.of_wr W373).1
    have N378 := Fr.snoc X373 N371 g_b351
    obtain ⟨co379, Ao379, qo379, So379, Mo379, Bo379, Go379⟩ := id F376
    obtain ⟨T380, h380, X380, e380, W380, st380⟩ := stB X373 hx hZ e373 Ao379 (j := (1 : Int32)) (inb_of So379 ⟨(by decide), (by decide)⟩) (g := (mkF m 51 #[.val (.int p0), .val (.int p1), .val (.int p2), .val (.int p3), .val (.int (3 : Int32)), .val (.ref b351), .val (.ref b353), .unset, .unset, .unset, .unset, .unset, .unset, .unset, .unset, .unset, .unset] [(.int (p1.toInt8.toInt32)), (.int (1 : Int32)), (.ref b353)])) rfl rfl (hb hby at_51)
    have V380 : Arv Z h380 b353 k353 .byte (3 : Int32) [(.int (nar .byte (p0.toInt8.toInt32))), (.int (nar .byte (p1.toInt8.toInt32))), (.int (0 : Int32))] (.int (0 : Int32)) := Arv.set Ao379 qo379 So379 Mo379 Bo379 Go379 (fits_nar_byte _) W380 1 rfl (Nat.le_of_ble_eq_true rfl)
    have F381 : Exa Z h380 b351 "[B" := F374.wr W380
    have F382 : Exa Z h380 b353 "[B" := F375.wr W380
    have F383 : Arv Z h380 b351 k351 .byte (3 : Int32) [(.int (nar .byte (p0.toInt8.toInt32))), (.int (nar .byte (p1.toInt8.toInt32))), (.int (0 : Int32))] (.int (0 : Int32)) := V373.other W380 ne354
    have Z384 : n0 ≤ h380.size := Nat.le_trans Z377 (Keep.of_wr W380).1
    have N385 := Fr.snoc X380 N378 g_b353
    obtain ⟨co386, Ao386, qo386, So386, Mo386, Bo386, Go386⟩ := id F383
    obtain ⟨T387, h387, X387, e387, W387, st387⟩ := stB X380 hx hZ e380 Ao386 (j := (2 : Int32)) (inb_of So386 ⟨(by decide), (by decide)⟩) (g := (mkF m 63 #[.val (.int p0), .val (.int p1), .val (.int p2), .val (.int p3), .val (.int (3 : Int32)), .val (.ref b351), .val (.ref b353), .unset, .unset, .unset, .unset, .unset, .unset, .unset, .unset, .unset, .unset] [(.int (p2.toInt8.toInt32)), (.int (2 : Int32)), (.ref b351)])) rfl rfl (hb hby at_63)
    have V387 : Arv Z h387 b351 k351 .byte (3 : Int32) [(.int (nar .byte (p0.toInt8.toInt32))), (.int (nar .byte (p1.toInt8.toInt32))), (.int (nar .byte (p2.toInt8.toInt32)))] (.int (0 : Int32)) := Arv.set Ao386 qo386 So386 Mo386 Bo386 Go386 (fits_nar_byte _) W387 2 rfl (Nat.le_of_ble_eq_true rfl)
    have F388 : Exa Z h387 b351 "[B" := F381.wr W387
    have F389 : Exa Z h387 b353 "[B" := F382.wr W387
    have F390 : Arv Z h387 b353 k353 .byte (3 : Int32) [(.int (nar .byte (p0.toInt8.toInt32))), (.int (nar .byte (p1.toInt8.toInt32))), (.int (0 : Int32))] (.int (0 : Int32)) := V380.other W387 (Ne.symm ne354)
    have Z391 : n0 ≤ h387.size := Nat.le_trans Z384 (Keep.of_wr W387).1
    have N392 := Fr.snoc X387 N385 g_b351
    obtain ⟨co393, Ao393, qo393, So393, Mo393, Bo393, Go393⟩ := id F390
    obtain ⟨T394, h394, X394, e394, W394, st394⟩ := stB X387 hx hZ e387 Ao393 (j := (2 : Int32)) (inb_of So393 ⟨(by decide), (by decide)⟩) (g := (mkF m 69 #[.val (.int p0), .val (.int p1), .val (.int p2), .val (.int p3), .val (.int (3 : Int32)), .val (.ref b351), .val (.ref b353), .unset, .unset, .unset, .unset, .unset, .unset, .unset, .unset, .unset, .unset] [(.int (p2.toInt8.toInt32)), (.int (2 : Int32)), (.ref b353)])) rfl rfl (hb hby at_69)
    have V394 : Arv Z h394 b353 k353 .byte (3 : Int32) [(.int (nar .byte (p0.toInt8.toInt32))), (.int (nar .byte (p1.toInt8.toInt32))), (.int (nar .byte (p2.toInt8.toInt32)))] (.int (0 : Int32)) := Arv.set Ao393 qo393 So393 Mo393 Bo393 Go393 (fits_nar_byte _) W394 2 rfl (Nat.le_of_ble_eq_true rfl)
    have F395 : Exa Z h394 b351 "[B" := F388.wr W394
    have F396 : Exa Z h394 b353 "[B" := F389.wr W394
    have F397 : Arv Z h394 b351 k351 .byte (3 : Int32) [(.int (nar .byte (p0.toInt8.toInt32))), (.int (nar .byte (p1.toInt8.toInt32))), (.int (nar .byte (p2.toInt8.toInt32)))] (.int (0 : Int32)) := V387.other W394 ne354
    have Z398 : n0 ≤ h394.size := Nat.le_trans Z391 (Keep.of_wr W394).1
    have N399 := Fr.snoc X394 N392 g_b353
    have P400 : ∀ t, Steps p.tables e below (T394.setTop (mkF m 74 #[.val (.int p0), .val (.int p1), .val (.int p2), .val (.int p3), .val (.int (3 : Int32)), .val (.ref b351), .val (.ref b353), .val (.int (p0.toInt8.toInt32)), .unset, .unset, .unset, .unset, .unset, .unset, .unset, .unset, .unset] [])) t → Steps p.tables e below (s₁.setTop (entryFrame m #[(.int p0), (.int p1), (.int p2), (.int p3)] maxLocals)) t := by
      intro t k
      refine P2 t ?_
      show Steps p.tables e below (s₁.setTop (mkF m 5 #[.val (.int p0), .val (.int p1), .val (.int p2), .val (.int p3), .val (.int (3 : Int32)), .unset, .unset, .unset, .unset, .unset, .unset, .unset, .unset, .unset, .unset, .unset, .unset] [])) _
      refine XS.iload X0.here hx rfl (hb hby at_5) rfl ?_
      show Steps p.tables e below (s₁.setTop (mkF m 7 #[.val (.int p0), .val (.int p1), .val (.int p2), .val (.int p3), .val (.int (3 : Int32)), .unset, .unset, .unset, .unset, .unset, .unset, .unset, .unset, .unset, .unset, .unset, .unset] [(.int (3 : Int32))])) _
      refine st351 _ ?_
      show Steps p.tables e below (T351.setTop (mkF m 9 #[.val (.int p0), .val (.int p1), .val (.int p2), .val (.int p3), .val (.int (3 : Int32)), .unset, .unset, .unset, .unset, .unset, .unset, .unset, .unset, .unset, .unset, .unset, .unset] [(.ref b351)])) _
      refine XS.astore X351.here hx rfl (hb hby at_9) rfl rfl (l' := #[.val (.int p0), .val (.int p1), .val (.int p2), .val (.int p3), .val (.int (3 : Int32)), .val (.ref b351), .unset, .unset, .unset, .unset, .unset, .unset, .unset, .unset, .unset, .unset, .unset]) rfl ?_
      show Steps p.tables e below (T351.setTop (mkF m 11 #[.val (.int p0), .val (.int p1), .val (.int p2), .val (.int p3), .val (.int (3 : Int32)), .val (.ref b351), .unset, .unset, .unset, .unset, .unset, .unset, .unset, .unset, .unset, .unset, .unset] [])) _
      refine XS.iload X351.here hx rfl (hb hby at_11) rfl ?_
      show Steps p.tables e below (T351.setTop (mkF m 13 #[.val (.int p0), .val (.int p1), .val (.int p2), .val (.int p3), .val (.int (3 : Int32)), .val (.ref b351), .unset, .unset, .unset, .unset, .unset, .unset, .unset, .unset, .unset, .unset, .unset] [(.int (3 : Int32))])) _
      refine st353 _ ?_
      show Steps p.tables e below (T353.setTop (mkF m 15 #[.val (.int p0), .val (.int p1), .val (.int p2), .val (.int p3), .val (.int (3 : Int32)), .val (.ref b351), .unset, .unset, .unset, .unset, .unset, .unset, .unset, .unset, .unset, .unset, .unset] [(.ref b353)])) _
      refine XS.astore X353.here hx rfl (hb hby at_15) rfl rfl (l' := #[.val (.int p0), .val (.int p1), .val (.int p2), .val (.int p3), .val (.int (3 : Int32)), .val (.ref b351), .val (.ref b353), .unset, .unset, .unset, .unset, .unset, .unset, .unset, .unset, .unset, .unset]) rfl ?_
      show Steps p.tables e below (T353.setTop (mkF m 17 #[.val (.int p0), .val (.int p1), .val (.int p2), .val (.int p3), .val (.int (3 : Int32)), .val (.ref b351), .val (.ref b353), .unset, .unset, .unset, .unset, .unset, .unset, .unset, .unset, .unset, .unset] [])) _
      refine XS.iload X353.here hx rfl (hb hby at_17) rfl ?_
      show Steps p.tables e below (T353.setTop (mkF m 19 #[.val (.int p0), .val (.int p1), .val (.int p2), .val (.int p3), .val (.int (3 : Int32)), .val (.ref b351), .val (.ref b353), .unset, .unset, .unset, .unset, .unset, .unset, .unset, .unset, .unset, .unset] [(.int (3 : Int32))])) _
      refine XS.ifNo X353.here hx rfl (hb hby at_19) rfl ((if0 _ _).trans (tlt (by decide : (0 : Int32) < (3 : Int32))).2.2.2) ?_
      show Steps p.tables e below (T353.setTop (mkF m 22 #[.val (.int p0), .val (.int p1), .val (.int p2), .val (.int p3), .val (.int (3 : Int32)), .val (.ref b351), .val (.ref b353), .unset, .unset, .unset, .unset, .unset, .unset, .unset, .unset, .unset, .unset] [])) _
      refine XS.aload X353.here hx rfl (hb hby at_22) rfl rfl ?_
      show Steps p.tables e below (T353.setTop (mkF m 24 #[.val (.int p0), .val (.int p1), .val (.int p2), .val (.int p3), .val (.int (3 : Int32)), .val (.ref b351), .val (.ref b353), .unset, .unset, .unset, .unset, .unset, .unset, .unset, .unset, .unset, .unset] [(.ref b351)])) _
      refine XS.iconst X353.here hx rfl (hb hby at_24) ?_
      show Steps p.tables e below (T353.setTop (mkF m 25 #[.val (.int p0), .val (.int p1), .val (.int p2), .val (.int p3), .val (.int (3 : Int32)), .val (.ref b351), .val (.ref b353), .unset, .unset, .unset, .unset, .unset, .unset, .unset, .unset, .unset, .unset] [(.int (0 : Int32)), (.ref b351)])) _
      refine XS.iloadN X353.here hx rfl (hb hby at_25) rfl ?_
      show Steps p.tables e below (T353.setTop (mkF m 26 #[.val (.int p0), .val (.int p1), .val (.int p2), .val (.int p3), .val (.int (3 : Int32)), .val (.ref b351), .val (.ref b353), .unset, .unset, .unset, .unset, .unset, .unset, .unset, .unset, .unset, .unset] [(.int p0), (.int (0 : Int32)), (.ref b351)])) _
      refine XS.i2b X353.here hx rfl (hb hby at_26) rfl ?_
      show Steps p.tables e below (T353.setTop (mkF m 27 #[.val (.int p0), .val (.int p1), .val (.int p2), .val (.int p3), .val (.int (3 : Int32)), .val (.ref b351), .val (.ref b353), .unset, .unset, .unset, .unset, .unset, .unset, .unset, .unset, .unset, .unset] [(.int (p0.toInt8.toInt32)), (.int (0 : Int32)), (.ref b351)])) _
      refine st359 _ ?_
      show Steps p.tables e below (T359.setTop (mkF m 28 #[.val (.int p0), .val (.int p1), .val (.int p2), .val (.int p3), .val (.int (3 : Int32)), .val (.ref b351), .val (.ref b353), .unset, .unset, .unset, .unset, .unset, .unset, .unset, .unset, .unset, .unset] [])) _
      refine XS.aload X359.here hx rfl (hb hby at_28) rfl rfl ?_
      show Steps p.tables e below (T359.setTop (mkF m 30 #[.val (.int p0), .val (.int p1), .val (.int p2), .val (.int p3), .val (.int (3 : Int32)), .val (.ref b351), .val (.ref b353), .unset, .unset, .unset, .unset, .unset, .unset, .unset, .unset, .unset, .unset] [(.ref b353)])) _
      refine XS.iconst X359.here hx rfl (hb hby at_30) ?_
      show Steps p.tables e below (T359.setTop (mkF m 31 #[.val (.int p0), .val (.int p1), .val (.int p2), .val (.int p3), .val (.int (3 : Int32)), .val (.ref b351), .val (.ref b353), .unset, .unset, .unset, .unset, .unset, .unset, .unset, .unset, .unset, .unset] [(.int (0 : Int32)), (.ref b353)])) _
      refine XS.iloadN X359.here hx rfl (hb hby at_31) rfl ?_
      show Steps p.tables e below (T359.setTop (mkF m 32 #[.val (.int p0), .val (.int p1), .val (.int p2), .val (.int p3), .val (.int (3 : Int32)), .val (.ref b351), .val (.ref b353), .unset, .unset, .unset, .unset, .unset, .unset, .unset, .unset, .unset, .unset] [(.int p0), (.int (0 : Int32)), (.ref b353)])) _
      refine XS.i2b X359.here hx rfl (hb hby at_32) rfl ?_
      show Steps p.tables e below (T359.setTop (mkF m 33 #[.val (.int p0), .val (.int p1), .val (.int p2), .val (.int p3), .val (.int (3 : Int32)), .val (.ref b351), .val (.ref b353), .unset, .unset, .unset, .unset, .unset, .unset, .unset, .unset, .unset, .unset] [(.int (p0.toInt8.toInt32)), (.int (0 : Int32)), (.ref b353)])) _
      refine st366 _ ?_
      show Steps p.tables e below (T366.setTop (mkF m 34 #[.val (.int p0), .val (.int p1), .val (.int p2), .val (.int p3), .val (.int (3 : Int32)), .val (.ref b351), .val (.ref b353), .unset, .unset, .unset, .unset, .unset, .unset, .unset, .unset, .unset, .unset] [])) _
      refine XS.iload X366.here hx rfl (hb hby at_34) rfl ?_
      show Steps p.tables e below (T366.setTop (mkF m 36 #[.val (.int p0), .val (.int p1), .val (.int p2), .val (.int p3), .val (.int (3 : Int32)), .val (.ref b351), .val (.ref b353), .unset, .unset, .unset, .unset, .unset, .unset, .unset, .unset, .unset, .unset] [(.int (3 : Int32))])) _
      refine XS.iconst X366.here hx rfl (hb hby at_36) ?_
      show Steps p.tables e below (T366.setTop (mkF m 37 #[.val (.int p0), .val (.int p1), .val (.int p2), .val (.int p3), .val (.int (3 : Int32)), .val (.ref b351), .val (.ref b353), .unset, .unset, .unset, .unset, .unset, .unset, .unset, .unset, .unset, .unset] [(.int (1 : Int32)), (.int (3 : Int32))])) _
      refine XS.icmpNo X366.here hx rfl (hb hby at_37) rfl (tlt (by decide : (1 : Int32) < (3 : Int32))).2.2.2 ?_
      show Steps p.tables e below (T366.setTop (mkF m 40 #[.val (.int p0), .val (.int p1), .val (.int p2), .val (.int p3), .val (.int (3 : Int32)), .val (.ref b351), .val (.ref b353), .unset, .unset, .unset, .unset, .unset, .unset, .unset, .unset, .unset, .unset] [])) _
      refine XS.aload X366.here hx rfl (hb hby at_40) rfl rfl ?_
      show Steps p.tables e below (T366.setTop (mkF m 42 #[.val (.int p0), .val (.int p1), .val (.int p2), .val (.int p3), .val (.int (3 : Int32)), .val (.ref b351), .val (.ref b353), .unset, .unset, .unset, .unset, .unset, .unset, .unset, .unset, .unset, .unset] [(.ref b351)])) _
      refine XS.iconst X366.here hx rfl (hb hby at_42) ?_
      show Steps p.tables e below (T366.setTop (mkF m 43 #[.val (.int p0), .val (.int p1), .val (.int p2), .val (.int p3), .val (.int (3 : Int32)), .val (.ref b351), .val (.ref b353), .unset, .unset, .unset, .unset, .unset, .unset, .unset, .unset, .unset, .unset] [(.int (1 : Int32)), (.ref b351)])) _
      refine XS.iloadN X366.here hx rfl (hb hby at_43) rfl ?_
      show Steps p.tables e below (T366.setTop (mkF m 44 #[.val (.int p0), .val (.int p1), .val (.int p2), .val (.int p3), .val (.int (3 : Int32)), .val (.ref b351), .val (.ref b353), .unset, .unset, .unset, .unset, .unset, .unset, .unset, .unset, .unset, .unset] [(.int p1), (.int (1 : Int32)), (.ref b351)])) _
      refine XS.i2b X366.here hx rfl (hb hby at_44) rfl ?_
      show Steps p.tables e below (T366.setTop (mkF m 45 #[.val (.int p0), .val (.int p1), .val (.int p2), .val (.int p3), .val (.int (3 : Int32)), .val (.ref b351), .val (.ref b353), .unset, .unset, .unset, .unset, .unset, .unset, .unset, .unset, .unset, .unset] [(.int (p1.toInt8.toInt32)), (.int (1 : Int32)), (.ref b351)])) _
      refine st373 _ ?_
      show Steps p.tables e below (T373.setTop (mkF m 46 #[.val (.int p0), .val (.int p1), .val (.int p2), .val (.int p3), .val (.int (3 : Int32)), .val (.ref b351), .val (.ref b353), .unset, .unset, .unset, .unset, .unset, .unset, .unset, .unset, .unset, .unset] [])) _
      refine XS.aload X373.here hx rfl (hb hby at_46) rfl rfl ?_
      show Steps p.tables e below (T373.setTop (mkF m 48 #[.val (.int p0), .val (.int p1), .val (.int p2), .val (.int p3), .val (.int (3 : Int32)), .val (.ref b351), .val (.ref b353), .unset, .unset, .unset, .unset, .unset, .unset, .unset, .unset, .unset, .unset] [(.ref b353)])) _
      refine XS.iconst X373.here hx rfl (hb hby at_48) ?_
      show Steps p.tables e below (T373.setTop (mkF m 49 #[.val (.int p0), .val (.int p1), .val (.int p2), .val (.int p3), .val (.int (3 : Int32)), .val (.ref b351), .val (.ref b353), .unset, .unset, .unset, .unset, .unset, .unset, .unset, .unset, .unset, .unset] [(.int (1 : Int32)), (.ref b353)])) _
      refine XS.iloadN X373.here hx rfl (hb hby at_49) rfl ?_
      show Steps p.tables e below (T373.setTop (mkF m 50 #[.val (.int p0), .val (.int p1), .val (.int p2), .val (.int p3), .val (.int (3 : Int32)), .val (.ref b351), .val (.ref b353), .unset, .unset, .unset, .unset, .unset, .unset, .unset, .unset, .unset, .unset] [(.int p1), (.int (1 : Int32)), (.ref b353)])) _
      refine XS.i2b X373.here hx rfl (hb hby at_50) rfl ?_
      show Steps p.tables e below (T373.setTop (mkF m 51 #[.val (.int p0), .val (.int p1), .val (.int p2), .val (.int p3), .val (.int (3 : Int32)), .val (.ref b351), .val (.ref b353), .unset, .unset, .unset, .unset, .unset, .unset, .unset, .unset, .unset, .unset] [(.int (p1.toInt8.toInt32)), (.int (1 : Int32)), (.ref b353)])) _
      refine st380 _ ?_
      show Steps p.tables e below (T380.setTop (mkF m 52 #[.val (.int p0), .val (.int p1), .val (.int p2), .val (.int p3), .val (.int (3 : Int32)), .val (.ref b351), .val (.ref b353), .unset, .unset, .unset, .unset, .unset, .unset, .unset, .unset, .unset, .unset] [])) _
      refine XS.iload X380.here hx rfl (hb hby at_52) rfl ?_
      show Steps p.tables e below (T380.setTop (mkF m 54 #[.val (.int p0), .val (.int p1), .val (.int p2), .val (.int p3), .val (.int (3 : Int32)), .val (.ref b351), .val (.ref b353), .unset, .unset, .unset, .unset, .unset, .unset, .unset, .unset, .unset, .unset] [(.int (3 : Int32))])) _
      refine XS.iconst X380.here hx rfl (hb hby at_54) ?_
      show Steps p.tables e below (T380.setTop (mkF m 55 #[.val (.int p0), .val (.int p1), .val (.int p2), .val (.int p3), .val (.int (3 : Int32)), .val (.ref b351), .val (.ref b353), .unset, .unset, .unset, .unset, .unset, .unset, .unset, .unset, .unset, .unset] [(.int (2 : Int32)), (.int (3 : Int32))])) _
      refine XS.icmpNo X380.here hx rfl (hb hby at_55) rfl (tlt (by decide : (2 : Int32) < (3 : Int32))).2.2.2 ?_
      show Steps p.tables e below (T380.setTop (mkF m 58 #[.val (.int p0), .val (.int p1), .val (.int p2), .val (.int p3), .val (.int (3 : Int32)), .val (.ref b351), .val (.ref b353), .unset, .unset, .unset, .unset, .unset, .unset, .unset, .unset, .unset, .unset] [])) _
      refine XS.aload X380.here hx rfl (hb hby at_58) rfl rfl ?_
      show Steps p.tables e below (T380.setTop (mkF m 60 #[.val (.int p0), .val (.int p1), .val (.int p2), .val (.int p3), .val (.int (3 : Int32)), .val (.ref b351), .val (.ref b353), .unset, .unset, .unset, .unset, .unset, .unset, .unset, .unset, .unset, .unset] [(.ref b351)])) _
      refine XS.iconst X380.here hx rfl (hb hby at_60) ?_
      show Steps p.tables e below (T380.setTop (mkF m 61 #[.val (.int p0), .val (.int p1), .val (.int p2), .val (.int p3), .val (.int (3 : Int32)), .val (.ref b351), .val (.ref b353), .unset, .unset, .unset, .unset, .unset, .unset, .unset, .unset, .unset, .unset] [(.int (2 : Int32)), (.ref b351)])) _
      refine XS.iloadN X380.here hx rfl (hb hby at_61) rfl ?_
      show Steps p.tables e below (T380.setTop (mkF m 62 #[.val (.int p0), .val (.int p1), .val (.int p2), .val (.int p3), .val (.int (3 : Int32)), .val (.ref b351), .val (.ref b353), .unset, .unset, .unset, .unset, .unset, .unset, .unset, .unset, .unset, .unset] [(.int p2), (.int (2 : Int32)), (.ref b351)])) _
      refine XS.i2b X380.here hx rfl (hb hby at_62) rfl ?_
      show Steps p.tables e below (T380.setTop (mkF m 63 #[.val (.int p0), .val (.int p1), .val (.int p2), .val (.int p3), .val (.int (3 : Int32)), .val (.ref b351), .val (.ref b353), .unset, .unset, .unset, .unset, .unset, .unset, .unset, .unset, .unset, .unset] [(.int (p2.toInt8.toInt32)), (.int (2 : Int32)), (.ref b351)])) _
      refine st387 _ ?_
      show Steps p.tables e below (T387.setTop (mkF m 64 #[.val (.int p0), .val (.int p1), .val (.int p2), .val (.int p3), .val (.int (3 : Int32)), .val (.ref b351), .val (.ref b353), .unset, .unset, .unset, .unset, .unset, .unset, .unset, .unset, .unset, .unset] [])) _
      refine XS.aload X387.here hx rfl (hb hby at_64) rfl rfl ?_
      show Steps p.tables e below (T387.setTop (mkF m 66 #[.val (.int p0), .val (.int p1), .val (.int p2), .val (.int p3), .val (.int (3 : Int32)), .val (.ref b351), .val (.ref b353), .unset, .unset, .unset, .unset, .unset, .unset, .unset, .unset, .unset, .unset] [(.ref b353)])) _
      refine XS.iconst X387.here hx rfl (hb hby at_66) ?_
      show Steps p.tables e below (T387.setTop (mkF m 67 #[.val (.int p0), .val (.int p1), .val (.int p2), .val (.int p3), .val (.int (3 : Int32)), .val (.ref b351), .val (.ref b353), .unset, .unset, .unset, .unset, .unset, .unset, .unset, .unset, .unset, .unset] [(.int (2 : Int32)), (.ref b353)])) _
      refine XS.iloadN X387.here hx rfl (hb hby at_67) rfl ?_
      show Steps p.tables e below (T387.setTop (mkF m 68 #[.val (.int p0), .val (.int p1), .val (.int p2), .val (.int p3), .val (.int (3 : Int32)), .val (.ref b351), .val (.ref b353), .unset, .unset, .unset, .unset, .unset, .unset, .unset, .unset, .unset, .unset] [(.int p2), (.int (2 : Int32)), (.ref b353)])) _
      refine XS.i2b X387.here hx rfl (hb hby at_68) rfl ?_
      show Steps p.tables e below (T387.setTop (mkF m 69 #[.val (.int p0), .val (.int p1), .val (.int p2), .val (.int p3), .val (.int (3 : Int32)), .val (.ref b351), .val (.ref b353), .unset, .unset, .unset, .unset, .unset, .unset, .unset, .unset, .unset, .unset] [(.int (p2.toInt8.toInt32)), (.int (2 : Int32)), (.ref b353)])) _
      refine st394 _ ?_
      show Steps p.tables e below (T394.setTop (mkF m 70 #[.val (.int p0), .val (.int p1), .val (.int p2), .val (.int p3), .val (.int (3 : Int32)), .val (.ref b351), .val (.ref b353), .unset, .unset, .unset, .unset, .unset, .unset, .unset, .unset, .unset, .unset] [])) _
      refine XS.iloadN X394.here hx rfl (hb hby at_70) rfl ?_
      show Steps p.tables e below (T394.setTop (mkF m 71 #[.val (.int p0), .val (.int p1), .val (.int p2), .val (.int p3), .val (.int (3 : Int32)), .val (.ref b351), .val (.ref b353), .unset, .unset, .unset, .unset, .unset, .unset, .unset, .unset, .unset, .unset] [(.int p0)])) _
      refine XS.i2b X394.here hx rfl (hb hby at_71) rfl ?_
      show Steps p.tables e below (T394.setTop (mkF m 72 #[.val (.int p0), .val (.int p1), .val (.int p2), .val (.int p3), .val (.int (3 : Int32)), .val (.ref b351), .val (.ref b353), .unset, .unset, .unset, .unset, .unset, .unset, .unset, .unset, .unset, .unset] [(.int (p0.toInt8.toInt32))])) _
      refine XS.istore X394.here hx rfl (hb hby at_72) rfl (l' := #[.val (.int p0), .val (.int p1), .val (.int p2), .val (.int p3), .val (.int (3 : Int32)), .val (.ref b351), .val (.ref b353), .val (.int (p0.toInt8.toInt32)), .unset, .unset, .unset, .unset, .unset, .unset, .unset, .unset, .unset]) rfl ?_
      exact k
    obtain ⟨xv, hxv⟩ : ∃ z : Int32, z = (p0.toInt8.toInt32) := ⟨_, rfl⟩
    have P401 : ∀ t, Steps p.tables e below (T394.setTop (mkF m 74 #[.val (.int p0), .val (.int p1), .val (.int p2), .val (.int p3), .val (.int (3 : Int32)), .val (.ref b351), .val (.ref b353), .val (.int xv), .unset, .unset, .unset, .unset, .unset, .unset, .unset, .unset, .unset] [])) t → Steps p.tables e below (s₁.setTop (entryFrame m #[(.int p0), (.int p1), (.int p2), (.int p3)] maxLocals)) t := by rw [hxv]; exact P400
    have P402 : ∀ t, Steps p.tables e below (T394.setTop (mkF m 78 #[.val (.int p0), .val (.int p1), .val (.int p2), .val (.int p3), .val (.int (3 : Int32)), .val (.ref b351), .val (.ref b353), .val (.int xv), .unset, .unset, .unset, .unset, .unset, .unset, .unset, .unset, .unset] [(.int (127 : Int32)), (.int xv)])) t → Steps p.tables e below (s₁.setTop (entryFrame m #[(.int p0), (.int p1), (.int p2), (.int p3)] maxLocals)) t := by
      intro t k
      refine P401 t ?_
      show Steps p.tables e below (T394.setTop (mkF m 74 #[.val (.int p0), .val (.int p1), .val (.int p2), .val (.int p3), .val (.int (3 : Int32)), .val (.ref b351), .val (.ref b353), .val (.int xv), .unset, .unset, .unset, .unset, .unset, .unset, .unset, .unset, .unset] [])) _
      refine XS.iload X394.here hx rfl (hb hby at_74) rfl ?_
      show Steps p.tables e below (T394.setTop (mkF m 76 #[.val (.int p0), .val (.int p1), .val (.int p2), .val (.int p3), .val (.int (3 : Int32)), .val (.ref b351), .val (.ref b353), .val (.int xv), .unset, .unset, .unset, .unset, .unset, .unset, .unset, .unset, .unset] [(.int xv)])) _
      refine XS.bipush X394.here hx rfl (hb hby at_76) ?_
      exact k
    obtain ⟨yv, hm403, P404⟩ : ∃ (yv : Int32), ((xv = (127 : Int32) ∧ yv = (126 : Int32)) ∨ (¬ (xv = (127 : Int32)) ∧ yv = ((xv + (1 : Int32)).toInt8.toInt32))) ∧ ∀ t, Steps p.tables e below (T394.setTop (mkF m 91 #[.val (.int p0), .val (.int p1), .val (.int p2), .val (.int p3), .val (.int (3 : Int32)), .val (.ref b351), .val (.ref b353), .val (.int xv), .unset, .unset, .unset, .unset, .unset, .unset, .unset, .unset, .unset] [(.int yv)])) t → Steps p.tables e below (s₁.setTop (entryFrame m #[(.int p0), (.int p1), (.int p2), (.int p3)] maxLocals)) t := by
      by_cases hd78_0 : xv = (127 : Int32)
      ·
        refine ⟨(126 : Int32), Or.inl ⟨hd78_0, rfl⟩, fun t k => ?_⟩
        refine P402 t ?_
        show Steps p.tables e below (T394.setTop (mkF m 78 #[.val (.int p0), .val (.int p1), .val (.int p2), .val (.int p3), .val (.int (3 : Int32)), .val (.ref b351), .val (.ref b353), .val (.int xv), .unset, .unset, .unset, .unset, .unset, .unset, .unset, .unset, .unset] [(.int (127 : Int32)), (.int xv)])) _
        refine XS.icmpNo X394.here hx rfl (hb hby at_78) rfl (teq hd78_0).2 ?_
        show Steps p.tables e below (T394.setTop (mkF m 81 #[.val (.int p0), .val (.int p1), .val (.int p2), .val (.int p3), .val (.int (3 : Int32)), .val (.ref b351), .val (.ref b353), .val (.int xv), .unset, .unset, .unset, .unset, .unset, .unset, .unset, .unset, .unset] [])) _
        refine XS.bipush X394.here hx rfl (hb hby at_81) ?_
        show Steps p.tables e below (T394.setTop (mkF m 83 #[.val (.int p0), .val (.int p1), .val (.int p2), .val (.int p3), .val (.int (3 : Int32)), .val (.ref b351), .val (.ref b353), .val (.int xv), .unset, .unset, .unset, .unset, .unset, .unset, .unset, .unset, .unset] [(.int (126 : Int32))])) _
        refine XS.goto X394.here hx rfl (pc0 := 83) (pc' := 91) rfl (hb hby at_83) (by decide) (by decide) ?_
        exact k
      ·
        refine ⟨((xv + (1 : Int32)).toInt8.toInt32), Or.inr (⟨hd78_0, rfl⟩), fun t k => ?_⟩
        refine P402 t ?_
        show Steps p.tables e below (T394.setTop (mkF m 78 #[.val (.int p0), .val (.int p1), .val (.int p2), .val (.int p3), .val (.int (3 : Int32)), .val (.ref b351), .val (.ref b353), .val (.int xv), .unset, .unset, .unset, .unset, .unset, .unset, .unset, .unset, .unset] [(.int (127 : Int32)), (.int xv)])) _
        refine XS.icmpYes X394.here hx rfl (pc0 := 78) (pc' := 86) rfl (hb hby at_78) rfl (feq hd78_0).2 (by decide) (by decide) ?_
        show Steps p.tables e below (T394.setTop (mkF m 86 #[.val (.int p0), .val (.int p1), .val (.int p2), .val (.int p3), .val (.int (3 : Int32)), .val (.ref b351), .val (.ref b353), .val (.int xv), .unset, .unset, .unset, .unset, .unset, .unset, .unset, .unset, .unset] [])) _
        refine XS.iload X394.here hx rfl (hb hby at_86) rfl ?_
        show Steps p.tables e below (T394.setTop (mkF m 88 #[.val (.int p0), .val (.int p1), .val (.int p2), .val (.int p3), .val (.int (3 : Int32)), .val (.ref b351), .val (.ref b353), .val (.int xv), .unset, .unset, .unset, .unset, .unset, .unset, .unset, .unset, .unset] [(.int xv)])) _
        refine XS.iconst X394.here hx rfl (hb hby at_88) ?_
        show Steps p.tables e below (T394.setTop (mkF m 89 #[.val (.int p0), .val (.int p1), .val (.int p2), .val (.int p3), .val (.int (3 : Int32)), .val (.ref b351), .val (.ref b353), .val (.int xv), .unset, .unset, .unset, .unset, .unset, .unset, .unset, .unset, .unset] [(.int (1 : Int32)), (.int xv)])) _
        refine XS.iadd X394.here hx rfl (hb hby at_89) rfl ?_
        show Steps p.tables e below (T394.setTop (mkF m 90 #[.val (.int p0), .val (.int p1), .val (.int p2), .val (.int p3), .val (.int (3 : Int32)), .val (.ref b351), .val (.ref b353), .val (.int xv), .unset, .unset, .unset, .unset, .unset, .unset, .unset, .unset, .unset] [(.int (xv + (1 : Int32)))])) _
        refine XS.i2b X394.here hx rfl (hb hby at_90) rfl ?_
        exact k
    obtain ⟨T405, h405, k405, X405, e405, E405, A405, Y405, st405⟩ := newPE X394 hx hZ (hw _ (List.mem_of_getElem? (i := 0) rfl)) e394 (g := (mkF m 94 #[.val (.int p0), .val (.int p1), .val (.int p2), .val (.int p3), .val (.int (3 : Int32)), .val (.ref b351), .val (.ref b353), .val (.int xv), .val (.int yv), .unset, .unset, .unset, .unset, .unset, .unset, .unset, .unset] [(.int (1 : Int32))])) rfl (hb hby at_94) rfl (by decide) (cap := 1) (by decide) (by decide) (by decide) (by decide) (ad := "[B") (by decide)
    obtain ⟨b405, g405⟩ : ∃ z, z = h394.size := ⟨_, rfl⟩
    rw [← g405] at A405 st405 Y405
    have ne406 : b351 ≠ b405 := Nat.ne_of_lt (Nat.lt_of_lt_of_le F395.lt (Nat.le_of_eq g405.symm))
    have ne407 : b353 ≠ b405 := Nat.ne_of_lt (Nat.lt_of_lt_of_le F396.lt (Nat.le_of_eq g405.symm))
    have g_b405 : n0 ≤ b405 := Nat.le_trans Z398 (Nat.le_of_eq g405.symm)
    have F408 : Exa Z h405 b351 "[B" := F395.ext E405
    have F409 : Exa Z h405 b353 "[B" := F396.ext E405
    have F410 : Arv Z h405 b351 k351 .byte (3 : Int32) [(.int (nar .byte (p0.toInt8.toInt32))), (.int (nar .byte (p1.toInt8.toInt32))), (.int (nar .byte (p2.toInt8.toInt32)))] (.int (0 : Int32)) := F397.ext E405
    have F411 : Arv Z h405 b353 k353 .byte (3 : Int32) [(.int (nar .byte (p0.toInt8.toInt32))), (.int (nar .byte (p1.toInt8.toInt32))), (.int (nar .byte (p2.toInt8.toInt32)))] (.int (0 : Int32)) := V394.ext E405
    have Z412 : n0 ≤ h405.size := Nat.le_trans Z398 E405.1
    have V405 : Arv Z h405 b405 k405 .byte (1 : Int32) [(.int (0 : Int32))] (.int (0 : Int32)) := (Arv.new A405 (by decide)).pad (pad_rep [] (.int (0 : Int32)) 1)
    obtain ⟨T413, h413, k413, X413, e413, E413, A413, Y413, st413⟩ := newPE X405 hx hZ (hw _ (List.mem_of_getElem? (i := 0) rfl)) e405 (g := (mkF m 99 #[.val (.int p0), .val (.int p1), .val (.int p2), .val (.int p3), .val (.int (3 : Int32)), .val (.ref b351), .val (.ref b353), .val (.int xv), .val (.int yv), .val (.ref b405), .unset, .unset, .unset, .unset, .unset, .unset, .unset] [(.int (1 : Int32))])) rfl (hb hby at_99) rfl (by decide) (cap := 1) (by decide) (by decide) (by decide) (by decide) (ad := "[B") (by decide)
    obtain ⟨b413, g413⟩ : ∃ z, z = h405.size := ⟨_, rfl⟩
    rw [← g413] at A413 st413 Y413
    have ne414 : b351 ≠ b413 := Nat.ne_of_lt (Nat.lt_of_lt_of_le F408.lt (Nat.le_of_eq g413.symm))
    have ne415 : b353 ≠ b413 := Nat.ne_of_lt (Nat.lt_of_lt_of_le F409.lt (Nat.le_of_eq g413.symm))
    have ne416 : b405 ≠ b413 := Nat.ne_of_lt (Nat.lt_of_lt_of_le Y405.lt (Nat.le_of_eq g413.symm))
    have g_b413 : n0 ≤ b413 := Nat.le_trans Z412 (Nat.le_of_eq g413.symm)
    have F417 : Exa Z h413 b351 "[B" := F408.ext E413
    have F418 : Exa Z h413 b353 "[B" := F409.ext E413
    have F419 : Arv Z h413 b351 k351 .byte (3 : Int32) [(.int (nar .byte (p0.toInt8.toInt32))), (.int (nar .byte (p1.toInt8.toInt32))), (.int (nar .byte (p2.toInt8.toInt32)))] (.int (0 : Int32)) := F410.ext E413
    have F420 : Arv Z h413 b353 k353 .byte (3 : Int32) [(.int (nar .byte (p0.toInt8.toInt32))), (.int (nar .byte (p1.toInt8.toInt32))), (.int (nar .byte (p2.toInt8.toInt32)))] (.int (0 : Int32)) := F411.ext E413
    have F421 : Exa Z h413 b405 "[B" := Y405.ext E413
    have F422 : Arv Z h413 b405 k405 .byte (1 : Int32) [(.int (0 : Int32))] (.int (0 : Int32)) := V405.ext E413
    have Z423 : n0 ≤ h413.size := Nat.le_trans Z412 E413.1
    have V413 : Arv Z h413 b413 k413 .byte (1 : Int32) [(.int (0 : Int32))] (.int (0 : Int32)) := (Arv.new A413 (by decide)).pad (pad_rep [] (.int (0 : Int32)) 1)
    obtain ⟨co424, Ao424, qo424, So424, Mo424, Bo424, Go424⟩ := id F422
    obtain ⟨T425, h425, X425, e425, W425, st425⟩ := stB X413 hx hZ e413 Ao424 (j := (0 : Int32)) (inb_of So424 ⟨(by decide), (by decide)⟩) (g := (mkF m 108 #[.val (.int p0), .val (.int p1), .val (.int p2), .val (.int p3), .val (.int (3 : Int32)), .val (.ref b351), .val (.ref b353), .val (.int xv), .val (.int yv), .val (.ref b405), .val (.ref b413), .unset, .unset, .unset, .unset, .unset, .unset] [(.int xv), (.int (0 : Int32)), (.ref b405)])) rfl rfl (hb hby at_108)
    have V425 : Arv Z h425 b405 k405 .byte (1 : Int32) [(.int (nar .byte xv))] (.int (0 : Int32)) := Arv.set Ao424 qo424 So424 Mo424 Bo424 Go424 (fits_nar_byte _) W425 0 rfl (Nat.le_of_ble_eq_true rfl)
    have F426 : Exa Z h425 b351 "[B" := F417.wr W425
    have F427 : Exa Z h425 b353 "[B" := F418.wr W425
    have F428 : Arv Z h425 b351 k351 .byte (3 : Int32) [(.int (nar .byte (p0.toInt8.toInt32))), (.int (nar .byte (p1.toInt8.toInt32))), (.int (nar .byte (p2.toInt8.toInt32)))] (.int (0 : Int32)) := F419.other W425 ne406
    have F429 : Arv Z h425 b353 k353 .byte (3 : Int32) [(.int (nar .byte (p0.toInt8.toInt32))), (.int (nar .byte (p1.toInt8.toInt32))), (.int (nar .byte (p2.toInt8.toInt32)))] (.int (0 : Int32)) := F420.other W425 ne407
    have F430 : Exa Z h425 b405 "[B" := F421.wr W425
    have F431 : Exa Z h425 b413 "[B" := Y413.wr W425
    have F432 : Arv Z h425 b413 k413 .byte (1 : Int32) [(.int (0 : Int32))] (.int (0 : Int32)) := V413.other W425 (Ne.symm ne416)
    have Z433 : n0 ≤ h425.size := Nat.le_trans Z423 (Keep.of_wr W425).1
    have N434 := Fr.snoc X425 N399 g_b405
    obtain ⟨co435, Ao435, qo435, So435, Mo435, Bo435, Go435⟩ := id F432
    obtain ⟨T436, h436, X436, e436, W436, st436⟩ := stB X425 hx hZ e425 Ao435 (j := (0 : Int32)) (inb_of So435 ⟨(by decide), (by decide)⟩) (g := (mkF m 114 #[.val (.int p0), .val (.int p1), .val (.int p2), .val (.int p3), .val (.int (3 : Int32)), .val (.ref b351), .val (.ref b353), .val (.int xv), .val (.int yv), .val (.ref b405), .val (.ref b413), .unset, .unset, .unset, .unset, .unset, .unset] [(.int yv), (.int (0 : Int32)), (.ref b413)])) rfl rfl (hb hby at_114)
    have V436 : Arv Z h436 b413 k413 .byte (1 : Int32) [(.int (nar .byte yv))] (.int (0 : Int32)) := Arv.set Ao435 qo435 So435 Mo435 Bo435 Go435 (fits_nar_byte _) W436 0 rfl (Nat.le_of_ble_eq_true rfl)
    have F437 : Exa Z h436 b351 "[B" := F426.wr W436
    have F438 : Exa Z h436 b353 "[B" := F427.wr W436
    have F439 : Arv Z h436 b351 k351 .byte (3 : Int32) [(.int (nar .byte (p0.toInt8.toInt32))), (.int (nar .byte (p1.toInt8.toInt32))), (.int (nar .byte (p2.toInt8.toInt32)))] (.int (0 : Int32)) := F428.other W436 ne414
    have F440 : Arv Z h436 b353 k353 .byte (3 : Int32) [(.int (nar .byte (p0.toInt8.toInt32))), (.int (nar .byte (p1.toInt8.toInt32))), (.int (nar .byte (p2.toInt8.toInt32)))] (.int (0 : Int32)) := F429.other W436 ne415
    have F441 : Exa Z h436 b405 "[B" := F430.wr W436
    have F442 : Exa Z h436 b413 "[B" := F431.wr W436
    have F443 : Arv Z h436 b405 k405 .byte (1 : Int32) [(.int (nar .byte xv))] (.int (0 : Int32)) := V425.other W436 ne416
    have Z444 : n0 ≤ h436.size := Nat.le_trans Z433 (Keep.of_wr W436).1
    have N445 := Fr.snoc X436 N434 g_b413
    obtain ⟨T446, h446, X446, e446, E446, A446, D446, -, st446⟩ := newO X436 hx hZ hown (hw _ (List.mem_of_getElem? (i := 1) rfl)) (hw _ (List.mem_of_getElem? (i := 2) rfl)) (hw _ (List.mem_of_getElem? (i := 3) rfl)) e436 (g := (mkF m 115 #[.val (.int p0), .val (.int p1), .val (.int p2), .val (.int p3), .val (.int (3 : Int32)), .val (.ref b351), .val (.ref b353), .val (.int xv), .val (.int yv), .val (.ref b405), .val (.ref b413), .unset, .unset, .unset, .unset, .unset, .unset] [])) rfl (hb hby at_115) (by decide) (by decide)
    obtain ⟨b446, g446⟩ : ∃ z, z = h436.size := ⟨_, rfl⟩
    rw [← g446] at A446 D446 st446
    have ne447 : b351 ≠ b446 := Nat.ne_of_lt (Nat.lt_of_lt_of_le F437.lt (Nat.le_of_eq g446.symm))
    have ne448 : b353 ≠ b446 := Nat.ne_of_lt (Nat.lt_of_lt_of_le F438.lt (Nat.le_of_eq g446.symm))
    have ne449 : b405 ≠ b446 := Nat.ne_of_lt (Nat.lt_of_lt_of_le F441.lt (Nat.le_of_eq g446.symm))
    have ne450 : b413 ≠ b446 := Nat.ne_of_lt (Nat.lt_of_lt_of_le F442.lt (Nat.le_of_eq g446.symm))
    have g_b446 : n0 ≤ b446 := Nat.le_trans Z444 (Nat.le_of_eq g446.symm)
    have F451 : Exa Z h446 b351 "[B" := F437.ext E446
    have F452 : Exa Z h446 b353 "[B" := F438.ext E446
    have F453 : Arv Z h446 b351 k351 .byte (3 : Int32) [(.int (nar .byte (p0.toInt8.toInt32))), (.int (nar .byte (p1.toInt8.toInt32))), (.int (nar .byte (p2.toInt8.toInt32)))] (.int (0 : Int32)) := F439.ext E446
    have F454 : Arv Z h446 b353 k353 .byte (3 : Int32) [(.int (nar .byte (p0.toInt8.toInt32))), (.int (nar .byte (p1.toInt8.toInt32))), (.int (nar .byte (p2.toInt8.toInt32)))] (.int (0 : Int32)) := F440.ext E446
    have F455 : Exa Z h446 b405 "[B" := F441.ext E446
    have F456 : Exa Z h446 b413 "[B" := F442.ext E446
    have F457 : Arv Z h446 b405 k405 .byte (1 : Int32) [(.int (nar .byte xv))] (.int (0 : Int32)) := F443.ext E446
    have F458 : Arv Z h446 b413 k413 .byte (1 : Int32) [(.int (nar .byte yv))] (.int (0 : Int32)) := V436.ext E446
    have Z459 : n0 ≤ h446.size := Nat.le_trans Z444 E446.1
    have F460 : Fld Z h446 b446 "com/example/grant4/grant4/store/KeyLocks" "stripes" "[Ljava/lang/Object;" .null := D446 (Or.inr (hw _ (List.mem_of_getElem? (i := 13) rfl))) (ty := (.array (.object "java/lang/Object"))) (by decide)
    obtain ⟨_, _, ⟨T461, L461, k461, n461⟩, -, X461, ⟨Lc461, hQ461, l461, y461, z461⟩, st461⟩ := X446.specialBack hx (y := (⟨"com/example/grant4/grant4/store/KeyLocks", "<init>", "()V"⟩ : MethodName)) rfl hown (mvT hZ (hw _ (List.mem_of_getElem? (i := 4) rfl))) (mvT hZ (hw _ (List.mem_of_getElem? (i := 5) rfl))) (mvT hZ (hw _ (List.mem_of_getElem? (i := 6) rfl))) (by decide) (backOf (W := 1) (rm1 l Z a0 hw [] b446 h446 n0 Z459 A446 g_b446 F460) hZ (hw _ (List.mem_of_getElem? (i := 6) rfl)) (hw _ (List.mem_of_getElem? (i := 3) rfl)) (by decide) (by decide)) (g := (mkF m 119 #[.val (.int p0), .val (.int p1), .val (.int p2), .val (.int p3), .val (.int (3 : Int32)), .val (.ref b351), .val (.ref b353), .val (.int xv), .val (.int yv), .val (.ref b405), .val (.ref b413), .unset, .unset, .unset, .unset, .unset, .unset] [(.ref b446), (.ref b446)])) rfl (by rw [hml]; rfl) (Steps.refl _) (a := b446) (argsL := []) (rest := [(.ref b446)]) (lenOf pd_4 rfl) rfl (by show 2 * 0 + _ ≤ _; exact Nat.le_of_eq rfl) (hb hby at_119) (fun _ _ => ⟨rfl, e446, (by decide : 5 + 65 ≤ _), (by decide : 9 + 64 ≤ _)⟩)
    dsimp only [Pt.U, Pt.locs, Pt.cells, Pt.slots] at X461 l461 y461 z461 st461 hQ461
    subst l461 y461 z461
    obtain ⟨aB462, f463, rfl, N461q, R464, R465, R466, R467, R468⟩ := hQ461
    have N461 := Fr.app N445 N461q
    have F469 : Exa Z T461.heap b351 "[B" := F451.keep R464
    have F470 : Exa Z T461.heap b353 "[B" := F452.keep R464
    have F471 : Arv Z T461.heap b351 k351 .byte (3 : Int32) [(.int (nar .byte (p0.toInt8.toInt32))), (.int (nar .byte (p1.toInt8.toInt32))), (.int (nar .byte (p2.toInt8.toInt32)))] (.int (0 : Int32)) := F453.keep R464 (ninS ne447 nin0)
    have F472 : Arv Z T461.heap b353 k353 .byte (3 : Int32) [(.int (nar .byte (p0.toInt8.toInt32))), (.int (nar .byte (p1.toInt8.toInt32))), (.int (nar .byte (p2.toInt8.toInt32)))] (.int (0 : Int32)) := F454.keep R464 (ninS ne448 nin0)
    have F473 : Exa Z T461.heap b405 "[B" := F455.keep R464
    have F474 : Exa Z T461.heap b413 "[B" := F456.keep R464
    have F475 : Arv Z T461.heap b405 k405 .byte (1 : Int32) [(.int (nar .byte xv))] (.int (0 : Int32)) := F457.keep R464 (ninS ne449 nin0)
    have F476 : Arv Z T461.heap b413 k413 .byte (1 : Int32) [(.int (nar .byte yv))] (.int (0 : Int32)) := F458.keep R464 (ninS ne450 nin0)
    have F477 : Exa Z T461.heap b446 "com/example/grant4/grant4/store/KeyLocks" := A446.keep R464
    have Z478 : n0 ≤ T461.heap.size := Nat.le_trans Z459 R464.1
    have hp479 : own_Str Z T461.heap aB462 f463 := R467
    obtain ⟨cq480, kq480, q480a, q480b, q480c⟩ := isOf hZ rfl R465
    obtain ⟨_, _, ⟨T480, L480, k480, n480⟩, -, X480, ⟨Lc480, hQ480, l480, y480, z480⟩, st480⟩ := X461.virtualBack hx (y := (⟨"com/example/grant4/grant4/store/KeyLocks", "of", "([B)Ljava/lang/Object;"⟩ : MethodName)) (z := (⟨"com/example/grant4/grant4/store/KeyLocks", "of", "([B)Ljava/lang/Object;"⟩ : MethodName)) hown (mvT hZ (hw _ (List.mem_of_getElem? (i := 17) rfl))) (mvT hZ (hw _ (List.mem_of_getElem? (i := 18) rfl))) (notFace_of_selects (args := #[]) (mvT hZ (hw _ (List.mem_of_getElem? (i := 20) rfl)))) (mvT hZ (hw _ (List.mem_of_getElem? (i := 20) rfl))) (mvT hZ (hw _ (List.mem_of_getElem? (i := 19) rfl))) (by decide) (backOf (W := 0) (rm3_3 l Z a0 hw [] b446 b351 aB462 f463 k351 (nar .byte (p0.toInt8.toInt32)) (nar .byte (p1.toInt8.toInt32)) (nar .byte (p2.toInt8.toInt32)) T461.heap n0 Z478 R466 hp479 F471 F469) hZ (hw _ (List.mem_of_getElem? (i := 21) rfl)) (hw _ (List.mem_of_getElem? (i := 3) rfl)) (by decide) (by decide)) q480a q480c (g := (mkF m 128 #[.val (.int p0), .val (.int p1), .val (.int p2), .val (.int p3), .val (.int (3 : Int32)), .val (.ref b351), .val (.ref b353), .val (.int xv), .val (.int yv), .val (.ref b405), .val (.ref b413), .val (.ref b446), .unset, .unset, .unset, .unset, .unset] [(.ref b351), (.ref b446)])) rfl (by rw [hml]; rfl) (Steps.refl _) (argsL := [(.ref b351)]) (rest := []) (lenOf pd_5 rfl) rfl (by show 2 * 0 + _ ≤ _; exact Nat.le_of_eq rfl) (hb hby at_128) (fun _ _ => ⟨rfl, rfl, (by decide : 70 + 0 ≤ _), (by decide : 73 + 0 ≤ _)⟩)
    dsimp only [Pt.U, Pt.locs, Pt.cells, Pt.slots] at X480 l480 y480 z480 st480 hQ480
    subst l480 y480 z480
    obtain ⟨rfl, N480q, R481⟩ := hQ480
    have N480 := Fr.app N461 N480q
    have hp482 : own_Str Z T461.heap aB462 f463 := R467
    obtain ⟨cq483, kq483, q483a, q483b, q483c⟩ := isOf hZ R481 R465
    obtain ⟨_, _, ⟨T483, L483, k483, n483⟩, -, X483, ⟨Lc483, hQ483, l483, y483, z483⟩, st483⟩ := X480.virtualBack hx (y := (⟨"com/example/grant4/grant4/store/KeyLocks", "of", "([B)Ljava/lang/Object;"⟩ : MethodName)) (z := (⟨"com/example/grant4/grant4/store/KeyLocks", "of", "([B)Ljava/lang/Object;"⟩ : MethodName)) hown (mvT hZ (hw _ (List.mem_of_getElem? (i := 17) rfl))) (mvT hZ (hw _ (List.mem_of_getElem? (i := 18) rfl))) (notFace_of_selects (args := #[]) (mvT hZ (hw _ (List.mem_of_getElem? (i := 20) rfl)))) (mvT hZ (hw _ (List.mem_of_getElem? (i := 20) rfl))) (mvT hZ (hw _ (List.mem_of_getElem? (i := 19) rfl))) (by decide) (backOf (W := 0) (rm3_3 l Z a0 hw [] b446 b353 aB462 f463 k353 (nar .byte (p0.toInt8.toInt32)) (nar .byte (p1.toInt8.toInt32)) (nar .byte (p2.toInt8.toInt32)) T461.heap n0 Z478 R466 hp482 F472 F470) hZ (hw _ (List.mem_of_getElem? (i := 21) rfl)) (hw _ (List.mem_of_getElem? (i := 3) rfl)) (by decide) (by decide)) q483a q483c (g := (mkF m 137 #[.val (.int p0), .val (.int p1), .val (.int p2), .val (.int p3), .val (.int (3 : Int32)), .val (.ref b351), .val (.ref b353), .val (.int xv), .val (.int yv), .val (.ref b405), .val (.ref b413), .val (.ref b446), .val (.ref (f463 (((((31 : Int32) * (((31 : Int32) * ((31 : Int32) + (nar .byte (p0.toInt8.toInt32)))) + (nar .byte (p1.toInt8.toInt32)))) + (nar .byte (p2.toInt8.toInt32)))).toInt % 64).toNat)), .unset, .unset, .unset, .unset] [(.ref b353), (.ref b446)])) rfl (by rw [hml]; rfl) (Steps.refl _) (argsL := [(.ref b353)]) (rest := []) (lenOf pd_5 rfl) rfl (by show 2 * 0 + _ ≤ _; exact Nat.le_of_eq rfl) (hb hby at_137) (fun _ _ => ⟨rfl, R481, (by decide : 70 + 0 ≤ _), (by decide : 73 + 0 ≤ _)⟩)
    dsimp only [Pt.U, Pt.locs, Pt.cells, Pt.slots] at X483 l483 y483 z483 st483 hQ483
    subst l483 y483 z483
    obtain ⟨rfl, N483q, R484⟩ := hQ483
    have N483 := Fr.app N480 N483q
    have hp485 : own_Str Z T461.heap aB462 f463 := R467
    obtain ⟨cq486, kq486, q486a, q486b, q486c⟩ := isOf hZ R484 R465
    obtain ⟨_, _, ⟨T486, L486, k486, n486⟩, -, X486, ⟨Lc486, hQ486, l486, y486, z486⟩, st486⟩ := X483.virtualBack hx (y := (⟨"com/example/grant4/grant4/store/KeyLocks", "of", "([B)Ljava/lang/Object;"⟩ : MethodName)) (z := (⟨"com/example/grant4/grant4/store/KeyLocks", "of", "([B)Ljava/lang/Object;"⟩ : MethodName)) hown (mvT hZ (hw _ (List.mem_of_getElem? (i := 17) rfl))) (mvT hZ (hw _ (List.mem_of_getElem? (i := 18) rfl))) (notFace_of_selects (args := #[]) (mvT hZ (hw _ (List.mem_of_getElem? (i := 20) rfl)))) (mvT hZ (hw _ (List.mem_of_getElem? (i := 20) rfl))) (mvT hZ (hw _ (List.mem_of_getElem? (i := 19) rfl))) (by decide) (backOf (W := 0) (rm3_3 l Z a0 hw [] b446 b351 aB462 f463 k351 (nar .byte (p0.toInt8.toInt32)) (nar .byte (p1.toInt8.toInt32)) (nar .byte (p2.toInt8.toInt32)) T461.heap n0 Z478 R466 hp485 F471 F469) hZ (hw _ (List.mem_of_getElem? (i := 21) rfl)) (hw _ (List.mem_of_getElem? (i := 3) rfl)) (by decide) (by decide)) q486a q486c (g := (mkF m 146 #[.val (.int p0), .val (.int p1), .val (.int p2), .val (.int p3), .val (.int (3 : Int32)), .val (.ref b351), .val (.ref b353), .val (.int xv), .val (.int yv), .val (.ref b405), .val (.ref b413), .val (.ref b446), .val (.ref (f463 (((((31 : Int32) * (((31 : Int32) * ((31 : Int32) + (nar .byte (p0.toInt8.toInt32)))) + (nar .byte (p1.toInt8.toInt32)))) + (nar .byte (p2.toInt8.toInt32)))).toInt % 64).toNat)), .val (.ref (f463 (((((31 : Int32) * (((31 : Int32) * ((31 : Int32) + (nar .byte (p0.toInt8.toInt32)))) + (nar .byte (p1.toInt8.toInt32)))) + (nar .byte (p2.toInt8.toInt32)))).toInt % 64).toNat)), .unset, .unset, .unset] [(.ref b351), (.ref b446)])) rfl (by rw [hml]; rfl) (Steps.refl _) (argsL := [(.ref b351)]) (rest := []) (lenOf pd_5 rfl) rfl (by show 2 * 0 + _ ≤ _; exact Nat.le_of_eq rfl) (hb hby at_146) (fun _ _ => ⟨rfl, R484, (by decide : 70 + 0 ≤ _), (by decide : 73 + 0 ≤ _)⟩)
    dsimp only [Pt.U, Pt.locs, Pt.cells, Pt.slots] at X486 l486 y486 z486 st486 hQ486
    subst l486 y486 z486
    obtain ⟨rfl, N486q, R487⟩ := hQ486
    have N486 := Fr.app N483 N486q
    have hp488 : own_Str Z T461.heap aB462 f463 := R467
    obtain ⟨cq489, kq489, q489a, q489b, q489c⟩ := isOf hZ R487 R465
    obtain ⟨_, _, ⟨T489, L489, k489, n489⟩, -, X489, ⟨Lc489, hQ489, l489, y489, z489⟩, st489⟩ := X486.virtualBack hx (y := (⟨"com/example/grant4/grant4/store/KeyLocks", "of", "([B)Ljava/lang/Object;"⟩ : MethodName)) (z := (⟨"com/example/grant4/grant4/store/KeyLocks", "of", "([B)Ljava/lang/Object;"⟩ : MethodName)) hown (mvT hZ (hw _ (List.mem_of_getElem? (i := 17) rfl))) (mvT hZ (hw _ (List.mem_of_getElem? (i := 18) rfl))) (notFace_of_selects (args := #[]) (mvT hZ (hw _ (List.mem_of_getElem? (i := 20) rfl)))) (mvT hZ (hw _ (List.mem_of_getElem? (i := 20) rfl))) (mvT hZ (hw _ (List.mem_of_getElem? (i := 19) rfl))) (by decide) (backOf (W := 0) (rm3_1 l Z a0 hw [] b446 b405 aB462 f463 k405 (nar .byte xv) T461.heap n0 Z478 R466 hp488 F475 F473) hZ (hw _ (List.mem_of_getElem? (i := 21) rfl)) (hw _ (List.mem_of_getElem? (i := 3) rfl)) (by decide) (by decide)) q489a q489c (g := (mkF m 155 #[.val (.int p0), .val (.int p1), .val (.int p2), .val (.int p3), .val (.int (3 : Int32)), .val (.ref b351), .val (.ref b353), .val (.int xv), .val (.int yv), .val (.ref b405), .val (.ref b413), .val (.ref b446), .val (.ref (f463 (((((31 : Int32) * (((31 : Int32) * ((31 : Int32) + (nar .byte (p0.toInt8.toInt32)))) + (nar .byte (p1.toInt8.toInt32)))) + (nar .byte (p2.toInt8.toInt32)))).toInt % 64).toNat)), .val (.ref (f463 (((((31 : Int32) * (((31 : Int32) * ((31 : Int32) + (nar .byte (p0.toInt8.toInt32)))) + (nar .byte (p1.toInt8.toInt32)))) + (nar .byte (p2.toInt8.toInt32)))).toInt % 64).toNat)), .val (.ref (f463 (((((31 : Int32) * (((31 : Int32) * ((31 : Int32) + (nar .byte (p0.toInt8.toInt32)))) + (nar .byte (p1.toInt8.toInt32)))) + (nar .byte (p2.toInt8.toInt32)))).toInt % 64).toNat)), .unset, .unset] [(.ref b405), (.ref b446)])) rfl (by rw [hml]; rfl) (Steps.refl _) (argsL := [(.ref b405)]) (rest := []) (lenOf pd_5 rfl) rfl (by show 2 * 0 + _ ≤ _; exact Nat.le_of_eq rfl) (hb hby at_155) (fun _ _ => ⟨rfl, R487, (by decide : 70 + 0 ≤ _), (by decide : 73 + 0 ≤ _)⟩)
    dsimp only [Pt.U, Pt.locs, Pt.cells, Pt.slots] at X489 l489 y489 z489 st489 hQ489
    subst l489 y489 z489
    obtain ⟨rfl, N489q, R490⟩ := hQ489
    have N489 := Fr.app N486 N489q
    have hp491 : own_Str Z T461.heap aB462 f463 := R467
    obtain ⟨cq492, kq492, q492a, q492b, q492c⟩ := isOf hZ R490 R465
    obtain ⟨_, _, ⟨T492, L492, k492, n492⟩, -, X492, ⟨Lc492, hQ492, l492, y492, z492⟩, st492⟩ := X489.virtualBack hx (y := (⟨"com/example/grant4/grant4/store/KeyLocks", "of", "([B)Ljava/lang/Object;"⟩ : MethodName)) (z := (⟨"com/example/grant4/grant4/store/KeyLocks", "of", "([B)Ljava/lang/Object;"⟩ : MethodName)) hown (mvT hZ (hw _ (List.mem_of_getElem? (i := 17) rfl))) (mvT hZ (hw _ (List.mem_of_getElem? (i := 18) rfl))) (notFace_of_selects (args := #[]) (mvT hZ (hw _ (List.mem_of_getElem? (i := 20) rfl)))) (mvT hZ (hw _ (List.mem_of_getElem? (i := 20) rfl))) (mvT hZ (hw _ (List.mem_of_getElem? (i := 19) rfl))) (by decide) (backOf (W := 0) (rm3_1 l Z a0 hw [] b446 b413 aB462 f463 k413 (nar .byte yv) T461.heap n0 Z478 R466 hp491 F476 F474) hZ (hw _ (List.mem_of_getElem? (i := 21) rfl)) (hw _ (List.mem_of_getElem? (i := 3) rfl)) (by decide) (by decide)) q492a q492c (g := (mkF m 164 #[.val (.int p0), .val (.int p1), .val (.int p2), .val (.int p3), .val (.int (3 : Int32)), .val (.ref b351), .val (.ref b353), .val (.int xv), .val (.int yv), .val (.ref b405), .val (.ref b413), .val (.ref b446), .val (.ref (f463 (((((31 : Int32) * (((31 : Int32) * ((31 : Int32) + (nar .byte (p0.toInt8.toInt32)))) + (nar .byte (p1.toInt8.toInt32)))) + (nar .byte (p2.toInt8.toInt32)))).toInt % 64).toNat)), .val (.ref (f463 (((((31 : Int32) * (((31 : Int32) * ((31 : Int32) + (nar .byte (p0.toInt8.toInt32)))) + (nar .byte (p1.toInt8.toInt32)))) + (nar .byte (p2.toInt8.toInt32)))).toInt % 64).toNat)), .val (.ref (f463 (((((31 : Int32) * (((31 : Int32) * ((31 : Int32) + (nar .byte (p0.toInt8.toInt32)))) + (nar .byte (p1.toInt8.toInt32)))) + (nar .byte (p2.toInt8.toInt32)))).toInt % 64).toNat)), .val (.ref (f463 ((((31 : Int32) + (nar .byte xv))).toInt % 64).toNat)), .unset] [(.ref b413), (.ref b446)])) rfl (by rw [hml]; rfl) (Steps.refl _) (argsL := [(.ref b413)]) (rest := []) (lenOf pd_5 rfl) rfl (by show 2 * 0 + _ ≤ _; exact Nat.le_of_eq rfl) (hb hby at_164) (fun _ _ => ⟨rfl, R490, (by decide : 70 + 0 ≤ _), (by decide : 73 + 0 ≤ _)⟩)
    dsimp only [Pt.U, Pt.locs, Pt.cells, Pt.slots] at X492 l492 y492 z492 st492 hQ492
    subst l492 y492 z492
    obtain ⟨rfl, N492q, R493⟩ := hQ492
    have N492 := Fr.app N489 N492q
    have ha202_494 : ¬ ((f463 ((((31 : Int32) + (nar .byte xv))).toInt % 64).toNat) = (f463 ((((31 : Int32) + (nar .byte yv))).toInt % 64).toNat)) := own_m p0 xv yv f463 R468 hxv hm403
    obtain ⟨fs, hr, hrun, hended, hW, hsame⟩ := X492.leave (v := some (.int (1 : Int32))) (fun h => by rw [Bd.returns] at h; cases h)
    refine ⟨_, _, P404 _ ?_, hrun, hended, _, _, rfl, ?_, ⟨_, rfl⟩, hW, hsame.mono (by decide) (by decide)⟩
    · show Steps p.tables e below (T394.setTop (mkF m 91 #[.val (.int p0), .val (.int p1), .val (.int p2), .val (.int p3), .val (.int (3 : Int32)), .val (.ref b351), .val (.ref b353), .val (.int xv), .unset, .unset, .unset, .unset, .unset, .unset, .unset, .unset, .unset] [(.int yv)])) _
      refine XS.istore X394.here hx rfl (hb hby at_91) rfl (l' := #[.val (.int p0), .val (.int p1), .val (.int p2), .val (.int p3), .val (.int (3 : Int32)), .val (.ref b351), .val (.ref b353), .val (.int xv), .val (.int yv), .unset, .unset, .unset, .unset, .unset, .unset, .unset, .unset]) rfl ?_
      show Steps p.tables e below (T394.setTop (mkF m 93 #[.val (.int p0), .val (.int p1), .val (.int p2), .val (.int p3), .val (.int (3 : Int32)), .val (.ref b351), .val (.ref b353), .val (.int xv), .val (.int yv), .unset, .unset, .unset, .unset, .unset, .unset, .unset, .unset] [])) _
      refine XS.iconst X394.here hx rfl (hb hby at_93) ?_
      show Steps p.tables e below (T394.setTop (mkF m 94 #[.val (.int p0), .val (.int p1), .val (.int p2), .val (.int p3), .val (.int (3 : Int32)), .val (.ref b351), .val (.ref b353), .val (.int xv), .val (.int yv), .unset, .unset, .unset, .unset, .unset, .unset, .unset, .unset] [(.int (1 : Int32))])) _
      refine st405 _ ?_
      show Steps p.tables e below (T405.setTop (mkF m 96 #[.val (.int p0), .val (.int p1), .val (.int p2), .val (.int p3), .val (.int (3 : Int32)), .val (.ref b351), .val (.ref b353), .val (.int xv), .val (.int yv), .unset, .unset, .unset, .unset, .unset, .unset, .unset, .unset] [(.ref b405)])) _
      refine XS.astore X405.here hx rfl (hb hby at_96) rfl rfl (l' := #[.val (.int p0), .val (.int p1), .val (.int p2), .val (.int p3), .val (.int (3 : Int32)), .val (.ref b351), .val (.ref b353), .val (.int xv), .val (.int yv), .val (.ref b405), .unset, .unset, .unset, .unset, .unset, .unset, .unset]) rfl ?_
      show Steps p.tables e below (T405.setTop (mkF m 98 #[.val (.int p0), .val (.int p1), .val (.int p2), .val (.int p3), .val (.int (3 : Int32)), .val (.ref b351), .val (.ref b353), .val (.int xv), .val (.int yv), .val (.ref b405), .unset, .unset, .unset, .unset, .unset, .unset, .unset] [])) _
      refine XS.iconst X405.here hx rfl (hb hby at_98) ?_
      show Steps p.tables e below (T405.setTop (mkF m 99 #[.val (.int p0), .val (.int p1), .val (.int p2), .val (.int p3), .val (.int (3 : Int32)), .val (.ref b351), .val (.ref b353), .val (.int xv), .val (.int yv), .val (.ref b405), .unset, .unset, .unset, .unset, .unset, .unset, .unset] [(.int (1 : Int32))])) _
      refine st413 _ ?_
      show Steps p.tables e below (T413.setTop (mkF m 101 #[.val (.int p0), .val (.int p1), .val (.int p2), .val (.int p3), .val (.int (3 : Int32)), .val (.ref b351), .val (.ref b353), .val (.int xv), .val (.int yv), .val (.ref b405), .unset, .unset, .unset, .unset, .unset, .unset, .unset] [(.ref b413)])) _
      refine XS.astore X413.here hx rfl (hb hby at_101) rfl rfl (l' := #[.val (.int p0), .val (.int p1), .val (.int p2), .val (.int p3), .val (.int (3 : Int32)), .val (.ref b351), .val (.ref b353), .val (.int xv), .val (.int yv), .val (.ref b405), .val (.ref b413), .unset, .unset, .unset, .unset, .unset, .unset]) rfl ?_
      show Steps p.tables e below (T413.setTop (mkF m 103 #[.val (.int p0), .val (.int p1), .val (.int p2), .val (.int p3), .val (.int (3 : Int32)), .val (.ref b351), .val (.ref b353), .val (.int xv), .val (.int yv), .val (.ref b405), .val (.ref b413), .unset, .unset, .unset, .unset, .unset, .unset] [])) _
      refine XS.aload X413.here hx rfl (hb hby at_103) rfl rfl ?_
      show Steps p.tables e below (T413.setTop (mkF m 105 #[.val (.int p0), .val (.int p1), .val (.int p2), .val (.int p3), .val (.int (3 : Int32)), .val (.ref b351), .val (.ref b353), .val (.int xv), .val (.int yv), .val (.ref b405), .val (.ref b413), .unset, .unset, .unset, .unset, .unset, .unset] [(.ref b405)])) _
      refine XS.iconst X413.here hx rfl (hb hby at_105) ?_
      show Steps p.tables e below (T413.setTop (mkF m 106 #[.val (.int p0), .val (.int p1), .val (.int p2), .val (.int p3), .val (.int (3 : Int32)), .val (.ref b351), .val (.ref b353), .val (.int xv), .val (.int yv), .val (.ref b405), .val (.ref b413), .unset, .unset, .unset, .unset, .unset, .unset] [(.int (0 : Int32)), (.ref b405)])) _
      refine XS.iload X413.here hx rfl (hb hby at_106) rfl ?_
      show Steps p.tables e below (T413.setTop (mkF m 108 #[.val (.int p0), .val (.int p1), .val (.int p2), .val (.int p3), .val (.int (3 : Int32)), .val (.ref b351), .val (.ref b353), .val (.int xv), .val (.int yv), .val (.ref b405), .val (.ref b413), .unset, .unset, .unset, .unset, .unset, .unset] [(.int xv), (.int (0 : Int32)), (.ref b405)])) _
      refine st425 _ ?_
      show Steps p.tables e below (T425.setTop (mkF m 109 #[.val (.int p0), .val (.int p1), .val (.int p2), .val (.int p3), .val (.int (3 : Int32)), .val (.ref b351), .val (.ref b353), .val (.int xv), .val (.int yv), .val (.ref b405), .val (.ref b413), .unset, .unset, .unset, .unset, .unset, .unset] [])) _
      refine XS.aload X425.here hx rfl (hb hby at_109) rfl rfl ?_
      show Steps p.tables e below (T425.setTop (mkF m 111 #[.val (.int p0), .val (.int p1), .val (.int p2), .val (.int p3), .val (.int (3 : Int32)), .val (.ref b351), .val (.ref b353), .val (.int xv), .val (.int yv), .val (.ref b405), .val (.ref b413), .unset, .unset, .unset, .unset, .unset, .unset] [(.ref b413)])) _
      refine XS.iconst X425.here hx rfl (hb hby at_111) ?_
      show Steps p.tables e below (T425.setTop (mkF m 112 #[.val (.int p0), .val (.int p1), .val (.int p2), .val (.int p3), .val (.int (3 : Int32)), .val (.ref b351), .val (.ref b353), .val (.int xv), .val (.int yv), .val (.ref b405), .val (.ref b413), .unset, .unset, .unset, .unset, .unset, .unset] [(.int (0 : Int32)), (.ref b413)])) _
      refine XS.iload X425.here hx rfl (hb hby at_112) rfl ?_
      show Steps p.tables e below (T425.setTop (mkF m 114 #[.val (.int p0), .val (.int p1), .val (.int p2), .val (.int p3), .val (.int (3 : Int32)), .val (.ref b351), .val (.ref b353), .val (.int xv), .val (.int yv), .val (.ref b405), .val (.ref b413), .unset, .unset, .unset, .unset, .unset, .unset] [(.int yv), (.int (0 : Int32)), (.ref b413)])) _
      refine st436 _ ?_
      show Steps p.tables e below (T436.setTop (mkF m 115 #[.val (.int p0), .val (.int p1), .val (.int p2), .val (.int p3), .val (.int (3 : Int32)), .val (.ref b351), .val (.ref b353), .val (.int xv), .val (.int yv), .val (.ref b405), .val (.ref b413), .unset, .unset, .unset, .unset, .unset, .unset] [])) _
      refine st446 _ ?_
      show Steps p.tables e below (T446.setTop (mkF m 118 #[.val (.int p0), .val (.int p1), .val (.int p2), .val (.int p3), .val (.int (3 : Int32)), .val (.ref b351), .val (.ref b353), .val (.int xv), .val (.int yv), .val (.ref b405), .val (.ref b413), .unset, .unset, .unset, .unset, .unset, .unset] [(.ref b446)])) _
      refine XS.dup X446.here hx rfl (hb hby at_118) rfl rfl ?_
      show Steps p.tables e below (T446.setTop (mkF m 119 #[.val (.int p0), .val (.int p1), .val (.int p2), .val (.int p3), .val (.int (3 : Int32)), .val (.ref b351), .val (.ref b353), .val (.int xv), .val (.int yv), .val (.ref b405), .val (.ref b413), .unset, .unset, .unset, .unset, .unset, .unset] [(.ref b446), (.ref b446)])) _
      refine st461.trans ?_
      show Steps p.tables e below (T461.setTop (mkF m 122 #[.val (.int p0), .val (.int p1), .val (.int p2), .val (.int p3), .val (.int (3 : Int32)), .val (.ref b351), .val (.ref b353), .val (.int xv), .val (.int yv), .val (.ref b405), .val (.ref b413), .unset, .unset, .unset, .unset, .unset, .unset] [(.ref b446)])) _
      refine XS.astore X461.here hx rfl (hb hby at_122) rfl rfl (l' := #[.val (.int p0), .val (.int p1), .val (.int p2), .val (.int p3), .val (.int (3 : Int32)), .val (.ref b351), .val (.ref b353), .val (.int xv), .val (.int yv), .val (.ref b405), .val (.ref b413), .val (.ref b446), .unset, .unset, .unset, .unset, .unset]) rfl ?_
      show Steps p.tables e below (T461.setTop (mkF m 124 #[.val (.int p0), .val (.int p1), .val (.int p2), .val (.int p3), .val (.int (3 : Int32)), .val (.ref b351), .val (.ref b353), .val (.int xv), .val (.int yv), .val (.ref b405), .val (.ref b413), .val (.ref b446), .unset, .unset, .unset, .unset, .unset] [])) _
      refine XS.aload X461.here hx rfl (hb hby at_124) rfl rfl ?_
      show Steps p.tables e below (T461.setTop (mkF m 126 #[.val (.int p0), .val (.int p1), .val (.int p2), .val (.int p3), .val (.int (3 : Int32)), .val (.ref b351), .val (.ref b353), .val (.int xv), .val (.int yv), .val (.ref b405), .val (.ref b413), .val (.ref b446), .unset, .unset, .unset, .unset, .unset] [(.ref b446)])) _
      refine XS.aload X461.here hx rfl (hb hby at_126) rfl rfl ?_
      show Steps p.tables e below (T461.setTop (mkF m 128 #[.val (.int p0), .val (.int p1), .val (.int p2), .val (.int p3), .val (.int (3 : Int32)), .val (.ref b351), .val (.ref b353), .val (.int xv), .val (.int yv), .val (.ref b405), .val (.ref b413), .val (.ref b446), .unset, .unset, .unset, .unset, .unset] [(.ref b351), (.ref b446)])) _
      refine st480.trans ?_
      show Steps p.tables e below (T480.setTop (mkF m 131 #[.val (.int p0), .val (.int p1), .val (.int p2), .val (.int p3), .val (.int (3 : Int32)), .val (.ref b351), .val (.ref b353), .val (.int xv), .val (.int yv), .val (.ref b405), .val (.ref b413), .val (.ref b446), .unset, .unset, .unset, .unset, .unset] [(.ref (f463 (((((31 : Int32) * (((31 : Int32) * ((31 : Int32) + (nar .byte (p0.toInt8.toInt32)))) + (nar .byte (p1.toInt8.toInt32)))) + (nar .byte (p2.toInt8.toInt32)))).toInt % 64).toNat))])) _
      refine XS.astore X480.here hx rfl (hb hby at_131) rfl rfl (l' := #[.val (.int p0), .val (.int p1), .val (.int p2), .val (.int p3), .val (.int (3 : Int32)), .val (.ref b351), .val (.ref b353), .val (.int xv), .val (.int yv), .val (.ref b405), .val (.ref b413), .val (.ref b446), .val (.ref (f463 (((((31 : Int32) * (((31 : Int32) * ((31 : Int32) + (nar .byte (p0.toInt8.toInt32)))) + (nar .byte (p1.toInt8.toInt32)))) + (nar .byte (p2.toInt8.toInt32)))).toInt % 64).toNat)), .unset, .unset, .unset, .unset]) rfl ?_
      show Steps p.tables e below (T480.setTop (mkF m 133 #[.val (.int p0), .val (.int p1), .val (.int p2), .val (.int p3), .val (.int (3 : Int32)), .val (.ref b351), .val (.ref b353), .val (.int xv), .val (.int yv), .val (.ref b405), .val (.ref b413), .val (.ref b446), .val (.ref (f463 (((((31 : Int32) * (((31 : Int32) * ((31 : Int32) + (nar .byte (p0.toInt8.toInt32)))) + (nar .byte (p1.toInt8.toInt32)))) + (nar .byte (p2.toInt8.toInt32)))).toInt % 64).toNat)), .unset, .unset, .unset, .unset] [])) _
      refine XS.aload X480.here hx rfl (hb hby at_133) rfl rfl ?_
      show Steps p.tables e below (T480.setTop (mkF m 135 #[.val (.int p0), .val (.int p1), .val (.int p2), .val (.int p3), .val (.int (3 : Int32)), .val (.ref b351), .val (.ref b353), .val (.int xv), .val (.int yv), .val (.ref b405), .val (.ref b413), .val (.ref b446), .val (.ref (f463 (((((31 : Int32) * (((31 : Int32) * ((31 : Int32) + (nar .byte (p0.toInt8.toInt32)))) + (nar .byte (p1.toInt8.toInt32)))) + (nar .byte (p2.toInt8.toInt32)))).toInt % 64).toNat)), .unset, .unset, .unset, .unset] [(.ref b446)])) _
      refine XS.aload X480.here hx rfl (hb hby at_135) rfl rfl ?_
      show Steps p.tables e below (T480.setTop (mkF m 137 #[.val (.int p0), .val (.int p1), .val (.int p2), .val (.int p3), .val (.int (3 : Int32)), .val (.ref b351), .val (.ref b353), .val (.int xv), .val (.int yv), .val (.ref b405), .val (.ref b413), .val (.ref b446), .val (.ref (f463 (((((31 : Int32) * (((31 : Int32) * ((31 : Int32) + (nar .byte (p0.toInt8.toInt32)))) + (nar .byte (p1.toInt8.toInt32)))) + (nar .byte (p2.toInt8.toInt32)))).toInt % 64).toNat)), .unset, .unset, .unset, .unset] [(.ref b353), (.ref b446)])) _
      refine st483.trans ?_
      show Steps p.tables e below (T483.setTop (mkF m 140 #[.val (.int p0), .val (.int p1), .val (.int p2), .val (.int p3), .val (.int (3 : Int32)), .val (.ref b351), .val (.ref b353), .val (.int xv), .val (.int yv), .val (.ref b405), .val (.ref b413), .val (.ref b446), .val (.ref (f463 (((((31 : Int32) * (((31 : Int32) * ((31 : Int32) + (nar .byte (p0.toInt8.toInt32)))) + (nar .byte (p1.toInt8.toInt32)))) + (nar .byte (p2.toInt8.toInt32)))).toInt % 64).toNat)), .unset, .unset, .unset, .unset] [(.ref (f463 (((((31 : Int32) * (((31 : Int32) * ((31 : Int32) + (nar .byte (p0.toInt8.toInt32)))) + (nar .byte (p1.toInt8.toInt32)))) + (nar .byte (p2.toInt8.toInt32)))).toInt % 64).toNat))])) _
      refine XS.astore X483.here hx rfl (hb hby at_140) rfl rfl (l' := #[.val (.int p0), .val (.int p1), .val (.int p2), .val (.int p3), .val (.int (3 : Int32)), .val (.ref b351), .val (.ref b353), .val (.int xv), .val (.int yv), .val (.ref b405), .val (.ref b413), .val (.ref b446), .val (.ref (f463 (((((31 : Int32) * (((31 : Int32) * ((31 : Int32) + (nar .byte (p0.toInt8.toInt32)))) + (nar .byte (p1.toInt8.toInt32)))) + (nar .byte (p2.toInt8.toInt32)))).toInt % 64).toNat)), .val (.ref (f463 (((((31 : Int32) * (((31 : Int32) * ((31 : Int32) + (nar .byte (p0.toInt8.toInt32)))) + (nar .byte (p1.toInt8.toInt32)))) + (nar .byte (p2.toInt8.toInt32)))).toInt % 64).toNat)), .unset, .unset, .unset]) rfl ?_
      show Steps p.tables e below (T483.setTop (mkF m 142 #[.val (.int p0), .val (.int p1), .val (.int p2), .val (.int p3), .val (.int (3 : Int32)), .val (.ref b351), .val (.ref b353), .val (.int xv), .val (.int yv), .val (.ref b405), .val (.ref b413), .val (.ref b446), .val (.ref (f463 (((((31 : Int32) * (((31 : Int32) * ((31 : Int32) + (nar .byte (p0.toInt8.toInt32)))) + (nar .byte (p1.toInt8.toInt32)))) + (nar .byte (p2.toInt8.toInt32)))).toInt % 64).toNat)), .val (.ref (f463 (((((31 : Int32) * (((31 : Int32) * ((31 : Int32) + (nar .byte (p0.toInt8.toInt32)))) + (nar .byte (p1.toInt8.toInt32)))) + (nar .byte (p2.toInt8.toInt32)))).toInt % 64).toNat)), .unset, .unset, .unset] [])) _
      refine XS.aload X483.here hx rfl (hb hby at_142) rfl rfl ?_
      show Steps p.tables e below (T483.setTop (mkF m 144 #[.val (.int p0), .val (.int p1), .val (.int p2), .val (.int p3), .val (.int (3 : Int32)), .val (.ref b351), .val (.ref b353), .val (.int xv), .val (.int yv), .val (.ref b405), .val (.ref b413), .val (.ref b446), .val (.ref (f463 (((((31 : Int32) * (((31 : Int32) * ((31 : Int32) + (nar .byte (p0.toInt8.toInt32)))) + (nar .byte (p1.toInt8.toInt32)))) + (nar .byte (p2.toInt8.toInt32)))).toInt % 64).toNat)), .val (.ref (f463 (((((31 : Int32) * (((31 : Int32) * ((31 : Int32) + (nar .byte (p0.toInt8.toInt32)))) + (nar .byte (p1.toInt8.toInt32)))) + (nar .byte (p2.toInt8.toInt32)))).toInt % 64).toNat)), .unset, .unset, .unset] [(.ref b446)])) _
      refine XS.aload X483.here hx rfl (hb hby at_144) rfl rfl ?_
      show Steps p.tables e below (T483.setTop (mkF m 146 #[.val (.int p0), .val (.int p1), .val (.int p2), .val (.int p3), .val (.int (3 : Int32)), .val (.ref b351), .val (.ref b353), .val (.int xv), .val (.int yv), .val (.ref b405), .val (.ref b413), .val (.ref b446), .val (.ref (f463 (((((31 : Int32) * (((31 : Int32) * ((31 : Int32) + (nar .byte (p0.toInt8.toInt32)))) + (nar .byte (p1.toInt8.toInt32)))) + (nar .byte (p2.toInt8.toInt32)))).toInt % 64).toNat)), .val (.ref (f463 (((((31 : Int32) * (((31 : Int32) * ((31 : Int32) + (nar .byte (p0.toInt8.toInt32)))) + (nar .byte (p1.toInt8.toInt32)))) + (nar .byte (p2.toInt8.toInt32)))).toInt % 64).toNat)), .unset, .unset, .unset] [(.ref b351), (.ref b446)])) _
      refine st486.trans ?_
      show Steps p.tables e below (T486.setTop (mkF m 149 #[.val (.int p0), .val (.int p1), .val (.int p2), .val (.int p3), .val (.int (3 : Int32)), .val (.ref b351), .val (.ref b353), .val (.int xv), .val (.int yv), .val (.ref b405), .val (.ref b413), .val (.ref b446), .val (.ref (f463 (((((31 : Int32) * (((31 : Int32) * ((31 : Int32) + (nar .byte (p0.toInt8.toInt32)))) + (nar .byte (p1.toInt8.toInt32)))) + (nar .byte (p2.toInt8.toInt32)))).toInt % 64).toNat)), .val (.ref (f463 (((((31 : Int32) * (((31 : Int32) * ((31 : Int32) + (nar .byte (p0.toInt8.toInt32)))) + (nar .byte (p1.toInt8.toInt32)))) + (nar .byte (p2.toInt8.toInt32)))).toInt % 64).toNat)), .unset, .unset, .unset] [(.ref (f463 (((((31 : Int32) * (((31 : Int32) * ((31 : Int32) + (nar .byte (p0.toInt8.toInt32)))) + (nar .byte (p1.toInt8.toInt32)))) + (nar .byte (p2.toInt8.toInt32)))).toInt % 64).toNat))])) _
      refine XS.astore X486.here hx rfl (hb hby at_149) rfl rfl (l' := #[.val (.int p0), .val (.int p1), .val (.int p2), .val (.int p3), .val (.int (3 : Int32)), .val (.ref b351), .val (.ref b353), .val (.int xv), .val (.int yv), .val (.ref b405), .val (.ref b413), .val (.ref b446), .val (.ref (f463 (((((31 : Int32) * (((31 : Int32) * ((31 : Int32) + (nar .byte (p0.toInt8.toInt32)))) + (nar .byte (p1.toInt8.toInt32)))) + (nar .byte (p2.toInt8.toInt32)))).toInt % 64).toNat)), .val (.ref (f463 (((((31 : Int32) * (((31 : Int32) * ((31 : Int32) + (nar .byte (p0.toInt8.toInt32)))) + (nar .byte (p1.toInt8.toInt32)))) + (nar .byte (p2.toInt8.toInt32)))).toInt % 64).toNat)), .val (.ref (f463 (((((31 : Int32) * (((31 : Int32) * ((31 : Int32) + (nar .byte (p0.toInt8.toInt32)))) + (nar .byte (p1.toInt8.toInt32)))) + (nar .byte (p2.toInt8.toInt32)))).toInt % 64).toNat)), .unset, .unset]) rfl ?_
      show Steps p.tables e below (T486.setTop (mkF m 151 #[.val (.int p0), .val (.int p1), .val (.int p2), .val (.int p3), .val (.int (3 : Int32)), .val (.ref b351), .val (.ref b353), .val (.int xv), .val (.int yv), .val (.ref b405), .val (.ref b413), .val (.ref b446), .val (.ref (f463 (((((31 : Int32) * (((31 : Int32) * ((31 : Int32) + (nar .byte (p0.toInt8.toInt32)))) + (nar .byte (p1.toInt8.toInt32)))) + (nar .byte (p2.toInt8.toInt32)))).toInt % 64).toNat)), .val (.ref (f463 (((((31 : Int32) * (((31 : Int32) * ((31 : Int32) + (nar .byte (p0.toInt8.toInt32)))) + (nar .byte (p1.toInt8.toInt32)))) + (nar .byte (p2.toInt8.toInt32)))).toInt % 64).toNat)), .val (.ref (f463 (((((31 : Int32) * (((31 : Int32) * ((31 : Int32) + (nar .byte (p0.toInt8.toInt32)))) + (nar .byte (p1.toInt8.toInt32)))) + (nar .byte (p2.toInt8.toInt32)))).toInt % 64).toNat)), .unset, .unset] [])) _
      refine XS.aload X486.here hx rfl (hb hby at_151) rfl rfl ?_
      show Steps p.tables e below (T486.setTop (mkF m 153 #[.val (.int p0), .val (.int p1), .val (.int p2), .val (.int p3), .val (.int (3 : Int32)), .val (.ref b351), .val (.ref b353), .val (.int xv), .val (.int yv), .val (.ref b405), .val (.ref b413), .val (.ref b446), .val (.ref (f463 (((((31 : Int32) * (((31 : Int32) * ((31 : Int32) + (nar .byte (p0.toInt8.toInt32)))) + (nar .byte (p1.toInt8.toInt32)))) + (nar .byte (p2.toInt8.toInt32)))).toInt % 64).toNat)), .val (.ref (f463 (((((31 : Int32) * (((31 : Int32) * ((31 : Int32) + (nar .byte (p0.toInt8.toInt32)))) + (nar .byte (p1.toInt8.toInt32)))) + (nar .byte (p2.toInt8.toInt32)))).toInt % 64).toNat)), .val (.ref (f463 (((((31 : Int32) * (((31 : Int32) * ((31 : Int32) + (nar .byte (p0.toInt8.toInt32)))) + (nar .byte (p1.toInt8.toInt32)))) + (nar .byte (p2.toInt8.toInt32)))).toInt % 64).toNat)), .unset, .unset] [(.ref b446)])) _
      refine XS.aload X486.here hx rfl (hb hby at_153) rfl rfl ?_
      show Steps p.tables e below (T486.setTop (mkF m 155 #[.val (.int p0), .val (.int p1), .val (.int p2), .val (.int p3), .val (.int (3 : Int32)), .val (.ref b351), .val (.ref b353), .val (.int xv), .val (.int yv), .val (.ref b405), .val (.ref b413), .val (.ref b446), .val (.ref (f463 (((((31 : Int32) * (((31 : Int32) * ((31 : Int32) + (nar .byte (p0.toInt8.toInt32)))) + (nar .byte (p1.toInt8.toInt32)))) + (nar .byte (p2.toInt8.toInt32)))).toInt % 64).toNat)), .val (.ref (f463 (((((31 : Int32) * (((31 : Int32) * ((31 : Int32) + (nar .byte (p0.toInt8.toInt32)))) + (nar .byte (p1.toInt8.toInt32)))) + (nar .byte (p2.toInt8.toInt32)))).toInt % 64).toNat)), .val (.ref (f463 (((((31 : Int32) * (((31 : Int32) * ((31 : Int32) + (nar .byte (p0.toInt8.toInt32)))) + (nar .byte (p1.toInt8.toInt32)))) + (nar .byte (p2.toInt8.toInt32)))).toInt % 64).toNat)), .unset, .unset] [(.ref b405), (.ref b446)])) _
      refine st489.trans ?_
      show Steps p.tables e below (T489.setTop (mkF m 158 #[.val (.int p0), .val (.int p1), .val (.int p2), .val (.int p3), .val (.int (3 : Int32)), .val (.ref b351), .val (.ref b353), .val (.int xv), .val (.int yv), .val (.ref b405), .val (.ref b413), .val (.ref b446), .val (.ref (f463 (((((31 : Int32) * (((31 : Int32) * ((31 : Int32) + (nar .byte (p0.toInt8.toInt32)))) + (nar .byte (p1.toInt8.toInt32)))) + (nar .byte (p2.toInt8.toInt32)))).toInt % 64).toNat)), .val (.ref (f463 (((((31 : Int32) * (((31 : Int32) * ((31 : Int32) + (nar .byte (p0.toInt8.toInt32)))) + (nar .byte (p1.toInt8.toInt32)))) + (nar .byte (p2.toInt8.toInt32)))).toInt % 64).toNat)), .val (.ref (f463 (((((31 : Int32) * (((31 : Int32) * ((31 : Int32) + (nar .byte (p0.toInt8.toInt32)))) + (nar .byte (p1.toInt8.toInt32)))) + (nar .byte (p2.toInt8.toInt32)))).toInt % 64).toNat)), .unset, .unset] [(.ref (f463 ((((31 : Int32) + (nar .byte xv))).toInt % 64).toNat))])) _
      refine XS.astore X489.here hx rfl (hb hby at_158) rfl rfl (l' := #[.val (.int p0), .val (.int p1), .val (.int p2), .val (.int p3), .val (.int (3 : Int32)), .val (.ref b351), .val (.ref b353), .val (.int xv), .val (.int yv), .val (.ref b405), .val (.ref b413), .val (.ref b446), .val (.ref (f463 (((((31 : Int32) * (((31 : Int32) * ((31 : Int32) + (nar .byte (p0.toInt8.toInt32)))) + (nar .byte (p1.toInt8.toInt32)))) + (nar .byte (p2.toInt8.toInt32)))).toInt % 64).toNat)), .val (.ref (f463 (((((31 : Int32) * (((31 : Int32) * ((31 : Int32) + (nar .byte (p0.toInt8.toInt32)))) + (nar .byte (p1.toInt8.toInt32)))) + (nar .byte (p2.toInt8.toInt32)))).toInt % 64).toNat)), .val (.ref (f463 (((((31 : Int32) * (((31 : Int32) * ((31 : Int32) + (nar .byte (p0.toInt8.toInt32)))) + (nar .byte (p1.toInt8.toInt32)))) + (nar .byte (p2.toInt8.toInt32)))).toInt % 64).toNat)), .val (.ref (f463 ((((31 : Int32) + (nar .byte xv))).toInt % 64).toNat)), .unset]) rfl ?_
      show Steps p.tables e below (T489.setTop (mkF m 160 #[.val (.int p0), .val (.int p1), .val (.int p2), .val (.int p3), .val (.int (3 : Int32)), .val (.ref b351), .val (.ref b353), .val (.int xv), .val (.int yv), .val (.ref b405), .val (.ref b413), .val (.ref b446), .val (.ref (f463 (((((31 : Int32) * (((31 : Int32) * ((31 : Int32) + (nar .byte (p0.toInt8.toInt32)))) + (nar .byte (p1.toInt8.toInt32)))) + (nar .byte (p2.toInt8.toInt32)))).toInt % 64).toNat)), .val (.ref (f463 (((((31 : Int32) * (((31 : Int32) * ((31 : Int32) + (nar .byte (p0.toInt8.toInt32)))) + (nar .byte (p1.toInt8.toInt32)))) + (nar .byte (p2.toInt8.toInt32)))).toInt % 64).toNat)), .val (.ref (f463 (((((31 : Int32) * (((31 : Int32) * ((31 : Int32) + (nar .byte (p0.toInt8.toInt32)))) + (nar .byte (p1.toInt8.toInt32)))) + (nar .byte (p2.toInt8.toInt32)))).toInt % 64).toNat)), .val (.ref (f463 ((((31 : Int32) + (nar .byte xv))).toInt % 64).toNat)), .unset] [])) _
      refine XS.aload X489.here hx rfl (hb hby at_160) rfl rfl ?_
      show Steps p.tables e below (T489.setTop (mkF m 162 #[.val (.int p0), .val (.int p1), .val (.int p2), .val (.int p3), .val (.int (3 : Int32)), .val (.ref b351), .val (.ref b353), .val (.int xv), .val (.int yv), .val (.ref b405), .val (.ref b413), .val (.ref b446), .val (.ref (f463 (((((31 : Int32) * (((31 : Int32) * ((31 : Int32) + (nar .byte (p0.toInt8.toInt32)))) + (nar .byte (p1.toInt8.toInt32)))) + (nar .byte (p2.toInt8.toInt32)))).toInt % 64).toNat)), .val (.ref (f463 (((((31 : Int32) * (((31 : Int32) * ((31 : Int32) + (nar .byte (p0.toInt8.toInt32)))) + (nar .byte (p1.toInt8.toInt32)))) + (nar .byte (p2.toInt8.toInt32)))).toInt % 64).toNat)), .val (.ref (f463 (((((31 : Int32) * (((31 : Int32) * ((31 : Int32) + (nar .byte (p0.toInt8.toInt32)))) + (nar .byte (p1.toInt8.toInt32)))) + (nar .byte (p2.toInt8.toInt32)))).toInt % 64).toNat)), .val (.ref (f463 ((((31 : Int32) + (nar .byte xv))).toInt % 64).toNat)), .unset] [(.ref b446)])) _
      refine XS.aload X489.here hx rfl (hb hby at_162) rfl rfl ?_
      show Steps p.tables e below (T489.setTop (mkF m 164 #[.val (.int p0), .val (.int p1), .val (.int p2), .val (.int p3), .val (.int (3 : Int32)), .val (.ref b351), .val (.ref b353), .val (.int xv), .val (.int yv), .val (.ref b405), .val (.ref b413), .val (.ref b446), .val (.ref (f463 (((((31 : Int32) * (((31 : Int32) * ((31 : Int32) + (nar .byte (p0.toInt8.toInt32)))) + (nar .byte (p1.toInt8.toInt32)))) + (nar .byte (p2.toInt8.toInt32)))).toInt % 64).toNat)), .val (.ref (f463 (((((31 : Int32) * (((31 : Int32) * ((31 : Int32) + (nar .byte (p0.toInt8.toInt32)))) + (nar .byte (p1.toInt8.toInt32)))) + (nar .byte (p2.toInt8.toInt32)))).toInt % 64).toNat)), .val (.ref (f463 (((((31 : Int32) * (((31 : Int32) * ((31 : Int32) + (nar .byte (p0.toInt8.toInt32)))) + (nar .byte (p1.toInt8.toInt32)))) + (nar .byte (p2.toInt8.toInt32)))).toInt % 64).toNat)), .val (.ref (f463 ((((31 : Int32) + (nar .byte xv))).toInt % 64).toNat)), .unset] [(.ref b413), (.ref b446)])) _
      refine st492.trans ?_
      show Steps p.tables e below (T492.setTop (mkF m 167 #[.val (.int p0), .val (.int p1), .val (.int p2), .val (.int p3), .val (.int (3 : Int32)), .val (.ref b351), .val (.ref b353), .val (.int xv), .val (.int yv), .val (.ref b405), .val (.ref b413), .val (.ref b446), .val (.ref (f463 (((((31 : Int32) * (((31 : Int32) * ((31 : Int32) + (nar .byte (p0.toInt8.toInt32)))) + (nar .byte (p1.toInt8.toInt32)))) + (nar .byte (p2.toInt8.toInt32)))).toInt % 64).toNat)), .val (.ref (f463 (((((31 : Int32) * (((31 : Int32) * ((31 : Int32) + (nar .byte (p0.toInt8.toInt32)))) + (nar .byte (p1.toInt8.toInt32)))) + (nar .byte (p2.toInt8.toInt32)))).toInt % 64).toNat)), .val (.ref (f463 (((((31 : Int32) * (((31 : Int32) * ((31 : Int32) + (nar .byte (p0.toInt8.toInt32)))) + (nar .byte (p1.toInt8.toInt32)))) + (nar .byte (p2.toInt8.toInt32)))).toInt % 64).toNat)), .val (.ref (f463 ((((31 : Int32) + (nar .byte xv))).toInt % 64).toNat)), .unset] [(.ref (f463 ((((31 : Int32) + (nar .byte yv))).toInt % 64).toNat))])) _
      refine XS.astore X492.here hx rfl (hb hby at_167) rfl rfl (l' := #[.val (.int p0), .val (.int p1), .val (.int p2), .val (.int p3), .val (.int (3 : Int32)), .val (.ref b351), .val (.ref b353), .val (.int xv), .val (.int yv), .val (.ref b405), .val (.ref b413), .val (.ref b446), .val (.ref (f463 (((((31 : Int32) * (((31 : Int32) * ((31 : Int32) + (nar .byte (p0.toInt8.toInt32)))) + (nar .byte (p1.toInt8.toInt32)))) + (nar .byte (p2.toInt8.toInt32)))).toInt % 64).toNat)), .val (.ref (f463 (((((31 : Int32) * (((31 : Int32) * ((31 : Int32) + (nar .byte (p0.toInt8.toInt32)))) + (nar .byte (p1.toInt8.toInt32)))) + (nar .byte (p2.toInt8.toInt32)))).toInt % 64).toNat)), .val (.ref (f463 (((((31 : Int32) * (((31 : Int32) * ((31 : Int32) + (nar .byte (p0.toInt8.toInt32)))) + (nar .byte (p1.toInt8.toInt32)))) + (nar .byte (p2.toInt8.toInt32)))).toInt % 64).toNat)), .val (.ref (f463 ((((31 : Int32) + (nar .byte xv))).toInt % 64).toNat)), .val (.ref (f463 ((((31 : Int32) + (nar .byte yv))).toInt % 64).toNat))]) rfl ?_
      show Steps p.tables e below (T492.setTop (mkF m 169 #[.val (.int p0), .val (.int p1), .val (.int p2), .val (.int p3), .val (.int (3 : Int32)), .val (.ref b351), .val (.ref b353), .val (.int xv), .val (.int yv), .val (.ref b405), .val (.ref b413), .val (.ref b446), .val (.ref (f463 (((((31 : Int32) * (((31 : Int32) * ((31 : Int32) + (nar .byte (p0.toInt8.toInt32)))) + (nar .byte (p1.toInt8.toInt32)))) + (nar .byte (p2.toInt8.toInt32)))).toInt % 64).toNat)), .val (.ref (f463 (((((31 : Int32) * (((31 : Int32) * ((31 : Int32) + (nar .byte (p0.toInt8.toInt32)))) + (nar .byte (p1.toInt8.toInt32)))) + (nar .byte (p2.toInt8.toInt32)))).toInt % 64).toNat)), .val (.ref (f463 (((((31 : Int32) * (((31 : Int32) * ((31 : Int32) + (nar .byte (p0.toInt8.toInt32)))) + (nar .byte (p1.toInt8.toInt32)))) + (nar .byte (p2.toInt8.toInt32)))).toInt % 64).toNat)), .val (.ref (f463 ((((31 : Int32) + (nar .byte xv))).toInt % 64).toNat)), .val (.ref (f463 ((((31 : Int32) + (nar .byte yv))).toInt % 64).toNat))] [])) _
      refine XS.aload X492.here hx rfl (hb hby at_169) rfl rfl ?_
      show Steps p.tables e below (T492.setTop (mkF m 171 #[.val (.int p0), .val (.int p1), .val (.int p2), .val (.int p3), .val (.int (3 : Int32)), .val (.ref b351), .val (.ref b353), .val (.int xv), .val (.int yv), .val (.ref b405), .val (.ref b413), .val (.ref b446), .val (.ref (f463 (((((31 : Int32) * (((31 : Int32) * ((31 : Int32) + (nar .byte (p0.toInt8.toInt32)))) + (nar .byte (p1.toInt8.toInt32)))) + (nar .byte (p2.toInt8.toInt32)))).toInt % 64).toNat)), .val (.ref (f463 (((((31 : Int32) * (((31 : Int32) * ((31 : Int32) + (nar .byte (p0.toInt8.toInt32)))) + (nar .byte (p1.toInt8.toInt32)))) + (nar .byte (p2.toInt8.toInt32)))).toInt % 64).toNat)), .val (.ref (f463 (((((31 : Int32) * (((31 : Int32) * ((31 : Int32) + (nar .byte (p0.toInt8.toInt32)))) + (nar .byte (p1.toInt8.toInt32)))) + (nar .byte (p2.toInt8.toInt32)))).toInt % 64).toNat)), .val (.ref (f463 ((((31 : Int32) + (nar .byte xv))).toInt % 64).toNat)), .val (.ref (f463 ((((31 : Int32) + (nar .byte yv))).toInt % 64).toNat))] [(.ref (f463 (((((31 : Int32) * (((31 : Int32) * ((31 : Int32) + (nar .byte (p0.toInt8.toInt32)))) + (nar .byte (p1.toInt8.toInt32)))) + (nar .byte (p2.toInt8.toInt32)))).toInt % 64).toNat))])) _
      refine XS.ifnullNo X492.here hx rfl (hb hby at_171) rfl ?_
      show Steps p.tables e below (T492.setTop (mkF m 174 #[.val (.int p0), .val (.int p1), .val (.int p2), .val (.int p3), .val (.int (3 : Int32)), .val (.ref b351), .val (.ref b353), .val (.int xv), .val (.int yv), .val (.ref b405), .val (.ref b413), .val (.ref b446), .val (.ref (f463 (((((31 : Int32) * (((31 : Int32) * ((31 : Int32) + (nar .byte (p0.toInt8.toInt32)))) + (nar .byte (p1.toInt8.toInt32)))) + (nar .byte (p2.toInt8.toInt32)))).toInt % 64).toNat)), .val (.ref (f463 (((((31 : Int32) * (((31 : Int32) * ((31 : Int32) + (nar .byte (p0.toInt8.toInt32)))) + (nar .byte (p1.toInt8.toInt32)))) + (nar .byte (p2.toInt8.toInt32)))).toInt % 64).toNat)), .val (.ref (f463 (((((31 : Int32) * (((31 : Int32) * ((31 : Int32) + (nar .byte (p0.toInt8.toInt32)))) + (nar .byte (p1.toInt8.toInt32)))) + (nar .byte (p2.toInt8.toInt32)))).toInt % 64).toNat)), .val (.ref (f463 ((((31 : Int32) + (nar .byte xv))).toInt % 64).toNat)), .val (.ref (f463 ((((31 : Int32) + (nar .byte yv))).toInt % 64).toNat))] [])) _
      refine XS.aload X492.here hx rfl (hb hby at_174) rfl rfl ?_
      show Steps p.tables e below (T492.setTop (mkF m 176 #[.val (.int p0), .val (.int p1), .val (.int p2), .val (.int p3), .val (.int (3 : Int32)), .val (.ref b351), .val (.ref b353), .val (.int xv), .val (.int yv), .val (.ref b405), .val (.ref b413), .val (.ref b446), .val (.ref (f463 (((((31 : Int32) * (((31 : Int32) * ((31 : Int32) + (nar .byte (p0.toInt8.toInt32)))) + (nar .byte (p1.toInt8.toInt32)))) + (nar .byte (p2.toInt8.toInt32)))).toInt % 64).toNat)), .val (.ref (f463 (((((31 : Int32) * (((31 : Int32) * ((31 : Int32) + (nar .byte (p0.toInt8.toInt32)))) + (nar .byte (p1.toInt8.toInt32)))) + (nar .byte (p2.toInt8.toInt32)))).toInt % 64).toNat)), .val (.ref (f463 (((((31 : Int32) * (((31 : Int32) * ((31 : Int32) + (nar .byte (p0.toInt8.toInt32)))) + (nar .byte (p1.toInt8.toInt32)))) + (nar .byte (p2.toInt8.toInt32)))).toInt % 64).toNat)), .val (.ref (f463 ((((31 : Int32) + (nar .byte xv))).toInt % 64).toNat)), .val (.ref (f463 ((((31 : Int32) + (nar .byte yv))).toInt % 64).toNat))] [(.ref (f463 (((((31 : Int32) * (((31 : Int32) * ((31 : Int32) + (nar .byte (p0.toInt8.toInt32)))) + (nar .byte (p1.toInt8.toInt32)))) + (nar .byte (p2.toInt8.toInt32)))).toInt % 64).toNat))])) _
      refine XS.aload X492.here hx rfl (hb hby at_176) rfl rfl ?_
      show Steps p.tables e below (T492.setTop (mkF m 178 #[.val (.int p0), .val (.int p1), .val (.int p2), .val (.int p3), .val (.int (3 : Int32)), .val (.ref b351), .val (.ref b353), .val (.int xv), .val (.int yv), .val (.ref b405), .val (.ref b413), .val (.ref b446), .val (.ref (f463 (((((31 : Int32) * (((31 : Int32) * ((31 : Int32) + (nar .byte (p0.toInt8.toInt32)))) + (nar .byte (p1.toInt8.toInt32)))) + (nar .byte (p2.toInt8.toInt32)))).toInt % 64).toNat)), .val (.ref (f463 (((((31 : Int32) * (((31 : Int32) * ((31 : Int32) + (nar .byte (p0.toInt8.toInt32)))) + (nar .byte (p1.toInt8.toInt32)))) + (nar .byte (p2.toInt8.toInt32)))).toInt % 64).toNat)), .val (.ref (f463 (((((31 : Int32) * (((31 : Int32) * ((31 : Int32) + (nar .byte (p0.toInt8.toInt32)))) + (nar .byte (p1.toInt8.toInt32)))) + (nar .byte (p2.toInt8.toInt32)))).toInt % 64).toNat)), .val (.ref (f463 ((((31 : Int32) + (nar .byte xv))).toInt % 64).toNat)), .val (.ref (f463 ((((31 : Int32) + (nar .byte yv))).toInt % 64).toNat))] [(.ref (f463 (((((31 : Int32) * (((31 : Int32) * ((31 : Int32) + (nar .byte (p0.toInt8.toInt32)))) + (nar .byte (p1.toInt8.toInt32)))) + (nar .byte (p2.toInt8.toInt32)))).toInt % 64).toNat)), (.ref (f463 (((((31 : Int32) * (((31 : Int32) * ((31 : Int32) + (nar .byte (p0.toInt8.toInt32)))) + (nar .byte (p1.toInt8.toInt32)))) + (nar .byte (p2.toInt8.toInt32)))).toInt % 64).toNat))])) _
      refine Jvm.RoadKit.acmp (g := (mkF m 178 #[.val (.int p0), .val (.int p1), .val (.int p2), .val (.int p3), .val (.int (3 : Int32)), .val (.ref b351), .val (.ref b353), .val (.int xv), .val (.int yv), .val (.ref b405), .val (.ref b413), .val (.ref b446), .val (.ref (f463 (((((31 : Int32) * (((31 : Int32) * ((31 : Int32) + (nar .byte (p0.toInt8.toInt32)))) + (nar .byte (p1.toInt8.toInt32)))) + (nar .byte (p2.toInt8.toInt32)))).toInt % 64).toNat)), .val (.ref (f463 (((((31 : Int32) * (((31 : Int32) * ((31 : Int32) + (nar .byte (p0.toInt8.toInt32)))) + (nar .byte (p1.toInt8.toInt32)))) + (nar .byte (p2.toInt8.toInt32)))).toInt % 64).toNat)), .val (.ref (f463 (((((31 : Int32) * (((31 : Int32) * ((31 : Int32) + (nar .byte (p0.toInt8.toInt32)))) + (nar .byte (p1.toInt8.toInt32)))) + (nar .byte (p2.toInt8.toInt32)))).toInt % 64).toNat)), .val (.ref (f463 ((((31 : Int32) + (nar .byte xv))).toInt % 64).toNat)), .val (.ref (f463 ((((31 : Int32) + (nar .byte yv))).toInt % 64).toNat))] [(.ref (f463 (((((31 : Int32) * (((31 : Int32) * ((31 : Int32) + (nar .byte (p0.toInt8.toInt32)))) + (nar .byte (p1.toInt8.toInt32)))) + (nar .byte (p2.toInt8.toInt32)))).toInt % 64).toNat)), (.ref (f463 (((((31 : Int32) * (((31 : Int32) * ((31 : Int32) + (nar .byte (p0.toInt8.toInt32)))) + (nar .byte (p1.toInt8.toInt32)))) + (nar .byte (p2.toInt8.toInt32)))).toInt % 64).toNat))])) X492 hx rfl rfl rfl (pc0 := 178) (pc' := 181) (same := true) rfl (hb hby at_178) rfl (decide_eq_true rfl) (by decide) (by decide) ?_
      show Steps p.tables e below (T492.setTop (mkF m 181 #[.val (.int p0), .val (.int p1), .val (.int p2), .val (.int p3), .val (.int (3 : Int32)), .val (.ref b351), .val (.ref b353), .val (.int xv), .val (.int yv), .val (.ref b405), .val (.ref b413), .val (.ref b446), .val (.ref (f463 (((((31 : Int32) * (((31 : Int32) * ((31 : Int32) + (nar .byte (p0.toInt8.toInt32)))) + (nar .byte (p1.toInt8.toInt32)))) + (nar .byte (p2.toInt8.toInt32)))).toInt % 64).toNat)), .val (.ref (f463 (((((31 : Int32) * (((31 : Int32) * ((31 : Int32) + (nar .byte (p0.toInt8.toInt32)))) + (nar .byte (p1.toInt8.toInt32)))) + (nar .byte (p2.toInt8.toInt32)))).toInt % 64).toNat)), .val (.ref (f463 (((((31 : Int32) * (((31 : Int32) * ((31 : Int32) + (nar .byte (p0.toInt8.toInt32)))) + (nar .byte (p1.toInt8.toInt32)))) + (nar .byte (p2.toInt8.toInt32)))).toInt % 64).toNat)), .val (.ref (f463 ((((31 : Int32) + (nar .byte xv))).toInt % 64).toNat)), .val (.ref (f463 ((((31 : Int32) + (nar .byte yv))).toInt % 64).toNat))] [])) _
      refine XS.aload X492.here hx rfl (hb hby at_181) rfl rfl ?_
      show Steps p.tables e below (T492.setTop (mkF m 183 #[.val (.int p0), .val (.int p1), .val (.int p2), .val (.int p3), .val (.int (3 : Int32)), .val (.ref b351), .val (.ref b353), .val (.int xv), .val (.int yv), .val (.ref b405), .val (.ref b413), .val (.ref b446), .val (.ref (f463 (((((31 : Int32) * (((31 : Int32) * ((31 : Int32) + (nar .byte (p0.toInt8.toInt32)))) + (nar .byte (p1.toInt8.toInt32)))) + (nar .byte (p2.toInt8.toInt32)))).toInt % 64).toNat)), .val (.ref (f463 (((((31 : Int32) * (((31 : Int32) * ((31 : Int32) + (nar .byte (p0.toInt8.toInt32)))) + (nar .byte (p1.toInt8.toInt32)))) + (nar .byte (p2.toInt8.toInt32)))).toInt % 64).toNat)), .val (.ref (f463 (((((31 : Int32) * (((31 : Int32) * ((31 : Int32) + (nar .byte (p0.toInt8.toInt32)))) + (nar .byte (p1.toInt8.toInt32)))) + (nar .byte (p2.toInt8.toInt32)))).toInt % 64).toNat)), .val (.ref (f463 ((((31 : Int32) + (nar .byte xv))).toInt % 64).toNat)), .val (.ref (f463 ((((31 : Int32) + (nar .byte yv))).toInt % 64).toNat))] [(.ref (f463 (((((31 : Int32) * (((31 : Int32) * ((31 : Int32) + (nar .byte (p0.toInt8.toInt32)))) + (nar .byte (p1.toInt8.toInt32)))) + (nar .byte (p2.toInt8.toInt32)))).toInt % 64).toNat))])) _
      refine XS.aload X492.here hx rfl (hb hby at_183) rfl rfl ?_
      show Steps p.tables e below (T492.setTop (mkF m 185 #[.val (.int p0), .val (.int p1), .val (.int p2), .val (.int p3), .val (.int (3 : Int32)), .val (.ref b351), .val (.ref b353), .val (.int xv), .val (.int yv), .val (.ref b405), .val (.ref b413), .val (.ref b446), .val (.ref (f463 (((((31 : Int32) * (((31 : Int32) * ((31 : Int32) + (nar .byte (p0.toInt8.toInt32)))) + (nar .byte (p1.toInt8.toInt32)))) + (nar .byte (p2.toInt8.toInt32)))).toInt % 64).toNat)), .val (.ref (f463 (((((31 : Int32) * (((31 : Int32) * ((31 : Int32) + (nar .byte (p0.toInt8.toInt32)))) + (nar .byte (p1.toInt8.toInt32)))) + (nar .byte (p2.toInt8.toInt32)))).toInt % 64).toNat)), .val (.ref (f463 (((((31 : Int32) * (((31 : Int32) * ((31 : Int32) + (nar .byte (p0.toInt8.toInt32)))) + (nar .byte (p1.toInt8.toInt32)))) + (nar .byte (p2.toInt8.toInt32)))).toInt % 64).toNat)), .val (.ref (f463 ((((31 : Int32) + (nar .byte xv))).toInt % 64).toNat)), .val (.ref (f463 ((((31 : Int32) + (nar .byte yv))).toInt % 64).toNat))] [(.ref (f463 (((((31 : Int32) * (((31 : Int32) * ((31 : Int32) + (nar .byte (p0.toInt8.toInt32)))) + (nar .byte (p1.toInt8.toInt32)))) + (nar .byte (p2.toInt8.toInt32)))).toInt % 64).toNat)), (.ref (f463 (((((31 : Int32) * (((31 : Int32) * ((31 : Int32) + (nar .byte (p0.toInt8.toInt32)))) + (nar .byte (p1.toInt8.toInt32)))) + (nar .byte (p2.toInt8.toInt32)))).toInt % 64).toNat))])) _
      refine Jvm.RoadKit.acmp (g := (mkF m 185 #[.val (.int p0), .val (.int p1), .val (.int p2), .val (.int p3), .val (.int (3 : Int32)), .val (.ref b351), .val (.ref b353), .val (.int xv), .val (.int yv), .val (.ref b405), .val (.ref b413), .val (.ref b446), .val (.ref (f463 (((((31 : Int32) * (((31 : Int32) * ((31 : Int32) + (nar .byte (p0.toInt8.toInt32)))) + (nar .byte (p1.toInt8.toInt32)))) + (nar .byte (p2.toInt8.toInt32)))).toInt % 64).toNat)), .val (.ref (f463 (((((31 : Int32) * (((31 : Int32) * ((31 : Int32) + (nar .byte (p0.toInt8.toInt32)))) + (nar .byte (p1.toInt8.toInt32)))) + (nar .byte (p2.toInt8.toInt32)))).toInt % 64).toNat)), .val (.ref (f463 (((((31 : Int32) * (((31 : Int32) * ((31 : Int32) + (nar .byte (p0.toInt8.toInt32)))) + (nar .byte (p1.toInt8.toInt32)))) + (nar .byte (p2.toInt8.toInt32)))).toInt % 64).toNat)), .val (.ref (f463 ((((31 : Int32) + (nar .byte xv))).toInt % 64).toNat)), .val (.ref (f463 ((((31 : Int32) + (nar .byte yv))).toInt % 64).toNat))] [(.ref (f463 (((((31 : Int32) * (((31 : Int32) * ((31 : Int32) + (nar .byte (p0.toInt8.toInt32)))) + (nar .byte (p1.toInt8.toInt32)))) + (nar .byte (p2.toInt8.toInt32)))).toInt % 64).toNat)), (.ref (f463 (((((31 : Int32) * (((31 : Int32) * ((31 : Int32) + (nar .byte (p0.toInt8.toInt32)))) + (nar .byte (p1.toInt8.toInt32)))) + (nar .byte (p2.toInt8.toInt32)))).toInt % 64).toNat))])) X492 hx rfl rfl rfl (pc0 := 185) (pc' := 188) (same := true) rfl (hb hby at_185) rfl (decide_eq_true rfl) (by decide) (by decide) ?_
      show Steps p.tables e below (T492.setTop (mkF m 188 #[.val (.int p0), .val (.int p1), .val (.int p2), .val (.int p3), .val (.int (3 : Int32)), .val (.ref b351), .val (.ref b353), .val (.int xv), .val (.int yv), .val (.ref b405), .val (.ref b413), .val (.ref b446), .val (.ref (f463 (((((31 : Int32) * (((31 : Int32) * ((31 : Int32) + (nar .byte (p0.toInt8.toInt32)))) + (nar .byte (p1.toInt8.toInt32)))) + (nar .byte (p2.toInt8.toInt32)))).toInt % 64).toNat)), .val (.ref (f463 (((((31 : Int32) * (((31 : Int32) * ((31 : Int32) + (nar .byte (p0.toInt8.toInt32)))) + (nar .byte (p1.toInt8.toInt32)))) + (nar .byte (p2.toInt8.toInt32)))).toInt % 64).toNat)), .val (.ref (f463 (((((31 : Int32) * (((31 : Int32) * ((31 : Int32) + (nar .byte (p0.toInt8.toInt32)))) + (nar .byte (p1.toInt8.toInt32)))) + (nar .byte (p2.toInt8.toInt32)))).toInt % 64).toNat)), .val (.ref (f463 ((((31 : Int32) + (nar .byte xv))).toInt % 64).toNat)), .val (.ref (f463 ((((31 : Int32) + (nar .byte yv))).toInt % 64).toNat))] [])) _
      refine XS.aload X492.here hx rfl (hb hby at_188) rfl rfl ?_
      show Steps p.tables e below (T492.setTop (mkF m 190 #[.val (.int p0), .val (.int p1), .val (.int p2), .val (.int p3), .val (.int (3 : Int32)), .val (.ref b351), .val (.ref b353), .val (.int xv), .val (.int yv), .val (.ref b405), .val (.ref b413), .val (.ref b446), .val (.ref (f463 (((((31 : Int32) * (((31 : Int32) * ((31 : Int32) + (nar .byte (p0.toInt8.toInt32)))) + (nar .byte (p1.toInt8.toInt32)))) + (nar .byte (p2.toInt8.toInt32)))).toInt % 64).toNat)), .val (.ref (f463 (((((31 : Int32) * (((31 : Int32) * ((31 : Int32) + (nar .byte (p0.toInt8.toInt32)))) + (nar .byte (p1.toInt8.toInt32)))) + (nar .byte (p2.toInt8.toInt32)))).toInt % 64).toNat)), .val (.ref (f463 (((((31 : Int32) * (((31 : Int32) * ((31 : Int32) + (nar .byte (p0.toInt8.toInt32)))) + (nar .byte (p1.toInt8.toInt32)))) + (nar .byte (p2.toInt8.toInt32)))).toInt % 64).toNat)), .val (.ref (f463 ((((31 : Int32) + (nar .byte xv))).toInt % 64).toNat)), .val (.ref (f463 ((((31 : Int32) + (nar .byte yv))).toInt % 64).toNat))] [(.ref (f463 ((((31 : Int32) + (nar .byte xv))).toInt % 64).toNat))])) _
      refine XS.ifnullNo X492.here hx rfl (hb hby at_190) rfl ?_
      show Steps p.tables e below (T492.setTop (mkF m 193 #[.val (.int p0), .val (.int p1), .val (.int p2), .val (.int p3), .val (.int (3 : Int32)), .val (.ref b351), .val (.ref b353), .val (.int xv), .val (.int yv), .val (.ref b405), .val (.ref b413), .val (.ref b446), .val (.ref (f463 (((((31 : Int32) * (((31 : Int32) * ((31 : Int32) + (nar .byte (p0.toInt8.toInt32)))) + (nar .byte (p1.toInt8.toInt32)))) + (nar .byte (p2.toInt8.toInt32)))).toInt % 64).toNat)), .val (.ref (f463 (((((31 : Int32) * (((31 : Int32) * ((31 : Int32) + (nar .byte (p0.toInt8.toInt32)))) + (nar .byte (p1.toInt8.toInt32)))) + (nar .byte (p2.toInt8.toInt32)))).toInt % 64).toNat)), .val (.ref (f463 (((((31 : Int32) * (((31 : Int32) * ((31 : Int32) + (nar .byte (p0.toInt8.toInt32)))) + (nar .byte (p1.toInt8.toInt32)))) + (nar .byte (p2.toInt8.toInt32)))).toInt % 64).toNat)), .val (.ref (f463 ((((31 : Int32) + (nar .byte xv))).toInt % 64).toNat)), .val (.ref (f463 ((((31 : Int32) + (nar .byte yv))).toInt % 64).toNat))] [])) _
      refine XS.aload X492.here hx rfl (hb hby at_193) rfl rfl ?_
      show Steps p.tables e below (T492.setTop (mkF m 195 #[.val (.int p0), .val (.int p1), .val (.int p2), .val (.int p3), .val (.int (3 : Int32)), .val (.ref b351), .val (.ref b353), .val (.int xv), .val (.int yv), .val (.ref b405), .val (.ref b413), .val (.ref b446), .val (.ref (f463 (((((31 : Int32) * (((31 : Int32) * ((31 : Int32) + (nar .byte (p0.toInt8.toInt32)))) + (nar .byte (p1.toInt8.toInt32)))) + (nar .byte (p2.toInt8.toInt32)))).toInt % 64).toNat)), .val (.ref (f463 (((((31 : Int32) * (((31 : Int32) * ((31 : Int32) + (nar .byte (p0.toInt8.toInt32)))) + (nar .byte (p1.toInt8.toInt32)))) + (nar .byte (p2.toInt8.toInt32)))).toInt % 64).toNat)), .val (.ref (f463 (((((31 : Int32) * (((31 : Int32) * ((31 : Int32) + (nar .byte (p0.toInt8.toInt32)))) + (nar .byte (p1.toInt8.toInt32)))) + (nar .byte (p2.toInt8.toInt32)))).toInt % 64).toNat)), .val (.ref (f463 ((((31 : Int32) + (nar .byte xv))).toInt % 64).toNat)), .val (.ref (f463 ((((31 : Int32) + (nar .byte yv))).toInt % 64).toNat))] [(.ref (f463 ((((31 : Int32) + (nar .byte yv))).toInt % 64).toNat))])) _
      refine XS.ifnullNo X492.here hx rfl (hb hby at_195) rfl ?_
      show Steps p.tables e below (T492.setTop (mkF m 198 #[.val (.int p0), .val (.int p1), .val (.int p2), .val (.int p3), .val (.int (3 : Int32)), .val (.ref b351), .val (.ref b353), .val (.int xv), .val (.int yv), .val (.ref b405), .val (.ref b413), .val (.ref b446), .val (.ref (f463 (((((31 : Int32) * (((31 : Int32) * ((31 : Int32) + (nar .byte (p0.toInt8.toInt32)))) + (nar .byte (p1.toInt8.toInt32)))) + (nar .byte (p2.toInt8.toInt32)))).toInt % 64).toNat)), .val (.ref (f463 (((((31 : Int32) * (((31 : Int32) * ((31 : Int32) + (nar .byte (p0.toInt8.toInt32)))) + (nar .byte (p1.toInt8.toInt32)))) + (nar .byte (p2.toInt8.toInt32)))).toInt % 64).toNat)), .val (.ref (f463 (((((31 : Int32) * (((31 : Int32) * ((31 : Int32) + (nar .byte (p0.toInt8.toInt32)))) + (nar .byte (p1.toInt8.toInt32)))) + (nar .byte (p2.toInt8.toInt32)))).toInt % 64).toNat)), .val (.ref (f463 ((((31 : Int32) + (nar .byte xv))).toInt % 64).toNat)), .val (.ref (f463 ((((31 : Int32) + (nar .byte yv))).toInt % 64).toNat))] [])) _
      refine XS.aload X492.here hx rfl (hb hby at_198) rfl rfl ?_
      show Steps p.tables e below (T492.setTop (mkF m 200 #[.val (.int p0), .val (.int p1), .val (.int p2), .val (.int p3), .val (.int (3 : Int32)), .val (.ref b351), .val (.ref b353), .val (.int xv), .val (.int yv), .val (.ref b405), .val (.ref b413), .val (.ref b446), .val (.ref (f463 (((((31 : Int32) * (((31 : Int32) * ((31 : Int32) + (nar .byte (p0.toInt8.toInt32)))) + (nar .byte (p1.toInt8.toInt32)))) + (nar .byte (p2.toInt8.toInt32)))).toInt % 64).toNat)), .val (.ref (f463 (((((31 : Int32) * (((31 : Int32) * ((31 : Int32) + (nar .byte (p0.toInt8.toInt32)))) + (nar .byte (p1.toInt8.toInt32)))) + (nar .byte (p2.toInt8.toInt32)))).toInt % 64).toNat)), .val (.ref (f463 (((((31 : Int32) * (((31 : Int32) * ((31 : Int32) + (nar .byte (p0.toInt8.toInt32)))) + (nar .byte (p1.toInt8.toInt32)))) + (nar .byte (p2.toInt8.toInt32)))).toInt % 64).toNat)), .val (.ref (f463 ((((31 : Int32) + (nar .byte xv))).toInt % 64).toNat)), .val (.ref (f463 ((((31 : Int32) + (nar .byte yv))).toInt % 64).toNat))] [(.ref (f463 ((((31 : Int32) + (nar .byte xv))).toInt % 64).toNat))])) _
      refine XS.aload X492.here hx rfl (hb hby at_200) rfl rfl ?_
      show Steps p.tables e below (T492.setTop (mkF m 202 #[.val (.int p0), .val (.int p1), .val (.int p2), .val (.int p3), .val (.int (3 : Int32)), .val (.ref b351), .val (.ref b353), .val (.int xv), .val (.int yv), .val (.ref b405), .val (.ref b413), .val (.ref b446), .val (.ref (f463 (((((31 : Int32) * (((31 : Int32) * ((31 : Int32) + (nar .byte (p0.toInt8.toInt32)))) + (nar .byte (p1.toInt8.toInt32)))) + (nar .byte (p2.toInt8.toInt32)))).toInt % 64).toNat)), .val (.ref (f463 (((((31 : Int32) * (((31 : Int32) * ((31 : Int32) + (nar .byte (p0.toInt8.toInt32)))) + (nar .byte (p1.toInt8.toInt32)))) + (nar .byte (p2.toInt8.toInt32)))).toInt % 64).toNat)), .val (.ref (f463 (((((31 : Int32) * (((31 : Int32) * ((31 : Int32) + (nar .byte (p0.toInt8.toInt32)))) + (nar .byte (p1.toInt8.toInt32)))) + (nar .byte (p2.toInt8.toInt32)))).toInt % 64).toNat)), .val (.ref (f463 ((((31 : Int32) + (nar .byte xv))).toInt % 64).toNat)), .val (.ref (f463 ((((31 : Int32) + (nar .byte yv))).toInt % 64).toNat))] [(.ref (f463 ((((31 : Int32) + (nar .byte yv))).toInt % 64).toNat)), (.ref (f463 ((((31 : Int32) + (nar .byte xv))).toInt % 64).toNat))])) _
      refine Jvm.RoadKit.acmp (g := (mkF m 202 #[.val (.int p0), .val (.int p1), .val (.int p2), .val (.int p3), .val (.int (3 : Int32)), .val (.ref b351), .val (.ref b353), .val (.int xv), .val (.int yv), .val (.ref b405), .val (.ref b413), .val (.ref b446), .val (.ref (f463 (((((31 : Int32) * (((31 : Int32) * ((31 : Int32) + (nar .byte (p0.toInt8.toInt32)))) + (nar .byte (p1.toInt8.toInt32)))) + (nar .byte (p2.toInt8.toInt32)))).toInt % 64).toNat)), .val (.ref (f463 (((((31 : Int32) * (((31 : Int32) * ((31 : Int32) + (nar .byte (p0.toInt8.toInt32)))) + (nar .byte (p1.toInt8.toInt32)))) + (nar .byte (p2.toInt8.toInt32)))).toInt % 64).toNat)), .val (.ref (f463 (((((31 : Int32) * (((31 : Int32) * ((31 : Int32) + (nar .byte (p0.toInt8.toInt32)))) + (nar .byte (p1.toInt8.toInt32)))) + (nar .byte (p2.toInt8.toInt32)))).toInt % 64).toNat)), .val (.ref (f463 ((((31 : Int32) + (nar .byte xv))).toInt % 64).toNat)), .val (.ref (f463 ((((31 : Int32) + (nar .byte yv))).toInt % 64).toNat))] [(.ref (f463 ((((31 : Int32) + (nar .byte yv))).toInt % 64).toNat)), (.ref (f463 ((((31 : Int32) + (nar .byte xv))).toInt % 64).toNat))])) X492 hx rfl rfl rfl (pc0 := 202) (pc' := 205) (same := false) rfl (hb hby at_202) rfl (decide_eq_false fun q => ha202_494 (Value.ref.inj q)) (by decide) (by decide) ?_
      show Steps p.tables e below (T492.setTop (mkF m 205 #[.val (.int p0), .val (.int p1), .val (.int p2), .val (.int p3), .val (.int (3 : Int32)), .val (.ref b351), .val (.ref b353), .val (.int xv), .val (.int yv), .val (.ref b405), .val (.ref b413), .val (.ref b446), .val (.ref (f463 (((((31 : Int32) * (((31 : Int32) * ((31 : Int32) + (nar .byte (p0.toInt8.toInt32)))) + (nar .byte (p1.toInt8.toInt32)))) + (nar .byte (p2.toInt8.toInt32)))).toInt % 64).toNat)), .val (.ref (f463 (((((31 : Int32) * (((31 : Int32) * ((31 : Int32) + (nar .byte (p0.toInt8.toInt32)))) + (nar .byte (p1.toInt8.toInt32)))) + (nar .byte (p2.toInt8.toInt32)))).toInt % 64).toNat)), .val (.ref (f463 (((((31 : Int32) * (((31 : Int32) * ((31 : Int32) + (nar .byte (p0.toInt8.toInt32)))) + (nar .byte (p1.toInt8.toInt32)))) + (nar .byte (p2.toInt8.toInt32)))).toInt % 64).toNat)), .val (.ref (f463 ((((31 : Int32) + (nar .byte xv))).toInt % 64).toNat)), .val (.ref (f463 ((((31 : Int32) + (nar .byte yv))).toInt % 64).toNat))] [])) _
      refine XS.iconst X492.here hx rfl (hb hby at_205) ?_
      show Steps p.tables e below (T492.setTop (mkF m 206 #[.val (.int p0), .val (.int p1), .val (.int p2), .val (.int p3), .val (.int (3 : Int32)), .val (.ref b351), .val (.ref b353), .val (.int xv), .val (.int yv), .val (.ref b405), .val (.ref b413), .val (.ref b446), .val (.ref (f463 (((((31 : Int32) * (((31 : Int32) * ((31 : Int32) + (nar .byte (p0.toInt8.toInt32)))) + (nar .byte (p1.toInt8.toInt32)))) + (nar .byte (p2.toInt8.toInt32)))).toInt % 64).toNat)), .val (.ref (f463 (((((31 : Int32) * (((31 : Int32) * ((31 : Int32) + (nar .byte (p0.toInt8.toInt32)))) + (nar .byte (p1.toInt8.toInt32)))) + (nar .byte (p2.toInt8.toInt32)))).toInt % 64).toNat)), .val (.ref (f463 (((((31 : Int32) * (((31 : Int32) * ((31 : Int32) + (nar .byte (p0.toInt8.toInt32)))) + (nar .byte (p1.toInt8.toInt32)))) + (nar .byte (p2.toInt8.toInt32)))).toInt % 64).toNat)), .val (.ref (f463 ((((31 : Int32) + (nar .byte xv))).toInt % 64).toNat)), .val (.ref (f463 ((((31 : Int32) + (nar .byte yv))).toInt % 64).toNat))] [(.int (1 : Int32))])) _
      refine XS.goto X492.here hx rfl (pc0 := 206) (pc' := 210) rfl (hb hby at_206) (by decide) (by decide) ?_
      show Steps p.tables e below (T492.setTop (mkF m 210 #[.val (.int p0), .val (.int p1), .val (.int p2), .val (.int p3), .val (.int (3 : Int32)), .val (.ref b351), .val (.ref b353), .val (.int xv), .val (.int yv), .val (.ref b405), .val (.ref b413), .val (.ref b446), .val (.ref (f463 (((((31 : Int32) * (((31 : Int32) * ((31 : Int32) + (nar .byte (p0.toInt8.toInt32)))) + (nar .byte (p1.toInt8.toInt32)))) + (nar .byte (p2.toInt8.toInt32)))).toInt % 64).toNat)), .val (.ref (f463 (((((31 : Int32) * (((31 : Int32) * ((31 : Int32) + (nar .byte (p0.toInt8.toInt32)))) + (nar .byte (p1.toInt8.toInt32)))) + (nar .byte (p2.toInt8.toInt32)))).toInt % 64).toNat)), .val (.ref (f463 (((((31 : Int32) * (((31 : Int32) * ((31 : Int32) + (nar .byte (p0.toInt8.toInt32)))) + (nar .byte (p1.toInt8.toInt32)))) + (nar .byte (p2.toInt8.toInt32)))).toInt % 64).toNat)), .val (.ref (f463 ((((31 : Int32) + (nar .byte xv))).toInt % 64).toNat)), .val (.ref (f463 ((((31 : Int32) + (nar .byte yv))).toInt % 64).toNat))] [(.int (1 : Int32))])) _
      exact retN X492 hx (t := .boolean) Bd.returns (by simp) (hb hby at_210) hr
    · show Q0 Z p0 p1 p2 p3 h0 n0 _ T492.heap _
      rw [R493]
      exact ⟨rfl, N492⟩
set_option maxRecDepth 65536 in
set_option maxHeartbeats 40000000 in
theorem comes_1 {Post : Tables → Env → Array Value → State → Outcome → State → Prop} (hpost : ∀ tb e args s v u, (limb_1_1.after args s (.returned v) u = true ∧ limb_1_2.after args s (.returned v) u = true ∧ True) → FrameEnd s (.returned v) u (Jvm.fieldLocs frame_1_writes args s ++ Jvm.arrayLocs frame_1_arrays args s ++ Jvm.staticLocs frame_1_statics s) 152 256 → Post tb e args s (.returned v) u) :
    ArmFor flags0 classFile x code maxLocals ret World_1 tables_1 room_1 Calls_1 rest_1 Pre_1 Post := by
  intro l hfl _ _ p e ha hc hk s m args below hf hA hF happ hP
  obtain ⟨hcalls, hrest, hpre⟩ := hP
  obtain ⟨-, -, -, hnamed, -, -, -, hat⟩ := (Spec.applies_iff hf).mp happ
  obtain ⟨hg, hn⟩ := and_e (Cond.before_iff.mp (show (Jvm.Cond.and given_1 narrow_1).before args s = true from hpre))
  obtain ⟨hcount, hg0⟩ := and_e hg
  obtain ⟨ha0, hg1⟩ := and_e hg0
  obtain ⟨ha1, hg2⟩ := and_e hg1
  obtain ⟨ha2, hg3⟩ := and_e hg2
  obtain ⟨w0, w1, w2, w3, rfl⟩ : ∃ w0 w1 w2 w3 : Value, args = #[w0, w1, w2, w3] := by
    have hs : args.size = 4 := by simpa [Cond.value, given_1] using hcount
    obtain ⟨L⟩ := args
    match L, hs with
    | [w0, w1, w2, w3], _ => exact ⟨w0, w1, w2, w3, rfl⟩
  have hw := fun d (hd : d ∈ tables_1) => atoms_spec (ws := Jvm.Cond.code x code maxLocals ret :: tables_1) hat d (List.mem_cons_of_mem _ hd)
  have hfit : Fit s := fun {y c} hc i hi => by
    obtain ⟨ha, rfl⟩ := Array.getElem?_eq_some_iff.mp hc
    have q := List.all_eq_true.mp ((Array.all_eq_true_iff_forall_mem.mp hF) _ (Array.getElem_mem ha)) i (List.mem_range.mpr hi)
    simpa [Array.getElem?_eq_getElem hi] using q
  obtain ⟨i0, ei0⟩ := is_v ha0
  obtain rfl : w0 = (.int i0) := Option.some.inj ei0
  obtain ⟨i1, ei1⟩ := is_v ha1
  obtain rfl : w1 = (.int i1) := Option.some.inj ei1
  obtain ⟨i2, ei2⟩ := is_v ha2
  obtain rfl : w2 = (.int i2) := Option.some.inj ei2
  obtain ⟨i3, ei3⟩ := is_v hg3
  obtain rfl : w3 = (.int i3) := Option.some.inj ei3
  obtain ⟨n, o, h1, h2, h3, _, L, rfl, ⟨rfl, N⟩, hq⟩ := rm0 l s _ hw tables_1 i0 i1 i2 i3 s.heap s.heap.size (Nat.le_refl _)  p e ha hc hk s m _ below hf ((Spec.applies_iff_loose hf).mp happ).1 ⟨rfl, State.Warmed39.refl s, rfl⟩ trivial
  exact ⟨n, _, h1, h2, h3, hpost _ _ _ _ _ _ ⟨Cond.after_iff.mpr rfl, Cond.after_iff.mpr (eq_i res_at (Term.int_eval (1)) rfl), trivial⟩ ⟨hq.1, hq.2.1, (hq.2.2.sift fun y hy => Or.inr (N y hy)).mono (by decide) (by decide)⟩⟩
theorem main_1_1 : Claimed_1_1 := comes_1 fun _ _ _ _ _ _ h hF => ⟨h.1, hF⟩
theorem main_1_2 : Claimed_1_2 := comes_1 fun _ _ _ _ _ _ h hF => ⟨h.2.1, hF⟩
end Jvm.Pilot.@@N@@
namespace Jvm.Pilot.@@N@@
open Jvm Jvm.ClassFile Sem Op Lib Jvm.Free Jvm.Stand Jvm.Pilot.@@N@@.Jvm.D
/-! MADE BY PROGRAM (witnessworld.py) out of the Statement's table words and the real class files: 13 classes; the members and pool entries that the words name. The judged class is class 1, her method 1. -/
namespace start1
open Jvm.ClassFile
def u (s : String) : CpInfo := .utf8 (stringToUtf16 s)
/-- a pool by its gaps: so many unusable entries, then the entry; so many at the end -/
def gap : Nat → List CpInfo → List CpInfo
  | 0, r => r
  | n + 1, r => .unusable :: gap n r
def poolList (es : List (Nat × CpInfo)) (last : Nat) : List CpInfo := es.foldr (fun e r => gap e.1 (e.2 :: r)) (gap last [])
def pool (es : List (Nat × CpInfo)) (last : Nat) : Array CpInfo := ⟨poolList es last⟩
def fileOf (pool : Array CpInfo) (this : Nat) (attrs : Array Attribute := #[]) (ms : Array MethodInfo := #[]) (fl : Nat := 33) (sup : Nat := 0) (ifs : Array Nat := #[]) (fds : Array FieldInfo := #[]) : ClassFile where
  minorVersion := 0
  majorVersion := 65
  constantPool := pool
  accessFlags := fl
  thisClass := this
  superClass := sup
  interfaces := ifs
  fields := fds
  methods := ms
  attributes := attrs
def plain (name : String) (sup : Option ClassId) : Class where
  name := name
  kind := .ordinary
  loader := none
  accessFlags := 33
  super := sup
  interfaces := #[]
  cf := none
  fields := #[]
  methods := #[]
  instanceTypes := #[]
  staticTypes := #[]
  resolved := #[]
  callSites := []
  init := .initialized
  statics := none
  mirror := none

def pool0 : Array CpInfo := pool [(5, u "<init>"), (0, u "()V"), (1, .class_ 10), (1, u "java/lang/Object")] 113

def k0c0 : Code := { maxStack := 0, maxLocals := 1, code := object_method_1_code, exceptionTable := #[], attributes := #[] }
def k0m0 : Method := { name := "<init>", desc := "()V", sig := { parameters := [], returnType := none }, accessFlags := 1, code := some k0c0 }
/-- java/lang/Object -/
def k0 : Class := { plain "java/lang/Object" none with
  accessFlags := 33
  interfaces := #[]
  cf := some (fileOf pool0 8 #[] #[{ accessFlags := 1, nameIndex := 5, descriptorIndex := 6, attributes := #[] }] 33 0 #[] #[])
  fields := #[]
  methods := #[k0m0]
  instanceTypes := #[]
  staticTypes := #[]
  resolved := Array.replicate 124 none
  statics := none }

def pool1 : Array CpInfo := pool [(2, .class_ 4), (0, .nameAndType 5 6), (0, u "java/lang/Object"), (0, u "<init>"), (0, u "()V"), (0, .class_ 8), (0, u "com/example/grant4/grant4/store/KeyLocks"), (0, .methodref 7 3), (0, .methodref 7 11), (0, .nameAndType 12 13), (0, u "of"), (0, u "([B)Ljava/lang/Object;"), (0, .class_ 15), (0, u "com/example/grant4/grant4/store/KeyLocksOfPinLaw"), (2, u "law"), (0, u "(IIII)Z")] 5

def k1m0 : Method := { name := "<init>", desc := "()V", sig := { parameters := [], returnType := none }, accessFlags := 1, code := none }
def k1c1 : Code := { maxStack := 3, maxLocals := 17, code := code, exceptionTable := #[], attributes := #[] }
def k1m1 : Method := { name := "law", desc := "(IIII)Z", sig := { parameters := [.int, .int, .int, .int], returnType := some .boolean }, accessFlags := 9, code := some k1c1 }
/-- com/example/grant4/grant4/store/KeyLocksOfPinLaw -/
def k1 : Class := { plain "com/example/grant4/grant4/store/KeyLocksOfPinLaw" (some 0) with
  accessFlags := 49
  interfaces := #[]
  cf := some (fileOf pool1 14 #[] #[{ accessFlags := 1, nameIndex := 5, descriptorIndex := 6, attributes := #[] }, { accessFlags := 9, nameIndex := 18, descriptorIndex := 19, attributes := #[] }] 49 2 #[] #[])
  fields := #[]
  methods := #[k1m0, k1m1]
  instanceTypes := #[]
  staticTypes := #[]
  resolved := Array.replicate 25 none
  statics := none }

def pool2 : Array CpInfo := pool [(1, .methodref 2 3), (0, .class_ 4), (0, .nameAndType 5 6), (0, u "java/lang/Object"), (0, u "<init>"), (0, u "()V"), (0, .class_ 8), (0, u "com/example/grant4/grant4/store/KeyLocks"), (0, .fieldref 7 10), (0, .nameAndType 11 12), (0, u "stripes"), (0, u "[Ljava/lang/Object;"), (0, .methodref 14 15), (0, .class_ 16), (0, .nameAndType 17 18), (0, u "java/util/Arrays"), (0, u "hashCode"), (0, u "([B)I"), (0, .methodref 20 21), (0, .class_ 22), (0, .nameAndType 23 24), (0, u "java/lang/Math"), (0, u "floorMod"), (0, u "(II)I"), (0, u "STRIPES"), (0, u "I"), (5, u "of"), (0, u "([B)Ljava/lang/Object;")] 2

def k2c0 : Code := { maxStack := 4, maxLocals := 2, code := prog_33_method_1_code, exceptionTable := #[], attributes := #[] }
def k2m0 : Method := { name := "<init>", desc := "()V", sig := { parameters := [], returnType := none }, accessFlags := 0, code := some k2c0 }
def k2c1 : Code := { maxStack := 3, maxLocals := 2, code := prog_33_method_2_code, exceptionTable := #[], attributes := #[] }
def k2m1 : Method := { name := "of", desc := "([B)Ljava/lang/Object;", sig := { parameters := [(.array .byte)], returnType := some (.object "java/lang/Object") }, accessFlags := 0, code := some k2c1 }
/-- com/example/grant4/grant4/store/KeyLocks -/
def k2 : Class := { plain "com/example/grant4/grant4/store/KeyLocks" (some 0) with
  accessFlags := 32
  interfaces := #[]
  cf := some (fileOf pool2 7 #[] #[{ accessFlags := 0, nameIndex := 5, descriptorIndex := 6, attributes := #[] }, { accessFlags := 0, nameIndex := 32, descriptorIndex := 33, attributes := #[] }] 32 2 #[] #[{ accessFlags := 26, nameIndex := 25, descriptorIndex := 26, attributes := #[] }, { accessFlags := 18, nameIndex := 11, descriptorIndex := 12, attributes := #[] }])
  fields := #[{ name := "STRIPES", type := .int, accessFlags := 26, slot := 0, constantValue := 0 }, { name := "stripes", type := (.array (.object "java/lang/Object")), accessFlags := 18, slot := 0, constantValue := 0 }]
  methods := #[k2m0, k2m1]
  instanceTypes := #[(.array (.object "java/lang/Object"))]
  staticTypes := #[.int]
  resolved := Array.replicate 36 none
  statics := none }

def pool3 : Array CpInfo := pool [(2, .class_ 4), (1, u "java/lang/Object"), (0, u "<init>"), (0, u "()V"), (7, .class_ 16), (1, u "java/util/Arrays"), (57, .class_ 76), (1, u "java/util/Arrays$NaturalOrder"), (36, .class_ 115), (1, u "java/util/Arrays$LegacyMergeSort"), (1, u "Z"), (128, .class_ 248), (1, u "jdk/internal/util/ArraysSupport"), (126, .class_ 376), (0, u "java/util/Arrays$ArrayList"), (2, .methodref 246 380), (0, .nameAndType 381 382), (0, u "vectorizedHashCode"), (0, u "(Ljava/lang/Object;IIII)I"), (2, u "hashCode"), (16, u "([B)I"), (42, u "$assertionsDisabled"), (269, u "MIN_ARRAY_SORT_GRAN"), (0, u "I"), (2, u "INSERTIONSORT_THRESHOLD"), (255, .class_ 976), (0, u "java/util/Arrays$ArrayItr")] 52

def k3m0 : Method := { name := "<init>", desc := "()V", sig := { parameters := [], returnType := none }, accessFlags := 2, code := none }
def k3c1 : Code := { maxStack := 5, maxLocals := 1, code := jdk_65_method_153_code, exceptionTable := #[], attributes := #[] }
def k3m1 : Method := { name := "hashCode", desc := "([B)I", sig := { parameters := [(.array .byte)], returnType := some .int }, accessFlags := 9, code := some k3c1 }
/-- java/util/Arrays -/
def k3 : Class := { plain "java/util/Arrays" (some 0) with
  accessFlags := 49
  interfaces := #[]
  cf := some (fileOf pool3 14 #[.nestMembers #[975, 375, 113, 74]] #[{ accessFlags := 2, nameIndex := 5, descriptorIndex := 6, attributes := #[] }, { accessFlags := 9, nameIndex := 385, descriptorIndex := 402, attributes := #[] }] 49 2 #[] #[{ accessFlags := 26, nameIndex := 715, descriptorIndex := 716, attributes := #[] }, { accessFlags := 26, nameIndex := 719, descriptorIndex := 716, attributes := #[] }, { accessFlags := 4120, nameIndex := 445, descriptorIndex := 117, attributes := #[] }])
  fields := #[{ name := "MIN_ARRAY_SORT_GRAN", type := .int, accessFlags := 26, slot := 0, constantValue := 0 }, { name := "INSERTIONSORT_THRESHOLD", type := .int, accessFlags := 26, slot := 1, constantValue := 0 }, { name := "$assertionsDisabled", type := .boolean, accessFlags := 4120, slot := 2, constantValue := 0 }]
  methods := #[k3m0, k3m1]
  instanceTypes := #[]
  staticTypes := #[.int, .int, .boolean]
  resolved := Array.replicate 1029 none
  statics := none }

def pool4 : Array CpInfo := pool [(1, .class_ 2), (0, u "java/lang/Math"), (1, .class_ 6), (1, u "java/lang/Object"), (0, u "<init>"), (0, u "()V"), (89, .class_ 100), (1, u "java/lang/Math$RandomNumberGeneratorHolder"), (47, u "floorMod"), (23, u "negativeZeroFloatBits"), (0, u "J"), (2, u "negativeZeroDoubleBits"), (68, u "$assertionsDisabled"), (0, u "Z"), (88, u "(II)I"), (2, u "twoToTheDoubleScaleDown"), (0, u "D"), (4, u "twoToTheDoubleScaleUp"), (9, u "E"), (3, u "PI"), (2, u "TAU"), (2, u "DEGREES_TO_RADIANS"), (0, u "RADIANS_TO_DEGREES")] 94

def k4m0 : Method := { name := "<init>", desc := "()V", sig := { parameters := [], returnType := none }, accessFlags := 2, code := none }
def k4c1 : Code := { maxStack := 2, maxLocals := 3, code := jdk_29_method_50_code, exceptionTable := #[], attributes := #[] }
def k4m1 : Method := { name := "floorMod", desc := "(II)I", sig := { parameters := [.int, .int], returnType := some .int }, accessFlags := 9, code := some k4c1 }
/-- java/lang/Math -/
def k4 : Class := { plain "java/lang/Math" (some 0) with
  accessFlags := 49
  interfaces := #[]
  cf := some (fileOf pool4 1 #[.nestMembers #[98]] #[{ accessFlags := 2, nameIndex := 7, descriptorIndex := 8, attributes := #[] }, { accessFlags := 9, nameIndex := 148, descriptorIndex := 335, attributes := #[] }] 49 4 #[] #[{ accessFlags := 25, nameIndex := 354, descriptorIndex := 339, attributes := #[] }, { accessFlags := 25, nameIndex := 358, descriptorIndex := 339, attributes := #[] }, { accessFlags := 25, nameIndex := 361, descriptorIndex := 339, attributes := #[] }, { accessFlags := 26, nameIndex := 364, descriptorIndex := 339, attributes := #[] }, { accessFlags := 26, nameIndex := 365, descriptorIndex := 339, attributes := #[] }, { accessFlags := 26, nameIndex := 172, descriptorIndex := 173, attributes := #[] }, { accessFlags := 26, nameIndex := 176, descriptorIndex := 173, attributes := #[] }, { accessFlags := 8, nameIndex := 344, descriptorIndex := 339, attributes := #[] }, { accessFlags := 8, nameIndex := 338, descriptorIndex := 339, attributes := #[] }, { accessFlags := 4120, nameIndex := 245, descriptorIndex := 246, attributes := #[] }])
  fields := #[{ name := "E", type := .double, accessFlags := 25, slot := 0, constantValue := 0 }, { name := "PI", type := .double, accessFlags := 25, slot := 1, constantValue := 0 }, { name := "TAU", type := .double, accessFlags := 25, slot := 2, constantValue := 0 }, { name := "DEGREES_TO_RADIANS", type := .double, accessFlags := 26, slot := 3, constantValue := 0 }, { name := "RADIANS_TO_DEGREES", type := .double, accessFlags := 26, slot := 4, constantValue := 0 }, { name := "negativeZeroFloatBits", type := .long, accessFlags := 26, slot := 5, constantValue := 0 }, { name := "negativeZeroDoubleBits", type := .long, accessFlags := 26, slot := 6, constantValue := 0 }, { name := "twoToTheDoubleScaleUp", type := .double, accessFlags := 8, slot := 7, constantValue := 0 }, { name := "twoToTheDoubleScaleDown", type := .double, accessFlags := 8, slot := 8, constantValue := 0 }, { name := "$assertionsDisabled", type := .boolean, accessFlags := 4120, slot := 9, constantValue := 0 }]
  methods := #[k4m0, k4m1]
  instanceTypes := #[]
  staticTypes := #[.double, .double, .double, .double, .double, .long, .long, .double, .double, .boolean]
  resolved := Array.replicate 460 none
  statics := none }

def pool5 : Array CpInfo := pool [(9, u "<init>"), (6, .class_ 18), (1, u "java/lang/Object"), (0, u "()V"), (1, .class_ 23), (1, u "jdk/internal/util/ArraysSupport"), (0, u "LOG2_ARRAY_LONG_INDEX_SCALE"), (0, u "I"), (2, u "U"), (0, u "Ljdk/internal/misc/Unsafe;"), (8, u "BIG_ENDIAN"), (0, u "Z"), (8, u "LOG2_BYTE_BIT_SIZE"), (4, u "LOG2_ARRAY_INT_INDEX_SCALE"), (6, .class_ 61), (0, u "[B"), (3, u "(I[BII)I"), (7, u "hashCode"), (1, .methodref 21 76), (0, .nameAndType 73 65), (31, u "JLA"), (0, u "Ljdk/internal/access/JavaLangAccess;"), (11, u "LOG2_ARRAY_BOOLEAN_INDEX_SCALE"), (9, u "LOG2_ARRAY_BYTE_INDEX_SCALE"), (5, u "LOG2_ARRAY_CHAR_INDEX_SCALE"), (5, u "LOG2_ARRAY_SHORT_INDEX_SCALE"), (18, u "LOG2_ARRAY_FLOAT_INDEX_SCALE"), (24, u "LOG2_ARRAY_DOUBLE_INDEX_SCALE"), (89, u "T_BOOLEAN"), (2, u "T_CHAR"), (1, u "T_FLOAT"), (1, u "T_DOUBLE"), (1, u "T_BYTE"), (1, u "T_SHORT"), (1, u "T_INT"), (1, u "T_LONG"), (1, u "SOFT_MAX_ARRAY_LENGTH"), (26, u "vectorizedHashCode"), (0, u "(Ljava/lang/Object;IIII)I")] 55

def k5m0 : Method := { name := "<init>", desc := "()V", sig := { parameters := [], returnType := none }, accessFlags := 2, code := none }
def k5c1 : Code := { maxStack := 4, maxLocals := 5, code := jdk_48_method_4_code, exceptionTable := #[], attributes := #[] }
def k5m1 : Method := { name := "vectorizedHashCode", desc := "(Ljava/lang/Object;IIII)I", sig := { parameters := [(.object "java/lang/Object"), .int, .int, .int, .int], returnType := some .int }, accessFlags := 9, code := some k5c1 }
def k5c2 : Code := { maxStack := 3, maxLocals := 6, code := jdk_48_method_6_code, exceptionTable := #[], attributes := #[] }
def k5m2 : Method := { name := "hashCode", desc := "(I[BII)I", sig := { parameters := [.int, (.array .byte), .int, .int], returnType := some .int }, accessFlags := 10, code := some k5c2 }
/-- jdk/internal/util/ArraysSupport -/
def k5 : Class := { plain "jdk/internal/util/ArraysSupport" (some 0) with
  accessFlags := 33
  interfaces := #[]
  cf := some (fileOf pool5 21 #[] #[{ accessFlags := 2, nameIndex := 9, descriptorIndex := 19, attributes := #[] }, { accessFlags := 9, nameIndex := 321, descriptorIndex := 322, attributes := #[] }, { accessFlags := 10, nameIndex := 73, descriptorIndex := 65, attributes := #[] }] 33 16 #[] #[{ accessFlags := 24, nameIndex := 28, descriptorIndex := 29, attributes := #[] }, { accessFlags := 26, nameIndex := 38, descriptorIndex := 39, attributes := #[] }, { accessFlags := 25, nameIndex := 121, descriptorIndex := 25, attributes := #[] }, { accessFlags := 25, nameIndex := 131, descriptorIndex := 25, attributes := #[] }, { accessFlags := 25, nameIndex := 137, descriptorIndex := 25, attributes := #[] }, { accessFlags := 25, nameIndex := 143, descriptorIndex := 25, attributes := #[] }, { accessFlags := 25, nameIndex := 53, descriptorIndex := 25, attributes := #[] }, { accessFlags := 25, nameIndex := 24, descriptorIndex := 25, attributes := #[] }, { accessFlags := 25, nameIndex := 162, descriptorIndex := 25, attributes := #[] }, { accessFlags := 25, nameIndex := 187, descriptorIndex := 25, attributes := #[] }, { accessFlags := 26, nameIndex := 48, descriptorIndex := 25, attributes := #[] }, { accessFlags := 25, nameIndex := 277, descriptorIndex := 25, attributes := #[] }, { accessFlags := 25, nameIndex := 280, descriptorIndex := 25, attributes := #[] }, { accessFlags := 25, nameIndex := 282, descriptorIndex := 25, attributes := #[] }, { accessFlags := 25, nameIndex := 284, descriptorIndex := 25, attributes := #[] }, { accessFlags := 25, nameIndex := 286, descriptorIndex := 25, attributes := #[] }, { accessFlags := 25, nameIndex := 288, descriptorIndex := 25, attributes := #[] }, { accessFlags := 25, nameIndex := 290, descriptorIndex := 25, attributes := #[] }, { accessFlags := 25, nameIndex := 292, descriptorIndex := 25, attributes := #[] }, { accessFlags := 26, nameIndex := 108, descriptorIndex := 109, attributes := #[] }, { accessFlags := 25, nameIndex := 294, descriptorIndex := 25, attributes := #[] }])
  fields := #[{ name := "U", type := (.object "jdk/internal/misc/Unsafe"), accessFlags := 24, slot := 0, constantValue := 0 }, { name := "BIG_ENDIAN", type := .boolean, accessFlags := 26, slot := 1, constantValue := 0 }, { name := "LOG2_ARRAY_BOOLEAN_INDEX_SCALE", type := .int, accessFlags := 25, slot := 2, constantValue := 0 }, { name := "LOG2_ARRAY_BYTE_INDEX_SCALE", type := .int, accessFlags := 25, slot := 3, constantValue := 0 }, { name := "LOG2_ARRAY_CHAR_INDEX_SCALE", type := .int, accessFlags := 25, slot := 4, constantValue := 0 }, { name := "LOG2_ARRAY_SHORT_INDEX_SCALE", type := .int, accessFlags := 25, slot := 5, constantValue := 0 }, { name := "LOG2_ARRAY_INT_INDEX_SCALE", type := .int, accessFlags := 25, slot := 6, constantValue := 0 }, { name := "LOG2_ARRAY_LONG_INDEX_SCALE", type := .int, accessFlags := 25, slot := 7, constantValue := 0 }, { name := "LOG2_ARRAY_FLOAT_INDEX_SCALE", type := .int, accessFlags := 25, slot := 8, constantValue := 0 }, { name := "LOG2_ARRAY_DOUBLE_INDEX_SCALE", type := .int, accessFlags := 25, slot := 9, constantValue := 0 }, { name := "LOG2_BYTE_BIT_SIZE", type := .int, accessFlags := 26, slot := 10, constantValue := 0 }, { name := "T_BOOLEAN", type := .int, accessFlags := 25, slot := 11, constantValue := 0 }, { name := "T_CHAR", type := .int, accessFlags := 25, slot := 12, constantValue := 0 }, { name := "T_FLOAT", type := .int, accessFlags := 25, slot := 13, constantValue := 0 }, { name := "T_DOUBLE", type := .int, accessFlags := 25, slot := 14, constantValue := 0 }, { name := "T_BYTE", type := .int, accessFlags := 25, slot := 15, constantValue := 0 }, { name := "T_SHORT", type := .int, accessFlags := 25, slot := 16, constantValue := 0 }, { name := "T_INT", type := .int, accessFlags := 25, slot := 17, constantValue := 0 }, { name := "T_LONG", type := .int, accessFlags := 25, slot := 18, constantValue := 0 }, { name := "JLA", type := (.object "jdk/internal/access/JavaLangAccess"), accessFlags := 26, slot := 19, constantValue := 0 }, { name := "SOFT_MAX_ARRAY_LENGTH", type := .int, accessFlags := 25, slot := 20, constantValue := 0 }]
  methods := #[k5m0, k5m1, k5m2]
  instanceTypes := #[]
  staticTypes := #[(.object "jdk/internal/misc/Unsafe"), .boolean, .int, .int, .int, .int, .int, .int, .int, .int, .int, .int, .int, .int, .int, .int, .int, .int, .int, (.object "jdk/internal/access/JavaLangAccess"), .int]
  resolved := Array.replicate 378 none
  statics := none }

def pool6 : Array CpInfo := pool [(1, u "java/lang/Cloneable"), (0, .class_ 1), (0, u "java/lang/Object"), (0, .class_ 3)] 3

/-- java/lang/Cloneable -/
def k6 : Class := { plain "java/lang/Cloneable" (some 0) with
  accessFlags := 1537
  interfaces := #[]
  cf := some (fileOf pool6 2 #[] #[] 1537 4 #[] #[])
  fields := #[]
  methods := #[]
  instanceTypes := #[]
  staticTypes := #[]
  resolved := Array.replicate 8 none
  statics := none }

def pool7 : Array CpInfo := pool [(1, u "java/io/Serializable"), (0, .class_ 1), (0, u "java/lang/Object"), (0, .class_ 3)] 3

/-- java/io/Serializable -/
def k7 : Class := { plain "java/io/Serializable" (some 0) with
  accessFlags := 1537
  interfaces := #[]
  cf := some (fileOf pool7 2 #[] #[] 1537 4 #[] #[])
  fields := #[]
  methods := #[]
  instanceTypes := #[]
  staticTypes := #[]
  resolved := Array.replicate 8 none
  statics := none }

/-- the primitive byte -/
def k8 : Class := { plain "byte" none with kind := .primitive 'B', accessFlags := 0x411 }
/-- [B -/
def k9 : Class := { plain "[B" (some 0) with kind := .array 8 .byte, interfaces := #[6, 7], accessFlags := 1041 }

/-- the primitive int -/
def k10 : Class := { plain "int" none with kind := .primitive 'I', accessFlags := 0x411 }
/-- [I -/
def k11 : Class := { plain "[I" (some 0) with kind := .array 10 .int, interfaces := #[6, 7], accessFlags := 1041 }

/-- [Ljava/lang/Object; -/
def k12 : Class := { plain "[Ljava/lang/Object;" (some 0) with kind := .array 0 (.object "java/lang/Object"), interfaces := #[6, 7], accessFlags := 1041 }

def heap : Heap := #[]
def classes : Array Class := #[k0, k1, k2, k3, k4, k5, k6, k7, k8, k9, k10, k11, k12]
def interned : List (Array UInt16 × Addr) := []
def slotsUsed : Nat := 0
def theMethod : MethodId := ⟨1, 1⟩
def args0 : Array Value := #[.int 5, .int 6, .int 7, .int 3]
def aboutOver (below : List Frame) : State where
  vm := { classes := classes, interned := interned.toArray }
  heap := heap
  slotsUsed := slotsUsed
  threads := #[{ frames := .invoking theMethod args0 :: below }]
def below0 : List Frame := [.native { method := ⟨0, 0⟩, args := #[] }]
def about1 : State := aboutOver below0
def p0 : Program := .bare "" "" ""
def e0 : Env := launch0.env 0 0 0
theorem w_frames : about1.frames = Frame.invoking theMethod args0 :: below0 := rfl
set_option maxRecDepth 65536 in
theorem w_args : argsFit about1.vm theMethod args0 = true := by decide +kernel
set_option maxRecDepth 65536 in
theorem w_heap : heapFits about1 = true := by decide +kernel
set_option maxRecDepth 65536 in
theorem w_runnable : about1.curStatus? = some .runnable := by decide +kernel
set_option maxRecDepth 65536 in
theorem w_alone : about1.alone = true := by decide +kernel
set_option maxRecDepth 65536 in
theorem w_named : about1.methodNamed? x = some theMethod := by decide +kernel
set_option maxRecDepth 65536 in
theorem w_hears : about1.hears theMethod below0 = true := by decide +kernel
set_option maxRecDepth 65536 in
theorem w_ripe : about1.ripe theMethod args0 below0 = true := by decide +kernel
theorem w_running : about1.status = .running := rfl
set_option maxRecDepth 65536 in
theorem w_room : about1.hasRoom e0.platform room_1 = true :=
  launch0.hasRoom_least _ room_1 (by decide +kernel) (by decide +kernel) (by decide +kernel) (by decide +kernel) (by decide +kernel) (by decide +kernel)
theorem allAtoms_all (ts : List Jvm.Cond) (a : Array Jvm.Value) (st : Jvm.State) : (allAtoms ts).before a st = ts.all (fun c => c.before a st) := by
  induction ts with
  | nil => rfl
  | cons c t ih =>
    show (Jvm.Cond.and c (allAtoms t)).before a st = _
    rw [Jvm.Cond.before_and, ih, List.all_cons]
def words1 : List Jvm.Cond := Jvm.Cond.code x code maxLocals ret :: tables_1
/-- a 'code' word, met by the world's own term for the bytes: nothing is compared byte by byte -/
theorem code_word {y : MethodName} {bytes : ByteArray} {mx : Nat} {rt : Option FieldType} {a : Array Value} {s : State} {m : MethodId} {meth : Method} {c : Code} (h1 : s.methodNamed? y = some m) (h2 : s.vm.method? m = some meth) (h3 : meth.code = some c) (h4 : c.code = bytes)
    (h5 : (c.maxLocals == mx && c.exceptionTable.isEmpty && decide (c.maxStack ≤ mostOperands) && decide (meth.sig.returnType = rt) && !meth.locks && decide (parseMethodDescriptor y.desc = some meth.sig)) = true) : (Jvm.Cond.code y bytes mx rt).before a s = true := by
  simp only [Bool.and_eq_true, beq_iff_eq, Bool.not_eq_true', decide_eq_true_eq] at h5
  obtain ⟨⟨⟨⟨⟨g1, g2⟩, g3⟩, g4⟩, g5⟩, g6⟩ := h5
  simp [Cond.before, Cond.holds, Cond.value, h1, h2, h3, h4, g1, g2, g3, g4, g5, g6]
def isCode : Jvm.Cond → Bool
  | .code _ _ _ _ => true
  | _ => false
theorem all_split {L : List Jvm.Cond} {P : Jvm.Cond → Bool} (h1 : L.all (fun c => isCode c || P c) = true) (h2 : ∀ c ∈ L.filter isCode, P c = true) : L.all P = true := by
  refine List.all_eq_true.mpr fun c hc => ?_
  have h := List.all_eq_true.mp h1 c hc
  rcases Bool.eq_false_or_eq_true (isCode c) with hi | hi
  · exact h2 c (List.mem_filter.mpr ⟨hc, hi⟩)
  · simpa [hi] using h
set_option maxRecDepth 65536 in
theorem w_c0 : (Jvm.Cond.code x code maxLocals ret).before args0 about1 = true := code_word (m := ⟨1, 1⟩) (meth := k1m1) (c := k1c1) (by decide +kernel) rfl rfl rfl (by decide +kernel)
set_option maxRecDepth 65536 in
theorem w_c1 : (Jvm.Cond.code ({ cls := "com/example/grant4/grant4/store/KeyLocks", name := "<init>", desc := "()V" } : Jvm.MethodName) prog_33_method_1_code (2 : Nat) (Option.none : Option Jvm.ClassFile.FieldType)).before args0 about1 = true := code_word (m := ⟨2, 0⟩) (meth := k2m0) (c := k2c0) (by decide +kernel) rfl rfl rfl (by decide +kernel)
set_option maxRecDepth 65536 in
theorem w_c2 : (Jvm.Cond.code ({ cls := "java/lang/Object", name := "<init>", desc := "()V" } : Jvm.MethodName) object_method_1_code (1 : Nat) (Option.none : Option Jvm.ClassFile.FieldType)).before args0 about1 = true := code_word (m := ⟨0, 0⟩) (meth := k0m0) (c := k0c0) (by decide +kernel) rfl rfl rfl (by decide +kernel)
set_option maxRecDepth 65536 in
theorem w_c3 : (Jvm.Cond.code ({ cls := "com/example/grant4/grant4/store/KeyLocks", name := "of", desc := "([B)Ljava/lang/Object;" } : Jvm.MethodName) prog_33_method_2_code (2 : Nat) (Option.some (Jvm.ClassFile.FieldType.object "java/lang/Object"))).before args0 about1 = true := code_word (m := ⟨2, 1⟩) (meth := k2m1) (c := k2c1) (by decide +kernel) rfl rfl rfl (by decide +kernel)
set_option maxRecDepth 65536 in
theorem w_c4 : (Jvm.Cond.code ({ cls := "java/util/Arrays", name := "hashCode", desc := "([B)I" } : Jvm.MethodName) jdk_65_method_153_code (1 : Nat) (Option.some Jvm.ClassFile.FieldType.int)).before args0 about1 = true := code_word (m := ⟨3, 1⟩) (meth := k3m1) (c := k3c1) (by decide +kernel) rfl rfl rfl (by decide +kernel)
set_option maxRecDepth 65536 in
theorem w_c5 : (Jvm.Cond.code ({ cls := "java/lang/Math", name := "floorMod", desc := "(II)I" } : Jvm.MethodName) jdk_29_method_50_code (3 : Nat) (Option.some Jvm.ClassFile.FieldType.int)).before args0 about1 = true := code_word (m := ⟨4, 1⟩) (meth := k4m1) (c := k4c1) (by decide +kernel) rfl rfl rfl (by decide +kernel)
set_option maxRecDepth 65536 in
theorem w_c6 : (Jvm.Cond.code ({ cls := "jdk/internal/util/ArraysSupport", name := "vectorizedHashCode", desc := "(Ljava/lang/Object;IIII)I" } : Jvm.MethodName) jdk_48_method_4_code (5 : Nat) (Option.some Jvm.ClassFile.FieldType.int)).before args0 about1 = true := code_word (m := ⟨5, 1⟩) (meth := k5m1) (c := k5c1) (by decide +kernel) rfl rfl rfl (by decide +kernel)
set_option maxRecDepth 65536 in
theorem w_c7 : (Jvm.Cond.code ({ cls := "jdk/internal/util/ArraysSupport", name := "hashCode", desc := "(I[BII)I" } : Jvm.MethodName) jdk_48_method_6_code (6 : Nat) (Option.some Jvm.ClassFile.FieldType.int)).before args0 about1 = true := code_word (m := ⟨5, 2⟩) (meth := k5m2) (c := k5c2) (by decide +kernel) rfl rfl rfl (by decide +kernel)
def codes1 : List Jvm.Cond := [Jvm.Cond.code x code maxLocals ret, Jvm.Cond.code ({ cls := "com/example/grant4/grant4/store/KeyLocks", name := "<init>", desc := "()V" } : Jvm.MethodName) prog_33_method_1_code (2 : Nat) (Option.none : Option Jvm.ClassFile.FieldType), Jvm.Cond.code ({ cls := "java/lang/Object", name := "<init>", desc := "()V" } : Jvm.MethodName) object_method_1_code (1 : Nat) (Option.none : Option Jvm.ClassFile.FieldType), Jvm.Cond.code ({ cls := "com/example/grant4/grant4/store/KeyLocks", name := "of", desc := "([B)Ljava/lang/Object;" } : Jvm.MethodName) prog_33_method_2_code (2 : Nat) (Option.some (Jvm.ClassFile.FieldType.object "java/lang/Object")), Jvm.Cond.code ({ cls := "java/util/Arrays", name := "hashCode", desc := "([B)I" } : Jvm.MethodName) jdk_65_method_153_code (1 : Nat) (Option.some Jvm.ClassFile.FieldType.int), Jvm.Cond.code ({ cls := "java/lang/Math", name := "floorMod", desc := "(II)I" } : Jvm.MethodName) jdk_29_method_50_code (3 : Nat) (Option.some Jvm.ClassFile.FieldType.int), Jvm.Cond.code ({ cls := "jdk/internal/util/ArraysSupport", name := "vectorizedHashCode", desc := "(Ljava/lang/Object;IIII)I" } : Jvm.MethodName) jdk_48_method_4_code (5 : Nat) (Option.some Jvm.ClassFile.FieldType.int), Jvm.Cond.code ({ cls := "jdk/internal/util/ArraysSupport", name := "hashCode", desc := "(I[BII)I" } : Jvm.MethodName) jdk_48_method_6_code (6 : Nat) (Option.some Jvm.ClassFile.FieldType.int)]
set_option maxRecDepth 65536 in
theorem codes_eq : words1.filter isCode = codes1 := rfl
theorem w_codes : ∀ c ∈ words1.filter isCode, c.before args0 about1 = true := by
  rw [codes_eq]
  intro c hc
  simp only [codes1, List.mem_cons, List.not_mem_nil, or_false] at hc
  rcases hc with rfl | rfl | rfl | rfl | rfl | rfl | rfl | rfl
  · exact w_c0
  · exact w_c1
  · exact w_c2
  · exact w_c3
  · exact w_c4
  · exact w_c5
  · exact w_c6
  · exact w_c7
set_option maxRecDepth 65536 in
theorem w_t1 : (words1.take 24).all (fun c => isCode c || c.before args0 about1) = true := by decide +kernel
set_option maxRecDepth 65536 in
theorem w_t2 : (words1.drop 24).all (fun c => isCode c || c.before args0 about1) = true := by decide +kernel
theorem w_tables : (allAtoms (Jvm.Cond.code x code maxLocals ret :: tables_1)).before args0 about1 = true := by
  rw [allAtoms_all]
  show words1.all (fun c => c.before args0 about1) = true
  refine all_split ?_ w_codes
  rw [← List.take_append_drop 24 words1, List.all_append, w_t1, w_t2]
  rfl
set_option maxRecDepth 65536 in
theorem w_case : (Jvm.Cond.and given_1 narrow_1).before args0 about1 = true := by decide +kernel
theorem w_applies : (headSpec (Jvm.Cond.code x code maxLocals ret :: tables_1) room_1).applies x e0.platform about1 = true :=
  (Spec.applies_iff w_frames).mpr ⟨w_running, w_runnable, w_alone, w_named, w_hears, w_ripe, w_room, w_tables⟩
theorem atStart : AtStart classFile x code maxLocals ret World_1 tables_1 room_1 Calls_1 rest_1 Pre_1 launch0 p0 e0 about1 theMethod args0 below0 :=
  ⟨lists_1, trivial, launch0.admits_env _ _ _, launch0.least_env, fairChoices_fair.cas, fairChoices_fair.clock, w_frames, w_args, w_heap, w_applies, trivial, trivial, w_case⟩
end start1
theorem witness_1 : WitnessClaimed_1 := ⟨start1.p0, start1.e0, start1.about1, start1.theMethod, start1.args0, start1.below0, start1.atStart⟩
end Jvm.Pilot.@@N@@
