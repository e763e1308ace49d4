import JvmDerived
import JvmDerived.Pilot.@@N@@Statement
import JvmDerived.Pilot.@@N@@Code
set_option linter.unusedVariables false
set_option linter.unusedSimpArgs false
namespace Jvm.RoadKit
open Sem ClassFile Op Lib Jvm.Stand Jvm.Free Jvm.LawKit
section New
variable {p : Program} {l : Launch} {e : Env} {R : Room} {s : State} {m : MethodId} {args : Array Value} {below : List Frame} {meth : Method} {c : Code} {T : State} {locs : List Loc} {cells slots : Nat}
theorem retI (X : Stand p l e R s m args below meth c T locs cells slots) (hx : p.tables.exec = Jvm.exec) {pc : Nat} {Ls : Array Slot} {z : Int32} {rest : List Value} (hret : meth.sig.returnType = some .int) (hd : decode c.code pc = .ok (.ireturn, 1)) {fs : List Frame}
    (hl : ∀ (f : JFrame) (acts : List Action), f.method = m → f.locked = none → f.entered = [] → (doReturn e (T.setTop f) acts (some (.int z))).1 = T.setFrames fs) : Steps p.tables e below (T.setTop (mkF m pc Ls (.int z :: rest))) (T.setFrames fs) := by
  have hm' : T.vm.method? m = some meth := X.method'
  have hn : narrow .int (.int z) = .int z := rfl
  show Steps p.tables e below (T.setTop { method := m, pc := pc, locals := Ls, stack := _ :: rest, locked := none }) _
  jvm_step X.here [X.here.top, hx, hd, hm', hret, hn]
  first | (intro acts; rw [hl _ acts rfl rfl rfl]) | rw [hl _ _ rfl rfl rfl]
  exact Steps.refl _
end New
end Jvm.RoadKit
namespace Jvm.Pilot.@@N@@
open Jvm Jvm.ClassFile Sem Op Lib Jvm.Free Jvm.Stand Jvm.LawKit Jvm.RoadKit Bundle Jvm.Pilot.@@N@@.Jvm.D
set_option maxRecDepth 65536
set_option maxHeartbeats 40000000
theorem wi {α : Type} {l : List α} {a : α} (i : Nat) (h : l[i]? = some a) : a ∈ l := List.mem_of_getElem? h
abbrev ym1 : MethodName := ⟨"com/example/motes_to_bounds/motestobounds/io/TextReportPrintablePinLaw", "draw", "(I)C"⟩
abbrev cm1 := method_3_code
abbrev ym2 : MethodName := ⟨"com/example/motes_to_bounds/motestobounds/io/TextReport", "printable", "(Ljava/lang/String;)Ljava/lang/String;"⟩
abbrev cm2 := prog_20_method_8_code
abbrev ym3 : MethodName := ⟨"java/lang/String", "length", "()I"⟩
abbrev cm3 := jdk_42_method_54_code
abbrev ym4 : MethodName := ⟨"java/lang/String", "coder", "()B"⟩
abbrev cm4 := jdk_42_method_152_code
abbrev ym5 : MethodName := ⟨"java/lang/StringBuilder", "<init>", "(I)V"⟩
abbrev cm5 := jdk_67_method_2_code
abbrev ym6 : MethodName := ⟨"java/lang/AbstractStringBuilder", "<init>", "(I)V"⟩
abbrev cm6 := jdk_68_method_2_code
abbrev ym7 : MethodName := ⟨"java/lang/Object", "<init>", "()V"⟩
abbrev cm7 := object_method_1_code
abbrev ym8 : MethodName := ⟨"java/lang/StringBuilder", "toString", "()Ljava/lang/String;"⟩
abbrev cm8 := jdk_67_method_42_code
abbrev ym9 : MethodName := ⟨"java/lang/String", "<init>", "(Ljava/lang/StringBuilder;)V"⟩
abbrev cm9 := jdk_42_method_53_code
abbrev ym10 : MethodName := ⟨"java/lang/String", "<init>", "(Ljava/lang/AbstractStringBuilder;Ljava/lang/Void;)V"⟩
abbrev cm10 := jdk_42_method_150_code
abbrev ym11 : MethodName := ⟨"java/lang/AbstractStringBuilder", "getValue", "()[B"⟩
abbrev cm11 := jdk_68_method_64_code
abbrev ym12 : MethodName := ⟨"java/lang/StringBuilder", "length", "()I"⟩
abbrev cm12 := jdk_67_method_93_code
abbrev ym13 : MethodName := ⟨"java/lang/AbstractStringBuilder", "length", "()I"⟩
abbrev cm13 := jdk_68_method_6_code
abbrev ym14 : MethodName := ⟨"java/lang/AbstractStringBuilder", "isLatin1", "()Z"⟩
abbrev cm14 := jdk_68_method_68_code
abbrev ym15 : MethodName := ⟨"java/util/Arrays", "copyOfRange", "([BII)[B"⟩
abbrev cm15 := jdk_65_method_132_code
abbrev ym16 : MethodName := ⟨"java/lang/String", "<init>", "([C)V"⟩
abbrev cm16 := jdk_42_method_3_code
abbrev ym17 : MethodName := ⟨"java/lang/String", "<init>", "([CIILjava/lang/Void;)V"⟩
abbrev cm17 := jdk_42_method_149_code
abbrev ym18 : MethodName := ⟨"java/lang/StringUTF16", "compress", "([CII)[B"⟩
abbrev cm18 := jdk_52_method_16_code
abbrev ym19 : MethodName := ⟨"java/lang/StringUTF16", "compress", "([CI[BII)I"⟩
abbrev cm19 := jdk_52_method_21_code
abbrev ym20 : MethodName := ⟨"java/lang/StringUTF16", "coderFromArrayLen", "([BI)B"⟩
abbrev cm20 := jdk_52_method_15_code
abbrev ym21 : MethodName := ⟨"java/lang/String", "charAt", "(I)C"⟩
abbrev cm21 := jdk_42_method_56_code
abbrev ym22 : MethodName := ⟨"java/lang/String", "isLatin1", "()Z"⟩
abbrev cm22 := jdk_42_method_154_code
abbrev ym23 : MethodName := ⟨"java/lang/StringLatin1", "charAt", "([BI)C"⟩
abbrev cm23 := jdk_43_method_2_code
abbrev ym24 : MethodName := ⟨"java/lang/String", "checkIndex", "(II)V"⟩
abbrev cm24 := jdk_42_method_155_code
abbrev ym25 : MethodName := ⟨"jdk/internal/util/Preconditions", "checkIndex", "(IILjava/util/function/BiFunction;)I"⟩
abbrev cm25 := jdk_41_method_11_code
abbrev ym26 : MethodName := ⟨"java/lang/Character", "isISOControl", "(C)Z"⟩
abbrev cm26 := jdk_89_method_88_code
abbrev ym27 : MethodName := ⟨"java/lang/Character", "isISOControl", "(I)Z"⟩
abbrev cm27 := jdk_89_method_89_code
abbrev ym28 : MethodName := ⟨"java/lang/StringBuilder", "append", "(C)Ljava/lang/StringBuilder;"⟩
abbrev cm28 := jdk_67_method_14_code
abbrev ym29 : MethodName := ⟨"java/lang/AbstractStringBuilder", "append", "(C)Ljava/lang/AbstractStringBuilder;"⟩
abbrev cm29 := jdk_68_method_31_code
abbrev ym30 : MethodName := ⟨"java/lang/AbstractStringBuilder", "ensureCapacityInternal", "(I)V"⟩
abbrev cm30 := jdk_68_method_9_code
abbrev ym31 : MethodName := ⟨"java/lang/StringLatin1", "canEncode", "(C)Z"⟩
abbrev cm31 := jdk_43_method_3_code
abbrev ym32 : MethodName := ⟨"com/example/motes_to_bounds/motestobounds/io/TextReportPrintablePinLaw", "step", "(Ljava/lang/String;IC)I"⟩
abbrev cm32 := method_6_code
abbrev ym33 : MethodName := ⟨"com/example/motes_to_bounds/motestobounds/io/TextReportPrintablePinLaw", "escaped", "(C)Z"⟩
abbrev cm33 := method_4_code
abbrev ym34 : MethodName := ⟨"java/lang/StringUTF16", "toBytes", "([CII)[B"⟩
abbrev cm34 := jdk_52_method_14_code
abbrev ym35 : MethodName := ⟨"java/lang/StringUTF16", "newBytesFor", "(I)[B"⟩
abbrev cm35 := jdk_52_method_2_code
abbrev ym36 : MethodName := ⟨"java/lang/StringUTF16", "newBytesLength", "(I)I"⟩
abbrev cm36 := jdk_52_method_3_code
abbrev ym37 : MethodName := ⟨"java/lang/StringUTF16", "putChar", "([BII)V"⟩
abbrev cm37 := jdk_52_method_4_code
abbrev ym38 : MethodName := ⟨"java/lang/StringUTF16", "getChar", "([BI)C"⟩
abbrev cm38 := jdk_52_method_5_code
abbrev ym39 : MethodName := ⟨"java/lang/StringUTF16", "charAt", "([BI)C"⟩
abbrev cm39 := jdk_52_method_83_code
abbrev ym40 : MethodName := ⟨"java/lang/StringUTF16", "checkIndex", "(I[B)V"⟩
abbrev cm40 := jdk_52_method_91_code
abbrev ym41 : MethodName := ⟨"java/lang/StringUTF16", "length", "([B)I"⟩
abbrev cm41 := jdk_52_method_6_code
abbrev ym42 : MethodName := ⟨"java/lang/AbstractStringBuilder", "inflate", "()V"⟩
abbrev cm42 := jdk_68_method_11_code
abbrev ym43 : MethodName := ⟨"java/lang/StringLatin1", "inflate", "([BI[BII)V"⟩
abbrev cm43 := jdk_43_method_50_code
abbrev ym44 : MethodName := ⟨"java/lang/StringUTF16", "inflate", "([BI[BII)V"⟩
abbrev cm44 := jdk_52_method_86_code
abbrev ym45 : MethodName := ⟨"java/lang/StringUTF16", "checkBoundsOffCount", "(II[B)V"⟩
abbrev cm45 := jdk_52_method_94_code
abbrev ym46 : MethodName := ⟨"java/lang/String", "checkBoundsOffCount", "(III)I"⟩
abbrev cm46 := jdk_42_method_157_code
abbrev ym47 : MethodName := ⟨"jdk/internal/util/Preconditions", "checkFromIndexSize", "(IIILjava/util/function/BiFunction;)I"⟩
abbrev cm47 := jdk_41_method_13_code
abbrev ym48 : MethodName := ⟨"java/lang/StringUTF16", "putCharSB", "([BII)V"⟩
abbrev cm48 := jdk_52_method_71_code
abbrev ym49 : MethodName := ⟨"java/lang/String", "valueOf", "(C)Ljava/lang/String;"⟩
abbrev cm49 := jdk_42_method_139_code
abbrev ym50 : MethodName := ⟨"java/lang/StringLatin1", "toBytes", "(C)[B"⟩
abbrev cm50 := jdk_43_method_46_code
abbrev ym51 : MethodName := ⟨"java/lang/String", "<init>", "([BB)V"⟩
abbrev cm51 := jdk_42_method_151_code
abbrev ym52 : MethodName := ⟨"java/lang/Integer", "toHexString", "(I)Ljava/lang/String;"⟩
abbrev cm52 := jdk_33_method_4_code
abbrev ym53 : MethodName := ⟨"java/lang/Integer", "toUnsignedString0", "(II)Ljava/lang/String;"⟩
abbrev cm53 := jdk_33_method_7_code
abbrev ym54 : MethodName := ⟨"java/lang/Integer", "numberOfLeadingZeros", "(I)I"⟩
abbrev cm54 := jdk_33_method_47_code
abbrev ym55 : MethodName := ⟨"java/lang/Math", "max", "(II)I"⟩
abbrev cm55 := jdk_29_method_65_code
abbrev ym56 : MethodName := ⟨"java/lang/Integer", "formatUnsignedInt", "(II[BI)V"⟩
abbrev cm56 := jdk_33_method_8_code
abbrev ym57 : MethodName := ⟨"java/lang/StringBuilder", "append", "(Ljava/lang/String;)Ljava/lang/StringBuilder;"⟩
abbrev cm57 := jdk_67_method_7_code
abbrev ym58 : MethodName := ⟨"java/lang/AbstractStringBuilder", "append", "(Ljava/lang/String;)Ljava/lang/AbstractStringBuilder;"⟩
abbrev cm58 := jdk_68_method_22_code
abbrev ym59 : MethodName := ⟨"java/lang/AbstractStringBuilder", "newCapacity", "(I)I"⟩
abbrev cm59 := jdk_68_method_10_code
abbrev ym60 : MethodName := ⟨"jdk/internal/util/ArraysSupport", "newLength", "(III)I"⟩
abbrev cm60 := jdk_48_method_27_code
abbrev ym61 : MethodName := ⟨"java/util/Arrays", "copyOf", "([BI)[B"⟩
abbrev cm61 := jdk_65_method_121_code
abbrev ym62 : MethodName := ⟨"java/lang/Math", "min", "(II)I"⟩
abbrev cm62 := jdk_29_method_69_code
abbrev ym63 : MethodName := ⟨"java/lang/AbstractStringBuilder", "putStringAt", "(ILjava/lang/String;)V"⟩
abbrev cm63 := jdk_68_method_73_code
abbrev ym64 : MethodName := ⟨"java/lang/AbstractStringBuilder", "inflateIfNeededFor", "(Ljava/lang/String;)V"⟩
abbrev cm64 := jdk_68_method_71_code
abbrev ym65 : MethodName := ⟨"java/lang/String", "getBytes", "([BIB)V"⟩
abbrev cm65 := jdk_42_method_147_code
abbrev ym66 : MethodName := ⟨"java/lang/String", "repeat", "(I)Ljava/lang/String;"⟩
abbrev cm66 := jdk_42_method_145_code
abbrev ym67 : MethodName := ⟨"java/util/Arrays", "fill", "([BB)V"⟩
abbrev cm67 := jdk_65_method_109_code
abbrev ym68 : MethodName := ⟨"java/util/Arrays", "copyOfRangeByte", "([BII)[B"⟩
abbrev cm68 := jdk_65_method_133_code
abbrev ym69 : MethodName := ⟨"java/util/Arrays", "checkLength", "(II)V"⟩
abbrev cm69 := jdk_65_method_131_code
abbrev ym70 : MethodName := ⟨"com/example/motes_to_bounds/motestobounds/io/TextReportPrintablePinLaw", "hex", "(I)C"⟩
abbrev cm70 := method_5_code
abbrev ym71 : MethodName := ⟨"java/lang/StringUTF16", "toBytes", "(C)[B"⟩
abbrev cm71 := jdk_52_method_24_code
abbrev own_hw (a0 : Array Value) (Z : State) : Prop := ∀ d ∈ tables_1, d.before a0 Z = true
abbrev sR (a : Addr) : Slot := .val (.ref a)
abbrev sI (x : Int32) : Slot := .val (.int x)
/-- a body's law -/
abbrev own_M (l : Launch) (y : MethodName) (cd : List Jvm.Cond) (R : Room) (A : Array Value) (Z : State) (h0 : Heap) (Q : Option Value → Heap → List Loc → Prop) : Prop :=
  MetFree l y (head1 cd R) (fun a U => a = A ∧ Z.Warmed39 U.vm ∧ U.heap = h0) (fun _ _ _ _ _ => True) (fun _ U o U' => ∃ v L, o = .returned v ∧ Q v U'.heap L ∧ FrameEnd U o U' L R.cells R.slots)
theorem own_go {l : Launch} {y : MethodName} {code : ByteArray} {ml : Nat} {ret : Option FieldType} {R : Room} {A : Array Value} {Z : State} {h0 : Heap} {Q : Option Value → Heap → List Loc → Prop} {F : MethodId → JFrame} (n0 : Nat) (pn : plainFor y = true) (ef : ∀ m, entryFrame m A ml = F m)
    (H : ∀ (p : Program) (e : Env) (s : State) (m : MethodId) (below : List Frame) (meth : Method) (c : Code) (sq : State) (Pq : State → Prop), meth.sig.returnType = ret → p.tables.exec = Jvm.exec → c.code = code → c.maxLocals = ml → s.vm.findClass y.cls = some m.cls → meth.name = y.name → Z.Warmed39 s.vm → s.heap = h0 → meth.locks = false → Stand p l e R s m A below meth c sq [] 0 0 → sq.heap = h0 → Fr n0 [] → (∀ t, Steps p.tables e below (sq.setTop (F m)) t → Pq t) →
      ∃ s₂ o, Pq s₂ ∧ s₂.status = .running ∧ Ended s₂ below o ∧ ∃ v L, o = .returned v ∧ Q v s₂.heap L ∧ FrameEnd s o s₂ L R.cells R.slots) : own_M l y [Jvm.Cond.code y code ml ret] R A Z h0 Q := by
  refine MetFree.of_bodySF pn hisR ?_
  intro p e s m args below meth c sq Bd hml hP hK
  obtain ⟨rfl, hZ, hh⟩ := hP
  exact H p e s m below meth c sq _ Bd.returns Bd.exec Bd.bytes hml (findClass_of_methodNamed Bd.named) (name_of_methodNamed Bd.named Bd.method).1 hZ hh Bd.notSynchronized (Stand.of_body Bd) (by rw [← hh, Bd.state]; rfl) (Fr.nil n0) (fun t k => castTop (ef m) k)
/-- an array with one byte, one char laid -/
abbrev own_sb (f : Nat → Int32) (j x : Int32) : Nat → Int32 := fun jj => if jj = j.toNatClampNeg then nar .byte x else f jj
abbrev own_sc (f : Nat → Int32) (j x : Int32) : Nat → Int32 := fun jj => if jj = j.toNatClampNeg then nar .char x else f jj
abbrev fSv (Z : State) (h : Heap) (a : Addr) (v : Value) : Prop := Fld Z h a "java/lang/String" "value" "[B" v
abbrev fSc (Z : State) (h : Heap) (a : Addr) (v : Value) : Prop := Fld Z h a "java/lang/String" "coder" "B" v
abbrev fBv (Z : State) (h : Heap) (a : Addr) (v : Value) : Prop := Fld Z h a "java/lang/AbstractStringBuilder" "value" "[B" v
abbrev fBc (Z : State) (h : Heap) (a : Addr) (v : Value) : Prop := Fld Z h a "java/lang/AbstractStringBuilder" "coder" "B" v
abbrev fBn (Z : State) (h : Heap) (a : Addr) (v : Value) : Prop := Fld Z h a "java/lang/AbstractStringBuilder" "count" "I" v
abbrev fBm (Z : State) (h : Heap) (a : Addr) (v : Value) : Prop := Fld Z h a "java/lang/AbstractStringBuilder" "maybeLatin1" "Z" v
abbrev eS (Z : State) (h : Heap) (a : Addr) : Prop := Exa Z h a "java/lang/String"
abbrev eB (Z : State) (h : Heap) (a : Addr) : Prop := Exa Z h a "java/lang/StringBuilder"
abbrev eA (Z : State) (h : Heap) (a : Addr) : Prop := Exa Z h a "[B"
theorem mw {Z s : State} {a0 args : Array Value} {d : Jvm.Cond} (hZ : Z.Warmed39 s.vm) (hw : own_hw a0 Z) (i : Nat) (h : tables_1[i]? = some d) (hd : (d.onTables && d.keepsFace) = true := by first | rfl | simp [Cond.onTables, Cond.keepsFace, Cond.keeps, Cond.steady]) : d.before args s = true := mvT hZ (hw _ (wi i h)) hd
theorem own_dec {c : Code} {b : ByteArray} {t : List (Nat × Instr × Nat)} (h : c.code = b) (q : (t.all fun x => decide (decode b x.1 = .ok (x.2.1, x.2.2))) = true) {i : Nat} {x : Nat × Instr × Nat} (hi : t[i]? = some x) : decode c.code x.1 = .ok (x.2.1, x.2.2) := by
  rw [h]
  exact of_decide_eq_true (List.all_eq_true.mp q x (List.mem_of_getElem? hi))
theorem own_nv {meth : Method} {ty : FieldType} {v : Option Value} (h : meth.sig.returnType = some ty) : meth.sig.returnType = none → v = none := fun q => by rw [h] at q; cases q
theorem own_fin {p : Program} {l : Launch} {e : Env} {R : Room} {s : State} {m : MethodId} {A : Array Value} {below : List Frame} {meth : Method} {c : Code} {T : State} {locs : List Loc} {cells slots : Nat} {Pq : State → Prop} {Q : Option Value → Heap → List Loc → Prop} (X : Stand p l e R s m A below meth c T locs cells slots) (hlk : meth.locks = false) {v : Option Value} (hv : meth.sig.returnType = none → v = none) (hc : cells ≤ R.cells) (hs : slots ≤ R.slots) (hq : Q v T.heap locs)
    (hp : ∀ fs, (∀ (f : JFrame) (acts : List Action), f.method = m → f.locked = none → f.entered = [] → (doReturn e (T.setTop f) acts v).1 = T.setFrames fs) → Pq (T.setFrames fs)) : ∃ s₂ o, Pq s₂ ∧ s₂.status = .running ∧ Ended s₂ below o ∧ ∃ v L, o = .returned v ∧ Q v s₂.heap L ∧ FrameEnd s o s₂ L R.cells R.slots := by
  obtain ⟨fs, hr, hrun, hended, hW, hsame⟩ := X.leave hv
  exact ⟨_, _, hp fs hr, hrun, hended, v, locs, rfl, hq, ⟨_, rfl⟩, hW, hsame.mono hc hs⟩
section own_flat
variable {p : Program} {l : Launch} {e : Env} {R : Room} {s : State} {m : MethodId} {A : Array Value} {below : List Frame} {meth : Method} {c : Code} {T t : State} {locs : List Loc} {cells slots pc : Nat} {Ls : Array Slot} {S : List Value}
theorem qiN (X : Stand p l e R s m A below meth c T locs cells slots) (hx : p.tables.exec = Jvm.exec) {k : Fin 4} {v : Int32} (hd : decode c.code pc = .ok (.iload_n k, 1)) (hl : Ls[k.val]? = some (.val (.int v))) (hr : Steps p.tables e below (T.setTop (mkF m (pc + 1) Ls (.int v :: S))) t) : Steps p.tables e below (T.setTop (mkF m pc Ls S)) t := XS.iloadN X.here hx rfl hd hl hr
theorem qi (X : Stand p l e R s m A below meth c T locs cells slots) (hx : p.tables.exec = Jvm.exec) {k : Nat} {v : Int32} (hd : decode c.code pc = .ok (.iload k, 2)) (hl : Ls[k]? = some (.val (.int v))) (hr : Steps p.tables e below (T.setTop (mkF m (pc + 2) Ls (.int v :: S))) t) : Steps p.tables e below (T.setTop (mkF m pc Ls S)) t := XS.iload X.here hx rfl hd hl hr
theorem qaN (X : Stand p l e R s m A below meth c T locs cells slots) (hx : p.tables.exec = Jvm.exec) {k : Fin 4} {v : Value} (hd : decode c.code pc = .ok (.aload_n k, 1)) (hl : Ls[k.val]? = some (.val v)) (hv : v.isRef = true) (hr : Steps p.tables e below (T.setTop (mkF m (pc + 1) Ls (v :: S))) t) : Steps p.tables e below (T.setTop (mkF m pc Ls S)) t := XS.aloadN X.here hx rfl hd hl hv hr
theorem qa (X : Stand p l e R s m A below meth c T locs cells slots) (hx : p.tables.exec = Jvm.exec) {k : Nat} {v : Value} (hd : decode c.code pc = .ok (.aload k, 2)) (hl : Ls[k]? = some (.val v)) (hv : v.isRef = true) (hr : Steps p.tables e below (T.setTop (mkF m (pc + 2) Ls (v :: S))) t) : Steps p.tables e below (T.setTop (mkF m pc Ls S)) t := XS.aload X.here hx rfl hd hl hv hr
theorem qsN (X : Stand p l e R s m A below meth c T locs cells slots) (hx : p.tables.exec = Jvm.exec) {k : Fin 4} {x : Int32} {l' : Array Slot} (hd : decode c.code pc = .ok (.istore_n k, 1)) (hl : storeLocals Ls k.val (.int x) = some l') (hr : Steps p.tables e below (T.setTop (mkF m (pc + 1) l' S)) t) : Steps p.tables e below (T.setTop (mkF m pc Ls (.int x :: S))) t := XS.istoreN X.here hx rfl hd rfl hl hr
theorem qs (X : Stand p l e R s m A below meth c T locs cells slots) (hx : p.tables.exec = Jvm.exec) {k : Nat} {x : Int32} {l' : Array Slot} (hd : decode c.code pc = .ok (.istore k, 2)) (hl : storeLocals Ls k (.int x) = some l') (hr : Steps p.tables e below (T.setTop (mkF m (pc + 2) l' S)) t) : Steps p.tables e below (T.setTop (mkF m pc Ls (.int x :: S))) t := XS.istore X.here hx rfl hd rfl hl hr
theorem qtN (X : Stand p l e R s m A below meth c T locs cells slots) (hx : p.tables.exec = Jvm.exec) {k : Fin 4} {x : Value} {l' : Array Slot} (hd : decode c.code pc = .ok (.astore_n k, 1)) (hv : x.isRef = true) (hl : storeLocals Ls k.val x = some l') (hr : Steps p.tables e below (T.setTop (mkF m (pc + 1) l' S)) t) : Steps p.tables e below (T.setTop (mkF m pc Ls (x :: S))) t := XS.astoreN X.here hx rfl hd rfl hv hl hr
theorem qt (X : Stand p l e R s m A below meth c T locs cells slots) (hx : p.tables.exec = Jvm.exec) {k : Nat} {x : Value} {l' : Array Slot} (hd : decode c.code pc = .ok (.astore k, 2)) (hv : x.isRef = true) (hl : storeLocals Ls k x = some l') (hr : Steps p.tables e below (T.setTop (mkF m (pc + 2) l' S)) t) : Steps p.tables e below (T.setTop (mkF m pc Ls (x :: S))) t := XS.astore X.here hx rfl hd rfl hv hl hr
theorem qc (X : Stand p l e R s m A below meth c T locs cells slots) (hx : p.tables.exec = Jvm.exec) {i : Int} (z : Int32) (hd : decode c.code pc = .ok (.iconst i, 1)) (hz : Int32.ofInt i = z) (hr : Steps p.tables e below (T.setTop (mkF m (pc + 1) Ls (.int z :: S))) t) : Steps p.tables e below (T.setTop (mkF m pc Ls S)) t := by subst hz; exact XS.iconst X.here hx rfl hd hr
theorem qb (X : Stand p l e R s m A below meth c T locs cells slots) (hx : p.tables.exec = Jvm.exec) {i : Int} (z : Int32) (hd : decode c.code pc = .ok (.bipush i, 2)) (hz : (Int8.ofInt i).toInt32 = z) (hr : Steps p.tables e below (T.setTop (mkF m (pc + 2) Ls (.int z :: S))) t) : Steps p.tables e below (T.setTop (mkF m pc Ls S)) t := by subst hz; exact XS.bipush X.here hx rfl hd hr
theorem qp (X : Stand p l e R s m A below meth c T locs cells slots) (hx : p.tables.exec = Jvm.exec) {i : Int} (z : Int32) (hd : decode c.code pc = .ok (.sipush i, 3)) (hz : (Int16.ofInt i).toInt32 = z) (hr : Steps p.tables e below (T.setTop (mkF m (pc + 3) Ls (.int z :: S))) t) : Steps p.tables e below (T.setTop (mkF m pc Ls S)) t := by subst hz; exact XS.sipush X.here hx rfl hd hr
theorem qg (X : Stand p l e R s m A below meth c T locs cells slots) (hx : p.tables.exec = Jvm.exec) {o : Int} (pc pc' : Nat) (hd : decode c.code pc = .ok (.goto o, 3)) (ho : 0 ≤ (pc : Int) + o) (hp : ((pc : Int) + o).toNat = pc') (hr : Steps p.tables e below (T.setTop (mkF m pc' Ls S)) t) : Steps p.tables e below (T.setTop (mkF m pc Ls S)) t := XS.goto X.here hx rfl rfl hd ho hp hr
theorem qfY (X : Stand p l e R s m A below meth c T locs cells slots) (hx : p.tables.exec = Jvm.exec) {cd : ClassFile.Cond} {x : Int32} {o : Int} (pc pc' : Nat) (hd : decode c.code pc = .ok (.ifCond cd o, 3)) (hc : ifCond.holds cd x = true) (ho : 0 ≤ (pc : Int) + o) (hp : ((pc : Int) + o).toNat = pc') (hr : Steps p.tables e below (T.setTop (mkF m pc' Ls S)) t) : Steps p.tables e below (T.setTop (mkF m pc Ls (.int x :: S))) t := XS.ifYes X.here hx rfl rfl hd rfl hc ho hp hr
theorem qfN (X : Stand p l e R s m A below meth c T locs cells slots) (hx : p.tables.exec = Jvm.exec) {cd : ClassFile.Cond} {x : Int32} {o : Int} (hd : decode c.code pc = .ok (.ifCond cd o, 3)) (hc : ifCond.holds cd x = false) (hr : Steps p.tables e below (T.setTop (mkF m (pc + 3) Ls S)) t) : Steps p.tables e below (T.setTop (mkF m pc Ls (.int x :: S))) t := XS.ifNo X.here hx rfl hd rfl hc hr
theorem qmY (X : Stand p l e R s m A below meth c T locs cells slots) (hx : p.tables.exec = Jvm.exec) {cd : ClassFile.Cond} {x y : Int32} {o : Int} (pc pc' : Nat) (hd : decode c.code pc = .ok (.if_icmp cd o, 3)) (hc : if_icmp.holds cd x y = true) (ho : 0 ≤ (pc : Int) + o) (hp : ((pc : Int) + o).toNat = pc') (hr : Steps p.tables e below (T.setTop (mkF m pc' Ls S)) t) : Steps p.tables e below (T.setTop (mkF m pc Ls (.int y :: .int x :: S))) t := XS.icmpYes X.here hx rfl rfl hd rfl hc ho hp hr
theorem qmN (X : Stand p l e R s m A below meth c T locs cells slots) (hx : p.tables.exec = Jvm.exec) {cd : ClassFile.Cond} {x y : Int32} {o : Int} (hd : decode c.code pc = .ok (.if_icmp cd o, 3)) (hc : if_icmp.holds cd x y = false) (hr : Steps p.tables e below (T.setTop (mkF m (pc + 3) Ls S)) t) : Steps p.tables e below (T.setTop (mkF m pc Ls (.int y :: .int x :: S))) t := XS.icmpNo X.here hx rfl hd rfl hc hr
end own_flat

theorem dt1 {c : Code} (h : c.code = cm1) (i : Nat) {x : Nat × Instr × Nat} (hi : ([(0, .iload_n 0, 1), (1, .iconst 3, 1), (2, .iand, 1), (3, .istore_n 1, 1), (4, .iload_n 0, 1), (5, .iconst 2, 1), (6, .iushr, 1), (7, .istore_n 2, 1), (8, .iload_n 1, 1), (9, .ifCond .ne 10, 3), (12, .iload_n 2, 1), (13, .sipush 255, 3), (16, .iand, 1), (17, .i2c, 1), (18, .ireturn, 1), (19, .iload_n 1, 1), (20, .iconst 1, 1), (21, .if_icmp .ne 13, 3), (24, .sipush 8224, 3), (27, .iload_n 2, 1), (28, .bipush 15, 2), (30, .iand, 1), (31, .iadd, 1), (32, .i2c, 1), (33, .ireturn, 1), (34, .iload_n 2, 1), (35, .i2c, 1), (36, .ireturn, 1)] : List (Nat × Instr × Nat))[i]? = some x) : decode c.code x.1 = .ok (x.2.1, x.2.2) := own_dec h (by decide +kernel) hi
theorem dt2 {c : Code} (h : c.code = cm2) (i : Nat) {x : Nat × Instr × Nat} (hi : ([(0, .new 48, 3), (3, .dup, 1), (4, .aload_n 0, 1), (5, .invokevirtual 449, 3), (8, .invokespecial 452, 3), (11, .astore_n 1, 1), (12, .iconst 0, 1), (13, .istore_n 2, 1), (14, .iload_n 2, 1), (15, .aload_n 0, 1), (16, .invokevirtual 449, 3), (19, .if_icmp .ge 80, 3), (22, .aload_n 0, 1), (23, .iload_n 2, 1), (24, .invokevirtual 455, 3), (27, .istore_n 3, 1), (28, .iload_n 3, 1), (29, .invokestatic 459, 3), (32, .ifCond .ne 17, 3), (35, .iload_n 3, 1), (36, .sipush 8232, 3), (39, .if_icmp .eq 10, 3), (42, .iload_n 3, 1), (43, .sipush 8233, 3), (46, .if_icmp .ne 41, 3), (49, .iload_n 3, 1), (50, .invokestatic 465, 3), (53, .astore 4, 2), (55, .aload_n 1, 1), (56, .ldc_w 468, 3), (59, .invokevirtual 53, 3), (62, .ldc_w 470, 3), (65, .iconst 4, 1), (66, .aload 4, 2), (68, .invokevirtual 449, 3), (71, .isub, 1), (72, .invokevirtual 472, 3), (75, .invokevirtual 53, 3), (78, .aload 4, 2), (80, .invokevirtual 53, 3), (83, .pop, 1), (84, .goto 9, 3), (93, .iinc 2 1, 3), (96, .goto (-82), 3), (87, .aload_n 1, 1), (88, .iload_n 3, 1), (89, .invokevirtual 71, 3), (92, .pop, 1), (99, .aload_n 1, 1), (100, .invokevirtual 134, 3), (103, .areturn, 1)] : List (Nat × Instr × Nat))[i]? = some x) : decode c.code x.1 = .ok (x.2.1, x.2.2) := own_dec h (by decide +kernel) hi
theorem dt3 {c : Code} (h : c.code = cm3) (i : Nat) {x : Nat × Instr × Nat} (hi : ([(0, .aload_n 0, 1), (1, .getfield 9, 3), (4, .arraylength, 1), (5, .aload_n 0, 1), (6, .invokevirtual 335, 3), (9, .ishr, 1), (10, .ireturn, 1)] : List (Nat × Instr × Nat))[i]? = some x) : decode c.code x.1 = .ok (x.2.1, x.2.2) := own_dec h (by decide +kernel) hi
theorem dt4 {c : Code} (h : c.code = cm4) (i : Nat) {x : Nat × Instr × Nat} (hi : ([(0, .getstatic 38, 3), (3, .ifCond .eq 10, 3), (6, .aload_n 0, 1), (7, .getfield 15, 3), (10, .goto 4, 3), (14, .ireturn, 1)] : List (Nat × Instr × Nat))[i]? = some x) : decode c.code x.1 = .ok (x.2.1, x.2.2) := own_dec h (by decide +kernel) hi
theorem dt5 {c : Code} (h : c.code = cm5) (i : Nat) {x : Nat × Instr × Nat} (hi : ([(0, .aload_n 0, 1), (1, .iload_n 1, 1), (2, .invokespecial 1, 3), (5, .return_, 1)] : List (Nat × Instr × Nat))[i]? = some x) : decode c.code x.1 = .ok (x.2.1, x.2.2) := own_dec h (by decide +kernel) hi
theorem dt6 {c : Code} (h : c.code = cm6) (i : Nat) {x : Nat × Instr × Nat} (hi : ([(0, .aload_n 0, 1), (1, .invokespecial 3, 3), (4, .getstatic 18, 3), (7, .ifCond .eq 18, 3), (10, .aload_n 0, 1), (11, .iload_n 1, 1), (12, .newarray .byte, 2), (14, .putfield 15, 3), (17, .aload_n 0, 1), (18, .iconst 0, 1), (19, .putfield 22, 3), (22, .goto 16, 3), (38, .return_, 1)] : List (Nat × Instr × Nat))[i]? = some x) : decode c.code x.1 = .ok (x.2.1, x.2.2) := own_dec h (by decide +kernel) hi
theorem dt8 {c : Code} (h : c.code = cm8) (i : Nat) {x : Nat × Instr × Nat} (hi : ([(0, .new 18, 3), (3, .dup, 1), (4, .aload_n 0, 1), (5, .invokespecial 137, 3), (8, .areturn, 1)] : List (Nat × Instr × Nat))[i]? = some x) : decode c.code x.1 = .ok (x.2.1, x.2.2) := own_dec h (by decide +kernel) hi
theorem dt9 {c : Code} (h : c.code = cm9) (i : Nat) {x : Nat × Instr × Nat} (hi : ([(0, .aload_n 0, 1), (1, .aload_n 1, 1), (2, .aconst_null, 1), (3, .invokespecial 489, 3), (6, .return_, 1)] : List (Nat × Instr × Nat))[i]? = some x) : decode c.code x.1 = .ok (x.2.1, x.2.2) := own_dec h (by decide +kernel) hi
theorem dt10 {c : Code} (h : c.code = cm10) (i : Nat) {x : Nat × Instr × Nat} (hi : ([(0, .aload_n 0, 1), (1, .invokespecial 1, 3), (4, .aload_n 1, 1), (5, .invokevirtual 552, 3), (8, .astore_n 3, 1), (9, .aload_n 1, 1), (10, .invokevirtual 549, 3), (13, .istore 4, 2), (15, .aload_n 1, 1), (16, .invokevirtual 1047, 3), (19, .ifCond .eq 22, 3), (22, .aload_n 0, 1), (23, .iconst 0, 1), (24, .putfield 15, 3), (27, .aload_n 0, 1), (28, .aload_n 3, 1), (29, .iconst 0, 1), (30, .iload 4, 2), (32, .invokestatic 54, 3), (35, .putfield 9, 3), (38, .goto 59, 3), (97, .return_, 1), (41, .getstatic 38, 3), (44, .ifCond .eq 35, 3), (47, .aload_n 1, 1), (48, .getfield 1048, 3), (51, .ifCond .eq 28, 3), (79, .aload_n 0, 1), (80, .iconst 1, 1), (81, .putfield 15, 3), (84, .aload_n 0, 1), (85, .aload_n 3, 1), (86, .iconst 0, 1), (87, .iload 4, 2), (89, .iconst 1, 1), (90, .ishl, 1), (91, .invokestatic 54, 3), (94, .putfield 9, 3)] : List (Nat × Instr × Nat))[i]? = some x) : decode c.code x.1 = .ok (x.2.1, x.2.2) := own_dec h (by decide +kernel) hi
theorem dt11 {c : Code} (h : c.code = cm11) (i : Nat) {x : Nat × Instr × Nat} (hi : ([(0, .aload_n 0, 1), (1, .getfield 15, 3), (4, .areturn, 1)] : List (Nat × Instr × Nat))[i]? = some x) : decode c.code x.1 = .ok (x.2.1, x.2.2) := own_dec h (by decide +kernel) hi
theorem dt12 {c : Code} (h : c.code = cm12) (i : Nat) {x : Nat × Instr × Nat} (hi : ([(0, .aload_n 0, 1), (1, .invokespecial 343, 3), (4, .ireturn, 1)] : List (Nat × Instr × Nat))[i]? = some x) : decode c.code x.1 = .ok (x.2.1, x.2.2) := own_dec h (by decide +kernel) hi
theorem dt13 {c : Code} (h : c.code = cm13) (i : Nat) {x : Nat × Instr × Nat} (hi : ([(0, .aload_n 0, 1), (1, .getfield 79, 3), (4, .ireturn, 1)] : List (Nat × Instr × Nat))[i]? = some x) : decode c.code x.1 = .ok (x.2.1, x.2.2) := own_dec h (by decide +kernel) hi
theorem dt14 {c : Code} (h : c.code = cm14) (i : Nat) {x : Nat × Instr × Nat} (hi : ([(0, .getstatic 18, 3), (3, .ifCond .eq 14, 3), (6, .aload_n 0, 1), (7, .getfield 22, 3), (10, .ifCond .ne 7, 3), (13, .iconst 1, 1), (14, .goto 4, 3), (18, .ireturn, 1), (17, .iconst 0, 1)] : List (Nat × Instr × Nat))[i]? = some x) : decode c.code x.1 = .ok (x.2.1, x.2.2) := own_dec h (by decide +kernel) hi
theorem dt15 {c : Code} (h : c.code = cm15) (i : Nat) {x : Nat × Instr × Nat} (hi : ([(0, .iload_n 1, 1), (1, .ifCond .ne 9, 3), (4, .iload_n 2, 1), (5, .aload_n 0, 1), (6, .arraylength, 1), (7, .if_icmp .eq 10, 3), (17, .aload_n 0, 1), (18, .invokevirtual 310, 3), (21, .checkcast 311, 3), (24, .areturn, 1), (10, .aload_n 0, 1), (11, .iload_n 1, 1), (12, .iload_n 2, 1), (13, .invokestatic 339, 3), (16, .areturn, 1)] : List (Nat × Instr × Nat))[i]? = some x) : decode c.code x.1 = .ok (x.2.1, x.2.2) := own_dec h (by decide +kernel) hi
theorem dt16 {c : Code} (h : c.code = cm16) (i : Nat) {x : Nat × Instr × Nat} (hi : ([(0, .aload_n 0, 1), (1, .aload_n 1, 1), (2, .iconst 0, 1), (3, .aload_n 1, 1), (4, .arraylength, 1), (5, .aconst_null, 1), (6, .invokespecial 27, 3), (9, .return_, 1)] : List (Nat × Instr × Nat))[i]? = some x) : decode c.code x.1 = .ok (x.2.1, x.2.2) := own_dec h (by decide +kernel) hi
theorem dt17 {c : Code} (h : c.code = cm17) (i : Nat) {x : Nat × Instr × Nat} (hi : ([(0, .aload_n 0, 1), (1, .invokespecial 1, 3), (4, .iload_n 3, 1), (5, .ifCond .ne 22, 3), (27, .getstatic 38, 3), (30, .ifCond .eq 28, 3), (33, .aload_n 1, 1), (34, .iload_n 2, 1), (35, .iload_n 3, 1), (36, .invokestatic 177, 3), (39, .astore 5, 2), (41, .aload_n 0, 1), (42, .aload 5, 2), (44, .iload_n 3, 1), (45, .invokestatic 47, 3), (48, .putfield 15, 3), (51, .aload_n 0, 1), (52, .aload 5, 2), (54, .putfield 9, 3), (57, .return_, 1)] : List (Nat × Instr × Nat))[i]? = some x) : decode c.code x.1 = .ok (x.2.1, x.2.2) := own_dec h (by decide +kernel) hi
theorem dt18 {c : Code} (h : c.code = cm18) (i : Nat) {x : Nat × Instr × Nat} (hi : ([(0, .iload_n 2, 1), (1, .newarray .byte, 2), (3, .astore_n 3, 1), (4, .aload_n 0, 1), (5, .iload_n 1, 1), (6, .aload_n 3, 1), (7, .iconst 0, 1), (8, .iload_n 2, 1), (9, .invokestatic 115, 3), (12, .istore 4, 2), (14, .iload 4, 2), (16, .iload_n 2, 1), (17, .if_icmp .eq 40, 3), (57, .aload_n 3, 1), (58, .areturn, 1), (20, .aload_n 0, 1), (21, .iload_n 1, 1), (22, .iload_n 2, 1), (23, .invokestatic 119, 3), (26, .astore 5, 2), (28, .aload 5, 2), (30, .iload 4, 2), (32, .invokestatic 71, 3), (35, .sipush 255, 3), (38, .if_icmp .gt 16, 3), (54, .aload 5, 2), (56, .areturn, 1)] : List (Nat × Instr × Nat))[i]? = some x) : decode c.code x.1 = .ok (x.2.1, x.2.2) := own_dec h (by decide +kernel) hi
theorem dt19 {c : Code} (h : c.code = cm19) (i : Nat) {x : Nat × Instr × Nat} (hi : ([(0, .iconst 0, 1), (1, .istore 5, 2), (3, .iload 5, 2), (5, .iload 4, 2), (7, .if_icmp .ge 37, 3), (10, .aload_n 0, 1), (11, .iload_n 1, 1), (12, .caload, 1), (13, .istore 6, 2), (15, .iload 6, 2), (17, .sipush 255, 3), (20, .if_icmp .le 6, 3), (23, .iload 5, 2), (25, .ireturn, 1), (26, .aload_n 2, 1), (27, .iload_n 3, 1), (28, .iload 6, 2), (30, .i2b, 1), (31, .bastore, 1), (32, .iinc 1 1, 3), (35, .iinc 3 1, 3), (38, .iinc 5 1, 3), (41, .goto (-38), 3), (44, .iload 4, 2), (46, .ireturn, 1)] : List (Nat × Instr × Nat))[i]? = some x) : decode c.code x.1 = .ok (x.2.1, x.2.2) := own_dec h (by decide +kernel) hi
theorem dt20 {c : Code} (h : c.code = cm20) (i : Nat) {x : Nat × Instr × Nat} (hi : ([(0, .iload_n 1, 1), (1, .aload_n 0, 1), (2, .arraylength, 1), (3, .isub, 1), (4, .bipush 31, 2), (6, .iushr, 1), (7, .i2b, 1), (8, .ireturn, 1)] : List (Nat × Instr × Nat))[i]? = some x) : decode c.code x.1 = .ok (x.2.1, x.2.2) := own_dec h (by decide +kernel) hi
theorem dt21 {c : Code} (h : c.code = cm21) (i : Nat) {x : Nat × Instr × Nat} (hi : ([(0, .aload_n 0, 1), (1, .invokevirtual 492, 3), (4, .ifCond .eq 12, 3), (7, .aload_n 0, 1), (8, .getfield 9, 3), (11, .iload_n 1, 1), (12, .invokestatic 495, 3), (15, .ireturn, 1), (16, .aload_n 0, 1), (17, .getfield 9, 3), (20, .iload_n 1, 1), (21, .invokestatic 498, 3), (24, .ireturn, 1)] : List (Nat × Instr × Nat))[i]? = some x) : decode c.code x.1 = .ok (x.2.1, x.2.2) := own_dec h (by decide +kernel) hi
theorem dt22 {c : Code} (h : c.code = cm22) (i : Nat) {x : Nat × Instr × Nat} (hi : ([(0, .getstatic 38, 3), (3, .ifCond .eq 14, 3), (6, .aload_n 0, 1), (7, .getfield 15, 3), (10, .ifCond .ne 7, 3), (13, .iconst 1, 1), (14, .goto 4, 3), (18, .ireturn, 1), (17, .iconst 0, 1)] : List (Nat × Instr × Nat))[i]? = some x) : decode c.code x.1 = .ok (x.2.1, x.2.2) := own_dec h (by decide +kernel) hi
theorem dt23 {c : Code} (h : c.code = cm23) (i : Nat) {x : Nat × Instr × Nat} (hi : ([(0, .iload_n 1, 1), (1, .aload_n 0, 1), (2, .arraylength, 1), (3, .invokestatic 9, 3), (6, .aload_n 0, 1), (7, .iload_n 1, 1), (8, .baload, 1), (9, .sipush 255, 3), (12, .iand, 1), (13, .i2c, 1), (14, .ireturn, 1)] : List (Nat × Instr × Nat))[i]? = some x) : decode c.code x.1 = .ok (x.2.1, x.2.2) := own_dec h (by decide +kernel) hi
theorem dt24 {c : Code} (h : c.code = cm24) (i : Nat) {x : Nat × Instr × Nat} (hi : ([(0, .iload_n 0, 1), (1, .iload_n 1, 1), (2, .getstatic 1053, 3), (5, .invokestatic 1059, 3), (8, .pop, 1), (9, .return_, 1)] : List (Nat × Instr × Nat))[i]? = some x) : decode c.code x.1 = .ok (x.2.1, x.2.2) := own_dec h (by decide +kernel) hi
theorem dt25 {c : Code} (h : c.code = cm25) (i : Nat) {x : Nat × Instr × Nat} (hi : ([(0, .iload_n 0, 1), (1, .ifCond .lt 8, 3), (4, .iload_n 0, 1), (5, .iload_n 1, 1), (6, .if_icmp .lt 10, 3), (16, .iload_n 0, 1), (17, .ireturn, 1)] : List (Nat × Instr × Nat))[i]? = some x) : decode c.code x.1 = .ok (x.2.1, x.2.2) := own_dec h (by decide +kernel) hi
theorem dt26 {c : Code} (h : c.code = cm26) (i : Nat) {x : Nat × Instr × Nat} (hi : ([(0, .iload_n 0, 1), (1, .invokestatic 266, 3), (4, .ireturn, 1)] : List (Nat × Instr × Nat))[i]? = some x) : decode c.code x.1 = .ok (x.2.1, x.2.2) := own_dec h (by decide +kernel) hi
theorem dt27 {c : Code} (h : c.code = cm27) (i : Nat) {x : Nat × Instr × Nat} (hi : ([(0, .iload_n 0, 1), (1, .sipush 159, 3), (4, .if_icmp .gt 19, 3), (23, .iconst 0, 1), (24, .ireturn, 1), (7, .iload_n 0, 1), (8, .bipush 127, 2), (10, .if_icmp .ge 9, 3), (13, .iload_n 0, 1), (14, .iconst 5, 1), (15, .iushr, 1), (16, .ifCond .ne 7, 3), (19, .iconst 1, 1), (20, .goto 4, 3)] : List (Nat × Instr × Nat))[i]? = some x) : decode c.code x.1 = .ok (x.2.1, x.2.2) := own_dec h (by decide +kernel) hi
theorem dt28 {c : Code} (h : c.code = cm28) (i : Nat) {x : Nat × Instr × Nat} (hi : ([(0, .aload_n 0, 1), (1, .iload_n 1, 1), (2, .invokespecial 50, 3), (5, .pop, 1), (6, .aload_n 0, 1), (7, .areturn, 1)] : List (Nat × Instr × Nat))[i]? = some x) : decode c.code x.1 = .ok (x.2.1, x.2.2) := own_dec h (by decide +kernel) hi
theorem dt29 {c : Code} (h : c.code = cm29) (i : Nat) {x : Nat × Instr × Nat} (hi : ([(0, .aload_n 0, 1), (1, .aload_n 0, 1), (2, .getfield 79, 3), (5, .iconst 1, 1), (6, .iadd, 1), (7, .invokevirtual 100, 3), (10, .aload_n 0, 1), (11, .invokevirtual 83, 3), (14, .ifCond .eq 31, 3), (17, .iload_n 1, 1), (18, .invokestatic 191, 3), (21, .ifCond .eq 24, 3), (24, .aload_n 0, 1), (25, .getfield 15, 3), (28, .aload_n 0, 1), (29, .dup, 1), (30, .getfield 79, 3), (33, .dup_x1, 1), (34, .iconst 1, 1), (35, .iadd, 1), (36, .putfield 79, 3), (39, .iload_n 1, 1), (40, .i2b, 1), (41, .bastore, 1), (42, .goto 33, 3), (75, .aload_n 0, 1), (76, .areturn, 1), (45, .aload_n 0, 1), (46, .invokevirtual 83, 3), (49, .ifCond .eq 7, 3), (52, .aload_n 0, 1), (53, .invokevirtual 195, 3), (56, .aload_n 0, 1), (57, .getfield 15, 3), (60, .aload_n 0, 1), (61, .dup, 1), (62, .getfield 79, 3), (65, .dup_x1, 1), (66, .iconst 1, 1), (67, .iadd, 1), (68, .putfield 79, 3), (71, .iload_n 1, 1), (72, .invokestatic 197, 3)] : List (Nat × Instr × Nat))[i]? = some x) : decode c.code x.1 = .ok (x.2.1, x.2.2) := own_dec h (by decide +kernel) hi
theorem dt30 {c : Code} (h : c.code = cm30) (i : Nat) {x : Nat × Instr × Nat} (hi : ([(0, .aload_n 0, 1), (1, .getfield 15, 3), (4, .arraylength, 1), (5, .aload_n 0, 1), (6, .getfield 22, 3), (9, .ishr, 1), (10, .istore_n 2, 1), (11, .iload_n 1, 1), (12, .iload_n 2, 1), (13, .isub, 1), (14, .ifCond .le 24, 3), (17, .aload_n 0, 1), (18, .aload_n 0, 1), (19, .getfield 15, 3), (22, .aload_n 0, 1), (23, .iload_n 1, 1), (24, .invokevirtual 104, 3), (27, .aload_n 0, 1), (28, .getfield 22, 3), (31, .ishl, 1), (32, .invokestatic 108, 3), (35, .putfield 15, 3), (38, .return_, 1)] : List (Nat × Instr × Nat))[i]? = some x) : decode c.code x.1 = .ok (x.2.1, x.2.2) := own_dec h (by decide +kernel) hi
theorem dt31 {c : Code} (h : c.code = cm31) (i : Nat) {x : Nat × Instr × Nat} (hi : ([(0, .iload_n 0, 1), (1, .sipush 255, 3), (4, .if_icmp .gt 7, 3), (11, .iconst 0, 1), (12, .ireturn, 1), (7, .iconst 1, 1), (8, .goto 4, 3)] : List (Nat × Instr × Nat))[i]? = some x) : decode c.code x.1 = .ok (x.2.1, x.2.2) := own_dec h (by decide +kernel) hi
theorem dt32 {c : Code} (h : c.code = cm32) (i : Nat) {x : Nat × Instr × Nat} (hi : ([(0, .iload_n 1, 1), (1, .ifCond .ge 5, 3), (6, .aload_n 0, 1), (7, .invokevirtual 34, 3), (10, .istore_n 3, 1), (11, .iload_n 2, 1), (12, .invokestatic 38, 3), (15, .ifCond .eq 132, 3), (18, .iload_n 1, 1), (19, .bipush 6, 2), (21, .iadd, 1), (22, .iload_n 3, 1), (23, .if_icmp .le 5, 3), (28, .aload_n 0, 1), (29, .iload_n 1, 1), (30, .invokevirtual 42, 3), (33, .bipush 92, 2), (35, .if_icmp .ne 95, 3), (38, .aload_n 0, 1), (39, .iload_n 1, 1), (40, .iconst 1, 1), (41, .iadd, 1), (42, .invokevirtual 42, 3), (45, .bipush 117, 2), (47, .if_icmp .ne 83, 3), (50, .aload_n 0, 1), (51, .iload_n 1, 1), (52, .iconst 2, 1), (53, .iadd, 1), (54, .invokevirtual 42, 3), (57, .iload_n 2, 1), (58, .bipush 12, 2), (60, .ishr, 1), (61, .bipush 15, 2), (63, .iand, 1), (64, .invokestatic 45, 3), (67, .if_icmp .ne 63, 3), (70, .aload_n 0, 1), (71, .iload_n 1, 1), (72, .iconst 3, 1), (73, .iadd, 1), (74, .invokevirtual 42, 3), (77, .iload_n 2, 1), (78, .bipush 8, 2), (80, .ishr, 1), (81, .bipush 15, 2), (83, .iand, 1), (84, .invokestatic 45, 3), (87, .if_icmp .ne 43, 3), (90, .aload_n 0, 1), (91, .iload_n 1, 1), (92, .iconst 4, 1), (93, .iadd, 1), (94, .invokevirtual 42, 3), (97, .iload_n 2, 1), (98, .iconst 4, 1), (99, .ishr, 1), (100, .bipush 15, 2), (102, .iand, 1), (103, .invokestatic 45, 3), (106, .if_icmp .ne 24, 3), (109, .aload_n 0, 1), (110, .iload_n 1, 1), (111, .iconst 5, 1), (112, .iadd, 1), (113, .invokevirtual 42, 3), (116, .iload_n 2, 1), (117, .bipush 15, 2), (119, .iand, 1), (120, .invokestatic 45, 3), (123, .if_icmp .ne 7, 3), (126, .iconst 1, 1), (127, .goto 4, 3), (131, .istore 4, 2), (133, .iload 4, 2), (135, .ifCond .eq 10, 3), (138, .iload_n 1, 1), (139, .bipush 6, 2), (141, .iadd, 1), (142, .goto 4, 3), (146, .ireturn, 1), (147, .iload_n 1, 1), (148, .iload_n 3, 1), (149, .if_icmp .lt 5, 3), (154, .aload_n 0, 1), (155, .iload_n 1, 1), (156, .invokevirtual 42, 3), (159, .iload_n 2, 1), (160, .if_icmp .ne 9, 3), (163, .iload_n 1, 1), (164, .iconst 1, 1), (165, .iadd, 1), (166, .goto 4, 3), (170, .ireturn, 1)] : List (Nat × Instr × Nat))[i]? = some x) : decode c.code x.1 = .ok (x.2.1, x.2.2) := own_dec h (by decide +kernel) hi
theorem dt33 {c : Code} (h : c.code = cm33) (i : Nat) {x : Nat × Instr × Nat} (hi : ([(0, .iload_n 0, 1), (1, .bipush 32, 2), (3, .if_icmp .lt 30, 3), (33, .iconst 1, 1), (34, .goto 4, 3), (38, .ireturn, 1), (6, .iload_n 0, 1), (7, .bipush 127, 2), (9, .if_icmp .lt 10, 3), (19, .iload_n 0, 1), (20, .sipush 8232, 3), (23, .if_icmp .eq 10, 3), (26, .iload_n 0, 1), (27, .sipush 8233, 3), (30, .if_icmp .ne 7, 3), (37, .iconst 0, 1), (12, .iload_n 0, 1), (13, .sipush 159, 3), (16, .if_icmp .le 17, 3)] : List (Nat × Instr × Nat))[i]? = some x) : decode c.code x.1 = .ok (x.2.1, x.2.2) := own_dec h (by decide +kernel) hi
theorem dt34 {c : Code} (h : c.code = cm34) (i : Nat) {x : Nat × Instr × Nat} (hi : ([(0, .iload_n 2, 1), (1, .invokestatic 107, 3), (4, .astore_n 3, 1), (5, .iconst 0, 1), (6, .istore 4, 2), (8, .iload 4, 2), (10, .iload_n 2, 1), (11, .if_icmp .ge 21, 3), (14, .aload_n 3, 1), (15, .iload 4, 2), (17, .aload_n 0, 1), (18, .iload_n 1, 1), (19, .caload, 1), (20, .invokestatic 111, 3), (23, .iinc 1 1, 3), (26, .iinc 4 1, 3), (29, .goto (-21), 3), (32, .aload_n 3, 1), (33, .areturn, 1)] : List (Nat × Instr × Nat))[i]? = some x) : decode c.code x.1 = .ok (x.2.1, x.2.2) := own_dec h (by decide +kernel) hi
theorem dt35 {c : Code} (h : c.code = cm35) (i : Nat) {x : Nat × Instr × Nat} (hi : ([(0, .iload_n 0, 1), (1, .invokestatic 11, 3), (4, .newarray .byte, 2), (6, .areturn, 1)] : List (Nat × Instr × Nat))[i]? = some x) : decode c.code x.1 = .ok (x.2.1, x.2.2) := own_dec h (by decide +kernel) hi
theorem dt36 {c : Code} (h : c.code = cm36) (i : Nat) {x : Nat × Instr × Nat} (hi : ([(0, .iload_n 0, 1), (1, .ifCond .ge 11, 3), (12, .iload_n 0, 1), (13, .ldc 20, 2), (15, .if_icmp .lt 40, 3), (55, .iload_n 0, 1), (56, .iconst 1, 1), (57, .ishl, 1), (58, .ireturn, 1)] : List (Nat × Instr × Nat))[i]? = some x) : decode c.code x.1 = .ok (x.2.1, x.2.2) := own_dec h (by decide +kernel) hi
theorem dt37 {c : Code} (h : c.code = cm37) (i : Nat) {x : Nat × Instr × Nat} (hi : ([(0, .getstatic 44, 3), (3, .ifCond .ne 25, 3), (28, .iload_n 1, 1), (29, .iconst 1, 1), (30, .ishl, 1), (31, .istore_n 1, 1), (32, .aload_n 0, 1), (33, .iload_n 1, 1), (34, .iinc 1 1, 3), (37, .iload_n 2, 1), (38, .getstatic 59, 3), (41, .ishr, 1), (42, .i2b, 1), (43, .bastore, 1), (44, .aload_n 0, 1), (45, .iload_n 1, 1), (46, .iload_n 2, 1), (47, .getstatic 63, 3), (50, .ishr, 1), (51, .i2b, 1), (52, .bastore, 1), (53, .return_, 1)] : List (Nat × Instr × Nat))[i]? = some x) : decode c.code x.1 = .ok (x.2.1, x.2.2) := own_dec h (by decide +kernel) hi
theorem dt38 {c : Code} (h : c.code = cm38) (i : Nat) {x : Nat × Instr × Nat} (hi : ([(0, .getstatic 44, 3), (3, .ifCond .ne 25, 3), (28, .iload_n 1, 1), (29, .iconst 1, 1), (30, .ishl, 1), (31, .istore_n 1, 1), (32, .aload_n 0, 1), (33, .iload_n 1, 1), (34, .iinc 1 1, 3), (37, .baload, 1), (38, .sipush 255, 3), (41, .iand, 1), (42, .getstatic 59, 3), (45, .ishl, 1), (46, .aload_n 0, 1), (47, .iload_n 1, 1), (48, .baload, 1), (49, .sipush 255, 3), (52, .iand, 1), (53, .getstatic 63, 3), (56, .ishl, 1), (57, .ior, 1), (58, .i2c, 1), (59, .ireturn, 1)] : List (Nat × Instr × Nat))[i]? = some x) : decode c.code x.1 = .ok (x.2.1, x.2.2) := own_dec h (by decide +kernel) hi
theorem dt39 {c : Code} (h : c.code = cm39) (i : Nat) {x : Nat × Instr × Nat} (hi : ([(0, .iload_n 1, 1), (1, .aload_n 0, 1), (2, .invokestatic 67, 3), (5, .aload_n 0, 1), (6, .iload_n 1, 1), (7, .invokestatic 71, 3), (10, .ireturn, 1)] : List (Nat × Instr × Nat))[i]? = some x) : decode c.code x.1 = .ok (x.2.1, x.2.2) := own_dec h (by decide +kernel) hi
theorem dt40 {c : Code} (h : c.code = cm40) (i : Nat) {x : Nat × Instr × Nat} (hi : ([(0, .iload_n 0, 1), (1, .aload_n 1, 1), (2, .invokestatic 48, 3), (5, .invokestatic 414, 3), (8, .return_, 1)] : List (Nat × Instr × Nat))[i]? = some x) : decode c.code x.1 = .ok (x.2.1, x.2.2) := own_dec h (by decide +kernel) hi
theorem dt41 {c : Code} (h : c.code = cm41) (i : Nat) {x : Nat × Instr × Nat} (hi : ([(0, .aload_n 0, 1), (1, .arraylength, 1), (2, .iconst 1, 1), (3, .ishr, 1), (4, .ireturn, 1)] : List (Nat × Instr × Nat))[i]? = some x) : decode c.code x.1 = .ok (x.2.1, x.2.2) := own_dec h (by decide +kernel) hi
theorem dt42 {c : Code} (h : c.code = cm42) (i : Nat) {x : Nat × Instr × Nat} (hi : ([(0, .aload_n 0, 1), (1, .invokevirtual 83, 3), (4, .ifCond .ne 4, 3), (8, .aload_n 0, 1), (9, .getfield 15, 3), (12, .arraylength, 1), (13, .invokestatic 26, 3), (16, .astore_n 1, 1), (17, .aload_n 0, 1), (18, .getfield 15, 3), (21, .iconst 0, 1), (22, .aload_n 1, 1), (23, .iconst 0, 1), (24, .aload_n 0, 1), (25, .getfield 79, 3), (28, .invokestatic 125, 3), (31, .aload_n 0, 1), (32, .aload_n 1, 1), (33, .putfield 15, 3), (36, .aload_n 0, 1), (37, .iconst 1, 1), (38, .putfield 22, 3), (41, .return_, 1), (7, .return_, 1)] : List (Nat × Instr × Nat))[i]? = some x) : decode c.code x.1 = .ok (x.2.1, x.2.2) := own_dec h (by decide +kernel) hi
theorem dt43 {c : Code} (h : c.code = cm43) (i : Nat) {x : Nat × Instr × Nat} (hi : ([(0, .aload_n 0, 1), (1, .iload_n 1, 1), (2, .aload_n 2, 1), (3, .iload_n 3, 1), (4, .iload 4, 2), (6, .invokestatic 240, 3), (9, .return_, 1)] : List (Nat × Instr × Nat))[i]? = some x) : decode c.code x.1 = .ok (x.2.1, x.2.2) := own_dec h (by decide +kernel) hi
theorem dt44 {c : Code} (h : c.code = cm44) (i : Nat) {x : Nat × Instr × Nat} (hi : ([(0, .iload_n 3, 1), (1, .iload 4, 2), (3, .aload_n 2, 1), (4, .invokestatic 173, 3), (7, .iconst 0, 1), (8, .istore 5, 2), (10, .iload 5, 2), (12, .iload 4, 2), (14, .if_icmp .ge 27, 3), (17, .aload_n 2, 1), (18, .iload_n 3, 1), (19, .iinc 3 1, 3), (22, .aload_n 0, 1), (23, .iload_n 1, 1), (24, .iinc 1 1, 3), (27, .baload, 1), (28, .sipush 255, 3), (31, .iand, 1), (32, .invokestatic 111, 3), (35, .iinc 5 1, 3), (38, .goto (-28), 3), (41, .return_, 1)] : List (Nat × Instr × Nat))[i]? = some x) : decode c.code x.1 = .ok (x.2.1, x.2.2) := own_dec h (by decide +kernel) hi
theorem dt45 {c : Code} (h : c.code = cm45) (i : Nat) {x : Nat × Instr × Nat} (hi : ([(0, .iload_n 0, 1), (1, .iload_n 1, 1), (2, .aload_n 2, 1), (3, .invokestatic 48, 3), (6, .invokestatic 419, 3), (9, .pop, 1), (10, .return_, 1)] : List (Nat × Instr × Nat))[i]? = some x) : decode c.code x.1 = .ok (x.2.1, x.2.2) := own_dec h (by decide +kernel) hi
theorem dt46 {c : Code} (h : c.code = cm46) (i : Nat) {x : Nat × Instr × Nat} (hi : ([(0, .iload_n 0, 1), (1, .iload_n 1, 1), (2, .iload_n 2, 1), (3, .getstatic 1053, 3), (6, .invokestatic 1065, 3), (9, .ireturn, 1)] : List (Nat × Instr × Nat))[i]? = some x) : decode c.code x.1 = .ok (x.2.1, x.2.2) := own_dec h (by decide +kernel) hi
theorem dt47 {c : Code} (h : c.code = cm47) (i : Nat) {x : Nat × Instr × Nat} (hi : ([(0, .iload_n 2, 1), (1, .iload_n 0, 1), (2, .ior, 1), (3, .iload_n 1, 1), (4, .ior, 1), (5, .ifCond .lt 10, 3), (8, .iload_n 1, 1), (9, .iload_n 2, 1), (10, .iload_n 0, 1), (11, .isub, 1), (12, .if_icmp .le 11, 3), (23, .iload_n 0, 1), (24, .ireturn, 1)] : List (Nat × Instr × Nat))[i]? = some x) : decode c.code x.1 = .ok (x.2.1, x.2.2) := own_dec h (by decide +kernel) hi
theorem dt48 {c : Code} (h : c.code = cm48) (i : Nat) {x : Nat × Instr × Nat} (hi : ([(0, .iload_n 1, 1), (1, .aload_n 0, 1), (2, .invokestatic 67, 3), (5, .aload_n 0, 1), (6, .iload_n 1, 1), (7, .iload_n 2, 1), (8, .invokestatic 111, 3), (11, .return_, 1)] : List (Nat × Instr × Nat))[i]? = some x) : decode c.code x.1 = .ok (x.2.1, x.2.2) := own_dec h (by decide +kernel) hi
theorem dt49 {c : Code} (h : c.code = cm49) (i : Nat) {x : Nat × Instr × Nat} (hi : ([(0, .getstatic 38, 3), (3, .ifCond .eq 23, 3), (6, .iload_n 0, 1), (7, .invokestatic 1015, 3), (10, .ifCond .eq 16, 3), (13, .new 10, 3), (16, .dup, 1), (17, .iload_n 0, 1), (18, .invokestatic 1018, 3), (21, .iconst 0, 1), (22, .invokespecial 209, 3), (25, .areturn, 1), (26, .new 10, 3), (29, .dup, 1), (30, .iload_n 0, 1), (31, .invokestatic 1021, 3), (34, .iconst 1, 1), (35, .invokespecial 209, 3), (38, .areturn, 1)] : List (Nat × Instr × Nat))[i]? = some x) : decode c.code x.1 = .ok (x.2.1, x.2.2) := own_dec h (by decide +kernel) hi
theorem dt50 {c : Code} (h : c.code = cm50) (i : Nat) {x : Nat × Instr × Nat} (hi : ([(0, .iconst 1, 1), (1, .newarray .byte, 2), (3, .dup, 1), (4, .iconst 0, 1), (5, .iload_n 0, 1), (6, .i2b, 1), (7, .bastore, 1), (8, .areturn, 1)] : List (Nat × Instr × Nat))[i]? = some x) : decode c.code x.1 = .ok (x.2.1, x.2.2) := own_dec h (by decide +kernel) hi
theorem dt51 {c : Code} (h : c.code = cm51) (i : Nat) {x : Nat × Instr × Nat} (hi : ([(0, .aload_n 0, 1), (1, .invokespecial 1, 3), (4, .aload_n 0, 1), (5, .aload_n 1, 1), (6, .putfield 9, 3), (9, .aload_n 0, 1), (10, .iload_n 2, 1), (11, .putfield 15, 3), (14, .return_, 1)] : List (Nat × Instr × Nat))[i]? = some x) : decode c.code x.1 = .ok (x.2.1, x.2.2) := own_dec h (by decide +kernel) hi
theorem dt52 {c : Code} (h : c.code = cm52) (i : Nat) {x : Nat × Instr × Nat} (hi : ([(0, .iload_n 0, 1), (1, .iconst 4, 1), (2, .invokestatic 48, 3), (5, .areturn, 1)] : List (Nat × Instr × Nat))[i]? = some x) : decode c.code x.1 = .ok (x.2.1, x.2.2) := own_dec h (by decide +kernel) hi
theorem dt53 {c : Code} (h : c.code = cm53) (i : Nat) {x : Nat × Instr × Nat} (hi : ([(0, .bipush 32, 2), (2, .iload_n 0, 1), (3, .invokestatic 51, 3), (6, .isub, 1), (7, .istore_n 2, 1), (8, .iload_n 2, 1), (9, .iload_n 1, 1), (10, .iconst 1, 1), (11, .isub, 1), (12, .iadd, 1), (13, .iload_n 1, 1), (14, .idiv, 1), (15, .iconst 1, 1), (16, .invokestatic 55, 3), (19, .istore_n 3, 1), (20, .getstatic 13, 3), (23, .ifCond .eq 27, 3), (26, .iload_n 3, 1), (27, .newarray .byte, 2), (29, .astore 4, 2), (31, .iload_n 0, 1), (32, .iload_n 1, 1), (33, .aload 4, 2), (35, .iload_n 3, 1), (36, .invokestatic 61, 3), (39, .new 5, 3), (42, .dup, 1), (43, .aload 4, 2), (45, .iconst 0, 1), (46, .invokespecial 65, 3), (49, .areturn, 1)] : List (Nat × Instr × Nat))[i]? = some x) : decode c.code x.1 = .ok (x.2.1, x.2.2) := own_dec h (by decide +kernel) hi
theorem dt54 {c : Code} (h : c.code = cm54) (i : Nat) {x : Nat × Instr × Nat} (hi : ([(0, .iload_n 0, 1), (1, .ifCond .gt 14, 3), (4, .iload_n 0, 1), (5, .ifCond .ne 8, 3), (8, .bipush 32, 2), (10, .goto 4, 3), (14, .ireturn, 1), (15, .bipush 31, 2), (17, .istore_n 1, 1), (18, .iload_n 0, 1), (19, .ldc_w 264, 3), (22, .if_icmp .lt 11, 3), (33, .iload_n 0, 1), (34, .sipush 256, 3), (37, .if_icmp .lt 11, 3), (48, .iload_n 0, 1), (49, .bipush 16, 2), (51, .if_icmp .lt 10, 3), (61, .iload_n 0, 1), (62, .iconst 4, 1), (63, .if_icmp .lt 10, 3), (73, .iload_n 1, 1), (74, .iload_n 0, 1), (75, .iconst 1, 1), (76, .iushr, 1), (77, .isub, 1), (78, .ireturn, 1), (66, .iinc 1 (-2), 3), (69, .iload_n 0, 1), (70, .iconst 2, 1), (71, .iushr, 1), (72, .istore_n 0, 1), (54, .iinc 1 (-4), 3), (57, .iload_n 0, 1), (58, .iconst 4, 1), (59, .iushr, 1), (60, .istore_n 0, 1), (40, .iinc 1 (-8), 3), (43, .iload_n 0, 1), (44, .bipush 8, 2), (46, .iushr, 1), (47, .istore_n 0, 1)] : List (Nat × Instr × Nat))[i]? = some x) : decode c.code x.1 = .ok (x.2.1, x.2.2) := own_dec h (by decide +kernel) hi
theorem dt55 {c : Code} (h : c.code = cm55) (i : Nat) {x : Nat × Instr × Nat} (hi : ([(0, .iload_n 0, 1), (1, .iload_n 1, 1), (2, .if_icmp .lt 7, 3), (9, .iload_n 1, 1), (10, .ireturn, 1), (5, .iload_n 0, 1), (6, .goto 4, 3)] : List (Nat × Instr × Nat))[i]? = some x) : decode c.code x.1 = .ok (x.2.1, x.2.2) := own_dec h (by decide +kernel) hi
theorem dt56 {c : Code} (h : c.code = cm56) (i : Nat) {x : Nat × Instr × Nat} (hi : ([(0, .iload_n 3, 1), (1, .istore 4, 2), (3, .iconst 1, 1), (4, .iload_n 1, 1), (5, .ishl, 1), (6, .istore 5, 2), (8, .iload 5, 2), (10, .iconst 1, 1), (11, .isub, 1), (12, .istore 6, 2), (14, .aload_n 2, 1), (15, .iinc 4 (-1), 3), (18, .iload 4, 2), (20, .getstatic 17, 3), (23, .iload_n 0, 1), (24, .iload 6, 2), (26, .iand, 1), (27, .caload, 1), (28, .i2b, 1), (29, .bastore, 1), (30, .iload_n 0, 1), (31, .iload_n 1, 1), (32, .iushr, 1), (33, .istore_n 0, 1), (34, .iload 4, 2), (36, .ifCond .gt (-22), 3), (39, .return_, 1)] : List (Nat × Instr × Nat))[i]? = some x) : decode c.code x.1 = .ok (x.2.1, x.2.2) := own_dec h (by decide +kernel) hi
theorem dt57 {c : Code} (h : c.code = cm57) (i : Nat) {x : Nat × Instr × Nat} (hi : ([(0, .aload_n 0, 1), (1, .aload_n 1, 1), (2, .invokespecial 29, 3), (5, .pop, 1), (6, .aload_n 0, 1), (7, .areturn, 1)] : List (Nat × Instr × Nat))[i]? = some x) : decode c.code x.1 = .ok (x.2.1, x.2.2) := own_dec h (by decide +kernel) hi
theorem dt58 {c : Code} (h : c.code = cm58) (i : Nat) {x : Nat × Instr × Nat} (hi : ([(0, .aload_n 1, 1), (1, .ifnonnull 8, 3), (9, .aload_n 1, 1), (10, .invokevirtual 32, 3), (13, .istore_n 2, 1), (14, .aload_n 0, 1), (15, .aload_n 0, 1), (16, .getfield 79, 3), (19, .iload_n 2, 1), (20, .iadd, 1), (21, .invokevirtual 100, 3), (24, .aload_n 0, 1), (25, .aload_n 0, 1), (26, .getfield 79, 3), (29, .aload_n 1, 1), (30, .invokevirtual 208, 3), (33, .aload_n 0, 1), (34, .dup, 1), (35, .getfield 79, 3), (38, .iload_n 2, 1), (39, .iadd, 1), (40, .putfield 79, 3), (43, .aload_n 0, 1), (44, .areturn, 1)] : List (Nat × Instr × Nat))[i]? = some x) : decode c.code x.1 = .ok (x.2.1, x.2.2) := own_dec h (by decide +kernel) hi
theorem dt59 {c : Code} (h : c.code = cm59) (i : Nat) {x : Nat × Instr × Nat} (hi : ([(0, .aload_n 0, 1), (1, .getfield 15, 3), (4, .arraylength, 1), (5, .istore_n 2, 1), (6, .iload_n 1, 1), (7, .aload_n 0, 1), (8, .getfield 22, 3), (11, .ishl, 1), (12, .istore_n 3, 1), (13, .iload_n 3, 1), (14, .iload_n 2, 1), (15, .isub, 1), (16, .istore 4, 2), (18, .iload_n 2, 1), (19, .iload 4, 2), (21, .iload_n 2, 1), (22, .iconst 2, 1), (23, .aload_n 0, 1), (24, .getfield 22, 3), (27, .ishl, 1), (28, .iadd, 1), (29, .invokestatic 114, 3), (32, .istore 5, 2), (34, .iload 5, 2), (36, .ldc 39, 2), (38, .if_icmp .ne 13, 3), (51, .iload 5, 2), (53, .aload_n 0, 1), (54, .getfield 22, 3), (57, .ishr, 1), (58, .ireturn, 1)] : List (Nat × Instr × Nat))[i]? = some x) : decode c.code x.1 = .ok (x.2.1, x.2.2) := own_dec h (by decide +kernel) hi
theorem dt60 {c : Code} (h : c.code = cm60) (i : Nat) {x : Nat × Instr × Nat} (hi : ([(0, .iload_n 0, 1), (1, .iload_n 1, 1), (2, .iload_n 2, 1), (3, .invokestatic 194, 3), (6, .iadd, 1), (7, .istore_n 3, 1), (8, .iconst 0, 1), (9, .iload_n 3, 1), (10, .if_icmp .ge 11, 3), (13, .iload_n 3, 1), (14, .ldc 200, 2), (16, .if_icmp .gt 5, 3), (19, .iload_n 3, 1), (20, .ireturn, 1)] : List (Nat × Instr × Nat))[i]? = some x) : decode c.code x.1 = .ok (x.2.1, x.2.2) := own_dec h (by decide +kernel) hi
theorem dt61 {c : Code} (h : c.code = cm61) (i : Nat) {x : Nat × Instr × Nat} (hi : ([(0, .iload_n 1, 1), (1, .aload_n 0, 1), (2, .arraylength, 1), (3, .if_icmp .ne 11, 3), (14, .iload_n 1, 1), (15, .newarray .byte, 2), (17, .astore_n 2, 1), (18, .aload_n 0, 1), (19, .iconst 0, 1), (20, .aload_n 2, 1), (21, .iconst 0, 1), (22, .aload_n 0, 1), (23, .arraylength, 1), (24, .iload_n 1, 1), (25, .invokestatic 304, 3), (28, .invokestatic 150, 3), (31, .aload_n 2, 1), (32, .areturn, 1)] : List (Nat × Instr × Nat))[i]? = some x) : decode c.code x.1 = .ok (x.2.1, x.2.2) := own_dec h (by decide +kernel) hi
theorem dt62 {c : Code} (h : c.code = cm62) (i : Nat) {x : Nat × Instr × Nat} (hi : ([(0, .iload_n 0, 1), (1, .iload_n 1, 1), (2, .if_icmp .gt 7, 3), (9, .iload_n 1, 1), (10, .ireturn, 1), (5, .iload_n 0, 1), (6, .goto 4, 3)] : List (Nat × Instr × Nat))[i]? = some x) : decode c.code x.1 = .ok (x.2.1, x.2.2) := own_dec h (by decide +kernel) hi
theorem dt63 {c : Code} (h : c.code = cm63) (i : Nat) {x : Nat × Instr × Nat} (hi : ([(0, .aload_n 0, 1), (1, .aload_n 2, 1), (2, .invokevirtual 397, 3), (5, .aload_n 2, 1), (6, .aload_n 0, 1), (7, .getfield 15, 3), (10, .iload_n 1, 1), (11, .aload_n 0, 1), (12, .getfield 22, 3), (15, .invokevirtual 399, 3), (18, .return_, 1)] : List (Nat × Instr × Nat))[i]? = some x) : decode c.code x.1 = .ok (x.2.1, x.2.2) := own_dec h (by decide +kernel) hi
theorem dt64 {c : Code} (h : c.code = cm64) (i : Nat) {x : Nat × Instr × Nat} (hi : ([(0, .getstatic 18, 3), (3, .ifCond .eq 18, 3), (6, .aload_n 0, 1), (7, .getfield 22, 3), (10, .aload_n 1, 1), (11, .invokevirtual 40, 3), (14, .if_icmp .eq 7, 3), (21, .return_, 1), (17, .aload_n 0, 1), (18, .invokevirtual 195, 3)] : List (Nat × Instr × Nat))[i]? = some x) : decode c.code x.1 = .ok (x.2.1, x.2.2) := own_dec h (by decide +kernel) hi
theorem dt65 {c : Code} (h : c.code = cm65) (i : Nat) {x : Nat × Instr × Nat} (hi : ([(0, .aload_n 0, 1), (1, .invokevirtual 335, 3), (4, .iload_n 3, 1), (5, .if_icmp .ne 23, 3), (8, .aload_n 0, 1), (9, .getfield 9, 3), (12, .iconst 0, 1), (13, .aload_n 1, 1), (14, .iload_n 2, 1), (15, .iload_n 3, 1), (16, .ishl, 1), (17, .aload_n 0, 1), (18, .getfield 9, 3), (21, .arraylength, 1), (22, .invokestatic 212, 3), (25, .goto 18, 3), (43, .return_, 1), (28, .aload_n 0, 1), (29, .getfield 9, 3), (32, .iconst 0, 1), (33, .aload_n 1, 1), (34, .iload_n 2, 1), (35, .aload_n 0, 1), (36, .getfield 9, 3), (39, .arraylength, 1), (40, .invokestatic 106, 3)] : List (Nat × Instr × Nat))[i]? = some x) : decode c.code x.1 = .ok (x.2.1, x.2.2) := own_dec h (by decide +kernel) hi
theorem dt66 {c : Code} (h : c.code = cm66) (i : Nat) {x : Nat × Instr × Nat} (hi : ([(0, .iload_n 1, 1), (1, .ifCond .ge 31, 3), (32, .iload_n 1, 1), (33, .iconst 1, 1), (34, .if_icmp .ne 5, 3), (39, .aload_n 0, 1), (40, .getfield 9, 3), (43, .arraylength, 1), (44, .istore_n 2, 1), (45, .iload_n 2, 1), (46, .ifCond .eq 7, 3), (49, .iload_n 1, 1), (50, .ifCond .ne 6, 3), (53, .ldc 7, 2), (55, .areturn, 1), (56, .ldc_w 943, 3), (59, .iload_n 1, 1), (60, .idiv, 1), (61, .iload_n 2, 1), (62, .if_icmp .ge 14, 3), (76, .iload_n 2, 1), (77, .iconst 1, 1), (78, .if_icmp .ne 30, 3), (81, .iload_n 1, 1), (82, .newarray .byte, 2), (84, .astore_n 3, 1), (85, .aload_n 3, 1), (86, .aload_n 0, 1), (87, .getfield 9, 3), (90, .iconst 0, 1), (91, .baload, 1), (92, .invokestatic 1041, 3), (95, .new 10, 3), (98, .dup, 1), (99, .aload_n 3, 1), (100, .aload_n 0, 1), (101, .getfield 15, 3), (104, .invokespecial 209, 3), (107, .areturn, 1)] : List (Nat × Instr × Nat))[i]? = some x) : decode c.code x.1 = .ok (x.2.1, x.2.2) := own_dec h (by decide +kernel) hi
theorem dt67 {c : Code} (h : c.code = cm67) (i : Nat) {x : Nat × Instr × Nat} (hi : ([(0, .iconst 0, 1), (1, .istore_n 2, 1), (2, .aload_n 0, 1), (3, .arraylength, 1), (4, .istore_n 3, 1), (5, .iload_n 2, 1), (6, .iload_n 3, 1), (7, .if_icmp .ge 13, 3), (10, .aload_n 0, 1), (11, .iload_n 2, 1), (12, .iload_n 1, 1), (13, .bastore, 1), (14, .iinc 2 1, 3), (17, .goto (-12), 3), (20, .return_, 1)] : List (Nat × Instr × Nat))[i]? = some x) : decode c.code x.1 = .ok (x.2.1, x.2.2) := own_dec h (by decide +kernel) hi
theorem dt68 {c : Code} (h : c.code = cm68) (i : Nat) {x : Nat × Instr × Nat} (hi : ([(0, .iload_n 1, 1), (1, .iload_n 2, 1), (2, .invokestatic 343, 3), (5, .iload_n 2, 1), (6, .iload_n 1, 1), (7, .isub, 1), (8, .istore_n 3, 1), (9, .iload_n 3, 1), (10, .newarray .byte, 2), (12, .astore 4, 2), (14, .aload_n 0, 1), (15, .iload_n 1, 1), (16, .aload 4, 2), (18, .iconst 0, 1), (19, .aload_n 0, 1), (20, .arraylength, 1), (21, .iload_n 1, 1), (22, .isub, 1), (23, .iload_n 3, 1), (24, .invokestatic 304, 3), (27, .invokestatic 150, 3), (30, .aload 4, 2), (32, .areturn, 1)] : List (Nat × Instr × Nat))[i]? = some x) : decode c.code x.1 = .ok (x.2.1, x.2.2) := own_dec h (by decide +kernel) hi
theorem dt69 {c : Code} (h : c.code = cm69) (i : Nat) {x : Nat × Instr × Nat} (hi : ([(0, .iload_n 1, 1), (1, .iload_n 0, 1), (2, .if_icmp .ge 35, 3), (37, .return_, 1)] : List (Nat × Instr × Nat))[i]? = some x) : decode c.code x.1 = .ok (x.2.1, x.2.2) := own_dec h (by decide +kernel) hi
theorem dt70 {c : Code} (h : c.code = cm70) (i : Nat) {x : Nat × Instr × Nat} (hi : ([(0, .iload_n 0, 1), (1, .bipush 10, 2), (3, .if_icmp .ge 11, 3), (6, .bipush 48, 2), (8, .iload_n 0, 1), (9, .iadd, 1), (10, .i2c, 1), (11, .goto 11, 3), (22, .ireturn, 1), (14, .bipush 97, 2), (16, .iload_n 0, 1), (17, .iadd, 1), (18, .bipush 10, 2), (20, .isub, 1), (21, .i2c, 1)] : List (Nat × Instr × Nat))[i]? = some x) : decode c.code x.1 = .ok (x.2.1, x.2.2) := own_dec h (by decide +kernel) hi
theorem dt71 {c : Code} (h : c.code = cm71) (i : Nat) {x : Nat × Instr × Nat} (hi : ([(0, .iconst 2, 1), (1, .newarray .byte, 2), (3, .astore_n 1, 1), (4, .aload_n 1, 1), (5, .iconst 0, 1), (6, .iload_n 0, 1), (7, .invokestatic 111, 3), (10, .aload_n 1, 1), (11, .areturn, 1)] : List (Nat × Instr × Nat))[i]? = some x) : decode c.code x.1 = .ok (x.2.1, x.2.2) := own_dec h (by decide +kernel) hi
theorem own_staKeep {Z : State} {h h' : Heap} {C n d : String} {v : Value} {ws : List Addr} (F : Sta Z h C n d v) (K : Keep h h' ws) (q : ∀ x ∈ ws, ∀ c : Cell, h[x]? = some c → c.vm.isStatics = false) : Sta Z h' C n d v := by
  obtain ⟨cf, i, k, f, st, cell, h1, h2, h3, h4, h5, h6, h7⟩ := F
  refine ⟨cf, i, k, f, st, cell, h1, h2, h3, h4, K.2.1 st cell h5 (fun m => ?_), h6, h7⟩
  have w := q st m cell h5
  rw [h6] at w
  cases w
theorem own_plainE {Z : State} {h : Heap} {a : Addr} {C : String} (F : Exa Z h a C) : ∀ c : Cell, h[a]? = some c → c.vm.isStatics = false := fun c hc => by
  obtain ⟨cell, k, h1, h2, h3, h4, -⟩ := F
  cases h1.symm.trans hc
  exact h4
theorem own_plainV {Z : State} {h : Heap} {a : Addr} {k : ClassId} {ty : FieldType} {n : Int32} {vs : List Value} {d : Value} (F : Arv Z h a k ty n vs d) : ∀ c : Cell, h[a]? = some c → c.vm.isStatics = false := fun c hc => by
  obtain ⟨cell, A, -⟩ := F
  cases A.1.symm.trans hc
  exact A.plain
theorem own_arrKeep {Z : State} {h h' : Heap} {a : Addr} {c : Cell} {ty : FieldType} {ws : List Addr} (F : Arr Z h a c ty) (K : Keep h h' ws) (q : a ∉ ws) : Arr Z h' a c ty := ⟨K.2.1 a c F.1 q, F.2⟩
theorem own_insKeep {Z : State} {h h' : Heap} {a : Addr} {C : String} {b : Bool} {ws : List Addr} (F : Ins Z h a C b) (K : Keep h h' ws) : Ins Z h' a C b := by
  obtain ⟨cell, cT, h1, h2, h3⟩ := F
  obtain ⟨c', q1, q2, q3, -⟩ := K.2.2 a cell h1
  exact ⟨c', cT, q1, h2, by rw [q2, q3]; exact h3⟩
/-- an array of bytes or chars, by what stands in it -/
def own_Af (Z : State) (h : Heap) (a : Addr) (ty : FieldType) (z : Int32) (f : Nat → Int32) : Prop := ∃ k : ClassId, Arv Z h a k ty z ((List.range z.toNatClampNeg).map fun i => Value.int (f i)) (.int 0)
theorem own_rg (f : Nat → Int32) (n i : Nat) (hi : i < n) : ((List.range n).map fun i => Value.int (f i)).getD i (.int 0) = .int (f i) := by
  simp [List.getD_eq_getElem?_getD, hi]
theorem own_Af.lt {Z : State} {h : Heap} {a : Addr} {ty : FieldType} {z : Int32} {f : Nat → Int32} (F : own_Af Z h a ty z f) : a < h.size := by obtain ⟨k, F⟩ := F; exact F.lt
theorem own_Af.keep {Z : State} {h h' : Heap} {a : Addr} {ty : FieldType} {z : Int32} {f : Nat → Int32} {ws : List Addr} (F : own_Af Z h a ty z f) (K : Keep h h' ws) (q : a ∉ ws) : own_Af Z h' a ty z f := by obtain ⟨k, F⟩ := F; exact ⟨k, F.keep K q⟩
theorem own_Af.ext {Z : State} {h h' : Heap} {a : Addr} {ty : FieldType} {z : Int32} {f : Nat → Int32} (F : own_Af Z h a ty z f) (E : Ext h h') : own_Af Z h' a ty z f := by obtain ⟨k, F⟩ := F; exact ⟨k, F.ext E⟩
theorem own_Af.pos {Z : State} {h : Heap} {a : Addr} {ty : FieldType} {z : Int32} {f : Nat → Int32} (F : own_Af Z h a ty z f) : ¬ z < 0 := by obtain ⟨k, c, -, -, -, q, -⟩ := F; exact q
/-- what is needed to read and to write -/
theorem own_Af.op {Z : State} {h : Heap} {a : Addr} {ty : FieldType} {z : Int32} {f : Nat → Int32} (F : own_Af Z h a ty z f) : ∃ c : Cell, Arr Z h a c ty ∧ c.slots.size = z.toNatClampNeg ∧ ¬ z < 0 ∧ (∀ i, i < c.slots.size → c.slots[i]? = some (.int (f i))) ∧ ∀ i, i < c.slots.size → fits ty (.int (f i)) = true := by
  obtain ⟨k, c, A, q, S, M, H, G⟩ := F
  refine ⟨c, A, S, M, fun i hi => ?_, fun i hi => ?_⟩
  · rw [H i hi, own_rg f _ i (S ▸ hi)]
  · have := G i hi; rw [own_rg f _ i (S ▸ hi)] at this; exact this
theorem own_Af.of {Z : State} {h : Heap} {a : Addr} {ty : FieldType} {z : Int32} {f : Nat → Int32} {c : Cell} (A : Arr Z h a c ty) (S : c.slots.size = z.toNatClampNeg) (M : ¬ z < 0) (H : ∀ i, i < c.slots.size → c.slots[i]? = some (.int (f i))) (G : ∀ i, i < c.slots.size → fits ty (.int (f i)) = true) : own_Af Z h a ty z f :=
  ⟨c.cls, c, A, rfl, S, M, fun i hi => by rw [H i hi, own_rg f _ i (S ▸ hi)], fun i hi => by rw [own_rg f _ i (S ▸ hi)]; exact G i hi⟩
theorem own_Af.congr {Z : State} {h : Heap} {a : Addr} {ty : FieldType} {z : Int32} {f g : Nat → Int32} (F : own_Af Z h a ty z f) (q : ∀ i, i < z.toNatClampNeg → f i = g i) : own_Af Z h a ty z g := by
  obtain ⟨c, A, S, M, H, G⟩ := F.op
  exact own_Af.of A S M (fun i hi => by rw [H i hi, q i (S ▸ hi)]) (fun i hi => by rw [← q i (S ▸ hi)]; exact G i hi)
theorem own_Af.arv {Z : State} {h : Heap} {a : Addr} {k : ClassId} {ty : FieldType} {z : Int32} {vs : List Value} {f : Nat → Int32} (F : Arv Z h a k ty z vs (.int 0)) (q : ∀ i, i < z.toNatClampNeg → vs.getD i (.int 0) = .int (f i)) : own_Af Z h a ty z f := by
  obtain ⟨c, A, r, S, M, H, G⟩ := F
  exact own_Af.of A S M (fun i hi => by rw [H i hi, q i (S ▸ hi)]) (fun i hi => by rw [← q i (S ▸ hi)]; exact G i hi)
theorem own_Af.set {Z : State} {h h' : Heap} {a : Addr} {ty : FieldType} {z j v : Int32} {f : Nat → Int32} {c : Cell} (A : Arr Z h a c ty) (S : c.slots.size = z.toNatClampNeg) (M : ¬ z < 0) (H : ∀ i, i < c.slots.size → c.slots[i]? = some (.int (f i))) (G : ∀ i, i < c.slots.size → fits ty (.int (f i)) = true) (hv : fits ty (.int v) = true) (W : Wr h h' a j.toNatClampNeg (.int v)) : own_Af Z h' a ty z (fun i => if i = j.toNatClampNeg then v else f i) := by
  refine own_Af.of (A.same W) (by rw [sz_set]; exact S) M (fun i hi => ?_) (fun i hi => ?_) <;> rw [sz_set] at hi
  · by_cases e : i = j.toNatClampNeg
    · subst e; simp [Cell.setSlot, hi]
    · rw [if_neg e]; simp only [Cell.setSlot]; rw [Array.getElem?_setIfInBounds_ne (fun q => e q.symm)]; exact H i hi
  · by_cases e : i = j.toNatClampNeg
    · rw [if_pos e]; exact hv
    · rw [if_neg e]; exact G i hi
theorem own_plainB {Z : State} {h : Heap} {a : Addr} {ty : FieldType} {z : Int32} {f : Nat → Int32} (F : own_Af Z h a ty z f) : ∀ c : Cell, h[a]? = some c → c.vm.isStatics = false := by obtain ⟨k, F⟩ := F; exact own_plainV F
theorem own_Af.new {Z : State} {h : Heap} {a : Addr} {k : ClassId} {ty : FieldType} {z : Int32} (A : Arr Z h a (newA k ty z) ty) (q : ¬ z < 0) (ht : defaultValue ty = .int 0) : own_Af Z h a ty z (fun _ => (0 : Int32)) := by
  have F := Arv.new A q
  rw [ht] at F
  exact own_Af.arv F (fun i hi => rfl)
/-- a hex digit -/
def own_hx (v : Nat) : Int32 := Int32.ofNat (if v < 10 then 48 + v else 87 + v)
def own_rn (w : Value) : Prop := w = .null ∨ ∃ a, w = .ref a
/-- the statics that the walks read -/
def own_ST (Z : State) (cs : Int32) (sv : Value) (dg : Addr) : Prop :=
  (Sta Z Z.heap "java/lang/String" "COMPACT_STRINGS" "Z" (.int cs) ∧ ¬ (cs = (0 : Int32))) ∧
  (Sta Z Z.heap "jdk/internal/util/Preconditions" "SIOOBE_FORMATTER" "Ljava/util/function/BiFunction;" sv ∧ own_rn sv) ∧
  Sta Z Z.heap "java/lang/StringUTF16" "$assertionsDisabled" "Z" (.int (1 : Int32)) ∧
  Sta Z Z.heap "java/lang/StringUTF16" "HI_BYTE_SHIFT" "I" (.int (0 : Int32)) ∧
  Sta Z Z.heap "java/lang/StringUTF16" "LO_BYTE_SHIFT" "I" (.int (8 : Int32)) ∧
  Sta Z Z.heap "java/lang/Integer" "digits" "[C" (.ref dg) ∧ own_Af Z Z.heap dg .char (Int32.ofNat 36) own_hx
/-- small numbers -/
theorem own_i {n : Nat} (h : n < 100000) : (Int32.ofNat n).toInt = n := Int32.toInt_ofNat_of_lt (by omega)
theorem own_in {n : Nat} (h : n < 100000) : (Int32.ofNat n).toNatClampNeg = n := by show (Int32.ofNat n).toInt.toNat = n; rw [own_i h]; rfl
theorem own_i0 {n : Nat} (h : n < 100000) : ¬ (Int32.ofNat n < (0 : Int32)) := by
  rw [Int32.lt_iff_toInt_lt, own_i h]
  have e : (0 : Int32).toInt = 0 := rfl
  omega
theorem own_ilt {m n : Nat} (hm : m < 100000) (h : n < 100000) (q : m < n) : Int32.ofNat m < Int32.ofNat n := by
  rw [Int32.lt_iff_toInt_lt, own_i h, own_i hm]; omega
theorem own_inlt {m n : Nat} (hm : m < 100000) (h : n < 100000) (q : n ≤ m) : ¬ (Int32.ofNat m < Int32.ofNat n) := by
  rw [Int32.lt_iff_toInt_lt, own_i h, own_i hm]; omega
theorem own_ieq {m n : Nat} (q : m = n) : Int32.ofNat m = Int32.ofNat n := by rw [q]
theorem own_ine {m n : Nat} (hm : m < 100000) (h : n < 100000) (q : m ≠ n) : ¬ (Int32.ofNat m = Int32.ofNat n) := by
  rw [← Int32.toInt_inj, own_i h, own_i hm]; omega
theorem own_isucc (i : Nat) : Int32.ofNat i + (1 : Int32) = Int32.ofNat (i + 1) := by rw [Int32.ofNat_add]; rfl
theorem own_iadd (i j : Nat) : Int32.ofNat i + Int32.ofNat j = Int32.ofNat (i + j) := by rw [Int32.ofNat_add]
theorem own_isub {i j : Nat} (h : j ≤ i) : Int32.ofNat i - Int32.ofNat j = Int32.ofNat (i - j) := by
  have e : i = (i - j) + j := by omega
  have q := own_iadd (i - j) j
  rw [← e] at q
  rw [← q, Int32.add_sub_cancel]
theorem own_inj {x y : Int32} (q : x.toInt = y.toInt) : x = y := Int32.toInt_inj.mp q
theorem own_shl1 {n : Nat} (h : n < 50000) : (Int32.ofNat n) <<< ((1 : Int32) &&& 31) = Int32.ofNat (2 * n) := by
  have a := c_ishl (Int32.ofNat n) 1 1 (by decide)
  have r := rng32 ((Int32.ofNat n) <<< ((1 : Int32) &&& 31))
  rw [own_i (by omega)] at a
  refine own_inj ?_
  rw [own_i (by omega)]
  omega
theorem own_shl0 (x : Int32) : x <<< ((0 : Int32) &&& 31) = x := by
  have a := c_ishl x 0 0 (by decide)
  have r := rng32 (x <<< ((0 : Int32) &&& 31))
  have r2 := rng32 x
  refine own_inj ?_
  omega
theorem own_shr0 (x : Int32) : x >>> ((0 : Int32) &&& 31) = x := by
  have a := c_ishr x 0 0 (by decide)
  refine own_inj ?_
  omega
theorem own_shr1 {n : Nat} (h : n < 50000) : (Int32.ofNat (2 * n)) >>> ((1 : Int32) &&& 31) = Int32.ofNat n := by
  have a := c_ishr (Int32.ofNat (2 * n)) 1 1 (by decide)
  rw [own_i (by omega)] at a
  refine own_inj ?_
  rw [own_i (by omega)]
  omega
def own_lo (c : Int32) : Int32 := c.toInt8.toInt32
def own_hi (c : Int32) : Int32 := (c >>> ((8 : Int32) &&& 31)).toInt8.toInt32
theorem own_nb (x : Int32) : nar .byte (x.toInt8.toInt32) = x.toInt8.toInt32 := by
  have e : nar .byte (x.toInt8.toInt32) = (x.toInt8.toInt32).toInt8.toInt32 := rfl
  have a := c_i2b x
  have b := c_i2b x.toInt8.toInt32
  rw [e]
  refine own_inj ?_
  omega
def own_put (f : Nat → Int32) (i : Nat) (c : Int32) : Nat → Int32 := fun j => if j = 2 * i then own_lo c else if j = 2 * i + 1 then own_hi c else f j
theorem own_put0 (f : Nat → Int32) (i : Nat) (c : Int32) : own_put f i c (2 * i) = own_lo c := if_pos rfl
theorem own_put1 (f : Nat → Int32) (i : Nat) (c : Int32) : own_put f i c (2 * i + 1) = own_hi c := by unfold own_put; rw [if_neg (by omega), if_pos rfl]
theorem own_putn (f : Nat → Int32) (i : Nat) (c : Int32) (j : Nat) (h1 : j ≠ 2 * i) (h2 : j ≠ 2 * i + 1) : own_put f i c j = f j := by unfold own_put; rw [if_neg h1, if_neg h2]
theorem own_putE {f : Nat → Int32} {i : Nat} {c : Int32} (h : i < 50000) (j : Nat) : (if j = ((Int32.ofNat (2 * i + 1))).toNatClampNeg then nar .byte (c >>> ((8 : Int32) &&& 31)).toInt8.toInt32 else (if j = ((Int32.ofNat (2 * i))).toNatClampNeg then nar .byte (c >>> ((0 : Int32) &&& 31)).toInt8.toInt32 else f j)) = own_put f i c j := by
  rw [own_in (by omega), own_in (by omega), own_nb, own_nb, own_shr0]
  unfold own_put own_lo own_hi
  by_cases e1 : j = 2 * i
  · rw [if_pos e1, if_neg (by omega), if_pos e1]
  · rw [if_neg e1, if_neg e1]
theorem own_ge255 (c x : Int32) (h1 : 0 ≤ c.toInt) (h2 : c.toInt ≤ 255) (hx : x = own_lo c) : nar .char ((x &&& (255 : Int32)).toUInt32.toUInt16.toUInt32.toInt32) = c := by
  subst hx
  have a := c_i2b c
  have e : own_lo c = c.toInt8.toInt32 := rfl
  rw [e]
  have m := c_mask c.toInt8.toInt32 (255 : Int32) 8 (by decide) (by decide)
  have k := c_i2c (c.toInt8.toInt32 &&& (255 : Int32))
  have e2 : ∀ y : Int32, nar .char y = y.toUInt32.toUInt16.toUInt32.toInt32 := fun _ => rfl
  rw [e2]
  have k2 := c_i2c ((c.toInt8.toInt32 &&& (255 : Int32)).toUInt32.toUInt16.toUInt32.toInt32)
  refine own_inj ?_
  omega
theorem own_getc (c x y : Int32) (hc : 0 ≤ c.toInt ∧ c.toInt ≤ 65535) (hx : x = own_lo c) (hy : y = own_hi c) : nar .char ((((x &&& (255 : Int32)) <<< ((0 : Int32) &&& 31)) ||| ((y &&& (255 : Int32)) <<< ((8 : Int32) &&& 31))).toUInt32.toUInt16.toUInt32.toInt32) = c := by
  subst hx hy
  obtain ⟨h1, h2⟩ := hc
  rw [own_shl0]
  have a := c_i2b c
  have b := c_i2b (c >>> ((8 : Int32) &&& 31))
  have s := c_ishr c 8 8 (by decide)
  have e : own_lo c = c.toInt8.toInt32 := rfl
  have e' : own_hi c = (c >>> ((8 : Int32) &&& 31)).toInt8.toInt32 := rfl
  rw [e, e']
  generalize (c >>> ((8 : Int32) &&& 31)) = c8 at *
  have m := c_mask c.toInt8.toInt32 (255 : Int32) 8 (by decide) (by decide)
  have m' := c_mask c8.toInt8.toInt32 (255 : Int32) 8 (by decide) (by decide)
  generalize (c.toInt8.toInt32 &&& (255 : Int32)) = u at *
  generalize (c8.toInt8.toInt32 &&& (255 : Int32)) = v at *
  have l := c_ishl v 8 8 (by decide)
  have rl := rng32 (v <<< ((8 : Int32) &&& 31))
  generalize (v <<< ((8 : Int32) &&& 31)) = v8 at *
  have o := c_or' u v8 8 (by decide) 256 (by decide) (by omega) (by omega) (by omega)
  have ro := rng32 (u ||| v8)
  generalize (u ||| v8) = w at *
  have k := c_i2c w
  have e2 : ∀ y : Int32, nar .char y = y.toUInt32.toUInt16.toUInt32.toInt32 := fun _ => rfl
  rw [e2]
  have k2 := c_i2c (w.toUInt32.toUInt16.toUInt32.toInt32)
  refine own_inj ?_
  omega
def own_cp (fs fd : Nat → Int32) (sp dp nn : Nat) : Nat → Int32 := fun j => if dp ≤ j ∧ j < dp + nn then fs (sp + (j - dp)) else fd j
theorem own_rl (f : Nat → Int32) (n : Nat) : ((List.range n).map fun i => Value.int (f i)).length = n := by simp
theorem own_Af.cp {Z : State} {h : Heap} {a : Addr} {k : ClassId} {z : Int32} {fs fd : Nat → Int32} {sp dp nn zs : Nat} (h4 : sp + nn ≤ zs) (h5 : dp + nn ≤ z.toNatClampNeg)
    (V : Arv Z h a k .byte z (((List.range z.toNatClampNeg).map fun i => Value.int (fd i)).take dp ++ ((List.range nn).map fun i => ((List.range zs).map fun i => Value.int (fs i)).getD (sp + i) (.int 0)) ++ ((List.range z.toNatClampNeg).map fun i => Value.int (fd i)).drop (dp + nn)) (.int 0)) : own_Af Z h a .byte z (own_cp fs fd sp dp nn) := by
  refine own_Af.arv V fun i hi => ?_
  unfold own_cp
  have lt : (((List.range z.toNatClampNeg).map fun i => Value.int (fd i)).take dp).length = dp := by rw [List.length_take, own_rl]; omega
  have lu : ((List.range nn).map fun i => ((List.range zs).map fun i => Value.int (fs i)).getD (sp + i) (.int 0)).length = nn := by simp
  rw [List.getD_eq_getElem?_getD]
  by_cases c1 : i < dp
  · rw [if_neg (by omega), List.append_assoc, List.getElem?_append_left (by omega), List.getElem?_take_of_lt c1]
    simp [hi]
  · by_cases c2 : i < dp + nn
    · rw [if_pos ⟨by omega, c2⟩, List.getElem?_append_left (by rw [List.length_append]; omega), List.getElem?_append_right (by omega), lt]
      have e : i - dp < nn := by omega
      have e2 : sp + (i - dp) < zs := by omega
      simp [e, e2]
    · rw [if_neg (by omega), List.getElem?_append_right (by rw [List.length_append]; omega), List.length_append, lt, lu, List.getElem?_drop, show dp + nn + (i - (dp + nn)) = i by omega]
      simp [hi]
theorem own_cfa0 (n : Nat) : ((((Int32.ofNat n - Int32.ofNat n).toUInt32 >>> ((31 : Int32) &&& 31).toUInt32).toInt32)).toInt8.toInt32 = (0 : Int32) := by
  rw [own_isub (Nat.le_refl n), Nat.sub_self]; decide
theorem own_cfa1 {n : Nat} (h0 : 0 < n) (h : n < 40000) : ((((Int32.ofNat n - Int32.ofNat (2 * n)).toUInt32 >>> ((31 : Int32) &&& 31).toUInt32).toInt32)).toInt8.toInt32 = (1 : Int32) := by
  have a := c_isub (Int32.ofNat n) (Int32.ofNat (2 * n))
  rw [own_i (by omega), own_i (by omega)] at a
  have r := rng32 (Int32.ofNat n - Int32.ofNat (2 * n))
  generalize (Int32.ofNat n - Int32.ofNat (2 * n)) = u at *
  have s := c_iushr u 31 31 (by decide) (by decide)
  generalize ((u.toUInt32 >>> ((31 : Int32) &&& 31).toUInt32).toInt32) = v at *
  have b := c_i2b v
  refine own_inj ?_
  have e1 : (1 : Int32).toInt = 1 := rfl
  omega
/-- what StringUTF16.inflate lays: the bytes f of Latin-1, as chars from place d on -/
def own_inf (f g : Nat → Int32) (d : Nat) : Nat → Nat → Int32
  | 0 => g
  | i + 1 => own_put (own_inf f g d i) (d + i) (f i &&& (255 : Int32))
theorem own_inf_in (f g : Nat → Int32) (d : Nat) : ∀ n j, j < n → own_inf f g d n (2 * (d + j)) = own_lo (f j &&& (255 : Int32)) ∧ own_inf f g d n (2 * (d + j) + 1) = own_hi (f j &&& (255 : Int32))
  | 0, j, h => absurd h (Nat.not_lt_zero j)
  | n + 1, j, h => by
    show own_put (own_inf f g d n) (d + n) _ _ = _ ∧ own_put (own_inf f g d n) (d + n) _ _ = _
    by_cases e : j = n
    · subst e; exact ⟨own_put0 _ _ _, own_put1 _ _ _⟩
    · rw [own_putn _ _ _ _ (by omega) (by omega), own_putn _ _ _ _ (by omega) (by omega)]
      exact own_inf_in f g d n j (by omega)
theorem own_inf_out (f g : Nat → Int32) (d : Nat) : ∀ n j, (j < 2 * d ∨ 2 * (d + n) ≤ j) → own_inf f g d n j = g j
  | 0, j, h => rfl
  | n + 1, j, h => by
    show own_put (own_inf f g d n) (d + n) _ _ = _
    rw [own_putn _ _ _ _ (by omega) (by omega)]
    exact own_inf_out f g d n j (by omega)
/-- chars as bytes: Latin-1, UTF-16 -/
def own_lat (cs : List Int32) (f : Nat → Int32) : Prop := ∀ i, i < cs.length → (0 ≤ (cs.getD i 0).toInt ∧ (cs.getD i 0).toInt ≤ 255) ∧ f i = own_lo (cs.getD i 0)
def own_utf (cs : List Int32) (f : Nat → Int32) : Prop := ∀ i, i < cs.length → (0 ≤ (cs.getD i 0).toInt ∧ (cs.getD i 0).toInt ≤ 65535) ∧ f (2 * i) = own_lo (cs.getD i 0) ∧ f (2 * i + 1) = own_hi (cs.getD i 0)
def own_Str (Z : State) (h : Heap) (a b : Addr) (cs : List Int32) : Prop := ∃ f : Nat → Int32, Exa Z h a "java/lang/String" ∧ Fld Z h a "java/lang/String" "value" "[B" (.ref b) ∧ cs.length ≤ 100 ∧
  ((Fld Z h a "java/lang/String" "coder" "B" (.int (0 : Int32)) ∧ own_Af Z h b .byte (Int32.ofNat cs.length) f ∧ own_lat cs f) ∨ (Fld Z h a "java/lang/String" "coder" "B" (.int (1 : Int32)) ∧ own_Af Z h b .byte (Int32.ofNat (2 * cs.length)) f ∧ own_utf cs f))
theorem own_Str.keep {Z : State} {h h' : Heap} {a b : Addr} {cs : List Int32} {ws : List Addr} (S : own_Str Z h a b cs) (K : Keep h h' ws) (q1 : a ∉ ws) (q2 : b ∉ ws) : own_Str Z h' a b cs := by
  obtain ⟨f, E, V, l, C⟩ := S
  refine ⟨f, E.keep K, V.keep K q1, l, ?_⟩
  rcases C with ⟨C, A, r⟩ | ⟨C, A, r⟩
  · exact Or.inl ⟨C.keep K q1, A.keep K q2, r⟩
  · exact Or.inr ⟨C.keep K q1, A.keep K q2, r⟩
theorem own_Str.ext {Z : State} {h h' : Heap} {a b : Addr} {cs : List Int32} (S : own_Str Z h a b cs) (E : Ext h h') : own_Str Z h' a b cs := by
  obtain ⟨f, E1, V, l, C⟩ := S
  refine ⟨f, E1.ext E, V.ext E, l, ?_⟩
  rcases C with ⟨C, A, r⟩ | ⟨C, A, r⟩
  · exact Or.inl ⟨C.ext E, A.ext E, r⟩
  · exact Or.inr ⟨C.ext E, A.ext E, r⟩
theorem own_lt_of {h : Heap} {a : Addr} (q : a < h.size) : a < h.size := q
theorem own_Str.p0 {Z : State} {h : Heap} {a b : Addr} {cs : List Int32} (S : own_Str Z h a b cs) : ∃ C, Exa Z h a C := by obtain ⟨f, E, -⟩ := S; exact ⟨_, E⟩
theorem own_Str.lt0 {Z : State} {h : Heap} {a b : Addr} {cs : List Int32} (S : own_Str Z h a b cs) : a < h.size := by obtain ⟨f, E, -⟩ := S; exact E.lt
theorem own_Str.lt1 {Z : State} {h : Heap} {a b : Addr} {cs : List Int32} (S : own_Str Z h a b cs) : b < h.size := by
  obtain ⟨f, E, V, l, C⟩ := S
  rcases C with ⟨C, A, r⟩ | ⟨C, A, r⟩ <;> exact A.lt

def own_ch (c : Int32) : Prop := 0 ≤ c.toInt ∧ c.toInt ≤ 65535
def own_esc (c : Int32) : Prop := c.toInt < 32 ∨ (127 ≤ c.toInt ∧ c.toInt ≤ 159) ∨ c.toInt = 8232 ∨ c.toInt = 8233
theorem own_nc (c : Int32) (h : own_ch c) : nar .char c = c := by
  refine own_inj ?_
  have := c_i2c c
  have e : nar .char c = c.toUInt32.toUInt16.toUInt32.toInt32 := rfl
  rw [e]
  obtain ⟨h1, h2⟩ := h
  omega
theorem own_chn (x : Int32) : own_ch (nar .char x) := by
  have := c_i2c x
  have e : nar .char x = x.toUInt32.toUInt16.toUInt32.toInt32 := rfl
  rw [e]
  exact ⟨by omega, by omega⟩
theorem pn_0 : plainName "com/example/motes_to_bounds/motestobounds/io/TextReportPrintablePinLaw" = true := by first | (simp [plainName, overriddenIn]; done) | decide +kernel
def Q1 (Z : State) (p1 : Int32) (h0 : Heap) (n0 : Nat) (v : Option Value) (h : Heap) (L : List Loc) : Prop := ∃ (r : Int32), v = some (.int r) ∧ Fr n0 L ∧ (own_ch r) ∧ h = h0
theorem rm1 (l : Launch) (Z : State) (a0 : Array Value) (hw : own_hw a0 Z) (p1 : Int32) (h0 : Heap) (n0 : Nat) (Z0 : n0 ≤ h0.size)  :
 own_M l ym1 [Jvm.Cond.code ym1 cm1 3 (some .char)] (⟨0, 0, 0, 0⟩ : Room) #[(.int p1)] Z h0 (Q1 Z p1 h0 n0) := by
 refine own_go n0 (F := fun m => mkF m 0 #[sI p1, .unset, .unset] []) (plainFor_of_name pn_0) (fun m => rfl) ?_
 intro p e s m below meth c sq Pq hR hx hby hml hown hnm hZ hh hlk X0 e0 N0 pre0
 have P1 : ∀ t, Steps p.tables e below (sq.setTop (mkF m 9 #[sI p1, sI (p1 &&& (3 : Int32)), sI ((p1.toUInt32 >>> ((2 : Int32) &&& 31).toUInt32).toInt32)] [(.int (p1 &&& (3 : Int32)))])) t → Pq t := fun t k => pre0 t (by
  refine qiN X0 hx (dt1 hby 0 rfl :) rfl ?_
  refine qc X0 hx (3 : Int32) (dt1 hby 1 rfl :) rfl ?_
  refine XS.iand X0.here hx rfl (dt1 hby 2 rfl :) rfl ?_
  refine qsN X0 hx (l' := #[sI p1, sI (p1 &&& (3 : Int32)), .unset]) (dt1 hby 3 rfl :) rfl ?_
  refine qiN X0 hx (dt1 hby 4 rfl :) rfl ?_
  refine qc X0 hx (2 : Int32) (dt1 hby 5 rfl :) rfl ?_
  refine XS.iushr X0.here hx rfl (dt1 hby 6 rfl :) rfl ?_
  refine qsN X0 hx (l' := #[sI p1, sI (p1 &&& (3 : Int32)), sI ((p1.toUInt32 >>> ((2 : Int32) &&& 31).toUInt32).toInt32)]) (dt1 hby 7 rfl :) rfl ?_
  refine qiN X0 hx (dt1 hby 8 rfl :) rfl ?_
  exact k)
 by_cases hc9_2 : (p1 &&& (3 : Int32)) = (0 : Int32)
 ·
  refine own_fin X0 hlk (v := some (.int (nar .char ((((p1.toUInt32 >>> ((2 : Int32) &&& 31).toUInt32).toInt32) &&& (255 : Int32)).toUInt32.toUInt16.toUInt32.toInt32)))) (own_nv hR) (by decide) (by decide) ?_ (fun fs hrt => P1 _ ?_)
  ·
   show Q1 Z p1 h0 n0 _ sq.heap _
   rw [e0]
   exact ⟨(nar .char ((((p1.toUInt32 >>> ((2 : Int32) &&& 31).toUInt32).toInt32) &&& (255 : Int32)).toUInt32.toUInt16.toUInt32.toInt32)), rfl, N0, own_chn _, rfl⟩
  refine qfN X0 hx (dt1 hby 9 rfl :) ((if0 _ _).trans (teq hc9_2).2) ?_
  refine qiN X0 hx (dt1 hby 10 rfl :) rfl ?_
  refine qp X0 hx (255 : Int32) (dt1 hby 11 rfl :) rfl ?_
  refine XS.iand X0.here hx rfl (dt1 hby 12 rfl :) rfl ?_
  refine XS.i2c X0.here hx rfl (dt1 hby 13 rfl :) rfl ?_
  exact retN X0 hx (t := .char) hR (by simp) (dt1 hby 14 rfl :) hrt
 ·
  have P3 : ∀ t, Steps p.tables e below (sq.setTop (mkF m 21 #[sI p1, sI (p1 &&& (3 : Int32)), sI ((p1.toUInt32 >>> ((2 : Int32) &&& 31).toUInt32).toInt32)] [(.int (1 : Int32)), (.int (p1 &&& (3 : Int32)))])) t → Pq t := fun t k => P1 t (by
   refine qfY X0 hx 9 19 (dt1 hby 9 rfl :) ((if0 _ _).trans (feq hc9_2).2) (by decide) (by decide) ?_
   refine qiN X0 hx (dt1 hby 15 rfl :) rfl ?_
   refine qc X0 hx (1 : Int32) (dt1 hby 16 rfl :) rfl ?_
   exact k)
  by_cases hc21_4 : (p1 &&& (3 : Int32)) = (1 : Int32)
  ·
   refine own_fin X0 hlk (v := some (.int (nar .char (((8224 : Int32) + (((p1.toUInt32 >>> ((2 : Int32) &&& 31).toUInt32).toInt32) &&& (15 : Int32))).toUInt32.toUInt16.toUInt32.toInt32)))) (own_nv hR) (by decide) (by decide) ?_ (fun fs hrt => P3 _ ?_)
   ·
    show Q1 Z p1 h0 n0 _ sq.heap _
    rw [e0]
    exact ⟨(nar .char (((8224 : Int32) + (((p1.toUInt32 >>> ((2 : Int32) &&& 31).toUInt32).toInt32) &&& (15 : Int32))).toUInt32.toUInt16.toUInt32.toInt32)), rfl, N0, own_chn _, rfl⟩
   refine qmN X0 hx (dt1 hby 17 rfl :) (teq hc21_4).2 ?_
   refine qp X0 hx (8224 : Int32) (dt1 hby 18 rfl :) rfl ?_
   refine qiN X0 hx (dt1 hby 19 rfl :) rfl ?_
   refine qb X0 hx (15 : Int32) (dt1 hby 20 rfl :) rfl ?_
   refine XS.iand X0.here hx rfl (dt1 hby 21 rfl :) rfl ?_
   refine XS.iadd X0.here hx rfl (dt1 hby 22 rfl :) rfl ?_
   refine XS.i2c X0.here hx rfl (dt1 hby 23 rfl :) rfl ?_
   exact retN X0 hx (t := .char) hR (by simp) (dt1 hby 24 rfl :) hrt
  ·
   refine own_fin X0 hlk (v := some (.int (nar .char (((p1.toUInt32 >>> ((2 : Int32) &&& 31).toUInt32).toInt32).toUInt32.toUInt16.toUInt32.toInt32)))) (own_nv hR) (by decide) (by decide) ?_ (fun fs hrt => P3 _ ?_)
   ·
    show Q1 Z p1 h0 n0 _ sq.heap _
    rw [e0]
    exact ⟨(nar .char (((p1.toUInt32 >>> ((2 : Int32) &&& 31).toUInt32).toInt32).toUInt32.toUInt16.toUInt32.toInt32)), rfl, N0, own_chn _, rfl⟩
   refine qmY X0 hx 21 34 (dt1 hby 17 rfl :) (feq hc21_4).2 (by decide) (by decide) ?_
   refine qiN X0 hx (dt1 hby 25 rfl :) rfl ?_
   refine XS.i2c X0.here hx rfl (dt1 hby 26 rfl :) rfl ?_
   exact retN X0 hx (t := .char) hR (by simp) (dt1 hby 27 rfl :) hrt
theorem own_q1 (p1 : Int32) (hc3_2 : p1 < (32 : Int32)) : own_esc p1 := by
  have e32 : ((32 : Int32)).toInt = 32 := rfl
  simp only [Int32.lt_iff_toInt_lt, ← Int32.toInt_inj, own_esc, own_ch] at *
  omega
theorem own_q2 (p1 : Int32) (hc3_2 : ¬ (p1 < (32 : Int32))) (hc9_4 : p1 < (127 : Int32)) (hc23_6 : p1 = (8232 : Int32)) : own_esc p1 := by
  have e32 : ((32 : Int32)).toInt = 32 := rfl
  have e127 : ((127 : Int32)).toInt = 127 := rfl
  have e8232 : ((8232 : Int32)).toInt = 8232 := rfl
  simp only [Int32.lt_iff_toInt_lt, ← Int32.toInt_inj, own_esc, own_ch] at *
  omega
theorem own_q3 (p1 : Int32) (hc3_2 : ¬ (p1 < (32 : Int32))) (hc9_4 : p1 < (127 : Int32)) (hc23_6 : ¬ (p1 = (8232 : Int32))) (hc30_8 : p1 = (8233 : Int32)) : own_esc p1 := by
  have e32 : ((32 : Int32)).toInt = 32 := rfl
  have e127 : ((127 : Int32)).toInt = 127 := rfl
  have e8232 : ((8232 : Int32)).toInt = 8232 := rfl
  have e8233 : ((8233 : Int32)).toInt = 8233 := rfl
  simp only [Int32.lt_iff_toInt_lt, ← Int32.toInt_inj, own_esc, own_ch] at *
  omega
theorem own_q4 (p1 : Int32) (hc3_2 : ¬ (p1 < (32 : Int32))) (hc9_4 : p1 < (127 : Int32)) (hc23_6 : ¬ (p1 = (8232 : Int32))) (hc30_8 : ¬ (p1 = (8233 : Int32))) : ¬ own_esc p1 := by
  have e32 : ((32 : Int32)).toInt = 32 := rfl
  have e127 : ((127 : Int32)).toInt = 127 := rfl
  have e8232 : ((8232 : Int32)).toInt = 8232 := rfl
  have e8233 : ((8233 : Int32)).toInt = 8233 := rfl
  simp only [Int32.lt_iff_toInt_lt, ← Int32.toInt_inj, own_esc, own_ch] at *
  omega
theorem own_q5 (p1 : Int32) (hc3_2 : ¬ (p1 < (32 : Int32))) (hc9_4 : ¬ (p1 < (127 : Int32))) (hc16_10 : (159 : Int32) < p1) (hc23_12 : p1 = (8232 : Int32)) : own_esc p1 := by
  have e32 : ((32 : Int32)).toInt = 32 := rfl
  have e127 : ((127 : Int32)).toInt = 127 := rfl
  have e159 : ((159 : Int32)).toInt = 159 := rfl
  have e8232 : ((8232 : Int32)).toInt = 8232 := rfl
  simp only [Int32.lt_iff_toInt_lt, ← Int32.toInt_inj, own_esc, own_ch] at *
  omega
theorem own_q6 (p1 : Int32) (hc3_2 : ¬ (p1 < (32 : Int32))) (hc9_4 : ¬ (p1 < (127 : Int32))) (hc16_10 : (159 : Int32) < p1) (hc23_12 : ¬ (p1 = (8232 : Int32))) (hc30_14 : p1 = (8233 : Int32)) : own_esc p1 := by
  have e32 : ((32 : Int32)).toInt = 32 := rfl
  have e127 : ((127 : Int32)).toInt = 127 := rfl
  have e159 : ((159 : Int32)).toInt = 159 := rfl
  have e8232 : ((8232 : Int32)).toInt = 8232 := rfl
  have e8233 : ((8233 : Int32)).toInt = 8233 := rfl
  simp only [Int32.lt_iff_toInt_lt, ← Int32.toInt_inj, own_esc, own_ch] at *
  omega
theorem own_q7 (p1 : Int32) (hc3_2 : ¬ (p1 < (32 : Int32))) (hc9_4 : ¬ (p1 < (127 : Int32))) (hc16_10 : (159 : Int32) < p1) (hc23_12 : ¬ (p1 = (8232 : Int32))) (hc30_14 : ¬ (p1 = (8233 : Int32))) : ¬ own_esc p1 := by
  have e32 : ((32 : Int32)).toInt = 32 := rfl
  have e127 : ((127 : Int32)).toInt = 127 := rfl
  have e159 : ((159 : Int32)).toInt = 159 := rfl
  have e8232 : ((8232 : Int32)).toInt = 8232 := rfl
  have e8233 : ((8233 : Int32)).toInt = 8233 := rfl
  simp only [Int32.lt_iff_toInt_lt, ← Int32.toInt_inj, own_esc, own_ch] at *
  omega
theorem own_q8 (p1 : Int32) (hc3_2 : ¬ (p1 < (32 : Int32))) (hc9_4 : ¬ (p1 < (127 : Int32))) (hc16_10 : ¬ ((159 : Int32) < p1)) : own_esc p1 := by
  have e32 : ((32 : Int32)).toInt = 32 := rfl
  have e127 : ((127 : Int32)).toInt = 127 := rfl
  have e159 : ((159 : Int32)).toInt = 159 := rfl
  simp only [Int32.lt_iff_toInt_lt, ← Int32.toInt_inj, own_esc, own_ch] at *
  omega
def Q33 (Z : State) (p1 : Int32) (h0 : Heap) (n0 : Nat) (v : Option Value) (h : Heap) (L : List Loc) : Prop := ∃ (r : Int32), v = some (.int r) ∧ Fr n0 L ∧ ((own_esc p1 ∧ r = (1 : Int32)) ∨ (¬ own_esc p1 ∧ r = (0 : Int32))) ∧ h = h0
theorem rm33 (l : Launch) (Z : State) (a0 : Array Value) (hw : own_hw a0 Z) (p1 : Int32) (h0 : Heap) (n0 : Nat) (Z0 : n0 ≤ h0.size)  :
 own_M l ym33 [Jvm.Cond.code ym33 cm33 1 (some .boolean)] (⟨0, 0, 0, 0⟩ : Room) #[(.int p1)] Z h0 (Q33 Z p1 h0 n0) := by
 refine own_go n0 (F := fun m => mkF m 0 #[sI p1] []) (plainFor_of_name pn_0) (fun m => rfl) ?_
 intro p e s m below meth c sq Pq hR hx hby hml hown hnm hZ hh hlk X0 e0 N0 pre0
 have P1 : ∀ t, Steps p.tables e below (sq.setTop (mkF m 3 #[sI p1] [(.int (32 : Int32)), (.int p1)])) t → Pq t := fun t k => pre0 t (by
  refine qiN X0 hx (dt33 hby 0 rfl :) rfl ?_
  refine qb X0 hx (32 : Int32) (dt33 hby 1 rfl :) rfl ?_
  exact k)
 by_cases hc3_2 : p1 < (32 : Int32)
 ·
  refine own_fin X0 hlk (v := some (.int (1 : Int32))) (own_nv hR) (by decide) (by decide) ?_ (fun fs hrt => P1 _ ?_)
  ·
   show Q33 Z p1 h0 n0 _ sq.heap _
   rw [e0]
   exact ⟨(1 : Int32), rfl, N0, Or.inl ⟨own_q1 p1 hc3_2, rfl⟩, rfl⟩
  refine qmY X0 hx 3 33 (dt33 hby 2 rfl :) (tlt hc3_2).1 (by decide) (by decide) ?_
  refine qc X0 hx (1 : Int32) (dt33 hby 3 rfl :) rfl ?_
  refine qg X0 hx 34 38 (dt33 hby 4 rfl :) (by decide) (by decide) ?_
  exact retN X0 hx (t := .boolean) hR (by simp) (dt33 hby 5 rfl :) hrt
 ·
  have P3 : ∀ t, Steps p.tables e below (sq.setTop (mkF m 9 #[sI p1] [(.int (127 : Int32)), (.int p1)])) t → Pq t := fun t k => P1 t (by
   refine qmN X0 hx (dt33 hby 2 rfl :) (flt hc3_2).1 ?_
   refine qiN X0 hx (dt33 hby 6 rfl :) rfl ?_
   refine qb X0 hx (127 : Int32) (dt33 hby 7 rfl :) rfl ?_
   exact k)
  by_cases hc9_4 : p1 < (127 : Int32)
  ·
   have P5 : ∀ t, Steps p.tables e below (sq.setTop (mkF m 23 #[sI p1] [(.int (8232 : Int32)), (.int p1)])) t → Pq t := fun t k => P3 t (by
    refine qmY X0 hx 9 19 (dt33 hby 8 rfl :) (tlt hc9_4).1 (by decide) (by decide) ?_
    refine qiN X0 hx (dt33 hby 9 rfl :) rfl ?_
    refine qp X0 hx (8232 : Int32) (dt33 hby 10 rfl :) rfl ?_
    exact k)
   by_cases hc23_6 : p1 = (8232 : Int32)
   ·
    refine own_fin X0 hlk (v := some (.int (1 : Int32))) (own_nv hR) (by decide) (by decide) ?_ (fun fs hrt => P5 _ ?_)
    ·
     show Q33 Z p1 h0 n0 _ sq.heap _
     rw [e0]
     exact ⟨(1 : Int32), rfl, N0, Or.inl ⟨own_q2 p1 hc3_2 hc9_4 hc23_6, rfl⟩, rfl⟩
    refine qmY X0 hx 23 33 (dt33 hby 11 rfl :) (teq hc23_6).1 (by decide) (by decide) ?_
    refine qc X0 hx (1 : Int32) (dt33 hby 3 rfl :) rfl ?_
    refine qg X0 hx 34 38 (dt33 hby 4 rfl :) (by decide) (by decide) ?_
    exact retN X0 hx (t := .boolean) hR (by simp) (dt33 hby 5 rfl :) hrt
   ·
    have P7 : ∀ t, Steps p.tables e below (sq.setTop (mkF m 30 #[sI p1] [(.int (8233 : Int32)), (.int p1)])) t → Pq t := fun t k => P5 t (by
     refine qmN X0 hx (dt33 hby 11 rfl :) (feq hc23_6).1 ?_
     refine qiN X0 hx (dt33 hby 12 rfl :) rfl ?_
     refine qp X0 hx (8233 : Int32) (dt33 hby 13 rfl :) rfl ?_
     exact k)
    by_cases hc30_8 : p1 = (8233 : Int32)
    ·
     refine own_fin X0 hlk (v := some (.int (1 : Int32))) (own_nv hR) (by decide) (by decide) ?_ (fun fs hrt => P7 _ ?_)
     ·
      show Q33 Z p1 h0 n0 _ sq.heap _
      rw [e0]
      exact ⟨(1 : Int32), rfl, N0, Or.inl ⟨own_q3 p1 hc3_2 hc9_4 hc23_6 hc30_8, rfl⟩, rfl⟩
     refine qmN X0 hx (dt33 hby 14 rfl :) (teq hc30_8).2 ?_
     refine qc X0 hx (1 : Int32) (dt33 hby 3 rfl :) rfl ?_
     refine qg X0 hx 34 38 (dt33 hby 4 rfl :) (by decide) (by decide) ?_
     exact retN X0 hx (t := .boolean) hR (by simp) (dt33 hby 5 rfl :) hrt
    ·
     refine own_fin X0 hlk (v := some (.int (0 : Int32))) (own_nv hR) (by decide) (by decide) ?_ (fun fs hrt => P7 _ ?_)
     ·
      show Q33 Z p1 h0 n0 _ sq.heap _
      rw [e0]
      exact ⟨(0 : Int32), rfl, N0, Or.inr ⟨own_q4 p1 hc3_2 hc9_4 hc23_6 hc30_8, rfl⟩, rfl⟩
     refine qmY X0 hx 30 37 (dt33 hby 14 rfl :) (feq hc30_8).2 (by decide) (by decide) ?_
     refine qc X0 hx (0 : Int32) (dt33 hby 15 rfl :) rfl ?_
     exact retN X0 hx (t := .boolean) hR (by simp) (dt33 hby 5 rfl :) hrt
  ·
   have P9 : ∀ t, Steps p.tables e below (sq.setTop (mkF m 16 #[sI p1] [(.int (159 : Int32)), (.int p1)])) t → Pq t := fun t k => P3 t (by
    refine qmN X0 hx (dt33 hby 8 rfl :) (flt hc9_4).1 ?_
    refine qiN X0 hx (dt33 hby 16 rfl :) rfl ?_
    refine qp X0 hx (159 : Int32) (dt33 hby 17 rfl :) rfl ?_
    exact k)
   by_cases hc16_10 : (159 : Int32) < p1
   ·
    have P11 : ∀ t, Steps p.tables e below (sq.setTop (mkF m 23 #[sI p1] [(.int (8232 : Int32)), (.int p1)])) t → Pq t := fun t k => P9 t (by
     refine qmN X0 hx (dt33 hby 18 rfl :) (tlt hc16_10).2.2.2 ?_
     refine qiN X0 hx (dt33 hby 9 rfl :) rfl ?_
     refine qp X0 hx (8232 : Int32) (dt33 hby 10 rfl :) rfl ?_
     exact k)
    by_cases hc23_12 : p1 = (8232 : Int32)
    ·
     refine own_fin X0 hlk (v := some (.int (1 : Int32))) (own_nv hR) (by decide) (by decide) ?_ (fun fs hrt => P11 _ ?_)
     ·
      show Q33 Z p1 h0 n0 _ sq.heap _
      rw [e0]
      exact ⟨(1 : Int32), rfl, N0, Or.inl ⟨own_q5 p1 hc3_2 hc9_4 hc16_10 hc23_12, rfl⟩, rfl⟩
     refine qmY X0 hx 23 33 (dt33 hby 11 rfl :) (teq hc23_12).1 (by decide) (by decide) ?_
     refine qc X0 hx (1 : Int32) (dt33 hby 3 rfl :) rfl ?_
     refine qg X0 hx 34 38 (dt33 hby 4 rfl :) (by decide) (by decide) ?_
     exact retN X0 hx (t := .boolean) hR (by simp) (dt33 hby 5 rfl :) hrt
    ·
     have P13 : ∀ t, Steps p.tables e below (sq.setTop (mkF m 30 #[sI p1] [(.int (8233 : Int32)), (.int p1)])) t → Pq t := fun t k => P11 t (by
      refine qmN X0 hx (dt33 hby 11 rfl :) (feq hc23_12).1 ?_
      refine qiN X0 hx (dt33 hby 12 rfl :) rfl ?_
      refine qp X0 hx (8233 : Int32) (dt33 hby 13 rfl :) rfl ?_
      exact k)
     by_cases hc30_14 : p1 = (8233 : Int32)
     ·
      refine own_fin X0 hlk (v := some (.int (1 : Int32))) (own_nv hR) (by decide) (by decide) ?_ (fun fs hrt => P13 _ ?_)
      ·
       show Q33 Z p1 h0 n0 _ sq.heap _
       rw [e0]
       exact ⟨(1 : Int32), rfl, N0, Or.inl ⟨own_q6 p1 hc3_2 hc9_4 hc16_10 hc23_12 hc30_14, rfl⟩, rfl⟩
      refine qmN X0 hx (dt33 hby 14 rfl :) (teq hc30_14).2 ?_
      refine qc X0 hx (1 : Int32) (dt33 hby 3 rfl :) rfl ?_
      refine qg X0 hx 34 38 (dt33 hby 4 rfl :) (by decide) (by decide) ?_
      exact retN X0 hx (t := .boolean) hR (by simp) (dt33 hby 5 rfl :) hrt
     ·
      refine own_fin X0 hlk (v := some (.int (0 : Int32))) (own_nv hR) (by decide) (by decide) ?_ (fun fs hrt => P13 _ ?_)
      ·
       show Q33 Z p1 h0 n0 _ sq.heap _
       rw [e0]
       exact ⟨(0 : Int32), rfl, N0, Or.inr ⟨own_q7 p1 hc3_2 hc9_4 hc16_10 hc23_12 hc30_14, rfl⟩, rfl⟩
      refine qmY X0 hx 30 37 (dt33 hby 14 rfl :) (feq hc30_14).2 (by decide) (by decide) ?_
      refine qc X0 hx (0 : Int32) (dt33 hby 15 rfl :) rfl ?_
      exact retN X0 hx (t := .boolean) hR (by simp) (dt33 hby 5 rfl :) hrt
   ·
    refine own_fin X0 hlk (v := some (.int (1 : Int32))) (own_nv hR) (by decide) (by decide) ?_ (fun fs hrt => P9 _ ?_)
    ·
     show Q33 Z p1 h0 n0 _ sq.heap _
     rw [e0]
     exact ⟨(1 : Int32), rfl, N0, Or.inl ⟨own_q8 p1 hc3_2 hc9_4 hc16_10, rfl⟩, rfl⟩
    refine qmY X0 hx 16 33 (dt33 hby 18 rfl :) (flt hc16_10).2.2.2 (by decide) (by decide) ?_
    refine qc X0 hx (1 : Int32) (dt33 hby 3 rfl :) rfl ?_
    refine qg X0 hx 34 38 (dt33 hby 4 rfl :) (by decide) (by decide) ?_
    exact retN X0 hx (t := .boolean) hR (by simp) (dt33 hby 5 rfl :) hrt
theorem pn_1 : plainName "java/lang/Character" = true := by first | (simp [plainName, overriddenIn]; done) | decide +kernel
theorem own_q9 (p1 : Int32) (hc : own_ch p1) (hc4_2 : (159 : Int32) < p1) : ¬ (p1.toInt < 32 ∨ (127 ≤ p1.toInt ∧ p1.toInt ≤ 159)) := by
  have u := c_iushr p1 (5 : Int32) 5 (by decide) (by decide)
  have e159 : ((159 : Int32)).toInt = 159 := rfl
  simp only [Int32.lt_iff_toInt_lt, ← Int32.toInt_inj, own_esc, own_ch] at *
  omega
theorem own_q10 (p1 : Int32) (hc : own_ch p1) (hc4_2 : ¬ ((159 : Int32) < p1)) (hc10_4 : p1 < (127 : Int32)) (hc16_6 : ((p1.toUInt32 >>> ((5 : Int32) &&& 31).toUInt32).toInt32) = (0 : Int32)) : (p1.toInt < 32 ∨ (127 ≤ p1.toInt ∧ p1.toInt ≤ 159)) := by
  have u := c_iushr p1 (5 : Int32) 5 (by decide) (by decide)
  have e159 : ((159 : Int32)).toInt = 159 := rfl
  have e127 : ((127 : Int32)).toInt = 127 := rfl
  have e5 : ((5 : Int32)).toInt = 5 := rfl
  have e0 : ((0 : Int32)).toInt = 0 := rfl
  simp only [Int32.lt_iff_toInt_lt, ← Int32.toInt_inj, own_esc, own_ch] at *
  omega
theorem own_q11 (p1 : Int32) (hc : own_ch p1) (hc4_2 : ¬ ((159 : Int32) < p1)) (hc10_4 : p1 < (127 : Int32)) (hc16_6 : ¬ (((p1.toUInt32 >>> ((5 : Int32) &&& 31).toUInt32).toInt32) = (0 : Int32))) : ¬ (p1.toInt < 32 ∨ (127 ≤ p1.toInt ∧ p1.toInt ≤ 159)) := by
  have u := c_iushr p1 (5 : Int32) 5 (by decide) (by decide)
  have e159 : ((159 : Int32)).toInt = 159 := rfl
  have e127 : ((127 : Int32)).toInt = 127 := rfl
  have e5 : ((5 : Int32)).toInt = 5 := rfl
  have e0 : ((0 : Int32)).toInt = 0 := rfl
  simp only [Int32.lt_iff_toInt_lt, ← Int32.toInt_inj, own_esc, own_ch] at *
  omega
theorem own_q12 (p1 : Int32) (hc : own_ch p1) (hc4_2 : ¬ ((159 : Int32) < p1)) (hc10_4 : ¬ (p1 < (127 : Int32))) : (p1.toInt < 32 ∨ (127 ≤ p1.toInt ∧ p1.toInt ≤ 159)) := by
  have u := c_iushr p1 (5 : Int32) 5 (by decide) (by decide)
  have e159 : ((159 : Int32)).toInt = 159 := rfl
  have e127 : ((127 : Int32)).toInt = 127 := rfl
  simp only [Int32.lt_iff_toInt_lt, ← Int32.toInt_inj, own_esc, own_ch] at *
  omega
def Q27 (Z : State) (p1 : Int32) (h0 : Heap) (n0 : Nat) (v : Option Value) (h : Heap) (L : List Loc) : Prop := ∃ (r : Int32), v = some (.int r) ∧ Fr n0 L ∧ (((p1.toInt < 32 ∨ (127 ≤ p1.toInt ∧ p1.toInt ≤ 159)) ∧ r = (1 : Int32)) ∨ (¬ (p1.toInt < 32 ∨ (127 ≤ p1.toInt ∧ p1.toInt ≤ 159)) ∧ r = (0 : Int32))) ∧ h = h0
theorem rm27 (l : Launch) (Z : State) (a0 : Array Value) (hw : own_hw a0 Z) (p1 : Int32) (h0 : Heap) (n0 : Nat) (Z0 : n0 ≤ h0.size) (hc : (own_ch p1)) :
 own_M l ym27 [Jvm.Cond.code ym27 cm27 1 (some .boolean)] (⟨0, 0, 0, 0⟩ : Room) #[(.int p1)] Z h0 (Q27 Z p1 h0 n0) := by
 refine own_go n0 (F := fun m => mkF m 0 #[sI p1] []) (plainFor_of_name pn_1) (fun m => rfl) ?_
 intro p e s m below meth c sq Pq hR hx hby hml hown hnm hZ hh hlk X0 e0 N0 pre0
 have P1 : ∀ t, Steps p.tables e below (sq.setTop (mkF m 4 #[sI p1] [(.int (159 : Int32)), (.int p1)])) t → Pq t := fun t k => pre0 t (by
  refine qiN X0 hx (dt27 hby 0 rfl :) rfl ?_
  refine qp X0 hx (159 : Int32) (dt27 hby 1 rfl :) rfl ?_
  exact k)
 by_cases hc4_2 : (159 : Int32) < p1
 ·
  refine own_fin X0 hlk (v := some (.int (0 : Int32))) (own_nv hR) (by decide) (by decide) ?_ (fun fs hrt => P1 _ ?_)
  ·
   show Q27 Z p1 h0 n0 _ sq.heap _
   rw [e0]
   exact ⟨(0 : Int32), rfl, N0, Or.inr ⟨own_q9 p1 hc hc4_2, rfl⟩, rfl⟩
  refine qmY X0 hx 4 23 (dt27 hby 2 rfl :) (tlt hc4_2).2.2.1 (by decide) (by decide) ?_
  refine qc X0 hx (0 : Int32) (dt27 hby 3 rfl :) rfl ?_
  exact retN X0 hx (t := .boolean) hR (by simp) (dt27 hby 4 rfl :) hrt
 ·
  have P3 : ∀ t, Steps p.tables e below (sq.setTop (mkF m 10 #[sI p1] [(.int (127 : Int32)), (.int p1)])) t → Pq t := fun t k => P1 t (by
   refine qmN X0 hx (dt27 hby 2 rfl :) (flt hc4_2).2.2.1 ?_
   refine qiN X0 hx (dt27 hby 5 rfl :) rfl ?_
   refine qb X0 hx (127 : Int32) (dt27 hby 6 rfl :) rfl ?_
   exact k)
  by_cases hc10_4 : p1 < (127 : Int32)
  ·
   have P5 : ∀ t, Steps p.tables e below (sq.setTop (mkF m 16 #[sI p1] [(.int ((p1.toUInt32 >>> ((5 : Int32) &&& 31).toUInt32).toInt32))])) t → Pq t := fun t k => P3 t (by
    refine qmN X0 hx (dt27 hby 7 rfl :) (tlt hc10_4).2.1 ?_
    refine qiN X0 hx (dt27 hby 8 rfl :) rfl ?_
    refine qc X0 hx (5 : Int32) (dt27 hby 9 rfl :) rfl ?_
    refine XS.iushr X0.here hx rfl (dt27 hby 10 rfl :) rfl ?_
    exact k)
   by_cases hc16_6 : ((p1.toUInt32 >>> ((5 : Int32) &&& 31).toUInt32).toInt32) = (0 : Int32)
   ·
    refine own_fin X0 hlk (v := some (.int (1 : Int32))) (own_nv hR) (by decide) (by decide) ?_ (fun fs hrt => P5 _ ?_)
    ·
     show Q27 Z p1 h0 n0 _ sq.heap _
     rw [e0]
     exact ⟨(1 : Int32), rfl, N0, Or.inl ⟨own_q10 p1 hc hc4_2 hc10_4 hc16_6, rfl⟩, rfl⟩
    refine qfN X0 hx (dt27 hby 11 rfl :) ((if0 _ _).trans (teq hc16_6).2) ?_
    refine qc X0 hx (1 : Int32) (dt27 hby 12 rfl :) rfl ?_
    refine qg X0 hx 20 24 (dt27 hby 13 rfl :) (by decide) (by decide) ?_
    exact retN X0 hx (t := .boolean) hR (by simp) (dt27 hby 4 rfl :) hrt
   ·
    refine own_fin X0 hlk (v := some (.int (0 : Int32))) (own_nv hR) (by decide) (by decide) ?_ (fun fs hrt => P5 _ ?_)
    ·
     show Q27 Z p1 h0 n0 _ sq.heap _
     rw [e0]
     exact ⟨(0 : Int32), rfl, N0, Or.inr ⟨own_q11 p1 hc hc4_2 hc10_4 hc16_6, rfl⟩, rfl⟩
    refine qfY X0 hx 16 23 (dt27 hby 11 rfl :) ((if0 _ _).trans (feq hc16_6).2) (by decide) (by decide) ?_
    refine qc X0 hx (0 : Int32) (dt27 hby 3 rfl :) rfl ?_
    exact retN X0 hx (t := .boolean) hR (by simp) (dt27 hby 4 rfl :) hrt
  ·
   refine own_fin X0 hlk (v := some (.int (1 : Int32))) (own_nv hR) (by decide) (by decide) ?_ (fun fs hrt => P3 _ ?_)
   ·
    show Q27 Z p1 h0 n0 _ sq.heap _
    rw [e0]
    exact ⟨(1 : Int32), rfl, N0, Or.inl ⟨own_q12 p1 hc hc4_2 hc10_4, rfl⟩, rfl⟩
   refine qmY X0 hx 10 19 (dt27 hby 7 rfl :) (flt hc10_4).2.1 (by decide) (by decide) ?_
   refine qc X0 hx (1 : Int32) (dt27 hby 12 rfl :) rfl ?_
   refine qg X0 hx 20 24 (dt27 hby 13 rfl :) (by decide) (by decide) ?_
   exact retN X0 hx (t := .boolean) hR (by simp) (dt27 hby 4 rfl :) hrt
theorem pd_0 : parseMethodDescriptor "(I)Z" = some ⟨[.int], some .boolean⟩ := by decide +kernel
def Q26 (Z : State) (p1 : Int32) (h0 : Heap) (n0 : Nat) (v : Option Value) (h : Heap) (L : List Loc) : Prop := ∃ (r : Int32), v = some (.int r) ∧ Fr n0 L ∧ (((p1.toInt < 32 ∨ (127 ≤ p1.toInt ∧ p1.toInt ≤ 159)) ∧ r = (1 : Int32)) ∨ (¬ (p1.toInt < 32 ∨ (127 ≤ p1.toInt ∧ p1.toInt ≤ 159)) ∧ r = (0 : Int32))) ∧ h = h0
theorem rm26 (l : Launch) (Z : State) (a0 : Array Value) (hw : own_hw a0 Z) (p1 : Int32) (h0 : Heap) (n0 : Nat) (Z0 : n0 ≤ h0.size) (hc : (own_ch p1)) :
 own_M l ym26 [Jvm.Cond.code ym26 cm26 1 (some .boolean)] (⟨1, 0, 0, 12⟩ : Room) #[(.int p1)] Z h0 (Q26 Z p1 h0 n0) := by
 refine own_go n0 (F := fun m => mkF m 0 #[sI p1] []) (plainFor_of_name pn_1) (fun m => rfl) ?_
 intro p e s m below meth c sq Pq hR hx hby hml hown hnm hZ hh hlk X0 e0 N0 pre0
 obtain ⟨_, _, ⟨T2, L2, k2, n2⟩, -, X2, ⟨Lc2, hQ2, l2, y2, z2⟩, st2⟩ := Jvm.LawKit.callS X0 hx (y := ym27) hown (mw hZ hw 142 rfl) (mw hZ hw 143 rfl) (mw hZ hw 140 rfl) (mw hZ hw 144 rfl) (by decide) (backOf (W := 0) (rm27 l Z a0 hw p1 h0 n0 Z0 (by first | assumption | omega)) hZ (hw _ (wi 144 rfl)) (hw _ (wi 140 rfl)) (by decide) (by decide)) (g := (mkF m 1 #[sI p1] [(.int p1)])) rfl (by rw [hml]; rfl) (argsL := [(.int p1)]) (rest := []) (lenOf pd_0 rfl) rfl (Nat.le_refl _) (dt26 hby 1 rfl :) (fun _ _ => ⟨rfl, e0, (by decide : 0 + 0 ≤ _), (by decide : 0 + 0 ≤ _)⟩)
 dsimp only [Pt.U, Pt.locs, Pt.cells, Pt.slots] at X2 l2 y2 z2 st2 hQ2
 subst l2 y2 z2
 obtain ⟨r3, rfl, N2q, R4, R5⟩ := hQ2
 have N2 := Fr.app N0 N2q
 have hr : nar .boolean r3 = r3 := by rcases R4 with ⟨-, rfl⟩ | ⟨-, rfl⟩ <;> rfl
 have hr2 := R4
 rw [← hr] at hr2
 refine own_fin X2 hlk (v := some (.int (nar .boolean r3))) (own_nv hR) (by decide) (by decide) ?_ (fun fs hrt => pre0 _ ?_)
 ·
  show Q26 Z p1 h0 n0 _ T2.heap _
  rw [R5]
  exact ⟨(nar .boolean r3), rfl, N2, hr2, rfl⟩
 refine qiN X0 hx (dt26 hby 0 rfl :) rfl ?_
 refine st2 _ ?_
 exact retN X2 hx (t := .boolean) hR (by simp) (dt26 hby 2 rfl :) hrt
theorem pn_2 : plainName "java/lang/StringLatin1" = true := by first | (simp [plainName, overriddenIn]; done) | decide +kernel
theorem own_q13 (p1 : Int32) (hc4_2 : (255 : Int32) < p1) : 255 < p1.toInt := by
  have e255 : ((255 : Int32)).toInt = 255 := rfl
  simp only [Int32.lt_iff_toInt_lt, ← Int32.toInt_inj, own_esc, own_ch] at *
  omega
theorem own_q14 (p1 : Int32) (hc4_2 : ¬ ((255 : Int32) < p1)) : p1.toInt ≤ 255 := by
  have e255 : ((255 : Int32)).toInt = 255 := rfl
  simp only [Int32.lt_iff_toInt_lt, ← Int32.toInt_inj, own_esc, own_ch] at *
  omega
def Q31 (Z : State) (p1 : Int32) (h0 : Heap) (n0 : Nat) (v : Option Value) (h : Heap) (L : List Loc) : Prop := ∃ (r : Int32), v = some (.int r) ∧ Fr n0 L ∧ ((p1.toInt ≤ 255 ∧ r = (1 : Int32)) ∨ (255 < p1.toInt ∧ r = (0 : Int32))) ∧ h = h0
theorem rm31 (l : Launch) (Z : State) (a0 : Array Value) (hw : own_hw a0 Z) (p1 : Int32) (h0 : Heap) (n0 : Nat) (Z0 : n0 ≤ h0.size)  :
 own_M l ym31 [Jvm.Cond.code ym31 cm31 1 (some .boolean)] (⟨0, 0, 0, 0⟩ : Room) #[(.int p1)] Z h0 (Q31 Z p1 h0 n0) := by
 refine own_go n0 (F := fun m => mkF m 0 #[sI p1] []) (plainFor_of_name pn_2) (fun m => rfl) ?_
 intro p e s m below meth c sq Pq hR hx hby hml hown hnm hZ hh hlk X0 e0 N0 pre0
 have P1 : ∀ t, Steps p.tables e below (sq.setTop (mkF m 4 #[sI p1] [(.int (255 : Int32)), (.int p1)])) t → Pq t := fun t k => pre0 t (by
  refine qiN X0 hx (dt31 hby 0 rfl :) rfl ?_
  refine qp X0 hx (255 : Int32) (dt31 hby 1 rfl :) rfl ?_
  exact k)
 by_cases hc4_2 : (255 : Int32) < p1
 ·
  refine own_fin X0 hlk (v := some (.int (0 : Int32))) (own_nv hR) (by decide) (by decide) ?_ (fun fs hrt => P1 _ ?_)
  ·
   show Q31 Z p1 h0 n0 _ sq.heap _
   rw [e0]
   exact ⟨(0 : Int32), rfl, N0, Or.inr ⟨own_q13 p1 hc4_2, rfl⟩, rfl⟩
  refine qmY X0 hx 4 11 (dt31 hby 2 rfl :) (tlt hc4_2).2.2.1 (by decide) (by decide) ?_
  refine qc X0 hx (0 : Int32) (dt31 hby 3 rfl :) rfl ?_
  exact retN X0 hx (t := .boolean) hR (by simp) (dt31 hby 4 rfl :) hrt
 ·
  refine own_fin X0 hlk (v := some (.int (1 : Int32))) (own_nv hR) (by decide) (by decide) ?_ (fun fs hrt => P1 _ ?_)
  ·
   show Q31 Z p1 h0 n0 _ sq.heap _
   rw [e0]
   exact ⟨(1 : Int32), rfl, N0, Or.inl ⟨own_q14 p1 hc4_2, rfl⟩, rfl⟩
  refine qmN X0 hx (dt31 hby 2 rfl :) (flt hc4_2).2.2.1 ?_
  refine qc X0 hx (1 : Int32) (dt31 hby 5 rfl :) rfl ?_
  refine qg X0 hx 8 12 (dt31 hby 6 rfl :) (by decide) (by decide) ?_
  exact retN X0 hx (t := .boolean) hR (by simp) (dt31 hby 4 rfl :) hrt
theorem own_q15 (p1 : Int32) (p2 : Int32) (hc2_2 : p1 < p2) : p1.toInt ≤ p2.toInt := by
  simp only [Int32.lt_iff_toInt_lt, ← Int32.toInt_inj, own_esc, own_ch] at *
  omega
theorem own_q16 (p1 : Int32) (p2 : Int32) (hc2_2 : ¬ (p1 < p2)) : p2.toInt ≤ p1.toInt := by
  simp only [Int32.lt_iff_toInt_lt, ← Int32.toInt_inj, own_esc, own_ch] at *
  omega
def Q55 (Z : State) (p1 p2 : Int32) (h0 : Heap) (n0 : Nat) (v : Option Value) (h : Heap) (L : List Loc) : Prop := ∃ (r : Int32), v = some (.int r) ∧ Fr n0 L ∧ ((p2.toInt ≤ p1.toInt ∧ r = p1) ∨ (p1.toInt ≤ p2.toInt ∧ r = p2)) ∧ h = h0
theorem rm55 (l : Launch) (Z : State) (a0 : Array Value) (hw : own_hw a0 Z) (p1 p2 : Int32) (h0 : Heap) (n0 : Nat) (Z0 : n0 ≤ h0.size)  :
 own_M l ym55 [Jvm.Cond.code ym55 cm55 2 (some .int)] (⟨0, 0, 0, 0⟩ : Room) #[(.int p1), (.int p2)] Z h0 (Q55 Z p1 p2 h0 n0) := by
 refine own_go n0 (F := fun m => mkF m 0 #[sI p1, sI p2] []) (Jvm.Free.JP.mathPlain rfl (by decide +kernel)) (fun m => rfl) ?_
 intro p e s m below meth c sq Pq hR hx hby hml hown hnm hZ hh hlk X0 e0 N0 pre0
 have P1 : ∀ t, Steps p.tables e below (sq.setTop (mkF m 2 #[sI p1, sI p2] [(.int p2), (.int p1)])) t → Pq t := fun t k => pre0 t (by
  refine qiN X0 hx (dt55 hby 0 rfl :) rfl ?_
  refine qiN X0 hx (dt55 hby 1 rfl :) rfl ?_
  exact k)
 by_cases hc2_2 : p1 < p2
 ·
  refine own_fin X0 hlk (v := some (.int p2)) (own_nv hR) (by decide) (by decide) ?_ (fun fs hrt => P1 _ ?_)
  ·
   show Q55 Z p1 p2 h0 n0 _ sq.heap _
   rw [e0]
   exact ⟨p2, rfl, N0, Or.inr ⟨own_q15 p1 p2 hc2_2, rfl⟩, rfl⟩
  refine qmY X0 hx 2 9 (dt55 hby 2 rfl :) (tlt hc2_2).1 (by decide) (by decide) ?_
  refine qiN X0 hx (dt55 hby 3 rfl :) rfl ?_
  exact retI X0 hx hR (dt55 hby 4 rfl :) hrt
 ·
  refine own_fin X0 hlk (v := some (.int p1)) (own_nv hR) (by decide) (by decide) ?_ (fun fs hrt => P1 _ ?_)
  ·
   show Q55 Z p1 p2 h0 n0 _ sq.heap _
   rw [e0]
   exact ⟨p1, rfl, N0, Or.inl ⟨own_q16 p1 p2 hc2_2, rfl⟩, rfl⟩
  refine qmN X0 hx (dt55 hby 2 rfl :) (flt hc2_2).1 ?_
  refine qiN X0 hx (dt55 hby 5 rfl :) rfl ?_
  refine qg X0 hx 6 10 (dt55 hby 6 rfl :) (by decide) (by decide) ?_
  exact retI X0 hx hR (dt55 hby 4 rfl :) hrt
theorem own_q17 (p2 : Int32) (p1 : Int32) (hc2_2 : p2 < p1) : p1.toInt ≥ p2.toInt := by
  simp only [Int32.lt_iff_toInt_lt, ← Int32.toInt_inj, own_esc, own_ch] at *
  omega
theorem own_q18 (p2 : Int32) (p1 : Int32) (hc2_2 : ¬ (p2 < p1)) : p2.toInt ≥ p1.toInt := by
  simp only [Int32.lt_iff_toInt_lt, ← Int32.toInt_inj, own_esc, own_ch] at *
  omega
def Q62 (Z : State) (p1 p2 : Int32) (h0 : Heap) (n0 : Nat) (v : Option Value) (h : Heap) (L : List Loc) : Prop := ∃ (r : Int32), v = some (.int r) ∧ Fr n0 L ∧ ((p2.toInt ≥ p1.toInt ∧ r = p1) ∨ (p1.toInt ≥ p2.toInt ∧ r = p2)) ∧ h = h0
theorem rm62 (l : Launch) (Z : State) (a0 : Array Value) (hw : own_hw a0 Z) (p1 p2 : Int32) (h0 : Heap) (n0 : Nat) (Z0 : n0 ≤ h0.size)  :
 own_M l ym62 [Jvm.Cond.code ym62 cm62 2 (some .int)] (⟨0, 0, 0, 0⟩ : Room) #[(.int p1), (.int p2)] Z h0 (Q62 Z p1 p2 h0 n0) := by
 refine own_go n0 (F := fun m => mkF m 0 #[sI p1, sI p2] []) (Jvm.Free.JP.mathPlain rfl (by decide +kernel)) (fun m => rfl) ?_
 intro p e s m below meth c sq Pq hR hx hby hml hown hnm hZ hh hlk X0 e0 N0 pre0
 have P1 : ∀ t, Steps p.tables e below (sq.setTop (mkF m 2 #[sI p1, sI p2] [(.int p2), (.int p1)])) t → Pq t := fun t k => pre0 t (by
  refine qiN X0 hx (dt62 hby 0 rfl :) rfl ?_
  refine qiN X0 hx (dt62 hby 1 rfl :) rfl ?_
  exact k)
 by_cases hc2_2 : p2 < p1
 ·
  refine own_fin X0 hlk (v := some (.int p2)) (own_nv hR) (by decide) (by decide) ?_ (fun fs hrt => P1 _ ?_)
  ·
   show Q62 Z p1 p2 h0 n0 _ sq.heap _
   rw [e0]
   exact ⟨p2, rfl, N0, Or.inr ⟨own_q17 p2 p1 hc2_2, rfl⟩, rfl⟩
  refine qmY X0 hx 2 9 (dt62 hby 2 rfl :) (tlt hc2_2).2.2.1 (by decide) (by decide) ?_
  refine qiN X0 hx (dt62 hby 3 rfl :) rfl ?_
  exact retI X0 hx hR (dt62 hby 4 rfl :) hrt
 ·
  refine own_fin X0 hlk (v := some (.int p1)) (own_nv hR) (by decide) (by decide) ?_ (fun fs hrt => P1 _ ?_)
  ·
   show Q62 Z p1 p2 h0 n0 _ sq.heap _
   rw [e0]
   exact ⟨p1, rfl, N0, Or.inl ⟨own_q18 p2 p1 hc2_2, rfl⟩, rfl⟩
  refine qmN X0 hx (dt62 hby 2 rfl :) (flt hc2_2).2.2.1 ?_
  refine qiN X0 hx (dt62 hby 5 rfl :) rfl ?_
  refine qg X0 hx 6 10 (dt62 hby 6 rfl :) (by decide) (by decide) ?_
  exact retI X0 hx hR (dt62 hby 4 rfl :) hrt
theorem pn_3 : plainName "jdk/internal/util/Preconditions" = true := by first | (simp [plainName, overriddenIn]; done) | decide +kernel
def Q25 (Z : State) (w : Value) (i n : Nat) (h0 : Heap) (n0 : Nat) (v : Option Value) (h : Heap) (L : List Loc) : Prop := v = some (.int (Int32.ofNat i)) ∧ Fr n0 L ∧ h = h0
theorem rm25 (l : Launch) (Z : State) (a0 : Array Value) (hw : own_hw a0 Z) (w : Value) (i n : Nat) (h0 : Heap) (n0 : Nat) (Z0 : n0 ≤ h0.size) (hw_w : (own_rn w)) (h1 : (i < n)) (h2 : (n < 50000)) :
 own_M l ym25 [Jvm.Cond.code ym25 cm25 3 (some .int)] (⟨0, 0, 0, 0⟩ : Room) #[(.int (Int32.ofNat i)), (.int (Int32.ofNat n)), w] Z h0 (Q25 Z w i n h0 n0) := by
 refine own_go n0 (F := fun m => mkF m 0 #[sI (Int32.ofNat i), sI (Int32.ofNat n), .val w] []) (plainFor_of_name pn_3) (fun m => by rcases hw_w with rfl | ⟨a, rfl⟩ <;> first | (simp [entryFrame, mkF, argsToLocals, Value.category]; done) | rfl) ?_
 intro p e s m below meth c sq Pq hR hx hby hml hown hnm hZ hh hlk X0 e0 N0 pre0
 have hc1_1 : ¬ ((Int32.ofNat i) < (0 : Int32)) := own_i0 (by omega)
 have hc6_2 : (Int32.ofNat i) < (Int32.ofNat n) := own_ilt (by omega) (by omega) h1
 refine own_fin X0 hlk (v := some (.int (Int32.ofNat i))) (own_nv hR) (by decide) (by decide) ?_ (fun fs hrt => pre0 _ ?_)
 ·
  show Q25 Z w i n h0 n0 _ sq.heap _
  rw [e0]
  exact ⟨rfl, N0, rfl⟩
 refine qiN X0 hx (dt25 hby 0 rfl :) rfl ?_
 refine qfN X0 hx (dt25 hby 1 rfl :) ((if0 _ _).trans (flt hc1_1).1) ?_
 refine qiN X0 hx (dt25 hby 2 rfl :) rfl ?_
 refine qiN X0 hx (dt25 hby 3 rfl :) rfl ?_
 refine qmY X0 hx 6 16 (dt25 hby 4 rfl :) (tlt hc6_2).1 (by decide) (by decide) ?_
 refine qiN X0 hx (dt25 hby 5 rfl :) rfl ?_
 exact retI X0 hx hR (dt25 hby 6 rfl :) hrt
theorem pn_4 : plainName "java/lang/String" = true := by first | (simp [plainName, overriddenIn]; done) | decide +kernel
theorem pd_1 : parseMethodDescriptor "(IILjava/util/function/BiFunction;)I" = some ⟨[.int, .int, (.object "java/util/function/BiFunction")], some .int⟩ := by decide +kernel
def Q24 (Z : State) (i n : Nat) (cs : Int32) (sv : Value) (dg : Addr) (h0 : Heap) (n0 : Nat) (v : Option Value) (h : Heap) (L : List Loc) : Prop := v = none ∧ Fr n0 L ∧ h = h0
theorem rm24 (l : Launch) (Z : State) (a0 : Array Value) (hw : own_hw a0 Z) (i n : Nat) (cs : Int32) (sv : Value) (dg : Addr) (h0 : Heap) (n0 : Nat) (Z0 : n0 ≤ h0.size) (h1 : (i < n)) (h2 : (n < 50000)) (hS : (own_ST Z cs sv dg)) (HO : Old Z n0 h0) :
 own_M l ym24 [Jvm.Cond.code ym24 cm24 2 none] (⟨1, 0, 0, 14⟩ : Room) #[(.int (Int32.ofNat i)), (.int (Int32.ofNat n))] Z h0 (Q24 Z i n cs sv dg h0 n0) := by
 refine own_go n0 (F := fun m => mkF m 0 #[sI (Int32.ofNat i), sI (Int32.ofNat n)] []) (plainFor_of_name pn_4) (fun m => rfl) ?_
 intro p e s m below meth c sq Pq hR hx hby hml hown hnm hZ hh hlk X0 e0 N0 pre0
 have F1 : Sta Z h0 "jdk/internal/util/Preconditions" "SIOOBE_FORMATTER" "Ljava/util/function/BiFunction;" sv := (hS.2.1.1).ext HO.2
 obtain ⟨T2, X2, e2, st2⟩ := getS2 X0 hx hZ hown (host := "") (Or.inl (hw _ (wi 133 rfl))) Via.refl e0 F1 (g := (mkF m 2 #[sI (Int32.ofNat i), sI (Int32.ofNat n)] [(.int (Int32.ofNat n)), (.int (Int32.ofNat i))])) rfl (dt24 hby 2 rfl :)
 obtain ⟨_, _, ⟨T6, L6, k6, n6⟩, -, X6, ⟨Lc6, hQ6, l6, y6, z6⟩, st6⟩ := Jvm.LawKit.callS X2 hx (y := ym25) hown (mw hZ hw 135 rfl) (mw hZ hw 136 rfl) (mw hZ hw 134 rfl) (mw hZ hw 137 rfl) (by decide) (backOf (W := 0) (rm25 l Z a0 hw sv i n h0 n0 Z0 hS.2.1.2 (by omega) (by omega)) hZ (hw _ (wi 137 rfl)) (hw _ (wi 134 rfl)) (by decide) (by decide)) (g := (mkF m 5 #[sI (Int32.ofNat i), sI (Int32.ofNat n)] [sv, (.int (Int32.ofNat n)), (.int (Int32.ofNat i))])) rfl (by rw [hml]; rfl) (argsL := [(.int (Int32.ofNat i)), (.int (Int32.ofNat n)), sv]) (rest := []) (lenOf pd_1 rfl) rfl (Nat.le_refl _) (dt24 hby 3 rfl :) (fun _ _ => ⟨rfl, e2, (by decide : 0 + 0 ≤ _), (by decide : 0 + 0 ≤ _)⟩)
 dsimp only [Pt.U, Pt.locs, Pt.cells, Pt.slots] at X6 l6 y6 z6 st6 hQ6
 subst l6 y6 z6
 obtain ⟨rfl, N6q, R7⟩ := hQ6
 have N6 := Fr.app N0 N6q
 refine own_fin X6 hlk (v := none) (fun _ => rfl) (by decide) (by decide) ?_ (fun fs hrt => pre0 _ ?_)
 ·
  show Q24 Z i n cs sv dg h0 n0 _ T6.heap _
  rw [R7]
  exact ⟨rfl, N6, rfl⟩
 refine qiN X0 hx (dt24 hby 0 rfl :) rfl ?_
 refine qiN X0 hx (dt24 hby 1 rfl :) rfl ?_
 refine st2 _ ?_
 refine st6 _ ?_
 refine XS.pop X6.here hx rfl (dt24 hby 4 rfl :) rfl rfl ?_
 exact X6.returnOut hx hR (dt24 hby 5 rfl :) hrt
theorem pn_5 : plainName "java/lang/StringUTF16" = true := by first | (simp [plainName, overriddenIn]; done) | decide +kernel
def Q41 (Z : State) (b : Addr) (n : Nat) (f : Nat → Int32) (h0 : Heap) (n0 : Nat) (v : Option Value) (h : Heap) (L : List Loc) : Prop := v = some (.int (Int32.ofNat n)) ∧ Fr n0 L ∧ h = h0
theorem rm41 (l : Launch) (Z : State) (a0 : Array Value) (hw : own_hw a0 Z) (b : Addr) (n : Nat) (f : Nat → Int32) (h0 : Heap) (n0 : Nat) (Z0 : n0 ≤ h0.size) (HB0 : own_Af Z h0 b .byte (Int32.ofNat (2 * n)) f) (h2 : (n < 50000)) :
 own_M l ym41 [Jvm.Cond.code ym41 cm41 1 (some .int)] (⟨0, 0, 0, 0⟩ : Room) #[(.ref b)] Z h0 (Q41 Z b n f h0 n0) := by
 refine own_go n0 (F := fun m => mkF m 0 #[sR b] []) (plainFor_of_name pn_5) (fun m => rfl) ?_
 intro p e s m below meth c sq Pq hR hx hby hml hown hnm hZ hh hlk X0 e0 N0 pre0
 obtain ⟨co1, Ao1, So1, Mo1, Bo1, Go1⟩ := HB0.op
 refine own_fin X0 hlk (v := some (.int (Int32.ofNat n))) (own_nv hR) (by decide) (by decide) ?_ (fun fs hrt => pre0 _ ?_)
 ·
  show Q41 Z b n f h0 n0 _ sq.heap _
  rw [e0]
  exact ⟨rfl, N0, rfl⟩
 refine qaN X0 hx (dt41 hby 0 rfl :) rfl rfl ?_
 refine X0.arraylength hx (by rw [e0]; exact Ao1.1) (State.isArrayOf_alike hZ.alike Ao1.2.1) (g := (mkF m 1 #[sR b] [(.ref b)])) rfl rfl (dt41 hby 1 rfl :) _ ?_
 rw [len_of So1 Mo1]
 refine qc X0 hx (1 : Int32) (dt41 hby 2 rfl :) rfl ?_
 refine XS.ishr X0.here hx rfl (dt41 hby 3 rfl :) rfl ?_
 rw [show ((Int32.ofNat (2 * n)) >>> ((1 : Int32) &&& 31)) = (Int32.ofNat n) from own_shr1 h2]
 exact retI X0 hx hR (dt41 hby 4 rfl :) hrt
theorem pd_2 : parseMethodDescriptor "([B)I" = some ⟨[(.array .byte)], some .int⟩ := by decide +kernel
theorem pd_3 : parseMethodDescriptor "(II)V" = some ⟨[.int, .int], none⟩ := by decide +kernel
def Q40 (Z : State) (b : Addr) (i n : Nat) (f : Nat → Int32) (cs : Int32) (sv : Value) (dg : Addr) (h0 : Heap) (n0 : Nat) (v : Option Value) (h : Heap) (L : List Loc) : Prop := v = none ∧ Fr n0 L ∧ h = h0
theorem rm40 (l : Launch) (Z : State) (a0 : Array Value) (hw : own_hw a0 Z) (b : Addr) (i n : Nat) (f : Nat → Int32) (cs : Int32) (sv : Value) (dg : Addr) (h0 : Heap) (n0 : Nat) (Z0 : n0 ≤ h0.size) (HB0 : own_Af Z h0 b .byte (Int32.ofNat (2 * n)) f) (h1 : (i < n)) (h2 : (n < 50000)) (hS : (own_ST Z cs sv dg)) (HO : Old Z n0 h0) :
 own_M l ym40 [Jvm.Cond.code ym40 cm40 2 none] (⟨2, 0, 0, 27⟩ : Room) #[(.int (Int32.ofNat i)), (.ref b)] Z h0 (Q40 Z b i n f cs sv dg h0 n0) := by
 refine own_go n0 (F := fun m => mkF m 0 #[sI (Int32.ofNat i), sR b] []) (plainFor_of_name pn_5) (fun m => rfl) ?_
 intro p e s m below meth c sq Pq hR hx hby hml hown hnm hZ hh hlk X0 e0 N0 pre0
 obtain ⟨_, _, ⟨T2, L2, k2, n2⟩, -, X2, ⟨Lc2, hQ2, l2, y2, z2⟩, st2⟩ := Jvm.LawKit.callS X0 hx (y := ym41) hown (mw hZ hw 195 rfl) (mw hZ hw 196 rfl) (mw hZ hw 108 rfl) (mw hZ hw 197 rfl) (by decide) (backOf (W := 1) (rm41 l Z a0 hw b n f h0 n0 Z0 HB0 (by omega)) hZ (hw _ (wi 197 rfl)) (hw _ (wi 108 rfl)) (by decide) (by decide)) (g := (mkF m 2 #[sI (Int32.ofNat i), sR b] [(.ref b), (.int (Int32.ofNat i))])) rfl (by rw [hml]; rfl) (argsL := [(.ref b)]) (rest := [(.int (Int32.ofNat i))]) (lenOf pd_2 rfl) rfl (Nat.le_refl _) (dt40 hby 2 rfl :) (fun _ _ => ⟨rfl, e0, (by decide : 0 + 0 ≤ _), (by decide : 0 + 0 ≤ _)⟩)
 dsimp only [Pt.U, Pt.locs, Pt.cells, Pt.slots] at X2 l2 y2 z2 st2 hQ2
 subst l2 y2 z2
 obtain ⟨rfl, N2q, R3⟩ := hQ2
 have N2 := Fr.app N0 N2q
 obtain ⟨_, _, ⟨T6, L6, k6, n6⟩, -, X6, ⟨Lc6, hQ6, l6, y6, z6⟩, st6⟩ := Jvm.LawKit.callS X2 hx (y := ym24) hown (mw hZ hw 198 rfl) (mw hZ hw 131 rfl) (mw hZ hw 5 rfl) (mw hZ hw 132 rfl) (by decide) (backOf (W := 0) (rm24 l Z a0 hw i n cs sv dg h0 n0 Z0 (by omega) (by omega) hS HO) hZ (hw _ (wi 132 rfl)) (hw _ (wi 5 rfl)) (by decide) (by decide)) (g := (mkF m 5 #[sI (Int32.ofNat i), sR b] [(.int (Int32.ofNat n)), (.int (Int32.ofNat i))])) rfl (by rw [hml]; rfl) (argsL := [(.int (Int32.ofNat i)), (.int (Int32.ofNat n))]) (rest := []) (lenOf pd_3 rfl) rfl (Nat.le_refl _) (dt40 hby 3 rfl :) (fun _ _ => ⟨rfl, R3, (by decide : 0 + 0 ≤ _), (by decide : 0 + 0 ≤ _)⟩)
 dsimp only [Pt.U, Pt.locs, Pt.cells, Pt.slots] at X6 l6 y6 z6 st6 hQ6
 subst l6 y6 z6
 obtain ⟨rfl, N6q, R7⟩ := hQ6
 have N6 := Fr.app N2 N6q
 refine own_fin X6 hlk (v := none) (fun _ => rfl) (by decide) (by decide) ?_ (fun fs hrt => pre0 _ ?_)
 ·
  show Q40 Z b i n f cs sv dg h0 n0 _ T6.heap _
  rw [R7]
  exact ⟨rfl, N6, rfl⟩
 refine qiN X0 hx (dt40 hby 0 rfl :) rfl ?_
 refine qaN X0 hx (dt40 hby 1 rfl :) rfl rfl ?_
 refine st2 _ ?_
 refine st6 _ ?_
 exact X6.returnOut hx hR (dt40 hby 4 rfl :) hrt
theorem own_or3 {a b c : Nat} (ha : a < 100000) (hb : b < 100000) (hc : c < 100000) : ¬ (((Int32.ofNat a ||| Int32.ofNat b) ||| Int32.ofNat c) < (0 : Int32)) := by
  have e0 : (0 : Int32).toInt = 0 := rfl
  have q1 := (c_orS (Int32.ofNat a) (Int32.ofNat b)).1 (by rw [own_i ha]; omega) (by rw [own_i hb]; omega)
  have q2 := (c_orS (Int32.ofNat a ||| Int32.ofNat b) (Int32.ofNat c)).1 q1 (by rw [own_i hc]; omega)
  rw [Int32.lt_iff_toInt_lt, e0]
  omega
def Q47 (Z : State) (w : Value) (i q n : Nat) (h0 : Heap) (n0 : Nat) (v : Option Value) (h : Heap) (L : List Loc) : Prop := v = some (.int (Int32.ofNat i)) ∧ Fr n0 L ∧ h = h0
theorem rm47 (l : Launch) (Z : State) (a0 : Array Value) (hw : own_hw a0 Z) (w : Value) (i q n : Nat) (h0 : Heap) (n0 : Nat) (Z0 : n0 ≤ h0.size) (hw_w : (own_rn w)) (h1 : (i + q ≤ n)) (h2 : (n < 50000)) :
 own_M l ym47 [Jvm.Cond.code ym47 cm47 4 (some .int)] (⟨0, 0, 0, 0⟩ : Room) #[(.int (Int32.ofNat i)), (.int (Int32.ofNat q)), (.int (Int32.ofNat n)), w] Z h0 (Q47 Z w i q n h0 n0) := by
 refine own_go n0 (F := fun m => mkF m 0 #[sI (Int32.ofNat i), sI (Int32.ofNat q), sI (Int32.ofNat n), .val w] []) (plainFor_of_name pn_3) (fun m => by rcases hw_w with rfl | ⟨a, rfl⟩ <;> first | (simp [entryFrame, mkF, argsToLocals, Value.category]; done) | rfl) ?_
 intro p e s m below meth c sq Pq hR hx hby hml hown hnm hZ hh hlk X0 e0 N0 pre0
 have hc5_1 : ¬ ((((Int32.ofNat n) ||| (Int32.ofNat i)) ||| (Int32.ofNat q)) < (0 : Int32)) := own_or3 (by omega) (by omega) (by omega)
 have hc12_2 : ¬ ((Int32.ofNat (n - i)) < (Int32.ofNat q)) := own_inlt (by omega) (by omega) (by omega)
 refine own_fin X0 hlk (v := some (.int (Int32.ofNat i))) (own_nv hR) (by decide) (by decide) ?_ (fun fs hrt => pre0 _ ?_)
 ·
  show Q47 Z w i q n h0 n0 _ sq.heap _
  rw [e0]
  exact ⟨rfl, N0, rfl⟩
 refine qiN X0 hx (dt47 hby 0 rfl :) rfl ?_
 refine qiN X0 hx (dt47 hby 1 rfl :) rfl ?_
 refine XS.ior X0.here hx rfl (dt47 hby 2 rfl :) rfl ?_
 refine qiN X0 hx (dt47 hby 3 rfl :) rfl ?_
 refine XS.ior X0.here hx rfl (dt47 hby 4 rfl :) rfl ?_
 refine qfN X0 hx (dt47 hby 5 rfl :) ((if0 _ _).trans (flt hc5_1).1) ?_
 refine qiN X0 hx (dt47 hby 6 rfl :) rfl ?_
 refine qiN X0 hx (dt47 hby 7 rfl :) rfl ?_
 refine qiN X0 hx (dt47 hby 8 rfl :) rfl ?_
 refine XS.isub X0.here hx rfl (dt47 hby 9 rfl :) rfl ?_
 rw [show ((Int32.ofNat n) - (Int32.ofNat i)) = (Int32.ofNat (n - i)) from own_isub (by omega)]
 refine qmY X0 hx 12 23 (dt47 hby 10 rfl :) (flt hc12_2).2.2.2 (by decide) (by decide) ?_
 refine qiN X0 hx (dt47 hby 11 rfl :) rfl ?_
 exact retI X0 hx hR (dt47 hby 12 rfl :) hrt
theorem pd_4 : parseMethodDescriptor "(IIILjava/util/function/BiFunction;)I" = some ⟨[.int, .int, .int, (.object "java/util/function/BiFunction")], some .int⟩ := by decide +kernel
def Q46 (Z : State) (i q n : Nat) (cs : Int32) (sv : Value) (dg : Addr) (h0 : Heap) (n0 : Nat) (v : Option Value) (h : Heap) (L : List Loc) : Prop := v = some (.int (Int32.ofNat i)) ∧ Fr n0 L ∧ h = h0
theorem rm46 (l : Launch) (Z : State) (a0 : Array Value) (hw : own_hw a0 Z) (i q n : Nat) (cs : Int32) (sv : Value) (dg : Addr) (h0 : Heap) (n0 : Nat) (Z0 : n0 ≤ h0.size) (h1 : (i + q ≤ n)) (h2 : (n < 50000)) (hS : (own_ST Z cs sv dg)) (HO : Old Z n0 h0) :
 own_M l ym46 [Jvm.Cond.code ym46 cm46 3 (some .int)] (⟨1, 0, 0, 15⟩ : Room) #[(.int (Int32.ofNat i)), (.int (Int32.ofNat q)), (.int (Int32.ofNat n))] Z h0 (Q46 Z i q n cs sv dg h0 n0) := by
 refine own_go n0 (F := fun m => mkF m 0 #[sI (Int32.ofNat i), sI (Int32.ofNat q), sI (Int32.ofNat n)] []) (plainFor_of_name pn_4) (fun m => rfl) ?_
 intro p e s m below meth c sq Pq hR hx hby hml hown hnm hZ hh hlk X0 e0 N0 pre0
 have F1 : Sta Z h0 "jdk/internal/util/Preconditions" "SIOOBE_FORMATTER" "Ljava/util/function/BiFunction;" sv := (hS.2.1.1).ext HO.2
 obtain ⟨T2, X2, e2, st2⟩ := getS2 X0 hx hZ hown (host := "") (Or.inl (hw _ (wi 133 rfl))) Via.refl e0 F1 (g := (mkF m 3 #[sI (Int32.ofNat i), sI (Int32.ofNat q), sI (Int32.ofNat n)] [(.int (Int32.ofNat n)), (.int (Int32.ofNat q)), (.int (Int32.ofNat i))])) rfl (dt46 hby 3 rfl :)
 obtain ⟨_, _, ⟨T6, L6, k6, n6⟩, -, X6, ⟨Lc6, hQ6, l6, y6, z6⟩, st6⟩ := Jvm.LawKit.callS X2 hx (y := ym47) hown (mw hZ hw 217 rfl) (mw hZ hw 218 rfl) (mw hZ hw 134 rfl) (mw hZ hw 219 rfl) (by decide) (backOf (W := 0) (rm47 l Z a0 hw sv i q n h0 n0 Z0 hS.2.1.2 (by omega) (by omega)) hZ (hw _ (wi 219 rfl)) (hw _ (wi 134 rfl)) (by decide) (by decide)) (g := (mkF m 6 #[sI (Int32.ofNat i), sI (Int32.ofNat q), sI (Int32.ofNat n)] [sv, (.int (Int32.ofNat n)), (.int (Int32.ofNat q)), (.int (Int32.ofNat i))])) rfl (by rw [hml]; rfl) (argsL := [(.int (Int32.ofNat i)), (.int (Int32.ofNat q)), (.int (Int32.ofNat n)), sv]) (rest := []) (lenOf pd_4 rfl) rfl (Nat.le_refl _) (dt46 hby 4 rfl :) (fun _ _ => ⟨rfl, e2, (by decide : 0 + 0 ≤ _), (by decide : 0 + 0 ≤ _)⟩)
 dsimp only [Pt.U, Pt.locs, Pt.cells, Pt.slots] at X6 l6 y6 z6 st6 hQ6
 subst l6 y6 z6
 obtain ⟨rfl, N6q, R7⟩ := hQ6
 have N6 := Fr.app N0 N6q
 refine own_fin X6 hlk (v := some (.int (Int32.ofNat i))) (own_nv hR) (by decide) (by decide) ?_ (fun fs hrt => pre0 _ ?_)
 ·
  show Q46 Z i q n cs sv dg h0 n0 _ T6.heap _
  rw [R7]
  exact ⟨rfl, N6, rfl⟩
 refine qiN X0 hx (dt46 hby 0 rfl :) rfl ?_
 refine qiN X0 hx (dt46 hby 1 rfl :) rfl ?_
 refine qiN X0 hx (dt46 hby 2 rfl :) rfl ?_
 refine st2 _ ?_
 refine st6 _ ?_
 exact retI X6 hx hR (dt46 hby 5 rfl :) hrt
theorem pd_5 : parseMethodDescriptor "(III)I" = some ⟨[.int, .int, .int], some .int⟩ := by decide +kernel
def Q45 (Z : State) (b : Addr) (i q n : Nat) (f : Nat → Int32) (cs : Int32) (sv : Value) (dg : Addr) (h0 : Heap) (n0 : Nat) (v : Option Value) (h : Heap) (L : List Loc) : Prop := v = none ∧ Fr n0 L ∧ h = h0
theorem rm45 (l : Launch) (Z : State) (a0 : Array Value) (hw : own_hw a0 Z) (b : Addr) (i q n : Nat) (f : Nat → Int32) (cs : Int32) (sv : Value) (dg : Addr) (h0 : Heap) (n0 : Nat) (Z0 : n0 ≤ h0.size) (HB0 : own_Af Z h0 b .byte (Int32.ofNat (2 * n)) f) (h1 : (i + q ≤ n)) (h2 : (n < 50000)) (hS : (own_ST Z cs sv dg)) (HO : Old Z n0 h0) :
 own_M l ym45 [Jvm.Cond.code ym45 cm45 3 none] (⟨2, 0, 0, 29⟩ : Room) #[(.int (Int32.ofNat i)), (.int (Int32.ofNat q)), (.ref b)] Z h0 (Q45 Z b i q n f cs sv dg h0 n0) := by
 refine own_go n0 (F := fun m => mkF m 0 #[sI (Int32.ofNat i), sI (Int32.ofNat q), sR b] []) (plainFor_of_name pn_5) (fun m => rfl) ?_
 intro p e s m below meth c sq Pq hR hx hby hml hown hnm hZ hh hlk X0 e0 N0 pre0
 obtain ⟨_, _, ⟨T2, L2, k2, n2⟩, -, X2, ⟨Lc2, hQ2, l2, y2, z2⟩, st2⟩ := Jvm.LawKit.callS X0 hx (y := ym41) hown (mw hZ hw 195 rfl) (mw hZ hw 196 rfl) (mw hZ hw 108 rfl) (mw hZ hw 197 rfl) (by decide) (backOf (W := 2) (rm41 l Z a0 hw b n f h0 n0 Z0 HB0 (by omega)) hZ (hw _ (wi 197 rfl)) (hw _ (wi 108 rfl)) (by decide) (by decide)) (g := (mkF m 3 #[sI (Int32.ofNat i), sI (Int32.ofNat q), sR b] [(.ref b), (.int (Int32.ofNat q)), (.int (Int32.ofNat i))])) rfl (by rw [hml]; rfl) (argsL := [(.ref b)]) (rest := [(.int (Int32.ofNat q)), (.int (Int32.ofNat i))]) (lenOf pd_2 rfl) rfl (Nat.le_refl _) (dt45 hby 3 rfl :) (fun _ _ => ⟨rfl, e0, (by decide : 0 + 0 ≤ _), (by decide : 0 + 0 ≤ _)⟩)
 dsimp only [Pt.U, Pt.locs, Pt.cells, Pt.slots] at X2 l2 y2 z2 st2 hQ2
 subst l2 y2 z2
 obtain ⟨rfl, N2q, R3⟩ := hQ2
 have N2 := Fr.app N0 N2q
 obtain ⟨_, _, ⟨T6, L6, k6, n6⟩, -, X6, ⟨Lc6, hQ6, l6, y6, z6⟩, st6⟩ := Jvm.LawKit.callS X2 hx (y := ym46) hown (mw hZ hw 214 rfl) (mw hZ hw 215 rfl) (mw hZ hw 5 rfl) (mw hZ hw 216 rfl) (by decide) (backOf (W := 0) (rm46 l Z a0 hw i q n cs sv dg h0 n0 Z0 (by omega) (by omega) hS HO) hZ (hw _ (wi 216 rfl)) (hw _ (wi 5 rfl)) (by decide) (by decide)) (g := (mkF m 6 #[sI (Int32.ofNat i), sI (Int32.ofNat q), sR b] [(.int (Int32.ofNat n)), (.int (Int32.ofNat q)), (.int (Int32.ofNat i))])) rfl (by rw [hml]; rfl) (argsL := [(.int (Int32.ofNat i)), (.int (Int32.ofNat q)), (.int (Int32.ofNat n))]) (rest := []) (lenOf pd_5 rfl) rfl (Nat.le_refl _) (dt45 hby 4 rfl :) (fun _ _ => ⟨rfl, R3, (by decide : 0 + 0 ≤ _), (by decide : 0 + 0 ≤ _)⟩)
 dsimp only [Pt.U, Pt.locs, Pt.cells, Pt.slots] at X6 l6 y6 z6 st6 hQ6
 subst l6 y6 z6
 obtain ⟨rfl, N6q, R7⟩ := hQ6
 have N6 := Fr.app N2 N6q
 refine own_fin X6 hlk (v := none) (fun _ => rfl) (by decide) (by decide) ?_ (fun fs hrt => pre0 _ ?_)
 ·
  show Q45 Z b i q n f cs sv dg h0 n0 _ T6.heap _
  rw [R7]
  exact ⟨rfl, N6, rfl⟩
 refine qiN X0 hx (dt45 hby 0 rfl :) rfl ?_
 refine qiN X0 hx (dt45 hby 1 rfl :) rfl ?_
 refine qaN X0 hx (dt45 hby 2 rfl :) rfl rfl ?_
 refine st2 _ ?_
 refine st6 _ ?_
 refine XS.pop X6.here hx rfl (dt45 hby 5 rfl :) rfl rfl ?_
 exact X6.returnOut hx hR (dt45 hby 6 rfl :) hrt
theorem own_lt30 {n : Nat} (h : n < 50000) : Int32.ofNat n < (1073741823 : Int32) := by
  rw [Int32.lt_iff_toInt_lt, own_i (by omega)]
  have e : (1073741823 : Int32).toInt = 1073741823 := rfl
  omega
def Q36 (Z : State) (n : Nat) (h0 : Heap) (n0 : Nat) (v : Option Value) (h : Heap) (L : List Loc) : Prop := v = some (.int (Int32.ofNat (2 * n))) ∧ Fr n0 L ∧ h = h0
theorem rm36 (l : Launch) (Z : State) (a0 : Array Value) (hw : own_hw a0 Z) (n : Nat) (h0 : Heap) (n0 : Nat) (Z0 : n0 ≤ h0.size) (h2 : (n < 50000)) :
 own_M l ym36 [Jvm.Cond.code ym36 cm36 1 (some .int)] (⟨0, 0, 0, 0⟩ : Room) #[(.int (Int32.ofNat n))] Z h0 (Q36 Z n h0 n0) := by
 refine own_go n0 (F := fun m => mkF m 0 #[sI (Int32.ofNat n)] []) (plainFor_of_name pn_5) (fun m => rfl) ?_
 intro p e s m below meth c sq Pq hR hx hby hml hown hnm hZ hh hlk X0 e0 N0 pre0
 have hc1_1 : ¬ ((Int32.ofNat n) < (0 : Int32)) := own_i0 (by omega)
 have hc15_2 : (Int32.ofNat n) < (1073741823 : Int32) := own_lt30 h2
 refine own_fin X0 hlk (v := some (.int (Int32.ofNat (2 * n)))) (own_nv hR) (by decide) (by decide) ?_ (fun fs hrt => pre0 _ ?_)
 ·
  show Q36 Z n h0 n0 _ sq.heap _
  rw [e0]
  exact ⟨rfl, N0, rfl⟩
 refine qiN X0 hx (dt36 hby 0 rfl :) rfl ?_
 refine qfY X0 hx 1 12 (dt36 hby 1 rfl :) ((if0 _ _).trans (flt hc1_1).2.1) (by decide) (by decide) ?_
 refine qiN X0 hx (dt36 hby 2 rfl :) rfl ?_
 refine X0.ldcInt hx hown (mw hZ hw 179 rfl) (g := (mkF m 13 #[sI (Int32.ofNat n)] [(.int (Int32.ofNat n))])) rfl (dt36 hby 3 rfl :) _ ?_
 refine qmY X0 hx 15 55 (dt36 hby 4 rfl :) (tlt hc15_2).1 (by decide) (by decide) ?_
 refine qiN X0 hx (dt36 hby 5 rfl :) rfl ?_
 refine qc X0 hx (1 : Int32) (dt36 hby 6 rfl :) rfl ?_
 refine XS.ishl X0.here hx rfl (dt36 hby 7 rfl :) rfl ?_
 rw [show ((Int32.ofNat n) <<< ((1 : Int32) &&& 31)) = (Int32.ofNat (2 * n)) from own_shl1 h2]
 exact retI X0 hx hR (dt36 hby 8 rfl :) hrt
theorem pn_6 : plainName "java/util/Arrays" = true := by first | (simp [plainName, overriddenIn]; done) | decide +kernel
def Q69 (Z : State) (n : Nat) (h0 : Heap) (n0 : Nat) (v : Option Value) (h : Heap) (L : List Loc) : Prop := v = none ∧ Fr n0 L ∧ h = h0
theorem rm69 (l : Launch) (Z : State) (a0 : Array Value) (hw : own_hw a0 Z) (n : Nat) (h0 : Heap) (n0 : Nat) (Z0 : n0 ≤ h0.size) (h2 : (n < 50000)) :
 own_M l ym69 [Jvm.Cond.code ym69 cm69 2 none] (⟨0, 0, 0, 0⟩ : Room) #[(.int (0 : Int32)), (.int (Int32.ofNat n))] Z h0 (Q69 Z n h0 n0) := by
 refine own_go n0 (F := fun m => mkF m 0 #[sI (0 : Int32), sI (Int32.ofNat n)] []) (plainFor_of_name pn_6) (fun m => rfl) ?_
 intro p e s m below meth c sq Pq hR hx hby hml hown hnm hZ hh hlk X0 e0 N0 pre0
 have hc2_1 : ¬ ((Int32.ofNat n) < (0 : Int32)) := own_i0 (by omega)
 refine own_fin X0 hlk (v := none) (fun _ => rfl) (by decide) (by decide) ?_ (fun fs hrt => pre0 _ ?_)
 ·
  show Q69 Z n h0 n0 _ sq.heap _
  rw [e0]
  exact ⟨rfl, N0, rfl⟩
 refine qiN X0 hx (dt69 hby 0 rfl :) rfl ?_
 refine qiN X0 hx (dt69 hby 1 rfl :) rfl ?_
 refine qmY X0 hx 2 37 (dt69 hby 2 rfl :) (flt hc2_1).2.1 (by decide) (by decide) ?_
 exact X0.returnOut hx hR (dt69 hby 3 rfl :) hrt
theorem own_q19 (p1 : Int32) (h1 : 0 ≤ p1.toInt) (h2 : p1.toInt < 16) (hc3_2 : p1 < (10 : Int32)) : (p1.toInt < 10 → (nar .char (((48 : Int32) + p1).toUInt32.toUInt16.toUInt32.toInt32)).toInt = 48 + p1.toInt) ∧ (10 ≤ p1.toInt → (nar .char (((48 : Int32) + p1).toUInt32.toUInt16.toUInt32.toInt32)).toInt = 87 + p1.toInt) := by
  have n1 : ∀ x : Int32, nar .char x = x.toUInt32.toUInt16.toUInt32.toInt32 := fun _ => rfl
  rw [n1]
  have k1 := c_i2c ((48 : Int32) + p1)
  have k2 := c_i2c (((48 : Int32) + p1).toUInt32.toUInt16.toUInt32.toInt32)
  have k3 := c_iadd (48 : Int32) p1
  have k5 := rng32 ((97 : Int32) + p1)
  have k6 := rng32 (((97 : Int32) + p1) - (10 : Int32))
  have k7 := rng32 ((48 : Int32) + p1)
  have e10 : ((10 : Int32)).toInt = 10 := rfl
  have e48 : ((48 : Int32)).toInt = 48 := rfl
  simp only [Int32.lt_iff_toInt_lt, ← Int32.toInt_inj, own_esc, own_ch] at *
  omega
theorem own_q20 (p1 : Int32) (h1 : 0 ≤ p1.toInt) (h2 : p1.toInt < 16) (hc3_2 : ¬ (p1 < (10 : Int32))) : (p1.toInt < 10 → (nar .char ((((97 : Int32) + p1) - (10 : Int32)).toUInt32.toUInt16.toUInt32.toInt32)).toInt = 48 + p1.toInt) ∧ (10 ≤ p1.toInt → (nar .char ((((97 : Int32) + p1) - (10 : Int32)).toUInt32.toUInt16.toUInt32.toInt32)).toInt = 87 + p1.toInt) := by
  have n1 : ∀ x : Int32, nar .char x = x.toUInt32.toUInt16.toUInt32.toInt32 := fun _ => rfl
  rw [n1]
  have k1 := c_i2c (((97 : Int32) + p1) - (10 : Int32))
  have k2 := c_i2c ((((97 : Int32) + p1) - (10 : Int32)).toUInt32.toUInt16.toUInt32.toInt32)
  have k3 := c_iadd (97 : Int32) p1
  have k4 := c_isub ((97 : Int32) + p1) (10 : Int32)
  have k5 := rng32 ((97 : Int32) + p1)
  have k6 := rng32 (((97 : Int32) + p1) - (10 : Int32))
  have k7 := rng32 ((48 : Int32) + p1)
  have e10 : ((10 : Int32)).toInt = 10 := rfl
  have e97 : ((97 : Int32)).toInt = 97 := rfl
  simp only [Int32.lt_iff_toInt_lt, ← Int32.toInt_inj, own_esc, own_ch] at *
  omega
def Q70 (Z : State) (p1 : Int32) (h0 : Heap) (n0 : Nat) (v : Option Value) (h : Heap) (L : List Loc) : Prop := ∃ (r : Int32), v = some (.int r) ∧ Fr n0 L ∧ ((p1.toInt < 10 → r.toInt = 48 + p1.toInt) ∧ (10 ≤ p1.toInt → r.toInt = 87 + p1.toInt)) ∧ h = h0
theorem rm70 (l : Launch) (Z : State) (a0 : Array Value) (hw : own_hw a0 Z) (p1 : Int32) (h0 : Heap) (n0 : Nat) (Z0 : n0 ≤ h0.size) (h1 : (0 ≤ p1.toInt)) (h2 : (p1.toInt < 16)) :
 own_M l ym70 [Jvm.Cond.code ym70 cm70 1 (some .char)] (⟨0, 0, 0, 0⟩ : Room) #[(.int p1)] Z h0 (Q70 Z p1 h0 n0) := by
 refine own_go n0 (F := fun m => mkF m 0 #[sI p1] []) (plainFor_of_name pn_0) (fun m => rfl) ?_
 intro p e s m below meth c sq Pq hR hx hby hml hown hnm hZ hh hlk X0 e0 N0 pre0
 have P1 : ∀ t, Steps p.tables e below (sq.setTop (mkF m 3 #[sI p1] [(.int (10 : Int32)), (.int p1)])) t → Pq t := fun t k => pre0 t (by
  refine qiN X0 hx (dt70 hby 0 rfl :) rfl ?_
  refine qb X0 hx (10 : Int32) (dt70 hby 1 rfl :) rfl ?_
  exact k)
 by_cases hc3_2 : p1 < (10 : Int32)
 ·
  refine own_fin X0 hlk (v := some (.int (nar .char (((48 : Int32) + p1).toUInt32.toUInt16.toUInt32.toInt32)))) (own_nv hR) (by decide) (by decide) ?_ (fun fs hrt => P1 _ ?_)
  ·
   show Q70 Z p1 h0 n0 _ sq.heap _
   rw [e0]
   exact ⟨(nar .char (((48 : Int32) + p1).toUInt32.toUInt16.toUInt32.toInt32)), rfl, N0, own_q19 p1 h1 h2 hc3_2, rfl⟩
  refine qmN X0 hx (dt70 hby 2 rfl :) (tlt hc3_2).2.1 ?_
  refine qb X0 hx (48 : Int32) (dt70 hby 3 rfl :) rfl ?_
  refine qiN X0 hx (dt70 hby 4 rfl :) rfl ?_
  refine XS.iadd X0.here hx rfl (dt70 hby 5 rfl :) rfl ?_
  refine XS.i2c X0.here hx rfl (dt70 hby 6 rfl :) rfl ?_
  refine qg X0 hx 11 22 (dt70 hby 7 rfl :) (by decide) (by decide) ?_
  exact retN X0 hx (t := .char) hR (by simp) (dt70 hby 8 rfl :) hrt
 ·
  refine own_fin X0 hlk (v := some (.int (nar .char ((((97 : Int32) + p1) - (10 : Int32)).toUInt32.toUInt16.toUInt32.toInt32)))) (own_nv hR) (by decide) (by decide) ?_ (fun fs hrt => P1 _ ?_)
  ·
   show Q70 Z p1 h0 n0 _ sq.heap _
   rw [e0]
   exact ⟨(nar .char ((((97 : Int32) + p1) - (10 : Int32)).toUInt32.toUInt16.toUInt32.toInt32)), rfl, N0, own_q20 p1 h1 h2 hc3_2, rfl⟩
  refine qmY X0 hx 3 14 (dt70 hby 2 rfl :) (flt hc3_2).2.1 (by decide) (by decide) ?_
  refine qb X0 hx (97 : Int32) (dt70 hby 9 rfl :) rfl ?_
  refine qiN X0 hx (dt70 hby 10 rfl :) rfl ?_
  refine XS.iadd X0.here hx rfl (dt70 hby 11 rfl :) rfl ?_
  refine qb X0 hx (10 : Int32) (dt70 hby 12 rfl :) rfl ?_
  refine XS.isub X0.here hx rfl (dt70 hby 13 rfl :) rfl ?_
  refine XS.i2c X0.here hx rfl (dt70 hby 14 rfl :) rfl ?_
  exact retN X0 hx (t := .char) hR (by simp) (dt70 hby 8 rfl :) hrt
theorem pd_6 : parseMethodDescriptor "(I)I" = some ⟨[.int], some .int⟩ := by decide +kernel
def Q35 (Z : State) (n : Nat) (h0 : Heap) (n0 : Nat) (v : Option Value) (h : Heap) (L : List Loc) : Prop := ∃ (b : Addr), v = some (.ref b) ∧ Fr n0 L ∧ Keep h0 h [] ∧ n0 ≤ b ∧ h0.size ≤ b ∧ eA Z h b ∧ own_Af Z h b .byte (Int32.ofNat (2 * n)) (fun _ => (0 : Int32))
theorem rm35 (l : Launch) (Z : State) (a0 : Array Value) (hw : own_hw a0 Z) (n : Nat) (h0 : Heap) (n0 : Nat) (Z0 : n0 ≤ h0.size) (h2 : (n ≤ 36)) :
 own_M l ym35 [Jvm.Cond.code ym35 cm35 1 (some (.array .byte))] (⟨1, 1, 72, 12⟩ : Room) #[(.int (Int32.ofNat n))] Z h0 (Q35 Z n h0 n0) := by
 refine own_go n0 (F := fun m => mkF m 0 #[sI (Int32.ofNat n)] []) (plainFor_of_name pn_5) (fun m => rfl) ?_
 intro p e s m below meth c sq Pq hR hx hby hml hown hnm hZ hh hlk X0 e0 N0 pre0
 obtain ⟨_, _, ⟨T2, L2, k2, n2⟩, -, X2, ⟨Lc2, hQ2, l2, y2, z2⟩, st2⟩ := Jvm.LawKit.callS X0 hx (y := ym36) hown (mw hZ hw 176 rfl) (mw hZ hw 177 rfl) (mw hZ hw 108 rfl) (mw hZ hw 178 rfl) (by decide) (backOf (W := 0) (rm36 l Z a0 hw n h0 n0 Z0 (by omega)) hZ (hw _ (wi 178 rfl)) (hw _ (wi 108 rfl)) (by decide) (by decide)) (g := (mkF m 1 #[sI (Int32.ofNat n)] [(.int (Int32.ofNat n))])) rfl (by rw [hml]; rfl) (argsL := [(.int (Int32.ofNat n))]) (rest := []) (lenOf pd_6 rfl) rfl (Nat.le_refl _) (dt35 hby 1 rfl :) (fun _ _ => ⟨rfl, e0, (by decide : 0 + 0 ≤ _), (by decide : 0 + 0 ≤ _)⟩)
 dsimp only [Pt.U, Pt.locs, Pt.cells, Pt.slots] at X2 l2 y2 z2 st2 hQ2
 subst l2 y2 z2
 obtain ⟨rfl, N2q, R3⟩ := hQ2
 have N2 := Fr.app N0 N2q
 obtain ⟨T4, h4, k4, X4, e4, E4, A4, Y4, st4⟩ := newPE X2 hx hZ (hw _ (wi 7 rfl)) R3 (g := (mkF m 4 #[sI (Int32.ofNat n)] [(.int (Int32.ofNat (2 * n)))])) rfl (dt35 hby 2 rfl :) rfl (own_i0 (by omega)) (cap := 72) (by rw [own_in (by omega)]; omega) (by decide) (by decide) (by decide) (ad := "[B") (by decide)
 obtain ⟨b4, g4⟩ : ∃ z, z = h0.size := ⟨_, rfl⟩
 rw [← g4] at A4 st4 Y4
 have g_b4 : n0 ≤ b4 := Nat.le_trans Z0 (Nat.le_of_eq g4.symm)
 have sz_b4 : h0.size ≤ b4 := Nat.le_trans (Keep.refl h0 []).1 (Nat.le_of_eq g4.symm)
 have K6 : Keep h0 h4 [] := (Keep.refl h0 []).ext E4
 have V4 : own_Af Z h4 b4 .byte (Int32.ofNat (2 * n)) (fun _ => 0) := own_Af.new A4 (own_i0 (by omega)) rfl
 refine own_fin X4 hlk (v := some (.ref b4)) (own_nv hR) (by decide) (by decide) ?_ (fun fs hrt => pre0 _ ?_)
 ·
  show Q35 Z n h0 n0 _ T4.heap _
  rw [e4]
  exact ⟨b4, rfl, N2, K6, g_b4, sz_b4, Y4, V4⟩
 refine qiN X0 hx (dt35 hby 0 rfl :) rfl ?_
 refine st2 _ ?_
 refine st4 _ ?_
 exact retOut X4 hx hR rfl (Or.inr (Or.inr (Or.inr (Or.inr ⟨rfl, rfl, rfl⟩)))) (dt35 hby 3 rfl :) hrt
def Q37 (Z : State) (b : Addr) (p3 : Int32) (i n : Nat) (f : Nat → Int32) (cs : Int32) (sv : Value) (dg : Addr) (h0 : Heap) (n0 : Nat) (v : Option Value) (h : Heap) (L : List Loc) : Prop := v = none ∧ Fr n0 L ∧ Keep h0 h [b] ∧ own_Af Z h b .byte (Int32.ofNat (2 * n)) (own_put f i p3)
theorem rm37 (l : Launch) (Z : State) (a0 : Array Value) (hw : own_hw a0 Z) (b : Addr) (p3 : Int32) (i n : Nat) (f : Nat → Int32) (cs : Int32) (sv : Value) (dg : Addr) (h0 : Heap) (n0 : Nat) (Z0 : n0 ≤ h0.size) (HB0 : own_Af Z h0 b .byte (Int32.ofNat (2 * n)) f) (Hg1 : n0 ≤ b) (h1 : (i < n)) (h2 : (n < 40000)) (hS : (own_ST Z cs sv dg)) (HO : Old Z n0 h0) :
 own_M l ym37 [Jvm.Cond.code ym37 cm37 3 none] (⟨0, 0, 0, 0⟩ : Room) #[(.ref b), (.int (Int32.ofNat i)), (.int p3)] Z h0 (Q37 Z b p3 i n f cs sv dg h0 n0) := by
 refine own_go n0 (F := fun m => mkF m 0 #[sR b, sI (Int32.ofNat i), sI p3] []) (plainFor_of_name pn_5) (fun m => rfl) ?_
 intro p e s m below meth c sq Pq hR hx hby hml hown hnm hZ hh hlk X0 e0 N0 pre0
 have F1 : Sta Z h0 "java/lang/StringUTF16" "$assertionsDisabled" "Z" (.int (1 : Int32)) := (hS.2.2.1).ext HO.2
 obtain ⟨T2, X2, e2, st2⟩ := getS2 X0 hx hZ hown (host := "") (Or.inl (hw _ (wi 183 rfl))) Via.refl e0 F1 (g := (mkF m 0 #[sR b, sI (Int32.ofNat i), sI p3] [])) rfl (dt37 hby 0 rfl :)
 have F3 : Sta Z h0 "java/lang/StringUTF16" "HI_BYTE_SHIFT" "I" (.int (0 : Int32)) := (hS.2.2.2.1).ext HO.2
 obtain ⟨T4, X4, e4, st4⟩ := getS2 X2 hx hZ hown (host := "") (Or.inl (hw _ (wi 184 rfl))) Via.refl e2 F3 (g := (mkF m 38 #[sR b, sI (Int32.ofNat (2 * i + 1)), sI p3] [(.int p3), (.int (Int32.ofNat (2 * i))), (.ref b)])) rfl (dt37 hby 10 rfl :)
 obtain ⟨co5, Ao5, So5, Mo5, Bo5, Go5⟩ := HB0.op
 obtain ⟨T6, h6, X6, e6, W6, st6⟩ := stB X4 hx hZ e4 Ao5 (j := (Int32.ofNat (2 * i))) (inb_of So5 ⟨own_i0 (by omega), own_ilt (by omega) (by omega) (by omega)⟩) (g := (mkF m 43 #[sR b, sI (Int32.ofNat (2 * i + 1)), sI p3] [(.int ((p3 >>> ((0 : Int32) &&& 31)).toInt8.toInt32)), (.int (Int32.ofNat (2 * i))), (.ref b)])) rfl rfl (dt37 hby 13 rfl :)
 have V6 : own_Af Z h6 b .byte (Int32.ofNat (2 * n)) (own_sb f (Int32.ofNat (2 * i)) ((p3 >>> ((0 : Int32) &&& 31)).toInt8.toInt32)) := own_Af.set Ao5 So5 Mo5 Bo5 Go5 (fits_nar_byte _) W6
 have F7 : Old Z n0 h6 := HO.wr W6 Hg1
 have K9 : Keep h0 h6 [b] := (Keep.refl h0 [b]).wr W6 (Or.inl (wi 0 rfl))
 have N10 := Fr.snoc X6 N0 Hg1
 have F11 : Sta Z h6 "java/lang/StringUTF16" "LO_BYTE_SHIFT" "I" (.int (8 : Int32)) := (hS.2.2.2.2.1).ext F7.2
 obtain ⟨T12, X12, e12, st12⟩ := getS2 X6 hx hZ hown (host := "") (Or.inl (hw _ (wi 185 rfl))) Via.refl e6 F11 (g := (mkF m 47 #[sR b, sI (Int32.ofNat (2 * i + 1)), sI p3] [(.int p3), (.int (Int32.ofNat (2 * i + 1))), (.ref b)])) rfl (dt37 hby 17 rfl :)
 obtain ⟨co13, Ao13, So13, Mo13, Bo13, Go13⟩ := V6.op
 obtain ⟨T14, h14, X14, e14, W14, st14⟩ := stB X12 hx hZ e12 Ao13 (j := (Int32.ofNat (2 * i + 1))) (inb_of So13 ⟨own_i0 (by omega), own_ilt (by omega) (by omega) (by omega)⟩) (g := (mkF m 52 #[sR b, sI (Int32.ofNat (2 * i + 1)), sI p3] [(.int ((p3 >>> ((8 : Int32) &&& 31)).toInt8.toInt32)), (.int (Int32.ofNat (2 * i + 1))), (.ref b)])) rfl rfl (dt37 hby 20 rfl :)
 have V14 : own_Af Z h14 b .byte (Int32.ofNat (2 * n)) (own_sb (own_sb f (Int32.ofNat (2 * i)) ((p3 >>> ((0 : Int32) &&& 31)).toInt8.toInt32)) (Int32.ofNat (2 * i + 1)) ((p3 >>> ((8 : Int32) &&& 31)).toInt8.toInt32)) := own_Af.set Ao13 So13 Mo13 Bo13 Go13 (fits_nar_byte _) W14
 have K17 : Keep h0 h14 [b] := K9.wr W14 (Or.inl (wi 0 rfl))
 have N18 := Fr.snoc X14 N10 Hg1
 have Vf : own_Af Z h14 b .byte (Int32.ofNat (2 * n)) (own_put f i p3) := V14.congr (fun j _ => own_putE (by omega) j)
 refine own_fin X14 hlk (v := none) (fun _ => rfl) (by decide) (by decide) ?_ (fun fs hrt => pre0 _ ?_)
 ·
  show Q37 Z b p3 i n f cs sv dg h0 n0 _ T14.heap _
  rw [e14]
  exact ⟨rfl, N18, K17, Vf⟩
 refine st2 _ ?_
 refine qfY X2 hx 3 28 (dt37 hby 1 rfl :) ((if0 _ _).trans (feq (by decide : ¬ ((1 : Int32) = (0 : Int32)))).2) (by decide) (by decide) ?_
 refine qiN X2 hx (dt37 hby 2 rfl :) rfl ?_
 refine qc X2 hx (1 : Int32) (dt37 hby 3 rfl :) rfl ?_
 refine XS.ishl X2.here hx rfl (dt37 hby 4 rfl :) rfl ?_
 rw [show ((Int32.ofNat i) <<< ((1 : Int32) &&& 31)) = (Int32.ofNat (2 * i)) from own_shl1 (by omega)]
 refine qsN X2 hx (l' := #[sR b, sI (Int32.ofNat (2 * i)), sI p3]) (dt37 hby 5 rfl :) rfl ?_
 refine qaN X2 hx (dt37 hby 6 rfl :) rfl rfl ?_
 refine qiN X2 hx (dt37 hby 7 rfl :) rfl ?_
 refine XS.iinc X2.here hx rfl (dt37 hby 8 rfl :) rfl (l' := #[sR b, sI ((Int32.ofNat (2 * i)) + (1 : Int32)), sI p3]) rfl ?_
 rw [show ((Int32.ofNat (2 * i)) + (1 : Int32)) = (Int32.ofNat (2 * i + 1)) from own_isucc _]
 refine qiN X2 hx (dt37 hby 9 rfl :) rfl ?_
 refine st4 _ ?_
 refine XS.ishr X4.here hx rfl (dt37 hby 11 rfl :) rfl ?_
 refine XS.i2b X4.here hx rfl (dt37 hby 12 rfl :) rfl ?_
 refine st6 _ ?_
 refine qaN X6 hx (dt37 hby 14 rfl :) rfl rfl ?_
 refine qiN X6 hx (dt37 hby 15 rfl :) rfl ?_
 refine qiN X6 hx (dt37 hby 16 rfl :) rfl ?_
 refine st12 _ ?_
 refine XS.ishr X12.here hx rfl (dt37 hby 18 rfl :) rfl ?_
 refine XS.i2b X12.here hx rfl (dt37 hby 19 rfl :) rfl ?_
 refine st14 _ ?_
 exact X14.returnOut hx hR (dt37 hby 21 rfl :) hrt
theorem own_get2 (c x y : Int32) (hc : own_ch c) (hx : x = own_lo c) (hy : y = own_hi c) : ((((x &&& (255 : Int32)) <<< ((0 : Int32) &&& 31)) ||| ((y &&& (255 : Int32)) <<< ((8 : Int32) &&& 31))).toUInt32.toUInt16.toUInt32.toInt32) = c := by
  exact (own_nc _ (own_chn _)).symm.trans (own_getc c x y hc hx hy)
theorem own_get1 (c x : Int32) (h1 : 0 ≤ c.toInt) (h2 : c.toInt ≤ 255) (hx : x = own_lo c) : ((x &&& (255 : Int32)).toUInt32.toUInt16.toUInt32.toInt32) = c := by
  exact (own_nc _ (own_chn _)).symm.trans (own_ge255 c x h1 h2 hx)
def Q38 (Z : State) (b : Addr) (i n : Nat) (f : Nat → Int32) (c0 cs : Int32) (sv : Value) (dg : Addr) (h0 : Heap) (n0 : Nat) (v : Option Value) (h : Heap) (L : List Loc) : Prop := v = some (.int c0) ∧ Fr n0 L ∧ h = h0
theorem rm38 (l : Launch) (Z : State) (a0 : Array Value) (hw : own_hw a0 Z) (b : Addr) (i n : Nat) (f : Nat → Int32) (c0 cs : Int32) (sv : Value) (dg : Addr) (h0 : Heap) (n0 : Nat) (Z0 : n0 ≤ h0.size) (HB0 : own_Af Z h0 b .byte (Int32.ofNat (2 * n)) f) (h1 : (i < n)) (h2 : (n < 40000)) (hc : (own_ch c0)) (h3 : (f (2 * i) = own_lo c0)) (h4 : (f (2 * i + 1) = own_hi c0)) (hS : (own_ST Z cs sv dg)) (HO : Old Z n0 h0) :
 own_M l ym38 [Jvm.Cond.code ym38 cm38 2 (some .char)] (⟨0, 0, 0, 0⟩ : Room) #[(.ref b), (.int (Int32.ofNat i))] Z h0 (Q38 Z b i n f c0 cs sv dg h0 n0) := by
 refine own_go n0 (F := fun m => mkF m 0 #[sR b, sI (Int32.ofNat i)] []) (plainFor_of_name pn_5) (fun m => rfl) ?_
 intro p e s m below meth c sq Pq hR hx hby hml hown hnm hZ hh hlk X0 e0 N0 pre0
 have F1 : Sta Z h0 "java/lang/StringUTF16" "$assertionsDisabled" "Z" (.int (1 : Int32)) := (hS.2.2.1).ext HO.2
 obtain ⟨T2, X2, e2, st2⟩ := getS2 X0 hx hZ hown (host := "") (Or.inl (hw _ (wi 183 rfl))) Via.refl e0 F1 (g := (mkF m 0 #[sR b, sI (Int32.ofNat i)] [])) rfl (dt38 hby 0 rfl :)
 obtain ⟨co3, Ao3, So3, Mo3, Bo3, Go3⟩ := HB0.op
 have ib4 : ¬ ((Int32.ofNat (2 * i)) < 0 ∨ co3.slots.size ≤ ((Int32.ofNat (2 * i))).toNatClampNeg) := inb_of So3 ⟨own_i0 (by omega), own_ilt (by omega) (by omega) (by omega)⟩
 have F5 : Sta Z h0 "java/lang/StringUTF16" "HI_BYTE_SHIFT" "I" (.int (0 : Int32)) := (hS.2.2.2.1).ext HO.2
 obtain ⟨T6, X6, e6, st6⟩ := getS2 X2 hx hZ hown (host := "") (Or.inl (hw _ (wi 184 rfl))) Via.refl e2 F5 (g := (mkF m 42 #[sR b, sI (Int32.ofNat (2 * i + 1))] [(.int ((f (2 * i)) &&& (255 : Int32)))])) rfl (dt38 hby 12 rfl :)
 obtain ⟨co7, Ao7, So7, Mo7, Bo7, Go7⟩ := HB0.op
 have ib8 : ¬ ((Int32.ofNat (2 * i + 1)) < 0 ∨ co7.slots.size ≤ ((Int32.ofNat (2 * i + 1))).toNatClampNeg) := inb_of So7 ⟨own_i0 (by omega), own_ilt (by omega) (by omega) (by omega)⟩
 have F9 : Sta Z h0 "java/lang/StringUTF16" "LO_BYTE_SHIFT" "I" (.int (8 : Int32)) := (hS.2.2.2.2.1).ext HO.2
 obtain ⟨T10, X10, e10, st10⟩ := getS2 X6 hx hZ hown (host := "") (Or.inl (hw _ (wi 185 rfl))) Via.refl e6 F9 (g := (mkF m 53 #[sR b, sI (Int32.ofNat (2 * i + 1))] [(.int ((f (2 * i + 1)) &&& (255 : Int32))), (.int (((f (2 * i)) &&& (255 : Int32)) <<< ((0 : Int32) &&& 31)))])) rfl (dt38 hby 19 rfl :)
 have hn := own_nc c0 hc
 refine own_fin X10 hlk (v := some (.int (nar .char c0))) (own_nv hR) (by decide) (by decide) ?_ (fun fs hrt => pre0 _ ?_)
 ·
  show Q38 Z b i n f c0 cs sv dg h0 n0 _ T10.heap _
  rw [hn]
  rw [e10]
  exact ⟨rfl, N0, rfl⟩
 refine st2 _ ?_
 refine qfY X2 hx 3 28 (dt38 hby 1 rfl :) ((if0 _ _).trans (feq (by decide : ¬ ((1 : Int32) = (0 : Int32)))).2) (by decide) (by decide) ?_
 refine qiN X2 hx (dt38 hby 2 rfl :) rfl ?_
 refine qc X2 hx (1 : Int32) (dt38 hby 3 rfl :) rfl ?_
 refine XS.ishl X2.here hx rfl (dt38 hby 4 rfl :) rfl ?_
 rw [show ((Int32.ofNat i) <<< ((1 : Int32) &&& 31)) = (Int32.ofNat (2 * i)) from own_shl1 (by omega)]
 refine qsN X2 hx (l' := #[sR b, sI (Int32.ofNat (2 * i))]) (dt38 hby 5 rfl :) rfl ?_
 refine qaN X2 hx (dt38 hby 6 rfl :) rfl rfl ?_
 refine qiN X2 hx (dt38 hby 7 rfl :) rfl ?_
 refine XS.iinc X2.here hx rfl (dt38 hby 8 rfl :) rfl (l' := #[sR b, sI ((Int32.ofNat (2 * i)) + (1 : Int32))]) rfl ?_
 rw [show ((Int32.ofNat (2 * i)) + (1 : Int32)) = (Int32.ofNat (2 * i + 1)) from own_isucc _]
 refine X2.baloadBytes hx (j := (Int32.ofNat (2 * i))) (v := (.int (f ((Int32.ofNat (2 * i))).toNatClampNeg))) (by rw [e2]; exact Ao3.1) (State.isArrayOf_alike hZ.alike Ao3.2.1) Ao3.2.2 ib4 (Bo3 _ (Nat.lt_of_not_le fun q => ib4 (Or.inr q))) (g := (mkF m 37 #[sR b, sI (Int32.ofNat (2 * i + 1))] [(.int (Int32.ofNat (2 * i))), (.ref b)])) rfl rfl (dt38 hby 9 rfl :) _ ?_
 rw [show (f ((Int32.ofNat (2 * i))).toNatClampNeg) = (f (2 * i)) from congrArg f (own_in (by omega))]
 refine qp X2 hx (255 : Int32) (dt38 hby 10 rfl :) rfl ?_
 refine XS.iand X2.here hx rfl (dt38 hby 11 rfl :) rfl ?_
 refine st6 _ ?_
 refine XS.ishl X6.here hx rfl (dt38 hby 13 rfl :) rfl ?_
 refine qaN X6 hx (dt38 hby 14 rfl :) rfl rfl ?_
 refine qiN X6 hx (dt38 hby 15 rfl :) rfl ?_
 refine X6.baloadBytes hx (j := (Int32.ofNat (2 * i + 1))) (v := (.int (f ((Int32.ofNat (2 * i + 1))).toNatClampNeg))) (by rw [e6]; exact Ao7.1) (State.isArrayOf_alike hZ.alike Ao7.2.1) Ao7.2.2 ib8 (Bo7 _ (Nat.lt_of_not_le fun q => ib8 (Or.inr q))) (g := (mkF m 48 #[sR b, sI (Int32.ofNat (2 * i + 1))] [(.int (Int32.ofNat (2 * i + 1))), (.ref b), (.int (((f (2 * i)) &&& (255 : Int32)) <<< ((0 : Int32) &&& 31)))])) rfl rfl (dt38 hby 16 rfl :) _ ?_
 rw [show (f ((Int32.ofNat (2 * i + 1))).toNatClampNeg) = (f (2 * i + 1)) from congrArg f (own_in (by omega))]
 refine qp X6 hx (255 : Int32) (dt38 hby 17 rfl :) rfl ?_
 refine XS.iand X6.here hx rfl (dt38 hby 18 rfl :) rfl ?_
 refine st10 _ ?_
 refine XS.ishl X10.here hx rfl (dt38 hby 20 rfl :) rfl ?_
 refine XS.ior X10.here hx rfl (dt38 hby 21 rfl :) rfl ?_
 refine XS.i2c X10.here hx rfl (dt38 hby 22 rfl :) rfl ?_
 rw [show (((((f (2 * i)) &&& (255 : Int32)) <<< ((0 : Int32) &&& 31)) ||| (((f (2 * i + 1)) &&& (255 : Int32)) <<< ((8 : Int32) &&& 31))).toUInt32.toUInt16.toUInt32.toInt32) = c0 from own_get2 c0 _ _ hc h3 h4]
 exact retN X10 hx (t := .char) hR (by simp) (dt38 hby 23 rfl :) hrt
theorem pd_7 : parseMethodDescriptor "(I[B)V" = some ⟨[.int, (.array .byte)], none⟩ := by decide +kernel
theorem pd_8 : parseMethodDescriptor "([BI)C" = some ⟨[(.array .byte), .int], some .char⟩ := by decide +kernel
def Q39 (Z : State) (b : Addr) (i n : Nat) (f : Nat → Int32) (c0 cs : Int32) (sv : Value) (dg : Addr) (h0 : Heap) (n0 : Nat) (v : Option Value) (h : Heap) (L : List Loc) : Prop := v = some (.int c0) ∧ Fr n0 L ∧ h = h0
theorem rm39 (l : Launch) (Z : State) (a0 : Array Value) (hw : own_hw a0 Z) (b : Addr) (i n : Nat) (f : Nat → Int32) (c0 cs : Int32) (sv : Value) (dg : Addr) (h0 : Heap) (n0 : Nat) (Z0 : n0 ≤ h0.size) (HB0 : own_Af Z h0 b .byte (Int32.ofNat (2 * n)) f) (h1 : (i < n)) (h2 : (n < 40000)) (hc : (own_ch c0)) (h3 : (f (2 * i) = own_lo c0)) (h4 : (f (2 * i + 1) = own_hi c0)) (hS : (own_ST Z cs sv dg)) (HO : Old Z n0 h0) :
 own_M l ym39 [Jvm.Cond.code ym39 cm39 2 (some .char)] (⟨3, 0, 0, 40⟩ : Room) #[(.ref b), (.int (Int32.ofNat i))] Z h0 (Q39 Z b i n f c0 cs sv dg h0 n0) := by
 refine own_go n0 (F := fun m => mkF m 0 #[sR b, sI (Int32.ofNat i)] []) (plainFor_of_name pn_5) (fun m => rfl) ?_
 intro p e s m below meth c sq Pq hR hx hby hml hown hnm hZ hh hlk X0 e0 N0 pre0
 obtain ⟨_, _, ⟨T3, L3, k3, n3⟩, -, X3, ⟨Lc3, hQ3, l3, y3, z3⟩, st3⟩ := Jvm.LawKit.callS X0 hx (y := ym40) hown (mw hZ hw 192 rfl) (mw hZ hw 193 rfl) (mw hZ hw 108 rfl) (mw hZ hw 194 rfl) (by decide) (backOf (W := 0) (rm40 l Z a0 hw b i n f cs sv dg h0 n0 Z0 HB0 (by omega) (by omega) hS HO) hZ (hw _ (wi 194 rfl)) (hw _ (wi 108 rfl)) (by decide) (by decide)) (g := (mkF m 2 #[sR b, sI (Int32.ofNat i)] [(.ref b), (.int (Int32.ofNat i))])) rfl (by rw [hml]; rfl) (argsL := [(.int (Int32.ofNat i)), (.ref b)]) (rest := []) (lenOf pd_7 rfl) rfl (Nat.le_refl _) (dt39 hby 2 rfl :) (fun _ _ => ⟨rfl, e0, (by decide : 0 + 0 ≤ _), (by decide : 0 + 0 ≤ _)⟩)
 dsimp only [Pt.U, Pt.locs, Pt.cells, Pt.slots] at X3 l3 y3 z3 st3 hQ3
 subst l3 y3 z3
 obtain ⟨rfl, N3q, R4⟩ := hQ3
 have N3 := Fr.app N0 N3q
 obtain ⟨_, _, ⟨T10, L10, k10, n10⟩, -, X10, ⟨Lc10, hQ10, l10, y10, z10⟩, st10⟩ := Jvm.LawKit.callS X3 hx (y := ym38) hown (mw hZ hw 186 rfl) (mw hZ hw 187 rfl) (mw hZ hw 108 rfl) (mw hZ hw 188 rfl) (by decide) (backOf (W := 0) (rm38 l Z a0 hw b i n f c0 cs sv dg h0 n0 Z0 HB0 (by omega) (by omega) (by first | assumption | omega) (by first | assumption | omega) (by first | assumption | omega) hS HO) hZ (hw _ (wi 188 rfl)) (hw _ (wi 108 rfl)) (by decide) (by decide)) (g := (mkF m 7 #[sR b, sI (Int32.ofNat i)] [(.int (Int32.ofNat i)), (.ref b)])) rfl (by rw [hml]; rfl) (argsL := [(.ref b), (.int (Int32.ofNat i))]) (rest := []) (lenOf pd_8 rfl) rfl (Nat.le_refl _) (dt39 hby 5 rfl :) (fun _ _ => ⟨rfl, R4, (by decide : 0 + 0 ≤ _), (by decide : 0 + 0 ≤ _)⟩)
 dsimp only [Pt.U, Pt.locs, Pt.cells, Pt.slots] at X10 l10 y10 z10 st10 hQ10
 subst l10 y10 z10
 obtain ⟨rfl, N10q, R11⟩ := hQ10
 have N10 := Fr.app N3 N10q
 have hn := own_nc c0 hc
 refine own_fin X10 hlk (v := some (.int (nar .char c0))) (own_nv hR) (by decide) (by decide) ?_ (fun fs hrt => pre0 _ ?_)
 ·
  show Q39 Z b i n f c0 cs sv dg h0 n0 _ T10.heap _
  rw [hn]
  rw [R11]
  exact ⟨rfl, N10, rfl⟩
 refine qiN X0 hx (dt39 hby 0 rfl :) rfl ?_
 refine qaN X0 hx (dt39 hby 1 rfl :) rfl rfl ?_
 refine st3 _ ?_
 refine qaN X3 hx (dt39 hby 3 rfl :) rfl rfl ?_
 refine qiN X3 hx (dt39 hby 4 rfl :) rfl ?_
 refine st10 _ ?_
 exact retN X10 hx (t := .char) hR (by simp) (dt39 hby 6 rfl :) hrt
theorem pd_9 : parseMethodDescriptor "([BII)V" = some ⟨[(.array .byte), .int, .int], none⟩ := by decide +kernel
def Q48 (Z : State) (b : Addr) (p3 : Int32) (i n : Nat) (f : Nat → Int32) (cs : Int32) (sv : Value) (dg : Addr) (h0 : Heap) (n0 : Nat) (v : Option Value) (h : Heap) (L : List Loc) : Prop := v = none ∧ Fr n0 L ∧ Keep h0 h [b] ∧ own_Af Z h b .byte (Int32.ofNat (2 * n)) (own_put f i p3)
theorem rm48 (l : Launch) (Z : State) (a0 : Array Value) (hw : own_hw a0 Z) (b : Addr) (p3 : Int32) (i n : Nat) (f : Nat → Int32) (cs : Int32) (sv : Value) (dg : Addr) (h0 : Heap) (n0 : Nat) (Z0 : n0 ≤ h0.size) (HB0 : own_Af Z h0 b .byte (Int32.ofNat (2 * n)) f) (Hg1 : n0 ≤ b) (h1 : (i < n)) (h2 : (n < 40000)) (hS : (own_ST Z cs sv dg)) (HO : Old Z n0 h0) :
 own_M l ym48 [Jvm.Cond.code ym48 cm48 3 none] (⟨3, 0, 0, 40⟩ : Room) #[(.ref b), (.int (Int32.ofNat i)), (.int p3)] Z h0 (Q48 Z b p3 i n f cs sv dg h0 n0) := by
 refine own_go n0 (F := fun m => mkF m 0 #[sR b, sI (Int32.ofNat i), sI p3] []) (plainFor_of_name pn_5) (fun m => rfl) ?_
 intro p e s m below meth c sq Pq hR hx hby hml hown hnm hZ hh hlk X0 e0 N0 pre0
 obtain ⟨_, _, ⟨T3, L3, k3, n3⟩, -, X3, ⟨Lc3, hQ3, l3, y3, z3⟩, st3⟩ := Jvm.LawKit.callS X0 hx (y := ym40) hown (mw hZ hw 192 rfl) (mw hZ hw 193 rfl) (mw hZ hw 108 rfl) (mw hZ hw 194 rfl) (by decide) (backOf (W := 0) (rm40 l Z a0 hw b i n f cs sv dg h0 n0 Z0 HB0 (by omega) (by omega) hS HO) hZ (hw _ (wi 194 rfl)) (hw _ (wi 108 rfl)) (by decide) (by decide)) (g := (mkF m 2 #[sR b, sI (Int32.ofNat i), sI p3] [(.ref b), (.int (Int32.ofNat i))])) rfl (by rw [hml]; rfl) (argsL := [(.int (Int32.ofNat i)), (.ref b)]) (rest := []) (lenOf pd_7 rfl) rfl (Nat.le_refl _) (dt48 hby 2 rfl :) (fun _ _ => ⟨rfl, e0, (by decide : 0 + 0 ≤ _), (by decide : 0 + 0 ≤ _)⟩)
 dsimp only [Pt.U, Pt.locs, Pt.cells, Pt.slots] at X3 l3 y3 z3 st3 hQ3
 subst l3 y3 z3
 obtain ⟨rfl, N3q, R4⟩ := hQ3
 have N3 := Fr.app N0 N3q
 obtain ⟨_, _, ⟨T7, L7, k7, n7⟩, -, X7, ⟨Lc7, hQ7, l7, y7, z7⟩, st7⟩ := Jvm.LawKit.callS X3 hx (y := ym37) hown (mw hZ hw 180 rfl) (mw hZ hw 181 rfl) (mw hZ hw 108 rfl) (mw hZ hw 182 rfl) (by decide) (backOf (W := 0) (rm37 l Z a0 hw b p3 i n f cs sv dg h0 n0 Z0 HB0 Hg1 (by omega) (by omega) hS HO) hZ (hw _ (wi 182 rfl)) (hw _ (wi 108 rfl)) (by decide) (by decide)) (g := (mkF m 8 #[sR b, sI (Int32.ofNat i), sI p3] [(.int p3), (.int (Int32.ofNat i)), (.ref b)])) rfl (by rw [hml]; rfl) (argsL := [(.ref b), (.int (Int32.ofNat i)), (.int p3)]) (rest := []) (lenOf pd_9 rfl) rfl (Nat.le_refl _) (dt48 hby 6 rfl :) (fun _ _ => ⟨rfl, R4, (by decide : 0 + 0 ≤ _), (by decide : 0 + 0 ≤ _)⟩)
 dsimp only [Pt.U, Pt.locs, Pt.cells, Pt.slots] at X7 l7 y7 z7 st7 hQ7
 subst l7 y7 z7
 obtain ⟨rfl, N7q, R8, R9⟩ := hQ7
 have N7 := Fr.app N3 N7q
 have K12 : Keep h0 T7.heap [b] := (Keep.refl h0 [b]).trans R8 (allS (Or.inl (wi 0 rfl)) all0)
 refine own_fin X7 hlk (v := none) (fun _ => rfl) (by decide) (by decide) ?_ (fun fs hrt => pre0 _ ?_)
 ·
  show Q48 Z b p3 i n f cs sv dg h0 n0 _ T7.heap _
  exact ⟨rfl, N7, K12, R9⟩
 refine qiN X0 hx (dt48 hby 0 rfl :) rfl ?_
 refine qaN X0 hx (dt48 hby 1 rfl :) rfl rfl ?_
 refine st3 _ ?_
 refine qaN X3 hx (dt48 hby 3 rfl :) rfl rfl ?_
 refine qiN X3 hx (dt48 hby 4 rfl :) rfl ?_
 refine qiN X3 hx (dt48 hby 5 rfl :) rfl ?_
 refine st7 _ ?_
 exact X7.returnOut hx hR (dt48 hby 7 rfl :) hrt
def Q23 (Z : State) (b : Addr) (i n : Nat) (f : Nat → Int32) (c0 cs : Int32) (sv : Value) (dg : Addr) (h0 : Heap) (n0 : Nat) (v : Option Value) (h : Heap) (L : List Loc) : Prop := v = some (.int c0) ∧ Fr n0 L ∧ h = h0
theorem rm23 (l : Launch) (Z : State) (a0 : Array Value) (hw : own_hw a0 Z) (b : Addr) (i n : Nat) (f : Nat → Int32) (c0 cs : Int32) (sv : Value) (dg : Addr) (h0 : Heap) (n0 : Nat) (Z0 : n0 ≤ h0.size) (HB0 : own_Af Z h0 b .byte (Int32.ofNat n) f) (h1 : (i < n)) (h2 : (n < 40000)) (hc1 : (0 ≤ c0.toInt)) (hc2 : (c0.toInt ≤ 255)) (h3 : (f i = own_lo c0)) (hS : (own_ST Z cs sv dg)) (HO : Old Z n0 h0) :
 own_M l ym23 [Jvm.Cond.code ym23 cm23 2 (some .char)] (⟨2, 0, 0, 27⟩ : Room) #[(.ref b), (.int (Int32.ofNat i))] Z h0 (Q23 Z b i n f c0 cs sv dg h0 n0) := by
 refine own_go n0 (F := fun m => mkF m 0 #[sR b, sI (Int32.ofNat i)] []) (plainFor_of_name pn_2) (fun m => rfl) ?_
 intro p e s m below meth c sq Pq hR hx hby hml hown hnm hZ hh hlk X0 e0 N0 pre0
 obtain ⟨co1, Ao1, So1, Mo1, Bo1, Go1⟩ := HB0.op
 obtain ⟨_, _, ⟨T4, L4, k4, n4⟩, -, X4, ⟨Lc4, hQ4, l4, y4, z4⟩, st4⟩ := Jvm.LawKit.callS X0 hx (y := ym24) hown (mw hZ hw 130 rfl) (mw hZ hw 131 rfl) (mw hZ hw 5 rfl) (mw hZ hw 132 rfl) (by decide) (backOf (W := 0) (rm24 l Z a0 hw i n cs sv dg h0 n0 Z0 (by omega) (by omega) hS HO) hZ (hw _ (wi 132 rfl)) (hw _ (wi 5 rfl)) (by decide) (by decide)) (g := (mkF m 3 #[sR b, sI (Int32.ofNat i)] [(.int (Int32.ofNat n)), (.int (Int32.ofNat i))])) rfl (by rw [hml]; rfl) (argsL := [(.int (Int32.ofNat i)), (.int (Int32.ofNat n))]) (rest := []) (lenOf pd_3 rfl) rfl (Nat.le_refl _) (dt23 hby 3 rfl :) (fun _ _ => ⟨rfl, e0, (by decide : 0 + 0 ≤ _), (by decide : 0 + 0 ≤ _)⟩)
 dsimp only [Pt.U, Pt.locs, Pt.cells, Pt.slots] at X4 l4 y4 z4 st4 hQ4
 subst l4 y4 z4
 obtain ⟨rfl, N4q, R5⟩ := hQ4
 have N4 := Fr.app N0 N4q
 obtain ⟨co6, Ao6, So6, Mo6, Bo6, Go6⟩ := HB0.op
 have ib7 : ¬ ((Int32.ofNat i) < 0 ∨ co6.slots.size ≤ ((Int32.ofNat i)).toNatClampNeg) := inb_of So6 ⟨own_i0 (by omega), own_ilt (by omega) (by omega) (by omega)⟩
 have hn := own_nc c0 ⟨hc1, by omega⟩
 refine own_fin X4 hlk (v := some (.int (nar .char c0))) (own_nv hR) (by decide) (by decide) ?_ (fun fs hrt => pre0 _ ?_)
 ·
  show Q23 Z b i n f c0 cs sv dg h0 n0 _ T4.heap _
  rw [hn]
  rw [R5]
  exact ⟨rfl, N4, rfl⟩
 refine qiN X0 hx (dt23 hby 0 rfl :) rfl ?_
 refine qaN X0 hx (dt23 hby 1 rfl :) rfl rfl ?_
 refine X0.arraylength hx (by rw [e0]; exact Ao1.1) (State.isArrayOf_alike hZ.alike Ao1.2.1) (g := (mkF m 2 #[sR b, sI (Int32.ofNat i)] [(.ref b), (.int (Int32.ofNat i))])) rfl rfl (dt23 hby 2 rfl :) _ ?_
 rw [len_of So1 Mo1]
 refine st4 _ ?_
 refine qaN X4 hx (dt23 hby 4 rfl :) rfl rfl ?_
 refine qiN X4 hx (dt23 hby 5 rfl :) rfl ?_
 refine X4.baloadBytes hx (j := (Int32.ofNat i)) (v := (.int (f ((Int32.ofNat i)).toNatClampNeg))) (by rw [R5]; exact Ao6.1) (State.isArrayOf_alike hZ.alike Ao6.2.1) Ao6.2.2 ib7 (Bo6 _ (Nat.lt_of_not_le fun q => ib7 (Or.inr q))) (g := (mkF m 8 #[sR b, sI (Int32.ofNat i)] [(.int (Int32.ofNat i)), (.ref b)])) rfl rfl (dt23 hby 6 rfl :) _ ?_
 rw [show (f ((Int32.ofNat i)).toNatClampNeg) = (f i) from congrArg f (own_in (by omega))]
 refine qp X4 hx (255 : Int32) (dt23 hby 7 rfl :) rfl ?_
 refine XS.iand X4.here hx rfl (dt23 hby 8 rfl :) rfl ?_
 refine XS.i2c X4.here hx rfl (dt23 hby 9 rfl :) rfl ?_
 rw [show (((f i) &&& (255 : Int32)).toUInt32.toUInt16.toUInt32.toInt32) = c0 from own_get1 c0 _ hc1 hc2 h3]
 exact retN X4 hx (t := .char) hR (by simp) (dt23 hby 10 rfl :) hrt
def Q20_0 (Z : State) (b : Addr) (n : Nat) (f : Nat → Int32) (h0 : Heap) (n0 : Nat) (v : Option Value) (h : Heap) (L : List Loc) : Prop := v = some (.int (0 : Int32)) ∧ Fr n0 L ∧ h = h0
theorem rm20_0 (l : Launch) (Z : State) (a0 : Array Value) (hw : own_hw a0 Z) (b : Addr) (n : Nat) (f : Nat → Int32) (h0 : Heap) (n0 : Nat) (Z0 : n0 ≤ h0.size) (HB0 : own_Af Z h0 b .byte (Int32.ofNat n) f) :
 own_M l ym20 [Jvm.Cond.code ym20 cm20 2 (some .byte)] (⟨0, 0, 0, 0⟩ : Room) #[(.ref b), (.int (Int32.ofNat n))] Z h0 (Q20_0 Z b n f h0 n0) := by
 refine own_go n0 (F := fun m => mkF m 0 #[sR b, sI (Int32.ofNat n)] []) (plainFor_of_name pn_5) (fun m => rfl) ?_
 intro p e s m below meth c sq Pq hR hx hby hml hown hnm hZ hh hlk X0 e0 N0 pre0
 obtain ⟨co1, Ao1, So1, Mo1, Bo1, Go1⟩ := HB0.op
 refine own_fin X0 hlk (v := some (.int (0 : Int32))) (own_nv hR) (by decide) (by decide) ?_ (fun fs hrt => pre0 _ ?_)
 ·
  show Q20_0 Z b n f h0 n0 _ sq.heap _
  rw [e0]
  exact ⟨rfl, N0, rfl⟩
 refine qiN X0 hx (dt20 hby 0 rfl :) rfl ?_
 refine qaN X0 hx (dt20 hby 1 rfl :) rfl rfl ?_
 refine X0.arraylength hx (by rw [e0]; exact Ao1.1) (State.isArrayOf_alike hZ.alike Ao1.2.1) (g := (mkF m 2 #[sR b, sI (Int32.ofNat n)] [(.ref b), (.int (Int32.ofNat n))])) rfl rfl (dt20 hby 2 rfl :) _ ?_
 rw [len_of So1 Mo1]
 refine XS.isub X0.here hx rfl (dt20 hby 3 rfl :) rfl ?_
 refine qb X0 hx (31 : Int32) (dt20 hby 4 rfl :) rfl ?_
 refine XS.iushr X0.here hx rfl (dt20 hby 5 rfl :) rfl ?_
 refine XS.i2b X0.here hx rfl (dt20 hby 6 rfl :) rfl ?_
 rw [show (((((Int32.ofNat n) - (Int32.ofNat n)).toUInt32 >>> ((31 : Int32) &&& 31).toUInt32).toInt32).toInt8.toInt32) = (0 : Int32) from own_cfa0 n]
 exact retN X0 hx (t := .byte) hR (by simp) (dt20 hby 7 rfl :) hrt
def Q20_1 (Z : State) (b : Addr) (n : Nat) (f : Nat → Int32) (h0 : Heap) (n0 : Nat) (v : Option Value) (h : Heap) (L : List Loc) : Prop := v = some (.int (1 : Int32)) ∧ Fr n0 L ∧ h = h0
theorem rm20_1 (l : Launch) (Z : State) (a0 : Array Value) (hw : own_hw a0 Z) (b : Addr) (n : Nat) (f : Nat → Int32) (h0 : Heap) (n0 : Nat) (Z0 : n0 ≤ h0.size) (HB0 : own_Af Z h0 b .byte (Int32.ofNat (2 * n)) f) (h1 : (0 < n)) (h2 : (n < 40000)) :
 own_M l ym20 [Jvm.Cond.code ym20 cm20 2 (some .byte)] (⟨0, 0, 0, 0⟩ : Room) #[(.ref b), (.int (Int32.ofNat n))] Z h0 (Q20_1 Z b n f h0 n0) := by
 refine own_go n0 (F := fun m => mkF m 0 #[sR b, sI (Int32.ofNat n)] []) (plainFor_of_name pn_5) (fun m => rfl) ?_
 intro p e s m below meth c sq Pq hR hx hby hml hown hnm hZ hh hlk X0 e0 N0 pre0
 obtain ⟨co1, Ao1, So1, Mo1, Bo1, Go1⟩ := HB0.op
 refine own_fin X0 hlk (v := some (.int (1 : Int32))) (own_nv hR) (by decide) (by decide) ?_ (fun fs hrt => pre0 _ ?_)
 ·
  show Q20_1 Z b n f h0 n0 _ sq.heap _
  rw [e0]
  exact ⟨rfl, N0, rfl⟩
 refine qiN X0 hx (dt20 hby 0 rfl :) rfl ?_
 refine qaN X0 hx (dt20 hby 1 rfl :) rfl rfl ?_
 refine X0.arraylength hx (by rw [e0]; exact Ao1.1) (State.isArrayOf_alike hZ.alike Ao1.2.1) (g := (mkF m 2 #[sR b, sI (Int32.ofNat n)] [(.ref b), (.int (Int32.ofNat n))])) rfl rfl (dt20 hby 2 rfl :) _ ?_
 rw [len_of So1 Mo1]
 refine XS.isub X0.here hx rfl (dt20 hby 3 rfl :) rfl ?_
 refine qb X0 hx (31 : Int32) (dt20 hby 4 rfl :) rfl ?_
 refine XS.iushr X0.here hx rfl (dt20 hby 5 rfl :) rfl ?_
 refine XS.i2b X0.here hx rfl (dt20 hby 6 rfl :) rfl ?_
 rw [show (((((Int32.ofNat n) - (Int32.ofNat (2 * n))).toUInt32 >>> ((31 : Int32) &&& 31).toUInt32).toInt32).toInt8.toInt32) = (1 : Int32) from own_cfa1 h1 h2]
 exact retN X0 hx (t := .byte) hR (by simp) (dt20 hby 7 rfl :) hrt
def Q50 (Z : State) (p1 : Int32) (h0 : Heap) (n0 : Nat) (v : Option Value) (h : Heap) (L : List Loc) : Prop := ∃ (b : Addr) (g : Nat → Int32), v = some (.ref b) ∧ Fr n0 L ∧ Keep h0 h [] ∧ n0 ≤ b ∧ h0.size ≤ b ∧ eA Z h b ∧ own_Af Z h b .byte (Int32.ofNat 1) g ∧ (g 0 = own_lo p1)
theorem rm50 (l : Launch) (Z : State) (a0 : Array Value) (hw : own_hw a0 Z) (p1 : Int32) (h0 : Heap) (n0 : Nat) (Z0 : n0 ≤ h0.size)  :
 own_M l ym50 [Jvm.Cond.code ym50 cm50 1 (some (.array .byte))] (⟨0, 1, 1, 0⟩ : Room) #[(.int p1)] Z h0 (Q50 Z p1 h0 n0) := by
 refine own_go n0 (F := fun m => mkF m 0 #[sI p1] []) (plainFor_of_name pn_2) (fun m => rfl) ?_
 intro p e s m below meth c sq Pq hR hx hby hml hown hnm hZ hh hlk X0 e0 N0 pre0
 obtain ⟨T1, h1, k1, X1, e1, E1, A1, Y1, st1⟩ := newPE X0 hx hZ (hw _ (wi 7 rfl)) e0 (g := (mkF m 1 #[sI p1] [(.int (1 : Int32))])) rfl (dt50 hby 1 rfl :) rfl (by decide) (cap := 1) (by decide) (by decide) (by decide) (by decide) (ad := "[B") (by decide)
 obtain ⟨b1, g1⟩ : ∃ z, z = h0.size := ⟨_, rfl⟩
 rw [← g1] at A1 st1 Y1
 have g_b1 : n0 ≤ b1 := Nat.le_trans Z0 (Nat.le_of_eq g1.symm)
 have sz_b1 : h0.size ≤ b1 := Nat.le_trans (Keep.refl h0 []).1 (Nat.le_of_eq g1.symm)
 have K3 : Keep h0 h1 [] := (Keep.refl h0 []).ext E1
 have V1 : own_Af Z h1 b1 .byte (1 : Int32) (fun _ => 0) := own_Af.new A1 (by decide) rfl
 obtain ⟨co4, Ao4, So4, Mo4, Bo4, Go4⟩ := V1.op
 obtain ⟨T5, h5, X5, e5, W5, st5⟩ := stB X1 hx hZ e1 Ao4 (j := (0 : Int32)) (inb_of So4 ⟨by decide, by decide⟩) (g := (mkF m 7 #[sI p1] [(.int (p1.toInt8.toInt32)), (.int (0 : Int32)), (.ref b1), (.ref b1)])) rfl rfl (dt50 hby 6 rfl :)
 have V5 : own_Af Z h5 b1 .byte (1 : Int32) (own_sb (fun _ => (0 : Int32)) (0 : Int32) (p1.toInt8.toInt32)) := own_Af.set Ao4 So4 Mo4 Bo4 Go4 (fits_nar_byte _) W5
 have F6 : eA Z h5 b1 := Y1.wr W5
 have K8 : Keep h0 h5 [] := K3.wr W5 (Or.inr sz_b1)
 have N9 := Fr.snoc X5 N0 g_b1
 refine own_fin X5 hlk (v := some (.ref b1)) (own_nv hR) (by decide) (by decide) ?_ (fun fs hrt => pre0 _ ?_)
 ·
  show Q50 Z p1 h0 n0 _ T5.heap _
  rw [e5]
  exact ⟨b1, (own_sb (fun _ => (0 : Int32)) (0 : Int32) (p1.toInt8.toInt32)), rfl, N9, K8, g_b1, sz_b1, F6, V5, own_nb p1⟩
 refine qc X0 hx (1 : Int32) (dt50 hby 0 rfl :) rfl ?_
 refine st1 _ ?_
 refine XS.dup X1.here hx rfl (dt50 hby 2 rfl :) rfl rfl ?_
 refine qc X1 hx (0 : Int32) (dt50 hby 3 rfl :) rfl ?_
 refine qiN X1 hx (dt50 hby 4 rfl :) rfl ?_
 refine XS.i2b X1.here hx rfl (dt50 hby 5 rfl :) rfl ?_
 refine st5 _ ?_
 exact retOut X5 hx hR rfl (Or.inr (Or.inr (Or.inr (Or.inr ⟨rfl, rfl, rfl⟩)))) (dt50 hby 7 rfl :) hrt
def Q71 (Z : State) (p1 cs : Int32) (sv : Value) (dg : Addr) (h0 : Heap) (n0 : Nat) (v : Option Value) (h : Heap) (L : List Loc) : Prop := ∃ (b : Addr) (g : Nat → Int32), v = some (.ref b) ∧ Fr n0 L ∧ Keep h0 h [] ∧ n0 ≤ b ∧ h0.size ≤ b ∧ eA Z h b ∧ own_Af Z h b .byte (Int32.ofNat (2 * 1)) g ∧ (g 0 = own_lo p1) ∧ (g 1 = own_hi p1)
theorem rm71 (l : Launch) (Z : State) (a0 : Array Value) (hw : own_hw a0 Z) (p1 cs : Int32) (sv : Value) (dg : Addr) (h0 : Heap) (n0 : Nat) (Z0 : n0 ≤ h0.size) (hS : (own_ST Z cs sv dg)) (HO : Old Z n0 h0) :
 own_M l ym71 [Jvm.Cond.code ym71 cm71 2 (some (.array .byte))] (⟨1, 1, 2, 14⟩ : Room) #[(.int p1)] Z h0 (Q71 Z p1 cs sv dg h0 n0) := by
 refine own_go n0 (F := fun m => mkF m 0 #[sI p1, .unset] []) (plainFor_of_name pn_5) (fun m => rfl) ?_
 intro p e s m below meth c sq Pq hR hx hby hml hown hnm hZ hh hlk X0 e0 N0 pre0
 obtain ⟨T1, h1, k1, X1, e1, E1, A1, Y1, st1⟩ := newPE X0 hx hZ (hw _ (wi 7 rfl)) e0 (g := (mkF m 1 #[sI p1, .unset] [(.int (2 : Int32))])) rfl (dt71 hby 1 rfl :) rfl (by decide) (cap := 2) (by decide) (by decide) (by decide) (by decide) (ad := "[B") (by decide)
 obtain ⟨b1, g1⟩ : ∃ z, z = h0.size := ⟨_, rfl⟩
 rw [← g1] at A1 st1 Y1
 have g_b1 : n0 ≤ b1 := Nat.le_trans Z0 (Nat.le_of_eq g1.symm)
 have sz_b1 : h0.size ≤ b1 := Nat.le_trans (Keep.refl h0 []).1 (Nat.le_of_eq g1.symm)
 have F2 : Old Z n0 h1 := HO.ext E1
 have Z3 : n0 ≤ h1.size := Nat.le_trans Z0 E1.1
 have K4 : Keep h0 h1 [] := (Keep.refl h0 []).ext E1
 have V1 : own_Af Z h1 b1 .byte (2 : Int32) (fun _ => 0) := own_Af.new A1 (by decide) rfl
 obtain ⟨_, _, ⟨T7, L7, k7, n7⟩, -, X7, ⟨Lc7, hQ7, l7, y7, z7⟩, st7⟩ := Jvm.LawKit.callS X1 hx (y := ym37) hown (mw hZ hw 180 rfl) (mw hZ hw 181 rfl) (mw hZ hw 108 rfl) (mw hZ hw 182 rfl) (by decide) (backOf (W := 0) (rm37 l Z a0 hw b1 p1 0 1 (fun _ => (0 : Int32)) cs sv dg h1 n0 Z3 V1 g_b1 (by omega) (by omega) hS F2) hZ (hw _ (wi 182 rfl)) (hw _ (wi 108 rfl)) (by decide) (by decide)) (g := (mkF m 7 #[sI p1, sR b1] [(.int p1), (.int (0 : Int32)), (.ref b1)])) rfl (by rw [hml]; rfl) (argsL := [(.ref b1), (.int (0 : Int32)), (.int p1)]) (rest := []) (lenOf pd_9 rfl) rfl (Nat.le_refl _) (dt71 hby 6 rfl :) (fun _ _ => ⟨rfl, e1, (by decide : 1 + 0 ≤ _), (by decide : 2 + 0 ≤ _)⟩)
 dsimp only [Pt.U, Pt.locs, Pt.cells, Pt.slots] at X7 l7 y7 z7 st7 hQ7
 subst l7 y7 z7
 obtain ⟨rfl, N7q, R8, R9⟩ := hQ7
 have N7 := Fr.app N0 N7q
 have F11 : eA Z T7.heap b1 := Y1.keep R8
 have K13 : Keep h0 T7.heap [] := K4.trans R8 (allS (Or.inr sz_b1) all0)
 refine own_fin X7 hlk (v := some (.ref b1)) (own_nv hR) (by decide) (by decide) ?_ (fun fs hrt => pre0 _ ?_)
 ·
  show Q71 Z p1 cs sv dg h0 n0 _ T7.heap _
  exact ⟨b1, (own_put (fun _ => (0 : Int32)) 0 p1), rfl, N7, K13, g_b1, sz_b1, F11, R9, own_put0 _ 0 p1, own_put1 _ 0 p1⟩
 refine qc X0 hx (2 : Int32) (dt71 hby 0 rfl :) rfl ?_
 refine st1 _ ?_
 refine qtN X1 hx (l' := #[sI p1, sR b1]) (dt71 hby 2 rfl :) rfl rfl ?_
 refine qaN X1 hx (dt71 hby 3 rfl :) rfl rfl ?_
 refine qc X1 hx (0 : Int32) (dt71 hby 4 rfl :) rfl ?_
 refine qiN X1 hx (dt71 hby 5 rfl :) rfl ?_
 refine st7 _ ?_
 refine qaN X7 hx (dt71 hby 7 rfl :) rfl rfl ?_
 exact retOut X7 hx hR rfl (Or.inr (Or.inr (Or.inr (Or.inr ⟨rfl, rfl, rfl⟩)))) (dt71 hby 8 rfl :) hrt
theorem own_sub0 (n : Nat) : Int32.ofNat n - (0 : Int32) = Int32.ofNat n := own_isub (i := n) (j := 0) (Nat.zero_le n)
theorem own_min {n L : Nat} {r : Int32} (hn : n < 100000) (hL : L < 100000) (h : n ≤ L) (q : ((Int32.ofNat n).toInt ≥ (Int32.ofNat L).toInt ∧ r = Int32.ofNat L) ∨ ((Int32.ofNat L).toInt ≥ (Int32.ofNat n).toInt ∧ r = Int32.ofNat n)) : r = Int32.ofNat n := by
  rcases q with ⟨q, rfl⟩ | ⟨q, rfl⟩
  · rw [own_i hn, own_i hL] at q; exact own_ieq (by omega)
  · rfl
theorem pd_10 : parseMethodDescriptor "(II)I" = some ⟨[.int, .int], some .int⟩ := by decide +kernel
def Q68 (Z : State) (b : Addr) (n LL : Nat) (f : Nat → Int32) (h0 : Heap) (n0 : Nat) (v : Option Value) (h : Heap) (L : List Loc) : Prop := ∃ (b2 : Addr) (g : Nat → Int32), v = some (.ref b2) ∧ Fr n0 L ∧ Keep h0 h [] ∧ n0 ≤ b2 ∧ h0.size ≤ b2 ∧ eA Z h b2 ∧ own_Af Z h b2 .byte (Int32.ofNat n) g ∧ (∀ i, i < n → g i = f i)
theorem rm68 (l : Launch) (Z : State) (a0 : Array Value) (hw : own_hw a0 Z) (b : Addr) (n LL : Nat) (f : Nat → Int32) (h0 : Heap) (n0 : Nat) (Z0 : n0 ≤ h0.size) (HB0 : own_Af Z h0 b .byte (Int32.ofNat LL) f) (h1 : (n ≤ LL)) (h2 : (LL ≤ 72)) :
 own_M l ym68 [Jvm.Cond.code ym68 cm68 5 (some (.array .byte))] (⟨1, 1, 72, 40⟩ : Room) #[(.ref b), (.int (0 : Int32)), (.int (Int32.ofNat n))] Z h0 (Q68 Z b n LL f h0 n0) := by
 refine own_go n0 (F := fun m => mkF m 0 #[sR b, sI (0 : Int32), sI (Int32.ofNat n), .unset, .unset] []) (plainFor_of_name pn_6) (fun m => rfl) ?_
 intro p e s m below meth c sq Pq hR hx hby hml hown hnm hZ hh hlk X0 e0 N0 pre0
 obtain ⟨_, _, ⟨T2, L2, k2, n2⟩, -, X2, ⟨Lc2, hQ2, l2, y2, z2⟩, st2⟩ := Jvm.LawKit.callS X0 hx (y := ym69) hown (mw hZ hw 321 rfl) (mw hZ hw 322 rfl) (mw hZ hw 86 rfl) (mw hZ hw 323 rfl) (by decide) (backOf (W := 0) (rm69 l Z a0 hw n h0 n0 Z0 (by omega)) hZ (hw _ (wi 323 rfl)) (hw _ (wi 86 rfl)) (by decide) (by decide)) (g := (mkF m 2 #[sR b, sI (0 : Int32), sI (Int32.ofNat n), .unset, .unset] [(.int (Int32.ofNat n)), (.int (0 : Int32))])) rfl (by rw [hml]; rfl) (argsL := [(.int (0 : Int32)), (.int (Int32.ofNat n))]) (rest := []) (lenOf pd_3 rfl) rfl (Nat.le_refl _) (dt68 hby 2 rfl :) (fun _ _ => ⟨rfl, e0, (by decide : 0 + 0 ≤ _), (by decide : 0 + 0 ≤ _)⟩)
 dsimp only [Pt.U, Pt.locs, Pt.cells, Pt.slots] at X2 l2 y2 z2 st2 hQ2
 subst l2 y2 z2
 obtain ⟨rfl, N2q, R3⟩ := hQ2
 have N2 := Fr.app N0 N2q
 obtain ⟨T4, h4, k4, X4, e4, E4, A4, Y4, st4⟩ := newPE X2 hx hZ (hw _ (wi 7 rfl)) R3 (g := (mkF m 10 #[sR b, sI (0 : Int32), sI (Int32.ofNat n), sI (Int32.ofNat n), .unset] [(.int (Int32.ofNat n))])) rfl (dt68 hby 8 rfl :) rfl (own_i0 (by omega)) (cap := 72) (by rw [own_in (by omega)]; omega) (by decide) (by decide) (by decide) (ad := "[B") (by decide)
 obtain ⟨b4, g4⟩ : ∃ z, z = h0.size := ⟨_, rfl⟩
 rw [← g4] at A4 st4 Y4
 have g_b4 : n0 ≤ b4 := Nat.le_trans Z0 (Nat.le_of_eq g4.symm)
 have sz_b4 : h0.size ≤ b4 := Nat.le_trans (Keep.refl h0 []).1 (Nat.le_of_eq g4.symm)
 have F6 : own_Af Z h4 b .byte (Int32.ofNat LL) f := HB0.ext E4
 have Z7 : n0 ≤ h4.size := Nat.le_trans Z0 E4.1
 have K8 : Keep h0 h4 [] := (Keep.refl h0 []).ext E4
 have V4 : own_Af Z h4 b4 .byte (Int32.ofNat n) (fun _ => 0) := own_Af.new A4 (own_i0 (by omega)) rfl
 obtain ⟨co9, Ao9, So9, Mo9, Bo9, Go9⟩ := F6.op
 obtain ⟨_, _, ⟨T10, L10, k10, n10⟩, -, X10, ⟨Lc10, hQ10, l10, y10, z10⟩, st10⟩ := Jvm.LawKit.callS X4 hx (y := ym62) hown (mw hZ hw 284 rfl) (mw hZ hw 285 rfl) (mw hZ hw 249 rfl) (mw hZ hw 286 rfl) (by decide) (backOf (W := 4) (rm62 l Z a0 hw (Int32.ofNat LL) (Int32.ofNat n) h4 n0 Z7 ) hZ (hw _ (wi 286 rfl)) (hw _ (wi 249 rfl)) (by decide) (by decide)) (g := (mkF m 24 #[sR b, sI (0 : Int32), sI (Int32.ofNat n), sI (Int32.ofNat n), sR b4] [(.int (Int32.ofNat n)), (.int (Int32.ofNat LL)), (.int (0 : Int32)), (.ref b4), (.int (0 : Int32)), (.ref b)])) rfl (by rw [hml]; rfl) (argsL := [(.int (Int32.ofNat LL)), (.int (Int32.ofNat n))]) (rest := [(.int (0 : Int32)), (.ref b4), (.int (0 : Int32)), (.ref b)]) (lenOf pd_10 rfl) rfl (Nat.le_refl _) (dt68 hby 19 rfl :) (fun _ _ => ⟨rfl, e4, (by decide : 1 + 0 ≤ _), (by decide : 72 + 0 ≤ _)⟩)
 dsimp only [Pt.U, Pt.locs, Pt.cells, Pt.slots] at X10 l10 y10 z10 st10 hQ10
 subst l10 y10 z10
 obtain ⟨r11, rfl, N10q, R12, R13⟩ := hQ10
 have N10 := Fr.app N2 N10q
 have hr : r11 = Int32.ofNat n := own_min (by omega) (by omega) h1 R12
 obtain ⟨ks14, As14⟩ := id F6
 obtain ⟨kd14, Ad14⟩ := id V4
 obtain ⟨T14, h14, L14, X14, e14, N14, K14, V14l, st14⟩ := cpA X10 hx hZ hown (hw _ (wi 287 rfl)) (hw _ (wi 290 rfl)) (hw _ (wi 288 rfl)) (hw _ (wi 289 rfl)) R13 As14 Ad14 (Or.inl ⟨rfl, rfl⟩) (by decide) (by decide) (own_i0 (by omega)) (by show 0 + _ ≤ _; rw [own_in (by omega), own_in (by omega)]; omega) (by show 0 + _ ≤ _; rw [own_in (by omega)]; omega) rfl (by rw [own_rl]; exact (by show 0 + _ ≤ _; rw [own_in (by omega)]; omega)) N10 g_b4 (g := (mkF m 27 #[sR b, sI (0 : Int32), sI (Int32.ofNat n), sI (Int32.ofNat n), sR b4] [(.int (Int32.ofNat n)), (.int (0 : Int32)), (.ref b4), (.int (0 : Int32)), (.ref b)])) rfl (by rw [hml]; rfl) rfl (dt68 hby 20 rfl :) (by decide) (W := 0) (Nat.le_refl _) (by decide)
 have V14 : own_Af Z h14 b4 .byte (Int32.ofNat n) (own_cp f (fun _ => (0 : Int32)) 0 0 n) := by
  have q := own_Af.cp (by show 0 + _ ≤ _; rw [own_in (by omega), own_in (by omega)]; omega) (by show 0 + _ ≤ _; rw [own_in (by omega)]; omega) V14l
  rw [own_in (by omega)] at q
  exact q
 have F16 : eA Z h14 b4 := Y4.keep K14
 have K18 : Keep h0 h14 [] := K8.trans K14 (allS (Or.inr sz_b4) all0)
 refine own_fin X14 hlk (v := some (.ref b4)) (own_nv hR) (by decide) (by decide) ?_ (fun fs hrt => pre0 _ ?_)
 ·
  show Q68 Z b n LL f h0 n0 _ T14.heap _
  rw [e14]
  exact ⟨b4, (own_cp f (fun _ => (0 : Int32)) 0 0 n), rfl, N14, K18, g_b4, sz_b4, F16, V14, fun i hi => by unfold own_cp; rw [if_pos ⟨by omega, by omega⟩]; simp⟩
 refine qiN X0 hx (dt68 hby 0 rfl :) rfl ?_
 refine qiN X0 hx (dt68 hby 1 rfl :) rfl ?_
 refine st2 _ ?_
 refine qiN X2 hx (dt68 hby 3 rfl :) rfl ?_
 refine qiN X2 hx (dt68 hby 4 rfl :) rfl ?_
 refine XS.isub X2.here hx rfl (dt68 hby 5 rfl :) rfl ?_
 rw [show ((Int32.ofNat n) - (0 : Int32)) = (Int32.ofNat n) from own_sub0 _]
 refine qsN X2 hx (l' := #[sR b, sI (0 : Int32), sI (Int32.ofNat n), sI (Int32.ofNat n), .unset]) (dt68 hby 6 rfl :) rfl ?_
 refine qiN X2 hx (dt68 hby 7 rfl :) rfl ?_
 refine st4 _ ?_
 refine qt X4 hx (l' := #[sR b, sI (0 : Int32), sI (Int32.ofNat n), sI (Int32.ofNat n), sR b4]) (dt68 hby 9 rfl :) rfl rfl ?_
 refine qaN X4 hx (dt68 hby 10 rfl :) rfl rfl ?_
 refine qiN X4 hx (dt68 hby 11 rfl :) rfl ?_
 refine qa X4 hx (dt68 hby 12 rfl :) rfl rfl ?_
 refine qc X4 hx (0 : Int32) (dt68 hby 13 rfl :) rfl ?_
 refine qaN X4 hx (dt68 hby 14 rfl :) rfl rfl ?_
 refine X4.arraylength hx (by rw [e4]; exact Ao9.1) (State.isArrayOf_alike hZ.alike Ao9.2.1) (g := (mkF m 20 #[sR b, sI (0 : Int32), sI (Int32.ofNat n), sI (Int32.ofNat n), sR b4] [(.ref b), (.int (0 : Int32)), (.ref b4), (.int (0 : Int32)), (.ref b)])) rfl rfl (dt68 hby 15 rfl :) _ ?_
 rw [len_of So9 Mo9]
 refine qiN X4 hx (dt68 hby 16 rfl :) rfl ?_
 refine XS.isub X4.here hx rfl (dt68 hby 17 rfl :) rfl ?_
 rw [show ((Int32.ofNat LL) - (0 : Int32)) = (Int32.ofNat LL) from own_sub0 _]
 refine qiN X4 hx (dt68 hby 18 rfl :) rfl ?_
 refine st10 _ ?_
 rw [show r11 = (Int32.ofNat n) from hr]
 refine st14 _ ?_
 refine qa X14 hx (dt68 hby 21 rfl :) rfl rfl ?_
 exact retOut X14 hx hR rfl (Or.inr (Or.inr (Or.inr (Or.inr ⟨rfl, rfl, rfl⟩)))) (dt68 hby 22 rfl :) hrt
theorem pd_11 : parseMethodDescriptor "([BII)[B" = some ⟨[(.array .byte), .int, .int], some (.array .byte)⟩ := by decide +kernel
def Q15 (Z : State) (b : Addr) (n LL : Nat) (f : Nat → Int32) (h0 : Heap) (n0 : Nat) (v : Option Value) (h : Heap) (L : List Loc) : Prop := ∃ (b2 : Addr) (g : Nat → Int32), v = some (.ref b2) ∧ Fr n0 L ∧ Keep h0 h [] ∧ n0 ≤ b2 ∧ h0.size ≤ b2 ∧ eA Z h b2 ∧ own_Af Z h b2 .byte (Int32.ofNat n) g ∧ (∀ i, i < n → g i = f i)
theorem rm15 (l : Launch) (Z : State) (a0 : Array Value) (hw : own_hw a0 Z) (b : Addr) (n LL : Nat) (f : Nat → Int32) (h0 : Heap) (n0 : Nat) (Z0 : n0 ≤ h0.size) (HB0 : own_Af Z h0 b .byte (Int32.ofNat LL) f) (HE1 : eA Z h0 b) (h1 : (n ≤ LL)) (h2 : (LL ≤ 72)) :
 own_M l ym15 [Jvm.Cond.code ym15 cm15 3 (some (.array .byte))] (⟨2, 1, 72, 56⟩ : Room) #[(.ref b), (.int (0 : Int32)), (.int (Int32.ofNat n))] Z h0 (Q15 Z b n LL f h0 n0) := by
 refine own_go n0 (F := fun m => mkF m 0 #[sR b, sI (0 : Int32), sI (Int32.ofNat n)] []) (plainFor_of_name pn_6) (fun m => rfl) ?_
 intro p e s m below meth c sq Pq hR hx hby hml hown hnm hZ hh hlk X0 e0 N0 pre0
 obtain ⟨co1, Ao1, So1, Mo1, Bo1, Go1⟩ := HB0.op
 have P2 : ∀ t, Steps p.tables e below (sq.setTop (mkF m 7 #[sR b, sI (0 : Int32), sI (Int32.ofNat n)] [(.int (Int32.ofNat LL)), (.int (Int32.ofNat n))])) t → Pq t := fun t k => pre0 t (by
  refine qiN X0 hx (dt15 hby 0 rfl :) rfl ?_
  refine qfN X0 hx (dt15 hby 1 rfl :) ((if0 _ _).trans (teq (by decide : (0 : Int32) = (0 : Int32))).2) ?_
  refine qiN X0 hx (dt15 hby 2 rfl :) rfl ?_
  refine qaN X0 hx (dt15 hby 3 rfl :) rfl rfl ?_
  refine X0.arraylength hx (by rw [e0]; exact Ao1.1) (State.isArrayOf_alike hZ.alike Ao1.2.1) (g := (mkF m 6 #[sR b, sI (0 : Int32), sI (Int32.ofNat n)] [(.ref b), (.int (Int32.ofNat n))])) rfl rfl (dt15 hby 4 rfl :) _ ?_
  rw [len_of So1 Mo1]
  exact k)
 by_cases hc : (Int32.ofNat n) = (Int32.ofNat LL)
 ·
  obtain ⟨kc3, Ac3⟩ := id HB0
  obtain ⟨T4, h4, X4, e4, E4, B4, A4, st4⟩ := cloneH X0 hx hZ hown (hw _ (wi 88 rfl)) (hw _ (wi 89 rfl)) (hw _ (wi 93 rfl)) (hw _ (wi 91 rfl)) (hw _ (wi 92 rfl)) (hw _ (wi 94 rfl)) e0 (Arv.arh Ac3) HE1 (g := (mkF m 18 #[sR b, sI (0 : Int32), sI (Int32.ofNat n)] [(.ref b)])) rfl (by rw [hml]; rfl) rfl (dt15 hby 7 rfl :) (by decide) (W := 0) (Nat.le_refl _) (by decide) (cap := 72) (by rw [own_in (by omega)]; omega) (by decide) (by decide)
  obtain ⟨b4, g4⟩ : ∃ z, z = h0.size := ⟨_, rfl⟩
  rw [← g4] at A4 B4 st4
  have g_b4 : n0 ≤ b4 := Nat.le_trans Z0 (Nat.le_of_eq g4.symm)
  have sz_b4 : h0.size ≤ b4 := Nat.le_trans (Keep.refl h0 []).1 (Nat.le_of_eq g4.symm)
  have K9 : Keep h0 h4 [] := (Keep.refl h0 []).ext E4
  have V4 : own_Af Z h4 b4 .byte (Int32.ofNat LL) f := ⟨_, B4⟩
  obtain ⟨T10, X10, e10, st10⟩ := castY X4 hx hZ hown (hw _ (wi 95 rfl)) e4 (Ins.self A4) (g := (mkF m 21 #[sR b, sI (0 : Int32), sI (Int32.ofNat n)] [(.ref b4)])) rfl rfl (dt15 hby 8 rfl :)
  have Vq : own_Af Z h4 b4 .byte (Int32.ofNat n) f := by rw [hc]; exact V4
  refine own_fin X10 hlk (v := some (.ref b4)) (own_nv hR) (by decide) (by decide) ?_ (fun fs hrt => P2 _ ?_)
  ·
   show Q15 Z b n LL f h0 n0 _ T10.heap _
   rw [e10]
   exact ⟨b4, f, rfl, N0, K9, g_b4, sz_b4, A4, Vq, fun _ _ => rfl⟩
  refine qmY X0 hx 7 17 (dt15 hby 5 rfl :) (teq hc).1 (by decide) (by decide) ?_
  refine qaN X0 hx (dt15 hby 6 rfl :) rfl rfl ?_
  refine st4 _ ?_
  refine st10 _ ?_
  exact retOut X10 hx hR rfl (Or.inr (Or.inr (Or.inr (Or.inr ⟨rfl, rfl, rfl⟩)))) (dt15 hby 9 rfl :) hrt
 ·
  obtain ⟨_, _, ⟨T13, L13, k13, n13⟩, -, X13, ⟨Lc13, hQ13, l13, y13, z13⟩, st13⟩ := Jvm.LawKit.callS X0 hx (y := ym68) hown (mw hZ hw 318 rfl) (mw hZ hw 319 rfl) (mw hZ hw 86 rfl) (mw hZ hw 320 rfl) (by decide) (backOf (W := 0) (rm68 l Z a0 hw b n LL f h0 n0 Z0 HB0 (by omega) (by omega)) hZ (hw _ (wi 320 rfl)) (hw _ (wi 86 rfl)) (by decide) (by decide)) (g := (mkF m 13 #[sR b, sI (0 : Int32), sI (Int32.ofNat n)] [(.int (Int32.ofNat n)), (.int (0 : Int32)), (.ref b)])) rfl (by rw [hml]; rfl) (argsL := [(.ref b), (.int (0 : Int32)), (.int (Int32.ofNat n))]) (rest := []) (lenOf pd_11 rfl) rfl (Nat.le_refl _) (dt15 hby 13 rfl :) (fun _ _ => ⟨rfl, e0, (by decide : 0 + 1 ≤ _), (by decide : 0 + 72 ≤ _)⟩)
  dsimp only [Pt.U, Pt.locs, Pt.cells, Pt.slots] at X13 l13 y13 z13 st13 hQ13
  subst l13 y13 z13
  obtain ⟨b214, g15, rfl, N13q, R16, R17, R18, R19, R20, R21⟩ := hQ13
  have N13 := Fr.app N0 N13q
  have K25 : Keep h0 T13.heap [] := (Keep.refl h0 []).trans R16 all0
  have sz_b214 : h0.size ≤ b214 := Nat.le_trans (Keep.refl h0 []).1 R18
  refine own_fin X13 hlk (v := some (.ref b214)) (own_nv hR) (by decide) (by decide) ?_ (fun fs hrt => P2 _ ?_)
  ·
   show Q15 Z b n LL f h0 n0 _ T13.heap _
   exact ⟨b214, g15, rfl, N13, K25, R17, sz_b214, R19, R20, R21⟩
  refine qmN X0 hx (dt15 hby 5 rfl :) (feq hc).1 ?_
  refine qaN X0 hx (dt15 hby 10 rfl :) rfl rfl ?_
  refine qiN X0 hx (dt15 hby 11 rfl :) rfl ?_
  refine qiN X0 hx (dt15 hby 12 rfl :) rfl ?_
  refine st13 _ ?_
  exact retOut X13 hx hR rfl (Or.inr (Or.inr (Or.inr (Or.inr ⟨rfl, rfl, rfl⟩)))) (dt15 hby 14 rfl :) hrt
def Q61 (Z : State) (b : Addr) (n LL : Nat) (f : Nat → Int32) (h0 : Heap) (n0 : Nat) (v : Option Value) (h : Heap) (L : List Loc) : Prop := ∃ (b2 : Addr) (g : Nat → Int32), v = some (.ref b2) ∧ Fr n0 L ∧ Keep h0 h [] ∧ n0 ≤ b2 ∧ h0.size ≤ b2 ∧ eA Z h b2 ∧ own_Af Z h b2 .byte (Int32.ofNat n) g ∧ (∀ i, i < LL → g i = f i) ∧ (∀ i, LL ≤ i → g i = 0)
theorem rm61 (l : Launch) (Z : State) (a0 : Array Value) (hw : own_hw a0 Z) (b : Addr) (n LL : Nat) (f : Nat → Int32) (h0 : Heap) (n0 : Nat) (Z0 : n0 ≤ h0.size) (HB0 : own_Af Z h0 b .byte (Int32.ofNat LL) f) (h1 : (LL < n)) (h2 : (n ≤ 72)) :
 own_M l ym61 [Jvm.Cond.code ym61 cm61 3 (some (.array .byte))] (⟨1, 1, 72, 40⟩ : Room) #[(.ref b), (.int (Int32.ofNat n))] Z h0 (Q61 Z b n LL f h0 n0) := by
 refine own_go n0 (F := fun m => mkF m 0 #[sR b, sI (Int32.ofNat n), .unset] []) (plainFor_of_name pn_6) (fun m => rfl) ?_
 intro p e s m below meth c sq Pq hR hx hby hml hown hnm hZ hh hlk X0 e0 N0 pre0
 obtain ⟨co1, Ao1, So1, Mo1, Bo1, Go1⟩ := HB0.op
 have hc3_2 : ¬ ((Int32.ofNat n) = (Int32.ofNat LL)) := own_ine (by omega) (by omega) (by omega)
 obtain ⟨T3, h3, k3, X3, e3, E3, A3, Y3, st3⟩ := newPE X0 hx hZ (hw _ (wi 7 rfl)) e0 (g := (mkF m 15 #[sR b, sI (Int32.ofNat n), .unset] [(.int (Int32.ofNat n))])) rfl (dt61 hby 5 rfl :) rfl (own_i0 (by omega)) (cap := 72) (by rw [own_in (by omega)]; omega) (by decide) (by decide) (by decide) (ad := "[B") (by decide)
 obtain ⟨b3, g3⟩ : ∃ z, z = h0.size := ⟨_, rfl⟩
 rw [← g3] at A3 st3 Y3
 have g_b3 : n0 ≤ b3 := Nat.le_trans Z0 (Nat.le_of_eq g3.symm)
 have sz_b3 : h0.size ≤ b3 := Nat.le_trans (Keep.refl h0 []).1 (Nat.le_of_eq g3.symm)
 have F5 : own_Af Z h3 b .byte (Int32.ofNat LL) f := HB0.ext E3
 have Z6 : n0 ≤ h3.size := Nat.le_trans Z0 E3.1
 have K7 : Keep h0 h3 [] := (Keep.refl h0 []).ext E3
 have V3 : own_Af Z h3 b3 .byte (Int32.ofNat n) (fun _ => 0) := own_Af.new A3 (own_i0 (by omega)) rfl
 obtain ⟨co8, Ao8, So8, Mo8, Bo8, Go8⟩ := F5.op
 obtain ⟨_, _, ⟨T9, L9, k9, n9⟩, -, X9, ⟨Lc9, hQ9, l9, y9, z9⟩, st9⟩ := Jvm.LawKit.callS X3 hx (y := ym62) hown (mw hZ hw 284 rfl) (mw hZ hw 285 rfl) (mw hZ hw 249 rfl) (mw hZ hw 286 rfl) (by decide) (backOf (W := 4) (rm62 l Z a0 hw (Int32.ofNat LL) (Int32.ofNat n) h3 n0 Z6 ) hZ (hw _ (wi 286 rfl)) (hw _ (wi 249 rfl)) (by decide) (by decide)) (g := (mkF m 25 #[sR b, sI (Int32.ofNat n), sR b3] [(.int (Int32.ofNat n)), (.int (Int32.ofNat LL)), (.int (0 : Int32)), (.ref b3), (.int (0 : Int32)), (.ref b)])) rfl (by rw [hml]; rfl) (argsL := [(.int (Int32.ofNat LL)), (.int (Int32.ofNat n))]) (rest := [(.int (0 : Int32)), (.ref b3), (.int (0 : Int32)), (.ref b)]) (lenOf pd_10 rfl) rfl (Nat.le_refl _) (dt61 hby 14 rfl :) (fun _ _ => ⟨rfl, e3, (by decide : 1 + 0 ≤ _), (by decide : 72 + 0 ≤ _)⟩)
 dsimp only [Pt.U, Pt.locs, Pt.cells, Pt.slots] at X9 l9 y9 z9 st9 hQ9
 subst l9 y9 z9
 obtain ⟨r10, rfl, N9q, R11, R12⟩ := hQ9
 have N9 := Fr.app N0 N9q
 have hr : r10 = Int32.ofNat LL := own_min (by omega) (by omega) (Nat.le_of_lt h1) (R11.symm)
 obtain ⟨ks13, As13⟩ := id F5
 obtain ⟨kd13, Ad13⟩ := id V3
 obtain ⟨T13, h13, L13, X13, e13, N13, K13, V13l, st13⟩ := cpA X9 hx hZ hown (hw _ (wi 287 rfl)) (hw _ (wi 290 rfl)) (hw _ (wi 288 rfl)) (hw _ (wi 289 rfl)) R12 As13 Ad13 (Or.inl ⟨rfl, rfl⟩) (by decide) (by decide) (own_i0 (by omega)) (by show 0 + _ ≤ _; rw [own_in (by omega)]; omega) (by show 0 + _ ≤ _; rw [own_in (by omega), own_in (by omega)]; omega) rfl (by rw [own_rl]; exact (by show 0 + _ ≤ _; rw [own_in (by omega), own_in (by omega)]; omega)) N9 g_b3 (g := (mkF m 28 #[sR b, sI (Int32.ofNat n), sR b3] [(.int (Int32.ofNat LL)), (.int (0 : Int32)), (.ref b3), (.int (0 : Int32)), (.ref b)])) rfl (by rw [hml]; rfl) rfl (dt61 hby 15 rfl :) (by decide) (W := 0) (Nat.le_refl _) (by decide)
 have V13 : own_Af Z h13 b3 .byte (Int32.ofNat n) (own_cp f (fun _ => (0 : Int32)) 0 0 LL) := by
  have q := own_Af.cp (by show 0 + _ ≤ _; rw [own_in (by omega)]; omega) (by show 0 + _ ≤ _; rw [own_in (by omega), own_in (by omega)]; omega) V13l
  rw [own_in (by omega)] at q
  exact q
 have F15 : eA Z h13 b3 := Y3.keep K13
 have K17 : Keep h0 h13 [] := K7.trans K13 (allS (Or.inr sz_b3) all0)
 refine own_fin X13 hlk (v := some (.ref b3)) (own_nv hR) (by decide) (by decide) ?_ (fun fs hrt => pre0 _ ?_)
 ·
  show Q61 Z b n LL f h0 n0 _ T13.heap _
  rw [e13]
  exact ⟨b3, (own_cp f (fun _ => (0 : Int32)) 0 0 LL), rfl, N13, K17, g_b3, sz_b3, F15, V13, fun i hi => by unfold own_cp; rw [if_pos ⟨by omega, by omega⟩]; simp, fun i hi => by unfold own_cp; rw [if_neg (by omega)]⟩
 refine qiN X0 hx (dt61 hby 0 rfl :) rfl ?_
 refine qaN X0 hx (dt61 hby 1 rfl :) rfl rfl ?_
 refine X0.arraylength hx (by rw [e0]; exact Ao1.1) (State.isArrayOf_alike hZ.alike Ao1.2.1) (g := (mkF m 2 #[sR b, sI (Int32.ofNat n), .unset] [(.ref b), (.int (Int32.ofNat n))])) rfl rfl (dt61 hby 2 rfl :) _ ?_
 rw [len_of So1 Mo1]
 refine qmY X0 hx 3 14 (dt61 hby 3 rfl :) (feq hc3_2).2 (by decide) (by decide) ?_
 refine qiN X0 hx (dt61 hby 4 rfl :) rfl ?_
 refine st3 _ ?_
 refine qtN X3 hx (l' := #[sR b, sI (Int32.ofNat n), sR b3]) (dt61 hby 6 rfl :) rfl rfl ?_
 refine qaN X3 hx (dt61 hby 7 rfl :) rfl rfl ?_
 refine qc X3 hx (0 : Int32) (dt61 hby 8 rfl :) rfl ?_
 refine qaN X3 hx (dt61 hby 9 rfl :) rfl rfl ?_
 refine qc X3 hx (0 : Int32) (dt61 hby 10 rfl :) rfl ?_
 refine qaN X3 hx (dt61 hby 11 rfl :) rfl rfl ?_
 refine X3.arraylength hx (by rw [e3]; exact Ao8.1) (State.isArrayOf_alike hZ.alike Ao8.2.1) (g := (mkF m 23 #[sR b, sI (Int32.ofNat n), sR b3] [(.ref b), (.int (0 : Int32)), (.ref b3), (.int (0 : Int32)), (.ref b)])) rfl rfl (dt61 hby 12 rfl :) _ ?_
 rw [len_of So8 Mo8]
 refine qiN X3 hx (dt61 hby 13 rfl :) rfl ?_
 refine st9 _ ?_
 rw [show r10 = (Int32.ofNat LL) from hr]
 refine st13 _ ?_
 refine qaN X13 hx (dt61 hby 16 rfl :) rfl rfl ?_
 exact retOut X13 hx hR rfl (Or.inr (Or.inr (Or.inr (Or.inr ⟨rfl, rfl, rfl⟩)))) (dt61 hby 17 rfl :) hrt
theorem pd_12 : parseMethodDescriptor "(II[B)V" = some ⟨[.int, .int, (.array .byte)], none⟩ := by decide +kernel
def Q44 (Z : State) (a1 b : Addr) (d n LL M : Nat) (f g : Nat → Int32) (cs : Int32) (sv : Value) (dg : Addr) (h0 : Heap) (n0 : Nat) (v : Option Value) (h : Heap) (L : List Loc) : Prop := v = none ∧ Fr n0 L ∧ Keep h0 h [b] ∧ own_Af Z h b .byte (Int32.ofNat (2 * M)) (own_inf f g d n)
theorem rm44 (l : Launch) (Z : State) (a0 : Array Value) (hw : own_hw a0 Z) (a1 b : Addr) (d n LL M : Nat) (f g : Nat → Int32) (cs : Int32) (sv : Value) (dg : Addr) (h0 : Heap) (n0 : Nat) (Z0 : n0 ≤ h0.size) (HB0 : own_Af Z h0 a1 .byte (Int32.ofNat LL) f) (HB1 : own_Af Z h0 b .byte (Int32.ofNat (2 * M)) g) (Hg2 : n0 ≤ b) (hne : a1 ≠ b) (h1 : (n ≤ LL)) (h2 : (d + n ≤ M)) (h3 : (M < 30000)) (h4 : (LL < 30000)) (hS : (own_ST Z cs sv dg)) (HO : Old Z n0 h0) :
 own_M l ym44 [Jvm.Cond.code ym44 cm44 6 none] (⟨3, 0, 0, 43⟩ : Room) #[(.ref a1), (.int (0 : Int32)), (.ref b), (.int (Int32.ofNat d)), (.int (Int32.ofNat n))] Z h0 (Q44 Z a1 b d n LL M f g cs sv dg h0 n0) := by
 refine own_go n0 (F := fun m => mkF m 0 #[sR a1, sI (0 : Int32), sR b, sI (Int32.ofNat d), sI (Int32.ofNat n), .unset] []) (plainFor_of_name pn_5) (fun m => rfl) ?_
 intro p e s m below meth c sq Pq hR hx hby hml hown hnm hZ hh hlk X0 e0 N0 pre0
 obtain ⟨_, _, ⟨T3, L3, k3, n3⟩, -, X3, ⟨Lc3, hQ3, l3, y3, z3⟩, st3⟩ := Jvm.LawKit.callS X0 hx (y := ym45) hown (mw hZ hw 211 rfl) (mw hZ hw 212 rfl) (mw hZ hw 108 rfl) (mw hZ hw 213 rfl) (by decide) (backOf (W := 0) (rm45 l Z a0 hw b d n M g cs sv dg h0 n0 Z0 HB1 (by omega) (by omega) hS HO) hZ (hw _ (wi 213 rfl)) (hw _ (wi 108 rfl)) (by decide) (by decide)) (g := (mkF m 4 #[sR a1, sI (0 : Int32), sR b, sI (Int32.ofNat d), sI (Int32.ofNat n), .unset] [(.ref b), (.int (Int32.ofNat n)), (.int (Int32.ofNat d))])) rfl (by rw [hml]; rfl) (argsL := [(.int (Int32.ofNat d)), (.int (Int32.ofNat n)), (.ref b)]) (rest := []) (lenOf pd_12 rfl) rfl (Nat.le_refl _) (dt44 hby 3 rfl :) (fun _ _ => ⟨rfl, e0, (by decide : 0 + 0 ≤ _), (by decide : 0 + 0 ≤ _)⟩)
 dsimp only [Pt.U, Pt.locs, Pt.cells, Pt.slots] at X3 l3 y3 z3 st3 hQ3
 subst l3 y3 z3
 obtain ⟨rfl, N3q, R4⟩ := hQ3
 have N3 := Fr.app N0 N3q
 have P5 : ∀ t, Steps p.tables e below (T3.setTop (mkF m 10 #[sR a1, sI (Int32.ofNat 0), sR b, sI (Int32.ofNat (d + 0)), sI (Int32.ofNat n), sI (Int32.ofNat 0)] [])) t → Pq t := fun t k => pre0 t (by
  refine qiN X0 hx (dt44 hby 0 rfl :) rfl ?_
  refine qi X0 hx (dt44 hby 1 rfl :) rfl ?_
  refine qaN X0 hx (dt44 hby 2 rfl :) rfl rfl ?_
  refine st3 _ ?_
  refine qc X3 hx (0 : Int32) (dt44 hby 4 rfl :) rfl ?_
  refine qs X3 hx (l' := #[sR a1, sI (0 : Int32), sR b, sI (Int32.ofNat d), sI (Int32.ofNat n), sI (0 : Int32)]) (dt44 hby 5 rfl :) rfl ?_
  show Steps p.tables e below (T3.setTop (mkF m 10 #[sR a1, sI (Int32.ofNat 0), sR b, sI (Int32.ofNat d), sI (Int32.ofNat n), sI (Int32.ofNat 0)] [])) _
  show Steps p.tables e below (T3.setTop (mkF m 10 #[sR a1, sI (Int32.ofNat 0), sR b, sI (Int32.ofNat (d + 0)), sI (Int32.ofNat n), sI (Int32.ofNat 0)] [])) _
  exact k)
 have lp6 : ∀ (nn i : Nat), nn + i = n → ∀ (Tl : State) (lo : List Loc) (hl : Heap), Stand p l e (⟨3, 0, 0, 43⟩ : Room) s m #[(.ref a1), (.int (0 : Int32)), (.ref b), (.int (Int32.ofNat d)), (.int (Int32.ofNat n))] below meth c Tl lo 0 0 → Tl.heap = hl → own_Af Z hl a1 .byte (Int32.ofNat LL) f → own_Af Z hl b .byte (Int32.ofNat (2 * M)) (own_inf f g d i) → Old Z n0 hl →  Keep h0 hl [b] → Fr n0 lo → n0 ≤ hl.size → (∀ t, Steps p.tables e below (Tl.setTop (mkF m 10 #[sR a1, sI (Int32.ofNat i), sR b, sI (Int32.ofNat (d + i)), sI (Int32.ofNat n), sI (Int32.ofNat i)] [])) t → Pq t) →
   ∃ (T' : State) (lo' : List Loc) (h' : Heap), Stand p l e (⟨3, 0, 0, 43⟩ : Room) s m #[(.ref a1), (.int (0 : Int32)), (.ref b), (.int (Int32.ofNat d)), (.int (Int32.ofNat n))] below meth c T' lo' 0 0 ∧ T'.heap = h' ∧ own_Af Z h' a1 .byte (Int32.ofNat LL) f ∧ own_Af Z h' b .byte (Int32.ofNat (2 * M)) (own_inf f g d n) ∧ Old Z n0 h' ∧  Keep h0 h' [b] ∧ Fr n0 lo' ∧ n0 ≤ h'.size ∧ ∀ t, Steps p.tables e below (T'.setTop (mkF m 41 #[sR a1, sI (Int32.ofNat n), sR b, sI (Int32.ofNat (d + n)), sI (Int32.ofNat n), sI (Int32.ofNat n)] [])) t → Pq t := by
  intro nn
  induction nn with
  | zero =>
   intro i hi Tl lo hl Xl el Fl0 Fl1 Fl2 Kl Nl Zl Pl
   obtain rfl : n = i := by omega
   have hc14_7 : ¬ ((Int32.ofNat n) < (Int32.ofNat n)) := own_inlt (by omega) (by omega) (Nat.le_refl _)
   have P8 : ∀ t, Steps p.tables e below (Tl.setTop (mkF m 41 #[sR a1, sI (Int32.ofNat n), sR b, sI (Int32.ofNat (d + n)), sI (Int32.ofNat n), sI (Int32.ofNat n)] [])) t → Pq t := fun t k => Pl t (by
    refine qi Xl hx (dt44 hby 6 rfl :) rfl ?_
    refine qi Xl hx (dt44 hby 7 rfl :) rfl ?_
    refine qmY Xl hx 14 41 (dt44 hby 8 rfl :) (flt hc14_7).2.1 (by decide) (by decide) ?_
    exact k)
   exact ⟨Tl, _, hl, Xl, el, Fl0, Fl1, Fl2, Kl, Nl, Zl, P8⟩
  | succ nn ih =>
   intro i hi Tl lo hl Xl el Fl0 Fl1 Fl2 Kl Nl Zl Pl
   have hin : i < n := by omega
   have hc14_9 : (Int32.ofNat i) < (Int32.ofNat n) := own_ilt (by omega) (by omega) hin
   obtain ⟨co10, Ao10, So10, Mo10, Bo10, Go10⟩ := Fl0.op
   have ib11 : ¬ ((Int32.ofNat i) < 0 ∨ co10.slots.size ≤ ((Int32.ofNat i)).toNatClampNeg) := inb_of So10 ⟨own_i0 (by omega), own_ilt (by omega) (by omega) (by omega)⟩
   obtain ⟨_, _, ⟨T14, L14, k14, n14⟩, -, X14, ⟨Lc14, hQ14, l14, y14, z14⟩, st14⟩ := Jvm.LawKit.callS Xl hx (y := ym37) hown (mw hZ hw 180 rfl) (mw hZ hw 181 rfl) (mw hZ hw 108 rfl) (mw hZ hw 182 rfl) (by decide) (backOf (W := 0) (rm37 l Z a0 hw b ((f i) &&& (255 : Int32)) (d + i) M (own_inf f g d i) cs sv dg hl n0 Zl Fl1 Hg2 (by omega) (by omega) hS Fl2) hZ (hw _ (wi 182 rfl)) (hw _ (wi 108 rfl)) (by decide) (by decide)) (g := (mkF m 32 #[sR a1, sI (Int32.ofNat (i + 1)), sR b, sI (Int32.ofNat (d + (i + 1))), sI (Int32.ofNat n), sI (Int32.ofNat i)] [(.int ((f i) &&& (255 : Int32))), (.int (Int32.ofNat (d + i))), (.ref b)])) rfl (by rw [hml]; rfl) (argsL := [(.ref b), (.int (Int32.ofNat (d + i))), (.int ((f i) &&& (255 : Int32)))]) (rest := []) (lenOf pd_9 rfl) rfl (Nat.le_refl _) (dt44 hby 18 rfl :) (fun _ _ => ⟨rfl, el, (by decide : 0 + 0 ≤ _), (by decide : 0 + 0 ≤ _)⟩)
   dsimp only [Pt.U, Pt.locs, Pt.cells, Pt.slots] at X14 l14 y14 z14 st14 hQ14
   subst l14 y14 z14
   obtain ⟨rfl, N14q, R15, R16⟩ := hQ14
   have N14 := Fr.app Nl N14q
   have F17 : own_Af Z T14.heap a1 .byte (Int32.ofNat LL) f := Fl0.keep R15 (ninS hne nin0)
   have F18 : Old Z n0 T14.heap := Fl2.keep R15 (allS Hg2 all0)
   have Z19 : n0 ≤ T14.heap.size := Nat.le_trans Zl R15.1
   have K20 : Keep h0 T14.heap [b] := Kl.trans R15 (allS (Or.inl (wi 0 rfl)) all0)
   have P21 : ∀ t, Steps p.tables e below (T14.setTop (mkF m 10 #[sR a1, sI (Int32.ofNat (i + 1)), sR b, sI (Int32.ofNat (d + (i + 1))), sI (Int32.ofNat n), sI (Int32.ofNat (i + 1))] [])) t → Pq t := fun t k => Pl t (by
    refine qi Xl hx (dt44 hby 6 rfl :) rfl ?_
    refine qi Xl hx (dt44 hby 7 rfl :) rfl ?_
    refine qmN Xl hx (dt44 hby 8 rfl :) (tlt hc14_9).2.1 ?_
    refine qaN Xl hx (dt44 hby 9 rfl :) rfl rfl ?_
    refine qiN Xl hx (dt44 hby 10 rfl :) rfl ?_
    refine XS.iinc Xl.here hx rfl (dt44 hby 11 rfl :) rfl (l' := #[sR a1, sI (Int32.ofNat i), sR b, sI ((Int32.ofNat (d + i)) + (1 : Int32)), sI (Int32.ofNat n), sI (Int32.ofNat i)]) rfl ?_
    rw [show ((Int32.ofNat (d + i)) + (1 : Int32)) = (Int32.ofNat (d + (i + 1))) from own_isucc _]
    refine qaN Xl hx (dt44 hby 12 rfl :) rfl rfl ?_
    refine qiN Xl hx (dt44 hby 13 rfl :) rfl ?_
    refine XS.iinc Xl.here hx rfl (dt44 hby 14 rfl :) rfl (l' := #[sR a1, sI ((Int32.ofNat i) + (1 : Int32)), sR b, sI (Int32.ofNat (d + (i + 1))), sI (Int32.ofNat n), sI (Int32.ofNat i)]) rfl ?_
    rw [show ((Int32.ofNat i) + (1 : Int32)) = (Int32.ofNat (i + 1)) from own_isucc _]
    refine Xl.baloadBytes hx (j := (Int32.ofNat i)) (v := (.int (f ((Int32.ofNat i)).toNatClampNeg))) (by rw [el]; exact Ao10.1) (State.isArrayOf_alike hZ.alike Ao10.2.1) Ao10.2.2 ib11 (Bo10 _ (Nat.lt_of_not_le fun q => ib11 (Or.inr q))) (g := (mkF m 27 #[sR a1, sI (Int32.ofNat (i + 1)), sR b, sI (Int32.ofNat (d + (i + 1))), sI (Int32.ofNat n), sI (Int32.ofNat i)] [(.int (Int32.ofNat i)), (.ref a1), (.int (Int32.ofNat (d + i))), (.ref b)])) rfl rfl (dt44 hby 15 rfl :) _ ?_
    rw [show (f ((Int32.ofNat i)).toNatClampNeg) = (f i) from congrArg f (own_in (by omega))]
    refine qp Xl hx (255 : Int32) (dt44 hby 16 rfl :) rfl ?_
    refine XS.iand Xl.here hx rfl (dt44 hby 17 rfl :) rfl ?_
    refine st14 _ ?_
    refine XS.iinc X14.here hx rfl (dt44 hby 19 rfl :) rfl (l' := #[sR a1, sI (Int32.ofNat (i + 1)), sR b, sI (Int32.ofNat (d + (i + 1))), sI (Int32.ofNat n), sI ((Int32.ofNat i) + (1 : Int32))]) rfl ?_
    rw [show ((Int32.ofNat i) + (1 : Int32)) = (Int32.ofNat (i + 1)) from own_isucc _]
    refine qg X14 hx 38 10 (dt44 hby 20 rfl :) (by decide) (by decide) ?_
    exact k)
   exact ih (i + 1) (by omega) T14 _ T14.heap X14 rfl F17 R16 F18 K20 N14 Z19 P21
 obtain ⟨Te25, le25, he25, Xe25, ee25, Fe22, Fe23, Fe24,  Ke25, Ne25, Ze25, Pe25⟩ := lp6 n 0 (by omega) T3 _ h0 X3 R4 HB0 HB1 HO (Keep.refl h0 [b]) N3 Z0 P5
 refine own_fin Xe25 hlk (v := none) (fun _ => rfl) (by decide) (by decide) ?_ (fun fs hrt => Pe25 _ ?_)
 ·
  show Q44 Z a1 b d n LL M f g cs sv dg h0 n0 _ Te25.heap _
  rw [ee25]
  exact ⟨rfl, Ne25, Ke25, Fe23⟩
 exact Xe25.returnOut hx hR (dt44 hby 21 rfl :) hrt
theorem pd_13 : parseMethodDescriptor "([BI[BII)V" = some ⟨[(.array .byte), .int, (.array .byte), .int, .int], none⟩ := by decide +kernel
def Q43 (Z : State) (a1 b : Addr) (d n LL M : Nat) (f g : Nat → Int32) (cs : Int32) (sv : Value) (dg : Addr) (h0 : Heap) (n0 : Nat) (v : Option Value) (h : Heap) (L : List Loc) : Prop := v = none ∧ Fr n0 L ∧ Keep h0 h [b] ∧ own_Af Z h b .byte (Int32.ofNat (2 * M)) (own_inf f g d n)
theorem rm43 (l : Launch) (Z : State) (a0 : Array Value) (hw : own_hw a0 Z) (a1 b : Addr) (d n LL M : Nat) (f g : Nat → Int32) (cs : Int32) (sv : Value) (dg : Addr) (h0 : Heap) (n0 : Nat) (Z0 : n0 ≤ h0.size) (HB0 : own_Af Z h0 a1 .byte (Int32.ofNat LL) f) (HB1 : own_Af Z h0 b .byte (Int32.ofNat (2 * M)) g) (Hg2 : n0 ≤ b) (hne : a1 ≠ b) (h1 : (n ≤ LL)) (h2 : (d + n ≤ M)) (h3 : (M < 30000)) (h4 : (LL < 30000)) (hS : (own_ST Z cs sv dg)) (HO : Old Z n0 h0) :
 own_M l ym43 [Jvm.Cond.code ym43 cm43 5 none] (⟨4, 0, 0, 60⟩ : Room) #[(.ref a1), (.int (0 : Int32)), (.ref b), (.int (Int32.ofNat d)), (.int (Int32.ofNat n))] Z h0 (Q43 Z a1 b d n LL M f g cs sv dg h0 n0) := by
 refine own_go n0 (F := fun m => mkF m 0 #[sR a1, sI (0 : Int32), sR b, sI (Int32.ofNat d), sI (Int32.ofNat n)] []) (plainFor_of_name pn_2) (fun m => rfl) ?_
 intro p e s m below meth c sq Pq hR hx hby hml hown hnm hZ hh hlk X0 e0 N0 pre0
 obtain ⟨_, _, ⟨T5, L5, k5, n5⟩, -, X5, ⟨Lc5, hQ5, l5, y5, z5⟩, st5⟩ := Jvm.LawKit.callS X0 hx (y := ym44) hown (mw hZ hw 208 rfl) (mw hZ hw 209 rfl) (mw hZ hw 108 rfl) (mw hZ hw 210 rfl) (by decide) (backOf (W := 0) (rm44 l Z a0 hw a1 b d n LL M f g cs sv dg h0 n0 Z0 HB0 HB1 Hg2 hne (by omega) (by omega) (by omega) (by omega) hS HO) hZ (hw _ (wi 210 rfl)) (hw _ (wi 108 rfl)) (by decide) (by decide)) (g := (mkF m 6 #[sR a1, sI (0 : Int32), sR b, sI (Int32.ofNat d), sI (Int32.ofNat n)] [(.int (Int32.ofNat n)), (.int (Int32.ofNat d)), (.ref b), (.int (0 : Int32)), (.ref a1)])) rfl (by rw [hml]; rfl) (argsL := [(.ref a1), (.int (0 : Int32)), (.ref b), (.int (Int32.ofNat d)), (.int (Int32.ofNat n))]) (rest := []) (lenOf pd_13 rfl) rfl (Nat.le_refl _) (dt43 hby 5 rfl :) (fun _ _ => ⟨rfl, e0, (by decide : 0 + 0 ≤ _), (by decide : 0 + 0 ≤ _)⟩)
 dsimp only [Pt.U, Pt.locs, Pt.cells, Pt.slots] at X5 l5 y5 z5 st5 hQ5
 subst l5 y5 z5
 obtain ⟨rfl, N5q, R6, R7⟩ := hQ5
 have N5 := Fr.app N0 N5q
 have K11 : Keep h0 T5.heap [b] := (Keep.refl h0 [b]).trans R6 (allS (Or.inl (wi 0 rfl)) all0)
 refine own_fin X5 hlk (v := none) (fun _ => rfl) (by decide) (by decide) ?_ (fun fs hrt => pre0 _ ?_)
 ·
  show Q43 Z a1 b d n LL M f g cs sv dg h0 n0 _ T5.heap _
  exact ⟨rfl, N5, K11, R7⟩
 refine qaN X0 hx (dt43 hby 0 rfl :) rfl rfl ?_
 refine qiN X0 hx (dt43 hby 1 rfl :) rfl ?_
 refine qaN X0 hx (dt43 hby 2 rfl :) rfl rfl ?_
 refine qiN X0 hx (dt43 hby 3 rfl :) rfl ?_
 refine qi X0 hx (dt43 hby 4 rfl :) rfl ?_
 refine st5 _ ?_
 exact X5.returnOut hx hR (dt43 hby 6 rfl :) hrt
def Q51_0 (Z : State) (a1 b : Addr) (h0 : Heap) (n0 : Nat) (v : Option Value) (h : Heap) (L : List Loc) : Prop := v = none ∧ Fr n0 L ∧ Keep h0 h [a1] ∧ eS Z h a1 ∧ fSv Z h a1 (.ref b) ∧ fSc Z h a1 (.int (0 : Int32))
theorem rm51_0 (l : Launch) (Z : State) (a0 : Array Value) (hw : own_hw a0 Z) (a1 b : Addr) (h0 : Heap) (n0 : Nat) (Z0 : n0 ≤ h0.size) (HE0 : eS Z h0 a1) (Hg1 : n0 ≤ a1) (HF2 : fSv Z h0 a1 .null) (HF3 : fSc Z h0 a1 (.int (0 : Int32))) :
 own_M l ym51 [Jvm.Cond.code ym51 cm51 3 none] (⟨1, 0, 0, 12⟩ : Room) #[(.ref a1), (.ref b), (.int (0 : Int32))] Z h0 (Q51_0 Z a1 b h0 n0) := by
 refine own_go n0 (F := fun m => mkF m 0 #[sR a1, sR b, sI (0 : Int32)] []) (plainFor_of_name pn_4) (fun m => rfl) ?_
 intro p e s m below meth c sq Pq hR hx hby hml hown hnm hZ hh hlk X0 e0 N0 pre0
 obtain ⟨T1, X1, e1, st1⟩ := initO X0 hx hZ hown (hw _ (wi 62 rfl)) (hw _ (wi 42 rfl)) (hw _ (wi 43 rfl)) e0 (g := (mkF m 1 #[sR a1, sR b, sI (0 : Int32)] [(.ref a1)])) rfl (by rw [hml]; rfl) rfl (dt51 hby 1 rfl :) (by decide) (W := 0) (Nat.le_refl _) (by decide)
 obtain ⟨T2, h2, X2, e2, W2, st2⟩ := putF X1 hx hZ hown (host := "") (Or.inl (hw _ (wi 24 rfl))) Via.refl e1 HF2 HE0 (Or.inr ⟨(hw _ (wi 8 rfl)), rfl, hnm⟩) (hw _ (wi 6 rfl)) (ty := (.array .byte)) (by decide) rfl rfl (g := (mkF m 6 #[sR a1, sR b, sI (0 : Int32)] [(.ref b), (.ref a1)])) rfl rfl (dt51 hby 4 rfl :)
 have Fw2 : fSv Z h2 a1 (.ref b) := HF2.same W2
 have F3 : eS Z h2 a1 := HE0.wr W2
 have F4 : fSc Z h2 a1 (.int (0 : Int32)) := HF3.other W2 (Or.inr (slot_ne (Or.inr (hw _ (wi 9 rfl))) (Or.inr (hw _ (wi 8 rfl))) (by decide) (t := .byte) (t' := (.array .byte)) (by decide) (by decide)))
 have K6 : Keep h0 h2 [a1] := (Keep.refl h0 [a1]).wr W2 (Or.inl (wi 0 rfl))
 have N7 := Fr.snoc X2 N0 Hg1
 obtain ⟨T8, h8, X8, e8, W8, st8⟩ := putFN X2 hx hZ hown (hw _ (wi 31 rfl)) Via.refl e2 F4 F3 (Or.inr ⟨(hw _ (wi 9 rfl)), rfl, hnm⟩) (hw _ (wi 6 rfl)) (ty := .byte) (v' := (.int (0 : Int32))) (by decide) rfl (by decide) (g := (mkF m 11 #[sR a1, sR b, sI (0 : Int32)] [(.int (0 : Int32)), (.ref a1)])) rfl rfl (dt51 hby 7 rfl :)
 have Fw8 : fSc Z h8 a1 (.int (0 : Int32)) := F4.same W8
 have F9 : eS Z h8 a1 := F3.wr W8
 have F10 : fSv Z h8 a1 (.ref b) := Fw2.other W8 (Or.inr (slot_ne (Or.inr (hw _ (wi 8 rfl))) (Or.inr (hw _ (wi 9 rfl))) (by decide) (t := (.array .byte)) (t' := .byte) (by decide) (by decide)))
 have K12 : Keep h0 h8 [a1] := K6.wr W8 (Or.inl (wi 0 rfl))
 have N13 := Fr.snoc X8 N7 Hg1
 refine own_fin X8 hlk (v := none) (fun _ => rfl) (by decide) (by decide) ?_ (fun fs hrt => pre0 _ ?_)
 ·
  show Q51_0 Z a1 b h0 n0 _ T8.heap _
  rw [e8]
  exact ⟨rfl, N13, K12, F9, F10, Fw8⟩
 refine qaN X0 hx (dt51 hby 0 rfl :) rfl rfl ?_
 refine st1 _ ?_
 refine qaN X1 hx (dt51 hby 2 rfl :) rfl rfl ?_
 refine qaN X1 hx (dt51 hby 3 rfl :) rfl rfl ?_
 refine st2 _ ?_
 refine qaN X2 hx (dt51 hby 5 rfl :) rfl rfl ?_
 refine qiN X2 hx (dt51 hby 6 rfl :) rfl ?_
 refine st8 _ ?_
 exact X8.returnOut hx hR (dt51 hby 8 rfl :) hrt
def Q4_0 (Z : State) (a1 : Addr) (cs : Int32) (sv : Value) (dg : Addr) (h0 : Heap) (n0 : Nat) (v : Option Value) (h : Heap) (L : List Loc) : Prop := v = some (.int (0 : Int32)) ∧ Fr n0 L ∧ h = h0
theorem rm4_0 (l : Launch) (Z : State) (a0 : Array Value) (hw : own_hw a0 Z) (a1 : Addr) (cs : Int32) (sv : Value) (dg : Addr) (h0 : Heap) (n0 : Nat) (Z0 : n0 ≤ h0.size) (HF0 : fSc Z h0 a1 (.int (0 : Int32))) (hS : (own_ST Z cs sv dg)) (HO : Old Z n0 h0) :
 own_M l ym4 [Jvm.Cond.code ym4 cm4 1 (some .byte)] (⟨0, 0, 0, 0⟩ : Room) #[(.ref a1)] Z h0 (Q4_0 Z a1 cs sv dg h0 n0) := by
 refine own_go n0 (F := fun m => mkF m 0 #[sR a1] []) (plainFor_of_name pn_4) (fun m => rfl) ?_
 intro p e s m below meth c sq Pq hR hx hby hml hown hnm hZ hh hlk X0 e0 N0 pre0
 have F1 : Sta Z h0 "java/lang/String" "COMPACT_STRINGS" "Z" (.int cs) := (hS.1.1).ext HO.2
 obtain ⟨T2, X2, e2, st2⟩ := getS2 X0 hx hZ hown (host := "") (Or.inl (hw _ (wi 30 rfl))) Via.refl e0 F1 (g := (mkF m 0 #[sR a1] [])) rfl (dt4 hby 0 rfl :)
 have hc3_3 : ¬ (cs = (0 : Int32)) := hS.1.2
 obtain ⟨T4, X4, e4, st4⟩ := getF X2 hx hZ hown (host := "") (Or.inl (hw _ (wi 31 rfl))) Via.refl e2 HF0 (g := (mkF m 7 #[sR a1] [(.ref a1)])) rfl rfl (dt4 hby 3 rfl :)
 refine own_fin X4 hlk (v := some (.int (0 : Int32))) (own_nv hR) (by decide) (by decide) ?_ (fun fs hrt => pre0 _ ?_)
 ·
  show Q4_0 Z a1 cs sv dg h0 n0 _ T4.heap _
  rw [e4]
  exact ⟨rfl, N0, rfl⟩
 refine st2 _ ?_
 refine qfN X2 hx (dt4 hby 1 rfl :) ((if0 _ _).trans (feq hc3_3).1) ?_
 refine qaN X2 hx (dt4 hby 2 rfl :) rfl rfl ?_
 refine st4 _ ?_
 refine qg X4 hx 10 14 (dt4 hby 4 rfl :) (by decide) (by decide) ?_
 exact retN X4 hx (t := .byte) hR (by simp) (dt4 hby 5 rfl :) hrt
def Q22_0 (Z : State) (a1 : Addr) (cs : Int32) (sv : Value) (dg : Addr) (h0 : Heap) (n0 : Nat) (v : Option Value) (h : Heap) (L : List Loc) : Prop := v = some (.int (1 : Int32)) ∧ Fr n0 L ∧ h = h0
theorem rm22_0 (l : Launch) (Z : State) (a0 : Array Value) (hw : own_hw a0 Z) (a1 : Addr) (cs : Int32) (sv : Value) (dg : Addr) (h0 : Heap) (n0 : Nat) (Z0 : n0 ≤ h0.size) (HF0 : fSc Z h0 a1 (.int (0 : Int32))) (hS : (own_ST Z cs sv dg)) (HO : Old Z n0 h0) :
 own_M l ym22 [Jvm.Cond.code ym22 cm22 1 (some .boolean)] (⟨0, 0, 0, 0⟩ : Room) #[(.ref a1)] Z h0 (Q22_0 Z a1 cs sv dg h0 n0) := by
 refine own_go n0 (F := fun m => mkF m 0 #[sR a1] []) (plainFor_of_name pn_4) (fun m => rfl) ?_
 intro p e s m below meth c sq Pq hR hx hby hml hown hnm hZ hh hlk X0 e0 N0 pre0
 have F1 : Sta Z h0 "java/lang/String" "COMPACT_STRINGS" "Z" (.int cs) := (hS.1.1).ext HO.2
 obtain ⟨T2, X2, e2, st2⟩ := getS2 X0 hx hZ hown (host := "") (Or.inl (hw _ (wi 30 rfl))) Via.refl e0 F1 (g := (mkF m 0 #[sR a1] [])) rfl (dt22 hby 0 rfl :)
 have hc3_3 : ¬ (cs = (0 : Int32)) := hS.1.2
 obtain ⟨T4, X4, e4, st4⟩ := getF X2 hx hZ hown (host := "") (Or.inl (hw _ (wi 31 rfl))) Via.refl e2 HF0 (g := (mkF m 7 #[sR a1] [(.ref a1)])) rfl rfl (dt22 hby 3 rfl :)
 refine own_fin X4 hlk (v := some (.int (1 : Int32))) (own_nv hR) (by decide) (by decide) ?_ (fun fs hrt => pre0 _ ?_)
 ·
  show Q22_0 Z a1 cs sv dg h0 n0 _ T4.heap _
  rw [e4]
  exact ⟨rfl, N0, rfl⟩
 refine st2 _ ?_
 refine qfN X2 hx (dt22 hby 1 rfl :) ((if0 _ _).trans (feq hc3_3).1) ?_
 refine qaN X2 hx (dt22 hby 2 rfl :) rfl rfl ?_
 refine st4 _ ?_
 refine qfN X4 hx (dt22 hby 4 rfl :) ((if0 _ _).trans (teq (by decide : (0 : Int32) = (0 : Int32))).2) ?_
 refine qc X4 hx (1 : Int32) (dt22 hby 5 rfl :) rfl ?_
 refine qg X4 hx 14 18 (dt22 hby 6 rfl :) (by decide) (by decide) ?_
 exact retN X4 hx (t := .boolean) hR (by simp) (dt22 hby 7 rfl :) hrt
theorem pd_14 : parseMethodDescriptor "()B" = some ⟨[], some .byte⟩ := by decide +kernel
def Q3_0 (Z : State) (a1 : Addr) (n : Nat) (b : Addr) (f : Nat → Int32) (cs : Int32) (sv : Value) (dg : Addr) (h0 : Heap) (n0 : Nat) (v : Option Value) (h : Heap) (L : List Loc) : Prop := v = some (.int (Int32.ofNat n)) ∧ Fr n0 L ∧ h = h0
theorem rm3_0 (l : Launch) (Z : State) (a0 : Array Value) (hw : own_hw a0 Z) (a1 : Addr) (n : Nat) (b : Addr) (f : Nat → Int32) (cs : Int32) (sv : Value) (dg : Addr) (h0 : Heap) (n0 : Nat) (Z0 : n0 ≤ h0.size) (HE0 : eS Z h0 a1) (HF1 : fSv Z h0 a1 (.ref b)) (HF2 : fSc Z h0 a1 (.int (0 : Int32))) (HB3 : own_Af Z h0 b .byte (Int32.ofNat n) f) (h2 : (n < 40000)) (hS : (own_ST Z cs sv dg)) (HO : Old Z n0 h0) :
 own_M l ym3 [Jvm.Cond.code ym3 cm3 1 (some .int)] (⟨1, 0, 0, 13⟩ : Room) #[(.ref a1)] Z h0 (Q3_0 Z a1 n b f cs sv dg h0 n0) := by
 refine own_go n0 (F := fun m => mkF m 0 #[sR a1] []) (plainFor_of_name pn_4) (fun m => rfl) ?_
 intro p e s m below meth c sq Pq hR hx hby hml hown hnm hZ hh hlk X0 e0 N0 pre0
 obtain ⟨T1, X1, e1, st1⟩ := getF X0 hx hZ hown (host := "") (Or.inl (hw _ (wi 24 rfl))) Via.refl e0 HF1 (g := (mkF m 1 #[sR a1] [(.ref a1)])) rfl rfl (dt3 hby 1 rfl :)
 obtain ⟨co2, Ao2, So2, Mo2, Bo2, Go2⟩ := HB3.op
 obtain ⟨cq3, kq3, q3a, q3b, q3c⟩ := isOf hZ e1 HE0
 obtain ⟨_, _, ⟨T3, L3, k3, n3⟩, -, X3, ⟨Lc3, hQ3, l3, y3, z3⟩, st3⟩ := X1.virtualBack hx (y := ym4) (z := ym4) hown (mw hZ hw 25 rfl) (mw hZ hw 26 rfl) (notFace_of_selects (args := #[]) (mw hZ hw 28 rfl)) (mw hZ hw 28 rfl) (mw hZ hw 27 rfl) (by decide) (backOf (W := 1) (rm4_0 l Z a0 hw a1 cs sv dg h0 n0 Z0 HF2 hS HO) hZ (hw _ (wi 29 rfl)) (hw _ (wi 5 rfl)) (by decide) (by decide)) q3a q3c (g := (mkF m 6 #[sR a1] [(.ref a1), (.int (Int32.ofNat n))])) rfl (by rw [hml]; rfl) (Steps.refl _) (argsL := []) (rest := [(.int (Int32.ofNat n))]) (lenOf pd_14 rfl) rfl (Nat.le_refl _) (dt3 hby 4 rfl :) (fun _ _ => ⟨rfl, e1, (by decide : 0 + 0 ≤ _), (by decide : 0 + 0 ≤ _)⟩)
 dsimp only [Pt.U, Pt.locs, Pt.cells, Pt.slots] at X3 l3 y3 z3 st3 hQ3
 subst l3 y3 z3
 obtain ⟨rfl, N3q, R4⟩ := hQ3
 have N3 := Fr.app N0 N3q
 refine own_fin X3 hlk (v := some (.int (Int32.ofNat n))) (own_nv hR) (by decide) (by decide) ?_ (fun fs hrt => pre0 _ ?_)
 ·
  show Q3_0 Z a1 n b f cs sv dg h0 n0 _ T3.heap _
  rw [R4]
  exact ⟨rfl, N3, rfl⟩
 refine qaN X0 hx (dt3 hby 0 rfl :) rfl rfl ?_
 refine st1 _ ?_
 refine X1.arraylength hx (by rw [e1]; exact Ao2.1) (State.isArrayOf_alike hZ.alike Ao2.2.1) (g := (mkF m 4 #[sR a1] [(.ref b)])) rfl rfl (dt3 hby 2 rfl :) _ ?_
 rw [len_of So2 Mo2]
 refine qaN X1 hx (dt3 hby 3 rfl :) rfl rfl ?_
 refine st3.trans ?_
 refine XS.ishr X3.here hx rfl (dt3 hby 5 rfl :) rfl ?_
 rw [show ((Int32.ofNat n) >>> ((0 : Int32) &&& 31)) = (Int32.ofNat n) from own_shr0 _]
 exact retI X3 hx hR (dt3 hby 6 rfl :) hrt
theorem pd_15 : parseMethodDescriptor "()Z" = some ⟨[], some .boolean⟩ := by decide +kernel
def Q21_0 (Z : State) (a1 : Addr) (i n : Nat) (b : Addr) (f : Nat → Int32) (c0 cs : Int32) (sv : Value) (dg : Addr) (h0 : Heap) (n0 : Nat) (v : Option Value) (h : Heap) (L : List Loc) : Prop := v = some (.int c0) ∧ Fr n0 L ∧ h = h0
theorem rm21_0 (l : Launch) (Z : State) (a0 : Array Value) (hw : own_hw a0 Z) (a1 : Addr) (i n : Nat) (b : Addr) (f : Nat → Int32) (c0 cs : Int32) (sv : Value) (dg : Addr) (h0 : Heap) (n0 : Nat) (Z0 : n0 ≤ h0.size) (HE0 : eS Z h0 a1) (HF1 : fSv Z h0 a1 (.ref b)) (HF2 : fSc Z h0 a1 (.int (0 : Int32))) (HB0 : own_Af Z h0 b .byte (Int32.ofNat n) f) (h1 : (i < n)) (h2 : (n < 40000)) (hc1 : (0 ≤ c0.toInt)) (hc2 : (c0.toInt ≤ 255)) (h3 : (f i = own_lo c0)) (hS : (own_ST Z cs sv dg)) (HO : Old Z n0 h0) :
 own_M l ym21 [Jvm.Cond.code ym21 cm21 2 (some .char)] (⟨3, 0, 0, 40⟩ : Room) #[(.ref a1), (.int (Int32.ofNat i))] Z h0 (Q21_0 Z a1 i n b f c0 cs sv dg h0 n0) := by
 refine own_go n0 (F := fun m => mkF m 0 #[sR a1, sI (Int32.ofNat i)] []) (plainFor_of_name pn_4) (fun m => rfl) ?_
 intro p e s m below meth c sq Pq hR hx hby hml hown hnm hZ hh hlk X0 e0 N0 pre0
 obtain ⟨cq1, kq1, q1a, q1b, q1c⟩ := isOf hZ e0 HE0
 obtain ⟨_, _, ⟨T1, L1, k1, n1⟩, -, X1, ⟨Lc1, hQ1, l1, y1, z1⟩, st1⟩ := X0.virtualBack hx (y := ym22) (z := ym22) hown (mw hZ hw 121 rfl) (mw hZ hw 122 rfl) (notFace_of_selects (args := #[]) (mw hZ hw 124 rfl)) (mw hZ hw 124 rfl) (mw hZ hw 123 rfl) (by decide) (backOf (W := 0) (rm22_0 l Z a0 hw a1 cs sv dg h0 n0 Z0 HF2 hS HO) hZ (hw _ (wi 125 rfl)) (hw _ (wi 5 rfl)) (by decide) (by decide)) q1a q1c (g := (mkF m 1 #[sR a1, sI (Int32.ofNat i)] [(.ref a1)])) rfl (by rw [hml]; rfl) (Steps.refl _) (argsL := []) (rest := []) (lenOf pd_15 rfl) rfl (Nat.le_refl _) (dt21 hby 1 rfl :) (fun _ _ => ⟨rfl, e0, (by decide : 0 + 0 ≤ _), (by decide : 0 + 0 ≤ _)⟩)
 dsimp only [Pt.U, Pt.locs, Pt.cells, Pt.slots] at X1 l1 y1 z1 st1 hQ1
 subst l1 y1 z1
 obtain ⟨rfl, N1q, R2⟩ := hQ1
 have N1 := Fr.app N0 N1q
 obtain ⟨T3, X3, e3, st3⟩ := getF X1 hx hZ hown (host := "") (Or.inl (hw _ (wi 24 rfl))) Via.refl R2 HF1 (g := (mkF m 8 #[sR a1, sI (Int32.ofNat i)] [(.ref a1)])) rfl rfl (dt21 hby 4 rfl :)
 obtain ⟨_, _, ⟨T9, L9, k9, n9⟩, -, X9, ⟨Lc9, hQ9, l9, y9, z9⟩, st9⟩ := Jvm.LawKit.callS X3 hx (y := ym23) hown (mw hZ hw 126 rfl) (mw hZ hw 127 rfl) (mw hZ hw 128 rfl) (mw hZ hw 129 rfl) (by decide) (backOf (W := 0) (rm23 l Z a0 hw b i n f c0 cs sv dg h0 n0 Z0 HB0 (by omega) (by omega) (by omega) (by omega) (by first | assumption | omega) hS HO) hZ (hw _ (wi 129 rfl)) (hw _ (wi 128 rfl)) (by decide) (by decide)) (g := (mkF m 12 #[sR a1, sI (Int32.ofNat i)] [(.int (Int32.ofNat i)), (.ref b)])) rfl (by rw [hml]; rfl) (argsL := [(.ref b), (.int (Int32.ofNat i))]) (rest := []) (lenOf pd_8 rfl) rfl (Nat.le_refl _) (dt21 hby 6 rfl :) (fun _ _ => ⟨rfl, e3, (by decide : 0 + 0 ≤ _), (by decide : 0 + 0 ≤ _)⟩)
 dsimp only [Pt.U, Pt.locs, Pt.cells, Pt.slots] at X9 l9 y9 z9 st9 hQ9
 subst l9 y9 z9
 obtain ⟨rfl, N9q, R10⟩ := hQ9
 have N9 := Fr.app N1 N9q
 have hn := own_nc c0 ⟨hc1, by omega⟩
 refine own_fin X9 hlk (v := some (.int (nar .char c0))) (own_nv hR) (by decide) (by decide) ?_ (fun fs hrt => pre0 _ ?_)
 ·
  show Q21_0 Z a1 i n b f c0 cs sv dg h0 n0 _ T9.heap _
  rw [hn]
  rw [R10]
  exact ⟨rfl, N9, rfl⟩
 refine qaN X0 hx (dt21 hby 0 rfl :) rfl rfl ?_
 refine st1.trans ?_
 refine qfN X1 hx (dt21 hby 2 rfl :) ((if0 _ _).trans (feq (by decide : ¬ ((1 : Int32) = (0 : Int32)))).1) ?_
 refine qaN X1 hx (dt21 hby 3 rfl :) rfl rfl ?_
 refine st3 _ ?_
 refine qiN X3 hx (dt21 hby 5 rfl :) rfl ?_
 refine st9 _ ?_
 exact retN X9 hx (t := .char) hR (by simp) (dt21 hby 7 rfl :) hrt
def Q51_1 (Z : State) (a1 b : Addr) (h0 : Heap) (n0 : Nat) (v : Option Value) (h : Heap) (L : List Loc) : Prop := v = none ∧ Fr n0 L ∧ Keep h0 h [a1] ∧ eS Z h a1 ∧ fSv Z h a1 (.ref b) ∧ fSc Z h a1 (.int (1 : Int32))
theorem rm51_1 (l : Launch) (Z : State) (a0 : Array Value) (hw : own_hw a0 Z) (a1 b : Addr) (h0 : Heap) (n0 : Nat) (Z0 : n0 ≤ h0.size) (HE0 : eS Z h0 a1) (Hg1 : n0 ≤ a1) (HF2 : fSv Z h0 a1 .null) (HF3 : fSc Z h0 a1 (.int (0 : Int32))) :
 own_M l ym51 [Jvm.Cond.code ym51 cm51 3 none] (⟨1, 0, 0, 12⟩ : Room) #[(.ref a1), (.ref b), (.int (1 : Int32))] Z h0 (Q51_1 Z a1 b h0 n0) := by
 refine own_go n0 (F := fun m => mkF m 0 #[sR a1, sR b, sI (1 : Int32)] []) (plainFor_of_name pn_4) (fun m => rfl) ?_
 intro p e s m below meth c sq Pq hR hx hby hml hown hnm hZ hh hlk X0 e0 N0 pre0
 obtain ⟨T1, X1, e1, st1⟩ := initO X0 hx hZ hown (hw _ (wi 62 rfl)) (hw _ (wi 42 rfl)) (hw _ (wi 43 rfl)) e0 (g := (mkF m 1 #[sR a1, sR b, sI (1 : Int32)] [(.ref a1)])) rfl (by rw [hml]; rfl) rfl (dt51 hby 1 rfl :) (by decide) (W := 0) (Nat.le_refl _) (by decide)
 obtain ⟨T2, h2, X2, e2, W2, st2⟩ := putF X1 hx hZ hown (host := "") (Or.inl (hw _ (wi 24 rfl))) Via.refl e1 HF2 HE0 (Or.inr ⟨(hw _ (wi 8 rfl)), rfl, hnm⟩) (hw _ (wi 6 rfl)) (ty := (.array .byte)) (by decide) rfl rfl (g := (mkF m 6 #[sR a1, sR b, sI (1 : Int32)] [(.ref b), (.ref a1)])) rfl rfl (dt51 hby 4 rfl :)
 have Fw2 : fSv Z h2 a1 (.ref b) := HF2.same W2
 have F3 : eS Z h2 a1 := HE0.wr W2
 have F4 : fSc Z h2 a1 (.int (0 : Int32)) := HF3.other W2 (Or.inr (slot_ne (Or.inr (hw _ (wi 9 rfl))) (Or.inr (hw _ (wi 8 rfl))) (by decide) (t := .byte) (t' := (.array .byte)) (by decide) (by decide)))
 have K6 : Keep h0 h2 [a1] := (Keep.refl h0 [a1]).wr W2 (Or.inl (wi 0 rfl))
 have N7 := Fr.snoc X2 N0 Hg1
 obtain ⟨T8, h8, X8, e8, W8, st8⟩ := putFN X2 hx hZ hown (hw _ (wi 31 rfl)) Via.refl e2 F4 F3 (Or.inr ⟨(hw _ (wi 9 rfl)), rfl, hnm⟩) (hw _ (wi 6 rfl)) (ty := .byte) (v' := (.int (1 : Int32))) (by decide) rfl (by decide) (g := (mkF m 11 #[sR a1, sR b, sI (1 : Int32)] [(.int (1 : Int32)), (.ref a1)])) rfl rfl (dt51 hby 7 rfl :)
 have Fw8 : fSc Z h8 a1 (.int (1 : Int32)) := F4.same W8
 have F9 : eS Z h8 a1 := F3.wr W8
 have F10 : fSv Z h8 a1 (.ref b) := Fw2.other W8 (Or.inr (slot_ne (Or.inr (hw _ (wi 8 rfl))) (Or.inr (hw _ (wi 9 rfl))) (by decide) (t := (.array .byte)) (t' := .byte) (by decide) (by decide)))
 have K12 : Keep h0 h8 [a1] := K6.wr W8 (Or.inl (wi 0 rfl))
 have N13 := Fr.snoc X8 N7 Hg1
 refine own_fin X8 hlk (v := none) (fun _ => rfl) (by decide) (by decide) ?_ (fun fs hrt => pre0 _ ?_)
 ·
  show Q51_1 Z a1 b h0 n0 _ T8.heap _
  rw [e8]
  exact ⟨rfl, N13, K12, F9, F10, Fw8⟩
 refine qaN X0 hx (dt51 hby 0 rfl :) rfl rfl ?_
 refine st1 _ ?_
 refine qaN X1 hx (dt51 hby 2 rfl :) rfl rfl ?_
 refine qaN X1 hx (dt51 hby 3 rfl :) rfl rfl ?_
 refine st2 _ ?_
 refine qaN X2 hx (dt51 hby 5 rfl :) rfl rfl ?_
 refine qiN X2 hx (dt51 hby 6 rfl :) rfl ?_
 refine st8 _ ?_
 exact X8.returnOut hx hR (dt51 hby 8 rfl :) hrt
def Q4_1 (Z : State) (a1 : Addr) (cs : Int32) (sv : Value) (dg : Addr) (h0 : Heap) (n0 : Nat) (v : Option Value) (h : Heap) (L : List Loc) : Prop := v = some (.int (1 : Int32)) ∧ Fr n0 L ∧ h = h0
theorem rm4_1 (l : Launch) (Z : State) (a0 : Array Value) (hw : own_hw a0 Z) (a1 : Addr) (cs : Int32) (sv : Value) (dg : Addr) (h0 : Heap) (n0 : Nat) (Z0 : n0 ≤ h0.size) (HF0 : fSc Z h0 a1 (.int (1 : Int32))) (hS : (own_ST Z cs sv dg)) (HO : Old Z n0 h0) :
 own_M l ym4 [Jvm.Cond.code ym4 cm4 1 (some .byte)] (⟨0, 0, 0, 0⟩ : Room) #[(.ref a1)] Z h0 (Q4_1 Z a1 cs sv dg h0 n0) := by
 refine own_go n0 (F := fun m => mkF m 0 #[sR a1] []) (plainFor_of_name pn_4) (fun m => rfl) ?_
 intro p e s m below meth c sq Pq hR hx hby hml hown hnm hZ hh hlk X0 e0 N0 pre0
 have F1 : Sta Z h0 "java/lang/String" "COMPACT_STRINGS" "Z" (.int cs) := (hS.1.1).ext HO.2
 obtain ⟨T2, X2, e2, st2⟩ := getS2 X0 hx hZ hown (host := "") (Or.inl (hw _ (wi 30 rfl))) Via.refl e0 F1 (g := (mkF m 0 #[sR a1] [])) rfl (dt4 hby 0 rfl :)
 have hc3_3 : ¬ (cs = (0 : Int32)) := hS.1.2
 obtain ⟨T4, X4, e4, st4⟩ := getF X2 hx hZ hown (host := "") (Or.inl (hw _ (wi 31 rfl))) Via.refl e2 HF0 (g := (mkF m 7 #[sR a1] [(.ref a1)])) rfl rfl (dt4 hby 3 rfl :)
 refine own_fin X4 hlk (v := some (.int (1 : Int32))) (own_nv hR) (by decide) (by decide) ?_ (fun fs hrt => pre0 _ ?_)
 ·
  show Q4_1 Z a1 cs sv dg h0 n0 _ T4.heap _
  rw [e4]
  exact ⟨rfl, N0, rfl⟩
 refine st2 _ ?_
 refine qfN X2 hx (dt4 hby 1 rfl :) ((if0 _ _).trans (feq hc3_3).1) ?_
 refine qaN X2 hx (dt4 hby 2 rfl :) rfl rfl ?_
 refine st4 _ ?_
 refine qg X4 hx 10 14 (dt4 hby 4 rfl :) (by decide) (by decide) ?_
 exact retN X4 hx (t := .byte) hR (by simp) (dt4 hby 5 rfl :) hrt
def Q22_1 (Z : State) (a1 : Addr) (cs : Int32) (sv : Value) (dg : Addr) (h0 : Heap) (n0 : Nat) (v : Option Value) (h : Heap) (L : List Loc) : Prop := v = some (.int (0 : Int32)) ∧ Fr n0 L ∧ h = h0
theorem rm22_1 (l : Launch) (Z : State) (a0 : Array Value) (hw : own_hw a0 Z) (a1 : Addr) (cs : Int32) (sv : Value) (dg : Addr) (h0 : Heap) (n0 : Nat) (Z0 : n0 ≤ h0.size) (HF0 : fSc Z h0 a1 (.int (1 : Int32))) (hS : (own_ST Z cs sv dg)) (HO : Old Z n0 h0) :
 own_M l ym22 [Jvm.Cond.code ym22 cm22 1 (some .boolean)] (⟨0, 0, 0, 0⟩ : Room) #[(.ref a1)] Z h0 (Q22_1 Z a1 cs sv dg h0 n0) := by
 refine own_go n0 (F := fun m => mkF m 0 #[sR a1] []) (plainFor_of_name pn_4) (fun m => rfl) ?_
 intro p e s m below meth c sq Pq hR hx hby hml hown hnm hZ hh hlk X0 e0 N0 pre0
 have F1 : Sta Z h0 "java/lang/String" "COMPACT_STRINGS" "Z" (.int cs) := (hS.1.1).ext HO.2
 obtain ⟨T2, X2, e2, st2⟩ := getS2 X0 hx hZ hown (host := "") (Or.inl (hw _ (wi 30 rfl))) Via.refl e0 F1 (g := (mkF m 0 #[sR a1] [])) rfl (dt22 hby 0 rfl :)
 have hc3_3 : ¬ (cs = (0 : Int32)) := hS.1.2
 obtain ⟨T4, X4, e4, st4⟩ := getF X2 hx hZ hown (host := "") (Or.inl (hw _ (wi 31 rfl))) Via.refl e2 HF0 (g := (mkF m 7 #[sR a1] [(.ref a1)])) rfl rfl (dt22 hby 3 rfl :)
 refine own_fin X4 hlk (v := some (.int (0 : Int32))) (own_nv hR) (by decide) (by decide) ?_ (fun fs hrt => pre0 _ ?_)
 ·
  show Q22_1 Z a1 cs sv dg h0 n0 _ T4.heap _
  rw [e4]
  exact ⟨rfl, N0, rfl⟩
 refine st2 _ ?_
 refine qfN X2 hx (dt22 hby 1 rfl :) ((if0 _ _).trans (feq hc3_3).1) ?_
 refine qaN X2 hx (dt22 hby 2 rfl :) rfl rfl ?_
 refine st4 _ ?_
 refine qfY X4 hx 10 17 (dt22 hby 4 rfl :) ((if0 _ _).trans (feq (by decide : ¬ ((1 : Int32) = (0 : Int32)))).2) (by decide) (by decide) ?_
 refine qc X4 hx (0 : Int32) (dt22 hby 8 rfl :) rfl ?_
 exact retN X4 hx (t := .boolean) hR (by simp) (dt22 hby 7 rfl :) hrt
def Q3_1 (Z : State) (a1 : Addr) (n : Nat) (b : Addr) (f : Nat → Int32) (cs : Int32) (sv : Value) (dg : Addr) (h0 : Heap) (n0 : Nat) (v : Option Value) (h : Heap) (L : List Loc) : Prop := v = some (.int (Int32.ofNat n)) ∧ Fr n0 L ∧ h = h0
theorem rm3_1 (l : Launch) (Z : State) (a0 : Array Value) (hw : own_hw a0 Z) (a1 : Addr) (n : Nat) (b : Addr) (f : Nat → Int32) (cs : Int32) (sv : Value) (dg : Addr) (h0 : Heap) (n0 : Nat) (Z0 : n0 ≤ h0.size) (HE0 : eS Z h0 a1) (HF1 : fSv Z h0 a1 (.ref b)) (HF2 : fSc Z h0 a1 (.int (1 : Int32))) (HB3 : own_Af Z h0 b .byte (Int32.ofNat (2 * n)) f) (h2 : (n < 40000)) (hS : (own_ST Z cs sv dg)) (HO : Old Z n0 h0) :
 own_M l ym3 [Jvm.Cond.code ym3 cm3 1 (some .int)] (⟨1, 0, 0, 13⟩ : Room) #[(.ref a1)] Z h0 (Q3_1 Z a1 n b f cs sv dg h0 n0) := by
 refine own_go n0 (F := fun m => mkF m 0 #[sR a1] []) (plainFor_of_name pn_4) (fun m => rfl) ?_
 intro p e s m below meth c sq Pq hR hx hby hml hown hnm hZ hh hlk X0 e0 N0 pre0
 obtain ⟨T1, X1, e1, st1⟩ := getF X0 hx hZ hown (host := "") (Or.inl (hw _ (wi 24 rfl))) Via.refl e0 HF1 (g := (mkF m 1 #[sR a1] [(.ref a1)])) rfl rfl (dt3 hby 1 rfl :)
 obtain ⟨co2, Ao2, So2, Mo2, Bo2, Go2⟩ := HB3.op
 obtain ⟨cq3, kq3, q3a, q3b, q3c⟩ := isOf hZ e1 HE0
 obtain ⟨_, _, ⟨T3, L3, k3, n3⟩, -, X3, ⟨Lc3, hQ3, l3, y3, z3⟩, st3⟩ := X1.virtualBack hx (y := ym4) (z := ym4) hown (mw hZ hw 25 rfl) (mw hZ hw 26 rfl) (notFace_of_selects (args := #[]) (mw hZ hw 28 rfl)) (mw hZ hw 28 rfl) (mw hZ hw 27 rfl) (by decide) (backOf (W := 1) (rm4_1 l Z a0 hw a1 cs sv dg h0 n0 Z0 HF2 hS HO) hZ (hw _ (wi 29 rfl)) (hw _ (wi 5 rfl)) (by decide) (by decide)) q3a q3c (g := (mkF m 6 #[sR a1] [(.ref a1), (.int (Int32.ofNat (2 * n)))])) rfl (by rw [hml]; rfl) (Steps.refl _) (argsL := []) (rest := [(.int (Int32.ofNat (2 * n)))]) (lenOf pd_14 rfl) rfl (Nat.le_refl _) (dt3 hby 4 rfl :) (fun _ _ => ⟨rfl, e1, (by decide : 0 + 0 ≤ _), (by decide : 0 + 0 ≤ _)⟩)
 dsimp only [Pt.U, Pt.locs, Pt.cells, Pt.slots] at X3 l3 y3 z3 st3 hQ3
 subst l3 y3 z3
 obtain ⟨rfl, N3q, R4⟩ := hQ3
 have N3 := Fr.app N0 N3q
 refine own_fin X3 hlk (v := some (.int (Int32.ofNat n))) (own_nv hR) (by decide) (by decide) ?_ (fun fs hrt => pre0 _ ?_)
 ·
  show Q3_1 Z a1 n b f cs sv dg h0 n0 _ T3.heap _
  rw [R4]
  exact ⟨rfl, N3, rfl⟩
 refine qaN X0 hx (dt3 hby 0 rfl :) rfl rfl ?_
 refine st1 _ ?_
 refine X1.arraylength hx (by rw [e1]; exact Ao2.1) (State.isArrayOf_alike hZ.alike Ao2.2.1) (g := (mkF m 4 #[sR a1] [(.ref b)])) rfl rfl (dt3 hby 2 rfl :) _ ?_
 rw [len_of So2 Mo2]
 refine qaN X1 hx (dt3 hby 3 rfl :) rfl rfl ?_
 refine st3.trans ?_
 refine XS.ishr X3.here hx rfl (dt3 hby 5 rfl :) rfl ?_
 rw [show ((Int32.ofNat (2 * n)) >>> ((1 : Int32) &&& 31)) = (Int32.ofNat n) from own_shr1 (by omega)]
 exact retI X3 hx hR (dt3 hby 6 rfl :) hrt
def Q21_1 (Z : State) (a1 : Addr) (i n : Nat) (b : Addr) (f : Nat → Int32) (c0 cs : Int32) (sv : Value) (dg : Addr) (h0 : Heap) (n0 : Nat) (v : Option Value) (h : Heap) (L : List Loc) : Prop := v = some (.int c0) ∧ Fr n0 L ∧ h = h0
theorem rm21_1 (l : Launch) (Z : State) (a0 : Array Value) (hw : own_hw a0 Z) (a1 : Addr) (i n : Nat) (b : Addr) (f : Nat → Int32) (c0 cs : Int32) (sv : Value) (dg : Addr) (h0 : Heap) (n0 : Nat) (Z0 : n0 ≤ h0.size) (HE0 : eS Z h0 a1) (HF1 : fSv Z h0 a1 (.ref b)) (HF2 : fSc Z h0 a1 (.int (1 : Int32))) (HB0 : own_Af Z h0 b .byte (Int32.ofNat (2 * n)) f) (h1 : (i < n)) (h2 : (n < 40000)) (hc : (own_ch c0)) (h3 : (f (2 * i) = own_lo c0)) (h4 : (f (2 * i + 1) = own_hi c0)) (hS : (own_ST Z cs sv dg)) (HO : Old Z n0 h0) :
 own_M l ym21 [Jvm.Cond.code ym21 cm21 2 (some .char)] (⟨4, 0, 0, 53⟩ : Room) #[(.ref a1), (.int (Int32.ofNat i))] Z h0 (Q21_1 Z a1 i n b f c0 cs sv dg h0 n0) := by
 refine own_go n0 (F := fun m => mkF m 0 #[sR a1, sI (Int32.ofNat i)] []) (plainFor_of_name pn_4) (fun m => rfl) ?_
 intro p e s m below meth c sq Pq hR hx hby hml hown hnm hZ hh hlk X0 e0 N0 pre0
 obtain ⟨cq1, kq1, q1a, q1b, q1c⟩ := isOf hZ e0 HE0
 obtain ⟨_, _, ⟨T1, L1, k1, n1⟩, -, X1, ⟨Lc1, hQ1, l1, y1, z1⟩, st1⟩ := X0.virtualBack hx (y := ym22) (z := ym22) hown (mw hZ hw 121 rfl) (mw hZ hw 122 rfl) (notFace_of_selects (args := #[]) (mw hZ hw 124 rfl)) (mw hZ hw 124 rfl) (mw hZ hw 123 rfl) (by decide) (backOf (W := 0) (rm22_1 l Z a0 hw a1 cs sv dg h0 n0 Z0 HF2 hS HO) hZ (hw _ (wi 125 rfl)) (hw _ (wi 5 rfl)) (by decide) (by decide)) q1a q1c (g := (mkF m 1 #[sR a1, sI (Int32.ofNat i)] [(.ref a1)])) rfl (by rw [hml]; rfl) (Steps.refl _) (argsL := []) (rest := []) (lenOf pd_15 rfl) rfl (Nat.le_refl _) (dt21 hby 1 rfl :) (fun _ _ => ⟨rfl, e0, (by decide : 0 + 0 ≤ _), (by decide : 0 + 0 ≤ _)⟩)
 dsimp only [Pt.U, Pt.locs, Pt.cells, Pt.slots] at X1 l1 y1 z1 st1 hQ1
 subst l1 y1 z1
 obtain ⟨rfl, N1q, R2⟩ := hQ1
 have N1 := Fr.app N0 N1q
 obtain ⟨T3, X3, e3, st3⟩ := getF X1 hx hZ hown (host := "") (Or.inl (hw _ (wi 24 rfl))) Via.refl R2 HF1 (g := (mkF m 17 #[sR a1, sI (Int32.ofNat i)] [(.ref a1)])) rfl rfl (dt21 hby 9 rfl :)
 obtain ⟨_, _, ⟨T9, L9, k9, n9⟩, -, X9, ⟨Lc9, hQ9, l9, y9, z9⟩, st9⟩ := Jvm.LawKit.callS X3 hx (y := ym39) hown (mw hZ hw 189 rfl) (mw hZ hw 190 rfl) (mw hZ hw 108 rfl) (mw hZ hw 191 rfl) (by decide) (backOf (W := 0) (rm39 l Z a0 hw b i n f c0 cs sv dg h0 n0 Z0 HB0 (by omega) (by omega) (by first | assumption | omega) (by first | assumption | omega) (by first | assumption | omega) hS HO) hZ (hw _ (wi 191 rfl)) (hw _ (wi 108 rfl)) (by decide) (by decide)) (g := (mkF m 21 #[sR a1, sI (Int32.ofNat i)] [(.int (Int32.ofNat i)), (.ref b)])) rfl (by rw [hml]; rfl) (argsL := [(.ref b), (.int (Int32.ofNat i))]) (rest := []) (lenOf pd_8 rfl) rfl (Nat.le_refl _) (dt21 hby 11 rfl :) (fun _ _ => ⟨rfl, e3, (by decide : 0 + 0 ≤ _), (by decide : 0 + 0 ≤ _)⟩)
 dsimp only [Pt.U, Pt.locs, Pt.cells, Pt.slots] at X9 l9 y9 z9 st9 hQ9
 subst l9 y9 z9
 obtain ⟨rfl, N9q, R10⟩ := hQ9
 have N9 := Fr.app N1 N9q
 have hn := own_nc c0 hc
 refine own_fin X9 hlk (v := some (.int (nar .char c0))) (own_nv hR) (by decide) (by decide) ?_ (fun fs hrt => pre0 _ ?_)
 ·
  show Q21_1 Z a1 i n b f c0 cs sv dg h0 n0 _ T9.heap _
  rw [hn]
  rw [R10]
  exact ⟨rfl, N9, rfl⟩
 refine qaN X0 hx (dt21 hby 0 rfl :) rfl rfl ?_
 refine st1.trans ?_
 refine qfY X1 hx 4 16 (dt21 hby 2 rfl :) ((if0 _ _).trans (teq (by decide : (0 : Int32) = (0 : Int32))).1) (by decide) (by decide) ?_
 refine qaN X1 hx (dt21 hby 8 rfl :) rfl rfl ?_
 refine st3 _ ?_
 refine qiN X3 hx (dt21 hby 10 rfl :) rfl ?_
 refine st9 _ ?_
 exact retN X9 hx (t := .char) hR (by simp) (dt21 hby 12 rfl :) hrt
theorem own_lat1 {c : Int32} {g : Nat → Int32} (h1 : 0 ≤ c.toInt) (h2 : c.toInt ≤ 255) (v : g 0 = own_lo c) : own_lat [c] g := fun i hi => by
  have e : i = 0 := by simp at hi; omega
  subst e
  exact ⟨⟨h1, h2⟩, v⟩
theorem own_utf1 {c : Int32} {g : Nat → Int32} (h : own_ch c) (v0 : g 0 = own_lo c) (v1 : g 1 = own_hi c) : own_utf [c] g := fun i hi => by
  have e : i = 0 := by simp at hi; omega
  subst e
  exact ⟨h, v0, v1⟩
theorem pd_16 : parseMethodDescriptor "(C)Z" = some ⟨[.char], some .boolean⟩ := by decide +kernel
theorem pd_17 : parseMethodDescriptor "(C)[B" = some ⟨[.char], some (.array .byte)⟩ := by decide +kernel
theorem pd_18 : parseMethodDescriptor "([BB)V" = some ⟨[(.array .byte), .byte], none⟩ := by decide +kernel
def Q49 (Z : State) (p1 cs : Int32) (sv : Value) (dg : Addr) (h0 : Heap) (n0 : Nat) (v : Option Value) (h : Heap) (L : List Loc) : Prop := ∃ (a2 : Addr) (b2 : Addr), v = some (.ref a2) ∧ Fr n0 L ∧ Keep h0 h [] ∧ n0 ≤ a2 ∧ h0.size ≤ a2 ∧ n0 ≤ b2 ∧ h0.size ≤ b2 ∧ own_Str Z h a2 b2 [p1]
theorem rm49 (l : Launch) (Z : State) (a0 : Array Value) (hw : own_hw a0 Z) (p1 cs : Int32) (sv : Value) (dg : Addr) (h0 : Heap) (n0 : Nat) (Z0 : n0 ≤ h0.size) (hc : (own_ch p1)) (hS : (own_ST Z cs sv dg)) (HO : Old Z n0 h0) :
 own_M l ym49 [Jvm.Cond.code ym49 cm49 1 (some (.object "java/lang/String"))] (⟨2, 2, 6, 29⟩ : Room) #[(.int p1)] Z h0 (Q49 Z p1 cs sv dg h0 n0) := by
 refine own_go n0 (F := fun m => mkF m 0 #[sI p1] []) (plainFor_of_name pn_4) (fun m => rfl) ?_
 intro p e s m below meth c sq Pq hR hx hby hml hown hnm hZ hh hlk X0 e0 N0 pre0
 have F1 : Sta Z h0 "java/lang/String" "COMPACT_STRINGS" "Z" (.int cs) := (hS.1.1).ext HO.2
 obtain ⟨T2, X2, e2, st2⟩ := getS2 X0 hx hZ hown (host := "") (Or.inl (hw _ (wi 30 rfl))) Via.refl e0 F1 (g := (mkF m 0 #[sI p1] [])) rfl (dt49 hby 0 rfl :)
 have hc3_3 : ¬ (cs = (0 : Int32)) := hS.1.2
 obtain ⟨_, _, ⟨T4, L4, k4, n4⟩, -, X4, ⟨Lc4, hQ4, l4, y4, z4⟩, st4⟩ := Jvm.LawKit.callS X2 hx (y := ym31) hown (mw hZ hw 228 rfl) (mw hZ hw 161 rfl) (mw hZ hw 128 rfl) (mw hZ hw 162 rfl) (by decide) (backOf (W := 0) (rm31 l Z a0 hw p1 h0 n0 Z0 ) hZ (hw _ (wi 162 rfl)) (hw _ (wi 128 rfl)) (by decide) (by decide)) (g := (mkF m 7 #[sI p1] [(.int p1)])) rfl (by rw [hml]; rfl) (argsL := [(.int p1)]) (rest := []) (lenOf pd_16 rfl) rfl (Nat.le_refl _) (dt49 hby 3 rfl :) (fun _ _ => ⟨rfl, e2, (by decide : 0 + 0 ≤ _), (by decide : 0 + 0 ≤ _)⟩)
 dsimp only [Pt.U, Pt.locs, Pt.cells, Pt.slots] at X4 l4 y4 z4 st4 hQ4
 subst l4 y4 z4
 obtain ⟨r5, rfl, N4q, R6, R7⟩ := hQ4
 have N4 := Fr.app N0 N4q
 have P8 : ∀ t, Steps p.tables e below (T4.setTop (mkF m 10 #[sI p1] [(.int r5)])) t → Pq t := fun t k => pre0 t (by
  refine st2 _ ?_
  refine qfN X2 hx (dt49 hby 1 rfl :) ((if0 _ _).trans (feq hc3_3).1) ?_
  refine qiN X2 hx (dt49 hby 2 rfl :) rfl ?_
  refine st4 _ ?_
  exact k)
 rcases R6 with ⟨hle, rfl⟩ | ⟨hle, rfl⟩
 ·
  obtain ⟨T9, h9, X9, e9, E9, A9, D9, -, st9⟩ := newO X4 hx hZ hown (hw _ (wi 229 rfl)) (hw _ (wi 6 rfl)) (hw _ (wi 5 rfl)) R7 (g := (mkF m 13 #[sI p1] [])) rfl (dt49 hby 5 rfl :) (by decide) (by decide)
  obtain ⟨b9, g9⟩ : ∃ z, z = h0.size := ⟨_, rfl⟩
  rw [← g9] at A9 D9 st9
  have g_b9 : n0 ≤ b9 := Nat.le_trans Z0 (Nat.le_of_eq g9.symm)
  have sz_b9 : h0.size ≤ b9 := Nat.le_trans (Keep.refl h0 []).1 (Nat.le_of_eq g9.symm)
  have Z11 : n0 ≤ h9.size := Nat.le_trans Z0 E9.1
  have K12 : Keep h0 h9 [] := (Keep.refl h0 []).ext E9
  have F13 : fSv Z h9 b9 .null := D9 (Or.inr (hw _ (wi 8 rfl))) (ty := (.array .byte)) (by decide)
  have F14 : fSc Z h9 b9 (.int (0 : Int32)) := D9 (Or.inr (hw _ (wi 9 rfl))) (ty := .byte) (by decide)
  obtain ⟨_, _, ⟨T15, L15, k15, n15⟩, -, X15, ⟨Lc15, hQ15, l15, y15, z15⟩, st15⟩ := Jvm.LawKit.callS X9 hx (y := ym50) hown (mw hZ hw 230 rfl) (mw hZ hw 231 rfl) (mw hZ hw 128 rfl) (mw hZ hw 232 rfl) (by decide) (backOf (W := 2) (rm50 l Z a0 hw p1 h9 n0 Z11 ) hZ (hw _ (wi 232 rfl)) (hw _ (wi 128 rfl)) (by decide) (by decide)) (g := (mkF m 18 #[sI p1] [(.int p1), (.ref b9), (.ref b9)])) rfl (by rw [hml]; rfl) (argsL := [(.int p1)]) (rest := [(.ref b9), (.ref b9)]) (lenOf pd_17 rfl) rfl (Nat.le_refl _) (dt49 hby 8 rfl :) (fun _ _ => ⟨rfl, e9, (by decide : 1 + 1 ≤ _), (by decide : 4 + 1 ≤ _)⟩)
  dsimp only [Pt.U, Pt.locs, Pt.cells, Pt.slots] at X15 l15 y15 z15 st15 hQ15
  subst l15 y15 z15
  obtain ⟨b16, g17, rfl, N15q, R18, R19, R20, R21, R22, R23⟩ := hQ15
  have N15 := Fr.app N4 N15q
  have F25 : eS Z T15.heap b9 := A9.keep R18
  have F26 : fSv Z T15.heap b9 .null := F13.keep R18 nin0
  have F27 : fSc Z T15.heap b9 (.int (0 : Int32)) := F14.keep R18 nin0
  have Z28 : n0 ≤ T15.heap.size := Nat.le_trans Z11 R18.1
  have K29 : Keep h0 T15.heap [] := K12.trans R18 all0
  have ne30 : b9 ≠ b16 := Nat.ne_of_lt (Nat.lt_of_lt_of_le A9.lt R20)
  have sz_b16 : h0.size ≤ b16 := Nat.le_trans K12.1 R20
  obtain ⟨_, _, ⟨T31, L31, k31, n31⟩, -, X31, ⟨Lc31, hQ31, l31, y31, z31⟩, st31⟩ := X15.specialBack hx (y := ym51) rfl hown (mw hZ hw 233 rfl) (mw hZ hw 234 rfl) (mw hZ hw 235 rfl) (by decide) (backOf (W := 1) (rm51_0 l Z a0 hw b9 b16 T15.heap n0 Z28 F25 g_b9 F26 F27) hZ (hw _ (wi 235 rfl)) (hw _ (wi 5 rfl)) (by decide) (by decide)) (g := (mkF m 22 #[sI p1] [(.int (0 : Int32)), (.ref b16), (.ref b9), (.ref b9)])) rfl (by rw [hml]; rfl) (Steps.refl _) (a := b9) (argsL := [(.ref b16), (.int (0 : Int32))]) (rest := [(.ref b9)]) (lenOf pd_18 rfl) rfl (Nat.le_refl _) (dt49 hby 10 rfl :) (fun _ _ => ⟨rfl, rfl, (by decide : 2 + 0 ≤ _), (by decide : 5 + 0 ≤ _)⟩)
  dsimp only [Pt.U, Pt.locs, Pt.cells, Pt.slots] at X31 l31 y31 z31 st31 hQ31
  subst l31 y31 z31
  obtain ⟨rfl, N31q, R32, R33, R34, R35⟩ := hQ31
  have N31 := Fr.app N15 N31q
  have F39 : own_Af Z T31.heap b16 .byte (Int32.ofNat 1) g17 := R22.keep R32 (ninS (Ne.symm ne30) nin0)
  have K41 : Keep h0 T31.heap [] := K29.trans R32 (allS (Or.inr sz_b9) all0)
  have Sq : own_Str Z T31.heap b9 b16 [p1] := ⟨g17, R33, R34, by simp, Or.inl ⟨R35, F39, own_lat1 hc.1 hle R23⟩⟩
  refine own_fin X31 hlk (v := some (.ref b9)) (own_nv hR) (by decide) (by decide) ?_ (fun fs hrt => P8 _ ?_)
  ·
   show Q49 Z p1 cs sv dg h0 n0 _ T31.heap _
   exact ⟨b9, b16, rfl, N31, K41, g_b9, sz_b9, R19, sz_b16, Sq⟩
  refine qfN X4 hx (dt49 hby 4 rfl :) ((if0 _ _).trans (feq (by decide : ¬ ((1 : Int32) = (0 : Int32)))).1) ?_
  refine st9 _ ?_
  refine XS.dup X9.here hx rfl (dt49 hby 6 rfl :) rfl rfl ?_
  refine qiN X9 hx (dt49 hby 7 rfl :) rfl ?_
  refine st15 _ ?_
  refine qc X15 hx (0 : Int32) (dt49 hby 9 rfl :) rfl ?_
  refine st31.trans ?_
  exact retOut X31 hx hR rfl (Or.inr (Or.inr (Or.inr (Or.inr ⟨rfl, rfl, rfl⟩)))) (dt49 hby 11 rfl :) hrt
 ·
  obtain ⟨T42, h42, X42, e42, E42, A42, D42, -, st42⟩ := newO X4 hx hZ hown (hw _ (wi 229 rfl)) (hw _ (wi 6 rfl)) (hw _ (wi 5 rfl)) R7 (g := (mkF m 26 #[sI p1] [])) rfl (dt49 hby 12 rfl :) (by decide) (by decide)
  obtain ⟨b42, g42⟩ : ∃ z, z = h0.size := ⟨_, rfl⟩
  rw [← g42] at A42 D42 st42
  have g_b42 : n0 ≤ b42 := Nat.le_trans Z0 (Nat.le_of_eq g42.symm)
  have sz_b42 : h0.size ≤ b42 := Nat.le_trans (Keep.refl h0 []).1 (Nat.le_of_eq g42.symm)
  have F43 : Old Z n0 h42 := HO.ext E42
  have Z44 : n0 ≤ h42.size := Nat.le_trans Z0 E42.1
  have K45 : Keep h0 h42 [] := (Keep.refl h0 []).ext E42
  have F46 : fSv Z h42 b42 .null := D42 (Or.inr (hw _ (wi 8 rfl))) (ty := (.array .byte)) (by decide)
  have F47 : fSc Z h42 b42 (.int (0 : Int32)) := D42 (Or.inr (hw _ (wi 9 rfl))) (ty := .byte) (by decide)
  obtain ⟨_, _, ⟨T48, L48, k48, n48⟩, -, X48, ⟨Lc48, hQ48, l48, y48, z48⟩, st48⟩ := Jvm.LawKit.callS X42 hx (y := ym71) hown (mw hZ hw 328 rfl) (mw hZ hw 329 rfl) (mw hZ hw 108 rfl) (mw hZ hw 330 rfl) (by decide) (backOf (W := 2) (rm71 l Z a0 hw p1 cs sv dg h42 n0 Z44 hS F43) hZ (hw _ (wi 330 rfl)) (hw _ (wi 108 rfl)) (by decide) (by decide)) (g := (mkF m 31 #[sI p1] [(.int p1), (.ref b42), (.ref b42)])) rfl (by rw [hml]; rfl) (argsL := [(.int p1)]) (rest := [(.ref b42), (.ref b42)]) (lenOf pd_17 rfl) rfl (Nat.le_refl _) (dt49 hby 15 rfl :) (fun _ _ => ⟨rfl, e42, (by decide : 1 + 1 ≤ _), (by decide : 4 + 2 ≤ _)⟩)
  dsimp only [Pt.U, Pt.locs, Pt.cells, Pt.slots] at X48 l48 y48 z48 st48 hQ48
  subst l48 y48 z48
  obtain ⟨b49, g50, rfl, N48q, R51, R52, R53, R54, R55, R56, R57⟩ := hQ48
  have N48 := Fr.app N4 N48q
  have F59 : eS Z T48.heap b42 := A42.keep R51
  have F60 : fSv Z T48.heap b42 .null := F46.keep R51 nin0
  have F61 : fSc Z T48.heap b42 (.int (0 : Int32)) := F47.keep R51 nin0
  have Z62 : n0 ≤ T48.heap.size := Nat.le_trans Z44 R51.1
  have K63 : Keep h0 T48.heap [] := K45.trans R51 all0
  have ne64 : b42 ≠ b49 := Nat.ne_of_lt (Nat.lt_of_lt_of_le A42.lt R53)
  have sz_b49 : h0.size ≤ b49 := Nat.le_trans K45.1 R53
  obtain ⟨_, _, ⟨T65, L65, k65, n65⟩, -, X65, ⟨Lc65, hQ65, l65, y65, z65⟩, st65⟩ := X48.specialBack hx (y := ym51) rfl hown (mw hZ hw 233 rfl) (mw hZ hw 234 rfl) (mw hZ hw 235 rfl) (by decide) (backOf (W := 1) (rm51_1 l Z a0 hw b42 b49 T48.heap n0 Z62 F59 g_b42 F60 F61) hZ (hw _ (wi 235 rfl)) (hw _ (wi 5 rfl)) (by decide) (by decide)) (g := (mkF m 35 #[sI p1] [(.int (1 : Int32)), (.ref b49), (.ref b42), (.ref b42)])) rfl (by rw [hml]; rfl) (Steps.refl _) (a := b42) (argsL := [(.ref b49), (.int (1 : Int32))]) (rest := [(.ref b42)]) (lenOf pd_18 rfl) rfl (Nat.le_refl _) (dt49 hby 17 rfl :) (fun _ _ => ⟨rfl, rfl, (by decide : 2 + 0 ≤ _), (by decide : 6 + 0 ≤ _)⟩)
  dsimp only [Pt.U, Pt.locs, Pt.cells, Pt.slots] at X65 l65 y65 z65 st65 hQ65
  subst l65 y65 z65
  obtain ⟨rfl, N65q, R66, R67, R68, R69⟩ := hQ65
  have N65 := Fr.app N48 N65q
  have F73 : own_Af Z T65.heap b49 .byte (Int32.ofNat (2 * 1)) g50 := R55.keep R66 (ninS (Ne.symm ne64) nin0)
  have K75 : Keep h0 T65.heap [] := K63.trans R66 (allS (Or.inr sz_b42) all0)
  have Sq : own_Str Z T65.heap b42 b49 [p1] := ⟨g50, R67, R68, by simp, Or.inr ⟨R69, F73, own_utf1 hc R56 R57⟩⟩
  refine own_fin X65 hlk (v := some (.ref b42)) (own_nv hR) (by decide) (by decide) ?_ (fun fs hrt => P8 _ ?_)
  ·
   show Q49 Z p1 cs sv dg h0 n0 _ T65.heap _
   exact ⟨b42, b49, rfl, N65, K75, g_b42, sz_b42, R52, sz_b49, Sq⟩
  refine qfY X4 hx 10 26 (dt49 hby 4 rfl :) ((if0 _ _).trans (teq (by decide : (0 : Int32) = (0 : Int32))).1) (by decide) (by decide) ?_
  refine st42 _ ?_
  refine XS.dup X42.here hx rfl (dt49 hby 13 rfl :) rfl rfl ?_
  refine qiN X42 hx (dt49 hby 14 rfl :) rfl ?_
  refine st48 _ ?_
  refine qc X48 hx (1 : Int32) (dt49 hby 16 rfl :) rfl ?_
  refine st65.trans ?_
  exact retOut X65 hx hR rfl (Or.inr (Or.inr (Or.inr (Or.inr ⟨rfl, rfl, rfl⟩)))) (dt49 hby 18 rfl :) hrt
theorem own_gt255 {c : Int32} (h : (255 : Int32) < c) : 255 < c.toInt := by
  rw [Int32.lt_iff_toInt_lt] at h
  exact h
theorem own_le255 {c : Int32} (h : ¬ ((255 : Int32) < c)) : c.toInt ≤ 255 := by
  rw [Int32.lt_iff_toInt_lt] at h
  have e : (255 : Int32).toInt = 255 := rfl
  omega
def Q19_2 (Z : State) (a1 b : Addr) (f : Nat → Int32) (h0 : Heap) (n0 : Nat) (v : Option Value) (h : Heap) (L : List Loc) : Prop := ∃ (r : Int32) (g : Nat → Int32), v = some (.int r) ∧ Fr n0 L ∧ Keep h0 h [b] ∧ own_Af Z h b .byte (Int32.ofNat 2) g ∧ ((r = (2 : Int32) ∧ ((f 0).toInt ≤ 255 ∧ g 0 = own_lo (f 0)) ∧ ((f 1).toInt ≤ 255 ∧ g 1 = own_lo (f 1))) ∨ (r = (0 : Int32) ∧ 255 < (f 0).toInt) ∨ (r = (1 : Int32) ∧ 255 < (f 1).toInt))
theorem rm19_2 (l : Launch) (Z : State) (a0 : Array Value) (hw : own_hw a0 Z) (a1 b : Addr) (f : Nat → Int32) (h0 : Heap) (n0 : Nat) (Z0 : n0 ≤ h0.size) (HB0 : own_Af Z h0 a1 .char (Int32.ofNat 2) f) (HB1 : own_Af Z h0 b .byte (Int32.ofNat 2) (fun _ => (0 : Int32))) (Hg2 : n0 ≤ b) (hne : a1 ≠ b) :
 own_M l ym19 [Jvm.Cond.code ym19 cm19 7 (some .int)] (⟨0, 0, 0, 0⟩ : Room) #[(.ref a1), (.int (0 : Int32)), (.ref b), (.int (0 : Int32)), (.int (2 : Int32))] Z h0 (Q19_2 Z a1 b f h0 n0) := by
 refine own_go n0 (F := fun m => mkF m 0 #[sR a1, sI (0 : Int32), sR b, sI (0 : Int32), sI (2 : Int32), .unset, .unset] []) (plainFor_of_name pn_5) (fun m => rfl) ?_
 intro p e s m below meth c sq Pq hR hx hby hml hown hnm hZ hh hlk X0 e0 N0 pre0
 obtain ⟨co1, Ao1, So1, Mo1, Bo1, Go1⟩ := HB0.op
 have ib2 : ¬ ((0 : Int32) < 0 ∨ co1.slots.size ≤ ((0 : Int32)).toNatClampNeg) := inb_of So1 ⟨by decide, by decide⟩
 have P3 : ∀ t, Steps p.tables e below (sq.setTop (mkF m 20 #[sR a1, sI (0 : Int32), sR b, sI (0 : Int32), sI (2 : Int32), sI (0 : Int32), sI (f 0)] [(.int (255 : Int32)), (.int (f 0))])) t → Pq t := fun t k => pre0 t (by
  refine qc X0 hx (0 : Int32) (dt19 hby 0 rfl :) rfl ?_
  refine qs X0 hx (l' := #[sR a1, sI (0 : Int32), sR b, sI (0 : Int32), sI (2 : Int32), sI (0 : Int32), .unset]) (dt19 hby 1 rfl :) rfl ?_
  refine qi X0 hx (dt19 hby 2 rfl :) rfl ?_
  refine qi X0 hx (dt19 hby 3 rfl :) rfl ?_
  refine qmN X0 hx (dt19 hby 4 rfl :) (tlt (by decide : (0 : Int32) < (2 : Int32))).2.1 ?_
  refine qaN X0 hx (dt19 hby 5 rfl :) rfl rfl ?_
  refine qiN X0 hx (dt19 hby 6 rfl :) rfl ?_
  refine X0.caload hx (j := (0 : Int32)) (v := (.int (f ((0 : Int32)).toNatClampNeg))) (by rw [e0]; exact Ao1.1) (State.isArrayOf_alike hZ.alike Ao1.2.1) Ao1.2.2 ib2 (Bo1 _ (Nat.lt_of_not_le fun q => ib2 (Or.inr q))) (g := (mkF m 12 #[sR a1, sI (0 : Int32), sR b, sI (0 : Int32), sI (2 : Int32), sI (0 : Int32), .unset] [(.int (0 : Int32)), (.ref a1)])) rfl rfl (dt19 hby 7 rfl :) _ ?_
  rw [show (f ((0 : Int32)).toNatClampNeg) = (f 0) from congrArg f (by decide)]
  refine qs X0 hx (l' := #[sR a1, sI (0 : Int32), sR b, sI (0 : Int32), sI (2 : Int32), sI (0 : Int32), sI (f 0)]) (dt19 hby 8 rfl :) rfl ?_
  refine qi X0 hx (dt19 hby 9 rfl :) rfl ?_
  refine qp X0 hx (255 : Int32) (dt19 hby 10 rfl :) rfl ?_
  exact k)
 by_cases hg0 : (255 : Int32) < (f 0)
 ·
  refine own_fin X0 hlk (v := some (.int (0 : Int32))) (own_nv hR) (by decide) (by decide) ?_ (fun fs hrt => P3 _ ?_)
  ·
   show Q19_2 Z a1 b f h0 n0 _ sq.heap _
   rw [e0]
   exact ⟨(0 : Int32), (fun _ => (0 : Int32)), rfl, N0, (Keep.refl h0 [b]), HB1, Or.inr (Or.inl ⟨rfl, own_gt255 hg0⟩)⟩
  refine qmN X0 hx (dt19 hby 11 rfl :) (tlt hg0).2.2.2 ?_
  refine qi X0 hx (dt19 hby 12 rfl :) rfl ?_
  exact retI X0 hx hR (dt19 hby 13 rfl :) hrt
 ·
  obtain ⟨co4, Ao4, So4, Mo4, Bo4, Go4⟩ := HB1.op
  obtain ⟨T5, h5, X5, e5, W5, st5⟩ := stB X0 hx hZ e0 Ao4 (j := (0 : Int32)) (inb_of So4 ⟨by decide, by decide⟩) (g := (mkF m 31 #[sR a1, sI (0 : Int32), sR b, sI (0 : Int32), sI (2 : Int32), sI (0 : Int32), sI (f 0)] [(.int ((f 0).toInt8.toInt32)), (.int (0 : Int32)), (.ref b)])) rfl rfl (dt19 hby 18 rfl :)
  have V5 : own_Af Z h5 b .byte (Int32.ofNat 2) (own_sb (fun _ => (0 : Int32)) (0 : Int32) ((f 0).toInt8.toInt32)) := own_Af.set Ao4 So4 Mo4 Bo4 Go4 (fits_nar_byte _) W5
  have F6 : own_Af Z h5 a1 .char (Int32.ofNat 2) f := HB0.keep (Keep.of_wr W5) (ninS hne nin0)
  have K8 : Keep h0 h5 [b] := (Keep.refl h0 [b]).wr W5 (Or.inl (wi 0 rfl))
  have N9 := Fr.snoc X5 N0 Hg2
  obtain ⟨co10, Ao10, So10, Mo10, Bo10, Go10⟩ := F6.op
  have ib11 : ¬ ((1 : Int32) < 0 ∨ co10.slots.size ≤ ((1 : Int32)).toNatClampNeg) := inb_of So10 ⟨by decide, by decide⟩
  have P12 : ∀ t, Steps p.tables e below (T5.setTop (mkF m 20 #[sR a1, sI (1 : Int32), sR b, sI (1 : Int32), sI (2 : Int32), sI (1 : Int32), sI (f 1)] [(.int (255 : Int32)), (.int (f 1))])) t → Pq t := fun t k => P3 t (by
   refine qmY X0 hx 20 26 (dt19 hby 11 rfl :) (flt hg0).2.2.2 (by decide) (by decide) ?_
   refine qaN X0 hx (dt19 hby 14 rfl :) rfl rfl ?_
   refine qiN X0 hx (dt19 hby 15 rfl :) rfl ?_
   refine qi X0 hx (dt19 hby 16 rfl :) rfl ?_
   refine XS.i2b X0.here hx rfl (dt19 hby 17 rfl :) rfl ?_
   refine st5 _ ?_
   refine XS.iinc X5.here hx rfl (dt19 hby 19 rfl :) rfl (l' := #[sR a1, sI (1 : Int32), sR b, sI (0 : Int32), sI (2 : Int32), sI (0 : Int32), sI (f 0)]) rfl ?_
   refine XS.iinc X5.here hx rfl (dt19 hby 20 rfl :) rfl (l' := #[sR a1, sI (1 : Int32), sR b, sI (1 : Int32), sI (2 : Int32), sI (0 : Int32), sI (f 0)]) rfl ?_
   refine XS.iinc X5.here hx rfl (dt19 hby 21 rfl :) rfl (l' := #[sR a1, sI (1 : Int32), sR b, sI (1 : Int32), sI (2 : Int32), sI (1 : Int32), sI (f 0)]) rfl ?_
   refine qg X5 hx 41 3 (dt19 hby 22 rfl :) (by decide) (by decide) ?_
   refine qi X5 hx (dt19 hby 2 rfl :) rfl ?_
   refine qi X5 hx (dt19 hby 3 rfl :) rfl ?_
   refine qmN X5 hx (dt19 hby 4 rfl :) (tlt (by decide : (1 : Int32) < (2 : Int32))).2.1 ?_
   refine qaN X5 hx (dt19 hby 5 rfl :) rfl rfl ?_
   refine qiN X5 hx (dt19 hby 6 rfl :) rfl ?_
   refine X5.caload hx (j := (1 : Int32)) (v := (.int (f ((1 : Int32)).toNatClampNeg))) (by rw [e5]; exact Ao10.1) (State.isArrayOf_alike hZ.alike Ao10.2.1) Ao10.2.2 ib11 (Bo10 _ (Nat.lt_of_not_le fun q => ib11 (Or.inr q))) (g := (mkF m 12 #[sR a1, sI (1 : Int32), sR b, sI (1 : Int32), sI (2 : Int32), sI (1 : Int32), sI (f 0)] [(.int (1 : Int32)), (.ref a1)])) rfl rfl (dt19 hby 7 rfl :) _ ?_
   rw [show (f ((1 : Int32)).toNatClampNeg) = (f 1) from congrArg f (by decide)]
   refine qs X5 hx (l' := #[sR a1, sI (1 : Int32), sR b, sI (1 : Int32), sI (2 : Int32), sI (1 : Int32), sI (f 1)]) (dt19 hby 8 rfl :) rfl ?_
   refine qi X5 hx (dt19 hby 9 rfl :) rfl ?_
   refine qp X5 hx (255 : Int32) (dt19 hby 10 rfl :) rfl ?_
   exact k)
  by_cases hg1 : (255 : Int32) < (f 1)
  ·
   refine own_fin X5 hlk (v := some (.int (1 : Int32))) (own_nv hR) (by decide) (by decide) ?_ (fun fs hrt => P12 _ ?_)
   ·
    show Q19_2 Z a1 b f h0 n0 _ T5.heap _
    rw [e5]
    exact ⟨(1 : Int32), (own_sb (fun _ => (0 : Int32)) (0 : Int32) ((f 0).toInt8.toInt32)), rfl, N9, K8, V5, Or.inr (Or.inr (⟨rfl, own_gt255 hg1⟩))⟩
   refine qmN X5 hx (dt19 hby 11 rfl :) (tlt hg1).2.2.2 ?_
   refine qi X5 hx (dt19 hby 12 rfl :) rfl ?_
   exact retI X5 hx hR (dt19 hby 13 rfl :) hrt
  ·
   obtain ⟨co13, Ao13, So13, Mo13, Bo13, Go13⟩ := V5.op
   obtain ⟨T14, h14, X14, e14, W14, st14⟩ := stB X5 hx hZ e5 Ao13 (j := (1 : Int32)) (inb_of So13 ⟨by decide, by decide⟩) (g := (mkF m 31 #[sR a1, sI (1 : Int32), sR b, sI (1 : Int32), sI (2 : Int32), sI (1 : Int32), sI (f 1)] [(.int ((f 1).toInt8.toInt32)), (.int (1 : Int32)), (.ref b)])) rfl rfl (dt19 hby 18 rfl :)
   have V14 : own_Af Z h14 b .byte (Int32.ofNat 2) (own_sb (own_sb (fun _ => (0 : Int32)) (0 : Int32) ((f 0).toInt8.toInt32)) (1 : Int32) ((f 1).toInt8.toInt32)) := own_Af.set Ao13 So13 Mo13 Bo13 Go13 (fits_nar_byte _) W14
   have K17 : Keep h0 h14 [b] := K8.wr W14 (Or.inl (wi 0 rfl))
   have N18 := Fr.snoc X14 N9 Hg2
   refine own_fin X14 hlk (v := some (.int (2 : Int32))) (own_nv hR) (by decide) (by decide) ?_ (fun fs hrt => P12 _ ?_)
   ·
    show Q19_2 Z a1 b f h0 n0 _ T14.heap _
    rw [e14]
    exact ⟨(2 : Int32), (own_sb (own_sb (fun _ => (0 : Int32)) (0 : Int32) ((f 0).toInt8.toInt32)) (1 : Int32) ((f 1).toInt8.toInt32)), rfl, N18, K17, V14, Or.inl ⟨rfl, ⟨own_le255 hg0, own_nb _⟩, ⟨own_le255 hg1, own_nb _⟩⟩⟩
   refine qmY X5 hx 20 26 (dt19 hby 11 rfl :) (flt hg1).2.2.2 (by decide) (by decide) ?_
   refine qaN X5 hx (dt19 hby 14 rfl :) rfl rfl ?_
   refine qiN X5 hx (dt19 hby 15 rfl :) rfl ?_
   refine qi X5 hx (dt19 hby 16 rfl :) rfl ?_
   refine XS.i2b X5.here hx rfl (dt19 hby 17 rfl :) rfl ?_
   refine st14 _ ?_
   refine XS.iinc X14.here hx rfl (dt19 hby 19 rfl :) rfl (l' := #[sR a1, sI (2 : Int32), sR b, sI (1 : Int32), sI (2 : Int32), sI (1 : Int32), sI (f 1)]) rfl ?_
   refine XS.iinc X14.here hx rfl (dt19 hby 20 rfl :) rfl (l' := #[sR a1, sI (2 : Int32), sR b, sI (2 : Int32), sI (2 : Int32), sI (1 : Int32), sI (f 1)]) rfl ?_
   refine XS.iinc X14.here hx rfl (dt19 hby 21 rfl :) rfl (l' := #[sR a1, sI (2 : Int32), sR b, sI (2 : Int32), sI (2 : Int32), sI (2 : Int32), sI (f 1)]) rfl ?_
   refine qg X14 hx 41 3 (dt19 hby 22 rfl :) (by decide) (by decide) ?_
   refine qi X14 hx (dt19 hby 2 rfl :) rfl ?_
   refine qi X14 hx (dt19 hby 3 rfl :) rfl ?_
   refine qmY X14 hx 7 44 (dt19 hby 4 rfl :) (flt (by decide : ¬ ((2 : Int32) < (2 : Int32)))).2.1 (by decide) (by decide) ?_
   refine qi X14 hx (dt19 hby 23 rfl :) rfl ?_
   exact retI X14 hx hR (dt19 hby 24 rfl :) hrt
def Q19_3 (Z : State) (a1 b : Addr) (f : Nat → Int32) (h0 : Heap) (n0 : Nat) (v : Option Value) (h : Heap) (L : List Loc) : Prop := ∃ (r : Int32) (g : Nat → Int32), v = some (.int r) ∧ Fr n0 L ∧ Keep h0 h [b] ∧ own_Af Z h b .byte (Int32.ofNat 3) g ∧ ((r = (3 : Int32) ∧ ((f 0).toInt ≤ 255 ∧ g 0 = own_lo (f 0)) ∧ ((f 1).toInt ≤ 255 ∧ g 1 = own_lo (f 1)) ∧ ((f 2).toInt ≤ 255 ∧ g 2 = own_lo (f 2))) ∨ (r = (0 : Int32) ∧ 255 < (f 0).toInt) ∨ (r = (1 : Int32) ∧ 255 < (f 1).toInt) ∨ (r = (2 : Int32) ∧ 255 < (f 2).toInt))
theorem rm19_3 (l : Launch) (Z : State) (a0 : Array Value) (hw : own_hw a0 Z) (a1 b : Addr) (f : Nat → Int32) (h0 : Heap) (n0 : Nat) (Z0 : n0 ≤ h0.size) (HB0 : own_Af Z h0 a1 .char (Int32.ofNat 3) f) (HB1 : own_Af Z h0 b .byte (Int32.ofNat 3) (fun _ => (0 : Int32))) (Hg2 : n0 ≤ b) (hne : a1 ≠ b) :
 own_M l ym19 [Jvm.Cond.code ym19 cm19 7 (some .int)] (⟨0, 0, 0, 0⟩ : Room) #[(.ref a1), (.int (0 : Int32)), (.ref b), (.int (0 : Int32)), (.int (3 : Int32))] Z h0 (Q19_3 Z a1 b f h0 n0) := by
 refine own_go n0 (F := fun m => mkF m 0 #[sR a1, sI (0 : Int32), sR b, sI (0 : Int32), sI (3 : Int32), .unset, .unset] []) (plainFor_of_name pn_5) (fun m => rfl) ?_
 intro p e s m below meth c sq Pq hR hx hby hml hown hnm hZ hh hlk X0 e0 N0 pre0
 obtain ⟨co1, Ao1, So1, Mo1, Bo1, Go1⟩ := HB0.op
 have ib2 : ¬ ((0 : Int32) < 0 ∨ co1.slots.size ≤ ((0 : Int32)).toNatClampNeg) := inb_of So1 ⟨by decide, by decide⟩
 have P3 : ∀ t, Steps p.tables e below (sq.setTop (mkF m 20 #[sR a1, sI (0 : Int32), sR b, sI (0 : Int32), sI (3 : Int32), sI (0 : Int32), sI (f 0)] [(.int (255 : Int32)), (.int (f 0))])) t → Pq t := fun t k => pre0 t (by
  refine qc X0 hx (0 : Int32) (dt19 hby 0 rfl :) rfl ?_
  refine qs X0 hx (l' := #[sR a1, sI (0 : Int32), sR b, sI (0 : Int32), sI (3 : Int32), sI (0 : Int32), .unset]) (dt19 hby 1 rfl :) rfl ?_
  refine qi X0 hx (dt19 hby 2 rfl :) rfl ?_
  refine qi X0 hx (dt19 hby 3 rfl :) rfl ?_
  refine qmN X0 hx (dt19 hby 4 rfl :) (tlt (by decide : (0 : Int32) < (3 : Int32))).2.1 ?_
  refine qaN X0 hx (dt19 hby 5 rfl :) rfl rfl ?_
  refine qiN X0 hx (dt19 hby 6 rfl :) rfl ?_
  refine X0.caload hx (j := (0 : Int32)) (v := (.int (f ((0 : Int32)).toNatClampNeg))) (by rw [e0]; exact Ao1.1) (State.isArrayOf_alike hZ.alike Ao1.2.1) Ao1.2.2 ib2 (Bo1 _ (Nat.lt_of_not_le fun q => ib2 (Or.inr q))) (g := (mkF m 12 #[sR a1, sI (0 : Int32), sR b, sI (0 : Int32), sI (3 : Int32), sI (0 : Int32), .unset] [(.int (0 : Int32)), (.ref a1)])) rfl rfl (dt19 hby 7 rfl :) _ ?_
  rw [show (f ((0 : Int32)).toNatClampNeg) = (f 0) from congrArg f (by decide)]
  refine qs X0 hx (l' := #[sR a1, sI (0 : Int32), sR b, sI (0 : Int32), sI (3 : Int32), sI (0 : Int32), sI (f 0)]) (dt19 hby 8 rfl :) rfl ?_
  refine qi X0 hx (dt19 hby 9 rfl :) rfl ?_
  refine qp X0 hx (255 : Int32) (dt19 hby 10 rfl :) rfl ?_
  exact k)
 by_cases hg0 : (255 : Int32) < (f 0)
 ·
  refine own_fin X0 hlk (v := some (.int (0 : Int32))) (own_nv hR) (by decide) (by decide) ?_ (fun fs hrt => P3 _ ?_)
  ·
   show Q19_3 Z a1 b f h0 n0 _ sq.heap _
   rw [e0]
   exact ⟨(0 : Int32), (fun _ => (0 : Int32)), rfl, N0, (Keep.refl h0 [b]), HB1, Or.inr (Or.inl ⟨rfl, own_gt255 hg0⟩)⟩
  refine qmN X0 hx (dt19 hby 11 rfl :) (tlt hg0).2.2.2 ?_
  refine qi X0 hx (dt19 hby 12 rfl :) rfl ?_
  exact retI X0 hx hR (dt19 hby 13 rfl :) hrt
 ·
  obtain ⟨co4, Ao4, So4, Mo4, Bo4, Go4⟩ := HB1.op
  obtain ⟨T5, h5, X5, e5, W5, st5⟩ := stB X0 hx hZ e0 Ao4 (j := (0 : Int32)) (inb_of So4 ⟨by decide, by decide⟩) (g := (mkF m 31 #[sR a1, sI (0 : Int32), sR b, sI (0 : Int32), sI (3 : Int32), sI (0 : Int32), sI (f 0)] [(.int ((f 0).toInt8.toInt32)), (.int (0 : Int32)), (.ref b)])) rfl rfl (dt19 hby 18 rfl :)
  have V5 : own_Af Z h5 b .byte (Int32.ofNat 3) (own_sb (fun _ => (0 : Int32)) (0 : Int32) ((f 0).toInt8.toInt32)) := own_Af.set Ao4 So4 Mo4 Bo4 Go4 (fits_nar_byte _) W5
  have F6 : own_Af Z h5 a1 .char (Int32.ofNat 3) f := HB0.keep (Keep.of_wr W5) (ninS hne nin0)
  have K8 : Keep h0 h5 [b] := (Keep.refl h0 [b]).wr W5 (Or.inl (wi 0 rfl))
  have N9 := Fr.snoc X5 N0 Hg2
  obtain ⟨co10, Ao10, So10, Mo10, Bo10, Go10⟩ := F6.op
  have ib11 : ¬ ((1 : Int32) < 0 ∨ co10.slots.size ≤ ((1 : Int32)).toNatClampNeg) := inb_of So10 ⟨by decide, by decide⟩
  have P12 : ∀ t, Steps p.tables e below (T5.setTop (mkF m 20 #[sR a1, sI (1 : Int32), sR b, sI (1 : Int32), sI (3 : Int32), sI (1 : Int32), sI (f 1)] [(.int (255 : Int32)), (.int (f 1))])) t → Pq t := fun t k => P3 t (by
   refine qmY X0 hx 20 26 (dt19 hby 11 rfl :) (flt hg0).2.2.2 (by decide) (by decide) ?_
   refine qaN X0 hx (dt19 hby 14 rfl :) rfl rfl ?_
   refine qiN X0 hx (dt19 hby 15 rfl :) rfl ?_
   refine qi X0 hx (dt19 hby 16 rfl :) rfl ?_
   refine XS.i2b X0.here hx rfl (dt19 hby 17 rfl :) rfl ?_
   refine st5 _ ?_
   refine XS.iinc X5.here hx rfl (dt19 hby 19 rfl :) rfl (l' := #[sR a1, sI (1 : Int32), sR b, sI (0 : Int32), sI (3 : Int32), sI (0 : Int32), sI (f 0)]) rfl ?_
   refine XS.iinc X5.here hx rfl (dt19 hby 20 rfl :) rfl (l' := #[sR a1, sI (1 : Int32), sR b, sI (1 : Int32), sI (3 : Int32), sI (0 : Int32), sI (f 0)]) rfl ?_
   refine XS.iinc X5.here hx rfl (dt19 hby 21 rfl :) rfl (l' := #[sR a1, sI (1 : Int32), sR b, sI (1 : Int32), sI (3 : Int32), sI (1 : Int32), sI (f 0)]) rfl ?_
   refine qg X5 hx 41 3 (dt19 hby 22 rfl :) (by decide) (by decide) ?_
   refine qi X5 hx (dt19 hby 2 rfl :) rfl ?_
   refine qi X5 hx (dt19 hby 3 rfl :) rfl ?_
   refine qmN X5 hx (dt19 hby 4 rfl :) (tlt (by decide : (1 : Int32) < (3 : Int32))).2.1 ?_
   refine qaN X5 hx (dt19 hby 5 rfl :) rfl rfl ?_
   refine qiN X5 hx (dt19 hby 6 rfl :) rfl ?_
   refine X5.caload hx (j := (1 : Int32)) (v := (.int (f ((1 : Int32)).toNatClampNeg))) (by rw [e5]; exact Ao10.1) (State.isArrayOf_alike hZ.alike Ao10.2.1) Ao10.2.2 ib11 (Bo10 _ (Nat.lt_of_not_le fun q => ib11 (Or.inr q))) (g := (mkF m 12 #[sR a1, sI (1 : Int32), sR b, sI (1 : Int32), sI (3 : Int32), sI (1 : Int32), sI (f 0)] [(.int (1 : Int32)), (.ref a1)])) rfl rfl (dt19 hby 7 rfl :) _ ?_
   rw [show (f ((1 : Int32)).toNatClampNeg) = (f 1) from congrArg f (by decide)]
   refine qs X5 hx (l' := #[sR a1, sI (1 : Int32), sR b, sI (1 : Int32), sI (3 : Int32), sI (1 : Int32), sI (f 1)]) (dt19 hby 8 rfl :) rfl ?_
   refine qi X5 hx (dt19 hby 9 rfl :) rfl ?_
   refine qp X5 hx (255 : Int32) (dt19 hby 10 rfl :) rfl ?_
   exact k)
  by_cases hg1 : (255 : Int32) < (f 1)
  ·
   refine own_fin X5 hlk (v := some (.int (1 : Int32))) (own_nv hR) (by decide) (by decide) ?_ (fun fs hrt => P12 _ ?_)
   ·
    show Q19_3 Z a1 b f h0 n0 _ T5.heap _
    rw [e5]
    exact ⟨(1 : Int32), (own_sb (fun _ => (0 : Int32)) (0 : Int32) ((f 0).toInt8.toInt32)), rfl, N9, K8, V5, Or.inr (Or.inr (Or.inl ⟨rfl, own_gt255 hg1⟩))⟩
   refine qmN X5 hx (dt19 hby 11 rfl :) (tlt hg1).2.2.2 ?_
   refine qi X5 hx (dt19 hby 12 rfl :) rfl ?_
   exact retI X5 hx hR (dt19 hby 13 rfl :) hrt
  ·
   obtain ⟨co13, Ao13, So13, Mo13, Bo13, Go13⟩ := V5.op
   obtain ⟨T14, h14, X14, e14, W14, st14⟩ := stB X5 hx hZ e5 Ao13 (j := (1 : Int32)) (inb_of So13 ⟨by decide, by decide⟩) (g := (mkF m 31 #[sR a1, sI (1 : Int32), sR b, sI (1 : Int32), sI (3 : Int32), sI (1 : Int32), sI (f 1)] [(.int ((f 1).toInt8.toInt32)), (.int (1 : Int32)), (.ref b)])) rfl rfl (dt19 hby 18 rfl :)
   have V14 : own_Af Z h14 b .byte (Int32.ofNat 3) (own_sb (own_sb (fun _ => (0 : Int32)) (0 : Int32) ((f 0).toInt8.toInt32)) (1 : Int32) ((f 1).toInt8.toInt32)) := own_Af.set Ao13 So13 Mo13 Bo13 Go13 (fits_nar_byte _) W14
   have F15 : own_Af Z h14 a1 .char (Int32.ofNat 3) f := F6.keep (Keep.of_wr W14) (ninS hne nin0)
   have K17 : Keep h0 h14 [b] := K8.wr W14 (Or.inl (wi 0 rfl))
   have N18 := Fr.snoc X14 N9 Hg2
   obtain ⟨co19, Ao19, So19, Mo19, Bo19, Go19⟩ := F15.op
   have ib20 : ¬ ((2 : Int32) < 0 ∨ co19.slots.size ≤ ((2 : Int32)).toNatClampNeg) := inb_of So19 ⟨by decide, by decide⟩
   have P21 : ∀ t, Steps p.tables e below (T14.setTop (mkF m 20 #[sR a1, sI (2 : Int32), sR b, sI (2 : Int32), sI (3 : Int32), sI (2 : Int32), sI (f 2)] [(.int (255 : Int32)), (.int (f 2))])) t → Pq t := fun t k => P12 t (by
    refine qmY X5 hx 20 26 (dt19 hby 11 rfl :) (flt hg1).2.2.2 (by decide) (by decide) ?_
    refine qaN X5 hx (dt19 hby 14 rfl :) rfl rfl ?_
    refine qiN X5 hx (dt19 hby 15 rfl :) rfl ?_
    refine qi X5 hx (dt19 hby 16 rfl :) rfl ?_
    refine XS.i2b X5.here hx rfl (dt19 hby 17 rfl :) rfl ?_
    refine st14 _ ?_
    refine XS.iinc X14.here hx rfl (dt19 hby 19 rfl :) rfl (l' := #[sR a1, sI (2 : Int32), sR b, sI (1 : Int32), sI (3 : Int32), sI (1 : Int32), sI (f 1)]) rfl ?_
    refine XS.iinc X14.here hx rfl (dt19 hby 20 rfl :) rfl (l' := #[sR a1, sI (2 : Int32), sR b, sI (2 : Int32), sI (3 : Int32), sI (1 : Int32), sI (f 1)]) rfl ?_
    refine XS.iinc X14.here hx rfl (dt19 hby 21 rfl :) rfl (l' := #[sR a1, sI (2 : Int32), sR b, sI (2 : Int32), sI (3 : Int32), sI (2 : Int32), sI (f 1)]) rfl ?_
    refine qg X14 hx 41 3 (dt19 hby 22 rfl :) (by decide) (by decide) ?_
    refine qi X14 hx (dt19 hby 2 rfl :) rfl ?_
    refine qi X14 hx (dt19 hby 3 rfl :) rfl ?_
    refine qmN X14 hx (dt19 hby 4 rfl :) (tlt (by decide : (2 : Int32) < (3 : Int32))).2.1 ?_
    refine qaN X14 hx (dt19 hby 5 rfl :) rfl rfl ?_
    refine qiN X14 hx (dt19 hby 6 rfl :) rfl ?_
    refine X14.caload hx (j := (2 : Int32)) (v := (.int (f ((2 : Int32)).toNatClampNeg))) (by rw [e14]; exact Ao19.1) (State.isArrayOf_alike hZ.alike Ao19.2.1) Ao19.2.2 ib20 (Bo19 _ (Nat.lt_of_not_le fun q => ib20 (Or.inr q))) (g := (mkF m 12 #[sR a1, sI (2 : Int32), sR b, sI (2 : Int32), sI (3 : Int32), sI (2 : Int32), sI (f 1)] [(.int (2 : Int32)), (.ref a1)])) rfl rfl (dt19 hby 7 rfl :) _ ?_
    rw [show (f ((2 : Int32)).toNatClampNeg) = (f 2) from congrArg f (by decide)]
    refine qs X14 hx (l' := #[sR a1, sI (2 : Int32), sR b, sI (2 : Int32), sI (3 : Int32), sI (2 : Int32), sI (f 2)]) (dt19 hby 8 rfl :) rfl ?_
    refine qi X14 hx (dt19 hby 9 rfl :) rfl ?_
    refine qp X14 hx (255 : Int32) (dt19 hby 10 rfl :) rfl ?_
    exact k)
   by_cases hg2 : (255 : Int32) < (f 2)
   ·
    refine own_fin X14 hlk (v := some (.int (2 : Int32))) (own_nv hR) (by decide) (by decide) ?_ (fun fs hrt => P21 _ ?_)
    ·
     show Q19_3 Z a1 b f h0 n0 _ T14.heap _
     rw [e14]
     exact ⟨(2 : Int32), (own_sb (own_sb (fun _ => (0 : Int32)) (0 : Int32) ((f 0).toInt8.toInt32)) (1 : Int32) ((f 1).toInt8.toInt32)), rfl, N18, K17, V14, Or.inr (Or.inr (Or.inr (⟨rfl, own_gt255 hg2⟩)))⟩
    refine qmN X14 hx (dt19 hby 11 rfl :) (tlt hg2).2.2.2 ?_
    refine qi X14 hx (dt19 hby 12 rfl :) rfl ?_
    exact retI X14 hx hR (dt19 hby 13 rfl :) hrt
   ·
    obtain ⟨co22, Ao22, So22, Mo22, Bo22, Go22⟩ := V14.op
    obtain ⟨T23, h23, X23, e23, W23, st23⟩ := stB X14 hx hZ e14 Ao22 (j := (2 : Int32)) (inb_of So22 ⟨by decide, by decide⟩) (g := (mkF m 31 #[sR a1, sI (2 : Int32), sR b, sI (2 : Int32), sI (3 : Int32), sI (2 : Int32), sI (f 2)] [(.int ((f 2).toInt8.toInt32)), (.int (2 : Int32)), (.ref b)])) rfl rfl (dt19 hby 18 rfl :)
    have V23 : own_Af Z h23 b .byte (Int32.ofNat 3) (own_sb (own_sb (own_sb (fun _ => (0 : Int32)) (0 : Int32) ((f 0).toInt8.toInt32)) (1 : Int32) ((f 1).toInt8.toInt32)) (2 : Int32) ((f 2).toInt8.toInt32)) := own_Af.set Ao22 So22 Mo22 Bo22 Go22 (fits_nar_byte _) W23
    have K26 : Keep h0 h23 [b] := K17.wr W23 (Or.inl (wi 0 rfl))
    have N27 := Fr.snoc X23 N18 Hg2
    refine own_fin X23 hlk (v := some (.int (3 : Int32))) (own_nv hR) (by decide) (by decide) ?_ (fun fs hrt => P21 _ ?_)
    ·
     show Q19_3 Z a1 b f h0 n0 _ T23.heap _
     rw [e23]
     exact ⟨(3 : Int32), (own_sb (own_sb (own_sb (fun _ => (0 : Int32)) (0 : Int32) ((f 0).toInt8.toInt32)) (1 : Int32) ((f 1).toInt8.toInt32)) (2 : Int32) ((f 2).toInt8.toInt32)), rfl, N27, K26, V23, Or.inl ⟨rfl, ⟨own_le255 hg0, own_nb _⟩, ⟨own_le255 hg1, own_nb _⟩, ⟨own_le255 hg2, own_nb _⟩⟩⟩
    refine qmY X14 hx 20 26 (dt19 hby 11 rfl :) (flt hg2).2.2.2 (by decide) (by decide) ?_
    refine qaN X14 hx (dt19 hby 14 rfl :) rfl rfl ?_
    refine qiN X14 hx (dt19 hby 15 rfl :) rfl ?_
    refine qi X14 hx (dt19 hby 16 rfl :) rfl ?_
    refine XS.i2b X14.here hx rfl (dt19 hby 17 rfl :) rfl ?_
    refine st23 _ ?_
    refine XS.iinc X23.here hx rfl (dt19 hby 19 rfl :) rfl (l' := #[sR a1, sI (3 : Int32), sR b, sI (2 : Int32), sI (3 : Int32), sI (2 : Int32), sI (f 2)]) rfl ?_
    refine XS.iinc X23.here hx rfl (dt19 hby 20 rfl :) rfl (l' := #[sR a1, sI (3 : Int32), sR b, sI (3 : Int32), sI (3 : Int32), sI (2 : Int32), sI (f 2)]) rfl ?_
    refine XS.iinc X23.here hx rfl (dt19 hby 21 rfl :) rfl (l' := #[sR a1, sI (3 : Int32), sR b, sI (3 : Int32), sI (3 : Int32), sI (3 : Int32), sI (f 2)]) rfl ?_
    refine qg X23 hx 41 3 (dt19 hby 22 rfl :) (by decide) (by decide) ?_
    refine qi X23 hx (dt19 hby 2 rfl :) rfl ?_
    refine qi X23 hx (dt19 hby 3 rfl :) rfl ?_
    refine qmY X23 hx 7 44 (dt19 hby 4 rfl :) (flt (by decide : ¬ ((3 : Int32) < (3 : Int32)))).2.1 (by decide) (by decide) ?_
    refine qi X23 hx (dt19 hby 23 rfl :) rfl ?_
    exact retI X23 hx hR (dt19 hby 24 rfl :) hrt
theorem pd_19 : parseMethodDescriptor "(I)[B" = some ⟨[.int], some (.array .byte)⟩ := by decide +kernel
def Q34_2 (Z : State) (a1 : Addr) (f : Nat → Int32) (cs : Int32) (sv : Value) (dg : Addr) (h0 : Heap) (n0 : Nat) (v : Option Value) (h : Heap) (L : List Loc) : Prop := ∃ (b : Addr) (g : Nat → Int32), v = some (.ref b) ∧ Fr n0 L ∧ Keep h0 h [] ∧ n0 ≤ b ∧ h0.size ≤ b ∧ eA Z h b ∧ own_Af Z h b .byte (Int32.ofNat (2 * 2)) g ∧ ((g (2 * 0) = own_lo (f 0) ∧ g (2 * 0 + 1) = own_hi (f 0)) ∧ (g (2 * 1) = own_lo (f 1) ∧ g (2 * 1 + 1) = own_hi (f 1)))
theorem rm34_2 (l : Launch) (Z : State) (a0 : Array Value) (hw : own_hw a0 Z) (a1 : Addr) (f : Nat → Int32) (cs : Int32) (sv : Value) (dg : Addr) (h0 : Heap) (n0 : Nat) (Z0 : n0 ≤ h0.size) (HB0 : own_Af Z h0 a1 .char (Int32.ofNat 2) f) (hS : (own_ST Z cs sv dg)) (HO : Old Z n0 h0) :
 own_M l ym34 [Jvm.Cond.code ym34 cm34 5 (some (.array .byte))] (⟨2, 1, 72, 24⟩ : Room) #[(.ref a1), (.int (0 : Int32)), (.int (2 : Int32))] Z h0 (Q34_2 Z a1 f cs sv dg h0 n0) := by
 refine own_go n0 (F := fun m => mkF m 0 #[sR a1, sI (0 : Int32), sI (2 : Int32), .unset, .unset] []) (plainFor_of_name pn_5) (fun m => rfl) ?_
 intro p e s m below meth c sq Pq hR hx hby hml hown hnm hZ hh hlk X0 e0 N0 pre0
 obtain ⟨_, _, ⟨T2, L2, k2, n2⟩, -, X2, ⟨Lc2, hQ2, l2, y2, z2⟩, st2⟩ := Jvm.LawKit.callS X0 hx (y := ym35) hown (mw hZ hw 173 rfl) (mw hZ hw 174 rfl) (mw hZ hw 108 rfl) (mw hZ hw 175 rfl) (by decide) (backOf (W := 0) (rm35 l Z a0 hw 2 h0 n0 Z0 (by omega)) hZ (hw _ (wi 175 rfl)) (hw _ (wi 108 rfl)) (by decide) (by decide)) (g := (mkF m 1 #[sR a1, sI (0 : Int32), sI (2 : Int32), .unset, .unset] [(.int (2 : Int32))])) rfl (by rw [hml]; rfl) (argsL := [(.int (2 : Int32))]) (rest := []) (lenOf pd_19 rfl) rfl (Nat.le_refl _) (dt34 hby 1 rfl :) (fun _ _ => ⟨rfl, e0, (by decide : 0 + 1 ≤ _), (by decide : 0 + 72 ≤ _)⟩)
 dsimp only [Pt.U, Pt.locs, Pt.cells, Pt.slots] at X2 l2 y2 z2 st2 hQ2
 subst l2 y2 z2
 obtain ⟨b3, rfl, N2q, R4, R5, R6, R7, R8⟩ := hQ2
 have N2 := Fr.app N0 N2q
 have F9 : own_Af Z T2.heap a1 .char (Int32.ofNat 2) f := HB0.keep R4 nin0
 have F10 : Old Z n0 T2.heap := HO.keep R4 all0
 have Z11 : n0 ≤ T2.heap.size := Nat.le_trans Z0 R4.1
 have K12 : Keep h0 T2.heap [] := (Keep.refl h0 []).trans R4 all0
 have ne13 : a1 ≠ b3 := Nat.ne_of_lt (Nat.lt_of_lt_of_le HB0.lt R6)
 have sz_b3 : h0.size ≤ b3 := Nat.le_trans (Keep.refl h0 []).1 R6
 obtain ⟨co14, Ao14, So14, Mo14, Bo14, Go14⟩ := F9.op
 have ib15 : ¬ ((0 : Int32) < 0 ∨ co14.slots.size ≤ ((0 : Int32)).toNatClampNeg) := inb_of So14 ⟨by decide, by decide⟩
 obtain ⟨_, _, ⟨T18, L18, k18, n18⟩, -, X18, ⟨Lc18, hQ18, l18, y18, z18⟩, st18⟩ := Jvm.LawKit.callS X2 hx (y := ym37) hown (mw hZ hw 180 rfl) (mw hZ hw 181 rfl) (mw hZ hw 108 rfl) (mw hZ hw 182 rfl) (by decide) (backOf (W := 0) (rm37 l Z a0 hw b3 (f 0) 0 2 (fun _ => (0 : Int32)) cs sv dg T2.heap n0 Z11 R8 R5 (by omega) (by omega) hS F10) hZ (hw _ (wi 182 rfl)) (hw _ (wi 108 rfl)) (by decide) (by decide)) (g := (mkF m 20 #[sR a1, sI (0 : Int32), sI (2 : Int32), sR b3, sI (0 : Int32)] [(.int (f 0)), (.int (0 : Int32)), (.ref b3)])) rfl (by rw [hml]; rfl) (argsL := [(.ref b3), (.int (0 : Int32)), (.int (f 0))]) (rest := []) (lenOf pd_9 rfl) rfl (Nat.le_refl _) (dt34 hby 13 rfl :) (fun _ _ => ⟨rfl, rfl, (by decide : 1 + 0 ≤ _), (by decide : 72 + 0 ≤ _)⟩)
 dsimp only [Pt.U, Pt.locs, Pt.cells, Pt.slots] at X18 l18 y18 z18 st18 hQ18
 subst l18 y18 z18
 obtain ⟨rfl, N18q, R19, R20⟩ := hQ18
 have N18 := Fr.app N2 N18q
 have F21 : own_Af Z T18.heap a1 .char (Int32.ofNat 2) f := F9.keep R19 (ninS ne13 nin0)
 have F22 : Old Z n0 T18.heap := F10.keep R19 (allS R5 all0)
 have F23 : eA Z T18.heap b3 := R7.keep R19
 have Z24 : n0 ≤ T18.heap.size := Nat.le_trans Z11 R19.1
 have K25 : Keep h0 T18.heap [] := K12.trans R19 (allS (Or.inr sz_b3) all0)
 obtain ⟨co26, Ao26, So26, Mo26, Bo26, Go26⟩ := F21.op
 have ib27 : ¬ ((1 : Int32) < 0 ∨ co26.slots.size ≤ ((1 : Int32)).toNatClampNeg) := inb_of So26 ⟨by decide, by decide⟩
 obtain ⟨_, _, ⟨T30, L30, k30, n30⟩, -, X30, ⟨Lc30, hQ30, l30, y30, z30⟩, st30⟩ := Jvm.LawKit.callS X18 hx (y := ym37) hown (mw hZ hw 180 rfl) (mw hZ hw 181 rfl) (mw hZ hw 108 rfl) (mw hZ hw 182 rfl) (by decide) (backOf (W := 0) (rm37 l Z a0 hw b3 (f 1) 1 2 (own_put (fun _ => (0 : Int32)) 0 (f 0)) cs sv dg T18.heap n0 Z24 R20 R5 (by omega) (by omega) hS F22) hZ (hw _ (wi 182 rfl)) (hw _ (wi 108 rfl)) (by decide) (by decide)) (g := (mkF m 20 #[sR a1, sI (1 : Int32), sI (2 : Int32), sR b3, sI (1 : Int32)] [(.int (f 1)), (.int (1 : Int32)), (.ref b3)])) rfl (by rw [hml]; rfl) (argsL := [(.ref b3), (.int (1 : Int32)), (.int (f 1))]) (rest := []) (lenOf pd_9 rfl) rfl (Nat.le_refl _) (dt34 hby 13 rfl :) (fun _ _ => ⟨rfl, rfl, (by decide : 1 + 0 ≤ _), (by decide : 72 + 0 ≤ _)⟩)
 dsimp only [Pt.U, Pt.locs, Pt.cells, Pt.slots] at X30 l30 y30 z30 st30 hQ30
 subst l30 y30 z30
 obtain ⟨rfl, N30q, R31, R32⟩ := hQ30
 have N30 := Fr.app N18 N30q
 have F35 : eA Z T30.heap b3 := F23.keep R31
 have K37 : Keep h0 T30.heap [] := K25.trans R31 (allS (Or.inr sz_b3) all0)
 refine own_fin X30 hlk (v := some (.ref b3)) (own_nv hR) (by decide) (by decide) ?_ (fun fs hrt => pre0 _ ?_)
 ·
  show Q34_2 Z a1 f cs sv dg h0 n0 _ T30.heap _
  exact ⟨b3, (own_put (own_put (fun _ => (0 : Int32)) 0 (f 0)) 1 (f 1)), rfl, N30, K37, R5, sz_b3, F35, R32, by simp [own_put]⟩
 refine qiN X0 hx (dt34 hby 0 rfl :) rfl ?_
 refine st2 _ ?_
 refine qtN X2 hx (l' := #[sR a1, sI (0 : Int32), sI (2 : Int32), sR b3, .unset]) (dt34 hby 2 rfl :) rfl rfl ?_
 refine qc X2 hx (0 : Int32) (dt34 hby 3 rfl :) rfl ?_
 refine qs X2 hx (l' := #[sR a1, sI (0 : Int32), sI (2 : Int32), sR b3, sI (0 : Int32)]) (dt34 hby 4 rfl :) rfl ?_
 refine qi X2 hx (dt34 hby 5 rfl :) rfl ?_
 refine qiN X2 hx (dt34 hby 6 rfl :) rfl ?_
 refine qmN X2 hx (dt34 hby 7 rfl :) (tlt (by decide : (0 : Int32) < (2 : Int32))).2.1 ?_
 refine qaN X2 hx (dt34 hby 8 rfl :) rfl rfl ?_
 refine qi X2 hx (dt34 hby 9 rfl :) rfl ?_
 refine qaN X2 hx (dt34 hby 10 rfl :) rfl rfl ?_
 refine qiN X2 hx (dt34 hby 11 rfl :) rfl ?_
 refine X2.caload hx (j := (0 : Int32)) (v := (.int (f ((0 : Int32)).toNatClampNeg))) Ao14.1 (State.isArrayOf_alike hZ.alike Ao14.2.1) Ao14.2.2 ib15 (Bo14 _ (Nat.lt_of_not_le fun q => ib15 (Or.inr q))) (g := (mkF m 19 #[sR a1, sI (0 : Int32), sI (2 : Int32), sR b3, sI (0 : Int32)] [(.int (0 : Int32)), (.ref a1), (.int (0 : Int32)), (.ref b3)])) rfl rfl (dt34 hby 12 rfl :) _ ?_
 rw [show (f ((0 : Int32)).toNatClampNeg) = (f 0) from congrArg f (by decide)]
 refine st18 _ ?_
 refine XS.iinc X18.here hx rfl (dt34 hby 14 rfl :) rfl (l' := #[sR a1, sI (1 : Int32), sI (2 : Int32), sR b3, sI (0 : Int32)]) rfl ?_
 refine XS.iinc X18.here hx rfl (dt34 hby 15 rfl :) rfl (l' := #[sR a1, sI (1 : Int32), sI (2 : Int32), sR b3, sI (1 : Int32)]) rfl ?_
 refine qg X18 hx 29 8 (dt34 hby 16 rfl :) (by decide) (by decide) ?_
 refine qi X18 hx (dt34 hby 5 rfl :) rfl ?_
 refine qiN X18 hx (dt34 hby 6 rfl :) rfl ?_
 refine qmN X18 hx (dt34 hby 7 rfl :) (tlt (by decide : (1 : Int32) < (2 : Int32))).2.1 ?_
 refine qaN X18 hx (dt34 hby 8 rfl :) rfl rfl ?_
 refine qi X18 hx (dt34 hby 9 rfl :) rfl ?_
 refine qaN X18 hx (dt34 hby 10 rfl :) rfl rfl ?_
 refine qiN X18 hx (dt34 hby 11 rfl :) rfl ?_
 refine X18.caload hx (j := (1 : Int32)) (v := (.int (f ((1 : Int32)).toNatClampNeg))) Ao26.1 (State.isArrayOf_alike hZ.alike Ao26.2.1) Ao26.2.2 ib27 (Bo26 _ (Nat.lt_of_not_le fun q => ib27 (Or.inr q))) (g := (mkF m 19 #[sR a1, sI (1 : Int32), sI (2 : Int32), sR b3, sI (1 : Int32)] [(.int (1 : Int32)), (.ref a1), (.int (1 : Int32)), (.ref b3)])) rfl rfl (dt34 hby 12 rfl :) _ ?_
 rw [show (f ((1 : Int32)).toNatClampNeg) = (f 1) from congrArg f (by decide)]
 refine st30 _ ?_
 refine XS.iinc X30.here hx rfl (dt34 hby 14 rfl :) rfl (l' := #[sR a1, sI (2 : Int32), sI (2 : Int32), sR b3, sI (1 : Int32)]) rfl ?_
 refine XS.iinc X30.here hx rfl (dt34 hby 15 rfl :) rfl (l' := #[sR a1, sI (2 : Int32), sI (2 : Int32), sR b3, sI (2 : Int32)]) rfl ?_
 refine qg X30 hx 29 8 (dt34 hby 16 rfl :) (by decide) (by decide) ?_
 refine qi X30 hx (dt34 hby 5 rfl :) rfl ?_
 refine qiN X30 hx (dt34 hby 6 rfl :) rfl ?_
 refine qmY X30 hx 11 32 (dt34 hby 7 rfl :) (flt (by decide : ¬ ((2 : Int32) < (2 : Int32)))).2.1 (by decide) (by decide) ?_
 refine qaN X30 hx (dt34 hby 17 rfl :) rfl rfl ?_
 exact retOut X30 hx hR rfl (Or.inr (Or.inr (Or.inr (Or.inr ⟨rfl, rfl, rfl⟩)))) (dt34 hby 18 rfl :) hrt
def Q34_3 (Z : State) (a1 : Addr) (f : Nat → Int32) (cs : Int32) (sv : Value) (dg : Addr) (h0 : Heap) (n0 : Nat) (v : Option Value) (h : Heap) (L : List Loc) : Prop := ∃ (b : Addr) (g : Nat → Int32), v = some (.ref b) ∧ Fr n0 L ∧ Keep h0 h [] ∧ n0 ≤ b ∧ h0.size ≤ b ∧ eA Z h b ∧ own_Af Z h b .byte (Int32.ofNat (2 * 3)) g ∧ ((g (2 * 0) = own_lo (f 0) ∧ g (2 * 0 + 1) = own_hi (f 0)) ∧ (g (2 * 1) = own_lo (f 1) ∧ g (2 * 1 + 1) = own_hi (f 1)) ∧ (g (2 * 2) = own_lo (f 2) ∧ g (2 * 2 + 1) = own_hi (f 2)))
theorem rm34_3 (l : Launch) (Z : State) (a0 : Array Value) (hw : own_hw a0 Z) (a1 : Addr) (f : Nat → Int32) (cs : Int32) (sv : Value) (dg : Addr) (h0 : Heap) (n0 : Nat) (Z0 : n0 ≤ h0.size) (HB0 : own_Af Z h0 a1 .char (Int32.ofNat 3) f) (hS : (own_ST Z cs sv dg)) (HO : Old Z n0 h0) :
 own_M l ym34 [Jvm.Cond.code ym34 cm34 5 (some (.array .byte))] (⟨2, 1, 72, 24⟩ : Room) #[(.ref a1), (.int (0 : Int32)), (.int (3 : Int32))] Z h0 (Q34_3 Z a1 f cs sv dg h0 n0) := by
 refine own_go n0 (F := fun m => mkF m 0 #[sR a1, sI (0 : Int32), sI (3 : Int32), .unset, .unset] []) (plainFor_of_name pn_5) (fun m => rfl) ?_
 intro p e s m below meth c sq Pq hR hx hby hml hown hnm hZ hh hlk X0 e0 N0 pre0
 obtain ⟨_, _, ⟨T2, L2, k2, n2⟩, -, X2, ⟨Lc2, hQ2, l2, y2, z2⟩, st2⟩ := Jvm.LawKit.callS X0 hx (y := ym35) hown (mw hZ hw 173 rfl) (mw hZ hw 174 rfl) (mw hZ hw 108 rfl) (mw hZ hw 175 rfl) (by decide) (backOf (W := 0) (rm35 l Z a0 hw 3 h0 n0 Z0 (by omega)) hZ (hw _ (wi 175 rfl)) (hw _ (wi 108 rfl)) (by decide) (by decide)) (g := (mkF m 1 #[sR a1, sI (0 : Int32), sI (3 : Int32), .unset, .unset] [(.int (3 : Int32))])) rfl (by rw [hml]; rfl) (argsL := [(.int (3 : Int32))]) (rest := []) (lenOf pd_19 rfl) rfl (Nat.le_refl _) (dt34 hby 1 rfl :) (fun _ _ => ⟨rfl, e0, (by decide : 0 + 1 ≤ _), (by decide : 0 + 72 ≤ _)⟩)
 dsimp only [Pt.U, Pt.locs, Pt.cells, Pt.slots] at X2 l2 y2 z2 st2 hQ2
 subst l2 y2 z2
 obtain ⟨b3, rfl, N2q, R4, R5, R6, R7, R8⟩ := hQ2
 have N2 := Fr.app N0 N2q
 have F9 : own_Af Z T2.heap a1 .char (Int32.ofNat 3) f := HB0.keep R4 nin0
 have F10 : Old Z n0 T2.heap := HO.keep R4 all0
 have Z11 : n0 ≤ T2.heap.size := Nat.le_trans Z0 R4.1
 have K12 : Keep h0 T2.heap [] := (Keep.refl h0 []).trans R4 all0
 have ne13 : a1 ≠ b3 := Nat.ne_of_lt (Nat.lt_of_lt_of_le HB0.lt R6)
 have sz_b3 : h0.size ≤ b3 := Nat.le_trans (Keep.refl h0 []).1 R6
 obtain ⟨co14, Ao14, So14, Mo14, Bo14, Go14⟩ := F9.op
 have ib15 : ¬ ((0 : Int32) < 0 ∨ co14.slots.size ≤ ((0 : Int32)).toNatClampNeg) := inb_of So14 ⟨by decide, by decide⟩
 obtain ⟨_, _, ⟨T18, L18, k18, n18⟩, -, X18, ⟨Lc18, hQ18, l18, y18, z18⟩, st18⟩ := Jvm.LawKit.callS X2 hx (y := ym37) hown (mw hZ hw 180 rfl) (mw hZ hw 181 rfl) (mw hZ hw 108 rfl) (mw hZ hw 182 rfl) (by decide) (backOf (W := 0) (rm37 l Z a0 hw b3 (f 0) 0 3 (fun _ => (0 : Int32)) cs sv dg T2.heap n0 Z11 R8 R5 (by omega) (by omega) hS F10) hZ (hw _ (wi 182 rfl)) (hw _ (wi 108 rfl)) (by decide) (by decide)) (g := (mkF m 20 #[sR a1, sI (0 : Int32), sI (3 : Int32), sR b3, sI (0 : Int32)] [(.int (f 0)), (.int (0 : Int32)), (.ref b3)])) rfl (by rw [hml]; rfl) (argsL := [(.ref b3), (.int (0 : Int32)), (.int (f 0))]) (rest := []) (lenOf pd_9 rfl) rfl (Nat.le_refl _) (dt34 hby 13 rfl :) (fun _ _ => ⟨rfl, rfl, (by decide : 1 + 0 ≤ _), (by decide : 72 + 0 ≤ _)⟩)
 dsimp only [Pt.U, Pt.locs, Pt.cells, Pt.slots] at X18 l18 y18 z18 st18 hQ18
 subst l18 y18 z18
 obtain ⟨rfl, N18q, R19, R20⟩ := hQ18
 have N18 := Fr.app N2 N18q
 have F21 : own_Af Z T18.heap a1 .char (Int32.ofNat 3) f := F9.keep R19 (ninS ne13 nin0)
 have F22 : Old Z n0 T18.heap := F10.keep R19 (allS R5 all0)
 have F23 : eA Z T18.heap b3 := R7.keep R19
 have Z24 : n0 ≤ T18.heap.size := Nat.le_trans Z11 R19.1
 have K25 : Keep h0 T18.heap [] := K12.trans R19 (allS (Or.inr sz_b3) all0)
 obtain ⟨co26, Ao26, So26, Mo26, Bo26, Go26⟩ := F21.op
 have ib27 : ¬ ((1 : Int32) < 0 ∨ co26.slots.size ≤ ((1 : Int32)).toNatClampNeg) := inb_of So26 ⟨by decide, by decide⟩
 obtain ⟨_, _, ⟨T30, L30, k30, n30⟩, -, X30, ⟨Lc30, hQ30, l30, y30, z30⟩, st30⟩ := Jvm.LawKit.callS X18 hx (y := ym37) hown (mw hZ hw 180 rfl) (mw hZ hw 181 rfl) (mw hZ hw 108 rfl) (mw hZ hw 182 rfl) (by decide) (backOf (W := 0) (rm37 l Z a0 hw b3 (f 1) 1 3 (own_put (fun _ => (0 : Int32)) 0 (f 0)) cs sv dg T18.heap n0 Z24 R20 R5 (by omega) (by omega) hS F22) hZ (hw _ (wi 182 rfl)) (hw _ (wi 108 rfl)) (by decide) (by decide)) (g := (mkF m 20 #[sR a1, sI (1 : Int32), sI (3 : Int32), sR b3, sI (1 : Int32)] [(.int (f 1)), (.int (1 : Int32)), (.ref b3)])) rfl (by rw [hml]; rfl) (argsL := [(.ref b3), (.int (1 : Int32)), (.int (f 1))]) (rest := []) (lenOf pd_9 rfl) rfl (Nat.le_refl _) (dt34 hby 13 rfl :) (fun _ _ => ⟨rfl, rfl, (by decide : 1 + 0 ≤ _), (by decide : 72 + 0 ≤ _)⟩)
 dsimp only [Pt.U, Pt.locs, Pt.cells, Pt.slots] at X30 l30 y30 z30 st30 hQ30
 subst l30 y30 z30
 obtain ⟨rfl, N30q, R31, R32⟩ := hQ30
 have N30 := Fr.app N18 N30q
 have F33 : own_Af Z T30.heap a1 .char (Int32.ofNat 3) f := F21.keep R31 (ninS ne13 nin0)
 have F34 : Old Z n0 T30.heap := F22.keep R31 (allS R5 all0)
 have F35 : eA Z T30.heap b3 := F23.keep R31
 have Z36 : n0 ≤ T30.heap.size := Nat.le_trans Z24 R31.1
 have K37 : Keep h0 T30.heap [] := K25.trans R31 (allS (Or.inr sz_b3) all0)
 obtain ⟨co38, Ao38, So38, Mo38, Bo38, Go38⟩ := F33.op
 have ib39 : ¬ ((2 : Int32) < 0 ∨ co38.slots.size ≤ ((2 : Int32)).toNatClampNeg) := inb_of So38 ⟨by decide, by decide⟩
 obtain ⟨_, _, ⟨T42, L42, k42, n42⟩, -, X42, ⟨Lc42, hQ42, l42, y42, z42⟩, st42⟩ := Jvm.LawKit.callS X30 hx (y := ym37) hown (mw hZ hw 180 rfl) (mw hZ hw 181 rfl) (mw hZ hw 108 rfl) (mw hZ hw 182 rfl) (by decide) (backOf (W := 0) (rm37 l Z a0 hw b3 (f 2) 2 3 (own_put (own_put (fun _ => (0 : Int32)) 0 (f 0)) 1 (f 1)) cs sv dg T30.heap n0 Z36 R32 R5 (by omega) (by omega) hS F34) hZ (hw _ (wi 182 rfl)) (hw _ (wi 108 rfl)) (by decide) (by decide)) (g := (mkF m 20 #[sR a1, sI (2 : Int32), sI (3 : Int32), sR b3, sI (2 : Int32)] [(.int (f 2)), (.int (2 : Int32)), (.ref b3)])) rfl (by rw [hml]; rfl) (argsL := [(.ref b3), (.int (2 : Int32)), (.int (f 2))]) (rest := []) (lenOf pd_9 rfl) rfl (Nat.le_refl _) (dt34 hby 13 rfl :) (fun _ _ => ⟨rfl, rfl, (by decide : 1 + 0 ≤ _), (by decide : 72 + 0 ≤ _)⟩)
 dsimp only [Pt.U, Pt.locs, Pt.cells, Pt.slots] at X42 l42 y42 z42 st42 hQ42
 subst l42 y42 z42
 obtain ⟨rfl, N42q, R43, R44⟩ := hQ42
 have N42 := Fr.app N30 N42q
 have F47 : eA Z T42.heap b3 := F35.keep R43
 have K49 : Keep h0 T42.heap [] := K37.trans R43 (allS (Or.inr sz_b3) all0)
 refine own_fin X42 hlk (v := some (.ref b3)) (own_nv hR) (by decide) (by decide) ?_ (fun fs hrt => pre0 _ ?_)
 ·
  show Q34_3 Z a1 f cs sv dg h0 n0 _ T42.heap _
  exact ⟨b3, (own_put (own_put (own_put (fun _ => (0 : Int32)) 0 (f 0)) 1 (f 1)) 2 (f 2)), rfl, N42, K49, R5, sz_b3, F47, R44, by simp [own_put]⟩
 refine qiN X0 hx (dt34 hby 0 rfl :) rfl ?_
 refine st2 _ ?_
 refine qtN X2 hx (l' := #[sR a1, sI (0 : Int32), sI (3 : Int32), sR b3, .unset]) (dt34 hby 2 rfl :) rfl rfl ?_
 refine qc X2 hx (0 : Int32) (dt34 hby 3 rfl :) rfl ?_
 refine qs X2 hx (l' := #[sR a1, sI (0 : Int32), sI (3 : Int32), sR b3, sI (0 : Int32)]) (dt34 hby 4 rfl :) rfl ?_
 refine qi X2 hx (dt34 hby 5 rfl :) rfl ?_
 refine qiN X2 hx (dt34 hby 6 rfl :) rfl ?_
 refine qmN X2 hx (dt34 hby 7 rfl :) (tlt (by decide : (0 : Int32) < (3 : Int32))).2.1 ?_
 refine qaN X2 hx (dt34 hby 8 rfl :) rfl rfl ?_
 refine qi X2 hx (dt34 hby 9 rfl :) rfl ?_
 refine qaN X2 hx (dt34 hby 10 rfl :) rfl rfl ?_
 refine qiN X2 hx (dt34 hby 11 rfl :) rfl ?_
 refine X2.caload hx (j := (0 : Int32)) (v := (.int (f ((0 : Int32)).toNatClampNeg))) Ao14.1 (State.isArrayOf_alike hZ.alike Ao14.2.1) Ao14.2.2 ib15 (Bo14 _ (Nat.lt_of_not_le fun q => ib15 (Or.inr q))) (g := (mkF m 19 #[sR a1, sI (0 : Int32), sI (3 : Int32), sR b3, sI (0 : Int32)] [(.int (0 : Int32)), (.ref a1), (.int (0 : Int32)), (.ref b3)])) rfl rfl (dt34 hby 12 rfl :) _ ?_
 rw [show (f ((0 : Int32)).toNatClampNeg) = (f 0) from congrArg f (by decide)]
 refine st18 _ ?_
 refine XS.iinc X18.here hx rfl (dt34 hby 14 rfl :) rfl (l' := #[sR a1, sI (1 : Int32), sI (3 : Int32), sR b3, sI (0 : Int32)]) rfl ?_
 refine XS.iinc X18.here hx rfl (dt34 hby 15 rfl :) rfl (l' := #[sR a1, sI (1 : Int32), sI (3 : Int32), sR b3, sI (1 : Int32)]) rfl ?_
 refine qg X18 hx 29 8 (dt34 hby 16 rfl :) (by decide) (by decide) ?_
 refine qi X18 hx (dt34 hby 5 rfl :) rfl ?_
 refine qiN X18 hx (dt34 hby 6 rfl :) rfl ?_
 refine qmN X18 hx (dt34 hby 7 rfl :) (tlt (by decide : (1 : Int32) < (3 : Int32))).2.1 ?_
 refine qaN X18 hx (dt34 hby 8 rfl :) rfl rfl ?_
 refine qi X18 hx (dt34 hby 9 rfl :) rfl ?_
 refine qaN X18 hx (dt34 hby 10 rfl :) rfl rfl ?_
 refine qiN X18 hx (dt34 hby 11 rfl :) rfl ?_
 refine X18.caload hx (j := (1 : Int32)) (v := (.int (f ((1 : Int32)).toNatClampNeg))) Ao26.1 (State.isArrayOf_alike hZ.alike Ao26.2.1) Ao26.2.2 ib27 (Bo26 _ (Nat.lt_of_not_le fun q => ib27 (Or.inr q))) (g := (mkF m 19 #[sR a1, sI (1 : Int32), sI (3 : Int32), sR b3, sI (1 : Int32)] [(.int (1 : Int32)), (.ref a1), (.int (1 : Int32)), (.ref b3)])) rfl rfl (dt34 hby 12 rfl :) _ ?_
 rw [show (f ((1 : Int32)).toNatClampNeg) = (f 1) from congrArg f (by decide)]
 refine st30 _ ?_
 refine XS.iinc X30.here hx rfl (dt34 hby 14 rfl :) rfl (l' := #[sR a1, sI (2 : Int32), sI (3 : Int32), sR b3, sI (1 : Int32)]) rfl ?_
 refine XS.iinc X30.here hx rfl (dt34 hby 15 rfl :) rfl (l' := #[sR a1, sI (2 : Int32), sI (3 : Int32), sR b3, sI (2 : Int32)]) rfl ?_
 refine qg X30 hx 29 8 (dt34 hby 16 rfl :) (by decide) (by decide) ?_
 refine qi X30 hx (dt34 hby 5 rfl :) rfl ?_
 refine qiN X30 hx (dt34 hby 6 rfl :) rfl ?_
 refine qmN X30 hx (dt34 hby 7 rfl :) (tlt (by decide : (2 : Int32) < (3 : Int32))).2.1 ?_
 refine qaN X30 hx (dt34 hby 8 rfl :) rfl rfl ?_
 refine qi X30 hx (dt34 hby 9 rfl :) rfl ?_
 refine qaN X30 hx (dt34 hby 10 rfl :) rfl rfl ?_
 refine qiN X30 hx (dt34 hby 11 rfl :) rfl ?_
 refine X30.caload hx (j := (2 : Int32)) (v := (.int (f ((2 : Int32)).toNatClampNeg))) Ao38.1 (State.isArrayOf_alike hZ.alike Ao38.2.1) Ao38.2.2 ib39 (Bo38 _ (Nat.lt_of_not_le fun q => ib39 (Or.inr q))) (g := (mkF m 19 #[sR a1, sI (2 : Int32), sI (3 : Int32), sR b3, sI (2 : Int32)] [(.int (2 : Int32)), (.ref a1), (.int (2 : Int32)), (.ref b3)])) rfl rfl (dt34 hby 12 rfl :) _ ?_
 rw [show (f ((2 : Int32)).toNatClampNeg) = (f 2) from congrArg f (by decide)]
 refine st42 _ ?_
 refine XS.iinc X42.here hx rfl (dt34 hby 14 rfl :) rfl (l' := #[sR a1, sI (3 : Int32), sI (3 : Int32), sR b3, sI (2 : Int32)]) rfl ?_
 refine XS.iinc X42.here hx rfl (dt34 hby 15 rfl :) rfl (l' := #[sR a1, sI (3 : Int32), sI (3 : Int32), sR b3, sI (3 : Int32)]) rfl ?_
 refine qg X42 hx 29 8 (dt34 hby 16 rfl :) (by decide) (by decide) ?_
 refine qi X42 hx (dt34 hby 5 rfl :) rfl ?_
 refine qiN X42 hx (dt34 hby 6 rfl :) rfl ?_
 refine qmY X42 hx 11 32 (dt34 hby 7 rfl :) (flt (by decide : ¬ ((3 : Int32) < (3 : Int32)))).2.1 (by decide) (by decide) ?_
 refine qaN X42 hx (dt34 hby 17 rfl :) rfl rfl ?_
 exact retOut X42 hx hR rfl (Or.inr (Or.inr (Or.inr (Or.inr ⟨rfl, rfl, rfl⟩)))) (dt34 hby 18 rfl :) hrt
theorem own_lt255 {c : Int32} (h : 255 < c.toInt) : (255 : Int32) < c := by
  rw [Int32.lt_iff_toInt_lt]
  exact h
theorem pd_20 : parseMethodDescriptor "([CI[BII)I" = some ⟨[(.array .char), .int, (.array .byte), .int, .int], some .int⟩ := by decide +kernel
theorem pd_21 : parseMethodDescriptor "([CII)[B" = some ⟨[(.array .char), .int, .int], some (.array .byte)⟩ := by decide +kernel
def Q18_2 (Z : State) (a1 : Addr) (f : Nat → Int32) (cs : Int32) (sv : Value) (dg : Addr) (h0 : Heap) (n0 : Nat) (v : Option Value) (h : Heap) (L : List Loc) : Prop := ∃ (b : Addr) (g : Nat → Int32) (LL : Nat), v = some (.ref b) ∧ Fr n0 L ∧ Keep h0 h [] ∧ n0 ≤ b ∧ h0.size ≤ b ∧ eA Z h b ∧ own_Af Z h b .byte (Int32.ofNat LL) g ∧ ((LL = 2 ∧ ((f 0).toInt ≤ 255 ∧ g 0 = own_lo (f 0)) ∧ ((f 1).toInt ≤ 255 ∧ g 1 = own_lo (f 1))) ∨ (LL = 2 * 2 ∧ (g (2 * 0) = own_lo (f 0) ∧ g (2 * 0 + 1) = own_hi (f 0)) ∧ (g (2 * 1) = own_lo (f 1) ∧ g (2 * 1 + 1) = own_hi (f 1))))
theorem rm18_2 (l : Launch) (Z : State) (a0 : Array Value) (hw : own_hw a0 Z) (a1 : Addr) (f : Nat → Int32) (cs : Int32) (sv : Value) (dg : Addr) (h0 : Heap) (n0 : Nat) (Z0 : n0 ≤ h0.size) (HB0 : own_Af Z h0 a1 .char (Int32.ofNat 2) f) (hc0 : (own_ch (f 0))) (hc1 : (own_ch (f 1))) (hS : (own_ST Z cs sv dg)) (HO : Old Z n0 h0) :
 own_M l ym18 [Jvm.Cond.code ym18 cm18 6 (some (.array .byte))] (⟨3, 2, 74, 40⟩ : Room) #[(.ref a1), (.int (0 : Int32)), (.int (2 : Int32))] Z h0 (Q18_2 Z a1 f cs sv dg h0 n0) := by
 refine own_go n0 (F := fun m => mkF m 0 #[sR a1, sI (0 : Int32), sI (2 : Int32), .unset, .unset, .unset] []) (plainFor_of_name pn_5) (fun m => rfl) ?_
 intro p e s m below meth c sq Pq hR hx hby hml hown hnm hZ hh hlk X0 e0 N0 pre0
 obtain ⟨T1, h1, k1, X1, e1, E1, A1, Y1, st1⟩ := newPE X0 hx hZ (hw _ (wi 7 rfl)) e0 (g := (mkF m 1 #[sR a1, sI (0 : Int32), sI (2 : Int32), .unset, .unset, .unset] [(.int (2 : Int32))])) rfl (dt18 hby 1 rfl :) rfl (by decide) (cap := 2) (by decide) (by decide) (by decide) (by decide) (ad := "[B") (by decide)
 obtain ⟨b1, g1⟩ : ∃ z, z = h0.size := ⟨_, rfl⟩
 rw [← g1] at A1 st1 Y1
 have ne2 : a1 ≠ b1 := Nat.ne_of_lt (Nat.lt_of_lt_of_le HB0.lt (Nat.le_of_eq g1.symm))
 have g_b1 : n0 ≤ b1 := Nat.le_trans Z0 (Nat.le_of_eq g1.symm)
 have sz_b1 : h0.size ≤ b1 := Nat.le_trans (Keep.refl h0 []).1 (Nat.le_of_eq g1.symm)
 have F3 : own_Af Z h1 a1 .char (Int32.ofNat 2) f := HB0.ext E1
 have F4 : Old Z n0 h1 := HO.ext E1
 have Z5 : n0 ≤ h1.size := Nat.le_trans Z0 E1.1
 have K6 : Keep h0 h1 [] := (Keep.refl h0 []).ext E1
 have V1 : own_Af Z h1 b1 .byte (2 : Int32) (fun _ => 0) := own_Af.new A1 (by decide) rfl
 obtain ⟨_, _, ⟨T7, L7, k7, n7⟩, -, X7, ⟨Lc7, hQ7, l7, y7, z7⟩, st7⟩ := Jvm.LawKit.callS X1 hx (y := ym19) hown (mw hZ hw 110 rfl) (mw hZ hw 111 rfl) (mw hZ hw 108 rfl) (mw hZ hw 112 rfl) (by decide) (backOf (W := 0) (rm19_2 l Z a0 hw a1 b1 f h1 n0 Z5 F3 V1 g_b1 ne2) hZ (hw _ (wi 112 rfl)) (hw _ (wi 108 rfl)) (by decide) (by decide)) (g := (mkF m 9 #[sR a1, sI (0 : Int32), sI (2 : Int32), sR b1, .unset, .unset] [(.int (2 : Int32)), (.int (0 : Int32)), (.ref b1), (.int (0 : Int32)), (.ref a1)])) rfl (by rw [hml]; rfl) (argsL := [(.ref a1), (.int (0 : Int32)), (.ref b1), (.int (0 : Int32)), (.int (2 : Int32))]) (rest := []) (lenOf pd_20 rfl) rfl (Nat.le_refl _) (dt18 hby 8 rfl :) (fun _ _ => ⟨rfl, e1, (by decide : 1 + 0 ≤ _), (by decide : 2 + 0 ≤ _)⟩)
 dsimp only [Pt.U, Pt.locs, Pt.cells, Pt.slots] at X7 l7 y7 z7 st7 hQ7
 subst l7 y7 z7
 obtain ⟨r8, g9, rfl, N7q, R10, R11, R12⟩ := hQ7
 have N7 := Fr.app N0 N7q
 have F13 : own_Af Z T7.heap a1 .char (Int32.ofNat 2) f := F3.keep R10 (ninS ne2 nin0)
 have F14 : Old Z n0 T7.heap := F4.keep R10 (allS g_b1 all0)
 have F15 : eA Z T7.heap b1 := Y1.keep R10
 have Z16 : n0 ≤ T7.heap.size := Nat.le_trans Z5 R10.1
 have K17 : Keep h0 T7.heap [] := K6.trans R10 (allS (Or.inr sz_b1) all0)
 have P18 : ∀ t, Steps p.tables e below (T7.setTop (mkF m 12 #[sR a1, sI (0 : Int32), sI (2 : Int32), sR b1, .unset, .unset] [(.int r8)])) t → Pq t := fun t k => pre0 t (by
  refine qiN X0 hx (dt18 hby 0 rfl :) rfl ?_
  refine st1 _ ?_
  refine qtN X1 hx (l' := #[sR a1, sI (0 : Int32), sI (2 : Int32), sR b1, .unset, .unset]) (dt18 hby 2 rfl :) rfl rfl ?_
  refine qaN X1 hx (dt18 hby 3 rfl :) rfl rfl ?_
  refine qiN X1 hx (dt18 hby 4 rfl :) rfl ?_
  refine qaN X1 hx (dt18 hby 5 rfl :) rfl rfl ?_
  refine qc X1 hx (0 : Int32) (dt18 hby 6 rfl :) rfl ?_
  refine qiN X1 hx (dt18 hby 7 rfl :) rfl ?_
  refine st7 _ ?_
  exact k)
 rcases R12 with ⟨rfl, hv⟩ | ⟨rfl, hv⟩ | ⟨rfl, hv⟩
 ·
  refine own_fin X7 hlk (v := some (.ref b1)) (own_nv hR) (by decide) (by decide) ?_ (fun fs hrt => P18 _ ?_)
  ·
   show Q18_2 Z a1 f cs sv dg h0 n0 _ T7.heap _
   exact ⟨b1, g9, 2, rfl, N7, K17, g_b1, sz_b1, F15, R11, Or.inl ⟨rfl, hv⟩⟩
  refine qs X7 hx (l' := #[sR a1, sI (0 : Int32), sI (2 : Int32), sR b1, sI (2 : Int32), .unset]) (dt18 hby 9 rfl :) rfl ?_
  refine qi X7 hx (dt18 hby 10 rfl :) rfl ?_
  refine qiN X7 hx (dt18 hby 11 rfl :) rfl ?_
  refine qmY X7 hx 17 57 (dt18 hby 12 rfl :) (teq (by decide : (2 : Int32) = (2 : Int32))).1 (by decide) (by decide) ?_
  refine qaN X7 hx (dt18 hby 13 rfl :) rfl rfl ?_
  exact retOut X7 hx hR rfl (Or.inr (Or.inr (Or.inr (Or.inr ⟨rfl, rfl, rfl⟩)))) (dt18 hby 14 rfl :) hrt
 ·
  obtain ⟨_, _, ⟨T19, L19, k19, n19⟩, -, X19, ⟨Lc19, hQ19, l19, y19, z19⟩, st19⟩ := Jvm.LawKit.callS X7 hx (y := ym34) hown (mw hZ hw 170 rfl) (mw hZ hw 171 rfl) (mw hZ hw 108 rfl) (mw hZ hw 172 rfl) (by decide) (backOf (W := 0) (rm34_2 l Z a0 hw a1 f cs sv dg T7.heap n0 Z16 F13 hS F14) hZ (hw _ (wi 172 rfl)) (hw _ (wi 108 rfl)) (by decide) (by decide)) (g := (mkF m 23 #[sR a1, sI (0 : Int32), sI (2 : Int32), sR b1, sI (0 : Int32), .unset] [(.int (2 : Int32)), (.int (0 : Int32)), (.ref a1)])) rfl (by rw [hml]; rfl) (argsL := [(.ref a1), (.int (0 : Int32)), (.int (2 : Int32))]) (rest := []) (lenOf pd_21 rfl) rfl (Nat.le_refl _) (dt18 hby 18 rfl :) (fun _ _ => ⟨rfl, rfl, (by decide : 1 + 1 ≤ _), (by decide : 2 + 72 ≤ _)⟩)
  dsimp only [Pt.U, Pt.locs, Pt.cells, Pt.slots] at X19 l19 y19 z19 st19 hQ19
  subst l19 y19 z19
  obtain ⟨b20, g21, rfl, N19q, R22, R23, R24, R25, R26, R27⟩ := hQ19
  have N19 := Fr.app N7 N19q
  have F29 : Old Z n0 T19.heap := F14.keep R22 all0
  have Z32 : n0 ≤ T19.heap.size := Nat.le_trans Z16 R22.1
  have K33 : Keep h0 T19.heap [] := K17.trans R22 all0
  have sz_b20 : h0.size ≤ b20 := Nat.le_trans K17.1 R24
  have hu := R27
  obtain ⟨⟨u0a, u0b⟩, ⟨u1a, u1b⟩⟩ := hu
  obtain ⟨_, _, ⟨T41, L41, k41, n41⟩, -, X41, ⟨Lc41, hQ41, l41, y41, z41⟩, st41⟩ := Jvm.LawKit.callS X19 hx (y := ym38) hown (mw hZ hw 186 rfl) (mw hZ hw 187 rfl) (mw hZ hw 108 rfl) (mw hZ hw 188 rfl) (by decide) (backOf (W := 0) (rm38 l Z a0 hw b20 0 2 g21 (f 0) cs sv dg T19.heap n0 Z32 R26 (by omega) (by omega) hc0 u0a u0b hS F29) hZ (hw _ (wi 188 rfl)) (hw _ (wi 108 rfl)) (by decide) (by decide)) (g := (mkF m 32 #[sR a1, sI (0 : Int32), sI (2 : Int32), sR b1, sI (0 : Int32), sR b20] [(.int (0 : Int32)), (.ref b20)])) rfl (by rw [hml]; rfl) (argsL := [(.ref b20), (.int (0 : Int32))]) (rest := []) (lenOf pd_8 rfl) rfl (Nat.le_refl _) (dt18 hby 22 rfl :) (fun _ _ => ⟨rfl, rfl, (by decide : 2 + 0 ≤ _), (by decide : 74 + 0 ≤ _)⟩)
  dsimp only [Pt.U, Pt.locs, Pt.cells, Pt.slots] at X41 l41 y41 z41 st41 hQ41
  subst l41 y41 z41
  obtain ⟨rfl, N41q, R42⟩ := hQ41
  have N41 := Fr.app N19 N41q
  have hc38_43 : (255 : Int32) < (f 0) := own_lt255 hv
  refine own_fin X41 hlk (v := some (.ref b20)) (own_nv hR) (by decide) (by decide) ?_ (fun fs hrt => P18 _ ?_)
  ·
   show Q18_2 Z a1 f cs sv dg h0 n0 _ T41.heap _
   rw [R42]
   exact ⟨b20, g21, (2 * 2), rfl, N41, K33, R23, sz_b20, R25, R26, Or.inr ⟨rfl, R27⟩⟩
  refine qs X7 hx (l' := #[sR a1, sI (0 : Int32), sI (2 : Int32), sR b1, sI (0 : Int32), .unset]) (dt18 hby 9 rfl :) rfl ?_
  refine qi X7 hx (dt18 hby 10 rfl :) rfl ?_
  refine qiN X7 hx (dt18 hby 11 rfl :) rfl ?_
  refine qmN X7 hx (dt18 hby 12 rfl :) (feq (by decide : ¬ ((0 : Int32) = (2 : Int32)))).1 ?_
  refine qaN X7 hx (dt18 hby 15 rfl :) rfl rfl ?_
  refine qiN X7 hx (dt18 hby 16 rfl :) rfl ?_
  refine qiN X7 hx (dt18 hby 17 rfl :) rfl ?_
  refine st19 _ ?_
  refine qt X19 hx (l' := #[sR a1, sI (0 : Int32), sI (2 : Int32), sR b1, sI (0 : Int32), sR b20]) (dt18 hby 19 rfl :) rfl rfl ?_
  refine qa X19 hx (dt18 hby 20 rfl :) rfl rfl ?_
  refine qi X19 hx (dt18 hby 21 rfl :) rfl ?_
  refine st41 _ ?_
  refine qp X41 hx (255 : Int32) (dt18 hby 23 rfl :) rfl ?_
  refine qmY X41 hx 38 54 (dt18 hby 24 rfl :) (tlt hc38_43).2.2.1 (by decide) (by decide) ?_
  refine qa X41 hx (dt18 hby 25 rfl :) rfl rfl ?_
  exact retOut X41 hx hR rfl (Or.inr (Or.inr (Or.inr (Or.inr ⟨rfl, rfl, rfl⟩)))) (dt18 hby 26 rfl :) hrt
 ·
  obtain ⟨_, _, ⟨T44, L44, k44, n44⟩, -, X44, ⟨Lc44, hQ44, l44, y44, z44⟩, st44⟩ := Jvm.LawKit.callS X7 hx (y := ym34) hown (mw hZ hw 170 rfl) (mw hZ hw 171 rfl) (mw hZ hw 108 rfl) (mw hZ hw 172 rfl) (by decide) (backOf (W := 0) (rm34_2 l Z a0 hw a1 f cs sv dg T7.heap n0 Z16 F13 hS F14) hZ (hw _ (wi 172 rfl)) (hw _ (wi 108 rfl)) (by decide) (by decide)) (g := (mkF m 23 #[sR a1, sI (0 : Int32), sI (2 : Int32), sR b1, sI (1 : Int32), .unset] [(.int (2 : Int32)), (.int (0 : Int32)), (.ref a1)])) rfl (by rw [hml]; rfl) (argsL := [(.ref a1), (.int (0 : Int32)), (.int (2 : Int32))]) (rest := []) (lenOf pd_21 rfl) rfl (Nat.le_refl _) (dt18 hby 18 rfl :) (fun _ _ => ⟨rfl, rfl, (by decide : 1 + 1 ≤ _), (by decide : 2 + 72 ≤ _)⟩)
  dsimp only [Pt.U, Pt.locs, Pt.cells, Pt.slots] at X44 l44 y44 z44 st44 hQ44
  subst l44 y44 z44
  obtain ⟨b45, g46, rfl, N44q, R47, R48, R49, R50, R51, R52⟩ := hQ44
  have N44 := Fr.app N7 N44q
  have F54 : Old Z n0 T44.heap := F14.keep R47 all0
  have Z57 : n0 ≤ T44.heap.size := Nat.le_trans Z16 R47.1
  have K58 : Keep h0 T44.heap [] := K17.trans R47 all0
  have sz_b45 : h0.size ≤ b45 := Nat.le_trans K17.1 R49
  have hu := R52
  obtain ⟨⟨u0a, u0b⟩, ⟨u1a, u1b⟩⟩ := hu
  obtain ⟨_, _, ⟨T66, L66, k66, n66⟩, -, X66, ⟨Lc66, hQ66, l66, y66, z66⟩, st66⟩ := Jvm.LawKit.callS X44 hx (y := ym38) hown (mw hZ hw 186 rfl) (mw hZ hw 187 rfl) (mw hZ hw 108 rfl) (mw hZ hw 188 rfl) (by decide) (backOf (W := 0) (rm38 l Z a0 hw b45 1 2 g46 (f 1) cs sv dg T44.heap n0 Z57 R51 (by omega) (by omega) hc1 u1a u1b hS F54) hZ (hw _ (wi 188 rfl)) (hw _ (wi 108 rfl)) (by decide) (by decide)) (g := (mkF m 32 #[sR a1, sI (0 : Int32), sI (2 : Int32), sR b1, sI (1 : Int32), sR b45] [(.int (1 : Int32)), (.ref b45)])) rfl (by rw [hml]; rfl) (argsL := [(.ref b45), (.int (1 : Int32))]) (rest := []) (lenOf pd_8 rfl) rfl (Nat.le_refl _) (dt18 hby 22 rfl :) (fun _ _ => ⟨rfl, rfl, (by decide : 2 + 0 ≤ _), (by decide : 74 + 0 ≤ _)⟩)
  dsimp only [Pt.U, Pt.locs, Pt.cells, Pt.slots] at X66 l66 y66 z66 st66 hQ66
  subst l66 y66 z66
  obtain ⟨rfl, N66q, R67⟩ := hQ66
  have N66 := Fr.app N44 N66q
  have hc38_68 : (255 : Int32) < (f 1) := own_lt255 hv
  refine own_fin X66 hlk (v := some (.ref b45)) (own_nv hR) (by decide) (by decide) ?_ (fun fs hrt => P18 _ ?_)
  ·
   show Q18_2 Z a1 f cs sv dg h0 n0 _ T66.heap _
   rw [R67]
   exact ⟨b45, g46, (2 * 2), rfl, N66, K58, R48, sz_b45, R50, R51, Or.inr ⟨rfl, R52⟩⟩
  refine qs X7 hx (l' := #[sR a1, sI (0 : Int32), sI (2 : Int32), sR b1, sI (1 : Int32), .unset]) (dt18 hby 9 rfl :) rfl ?_
  refine qi X7 hx (dt18 hby 10 rfl :) rfl ?_
  refine qiN X7 hx (dt18 hby 11 rfl :) rfl ?_
  refine qmN X7 hx (dt18 hby 12 rfl :) (feq (by decide : ¬ ((1 : Int32) = (2 : Int32)))).1 ?_
  refine qaN X7 hx (dt18 hby 15 rfl :) rfl rfl ?_
  refine qiN X7 hx (dt18 hby 16 rfl :) rfl ?_
  refine qiN X7 hx (dt18 hby 17 rfl :) rfl ?_
  refine st44 _ ?_
  refine qt X44 hx (l' := #[sR a1, sI (0 : Int32), sI (2 : Int32), sR b1, sI (1 : Int32), sR b45]) (dt18 hby 19 rfl :) rfl rfl ?_
  refine qa X44 hx (dt18 hby 20 rfl :) rfl rfl ?_
  refine qi X44 hx (dt18 hby 21 rfl :) rfl ?_
  refine st66 _ ?_
  refine qp X66 hx (255 : Int32) (dt18 hby 23 rfl :) rfl ?_
  refine qmY X66 hx 38 54 (dt18 hby 24 rfl :) (tlt hc38_68).2.2.1 (by decide) (by decide) ?_
  refine qa X66 hx (dt18 hby 25 rfl :) rfl rfl ?_
  exact retOut X66 hx hR rfl (Or.inr (Or.inr (Or.inr (Or.inr ⟨rfl, rfl, rfl⟩)))) (dt18 hby 26 rfl :) hrt
def Q18_3 (Z : State) (a1 : Addr) (f : Nat → Int32) (cs : Int32) (sv : Value) (dg : Addr) (h0 : Heap) (n0 : Nat) (v : Option Value) (h : Heap) (L : List Loc) : Prop := ∃ (b : Addr) (g : Nat → Int32) (LL : Nat), v = some (.ref b) ∧ Fr n0 L ∧ Keep h0 h [] ∧ n0 ≤ b ∧ h0.size ≤ b ∧ eA Z h b ∧ own_Af Z h b .byte (Int32.ofNat LL) g ∧ ((LL = 3 ∧ ((f 0).toInt ≤ 255 ∧ g 0 = own_lo (f 0)) ∧ ((f 1).toInt ≤ 255 ∧ g 1 = own_lo (f 1)) ∧ ((f 2).toInt ≤ 255 ∧ g 2 = own_lo (f 2))) ∨ (LL = 2 * 3 ∧ (g (2 * 0) = own_lo (f 0) ∧ g (2 * 0 + 1) = own_hi (f 0)) ∧ (g (2 * 1) = own_lo (f 1) ∧ g (2 * 1 + 1) = own_hi (f 1)) ∧ (g (2 * 2) = own_lo (f 2) ∧ g (2 * 2 + 1) = own_hi (f 2))))
theorem rm18_3 (l : Launch) (Z : State) (a0 : Array Value) (hw : own_hw a0 Z) (a1 : Addr) (f : Nat → Int32) (cs : Int32) (sv : Value) (dg : Addr) (h0 : Heap) (n0 : Nat) (Z0 : n0 ≤ h0.size) (HB0 : own_Af Z h0 a1 .char (Int32.ofNat 3) f) (hc0 : (own_ch (f 0))) (hc1 : (own_ch (f 1))) (hc2 : (own_ch (f 2))) (hS : (own_ST Z cs sv dg)) (HO : Old Z n0 h0) :
 own_M l ym18 [Jvm.Cond.code ym18 cm18 6 (some (.array .byte))] (⟨3, 2, 75, 40⟩ : Room) #[(.ref a1), (.int (0 : Int32)), (.int (3 : Int32))] Z h0 (Q18_3 Z a1 f cs sv dg h0 n0) := by
 refine own_go n0 (F := fun m => mkF m 0 #[sR a1, sI (0 : Int32), sI (3 : Int32), .unset, .unset, .unset] []) (plainFor_of_name pn_5) (fun m => rfl) ?_
 intro p e s m below meth c sq Pq hR hx hby hml hown hnm hZ hh hlk X0 e0 N0 pre0
 obtain ⟨T1, h1, k1, X1, e1, E1, A1, Y1, st1⟩ := newPE X0 hx hZ (hw _ (wi 7 rfl)) e0 (g := (mkF m 1 #[sR a1, sI (0 : Int32), sI (3 : Int32), .unset, .unset, .unset] [(.int (3 : Int32))])) rfl (dt18 hby 1 rfl :) rfl (by decide) (cap := 3) (by decide) (by decide) (by decide) (by decide) (ad := "[B") (by decide)
 obtain ⟨b1, g1⟩ : ∃ z, z = h0.size := ⟨_, rfl⟩
 rw [← g1] at A1 st1 Y1
 have ne2 : a1 ≠ b1 := Nat.ne_of_lt (Nat.lt_of_lt_of_le HB0.lt (Nat.le_of_eq g1.symm))
 have g_b1 : n0 ≤ b1 := Nat.le_trans Z0 (Nat.le_of_eq g1.symm)
 have sz_b1 : h0.size ≤ b1 := Nat.le_trans (Keep.refl h0 []).1 (Nat.le_of_eq g1.symm)
 have F3 : own_Af Z h1 a1 .char (Int32.ofNat 3) f := HB0.ext E1
 have F4 : Old Z n0 h1 := HO.ext E1
 have Z5 : n0 ≤ h1.size := Nat.le_trans Z0 E1.1
 have K6 : Keep h0 h1 [] := (Keep.refl h0 []).ext E1
 have V1 : own_Af Z h1 b1 .byte (3 : Int32) (fun _ => 0) := own_Af.new A1 (by decide) rfl
 obtain ⟨_, _, ⟨T7, L7, k7, n7⟩, -, X7, ⟨Lc7, hQ7, l7, y7, z7⟩, st7⟩ := Jvm.LawKit.callS X1 hx (y := ym19) hown (mw hZ hw 110 rfl) (mw hZ hw 111 rfl) (mw hZ hw 108 rfl) (mw hZ hw 112 rfl) (by decide) (backOf (W := 0) (rm19_3 l Z a0 hw a1 b1 f h1 n0 Z5 F3 V1 g_b1 ne2) hZ (hw _ (wi 112 rfl)) (hw _ (wi 108 rfl)) (by decide) (by decide)) (g := (mkF m 9 #[sR a1, sI (0 : Int32), sI (3 : Int32), sR b1, .unset, .unset] [(.int (3 : Int32)), (.int (0 : Int32)), (.ref b1), (.int (0 : Int32)), (.ref a1)])) rfl (by rw [hml]; rfl) (argsL := [(.ref a1), (.int (0 : Int32)), (.ref b1), (.int (0 : Int32)), (.int (3 : Int32))]) (rest := []) (lenOf pd_20 rfl) rfl (Nat.le_refl _) (dt18 hby 8 rfl :) (fun _ _ => ⟨rfl, e1, (by decide : 1 + 0 ≤ _), (by decide : 3 + 0 ≤ _)⟩)
 dsimp only [Pt.U, Pt.locs, Pt.cells, Pt.slots] at X7 l7 y7 z7 st7 hQ7
 subst l7 y7 z7
 obtain ⟨r8, g9, rfl, N7q, R10, R11, R12⟩ := hQ7
 have N7 := Fr.app N0 N7q
 have F13 : own_Af Z T7.heap a1 .char (Int32.ofNat 3) f := F3.keep R10 (ninS ne2 nin0)
 have F14 : Old Z n0 T7.heap := F4.keep R10 (allS g_b1 all0)
 have F15 : eA Z T7.heap b1 := Y1.keep R10
 have Z16 : n0 ≤ T7.heap.size := Nat.le_trans Z5 R10.1
 have K17 : Keep h0 T7.heap [] := K6.trans R10 (allS (Or.inr sz_b1) all0)
 have P18 : ∀ t, Steps p.tables e below (T7.setTop (mkF m 12 #[sR a1, sI (0 : Int32), sI (3 : Int32), sR b1, .unset, .unset] [(.int r8)])) t → Pq t := fun t k => pre0 t (by
  refine qiN X0 hx (dt18 hby 0 rfl :) rfl ?_
  refine st1 _ ?_
  refine qtN X1 hx (l' := #[sR a1, sI (0 : Int32), sI (3 : Int32), sR b1, .unset, .unset]) (dt18 hby 2 rfl :) rfl rfl ?_
  refine qaN X1 hx (dt18 hby 3 rfl :) rfl rfl ?_
  refine qiN X1 hx (dt18 hby 4 rfl :) rfl ?_
  refine qaN X1 hx (dt18 hby 5 rfl :) rfl rfl ?_
  refine qc X1 hx (0 : Int32) (dt18 hby 6 rfl :) rfl ?_
  refine qiN X1 hx (dt18 hby 7 rfl :) rfl ?_
  refine st7 _ ?_
  exact k)
 rcases R12 with ⟨rfl, hv⟩ | ⟨rfl, hv⟩ | ⟨rfl, hv⟩ | ⟨rfl, hv⟩
 ·
  refine own_fin X7 hlk (v := some (.ref b1)) (own_nv hR) (by decide) (by decide) ?_ (fun fs hrt => P18 _ ?_)
  ·
   show Q18_3 Z a1 f cs sv dg h0 n0 _ T7.heap _
   exact ⟨b1, g9, 3, rfl, N7, K17, g_b1, sz_b1, F15, R11, Or.inl ⟨rfl, hv⟩⟩
  refine qs X7 hx (l' := #[sR a1, sI (0 : Int32), sI (3 : Int32), sR b1, sI (3 : Int32), .unset]) (dt18 hby 9 rfl :) rfl ?_
  refine qi X7 hx (dt18 hby 10 rfl :) rfl ?_
  refine qiN X7 hx (dt18 hby 11 rfl :) rfl ?_
  refine qmY X7 hx 17 57 (dt18 hby 12 rfl :) (teq (by decide : (3 : Int32) = (3 : Int32))).1 (by decide) (by decide) ?_
  refine qaN X7 hx (dt18 hby 13 rfl :) rfl rfl ?_
  exact retOut X7 hx hR rfl (Or.inr (Or.inr (Or.inr (Or.inr ⟨rfl, rfl, rfl⟩)))) (dt18 hby 14 rfl :) hrt
 ·
  obtain ⟨_, _, ⟨T19, L19, k19, n19⟩, -, X19, ⟨Lc19, hQ19, l19, y19, z19⟩, st19⟩ := Jvm.LawKit.callS X7 hx (y := ym34) hown (mw hZ hw 170 rfl) (mw hZ hw 171 rfl) (mw hZ hw 108 rfl) (mw hZ hw 172 rfl) (by decide) (backOf (W := 0) (rm34_3 l Z a0 hw a1 f cs sv dg T7.heap n0 Z16 F13 hS F14) hZ (hw _ (wi 172 rfl)) (hw _ (wi 108 rfl)) (by decide) (by decide)) (g := (mkF m 23 #[sR a1, sI (0 : Int32), sI (3 : Int32), sR b1, sI (0 : Int32), .unset] [(.int (3 : Int32)), (.int (0 : Int32)), (.ref a1)])) rfl (by rw [hml]; rfl) (argsL := [(.ref a1), (.int (0 : Int32)), (.int (3 : Int32))]) (rest := []) (lenOf pd_21 rfl) rfl (Nat.le_refl _) (dt18 hby 18 rfl :) (fun _ _ => ⟨rfl, rfl, (by decide : 1 + 1 ≤ _), (by decide : 3 + 72 ≤ _)⟩)
  dsimp only [Pt.U, Pt.locs, Pt.cells, Pt.slots] at X19 l19 y19 z19 st19 hQ19
  subst l19 y19 z19
  obtain ⟨b20, g21, rfl, N19q, R22, R23, R24, R25, R26, R27⟩ := hQ19
  have N19 := Fr.app N7 N19q
  have F29 : Old Z n0 T19.heap := F14.keep R22 all0
  have Z32 : n0 ≤ T19.heap.size := Nat.le_trans Z16 R22.1
  have K33 : Keep h0 T19.heap [] := K17.trans R22 all0
  have sz_b20 : h0.size ≤ b20 := Nat.le_trans K17.1 R24
  have hu := R27
  obtain ⟨⟨u0a, u0b⟩, ⟨u1a, u1b⟩, ⟨u2a, u2b⟩⟩ := hu
  obtain ⟨_, _, ⟨T41, L41, k41, n41⟩, -, X41, ⟨Lc41, hQ41, l41, y41, z41⟩, st41⟩ := Jvm.LawKit.callS X19 hx (y := ym38) hown (mw hZ hw 186 rfl) (mw hZ hw 187 rfl) (mw hZ hw 108 rfl) (mw hZ hw 188 rfl) (by decide) (backOf (W := 0) (rm38 l Z a0 hw b20 0 3 g21 (f 0) cs sv dg T19.heap n0 Z32 R26 (by omega) (by omega) hc0 u0a u0b hS F29) hZ (hw _ (wi 188 rfl)) (hw _ (wi 108 rfl)) (by decide) (by decide)) (g := (mkF m 32 #[sR a1, sI (0 : Int32), sI (3 : Int32), sR b1, sI (0 : Int32), sR b20] [(.int (0 : Int32)), (.ref b20)])) rfl (by rw [hml]; rfl) (argsL := [(.ref b20), (.int (0 : Int32))]) (rest := []) (lenOf pd_8 rfl) rfl (Nat.le_refl _) (dt18 hby 22 rfl :) (fun _ _ => ⟨rfl, rfl, (by decide : 2 + 0 ≤ _), (by decide : 75 + 0 ≤ _)⟩)
  dsimp only [Pt.U, Pt.locs, Pt.cells, Pt.slots] at X41 l41 y41 z41 st41 hQ41
  subst l41 y41 z41
  obtain ⟨rfl, N41q, R42⟩ := hQ41
  have N41 := Fr.app N19 N41q
  have hc38_43 : (255 : Int32) < (f 0) := own_lt255 hv
  refine own_fin X41 hlk (v := some (.ref b20)) (own_nv hR) (by decide) (by decide) ?_ (fun fs hrt => P18 _ ?_)
  ·
   show Q18_3 Z a1 f cs sv dg h0 n0 _ T41.heap _
   rw [R42]
   exact ⟨b20, g21, (2 * 3), rfl, N41, K33, R23, sz_b20, R25, R26, Or.inr ⟨rfl, R27⟩⟩
  refine qs X7 hx (l' := #[sR a1, sI (0 : Int32), sI (3 : Int32), sR b1, sI (0 : Int32), .unset]) (dt18 hby 9 rfl :) rfl ?_
  refine qi X7 hx (dt18 hby 10 rfl :) rfl ?_
  refine qiN X7 hx (dt18 hby 11 rfl :) rfl ?_
  refine qmN X7 hx (dt18 hby 12 rfl :) (feq (by decide : ¬ ((0 : Int32) = (3 : Int32)))).1 ?_
  refine qaN X7 hx (dt18 hby 15 rfl :) rfl rfl ?_
  refine qiN X7 hx (dt18 hby 16 rfl :) rfl ?_
  refine qiN X7 hx (dt18 hby 17 rfl :) rfl ?_
  refine st19 _ ?_
  refine qt X19 hx (l' := #[sR a1, sI (0 : Int32), sI (3 : Int32), sR b1, sI (0 : Int32), sR b20]) (dt18 hby 19 rfl :) rfl rfl ?_
  refine qa X19 hx (dt18 hby 20 rfl :) rfl rfl ?_
  refine qi X19 hx (dt18 hby 21 rfl :) rfl ?_
  refine st41 _ ?_
  refine qp X41 hx (255 : Int32) (dt18 hby 23 rfl :) rfl ?_
  refine qmY X41 hx 38 54 (dt18 hby 24 rfl :) (tlt hc38_43).2.2.1 (by decide) (by decide) ?_
  refine qa X41 hx (dt18 hby 25 rfl :) rfl rfl ?_
  exact retOut X41 hx hR rfl (Or.inr (Or.inr (Or.inr (Or.inr ⟨rfl, rfl, rfl⟩)))) (dt18 hby 26 rfl :) hrt
 ·
  obtain ⟨_, _, ⟨T44, L44, k44, n44⟩, -, X44, ⟨Lc44, hQ44, l44, y44, z44⟩, st44⟩ := Jvm.LawKit.callS X7 hx (y := ym34) hown (mw hZ hw 170 rfl) (mw hZ hw 171 rfl) (mw hZ hw 108 rfl) (mw hZ hw 172 rfl) (by decide) (backOf (W := 0) (rm34_3 l Z a0 hw a1 f cs sv dg T7.heap n0 Z16 F13 hS F14) hZ (hw _ (wi 172 rfl)) (hw _ (wi 108 rfl)) (by decide) (by decide)) (g := (mkF m 23 #[sR a1, sI (0 : Int32), sI (3 : Int32), sR b1, sI (1 : Int32), .unset] [(.int (3 : Int32)), (.int (0 : Int32)), (.ref a1)])) rfl (by rw [hml]; rfl) (argsL := [(.ref a1), (.int (0 : Int32)), (.int (3 : Int32))]) (rest := []) (lenOf pd_21 rfl) rfl (Nat.le_refl _) (dt18 hby 18 rfl :) (fun _ _ => ⟨rfl, rfl, (by decide : 1 + 1 ≤ _), (by decide : 3 + 72 ≤ _)⟩)
  dsimp only [Pt.U, Pt.locs, Pt.cells, Pt.slots] at X44 l44 y44 z44 st44 hQ44
  subst l44 y44 z44
  obtain ⟨b45, g46, rfl, N44q, R47, R48, R49, R50, R51, R52⟩ := hQ44
  have N44 := Fr.app N7 N44q
  have F54 : Old Z n0 T44.heap := F14.keep R47 all0
  have Z57 : n0 ≤ T44.heap.size := Nat.le_trans Z16 R47.1
  have K58 : Keep h0 T44.heap [] := K17.trans R47 all0
  have sz_b45 : h0.size ≤ b45 := Nat.le_trans K17.1 R49
  have hu := R52
  obtain ⟨⟨u0a, u0b⟩, ⟨u1a, u1b⟩, ⟨u2a, u2b⟩⟩ := hu
  obtain ⟨_, _, ⟨T66, L66, k66, n66⟩, -, X66, ⟨Lc66, hQ66, l66, y66, z66⟩, st66⟩ := Jvm.LawKit.callS X44 hx (y := ym38) hown (mw hZ hw 186 rfl) (mw hZ hw 187 rfl) (mw hZ hw 108 rfl) (mw hZ hw 188 rfl) (by decide) (backOf (W := 0) (rm38 l Z a0 hw b45 1 3 g46 (f 1) cs sv dg T44.heap n0 Z57 R51 (by omega) (by omega) hc1 u1a u1b hS F54) hZ (hw _ (wi 188 rfl)) (hw _ (wi 108 rfl)) (by decide) (by decide)) (g := (mkF m 32 #[sR a1, sI (0 : Int32), sI (3 : Int32), sR b1, sI (1 : Int32), sR b45] [(.int (1 : Int32)), (.ref b45)])) rfl (by rw [hml]; rfl) (argsL := [(.ref b45), (.int (1 : Int32))]) (rest := []) (lenOf pd_8 rfl) rfl (Nat.le_refl _) (dt18 hby 22 rfl :) (fun _ _ => ⟨rfl, rfl, (by decide : 2 + 0 ≤ _), (by decide : 75 + 0 ≤ _)⟩)
  dsimp only [Pt.U, Pt.locs, Pt.cells, Pt.slots] at X66 l66 y66 z66 st66 hQ66
  subst l66 y66 z66
  obtain ⟨rfl, N66q, R67⟩ := hQ66
  have N66 := Fr.app N44 N66q
  have hc38_68 : (255 : Int32) < (f 1) := own_lt255 hv
  refine own_fin X66 hlk (v := some (.ref b45)) (own_nv hR) (by decide) (by decide) ?_ (fun fs hrt => P18 _ ?_)
  ·
   show Q18_3 Z a1 f cs sv dg h0 n0 _ T66.heap _
   rw [R67]
   exact ⟨b45, g46, (2 * 3), rfl, N66, K58, R48, sz_b45, R50, R51, Or.inr ⟨rfl, R52⟩⟩
  refine qs X7 hx (l' := #[sR a1, sI (0 : Int32), sI (3 : Int32), sR b1, sI (1 : Int32), .unset]) (dt18 hby 9 rfl :) rfl ?_
  refine qi X7 hx (dt18 hby 10 rfl :) rfl ?_
  refine qiN X7 hx (dt18 hby 11 rfl :) rfl ?_
  refine qmN X7 hx (dt18 hby 12 rfl :) (feq (by decide : ¬ ((1 : Int32) = (3 : Int32)))).1 ?_
  refine qaN X7 hx (dt18 hby 15 rfl :) rfl rfl ?_
  refine qiN X7 hx (dt18 hby 16 rfl :) rfl ?_
  refine qiN X7 hx (dt18 hby 17 rfl :) rfl ?_
  refine st44 _ ?_
  refine qt X44 hx (l' := #[sR a1, sI (0 : Int32), sI (3 : Int32), sR b1, sI (1 : Int32), sR b45]) (dt18 hby 19 rfl :) rfl rfl ?_
  refine qa X44 hx (dt18 hby 20 rfl :) rfl rfl ?_
  refine qi X44 hx (dt18 hby 21 rfl :) rfl ?_
  refine st66 _ ?_
  refine qp X66 hx (255 : Int32) (dt18 hby 23 rfl :) rfl ?_
  refine qmY X66 hx 38 54 (dt18 hby 24 rfl :) (tlt hc38_68).2.2.1 (by decide) (by decide) ?_
  refine qa X66 hx (dt18 hby 25 rfl :) rfl rfl ?_
  exact retOut X66 hx hR rfl (Or.inr (Or.inr (Or.inr (Or.inr ⟨rfl, rfl, rfl⟩)))) (dt18 hby 26 rfl :) hrt
 ·
  obtain ⟨_, _, ⟨T69, L69, k69, n69⟩, -, X69, ⟨Lc69, hQ69, l69, y69, z69⟩, st69⟩ := Jvm.LawKit.callS X7 hx (y := ym34) hown (mw hZ hw 170 rfl) (mw hZ hw 171 rfl) (mw hZ hw 108 rfl) (mw hZ hw 172 rfl) (by decide) (backOf (W := 0) (rm34_3 l Z a0 hw a1 f cs sv dg T7.heap n0 Z16 F13 hS F14) hZ (hw _ (wi 172 rfl)) (hw _ (wi 108 rfl)) (by decide) (by decide)) (g := (mkF m 23 #[sR a1, sI (0 : Int32), sI (3 : Int32), sR b1, sI (2 : Int32), .unset] [(.int (3 : Int32)), (.int (0 : Int32)), (.ref a1)])) rfl (by rw [hml]; rfl) (argsL := [(.ref a1), (.int (0 : Int32)), (.int (3 : Int32))]) (rest := []) (lenOf pd_21 rfl) rfl (Nat.le_refl _) (dt18 hby 18 rfl :) (fun _ _ => ⟨rfl, rfl, (by decide : 1 + 1 ≤ _), (by decide : 3 + 72 ≤ _)⟩)
  dsimp only [Pt.U, Pt.locs, Pt.cells, Pt.slots] at X69 l69 y69 z69 st69 hQ69
  subst l69 y69 z69
  obtain ⟨b70, g71, rfl, N69q, R72, R73, R74, R75, R76, R77⟩ := hQ69
  have N69 := Fr.app N7 N69q
  have F79 : Old Z n0 T69.heap := F14.keep R72 all0
  have Z82 : n0 ≤ T69.heap.size := Nat.le_trans Z16 R72.1
  have K83 : Keep h0 T69.heap [] := K17.trans R72 all0
  have sz_b70 : h0.size ≤ b70 := Nat.le_trans K17.1 R74
  have hu := R77
  obtain ⟨⟨u0a, u0b⟩, ⟨u1a, u1b⟩, ⟨u2a, u2b⟩⟩ := hu
  obtain ⟨_, _, ⟨T91, L91, k91, n91⟩, -, X91, ⟨Lc91, hQ91, l91, y91, z91⟩, st91⟩ := Jvm.LawKit.callS X69 hx (y := ym38) hown (mw hZ hw 186 rfl) (mw hZ hw 187 rfl) (mw hZ hw 108 rfl) (mw hZ hw 188 rfl) (by decide) (backOf (W := 0) (rm38 l Z a0 hw b70 2 3 g71 (f 2) cs sv dg T69.heap n0 Z82 R76 (by omega) (by omega) hc2 u2a u2b hS F79) hZ (hw _ (wi 188 rfl)) (hw _ (wi 108 rfl)) (by decide) (by decide)) (g := (mkF m 32 #[sR a1, sI (0 : Int32), sI (3 : Int32), sR b1, sI (2 : Int32), sR b70] [(.int (2 : Int32)), (.ref b70)])) rfl (by rw [hml]; rfl) (argsL := [(.ref b70), (.int (2 : Int32))]) (rest := []) (lenOf pd_8 rfl) rfl (Nat.le_refl _) (dt18 hby 22 rfl :) (fun _ _ => ⟨rfl, rfl, (by decide : 2 + 0 ≤ _), (by decide : 75 + 0 ≤ _)⟩)
  dsimp only [Pt.U, Pt.locs, Pt.cells, Pt.slots] at X91 l91 y91 z91 st91 hQ91
  subst l91 y91 z91
  obtain ⟨rfl, N91q, R92⟩ := hQ91
  have N91 := Fr.app N69 N91q
  have hc38_93 : (255 : Int32) < (f 2) := own_lt255 hv
  refine own_fin X91 hlk (v := some (.ref b70)) (own_nv hR) (by decide) (by decide) ?_ (fun fs hrt => P18 _ ?_)
  ·
   show Q18_3 Z a1 f cs sv dg h0 n0 _ T91.heap _
   rw [R92]
   exact ⟨b70, g71, (2 * 3), rfl, N91, K83, R73, sz_b70, R75, R76, Or.inr ⟨rfl, R77⟩⟩
  refine qs X7 hx (l' := #[sR a1, sI (0 : Int32), sI (3 : Int32), sR b1, sI (2 : Int32), .unset]) (dt18 hby 9 rfl :) rfl ?_
  refine qi X7 hx (dt18 hby 10 rfl :) rfl ?_
  refine qiN X7 hx (dt18 hby 11 rfl :) rfl ?_
  refine qmN X7 hx (dt18 hby 12 rfl :) (feq (by decide : ¬ ((2 : Int32) = (3 : Int32)))).1 ?_
  refine qaN X7 hx (dt18 hby 15 rfl :) rfl rfl ?_
  refine qiN X7 hx (dt18 hby 16 rfl :) rfl ?_
  refine qiN X7 hx (dt18 hby 17 rfl :) rfl ?_
  refine st69 _ ?_
  refine qt X69 hx (l' := #[sR a1, sI (0 : Int32), sI (3 : Int32), sR b1, sI (2 : Int32), sR b70]) (dt18 hby 19 rfl :) rfl rfl ?_
  refine qa X69 hx (dt18 hby 20 rfl :) rfl rfl ?_
  refine qi X69 hx (dt18 hby 21 rfl :) rfl ?_
  refine st91 _ ?_
  refine qp X91 hx (255 : Int32) (dt18 hby 23 rfl :) rfl ?_
  refine qmY X91 hx 38 54 (dt18 hby 24 rfl :) (tlt hc38_93).2.2.1 (by decide) (by decide) ?_
  refine qa X91 hx (dt18 hby 25 rfl :) rfl rfl ?_
  exact retOut X91 hx hR rfl (Or.inr (Or.inr (Or.inr (Or.inr ⟨rfl, rfl, rfl⟩)))) (dt18 hby 26 rfl :) hrt
theorem own_lat2 {f g : Nat → Int32} (h0 : own_ch (f 0)) (h1 : own_ch (f 1)) (v : ((f 0).toInt ≤ 255 ∧ g 0 = own_lo (f 0)) ∧ ((f 1).toInt ≤ 255 ∧ g 1 = own_lo (f 1))) : own_lat [f 0, f 1] g := fun i hi => by
  match i, hi with
  | 0, _ => exact ⟨⟨h0.1, v.1.1⟩, v.1.2⟩
  | 1, _ => exact ⟨⟨h1.1, v.2.1⟩, v.2.2⟩
  | i + 2, hi => exact absurd hi (by simp)
theorem own_utf2 {f g : Nat → Int32} (h0 : own_ch (f 0)) (h1 : own_ch (f 1)) (v : (g (2 * 0) = own_lo (f 0) ∧ g (2 * 0 + 1) = own_hi (f 0)) ∧ (g (2 * 1) = own_lo (f 1) ∧ g (2 * 1 + 1) = own_hi (f 1))) : own_utf [f 0, f 1] g := fun i hi => by
  match i, hi with
  | 0, _ => exact ⟨h0, v.1⟩
  | 1, _ => exact ⟨h1, v.2⟩
  | i + 2, hi => exact absurd hi (by simp)
theorem own_lat3 {f g : Nat → Int32} (h0 : own_ch (f 0)) (h1 : own_ch (f 1)) (h2 : own_ch (f 2)) (v : ((f 0).toInt ≤ 255 ∧ g 0 = own_lo (f 0)) ∧ ((f 1).toInt ≤ 255 ∧ g 1 = own_lo (f 1)) ∧ ((f 2).toInt ≤ 255 ∧ g 2 = own_lo (f 2))) : own_lat [f 0, f 1, f 2] g := fun i hi => by
  match i, hi with
  | 0, _ => exact ⟨⟨h0.1, v.1.1⟩, v.1.2⟩
  | 1, _ => exact ⟨⟨h1.1, v.2.1.1⟩, v.2.1.2⟩
  | 2, _ => exact ⟨⟨h2.1, v.2.2.1⟩, v.2.2.2⟩
  | i + 3, hi => exact absurd hi (by simp)
theorem own_utf3 {f g : Nat → Int32} (h0 : own_ch (f 0)) (h1 : own_ch (f 1)) (h2 : own_ch (f 2)) (v : (g (2 * 0) = own_lo (f 0) ∧ g (2 * 0 + 1) = own_hi (f 0)) ∧ (g (2 * 1) = own_lo (f 1) ∧ g (2 * 1 + 1) = own_hi (f 1)) ∧ (g (2 * 2) = own_lo (f 2) ∧ g (2 * 2 + 1) = own_hi (f 2))) : own_utf [f 0, f 1, f 2] g := fun i hi => by
  match i, hi with
  | 0, _ => exact ⟨h0, v.1⟩
  | 1, _ => exact ⟨h1, v.2.1⟩
  | 2, _ => exact ⟨h2, v.2.2⟩
  | i + 3, hi => exact absurd hi (by simp)
theorem pd_22 : parseMethodDescriptor "([BI)B" = some ⟨[(.array .byte), .int], some .byte⟩ := by decide +kernel
def Q17_2 (Z : State) (a1 a2 : Addr) (f : Nat → Int32) (cs : Int32) (sv : Value) (dg : Addr) (h0 : Heap) (n0 : Nat) (v : Option Value) (h : Heap) (L : List Loc) : Prop := ∃ (b2 : Addr), v = none ∧ Fr n0 L ∧ Keep h0 h [a1] ∧ n0 ≤ b2 ∧ h0.size ≤ b2 ∧ own_Str Z h a1 b2 [f 0, f 1]
theorem rm17_2 (l : Launch) (Z : State) (a0 : Array Value) (hw : own_hw a0 Z) (a1 a2 : Addr) (f : Nat → Int32) (cs : Int32) (sv : Value) (dg : Addr) (h0 : Heap) (n0 : Nat) (Z0 : n0 ≤ h0.size) (HB0 : own_Af Z h0 a2 .char (Int32.ofNat 2) f) (hc0 : (own_ch (f 0))) (hc1 : (own_ch (f 1))) (HE3 : eS Z h0 a1) (Hg4 : n0 ≤ a1) (HF5 : fSv Z h0 a1 .null) (HF6 : fSc Z h0 a1 (.int (0 : Int32))) (hne : a1 ≠ a2) (hS : (own_ST Z cs sv dg)) (HO : Old Z n0 h0) :
 own_M l ym17 [Jvm.Cond.code ym17 cm17 6 none] (⟨4, 2, 74, 57⟩ : Room) #[(.ref a1), (.ref a2), (.int (0 : Int32)), (.int (2 : Int32)), .null] Z h0 (Q17_2 Z a1 a2 f cs sv dg h0 n0) := by
 refine own_go n0 (F := fun m => mkF m 0 #[sR a1, sR a2, sI (0 : Int32), sI (2 : Int32), .val .null, .unset] []) (plainFor_of_name pn_4) (fun m => rfl) ?_
 intro p e s m below meth c sq Pq hR hx hby hml hown hnm hZ hh hlk X0 e0 N0 pre0
 obtain ⟨T1, X1, e1, st1⟩ := initO X0 hx hZ hown (hw _ (wi 62 rfl)) (hw _ (wi 42 rfl)) (hw _ (wi 43 rfl)) e0 (g := (mkF m 1 #[sR a1, sR a2, sI (0 : Int32), sI (2 : Int32), .val .null, .unset] [(.ref a1)])) rfl (by rw [hml]; rfl) rfl (dt17 hby 1 rfl :) (by decide) (W := 0) (Nat.le_refl _) (by decide)
 have F2 : Sta Z h0 "java/lang/String" "COMPACT_STRINGS" "Z" (.int cs) := (hS.1.1).ext HO.2
 obtain ⟨T3, X3, e3, st3⟩ := getS2 X1 hx hZ hown (host := "") (Or.inl (hw _ (wi 30 rfl))) Via.refl e1 F2 (g := (mkF m 27 #[sR a1, sR a2, sI (0 : Int32), sI (2 : Int32), .val .null, .unset] [])) rfl (dt17 hby 4 rfl :)
 have hc30_4 : ¬ (cs = (0 : Int32)) := hS.1.2
 obtain ⟨_, _, ⟨T7, L7, k7, n7⟩, -, X7, ⟨Lc7, hQ7, l7, y7, z7⟩, st7⟩ := Jvm.LawKit.callS X3 hx (y := ym18) hown (mw hZ hw 106 rfl) (mw hZ hw 107 rfl) (mw hZ hw 108 rfl) (mw hZ hw 109 rfl) (by decide) (backOf (W := 0) (rm18_2 l Z a0 hw a2 f cs sv dg h0 n0 Z0 HB0 (by first | assumption | omega) (by first | assumption | omega) hS HO) hZ (hw _ (wi 109 rfl)) (hw _ (wi 108 rfl)) (by decide) (by decide)) (g := (mkF m 36 #[sR a1, sR a2, sI (0 : Int32), sI (2 : Int32), .val .null, .unset] [(.int (2 : Int32)), (.int (0 : Int32)), (.ref a2)])) rfl (by rw [hml]; rfl) (argsL := [(.ref a2), (.int (0 : Int32)), (.int (2 : Int32))]) (rest := []) (lenOf pd_21 rfl) rfl (Nat.le_refl _) (dt17 hby 9 rfl :) (fun _ _ => ⟨rfl, e3, (by decide : 0 + 2 ≤ _), (by decide : 0 + 74 ≤ _)⟩)
 dsimp only [Pt.U, Pt.locs, Pt.cells, Pt.slots] at X7 l7 y7 z7 st7 hQ7
 subst l7 y7 z7
 obtain ⟨b8, g9, LL10, rfl, N7q, R11, R12, R13, R14, R15, R16⟩ := hQ7
 have N7 := Fr.app N0 N7q
 have F18 : eS Z T7.heap a1 := HE3.keep R11
 have F19 : fSv Z T7.heap a1 .null := HF5.keep R11 nin0
 have F20 : fSc Z T7.heap a1 (.int (0 : Int32)) := HF6.keep R11 nin0
 have Z22 : n0 ≤ T7.heap.size := Nat.le_trans Z0 R11.1
 have K23 : Keep h0 T7.heap [a1] := (Keep.refl h0 [a1]).trans R11 all0
 have ne25 : a1 ≠ b8 := Nat.ne_of_lt (Nat.lt_of_lt_of_le HE3.lt R13)
 have sz_b8 : h0.size ≤ b8 := Nat.le_trans (Keep.refl h0 [a1]).1 R13
 have P26 : ∀ t, Steps p.tables e below (T7.setTop (mkF m 39 #[sR a1, sR a2, sI (0 : Int32), sI (2 : Int32), .val .null, .unset] [(.ref b8)])) t → Pq t := fun t k => pre0 t (by
  refine qaN X0 hx (dt17 hby 0 rfl :) rfl rfl ?_
  refine st1 _ ?_
  refine qiN X1 hx (dt17 hby 2 rfl :) rfl ?_
  refine qfY X1 hx 5 27 (dt17 hby 3 rfl :) ((if0 _ _).trans (feq (by decide : ¬ ((2 : Int32) = (0 : Int32)))).2) (by decide) (by decide) ?_
  refine st3 _ ?_
  refine qfN X3 hx (dt17 hby 5 rfl :) ((if0 _ _).trans (feq hc30_4).1) ?_
  refine qaN X3 hx (dt17 hby 6 rfl :) rfl rfl ?_
  refine qiN X3 hx (dt17 hby 7 rfl :) rfl ?_
  refine qiN X3 hx (dt17 hby 8 rfl :) rfl ?_
  refine st7 _ ?_
  exact k)
 rcases R16 with ⟨rfl, hv⟩ | ⟨rfl, hv⟩
 ·
  obtain ⟨_, _, ⟨T27, L27, k27, n27⟩, -, X27, ⟨Lc27, hQ27, l27, y27, z27⟩, st27⟩ := Jvm.LawKit.callS X7 hx (y := ym20) hown (mw hZ hw 113 rfl) (mw hZ hw 114 rfl) (mw hZ hw 108 rfl) (mw hZ hw 115 rfl) (by decide) (backOf (W := 1) (rm20_0 l Z a0 hw b8 2 g9 T7.heap n0 Z22 R15) hZ (hw _ (wi 115 rfl)) (hw _ (wi 108 rfl)) (by decide) (by decide)) (g := (mkF m 45 #[sR a1, sR a2, sI (0 : Int32), sI (2 : Int32), .val .null, sR b8] [(.int (2 : Int32)), (.ref b8), (.ref a1)])) rfl (by rw [hml]; rfl) (argsL := [(.ref b8), (.int (2 : Int32))]) (rest := [(.ref a1)]) (lenOf pd_22 rfl) rfl (Nat.le_refl _) (dt17 hby 14 rfl :) (fun _ _ => ⟨rfl, rfl, (by decide : 2 + 0 ≤ _), (by decide : 74 + 0 ≤ _)⟩)
  dsimp only [Pt.U, Pt.locs, Pt.cells, Pt.slots] at X27 l27 y27 z27 st27 hQ27
  subst l27 y27 z27
  obtain ⟨rfl, N27q, R28⟩ := hQ27
  have N27 := Fr.app N7 N27q
  obtain ⟨T29, h29, X29, e29, W29, st29⟩ := putFN X27 hx hZ hown (hw _ (wi 31 rfl)) Via.refl R28 F20 F18 (Or.inr ⟨(hw _ (wi 9 rfl)), rfl, hnm⟩) (hw _ (wi 6 rfl)) (ty := .byte) (v' := (.int (0 : Int32))) (by decide) rfl (by decide) (g := (mkF m 48 #[sR a1, sR a2, sI (0 : Int32), sI (2 : Int32), .val .null, sR b8] [(.int (0 : Int32)), (.ref a1)])) rfl rfl (dt17 hby 15 rfl :)
  have Fw29 : fSc Z h29 a1 (.int (0 : Int32)) := F20.same W29
  have F31 : eS Z h29 a1 := F18.wr W29
  have F32 : fSv Z h29 a1 .null := F19.other W29 (Or.inr (slot_ne (Or.inr (hw _ (wi 8 rfl))) (Or.inr (hw _ (wi 9 rfl))) (by decide) (t := (.array .byte)) (t' := .byte) (by decide) (by decide)))
  have F35 : own_Af Z h29 b8 .byte (Int32.ofNat 2) g9 := R15.keep (Keep.of_wr W29) (ninS (Ne.symm ne25) nin0)
  have K37 : Keep h0 h29 [a1] := K23.wr W29 (Or.inl (wi 0 rfl))
  have N38 := Fr.snoc X29 N27 Hg4
  obtain ⟨T39, h39, X39, e39, W39, st39⟩ := putF X29 hx hZ hown (host := "") (Or.inl (hw _ (wi 24 rfl))) Via.refl e29 F32 F31 (Or.inr ⟨(hw _ (wi 8 rfl)), rfl, hnm⟩) (hw _ (wi 6 rfl)) (ty := (.array .byte)) (by decide) rfl rfl (g := (mkF m 54 #[sR a1, sR a2, sI (0 : Int32), sI (2 : Int32), .val .null, sR b8] [(.ref b8), (.ref a1)])) rfl rfl (dt17 hby 18 rfl :)
  have Fw39 : fSv Z h39 a1 (.ref b8) := F32.same W39
  have F41 : eS Z h39 a1 := F31.wr W39
  have F44 : own_Af Z h39 b8 .byte (Int32.ofNat 2) g9 := F35.keep (Keep.of_wr W39) (ninS (Ne.symm ne25) nin0)
  have F45 : fSc Z h39 a1 (.int (0 : Int32)) := Fw29.other W39 (Or.inr (slot_ne (Or.inr (hw _ (wi 9 rfl))) (Or.inr (hw _ (wi 8 rfl))) (by decide) (t := .byte) (t' := (.array .byte)) (by decide) (by decide)))
  have K47 : Keep h0 h39 [a1] := K37.wr W39 (Or.inl (wi 0 rfl))
  have N48 := Fr.snoc X39 N38 Hg4
  have Sq : own_Str Z h39 a1 b8 [f 0, f 1] := ⟨g9, F41, Fw39, by simp, Or.inl ⟨F45, F44, own_lat2 hc0 hc1 hv⟩⟩
  refine own_fin X39 hlk (v := none) (fun _ => rfl) (by decide) (by decide) ?_ (fun fs hrt => P26 _ ?_)
  ·
   show Q17_2 Z a1 a2 f cs sv dg h0 n0 _ T39.heap _
   rw [e39]
   exact ⟨b8, rfl, N48, K47, R12, sz_b8, Sq⟩
  refine qt X7 hx (l' := #[sR a1, sR a2, sI (0 : Int32), sI (2 : Int32), .val .null, sR b8]) (dt17 hby 10 rfl :) rfl rfl ?_
  refine qaN X7 hx (dt17 hby 11 rfl :) rfl rfl ?_
  refine qa X7 hx (dt17 hby 12 rfl :) rfl rfl ?_
  refine qiN X7 hx (dt17 hby 13 rfl :) rfl ?_
  refine st27 _ ?_
  refine st29 _ ?_
  refine qaN X29 hx (dt17 hby 16 rfl :) rfl rfl ?_
  refine qa X29 hx (dt17 hby 17 rfl :) rfl rfl ?_
  refine st39 _ ?_
  exact X39.returnOut hx hR (dt17 hby 19 rfl :) hrt
 ·
  obtain ⟨_, _, ⟨T51, L51, k51, n51⟩, -, X51, ⟨Lc51, hQ51, l51, y51, z51⟩, st51⟩ := Jvm.LawKit.callS X7 hx (y := ym20) hown (mw hZ hw 113 rfl) (mw hZ hw 114 rfl) (mw hZ hw 108 rfl) (mw hZ hw 115 rfl) (by decide) (backOf (W := 1) (rm20_1 l Z a0 hw b8 2 g9 T7.heap n0 Z22 R15 (by decide) (by decide)) hZ (hw _ (wi 115 rfl)) (hw _ (wi 108 rfl)) (by decide) (by decide)) (g := (mkF m 45 #[sR a1, sR a2, sI (0 : Int32), sI (2 : Int32), .val .null, sR b8] [(.int (2 : Int32)), (.ref b8), (.ref a1)])) rfl (by rw [hml]; rfl) (argsL := [(.ref b8), (.int (2 : Int32))]) (rest := [(.ref a1)]) (lenOf pd_22 rfl) rfl (Nat.le_refl _) (dt17 hby 14 rfl :) (fun _ _ => ⟨rfl, rfl, (by decide : 2 + 0 ≤ _), (by decide : 74 + 0 ≤ _)⟩)
  dsimp only [Pt.U, Pt.locs, Pt.cells, Pt.slots] at X51 l51 y51 z51 st51 hQ51
  subst l51 y51 z51
  obtain ⟨rfl, N51q, R52⟩ := hQ51
  have N51 := Fr.app N7 N51q
  obtain ⟨T53, h53, X53, e53, W53, st53⟩ := putFN X51 hx hZ hown (hw _ (wi 31 rfl)) Via.refl R52 F20 F18 (Or.inr ⟨(hw _ (wi 9 rfl)), rfl, hnm⟩) (hw _ (wi 6 rfl)) (ty := .byte) (v' := (.int (1 : Int32))) (by decide) rfl (by decide) (g := (mkF m 48 #[sR a1, sR a2, sI (0 : Int32), sI (2 : Int32), .val .null, sR b8] [(.int (1 : Int32)), (.ref a1)])) rfl rfl (dt17 hby 15 rfl :)
  have Fw53 : fSc Z h53 a1 (.int (1 : Int32)) := F20.same W53
  have F55 : eS Z h53 a1 := F18.wr W53
  have F56 : fSv Z h53 a1 .null := F19.other W53 (Or.inr (slot_ne (Or.inr (hw _ (wi 8 rfl))) (Or.inr (hw _ (wi 9 rfl))) (by decide) (t := (.array .byte)) (t' := .byte) (by decide) (by decide)))
  have F59 : own_Af Z h53 b8 .byte (Int32.ofNat (2 * 2)) g9 := R15.keep (Keep.of_wr W53) (ninS (Ne.symm ne25) nin0)
  have K61 : Keep h0 h53 [a1] := K23.wr W53 (Or.inl (wi 0 rfl))
  have N62 := Fr.snoc X53 N51 Hg4
  obtain ⟨T63, h63, X63, e63, W63, st63⟩ := putF X53 hx hZ hown (host := "") (Or.inl (hw _ (wi 24 rfl))) Via.refl e53 F56 F55 (Or.inr ⟨(hw _ (wi 8 rfl)), rfl, hnm⟩) (hw _ (wi 6 rfl)) (ty := (.array .byte)) (by decide) rfl rfl (g := (mkF m 54 #[sR a1, sR a2, sI (0 : Int32), sI (2 : Int32), .val .null, sR b8] [(.ref b8), (.ref a1)])) rfl rfl (dt17 hby 18 rfl :)
  have Fw63 : fSv Z h63 a1 (.ref b8) := F56.same W63
  have F65 : eS Z h63 a1 := F55.wr W63
  have F68 : own_Af Z h63 b8 .byte (Int32.ofNat (2 * 2)) g9 := F59.keep (Keep.of_wr W63) (ninS (Ne.symm ne25) nin0)
  have F69 : fSc Z h63 a1 (.int (1 : Int32)) := Fw53.other W63 (Or.inr (slot_ne (Or.inr (hw _ (wi 9 rfl))) (Or.inr (hw _ (wi 8 rfl))) (by decide) (t := .byte) (t' := (.array .byte)) (by decide) (by decide)))
  have K71 : Keep h0 h63 [a1] := K61.wr W63 (Or.inl (wi 0 rfl))
  have N72 := Fr.snoc X63 N62 Hg4
  have Sq : own_Str Z h63 a1 b8 [f 0, f 1] := ⟨g9, F65, Fw63, by simp, Or.inr ⟨F69, F68, own_utf2 hc0 hc1 hv⟩⟩
  refine own_fin X63 hlk (v := none) (fun _ => rfl) (by decide) (by decide) ?_ (fun fs hrt => P26 _ ?_)
  ·
   show Q17_2 Z a1 a2 f cs sv dg h0 n0 _ T63.heap _
   rw [e63]
   exact ⟨b8, rfl, N72, K71, R12, sz_b8, Sq⟩
  refine qt X7 hx (l' := #[sR a1, sR a2, sI (0 : Int32), sI (2 : Int32), .val .null, sR b8]) (dt17 hby 10 rfl :) rfl rfl ?_
  refine qaN X7 hx (dt17 hby 11 rfl :) rfl rfl ?_
  refine qa X7 hx (dt17 hby 12 rfl :) rfl rfl ?_
  refine qiN X7 hx (dt17 hby 13 rfl :) rfl ?_
  refine st51 _ ?_
  refine st53 _ ?_
  refine qaN X53 hx (dt17 hby 16 rfl :) rfl rfl ?_
  refine qa X53 hx (dt17 hby 17 rfl :) rfl rfl ?_
  refine st63 _ ?_
  exact X63.returnOut hx hR (dt17 hby 19 rfl :) hrt
theorem pd_23 : parseMethodDescriptor "([CIILjava/lang/Void;)V" = some ⟨[(.array .char), .int, .int, (.object "java/lang/Void")], none⟩ := by decide +kernel
def Q16_2 (Z : State) (a1 a2 : Addr) (f : Nat → Int32) (cs : Int32) (sv : Value) (dg : Addr) (h0 : Heap) (n0 : Nat) (v : Option Value) (h : Heap) (L : List Loc) : Prop := ∃ (b2 : Addr), v = none ∧ Fr n0 L ∧ Keep h0 h [a1] ∧ n0 ≤ b2 ∧ h0.size ≤ b2 ∧ own_Str Z h a1 b2 [f 0, f 1]
theorem rm16_2 (l : Launch) (Z : State) (a0 : Array Value) (hw : own_hw a0 Z) (a1 a2 : Addr) (f : Nat → Int32) (cs : Int32) (sv : Value) (dg : Addr) (h0 : Heap) (n0 : Nat) (Z0 : n0 ≤ h0.size) (HB0 : own_Af Z h0 a2 .char (Int32.ofNat 2) f) (hc0 : (own_ch (f 0))) (hc1 : (own_ch (f 1))) (HE3 : eS Z h0 a1) (Hg4 : n0 ≤ a1) (HF5 : fSv Z h0 a1 .null) (HF6 : fSc Z h0 a1 (.int (0 : Int32))) (hne : a1 ≠ a2) (hS : (own_ST Z cs sv dg)) (HO : Old Z n0 h0) :
 own_M l ym16 [Jvm.Cond.code ym16 cm16 2 none] (⟨5, 2, 74, 74⟩ : Room) #[(.ref a1), (.ref a2)] Z h0 (Q16_2 Z a1 a2 f cs sv dg h0 n0) := by
 refine own_go n0 (F := fun m => mkF m 0 #[sR a1, sR a2] []) (plainFor_of_name pn_4) (fun m => rfl) ?_
 intro p e s m below meth c sq Pq hR hx hby hml hown hnm hZ hh hlk X0 e0 N0 pre0
 obtain ⟨co1, Ao1, So1, Mo1, Bo1, Go1⟩ := HB0.op
 obtain ⟨_, _, ⟨T4, L4, k4, n4⟩, -, X4, ⟨Lc4, hQ4, l4, y4, z4⟩, st4⟩ := X0.specialBack hx (y := ym17) rfl hown (mw hZ hw 103 rfl) (mw hZ hw 104 rfl) (mw hZ hw 105 rfl) (by decide) (backOf (W := 0) (rm17_2 l Z a0 hw a1 a2 f cs sv dg h0 n0 Z0 HB0 (by first | assumption | omega) (by first | assumption | omega) HE3 Hg4 HF5 HF6 hne hS HO) hZ (hw _ (wi 105 rfl)) (hw _ (wi 5 rfl)) (by decide) (by decide)) (g := (mkF m 6 #[sR a1, sR a2] [.null, (.int (2 : Int32)), (.int (0 : Int32)), (.ref a2), (.ref a1)])) rfl (by rw [hml]; rfl) (Steps.refl _) (a := a1) (argsL := [(.ref a2), (.int (0 : Int32)), (.int (2 : Int32)), .null]) (rest := []) (lenOf pd_23 rfl) rfl (Nat.le_refl _) (dt16 hby 6 rfl :) (fun _ _ => ⟨rfl, e0, (by decide : 0 + 2 ≤ _), (by decide : 0 + 74 ≤ _)⟩)
 dsimp only [Pt.U, Pt.locs, Pt.cells, Pt.slots] at X4 l4 y4 z4 st4 hQ4
 subst l4 y4 z4
 obtain ⟨b25, rfl, N4q, R6, R7, R8, R9⟩ := hQ4
 have N4 := Fr.app N0 N4q
 have K14 : Keep h0 T4.heap [a1] := (Keep.refl h0 [a1]).trans R6 (allS (Or.inl (wi 0 rfl)) all0)
 have sz_b25 : h0.size ≤ b25 := Nat.le_trans (Keep.refl h0 [a1]).1 R8
 refine own_fin X4 hlk (v := none) (fun _ => rfl) (by decide) (by decide) ?_ (fun fs hrt => pre0 _ ?_)
 ·
  show Q16_2 Z a1 a2 f cs sv dg h0 n0 _ T4.heap _
  exact ⟨b25, rfl, N4, K14, R7, sz_b25, R9⟩
 refine qaN X0 hx (dt16 hby 0 rfl :) rfl rfl ?_
 refine qaN X0 hx (dt16 hby 1 rfl :) rfl rfl ?_
 refine qc X0 hx (0 : Int32) (dt16 hby 2 rfl :) rfl ?_
 refine qaN X0 hx (dt16 hby 3 rfl :) rfl rfl ?_
 refine X0.arraylength hx (by rw [e0]; exact Ao1.1) (State.isArrayOf_alike hZ.alike Ao1.2.1) (g := (mkF m 4 #[sR a1, sR a2] [(.ref a2), (.int (0 : Int32)), (.ref a2), (.ref a1)])) rfl rfl (dt16 hby 4 rfl :) _ ?_
 rw [len_of So1 Mo1]
 show Steps p.tables e below (sq.setTop (mkF m 5 #[sR a1, sR a2] [(.int (2 : Int32)), (.int (0 : Int32)), (.ref a2), (.ref a1)])) _
 refine XS.aconstNull X0.here hx rfl (dt16 hby 5 rfl :) ?_
 refine st4.trans ?_
 exact X4.returnOut hx hR (dt16 hby 7 rfl :) hrt
def Q17_3 (Z : State) (a1 a2 : Addr) (f : Nat → Int32) (cs : Int32) (sv : Value) (dg : Addr) (h0 : Heap) (n0 : Nat) (v : Option Value) (h : Heap) (L : List Loc) : Prop := ∃ (b2 : Addr), v = none ∧ Fr n0 L ∧ Keep h0 h [a1] ∧ n0 ≤ b2 ∧ h0.size ≤ b2 ∧ own_Str Z h a1 b2 [f 0, f 1, f 2]
theorem rm17_3 (l : Launch) (Z : State) (a0 : Array Value) (hw : own_hw a0 Z) (a1 a2 : Addr) (f : Nat → Int32) (cs : Int32) (sv : Value) (dg : Addr) (h0 : Heap) (n0 : Nat) (Z0 : n0 ≤ h0.size) (HB0 : own_Af Z h0 a2 .char (Int32.ofNat 3) f) (hc0 : (own_ch (f 0))) (hc1 : (own_ch (f 1))) (hc2 : (own_ch (f 2))) (HE4 : eS Z h0 a1) (Hg5 : n0 ≤ a1) (HF6 : fSv Z h0 a1 .null) (HF7 : fSc Z h0 a1 (.int (0 : Int32))) (hne : a1 ≠ a2) (hS : (own_ST Z cs sv dg)) (HO : Old Z n0 h0) :
 own_M l ym17 [Jvm.Cond.code ym17 cm17 6 none] (⟨4, 2, 75, 57⟩ : Room) #[(.ref a1), (.ref a2), (.int (0 : Int32)), (.int (3 : Int32)), .null] Z h0 (Q17_3 Z a1 a2 f cs sv dg h0 n0) := by
 refine own_go n0 (F := fun m => mkF m 0 #[sR a1, sR a2, sI (0 : Int32), sI (3 : Int32), .val .null, .unset] []) (plainFor_of_name pn_4) (fun m => rfl) ?_
 intro p e s m below meth c sq Pq hR hx hby hml hown hnm hZ hh hlk X0 e0 N0 pre0
 obtain ⟨T1, X1, e1, st1⟩ := initO X0 hx hZ hown (hw _ (wi 62 rfl)) (hw _ (wi 42 rfl)) (hw _ (wi 43 rfl)) e0 (g := (mkF m 1 #[sR a1, sR a2, sI (0 : Int32), sI (3 : Int32), .val .null, .unset] [(.ref a1)])) rfl (by rw [hml]; rfl) rfl (dt17 hby 1 rfl :) (by decide) (W := 0) (Nat.le_refl _) (by decide)
 have F2 : Sta Z h0 "java/lang/String" "COMPACT_STRINGS" "Z" (.int cs) := (hS.1.1).ext HO.2
 obtain ⟨T3, X3, e3, st3⟩ := getS2 X1 hx hZ hown (host := "") (Or.inl (hw _ (wi 30 rfl))) Via.refl e1 F2 (g := (mkF m 27 #[sR a1, sR a2, sI (0 : Int32), sI (3 : Int32), .val .null, .unset] [])) rfl (dt17 hby 4 rfl :)
 have hc30_4 : ¬ (cs = (0 : Int32)) := hS.1.2
 obtain ⟨_, _, ⟨T8, L8, k8, n8⟩, -, X8, ⟨Lc8, hQ8, l8, y8, z8⟩, st8⟩ := Jvm.LawKit.callS X3 hx (y := ym18) hown (mw hZ hw 106 rfl) (mw hZ hw 107 rfl) (mw hZ hw 108 rfl) (mw hZ hw 109 rfl) (by decide) (backOf (W := 0) (rm18_3 l Z a0 hw a2 f cs sv dg h0 n0 Z0 HB0 (by first | assumption | omega) (by first | assumption | omega) (by first | assumption | omega) hS HO) hZ (hw _ (wi 109 rfl)) (hw _ (wi 108 rfl)) (by decide) (by decide)) (g := (mkF m 36 #[sR a1, sR a2, sI (0 : Int32), sI (3 : Int32), .val .null, .unset] [(.int (3 : Int32)), (.int (0 : Int32)), (.ref a2)])) rfl (by rw [hml]; rfl) (argsL := [(.ref a2), (.int (0 : Int32)), (.int (3 : Int32))]) (rest := []) (lenOf pd_21 rfl) rfl (Nat.le_refl _) (dt17 hby 9 rfl :) (fun _ _ => ⟨rfl, e3, (by decide : 0 + 2 ≤ _), (by decide : 0 + 75 ≤ _)⟩)
 dsimp only [Pt.U, Pt.locs, Pt.cells, Pt.slots] at X8 l8 y8 z8 st8 hQ8
 subst l8 y8 z8
 obtain ⟨b9, g10, LL11, rfl, N8q, R12, R13, R14, R15, R16, R17⟩ := hQ8
 have N8 := Fr.app N0 N8q
 have F19 : eS Z T8.heap a1 := HE4.keep R12
 have F20 : fSv Z T8.heap a1 .null := HF6.keep R12 nin0
 have F21 : fSc Z T8.heap a1 (.int (0 : Int32)) := HF7.keep R12 nin0
 have Z23 : n0 ≤ T8.heap.size := Nat.le_trans Z0 R12.1
 have K24 : Keep h0 T8.heap [a1] := (Keep.refl h0 [a1]).trans R12 all0
 have ne26 : a1 ≠ b9 := Nat.ne_of_lt (Nat.lt_of_lt_of_le HE4.lt R14)
 have sz_b9 : h0.size ≤ b9 := Nat.le_trans (Keep.refl h0 [a1]).1 R14
 have P27 : ∀ t, Steps p.tables e below (T8.setTop (mkF m 39 #[sR a1, sR a2, sI (0 : Int32), sI (3 : Int32), .val .null, .unset] [(.ref b9)])) t → Pq t := fun t k => pre0 t (by
  refine qaN X0 hx (dt17 hby 0 rfl :) rfl rfl ?_
  refine st1 _ ?_
  refine qiN X1 hx (dt17 hby 2 rfl :) rfl ?_
  refine qfY X1 hx 5 27 (dt17 hby 3 rfl :) ((if0 _ _).trans (feq (by decide : ¬ ((3 : Int32) = (0 : Int32)))).2) (by decide) (by decide) ?_
  refine st3 _ ?_
  refine qfN X3 hx (dt17 hby 5 rfl :) ((if0 _ _).trans (feq hc30_4).1) ?_
  refine qaN X3 hx (dt17 hby 6 rfl :) rfl rfl ?_
  refine qiN X3 hx (dt17 hby 7 rfl :) rfl ?_
  refine qiN X3 hx (dt17 hby 8 rfl :) rfl ?_
  refine st8 _ ?_
  exact k)
 rcases R17 with ⟨rfl, hv⟩ | ⟨rfl, hv⟩
 ·
  obtain ⟨_, _, ⟨T28, L28, k28, n28⟩, -, X28, ⟨Lc28, hQ28, l28, y28, z28⟩, st28⟩ := Jvm.LawKit.callS X8 hx (y := ym20) hown (mw hZ hw 113 rfl) (mw hZ hw 114 rfl) (mw hZ hw 108 rfl) (mw hZ hw 115 rfl) (by decide) (backOf (W := 1) (rm20_0 l Z a0 hw b9 3 g10 T8.heap n0 Z23 R16) hZ (hw _ (wi 115 rfl)) (hw _ (wi 108 rfl)) (by decide) (by decide)) (g := (mkF m 45 #[sR a1, sR a2, sI (0 : Int32), sI (3 : Int32), .val .null, sR b9] [(.int (3 : Int32)), (.ref b9), (.ref a1)])) rfl (by rw [hml]; rfl) (argsL := [(.ref b9), (.int (3 : Int32))]) (rest := [(.ref a1)]) (lenOf pd_22 rfl) rfl (Nat.le_refl _) (dt17 hby 14 rfl :) (fun _ _ => ⟨rfl, rfl, (by decide : 2 + 0 ≤ _), (by decide : 75 + 0 ≤ _)⟩)
  dsimp only [Pt.U, Pt.locs, Pt.cells, Pt.slots] at X28 l28 y28 z28 st28 hQ28
  subst l28 y28 z28
  obtain ⟨rfl, N28q, R29⟩ := hQ28
  have N28 := Fr.app N8 N28q
  obtain ⟨T30, h30, X30, e30, W30, st30⟩ := putFN X28 hx hZ hown (hw _ (wi 31 rfl)) Via.refl R29 F21 F19 (Or.inr ⟨(hw _ (wi 9 rfl)), rfl, hnm⟩) (hw _ (wi 6 rfl)) (ty := .byte) (v' := (.int (0 : Int32))) (by decide) rfl (by decide) (g := (mkF m 48 #[sR a1, sR a2, sI (0 : Int32), sI (3 : Int32), .val .null, sR b9] [(.int (0 : Int32)), (.ref a1)])) rfl rfl (dt17 hby 15 rfl :)
  have Fw30 : fSc Z h30 a1 (.int (0 : Int32)) := F21.same W30
  have F32 : eS Z h30 a1 := F19.wr W30
  have F33 : fSv Z h30 a1 .null := F20.other W30 (Or.inr (slot_ne (Or.inr (hw _ (wi 8 rfl))) (Or.inr (hw _ (wi 9 rfl))) (by decide) (t := (.array .byte)) (t' := .byte) (by decide) (by decide)))
  have F36 : own_Af Z h30 b9 .byte (Int32.ofNat 3) g10 := R16.keep (Keep.of_wr W30) (ninS (Ne.symm ne26) nin0)
  have K38 : Keep h0 h30 [a1] := K24.wr W30 (Or.inl (wi 0 rfl))
  have N39 := Fr.snoc X30 N28 Hg5
  obtain ⟨T40, h40, X40, e40, W40, st40⟩ := putF X30 hx hZ hown (host := "") (Or.inl (hw _ (wi 24 rfl))) Via.refl e30 F33 F32 (Or.inr ⟨(hw _ (wi 8 rfl)), rfl, hnm⟩) (hw _ (wi 6 rfl)) (ty := (.array .byte)) (by decide) rfl rfl (g := (mkF m 54 #[sR a1, sR a2, sI (0 : Int32), sI (3 : Int32), .val .null, sR b9] [(.ref b9), (.ref a1)])) rfl rfl (dt17 hby 18 rfl :)
  have Fw40 : fSv Z h40 a1 (.ref b9) := F33.same W40
  have F42 : eS Z h40 a1 := F32.wr W40
  have F45 : own_Af Z h40 b9 .byte (Int32.ofNat 3) g10 := F36.keep (Keep.of_wr W40) (ninS (Ne.symm ne26) nin0)
  have F46 : fSc Z h40 a1 (.int (0 : Int32)) := Fw30.other W40 (Or.inr (slot_ne (Or.inr (hw _ (wi 9 rfl))) (Or.inr (hw _ (wi 8 rfl))) (by decide) (t := .byte) (t' := (.array .byte)) (by decide) (by decide)))
  have K48 : Keep h0 h40 [a1] := K38.wr W40 (Or.inl (wi 0 rfl))
  have N49 := Fr.snoc X40 N39 Hg5
  have Sq : own_Str Z h40 a1 b9 [f 0, f 1, f 2] := ⟨g10, F42, Fw40, by simp, Or.inl ⟨F46, F45, own_lat3 hc0 hc1 hc2 hv⟩⟩
  refine own_fin X40 hlk (v := none) (fun _ => rfl) (by decide) (by decide) ?_ (fun fs hrt => P27 _ ?_)
  ·
   show Q17_3 Z a1 a2 f cs sv dg h0 n0 _ T40.heap _
   rw [e40]
   exact ⟨b9, rfl, N49, K48, R13, sz_b9, Sq⟩
  refine qt X8 hx (l' := #[sR a1, sR a2, sI (0 : Int32), sI (3 : Int32), .val .null, sR b9]) (dt17 hby 10 rfl :) rfl rfl ?_
  refine qaN X8 hx (dt17 hby 11 rfl :) rfl rfl ?_
  refine qa X8 hx (dt17 hby 12 rfl :) rfl rfl ?_
  refine qiN X8 hx (dt17 hby 13 rfl :) rfl ?_
  refine st28 _ ?_
  refine st30 _ ?_
  refine qaN X30 hx (dt17 hby 16 rfl :) rfl rfl ?_
  refine qa X30 hx (dt17 hby 17 rfl :) rfl rfl ?_
  refine st40 _ ?_
  exact X40.returnOut hx hR (dt17 hby 19 rfl :) hrt
 ·
  obtain ⟨_, _, ⟨T52, L52, k52, n52⟩, -, X52, ⟨Lc52, hQ52, l52, y52, z52⟩, st52⟩ := Jvm.LawKit.callS X8 hx (y := ym20) hown (mw hZ hw 113 rfl) (mw hZ hw 114 rfl) (mw hZ hw 108 rfl) (mw hZ hw 115 rfl) (by decide) (backOf (W := 1) (rm20_1 l Z a0 hw b9 3 g10 T8.heap n0 Z23 R16 (by decide) (by decide)) hZ (hw _ (wi 115 rfl)) (hw _ (wi 108 rfl)) (by decide) (by decide)) (g := (mkF m 45 #[sR a1, sR a2, sI (0 : Int32), sI (3 : Int32), .val .null, sR b9] [(.int (3 : Int32)), (.ref b9), (.ref a1)])) rfl (by rw [hml]; rfl) (argsL := [(.ref b9), (.int (3 : Int32))]) (rest := [(.ref a1)]) (lenOf pd_22 rfl) rfl (Nat.le_refl _) (dt17 hby 14 rfl :) (fun _ _ => ⟨rfl, rfl, (by decide : 2 + 0 ≤ _), (by decide : 75 + 0 ≤ _)⟩)
  dsimp only [Pt.U, Pt.locs, Pt.cells, Pt.slots] at X52 l52 y52 z52 st52 hQ52
  subst l52 y52 z52
  obtain ⟨rfl, N52q, R53⟩ := hQ52
  have N52 := Fr.app N8 N52q
  obtain ⟨T54, h54, X54, e54, W54, st54⟩ := putFN X52 hx hZ hown (hw _ (wi 31 rfl)) Via.refl R53 F21 F19 (Or.inr ⟨(hw _ (wi 9 rfl)), rfl, hnm⟩) (hw _ (wi 6 rfl)) (ty := .byte) (v' := (.int (1 : Int32))) (by decide) rfl (by decide) (g := (mkF m 48 #[sR a1, sR a2, sI (0 : Int32), sI (3 : Int32), .val .null, sR b9] [(.int (1 : Int32)), (.ref a1)])) rfl rfl (dt17 hby 15 rfl :)
  have Fw54 : fSc Z h54 a1 (.int (1 : Int32)) := F21.same W54
  have F56 : eS Z h54 a1 := F19.wr W54
  have F57 : fSv Z h54 a1 .null := F20.other W54 (Or.inr (slot_ne (Or.inr (hw _ (wi 8 rfl))) (Or.inr (hw _ (wi 9 rfl))) (by decide) (t := (.array .byte)) (t' := .byte) (by decide) (by decide)))
  have F60 : own_Af Z h54 b9 .byte (Int32.ofNat (2 * 3)) g10 := R16.keep (Keep.of_wr W54) (ninS (Ne.symm ne26) nin0)
  have K62 : Keep h0 h54 [a1] := K24.wr W54 (Or.inl (wi 0 rfl))
  have N63 := Fr.snoc X54 N52 Hg5
  obtain ⟨T64, h64, X64, e64, W64, st64⟩ := putF X54 hx hZ hown (host := "") (Or.inl (hw _ (wi 24 rfl))) Via.refl e54 F57 F56 (Or.inr ⟨(hw _ (wi 8 rfl)), rfl, hnm⟩) (hw _ (wi 6 rfl)) (ty := (.array .byte)) (by decide) rfl rfl (g := (mkF m 54 #[sR a1, sR a2, sI (0 : Int32), sI (3 : Int32), .val .null, sR b9] [(.ref b9), (.ref a1)])) rfl rfl (dt17 hby 18 rfl :)
  have Fw64 : fSv Z h64 a1 (.ref b9) := F57.same W64
  have F66 : eS Z h64 a1 := F56.wr W64
  have F69 : own_Af Z h64 b9 .byte (Int32.ofNat (2 * 3)) g10 := F60.keep (Keep.of_wr W64) (ninS (Ne.symm ne26) nin0)
  have F70 : fSc Z h64 a1 (.int (1 : Int32)) := Fw54.other W64 (Or.inr (slot_ne (Or.inr (hw _ (wi 9 rfl))) (Or.inr (hw _ (wi 8 rfl))) (by decide) (t := .byte) (t' := (.array .byte)) (by decide) (by decide)))
  have K72 : Keep h0 h64 [a1] := K62.wr W64 (Or.inl (wi 0 rfl))
  have N73 := Fr.snoc X64 N63 Hg5
  have Sq : own_Str Z h64 a1 b9 [f 0, f 1, f 2] := ⟨g10, F66, Fw64, by simp, Or.inr ⟨F70, F69, own_utf3 hc0 hc1 hc2 hv⟩⟩
  refine own_fin X64 hlk (v := none) (fun _ => rfl) (by decide) (by decide) ?_ (fun fs hrt => P27 _ ?_)
  ·
   show Q17_3 Z a1 a2 f cs sv dg h0 n0 _ T64.heap _
   rw [e64]
   exact ⟨b9, rfl, N73, K72, R13, sz_b9, Sq⟩
  refine qt X8 hx (l' := #[sR a1, sR a2, sI (0 : Int32), sI (3 : Int32), .val .null, sR b9]) (dt17 hby 10 rfl :) rfl rfl ?_
  refine qaN X8 hx (dt17 hby 11 rfl :) rfl rfl ?_
  refine qa X8 hx (dt17 hby 12 rfl :) rfl rfl ?_
  refine qiN X8 hx (dt17 hby 13 rfl :) rfl ?_
  refine st52 _ ?_
  refine st54 _ ?_
  refine qaN X54 hx (dt17 hby 16 rfl :) rfl rfl ?_
  refine qa X54 hx (dt17 hby 17 rfl :) rfl rfl ?_
  refine st64 _ ?_
  exact X64.returnOut hx hR (dt17 hby 19 rfl :) hrt
def Q16_3 (Z : State) (a1 a2 : Addr) (f : Nat → Int32) (cs : Int32) (sv : Value) (dg : Addr) (h0 : Heap) (n0 : Nat) (v : Option Value) (h : Heap) (L : List Loc) : Prop := ∃ (b2 : Addr), v = none ∧ Fr n0 L ∧ Keep h0 h [a1] ∧ n0 ≤ b2 ∧ h0.size ≤ b2 ∧ own_Str Z h a1 b2 [f 0, f 1, f 2]
theorem rm16_3 (l : Launch) (Z : State) (a0 : Array Value) (hw : own_hw a0 Z) (a1 a2 : Addr) (f : Nat → Int32) (cs : Int32) (sv : Value) (dg : Addr) (h0 : Heap) (n0 : Nat) (Z0 : n0 ≤ h0.size) (HB0 : own_Af Z h0 a2 .char (Int32.ofNat 3) f) (hc0 : (own_ch (f 0))) (hc1 : (own_ch (f 1))) (hc2 : (own_ch (f 2))) (HE4 : eS Z h0 a1) (Hg5 : n0 ≤ a1) (HF6 : fSv Z h0 a1 .null) (HF7 : fSc Z h0 a1 (.int (0 : Int32))) (hne : a1 ≠ a2) (hS : (own_ST Z cs sv dg)) (HO : Old Z n0 h0) :
 own_M l ym16 [Jvm.Cond.code ym16 cm16 2 none] (⟨5, 2, 75, 74⟩ : Room) #[(.ref a1), (.ref a2)] Z h0 (Q16_3 Z a1 a2 f cs sv dg h0 n0) := by
 refine own_go n0 (F := fun m => mkF m 0 #[sR a1, sR a2] []) (plainFor_of_name pn_4) (fun m => rfl) ?_
 intro p e s m below meth c sq Pq hR hx hby hml hown hnm hZ hh hlk X0 e0 N0 pre0
 obtain ⟨co1, Ao1, So1, Mo1, Bo1, Go1⟩ := HB0.op
 obtain ⟨_, _, ⟨T5, L5, k5, n5⟩, -, X5, ⟨Lc5, hQ5, l5, y5, z5⟩, st5⟩ := X0.specialBack hx (y := ym17) rfl hown (mw hZ hw 103 rfl) (mw hZ hw 104 rfl) (mw hZ hw 105 rfl) (by decide) (backOf (W := 0) (rm17_3 l Z a0 hw a1 a2 f cs sv dg h0 n0 Z0 HB0 (by first | assumption | omega) (by first | assumption | omega) (by first | assumption | omega) HE4 Hg5 HF6 HF7 hne hS HO) hZ (hw _ (wi 105 rfl)) (hw _ (wi 5 rfl)) (by decide) (by decide)) (g := (mkF m 6 #[sR a1, sR a2] [.null, (.int (3 : Int32)), (.int (0 : Int32)), (.ref a2), (.ref a1)])) rfl (by rw [hml]; rfl) (Steps.refl _) (a := a1) (argsL := [(.ref a2), (.int (0 : Int32)), (.int (3 : Int32)), .null]) (rest := []) (lenOf pd_23 rfl) rfl (Nat.le_refl _) (dt16 hby 6 rfl :) (fun _ _ => ⟨rfl, e0, (by decide : 0 + 2 ≤ _), (by decide : 0 + 75 ≤ _)⟩)
 dsimp only [Pt.U, Pt.locs, Pt.cells, Pt.slots] at X5 l5 y5 z5 st5 hQ5
 subst l5 y5 z5
 obtain ⟨b26, rfl, N5q, R7, R8, R9, R10⟩ := hQ5
 have N5 := Fr.app N0 N5q
 have K15 : Keep h0 T5.heap [a1] := (Keep.refl h0 [a1]).trans R7 (allS (Or.inl (wi 0 rfl)) all0)
 have sz_b26 : h0.size ≤ b26 := Nat.le_trans (Keep.refl h0 [a1]).1 R9
 refine own_fin X5 hlk (v := none) (fun _ => rfl) (by decide) (by decide) ?_ (fun fs hrt => pre0 _ ?_)
 ·
  show Q16_3 Z a1 a2 f cs sv dg h0 n0 _ T5.heap _
  exact ⟨b26, rfl, N5, K15, R8, sz_b26, R10⟩
 refine qaN X0 hx (dt16 hby 0 rfl :) rfl rfl ?_
 refine qaN X0 hx (dt16 hby 1 rfl :) rfl rfl ?_
 refine qc X0 hx (0 : Int32) (dt16 hby 2 rfl :) rfl ?_
 refine qaN X0 hx (dt16 hby 3 rfl :) rfl rfl ?_
 refine X0.arraylength hx (by rw [e0]; exact Ao1.1) (State.isArrayOf_alike hZ.alike Ao1.2.1) (g := (mkF m 4 #[sR a1, sR a2] [(.ref a2), (.int (0 : Int32)), (.ref a2), (.ref a1)])) rfl rfl (dt16 hby 4 rfl :) _ ?_
 rw [len_of So1 Mo1]
 show Steps p.tables e below (sq.setTop (mkF m 5 #[sR a1, sR a2] [(.int (3 : Int32)), (.int (0 : Int32)), (.ref a2), (.ref a1)])) _
 refine XS.aconstNull X0.here hx rfl (dt16 hby 5 rfl :) ?_
 refine st5.trans ?_
 exact X5.returnOut hx hR (dt16 hby 7 rfl :) hrt
theorem pn_7 : plainName "java/lang/AbstractStringBuilder" = true := by first | (simp [plainName, overriddenIn]; done) | decide +kernel
def Q14_0 (Z : State) (a1 : Addr) (cs : Int32) (sv : Value) (dg : Addr) (h0 : Heap) (n0 : Nat) (v : Option Value) (h : Heap) (L : List Loc) : Prop := v = some (.int (1 : Int32)) ∧ Fr n0 L ∧ h = h0
theorem rm14_0 (l : Launch) (Z : State) (a0 : Array Value) (hw : own_hw a0 Z) (a1 : Addr) (cs : Int32) (sv : Value) (dg : Addr) (h0 : Heap) (n0 : Nat) (Z0 : n0 ≤ h0.size) (HF0 : fBc Z h0 a1 (.int (0 : Int32))) (hS : (own_ST Z cs sv dg)) (HO : Old Z n0 h0) :
 own_M l ym14 [Jvm.Cond.code ym14 cm14 1 (some .boolean)] (⟨0, 0, 0, 0⟩ : Room) #[(.ref a1)] Z h0 (Q14_0 Z a1 cs sv dg h0 n0) := by
 refine own_go n0 (F := fun m => mkF m 0 #[sR a1] []) (plainFor_of_name pn_7) (fun m => rfl) ?_
 intro p e s m below meth c sq Pq hR hx hby hml hown hnm hZ hh hlk X0 e0 N0 pre0
 have F1 : Sta Z h0 "java/lang/String" "COMPACT_STRINGS" "Z" (.int cs) := (hS.1.1).ext HO.2
 obtain ⟨T2, X2, e2, st2⟩ := getS2 X0 hx hZ hown (host := "") (Or.inl (hw _ (wi 44 rfl))) Via.refl e0 F1 (g := (mkF m 0 #[sR a1] [])) rfl (dt14 hby 0 rfl :)
 have hc3_3 : ¬ (cs = (0 : Int32)) := hS.1.2
 obtain ⟨T4, X4, e4, st4⟩ := getF X2 hx hZ hown (host := "") (Or.inl (hw _ (wi 47 rfl))) Via.refl e2 HF0 (g := (mkF m 7 #[sR a1] [(.ref a1)])) rfl rfl (dt14 hby 3 rfl :)
 refine own_fin X4 hlk (v := some (.int (1 : Int32))) (own_nv hR) (by decide) (by decide) ?_ (fun fs hrt => pre0 _ ?_)
 ·
  show Q14_0 Z a1 cs sv dg h0 n0 _ T4.heap _
  rw [e4]
  exact ⟨rfl, N0, rfl⟩
 refine st2 _ ?_
 refine qfN X2 hx (dt14 hby 1 rfl :) ((if0 _ _).trans (feq hc3_3).1) ?_
 refine qaN X2 hx (dt14 hby 2 rfl :) rfl rfl ?_
 refine st4 _ ?_
 refine qfN X4 hx (dt14 hby 4 rfl :) ((if0 _ _).trans (teq (by decide : (0 : Int32) = (0 : Int32))).2) ?_
 refine qc X4 hx (1 : Int32) (dt14 hby 5 rfl :) rfl ?_
 refine qg X4 hx 14 18 (dt14 hby 6 rfl :) (by decide) (by decide) ?_
 exact retN X4 hx (t := .boolean) hR (by simp) (dt14 hby 7 rfl :) hrt
def Q14_1 (Z : State) (a1 : Addr) (cs : Int32) (sv : Value) (dg : Addr) (h0 : Heap) (n0 : Nat) (v : Option Value) (h : Heap) (L : List Loc) : Prop := v = some (.int (0 : Int32)) ∧ Fr n0 L ∧ h = h0
theorem rm14_1 (l : Launch) (Z : State) (a0 : Array Value) (hw : own_hw a0 Z) (a1 : Addr) (cs : Int32) (sv : Value) (dg : Addr) (h0 : Heap) (n0 : Nat) (Z0 : n0 ≤ h0.size) (HF0 : fBc Z h0 a1 (.int (1 : Int32))) (hS : (own_ST Z cs sv dg)) (HO : Old Z n0 h0) :
 own_M l ym14 [Jvm.Cond.code ym14 cm14 1 (some .boolean)] (⟨0, 0, 0, 0⟩ : Room) #[(.ref a1)] Z h0 (Q14_1 Z a1 cs sv dg h0 n0) := by
 refine own_go n0 (F := fun m => mkF m 0 #[sR a1] []) (plainFor_of_name pn_7) (fun m => rfl) ?_
 intro p e s m below meth c sq Pq hR hx hby hml hown hnm hZ hh hlk X0 e0 N0 pre0
 have F1 : Sta Z h0 "java/lang/String" "COMPACT_STRINGS" "Z" (.int cs) := (hS.1.1).ext HO.2
 obtain ⟨T2, X2, e2, st2⟩ := getS2 X0 hx hZ hown (host := "") (Or.inl (hw _ (wi 44 rfl))) Via.refl e0 F1 (g := (mkF m 0 #[sR a1] [])) rfl (dt14 hby 0 rfl :)
 have hc3_3 : ¬ (cs = (0 : Int32)) := hS.1.2
 obtain ⟨T4, X4, e4, st4⟩ := getF X2 hx hZ hown (host := "") (Or.inl (hw _ (wi 47 rfl))) Via.refl e2 HF0 (g := (mkF m 7 #[sR a1] [(.ref a1)])) rfl rfl (dt14 hby 3 rfl :)
 refine own_fin X4 hlk (v := some (.int (0 : Int32))) (own_nv hR) (by decide) (by decide) ?_ (fun fs hrt => pre0 _ ?_)
 ·
  show Q14_1 Z a1 cs sv dg h0 n0 _ T4.heap _
  rw [e4]
  exact ⟨rfl, N0, rfl⟩
 refine st2 _ ?_
 refine qfN X2 hx (dt14 hby 1 rfl :) ((if0 _ _).trans (feq hc3_3).1) ?_
 refine qaN X2 hx (dt14 hby 2 rfl :) rfl rfl ?_
 refine st4 _ ?_
 refine qfY X4 hx 10 17 (dt14 hby 4 rfl :) ((if0 _ _).trans (feq (by decide : ¬ ((1 : Int32) = (0 : Int32)))).2) (by decide) (by decide) ?_
 refine qc X4 hx (0 : Int32) (dt14 hby 8 rfl :) rfl ?_
 exact retN X4 hx (t := .boolean) hR (by simp) (dt14 hby 7 rfl :) hrt
def Q11 (Z : State) (a1 b : Addr) (h0 : Heap) (n0 : Nat) (v : Option Value) (h : Heap) (L : List Loc) : Prop := v = some (.ref b) ∧ Fr n0 L ∧ h = h0
theorem rm11 (l : Launch) (Z : State) (a0 : Array Value) (hw : own_hw a0 Z) (a1 b : Addr) (h0 : Heap) (n0 : Nat) (Z0 : n0 ≤ h0.size) (HF0 : fBv Z h0 a1 (.ref b)) :
 own_M l ym11 [Jvm.Cond.code ym11 cm11 1 (some (.array .byte))] (⟨0, 0, 0, 0⟩ : Room) #[(.ref a1)] Z h0 (Q11 Z a1 b h0 n0) := by
 refine own_go n0 (F := fun m => mkF m 0 #[sR a1] []) (plainFor_of_name pn_7) (fun m => rfl) ?_
 intro p e s m below meth c sq Pq hR hx hby hml hown hnm hZ hh hlk X0 e0 N0 pre0
 obtain ⟨T1, X1, e1, st1⟩ := getF X0 hx hZ hown (host := "") (Or.inl (hw _ (wi 45 rfl))) Via.refl e0 HF0 (g := (mkF m 1 #[sR a1] [(.ref a1)])) rfl rfl (dt11 hby 1 rfl :)
 refine own_fin X1 hlk (v := some (.ref b)) (own_nv hR) (by decide) (by decide) ?_ (fun fs hrt => pre0 _ ?_)
 ·
  show Q11 Z a1 b h0 n0 _ T1.heap _
  rw [e1]
  exact ⟨rfl, N0, rfl⟩
 refine qaN X0 hx (dt11 hby 0 rfl :) rfl rfl ?_
 refine st1 _ ?_
 exact retOut X1 hx hR rfl (Or.inr (Or.inr (Or.inr (Or.inr ⟨rfl, rfl, rfl⟩)))) (dt11 hby 2 rfl :) hrt
def Q13 (Z : State) (a1 : Addr) (n : Nat) (h0 : Heap) (n0 : Nat) (v : Option Value) (h : Heap) (L : List Loc) : Prop := v = some (.int (Int32.ofNat n)) ∧ Fr n0 L ∧ h = h0
theorem rm13 (l : Launch) (Z : State) (a0 : Array Value) (hw : own_hw a0 Z) (a1 : Addr) (n : Nat) (h0 : Heap) (n0 : Nat) (Z0 : n0 ≤ h0.size) (HF0 : fBn Z h0 a1 (.int (Int32.ofNat n))) :
 own_M l ym13 [Jvm.Cond.code ym13 cm13 1 (some .int)] (⟨0, 0, 0, 0⟩ : Room) #[(.ref a1)] Z h0 (Q13 Z a1 n h0 n0) := by
 refine own_go n0 (F := fun m => mkF m 0 #[sR a1] []) (plainFor_of_name pn_7) (fun m => rfl) ?_
 intro p e s m below meth c sq Pq hR hx hby hml hown hnm hZ hh hlk X0 e0 N0 pre0
 obtain ⟨T1, X1, e1, st1⟩ := getF X0 hx hZ hown (host := "") (Or.inl (hw _ (wi 77 rfl))) Via.refl e0 HF0 (g := (mkF m 1 #[sR a1] [(.ref a1)])) rfl rfl (dt13 hby 1 rfl :)
 refine own_fin X1 hlk (v := some (.int (Int32.ofNat n))) (own_nv hR) (by decide) (by decide) ?_ (fun fs hrt => pre0 _ ?_)
 ·
  show Q13 Z a1 n h0 n0 _ T1.heap _
  rw [e1]
  exact ⟨rfl, N0, rfl⟩
 refine qaN X0 hx (dt13 hby 0 rfl :) rfl rfl ?_
 refine st1 _ ?_
 exact retI X1 hx hR (dt13 hby 2 rfl :) hrt
def Q6 (Z : State) (a1 : Addr) (n : Nat) (cs : Int32) (sv : Value) (dg : Addr) (h0 : Heap) (n0 : Nat) (v : Option Value) (h : Heap) (L : List Loc) : Prop := ∃ (b : Addr), v = none ∧ Fr n0 L ∧ Keep h0 h [a1] ∧ eB Z h a1 ∧ n0 ≤ b ∧ h0.size ≤ b ∧ eA Z h b ∧ own_Af Z h b .byte (Int32.ofNat n) (fun _ => (0 : Int32)) ∧ fBv Z h a1 (.ref b) ∧ fBc Z h a1 (.int (0 : Int32)) ∧ fBn Z h a1 (.int (0 : Int32)) ∧ fBm Z h a1 (.int (0 : Int32))
theorem rm6 (l : Launch) (Z : State) (a0 : Array Value) (hw : own_hw a0 Z) (a1 : Addr) (n : Nat) (cs : Int32) (sv : Value) (dg : Addr) (h0 : Heap) (n0 : Nat) (Z0 : n0 ≤ h0.size) (HE0 : eB Z h0 a1) (Hg1 : n0 ≤ a1) (HF2 : fBv Z h0 a1 .null) (HF3 : fBc Z h0 a1 (.int (0 : Int32))) (HF4 : fBn Z h0 a1 (.int (0 : Int32))) (HF5 : fBm Z h0 a1 (.int (0 : Int32))) (h2 : (n ≤ 3)) (hS : (own_ST Z cs sv dg)) (HO : Old Z n0 h0) :
 own_M l ym6 [Jvm.Cond.code ym6 cm6 2 none] (⟨1, 1, 3, 12⟩ : Room) #[(.ref a1), (.int (Int32.ofNat n))] Z h0 (Q6 Z a1 n cs sv dg h0 n0) := by
 refine own_go n0 (F := fun m => mkF m 0 #[sR a1, sI (Int32.ofNat n)] []) (plainFor_of_name pn_7) (fun m => rfl) ?_
 intro p e s m below meth c sq Pq hR hx hby hml hown hnm hZ hh hlk X0 e0 N0 pre0
 obtain ⟨T1, X1, e1, st1⟩ := initO X0 hx hZ hown (hw _ (wi 41 rfl)) (hw _ (wi 42 rfl)) (hw _ (wi 43 rfl)) e0 (g := (mkF m 1 #[sR a1, sI (Int32.ofNat n)] [(.ref a1)])) rfl (by rw [hml]; rfl) rfl (dt6 hby 1 rfl :) (by decide) (W := 0) (Nat.le_refl _) (by decide)
 have F2 : Sta Z h0 "java/lang/String" "COMPACT_STRINGS" "Z" (.int cs) := (hS.1.1).ext HO.2
 obtain ⟨T3, X3, e3, st3⟩ := getS2 X1 hx hZ hown (host := "") (Or.inl (hw _ (wi 44 rfl))) Via.refl e1 F2 (g := (mkF m 4 #[sR a1, sI (Int32.ofNat n)] [])) rfl (dt6 hby 2 rfl :)
 have hc7_4 : ¬ (cs = (0 : Int32)) := hS.1.2
 obtain ⟨T5, h5, k5, X5, e5, E5, A5, Y5, st5⟩ := newPE X3 hx hZ (hw _ (wi 7 rfl)) e3 (g := (mkF m 12 #[sR a1, sI (Int32.ofNat n)] [(.int (Int32.ofNat n)), (.ref a1)])) rfl (dt6 hby 6 rfl :) rfl (own_i0 (by omega)) (cap := 3) (by rw [own_in (by omega)]; omega) (by decide) (by decide) (by decide) (ad := "[B") (by decide)
 obtain ⟨b5, g5⟩ : ∃ z, z = h0.size := ⟨_, rfl⟩
 rw [← g5] at A5 st5 Y5
 have ne6 : a1 ≠ b5 := Nat.ne_of_lt (Nat.lt_of_lt_of_le HE0.lt (Nat.le_of_eq g5.symm))
 have g_b5 : n0 ≤ b5 := Nat.le_trans Z0 (Nat.le_of_eq g5.symm)
 have sz_b5 : h0.size ≤ b5 := Nat.le_trans (Keep.refl h0 [a1]).1 (Nat.le_of_eq g5.symm)
 have F7 : eB Z h5 a1 := HE0.ext E5
 have F8 : fBv Z h5 a1 .null := HF2.ext E5
 have F9 : fBc Z h5 a1 (.int (0 : Int32)) := HF3.ext E5
 have F10 : fBn Z h5 a1 (.int (0 : Int32)) := HF4.ext E5
 have F11 : fBm Z h5 a1 (.int (0 : Int32)) := HF5.ext E5
 have K14 : Keep h0 h5 [a1] := (Keep.refl h0 [a1]).ext E5
 have V5 : own_Af Z h5 b5 .byte (Int32.ofNat n) (fun _ => 0) := own_Af.new A5 (own_i0 (by omega)) rfl
 obtain ⟨T15, h15, X15, e15, W15, st15⟩ := putF X5 hx hZ hown (host := "") (Or.inl (hw _ (wi 45 rfl))) Via.refl e5 F8 F7 (Or.inl (hw _ (wi 46 rfl))) (hw _ (wi 17 rfl)) (ty := (.array .byte)) (by decide) rfl rfl (g := (mkF m 14 #[sR a1, sI (Int32.ofNat n)] [(.ref b5), (.ref a1)])) rfl rfl (dt6 hby 7 rfl :)
 have Fw15 : fBv Z h15 a1 (.ref b5) := F8.same W15
 have F16 : eB Z h15 a1 := F7.wr W15
 have F17 : fBc Z h15 a1 (.int (0 : Int32)) := F9.other W15 (Or.inr (slot_ne (Or.inl (hw _ (wi 48 rfl))) (Or.inl (hw _ (wi 46 rfl))) (by decide) (t := .byte) (t' := (.array .byte)) (by decide) (by decide)))
 have F18 : fBn Z h15 a1 (.int (0 : Int32)) := F10.other W15 (Or.inr (slot_ne (Or.inl (hw _ (wi 78 rfl))) (Or.inl (hw _ (wi 46 rfl))) (by decide) (t := .int) (t' := (.array .byte)) (by decide) (by decide)))
 have F19 : fBm Z h15 a1 (.int (0 : Int32)) := F11.other W15 (Or.inr (slot_ne (Or.inl (hw _ (wi 224 rfl))) (Or.inl (hw _ (wi 46 rfl))) (by decide) (t := .boolean) (t' := (.array .byte)) (by decide) (by decide)))
 have F21 : eA Z h15 b5 := Y5.wr W15
 have F22 : own_Af Z h15 b5 .byte (Int32.ofNat n) (fun _ => (0 : Int32)) := V5.keep (Keep.of_wr W15) (ninS (Ne.symm ne6) nin0)
 have K24 : Keep h0 h15 [a1] := K14.wr W15 (Or.inl (wi 0 rfl))
 have N25 := Fr.snoc X15 N0 Hg1
 obtain ⟨T26, h26, X26, e26, W26, st26⟩ := putFN X15 hx hZ hown (hw _ (wi 47 rfl)) Via.refl e15 F17 F16 (Or.inl (hw _ (wi 48 rfl))) (hw _ (wi 17 rfl)) (ty := .byte) (v' := (.int (0 : Int32))) (by decide) rfl (by decide) (g := (mkF m 19 #[sR a1, sI (Int32.ofNat n)] [(.int (0 : Int32)), (.ref a1)])) rfl rfl (dt6 hby 10 rfl :)
 have Fw26 : fBc Z h26 a1 (.int (0 : Int32)) := F17.same W26
 have F27 : eB Z h26 a1 := F16.wr W26
 have F28 : fBn Z h26 a1 (.int (0 : Int32)) := F18.other W26 (Or.inr (slot_ne (Or.inl (hw _ (wi 78 rfl))) (Or.inl (hw _ (wi 48 rfl))) (by decide) (t := .int) (t' := .byte) (by decide) (by decide)))
 have F29 : fBm Z h26 a1 (.int (0 : Int32)) := F19.other W26 (Or.inr (slot_ne (Or.inl (hw _ (wi 224 rfl))) (Or.inl (hw _ (wi 48 rfl))) (by decide) (t := .boolean) (t' := .byte) (by decide) (by decide)))
 have F31 : eA Z h26 b5 := F21.wr W26
 have F32 : own_Af Z h26 b5 .byte (Int32.ofNat n) (fun _ => (0 : Int32)) := F22.keep (Keep.of_wr W26) (ninS (Ne.symm ne6) nin0)
 have F33 : fBv Z h26 a1 (.ref b5) := Fw15.other W26 (Or.inr (slot_ne (Or.inl (hw _ (wi 46 rfl))) (Or.inl (hw _ (wi 48 rfl))) (by decide) (t := (.array .byte)) (t' := .byte) (by decide) (by decide)))
 have K35 : Keep h0 h26 [a1] := K24.wr W26 (Or.inl (wi 0 rfl))
 have N36 := Fr.snoc X26 N25 Hg1
 refine own_fin X26 hlk (v := none) (fun _ => rfl) (by decide) (by decide) ?_ (fun fs hrt => pre0 _ ?_)
 ·
  show Q6 Z a1 n cs sv dg h0 n0 _ T26.heap _
  rw [e26]
  exact ⟨b5, rfl, N36, K35, F27, g_b5, sz_b5, F31, F32, F33, Fw26, F28, F29⟩
 refine qaN X0 hx (dt6 hby 0 rfl :) rfl rfl ?_
 refine st1 _ ?_
 refine st3 _ ?_
 refine qfN X3 hx (dt6 hby 3 rfl :) ((if0 _ _).trans (feq hc7_4).1) ?_
 refine qaN X3 hx (dt6 hby 4 rfl :) rfl rfl ?_
 refine qiN X3 hx (dt6 hby 5 rfl :) rfl ?_
 refine st5 _ ?_
 refine st15 _ ?_
 refine qaN X15 hx (dt6 hby 8 rfl :) rfl rfl ?_
 refine qc X15 hx (0 : Int32) (dt6 hby 9 rfl :) rfl ?_
 refine st26 _ ?_
 refine qg X26 hx 22 38 (dt6 hby 11 rfl :) (by decide) (by decide) ?_
 exact X26.returnOut hx hR (dt6 hby 12 rfl :) hrt
theorem pn_8 : plainName "java/lang/StringBuilder" = true := by first | (simp [plainName, overriddenIn]; done) | decide +kernel
theorem pd_24 : parseMethodDescriptor "(I)V" = some ⟨[.int], none⟩ := by decide +kernel
def Q5 (Z : State) (a1 : Addr) (n : Nat) (cs : Int32) (sv : Value) (dg : Addr) (h0 : Heap) (n0 : Nat) (v : Option Value) (h : Heap) (L : List Loc) : Prop := ∃ (b : Addr), v = none ∧ Fr n0 L ∧ Keep h0 h [a1] ∧ eB Z h a1 ∧ n0 ≤ b ∧ h0.size ≤ b ∧ eA Z h b ∧ own_Af Z h b .byte (Int32.ofNat n) (fun _ => (0 : Int32)) ∧ fBv Z h a1 (.ref b) ∧ fBc Z h a1 (.int (0 : Int32)) ∧ fBn Z h a1 (.int (0 : Int32)) ∧ fBm Z h a1 (.int (0 : Int32))
theorem rm5 (l : Launch) (Z : State) (a0 : Array Value) (hw : own_hw a0 Z) (a1 : Addr) (n : Nat) (cs : Int32) (sv : Value) (dg : Addr) (h0 : Heap) (n0 : Nat) (Z0 : n0 ≤ h0.size) (HE0 : eB Z h0 a1) (Hg1 : n0 ≤ a1) (HF2 : fBv Z h0 a1 .null) (HF3 : fBc Z h0 a1 (.int (0 : Int32))) (HF4 : fBn Z h0 a1 (.int (0 : Int32))) (HF5 : fBm Z h0 a1 (.int (0 : Int32))) (h2 : (n ≤ 3)) (hS : (own_ST Z cs sv dg)) (HO : Old Z n0 h0) :
 own_M l ym5 [Jvm.Cond.code ym5 cm5 2 none] (⟨2, 1, 3, 25⟩ : Room) #[(.ref a1), (.int (Int32.ofNat n))] Z h0 (Q5 Z a1 n cs sv dg h0 n0) := by
 refine own_go n0 (F := fun m => mkF m 0 #[sR a1, sI (Int32.ofNat n)] []) (plainFor_of_name pn_8) (fun m => rfl) ?_
 intro p e s m below meth c sq Pq hR hx hby hml hown hnm hZ hh hlk X0 e0 N0 pre0
 obtain ⟨_, _, ⟨T2, L2, k2, n2⟩, -, X2, ⟨Lc2, hQ2, l2, y2, z2⟩, st2⟩ := X0.specialBack hx (y := ym6) rfl hown (mw hZ hw 35 rfl) (mw hZ hw 36 rfl) (mw hZ hw 40 rfl) (by decide) (backOf (W := 0) (rm6 l Z a0 hw a1 n cs sv dg h0 n0 Z0 HE0 Hg1 HF2 HF3 HF4 HF5 (by omega) hS HO) hZ (hw _ (wi 40 rfl)) (hw _ (wi 39 rfl)) (by decide) (by decide)) (g := (mkF m 2 #[sR a1, sI (Int32.ofNat n)] [(.int (Int32.ofNat n)), (.ref a1)])) rfl (by rw [hml]; rfl) (Steps.refl _) (a := a1) (argsL := [(.int (Int32.ofNat n))]) (rest := []) (lenOf pd_24 rfl) rfl (Nat.le_refl _) (dt5 hby 2 rfl :) (fun _ _ => ⟨rfl, e0, (by decide : 0 + 1 ≤ _), (by decide : 0 + 3 ≤ _)⟩)
 dsimp only [Pt.U, Pt.locs, Pt.cells, Pt.slots] at X2 l2 y2 z2 st2 hQ2
 subst l2 y2 z2
 obtain ⟨b3, rfl, N2q, R4, R5, R6, R7, R8, R9, R10, R11, R12, R13⟩ := hQ2
 have N2 := Fr.app N0 N2q
 have K17 : Keep h0 T2.heap [a1] := (Keep.refl h0 [a1]).trans R4 (allS (Or.inl (wi 0 rfl)) all0)
 have sz_b3 : h0.size ≤ b3 := Nat.le_trans (Keep.refl h0 [a1]).1 R7
 refine own_fin X2 hlk (v := none) (fun _ => rfl) (by decide) (by decide) ?_ (fun fs hrt => pre0 _ ?_)
 ·
  show Q5 Z a1 n cs sv dg h0 n0 _ T2.heap _
  exact ⟨b3, rfl, N2, K17, R5, R6, sz_b3, R8, R9, R10, R11, R12, R13⟩
 refine qaN X0 hx (dt5 hby 0 rfl :) rfl rfl ?_
 refine qiN X0 hx (dt5 hby 1 rfl :) rfl ?_
 refine st2.trans ?_
 exact X2.returnOut hx hR (dt5 hby 3 rfl :) hrt
theorem own_max {x y : Nat} {r : Int32} (hx : x < 100000) (hy : y < 100000) (q : ((Int32.ofNat y).toInt ≤ (Int32.ofNat x).toInt ∧ r = Int32.ofNat x) ∨ ((Int32.ofNat x).toInt ≤ (Int32.ofNat y).toInt ∧ r = Int32.ofNat y)) : ∃ n, r = Int32.ofNat n ∧ ((x ≤ y ∧ n = y) ∨ (y ≤ x ∧ n = x)) := by
  rcases q with ⟨q, rfl⟩ | ⟨q, rfl⟩ <;> rw [own_i hx, own_i hy] at q
  · exact ⟨x, rfl, by omega⟩
  · exact ⟨y, rfl, by omega⟩
theorem own_lt31 {n : Nat} (h : n < 100000) : ¬ ((2147483639 : Int32) < Int32.ofNat n) := by
  rw [Int32.lt_iff_toInt_lt, own_i h]
  have e : (2147483639 : Int32).toInt = 2147483639 := rfl
  omega
theorem own_ne31 {n : Nat} (h : n < 100000) : ¬ (Int32.ofNat n = (2147483647 : Int32)) := by
  rw [← Int32.toInt_inj, own_i h]
  have e : (2147483647 : Int32).toInt = 2147483647 := rfl
  omega
theorem pn_9 : plainName "jdk/internal/util/ArraysSupport" = true := by first | (simp [plainName, overriddenIn]; done) | decide +kernel
def Q60 (Z : State) (oo x y : Nat) (h0 : Heap) (n0 : Nat) (v : Option Value) (h : Heap) (L : List Loc) : Prop := ∃ (r : Nat), v = some (.int (Int32.ofNat r)) ∧ Fr n0 L ∧ ((x ≤ y ∧ r = oo + y) ∨ (y ≤ x ∧ r = oo + x)) ∧ h = h0
theorem rm60 (l : Launch) (Z : State) (a0 : Array Value) (hw : own_hw a0 Z) (oo x y : Nat) (h0 : Heap) (n0 : Nat) (Z0 : n0 ≤ h0.size) (h1 : (x ≤ 100)) (h2 : (y ≤ 100)) (h3 : (oo ≤ 100)) (h4 : (0 < x)) :
 own_M l ym60 [Jvm.Cond.code ym60 cm60 4 (some .int)] (⟨1, 0, 0, 14⟩ : Room) #[(.int (Int32.ofNat oo)), (.int (Int32.ofNat x)), (.int (Int32.ofNat y))] Z h0 (Q60 Z oo x y h0 n0) := by
 refine own_go n0 (F := fun m => mkF m 0 #[sI (Int32.ofNat oo), sI (Int32.ofNat x), sI (Int32.ofNat y), .unset] []) (plainFor_of_name pn_9) (fun m => rfl) ?_
 intro p e s m below meth c sq Pq hR hx hby hml hown hnm hZ hh hlk X0 e0 N0 pre0
 obtain ⟨_, _, ⟨T1, L1, k1, n1⟩, -, X1, ⟨Lc1, hQ1, l1, y1, z1⟩, st1⟩ := Jvm.LawKit.callS X0 hx (y := ym55) hown (mw hZ hw 278 rfl) (mw hZ hw 248 rfl) (mw hZ hw 249 rfl) (mw hZ hw 250 rfl) (by decide) (backOf (W := 1) (rm55 l Z a0 hw (Int32.ofNat x) (Int32.ofNat y) h0 n0 Z0 ) hZ (hw _ (wi 250 rfl)) (hw _ (wi 249 rfl)) (by decide) (by decide)) (g := (mkF m 3 #[sI (Int32.ofNat oo), sI (Int32.ofNat x), sI (Int32.ofNat y), .unset] [(.int (Int32.ofNat y)), (.int (Int32.ofNat x)), (.int (Int32.ofNat oo))])) rfl (by rw [hml]; rfl) (argsL := [(.int (Int32.ofNat x)), (.int (Int32.ofNat y))]) (rest := [(.int (Int32.ofNat oo))]) (lenOf pd_10 rfl) rfl (Nat.le_refl _) (dt60 hby 3 rfl :) (fun _ _ => ⟨rfl, e0, (by decide : 0 + 0 ≤ _), (by decide : 0 + 0 ≤ _)⟩)
 dsimp only [Pt.U, Pt.locs, Pt.cells, Pt.slots] at X1 l1 y1 z1 st1 hQ1
 subst l1 y1 z1
 obtain ⟨r2, rfl, N1q, R3, R4⟩ := hQ1
 have N1 := Fr.app N0 N1q
 obtain ⟨r, hr, hr2⟩ := own_max (by omega) (by omega) R3
 have hc10_5 : (0 : Int32) < (Int32.ofNat (oo + r)) := own_ilt (m := 0) (by omega) (by omega) (by omega)
 have hc16_6 : ¬ ((2147483639 : Int32) < (Int32.ofNat (oo + r))) := own_lt31 (by omega)
 refine own_fin X1 hlk (v := some (.int (Int32.ofNat (oo + r)))) (own_nv hR) (by decide) (by decide) ?_ (fun fs hrt => pre0 _ ?_)
 ·
  show Q60 Z oo x y h0 n0 _ T1.heap _
  rw [R4]
  exact ⟨(oo + r), rfl, N1, by omega, rfl⟩
 refine qiN X0 hx (dt60 hby 0 rfl :) rfl ?_
 refine qiN X0 hx (dt60 hby 1 rfl :) rfl ?_
 refine qiN X0 hx (dt60 hby 2 rfl :) rfl ?_
 refine st1 _ ?_
 rw [show r2 = (Int32.ofNat r) from hr]
 refine XS.iadd X1.here hx rfl (dt60 hby 4 rfl :) rfl ?_
 rw [show ((Int32.ofNat oo) + (Int32.ofNat r)) = (Int32.ofNat (oo + r)) from own_iadd _ _]
 refine qsN X1 hx (l' := #[sI (Int32.ofNat oo), sI (Int32.ofNat x), sI (Int32.ofNat y), sI (Int32.ofNat (oo + r))]) (dt60 hby 5 rfl :) rfl ?_
 refine qc X1 hx (0 : Int32) (dt60 hby 6 rfl :) rfl ?_
 refine qiN X1 hx (dt60 hby 7 rfl :) rfl ?_
 refine qmN X1 hx (dt60 hby 8 rfl :) (tlt hc10_5).2.1 ?_
 refine qiN X1 hx (dt60 hby 9 rfl :) rfl ?_
 refine X1.ldcInt hx hown (mw hZ hw 279 rfl) (g := (mkF m 14 #[sI (Int32.ofNat oo), sI (Int32.ofNat x), sI (Int32.ofNat y), sI (Int32.ofNat (oo + r))] [(.int (Int32.ofNat (oo + r)))])) rfl (dt60 hby 10 rfl :) _ ?_
 refine qmN X1 hx (dt60 hby 11 rfl :) (flt hc16_6).2.2.1 ?_
 refine qiN X1 hx (dt60 hby 12 rfl :) rfl ?_
 exact retI X1 hx hR (dt60 hby 13 rfl :) hrt
theorem own_ncap {mc LL r : Nat} (h1 : LL < mc) (h2 : mc ≤ 18) (q : (2 * mc - 2 * LL ≤ 2 * LL + 4 ∧ r = 2 * LL + (2 * LL + 4)) ∨ (2 * LL + 4 ≤ 2 * mc - 2 * LL ∧ r = 2 * LL + (2 * mc - 2 * LL))) : ∃ r1, r = 2 * r1 ∧ mc ≤ r1 ∧ r1 ≤ 36 := by
  rcases q with ⟨q, rfl⟩ | ⟨q, rfl⟩
  · exact ⟨2 * LL + 2, by omega, by omega, by omega⟩
  · exact ⟨mc, by omega, by omega, by omega⟩
def Q59_0 (Z : State) (a1 : Addr) (mc LL : Nat) (b : Addr) (f : Nat → Int32) (h0 : Heap) (n0 : Nat) (v : Option Value) (h : Heap) (L : List Loc) : Prop := ∃ (r : Nat), v = some (.int (Int32.ofNat r)) ∧ Fr n0 L ∧ (mc ≤ r ∧ r ≤ 36) ∧ h = h0
theorem rm59_0 (l : Launch) (Z : State) (a0 : Array Value) (hw : own_hw a0 Z) (a1 : Addr) (mc LL : Nat) (b : Addr) (f : Nat → Int32) (h0 : Heap) (n0 : Nat) (Z0 : n0 ≤ h0.size) (HE0 : eB Z h0 a1) (HF1 : fBv Z h0 a1 (.ref b)) (HF2 : fBc Z h0 a1 (.int (0 : Int32))) (HB3 : own_Af Z h0 b .byte (Int32.ofNat LL) f) (h1 : (LL < mc)) (h2 : (mc ≤ 18)) :
 own_M l ym59 [Jvm.Cond.code ym59 cm59 6 (some .int)] (⟨2, 0, 0, 29⟩ : Room) #[(.ref a1), (.int (Int32.ofNat mc))] Z h0 (Q59_0 Z a1 mc LL b f h0 n0) := by
 refine own_go n0 (F := fun m => mkF m 0 #[sR a1, sI (Int32.ofNat mc), .unset, .unset, .unset, .unset] []) (plainFor_of_name pn_7) (fun m => rfl) ?_
 intro p e s m below meth c sq Pq hR hx hby hml hown hnm hZ hh hlk X0 e0 N0 pre0
 obtain ⟨T1, X1, e1, st1⟩ := getF X0 hx hZ hown (host := "") (Or.inl (hw _ (wi 45 rfl))) Via.refl e0 HF1 (g := (mkF m 1 #[sR a1, sI (Int32.ofNat mc), .unset, .unset, .unset, .unset] [(.ref a1)])) rfl rfl (dt59 hby 1 rfl :)
 obtain ⟨co2, Ao2, So2, Mo2, Bo2, Go2⟩ := HB3.op
 obtain ⟨T3, X3, e3, st3⟩ := getF X1 hx hZ hown (host := "") (Or.inl (hw _ (wi 47 rfl))) Via.refl e1 HF2 (g := (mkF m 8 #[sR a1, sI (Int32.ofNat mc), sI (Int32.ofNat LL), .unset, .unset, .unset] [(.ref a1), (.int (Int32.ofNat mc))])) rfl rfl (dt59 hby 6 rfl :)
 obtain ⟨T4, X4, e4, st4⟩ := getF X3 hx hZ hown (host := "") (Or.inl (hw _ (wi 47 rfl))) Via.refl e3 HF2 (g := (mkF m 24 #[sR a1, sI (Int32.ofNat mc), sI (Int32.ofNat LL), sI (Int32.ofNat mc), sI (Int32.ofNat (mc - LL)), .unset] [(.ref a1), (.int (2 : Int32)), (.int (Int32.ofNat LL)), (.int (Int32.ofNat (mc - LL))), (.int (Int32.ofNat LL))])) rfl rfl (dt59 hby 18 rfl :)
 obtain ⟨_, _, ⟨T9, L9, k9, n9⟩, -, X9, ⟨Lc9, hQ9, l9, y9, z9⟩, st9⟩ := Jvm.LawKit.callS X4 hx (y := ym60) hown (mw hZ hw 274 rfl) (mw hZ hw 275 rfl) (mw hZ hw 276 rfl) (mw hZ hw 277 rfl) (by decide) (backOf (W := 0) (rm60 l Z a0 hw LL (mc - LL) (LL + 2) h0 n0 Z0 (by omega) (by omega) (by omega) (by omega)) hZ (hw _ (wi 277 rfl)) (hw _ (wi 276 rfl)) (by decide) (by decide)) (g := (mkF m 29 #[sR a1, sI (Int32.ofNat mc), sI (Int32.ofNat LL), sI (Int32.ofNat mc), sI (Int32.ofNat (mc - LL)), .unset] [(.int (Int32.ofNat (LL + 2))), (.int (Int32.ofNat (mc - LL))), (.int (Int32.ofNat LL))])) rfl (by rw [hml]; rfl) (argsL := [(.int (Int32.ofNat LL)), (.int (Int32.ofNat (mc - LL))), (.int (Int32.ofNat (LL + 2)))]) (rest := []) (lenOf pd_5 rfl) rfl (Nat.le_refl _) (dt59 hby 21 rfl :) (fun _ _ => ⟨rfl, e4, (by decide : 0 + 0 ≤ _), (by decide : 0 + 0 ≤ _)⟩)
 dsimp only [Pt.U, Pt.locs, Pt.cells, Pt.slots] at X9 l9 y9 z9 st9 hQ9
 subst l9 y9 z9
 obtain ⟨r10, rfl, N9q, R11, R12⟩ := hQ9
 have N9 := Fr.app N0 N9q
 have hr := R11
 obtain ⟨r1, hr1, hr2⟩ : ∃ r1, r10 = r1 ∧ mc ≤ r1 ∧ r1 ≤ 36 := ⟨_, rfl, by omega⟩
 have hc38_13 : ¬ ((Int32.ofNat r1) = (2147483647 : Int32)) := own_ne31 (by omega)
 obtain ⟨T14, X14, e14, st14⟩ := getF X9 hx hZ hown (host := "") (Or.inl (hw _ (wi 47 rfl))) Via.refl R12 HF2 (g := (mkF m 54 #[sR a1, sI (Int32.ofNat mc), sI (Int32.ofNat LL), sI (Int32.ofNat mc), sI (Int32.ofNat (mc - LL)), sI (Int32.ofNat r1)] [(.ref a1), (.int (Int32.ofNat r1))])) rfl rfl (dt59 hby 28 rfl :)
 refine own_fin X14 hlk (v := some (.int (Int32.ofNat r1))) (own_nv hR) (by decide) (by decide) ?_ (fun fs hrt => pre0 _ ?_)
 ·
  show Q59_0 Z a1 mc LL b f h0 n0 _ T14.heap _
  rw [e14]
  exact ⟨r1, rfl, N9, hr2, rfl⟩
 refine qaN X0 hx (dt59 hby 0 rfl :) rfl rfl ?_
 refine st1 _ ?_
 refine X1.arraylength hx (by rw [e1]; exact Ao2.1) (State.isArrayOf_alike hZ.alike Ao2.2.1) (g := (mkF m 4 #[sR a1, sI (Int32.ofNat mc), .unset, .unset, .unset, .unset] [(.ref b)])) rfl rfl (dt59 hby 2 rfl :) _ ?_
 rw [len_of So2 Mo2]
 refine qsN X1 hx (l' := #[sR a1, sI (Int32.ofNat mc), sI (Int32.ofNat LL), .unset, .unset, .unset]) (dt59 hby 3 rfl :) rfl ?_
 refine qiN X1 hx (dt59 hby 4 rfl :) rfl ?_
 refine qaN X1 hx (dt59 hby 5 rfl :) rfl rfl ?_
 refine st3 _ ?_
 refine XS.ishl X3.here hx rfl (dt59 hby 7 rfl :) rfl ?_
 rw [show ((Int32.ofNat mc) <<< ((0 : Int32) &&& 31)) = (Int32.ofNat mc) from own_shl0 _]
 refine qsN X3 hx (l' := #[sR a1, sI (Int32.ofNat mc), sI (Int32.ofNat LL), sI (Int32.ofNat mc), .unset, .unset]) (dt59 hby 8 rfl :) rfl ?_
 refine qiN X3 hx (dt59 hby 9 rfl :) rfl ?_
 refine qiN X3 hx (dt59 hby 10 rfl :) rfl ?_
 refine XS.isub X3.here hx rfl (dt59 hby 11 rfl :) rfl ?_
 rw [show ((Int32.ofNat mc) - (Int32.ofNat LL)) = (Int32.ofNat (mc - LL)) from own_isub (by omega)]
 refine qs X3 hx (l' := #[sR a1, sI (Int32.ofNat mc), sI (Int32.ofNat LL), sI (Int32.ofNat mc), sI (Int32.ofNat (mc - LL)), .unset]) (dt59 hby 12 rfl :) rfl ?_
 refine qiN X3 hx (dt59 hby 13 rfl :) rfl ?_
 refine qi X3 hx (dt59 hby 14 rfl :) rfl ?_
 refine qiN X3 hx (dt59 hby 15 rfl :) rfl ?_
 refine qc X3 hx (2 : Int32) (dt59 hby 16 rfl :) rfl ?_
 refine qaN X3 hx (dt59 hby 17 rfl :) rfl rfl ?_
 refine st4 _ ?_
 refine XS.ishl X4.here hx rfl (dt59 hby 19 rfl :) rfl ?_
 rw [show ((2 : Int32) <<< ((0 : Int32) &&& 31)) = (Int32.ofNat 2) from by decide]
 refine XS.iadd X4.here hx rfl (dt59 hby 20 rfl :) rfl ?_
 rw [show ((Int32.ofNat LL) + (Int32.ofNat 2)) = (Int32.ofNat (LL + 2)) from own_iadd _ _]
 refine st9 _ ?_
 rw [show (Int32.ofNat r10) = (Int32.ofNat r1) from own_ieq hr1]
 refine qs X9 hx (l' := #[sR a1, sI (Int32.ofNat mc), sI (Int32.ofNat LL), sI (Int32.ofNat mc), sI (Int32.ofNat (mc - LL)), sI (Int32.ofNat r1)]) (dt59 hby 22 rfl :) rfl ?_
 refine qi X9 hx (dt59 hby 23 rfl :) rfl ?_
 refine X9.ldcInt hx hown (mw hZ hw 280 rfl) (g := (mkF m 36 #[sR a1, sI (Int32.ofNat mc), sI (Int32.ofNat LL), sI (Int32.ofNat mc), sI (Int32.ofNat (mc - LL)), sI (Int32.ofNat r1)] [(.int (Int32.ofNat r1))])) rfl (dt59 hby 24 rfl :) _ ?_
 refine qmY X9 hx 38 51 (dt59 hby 25 rfl :) (feq hc38_13).2 (by decide) (by decide) ?_
 refine qi X9 hx (dt59 hby 26 rfl :) rfl ?_
 refine qaN X9 hx (dt59 hby 27 rfl :) rfl rfl ?_
 refine st14 _ ?_
 refine XS.ishr X14.here hx rfl (dt59 hby 29 rfl :) rfl ?_
 rw [show ((Int32.ofNat r1) >>> ((0 : Int32) &&& 31)) = (Int32.ofNat r1) from own_shr0 _]
 exact retI X14 hx hR (dt59 hby 30 rfl :) hrt
def Q59_1 (Z : State) (a1 : Addr) (mc LL : Nat) (b : Addr) (f : Nat → Int32) (h0 : Heap) (n0 : Nat) (v : Option Value) (h : Heap) (L : List Loc) : Prop := ∃ (r : Nat), v = some (.int (Int32.ofNat r)) ∧ Fr n0 L ∧ (mc ≤ r ∧ r ≤ 36) ∧ h = h0
theorem rm59_1 (l : Launch) (Z : State) (a0 : Array Value) (hw : own_hw a0 Z) (a1 : Addr) (mc LL : Nat) (b : Addr) (f : Nat → Int32) (h0 : Heap) (n0 : Nat) (Z0 : n0 ≤ h0.size) (HE0 : eB Z h0 a1) (HF1 : fBv Z h0 a1 (.ref b)) (HF2 : fBc Z h0 a1 (.int (1 : Int32))) (HB3 : own_Af Z h0 b .byte (Int32.ofNat (2 * LL)) f) (h1 : (LL < mc)) (h2 : (mc ≤ 18)) :
 own_M l ym59 [Jvm.Cond.code ym59 cm59 6 (some .int)] (⟨2, 0, 0, 29⟩ : Room) #[(.ref a1), (.int (Int32.ofNat mc))] Z h0 (Q59_1 Z a1 mc LL b f h0 n0) := by
 refine own_go n0 (F := fun m => mkF m 0 #[sR a1, sI (Int32.ofNat mc), .unset, .unset, .unset, .unset] []) (plainFor_of_name pn_7) (fun m => rfl) ?_
 intro p e s m below meth c sq Pq hR hx hby hml hown hnm hZ hh hlk X0 e0 N0 pre0
 obtain ⟨T1, X1, e1, st1⟩ := getF X0 hx hZ hown (host := "") (Or.inl (hw _ (wi 45 rfl))) Via.refl e0 HF1 (g := (mkF m 1 #[sR a1, sI (Int32.ofNat mc), .unset, .unset, .unset, .unset] [(.ref a1)])) rfl rfl (dt59 hby 1 rfl :)
 obtain ⟨co2, Ao2, So2, Mo2, Bo2, Go2⟩ := HB3.op
 obtain ⟨T3, X3, e3, st3⟩ := getF X1 hx hZ hown (host := "") (Or.inl (hw _ (wi 47 rfl))) Via.refl e1 HF2 (g := (mkF m 8 #[sR a1, sI (Int32.ofNat mc), sI (Int32.ofNat (2 * LL)), .unset, .unset, .unset] [(.ref a1), (.int (Int32.ofNat mc))])) rfl rfl (dt59 hby 6 rfl :)
 obtain ⟨T4, X4, e4, st4⟩ := getF X3 hx hZ hown (host := "") (Or.inl (hw _ (wi 47 rfl))) Via.refl e3 HF2 (g := (mkF m 24 #[sR a1, sI (Int32.ofNat mc), sI (Int32.ofNat (2 * LL)), sI (Int32.ofNat (2 * mc)), sI (Int32.ofNat ((2 * mc) - (2 * LL))), .unset] [(.ref a1), (.int (2 : Int32)), (.int (Int32.ofNat (2 * LL))), (.int (Int32.ofNat ((2 * mc) - (2 * LL)))), (.int (Int32.ofNat (2 * LL)))])) rfl rfl (dt59 hby 18 rfl :)
 obtain ⟨_, _, ⟨T9, L9, k9, n9⟩, -, X9, ⟨Lc9, hQ9, l9, y9, z9⟩, st9⟩ := Jvm.LawKit.callS X4 hx (y := ym60) hown (mw hZ hw 274 rfl) (mw hZ hw 275 rfl) (mw hZ hw 276 rfl) (mw hZ hw 277 rfl) (by decide) (backOf (W := 0) (rm60 l Z a0 hw (2 * LL) ((2 * mc) - (2 * LL)) ((2 * LL) + 4) h0 n0 Z0 (by omega) (by omega) (by omega) (by omega)) hZ (hw _ (wi 277 rfl)) (hw _ (wi 276 rfl)) (by decide) (by decide)) (g := (mkF m 29 #[sR a1, sI (Int32.ofNat mc), sI (Int32.ofNat (2 * LL)), sI (Int32.ofNat (2 * mc)), sI (Int32.ofNat ((2 * mc) - (2 * LL))), .unset] [(.int (Int32.ofNat ((2 * LL) + 4))), (.int (Int32.ofNat ((2 * mc) - (2 * LL)))), (.int (Int32.ofNat (2 * LL)))])) rfl (by rw [hml]; rfl) (argsL := [(.int (Int32.ofNat (2 * LL))), (.int (Int32.ofNat ((2 * mc) - (2 * LL)))), (.int (Int32.ofNat ((2 * LL) + 4)))]) (rest := []) (lenOf pd_5 rfl) rfl (Nat.le_refl _) (dt59 hby 21 rfl :) (fun _ _ => ⟨rfl, e4, (by decide : 0 + 0 ≤ _), (by decide : 0 + 0 ≤ _)⟩)
 dsimp only [Pt.U, Pt.locs, Pt.cells, Pt.slots] at X9 l9 y9 z9 st9 hQ9
 subst l9 y9 z9
 obtain ⟨r10, rfl, N9q, R11, R12⟩ := hQ9
 have N9 := Fr.app N0 N9q
 have hr := R11
 obtain ⟨r1, hr1, hr2⟩ : ∃ r1, r10 = 2 * r1 ∧ mc ≤ r1 ∧ r1 ≤ 36 := own_ncap h1 h2 hr
 have hc38_13 : ¬ ((Int32.ofNat (2 * r1)) = (2147483647 : Int32)) := own_ne31 (by omega)
 obtain ⟨T14, X14, e14, st14⟩ := getF X9 hx hZ hown (host := "") (Or.inl (hw _ (wi 47 rfl))) Via.refl R12 HF2 (g := (mkF m 54 #[sR a1, sI (Int32.ofNat mc), sI (Int32.ofNat (2 * LL)), sI (Int32.ofNat (2 * mc)), sI (Int32.ofNat ((2 * mc) - (2 * LL))), sI (Int32.ofNat (2 * r1))] [(.ref a1), (.int (Int32.ofNat (2 * r1)))])) rfl rfl (dt59 hby 28 rfl :)
 refine own_fin X14 hlk (v := some (.int (Int32.ofNat r1))) (own_nv hR) (by decide) (by decide) ?_ (fun fs hrt => pre0 _ ?_)
 ·
  show Q59_1 Z a1 mc LL b f h0 n0 _ T14.heap _
  rw [e14]
  exact ⟨r1, rfl, N9, hr2, rfl⟩
 refine qaN X0 hx (dt59 hby 0 rfl :) rfl rfl ?_
 refine st1 _ ?_
 refine X1.arraylength hx (by rw [e1]; exact Ao2.1) (State.isArrayOf_alike hZ.alike Ao2.2.1) (g := (mkF m 4 #[sR a1, sI (Int32.ofNat mc), .unset, .unset, .unset, .unset] [(.ref b)])) rfl rfl (dt59 hby 2 rfl :) _ ?_
 rw [len_of So2 Mo2]
 refine qsN X1 hx (l' := #[sR a1, sI (Int32.ofNat mc), sI (Int32.ofNat (2 * LL)), .unset, .unset, .unset]) (dt59 hby 3 rfl :) rfl ?_
 refine qiN X1 hx (dt59 hby 4 rfl :) rfl ?_
 refine qaN X1 hx (dt59 hby 5 rfl :) rfl rfl ?_
 refine st3 _ ?_
 refine XS.ishl X3.here hx rfl (dt59 hby 7 rfl :) rfl ?_
 rw [show ((Int32.ofNat mc) <<< ((1 : Int32) &&& 31)) = (Int32.ofNat (2 * mc)) from own_shl1 (by omega)]
 refine qsN X3 hx (l' := #[sR a1, sI (Int32.ofNat mc), sI (Int32.ofNat (2 * LL)), sI (Int32.ofNat (2 * mc)), .unset, .unset]) (dt59 hby 8 rfl :) rfl ?_
 refine qiN X3 hx (dt59 hby 9 rfl :) rfl ?_
 refine qiN X3 hx (dt59 hby 10 rfl :) rfl ?_
 refine XS.isub X3.here hx rfl (dt59 hby 11 rfl :) rfl ?_
 rw [show ((Int32.ofNat (2 * mc)) - (Int32.ofNat (2 * LL))) = (Int32.ofNat ((2 * mc) - (2 * LL))) from own_isub (by omega)]
 refine qs X3 hx (l' := #[sR a1, sI (Int32.ofNat mc), sI (Int32.ofNat (2 * LL)), sI (Int32.ofNat (2 * mc)), sI (Int32.ofNat ((2 * mc) - (2 * LL))), .unset]) (dt59 hby 12 rfl :) rfl ?_
 refine qiN X3 hx (dt59 hby 13 rfl :) rfl ?_
 refine qi X3 hx (dt59 hby 14 rfl :) rfl ?_
 refine qiN X3 hx (dt59 hby 15 rfl :) rfl ?_
 refine qc X3 hx (2 : Int32) (dt59 hby 16 rfl :) rfl ?_
 refine qaN X3 hx (dt59 hby 17 rfl :) rfl rfl ?_
 refine st4 _ ?_
 refine XS.ishl X4.here hx rfl (dt59 hby 19 rfl :) rfl ?_
 rw [show ((2 : Int32) <<< ((1 : Int32) &&& 31)) = (Int32.ofNat 4) from by decide]
 refine XS.iadd X4.here hx rfl (dt59 hby 20 rfl :) rfl ?_
 rw [show ((Int32.ofNat (2 * LL)) + (Int32.ofNat 4)) = (Int32.ofNat ((2 * LL) + 4)) from own_iadd _ _]
 refine st9 _ ?_
 rw [show (Int32.ofNat r10) = (Int32.ofNat (2 * r1)) from own_ieq hr1]
 refine qs X9 hx (l' := #[sR a1, sI (Int32.ofNat mc), sI (Int32.ofNat (2 * LL)), sI (Int32.ofNat (2 * mc)), sI (Int32.ofNat ((2 * mc) - (2 * LL))), sI (Int32.ofNat (2 * r1))]) (dt59 hby 22 rfl :) rfl ?_
 refine qi X9 hx (dt59 hby 23 rfl :) rfl ?_
 refine X9.ldcInt hx hown (mw hZ hw 280 rfl) (g := (mkF m 36 #[sR a1, sI (Int32.ofNat mc), sI (Int32.ofNat (2 * LL)), sI (Int32.ofNat (2 * mc)), sI (Int32.ofNat ((2 * mc) - (2 * LL))), sI (Int32.ofNat (2 * r1))] [(.int (Int32.ofNat (2 * r1)))])) rfl (dt59 hby 24 rfl :) _ ?_
 refine qmY X9 hx 38 51 (dt59 hby 25 rfl :) (feq hc38_13).2 (by decide) (by decide) ?_
 refine qi X9 hx (dt59 hby 26 rfl :) rfl ?_
 refine qaN X9 hx (dt59 hby 27 rfl :) rfl rfl ?_
 refine st14 _ ?_
 refine XS.ishr X14.here hx rfl (dt59 hby 29 rfl :) rfl ?_
 rw [show ((Int32.ofNat (2 * r1)) >>> ((1 : Int32) &&& 31)) = (Int32.ofNat r1) from own_shr1 (by omega)]
 exact retI X14 hx hR (dt59 hby 30 rfl :) hrt
theorem own_gd1 {ys zs : List Int32} {i : Nat} (h : i < ys.length) : (ys ++ zs).getD i 0 = ys.getD i 0 := by
  rw [List.getD_eq_getElem?_getD, List.getElem?_append_left h, ← List.getD_eq_getElem?_getD]
theorem own_gd2 (ys zs : List Int32) (j : Nat) : (ys ++ zs).getD (ys.length + j) 0 = zs.getD j 0 := by
  rw [List.getD_eq_getElem?_getD, List.getElem?_append_right (Nat.le_add_right _ _), Nat.add_sub_cancel_left, ← List.getD_eq_getElem?_getD]
theorem own_latA {ys zs : List Int32} {f : Nat → Int32} (h1 : own_lat ys f) (h2 : ∀ j, j < zs.length → (0 ≤ (zs.getD j 0).toInt ∧ (zs.getD j 0).toInt ≤ 255) ∧ f (ys.length + j) = own_lo (zs.getD j 0)) : own_lat (ys ++ zs) f := fun i hi => by
  by_cases h : i < ys.length
  · rw [own_gd1 h]; exact h1 i h
  · obtain ⟨j, rfl⟩ : ∃ j, i = ys.length + j := ⟨i - ys.length, by omega⟩
    rw [own_gd2]; exact h2 j (by rw [List.length_append] at hi; omega)
theorem own_utfA {ys zs : List Int32} {f : Nat → Int32} (h1 : own_utf ys f) (h2 : ∀ j, j < zs.length → (0 ≤ (zs.getD j 0).toInt ∧ (zs.getD j 0).toInt ≤ 65535) ∧ f (2 * (ys.length + j)) = own_lo (zs.getD j 0) ∧ f (2 * (ys.length + j) + 1) = own_hi (zs.getD j 0)) : own_utf (ys ++ zs) f := fun i hi => by
  by_cases h : i < ys.length
  · rw [own_gd1 h]; exact h1 i h
  · obtain ⟨j, rfl⟩ : ∃ j, i = ys.length + j := ⟨i - ys.length, by omega⟩
    rw [own_gd2]; exact h2 j (by rw [List.length_append] at hi; omega)
theorem own_lat_cg {ys : List Int32} {f g : Nat → Int32} {M : Nat} (r : own_lat ys f) (h : ys.length ≤ M) (q : ∀ i, i < M → g i = f i) : own_lat ys g := fun i hi => by
  rw [q i (by omega)]; exact r i hi
theorem own_utf_cg {ys : List Int32} {f g : Nat → Int32} {M : Nat} (r : own_utf ys f) (h : ys.length ≤ M) (q : ∀ i, i < 2 * M → g i = f i) : own_utf ys g := fun i hi => by
  rw [q (2 * i) (by omega), q (2 * i + 1) (by omega)]; exact r i hi
theorem own_and255 {c x : Int32} (h1 : 0 ≤ c.toInt) (h2 : c.toInt ≤ 255) (hx : x = own_lo c) : x &&& (255 : Int32) = c := by
  subst hx
  have a := c_i2b c
  have e : own_lo c = c.toInt8.toInt32 := rfl
  rw [e]
  have m := c_mask c.toInt8.toInt32 (255 : Int32) 8 (by decide) (by decide)
  refine own_inj ?_
  omega
theorem own_lat_put {ys : List Int32} {g : Nat → Int32} {c : Int32} (r : own_lat ys g) (h0 : 0 ≤ c.toInt) (h1 : c.toInt ≤ 255) (hl : ys.length < 1000) : own_lat (ys ++ [c]) (fun jj => if jj = (Int32.ofNat ys.length).toNatClampNeg then nar .byte (c.toInt8.toInt32) else g jj) := by
  refine own_latA (fun i hi => ?_) (fun j hj => ?_)
  · have e : ¬ i = (Int32.ofNat ys.length).toNatClampNeg := by rw [own_in (by omega)]; omega
    show _ ∧ (if i = _ then _ else g i) = _
    rw [if_neg e]; exact r i hi
  · have e : j = 0 := by simp at hj; omega
    subst e
    refine ⟨⟨h0, h1⟩, ?_⟩
    show (if ys.length + 0 = _ then _ else _) = own_lo c
    rw [if_pos (by rw [own_in (by omega)]; rfl)]
    exact own_nb c
theorem own_utf_put {ys : List Int32} {f : Nat → Int32} {c : Int32} (r : own_utf ys f) (h : own_ch c) : own_utf (ys ++ [c]) (own_put f ys.length c) := by
  refine own_utfA (fun i hi => ?_) (fun j hj => ?_)
  · rw [own_putn _ _ _ _ (by omega) (by omega), own_putn _ _ _ _ (by omega) (by omega)]; exact r i hi
  · have e : j = 0 := by simp at hj; omega
    subst e
    exact ⟨h, own_put0 _ _ _, own_put1 _ _ _⟩
theorem own_utf_infA {ys zs : List Int32} {f g : Nat → Int32} (r1 : own_utf ys g) (r2 : own_lat zs f) : own_utf (ys ++ zs) (own_inf f g ys.length zs.length) := by
  refine own_utfA (fun i hi => ?_) (fun j hj => ?_)
  · rw [own_inf_out _ _ _ _ _ (Or.inl (by omega)), own_inf_out _ _ _ _ _ (Or.inl (by omega))]; exact r1 i hi
  · obtain ⟨⟨h0, h1⟩, e⟩ := r2 j hj
    have q := own_inf_in f g ys.length zs.length j hj
    rw [own_and255 h0 h1 e] at q
    exact ⟨⟨h0, by omega⟩, q⟩
theorem own_utf_inf {ys : List Int32} {f g : Nat → Int32} (r : own_lat ys f) : own_utf ys (own_inf f g 0 ys.length) :=
  own_utf_infA (ys := []) (fun i hi => absurd hi (Nat.not_lt_zero i)) r
theorem own_lat_cp {ys zs : List Int32} {f g : Nat → Int32} (r1 : own_lat ys g) (r2 : own_lat zs f) : own_lat (ys ++ zs) (own_cp f g 0 ys.length zs.length) := by
  refine own_latA (fun i hi => ?_) (fun j hj => ?_)
  · unfold own_cp; rw [if_neg (by omega)]; exact r1 i hi
  · unfold own_cp; rw [if_pos ⟨by omega, by omega⟩, Nat.zero_add, Nat.add_sub_cancel_left]; exact r2 j hj
def own_hs (t : Nat) : List Int32 := if t < 16 then [own_hx t] else if t < 256 then [own_hx (t / 16), own_hx (t % 16)] else [own_hx (t / 4096), own_hx (t / 256 % 16), own_hx (t / 16 % 16), own_hx (t % 16)]
def own_h4 (t : Nat) : List Int32 := [own_hx (t / 4096), own_hx (t / 256 % 16), own_hx (t / 16 % 16), own_hx (t % 16)]
theorem own_hx_i {v : Nat} (h : v < 16) : (own_hx v).toInt = if v < 10 then 48 + (v : Int) else 87 + (v : Int) := by
  unfold own_hx
  by_cases c : v < 10
  · rw [if_pos c, if_pos c, own_i (by omega)]; omega
  · rw [if_neg c, if_neg c, own_i (by omega)]; omega
theorem own_hx_lat {v : Nat} (h : v < 16) : 0 ≤ (own_hx v).toInt ∧ (own_hx v).toInt ≤ 255 := by
  rw [own_hx_i h]; by_cases c : v < 10
  · rw [if_pos c]; omega
  · rw [if_neg c]; omega
theorem own_hs1 {t : Nat} (h : t < 16) : own_hs t = [own_hx t] := if_pos h
theorem own_hs2 {t : Nat} (h : ¬ t < 16) (h2 : t < 256) : own_hs t = [own_hx (t / 16), own_hx (t % 16)] := by unfold own_hs; rw [if_neg h, if_pos h2]
theorem own_hs4 {t : Nat} (h2 : ¬ t < 256) : own_hs t = own_h4 t := by unfold own_hs; rw [if_neg (by omega), if_neg h2]; rfl
/-- what printable lays for one char -/
theorem own_escDec (c : Int32) : (own_esc c) ↔ (decide (c.toInt < 32) || decide (127 ≤ c.toInt ∧ c.toInt ≤ 159) || decide (c.toInt = 8232) || decide (c.toInt = 8233)) = true := by
  unfold own_esc; simp [or_assoc]
def own_enc (c : Int32) : List Int32 := if (decide (c.toInt < 32) || decide (127 ≤ c.toInt ∧ c.toInt ≤ 159) || decide (c.toInt = 8232) || decide (c.toInt = 8233)) = true then (92 : Int32) :: (117 : Int32) :: own_h4 c.toInt.toNat else [c]
theorem own_enc1 {c : Int32} (h : own_esc c) : own_enc c = (92 : Int32) :: (117 : Int32) :: own_h4 c.toInt.toNat := if_pos ((own_escDec c).mp h)
theorem own_enc0 {c : Int32} (h : ¬ own_esc c) : own_enc c = [c] := if_neg (fun q => h ((own_escDec c).mpr q))
theorem own_enc_le (c : Int32) : (own_enc c).length ≤ 6 := by
  unfold own_enc; split <;> simp [own_h4]
theorem own_pad {t : Nat} (h : t < 256 ∨ (4096 ≤ t ∧ t < 65536)) : List.replicate (4 - (own_hs t).length) (48 : Int32) ++ own_hs t = own_h4 t := by
  have e0 : own_hx 0 = (48 : Int32) := by decide
  by_cases h1 : t < 16
  · rw [own_hs1 h1]; unfold own_h4
    rw [show t / 4096 = 0 by omega, show t / 256 % 16 = 0 by omega, show t / 16 % 16 = 0 by omega, show t % 16 = t by omega, e0]; rfl
  · by_cases h2 : t < 256
    · rw [own_hs2 h1 h2]; unfold own_h4
      rw [show t / 4096 = 0 by omega, show t / 256 % 16 = 0 by omega, show t / 16 % 16 = t / 16 by omega, e0]; rfl
    · rw [own_hs4 h2]; rfl
theorem own_hsl {t : Nat} : (own_hs t).length = 1 ∨ (own_hs t).length = 2 ∨ (own_hs t).length = 4 := by
  unfold own_hs; split
  · exact Or.inl rfl
  · split
    · exact Or.inr (Or.inl rfl)
    · exact Or.inr (Or.inr rfl)
theorem own_esct {c : Int32} (h : own_esc c) (hc : own_ch c) : c.toInt.toNat < 256 ∨ (4096 ≤ c.toInt.toNat ∧ c.toInt.toNat < 65536) := by
  obtain ⟨h1, h2⟩ := hc
  rcases h with h | h | h | h <;> omega
theorem own_oft {c : Int32} (hc : own_ch c) : c = Int32.ofNat c.toInt.toNat := by
  obtain ⟨h1, h2⟩ := hc
  refine own_inj ?_
  rw [own_i (by omega)]; omega
def own_encs : List Int32 → List Int32
  | [] => []
  | c :: cs => own_enc c ++ own_encs cs
theorem own_encs_snoc : ∀ (xs : List Int32) (c : Int32), own_encs (xs ++ [c]) = own_encs xs ++ own_enc c
  | [], c => by simp [own_encs]
  | x :: xs, c => by
    show own_enc x ++ own_encs (xs ++ [c]) = (own_enc x ++ own_encs xs) ++ own_enc c
    rw [own_encs_snoc xs c, List.append_assoc]
theorem own_take1 : ∀ (xs : List Int32) (i : Nat), i < xs.length → xs.take (i + 1) = xs.take i ++ [xs.getD i 0]
  | [], i, h => absurd h (Nat.not_lt_zero i)
  | x :: xs, 0, _ => by simp
  | x :: xs, i + 1, h => by
    have q := own_take1 xs i (by simpa using h)
    simp only [List.take_succ_cons, List.cons_append, List.getD_cons_succ]
    rw [q]
theorem own_encs_take {xs : List Int32} {i : Nat} (h : i < xs.length) : own_encs (xs.take (i + 1)) = own_encs (xs.take i) ++ own_enc (xs.getD i 0) := by
  rw [own_take1 xs i h, own_encs_snoc]
theorem own_encs_le : ∀ xs : List Int32, (own_encs xs).length ≤ 6 * xs.length
  | [] => Nat.le_refl 0
  | x :: xs => by
    have q := own_encs_le xs
    have r := own_enc_le x
    show (own_enc x ++ own_encs xs).length ≤ 6 * (xs.length + 1)
    rw [List.length_append]; omega
theorem own_encs_t {xs : List Int32} {i : Nat} : (own_encs (xs.take i)).length ≤ 6 * i := by
  have q := own_encs_le (xs.take i)
  have r : (xs.take i).length ≤ i := by rw [List.length_take]; omega
  omega
theorem own_m15 {t : Nat} (h : t < 100000) : Int32.ofNat t &&& (15 : Int32) = Int32.ofNat (t % 16) := by
  have m := c_mask (Int32.ofNat t) (15 : Int32) 4 (by decide) (by decide)
  refine own_inj ?_
  rw [m, own_i h, own_i (by omega)]; omega
theorem own_ush {t : Nat} (q : Int32) (k : Nat) (hk : q.toBitVec.toNat % 32 = k) (h0 : 0 < k) (h : t < 100000) : (((Int32.ofNat t).toUInt32 >>> (q &&& 31).toUInt32).toInt32) = Int32.ofNat (t / 2 ^ k) := by
  have m := c_iushr (Int32.ofNat t) q k hk h0
  have z : t / 2 ^ k ≤ t := Nat.div_le_self _ _
  refine own_inj ?_
  rw [m, own_i h, own_i (by omega), Int.emod_eq_of_lt (by omega) (by omega)]
  rw [← Int.natCast_ediv]
theorem own_mx {r r2 d : Int32} {k : Int} (hd : d.toInt = k) (hk : 1 ≤ k ∧ k ≤ 4) (lo : 32 - 4 * k ≤ r.toInt) (hi : r.toInt ≤ 35 - 4 * k ∨ (k = 1 ∧ r.toInt ≤ 32)) (q : ((1 : Int32).toInt ≤ ((((32 : Int32) - r) + (3 : Int32)) / (4 : Int32)).toInt ∧ r2 = ((((32 : Int32) - r) + (3 : Int32)) / (4 : Int32))) ∨ (((((32 : Int32) - r) + (3 : Int32)) / (4 : Int32)).toInt ≤ (1 : Int32).toInt ∧ r2 = (1 : Int32))) : r2 = d := by
  have e1 : (1 : Int32).toInt = 1 := rfl
  have e3 : (3 : Int32).toInt = 3 := rfl
  have e32 : (32 : Int32).toInt = 32 := rfl
  have a := c_isub (32 : Int32) r
  have ra := rng32 ((32 : Int32) - r)
  have b := c_iadd ((32 : Int32) - r) (3 : Int32)
  have rb := rng32 (((32 : Int32) - r) + (3 : Int32))
  have c := c_idiv (((32 : Int32) - r) + (3 : Int32)) (4 : Int32) 4 rfl (by decide)
  have hr := rng32 r
  refine own_inj ?_
  generalize ((((32 : Int32) - r) + (3 : Int32)) / (4 : Int32)) = w at *
  generalize (((32 : Int32) - r) + (3 : Int32)) = u at *
  generalize ((32 : Int32) - r) = v at *
  rcases q with ⟨q1, rfl⟩ | ⟨q1, rfl⟩ <;> omega
theorem own_m15b (x : Int32) : 0 ≤ (x &&& (15 : Int32)).toInt ∧ (x &&& (15 : Int32)).toInt < 16 := by
  have m := c_mask x (15 : Int32) 4 (by decide) (by decide)
  omega
theorem own_hexeq {x r : Int32} {v : Nat} (hv : v < 16) (hx : x.toInt = v) (q : (x.toInt < 10 → r.toInt = 48 + x.toInt) ∧ (10 ≤ x.toInt → r.toInt = 87 + x.toInt)) : own_hx v = r := by
  refine own_inj ?_
  rw [own_hx_i hv]
  split <;> omega
theorem own_nib {c : Int32} (hc : own_ch c) (q : Int32) (k : Nat) (hk : q.toBitVec.toNat % 32 = k) : ((c >>> (q &&& 31)) &&& (15 : Int32)).toInt = ((c.toInt.toNat / 2 ^ k % 16 : Nat) : Int) := by
  have m := c_mask (c >>> (q &&& 31)) (15 : Int32) 4 (by decide) (by decide)
  have s := c_ishr c q k hk
  obtain ⟨h1, h2⟩ := hc
  rw [m, s]
  obtain ⟨t, ht⟩ : ∃ t : Nat, c.toInt = t := ⟨c.toInt.toNat, by omega⟩
  rw [ht, Int.toNat_natCast]
  rw [← Int.natCast_ediv, ← Int.natCast_emod]
theorem own_nib0 {c : Int32} (hc : own_ch c) : (c &&& (15 : Int32)).toInt = ((c.toInt.toNat % 16 : Nat) : Int) := by
  have m := c_mask c (15 : Int32) 4 (by decide) (by decide)
  obtain ⟨h1, h2⟩ := hc
  rw [m]; omega
theorem own_sgt {m n : Nat} (hm : m < 100000) (hn : n < 100000) : (0 : Int32) < Int32.ofNat m - Int32.ofNat n ↔ n < m := by
  have a := c_isub (Int32.ofNat m) (Int32.ofNat n)
  have r := rng32 (Int32.ofNat m - Int32.ofNat n)
  rw [own_i hm, own_i hn] at a
  rw [Int32.lt_iff_toInt_lt]
  have e : (0 : Int32).toInt = 0 := rfl
  omega
theorem own_lat_hs {t : Nat} {ht : t < 65536} {g : Nat → Int32} (q : ∀ j, j < (own_hs t).length → g j = own_lo ((own_hs t).getD j 0)) : own_lat (own_hs t) g := fun i hi => by
  refine ⟨?_, q i hi⟩
  have key : ∀ l : List Int32, (∀ x ∈ l, 0 ≤ x.toInt ∧ x.toInt ≤ 255) → ∀ i, i < l.length → 0 ≤ (l.getD i 0).toInt ∧ (l.getD i 0).toInt ≤ 255 := fun l h i hi => by
    rw [List.getD_eq_getElem?_getD, List.getElem?_eq_getElem hi]; exact h _ (List.getElem_mem hi)
  refine key _ (fun x hx => ?_) i hi
  unfold own_hs at hx
  split at hx
  · obtain rfl : x = _ := by simpa using hx
    exact own_hx_lat (by omega)
  · split at hx
    · rcases (by simpa using hx : x = _ ∨ x = _) with rfl | rfl <;> exact own_hx_lat (by omega)
    · rcases (by simpa using hx : x = _ ∨ x = _ ∨ x = _ ∨ x = _) with rfl | rfl | rfl | rfl <;> exact own_hx_lat (by omega)
theorem own_lat_rep {k : Nat} {g : Nat → Int32} (q : ∀ j, j < k → g j = own_lo (48 : Int32)) : own_lat (List.replicate k (48 : Int32)) g := fun i hi => by
  have e : (List.replicate k (48 : Int32)).getD i 0 = (48 : Int32) := by
    rw [List.length_replicate] at hi
    rw [List.getD_eq_getElem?_getD, List.getElem?_replicate, if_pos hi]; rfl
  rw [e]
  exact ⟨by decide, q i (by simpa using hi)⟩

/-- a Latin-1 String -/
def own_Ls (Z : State) (h : Heap) (a b : Addr) (zs : List Int32) : Prop := ∃ f : Nat → Int32, Exa Z h a "java/lang/String" ∧ Fld Z h a "java/lang/String" "value" "[B" (.ref b) ∧ Fld Z h a "java/lang/String" "coder" "B" (.int (0 : Int32)) ∧ own_Af Z h b .byte (Int32.ofNat zs.length) f ∧ own_lat zs f ∧ zs.length ≤ 100
theorem own_Ls.keep {Z : State} {h h' : Heap} {a b : Addr} {zs : List Int32} {ws : List Addr} (S : own_Ls Z h a b zs) (K : Keep h h' ws) (q1 : a ∉ ws) (q2 : b ∉ ws) : own_Ls Z h' a b zs := by
  obtain ⟨f, E, V, C, A, r⟩ := S
  exact ⟨f, E.keep K, V.keep K q1, C.keep K q1, A.keep K q2, r⟩
theorem own_Ls.ext {Z : State} {h h' : Heap} {a b : Addr} {zs : List Int32} (S : own_Ls Z h a b zs) (E : Ext h h') : own_Ls Z h' a b zs := by
  obtain ⟨f, E1, V, C, A, r⟩ := S
  exact ⟨f, E1.ext E, V.ext E, C.ext E, A.ext E, r⟩
theorem own_Ls.lt0 {Z : State} {h : Heap} {a b : Addr} {zs : List Int32} (S : own_Ls Z h a b zs) : a < h.size := by obtain ⟨f, E, -⟩ := S; exact E.lt
theorem own_Ls.lt1 {Z : State} {h : Heap} {a b : Addr} {zs : List Int32} (S : own_Ls Z h a b zs) : b < h.size := by obtain ⟨f, E, V, C, A, r⟩ := S; exact A.lt
theorem own_Ls.str {Z : State} {h : Heap} {a b : Addr} {zs : List Int32} (S : own_Ls Z h a b zs) : own_Str Z h a b zs := by
  obtain ⟨f, E, V, C, A, r, l⟩ := S
  exact ⟨f, E, V, l, Or.inl ⟨C, A, r⟩⟩
theorem own_Ls.exa {Z : State} {h : Heap} {a b : Addr} {zs : List Int32} (S : own_Ls Z h a b zs) : Exa Z h a "java/lang/String" := by obtain ⟨f, E, -⟩ := S; exact E
theorem own_Str.exa {Z : State} {h : Heap} {a b : Addr} {cs : List Int32} (S : own_Str Z h a b cs) : Exa Z h a "java/lang/String" := by obtain ⟨f, E, -⟩ := S; exact E
theorem own_Str.ch {Z : State} {h : Heap} {a b : Addr} {cs : List Int32} (S : own_Str Z h a b cs) {i : Nat} (hi : i < cs.length) : own_ch (cs.getD i 0) := by
  obtain ⟨f, E, V, l, C⟩ := S
  rcases C with ⟨C, A, r⟩ | ⟨C, A, r⟩
  · obtain ⟨⟨h1, h2⟩, -⟩ := r i hi
    exact ⟨h1, by omega⟩
  · exact (r i hi).1
theorem own_Str.len {Z : State} {h : Heap} {a b : Addr} {cs : List Int32} (S : own_Str Z h a b cs) : cs.length ≤ 100 := by obtain ⟨f, E, V, l, C⟩ := S; exact l
/-- the builder: its chars -/
def own_Sb (Z : State) (h : Heap) (a b : Addr) (ys : List Int32) : Prop := ∃ (f : Nat → Int32) (LL : Nat), a ≠ b ∧ Exa Z h a "java/lang/StringBuilder" ∧ Exa Z h b "[B" ∧ Fld Z h a "java/lang/AbstractStringBuilder" "value" "[B" (.ref b) ∧ Fld Z h a "java/lang/AbstractStringBuilder" "count" "I" (.int (Int32.ofNat ys.length)) ∧ Fld Z h a "java/lang/AbstractStringBuilder" "maybeLatin1" "Z" (.int (0 : Int32)) ∧ ys.length ≤ LL ∧ LL ≤ 36 ∧
  ((Fld Z h a "java/lang/AbstractStringBuilder" "coder" "B" (.int (0 : Int32)) ∧ own_Af Z h b .byte (Int32.ofNat LL) f ∧ own_lat ys f) ∨ (Fld Z h a "java/lang/AbstractStringBuilder" "coder" "B" (.int (1 : Int32)) ∧ own_Af Z h b .byte (Int32.ofNat (2 * LL)) f ∧ own_utf ys f))
theorem own_Sb.keep {Z : State} {h h' : Heap} {a b : Addr} {ys : List Int32} {ws : List Addr} (S : own_Sb Z h a b ys) (K : Keep h h' ws) (q1 : a ∉ ws) (q2 : b ∉ ws) : own_Sb Z h' a b ys := by
  obtain ⟨f, LL, n, E, E2, V, N, M, l1, l2, C⟩ := S
  refine ⟨f, LL, n, E.keep K, E2.keep K, V.keep K q1, N.keep K q1, M.keep K q1, l1, l2, ?_⟩
  rcases C with ⟨C, A, r⟩ | ⟨C, A, r⟩
  · exact Or.inl ⟨C.keep K q1, A.keep K q2, r⟩
  · exact Or.inr ⟨C.keep K q1, A.keep K q2, r⟩
theorem own_Sb.ext {Z : State} {h h' : Heap} {a b : Addr} {ys : List Int32} (S : own_Sb Z h a b ys) (E0 : Ext h h') : own_Sb Z h' a b ys := by
  obtain ⟨f, LL, n, E, E2, V, N, M, l1, l2, C⟩ := S
  refine ⟨f, LL, n, E.ext E0, E2.ext E0, V.ext E0, N.ext E0, M.ext E0, l1, l2, ?_⟩
  rcases C with ⟨C, A, r⟩ | ⟨C, A, r⟩
  · exact Or.inl ⟨C.ext E0, A.ext E0, r⟩
  · exact Or.inr ⟨C.ext E0, A.ext E0, r⟩
theorem own_Sb.exa {Z : State} {h : Heap} {a b : Addr} {ys : List Int32} (S : own_Sb Z h a b ys) : Exa Z h a "java/lang/StringBuilder" := by obtain ⟨f, LL, n, E, -⟩ := S; exact E
theorem own_Sb.exb {Z : State} {h : Heap} {a b : Addr} {ys : List Int32} (S : own_Sb Z h a b ys) : Exa Z h b "[B" := by obtain ⟨f, LL, n, -, E, -⟩ := S; exact E
theorem own_Sb.ne {Z : State} {h : Heap} {a b : Addr} {ys : List Int32} (S : own_Sb Z h a b ys) : a ≠ b := by obtain ⟨f, LL, n, -⟩ := S; exact n
theorem own_Sb.lt0 {Z : State} {h : Heap} {a b : Addr} {ys : List Int32} (S : own_Sb Z h a b ys) : a < h.size := S.exa.lt
theorem own_Sb.lt1 {Z : State} {h : Heap} {a b : Addr} {ys : List Int32} (S : own_Sb Z h a b ys) : b < h.size := S.exb.lt
theorem own_Sb.mk0 {Z : State} {h : Heap} {a b : Addr} {ys : List Int32} {f : Nat → Int32} {LL n : Nat} (hn : n = ys.length) (q : a ≠ b) (E : Exa Z h a "java/lang/StringBuilder") (E2 : Exa Z h b "[B") (V : Fld Z h a "java/lang/AbstractStringBuilder" "value" "[B" (.ref b)) (N : Fld Z h a "java/lang/AbstractStringBuilder" "count" "I" (.int (Int32.ofNat n))) (M : Fld Z h a "java/lang/AbstractStringBuilder" "maybeLatin1" "Z" (.int (0 : Int32)))
    (C : Fld Z h a "java/lang/AbstractStringBuilder" "coder" "B" (.int (0 : Int32))) (A : own_Af Z h b .byte (Int32.ofNat LL) f) (l1 : n ≤ LL) (l2 : LL ≤ 36) (r : own_lat ys f) : own_Sb Z h a b ys := by
  subst hn
  exact ⟨f, LL, q, E, E2, V, N, M, l1, l2, Or.inl ⟨C, A, r⟩⟩
theorem own_Sb.mk1 {Z : State} {h : Heap} {a b : Addr} {ys : List Int32} {f : Nat → Int32} {LL n : Nat} (hn : n = ys.length) (q : a ≠ b) (E : Exa Z h a "java/lang/StringBuilder") (E2 : Exa Z h b "[B") (V : Fld Z h a "java/lang/AbstractStringBuilder" "value" "[B" (.ref b)) (N : Fld Z h a "java/lang/AbstractStringBuilder" "count" "I" (.int (Int32.ofNat n))) (M : Fld Z h a "java/lang/AbstractStringBuilder" "maybeLatin1" "Z" (.int (0 : Int32)))
    (C : Fld Z h a "java/lang/AbstractStringBuilder" "coder" "B" (.int (1 : Int32))) (A : own_Af Z h b .byte (Int32.ofNat (2 * LL)) f) (l1 : n ≤ LL) (l2 : LL ≤ 36) (r : own_utf ys f) : own_Sb Z h a b ys := by
  subst hn
  exact ⟨f, LL, q, E, E2, V, N, M, l1, l2, Or.inr ⟨C, A, r⟩⟩
theorem own_ne0 {Z : State} {h : Heap} {a b a2 v : Addr} {ys : List Int32} (S : own_Sb Z h a b ys) (hl : 0 < ys.length) (T : own_Ls Z h a2 v []) : v ≠ b := fun e => by
  subst e
  obtain ⟨f, LL, -, -, -, -, -, -, l1, l2, C⟩ := S
  obtain ⟨f2, -, -, -, A2, -⟩ := T
  obtain ⟨c2, B2, S2, -⟩ := A2.op
  have hs2 : c2.slots.size = 0 := S2.trans (own_in (n := 0) (by decide))
  rcases C with ⟨-, A, -⟩ | ⟨-, A, -⟩ <;> obtain ⟨c1, B1, S1, -⟩ := A.op <;> cases B1.1.symm.trans B2.1 <;> rw [own_in (by omega)] at S1 <;> omega
theorem own_Af.neE {Z : State} {h : Heap} {x b : Addr} {C : String} {ty : FieldType} {z : Int32} {f : Nat → Int32} {a0 : Array Value} {n : Nat} (E : Exa Z h x C) (A : own_Af Z h b ty z f) (w : (Cond.instantiable C n).before a0 Z = true) : x ≠ b := by
  obtain ⟨k, A⟩ := A
  exact E.neArv A w
/-- words on classes and methods -/
theorem own_face {Z : State} {a0 : Array Value} {C : String} {y : MethodName} (h : (Cond.selects C y y).before a0 Z = true) : ∃ c k, Z.vm.findClass y.cls = some c ∧ Z.vm.classes[c]? = some k ∧ k.isInterface = false := by
  obtain ⟨c2, r2, m2, q1, q2, q3, q4, kP, hkP, hkPi⟩ := Cond.selects_spec h
  exact ⟨_, kP, findClass_of_methodNamed q3, hkP, hkPi⟩
theorem own_selfPriv {Z : State} {a0 : Array Value} {C : String} {y : MethodName} (h : (Cond.selects C y y).before a0 Z = true) (hp : (Cond.privateMethod y).before a0 Z = true) (hi : (Cond.instanceMethod y).before a0 Z = true) (hy : y.cls ≠ "java/lang/invoke/MethodHandle" ∧ y.cls ≠ "java/lang/invoke/VarHandle") : (Cond.selects y.cls y y).before a0 Z = true := by
  obtain ⟨c, k, h1, h2, h3⟩ := own_face h
  exact selects_self_of_private h1 h2 h3 (Cond.privateMethod_at hp) hi hy
theorem own_sameM {Z : State} {a0 : Array Value} {C : String} {x y : MethodName} (e : x.cls = y.cls) (h : (Cond.selects C x x).before a0 Z = true) (hi : (Cond.instanceMethod y).before a0 Z = true) (hy : y.cls ≠ "java/lang/invoke/MethodHandle" ∧ y.cls ≠ "java/lang/invoke/VarHandle") : (Cond.sameMethod y.cls y.cls y.name y.desc).before a0 Z = true := by
  obtain ⟨c, k, h1, h2, h3⟩ := own_face h
  rw [e] at h1
  obtain ⟨mk, methM, hnamed, -, -, -⟩ := Cond.instanceMethod_spec hi
  have hf := State.methodFound?_of_named hnamed hy
  obtain ⟨yc, yn, yd⟩ := y
  simp only [Cond.before, Cond.holds, Cond.value, h1, hf, hnamed, h2]
  simp [h3]
theorem own_notFace {s : State} {args : Array Value} {C : String} {x y : MethodName} (e : x.cls = y.cls) (h : (Cond.selects C x x).before args s = true) : NotFace s y := fun r0 h0 => by
  obtain ⟨c, k, h1, h2, h3⟩ := own_face h
  rw [e] at h1
  cases h1.symm.trans (findClass_of_methodNamed h0)
  exact ⟨k, h2, h3⟩
/-- a literal -/
theorem own_lit {Z : State} {h : Heap} {a b : Addr} {k : ClassId} {zs : List Int32} (hl : zs.length ≤ 100) (hz : ∀ c ∈ zs, 0 ≤ c.toInt ∧ c.toInt ≤ 255) (x1 : Exa Z h a "java/lang/String") (x2 : Fld Z h a "java/lang/String" "coder" "B" (.int 0)) (x3 : Fld Z h a "java/lang/String" "value" "[B" (.ref b)) (x4 : Arv Z h b k .byte (Int32.ofNat zs.length) (zs.map fun c => Value.int (own_lo c)) (.int 0)) : own_Ls Z h a b zs := by
  refine ⟨fun i => own_lo (zs.getD i 0), x1, x3, x2, own_Af.arv x4 (fun i hi => ?_), fun i hi => ⟨?_, rfl⟩, hl⟩
  · rw [own_in (by omega)] at hi
    simp [List.getD_eq_getElem?_getD, hi]
  · rw [List.getD_eq_getElem?_getD, List.getElem?_eq_getElem hi]; exact hz _ (List.getElem_mem hi)
theorem own_Ls.nev {Z : State} {h : Heap} {x a v : Addr} {zs : List Int32} {C : String} {a0 : Array Value} {n : Nat} (S : own_Ls Z h a v zs) (E : Exa Z h x C) (w : (Cond.instantiable C n).before a0 Z = true) : x ≠ v := by
  obtain ⟨f, -, -, -, A, -⟩ := S
  exact A.neE E w

theorem pd_25 : parseMethodDescriptor "([BI)[B" = some ⟨[(.array .byte), .int], some (.array .byte)⟩ := by decide +kernel
def Q30_0 (Z : State) (a1 : Addr) (mc LL n : Nat) (b : Addr) (f : Nat → Int32) (h0 : Heap) (n0 : Nat) (v : Option Value) (h : Heap) (L : List Loc) : Prop := ∃ (b2 : Addr) (g : Nat → Int32) (L2 : Nat), v = none ∧ Fr n0 L ∧ Keep h0 h [a1] ∧ eB Z h a1 ∧ fBv Z h a1 (.ref b2) ∧ fBc Z h a1 (.int (0 : Int32)) ∧ fBn Z h a1 (.int (Int32.ofNat n)) ∧ fBm Z h a1 (.int (0 : Int32)) ∧ n0 ≤ b2 ∧ (b2 = b ∨ h0.size ≤ b2) ∧ eA Z h b2 ∧ own_Af Z h b2 .byte (Int32.ofNat L2) g ∧ (a1 ≠ b2) ∧ (mc ≤ L2 ∧ L2 ≤ 36 ∧ LL ≤ L2 ∧ ∀ i, i < LL → g i = f i)
theorem rm30_0 (l : Launch) (Z : State) (a0 : Array Value) (hw : own_hw a0 Z) (a1 : Addr) (mc LL n : Nat) (b : Addr) (f : Nat → Int32) (h0 : Heap) (n0 : Nat) (Z0 : n0 ≤ h0.size) (HE0 : eB Z h0 a1) (Hg1 : n0 ≤ a1) (HF2 : fBv Z h0 a1 (.ref b)) (HF3 : fBc Z h0 a1 (.int (0 : Int32))) (HF4 : fBn Z h0 a1 (.int (Int32.ofNat n))) (HF5 : fBm Z h0 a1 (.int (0 : Int32))) (HB6 : own_Af Z h0 b .byte (Int32.ofNat LL) f) (HE7 : eA Z h0 b) (Hg8 : n0 ≤ b) (hne : a1 ≠ b) (h2 : (mc ≤ 18)) (h3 : (LL ≤ 36)) :
 own_M l ym30 [Jvm.Cond.code ym30 cm30 3 none] (⟨3, 1, 72, 55⟩ : Room) #[(.ref a1), (.int (Int32.ofNat mc))] Z h0 (Q30_0 Z a1 mc LL n b f h0 n0) := by
 refine own_go n0 (F := fun m => mkF m 0 #[sR a1, sI (Int32.ofNat mc), .unset] []) (plainFor_of_name pn_7) (fun m => rfl) ?_
 intro p e s m below meth c sq Pq hR hx hby hml hown hnm hZ hh hlk X0 e0 N0 pre0
 obtain ⟨T1, X1, e1, st1⟩ := getF X0 hx hZ hown (host := "") (Or.inl (hw _ (wi 45 rfl))) Via.refl e0 HF2 (g := (mkF m 1 #[sR a1, sI (Int32.ofNat mc), .unset] [(.ref a1)])) rfl rfl (dt30 hby 1 rfl :)
 obtain ⟨co2, Ao2, So2, Mo2, Bo2, Go2⟩ := HB6.op
 obtain ⟨T3, X3, e3, st3⟩ := getF X1 hx hZ hown (host := "") (Or.inl (hw _ (wi 47 rfl))) Via.refl e1 HF3 (g := (mkF m 6 #[sR a1, sI (Int32.ofNat mc), .unset] [(.ref a1), (.int (Int32.ofNat LL))])) rfl rfl (dt30 hby 4 rfl :)
 have P4 : ∀ t, Steps p.tables e below (T3.setTop (mkF m 14 #[sR a1, sI (Int32.ofNat mc), sI (Int32.ofNat LL)] [(.int ((Int32.ofNat mc) - (Int32.ofNat LL)))])) t → Pq t := fun t k => pre0 t (by
  refine qaN X0 hx (dt30 hby 0 rfl :) rfl rfl ?_
  refine st1 _ ?_
  refine X1.arraylength hx (by rw [e1]; exact Ao2.1) (State.isArrayOf_alike hZ.alike Ao2.2.1) (g := (mkF m 4 #[sR a1, sI (Int32.ofNat mc), .unset] [(.ref b)])) rfl rfl (dt30 hby 2 rfl :) _ ?_
  rw [len_of So2 Mo2]
  refine qaN X1 hx (dt30 hby 3 rfl :) rfl rfl ?_
  refine st3 _ ?_
  refine XS.ishr X3.here hx rfl (dt30 hby 5 rfl :) rfl ?_
  rw [show ((Int32.ofNat LL) >>> ((0 : Int32) &&& 31)) = (Int32.ofNat LL) from own_shr0 _]
  refine qsN X3 hx (l' := #[sR a1, sI (Int32.ofNat mc), sI (Int32.ofNat LL)]) (dt30 hby 6 rfl :) rfl ?_
  refine qiN X3 hx (dt30 hby 7 rfl :) rfl ?_
  refine qiN X3 hx (dt30 hby 8 rfl :) rfl ?_
  refine XS.isub X3.here hx rfl (dt30 hby 9 rfl :) rfl ?_
  exact k)
 by_cases hg : (0 : Int32) < ((Int32.ofNat mc) - (Int32.ofNat LL))
 ·
  have hlt : LL < mc := (own_sgt (by omega) (by omega)).mp hg
  obtain ⟨T5, X5, e5, st5⟩ := getF X3 hx hZ hown (host := "") (Or.inl (hw _ (wi 45 rfl))) Via.refl e3 HF2 (g := (mkF m 19 #[sR a1, sI (Int32.ofNat mc), sI (Int32.ofNat LL)] [(.ref a1), (.ref a1)])) rfl rfl (dt30 hby 13 rfl :)
  obtain ⟨cq8, q8, q8'⟩ := HE0.cell
  obtain ⟨_, _, ⟨T8, L8, k8, n8⟩, -, X8, ⟨Lc8, hQ8, l8, y8, z8⟩, st8⟩ := X5.privateBack hx (y := ym59) hown (mw hZ hw 269 rfl) (mw hZ hw 270 rfl) (mvT hZ (own_selfPriv (hw _ (wi 272 rfl)) (hw _ (wi 271 rfl)) (hw _ (wi 270 rfl)) (by decide))) (Cond.privateMethod_at (mvP hZ (hw _ (wi 271 rfl)) (args := #[]))) (mw hZ hw 273 rfl) (by decide) (backOf (W := 2) (rm59_0 l Z a0 hw a1 mc LL b f h0 n0 Z0 HE0 HF2 HF3 HB6 (by omega) (by omega)) hZ (hw _ (wi 273 rfl)) (hw _ (wi 39 rfl)) (by decide) (by decide)) (g := (mkF m 24 #[sR a1, sI (Int32.ofNat mc), sI (Int32.ofNat LL)] [(.int (Int32.ofNat mc)), (.ref a1), (.ref b), (.ref a1)])) rfl (by rw [hml]; rfl) (Steps.refl _) (a := a1) (by rw [e5]; exact q8) q8' (argsL := [(.int (Int32.ofNat mc))]) (rest := [(.ref b), (.ref a1)]) (lenOf pd_6 rfl) rfl (Nat.le_refl _) (dt30 hby 16 rfl :) (fun _ _ => ⟨rfl, e5, (by decide : 0 + 0 ≤ _), (by decide : 0 + 0 ≤ _)⟩)
  dsimp only [Pt.U, Pt.locs, Pt.cells, Pt.slots] at X8 l8 y8 z8 st8 hQ8
  subst l8 y8 z8
  obtain ⟨r9, rfl, N8q, R10, R11⟩ := hQ8
  have N8 := Fr.app N0 N8q
  have hr := R10
  obtain ⟨T12, X12, e12, st12⟩ := getF X8 hx hZ hown (host := "") (Or.inl (hw _ (wi 47 rfl))) Via.refl R11 HF3 (g := (mkF m 28 #[sR a1, sI (Int32.ofNat mc), sI (Int32.ofNat LL)] [(.ref a1), (.int (Int32.ofNat r9)), (.ref b), (.ref a1)])) rfl rfl (dt30 hby 18 rfl :)
  obtain ⟨_, _, ⟨T15, L15, k15, n15⟩, -, X15, ⟨Lc15, hQ15, l15, y15, z15⟩, st15⟩ := Jvm.LawKit.callS X12 hx (y := ym61) hown (mw hZ hw 281 rfl) (mw hZ hw 282 rfl) (mw hZ hw 86 rfl) (mw hZ hw 283 rfl) (by decide) (backOf (W := 1) (rm61 l Z a0 hw b r9 LL f h0 n0 Z0 HB6 (by omega) (by omega)) hZ (hw _ (wi 283 rfl)) (hw _ (wi 86 rfl)) (by decide) (by decide)) (g := (mkF m 32 #[sR a1, sI (Int32.ofNat mc), sI (Int32.ofNat LL)] [(.int (Int32.ofNat r9)), (.ref b), (.ref a1)])) rfl (by rw [hml]; rfl) (argsL := [(.ref b), (.int (Int32.ofNat r9))]) (rest := [(.ref a1)]) (lenOf pd_25 rfl) rfl (Nat.le_refl _) (dt30 hby 20 rfl :) (fun _ _ => ⟨rfl, e12, (by decide : 0 + 1 ≤ _), (by decide : 0 + 72 ≤ _)⟩)
  dsimp only [Pt.U, Pt.locs, Pt.cells, Pt.slots] at X15 l15 y15 z15 st15 hQ15
  subst l15 y15 z15
  obtain ⟨b216, g17, rfl, N15q, R18, R19, R20, R21, R22, R23, R24⟩ := hQ15
  have N15 := Fr.app N8 N15q
  have F25 : eB Z T15.heap a1 := HE0.keep R18
  have F26 : fBv Z T15.heap a1 (.ref b) := HF2.keep R18 nin0
  have F27 : fBc Z T15.heap a1 (.int (0 : Int32)) := HF3.keep R18 nin0
  have F28 : fBn Z T15.heap a1 (.int (Int32.ofNat n)) := HF4.keep R18 nin0
  have F29 : fBm Z T15.heap a1 (.int (0 : Int32)) := HF5.keep R18 nin0
  have K33 : Keep h0 T15.heap [a1] := (Keep.refl h0 [a1]).trans R18 all0
  have ne34 : a1 ≠ b216 := Nat.ne_of_lt (Nat.lt_of_lt_of_le HE0.lt R20)
  have sz_b216 : h0.size ≤ b216 := Nat.le_trans (Keep.refl h0 [a1]).1 R20
  obtain ⟨T36, h36, X36, e36, W36, st36⟩ := putF X15 hx hZ hown (host := "") (Or.inl (hw _ (wi 45 rfl))) Via.refl rfl F26 F25 (Or.inl (hw _ (wi 46 rfl))) (hw _ (wi 17 rfl)) (ty := (.array .byte)) (by decide) rfl rfl (g := (mkF m 35 #[sR a1, sI (Int32.ofNat mc), sI (Int32.ofNat LL)] [(.ref b216), (.ref a1)])) rfl rfl (dt30 hby 21 rfl :)
  have Fw36 : fBv Z h36 a1 (.ref b216) := F26.same W36
  have F37 : eB Z h36 a1 := F25.wr W36
  have F38 : fBc Z h36 a1 (.int (0 : Int32)) := F27.other W36 (Or.inr (slot_ne (Or.inl (hw _ (wi 48 rfl))) (Or.inl (hw _ (wi 46 rfl))) (by decide) (t := .byte) (t' := (.array .byte)) (by decide) (by decide)))
  have F39 : fBn Z h36 a1 (.int (Int32.ofNat n)) := F28.other W36 (Or.inr (slot_ne (Or.inl (hw _ (wi 78 rfl))) (Or.inl (hw _ (wi 46 rfl))) (by decide) (t := .int) (t' := (.array .byte)) (by decide) (by decide)))
  have F40 : fBm Z h36 a1 (.int (0 : Int32)) := F29.other W36 (Or.inr (slot_ne (Or.inl (hw _ (wi 224 rfl))) (Or.inl (hw _ (wi 46 rfl))) (by decide) (t := .boolean) (t' := (.array .byte)) (by decide) (by decide)))
  have F43 : eA Z h36 b216 := R21.wr W36
  have F44 : own_Af Z h36 b216 .byte (Int32.ofNat r9) g17 := R22.keep (Keep.of_wr W36) (ninS (Ne.symm ne34) nin0)
  have K46 : Keep h0 h36 [a1] := K33.wr W36 (Or.inl (wi 0 rfl))
  have N47 := Fr.snoc X36 N15 Hg1
  refine own_fin X36 hlk (v := none) (fun _ => rfl) (by decide) (by decide) ?_ (fun fs hrt => P4 _ ?_)
  ·
   show Q30_0 Z a1 mc LL n b f h0 n0 _ T36.heap _
   rw [e36]
   exact ⟨b216, g17, r9, rfl, N47, K46, F37, Fw36, F38, F39, F40, R19, Or.inr sz_b216, F43, F44, ne34, ⟨hr.1, hr.2, by omega, R23⟩⟩
  refine qfN X3 hx (dt30 hby 10 rfl :) ((if0 _ _).trans (tlt hg).2.2.2) ?_
  refine qaN X3 hx (dt30 hby 11 rfl :) rfl rfl ?_
  refine qaN X3 hx (dt30 hby 12 rfl :) rfl rfl ?_
  refine st5 _ ?_
  refine qaN X5 hx (dt30 hby 14 rfl :) rfl rfl ?_
  refine qiN X5 hx (dt30 hby 15 rfl :) rfl ?_
  refine st8.trans ?_
  refine qaN X8 hx (dt30 hby 17 rfl :) rfl rfl ?_
  refine st12 _ ?_
  refine XS.ishl X12.here hx rfl (dt30 hby 19 rfl :) rfl ?_
  rw [show ((Int32.ofNat r9) <<< ((0 : Int32) &&& 31)) = (Int32.ofNat r9) from own_shl0 _]
  refine st15 _ ?_
  refine st36 _ ?_
  exact X36.returnOut hx hR (dt30 hby 22 rfl :) hrt
 ·
  have hlt : mc ≤ LL := Nat.le_of_not_lt fun q => hg ((own_sgt (by omega) (by omega)).mpr q)
  refine own_fin X3 hlk (v := none) (fun _ => rfl) (by decide) (by decide) ?_ (fun fs hrt => P4 _ ?_)
  ·
   show Q30_0 Z a1 mc LL n b f h0 n0 _ T3.heap _
   rw [e3]
   exact ⟨b, f, LL, rfl, N0, (Keep.refl h0 [a1]), HE0, HF2, HF3, HF4, HF5, Hg8, Or.inl rfl, HE7, HB6, hne, ⟨hlt, h3, Nat.le_refl _, fun _ _ => rfl⟩⟩
  refine qfY X3 hx 14 38 (dt30 hby 10 rfl :) ((if0 _ _).trans (flt hg).2.2.2) (by decide) (by decide) ?_
  exact X3.returnOut hx hR (dt30 hby 22 rfl :) hrt
def Q30_1 (Z : State) (a1 : Addr) (mc LL n : Nat) (b : Addr) (f : Nat → Int32) (h0 : Heap) (n0 : Nat) (v : Option Value) (h : Heap) (L : List Loc) : Prop := ∃ (b2 : Addr) (g : Nat → Int32) (L2 : Nat), v = none ∧ Fr n0 L ∧ Keep h0 h [a1] ∧ eB Z h a1 ∧ fBv Z h a1 (.ref b2) ∧ fBc Z h a1 (.int (1 : Int32)) ∧ fBn Z h a1 (.int (Int32.ofNat n)) ∧ fBm Z h a1 (.int (0 : Int32)) ∧ n0 ≤ b2 ∧ (b2 = b ∨ h0.size ≤ b2) ∧ eA Z h b2 ∧ own_Af Z h b2 .byte (Int32.ofNat (2 * L2)) g ∧ (a1 ≠ b2) ∧ (mc ≤ L2 ∧ L2 ≤ 36 ∧ LL ≤ L2 ∧ ∀ i, i < (2 * LL) → g i = f i)
theorem rm30_1 (l : Launch) (Z : State) (a0 : Array Value) (hw : own_hw a0 Z) (a1 : Addr) (mc LL n : Nat) (b : Addr) (f : Nat → Int32) (h0 : Heap) (n0 : Nat) (Z0 : n0 ≤ h0.size) (HE0 : eB Z h0 a1) (Hg1 : n0 ≤ a1) (HF2 : fBv Z h0 a1 (.ref b)) (HF3 : fBc Z h0 a1 (.int (1 : Int32))) (HF4 : fBn Z h0 a1 (.int (Int32.ofNat n))) (HF5 : fBm Z h0 a1 (.int (0 : Int32))) (HB6 : own_Af Z h0 b .byte (Int32.ofNat (2 * LL)) f) (HE7 : eA Z h0 b) (Hg8 : n0 ≤ b) (hne : a1 ≠ b) (h2 : (mc ≤ 18)) (h3 : (LL ≤ 36)) :
 own_M l ym30 [Jvm.Cond.code ym30 cm30 3 none] (⟨3, 1, 72, 55⟩ : Room) #[(.ref a1), (.int (Int32.ofNat mc))] Z h0 (Q30_1 Z a1 mc LL n b f h0 n0) := by
 refine own_go n0 (F := fun m => mkF m 0 #[sR a1, sI (Int32.ofNat mc), .unset] []) (plainFor_of_name pn_7) (fun m => rfl) ?_
 intro p e s m below meth c sq Pq hR hx hby hml hown hnm hZ hh hlk X0 e0 N0 pre0
 obtain ⟨T1, X1, e1, st1⟩ := getF X0 hx hZ hown (host := "") (Or.inl (hw _ (wi 45 rfl))) Via.refl e0 HF2 (g := (mkF m 1 #[sR a1, sI (Int32.ofNat mc), .unset] [(.ref a1)])) rfl rfl (dt30 hby 1 rfl :)
 obtain ⟨co2, Ao2, So2, Mo2, Bo2, Go2⟩ := HB6.op
 obtain ⟨T3, X3, e3, st3⟩ := getF X1 hx hZ hown (host := "") (Or.inl (hw _ (wi 47 rfl))) Via.refl e1 HF3 (g := (mkF m 6 #[sR a1, sI (Int32.ofNat mc), .unset] [(.ref a1), (.int (Int32.ofNat (2 * LL)))])) rfl rfl (dt30 hby 4 rfl :)
 have P4 : ∀ t, Steps p.tables e below (T3.setTop (mkF m 14 #[sR a1, sI (Int32.ofNat mc), sI (Int32.ofNat LL)] [(.int ((Int32.ofNat mc) - (Int32.ofNat LL)))])) t → Pq t := fun t k => pre0 t (by
  refine qaN X0 hx (dt30 hby 0 rfl :) rfl rfl ?_
  refine st1 _ ?_
  refine X1.arraylength hx (by rw [e1]; exact Ao2.1) (State.isArrayOf_alike hZ.alike Ao2.2.1) (g := (mkF m 4 #[sR a1, sI (Int32.ofNat mc), .unset] [(.ref b)])) rfl rfl (dt30 hby 2 rfl :) _ ?_
  rw [len_of So2 Mo2]
  refine qaN X1 hx (dt30 hby 3 rfl :) rfl rfl ?_
  refine st3 _ ?_
  refine XS.ishr X3.here hx rfl (dt30 hby 5 rfl :) rfl ?_
  rw [show ((Int32.ofNat (2 * LL)) >>> ((1 : Int32) &&& 31)) = (Int32.ofNat LL) from own_shr1 (by omega)]
  refine qsN X3 hx (l' := #[sR a1, sI (Int32.ofNat mc), sI (Int32.ofNat LL)]) (dt30 hby 6 rfl :) rfl ?_
  refine qiN X3 hx (dt30 hby 7 rfl :) rfl ?_
  refine qiN X3 hx (dt30 hby 8 rfl :) rfl ?_
  refine XS.isub X3.here hx rfl (dt30 hby 9 rfl :) rfl ?_
  exact k)
 by_cases hg : (0 : Int32) < ((Int32.ofNat mc) - (Int32.ofNat LL))
 ·
  have hlt : LL < mc := (own_sgt (by omega) (by omega)).mp hg
  obtain ⟨T5, X5, e5, st5⟩ := getF X3 hx hZ hown (host := "") (Or.inl (hw _ (wi 45 rfl))) Via.refl e3 HF2 (g := (mkF m 19 #[sR a1, sI (Int32.ofNat mc), sI (Int32.ofNat LL)] [(.ref a1), (.ref a1)])) rfl rfl (dt30 hby 13 rfl :)
  obtain ⟨cq8, q8, q8'⟩ := HE0.cell
  obtain ⟨_, _, ⟨T8, L8, k8, n8⟩, -, X8, ⟨Lc8, hQ8, l8, y8, z8⟩, st8⟩ := X5.privateBack hx (y := ym59) hown (mw hZ hw 269 rfl) (mw hZ hw 270 rfl) (mvT hZ (own_selfPriv (hw _ (wi 272 rfl)) (hw _ (wi 271 rfl)) (hw _ (wi 270 rfl)) (by decide))) (Cond.privateMethod_at (mvP hZ (hw _ (wi 271 rfl)) (args := #[]))) (mw hZ hw 273 rfl) (by decide) (backOf (W := 2) (rm59_1 l Z a0 hw a1 mc LL b f h0 n0 Z0 HE0 HF2 HF3 HB6 (by omega) (by omega)) hZ (hw _ (wi 273 rfl)) (hw _ (wi 39 rfl)) (by decide) (by decide)) (g := (mkF m 24 #[sR a1, sI (Int32.ofNat mc), sI (Int32.ofNat LL)] [(.int (Int32.ofNat mc)), (.ref a1), (.ref b), (.ref a1)])) rfl (by rw [hml]; rfl) (Steps.refl _) (a := a1) (by rw [e5]; exact q8) q8' (argsL := [(.int (Int32.ofNat mc))]) (rest := [(.ref b), (.ref a1)]) (lenOf pd_6 rfl) rfl (Nat.le_refl _) (dt30 hby 16 rfl :) (fun _ _ => ⟨rfl, e5, (by decide : 0 + 0 ≤ _), (by decide : 0 + 0 ≤ _)⟩)
  dsimp only [Pt.U, Pt.locs, Pt.cells, Pt.slots] at X8 l8 y8 z8 st8 hQ8
  subst l8 y8 z8
  obtain ⟨r9, rfl, N8q, R10, R11⟩ := hQ8
  have N8 := Fr.app N0 N8q
  have hr := R10
  obtain ⟨T12, X12, e12, st12⟩ := getF X8 hx hZ hown (host := "") (Or.inl (hw _ (wi 47 rfl))) Via.refl R11 HF3 (g := (mkF m 28 #[sR a1, sI (Int32.ofNat mc), sI (Int32.ofNat LL)] [(.ref a1), (.int (Int32.ofNat r9)), (.ref b), (.ref a1)])) rfl rfl (dt30 hby 18 rfl :)
  obtain ⟨_, _, ⟨T15, L15, k15, n15⟩, -, X15, ⟨Lc15, hQ15, l15, y15, z15⟩, st15⟩ := Jvm.LawKit.callS X12 hx (y := ym61) hown (mw hZ hw 281 rfl) (mw hZ hw 282 rfl) (mw hZ hw 86 rfl) (mw hZ hw 283 rfl) (by decide) (backOf (W := 1) (rm61 l Z a0 hw b (2 * r9) (2 * LL) f h0 n0 Z0 HB6 (by omega) (by omega)) hZ (hw _ (wi 283 rfl)) (hw _ (wi 86 rfl)) (by decide) (by decide)) (g := (mkF m 32 #[sR a1, sI (Int32.ofNat mc), sI (Int32.ofNat LL)] [(.int (Int32.ofNat (2 * r9))), (.ref b), (.ref a1)])) rfl (by rw [hml]; rfl) (argsL := [(.ref b), (.int (Int32.ofNat (2 * r9)))]) (rest := [(.ref a1)]) (lenOf pd_25 rfl) rfl (Nat.le_refl _) (dt30 hby 20 rfl :) (fun _ _ => ⟨rfl, e12, (by decide : 0 + 1 ≤ _), (by decide : 0 + 72 ≤ _)⟩)
  dsimp only [Pt.U, Pt.locs, Pt.cells, Pt.slots] at X15 l15 y15 z15 st15 hQ15
  subst l15 y15 z15
  obtain ⟨b216, g17, rfl, N15q, R18, R19, R20, R21, R22, R23, R24⟩ := hQ15
  have N15 := Fr.app N8 N15q
  have F25 : eB Z T15.heap a1 := HE0.keep R18
  have F26 : fBv Z T15.heap a1 (.ref b) := HF2.keep R18 nin0
  have F27 : fBc Z T15.heap a1 (.int (1 : Int32)) := HF3.keep R18 nin0
  have F28 : fBn Z T15.heap a1 (.int (Int32.ofNat n)) := HF4.keep R18 nin0
  have F29 : fBm Z T15.heap a1 (.int (0 : Int32)) := HF5.keep R18 nin0
  have K33 : Keep h0 T15.heap [a1] := (Keep.refl h0 [a1]).trans R18 all0
  have ne34 : a1 ≠ b216 := Nat.ne_of_lt (Nat.lt_of_lt_of_le HE0.lt R20)
  have sz_b216 : h0.size ≤ b216 := Nat.le_trans (Keep.refl h0 [a1]).1 R20
  obtain ⟨T36, h36, X36, e36, W36, st36⟩ := putF X15 hx hZ hown (host := "") (Or.inl (hw _ (wi 45 rfl))) Via.refl rfl F26 F25 (Or.inl (hw _ (wi 46 rfl))) (hw _ (wi 17 rfl)) (ty := (.array .byte)) (by decide) rfl rfl (g := (mkF m 35 #[sR a1, sI (Int32.ofNat mc), sI (Int32.ofNat LL)] [(.ref b216), (.ref a1)])) rfl rfl (dt30 hby 21 rfl :)
  have Fw36 : fBv Z h36 a1 (.ref b216) := F26.same W36
  have F37 : eB Z h36 a1 := F25.wr W36
  have F38 : fBc Z h36 a1 (.int (1 : Int32)) := F27.other W36 (Or.inr (slot_ne (Or.inl (hw _ (wi 48 rfl))) (Or.inl (hw _ (wi 46 rfl))) (by decide) (t := .byte) (t' := (.array .byte)) (by decide) (by decide)))
  have F39 : fBn Z h36 a1 (.int (Int32.ofNat n)) := F28.other W36 (Or.inr (slot_ne (Or.inl (hw _ (wi 78 rfl))) (Or.inl (hw _ (wi 46 rfl))) (by decide) (t := .int) (t' := (.array .byte)) (by decide) (by decide)))
  have F40 : fBm Z h36 a1 (.int (0 : Int32)) := F29.other W36 (Or.inr (slot_ne (Or.inl (hw _ (wi 224 rfl))) (Or.inl (hw _ (wi 46 rfl))) (by decide) (t := .boolean) (t' := (.array .byte)) (by decide) (by decide)))
  have F43 : eA Z h36 b216 := R21.wr W36
  have F44 : own_Af Z h36 b216 .byte (Int32.ofNat (2 * r9)) g17 := R22.keep (Keep.of_wr W36) (ninS (Ne.symm ne34) nin0)
  have K46 : Keep h0 h36 [a1] := K33.wr W36 (Or.inl (wi 0 rfl))
  have N47 := Fr.snoc X36 N15 Hg1
  refine own_fin X36 hlk (v := none) (fun _ => rfl) (by decide) (by decide) ?_ (fun fs hrt => P4 _ ?_)
  ·
   show Q30_1 Z a1 mc LL n b f h0 n0 _ T36.heap _
   rw [e36]
   exact ⟨b216, g17, r9, rfl, N47, K46, F37, Fw36, F38, F39, F40, R19, Or.inr sz_b216, F43, F44, ne34, ⟨hr.1, hr.2, by omega, R23⟩⟩
  refine qfN X3 hx (dt30 hby 10 rfl :) ((if0 _ _).trans (tlt hg).2.2.2) ?_
  refine qaN X3 hx (dt30 hby 11 rfl :) rfl rfl ?_
  refine qaN X3 hx (dt30 hby 12 rfl :) rfl rfl ?_
  refine st5 _ ?_
  refine qaN X5 hx (dt30 hby 14 rfl :) rfl rfl ?_
  refine qiN X5 hx (dt30 hby 15 rfl :) rfl ?_
  refine st8.trans ?_
  refine qaN X8 hx (dt30 hby 17 rfl :) rfl rfl ?_
  refine st12 _ ?_
  refine XS.ishl X12.here hx rfl (dt30 hby 19 rfl :) rfl ?_
  rw [show ((Int32.ofNat r9) <<< ((1 : Int32) &&& 31)) = (Int32.ofNat (2 * r9)) from own_shl1 (by omega)]
  refine st15 _ ?_
  refine st36 _ ?_
  exact X36.returnOut hx hR (dt30 hby 22 rfl :) hrt
 ·
  have hlt : mc ≤ LL := Nat.le_of_not_lt fun q => hg ((own_sgt (by omega) (by omega)).mpr q)
  refine own_fin X3 hlk (v := none) (fun _ => rfl) (by decide) (by decide) ?_ (fun fs hrt => P4 _ ?_)
  ·
   show Q30_1 Z a1 mc LL n b f h0 n0 _ T3.heap _
   rw [e3]
   exact ⟨b, f, LL, rfl, N0, (Keep.refl h0 [a1]), HE0, HF2, HF3, HF4, HF5, Hg8, Or.inl rfl, HE7, HB6, hne, ⟨hlt, h3, Nat.le_refl _, fun _ _ => rfl⟩⟩
  refine qfY X3 hx 14 38 (dt30 hby 10 rfl :) ((if0 _ _).trans (flt hg).2.2.2) (by decide) (by decide) ?_
  exact X3.returnOut hx hR (dt30 hby 22 rfl :) hrt
def Q42_0 (Z : State) (a1 : Addr) (n LL : Nat) (b : Addr) (f : Nat → Int32) (cs : Int32) (sv : Value) (dg : Addr) (h0 : Heap) (n0 : Nat) (v : Option Value) (h : Heap) (L : List Loc) : Prop := ∃ (b2 : Addr), v = none ∧ Fr n0 L ∧ Keep h0 h [a1] ∧ eB Z h a1 ∧ fBv Z h a1 (.ref b2) ∧ fBc Z h a1 (.int (1 : Int32)) ∧ fBn Z h a1 (.int (Int32.ofNat n)) ∧ fBm Z h a1 (.int (0 : Int32)) ∧ n0 ≤ b2 ∧ h0.size ≤ b2 ∧ eA Z h b2 ∧ own_Af Z h b2 .byte (Int32.ofNat (2 * LL)) (own_inf f (fun _ => (0 : Int32)) 0 n)
theorem rm42_0 (l : Launch) (Z : State) (a0 : Array Value) (hw : own_hw a0 Z) (a1 : Addr) (n LL : Nat) (b : Addr) (f : Nat → Int32) (cs : Int32) (sv : Value) (dg : Addr) (h0 : Heap) (n0 : Nat) (Z0 : n0 ≤ h0.size) (HE0 : eB Z h0 a1) (Hg1 : n0 ≤ a1) (HF2 : fBv Z h0 a1 (.ref b)) (HF3 : fBc Z h0 a1 (.int (0 : Int32))) (HF4 : fBn Z h0 a1 (.int (Int32.ofNat n))) (HF5 : fBm Z h0 a1 (.int (0 : Int32))) (HB6 : own_Af Z h0 b .byte (Int32.ofNat LL) f) (hne : a1 ≠ b) (h1 : (n ≤ LL)) (h3 : (LL ≤ 36)) (hS : (own_ST Z cs sv dg)) (HO : Old Z n0 h0) :
 own_M l ym42 [Jvm.Cond.code ym42 cm42 2 none] (⟨5, 1, 72, 76⟩ : Room) #[(.ref a1)] Z h0 (Q42_0 Z a1 n LL b f cs sv dg h0 n0) := by
 refine own_go n0 (F := fun m => mkF m 0 #[sR a1, .unset] []) (plainFor_of_name pn_7) (fun m => rfl) ?_
 intro p e s m below meth c sq Pq hR hx hby hml hown hnm hZ hh hlk X0 e0 N0 pre0
 obtain ⟨cq1, kq1, q1a, q1b, q1c⟩ := isOf hZ e0 HE0
 obtain ⟨_, _, ⟨T1, L1, k1, n1⟩, -, X1, ⟨Lc1, hQ1, l1, y1, z1⟩, st1⟩ := X0.virtualBack hx (y := ym14) (z := ym14) hown (mw hZ hw 159 rfl) (mw hZ hw 80 rfl) (notFace_of_selects (args := #[]) (mw hZ hw 82 rfl)) (mw hZ hw 82 rfl) (mw hZ hw 81 rfl) (by decide) (backOf (W := 0) (rm14_0 l Z a0 hw a1 cs sv dg h0 n0 Z0 HF3 hS HO) hZ (hw _ (wi 83 rfl)) (hw _ (wi 39 rfl)) (by decide) (by decide)) q1a q1c (g := (mkF m 1 #[sR a1, .unset] [(.ref a1)])) rfl (by rw [hml]; rfl) (Steps.refl _) (argsL := []) (rest := []) (lenOf pd_15 rfl) rfl (Nat.le_refl _) (dt42 hby 1 rfl :) (fun _ _ => ⟨rfl, e0, (by decide : 0 + 0 ≤ _), (by decide : 0 + 0 ≤ _)⟩)
 dsimp only [Pt.U, Pt.locs, Pt.cells, Pt.slots] at X1 l1 y1 z1 st1 hQ1
 subst l1 y1 z1
 obtain ⟨rfl, N1q, R2⟩ := hQ1
 have N1 := Fr.app N0 N1q
 obtain ⟨T3, X3, e3, st3⟩ := getF X1 hx hZ hown (host := "") (Or.inl (hw _ (wi 45 rfl))) Via.refl R2 HF2 (g := (mkF m 9 #[sR a1, .unset] [(.ref a1)])) rfl rfl (dt42 hby 4 rfl :)
 obtain ⟨co4, Ao4, So4, Mo4, Bo4, Go4⟩ := HB6.op
 obtain ⟨_, _, ⟨T6, L6, k6, n6⟩, -, X6, ⟨Lc6, hQ6, l6, y6, z6⟩, st6⟩ := Jvm.LawKit.callS X3 hx (y := ym35) hown (mw hZ hw 204 rfl) (mw hZ hw 174 rfl) (mw hZ hw 108 rfl) (mw hZ hw 175 rfl) (by decide) (backOf (W := 0) (rm35 l Z a0 hw LL h0 n0 Z0 h3) hZ (hw _ (wi 175 rfl)) (hw _ (wi 108 rfl)) (by decide) (by decide)) (g := (mkF m 13 #[sR a1, .unset] [(.int (Int32.ofNat LL))])) rfl (by rw [hml]; rfl) (argsL := [(.int (Int32.ofNat LL))]) (rest := []) (lenOf pd_19 rfl) rfl (Nat.le_refl _) (dt42 hby 6 rfl :) (fun _ _ => ⟨rfl, e3, (by decide : 0 + 1 ≤ _), (by decide : 0 + 72 ≤ _)⟩)
 dsimp only [Pt.U, Pt.locs, Pt.cells, Pt.slots] at X6 l6 y6 z6 st6 hQ6
 subst l6 y6 z6
 obtain ⟨b7, rfl, N6q, R8, R9, R10, R11, R12⟩ := hQ6
 have N6 := Fr.app N1 N6q
 have F13 : eB Z T6.heap a1 := HE0.keep R8
 have F14 : fBv Z T6.heap a1 (.ref b) := HF2.keep R8 nin0
 have F15 : fBc Z T6.heap a1 (.int (0 : Int32)) := HF3.keep R8 nin0
 have F16 : fBn Z T6.heap a1 (.int (Int32.ofNat n)) := HF4.keep R8 nin0
 have F17 : fBm Z T6.heap a1 (.int (0 : Int32)) := HF5.keep R8 nin0
 have F18 : own_Af Z T6.heap b .byte (Int32.ofNat LL) f := HB6.keep R8 nin0
 have F19 : Old Z n0 T6.heap := HO.keep R8 all0
 have Z20 : n0 ≤ T6.heap.size := Nat.le_trans Z0 R8.1
 have K21 : Keep h0 T6.heap [a1] := (Keep.refl h0 [a1]).trans R8 all0
 have ne22 : a1 ≠ b7 := Nat.ne_of_lt (Nat.lt_of_lt_of_le HE0.lt R10)
 have ne23 : b ≠ b7 := Nat.ne_of_lt (Nat.lt_of_lt_of_le HB6.lt R10)
 have sz_b7 : h0.size ≤ b7 := Nat.le_trans (Keep.refl h0 [a1]).1 R10
 obtain ⟨T24, X24, e24, st24⟩ := getF X6 hx hZ hown (host := "") (Or.inl (hw _ (wi 45 rfl))) Via.refl rfl F14 (g := (mkF m 18 #[sR a1, sR b7] [(.ref a1)])) rfl rfl (dt42 hby 9 rfl :)
 obtain ⟨T25, X25, e25, st25⟩ := getF X24 hx hZ hown (host := "") (Or.inl (hw _ (wi 77 rfl))) Via.refl e24 F16 (g := (mkF m 25 #[sR a1, sR b7] [(.ref a1), (.int (0 : Int32)), (.ref b7), (.int (0 : Int32)), (.ref b)])) rfl rfl (dt42 hby 14 rfl :)
 obtain ⟨_, _, ⟨T30, L30, k30, n30⟩, -, X30, ⟨Lc30, hQ30, l30, y30, z30⟩, st30⟩ := Jvm.LawKit.callS X25 hx (y := ym43) hown (mw hZ hw 205 rfl) (mw hZ hw 206 rfl) (mw hZ hw 128 rfl) (mw hZ hw 207 rfl) (by decide) (backOf (W := 0) (rm43 l Z a0 hw b b7 0 n LL LL f (fun _ => (0 : Int32)) cs sv dg T6.heap n0 Z20 F18 R12 R9 ne23 (by omega) (by omega) (by omega) (by omega) hS F19) hZ (hw _ (wi 207 rfl)) (hw _ (wi 128 rfl)) (by decide) (by decide)) (g := (mkF m 28 #[sR a1, sR b7] [(.int (Int32.ofNat n)), (.int (0 : Int32)), (.ref b7), (.int (0 : Int32)), (.ref b)])) rfl (by rw [hml]; rfl) (argsL := [(.ref b), (.int (0 : Int32)), (.ref b7), (.int (0 : Int32)), (.int (Int32.ofNat n))]) (rest := []) (lenOf pd_13 rfl) rfl (Nat.le_refl _) (dt42 hby 15 rfl :) (fun _ _ => ⟨rfl, e25, (by decide : 1 + 0 ≤ _), (by decide : 72 + 0 ≤ _)⟩)
 dsimp only [Pt.U, Pt.locs, Pt.cells, Pt.slots] at X30 l30 y30 z30 st30 hQ30
 subst l30 y30 z30
 obtain ⟨rfl, N30q, R31, R32⟩ := hQ30
 have N30 := Fr.app N6 N30q
 have F33 : eB Z T30.heap a1 := F13.keep R31
 have F34 : fBv Z T30.heap a1 (.ref b) := F14.keep R31 (ninS ne22 nin0)
 have F35 : fBc Z T30.heap a1 (.int (0 : Int32)) := F15.keep R31 (ninS ne22 nin0)
 have F36 : fBn Z T30.heap a1 (.int (Int32.ofNat n)) := F16.keep R31 (ninS ne22 nin0)
 have F37 : fBm Z T30.heap a1 (.int (0 : Int32)) := F17.keep R31 (ninS ne22 nin0)
 have F40 : eA Z T30.heap b7 := R11.keep R31
 have K42 : Keep h0 T30.heap [a1] := K21.trans R31 (allS (Or.inr sz_b7) all0)
 obtain ⟨T43, h43, X43, e43, W43, st43⟩ := putF X30 hx hZ hown (host := "") (Or.inl (hw _ (wi 45 rfl))) Via.refl rfl F34 F33 (Or.inl (hw _ (wi 46 rfl))) (hw _ (wi 17 rfl)) (ty := (.array .byte)) (by decide) rfl rfl (g := (mkF m 33 #[sR a1, sR b7] [(.ref b7), (.ref a1)])) rfl rfl (dt42 hby 18 rfl :)
 have Fw43 : fBv Z h43 a1 (.ref b7) := F34.same W43
 have F44 : eB Z h43 a1 := F33.wr W43
 have F45 : fBc Z h43 a1 (.int (0 : Int32)) := F35.other W43 (Or.inr (slot_ne (Or.inl (hw _ (wi 48 rfl))) (Or.inl (hw _ (wi 46 rfl))) (by decide) (t := .byte) (t' := (.array .byte)) (by decide) (by decide)))
 have F46 : fBn Z h43 a1 (.int (Int32.ofNat n)) := F36.other W43 (Or.inr (slot_ne (Or.inl (hw _ (wi 78 rfl))) (Or.inl (hw _ (wi 46 rfl))) (by decide) (t := .int) (t' := (.array .byte)) (by decide) (by decide)))
 have F47 : fBm Z h43 a1 (.int (0 : Int32)) := F37.other W43 (Or.inr (slot_ne (Or.inl (hw _ (wi 224 rfl))) (Or.inl (hw _ (wi 46 rfl))) (by decide) (t := .boolean) (t' := (.array .byte)) (by decide) (by decide)))
 have F50 : eA Z h43 b7 := F40.wr W43
 have F51 : own_Af Z h43 b7 .byte (Int32.ofNat (2 * LL)) (own_inf f (fun _ => (0 : Int32)) 0 n) := R32.keep (Keep.of_wr W43) (ninS (Ne.symm ne22) nin0)
 have K53 : Keep h0 h43 [a1] := K42.wr W43 (Or.inl (wi 0 rfl))
 have N54 := Fr.snoc X43 N30 Hg1
 obtain ⟨T55, h55, X55, e55, W55, st55⟩ := putFN X43 hx hZ hown (hw _ (wi 47 rfl)) Via.refl e43 F45 F44 (Or.inl (hw _ (wi 48 rfl))) (hw _ (wi 17 rfl)) (ty := .byte) (v' := (.int (1 : Int32))) (by decide) rfl (by decide) (g := (mkF m 38 #[sR a1, sR b7] [(.int (1 : Int32)), (.ref a1)])) rfl rfl (dt42 hby 21 rfl :)
 have Fw55 : fBc Z h55 a1 (.int (1 : Int32)) := F45.same W55
 have F56 : eB Z h55 a1 := F44.wr W55
 have F57 : fBn Z h55 a1 (.int (Int32.ofNat n)) := F46.other W55 (Or.inr (slot_ne (Or.inl (hw _ (wi 78 rfl))) (Or.inl (hw _ (wi 48 rfl))) (by decide) (t := .int) (t' := .byte) (by decide) (by decide)))
 have F58 : fBm Z h55 a1 (.int (0 : Int32)) := F47.other W55 (Or.inr (slot_ne (Or.inl (hw _ (wi 224 rfl))) (Or.inl (hw _ (wi 48 rfl))) (by decide) (t := .boolean) (t' := .byte) (by decide) (by decide)))
 have F61 : eA Z h55 b7 := F50.wr W55
 have F62 : own_Af Z h55 b7 .byte (Int32.ofNat (2 * LL)) (own_inf f (fun _ => (0 : Int32)) 0 n) := F51.keep (Keep.of_wr W55) (ninS (Ne.symm ne22) nin0)
 have F63 : fBv Z h55 a1 (.ref b7) := Fw43.other W55 (Or.inr (slot_ne (Or.inl (hw _ (wi 46 rfl))) (Or.inl (hw _ (wi 48 rfl))) (by decide) (t := (.array .byte)) (t' := .byte) (by decide) (by decide)))
 have K65 : Keep h0 h55 [a1] := K53.wr W55 (Or.inl (wi 0 rfl))
 have N66 := Fr.snoc X55 N54 Hg1
 refine own_fin X55 hlk (v := none) (fun _ => rfl) (by decide) (by decide) ?_ (fun fs hrt => pre0 _ ?_)
 ·
  show Q42_0 Z a1 n LL b f cs sv dg h0 n0 _ T55.heap _
  rw [e55]
  exact ⟨b7, rfl, N66, K65, F56, F63, Fw55, F57, F58, R9, sz_b7, F61, F62⟩
 refine qaN X0 hx (dt42 hby 0 rfl :) rfl rfl ?_
 refine st1.trans ?_
 refine qfY X1 hx 4 8 (dt42 hby 2 rfl :) ((if0 _ _).trans (feq (by decide : ¬ ((1 : Int32) = (0 : Int32)))).2) (by decide) (by decide) ?_
 refine qaN X1 hx (dt42 hby 3 rfl :) rfl rfl ?_
 refine st3 _ ?_
 refine X3.arraylength hx (by rw [e3]; exact Ao4.1) (State.isArrayOf_alike hZ.alike Ao4.2.1) (g := (mkF m 12 #[sR a1, .unset] [(.ref b)])) rfl rfl (dt42 hby 5 rfl :) _ ?_
 rw [len_of So4 Mo4]
 refine st6 _ ?_
 refine qtN X6 hx (l' := #[sR a1, sR b7]) (dt42 hby 7 rfl :) rfl rfl ?_
 refine qaN X6 hx (dt42 hby 8 rfl :) rfl rfl ?_
 refine st24 _ ?_
 refine qc X24 hx (0 : Int32) (dt42 hby 10 rfl :) rfl ?_
 refine qaN X24 hx (dt42 hby 11 rfl :) rfl rfl ?_
 refine qc X24 hx (0 : Int32) (dt42 hby 12 rfl :) rfl ?_
 refine qaN X24 hx (dt42 hby 13 rfl :) rfl rfl ?_
 refine st25 _ ?_
 refine st30 _ ?_
 refine qaN X30 hx (dt42 hby 16 rfl :) rfl rfl ?_
 refine qaN X30 hx (dt42 hby 17 rfl :) rfl rfl ?_
 refine st43 _ ?_
 refine qaN X43 hx (dt42 hby 19 rfl :) rfl rfl ?_
 refine qc X43 hx (1 : Int32) (dt42 hby 20 rfl :) rfl ?_
 refine st55 _ ?_
 exact X55.returnOut hx hR (dt42 hby 22 rfl :) hrt
def Q42_1 (Z : State) (a1 : Addr) (cs : Int32) (sv : Value) (dg : Addr) (h0 : Heap) (n0 : Nat) (v : Option Value) (h : Heap) (L : List Loc) : Prop := v = none ∧ Fr n0 L ∧ h = h0
theorem rm42_1 (l : Launch) (Z : State) (a0 : Array Value) (hw : own_hw a0 Z) (a1 : Addr) (cs : Int32) (sv : Value) (dg : Addr) (h0 : Heap) (n0 : Nat) (Z0 : n0 ≤ h0.size) (HE0 : eB Z h0 a1) (HF1 : fBc Z h0 a1 (.int (1 : Int32))) (hS : (own_ST Z cs sv dg)) (HO : Old Z n0 h0) :
 own_M l ym42 [Jvm.Cond.code ym42 cm42 2 none] (⟨1, 0, 0, 12⟩ : Room) #[(.ref a1)] Z h0 (Q42_1 Z a1 cs sv dg h0 n0) := by
 refine own_go n0 (F := fun m => mkF m 0 #[sR a1, .unset] []) (plainFor_of_name pn_7) (fun m => rfl) ?_
 intro p e s m below meth c sq Pq hR hx hby hml hown hnm hZ hh hlk X0 e0 N0 pre0
 obtain ⟨cq1, kq1, q1a, q1b, q1c⟩ := isOf hZ e0 HE0
 obtain ⟨_, _, ⟨T1, L1, k1, n1⟩, -, X1, ⟨Lc1, hQ1, l1, y1, z1⟩, st1⟩ := X0.virtualBack hx (y := ym14) (z := ym14) hown (mw hZ hw 159 rfl) (mw hZ hw 80 rfl) (notFace_of_selects (args := #[]) (mw hZ hw 82 rfl)) (mw hZ hw 82 rfl) (mw hZ hw 81 rfl) (by decide) (backOf (W := 0) (rm14_1 l Z a0 hw a1 cs sv dg h0 n0 Z0 HF1 hS HO) hZ (hw _ (wi 83 rfl)) (hw _ (wi 39 rfl)) (by decide) (by decide)) q1a q1c (g := (mkF m 1 #[sR a1, .unset] [(.ref a1)])) rfl (by rw [hml]; rfl) (Steps.refl _) (argsL := []) (rest := []) (lenOf pd_15 rfl) rfl (Nat.le_refl _) (dt42 hby 1 rfl :) (fun _ _ => ⟨rfl, e0, (by decide : 0 + 0 ≤ _), (by decide : 0 + 0 ≤ _)⟩)
 dsimp only [Pt.U, Pt.locs, Pt.cells, Pt.slots] at X1 l1 y1 z1 st1 hQ1
 subst l1 y1 z1
 obtain ⟨rfl, N1q, R2⟩ := hQ1
 have N1 := Fr.app N0 N1q
 refine own_fin X1 hlk (v := none) (fun _ => rfl) (by decide) (by decide) ?_ (fun fs hrt => pre0 _ ?_)
 ·
  show Q42_1 Z a1 cs sv dg h0 n0 _ T1.heap _
  rw [R2]
  exact ⟨rfl, N1, rfl⟩
 refine qaN X0 hx (dt42 hby 0 rfl :) rfl rfl ?_
 refine st1.trans ?_
 refine qfN X1 hx (dt42 hby 2 rfl :) ((if0 _ _).trans (teq (by decide : (0 : Int32) = (0 : Int32))).2) ?_
 exact X1.returnOut hx hR (dt42 hby 23 rfl :) hrt
theorem pd_26 : parseMethodDescriptor "()V" = some ⟨[], none⟩ := by decide +kernel
def Q29 (Z : State) (a1 : Addr) (p2 : Int32) (b : Addr) (ys : List Int32) (cs : Int32) (sv : Value) (dg : Addr) (h0 : Heap) (n0 : Nat) (v : Option Value) (h : Heap) (L : List Loc) : Prop := ∃ (b2 : Addr), v = some (.ref a1) ∧ Fr n0 L ∧ Keep h0 h [a1, b] ∧ n0 ≤ b2 ∧ (b2 = b ∨ h0.size ≤ b2) ∧ own_Sb Z h a1 b2 (ys ++ [p2])
theorem rm29 (l : Launch) (Z : State) (a0 : Array Value) (hw : own_hw a0 Z) (a1 : Addr) (p2 : Int32) (b : Addr) (ys : List Int32) (cs : Int32) (sv : Value) (dg : Addr) (h0 : Heap) (n0 : Nat) (Z0 : n0 ≤ h0.size) (HU0 : own_Sb Z h0 a1 b ys) (Hg1 : n0 ≤ a1) (Hg2 : n0 ≤ b) (hc : (own_ch p2)) (hl : (ys.length < 18)) (hS : (own_ST Z cs sv dg)) (HO : Old Z n0 h0) :
 own_M l ym29 [Jvm.Cond.code ym29 cm29 2 (some (.object "java/lang/AbstractStringBuilder"))] (⟨6, 2, 144, 89⟩ : Room) #[(.ref a1), (.int p2)] Z h0 (Q29 Z a1 p2 b ys cs sv dg h0 n0) := by
 refine own_go n0 (F := fun m => mkF m 0 #[sR a1, sI p2] []) (plainFor_of_name pn_7) (fun m => rfl) ?_
 intro p e s m below meth c sq Pq hR hx hby hml hown hnm hZ hh hlk X0 e0 N0 pre0
 obtain ⟨f, LL, hne, E1, E2, V1, N1, M1, l1, l2, (⟨C1, A1, r1⟩ | ⟨C1, A1, r1⟩)⟩ := HU0
 ·
  obtain ⟨T1, X1, e1, st1⟩ := getF X0 hx hZ hown (host := "") (Or.inl (hw _ (wi 77 rfl))) Via.refl e0 N1 (g := (mkF m 2 #[sR a1, sI p2] [(.ref a1), (.ref a1)])) rfl rfl (dt29 hby 2 rfl :)
  obtain ⟨cq4, q4, q4'⟩ := E1.cell
  obtain ⟨_, _, ⟨T4, L4, k4, n4⟩, -, X4, ⟨Lc4, hQ4, l4, y4, z4⟩, st4⟩ := X1.privateBack hx (y := ym30) hown (mw hZ hw 154 rfl) (mw hZ hw 155 rfl) (mvT hZ (own_selfPriv (hw _ (wi 157 rfl)) (hw _ (wi 156 rfl)) (hw _ (wi 155 rfl)) (by decide))) (Cond.privateMethod_at (mvP hZ (hw _ (wi 156 rfl)) (args := #[]))) (mw hZ hw 158 rfl) (by decide) (backOf (W := 0) (rm30_0 l Z a0 hw a1 (ys.length + 1) LL ys.length b f h0 n0 Z0 E1 Hg1 V1 C1 N1 M1 A1 E2 Hg2 hne (by omega) (by omega)) hZ (hw _ (wi 158 rfl)) (hw _ (wi 39 rfl)) (by decide) (by decide)) (g := (mkF m 7 #[sR a1, sI p2] [(.int (Int32.ofNat (ys.length + 1))), (.ref a1)])) rfl (by rw [hml]; rfl) (Steps.refl _) (a := a1) (by rw [e1]; exact q4) q4' (argsL := [(.int (Int32.ofNat (ys.length + 1)))]) (rest := []) (lenOf pd_24 rfl) rfl (Nat.le_refl _) (dt29 hby 5 rfl :) (fun _ _ => ⟨rfl, e1, (by decide : 0 + 1 ≤ _), (by decide : 0 + 72 ≤ _)⟩)
  dsimp only [Pt.U, Pt.locs, Pt.cells, Pt.slots] at X4 l4 y4 z4 st4 hQ4
  subst l4 y4 z4
  obtain ⟨b25, g6, L27, rfl, N4q, R8, R9, R10, R11, R12, R13, R14, R15, R16, R17, R18, R19⟩ := hQ4
  have N4 := Fr.app N0 N4q
  have F20 : Old Z n0 T4.heap := HO.keep R8 (allS Hg1 all0)
  have Z24 : n0 ≤ T4.heap.size := Nat.le_trans Z0 R8.1
  have K25 : Keep h0 T4.heap [a1, b] := (Keep.refl h0 [a1, b]).trans R8 (allS (Or.inl (wi 0 rfl)) all0)
  have so28 : b25 = b ∨ h0.size ≤ b25 := R15.elim (fun e => by rw [e]; exact Or.inl rfl) (fun q => Or.inr (Nat.le_trans (Keep.refl h0 [a1, b]).1 q))
  have sz27 : b25 ∈ [a1, b] ∨ h0.size ≤ b25 := so28.elim (fun e => by rw [e]; exact Or.inl (wi 1 rfl)) Or.inr
  obtain ⟨hm1, hm2, hm3, hm4⟩ := R19
  obtain ⟨cq29, kq29, q29a, q29b, q29c⟩ := isOf hZ rfl R9
  obtain ⟨_, _, ⟨T29, L29, k29, n29⟩, -, X29, ⟨Lc29, hQ29, l29, y29, z29⟩, st29⟩ := X4.virtualBack hx (y := ym14) (z := ym14) hown (mw hZ hw 159 rfl) (mw hZ hw 80 rfl) (notFace_of_selects (args := #[]) (mw hZ hw 82 rfl)) (mw hZ hw 82 rfl) (mw hZ hw 81 rfl) (by decide) (backOf (W := 0) (rm14_0 l Z a0 hw a1 cs sv dg T4.heap n0 Z24 R11 hS F20) hZ (hw _ (wi 83 rfl)) (hw _ (wi 39 rfl)) (by decide) (by decide)) q29a q29c (g := (mkF m 11 #[sR a1, sI p2] [(.ref a1)])) rfl (by rw [hml]; rfl) (Steps.refl _) (argsL := []) (rest := []) (lenOf pd_15 rfl) rfl (Nat.le_refl _) (dt29 hby 7 rfl :) (fun _ _ => ⟨rfl, rfl, (by decide : 1 + 0 ≤ _), (by decide : 72 + 0 ≤ _)⟩)
  dsimp only [Pt.U, Pt.locs, Pt.cells, Pt.slots] at X29 l29 y29 z29 st29 hQ29
  subst l29 y29 z29
  obtain ⟨rfl, N29q, R30⟩ := hQ29
  have N29 := Fr.app N4 N29q
  obtain ⟨_, _, ⟨T31, L31, k31, n31⟩, -, X31, ⟨Lc31, hQ31, l31, y31, z31⟩, st31⟩ := Jvm.LawKit.callS X29 hx (y := ym31) hown (mw hZ hw 160 rfl) (mw hZ hw 161 rfl) (mw hZ hw 128 rfl) (mw hZ hw 162 rfl) (by decide) (backOf (W := 0) (rm31 l Z a0 hw p2 T4.heap n0 Z24 ) hZ (hw _ (wi 162 rfl)) (hw _ (wi 128 rfl)) (by decide) (by decide)) (g := (mkF m 18 #[sR a1, sI p2] [(.int p2)])) rfl (by rw [hml]; rfl) (argsL := [(.int p2)]) (rest := []) (lenOf pd_16 rfl) rfl (Nat.le_refl _) (dt29 hby 10 rfl :) (fun _ _ => ⟨rfl, R30, (by decide : 1 + 0 ≤ _), (by decide : 72 + 0 ≤ _)⟩)
  dsimp only [Pt.U, Pt.locs, Pt.cells, Pt.slots] at X31 l31 y31 z31 st31 hQ31
  subst l31 y31 z31
  obtain ⟨r32, rfl, N31q, R33, R34⟩ := hQ31
  have N31 := Fr.app N29 N31q
  have P35 : ∀ t, Steps p.tables e below (T31.setTop (mkF m 21 #[sR a1, sI p2] [(.int r32)])) t → Pq t := fun t k => pre0 t (by
   refine qaN X0 hx (dt29 hby 0 rfl :) rfl rfl ?_
   refine qaN X0 hx (dt29 hby 1 rfl :) rfl rfl ?_
   refine st1 _ ?_
   refine qc X1 hx (1 : Int32) (dt29 hby 3 rfl :) rfl ?_
   refine XS.iadd X1.here hx rfl (dt29 hby 4 rfl :) rfl ?_
   rw [show ((Int32.ofNat ys.length) + (1 : Int32)) = (Int32.ofNat (ys.length + 1)) from own_isucc _]
   refine st4.trans ?_
   refine qaN X4 hx (dt29 hby 6 rfl :) rfl rfl ?_
   refine st29.trans ?_
   refine qfN X29 hx (dt29 hby 8 rfl :) ((if0 _ _).trans (feq (by decide : ¬ ((1 : Int32) = (0 : Int32)))).1) ?_
   refine qiN X29 hx (dt29 hby 9 rfl :) rfl ?_
   refine st31 _ ?_
   exact k)
  rcases R33 with ⟨hle, rfl⟩ | ⟨hle, rfl⟩
  ·
   obtain ⟨T36, X36, e36, st36⟩ := getF X31 hx hZ hown (host := "") (Or.inl (hw _ (wi 45 rfl))) Via.refl R34 R10 (g := (mkF m 25 #[sR a1, sI p2] [(.ref a1)])) rfl rfl (dt29 hby 13 rfl :)
   obtain ⟨T37, X37, e37, st37⟩ := getF X36 hx hZ hown (host := "") (Or.inl (hw _ (wi 77 rfl))) Via.refl e36 R12 (g := (mkF m 30 #[sR a1, sI p2] [(.ref a1), (.ref a1), (.ref b25)])) rfl rfl (dt29 hby 16 rfl :)
   obtain ⟨T38, h38, X38, e38, W38, st38⟩ := putF X37 hx hZ hown (host := "") (Or.inl (hw _ (wi 77 rfl))) Via.refl e37 R12 R9 (Or.inl (hw _ (wi 78 rfl))) (hw _ (wi 17 rfl)) (ty := .int) (by decide) rfl rfl (g := (mkF m 36 #[sR a1, sI p2] [(.int (Int32.ofNat (ys.length + 1))), (.ref a1), (.int (Int32.ofNat ys.length)), (.ref b25)])) rfl rfl (dt29 hby 20 rfl :)
   have Fw38 : fBn Z h38 a1 (.int (Int32.ofNat (ys.length + 1))) := R12.same W38
   have F40 : eB Z h38 a1 := R9.wr W38
   have F41 : fBv Z h38 a1 (.ref b25) := R10.other W38 (Or.inr (slot_ne (Or.inl (hw _ (wi 46 rfl))) (Or.inl (hw _ (wi 78 rfl))) (by decide) (t := (.array .byte)) (t' := .int) (by decide) (by decide)))
   have F42 : fBc Z h38 a1 (.int (0 : Int32)) := R11.other W38 (Or.inr (slot_ne (Or.inl (hw _ (wi 48 rfl))) (Or.inl (hw _ (wi 78 rfl))) (by decide) (t := .byte) (t' := .int) (by decide) (by decide)))
   have F43 : fBm Z h38 a1 (.int (0 : Int32)) := R13.other W38 (Or.inr (slot_ne (Or.inl (hw _ (wi 224 rfl))) (Or.inl (hw _ (wi 78 rfl))) (by decide) (t := .boolean) (t' := .int) (by decide) (by decide)))
   have F44 : eA Z h38 b25 := R16.wr W38
   have F45 : own_Af Z h38 b25 .byte (Int32.ofNat L27) g6 := R17.keep (Keep.of_wr W38) (ninS (Ne.symm R18) nin0)
   have K47 : Keep h0 h38 [a1, b] := K25.wr W38 (Or.inl (wi 0 rfl))
   have N48 := Fr.snoc X38 N31 Hg1
   obtain ⟨co49, Ao49, So49, Mo49, Bo49, Go49⟩ := F45.op
   obtain ⟨T50, h50, X50, e50, W50, st50⟩ := stB X38 hx hZ e38 Ao49 (j := (Int32.ofNat ys.length)) (inb_of So49 ⟨own_i0 (by omega), own_ilt (by omega) (by omega) (by omega)⟩) (g := (mkF m 41 #[sR a1, sI p2] [(.int (p2.toInt8.toInt32)), (.int (Int32.ofNat ys.length)), (.ref b25)])) rfl rfl (dt29 hby 23 rfl :)
   have V50 : own_Af Z h50 b25 .byte (Int32.ofNat L27) (own_sb g6 (Int32.ofNat ys.length) (p2.toInt8.toInt32)) := own_Af.set Ao49 So49 Mo49 Bo49 Go49 (fits_nar_byte _) W50
   have F52 : eB Z h50 a1 := F40.wr W50
   have F53 : fBv Z h50 a1 (.ref b25) := F41.other W50 (Or.inl R18)
   have F54 : fBc Z h50 a1 (.int (0 : Int32)) := F42.other W50 (Or.inl R18)
   have F55 : fBm Z h50 a1 (.int (0 : Int32)) := F43.other W50 (Or.inl R18)
   have F56 : eA Z h50 b25 := F44.wr W50
   have F57 : fBn Z h50 a1 (.int (Int32.ofNat (ys.length + 1))) := Fw38.other W50 (Or.inl R18)
   have K59 : Keep h0 h50 [a1, b] := K47.wr W50 sz27
   have N60 := Fr.snoc X50 N48 R14
   have Sb61 : own_Sb Z h50 a1 b25 (ys ++ [p2]) := own_Sb.mk0 (by simp) R18 F52 F56 F53 F57 F55 F54 V50 (by omega) (by omega) (own_lat_put (own_lat_cg r1 l1 hm4) hc.1 hle (by omega))
   refine own_fin X50 hlk (v := some (.ref a1)) (own_nv hR) (by decide) (by decide) ?_ (fun fs hrt => P35 _ ?_)
   ·
    show Q29 Z a1 p2 b ys cs sv dg h0 n0 _ T50.heap _
    rw [e50]
    exact ⟨b25, rfl, N60, K59, R14, so28, Sb61⟩
   refine qfN X31 hx (dt29 hby 11 rfl :) ((if0 _ _).trans (feq (by decide : ¬ ((1 : Int32) = (0 : Int32)))).1) ?_
   refine qaN X31 hx (dt29 hby 12 rfl :) rfl rfl ?_
   refine st36 _ ?_
   refine qaN X36 hx (dt29 hby 14 rfl :) rfl rfl ?_
   refine XS.dup X36.here hx rfl (dt29 hby 15 rfl :) rfl rfl ?_
   refine st37 _ ?_
   refine XS.dupX1 X37.here hx rfl (dt29 hby 17 rfl :) rfl rfl rfl ?_
   refine qc X37 hx (1 : Int32) (dt29 hby 18 rfl :) rfl ?_
   refine XS.iadd X37.here hx rfl (dt29 hby 19 rfl :) rfl ?_
   rw [show ((Int32.ofNat ys.length) + (1 : Int32)) = (Int32.ofNat (ys.length + 1)) from own_isucc _]
   refine st38 _ ?_
   refine qiN X38 hx (dt29 hby 21 rfl :) rfl ?_
   refine XS.i2b X38.here hx rfl (dt29 hby 22 rfl :) rfl ?_
   refine st50 _ ?_
   refine qg X50 hx 42 75 (dt29 hby 24 rfl :) (by decide) (by decide) ?_
   refine qaN X50 hx (dt29 hby 25 rfl :) rfl rfl ?_
   exact retOut X50 hx hR rfl (Or.inr (Or.inr (Or.inr (Or.inr ⟨rfl, rfl, rfl⟩)))) (dt29 hby 26 rfl :) hrt
  ·
   obtain ⟨cq62, kq62, q62a, q62b, q62c⟩ := isOf hZ R34 R9
   obtain ⟨_, _, ⟨T62, L62, k62, n62⟩, -, X62, ⟨Lc62, hQ62, l62, y62, z62⟩, st62⟩ := X31.virtualBack hx (y := ym14) (z := ym14) hown (mw hZ hw 159 rfl) (mw hZ hw 80 rfl) (notFace_of_selects (args := #[]) (mw hZ hw 82 rfl)) (mw hZ hw 82 rfl) (mw hZ hw 81 rfl) (by decide) (backOf (W := 0) (rm14_0 l Z a0 hw a1 cs sv dg T4.heap n0 Z24 R11 hS F20) hZ (hw _ (wi 83 rfl)) (hw _ (wi 39 rfl)) (by decide) (by decide)) q62a q62c (g := (mkF m 46 #[sR a1, sI p2] [(.ref a1)])) rfl (by rw [hml]; rfl) (Steps.refl _) (argsL := []) (rest := []) (lenOf pd_15 rfl) rfl (Nat.le_refl _) (dt29 hby 28 rfl :) (fun _ _ => ⟨rfl, R34, (by decide : 1 + 0 ≤ _), (by decide : 72 + 0 ≤ _)⟩)
   dsimp only [Pt.U, Pt.locs, Pt.cells, Pt.slots] at X62 l62 y62 z62 st62 hQ62
   subst l62 y62 z62
   obtain ⟨rfl, N62q, R63⟩ := hQ62
   have N62 := Fr.app N31 N62q
   obtain ⟨cq66, q66, q66'⟩ := R9.cell
   obtain ⟨_, _, ⟨T66, L66, k66, n66⟩, -, X66, ⟨Lc66, hQ66, l66, y66, z66⟩, st66⟩ := X62.privateBack hx (y := ym42) hown (mw hZ hw 199 rfl) (mw hZ hw 200 rfl) (mvT hZ (own_selfPriv (hw _ (wi 202 rfl)) (hw _ (wi 201 rfl)) (hw _ (wi 200 rfl)) (by decide))) (Cond.privateMethod_at (mvP hZ (hw _ (wi 201 rfl)) (args := #[]))) (mw hZ hw 203 rfl) (by decide) (backOf (W := 0) (rm42_0 l Z a0 hw a1 ys.length L27 b25 g6 cs sv dg T4.heap n0 Z24 R9 Hg1 R10 R11 R12 R13 R17 R18 (by omega) (by omega) hS F20) hZ (hw _ (wi 203 rfl)) (hw _ (wi 39 rfl)) (by decide) (by decide)) (g := (mkF m 53 #[sR a1, sI p2] [(.ref a1)])) rfl (by rw [hml]; rfl) (Steps.refl _) (a := a1) (by rw [R63]; exact q66) q66' (argsL := []) (rest := []) (lenOf pd_26 rfl) rfl (Nat.le_refl _) (dt29 hby 31 rfl :) (fun _ _ => ⟨rfl, R63, (by decide : 1 + 1 ≤ _), (by decide : 72 + 72 ≤ _)⟩)
   dsimp only [Pt.U, Pt.locs, Pt.cells, Pt.slots] at X66 l66 y66 z66 st66 hQ66
   subst l66 y66 z66
   obtain ⟨b267, rfl, N66q, R68, R69, R70, R71, R72, R73, R74, R75, R76, R77⟩ := hQ66
   have N66 := Fr.app N62 N66q
   have F78 : Old Z n0 T66.heap := F20.keep R68 (allS Hg1 all0)
   have Z82 : n0 ≤ T66.heap.size := Nat.le_trans Z24 R68.1
   have K83 : Keep h0 T66.heap [a1, b] := K25.trans R68 (allS (Or.inl (wi 0 rfl)) all0)
   have ne84 : a1 ≠ b267 := Nat.ne_of_lt (Nat.lt_of_lt_of_le R9.lt R75)
   have sz_b267 : h0.size ≤ b267 := Nat.le_trans K25.1 R75
   obtain ⟨T86, X86, e86, st86⟩ := getF X66 hx hZ hown (host := "") (Or.inl (hw _ (wi 45 rfl))) Via.refl rfl R70 (g := (mkF m 57 #[sR a1, sI p2] [(.ref a1)])) rfl rfl (dt29 hby 33 rfl :)
   obtain ⟨T87, X87, e87, st87⟩ := getF X86 hx hZ hown (host := "") (Or.inl (hw _ (wi 77 rfl))) Via.refl e86 R72 (g := (mkF m 62 #[sR a1, sI p2] [(.ref a1), (.ref a1), (.ref b267)])) rfl rfl (dt29 hby 36 rfl :)
   obtain ⟨T88, h88, X88, e88, W88, st88⟩ := putF X87 hx hZ hown (host := "") (Or.inl (hw _ (wi 77 rfl))) Via.refl e87 R72 R69 (Or.inl (hw _ (wi 78 rfl))) (hw _ (wi 17 rfl)) (ty := .int) (by decide) rfl rfl (g := (mkF m 68 #[sR a1, sI p2] [(.int (Int32.ofNat (ys.length + 1))), (.ref a1), (.int (Int32.ofNat ys.length)), (.ref b267)])) rfl rfl (dt29 hby 40 rfl :)
   have Fw88 : fBn Z h88 a1 (.int (Int32.ofNat (ys.length + 1))) := R72.same W88
   have F89 : Old Z n0 h88 := F78.wr W88 Hg1
   have F90 : eB Z h88 a1 := R69.wr W88
   have F93 : fBv Z h88 a1 (.ref b267) := R70.other W88 (Or.inr (slot_ne (Or.inl (hw _ (wi 46 rfl))) (Or.inl (hw _ (wi 78 rfl))) (by decide) (t := (.array .byte)) (t' := .int) (by decide) (by decide)))
   have F94 : fBc Z h88 a1 (.int (1 : Int32)) := R71.other W88 (Or.inr (slot_ne (Or.inl (hw _ (wi 48 rfl))) (Or.inl (hw _ (wi 78 rfl))) (by decide) (t := .byte) (t' := .int) (by decide) (by decide)))
   have F95 : fBm Z h88 a1 (.int (0 : Int32)) := R73.other W88 (Or.inr (slot_ne (Or.inl (hw _ (wi 224 rfl))) (Or.inl (hw _ (wi 78 rfl))) (by decide) (t := .boolean) (t' := .int) (by decide) (by decide)))
   have F96 : eA Z h88 b267 := R76.wr W88
   have F97 : own_Af Z h88 b267 .byte (Int32.ofNat (2 * L27)) (own_inf g6 (fun _ => (0 : Int32)) 0 ys.length) := R77.keep (Keep.of_wr W88) (ninS (Ne.symm ne84) nin0)
   have Z98 : n0 ≤ h88.size := Nat.le_trans Z82 (Keep.of_wr W88).1
   have K99 : Keep h0 h88 [a1, b] := K83.wr W88 (Or.inl (wi 0 rfl))
   have N100 := Fr.snoc X88 N66 Hg1
   obtain ⟨_, _, ⟨T103, L103, k103, n103⟩, -, X103, ⟨Lc103, hQ103, l103, y103, z103⟩, st103⟩ := Jvm.LawKit.callS X88 hx (y := ym48) hown (mw hZ hw 220 rfl) (mw hZ hw 221 rfl) (mw hZ hw 108 rfl) (mw hZ hw 222 rfl) (by decide) (backOf (W := 0) (rm48 l Z a0 hw b267 p2 ys.length L27 (own_inf g6 (fun _ => (0 : Int32)) 0 ys.length) cs sv dg h88 n0 Z98 F97 R74 (by omega) (by omega) hS F89) hZ (hw _ (wi 222 rfl)) (hw _ (wi 108 rfl)) (by decide) (by decide)) (g := (mkF m 72 #[sR a1, sI p2] [(.int p2), (.int (Int32.ofNat ys.length)), (.ref b267)])) rfl (by rw [hml]; rfl) (argsL := [(.ref b267), (.int (Int32.ofNat ys.length)), (.int p2)]) (rest := []) (lenOf pd_9 rfl) rfl (Nat.le_refl _) (dt29 hby 42 rfl :) (fun _ _ => ⟨rfl, e88, (by decide : 2 + 0 ≤ _), (by decide : 144 + 0 ≤ _)⟩)
   dsimp only [Pt.U, Pt.locs, Pt.cells, Pt.slots] at X103 l103 y103 z103 st103 hQ103
   subst l103 y103 z103
   obtain ⟨rfl, N103q, R104, R105⟩ := hQ103
   have N103 := Fr.app N100 N103q
   have F107 : eB Z T103.heap a1 := F90.keep R104
   have F110 : fBv Z T103.heap a1 (.ref b267) := F93.keep R104 (ninS ne84 nin0)
   have F111 : fBc Z T103.heap a1 (.int (1 : Int32)) := F94.keep R104 (ninS ne84 nin0)
   have F112 : fBm Z T103.heap a1 (.int (0 : Int32)) := F95.keep R104 (ninS ne84 nin0)
   have F113 : eA Z T103.heap b267 := F96.keep R104
   have F114 : fBn Z T103.heap a1 (.int (Int32.ofNat (ys.length + 1))) := Fw88.keep R104 (ninS ne84 nin0)
   have K116 : Keep h0 T103.heap [a1, b] := K99.trans R104 (allS (Or.inr sz_b267) all0)
   have Sb117 : own_Sb Z T103.heap a1 b267 (ys ++ [p2]) := own_Sb.mk1 (by simp) ne84 F107 F113 F110 F114 F112 F111 R105 (by omega) (by omega) (own_utf_put (own_utf_inf (own_lat_cg r1 l1 hm4)) hc)
   refine own_fin X103 hlk (v := some (.ref a1)) (own_nv hR) (by decide) (by decide) ?_ (fun fs hrt => P35 _ ?_)
   ·
    show Q29 Z a1 p2 b ys cs sv dg h0 n0 _ T103.heap _
    exact ⟨b267, rfl, N103, K116, R74, Or.inr sz_b267, Sb117⟩
   refine qfY X31 hx 21 45 (dt29 hby 11 rfl :) ((if0 _ _).trans (teq (by decide : (0 : Int32) = (0 : Int32))).1) (by decide) (by decide) ?_
   refine qaN X31 hx (dt29 hby 27 rfl :) rfl rfl ?_
   refine st62.trans ?_
   refine qfN X62 hx (dt29 hby 29 rfl :) ((if0 _ _).trans (feq (by decide : ¬ ((1 : Int32) = (0 : Int32)))).1) ?_
   refine qaN X62 hx (dt29 hby 30 rfl :) rfl rfl ?_
   refine st66.trans ?_
   refine qaN X66 hx (dt29 hby 32 rfl :) rfl rfl ?_
   refine st86 _ ?_
   refine qaN X86 hx (dt29 hby 34 rfl :) rfl rfl ?_
   refine XS.dup X86.here hx rfl (dt29 hby 35 rfl :) rfl rfl ?_
   refine st87 _ ?_
   refine XS.dupX1 X87.here hx rfl (dt29 hby 37 rfl :) rfl rfl rfl ?_
   refine qc X87 hx (1 : Int32) (dt29 hby 38 rfl :) rfl ?_
   refine XS.iadd X87.here hx rfl (dt29 hby 39 rfl :) rfl ?_
   rw [show ((Int32.ofNat ys.length) + (1 : Int32)) = (Int32.ofNat (ys.length + 1)) from own_isucc _]
   refine st88 _ ?_
   refine qiN X88 hx (dt29 hby 41 rfl :) rfl ?_
   refine st103 _ ?_
   refine qaN X103 hx (dt29 hby 25 rfl :) rfl rfl ?_
   exact retOut X103 hx hR rfl (Or.inr (Or.inr (Or.inr (Or.inr ⟨rfl, rfl, rfl⟩)))) (dt29 hby 26 rfl :) hrt
 ·
  obtain ⟨T118, X118, e118, st118⟩ := getF X0 hx hZ hown (host := "") (Or.inl (hw _ (wi 77 rfl))) Via.refl e0 N1 (g := (mkF m 2 #[sR a1, sI p2] [(.ref a1), (.ref a1)])) rfl rfl (dt29 hby 2 rfl :)
  obtain ⟨cq121, q121, q121'⟩ := E1.cell
  obtain ⟨_, _, ⟨T121, L121, k121, n121⟩, -, X121, ⟨Lc121, hQ121, l121, y121, z121⟩, st121⟩ := X118.privateBack hx (y := ym30) hown (mw hZ hw 154 rfl) (mw hZ hw 155 rfl) (mvT hZ (own_selfPriv (hw _ (wi 157 rfl)) (hw _ (wi 156 rfl)) (hw _ (wi 155 rfl)) (by decide))) (Cond.privateMethod_at (mvP hZ (hw _ (wi 156 rfl)) (args := #[]))) (mw hZ hw 158 rfl) (by decide) (backOf (W := 0) (rm30_1 l Z a0 hw a1 (ys.length + 1) LL ys.length b f h0 n0 Z0 E1 Hg1 V1 C1 N1 M1 A1 E2 Hg2 hne (by omega) (by omega)) hZ (hw _ (wi 158 rfl)) (hw _ (wi 39 rfl)) (by decide) (by decide)) (g := (mkF m 7 #[sR a1, sI p2] [(.int (Int32.ofNat (ys.length + 1))), (.ref a1)])) rfl (by rw [hml]; rfl) (Steps.refl _) (a := a1) (by rw [e118]; exact q121) q121' (argsL := [(.int (Int32.ofNat (ys.length + 1)))]) (rest := []) (lenOf pd_24 rfl) rfl (Nat.le_refl _) (dt29 hby 5 rfl :) (fun _ _ => ⟨rfl, e118, (by decide : 0 + 1 ≤ _), (by decide : 0 + 72 ≤ _)⟩)
  dsimp only [Pt.U, Pt.locs, Pt.cells, Pt.slots] at X121 l121 y121 z121 st121 hQ121
  subst l121 y121 z121
  obtain ⟨b2122, g123, L2124, rfl, N121q, R125, R126, R127, R128, R129, R130, R131, R132, R133, R134, R135, R136⟩ := hQ121
  have N121 := Fr.app N0 N121q
  have F137 : Old Z n0 T121.heap := HO.keep R125 (allS Hg1 all0)
  have Z141 : n0 ≤ T121.heap.size := Nat.le_trans Z0 R125.1
  have K142 : Keep h0 T121.heap [a1, b] := (Keep.refl h0 [a1, b]).trans R125 (allS (Or.inl (wi 0 rfl)) all0)
  have so145 : b2122 = b ∨ h0.size ≤ b2122 := R132.elim (fun e => by rw [e]; exact Or.inl rfl) (fun q => Or.inr (Nat.le_trans (Keep.refl h0 [a1, b]).1 q))
  have sz144 : b2122 ∈ [a1, b] ∨ h0.size ≤ b2122 := so145.elim (fun e => by rw [e]; exact Or.inl (wi 1 rfl)) Or.inr
  obtain ⟨hm1, hm2, hm3, hm4⟩ := R136
  obtain ⟨cq146, kq146, q146a, q146b, q146c⟩ := isOf hZ rfl R126
  obtain ⟨_, _, ⟨T146, L146, k146, n146⟩, -, X146, ⟨Lc146, hQ146, l146, y146, z146⟩, st146⟩ := X121.virtualBack hx (y := ym14) (z := ym14) hown (mw hZ hw 159 rfl) (mw hZ hw 80 rfl) (notFace_of_selects (args := #[]) (mw hZ hw 82 rfl)) (mw hZ hw 82 rfl) (mw hZ hw 81 rfl) (by decide) (backOf (W := 0) (rm14_1 l Z a0 hw a1 cs sv dg T121.heap n0 Z141 R128 hS F137) hZ (hw _ (wi 83 rfl)) (hw _ (wi 39 rfl)) (by decide) (by decide)) q146a q146c (g := (mkF m 11 #[sR a1, sI p2] [(.ref a1)])) rfl (by rw [hml]; rfl) (Steps.refl _) (argsL := []) (rest := []) (lenOf pd_15 rfl) rfl (Nat.le_refl _) (dt29 hby 7 rfl :) (fun _ _ => ⟨rfl, rfl, (by decide : 1 + 0 ≤ _), (by decide : 72 + 0 ≤ _)⟩)
  dsimp only [Pt.U, Pt.locs, Pt.cells, Pt.slots] at X146 l146 y146 z146 st146 hQ146
  subst l146 y146 z146
  obtain ⟨rfl, N146q, R147⟩ := hQ146
  have N146 := Fr.app N121 N146q
  obtain ⟨cq148, kq148, q148a, q148b, q148c⟩ := isOf hZ R147 R126
  obtain ⟨_, _, ⟨T148, L148, k148, n148⟩, -, X148, ⟨Lc148, hQ148, l148, y148, z148⟩, st148⟩ := X146.virtualBack hx (y := ym14) (z := ym14) hown (mw hZ hw 159 rfl) (mw hZ hw 80 rfl) (notFace_of_selects (args := #[]) (mw hZ hw 82 rfl)) (mw hZ hw 82 rfl) (mw hZ hw 81 rfl) (by decide) (backOf (W := 0) (rm14_1 l Z a0 hw a1 cs sv dg T121.heap n0 Z141 R128 hS F137) hZ (hw _ (wi 83 rfl)) (hw _ (wi 39 rfl)) (by decide) (by decide)) q148a q148c (g := (mkF m 46 #[sR a1, sI p2] [(.ref a1)])) rfl (by rw [hml]; rfl) (Steps.refl _) (argsL := []) (rest := []) (lenOf pd_15 rfl) rfl (Nat.le_refl _) (dt29 hby 28 rfl :) (fun _ _ => ⟨rfl, R147, (by decide : 1 + 0 ≤ _), (by decide : 72 + 0 ≤ _)⟩)
  dsimp only [Pt.U, Pt.locs, Pt.cells, Pt.slots] at X148 l148 y148 z148 st148 hQ148
  subst l148 y148 z148
  obtain ⟨rfl, N148q, R149⟩ := hQ148
  have N148 := Fr.app N146 N148q
  obtain ⟨T150, X150, e150, st150⟩ := getF X148 hx hZ hown (host := "") (Or.inl (hw _ (wi 45 rfl))) Via.refl R149 R127 (g := (mkF m 57 #[sR a1, sI p2] [(.ref a1)])) rfl rfl (dt29 hby 33 rfl :)
  obtain ⟨T151, X151, e151, st151⟩ := getF X150 hx hZ hown (host := "") (Or.inl (hw _ (wi 77 rfl))) Via.refl e150 R129 (g := (mkF m 62 #[sR a1, sI p2] [(.ref a1), (.ref a1), (.ref b2122)])) rfl rfl (dt29 hby 36 rfl :)
  obtain ⟨T152, h152, X152, e152, W152, st152⟩ := putF X151 hx hZ hown (host := "") (Or.inl (hw _ (wi 77 rfl))) Via.refl e151 R129 R126 (Or.inl (hw _ (wi 78 rfl))) (hw _ (wi 17 rfl)) (ty := .int) (by decide) rfl rfl (g := (mkF m 68 #[sR a1, sI p2] [(.int (Int32.ofNat (ys.length + 1))), (.ref a1), (.int (Int32.ofNat ys.length)), (.ref b2122)])) rfl rfl (dt29 hby 40 rfl :)
  have Fw152 : fBn Z h152 a1 (.int (Int32.ofNat (ys.length + 1))) := R129.same W152
  have F153 : Old Z n0 h152 := F137.wr W152 Hg1
  have F154 : eB Z h152 a1 := R126.wr W152
  have F155 : fBv Z h152 a1 (.ref b2122) := R127.other W152 (Or.inr (slot_ne (Or.inl (hw _ (wi 46 rfl))) (Or.inl (hw _ (wi 78 rfl))) (by decide) (t := (.array .byte)) (t' := .int) (by decide) (by decide)))
  have F156 : fBc Z h152 a1 (.int (1 : Int32)) := R128.other W152 (Or.inr (slot_ne (Or.inl (hw _ (wi 48 rfl))) (Or.inl (hw _ (wi 78 rfl))) (by decide) (t := .byte) (t' := .int) (by decide) (by decide)))
  have F157 : fBm Z h152 a1 (.int (0 : Int32)) := R130.other W152 (Or.inr (slot_ne (Or.inl (hw _ (wi 224 rfl))) (Or.inl (hw _ (wi 78 rfl))) (by decide) (t := .boolean) (t' := .int) (by decide) (by decide)))
  have F158 : eA Z h152 b2122 := R133.wr W152
  have F159 : own_Af Z h152 b2122 .byte (Int32.ofNat (2 * L2124)) g123 := R134.keep (Keep.of_wr W152) (ninS (Ne.symm R135) nin0)
  have Z160 : n0 ≤ h152.size := Nat.le_trans Z141 (Keep.of_wr W152).1
  have K161 : Keep h0 h152 [a1, b] := K142.wr W152 (Or.inl (wi 0 rfl))
  have N162 := Fr.snoc X152 N148 Hg1
  obtain ⟨_, _, ⟨T165, L165, k165, n165⟩, -, X165, ⟨Lc165, hQ165, l165, y165, z165⟩, st165⟩ := Jvm.LawKit.callS X152 hx (y := ym48) hown (mw hZ hw 220 rfl) (mw hZ hw 221 rfl) (mw hZ hw 108 rfl) (mw hZ hw 222 rfl) (by decide) (backOf (W := 0) (rm48 l Z a0 hw b2122 p2 ys.length L2124 g123 cs sv dg h152 n0 Z160 F159 R131 (by omega) (by omega) hS F153) hZ (hw _ (wi 222 rfl)) (hw _ (wi 108 rfl)) (by decide) (by decide)) (g := (mkF m 72 #[sR a1, sI p2] [(.int p2), (.int (Int32.ofNat ys.length)), (.ref b2122)])) rfl (by rw [hml]; rfl) (argsL := [(.ref b2122), (.int (Int32.ofNat ys.length)), (.int p2)]) (rest := []) (lenOf pd_9 rfl) rfl (Nat.le_refl _) (dt29 hby 42 rfl :) (fun _ _ => ⟨rfl, e152, (by decide : 1 + 0 ≤ _), (by decide : 72 + 0 ≤ _)⟩)
  dsimp only [Pt.U, Pt.locs, Pt.cells, Pt.slots] at X165 l165 y165 z165 st165 hQ165
  subst l165 y165 z165
  obtain ⟨rfl, N165q, R166, R167⟩ := hQ165
  have N165 := Fr.app N162 N165q
  have F169 : eB Z T165.heap a1 := F154.keep R166
  have F170 : fBv Z T165.heap a1 (.ref b2122) := F155.keep R166 (ninS R135 nin0)
  have F171 : fBc Z T165.heap a1 (.int (1 : Int32)) := F156.keep R166 (ninS R135 nin0)
  have F172 : fBm Z T165.heap a1 (.int (0 : Int32)) := F157.keep R166 (ninS R135 nin0)
  have F173 : eA Z T165.heap b2122 := F158.keep R166
  have F174 : fBn Z T165.heap a1 (.int (Int32.ofNat (ys.length + 1))) := Fw152.keep R166 (ninS R135 nin0)
  have K176 : Keep h0 T165.heap [a1, b] := K161.trans R166 (allS sz144 all0)
  have Sb177 : own_Sb Z T165.heap a1 b2122 (ys ++ [p2]) := own_Sb.mk1 (by simp) R135 F169 F173 F170 F174 F172 F171 R167 (by omega) (by omega) (own_utf_put (own_utf_cg r1 l1 hm4) hc)
  refine own_fin X165 hlk (v := some (.ref a1)) (own_nv hR) (by decide) (by decide) ?_ (fun fs hrt => pre0 _ ?_)
  ·
   show Q29 Z a1 p2 b ys cs sv dg h0 n0 _ T165.heap _
   exact ⟨b2122, rfl, N165, K176, R131, so145, Sb177⟩
  refine qaN X0 hx (dt29 hby 0 rfl :) rfl rfl ?_
  refine qaN X0 hx (dt29 hby 1 rfl :) rfl rfl ?_
  refine st118 _ ?_
  refine qc X118 hx (1 : Int32) (dt29 hby 3 rfl :) rfl ?_
  refine XS.iadd X118.here hx rfl (dt29 hby 4 rfl :) rfl ?_
  rw [show ((Int32.ofNat ys.length) + (1 : Int32)) = (Int32.ofNat (ys.length + 1)) from own_isucc _]
  refine st121.trans ?_
  refine qaN X121 hx (dt29 hby 6 rfl :) rfl rfl ?_
  refine st146.trans ?_
  refine qfY X146 hx 14 45 (dt29 hby 8 rfl :) ((if0 _ _).trans (teq (by decide : (0 : Int32) = (0 : Int32))).1) (by decide) (by decide) ?_
  refine qaN X146 hx (dt29 hby 27 rfl :) rfl rfl ?_
  refine st148.trans ?_
  refine qfY X148 hx 49 56 (dt29 hby 29 rfl :) ((if0 _ _).trans (teq (by decide : (0 : Int32) = (0 : Int32))).1) (by decide) (by decide) ?_
  refine qaN X148 hx (dt29 hby 32 rfl :) rfl rfl ?_
  refine st150 _ ?_
  refine qaN X150 hx (dt29 hby 34 rfl :) rfl rfl ?_
  refine XS.dup X150.here hx rfl (dt29 hby 35 rfl :) rfl rfl ?_
  refine st151 _ ?_
  refine XS.dupX1 X151.here hx rfl (dt29 hby 37 rfl :) rfl rfl rfl ?_
  refine qc X151 hx (1 : Int32) (dt29 hby 38 rfl :) rfl ?_
  refine XS.iadd X151.here hx rfl (dt29 hby 39 rfl :) rfl ?_
  rw [show ((Int32.ofNat ys.length) + (1 : Int32)) = (Int32.ofNat (ys.length + 1)) from own_isucc _]
  refine st152 _ ?_
  refine qiN X152 hx (dt29 hby 41 rfl :) rfl ?_
  refine st165 _ ?_
  refine qaN X165 hx (dt29 hby 25 rfl :) rfl rfl ?_
  exact retOut X165 hx hR rfl (Or.inr (Or.inr (Or.inr (Or.inr ⟨rfl, rfl, rfl⟩)))) (dt29 hby 26 rfl :) hrt
theorem pd_27 : parseMethodDescriptor "(C)Ljava/lang/AbstractStringBuilder;" = some ⟨[.char], some (.object "java/lang/AbstractStringBuilder")⟩ := by decide +kernel
def Q28 (Z : State) (a1 : Addr) (p2 : Int32) (b : Addr) (ys : List Int32) (cs : Int32) (sv : Value) (dg : Addr) (h0 : Heap) (n0 : Nat) (v : Option Value) (h : Heap) (L : List Loc) : Prop := ∃ (b2 : Addr), v = some (.ref a1) ∧ Fr n0 L ∧ Keep h0 h [a1, b] ∧ n0 ≤ b2 ∧ (b2 = b ∨ h0.size ≤ b2) ∧ own_Sb Z h a1 b2 (ys ++ [p2])
theorem rm28 (l : Launch) (Z : State) (a0 : Array Value) (hw : own_hw a0 Z) (a1 : Addr) (p2 : Int32) (b : Addr) (ys : List Int32) (cs : Int32) (sv : Value) (dg : Addr) (h0 : Heap) (n0 : Nat) (Z0 : n0 ≤ h0.size) (HU0 : own_Sb Z h0 a1 b ys) (Hg1 : n0 ≤ a1) (Hg2 : n0 ≤ b) (hc : (own_ch p2)) (hl : (ys.length < 18)) (hS : (own_ST Z cs sv dg)) (HO : Old Z n0 h0) :
 own_M l ym28 [Jvm.Cond.code ym28 cm28 2 (some (.object "java/lang/StringBuilder"))] (⟨7, 2, 144, 102⟩ : Room) #[(.ref a1), (.int p2)] Z h0 (Q28 Z a1 p2 b ys cs sv dg h0 n0) := by
 refine own_go n0 (F := fun m => mkF m 0 #[sR a1, sI p2] []) (plainFor_of_name pn_8) (fun m => rfl) ?_
 intro p e s m below meth c sq Pq hR hx hby hml hown hnm hZ hh hlk X0 e0 N0 pre0
 have Ex := HU0.exa
 obtain ⟨_, _, ⟨T3, L3, k3, n3⟩, -, X3, ⟨Lc3, hQ3, l3, y3, z3⟩, st3⟩ := superBack X0 hx hZ (y := ym29) hown (hw _ (wi 150 rfl)) (own_sameM (y := ym29) (x := ym11) rfl (hw _ (wi 66 rfl)) (hw _ (wi 151 rfl)) (by decide)) (hw _ (wi 151 rfl)) (hw _ (wi 75 rfl)) (by decide) (backOf (W := 0) (rm29 l Z a0 hw a1 p2 b ys cs sv dg h0 n0 Z0 HU0 Hg1 Hg2 (by first | assumption | omega) (by omega) hS HO) hZ (hw _ (wi 153 rfl)) (hw _ (wi 39 rfl)) (by decide) (by decide)) e0 (Ins.self Ex) (g := (mkF m 2 #[sR a1, sI p2] [(.int p2), (.ref a1)])) rfl (by rw [hml]; rfl) (hw _ (wi 153 rfl)) (argsL := [(.int p2)]) (rest := []) (lenOf pd_27 rfl) rfl (Nat.le_refl _) (dt28 hby 2 rfl :) (fun _ _ => ⟨rfl, e0, (by decide : 0 + 2 ≤ _), (by decide : 0 + 144 ≤ _)⟩)
 dsimp only [Pt.U, Pt.locs, Pt.cells, Pt.slots] at X3 l3 y3 z3 st3 hQ3
 subst l3 y3 z3
 obtain ⟨b24, rfl, N3q, R5, R6, R7, R8⟩ := hQ3
 have N3 := Fr.app N0 N3q
 have K12 : Keep h0 T3.heap [a1, b] := (Keep.refl h0 [a1, b]).trans R5 (allS (Or.inl (wi 0 rfl)) (allS (Or.inl (wi 1 rfl)) all0))
 have so14 : b24 = b ∨ h0.size ≤ b24 := R7.elim (fun e => by rw [e]; exact Or.inl rfl) (fun q => Or.inr (Nat.le_trans (Keep.refl h0 [a1, b]).1 q))
 refine own_fin X3 hlk (v := some (.ref a1)) (own_nv hR) (by decide) (by decide) ?_ (fun fs hrt => pre0 _ ?_)
 ·
  show Q28 Z a1 p2 b ys cs sv dg h0 n0 _ T3.heap _
  exact ⟨b24, rfl, N3, K12, R6, so14, R8⟩
 refine qaN X0 hx (dt28 hby 0 rfl :) rfl rfl ?_
 refine qiN X0 hx (dt28 hby 1 rfl :) rfl ?_
 refine st3.trans ?_
 refine XS.pop X3.here hx rfl (dt28 hby 3 rfl :) rfl rfl ?_
 refine qaN X3 hx (dt28 hby 4 rfl :) rfl rfl ?_
 exact retOut X3 hx hR rfl (Or.inr (Or.inr (Or.inr (Or.inr ⟨rfl, rfl, rfl⟩)))) (dt28 hby 5 rfl :) hrt
theorem pd_28 : parseMethodDescriptor "()I" = some ⟨[], some .int⟩ := by decide +kernel
def Q12 (Z : State) (a1 : Addr) (n : Nat) (h0 : Heap) (n0 : Nat) (v : Option Value) (h : Heap) (L : List Loc) : Prop := v = some (.int (Int32.ofNat n)) ∧ Fr n0 L ∧ h = h0
theorem rm12 (l : Launch) (Z : State) (a0 : Array Value) (hw : own_hw a0 Z) (a1 : Addr) (n : Nat) (h0 : Heap) (n0 : Nat) (Z0 : n0 ≤ h0.size) (HE0 : eB Z h0 a1) (HF1 : fBn Z h0 a1 (.int (Int32.ofNat n))) :
 own_M l ym12 [Jvm.Cond.code ym12 cm12 1 (some .int)] (⟨1, 0, 0, 12⟩ : Room) #[(.ref a1)] Z h0 (Q12 Z a1 n h0 n0) := by
 refine own_go n0 (F := fun m => mkF m 0 #[sR a1] []) (plainFor_of_name pn_8) (fun m => rfl) ?_
 intro p e s m below meth c sq Pq hR hx hby hml hown hnm hZ hh hlk X0 e0 N0 pre0
 obtain ⟨_, _, ⟨T1, L1, k1, n1⟩, -, X1, ⟨Lc1, hQ1, l1, y1, z1⟩, st1⟩ := superBack X0 hx hZ (y := ym13) hown (hw _ (wi 74 rfl)) (own_sameM (y := ym13) (x := ym11) rfl (hw _ (wi 66 rfl)) (hw _ (wi 70 rfl)) (by decide)) (hw _ (wi 70 rfl)) (hw _ (wi 75 rfl)) (by decide) (backOf (W := 0) (rm13 l Z a0 hw a1 n h0 n0 Z0 HF1) hZ (hw _ (wi 76 rfl)) (hw _ (wi 39 rfl)) (by decide) (by decide)) e0 (Ins.self HE0) (g := (mkF m 1 #[sR a1] [(.ref a1)])) rfl (by rw [hml]; rfl) (hw _ (wi 76 rfl)) (argsL := []) (rest := []) (lenOf pd_28 rfl) rfl (Nat.le_refl _) (dt12 hby 1 rfl :) (fun _ _ => ⟨rfl, e0, (by decide : 0 + 0 ≤ _), (by decide : 0 + 0 ≤ _)⟩)
 dsimp only [Pt.U, Pt.locs, Pt.cells, Pt.slots] at X1 l1 y1 z1 st1 hQ1
 subst l1 y1 z1
 obtain ⟨rfl, N1q, R2⟩ := hQ1
 have N1 := Fr.app N0 N1q
 refine own_fin X1 hlk (v := some (.int (Int32.ofNat n))) (own_nv hR) (by decide) (by decide) ?_ (fun fs hrt => pre0 _ ?_)
 ·
  show Q12 Z a1 n h0 n0 _ T1.heap _
  rw [R2]
  exact ⟨rfl, N1, rfl⟩
 refine qaN X0 hx (dt12 hby 0 rfl :) rfl rfl ?_
 refine st1.trans ?_
 exact retI X1 hx hR (dt12 hby 2 rfl :) hrt
def Q64_0 (Z : State) (a1 a2 : Addr) (cs : Int32) (sv : Value) (dg : Addr) (h0 : Heap) (n0 : Nat) (v : Option Value) (h : Heap) (L : List Loc) : Prop := v = none ∧ Fr n0 L ∧ h = h0
theorem rm64_0 (l : Launch) (Z : State) (a0 : Array Value) (hw : own_hw a0 Z) (a1 a2 : Addr) (cs : Int32) (sv : Value) (dg : Addr) (h0 : Heap) (n0 : Nat) (Z0 : n0 ≤ h0.size) (HE0 : eB Z h0 a1) (HF1 : fBc Z h0 a1 (.int (0 : Int32))) (HE2 : eS Z h0 a2) (HF3 : fSc Z h0 a2 (.int (0 : Int32))) (hS : (own_ST Z cs sv dg)) (HO : Old Z n0 h0) :
 own_M l ym64 [Jvm.Cond.code ym64 cm64 2 none] (⟨1, 0, 0, 13⟩ : Room) #[(.ref a1), (.ref a2)] Z h0 (Q64_0 Z a1 a2 cs sv dg h0 n0) := by
 refine own_go n0 (F := fun m => mkF m 0 #[sR a1, sR a2] []) (plainFor_of_name pn_7) (fun m => rfl) ?_
 intro p e s m below meth c sq Pq hR hx hby hml hown hnm hZ hh hlk X0 e0 N0 pre0
 have F1 : Sta Z h0 "java/lang/String" "COMPACT_STRINGS" "Z" (.int cs) := (hS.1.1).ext HO.2
 obtain ⟨T2, X2, e2, st2⟩ := getS2 X0 hx hZ hown (host := "") (Or.inl (hw _ (wi 44 rfl))) Via.refl e0 F1 (g := (mkF m 0 #[sR a1, sR a2] [])) rfl (dt64 hby 0 rfl :)
 have hc3_3 : ¬ (cs = (0 : Int32)) := hS.1.2
 obtain ⟨T4, X4, e4, st4⟩ := getF X2 hx hZ hown (host := "") (Or.inl (hw _ (wi 47 rfl))) Via.refl e2 HF1 (g := (mkF m 7 #[sR a1, sR a2] [(.ref a1)])) rfl rfl (dt64 hby 3 rfl :)
 obtain ⟨cq5, kq5, q5a, q5b, q5c⟩ := isOf hZ e4 HE2
 obtain ⟨_, _, ⟨T5, L5, k5, n5⟩, -, X5, ⟨Lc5, hQ5, l5, y5, z5⟩, st5⟩ := X4.virtualBack hx (y := ym4) (z := ym4) hown (mw hZ hw 301 rfl) (mw hZ hw 26 rfl) (notFace_of_selects (args := #[]) (mw hZ hw 28 rfl)) (mw hZ hw 28 rfl) (mw hZ hw 27 rfl) (by decide) (backOf (W := 1) (rm4_0 l Z a0 hw a2 cs sv dg h0 n0 Z0 HF3 hS HO) hZ (hw _ (wi 29 rfl)) (hw _ (wi 5 rfl)) (by decide) (by decide)) q5a q5c (g := (mkF m 11 #[sR a1, sR a2] [(.ref a2), (.int (0 : Int32))])) rfl (by rw [hml]; rfl) (Steps.refl _) (argsL := []) (rest := [(.int (0 : Int32))]) (lenOf pd_14 rfl) rfl (Nat.le_refl _) (dt64 hby 5 rfl :) (fun _ _ => ⟨rfl, e4, (by decide : 0 + 0 ≤ _), (by decide : 0 + 0 ≤ _)⟩)
 dsimp only [Pt.U, Pt.locs, Pt.cells, Pt.slots] at X5 l5 y5 z5 st5 hQ5
 subst l5 y5 z5
 obtain ⟨rfl, N5q, R6⟩ := hQ5
 have N5 := Fr.app N0 N5q
 refine own_fin X5 hlk (v := none) (fun _ => rfl) (by decide) (by decide) ?_ (fun fs hrt => pre0 _ ?_)
 ·
  show Q64_0 Z a1 a2 cs sv dg h0 n0 _ T5.heap _
  rw [R6]
  exact ⟨rfl, N5, rfl⟩
 refine st2 _ ?_
 refine qfN X2 hx (dt64 hby 1 rfl :) ((if0 _ _).trans (feq hc3_3).1) ?_
 refine qaN X2 hx (dt64 hby 2 rfl :) rfl rfl ?_
 refine st4 _ ?_
 refine qaN X4 hx (dt64 hby 4 rfl :) rfl rfl ?_
 refine st5.trans ?_
 refine qmY X5 hx 14 21 (dt64 hby 6 rfl :) (teq (by decide : (0 : Int32) = (0 : Int32))).1 (by decide) (by decide) ?_
 exact X5.returnOut hx hR (dt64 hby 7 rfl :) hrt
def Q65_0 (Z : State) (a1 b : Addr) (i n M : Nat) (vb : Addr) (f g : Nat → Int32) (cs : Int32) (sv : Value) (dg : Addr) (h0 : Heap) (n0 : Nat) (v : Option Value) (h : Heap) (L : List Loc) : Prop := v = none ∧ Fr n0 L ∧ Keep h0 h [b] ∧ own_Af Z h b .byte (Int32.ofNat M) (own_cp f g 0 i n)
theorem rm65_0 (l : Launch) (Z : State) (a0 : Array Value) (hw : own_hw a0 Z) (a1 b : Addr) (i n M : Nat) (vb : Addr) (f g : Nat → Int32) (cs : Int32) (sv : Value) (dg : Addr) (h0 : Heap) (n0 : Nat) (Z0 : n0 ≤ h0.size) (HE0 : eS Z h0 a1) (HF1 : fSv Z h0 a1 (.ref vb)) (HF2 : fSc Z h0 a1 (.int (0 : Int32))) (HB3 : own_Af Z h0 vb .byte (Int32.ofNat n) f) (HB4 : own_Af Z h0 b .byte (Int32.ofNat M) g) (Hg5 : n0 ≤ b) (hne : vb ≠ b) (hne2 : a1 ≠ b) (h1 : (i + n ≤ M)) (h2 : (M ≤ 72)) (hS : (own_ST Z cs sv dg)) (HO : Old Z n0 h0) :
 own_M l ym65 [Jvm.Cond.code ym65 cm65 4 none] (⟨1, 0, 0, 40⟩ : Room) #[(.ref a1), (.ref b), (.int (Int32.ofNat i)), (.int (0 : Int32))] Z h0 (Q65_0 Z a1 b i n M vb f g cs sv dg h0 n0) := by
 refine own_go n0 (F := fun m => mkF m 0 #[sR a1, sR b, sI (Int32.ofNat i), sI (0 : Int32)] []) (plainFor_of_name pn_4) (fun m => rfl) ?_
 intro p e s m below meth c sq Pq hR hx hby hml hown hnm hZ hh hlk X0 e0 N0 pre0
 obtain ⟨cq1, kq1, q1a, q1b, q1c⟩ := isOf hZ e0 HE0
 obtain ⟨_, _, ⟨T1, L1, k1, n1⟩, -, X1, ⟨Lc1, hQ1, l1, y1, z1⟩, st1⟩ := X0.virtualBack hx (y := ym4) (z := ym4) hown (mw hZ hw 25 rfl) (mw hZ hw 26 rfl) (notFace_of_selects (args := #[]) (mw hZ hw 28 rfl)) (mw hZ hw 28 rfl) (mw hZ hw 27 rfl) (by decide) (backOf (W := 0) (rm4_0 l Z a0 hw a1 cs sv dg h0 n0 Z0 HF2 hS HO) hZ (hw _ (wi 29 rfl)) (hw _ (wi 5 rfl)) (by decide) (by decide)) q1a q1c (g := (mkF m 1 #[sR a1, sR b, sI (Int32.ofNat i), sI (0 : Int32)] [(.ref a1)])) rfl (by rw [hml]; rfl) (Steps.refl _) (argsL := []) (rest := []) (lenOf pd_14 rfl) rfl (Nat.le_refl _) (dt65 hby 1 rfl :) (fun _ _ => ⟨rfl, e0, (by decide : 0 + 0 ≤ _), (by decide : 0 + 0 ≤ _)⟩)
 dsimp only [Pt.U, Pt.locs, Pt.cells, Pt.slots] at X1 l1 y1 z1 st1 hQ1
 subst l1 y1 z1
 obtain ⟨rfl, N1q, R2⟩ := hQ1
 have N1 := Fr.app N0 N1q
 obtain ⟨T3, X3, e3, st3⟩ := getF X1 hx hZ hown (host := "") (Or.inl (hw _ (wi 24 rfl))) Via.refl R2 HF1 (g := (mkF m 9 #[sR a1, sR b, sI (Int32.ofNat i), sI (0 : Int32)] [(.ref a1)])) rfl rfl (dt65 hby 5 rfl :)
 obtain ⟨T4, X4, e4, st4⟩ := getF X3 hx hZ hown (host := "") (Or.inl (hw _ (wi 24 rfl))) Via.refl e3 HF1 (g := (mkF m 18 #[sR a1, sR b, sI (Int32.ofNat i), sI (0 : Int32)] [(.ref a1), (.int (Int32.ofNat i)), (.ref b), (.int (0 : Int32)), (.ref vb)])) rfl rfl (dt65 hby 12 rfl :)
 obtain ⟨co5, Ao5, So5, Mo5, Bo5, Go5⟩ := HB3.op
 obtain ⟨ks6, As6⟩ := id HB3
 obtain ⟨kd6, Ad6⟩ := id HB4
 obtain ⟨T6, h6, L6, X6, e6, N6, K6, V6l, st6⟩ := cpA X4 hx hZ hown (hw _ (wi 307 rfl)) (hw _ (wi 290 rfl)) (hw _ (wi 288 rfl)) (hw _ (wi 289 rfl)) e4 As6 Ad6 (Or.inl ⟨rfl, rfl⟩) (by decide) (own_i0 (by omega)) (own_i0 (by omega)) (by show 0 + _ ≤ _; rw [Nat.zero_add]; exact Nat.le_refl _) (by rw [own_in (n := i) (by omega), own_in (n := n) (by omega), own_in (n := M) (by omega)]; omega) rfl (by rw [own_rl]; exact (by rw [own_in (n := i) (by omega), own_in (n := n) (by omega), own_in (n := M) (by omega)]; omega)) N1 Hg5 (g := (mkF m 22 #[sR a1, sR b, sI (Int32.ofNat i), sI (0 : Int32)] [(.int (Int32.ofNat n)), (.int (Int32.ofNat i)), (.ref b), (.int (0 : Int32)), (.ref vb)])) rfl (by rw [hml]; rfl) rfl (dt65 hby 14 rfl :) (by decide) (W := 0) (Nat.le_refl _) (by decide)
 have V6 : own_Af Z h6 b .byte (Int32.ofNat M) (own_cp f g 0 i n) := by
  have q := own_Af.cp (by show 0 + _ ≤ _; rw [Nat.zero_add]; exact Nat.le_refl _) (by rw [own_in (n := i) (by omega), own_in (n := n) (by omega), own_in (n := M) (by omega)]; omega) V6l
  rw [own_in (n := i) (by omega), own_in (n := n) (by omega)] at q
  exact q
 have K13 : Keep h0 h6 [b] := (Keep.refl h0 [b]).trans K6 (allS (Or.inl (wi 0 rfl)) all0)
 refine own_fin X6 hlk (v := none) (fun _ => rfl) (by decide) (by decide) ?_ (fun fs hrt => pre0 _ ?_)
 ·
  show Q65_0 Z a1 b i n M vb f g cs sv dg h0 n0 _ T6.heap _
  rw [e6]
  exact ⟨rfl, N6, K13, V6⟩
 refine qaN X0 hx (dt65 hby 0 rfl :) rfl rfl ?_
 refine st1.trans ?_
 refine qiN X1 hx (dt65 hby 2 rfl :) rfl ?_
 refine qmN X1 hx (dt65 hby 3 rfl :) (teq (by decide : (0 : Int32) = (0 : Int32))).2 ?_
 refine qaN X1 hx (dt65 hby 4 rfl :) rfl rfl ?_
 refine st3 _ ?_
 refine qc X3 hx (0 : Int32) (dt65 hby 6 rfl :) rfl ?_
 refine qaN X3 hx (dt65 hby 7 rfl :) rfl rfl ?_
 refine qiN X3 hx (dt65 hby 8 rfl :) rfl ?_
 refine qiN X3 hx (dt65 hby 9 rfl :) rfl ?_
 refine XS.ishl X3.here hx rfl (dt65 hby 10 rfl :) rfl ?_
 rw [show ((Int32.ofNat i) <<< ((0 : Int32) &&& 31)) = (Int32.ofNat i) from own_shl0 _]
 refine qaN X3 hx (dt65 hby 11 rfl :) rfl rfl ?_
 refine st4 _ ?_
 refine X4.arraylength hx (by rw [e4]; exact Ao5.1) (State.isArrayOf_alike hZ.alike Ao5.2.1) (g := (mkF m 21 #[sR a1, sR b, sI (Int32.ofNat i), sI (0 : Int32)] [(.ref vb), (.int (Int32.ofNat i)), (.ref b), (.int (0 : Int32)), (.ref vb)])) rfl rfl (dt65 hby 13 rfl :) _ ?_
 rw [len_of So5 Mo5]
 refine st6 _ ?_
 refine qg X6 hx 25 43 (dt65 hby 15 rfl :) (by decide) (by decide) ?_
 exact X6.returnOut hx hR (dt65 hby 16 rfl :) hrt
theorem pd_29 : parseMethodDescriptor "(Ljava/lang/String;)V" = some ⟨[(.object "java/lang/String")], none⟩ := by decide +kernel
theorem pd_30 : parseMethodDescriptor "([BIB)V" = some ⟨[(.array .byte), .int, .byte], none⟩ := by decide +kernel
def Q63_0 (Z : State) (a1 a2 : Addr) (i n M : Nat) (b vb : Addr) (f g : Nat → Int32) (cs : Int32) (sv : Value) (dg : Addr) (h0 : Heap) (n0 : Nat) (v : Option Value) (h : Heap) (L : List Loc) : Prop := v = none ∧ Fr n0 L ∧ Keep h0 h [b] ∧ own_Af Z h b .byte (Int32.ofNat M) (own_cp f g 0 i n)
theorem rm63_0 (l : Launch) (Z : State) (a0 : Array Value) (hw : own_hw a0 Z) (a1 a2 : Addr) (i n M : Nat) (b vb : Addr) (f g : Nat → Int32) (cs : Int32) (sv : Value) (dg : Addr) (h0 : Heap) (n0 : Nat) (Z0 : n0 ≤ h0.size) (HE0 : eB Z h0 a1) (HF1 : fBv Z h0 a1 (.ref b)) (HF2 : fBc Z h0 a1 (.int (0 : Int32))) (HE3 : eS Z h0 a2) (HF4 : fSv Z h0 a2 (.ref vb)) (HF5 : fSc Z h0 a2 (.int (0 : Int32))) (HB6 : own_Af Z h0 vb .byte (Int32.ofNat n) f) (HB7 : own_Af Z h0 b .byte (Int32.ofNat M) g) (Hg8 : n0 ≤ b) (hne : vb ≠ b) (hne2 : a2 ≠ b) (hne3 : a1 ≠ b) (h1 : (i + n ≤ M)) (h2 : (M ≤ 72)) (hS : (own_ST Z cs sv dg)) (HO : Old Z n0 h0) :
 own_M l ym63 [Jvm.Cond.code ym63 cm63 3 none] (⟨2, 0, 0, 55⟩ : Room) #[(.ref a1), (.int (Int32.ofNat i)), (.ref a2)] Z h0 (Q63_0 Z a1 a2 i n M b vb f g cs sv dg h0 n0) := by
 refine own_go n0 (F := fun m => mkF m 0 #[sR a1, sI (Int32.ofNat i), sR a2] []) (plainFor_of_name pn_7) (fun m => rfl) ?_
 intro p e s m below meth c sq Pq hR hx hby hml hown hnm hZ hh hlk X0 e0 N0 pre0
 obtain ⟨cq1, q1, q1'⟩ := HE0.cell
 obtain ⟨_, _, ⟨T1, L1, k1, n1⟩, -, X1, ⟨Lc1, hQ1, l1, y1, z1⟩, st1⟩ := X0.privateBack hx (y := ym64) hown (mw hZ hw 296 rfl) (mw hZ hw 297 rfl) (mvT hZ (own_selfPriv (hw _ (wi 299 rfl)) (hw _ (wi 298 rfl)) (hw _ (wi 297 rfl)) (by decide))) (Cond.privateMethod_at (mvP hZ (hw _ (wi 298 rfl)) (args := #[]))) (mw hZ hw 300 rfl) (by decide) (backOf (W := 0) (rm64_0 l Z a0 hw a1 a2 cs sv dg h0 n0 Z0 HE0 HF2 HE3 HF5 hS HO) hZ (hw _ (wi 300 rfl)) (hw _ (wi 39 rfl)) (by decide) (by decide)) (g := (mkF m 2 #[sR a1, sI (Int32.ofNat i), sR a2] [(.ref a2), (.ref a1)])) rfl (by rw [hml]; rfl) (Steps.refl _) (a := a1) (by rw [e0]; exact q1) q1' (argsL := [(.ref a2)]) (rest := []) (lenOf pd_29 rfl) rfl (Nat.le_refl _) (dt63 hby 2 rfl :) (fun _ _ => ⟨rfl, e0, (by decide : 0 + 0 ≤ _), (by decide : 0 + 0 ≤ _)⟩)
 dsimp only [Pt.U, Pt.locs, Pt.cells, Pt.slots] at X1 l1 y1 z1 st1 hQ1
 subst l1 y1 z1
 obtain ⟨rfl, N1q, R2⟩ := hQ1
 have N1 := Fr.app N0 N1q
 obtain ⟨T3, X3, e3, st3⟩ := getF X1 hx hZ hown (host := "") (Or.inl (hw _ (wi 45 rfl))) Via.refl R2 HF1 (g := (mkF m 7 #[sR a1, sI (Int32.ofNat i), sR a2] [(.ref a1), (.ref a2)])) rfl rfl (dt63 hby 5 rfl :)
 obtain ⟨T4, X4, e4, st4⟩ := getF X3 hx hZ hown (host := "") (Or.inl (hw _ (wi 47 rfl))) Via.refl e3 HF2 (g := (mkF m 12 #[sR a1, sI (Int32.ofNat i), sR a2] [(.ref a1), (.int (Int32.ofNat i)), (.ref b), (.ref a2)])) rfl rfl (dt63 hby 8 rfl :)
 obtain ⟨cq7, kq7, q7a, q7b, q7c⟩ := isOf hZ e4 HE3
 obtain ⟨_, _, ⟨T7, L7, k7, n7⟩, -, X7, ⟨Lc7, hQ7, l7, y7, z7⟩, st7⟩ := X4.virtualBack hx (y := ym65) (z := ym65) hown (mw hZ hw 302 rfl) (mw hZ hw 303 rfl) (notFace_of_selects (args := #[]) (mw hZ hw 305 rfl)) (mw hZ hw 305 rfl) (mw hZ hw 304 rfl) (by decide) (backOf (W := 0) (rm65_0 l Z a0 hw a2 b i n M vb f g cs sv dg h0 n0 Z0 HE3 HF4 HF5 HB6 HB7 Hg8 hne hne2 (by omega) (by omega) hS HO) hZ (hw _ (wi 306 rfl)) (hw _ (wi 5 rfl)) (by decide) (by decide)) q7a q7c (g := (mkF m 15 #[sR a1, sI (Int32.ofNat i), sR a2] [(.int (0 : Int32)), (.int (Int32.ofNat i)), (.ref b), (.ref a2)])) rfl (by rw [hml]; rfl) (Steps.refl _) (argsL := [(.ref b), (.int (Int32.ofNat i)), (.int (0 : Int32))]) (rest := []) (lenOf pd_30 rfl) rfl (Nat.le_refl _) (dt63 hby 9 rfl :) (fun _ _ => ⟨rfl, e4, (by decide : 0 + 0 ≤ _), (by decide : 0 + 0 ≤ _)⟩)
 dsimp only [Pt.U, Pt.locs, Pt.cells, Pt.slots] at X7 l7 y7 z7 st7 hQ7
 subst l7 y7 z7
 obtain ⟨rfl, N7q, R8, R9⟩ := hQ7
 have N7 := Fr.app N1 N7q
 have K19 : Keep h0 T7.heap [b] := (Keep.refl h0 [b]).trans R8 (allS (Or.inl (wi 0 rfl)) all0)
 refine own_fin X7 hlk (v := none) (fun _ => rfl) (by decide) (by decide) ?_ (fun fs hrt => pre0 _ ?_)
 ·
  show Q63_0 Z a1 a2 i n M b vb f g cs sv dg h0 n0 _ T7.heap _
  exact ⟨rfl, N7, K19, R9⟩
 refine qaN X0 hx (dt63 hby 0 rfl :) rfl rfl ?_
 refine qaN X0 hx (dt63 hby 1 rfl :) rfl rfl ?_
 refine st1.trans ?_
 refine qaN X1 hx (dt63 hby 3 rfl :) rfl rfl ?_
 refine qaN X1 hx (dt63 hby 4 rfl :) rfl rfl ?_
 refine st3 _ ?_
 refine qiN X3 hx (dt63 hby 6 rfl :) rfl ?_
 refine qaN X3 hx (dt63 hby 7 rfl :) rfl rfl ?_
 refine st4 _ ?_
 refine st7.trans ?_
 exact X7.returnOut hx hR (dt63 hby 10 rfl :) hrt
def Q64_1 (Z : State) (a1 a2 : Addr) (cs : Int32) (sv : Value) (dg : Addr) (h0 : Heap) (n0 : Nat) (v : Option Value) (h : Heap) (L : List Loc) : Prop := v = none ∧ Fr n0 L ∧ h = h0
theorem rm64_1 (l : Launch) (Z : State) (a0 : Array Value) (hw : own_hw a0 Z) (a1 a2 : Addr) (cs : Int32) (sv : Value) (dg : Addr) (h0 : Heap) (n0 : Nat) (Z0 : n0 ≤ h0.size) (HE0 : eB Z h0 a1) (HF1 : fBc Z h0 a1 (.int (1 : Int32))) (HE2 : eS Z h0 a2) (HF3 : fSc Z h0 a2 (.int (0 : Int32))) (hS : (own_ST Z cs sv dg)) (HO : Old Z n0 h0) :
 own_M l ym64 [Jvm.Cond.code ym64 cm64 2 none] (⟨2, 0, 0, 25⟩ : Room) #[(.ref a1), (.ref a2)] Z h0 (Q64_1 Z a1 a2 cs sv dg h0 n0) := by
 refine own_go n0 (F := fun m => mkF m 0 #[sR a1, sR a2] []) (plainFor_of_name pn_7) (fun m => rfl) ?_
 intro p e s m below meth c sq Pq hR hx hby hml hown hnm hZ hh hlk X0 e0 N0 pre0
 have F1 : Sta Z h0 "java/lang/String" "COMPACT_STRINGS" "Z" (.int cs) := (hS.1.1).ext HO.2
 obtain ⟨T2, X2, e2, st2⟩ := getS2 X0 hx hZ hown (host := "") (Or.inl (hw _ (wi 44 rfl))) Via.refl e0 F1 (g := (mkF m 0 #[sR a1, sR a2] [])) rfl (dt64 hby 0 rfl :)
 have hc3_3 : ¬ (cs = (0 : Int32)) := hS.1.2
 obtain ⟨T4, X4, e4, st4⟩ := getF X2 hx hZ hown (host := "") (Or.inl (hw _ (wi 47 rfl))) Via.refl e2 HF1 (g := (mkF m 7 #[sR a1, sR a2] [(.ref a1)])) rfl rfl (dt64 hby 3 rfl :)
 obtain ⟨cq5, kq5, q5a, q5b, q5c⟩ := isOf hZ e4 HE2
 obtain ⟨_, _, ⟨T5, L5, k5, n5⟩, -, X5, ⟨Lc5, hQ5, l5, y5, z5⟩, st5⟩ := X4.virtualBack hx (y := ym4) (z := ym4) hown (mw hZ hw 301 rfl) (mw hZ hw 26 rfl) (notFace_of_selects (args := #[]) (mw hZ hw 28 rfl)) (mw hZ hw 28 rfl) (mw hZ hw 27 rfl) (by decide) (backOf (W := 1) (rm4_0 l Z a0 hw a2 cs sv dg h0 n0 Z0 HF3 hS HO) hZ (hw _ (wi 29 rfl)) (hw _ (wi 5 rfl)) (by decide) (by decide)) q5a q5c (g := (mkF m 11 #[sR a1, sR a2] [(.ref a2), (.int (1 : Int32))])) rfl (by rw [hml]; rfl) (Steps.refl _) (argsL := []) (rest := [(.int (1 : Int32))]) (lenOf pd_14 rfl) rfl (Nat.le_refl _) (dt64 hby 5 rfl :) (fun _ _ => ⟨rfl, e4, (by decide : 0 + 0 ≤ _), (by decide : 0 + 0 ≤ _)⟩)
 dsimp only [Pt.U, Pt.locs, Pt.cells, Pt.slots] at X5 l5 y5 z5 st5 hQ5
 subst l5 y5 z5
 obtain ⟨rfl, N5q, R6⟩ := hQ5
 have N5 := Fr.app N0 N5q
 obtain ⟨cq7, q7, q7'⟩ := HE0.cell
 obtain ⟨_, _, ⟨T7, L7, k7, n7⟩, -, X7, ⟨Lc7, hQ7, l7, y7, z7⟩, st7⟩ := X5.privateBack hx (y := ym42) hown (mw hZ hw 199 rfl) (mw hZ hw 200 rfl) (mvT hZ (own_selfPriv (hw _ (wi 202 rfl)) (hw _ (wi 201 rfl)) (hw _ (wi 200 rfl)) (by decide))) (Cond.privateMethod_at (mvP hZ (hw _ (wi 201 rfl)) (args := #[]))) (mw hZ hw 203 rfl) (by decide) (backOf (W := 0) (rm42_1 l Z a0 hw a1 cs sv dg h0 n0 Z0 HE0 HF1 hS HO) hZ (hw _ (wi 203 rfl)) (hw _ (wi 39 rfl)) (by decide) (by decide)) (g := (mkF m 18 #[sR a1, sR a2] [(.ref a1)])) rfl (by rw [hml]; rfl) (Steps.refl _) (a := a1) (by rw [R6]; exact q7) q7' (argsL := []) (rest := []) (lenOf pd_26 rfl) rfl (Nat.le_refl _) (dt64 hby 9 rfl :) (fun _ _ => ⟨rfl, R6, (by decide : 0 + 0 ≤ _), (by decide : 0 + 0 ≤ _)⟩)
 dsimp only [Pt.U, Pt.locs, Pt.cells, Pt.slots] at X7 l7 y7 z7 st7 hQ7
 subst l7 y7 z7
 obtain ⟨rfl, N7q, R8⟩ := hQ7
 have N7 := Fr.app N5 N7q
 refine own_fin X7 hlk (v := none) (fun _ => rfl) (by decide) (by decide) ?_ (fun fs hrt => pre0 _ ?_)
 ·
  show Q64_1 Z a1 a2 cs sv dg h0 n0 _ T7.heap _
  rw [R8]
  exact ⟨rfl, N7, rfl⟩
 refine st2 _ ?_
 refine qfN X2 hx (dt64 hby 1 rfl :) ((if0 _ _).trans (feq hc3_3).1) ?_
 refine qaN X2 hx (dt64 hby 2 rfl :) rfl rfl ?_
 refine st4 _ ?_
 refine qaN X4 hx (dt64 hby 4 rfl :) rfl rfl ?_
 refine st5.trans ?_
 refine qmN X5 hx (dt64 hby 6 rfl :) (feq (by decide : ¬ ((1 : Int32) = (0 : Int32)))).1 ?_
 refine qaN X5 hx (dt64 hby 8 rfl :) rfl rfl ?_
 refine st7.trans ?_
 exact X7.returnOut hx hR (dt64 hby 7 rfl :) hrt
def Q65_1 (Z : State) (a1 b : Addr) (i n M : Nat) (vb : Addr) (f g : Nat → Int32) (cs : Int32) (sv : Value) (dg : Addr) (h0 : Heap) (n0 : Nat) (v : Option Value) (h : Heap) (L : List Loc) : Prop := v = none ∧ Fr n0 L ∧ Keep h0 h [b] ∧ own_Af Z h b .byte (Int32.ofNat (2 * M)) (own_inf f g i n)
theorem rm65_1 (l : Launch) (Z : State) (a0 : Array Value) (hw : own_hw a0 Z) (a1 b : Addr) (i n M : Nat) (vb : Addr) (f g : Nat → Int32) (cs : Int32) (sv : Value) (dg : Addr) (h0 : Heap) (n0 : Nat) (Z0 : n0 ≤ h0.size) (HE0 : eS Z h0 a1) (HF1 : fSv Z h0 a1 (.ref vb)) (HF2 : fSc Z h0 a1 (.int (0 : Int32))) (HB3 : own_Af Z h0 vb .byte (Int32.ofNat n) f) (HB4 : own_Af Z h0 b .byte (Int32.ofNat (2 * M)) g) (Hg5 : n0 ≤ b) (hne : vb ≠ b) (hne2 : a1 ≠ b) (h1 : (i + n ≤ M)) (h2 : (M ≤ 72)) (hS : (own_ST Z cs sv dg)) (HO : Old Z n0 h0) :
 own_M l ym65 [Jvm.Cond.code ym65 cm65 4 none] (⟨5, 0, 0, 76⟩ : Room) #[(.ref a1), (.ref b), (.int (Int32.ofNat i)), (.int (1 : Int32))] Z h0 (Q65_1 Z a1 b i n M vb f g cs sv dg h0 n0) := by
 refine own_go n0 (F := fun m => mkF m 0 #[sR a1, sR b, sI (Int32.ofNat i), sI (1 : Int32)] []) (plainFor_of_name pn_4) (fun m => rfl) ?_
 intro p e s m below meth c sq Pq hR hx hby hml hown hnm hZ hh hlk X0 e0 N0 pre0
 obtain ⟨cq1, kq1, q1a, q1b, q1c⟩ := isOf hZ e0 HE0
 obtain ⟨_, _, ⟨T1, L1, k1, n1⟩, -, X1, ⟨Lc1, hQ1, l1, y1, z1⟩, st1⟩ := X0.virtualBack hx (y := ym4) (z := ym4) hown (mw hZ hw 25 rfl) (mw hZ hw 26 rfl) (notFace_of_selects (args := #[]) (mw hZ hw 28 rfl)) (mw hZ hw 28 rfl) (mw hZ hw 27 rfl) (by decide) (backOf (W := 0) (rm4_0 l Z a0 hw a1 cs sv dg h0 n0 Z0 HF2 hS HO) hZ (hw _ (wi 29 rfl)) (hw _ (wi 5 rfl)) (by decide) (by decide)) q1a q1c (g := (mkF m 1 #[sR a1, sR b, sI (Int32.ofNat i), sI (1 : Int32)] [(.ref a1)])) rfl (by rw [hml]; rfl) (Steps.refl _) (argsL := []) (rest := []) (lenOf pd_14 rfl) rfl (Nat.le_refl _) (dt65 hby 1 rfl :) (fun _ _ => ⟨rfl, e0, (by decide : 0 + 0 ≤ _), (by decide : 0 + 0 ≤ _)⟩)
 dsimp only [Pt.U, Pt.locs, Pt.cells, Pt.slots] at X1 l1 y1 z1 st1 hQ1
 subst l1 y1 z1
 obtain ⟨rfl, N1q, R2⟩ := hQ1
 have N1 := Fr.app N0 N1q
 obtain ⟨T3, X3, e3, st3⟩ := getF X1 hx hZ hown (host := "") (Or.inl (hw _ (wi 24 rfl))) Via.refl R2 HF1 (g := (mkF m 29 #[sR a1, sR b, sI (Int32.ofNat i), sI (1 : Int32)] [(.ref a1)])) rfl rfl (dt65 hby 18 rfl :)
 obtain ⟨T4, X4, e4, st4⟩ := getF X3 hx hZ hown (host := "") (Or.inl (hw _ (wi 24 rfl))) Via.refl e3 HF1 (g := (mkF m 36 #[sR a1, sR b, sI (Int32.ofNat i), sI (1 : Int32)] [(.ref a1), (.int (Int32.ofNat i)), (.ref b), (.int (0 : Int32)), (.ref vb)])) rfl rfl (dt65 hby 23 rfl :)
 obtain ⟨co5, Ao5, So5, Mo5, Bo5, Go5⟩ := HB3.op
 obtain ⟨_, _, ⟨T10, L10, k10, n10⟩, -, X10, ⟨Lc10, hQ10, l10, y10, z10⟩, st10⟩ := Jvm.LawKit.callS X4 hx (y := ym43) hown (mw hZ hw 327 rfl) (mw hZ hw 206 rfl) (mw hZ hw 128 rfl) (mw hZ hw 207 rfl) (by decide) (backOf (W := 0) (rm43 l Z a0 hw vb b i n n M f g cs sv dg h0 n0 Z0 HB3 HB4 Hg5 hne (by omega) (by omega) (by omega) (by omega) hS HO) hZ (hw _ (wi 207 rfl)) (hw _ (wi 128 rfl)) (by decide) (by decide)) (g := (mkF m 40 #[sR a1, sR b, sI (Int32.ofNat i), sI (1 : Int32)] [(.int (Int32.ofNat n)), (.int (Int32.ofNat i)), (.ref b), (.int (0 : Int32)), (.ref vb)])) rfl (by rw [hml]; rfl) (argsL := [(.ref vb), (.int (0 : Int32)), (.ref b), (.int (Int32.ofNat i)), (.int (Int32.ofNat n))]) (rest := []) (lenOf pd_13 rfl) rfl (Nat.le_refl _) (dt65 hby 25 rfl :) (fun _ _ => ⟨rfl, e4, (by decide : 0 + 0 ≤ _), (by decide : 0 + 0 ≤ _)⟩)
 dsimp only [Pt.U, Pt.locs, Pt.cells, Pt.slots] at X10 l10 y10 z10 st10 hQ10
 subst l10 y10 z10
 obtain ⟨rfl, N10q, R11, R12⟩ := hQ10
 have N10 := Fr.app N1 N10q
 have K19 : Keep h0 T10.heap [b] := (Keep.refl h0 [b]).trans R11 (allS (Or.inl (wi 0 rfl)) all0)
 refine own_fin X10 hlk (v := none) (fun _ => rfl) (by decide) (by decide) ?_ (fun fs hrt => pre0 _ ?_)
 ·
  show Q65_1 Z a1 b i n M vb f g cs sv dg h0 n0 _ T10.heap _
  exact ⟨rfl, N10, K19, R12⟩
 refine qaN X0 hx (dt65 hby 0 rfl :) rfl rfl ?_
 refine st1.trans ?_
 refine qiN X1 hx (dt65 hby 2 rfl :) rfl ?_
 refine qmY X1 hx 5 28 (dt65 hby 3 rfl :) (feq (by decide : ¬ ((0 : Int32) = (1 : Int32)))).2 (by decide) (by decide) ?_
 refine qaN X1 hx (dt65 hby 17 rfl :) rfl rfl ?_
 refine st3 _ ?_
 refine qc X3 hx (0 : Int32) (dt65 hby 19 rfl :) rfl ?_
 refine qaN X3 hx (dt65 hby 20 rfl :) rfl rfl ?_
 refine qiN X3 hx (dt65 hby 21 rfl :) rfl ?_
 refine qaN X3 hx (dt65 hby 22 rfl :) rfl rfl ?_
 refine st4 _ ?_
 refine X4.arraylength hx (by rw [e4]; exact Ao5.1) (State.isArrayOf_alike hZ.alike Ao5.2.1) (g := (mkF m 39 #[sR a1, sR b, sI (Int32.ofNat i), sI (1 : Int32)] [(.ref vb), (.int (Int32.ofNat i)), (.ref b), (.int (0 : Int32)), (.ref vb)])) rfl rfl (dt65 hby 24 rfl :) _ ?_
 rw [len_of So5 Mo5]
 refine st10 _ ?_
 exact X10.returnOut hx hR (dt65 hby 16 rfl :) hrt
def Q63_1 (Z : State) (a1 a2 : Addr) (i n M : Nat) (b vb : Addr) (f g : Nat → Int32) (cs : Int32) (sv : Value) (dg : Addr) (h0 : Heap) (n0 : Nat) (v : Option Value) (h : Heap) (L : List Loc) : Prop := v = none ∧ Fr n0 L ∧ Keep h0 h [b] ∧ own_Af Z h b .byte (Int32.ofNat (2 * M)) (own_inf f g i n)
theorem rm63_1 (l : Launch) (Z : State) (a0 : Array Value) (hw : own_hw a0 Z) (a1 a2 : Addr) (i n M : Nat) (b vb : Addr) (f g : Nat → Int32) (cs : Int32) (sv : Value) (dg : Addr) (h0 : Heap) (n0 : Nat) (Z0 : n0 ≤ h0.size) (HE0 : eB Z h0 a1) (HF1 : fBv Z h0 a1 (.ref b)) (HF2 : fBc Z h0 a1 (.int (1 : Int32))) (HE3 : eS Z h0 a2) (HF4 : fSv Z h0 a2 (.ref vb)) (HF5 : fSc Z h0 a2 (.int (0 : Int32))) (HB6 : own_Af Z h0 vb .byte (Int32.ofNat n) f) (HB7 : own_Af Z h0 b .byte (Int32.ofNat (2 * M)) g) (Hg8 : n0 ≤ b) (hne : vb ≠ b) (hne2 : a2 ≠ b) (hne3 : a1 ≠ b) (h1 : (i + n ≤ M)) (h2 : (M ≤ 72)) (hS : (own_ST Z cs sv dg)) (HO : Old Z n0 h0) :
 own_M l ym63 [Jvm.Cond.code ym63 cm63 3 none] (⟨6, 0, 0, 91⟩ : Room) #[(.ref a1), (.int (Int32.ofNat i)), (.ref a2)] Z h0 (Q63_1 Z a1 a2 i n M b vb f g cs sv dg h0 n0) := by
 refine own_go n0 (F := fun m => mkF m 0 #[sR a1, sI (Int32.ofNat i), sR a2] []) (plainFor_of_name pn_7) (fun m => rfl) ?_
 intro p e s m below meth c sq Pq hR hx hby hml hown hnm hZ hh hlk X0 e0 N0 pre0
 obtain ⟨cq1, q1, q1'⟩ := HE0.cell
 obtain ⟨_, _, ⟨T1, L1, k1, n1⟩, -, X1, ⟨Lc1, hQ1, l1, y1, z1⟩, st1⟩ := X0.privateBack hx (y := ym64) hown (mw hZ hw 296 rfl) (mw hZ hw 297 rfl) (mvT hZ (own_selfPriv (hw _ (wi 299 rfl)) (hw _ (wi 298 rfl)) (hw _ (wi 297 rfl)) (by decide))) (Cond.privateMethod_at (mvP hZ (hw _ (wi 298 rfl)) (args := #[]))) (mw hZ hw 300 rfl) (by decide) (backOf (W := 0) (rm64_1 l Z a0 hw a1 a2 cs sv dg h0 n0 Z0 HE0 HF2 HE3 HF5 hS HO) hZ (hw _ (wi 300 rfl)) (hw _ (wi 39 rfl)) (by decide) (by decide)) (g := (mkF m 2 #[sR a1, sI (Int32.ofNat i), sR a2] [(.ref a2), (.ref a1)])) rfl (by rw [hml]; rfl) (Steps.refl _) (a := a1) (by rw [e0]; exact q1) q1' (argsL := [(.ref a2)]) (rest := []) (lenOf pd_29 rfl) rfl (Nat.le_refl _) (dt63 hby 2 rfl :) (fun _ _ => ⟨rfl, e0, (by decide : 0 + 0 ≤ _), (by decide : 0 + 0 ≤ _)⟩)
 dsimp only [Pt.U, Pt.locs, Pt.cells, Pt.slots] at X1 l1 y1 z1 st1 hQ1
 subst l1 y1 z1
 obtain ⟨rfl, N1q, R2⟩ := hQ1
 have N1 := Fr.app N0 N1q
 obtain ⟨T3, X3, e3, st3⟩ := getF X1 hx hZ hown (host := "") (Or.inl (hw _ (wi 45 rfl))) Via.refl R2 HF1 (g := (mkF m 7 #[sR a1, sI (Int32.ofNat i), sR a2] [(.ref a1), (.ref a2)])) rfl rfl (dt63 hby 5 rfl :)
 obtain ⟨T4, X4, e4, st4⟩ := getF X3 hx hZ hown (host := "") (Or.inl (hw _ (wi 47 rfl))) Via.refl e3 HF2 (g := (mkF m 12 #[sR a1, sI (Int32.ofNat i), sR a2] [(.ref a1), (.int (Int32.ofNat i)), (.ref b), (.ref a2)])) rfl rfl (dt63 hby 8 rfl :)
 obtain ⟨cq7, kq7, q7a, q7b, q7c⟩ := isOf hZ e4 HE3
 obtain ⟨_, _, ⟨T7, L7, k7, n7⟩, -, X7, ⟨Lc7, hQ7, l7, y7, z7⟩, st7⟩ := X4.virtualBack hx (y := ym65) (z := ym65) hown (mw hZ hw 302 rfl) (mw hZ hw 303 rfl) (notFace_of_selects (args := #[]) (mw hZ hw 305 rfl)) (mw hZ hw 305 rfl) (mw hZ hw 304 rfl) (by decide) (backOf (W := 0) (rm65_1 l Z a0 hw a2 b i n M vb f g cs sv dg h0 n0 Z0 HE3 HF4 HF5 HB6 HB7 Hg8 hne hne2 (by omega) (by omega) hS HO) hZ (hw _ (wi 306 rfl)) (hw _ (wi 5 rfl)) (by decide) (by decide)) q7a q7c (g := (mkF m 15 #[sR a1, sI (Int32.ofNat i), sR a2] [(.int (1 : Int32)), (.int (Int32.ofNat i)), (.ref b), (.ref a2)])) rfl (by rw [hml]; rfl) (Steps.refl _) (argsL := [(.ref b), (.int (Int32.ofNat i)), (.int (1 : Int32))]) (rest := []) (lenOf pd_30 rfl) rfl (Nat.le_refl _) (dt63 hby 9 rfl :) (fun _ _ => ⟨rfl, e4, (by decide : 0 + 0 ≤ _), (by decide : 0 + 0 ≤ _)⟩)
 dsimp only [Pt.U, Pt.locs, Pt.cells, Pt.slots] at X7 l7 y7 z7 st7 hQ7
 subst l7 y7 z7
 obtain ⟨rfl, N7q, R8, R9⟩ := hQ7
 have N7 := Fr.app N1 N7q
 have K19 : Keep h0 T7.heap [b] := (Keep.refl h0 [b]).trans R8 (allS (Or.inl (wi 0 rfl)) all0)
 refine own_fin X7 hlk (v := none) (fun _ => rfl) (by decide) (by decide) ?_ (fun fs hrt => pre0 _ ?_)
 ·
  show Q63_1 Z a1 a2 i n M b vb f g cs sv dg h0 n0 _ T7.heap _
  exact ⟨rfl, N7, K19, R9⟩
 refine qaN X0 hx (dt63 hby 0 rfl :) rfl rfl ?_
 refine qaN X0 hx (dt63 hby 1 rfl :) rfl rfl ?_
 refine st1.trans ?_
 refine qaN X1 hx (dt63 hby 3 rfl :) rfl rfl ?_
 refine qaN X1 hx (dt63 hby 4 rfl :) rfl rfl ?_
 refine st3 _ ?_
 refine qiN X3 hx (dt63 hby 6 rfl :) rfl ?_
 refine qaN X3 hx (dt63 hby 7 rfl :) rfl rfl ?_
 refine st4 _ ?_
 refine st7.trans ?_
 exact X7.returnOut hx hR (dt63 hby 10 rfl :) hrt
theorem pd_31 : parseMethodDescriptor "(ILjava/lang/String;)V" = some ⟨[.int, (.object "java/lang/String")], none⟩ := by decide +kernel
def Q58 (Z : State) (a1 a2 b vb : Addr) (ys zs : List Int32) (cs : Int32) (sv : Value) (dg : Addr) (h0 : Heap) (n0 : Nat) (v : Option Value) (h : Heap) (L : List Loc) : Prop := ∃ (b2 : Addr), v = some (.ref a1) ∧ Fr n0 L ∧ Keep h0 h [a1, b] ∧ n0 ≤ b2 ∧ (b2 = b ∨ h0.size ≤ b2) ∧ own_Sb Z h a1 b2 (ys ++ zs)
theorem rm58 (l : Launch) (Z : State) (a0 : Array Value) (hw : own_hw a0 Z) (a1 a2 b vb : Addr) (ys zs : List Int32) (cs : Int32) (sv : Value) (dg : Addr) (h0 : Heap) (n0 : Nat) (Z0 : n0 ≤ h0.size) (HU0 : own_Sb Z h0 a1 b ys) (HU1 : own_Ls Z h0 a2 vb zs) (Hg2 : n0 ≤ a1) (Hg3 : n0 ≤ b) (hnv : vb ≠ b) (hl : (ys.length + zs.length ≤ 18)) (hS : (own_ST Z cs sv dg)) (HO : Old Z n0 h0) :
 own_M l ym58 [Jvm.Cond.code ym58 cm58 3 (some (.object "java/lang/AbstractStringBuilder"))] (⟨7, 1, 72, 105⟩ : Room) #[(.ref a1), (.ref a2)] Z h0 (Q58 Z a1 a2 b vb ys zs cs sv dg h0 n0) := by
 refine own_go n0 (F := fun m => mkF m 0 #[sR a1, sR a2, .unset] []) (plainFor_of_name pn_7) (fun m => rfl) ?_
 intro p e s m below meth c sq Pq hR hx hby hml hown hnm hZ hh hlk X0 e0 N0 pre0
 have ns1 : a1 ≠ a2 := HU0.exa.ne HU1.exa (by decide)
 have ns2 : b ≠ a2 := HU0.exb.ne HU1.exa (by decide)
 have ns3 : a1 ≠ vb := HU1.nev HU0.exa (hw _ (wi 17 rfl))
 obtain ⟨f2, E3, V3, C3, A3, r3, l3⟩ := HU1
 obtain ⟨f, LL, hne, E1, E2, V1, N1, M1, l1, l2, (⟨C1, A1, r1⟩ | ⟨C1, A1, r1⟩)⟩ := HU0
 ·
  obtain ⟨cq5, kq5, q5a, q5b, q5c⟩ := isOf hZ e0 E3
  obtain ⟨_, _, ⟨T5, L5, k5, n5⟩, -, X5, ⟨Lc5, hQ5, l5, y5, z5⟩, st5⟩ := X0.virtualBack hx (y := ym3) (z := ym3) hown (mw hZ hw 268 rfl) (mw hZ hw 20 rfl) (notFace_of_selects (args := #[]) (mw hZ hw 22 rfl)) (mw hZ hw 22 rfl) (mw hZ hw 21 rfl) (by decide) (backOf (W := 0) (rm3_0 l Z a0 hw a2 zs.length vb f2 cs sv dg h0 n0 Z0 E3 V3 C3 A3 (by omega) hS HO) hZ (hw _ (wi 23 rfl)) (hw _ (wi 5 rfl)) (by decide) (by decide)) q5a q5c (g := (mkF m 10 #[sR a1, sR a2, .unset] [(.ref a2)])) rfl (by rw [hml]; rfl) (Steps.refl _) (argsL := []) (rest := []) (lenOf pd_28 rfl) rfl (Nat.le_refl _) (dt58 hby 3 rfl :) (fun _ _ => ⟨rfl, e0, (by decide : 0 + 0 ≤ _), (by decide : 0 + 0 ≤ _)⟩)
  dsimp only [Pt.U, Pt.locs, Pt.cells, Pt.slots] at X5 l5 y5 z5 st5 hQ5
  subst l5 y5 z5
  obtain ⟨rfl, N5q, R6⟩ := hQ5
  have N5 := Fr.app N0 N5q
  obtain ⟨T7, X7, e7, st7⟩ := getF X5 hx hZ hown (host := "") (Or.inl (hw _ (wi 77 rfl))) Via.refl R6 N1 (g := (mkF m 16 #[sR a1, sR a2, sI (Int32.ofNat zs.length)] [(.ref a1), (.ref a1)])) rfl rfl (dt58 hby 7 rfl :)
  obtain ⟨cq10, q10, q10'⟩ := E1.cell
  obtain ⟨_, _, ⟨T10, L10, k10, n10⟩, -, X10, ⟨Lc10, hQ10, l10, y10, z10⟩, st10⟩ := X7.privateBack hx (y := ym30) hown (mw hZ hw 154 rfl) (mw hZ hw 155 rfl) (mvT hZ (own_selfPriv (hw _ (wi 157 rfl)) (hw _ (wi 156 rfl)) (hw _ (wi 155 rfl)) (by decide))) (Cond.privateMethod_at (mvP hZ (hw _ (wi 156 rfl)) (args := #[]))) (mw hZ hw 158 rfl) (by decide) (backOf (W := 0) (rm30_0 l Z a0 hw a1 (ys.length + zs.length) LL ys.length b f h0 n0 Z0 E1 Hg2 V1 C1 N1 M1 A1 E2 Hg3 hne (by omega) (by omega)) hZ (hw _ (wi 158 rfl)) (hw _ (wi 39 rfl)) (by decide) (by decide)) (g := (mkF m 21 #[sR a1, sR a2, sI (Int32.ofNat zs.length)] [(.int (Int32.ofNat (ys.length + zs.length))), (.ref a1)])) rfl (by rw [hml]; rfl) (Steps.refl _) (a := a1) (by rw [e7]; exact q10) q10' (argsL := [(.int (Int32.ofNat (ys.length + zs.length)))]) (rest := []) (lenOf pd_24 rfl) rfl (Nat.le_refl _) (dt58 hby 10 rfl :) (fun _ _ => ⟨rfl, e7, (by decide : 0 + 1 ≤ _), (by decide : 0 + 72 ≤ _)⟩)
  dsimp only [Pt.U, Pt.locs, Pt.cells, Pt.slots] at X10 l10 y10 z10 st10 hQ10
  subst l10 y10 z10
  obtain ⟨b211, g12, L213, rfl, N10q, R14, R15, R16, R17, R18, R19, R20, R21, R22, R23, R24, R25⟩ := hQ10
  have N10 := Fr.app N5 N10q
  have F26 : Old Z n0 T10.heap := HO.keep R14 (allS Hg2 all0)
  have F27 : eS Z T10.heap a2 := E3.keep R14
  have F28 : fSv Z T10.heap a2 (.ref vb) := V3.keep R14 (ninS (Ne.symm ns1) nin0)
  have F29 : fSc Z T10.heap a2 (.int (0 : Int32)) := C3.keep R14 (ninS (Ne.symm ns1) nin0)
  have F30 : own_Af Z T10.heap vb .byte (Int32.ofNat zs.length) f2 := A3.keep R14 (ninS (Ne.symm ns3) nin0)
  have Z34 : n0 ≤ T10.heap.size := Nat.le_trans Z0 R14.1
  have K35 : Keep h0 T10.heap [a1, b] := (Keep.refl h0 [a1, b]).trans R14 (allS (Or.inl (wi 0 rfl)) all0)
  have ne36 : a2 ≠ b211 := R21.elim (fun e => by rw [e]; exact (Ne.symm ns2)) (fun q => Nat.ne_of_lt (Nat.lt_of_lt_of_le E3.lt q))
  have ne37 : vb ≠ b211 := R21.elim (fun e => by rw [e]; exact hnv) (fun q => Nat.ne_of_lt (Nat.lt_of_lt_of_le A3.lt q))
  have so40 : b211 = b ∨ h0.size ≤ b211 := R21.elim (fun e => by rw [e]; exact Or.inl rfl) (fun q => Or.inr (Nat.le_trans (Keep.refl h0 [a1, b]).1 q))
  have sz39 : b211 ∈ [a1, b] ∨ h0.size ≤ b211 := so40.elim (fun e => by rw [e]; exact Or.inl (wi 1 rfl)) Or.inr
  obtain ⟨hm1, hm2, hm3, hm4⟩ := R25
  obtain ⟨T41, X41, e41, st41⟩ := getF X10 hx hZ hown (host := "") (Or.inl (hw _ (wi 77 rfl))) Via.refl rfl R18 (g := (mkF m 26 #[sR a1, sR a2, sI (Int32.ofNat zs.length)] [(.ref a1), (.ref a1)])) rfl rfl (dt58 hby 13 rfl :)
  obtain ⟨cq44, q44, q44'⟩ := R15.cell
  obtain ⟨_, _, ⟨T44, L44, k44, n44⟩, -, X44, ⟨Lc44, hQ44, l44, y44, z44⟩, st44⟩ := X41.privateBack hx (y := ym63) hown (mw hZ hw 291 rfl) (mw hZ hw 292 rfl) (mvT hZ (own_selfPriv (hw _ (wi 294 rfl)) (hw _ (wi 293 rfl)) (hw _ (wi 292 rfl)) (by decide))) (Cond.privateMethod_at (mvP hZ (hw _ (wi 293 rfl)) (args := #[]))) (mw hZ hw 295 rfl) (by decide) (backOf (W := 0) (rm63_0 l Z a0 hw a1 a2 ys.length zs.length L213 b211 vb f2 g12 cs sv dg T10.heap n0 Z34 R15 R16 R17 F27 F28 F29 F30 R23 R20 ne37 ne36 R24 (by omega) (by omega) hS F26) hZ (hw _ (wi 295 rfl)) (hw _ (wi 39 rfl)) (by decide) (by decide)) (g := (mkF m 30 #[sR a1, sR a2, sI (Int32.ofNat zs.length)] [(.ref a2), (.int (Int32.ofNat ys.length)), (.ref a1)])) rfl (by rw [hml]; rfl) (Steps.refl _) (a := a1) (by rw [e41]; exact q44) q44' (argsL := [(.int (Int32.ofNat ys.length)), (.ref a2)]) (rest := []) (lenOf pd_31 rfl) rfl (Nat.le_refl _) (dt58 hby 15 rfl :) (fun _ _ => ⟨rfl, e41, (by decide : 1 + 0 ≤ _), (by decide : 72 + 0 ≤ _)⟩)
  dsimp only [Pt.U, Pt.locs, Pt.cells, Pt.slots] at X44 l44 y44 z44 st44 hQ44
  subst l44 y44 z44
  obtain ⟨rfl, N44q, R45, R46⟩ := hQ44
  have N44 := Fr.app N10 N44q
  have F52 : eB Z T44.heap a1 := R15.keep R45
  have F53 : fBv Z T44.heap a1 (.ref b211) := R16.keep R45 (ninS R24 nin0)
  have F54 : fBc Z T44.heap a1 (.int (0 : Int32)) := R17.keep R45 (ninS R24 nin0)
  have F55 : fBn Z T44.heap a1 (.int (Int32.ofNat ys.length)) := R18.keep R45 (ninS R24 nin0)
  have F56 : fBm Z T44.heap a1 (.int (0 : Int32)) := R19.keep R45 (ninS R24 nin0)
  have F57 : eA Z T44.heap b211 := R22.keep R45
  have K59 : Keep h0 T44.heap [a1, b] := K35.trans R45 (allS sz39 all0)
  obtain ⟨T60, X60, e60, st60⟩ := getF X44 hx hZ hown (host := "") (Or.inl (hw _ (wi 77 rfl))) Via.refl rfl F55 (g := (mkF m 35 #[sR a1, sR a2, sI (Int32.ofNat zs.length)] [(.ref a1), (.ref a1)])) rfl rfl (dt58 hby 18 rfl :)
  obtain ⟨T61, h61, X61, e61, W61, st61⟩ := putF X60 hx hZ hown (host := "") (Or.inl (hw _ (wi 77 rfl))) Via.refl e60 F55 F52 (Or.inl (hw _ (wi 78 rfl))) (hw _ (wi 17 rfl)) (ty := .int) (by decide) rfl rfl (g := (mkF m 40 #[sR a1, sR a2, sI (Int32.ofNat zs.length)] [(.int (Int32.ofNat (ys.length + zs.length))), (.ref a1)])) rfl rfl (dt58 hby 21 rfl :)
  have Fw61 : fBn Z h61 a1 (.int (Int32.ofNat (ys.length + zs.length))) := F55.same W61
  have F67 : eB Z h61 a1 := F52.wr W61
  have F68 : fBv Z h61 a1 (.ref b211) := F53.other W61 (Or.inr (slot_ne (Or.inl (hw _ (wi 46 rfl))) (Or.inl (hw _ (wi 78 rfl))) (by decide) (t := (.array .byte)) (t' := .int) (by decide) (by decide)))
  have F69 : fBc Z h61 a1 (.int (0 : Int32)) := F54.other W61 (Or.inr (slot_ne (Or.inl (hw _ (wi 48 rfl))) (Or.inl (hw _ (wi 78 rfl))) (by decide) (t := .byte) (t' := .int) (by decide) (by decide)))
  have F70 : fBm Z h61 a1 (.int (0 : Int32)) := F56.other W61 (Or.inr (slot_ne (Or.inl (hw _ (wi 224 rfl))) (Or.inl (hw _ (wi 78 rfl))) (by decide) (t := .boolean) (t' := .int) (by decide) (by decide)))
  have F71 : eA Z h61 b211 := F57.wr W61
  have F72 : own_Af Z h61 b211 .byte (Int32.ofNat L213) (own_cp f2 g12 0 ys.length zs.length) := R46.keep (Keep.of_wr W61) (ninS (Ne.symm R24) nin0)
  have K74 : Keep h0 h61 [a1, b] := K59.wr W61 (Or.inl (wi 0 rfl))
  have N75 := Fr.snoc X61 N44 Hg2
  have Sb76 : own_Sb Z h61 a1 b211 (ys ++ zs) := own_Sb.mk0 (by simp) R24 F67 F71 F68 Fw61 F70 F69 F72 (by omega) (by omega) (own_lat_cp (own_lat_cg r1 l1 hm4) r3)
  refine own_fin X61 hlk (v := some (.ref a1)) (own_nv hR) (by decide) (by decide) ?_ (fun fs hrt => pre0 _ ?_)
  ·
   show Q58 Z a1 a2 b vb ys zs cs sv dg h0 n0 _ T61.heap _
   rw [e61]
   exact ⟨b211, rfl, N75, K74, R20, so40, Sb76⟩
  refine qaN X0 hx (dt58 hby 0 rfl :) rfl rfl ?_
  refine XS.ifnonnullYes X0.here hx rfl (pc0 := 1) (pc' := 9) rfl (dt58 hby 1 rfl :) rfl (by decide) (by decide) ?_
  refine qaN X0 hx (dt58 hby 2 rfl :) rfl rfl ?_
  refine st5.trans ?_
  refine qsN X5 hx (l' := #[sR a1, sR a2, sI (Int32.ofNat zs.length)]) (dt58 hby 4 rfl :) rfl ?_
  refine qaN X5 hx (dt58 hby 5 rfl :) rfl rfl ?_
  refine qaN X5 hx (dt58 hby 6 rfl :) rfl rfl ?_
  refine st7 _ ?_
  refine qiN X7 hx (dt58 hby 8 rfl :) rfl ?_
  refine XS.iadd X7.here hx rfl (dt58 hby 9 rfl :) rfl ?_
  rw [show ((Int32.ofNat ys.length) + (Int32.ofNat zs.length)) = (Int32.ofNat (ys.length + zs.length)) from own_iadd _ _]
  refine st10.trans ?_
  refine qaN X10 hx (dt58 hby 11 rfl :) rfl rfl ?_
  refine qaN X10 hx (dt58 hby 12 rfl :) rfl rfl ?_
  refine st41 _ ?_
  refine qaN X41 hx (dt58 hby 14 rfl :) rfl rfl ?_
  refine st44.trans ?_
  refine qaN X44 hx (dt58 hby 16 rfl :) rfl rfl ?_
  refine XS.dup X44.here hx rfl (dt58 hby 17 rfl :) rfl rfl ?_
  refine st60 _ ?_
  refine qiN X60 hx (dt58 hby 19 rfl :) rfl ?_
  refine XS.iadd X60.here hx rfl (dt58 hby 20 rfl :) rfl ?_
  rw [show ((Int32.ofNat ys.length) + (Int32.ofNat zs.length)) = (Int32.ofNat (ys.length + zs.length)) from own_iadd _ _]
  refine st61 _ ?_
  refine qaN X61 hx (dt58 hby 22 rfl :) rfl rfl ?_
  exact retOut X61 hx hR rfl (Or.inr (Or.inr (Or.inr (Or.inr ⟨rfl, rfl, rfl⟩)))) (dt58 hby 23 rfl :) hrt
 ·
  obtain ⟨cq78, kq78, q78a, q78b, q78c⟩ := isOf hZ e0 E3
  obtain ⟨_, _, ⟨T78, L78, k78, n78⟩, -, X78, ⟨Lc78, hQ78, l78, y78, z78⟩, st78⟩ := X0.virtualBack hx (y := ym3) (z := ym3) hown (mw hZ hw 268 rfl) (mw hZ hw 20 rfl) (notFace_of_selects (args := #[]) (mw hZ hw 22 rfl)) (mw hZ hw 22 rfl) (mw hZ hw 21 rfl) (by decide) (backOf (W := 0) (rm3_0 l Z a0 hw a2 zs.length vb f2 cs sv dg h0 n0 Z0 E3 V3 C3 A3 (by omega) hS HO) hZ (hw _ (wi 23 rfl)) (hw _ (wi 5 rfl)) (by decide) (by decide)) q78a q78c (g := (mkF m 10 #[sR a1, sR a2, .unset] [(.ref a2)])) rfl (by rw [hml]; rfl) (Steps.refl _) (argsL := []) (rest := []) (lenOf pd_28 rfl) rfl (Nat.le_refl _) (dt58 hby 3 rfl :) (fun _ _ => ⟨rfl, e0, (by decide : 0 + 0 ≤ _), (by decide : 0 + 0 ≤ _)⟩)
  dsimp only [Pt.U, Pt.locs, Pt.cells, Pt.slots] at X78 l78 y78 z78 st78 hQ78
  subst l78 y78 z78
  obtain ⟨rfl, N78q, R79⟩ := hQ78
  have N78 := Fr.app N0 N78q
  obtain ⟨T80, X80, e80, st80⟩ := getF X78 hx hZ hown (host := "") (Or.inl (hw _ (wi 77 rfl))) Via.refl R79 N1 (g := (mkF m 16 #[sR a1, sR a2, sI (Int32.ofNat zs.length)] [(.ref a1), (.ref a1)])) rfl rfl (dt58 hby 7 rfl :)
  obtain ⟨cq83, q83, q83'⟩ := E1.cell
  obtain ⟨_, _, ⟨T83, L83, k83, n83⟩, -, X83, ⟨Lc83, hQ83, l83, y83, z83⟩, st83⟩ := X80.privateBack hx (y := ym30) hown (mw hZ hw 154 rfl) (mw hZ hw 155 rfl) (mvT hZ (own_selfPriv (hw _ (wi 157 rfl)) (hw _ (wi 156 rfl)) (hw _ (wi 155 rfl)) (by decide))) (Cond.privateMethod_at (mvP hZ (hw _ (wi 156 rfl)) (args := #[]))) (mw hZ hw 158 rfl) (by decide) (backOf (W := 0) (rm30_1 l Z a0 hw a1 (ys.length + zs.length) LL ys.length b f h0 n0 Z0 E1 Hg2 V1 C1 N1 M1 A1 E2 Hg3 hne (by omega) (by omega)) hZ (hw _ (wi 158 rfl)) (hw _ (wi 39 rfl)) (by decide) (by decide)) (g := (mkF m 21 #[sR a1, sR a2, sI (Int32.ofNat zs.length)] [(.int (Int32.ofNat (ys.length + zs.length))), (.ref a1)])) rfl (by rw [hml]; rfl) (Steps.refl _) (a := a1) (by rw [e80]; exact q83) q83' (argsL := [(.int (Int32.ofNat (ys.length + zs.length)))]) (rest := []) (lenOf pd_24 rfl) rfl (Nat.le_refl _) (dt58 hby 10 rfl :) (fun _ _ => ⟨rfl, e80, (by decide : 0 + 1 ≤ _), (by decide : 0 + 72 ≤ _)⟩)
  dsimp only [Pt.U, Pt.locs, Pt.cells, Pt.slots] at X83 l83 y83 z83 st83 hQ83
  subst l83 y83 z83
  obtain ⟨b284, g85, L286, rfl, N83q, R87, R88, R89, R90, R91, R92, R93, R94, R95, R96, R97, R98⟩ := hQ83
  have N83 := Fr.app N78 N83q
  have F99 : Old Z n0 T83.heap := HO.keep R87 (allS Hg2 all0)
  have F100 : eS Z T83.heap a2 := E3.keep R87
  have F101 : fSv Z T83.heap a2 (.ref vb) := V3.keep R87 (ninS (Ne.symm ns1) nin0)
  have F102 : fSc Z T83.heap a2 (.int (0 : Int32)) := C3.keep R87 (ninS (Ne.symm ns1) nin0)
  have F103 : own_Af Z T83.heap vb .byte (Int32.ofNat zs.length) f2 := A3.keep R87 (ninS (Ne.symm ns3) nin0)
  have Z107 : n0 ≤ T83.heap.size := Nat.le_trans Z0 R87.1
  have K108 : Keep h0 T83.heap [a1, b] := (Keep.refl h0 [a1, b]).trans R87 (allS (Or.inl (wi 0 rfl)) all0)
  have ne109 : a2 ≠ b284 := R94.elim (fun e => by rw [e]; exact (Ne.symm ns2)) (fun q => Nat.ne_of_lt (Nat.lt_of_lt_of_le E3.lt q))
  have ne110 : vb ≠ b284 := R94.elim (fun e => by rw [e]; exact hnv) (fun q => Nat.ne_of_lt (Nat.lt_of_lt_of_le A3.lt q))
  have so113 : b284 = b ∨ h0.size ≤ b284 := R94.elim (fun e => by rw [e]; exact Or.inl rfl) (fun q => Or.inr (Nat.le_trans (Keep.refl h0 [a1, b]).1 q))
  have sz112 : b284 ∈ [a1, b] ∨ h0.size ≤ b284 := so113.elim (fun e => by rw [e]; exact Or.inl (wi 1 rfl)) Or.inr
  obtain ⟨hm1, hm2, hm3, hm4⟩ := R98
  obtain ⟨T114, X114, e114, st114⟩ := getF X83 hx hZ hown (host := "") (Or.inl (hw _ (wi 77 rfl))) Via.refl rfl R91 (g := (mkF m 26 #[sR a1, sR a2, sI (Int32.ofNat zs.length)] [(.ref a1), (.ref a1)])) rfl rfl (dt58 hby 13 rfl :)
  obtain ⟨cq117, q117, q117'⟩ := R88.cell
  obtain ⟨_, _, ⟨T117, L117, k117, n117⟩, -, X117, ⟨Lc117, hQ117, l117, y117, z117⟩, st117⟩ := X114.privateBack hx (y := ym63) hown (mw hZ hw 291 rfl) (mw hZ hw 292 rfl) (mvT hZ (own_selfPriv (hw _ (wi 294 rfl)) (hw _ (wi 293 rfl)) (hw _ (wi 292 rfl)) (by decide))) (Cond.privateMethod_at (mvP hZ (hw _ (wi 293 rfl)) (args := #[]))) (mw hZ hw 295 rfl) (by decide) (backOf (W := 0) (rm63_1 l Z a0 hw a1 a2 ys.length zs.length L286 b284 vb f2 g85 cs sv dg T83.heap n0 Z107 R88 R89 R90 F100 F101 F102 F103 R96 R93 ne110 ne109 R97 (by omega) (by omega) hS F99) hZ (hw _ (wi 295 rfl)) (hw _ (wi 39 rfl)) (by decide) (by decide)) (g := (mkF m 30 #[sR a1, sR a2, sI (Int32.ofNat zs.length)] [(.ref a2), (.int (Int32.ofNat ys.length)), (.ref a1)])) rfl (by rw [hml]; rfl) (Steps.refl _) (a := a1) (by rw [e114]; exact q117) q117' (argsL := [(.int (Int32.ofNat ys.length)), (.ref a2)]) (rest := []) (lenOf pd_31 rfl) rfl (Nat.le_refl _) (dt58 hby 15 rfl :) (fun _ _ => ⟨rfl, e114, (by decide : 1 + 0 ≤ _), (by decide : 72 + 0 ≤ _)⟩)
  dsimp only [Pt.U, Pt.locs, Pt.cells, Pt.slots] at X117 l117 y117 z117 st117 hQ117
  subst l117 y117 z117
  obtain ⟨rfl, N117q, R118, R119⟩ := hQ117
  have N117 := Fr.app N83 N117q
  have F125 : eB Z T117.heap a1 := R88.keep R118
  have F126 : fBv Z T117.heap a1 (.ref b284) := R89.keep R118 (ninS R97 nin0)
  have F127 : fBc Z T117.heap a1 (.int (1 : Int32)) := R90.keep R118 (ninS R97 nin0)
  have F128 : fBn Z T117.heap a1 (.int (Int32.ofNat ys.length)) := R91.keep R118 (ninS R97 nin0)
  have F129 : fBm Z T117.heap a1 (.int (0 : Int32)) := R92.keep R118 (ninS R97 nin0)
  have F130 : eA Z T117.heap b284 := R95.keep R118
  have K132 : Keep h0 T117.heap [a1, b] := K108.trans R118 (allS sz112 all0)
  obtain ⟨T133, X133, e133, st133⟩ := getF X117 hx hZ hown (host := "") (Or.inl (hw _ (wi 77 rfl))) Via.refl rfl F128 (g := (mkF m 35 #[sR a1, sR a2, sI (Int32.ofNat zs.length)] [(.ref a1), (.ref a1)])) rfl rfl (dt58 hby 18 rfl :)
  obtain ⟨T134, h134, X134, e134, W134, st134⟩ := putF X133 hx hZ hown (host := "") (Or.inl (hw _ (wi 77 rfl))) Via.refl e133 F128 F125 (Or.inl (hw _ (wi 78 rfl))) (hw _ (wi 17 rfl)) (ty := .int) (by decide) rfl rfl (g := (mkF m 40 #[sR a1, sR a2, sI (Int32.ofNat zs.length)] [(.int (Int32.ofNat (ys.length + zs.length))), (.ref a1)])) rfl rfl (dt58 hby 21 rfl :)
  have Fw134 : fBn Z h134 a1 (.int (Int32.ofNat (ys.length + zs.length))) := F128.same W134
  have F140 : eB Z h134 a1 := F125.wr W134
  have F141 : fBv Z h134 a1 (.ref b284) := F126.other W134 (Or.inr (slot_ne (Or.inl (hw _ (wi 46 rfl))) (Or.inl (hw _ (wi 78 rfl))) (by decide) (t := (.array .byte)) (t' := .int) (by decide) (by decide)))
  have F142 : fBc Z h134 a1 (.int (1 : Int32)) := F127.other W134 (Or.inr (slot_ne (Or.inl (hw _ (wi 48 rfl))) (Or.inl (hw _ (wi 78 rfl))) (by decide) (t := .byte) (t' := .int) (by decide) (by decide)))
  have F143 : fBm Z h134 a1 (.int (0 : Int32)) := F129.other W134 (Or.inr (slot_ne (Or.inl (hw _ (wi 224 rfl))) (Or.inl (hw _ (wi 78 rfl))) (by decide) (t := .boolean) (t' := .int) (by decide) (by decide)))
  have F144 : eA Z h134 b284 := F130.wr W134
  have F145 : own_Af Z h134 b284 .byte (Int32.ofNat (2 * L286)) (own_inf f2 g85 ys.length zs.length) := R119.keep (Keep.of_wr W134) (ninS (Ne.symm R97) nin0)
  have K147 : Keep h0 h134 [a1, b] := K132.wr W134 (Or.inl (wi 0 rfl))
  have N148 := Fr.snoc X134 N117 Hg2
  have Sb149 : own_Sb Z h134 a1 b284 (ys ++ zs) := own_Sb.mk1 (by simp) R97 F140 F144 F141 Fw134 F143 F142 F145 (by omega) (by omega) (own_utf_infA (own_utf_cg r1 l1 hm4) r3)
  refine own_fin X134 hlk (v := some (.ref a1)) (own_nv hR) (by decide) (by decide) ?_ (fun fs hrt => pre0 _ ?_)
  ·
   show Q58 Z a1 a2 b vb ys zs cs sv dg h0 n0 _ T134.heap _
   rw [e134]
   exact ⟨b284, rfl, N148, K147, R93, so113, Sb149⟩
  refine qaN X0 hx (dt58 hby 0 rfl :) rfl rfl ?_
  refine XS.ifnonnullYes X0.here hx rfl (pc0 := 1) (pc' := 9) rfl (dt58 hby 1 rfl :) rfl (by decide) (by decide) ?_
  refine qaN X0 hx (dt58 hby 2 rfl :) rfl rfl ?_
  refine st78.trans ?_
  refine qsN X78 hx (l' := #[sR a1, sR a2, sI (Int32.ofNat zs.length)]) (dt58 hby 4 rfl :) rfl ?_
  refine qaN X78 hx (dt58 hby 5 rfl :) rfl rfl ?_
  refine qaN X78 hx (dt58 hby 6 rfl :) rfl rfl ?_
  refine st80 _ ?_
  refine qiN X80 hx (dt58 hby 8 rfl :) rfl ?_
  refine XS.iadd X80.here hx rfl (dt58 hby 9 rfl :) rfl ?_
  rw [show ((Int32.ofNat ys.length) + (Int32.ofNat zs.length)) = (Int32.ofNat (ys.length + zs.length)) from own_iadd _ _]
  refine st83.trans ?_
  refine qaN X83 hx (dt58 hby 11 rfl :) rfl rfl ?_
  refine qaN X83 hx (dt58 hby 12 rfl :) rfl rfl ?_
  refine st114 _ ?_
  refine qaN X114 hx (dt58 hby 14 rfl :) rfl rfl ?_
  refine st117.trans ?_
  refine qaN X117 hx (dt58 hby 16 rfl :) rfl rfl ?_
  refine XS.dup X117.here hx rfl (dt58 hby 17 rfl :) rfl rfl ?_
  refine st133 _ ?_
  refine qiN X133 hx (dt58 hby 19 rfl :) rfl ?_
  refine XS.iadd X133.here hx rfl (dt58 hby 20 rfl :) rfl ?_
  rw [show ((Int32.ofNat ys.length) + (Int32.ofNat zs.length)) = (Int32.ofNat (ys.length + zs.length)) from own_iadd _ _]
  refine st134 _ ?_
  refine qaN X134 hx (dt58 hby 22 rfl :) rfl rfl ?_
  exact retOut X134 hx hR rfl (Or.inr (Or.inr (Or.inr (Or.inr ⟨rfl, rfl, rfl⟩)))) (dt58 hby 23 rfl :) hrt
theorem pd_32 : parseMethodDescriptor "(Ljava/lang/String;)Ljava/lang/AbstractStringBuilder;" = some ⟨[(.object "java/lang/String")], some (.object "java/lang/AbstractStringBuilder")⟩ := by decide +kernel
def Q57 (Z : State) (a1 a2 b vb : Addr) (ys zs : List Int32) (cs : Int32) (sv : Value) (dg : Addr) (h0 : Heap) (n0 : Nat) (v : Option Value) (h : Heap) (L : List Loc) : Prop := ∃ (b2 : Addr), v = some (.ref a1) ∧ Fr n0 L ∧ Keep h0 h [a1, b] ∧ n0 ≤ b2 ∧ (b2 = b ∨ h0.size ≤ b2) ∧ own_Sb Z h a1 b2 (ys ++ zs)
theorem rm57 (l : Launch) (Z : State) (a0 : Array Value) (hw : own_hw a0 Z) (a1 a2 b vb : Addr) (ys zs : List Int32) (cs : Int32) (sv : Value) (dg : Addr) (h0 : Heap) (n0 : Nat) (Z0 : n0 ≤ h0.size) (HU0 : own_Sb Z h0 a1 b ys) (HU1 : own_Ls Z h0 a2 vb zs) (Hg2 : n0 ≤ a1) (Hg3 : n0 ≤ b) (hnv : vb ≠ b) (hl : (ys.length + zs.length ≤ 18)) (hS : (own_ST Z cs sv dg)) (HO : Old Z n0 h0) :
 own_M l ym57 [Jvm.Cond.code ym57 cm57 2 (some (.object "java/lang/StringBuilder"))] (⟨8, 1, 72, 119⟩ : Room) #[(.ref a1), (.ref a2)] Z h0 (Q57 Z a1 a2 b vb ys zs cs sv dg h0 n0) := by
 refine own_go n0 (F := fun m => mkF m 0 #[sR a1, sR a2] []) (plainFor_of_name pn_8) (fun m => rfl) ?_
 intro p e s m below meth c sq Pq hR hx hby hml hown hnm hZ hh hlk X0 e0 N0 pre0
 have Ex := HU0.exa
 obtain ⟨_, _, ⟨T5, L5, k5, n5⟩, -, X5, ⟨Lc5, hQ5, l5, y5, z5⟩, st5⟩ := superBack X0 hx hZ (y := ym58) hown (hw _ (wi 264 rfl)) (own_sameM (y := ym58) (x := ym11) rfl (hw _ (wi 66 rfl)) (hw _ (wi 265 rfl)) (by decide)) (hw _ (wi 265 rfl)) (hw _ (wi 75 rfl)) (by decide) (backOf (W := 0) (rm58 l Z a0 hw a1 a2 b vb ys zs cs sv dg h0 n0 Z0 HU0 HU1 Hg2 Hg3 hnv (by omega) hS HO) hZ (hw _ (wi 267 rfl)) (hw _ (wi 39 rfl)) (by decide) (by decide)) e0 (Ins.self Ex) (g := (mkF m 2 #[sR a1, sR a2] [(.ref a2), (.ref a1)])) rfl (by rw [hml]; rfl) (hw _ (wi 267 rfl)) (argsL := [(.ref a2)]) (rest := []) (lenOf pd_32 rfl) rfl (Nat.le_refl _) (dt57 hby 2 rfl :) (fun _ _ => ⟨rfl, e0, (by decide : 0 + 1 ≤ _), (by decide : 0 + 72 ≤ _)⟩)
 dsimp only [Pt.U, Pt.locs, Pt.cells, Pt.slots] at X5 l5 y5 z5 st5 hQ5
 subst l5 y5 z5
 obtain ⟨b26, rfl, N5q, R7, R8, R9, R10⟩ := hQ5
 have N5 := Fr.app N0 N5q
 have K15 : Keep h0 T5.heap [a1, b] := (Keep.refl h0 [a1, b]).trans R7 (allS (Or.inl (wi 0 rfl)) (allS (Or.inl (wi 1 rfl)) all0))
 have so19 : b26 = b ∨ h0.size ≤ b26 := R9.elim (fun e => by rw [e]; exact Or.inl rfl) (fun q => Or.inr (Nat.le_trans (Keep.refl h0 [a1, b]).1 q))
 refine own_fin X5 hlk (v := some (.ref a1)) (own_nv hR) (by decide) (by decide) ?_ (fun fs hrt => pre0 _ ?_)
 ·
  show Q57 Z a1 a2 b vb ys zs cs sv dg h0 n0 _ T5.heap _
  exact ⟨b26, rfl, N5, K15, R8, so19, R10⟩
 refine qaN X0 hx (dt57 hby 0 rfl :) rfl rfl ?_
 refine qaN X0 hx (dt57 hby 1 rfl :) rfl rfl ?_
 refine st5.trans ?_
 refine XS.pop X5.here hx rfl (dt57 hby 3 rfl :) rfl rfl ?_
 refine qaN X5 hx (dt57 hby 4 rfl :) rfl rfl ?_
 exact retOut X5 hx hR rfl (Or.inr (Or.inr (Or.inr (Or.inr ⟨rfl, rfl, rfl⟩)))) (dt57 hby 5 rfl :) hrt
theorem pd_33 : parseMethodDescriptor "()[B" = some ⟨[], some (.array .byte)⟩ := by decide +kernel
def Q10 (Z : State) (a1 a2 b : Addr) (ys : List Int32) (cs : Int32) (sv : Value) (dg : Addr) (h0 : Heap) (n0 : Nat) (v : Option Value) (h : Heap) (L : List Loc) : Prop := ∃ (b2 : Addr), v = none ∧ Fr n0 L ∧ Keep h0 h [a1] ∧ n0 ≤ b2 ∧ h0.size ≤ b2 ∧ own_Str Z h a1 b2 ys
theorem rm10 (l : Launch) (Z : State) (a0 : Array Value) (hw : own_hw a0 Z) (a1 a2 b : Addr) (ys : List Int32) (cs : Int32) (sv : Value) (dg : Addr) (h0 : Heap) (n0 : Nat) (Z0 : n0 ≤ h0.size) (HE0 : eS Z h0 a1) (Hg1 : n0 ≤ a1) (HF2 : fSv Z h0 a1 .null) (HF3 : fSc Z h0 a1 (.int (0 : Int32))) (HU4 : own_Sb Z h0 a2 b ys) (hS : (own_ST Z cs sv dg)) (HO : Old Z n0 h0) :
 own_M l ym10 [Jvm.Cond.code ym10 cm10 5 none] (⟨3, 1, 72, 71⟩ : Room) #[(.ref a1), (.ref a2), .null] Z h0 (Q10 Z a1 a2 b ys cs sv dg h0 n0) := by
 refine own_go n0 (F := fun m => mkF m 0 #[sR a1, sR a2, .val .null, .unset, .unset] []) (plainFor_of_name pn_4) (fun m => rfl) ?_
 intro p e s m below meth c sq Pq hR hx hby hml hown hnm hZ hh hlk X0 e0 N0 pre0
 have n12 : a1 ≠ a2 := HE0.ne HU4.exa (by decide)
 have n1b : a1 ≠ b := HE0.ne HU4.exb (by decide)
 obtain ⟨f, LL, hne, E1, E2, V1, N1, M1, l1, l2, (⟨C1, A1, r1⟩ | ⟨C1, A1, r1⟩)⟩ := HU4
 ·
  obtain ⟨T1, X1, e1, st1⟩ := initO X0 hx hZ hown (hw _ (wi 62 rfl)) (hw _ (wi 42 rfl)) (hw _ (wi 43 rfl)) e0 (g := (mkF m 1 #[sR a1, sR a2, .val .null, .unset, .unset] [(.ref a1)])) rfl (by rw [hml]; rfl) rfl (dt10 hby 1 rfl :) (by decide) (W := 0) (Nat.le_refl _) (by decide)
  obtain ⟨cq2, kq2, q2a, q2b, q2c⟩ := isOf hZ e1 E1
  obtain ⟨_, _, ⟨T2, L2, k2, n2⟩, -, X2, ⟨Lc2, hQ2, l2, y2, z2⟩, st2⟩ := X1.virtualBack hx (y := ym11) (z := ym11) hown (mw hZ hw 63 rfl) (mw hZ hw 64 rfl) (notFace_of_selects (args := #[]) (mw hZ hw 66 rfl)) (mw hZ hw 66 rfl) (mw hZ hw 65 rfl) (by decide) (backOf (W := 0) (rm11 l Z a0 hw a2 b h0 n0 Z0 V1) hZ (hw _ (wi 67 rfl)) (hw _ (wi 39 rfl)) (by decide) (by decide)) q2a q2c (g := (mkF m 5 #[sR a1, sR a2, .val .null, .unset, .unset] [(.ref a2)])) rfl (by rw [hml]; rfl) (Steps.refl _) (argsL := []) (rest := []) (lenOf pd_33 rfl) rfl (Nat.le_refl _) (dt10 hby 3 rfl :) (fun _ _ => ⟨rfl, e1, (by decide : 0 + 0 ≤ _), (by decide : 0 + 0 ≤ _)⟩)
  dsimp only [Pt.U, Pt.locs, Pt.cells, Pt.slots] at X2 l2 y2 z2 st2 hQ2
  subst l2 y2 z2
  obtain ⟨rfl, N2q, R3⟩ := hQ2
  have N2 := Fr.app N0 N2q
  obtain ⟨cq4, kq4, q4a, q4b, q4c⟩ := isOf hZ R3 E1
  obtain ⟨_, _, ⟨T4, L4, k4, n4⟩, -, X4, ⟨Lc4, hQ4, l4, y4, z4⟩, st4⟩ := X2.virtualBack hx (y := ym13) (z := ym12) hown (mw hZ hw 68 rfl) (mw hZ hw 69 rfl) (own_notFace (args := #[]) (x := ym11) rfl (mw hZ hw 66 rfl)) (mw hZ hw 71 rfl) (mw hZ hw 72 rfl) (by decide) (backOf (W := 0) (rm12 l Z a0 hw a2 ys.length h0 n0 Z0 E1 N1) hZ (hw _ (wi 73 rfl)) (hw _ (wi 18 rfl)) (by decide) (by decide)) q4a q4c (g := (mkF m 10 #[sR a1, sR a2, .val .null, sR b, .unset] [(.ref a2)])) rfl (by rw [hml]; rfl) (Steps.refl _) (argsL := []) (rest := []) (lenOf pd_28 rfl) rfl (Nat.le_refl _) (dt10 hby 6 rfl :) (fun _ _ => ⟨rfl, R3, (by decide : 0 + 0 ≤ _), (by decide : 0 + 0 ≤ _)⟩)
  dsimp only [Pt.U, Pt.locs, Pt.cells, Pt.slots] at X4 l4 y4 z4 st4 hQ4
  subst l4 y4 z4
  obtain ⟨rfl, N4q, R5⟩ := hQ4
  have N4 := Fr.app N2 N4q
  obtain ⟨cq6, kq6, q6a, q6b, q6c⟩ := isOf hZ R5 E1
  obtain ⟨_, _, ⟨T6, L6, k6, n6⟩, -, X6, ⟨Lc6, hQ6, l6, y6, z6⟩, st6⟩ := X4.virtualBack hx (y := ym14) (z := ym14) hown (mw hZ hw 79 rfl) (mw hZ hw 80 rfl) (notFace_of_selects (args := #[]) (mw hZ hw 82 rfl)) (mw hZ hw 82 rfl) (mw hZ hw 81 rfl) (by decide) (backOf (W := 0) (rm14_0 l Z a0 hw a2 cs sv dg h0 n0 Z0 C1 hS HO) hZ (hw _ (wi 83 rfl)) (hw _ (wi 39 rfl)) (by decide) (by decide)) q6a q6c (g := (mkF m 16 #[sR a1, sR a2, .val .null, sR b, sI (Int32.ofNat ys.length)] [(.ref a2)])) rfl (by rw [hml]; rfl) (Steps.refl _) (argsL := []) (rest := []) (lenOf pd_15 rfl) rfl (Nat.le_refl _) (dt10 hby 9 rfl :) (fun _ _ => ⟨rfl, R5, (by decide : 0 + 0 ≤ _), (by decide : 0 + 0 ≤ _)⟩)
  dsimp only [Pt.U, Pt.locs, Pt.cells, Pt.slots] at X6 l6 y6 z6 st6 hQ6
  subst l6 y6 z6
  obtain ⟨rfl, N6q, R7⟩ := hQ6
  have N6 := Fr.app N4 N6q
  obtain ⟨T8, h8, X8, e8, W8, st8⟩ := putFN X6 hx hZ hown (hw _ (wi 31 rfl)) Via.refl R7 HF3 HE0 (Or.inr ⟨(hw _ (wi 9 rfl)), rfl, hnm⟩) (hw _ (wi 6 rfl)) (ty := .byte) (v' := (.int (0 : Int32))) (by decide) rfl (by decide) (g := (mkF m 24 #[sR a1, sR a2, .val .null, sR b, sI (Int32.ofNat ys.length)] [(.int (0 : Int32)), (.ref a1)])) rfl rfl (dt10 hby 13 rfl :)
  have Fw8 : fSc Z h8 a1 (.int (0 : Int32)) := HF3.same W8
  have F9 : eS Z h8 a1 := HE0.wr W8
  have F10 : fSv Z h8 a1 .null := HF2.other W8 (Or.inr (slot_ne (Or.inr (hw _ (wi 8 rfl))) (Or.inr (hw _ (wi 9 rfl))) (by decide) (t := (.array .byte)) (t' := .byte) (by decide) (by decide)))
  have F13 : eA Z h8 b := E2.wr W8
  have F18 : own_Af Z h8 b .byte (Int32.ofNat LL) f := A1.keep (Keep.of_wr W8) (ninS (Ne.symm n1b) nin0)
  have Z19 : n0 ≤ h8.size := Nat.le_trans Z0 (Keep.of_wr W8).1
  have K20 : Keep h0 h8 [a1] := (Keep.refl h0 [a1]).wr W8 (Or.inl (wi 0 rfl))
  have N21 := Fr.snoc X8 N6 Hg1
  obtain ⟨_, _, ⟨T24, L24, k24, n24⟩, -, X24, ⟨Lc24, hQ24, l24, y24, z24⟩, st24⟩ := Jvm.LawKit.callS X8 hx (y := ym15) hown (mw hZ hw 84 rfl) (mw hZ hw 85 rfl) (mw hZ hw 86 rfl) (mw hZ hw 87 rfl) (by decide) (backOf (W := 1) (rm15 l Z a0 hw b ys.length LL f h8 n0 Z19 F18 F13 (by omega) (by omega)) hZ (hw _ (wi 87 rfl)) (hw _ (wi 86 rfl)) (by decide) (by decide)) (g := (mkF m 32 #[sR a1, sR a2, .val .null, sR b, sI (Int32.ofNat ys.length)] [(.int (Int32.ofNat ys.length)), (.int (0 : Int32)), (.ref b), (.ref a1)])) rfl (by rw [hml]; rfl) (argsL := [(.ref b), (.int (0 : Int32)), (.int (Int32.ofNat ys.length))]) (rest := [(.ref a1)]) (lenOf pd_11 rfl) rfl (Nat.le_refl _) (dt10 hby 18 rfl :) (fun _ _ => ⟨rfl, e8, (by decide : 0 + 1 ≤ _), (by decide : 0 + 72 ≤ _)⟩)
  dsimp only [Pt.U, Pt.locs, Pt.cells, Pt.slots] at X24 l24 y24 z24 st24 hQ24
  subst l24 y24 z24
  obtain ⟨b225, g26, rfl, N24q, R27, R28, R29, R30, R31, R32⟩ := hQ24
  have N24 := Fr.app N21 N24q
  have F33 : eS Z T24.heap a1 := F9.keep R27
  have F34 : fSv Z T24.heap a1 .null := F10.keep R27 nin0
  have F43 : fSc Z T24.heap a1 (.int (0 : Int32)) := Fw8.keep R27 nin0
  have K45 : Keep h0 T24.heap [a1] := K20.trans R27 all0
  have ne46 : a1 ≠ b225 := Nat.ne_of_lt (Nat.lt_of_lt_of_le F9.lt R29)
  have sz_b225 : h0.size ≤ b225 := Nat.le_trans K20.1 R29
  obtain ⟨T49, h49, X49, e49, W49, st49⟩ := putF X24 hx hZ hown (host := "") (Or.inl (hw _ (wi 24 rfl))) Via.refl rfl F34 F33 (Or.inr ⟨(hw _ (wi 8 rfl)), rfl, hnm⟩) (hw _ (wi 6 rfl)) (ty := (.array .byte)) (by decide) rfl rfl (g := (mkF m 35 #[sR a1, sR a2, .val .null, sR b, sI (Int32.ofNat ys.length)] [(.ref b225), (.ref a1)])) rfl rfl (dt10 hby 19 rfl :)
  have Fw49 : fSv Z h49 a1 (.ref b225) := F34.same W49
  have F50 : eS Z h49 a1 := F33.wr W49
  have F59 : fSc Z h49 a1 (.int (0 : Int32)) := F43.other W49 (Or.inr (slot_ne (Or.inr (hw _ (wi 9 rfl))) (Or.inr (hw _ (wi 8 rfl))) (by decide) (t := .byte) (t' := (.array .byte)) (by decide) (by decide)))
  have F61 : own_Af Z h49 b225 .byte (Int32.ofNat ys.length) g26 := R31.keep (Keep.of_wr W49) (ninS (Ne.symm ne46) nin0)
  have K63 : Keep h0 h49 [a1] := K45.wr W49 (Or.inl (wi 0 rfl))
  have N64 := Fr.snoc X49 N24 Hg1
  have Sq : own_Str Z h49 a1 b225 ys := ⟨g26, F50, Fw49, by omega, Or.inl ⟨F59, F61, own_lat_cg r1 (Nat.le_refl _) R32⟩⟩
  refine own_fin X49 hlk (v := none) (fun _ => rfl) (by decide) (by decide) ?_ (fun fs hrt => pre0 _ ?_)
  ·
   show Q10 Z a1 a2 b ys cs sv dg h0 n0 _ T49.heap _
   rw [e49]
   exact ⟨b225, rfl, N64, K63, R28, sz_b225, Sq⟩
  refine qaN X0 hx (dt10 hby 0 rfl :) rfl rfl ?_
  refine st1 _ ?_
  refine qaN X1 hx (dt10 hby 2 rfl :) rfl rfl ?_
  refine st2.trans ?_
  refine qtN X2 hx (l' := #[sR a1, sR a2, .val .null, sR b, .unset]) (dt10 hby 4 rfl :) rfl rfl ?_
  refine qaN X2 hx (dt10 hby 5 rfl :) rfl rfl ?_
  refine st4.trans ?_
  refine qs X4 hx (l' := #[sR a1, sR a2, .val .null, sR b, sI (Int32.ofNat ys.length)]) (dt10 hby 7 rfl :) rfl ?_
  refine qaN X4 hx (dt10 hby 8 rfl :) rfl rfl ?_
  refine st6.trans ?_
  refine qfN X6 hx (dt10 hby 10 rfl :) ((if0 _ _).trans (feq (by decide : ¬ ((1 : Int32) = (0 : Int32)))).1) ?_
  refine qaN X6 hx (dt10 hby 11 rfl :) rfl rfl ?_
  refine qc X6 hx (0 : Int32) (dt10 hby 12 rfl :) rfl ?_
  refine st8 _ ?_
  refine qaN X8 hx (dt10 hby 14 rfl :) rfl rfl ?_
  refine qaN X8 hx (dt10 hby 15 rfl :) rfl rfl ?_
  refine qc X8 hx (0 : Int32) (dt10 hby 16 rfl :) rfl ?_
  refine qi X8 hx (dt10 hby 17 rfl :) rfl ?_
  refine st24 _ ?_
  refine st49 _ ?_
  refine qg X49 hx 38 97 (dt10 hby 20 rfl :) (by decide) (by decide) ?_
  exact X49.returnOut hx hR (dt10 hby 21 rfl :) hrt
 ·
  obtain ⟨T65, X65, e65, st65⟩ := initO X0 hx hZ hown (hw _ (wi 62 rfl)) (hw _ (wi 42 rfl)) (hw _ (wi 43 rfl)) e0 (g := (mkF m 1 #[sR a1, sR a2, .val .null, .unset, .unset] [(.ref a1)])) rfl (by rw [hml]; rfl) rfl (dt10 hby 1 rfl :) (by decide) (W := 0) (Nat.le_refl _) (by decide)
  obtain ⟨cq66, kq66, q66a, q66b, q66c⟩ := isOf hZ e65 E1
  obtain ⟨_, _, ⟨T66, L66, k66, n66⟩, -, X66, ⟨Lc66, hQ66, l66, y66, z66⟩, st66⟩ := X65.virtualBack hx (y := ym11) (z := ym11) hown (mw hZ hw 63 rfl) (mw hZ hw 64 rfl) (notFace_of_selects (args := #[]) (mw hZ hw 66 rfl)) (mw hZ hw 66 rfl) (mw hZ hw 65 rfl) (by decide) (backOf (W := 0) (rm11 l Z a0 hw a2 b h0 n0 Z0 V1) hZ (hw _ (wi 67 rfl)) (hw _ (wi 39 rfl)) (by decide) (by decide)) q66a q66c (g := (mkF m 5 #[sR a1, sR a2, .val .null, .unset, .unset] [(.ref a2)])) rfl (by rw [hml]; rfl) (Steps.refl _) (argsL := []) (rest := []) (lenOf pd_33 rfl) rfl (Nat.le_refl _) (dt10 hby 3 rfl :) (fun _ _ => ⟨rfl, e65, (by decide : 0 + 0 ≤ _), (by decide : 0 + 0 ≤ _)⟩)
  dsimp only [Pt.U, Pt.locs, Pt.cells, Pt.slots] at X66 l66 y66 z66 st66 hQ66
  subst l66 y66 z66
  obtain ⟨rfl, N66q, R67⟩ := hQ66
  have N66 := Fr.app N0 N66q
  obtain ⟨cq68, kq68, q68a, q68b, q68c⟩ := isOf hZ R67 E1
  obtain ⟨_, _, ⟨T68, L68, k68, n68⟩, -, X68, ⟨Lc68, hQ68, l68, y68, z68⟩, st68⟩ := X66.virtualBack hx (y := ym13) (z := ym12) hown (mw hZ hw 68 rfl) (mw hZ hw 69 rfl) (own_notFace (args := #[]) (x := ym11) rfl (mw hZ hw 66 rfl)) (mw hZ hw 71 rfl) (mw hZ hw 72 rfl) (by decide) (backOf (W := 0) (rm12 l Z a0 hw a2 ys.length h0 n0 Z0 E1 N1) hZ (hw _ (wi 73 rfl)) (hw _ (wi 18 rfl)) (by decide) (by decide)) q68a q68c (g := (mkF m 10 #[sR a1, sR a2, .val .null, sR b, .unset] [(.ref a2)])) rfl (by rw [hml]; rfl) (Steps.refl _) (argsL := []) (rest := []) (lenOf pd_28 rfl) rfl (Nat.le_refl _) (dt10 hby 6 rfl :) (fun _ _ => ⟨rfl, R67, (by decide : 0 + 0 ≤ _), (by decide : 0 + 0 ≤ _)⟩)
  dsimp only [Pt.U, Pt.locs, Pt.cells, Pt.slots] at X68 l68 y68 z68 st68 hQ68
  subst l68 y68 z68
  obtain ⟨rfl, N68q, R69⟩ := hQ68
  have N68 := Fr.app N66 N68q
  obtain ⟨cq70, kq70, q70a, q70b, q70c⟩ := isOf hZ R69 E1
  obtain ⟨_, _, ⟨T70, L70, k70, n70⟩, -, X70, ⟨Lc70, hQ70, l70, y70, z70⟩, st70⟩ := X68.virtualBack hx (y := ym14) (z := ym14) hown (mw hZ hw 79 rfl) (mw hZ hw 80 rfl) (notFace_of_selects (args := #[]) (mw hZ hw 82 rfl)) (mw hZ hw 82 rfl) (mw hZ hw 81 rfl) (by decide) (backOf (W := 0) (rm14_1 l Z a0 hw a2 cs sv dg h0 n0 Z0 C1 hS HO) hZ (hw _ (wi 83 rfl)) (hw _ (wi 39 rfl)) (by decide) (by decide)) q70a q70c (g := (mkF m 16 #[sR a1, sR a2, .val .null, sR b, sI (Int32.ofNat ys.length)] [(.ref a2)])) rfl (by rw [hml]; rfl) (Steps.refl _) (argsL := []) (rest := []) (lenOf pd_15 rfl) rfl (Nat.le_refl _) (dt10 hby 9 rfl :) (fun _ _ => ⟨rfl, R69, (by decide : 0 + 0 ≤ _), (by decide : 0 + 0 ≤ _)⟩)
  dsimp only [Pt.U, Pt.locs, Pt.cells, Pt.slots] at X70 l70 y70 z70 st70 hQ70
  subst l70 y70 z70
  obtain ⟨rfl, N70q, R71⟩ := hQ70
  have N70 := Fr.app N68 N70q
  have F72 : Sta Z h0 "java/lang/String" "COMPACT_STRINGS" "Z" (.int cs) := (hS.1.1).ext HO.2
  obtain ⟨T73, X73, e73, st73⟩ := getS2 X70 hx hZ hown (host := "") (Or.inl (hw _ (wi 30 rfl))) Via.refl R71 F72 (g := (mkF m 41 #[sR a1, sR a2, .val .null, sR b, sI (Int32.ofNat ys.length)] [])) rfl (dt10 hby 22 rfl :)
  have hc44_74 : ¬ (cs = (0 : Int32)) := hS.1.2
  obtain ⟨T75, X75, e75, st75⟩ := getF X73 hx hZ hown (host := "") (Or.inl (hw _ (wi 223 rfl))) Via.refl e73 M1 (g := (mkF m 48 #[sR a1, sR a2, .val .null, sR b, sI (Int32.ofNat ys.length)] [(.ref a2)])) rfl rfl (dt10 hby 25 rfl :)
  obtain ⟨T76, h76, X76, e76, W76, st76⟩ := putFN X75 hx hZ hown (hw _ (wi 31 rfl)) Via.refl e75 HF3 HE0 (Or.inr ⟨(hw _ (wi 9 rfl)), rfl, hnm⟩) (hw _ (wi 6 rfl)) (ty := .byte) (v' := (.int (1 : Int32))) (by decide) rfl (by decide) (g := (mkF m 81 #[sR a1, sR a2, .val .null, sR b, sI (Int32.ofNat ys.length)] [(.int (1 : Int32)), (.ref a1)])) rfl rfl (dt10 hby 29 rfl :)
  have Fw76 : fSc Z h76 a1 (.int (1 : Int32)) := HF3.same W76
  have F77 : eS Z h76 a1 := HE0.wr W76
  have F78 : fSv Z h76 a1 .null := HF2.other W76 (Or.inr (slot_ne (Or.inr (hw _ (wi 8 rfl))) (Or.inr (hw _ (wi 9 rfl))) (by decide) (t := (.array .byte)) (t' := .byte) (by decide) (by decide)))
  have F81 : eA Z h76 b := E2.wr W76
  have F86 : own_Af Z h76 b .byte (Int32.ofNat (2 * LL)) f := A1.keep (Keep.of_wr W76) (ninS (Ne.symm n1b) nin0)
  have Z87 : n0 ≤ h76.size := Nat.le_trans Z0 (Keep.of_wr W76).1
  have K88 : Keep h0 h76 [a1] := (Keep.refl h0 [a1]).wr W76 (Or.inl (wi 0 rfl))
  have N89 := Fr.snoc X76 N70 Hg1
  obtain ⟨_, _, ⟨T92, L92, k92, n92⟩, -, X92, ⟨Lc92, hQ92, l92, y92, z92⟩, st92⟩ := Jvm.LawKit.callS X76 hx (y := ym15) hown (mw hZ hw 84 rfl) (mw hZ hw 85 rfl) (mw hZ hw 86 rfl) (mw hZ hw 87 rfl) (by decide) (backOf (W := 1) (rm15 l Z a0 hw b (2 * ys.length) (2 * LL) f h76 n0 Z87 F86 F81 (by omega) (by omega)) hZ (hw _ (wi 87 rfl)) (hw _ (wi 86 rfl)) (by decide) (by decide)) (g := (mkF m 91 #[sR a1, sR a2, .val .null, sR b, sI (Int32.ofNat ys.length)] [(.int (Int32.ofNat (2 * ys.length))), (.int (0 : Int32)), (.ref b), (.ref a1)])) rfl (by rw [hml]; rfl) (argsL := [(.ref b), (.int (0 : Int32)), (.int (Int32.ofNat (2 * ys.length)))]) (rest := [(.ref a1)]) (lenOf pd_11 rfl) rfl (Nat.le_refl _) (dt10 hby 36 rfl :) (fun _ _ => ⟨rfl, e76, (by decide : 0 + 1 ≤ _), (by decide : 0 + 72 ≤ _)⟩)
  dsimp only [Pt.U, Pt.locs, Pt.cells, Pt.slots] at X92 l92 y92 z92 st92 hQ92
  subst l92 y92 z92
  obtain ⟨b293, g94, rfl, N92q, R95, R96, R97, R98, R99, R100⟩ := hQ92
  have N92 := Fr.app N89 N92q
  have F101 : eS Z T92.heap a1 := F77.keep R95
  have F102 : fSv Z T92.heap a1 .null := F78.keep R95 nin0
  have F111 : fSc Z T92.heap a1 (.int (1 : Int32)) := Fw76.keep R95 nin0
  have K113 : Keep h0 T92.heap [a1] := K88.trans R95 all0
  have ne114 : a1 ≠ b293 := Nat.ne_of_lt (Nat.lt_of_lt_of_le F77.lt R97)
  have sz_b293 : h0.size ≤ b293 := Nat.le_trans K88.1 R97
  obtain ⟨T117, h117, X117, e117, W117, st117⟩ := putF X92 hx hZ hown (host := "") (Or.inl (hw _ (wi 24 rfl))) Via.refl rfl F102 F101 (Or.inr ⟨(hw _ (wi 8 rfl)), rfl, hnm⟩) (hw _ (wi 6 rfl)) (ty := (.array .byte)) (by decide) rfl rfl (g := (mkF m 94 #[sR a1, sR a2, .val .null, sR b, sI (Int32.ofNat ys.length)] [(.ref b293), (.ref a1)])) rfl rfl (dt10 hby 37 rfl :)
  have Fw117 : fSv Z h117 a1 (.ref b293) := F102.same W117
  have F118 : eS Z h117 a1 := F101.wr W117
  have F127 : fSc Z h117 a1 (.int (1 : Int32)) := F111.other W117 (Or.inr (slot_ne (Or.inr (hw _ (wi 9 rfl))) (Or.inr (hw _ (wi 8 rfl))) (by decide) (t := .byte) (t' := (.array .byte)) (by decide) (by decide)))
  have F129 : own_Af Z h117 b293 .byte (Int32.ofNat (2 * ys.length)) g94 := R99.keep (Keep.of_wr W117) (ninS (Ne.symm ne114) nin0)
  have K131 : Keep h0 h117 [a1] := K113.wr W117 (Or.inl (wi 0 rfl))
  have N132 := Fr.snoc X117 N92 Hg1
  have Sq : own_Str Z h117 a1 b293 ys := ⟨g94, F118, Fw117, by omega, Or.inr ⟨F127, F129, own_utf_cg r1 (Nat.le_refl _) R100⟩⟩
  refine own_fin X117 hlk (v := none) (fun _ => rfl) (by decide) (by decide) ?_ (fun fs hrt => pre0 _ ?_)
  ·
   show Q10 Z a1 a2 b ys cs sv dg h0 n0 _ T117.heap _
   rw [e117]
   exact ⟨b293, rfl, N132, K131, R96, sz_b293, Sq⟩
  refine qaN X0 hx (dt10 hby 0 rfl :) rfl rfl ?_
  refine st65 _ ?_
  refine qaN X65 hx (dt10 hby 2 rfl :) rfl rfl ?_
  refine st66.trans ?_
  refine qtN X66 hx (l' := #[sR a1, sR a2, .val .null, sR b, .unset]) (dt10 hby 4 rfl :) rfl rfl ?_
  refine qaN X66 hx (dt10 hby 5 rfl :) rfl rfl ?_
  refine st68.trans ?_
  refine qs X68 hx (l' := #[sR a1, sR a2, .val .null, sR b, sI (Int32.ofNat ys.length)]) (dt10 hby 7 rfl :) rfl ?_
  refine qaN X68 hx (dt10 hby 8 rfl :) rfl rfl ?_
  refine st70.trans ?_
  refine qfY X70 hx 19 41 (dt10 hby 10 rfl :) ((if0 _ _).trans (teq (by decide : (0 : Int32) = (0 : Int32))).1) (by decide) (by decide) ?_
  refine st73 _ ?_
  refine qfN X73 hx (dt10 hby 23 rfl :) ((if0 _ _).trans (feq hc44_74).1) ?_
  refine qaN X73 hx (dt10 hby 24 rfl :) rfl rfl ?_
  refine st75 _ ?_
  refine qfY X75 hx 51 79 (dt10 hby 26 rfl :) ((if0 _ _).trans (teq (by decide : (0 : Int32) = (0 : Int32))).1) (by decide) (by decide) ?_
  refine qaN X75 hx (dt10 hby 27 rfl :) rfl rfl ?_
  refine qc X75 hx (1 : Int32) (dt10 hby 28 rfl :) rfl ?_
  refine st76 _ ?_
  refine qaN X76 hx (dt10 hby 30 rfl :) rfl rfl ?_
  refine qaN X76 hx (dt10 hby 31 rfl :) rfl rfl ?_
  refine qc X76 hx (0 : Int32) (dt10 hby 32 rfl :) rfl ?_
  refine qi X76 hx (dt10 hby 33 rfl :) rfl ?_
  refine qc X76 hx (1 : Int32) (dt10 hby 34 rfl :) rfl ?_
  refine XS.ishl X76.here hx rfl (dt10 hby 35 rfl :) rfl ?_
  rw [show ((Int32.ofNat ys.length) <<< ((1 : Int32) &&& 31)) = (Int32.ofNat (2 * ys.length)) from own_shl1 (by omega)]
  refine st92 _ ?_
  refine st117 _ ?_
  exact X117.returnOut hx hR (dt10 hby 21 rfl :) hrt
theorem pd_34 : parseMethodDescriptor "(Ljava/lang/AbstractStringBuilder;Ljava/lang/Void;)V" = some ⟨[(.object "java/lang/AbstractStringBuilder"), (.object "java/lang/Void")], none⟩ := by decide +kernel
def Q9 (Z : State) (a1 a2 b : Addr) (ys : List Int32) (cs : Int32) (sv : Value) (dg : Addr) (h0 : Heap) (n0 : Nat) (v : Option Value) (h : Heap) (L : List Loc) : Prop := ∃ (b2 : Addr), v = none ∧ Fr n0 L ∧ Keep h0 h [a1] ∧ n0 ≤ b2 ∧ h0.size ≤ b2 ∧ own_Str Z h a1 b2 ys
theorem rm9 (l : Launch) (Z : State) (a0 : Array Value) (hw : own_hw a0 Z) (a1 a2 b : Addr) (ys : List Int32) (cs : Int32) (sv : Value) (dg : Addr) (h0 : Heap) (n0 : Nat) (Z0 : n0 ≤ h0.size) (HE0 : eS Z h0 a1) (Hg1 : n0 ≤ a1) (HF2 : fSv Z h0 a1 .null) (HF3 : fSc Z h0 a1 (.int (0 : Int32))) (HU4 : own_Sb Z h0 a2 b ys) (hS : (own_ST Z cs sv dg)) (HO : Old Z n0 h0) :
 own_M l ym9 [Jvm.Cond.code ym9 cm9 2 none] (⟨4, 1, 72, 87⟩ : Room) #[(.ref a1), (.ref a2)] Z h0 (Q9 Z a1 a2 b ys cs sv dg h0 n0) := by
 refine own_go n0 (F := fun m => mkF m 0 #[sR a1, sR a2] []) (plainFor_of_name pn_4) (fun m => rfl) ?_
 intro p e s m below meth c sq Pq hR hx hby hml hown hnm hZ hh hlk X0 e0 N0 pre0
 have n12 : a1 ≠ a2 := HE0.ne HU4.exa (by decide)
 have n1b : a1 ≠ b := HE0.ne HU4.exb (by decide)
 obtain ⟨_, _, ⟨T1, L1, k1, n1⟩, -, X1, ⟨Lc1, hQ1, l1, y1, z1⟩, st1⟩ := X0.specialBack hx (y := ym10) rfl hown (mw hZ hw 59 rfl) (mw hZ hw 60 rfl) (mw hZ hw 61 rfl) (by decide) (backOf (W := 0) (rm10 l Z a0 hw a1 a2 b ys cs sv dg h0 n0 Z0 HE0 Hg1 HF2 HF3 HU4 hS HO) hZ (hw _ (wi 61 rfl)) (hw _ (wi 5 rfl)) (by decide) (by decide)) (g := (mkF m 3 #[sR a1, sR a2] [.null, (.ref a2), (.ref a1)])) rfl (by rw [hml]; rfl) (Steps.refl _) (a := a1) (argsL := [(.ref a2), .null]) (rest := []) (lenOf pd_34 rfl) rfl (Nat.le_refl _) (dt9 hby 3 rfl :) (fun _ _ => ⟨rfl, e0, (by decide : 0 + 1 ≤ _), (by decide : 0 + 72 ≤ _)⟩)
 dsimp only [Pt.U, Pt.locs, Pt.cells, Pt.slots] at X1 l1 y1 z1 st1 hQ1
 subst l1 y1 z1
 obtain ⟨b22, rfl, N1q, R3, R4, R5, R6⟩ := hQ1
 have N1 := Fr.app N0 N1q
 have K11 : Keep h0 T1.heap [a1] := (Keep.refl h0 [a1]).trans R3 (allS (Or.inl (wi 0 rfl)) all0)
 have sz_b22 : h0.size ≤ b22 := Nat.le_trans (Keep.refl h0 [a1]).1 R5
 refine own_fin X1 hlk (v := none) (fun _ => rfl) (by decide) (by decide) ?_ (fun fs hrt => pre0 _ ?_)
 ·
  show Q9 Z a1 a2 b ys cs sv dg h0 n0 _ T1.heap _
  exact ⟨b22, rfl, N1, K11, R4, sz_b22, R6⟩
 refine qaN X0 hx (dt9 hby 0 rfl :) rfl rfl ?_
 refine qaN X0 hx (dt9 hby 1 rfl :) rfl rfl ?_
 refine XS.aconstNull X0.here hx rfl (dt9 hby 2 rfl :) ?_
 refine st1.trans ?_
 exact X1.returnOut hx hR (dt9 hby 4 rfl :) hrt
theorem pd_35 : parseMethodDescriptor "(Ljava/lang/StringBuilder;)V" = some ⟨[(.object "java/lang/StringBuilder")], none⟩ := by decide +kernel
def Q8 (Z : State) (a1 b : Addr) (ys : List Int32) (cs : Int32) (sv : Value) (dg : Addr) (h0 : Heap) (n0 : Nat) (v : Option Value) (h : Heap) (L : List Loc) : Prop := ∃ (a2 : Addr) (b2 : Addr), v = some (.ref a2) ∧ Fr n0 L ∧ Keep h0 h [] ∧ n0 ≤ a2 ∧ h0.size ≤ a2 ∧ n0 ≤ b2 ∧ h0.size ≤ b2 ∧ own_Str Z h a2 b2 ys
theorem rm8 (l : Launch) (Z : State) (a0 : Array Value) (hw : own_hw a0 Z) (a1 b : Addr) (ys : List Int32) (cs : Int32) (sv : Value) (dg : Addr) (h0 : Heap) (n0 : Nat) (Z0 : n0 ≤ h0.size) (HU0 : own_Sb Z h0 a1 b ys) (hS : (own_ST Z cs sv dg)) (HO : Old Z n0 h0) :
 own_M l ym8 [Jvm.Cond.code ym8 cm8 1 (some (.object "java/lang/String"))] (⟨5, 2, 76, 101⟩ : Room) #[(.ref a1)] Z h0 (Q8 Z a1 b ys cs sv dg h0 n0) := by
 refine own_go n0 (F := fun m => mkF m 0 #[sR a1] []) (plainFor_of_name pn_8) (fun m => rfl) ?_
 intro p e s m below meth c sq Pq hR hx hby hml hown hnm hZ hh hlk X0 e0 N0 pre0
 obtain ⟨T1, h1, X1, e1, E1, A1, D1, -, st1⟩ := newO X0 hx hZ hown (hw _ (wi 54 rfl)) (hw _ (wi 6 rfl)) (hw _ (wi 5 rfl)) e0 (g := (mkF m 0 #[sR a1] [])) rfl (dt8 hby 0 rfl :) (by decide) (by decide)
 obtain ⟨b1, g1⟩ : ∃ z, z = h0.size := ⟨_, rfl⟩
 rw [← g1] at A1 D1 st1
 have g_b1 : n0 ≤ b1 := Nat.le_trans Z0 (Nat.le_of_eq g1.symm)
 have sz_b1 : h0.size ≤ b1 := Nat.le_trans (Keep.refl h0 []).1 (Nat.le_of_eq g1.symm)
 have F4 : own_Sb Z h1 a1 b ys := HU0.ext E1
 have F5 : Old Z n0 h1 := HO.ext E1
 have Z6 : n0 ≤ h1.size := Nat.le_trans Z0 E1.1
 have K7 : Keep h0 h1 [] := (Keep.refl h0 []).ext E1
 have F8 : fSv Z h1 b1 .null := D1 (Or.inr (hw _ (wi 8 rfl))) (ty := (.array .byte)) (by decide)
 have F9 : fSc Z h1 b1 (.int (0 : Int32)) := D1 (Or.inr (hw _ (wi 9 rfl))) (ty := .byte) (by decide)
 obtain ⟨_, _, ⟨T10, L10, k10, n10⟩, -, X10, ⟨Lc10, hQ10, l10, y10, z10⟩, st10⟩ := X1.specialBack hx (y := ym9) rfl hown (mw hZ hw 55 rfl) (mw hZ hw 56 rfl) (mw hZ hw 58 rfl) (by decide) (backOf (W := 1) (rm9 l Z a0 hw b1 a1 b ys cs sv dg h1 n0 Z6 A1 g_b1 F8 F9 F4 hS F5) hZ (hw _ (wi 58 rfl)) (hw _ (wi 5 rfl)) (by decide) (by decide)) (g := (mkF m 5 #[sR a1] [(.ref a1), (.ref b1), (.ref b1)])) rfl (by rw [hml]; rfl) (Steps.refl _) (a := b1) (argsL := [(.ref a1)]) (rest := [(.ref b1)]) (lenOf pd_35 rfl) rfl (Nat.le_refl _) (dt8 hby 3 rfl :) (fun _ _ => ⟨rfl, e1, (by decide : 1 + 1 ≤ _), (by decide : 4 + 72 ≤ _)⟩)
 dsimp only [Pt.U, Pt.locs, Pt.cells, Pt.slots] at X10 l10 y10 z10 st10 hQ10
 subst l10 y10 z10
 obtain ⟨b211, rfl, N10q, R12, R13, R14, R15⟩ := hQ10
 have N10 := Fr.app N0 N10q
 have K20 : Keep h0 T10.heap [] := K7.trans R12 (allS (Or.inr sz_b1) all0)
 have sz_b211 : h0.size ≤ b211 := Nat.le_trans K7.1 R14
 refine own_fin X10 hlk (v := some (.ref b1)) (own_nv hR) (by decide) (by decide) ?_ (fun fs hrt => pre0 _ ?_)
 ·
  show Q8 Z a1 b ys cs sv dg h0 n0 _ T10.heap _
  exact ⟨b1, b211, rfl, N10, K20, g_b1, sz_b1, R13, sz_b211, R15⟩
 refine st1 _ ?_
 refine XS.dup X1.here hx rfl (dt8 hby 1 rfl :) rfl rfl ?_
 refine qaN X1 hx (dt8 hby 2 rfl :) rfl rfl ?_
 refine st10.trans ?_
 exact retOut X10 hx hR rfl (Or.inr (Or.inr (Or.inr (Or.inr ⟨rfl, rfl, rfl⟩)))) (dt8 hby 4 rfl :) hrt
def Q3_s (Z : State) (a1 b : Addr) (zs : List Int32) (cs : Int32) (sv : Value) (dg : Addr) (h0 : Heap) (n0 : Nat) (v : Option Value) (h : Heap) (L : List Loc) : Prop := v = some (.int (Int32.ofNat zs.length)) ∧ Fr n0 L ∧ h = h0
theorem rm3_s (l : Launch) (Z : State) (a0 : Array Value) (hw : own_hw a0 Z) (a1 b : Addr) (zs : List Int32) (cs : Int32) (sv : Value) (dg : Addr) (h0 : Heap) (n0 : Nat) (Z0 : n0 ≤ h0.size) (HU0 : own_Str Z h0 a1 b zs) (hS : (own_ST Z cs sv dg)) (HO : Old Z n0 h0) :
 own_M l ym3 [Jvm.Cond.code ym3 cm3 1 (some .int)] (⟨1, 0, 0, 13⟩ : Room) #[(.ref a1)] Z h0 (Q3_s Z a1 b zs cs sv dg h0 n0) := by
 refine own_go n0 (F := fun m => mkF m 0 #[sR a1] []) (plainFor_of_name pn_4) (fun m => rfl) ?_
 intro p e s m below meth c sq Pq hR hx hby hml hown hnm hZ hh hlk X0 e0 N0 pre0
 obtain ⟨f, E1, V1, l1, (⟨C1, A1, r1⟩ | ⟨C1, A1, r1⟩)⟩ := HU0
 ·
  obtain ⟨T1, X1, e1, st1⟩ := getF X0 hx hZ hown (host := "") (Or.inl (hw _ (wi 24 rfl))) Via.refl e0 V1 (g := (mkF m 1 #[sR a1] [(.ref a1)])) rfl rfl (dt3 hby 1 rfl :)
  obtain ⟨co2, Ao2, So2, Mo2, Bo2, Go2⟩ := A1.op
  obtain ⟨cq3, kq3, q3a, q3b, q3c⟩ := isOf hZ e1 E1
  obtain ⟨_, _, ⟨T3, L3, k3, n3⟩, -, X3, ⟨Lc3, hQ3, l3, y3, z3⟩, st3⟩ := X1.virtualBack hx (y := ym4) (z := ym4) hown (mw hZ hw 25 rfl) (mw hZ hw 26 rfl) (notFace_of_selects (args := #[]) (mw hZ hw 28 rfl)) (mw hZ hw 28 rfl) (mw hZ hw 27 rfl) (by decide) (backOf (W := 1) (rm4_0 l Z a0 hw a1 cs sv dg h0 n0 Z0 C1 hS HO) hZ (hw _ (wi 29 rfl)) (hw _ (wi 5 rfl)) (by decide) (by decide)) q3a q3c (g := (mkF m 6 #[sR a1] [(.ref a1), (.int (Int32.ofNat zs.length))])) rfl (by rw [hml]; rfl) (Steps.refl _) (argsL := []) (rest := [(.int (Int32.ofNat zs.length))]) (lenOf pd_14 rfl) rfl (Nat.le_refl _) (dt3 hby 4 rfl :) (fun _ _ => ⟨rfl, e1, (by decide : 0 + 0 ≤ _), (by decide : 0 + 0 ≤ _)⟩)
  dsimp only [Pt.U, Pt.locs, Pt.cells, Pt.slots] at X3 l3 y3 z3 st3 hQ3
  subst l3 y3 z3
  obtain ⟨rfl, N3q, R4⟩ := hQ3
  have N3 := Fr.app N0 N3q
  refine own_fin X3 hlk (v := some (.int (Int32.ofNat zs.length))) (own_nv hR) (by decide) (by decide) ?_ (fun fs hrt => pre0 _ ?_)
  ·
   show Q3_s Z a1 b zs cs sv dg h0 n0 _ T3.heap _
   rw [R4]
   exact ⟨rfl, N3, rfl⟩
  refine qaN X0 hx (dt3 hby 0 rfl :) rfl rfl ?_
  refine st1 _ ?_
  refine X1.arraylength hx (by rw [e1]; exact Ao2.1) (State.isArrayOf_alike hZ.alike Ao2.2.1) (g := (mkF m 4 #[sR a1] [(.ref b)])) rfl rfl (dt3 hby 2 rfl :) _ ?_
  rw [len_of So2 Mo2]
  refine qaN X1 hx (dt3 hby 3 rfl :) rfl rfl ?_
  refine st3.trans ?_
  refine XS.ishr X3.here hx rfl (dt3 hby 5 rfl :) rfl ?_
  rw [show ((Int32.ofNat zs.length) >>> ((0 : Int32) &&& 31)) = (Int32.ofNat zs.length) from own_shr0 _]
  exact retI X3 hx hR (dt3 hby 6 rfl :) hrt
 ·
  obtain ⟨T5, X5, e5, st5⟩ := getF X0 hx hZ hown (host := "") (Or.inl (hw _ (wi 24 rfl))) Via.refl e0 V1 (g := (mkF m 1 #[sR a1] [(.ref a1)])) rfl rfl (dt3 hby 1 rfl :)
  obtain ⟨co6, Ao6, So6, Mo6, Bo6, Go6⟩ := A1.op
  obtain ⟨cq7, kq7, q7a, q7b, q7c⟩ := isOf hZ e5 E1
  obtain ⟨_, _, ⟨T7, L7, k7, n7⟩, -, X7, ⟨Lc7, hQ7, l7, y7, z7⟩, st7⟩ := X5.virtualBack hx (y := ym4) (z := ym4) hown (mw hZ hw 25 rfl) (mw hZ hw 26 rfl) (notFace_of_selects (args := #[]) (mw hZ hw 28 rfl)) (mw hZ hw 28 rfl) (mw hZ hw 27 rfl) (by decide) (backOf (W := 1) (rm4_1 l Z a0 hw a1 cs sv dg h0 n0 Z0 C1 hS HO) hZ (hw _ (wi 29 rfl)) (hw _ (wi 5 rfl)) (by decide) (by decide)) q7a q7c (g := (mkF m 6 #[sR a1] [(.ref a1), (.int (Int32.ofNat (2 * zs.length)))])) rfl (by rw [hml]; rfl) (Steps.refl _) (argsL := []) (rest := [(.int (Int32.ofNat (2 * zs.length)))]) (lenOf pd_14 rfl) rfl (Nat.le_refl _) (dt3 hby 4 rfl :) (fun _ _ => ⟨rfl, e5, (by decide : 0 + 0 ≤ _), (by decide : 0 + 0 ≤ _)⟩)
  dsimp only [Pt.U, Pt.locs, Pt.cells, Pt.slots] at X7 l7 y7 z7 st7 hQ7
  subst l7 y7 z7
  obtain ⟨rfl, N7q, R8⟩ := hQ7
  have N7 := Fr.app N0 N7q
  refine own_fin X7 hlk (v := some (.int (Int32.ofNat zs.length))) (own_nv hR) (by decide) (by decide) ?_ (fun fs hrt => pre0 _ ?_)
  ·
   show Q3_s Z a1 b zs cs sv dg h0 n0 _ T7.heap _
   rw [R8]
   exact ⟨rfl, N7, rfl⟩
  refine qaN X0 hx (dt3 hby 0 rfl :) rfl rfl ?_
  refine st5 _ ?_
  refine X5.arraylength hx (by rw [e5]; exact Ao6.1) (State.isArrayOf_alike hZ.alike Ao6.2.1) (g := (mkF m 4 #[sR a1] [(.ref b)])) rfl rfl (dt3 hby 2 rfl :) _ ?_
  rw [len_of So6 Mo6]
  refine qaN X5 hx (dt3 hby 3 rfl :) rfl rfl ?_
  refine st7.trans ?_
  refine XS.ishr X7.here hx rfl (dt3 hby 5 rfl :) rfl ?_
  rw [show ((Int32.ofNat (2 * zs.length)) >>> ((1 : Int32) &&& 31)) = (Int32.ofNat zs.length) from own_shr1 (by omega)]
  exact retI X7 hx hR (dt3 hby 6 rfl :) hrt
def Q21_s (Z : State) (a1 : Addr) (i : Nat) (b : Addr) (zs : List Int32) (cs : Int32) (sv : Value) (dg : Addr) (h0 : Heap) (n0 : Nat) (v : Option Value) (h : Heap) (L : List Loc) : Prop := v = some (.int (zs.getD i 0)) ∧ Fr n0 L ∧ h = h0
theorem rm21_s (l : Launch) (Z : State) (a0 : Array Value) (hw : own_hw a0 Z) (a1 : Addr) (i : Nat) (b : Addr) (zs : List Int32) (cs : Int32) (sv : Value) (dg : Addr) (h0 : Heap) (n0 : Nat) (Z0 : n0 ≤ h0.size) (HU0 : own_Str Z h0 a1 b zs) (h1 : (i < zs.length)) (hS : (own_ST Z cs sv dg)) (HO : Old Z n0 h0) :
 own_M l ym21 [Jvm.Cond.code ym21 cm21 2 (some .char)] (⟨4, 0, 0, 53⟩ : Room) #[(.ref a1), (.int (Int32.ofNat i))] Z h0 (Q21_s Z a1 i b zs cs sv dg h0 n0) := by
 refine own_go n0 (F := fun m => mkF m 0 #[sR a1, sI (Int32.ofNat i)] []) (plainFor_of_name pn_4) (fun m => rfl) ?_
 intro p e s m below meth c sq Pq hR hx hby hml hown hnm hZ hh hlk X0 e0 N0 pre0
 obtain ⟨f, E1, V1, l1, (⟨C1, A1, r1⟩ | ⟨C1, A1, r1⟩)⟩ := HU0
 ·
  obtain ⟨hq1, hq2⟩ := r1 i h1
  obtain ⟨cq1, kq1, q1a, q1b, q1c⟩ := isOf hZ e0 E1
  obtain ⟨_, _, ⟨T1, L1, k1, n1⟩, -, X1, ⟨Lc1, hQ1, l1, y1, z1⟩, st1⟩ := X0.virtualBack hx (y := ym22) (z := ym22) hown (mw hZ hw 121 rfl) (mw hZ hw 122 rfl) (notFace_of_selects (args := #[]) (mw hZ hw 124 rfl)) (mw hZ hw 124 rfl) (mw hZ hw 123 rfl) (by decide) (backOf (W := 0) (rm22_0 l Z a0 hw a1 cs sv dg h0 n0 Z0 C1 hS HO) hZ (hw _ (wi 125 rfl)) (hw _ (wi 5 rfl)) (by decide) (by decide)) q1a q1c (g := (mkF m 1 #[sR a1, sI (Int32.ofNat i)] [(.ref a1)])) rfl (by rw [hml]; rfl) (Steps.refl _) (argsL := []) (rest := []) (lenOf pd_15 rfl) rfl (Nat.le_refl _) (dt21 hby 1 rfl :) (fun _ _ => ⟨rfl, e0, (by decide : 0 + 0 ≤ _), (by decide : 0 + 0 ≤ _)⟩)
  dsimp only [Pt.U, Pt.locs, Pt.cells, Pt.slots] at X1 l1 y1 z1 st1 hQ1
  subst l1 y1 z1
  obtain ⟨rfl, N1q, R2⟩ := hQ1
  have N1 := Fr.app N0 N1q
  obtain ⟨T3, X3, e3, st3⟩ := getF X1 hx hZ hown (host := "") (Or.inl (hw _ (wi 24 rfl))) Via.refl R2 V1 (g := (mkF m 8 #[sR a1, sI (Int32.ofNat i)] [(.ref a1)])) rfl rfl (dt21 hby 4 rfl :)
  obtain ⟨_, _, ⟨T9, L9, k9, n9⟩, -, X9, ⟨Lc9, hQ9, l9, y9, z9⟩, st9⟩ := Jvm.LawKit.callS X3 hx (y := ym23) hown (mw hZ hw 126 rfl) (mw hZ hw 127 rfl) (mw hZ hw 128 rfl) (mw hZ hw 129 rfl) (by decide) (backOf (W := 0) (rm23 l Z a0 hw b i zs.length f (zs.getD i 0) cs sv dg h0 n0 Z0 A1 (by omega) (by omega) hq1.1 hq1.2 hq2 hS HO) hZ (hw _ (wi 129 rfl)) (hw _ (wi 128 rfl)) (by decide) (by decide)) (g := (mkF m 12 #[sR a1, sI (Int32.ofNat i)] [(.int (Int32.ofNat i)), (.ref b)])) rfl (by rw [hml]; rfl) (argsL := [(.ref b), (.int (Int32.ofNat i))]) (rest := []) (lenOf pd_8 rfl) rfl (Nat.le_refl _) (dt21 hby 6 rfl :) (fun _ _ => ⟨rfl, e3, (by decide : 0 + 0 ≤ _), (by decide : 0 + 0 ≤ _)⟩)
  dsimp only [Pt.U, Pt.locs, Pt.cells, Pt.slots] at X9 l9 y9 z9 st9 hQ9
  subst l9 y9 z9
  obtain ⟨rfl, N9q, R10⟩ := hQ9
  have N9 := Fr.app N1 N9q
  have hn := own_nc (zs.getD i 0) ⟨hq1.1, by omega⟩
  refine own_fin X9 hlk (v := some (.int (nar .char (zs.getD i 0)))) (own_nv hR) (by decide) (by decide) ?_ (fun fs hrt => pre0 _ ?_)
  ·
   show Q21_s Z a1 i b zs cs sv dg h0 n0 _ T9.heap _
   rw [hn]
   rw [R10]
   exact ⟨rfl, N9, rfl⟩
  refine qaN X0 hx (dt21 hby 0 rfl :) rfl rfl ?_
  refine st1.trans ?_
  refine qfN X1 hx (dt21 hby 2 rfl :) ((if0 _ _).trans (feq (by decide : ¬ ((1 : Int32) = (0 : Int32)))).1) ?_
  refine qaN X1 hx (dt21 hby 3 rfl :) rfl rfl ?_
  refine st3 _ ?_
  refine qiN X3 hx (dt21 hby 5 rfl :) rfl ?_
  refine st9 _ ?_
  exact retN X9 hx (t := .char) hR (by simp) (dt21 hby 7 rfl :) hrt
 ·
  obtain ⟨hq1, hq2⟩ := r1 i h1
  obtain ⟨cq11, kq11, q11a, q11b, q11c⟩ := isOf hZ e0 E1
  obtain ⟨_, _, ⟨T11, L11, k11, n11⟩, -, X11, ⟨Lc11, hQ11, l11, y11, z11⟩, st11⟩ := X0.virtualBack hx (y := ym22) (z := ym22) hown (mw hZ hw 121 rfl) (mw hZ hw 122 rfl) (notFace_of_selects (args := #[]) (mw hZ hw 124 rfl)) (mw hZ hw 124 rfl) (mw hZ hw 123 rfl) (by decide) (backOf (W := 0) (rm22_1 l Z a0 hw a1 cs sv dg h0 n0 Z0 C1 hS HO) hZ (hw _ (wi 125 rfl)) (hw _ (wi 5 rfl)) (by decide) (by decide)) q11a q11c (g := (mkF m 1 #[sR a1, sI (Int32.ofNat i)] [(.ref a1)])) rfl (by rw [hml]; rfl) (Steps.refl _) (argsL := []) (rest := []) (lenOf pd_15 rfl) rfl (Nat.le_refl _) (dt21 hby 1 rfl :) (fun _ _ => ⟨rfl, e0, (by decide : 0 + 0 ≤ _), (by decide : 0 + 0 ≤ _)⟩)
  dsimp only [Pt.U, Pt.locs, Pt.cells, Pt.slots] at X11 l11 y11 z11 st11 hQ11
  subst l11 y11 z11
  obtain ⟨rfl, N11q, R12⟩ := hQ11
  have N11 := Fr.app N0 N11q
  obtain ⟨T13, X13, e13, st13⟩ := getF X11 hx hZ hown (host := "") (Or.inl (hw _ (wi 24 rfl))) Via.refl R12 V1 (g := (mkF m 17 #[sR a1, sI (Int32.ofNat i)] [(.ref a1)])) rfl rfl (dt21 hby 9 rfl :)
  obtain ⟨_, _, ⟨T19, L19, k19, n19⟩, -, X19, ⟨Lc19, hQ19, l19, y19, z19⟩, st19⟩ := Jvm.LawKit.callS X13 hx (y := ym39) hown (mw hZ hw 189 rfl) (mw hZ hw 190 rfl) (mw hZ hw 108 rfl) (mw hZ hw 191 rfl) (by decide) (backOf (W := 0) (rm39 l Z a0 hw b i zs.length f (zs.getD i 0) cs sv dg h0 n0 Z0 A1 (by omega) (by omega) hq1 hq2.1 hq2.2 hS HO) hZ (hw _ (wi 191 rfl)) (hw _ (wi 108 rfl)) (by decide) (by decide)) (g := (mkF m 21 #[sR a1, sI (Int32.ofNat i)] [(.int (Int32.ofNat i)), (.ref b)])) rfl (by rw [hml]; rfl) (argsL := [(.ref b), (.int (Int32.ofNat i))]) (rest := []) (lenOf pd_8 rfl) rfl (Nat.le_refl _) (dt21 hby 11 rfl :) (fun _ _ => ⟨rfl, e13, (by decide : 0 + 0 ≤ _), (by decide : 0 + 0 ≤ _)⟩)
  dsimp only [Pt.U, Pt.locs, Pt.cells, Pt.slots] at X19 l19 y19 z19 st19 hQ19
  subst l19 y19 z19
  obtain ⟨rfl, N19q, R20⟩ := hQ19
  have N19 := Fr.app N11 N19q
  have hn := own_nc (zs.getD i 0) ⟨hq1.1, by omega⟩
  refine own_fin X19 hlk (v := some (.int (nar .char (zs.getD i 0)))) (own_nv hR) (by decide) (by decide) ?_ (fun fs hrt => pre0 _ ?_)
  ·
   show Q21_s Z a1 i b zs cs sv dg h0 n0 _ T19.heap _
   rw [hn]
   rw [R20]
   exact ⟨rfl, N19, rfl⟩
  refine qaN X0 hx (dt21 hby 0 rfl :) rfl rfl ?_
  refine st11.trans ?_
  refine qfY X11 hx 4 16 (dt21 hby 2 rfl :) ((if0 _ _).trans (teq (by decide : (0 : Int32) = (0 : Int32))).1) (by decide) (by decide) ?_
  refine qaN X11 hx (dt21 hby 8 rfl :) rfl rfl ?_
  refine st13 _ ?_
  refine qiN X13 hx (dt21 hby 10 rfl :) rfl ?_
  refine st19 _ ?_
  exact retN X19 hx (t := .char) hR (by simp) (dt21 hby 12 rfl :) hrt
theorem own_nlzA {t : Nat} (h : ¬ ((0 : Int32) < Int32.ofNat t)) (ht : t < 100000) : Int32.ofNat t = (0 : Int32) := by
  rw [Int32.lt_iff_toInt_lt, own_i ht] at h
  have e : (0 : Int32).toInt = 0 := rfl
  refine own_inj ?_
  rw [own_i ht]; omega
theorem own_nlz0 {t : Nat} (h : ¬ ((0 : Int32) < Int32.ofNat t)) (ht : t < 100000) : (t < 16 → 28 ≤ (32 : Int32).toInt ∧ (32 : Int32).toInt ≤ 32) ∧ (16 ≤ t → t < 256 → 24 ≤ (32 : Int32).toInt ∧ (32 : Int32).toInt ≤ 27) ∧ (4096 ≤ t → 16 ≤ (32 : Int32).toInt ∧ (32 : Int32).toInt ≤ 19) := by
  rw [Int32.lt_iff_toInt_lt, own_i ht] at h
  have e : (0 : Int32).toInt = 0 := rfl
  have e2 : (32 : Int32).toInt = 32 := rfl
  omega
theorem own_nlzB {t : Nat} (h : t < 65536) : Int32.ofNat t < (65536 : Int32) := by
  rw [Int32.lt_iff_toInt_lt, own_i (by omega)]
  have e : (65536 : Int32).toInt = 65536 := rfl
  omega
theorem pn_10 : plainName "java/lang/Integer" = true := by first | (simp [plainName, overriddenIn]; done) | decide +kernel
theorem own_q21 (t0 : Nat) (h2 : t0 < 65536) (hz : (0 : Int32) < (Int32.ofNat t0)) (hk37 : (Int32.ofNat t0) < (256 : Int32)) (hk51 : (Int32.ofNat t0) < (16 : Int32)) (hk63 : (Int32.ofNat t0) < (4 : Int32)) : (t0 < 16 → 28 ≤ ((31 : Int32) - (Int32.ofNat (t0 / 2))).toInt ∧ ((31 : Int32) - (Int32.ofNat (t0 / 2))).toInt ≤ 32) ∧ (16 ≤ t0 → t0 < 256 → 24 ≤ ((31 : Int32) - (Int32.ofNat (t0 / 2))).toInt ∧ ((31 : Int32) - (Int32.ofNat (t0 / 2))).toInt ≤ 27) ∧ (4096 ≤ t0 → 16 ≤ ((31 : Int32) - (Int32.ofNat (t0 / 2))).toInt ∧ ((31 : Int32) - (Int32.ofNat (t0 / 2))).toInt ≤ 19) := by
  have i0 := own_i (n := t0) (by omega)
  have i1 := own_i (n := (t0 / 2)) (by omega)
  have ks := c_isub (31 : Int32) (Int32.ofNat (t0 / 2))
  have kr := rng32 ((31 : Int32) - (Int32.ofNat (t0 / 2)))
  have e0 : ((0 : Int32)).toInt = 0 := rfl
  have e256 : ((256 : Int32)).toInt = 256 := rfl
  have e16 : ((16 : Int32)).toInt = 16 := rfl
  have e4 : ((4 : Int32)).toInt = 4 := rfl
  have e31 : ((31 : Int32)).toInt = 31 := rfl
  simp only [Int32.lt_iff_toInt_lt, ← Int32.toInt_inj, own_esc, own_ch] at *
  omega
theorem own_q22 (t0 : Nat) (h2 : t0 < 65536) (hz : (0 : Int32) < (Int32.ofNat t0)) (hk37 : (Int32.ofNat t0) < (256 : Int32)) (hk51 : (Int32.ofNat t0) < (16 : Int32)) (hk63 : ¬ ((Int32.ofNat t0) < (4 : Int32))) : (t0 < 16 → 28 ≤ ((29 : Int32) - (Int32.ofNat ((t0 / 4) / 2))).toInt ∧ ((29 : Int32) - (Int32.ofNat ((t0 / 4) / 2))).toInt ≤ 32) ∧ (16 ≤ t0 → t0 < 256 → 24 ≤ ((29 : Int32) - (Int32.ofNat ((t0 / 4) / 2))).toInt ∧ ((29 : Int32) - (Int32.ofNat ((t0 / 4) / 2))).toInt ≤ 27) ∧ (4096 ≤ t0 → 16 ≤ ((29 : Int32) - (Int32.ofNat ((t0 / 4) / 2))).toInt ∧ ((29 : Int32) - (Int32.ofNat ((t0 / 4) / 2))).toInt ≤ 19) := by
  have i0 := own_i (n := t0) (by omega)
  have i1 := own_i (n := (t0 / 4)) (by omega)
  have i2 := own_i (n := ((t0 / 4) / 2)) (by omega)
  have ks := c_isub (29 : Int32) (Int32.ofNat ((t0 / 4) / 2))
  have kr := rng32 ((29 : Int32) - (Int32.ofNat ((t0 / 4) / 2)))
  have e0 : ((0 : Int32)).toInt = 0 := rfl
  have e256 : ((256 : Int32)).toInt = 256 := rfl
  have e16 : ((16 : Int32)).toInt = 16 := rfl
  have e4 : ((4 : Int32)).toInt = 4 := rfl
  have e29 : ((29 : Int32)).toInt = 29 := rfl
  simp only [Int32.lt_iff_toInt_lt, ← Int32.toInt_inj, own_esc, own_ch] at *
  omega
theorem own_q23 (t0 : Nat) (h2 : t0 < 65536) (hz : (0 : Int32) < (Int32.ofNat t0)) (hk37 : (Int32.ofNat t0) < (256 : Int32)) (hk51 : ¬ ((Int32.ofNat t0) < (16 : Int32))) (hk63 : (Int32.ofNat (t0 / 16)) < (4 : Int32)) : (t0 < 16 → 28 ≤ ((27 : Int32) - (Int32.ofNat ((t0 / 16) / 2))).toInt ∧ ((27 : Int32) - (Int32.ofNat ((t0 / 16) / 2))).toInt ≤ 32) ∧ (16 ≤ t0 → t0 < 256 → 24 ≤ ((27 : Int32) - (Int32.ofNat ((t0 / 16) / 2))).toInt ∧ ((27 : Int32) - (Int32.ofNat ((t0 / 16) / 2))).toInt ≤ 27) ∧ (4096 ≤ t0 → 16 ≤ ((27 : Int32) - (Int32.ofNat ((t0 / 16) / 2))).toInt ∧ ((27 : Int32) - (Int32.ofNat ((t0 / 16) / 2))).toInt ≤ 19) := by
  have i0 := own_i (n := t0) (by omega)
  have i1 := own_i (n := (t0 / 16)) (by omega)
  have i2 := own_i (n := ((t0 / 16) / 2)) (by omega)
  have ks := c_isub (27 : Int32) (Int32.ofNat ((t0 / 16) / 2))
  have kr := rng32 ((27 : Int32) - (Int32.ofNat ((t0 / 16) / 2)))
  have e0 : ((0 : Int32)).toInt = 0 := rfl
  have e256 : ((256 : Int32)).toInt = 256 := rfl
  have e16 : ((16 : Int32)).toInt = 16 := rfl
  have e4 : ((4 : Int32)).toInt = 4 := rfl
  have e27 : ((27 : Int32)).toInt = 27 := rfl
  simp only [Int32.lt_iff_toInt_lt, ← Int32.toInt_inj, own_esc, own_ch] at *
  omega
theorem own_q24 (t0 : Nat) (h2 : t0 < 65536) (hz : (0 : Int32) < (Int32.ofNat t0)) (hk37 : (Int32.ofNat t0) < (256 : Int32)) (hk51 : ¬ ((Int32.ofNat t0) < (16 : Int32))) (hk63 : ¬ ((Int32.ofNat (t0 / 16)) < (4 : Int32))) : (t0 < 16 → 28 ≤ ((25 : Int32) - (Int32.ofNat (((t0 / 16) / 4) / 2))).toInt ∧ ((25 : Int32) - (Int32.ofNat (((t0 / 16) / 4) / 2))).toInt ≤ 32) ∧ (16 ≤ t0 → t0 < 256 → 24 ≤ ((25 : Int32) - (Int32.ofNat (((t0 / 16) / 4) / 2))).toInt ∧ ((25 : Int32) - (Int32.ofNat (((t0 / 16) / 4) / 2))).toInt ≤ 27) ∧ (4096 ≤ t0 → 16 ≤ ((25 : Int32) - (Int32.ofNat (((t0 / 16) / 4) / 2))).toInt ∧ ((25 : Int32) - (Int32.ofNat (((t0 / 16) / 4) / 2))).toInt ≤ 19) := by
  have i0 := own_i (n := t0) (by omega)
  have i1 := own_i (n := (t0 / 16)) (by omega)
  have i2 := own_i (n := ((t0 / 16) / 4)) (by omega)
  have i3 := own_i (n := (((t0 / 16) / 4) / 2)) (by omega)
  have ks := c_isub (25 : Int32) (Int32.ofNat (((t0 / 16) / 4) / 2))
  have kr := rng32 ((25 : Int32) - (Int32.ofNat (((t0 / 16) / 4) / 2)))
  have e0 : ((0 : Int32)).toInt = 0 := rfl
  have e256 : ((256 : Int32)).toInt = 256 := rfl
  have e16 : ((16 : Int32)).toInt = 16 := rfl
  have e4 : ((4 : Int32)).toInt = 4 := rfl
  have e25 : ((25 : Int32)).toInt = 25 := rfl
  simp only [Int32.lt_iff_toInt_lt, ← Int32.toInt_inj, own_esc, own_ch] at *
  omega
theorem own_q25 (t0 : Nat) (h2 : t0 < 65536) (hz : (0 : Int32) < (Int32.ofNat t0)) (hk37 : ¬ ((Int32.ofNat t0) < (256 : Int32))) (hk51 : (Int32.ofNat (t0 / 256)) < (16 : Int32)) (hk63 : (Int32.ofNat (t0 / 256)) < (4 : Int32)) : (t0 < 16 → 28 ≤ ((23 : Int32) - (Int32.ofNat ((t0 / 256) / 2))).toInt ∧ ((23 : Int32) - (Int32.ofNat ((t0 / 256) / 2))).toInt ≤ 32) ∧ (16 ≤ t0 → t0 < 256 → 24 ≤ ((23 : Int32) - (Int32.ofNat ((t0 / 256) / 2))).toInt ∧ ((23 : Int32) - (Int32.ofNat ((t0 / 256) / 2))).toInt ≤ 27) ∧ (4096 ≤ t0 → 16 ≤ ((23 : Int32) - (Int32.ofNat ((t0 / 256) / 2))).toInt ∧ ((23 : Int32) - (Int32.ofNat ((t0 / 256) / 2))).toInt ≤ 19) := by
  have i0 := own_i (n := t0) (by omega)
  have i1 := own_i (n := (t0 / 256)) (by omega)
  have i2 := own_i (n := ((t0 / 256) / 2)) (by omega)
  have ks := c_isub (23 : Int32) (Int32.ofNat ((t0 / 256) / 2))
  have kr := rng32 ((23 : Int32) - (Int32.ofNat ((t0 / 256) / 2)))
  have e0 : ((0 : Int32)).toInt = 0 := rfl
  have e256 : ((256 : Int32)).toInt = 256 := rfl
  have e16 : ((16 : Int32)).toInt = 16 := rfl
  have e4 : ((4 : Int32)).toInt = 4 := rfl
  have e23 : ((23 : Int32)).toInt = 23 := rfl
  simp only [Int32.lt_iff_toInt_lt, ← Int32.toInt_inj, own_esc, own_ch] at *
  omega
theorem own_q26 (t0 : Nat) (h2 : t0 < 65536) (hz : (0 : Int32) < (Int32.ofNat t0)) (hk37 : ¬ ((Int32.ofNat t0) < (256 : Int32))) (hk51 : (Int32.ofNat (t0 / 256)) < (16 : Int32)) (hk63 : ¬ ((Int32.ofNat (t0 / 256)) < (4 : Int32))) : (t0 < 16 → 28 ≤ ((21 : Int32) - (Int32.ofNat (((t0 / 256) / 4) / 2))).toInt ∧ ((21 : Int32) - (Int32.ofNat (((t0 / 256) / 4) / 2))).toInt ≤ 32) ∧ (16 ≤ t0 → t0 < 256 → 24 ≤ ((21 : Int32) - (Int32.ofNat (((t0 / 256) / 4) / 2))).toInt ∧ ((21 : Int32) - (Int32.ofNat (((t0 / 256) / 4) / 2))).toInt ≤ 27) ∧ (4096 ≤ t0 → 16 ≤ ((21 : Int32) - (Int32.ofNat (((t0 / 256) / 4) / 2))).toInt ∧ ((21 : Int32) - (Int32.ofNat (((t0 / 256) / 4) / 2))).toInt ≤ 19) := by
  have i0 := own_i (n := t0) (by omega)
  have i1 := own_i (n := (t0 / 256)) (by omega)
  have i2 := own_i (n := ((t0 / 256) / 4)) (by omega)
  have i3 := own_i (n := (((t0 / 256) / 4) / 2)) (by omega)
  have ks := c_isub (21 : Int32) (Int32.ofNat (((t0 / 256) / 4) / 2))
  have kr := rng32 ((21 : Int32) - (Int32.ofNat (((t0 / 256) / 4) / 2)))
  have e0 : ((0 : Int32)).toInt = 0 := rfl
  have e256 : ((256 : Int32)).toInt = 256 := rfl
  have e16 : ((16 : Int32)).toInt = 16 := rfl
  have e4 : ((4 : Int32)).toInt = 4 := rfl
  have e21 : ((21 : Int32)).toInt = 21 := rfl
  simp only [Int32.lt_iff_toInt_lt, ← Int32.toInt_inj, own_esc, own_ch] at *
  omega
theorem own_q27 (t0 : Nat) (h2 : t0 < 65536) (hz : (0 : Int32) < (Int32.ofNat t0)) (hk37 : ¬ ((Int32.ofNat t0) < (256 : Int32))) (hk51 : ¬ ((Int32.ofNat (t0 / 256)) < (16 : Int32))) (hk63 : (Int32.ofNat ((t0 / 256) / 16)) < (4 : Int32)) : (t0 < 16 → 28 ≤ ((19 : Int32) - (Int32.ofNat (((t0 / 256) / 16) / 2))).toInt ∧ ((19 : Int32) - (Int32.ofNat (((t0 / 256) / 16) / 2))).toInt ≤ 32) ∧ (16 ≤ t0 → t0 < 256 → 24 ≤ ((19 : Int32) - (Int32.ofNat (((t0 / 256) / 16) / 2))).toInt ∧ ((19 : Int32) - (Int32.ofNat (((t0 / 256) / 16) / 2))).toInt ≤ 27) ∧ (4096 ≤ t0 → 16 ≤ ((19 : Int32) - (Int32.ofNat (((t0 / 256) / 16) / 2))).toInt ∧ ((19 : Int32) - (Int32.ofNat (((t0 / 256) / 16) / 2))).toInt ≤ 19) := by
  have i0 := own_i (n := t0) (by omega)
  have i1 := own_i (n := (t0 / 256)) (by omega)
  have i2 := own_i (n := ((t0 / 256) / 16)) (by omega)
  have i3 := own_i (n := (((t0 / 256) / 16) / 2)) (by omega)
  have ks := c_isub (19 : Int32) (Int32.ofNat (((t0 / 256) / 16) / 2))
  have kr := rng32 ((19 : Int32) - (Int32.ofNat (((t0 / 256) / 16) / 2)))
  have e0 : ((0 : Int32)).toInt = 0 := rfl
  have e256 : ((256 : Int32)).toInt = 256 := rfl
  have e16 : ((16 : Int32)).toInt = 16 := rfl
  have e4 : ((4 : Int32)).toInt = 4 := rfl
  have e19 : ((19 : Int32)).toInt = 19 := rfl
  simp only [Int32.lt_iff_toInt_lt, ← Int32.toInt_inj, own_esc, own_ch] at *
  omega
theorem own_q28 (t0 : Nat) (h2 : t0 < 65536) (hz : (0 : Int32) < (Int32.ofNat t0)) (hk37 : ¬ ((Int32.ofNat t0) < (256 : Int32))) (hk51 : ¬ ((Int32.ofNat (t0 / 256)) < (16 : Int32))) (hk63 : ¬ ((Int32.ofNat ((t0 / 256) / 16)) < (4 : Int32))) : (t0 < 16 → 28 ≤ ((17 : Int32) - (Int32.ofNat ((((t0 / 256) / 16) / 4) / 2))).toInt ∧ ((17 : Int32) - (Int32.ofNat ((((t0 / 256) / 16) / 4) / 2))).toInt ≤ 32) ∧ (16 ≤ t0 → t0 < 256 → 24 ≤ ((17 : Int32) - (Int32.ofNat ((((t0 / 256) / 16) / 4) / 2))).toInt ∧ ((17 : Int32) - (Int32.ofNat ((((t0 / 256) / 16) / 4) / 2))).toInt ≤ 27) ∧ (4096 ≤ t0 → 16 ≤ ((17 : Int32) - (Int32.ofNat ((((t0 / 256) / 16) / 4) / 2))).toInt ∧ ((17 : Int32) - (Int32.ofNat ((((t0 / 256) / 16) / 4) / 2))).toInt ≤ 19) := by
  have i0 := own_i (n := t0) (by omega)
  have i1 := own_i (n := (t0 / 256)) (by omega)
  have i2 := own_i (n := ((t0 / 256) / 16)) (by omega)
  have i3 := own_i (n := (((t0 / 256) / 16) / 4)) (by omega)
  have i4 := own_i (n := ((((t0 / 256) / 16) / 4) / 2)) (by omega)
  have ks := c_isub (17 : Int32) (Int32.ofNat ((((t0 / 256) / 16) / 4) / 2))
  have kr := rng32 ((17 : Int32) - (Int32.ofNat ((((t0 / 256) / 16) / 4) / 2)))
  have e0 : ((0 : Int32)).toInt = 0 := rfl
  have e256 : ((256 : Int32)).toInt = 256 := rfl
  have e16 : ((16 : Int32)).toInt = 16 := rfl
  have e4 : ((4 : Int32)).toInt = 4 := rfl
  have e17 : ((17 : Int32)).toInt = 17 := rfl
  simp only [Int32.lt_iff_toInt_lt, ← Int32.toInt_inj, own_esc, own_ch] at *
  omega
def Q54 (Z : State) (t0 : Nat) (h0 : Heap) (n0 : Nat) (v : Option Value) (h : Heap) (L : List Loc) : Prop := ∃ (r : Int32), v = some (.int r) ∧ Fr n0 L ∧ ((t0 < 16 → 28 ≤ r.toInt ∧ r.toInt ≤ 32) ∧ (16 ≤ t0 → t0 < 256 → 24 ≤ r.toInt ∧ r.toInt ≤ 27) ∧ (4096 ≤ t0 → 16 ≤ r.toInt ∧ r.toInt ≤ 19)) ∧ h = h0
theorem rm54 (l : Launch) (Z : State) (a0 : Array Value) (hw : own_hw a0 Z) (t0 : Nat) (h0 : Heap) (n0 : Nat) (Z0 : n0 ≤ h0.size) (h2 : (t0 < 65536)) :
 own_M l ym54 [Jvm.Cond.code ym54 cm54 2 (some .int)] (⟨0, 0, 0, 0⟩ : Room) #[(.int (Int32.ofNat t0))] Z h0 (Q54 Z t0 h0 n0) := by
 refine own_go n0 (F := fun m => mkF m 0 #[sI (Int32.ofNat t0), .unset] []) (plainFor_of_name pn_10) (fun m => rfl) ?_
 intro p e s m below meth c sq Pq hR hx hby hml hown hnm hZ hh hlk X0 e0 N0 pre0
 have P1 : ∀ t, Steps p.tables e below (sq.setTop (mkF m 1 #[sI (Int32.ofNat t0), .unset] [(.int (Int32.ofNat t0))])) t → Pq t := fun t k => pre0 t (by
  refine qiN X0 hx (dt54 hby 0 rfl :) rfl ?_
  exact k)
 by_cases hz : (0 : Int32) < (Int32.ofNat t0)
 ·
  have hc22_3 : (Int32.ofNat t0) < (65536 : Int32) := own_nlzB h2
  have P4 : ∀ t, Steps p.tables e below (sq.setTop (mkF m 37 #[sI (Int32.ofNat t0), sI (31 : Int32)] [(.int (256 : Int32)), (.int (Int32.ofNat t0))])) t → Pq t := fun t k => P1 t (by
   refine qfY X0 hx 1 15 (dt54 hby 1 rfl :) ((if0 _ _).trans (tlt hz).2.2.1) (by decide) (by decide) ?_
   refine qb X0 hx (31 : Int32) (dt54 hby 7 rfl :) rfl ?_
   refine qsN X0 hx (l' := #[sI (Int32.ofNat t0), sI (31 : Int32)]) (dt54 hby 8 rfl :) rfl ?_
   refine qiN X0 hx (dt54 hby 9 rfl :) rfl ?_
   refine X0.ldcwInt hx hown (mw hZ hw 246 rfl) (g := (mkF m 19 #[sI (Int32.ofNat t0), sI (31 : Int32)] [(.int (Int32.ofNat t0))])) rfl (dt54 hby 10 rfl :) _ ?_
   refine qmY X0 hx 22 33 (dt54 hby 11 rfl :) (tlt hc22_3).1 (by decide) (by decide) ?_
   refine qiN X0 hx (dt54 hby 12 rfl :) rfl ?_
   refine qp X0 hx (256 : Int32) (dt54 hby 13 rfl :) rfl ?_
   exact k)
  by_cases hk37 : (Int32.ofNat t0) < (256 : Int32)
  ·
   have P5 : ∀ t, Steps p.tables e below (sq.setTop (mkF m 51 #[sI (Int32.ofNat t0), sI (31 : Int32)] [(.int (16 : Int32)), (.int (Int32.ofNat t0))])) t → Pq t := fun t k => P4 t (by
    refine qmY X0 hx 37 48 (dt54 hby 14 rfl :) (tlt hk37).1 (by decide) (by decide) ?_
    refine qiN X0 hx (dt54 hby 15 rfl :) rfl ?_
    refine qb X0 hx (16 : Int32) (dt54 hby 16 rfl :) rfl ?_
    exact k)
   by_cases hk51 : (Int32.ofNat t0) < (16 : Int32)
   ·
    have P6 : ∀ t, Steps p.tables e below (sq.setTop (mkF m 63 #[sI (Int32.ofNat t0), sI (31 : Int32)] [(.int (4 : Int32)), (.int (Int32.ofNat t0))])) t → Pq t := fun t k => P5 t (by
     refine qmY X0 hx 51 61 (dt54 hby 17 rfl :) (tlt hk51).1 (by decide) (by decide) ?_
     refine qiN X0 hx (dt54 hby 18 rfl :) rfl ?_
     refine qc X0 hx (4 : Int32) (dt54 hby 19 rfl :) rfl ?_
     exact k)
    by_cases hk63 : (Int32.ofNat t0) < (4 : Int32)
    ·
     refine own_fin X0 hlk (v := some (.int ((31 : Int32) - (Int32.ofNat (t0 / 2))))) (own_nv hR) (by decide) (by decide) ?_ (fun fs hrt => P6 _ ?_)
     ·
      show Q54 Z t0 h0 n0 _ sq.heap _
      rw [e0]
      exact ⟨((31 : Int32) - (Int32.ofNat (t0 / 2))), rfl, N0, own_q21 t0 h2 hz hk37 hk51 hk63, rfl⟩
     refine qmY X0 hx 63 73 (dt54 hby 20 rfl :) (tlt hk63).1 (by decide) (by decide) ?_
     refine qiN X0 hx (dt54 hby 21 rfl :) rfl ?_
     refine qiN X0 hx (dt54 hby 22 rfl :) rfl ?_
     refine qc X0 hx (1 : Int32) (dt54 hby 23 rfl :) rfl ?_
     refine XS.iushr X0.here hx rfl (dt54 hby 24 rfl :) rfl ?_
     rw [show (((Int32.ofNat t0).toUInt32 >>> ((1 : Int32) &&& 31).toUInt32).toInt32) = (Int32.ofNat (t0 / 2)) from own_ush _ 1 rfl (by decide) (by omega)]
     refine XS.isub X0.here hx rfl (dt54 hby 25 rfl :) rfl ?_
     exact retI X0 hx hR (dt54 hby 26 rfl :) hrt
    ·
     refine own_fin X0 hlk (v := some (.int ((29 : Int32) - (Int32.ofNat ((t0 / 4) / 2))))) (own_nv hR) (by decide) (by decide) ?_ (fun fs hrt => P6 _ ?_)
     ·
      show Q54 Z t0 h0 n0 _ sq.heap _
      rw [e0]
      exact ⟨((29 : Int32) - (Int32.ofNat ((t0 / 4) / 2))), rfl, N0, own_q22 t0 h2 hz hk37 hk51 hk63, rfl⟩
     refine qmN X0 hx (dt54 hby 20 rfl :) (flt hk63).1 ?_
     refine XS.iinc X0.here hx rfl (dt54 hby 27 rfl :) rfl (l' := #[sI (Int32.ofNat t0), sI (29 : Int32)]) rfl ?_
     refine qiN X0 hx (dt54 hby 28 rfl :) rfl ?_
     refine qc X0 hx (2 : Int32) (dt54 hby 29 rfl :) rfl ?_
     refine XS.iushr X0.here hx rfl (dt54 hby 30 rfl :) rfl ?_
     rw [show (((Int32.ofNat t0).toUInt32 >>> ((2 : Int32) &&& 31).toUInt32).toInt32) = (Int32.ofNat (t0 / 4)) from own_ush _ 2 rfl (by decide) (by omega)]
     refine qsN X0 hx (l' := #[sI (Int32.ofNat (t0 / 4)), sI (29 : Int32)]) (dt54 hby 31 rfl :) rfl ?_
     refine qiN X0 hx (dt54 hby 21 rfl :) rfl ?_
     refine qiN X0 hx (dt54 hby 22 rfl :) rfl ?_
     refine qc X0 hx (1 : Int32) (dt54 hby 23 rfl :) rfl ?_
     refine XS.iushr X0.here hx rfl (dt54 hby 24 rfl :) rfl ?_
     rw [show (((Int32.ofNat (t0 / 4)).toUInt32 >>> ((1 : Int32) &&& 31).toUInt32).toInt32) = (Int32.ofNat ((t0 / 4) / 2)) from own_ush _ 1 rfl (by decide) (by omega)]
     refine XS.isub X0.here hx rfl (dt54 hby 25 rfl :) rfl ?_
     exact retI X0 hx hR (dt54 hby 26 rfl :) hrt
   ·
    have P7 : ∀ t, Steps p.tables e below (sq.setTop (mkF m 63 #[sI (Int32.ofNat (t0 / 16)), sI (27 : Int32)] [(.int (4 : Int32)), (.int (Int32.ofNat (t0 / 16)))])) t → Pq t := fun t k => P5 t (by
     refine qmN X0 hx (dt54 hby 17 rfl :) (flt hk51).1 ?_
     refine XS.iinc X0.here hx rfl (dt54 hby 32 rfl :) rfl (l' := #[sI (Int32.ofNat t0), sI (27 : Int32)]) rfl ?_
     refine qiN X0 hx (dt54 hby 33 rfl :) rfl ?_
     refine qc X0 hx (4 : Int32) (dt54 hby 34 rfl :) rfl ?_
     refine XS.iushr X0.here hx rfl (dt54 hby 35 rfl :) rfl ?_
     rw [show (((Int32.ofNat t0).toUInt32 >>> ((4 : Int32) &&& 31).toUInt32).toInt32) = (Int32.ofNat (t0 / 16)) from own_ush _ 4 rfl (by decide) (by omega)]
     refine qsN X0 hx (l' := #[sI (Int32.ofNat (t0 / 16)), sI (27 : Int32)]) (dt54 hby 36 rfl :) rfl ?_
     refine qiN X0 hx (dt54 hby 18 rfl :) rfl ?_
     refine qc X0 hx (4 : Int32) (dt54 hby 19 rfl :) rfl ?_
     exact k)
    by_cases hk63 : (Int32.ofNat (t0 / 16)) < (4 : Int32)
    ·
     refine own_fin X0 hlk (v := some (.int ((27 : Int32) - (Int32.ofNat ((t0 / 16) / 2))))) (own_nv hR) (by decide) (by decide) ?_ (fun fs hrt => P7 _ ?_)
     ·
      show Q54 Z t0 h0 n0 _ sq.heap _
      rw [e0]
      exact ⟨((27 : Int32) - (Int32.ofNat ((t0 / 16) / 2))), rfl, N0, own_q23 t0 h2 hz hk37 hk51 hk63, rfl⟩
     refine qmY X0 hx 63 73 (dt54 hby 20 rfl :) (tlt hk63).1 (by decide) (by decide) ?_
     refine qiN X0 hx (dt54 hby 21 rfl :) rfl ?_
     refine qiN X0 hx (dt54 hby 22 rfl :) rfl ?_
     refine qc X0 hx (1 : Int32) (dt54 hby 23 rfl :) rfl ?_
     refine XS.iushr X0.here hx rfl (dt54 hby 24 rfl :) rfl ?_
     rw [show (((Int32.ofNat (t0 / 16)).toUInt32 >>> ((1 : Int32) &&& 31).toUInt32).toInt32) = (Int32.ofNat ((t0 / 16) / 2)) from own_ush _ 1 rfl (by decide) (by omega)]
     refine XS.isub X0.here hx rfl (dt54 hby 25 rfl :) rfl ?_
     exact retI X0 hx hR (dt54 hby 26 rfl :) hrt
    ·
     refine own_fin X0 hlk (v := some (.int ((25 : Int32) - (Int32.ofNat (((t0 / 16) / 4) / 2))))) (own_nv hR) (by decide) (by decide) ?_ (fun fs hrt => P7 _ ?_)
     ·
      show Q54 Z t0 h0 n0 _ sq.heap _
      rw [e0]
      exact ⟨((25 : Int32) - (Int32.ofNat (((t0 / 16) / 4) / 2))), rfl, N0, own_q24 t0 h2 hz hk37 hk51 hk63, rfl⟩
     refine qmN X0 hx (dt54 hby 20 rfl :) (flt hk63).1 ?_
     refine XS.iinc X0.here hx rfl (dt54 hby 27 rfl :) rfl (l' := #[sI (Int32.ofNat (t0 / 16)), sI (25 : Int32)]) rfl ?_
     refine qiN X0 hx (dt54 hby 28 rfl :) rfl ?_
     refine qc X0 hx (2 : Int32) (dt54 hby 29 rfl :) rfl ?_
     refine XS.iushr X0.here hx rfl (dt54 hby 30 rfl :) rfl ?_
     rw [show (((Int32.ofNat (t0 / 16)).toUInt32 >>> ((2 : Int32) &&& 31).toUInt32).toInt32) = (Int32.ofNat ((t0 / 16) / 4)) from own_ush _ 2 rfl (by decide) (by omega)]
     refine qsN X0 hx (l' := #[sI (Int32.ofNat ((t0 / 16) / 4)), sI (25 : Int32)]) (dt54 hby 31 rfl :) rfl ?_
     refine qiN X0 hx (dt54 hby 21 rfl :) rfl ?_
     refine qiN X0 hx (dt54 hby 22 rfl :) rfl ?_
     refine qc X0 hx (1 : Int32) (dt54 hby 23 rfl :) rfl ?_
     refine XS.iushr X0.here hx rfl (dt54 hby 24 rfl :) rfl ?_
     rw [show (((Int32.ofNat ((t0 / 16) / 4)).toUInt32 >>> ((1 : Int32) &&& 31).toUInt32).toInt32) = (Int32.ofNat (((t0 / 16) / 4) / 2)) from own_ush _ 1 rfl (by decide) (by omega)]
     refine XS.isub X0.here hx rfl (dt54 hby 25 rfl :) rfl ?_
     exact retI X0 hx hR (dt54 hby 26 rfl :) hrt
  ·
   have P8 : ∀ t, Steps p.tables e below (sq.setTop (mkF m 51 #[sI (Int32.ofNat (t0 / 256)), sI (23 : Int32)] [(.int (16 : Int32)), (.int (Int32.ofNat (t0 / 256)))])) t → Pq t := fun t k => P4 t (by
    refine qmN X0 hx (dt54 hby 14 rfl :) (flt hk37).1 ?_
    refine XS.iinc X0.here hx rfl (dt54 hby 37 rfl :) rfl (l' := #[sI (Int32.ofNat t0), sI (23 : Int32)]) rfl ?_
    refine qiN X0 hx (dt54 hby 38 rfl :) rfl ?_
    refine qb X0 hx (8 : Int32) (dt54 hby 39 rfl :) rfl ?_
    refine XS.iushr X0.here hx rfl (dt54 hby 40 rfl :) rfl ?_
    rw [show (((Int32.ofNat t0).toUInt32 >>> ((8 : Int32) &&& 31).toUInt32).toInt32) = (Int32.ofNat (t0 / 256)) from own_ush _ 8 rfl (by decide) (by omega)]
    refine qsN X0 hx (l' := #[sI (Int32.ofNat (t0 / 256)), sI (23 : Int32)]) (dt54 hby 41 rfl :) rfl ?_
    refine qiN X0 hx (dt54 hby 15 rfl :) rfl ?_
    refine qb X0 hx (16 : Int32) (dt54 hby 16 rfl :) rfl ?_
    exact k)
   by_cases hk51 : (Int32.ofNat (t0 / 256)) < (16 : Int32)
   ·
    have P9 : ∀ t, Steps p.tables e below (sq.setTop (mkF m 63 #[sI (Int32.ofNat (t0 / 256)), sI (23 : Int32)] [(.int (4 : Int32)), (.int (Int32.ofNat (t0 / 256)))])) t → Pq t := fun t k => P8 t (by
     refine qmY X0 hx 51 61 (dt54 hby 17 rfl :) (tlt hk51).1 (by decide) (by decide) ?_
     refine qiN X0 hx (dt54 hby 18 rfl :) rfl ?_
     refine qc X0 hx (4 : Int32) (dt54 hby 19 rfl :) rfl ?_
     exact k)
    by_cases hk63 : (Int32.ofNat (t0 / 256)) < (4 : Int32)
    ·
     refine own_fin X0 hlk (v := some (.int ((23 : Int32) - (Int32.ofNat ((t0 / 256) / 2))))) (own_nv hR) (by decide) (by decide) ?_ (fun fs hrt => P9 _ ?_)
     ·
      show Q54 Z t0 h0 n0 _ sq.heap _
      rw [e0]
      exact ⟨((23 : Int32) - (Int32.ofNat ((t0 / 256) / 2))), rfl, N0, own_q25 t0 h2 hz hk37 hk51 hk63, rfl⟩
     refine qmY X0 hx 63 73 (dt54 hby 20 rfl :) (tlt hk63).1 (by decide) (by decide) ?_
     refine qiN X0 hx (dt54 hby 21 rfl :) rfl ?_
     refine qiN X0 hx (dt54 hby 22 rfl :) rfl ?_
     refine qc X0 hx (1 : Int32) (dt54 hby 23 rfl :) rfl ?_
     refine XS.iushr X0.here hx rfl (dt54 hby 24 rfl :) rfl ?_
     rw [show (((Int32.ofNat (t0 / 256)).toUInt32 >>> ((1 : Int32) &&& 31).toUInt32).toInt32) = (Int32.ofNat ((t0 / 256) / 2)) from own_ush _ 1 rfl (by decide) (by omega)]
     refine XS.isub X0.here hx rfl (dt54 hby 25 rfl :) rfl ?_
     exact retI X0 hx hR (dt54 hby 26 rfl :) hrt
    ·
     refine own_fin X0 hlk (v := some (.int ((21 : Int32) - (Int32.ofNat (((t0 / 256) / 4) / 2))))) (own_nv hR) (by decide) (by decide) ?_ (fun fs hrt => P9 _ ?_)
     ·
      show Q54 Z t0 h0 n0 _ sq.heap _
      rw [e0]
      exact ⟨((21 : Int32) - (Int32.ofNat (((t0 / 256) / 4) / 2))), rfl, N0, own_q26 t0 h2 hz hk37 hk51 hk63, rfl⟩
     refine qmN X0 hx (dt54 hby 20 rfl :) (flt hk63).1 ?_
     refine XS.iinc X0.here hx rfl (dt54 hby 27 rfl :) rfl (l' := #[sI (Int32.ofNat (t0 / 256)), sI (21 : Int32)]) rfl ?_
     refine qiN X0 hx (dt54 hby 28 rfl :) rfl ?_
     refine qc X0 hx (2 : Int32) (dt54 hby 29 rfl :) rfl ?_
     refine XS.iushr X0.here hx rfl (dt54 hby 30 rfl :) rfl ?_
     rw [show (((Int32.ofNat (t0 / 256)).toUInt32 >>> ((2 : Int32) &&& 31).toUInt32).toInt32) = (Int32.ofNat ((t0 / 256) / 4)) from own_ush _ 2 rfl (by decide) (by omega)]
     refine qsN X0 hx (l' := #[sI (Int32.ofNat ((t0 / 256) / 4)), sI (21 : Int32)]) (dt54 hby 31 rfl :) rfl ?_
     refine qiN X0 hx (dt54 hby 21 rfl :) rfl ?_
     refine qiN X0 hx (dt54 hby 22 rfl :) rfl ?_
     refine qc X0 hx (1 : Int32) (dt54 hby 23 rfl :) rfl ?_
     refine XS.iushr X0.here hx rfl (dt54 hby 24 rfl :) rfl ?_
     rw [show (((Int32.ofNat ((t0 / 256) / 4)).toUInt32 >>> ((1 : Int32) &&& 31).toUInt32).toInt32) = (Int32.ofNat (((t0 / 256) / 4) / 2)) from own_ush _ 1 rfl (by decide) (by omega)]
     refine XS.isub X0.here hx rfl (dt54 hby 25 rfl :) rfl ?_
     exact retI X0 hx hR (dt54 hby 26 rfl :) hrt
   ·
    have P10 : ∀ t, Steps p.tables e below (sq.setTop (mkF m 63 #[sI (Int32.ofNat ((t0 / 256) / 16)), sI (19 : Int32)] [(.int (4 : Int32)), (.int (Int32.ofNat ((t0 / 256) / 16)))])) t → Pq t := fun t k => P8 t (by
     refine qmN X0 hx (dt54 hby 17 rfl :) (flt hk51).1 ?_
     refine XS.iinc X0.here hx rfl (dt54 hby 32 rfl :) rfl (l' := #[sI (Int32.ofNat (t0 / 256)), sI (19 : Int32)]) rfl ?_
     refine qiN X0 hx (dt54 hby 33 rfl :) rfl ?_
     refine qc X0 hx (4 : Int32) (dt54 hby 34 rfl :) rfl ?_
     refine XS.iushr X0.here hx rfl (dt54 hby 35 rfl :) rfl ?_
     rw [show (((Int32.ofNat (t0 / 256)).toUInt32 >>> ((4 : Int32) &&& 31).toUInt32).toInt32) = (Int32.ofNat ((t0 / 256) / 16)) from own_ush _ 4 rfl (by decide) (by omega)]
     refine qsN X0 hx (l' := #[sI (Int32.ofNat ((t0 / 256) / 16)), sI (19 : Int32)]) (dt54 hby 36 rfl :) rfl ?_
     refine qiN X0 hx (dt54 hby 18 rfl :) rfl ?_
     refine qc X0 hx (4 : Int32) (dt54 hby 19 rfl :) rfl ?_
     exact k)
    by_cases hk63 : (Int32.ofNat ((t0 / 256) / 16)) < (4 : Int32)
    ·
     refine own_fin X0 hlk (v := some (.int ((19 : Int32) - (Int32.ofNat (((t0 / 256) / 16) / 2))))) (own_nv hR) (by decide) (by decide) ?_ (fun fs hrt => P10 _ ?_)
     ·
      show Q54 Z t0 h0 n0 _ sq.heap _
      rw [e0]
      exact ⟨((19 : Int32) - (Int32.ofNat (((t0 / 256) / 16) / 2))), rfl, N0, own_q27 t0 h2 hz hk37 hk51 hk63, rfl⟩
     refine qmY X0 hx 63 73 (dt54 hby 20 rfl :) (tlt hk63).1 (by decide) (by decide) ?_
     refine qiN X0 hx (dt54 hby 21 rfl :) rfl ?_
     refine qiN X0 hx (dt54 hby 22 rfl :) rfl ?_
     refine qc X0 hx (1 : Int32) (dt54 hby 23 rfl :) rfl ?_
     refine XS.iushr X0.here hx rfl (dt54 hby 24 rfl :) rfl ?_
     rw [show (((Int32.ofNat ((t0 / 256) / 16)).toUInt32 >>> ((1 : Int32) &&& 31).toUInt32).toInt32) = (Int32.ofNat (((t0 / 256) / 16) / 2)) from own_ush _ 1 rfl (by decide) (by omega)]
     refine XS.isub X0.here hx rfl (dt54 hby 25 rfl :) rfl ?_
     exact retI X0 hx hR (dt54 hby 26 rfl :) hrt
    ·
     refine own_fin X0 hlk (v := some (.int ((17 : Int32) - (Int32.ofNat ((((t0 / 256) / 16) / 4) / 2))))) (own_nv hR) (by decide) (by decide) ?_ (fun fs hrt => P10 _ ?_)
     ·
      show Q54 Z t0 h0 n0 _ sq.heap _
      rw [e0]
      exact ⟨((17 : Int32) - (Int32.ofNat ((((t0 / 256) / 16) / 4) / 2))), rfl, N0, own_q28 t0 h2 hz hk37 hk51 hk63, rfl⟩
     refine qmN X0 hx (dt54 hby 20 rfl :) (flt hk63).1 ?_
     refine XS.iinc X0.here hx rfl (dt54 hby 27 rfl :) rfl (l' := #[sI (Int32.ofNat ((t0 / 256) / 16)), sI (17 : Int32)]) rfl ?_
     refine qiN X0 hx (dt54 hby 28 rfl :) rfl ?_
     refine qc X0 hx (2 : Int32) (dt54 hby 29 rfl :) rfl ?_
     refine XS.iushr X0.here hx rfl (dt54 hby 30 rfl :) rfl ?_
     rw [show (((Int32.ofNat ((t0 / 256) / 16)).toUInt32 >>> ((2 : Int32) &&& 31).toUInt32).toInt32) = (Int32.ofNat (((t0 / 256) / 16) / 4)) from own_ush _ 2 rfl (by decide) (by omega)]
     refine qsN X0 hx (l' := #[sI (Int32.ofNat (((t0 / 256) / 16) / 4)), sI (17 : Int32)]) (dt54 hby 31 rfl :) rfl ?_
     refine qiN X0 hx (dt54 hby 21 rfl :) rfl ?_
     refine qiN X0 hx (dt54 hby 22 rfl :) rfl ?_
     refine qc X0 hx (1 : Int32) (dt54 hby 23 rfl :) rfl ?_
     refine XS.iushr X0.here hx rfl (dt54 hby 24 rfl :) rfl ?_
     rw [show (((Int32.ofNat (((t0 / 256) / 16) / 4)).toUInt32 >>> ((1 : Int32) &&& 31).toUInt32).toInt32) = (Int32.ofNat ((((t0 / 256) / 16) / 4) / 2)) from own_ush _ 1 rfl (by decide) (by omega)]
     refine XS.isub X0.here hx rfl (dt54 hby 25 rfl :) rfl ?_
     exact retI X0 hx hR (dt54 hby 26 rfl :) hrt
 ·
  have hc5_2 : (Int32.ofNat t0) = (0 : Int32) := own_nlzA hz (by omega)
  refine own_fin X0 hlk (v := some (.int (32 : Int32))) (own_nv hR) (by decide) (by decide) ?_ (fun fs hrt => P1 _ ?_)
  ·
   show Q54 Z t0 h0 n0 _ sq.heap _
   rw [e0]
   exact ⟨(32 : Int32), rfl, N0, own_nlz0 hz (by omega), rfl⟩
  refine qfN X0 hx (dt54 hby 1 rfl :) ((if0 _ _).trans (flt hz).2.2.1) ?_
  refine qiN X0 hx (dt54 hby 2 rfl :) rfl ?_
  refine qfN X0 hx (dt54 hby 3 rfl :) ((if0 _ _).trans (teq hc5_2).2) ?_
  refine qb X0 hx (32 : Int32) (dt54 hby 4 rfl :) rfl ?_
  refine qg X0 hx 10 14 (dt54 hby 5 rfl :) (by decide) (by decide) ?_
  exact retI X0 hx hR (dt54 hby 6 rfl :) hrt
def Q56_1 (Z : State) (b : Addr) (t0 : Nat) (f : Nat → Int32) (cs : Int32) (sv : Value) (dg : Addr) (h0 : Heap) (n0 : Nat) (v : Option Value) (h : Heap) (L : List Loc) : Prop := ∃ (g : Nat → Int32), v = none ∧ Fr n0 L ∧ Keep h0 h [b] ∧ own_Af Z h b .byte (Int32.ofNat 1) g ∧ (g 0 = own_lo (own_hx (t0 % 16)))
theorem rm56_1 (l : Launch) (Z : State) (a0 : Array Value) (hw : own_hw a0 Z) (b : Addr) (t0 : Nat) (f : Nat → Int32) (cs : Int32) (sv : Value) (dg : Addr) (h0 : Heap) (n0 : Nat) (Z0 : n0 ≤ h0.size) (HB0 : own_Af Z h0 b .byte (Int32.ofNat 1) f) (Hg1 : n0 ≤ b) (h2 : (t0 < 65536)) (hS : (own_ST Z cs sv dg)) (HO : Old Z n0 h0) :
 own_M l ym56 [Jvm.Cond.code ym56 cm56 7 none] (⟨0, 0, 0, 0⟩ : Room) #[(.int (Int32.ofNat t0)), (.int (4 : Int32)), (.ref b), (.int (1 : Int32))] Z h0 (Q56_1 Z b t0 f cs sv dg h0 n0) := by
 refine own_go n0 (F := fun m => mkF m 0 #[sI (Int32.ofNat t0), sI (4 : Int32), sR b, sI (1 : Int32), .unset, .unset, .unset] []) (plainFor_of_name pn_10) (fun m => rfl) ?_
 intro p e s m below meth c sq Pq hR hx hby hml hown hnm hZ hh hlk X0 e0 N0 pre0
 have F1 : Sta Z h0 "java/lang/Integer" "digits" "[C" (.ref dg) := (hS.2.2.2.2.2.1).ext HO.2
 obtain ⟨T2, X2, e2, st2⟩ := getS2 X0 hx hZ hown (host := "") (Or.inl (hw _ (wi 255 rfl))) Via.refl e0 F1 (g := (mkF m 20 #[sI (Int32.ofNat t0), sI (4 : Int32), sR b, sI (1 : Int32), sI (0 : Int32), sI (16 : Int32), sI (15 : Int32)] [(.int (0 : Int32)), (.ref b)])) rfl (dt56 hby 13 rfl :)
 have Fd3 : own_Af Z h0 dg .char (Int32.ofNat 36) own_hx := hS.2.2.2.2.2.2.ext HO.2
 obtain ⟨co4, Ao4, So4, Mo4, Bo4, Go4⟩ := Fd3.op
 have ib5 : ¬ ((Int32.ofNat (t0 % 16)) < 0 ∨ co4.slots.size ≤ ((Int32.ofNat (t0 % 16))).toNatClampNeg) := inb_of So4 ⟨own_i0 (by omega), own_ilt (by omega) (by omega) (by omega)⟩
 obtain ⟨co6, Ao6, So6, Mo6, Bo6, Go6⟩ := HB0.op
 obtain ⟨T7, h7, X7, e7, W7, st7⟩ := stB X2 hx hZ e2 Ao6 (j := (0 : Int32)) (inb_of So6 ⟨by decide, by decide⟩) (g := (mkF m 29 #[sI (Int32.ofNat t0), sI (4 : Int32), sR b, sI (1 : Int32), sI (0 : Int32), sI (16 : Int32), sI (15 : Int32)] [(.int ((own_hx (t0 % 16)).toInt8.toInt32)), (.int (0 : Int32)), (.ref b)])) rfl rfl (dt56 hby 19 rfl :)
 have V7 : own_Af Z h7 b .byte (Int32.ofNat 1) (own_sb f (0 : Int32) ((own_hx (t0 % 16)).toInt8.toInt32)) := own_Af.set Ao6 So6 Mo6 Bo6 Go6 (fits_nar_byte _) W7
 have K10 : Keep h0 h7 [b] := (Keep.refl h0 [b]).wr W7 (Or.inl (wi 0 rfl))
 have N11 := Fr.snoc X7 N0 Hg1
 refine own_fin X7 hlk (v := none) (fun _ => rfl) (by decide) (by decide) ?_ (fun fs hrt => pre0 _ ?_)
 ·
  show Q56_1 Z b t0 f cs sv dg h0 n0 _ T7.heap _
  rw [e7]
  exact ⟨(own_sb f (0 : Int32) ((own_hx (t0 % 16)).toInt8.toInt32)), rfl, N11, K10, V7, own_nb _⟩
 refine qiN X0 hx (dt56 hby 0 rfl :) rfl ?_
 refine qs X0 hx (l' := #[sI (Int32.ofNat t0), sI (4 : Int32), sR b, sI (1 : Int32), sI (1 : Int32), .unset, .unset]) (dt56 hby 1 rfl :) rfl ?_
 refine qc X0 hx (1 : Int32) (dt56 hby 2 rfl :) rfl ?_
 refine qiN X0 hx (dt56 hby 3 rfl :) rfl ?_
 refine XS.ishl X0.here hx rfl (dt56 hby 4 rfl :) rfl ?_
 rw [show ((1 : Int32) <<< ((4 : Int32) &&& 31)) = (16 : Int32) from by decide]
 refine qs X0 hx (l' := #[sI (Int32.ofNat t0), sI (4 : Int32), sR b, sI (1 : Int32), sI (1 : Int32), sI (16 : Int32), .unset]) (dt56 hby 5 rfl :) rfl ?_
 refine qi X0 hx (dt56 hby 6 rfl :) rfl ?_
 refine qc X0 hx (1 : Int32) (dt56 hby 7 rfl :) rfl ?_
 refine XS.isub X0.here hx rfl (dt56 hby 8 rfl :) rfl ?_
 refine qs X0 hx (l' := #[sI (Int32.ofNat t0), sI (4 : Int32), sR b, sI (1 : Int32), sI (1 : Int32), sI (16 : Int32), sI (15 : Int32)]) (dt56 hby 9 rfl :) rfl ?_
 refine qaN X0 hx (dt56 hby 10 rfl :) rfl rfl ?_
 refine XS.iinc X0.here hx rfl (dt56 hby 11 rfl :) rfl (l' := #[sI (Int32.ofNat t0), sI (4 : Int32), sR b, sI (1 : Int32), sI (0 : Int32), sI (16 : Int32), sI (15 : Int32)]) rfl ?_
 refine qi X0 hx (dt56 hby 12 rfl :) rfl ?_
 refine st2 _ ?_
 refine qiN X2 hx (dt56 hby 14 rfl :) rfl ?_
 refine qi X2 hx (dt56 hby 15 rfl :) rfl ?_
 refine XS.iand X2.here hx rfl (dt56 hby 16 rfl :) rfl ?_
 rw [show ((Int32.ofNat t0) &&& (15 : Int32)) = (Int32.ofNat (t0 % 16)) from own_m15 (by omega)]
 refine X2.caload hx (j := (Int32.ofNat (t0 % 16))) (v := (.int (own_hx ((Int32.ofNat (t0 % 16))).toNatClampNeg))) (by rw [e2]; exact Ao4.1) (State.isArrayOf_alike hZ.alike Ao4.2.1) Ao4.2.2 ib5 (Bo4 _ (Nat.lt_of_not_le fun q => ib5 (Or.inr q))) (g := (mkF m 27 #[sI (Int32.ofNat t0), sI (4 : Int32), sR b, sI (1 : Int32), sI (0 : Int32), sI (16 : Int32), sI (15 : Int32)] [(.int (Int32.ofNat (t0 % 16))), (.ref dg), (.int (0 : Int32)), (.ref b)])) rfl rfl (dt56 hby 17 rfl :) _ ?_
 rw [show (own_hx ((Int32.ofNat (t0 % 16))).toNatClampNeg) = (own_hx (t0 % 16)) from congrArg own_hx (own_in (by omega))]
 refine XS.i2b X2.here hx rfl (dt56 hby 18 rfl :) rfl ?_
 refine st7 _ ?_
 refine qiN X7 hx (dt56 hby 20 rfl :) rfl ?_
 refine qiN X7 hx (dt56 hby 21 rfl :) rfl ?_
 refine XS.iushr X7.here hx rfl (dt56 hby 22 rfl :) rfl ?_
 rw [show (((Int32.ofNat t0).toUInt32 >>> ((4 : Int32) &&& 31).toUInt32).toInt32) = (Int32.ofNat (t0 / 16)) from own_ush _ 4 rfl (by decide) (by omega)]
 refine qsN X7 hx (l' := #[sI (Int32.ofNat (t0 / 16)), sI (4 : Int32), sR b, sI (1 : Int32), sI (0 : Int32), sI (16 : Int32), sI (15 : Int32)]) (dt56 hby 23 rfl :) rfl ?_
 refine qi X7 hx (dt56 hby 24 rfl :) rfl ?_
 refine qfN X7 hx (dt56 hby 25 rfl :) ((if0 _ _).trans (flt (by decide : ¬ ((0 : Int32) < (0 : Int32)))).2.2.1) ?_
 exact X7.returnOut hx hR (dt56 hby 26 rfl :) hrt
def Q56_2 (Z : State) (b : Addr) (t0 : Nat) (f : Nat → Int32) (cs : Int32) (sv : Value) (dg : Addr) (h0 : Heap) (n0 : Nat) (v : Option Value) (h : Heap) (L : List Loc) : Prop := ∃ (g : Nat → Int32), v = none ∧ Fr n0 L ∧ Keep h0 h [b] ∧ own_Af Z h b .byte (Int32.ofNat 2) g ∧ (g 1 = own_lo (own_hx (t0 % 16)) ∧ g 0 = own_lo (own_hx ((t0 / 16) % 16)))
theorem rm56_2 (l : Launch) (Z : State) (a0 : Array Value) (hw : own_hw a0 Z) (b : Addr) (t0 : Nat) (f : Nat → Int32) (cs : Int32) (sv : Value) (dg : Addr) (h0 : Heap) (n0 : Nat) (Z0 : n0 ≤ h0.size) (HB0 : own_Af Z h0 b .byte (Int32.ofNat 2) f) (Hg1 : n0 ≤ b) (h2 : (t0 < 65536)) (hS : (own_ST Z cs sv dg)) (HO : Old Z n0 h0) :
 own_M l ym56 [Jvm.Cond.code ym56 cm56 7 none] (⟨0, 0, 0, 0⟩ : Room) #[(.int (Int32.ofNat t0)), (.int (4 : Int32)), (.ref b), (.int (2 : Int32))] Z h0 (Q56_2 Z b t0 f cs sv dg h0 n0) := by
 refine own_go n0 (F := fun m => mkF m 0 #[sI (Int32.ofNat t0), sI (4 : Int32), sR b, sI (2 : Int32), .unset, .unset, .unset] []) (plainFor_of_name pn_10) (fun m => rfl) ?_
 intro p e s m below meth c sq Pq hR hx hby hml hown hnm hZ hh hlk X0 e0 N0 pre0
 have F1 : Sta Z h0 "java/lang/Integer" "digits" "[C" (.ref dg) := (hS.2.2.2.2.2.1).ext HO.2
 obtain ⟨T2, X2, e2, st2⟩ := getS2 X0 hx hZ hown (host := "") (Or.inl (hw _ (wi 255 rfl))) Via.refl e0 F1 (g := (mkF m 20 #[sI (Int32.ofNat t0), sI (4 : Int32), sR b, sI (2 : Int32), sI (1 : Int32), sI (16 : Int32), sI (15 : Int32)] [(.int (1 : Int32)), (.ref b)])) rfl (dt56 hby 13 rfl :)
 have Fd3 : own_Af Z h0 dg .char (Int32.ofNat 36) own_hx := hS.2.2.2.2.2.2.ext HO.2
 obtain ⟨co4, Ao4, So4, Mo4, Bo4, Go4⟩ := Fd3.op
 have ib5 : ¬ ((Int32.ofNat (t0 % 16)) < 0 ∨ co4.slots.size ≤ ((Int32.ofNat (t0 % 16))).toNatClampNeg) := inb_of So4 ⟨own_i0 (by omega), own_ilt (by omega) (by omega) (by omega)⟩
 obtain ⟨co6, Ao6, So6, Mo6, Bo6, Go6⟩ := HB0.op
 obtain ⟨T7, h7, X7, e7, W7, st7⟩ := stB X2 hx hZ e2 Ao6 (j := (1 : Int32)) (inb_of So6 ⟨by decide, by decide⟩) (g := (mkF m 29 #[sI (Int32.ofNat t0), sI (4 : Int32), sR b, sI (2 : Int32), sI (1 : Int32), sI (16 : Int32), sI (15 : Int32)] [(.int ((own_hx (t0 % 16)).toInt8.toInt32)), (.int (1 : Int32)), (.ref b)])) rfl rfl (dt56 hby 19 rfl :)
 have V7 : own_Af Z h7 b .byte (Int32.ofNat 2) (own_sb f (1 : Int32) ((own_hx (t0 % 16)).toInt8.toInt32)) := own_Af.set Ao6 So6 Mo6 Bo6 Go6 (fits_nar_byte _) W7
 have F8 : Old Z n0 h7 := HO.wr W7 Hg1
 have K10 : Keep h0 h7 [b] := (Keep.refl h0 [b]).wr W7 (Or.inl (wi 0 rfl))
 have N11 := Fr.snoc X7 N0 Hg1
 have F12 : Sta Z h7 "java/lang/Integer" "digits" "[C" (.ref dg) := (hS.2.2.2.2.2.1).ext F8.2
 obtain ⟨T13, X13, e13, st13⟩ := getS2 X7 hx hZ hown (host := "") (Or.inl (hw _ (wi 255 rfl))) Via.refl e7 F12 (g := (mkF m 20 #[sI (Int32.ofNat (t0 / 16)), sI (4 : Int32), sR b, sI (2 : Int32), sI (0 : Int32), sI (16 : Int32), sI (15 : Int32)] [(.int (0 : Int32)), (.ref b)])) rfl (dt56 hby 13 rfl :)
 have Fd14 : own_Af Z h7 dg .char (Int32.ofNat 36) own_hx := hS.2.2.2.2.2.2.ext F8.2
 obtain ⟨co15, Ao15, So15, Mo15, Bo15, Go15⟩ := Fd14.op
 have ib16 : ¬ ((Int32.ofNat ((t0 / 16) % 16)) < 0 ∨ co15.slots.size ≤ ((Int32.ofNat ((t0 / 16) % 16))).toNatClampNeg) := inb_of So15 ⟨own_i0 (by omega), own_ilt (by omega) (by omega) (by omega)⟩
 obtain ⟨co17, Ao17, So17, Mo17, Bo17, Go17⟩ := V7.op
 obtain ⟨T18, h18, X18, e18, W18, st18⟩ := stB X13 hx hZ e13 Ao17 (j := (0 : Int32)) (inb_of So17 ⟨by decide, by decide⟩) (g := (mkF m 29 #[sI (Int32.ofNat (t0 / 16)), sI (4 : Int32), sR b, sI (2 : Int32), sI (0 : Int32), sI (16 : Int32), sI (15 : Int32)] [(.int ((own_hx ((t0 / 16) % 16)).toInt8.toInt32)), (.int (0 : Int32)), (.ref b)])) rfl rfl (dt56 hby 19 rfl :)
 have V18 : own_Af Z h18 b .byte (Int32.ofNat 2) (own_sb (own_sb f (1 : Int32) ((own_hx (t0 % 16)).toInt8.toInt32)) (0 : Int32) ((own_hx ((t0 / 16) % 16)).toInt8.toInt32)) := own_Af.set Ao17 So17 Mo17 Bo17 Go17 (fits_nar_byte _) W18
 have K21 : Keep h0 h18 [b] := K10.wr W18 (Or.inl (wi 0 rfl))
 have N22 := Fr.snoc X18 N11 Hg1
 refine own_fin X18 hlk (v := none) (fun _ => rfl) (by decide) (by decide) ?_ (fun fs hrt => pre0 _ ?_)
 ·
  show Q56_2 Z b t0 f cs sv dg h0 n0 _ T18.heap _
  rw [e18]
  exact ⟨(own_sb (own_sb f (1 : Int32) ((own_hx (t0 % 16)).toInt8.toInt32)) (0 : Int32) ((own_hx ((t0 / 16) % 16)).toInt8.toInt32)), rfl, N22, K21, V18, ⟨own_nb _, own_nb _⟩⟩
 refine qiN X0 hx (dt56 hby 0 rfl :) rfl ?_
 refine qs X0 hx (l' := #[sI (Int32.ofNat t0), sI (4 : Int32), sR b, sI (2 : Int32), sI (2 : Int32), .unset, .unset]) (dt56 hby 1 rfl :) rfl ?_
 refine qc X0 hx (1 : Int32) (dt56 hby 2 rfl :) rfl ?_
 refine qiN X0 hx (dt56 hby 3 rfl :) rfl ?_
 refine XS.ishl X0.here hx rfl (dt56 hby 4 rfl :) rfl ?_
 rw [show ((1 : Int32) <<< ((4 : Int32) &&& 31)) = (16 : Int32) from by decide]
 refine qs X0 hx (l' := #[sI (Int32.ofNat t0), sI (4 : Int32), sR b, sI (2 : Int32), sI (2 : Int32), sI (16 : Int32), .unset]) (dt56 hby 5 rfl :) rfl ?_
 refine qi X0 hx (dt56 hby 6 rfl :) rfl ?_
 refine qc X0 hx (1 : Int32) (dt56 hby 7 rfl :) rfl ?_
 refine XS.isub X0.here hx rfl (dt56 hby 8 rfl :) rfl ?_
 refine qs X0 hx (l' := #[sI (Int32.ofNat t0), sI (4 : Int32), sR b, sI (2 : Int32), sI (2 : Int32), sI (16 : Int32), sI (15 : Int32)]) (dt56 hby 9 rfl :) rfl ?_
 refine qaN X0 hx (dt56 hby 10 rfl :) rfl rfl ?_
 refine XS.iinc X0.here hx rfl (dt56 hby 11 rfl :) rfl (l' := #[sI (Int32.ofNat t0), sI (4 : Int32), sR b, sI (2 : Int32), sI (1 : Int32), sI (16 : Int32), sI (15 : Int32)]) rfl ?_
 refine qi X0 hx (dt56 hby 12 rfl :) rfl ?_
 refine st2 _ ?_
 refine qiN X2 hx (dt56 hby 14 rfl :) rfl ?_
 refine qi X2 hx (dt56 hby 15 rfl :) rfl ?_
 refine XS.iand X2.here hx rfl (dt56 hby 16 rfl :) rfl ?_
 rw [show ((Int32.ofNat t0) &&& (15 : Int32)) = (Int32.ofNat (t0 % 16)) from own_m15 (by omega)]
 refine X2.caload hx (j := (Int32.ofNat (t0 % 16))) (v := (.int (own_hx ((Int32.ofNat (t0 % 16))).toNatClampNeg))) (by rw [e2]; exact Ao4.1) (State.isArrayOf_alike hZ.alike Ao4.2.1) Ao4.2.2 ib5 (Bo4 _ (Nat.lt_of_not_le fun q => ib5 (Or.inr q))) (g := (mkF m 27 #[sI (Int32.ofNat t0), sI (4 : Int32), sR b, sI (2 : Int32), sI (1 : Int32), sI (16 : Int32), sI (15 : Int32)] [(.int (Int32.ofNat (t0 % 16))), (.ref dg), (.int (1 : Int32)), (.ref b)])) rfl rfl (dt56 hby 17 rfl :) _ ?_
 rw [show (own_hx ((Int32.ofNat (t0 % 16))).toNatClampNeg) = (own_hx (t0 % 16)) from congrArg own_hx (own_in (by omega))]
 refine XS.i2b X2.here hx rfl (dt56 hby 18 rfl :) rfl ?_
 refine st7 _ ?_
 refine qiN X7 hx (dt56 hby 20 rfl :) rfl ?_
 refine qiN X7 hx (dt56 hby 21 rfl :) rfl ?_
 refine XS.iushr X7.here hx rfl (dt56 hby 22 rfl :) rfl ?_
 rw [show (((Int32.ofNat t0).toUInt32 >>> ((4 : Int32) &&& 31).toUInt32).toInt32) = (Int32.ofNat (t0 / 16)) from own_ush _ 4 rfl (by decide) (by omega)]
 refine qsN X7 hx (l' := #[sI (Int32.ofNat (t0 / 16)), sI (4 : Int32), sR b, sI (2 : Int32), sI (1 : Int32), sI (16 : Int32), sI (15 : Int32)]) (dt56 hby 23 rfl :) rfl ?_
 refine qi X7 hx (dt56 hby 24 rfl :) rfl ?_
 refine qfY X7 hx 36 14 (dt56 hby 25 rfl :) ((if0 _ _).trans (tlt (by decide : (0 : Int32) < (1 : Int32))).2.2.1) (by decide) (by decide) ?_
 refine qaN X7 hx (dt56 hby 10 rfl :) rfl rfl ?_
 refine XS.iinc X7.here hx rfl (dt56 hby 11 rfl :) rfl (l' := #[sI (Int32.ofNat (t0 / 16)), sI (4 : Int32), sR b, sI (2 : Int32), sI (0 : Int32), sI (16 : Int32), sI (15 : Int32)]) rfl ?_
 refine qi X7 hx (dt56 hby 12 rfl :) rfl ?_
 refine st13 _ ?_
 refine qiN X13 hx (dt56 hby 14 rfl :) rfl ?_
 refine qi X13 hx (dt56 hby 15 rfl :) rfl ?_
 refine XS.iand X13.here hx rfl (dt56 hby 16 rfl :) rfl ?_
 rw [show ((Int32.ofNat (t0 / 16)) &&& (15 : Int32)) = (Int32.ofNat ((t0 / 16) % 16)) from own_m15 (by omega)]
 refine X13.caload hx (j := (Int32.ofNat ((t0 / 16) % 16))) (v := (.int (own_hx ((Int32.ofNat ((t0 / 16) % 16))).toNatClampNeg))) (by rw [e13]; exact Ao15.1) (State.isArrayOf_alike hZ.alike Ao15.2.1) Ao15.2.2 ib16 (Bo15 _ (Nat.lt_of_not_le fun q => ib16 (Or.inr q))) (g := (mkF m 27 #[sI (Int32.ofNat (t0 / 16)), sI (4 : Int32), sR b, sI (2 : Int32), sI (0 : Int32), sI (16 : Int32), sI (15 : Int32)] [(.int (Int32.ofNat ((t0 / 16) % 16))), (.ref dg), (.int (0 : Int32)), (.ref b)])) rfl rfl (dt56 hby 17 rfl :) _ ?_
 rw [show (own_hx ((Int32.ofNat ((t0 / 16) % 16))).toNatClampNeg) = (own_hx ((t0 / 16) % 16)) from congrArg own_hx (own_in (by omega))]
 refine XS.i2b X13.here hx rfl (dt56 hby 18 rfl :) rfl ?_
 refine st18 _ ?_
 refine qiN X18 hx (dt56 hby 20 rfl :) rfl ?_
 refine qiN X18 hx (dt56 hby 21 rfl :) rfl ?_
 refine XS.iushr X18.here hx rfl (dt56 hby 22 rfl :) rfl ?_
 rw [show (((Int32.ofNat (t0 / 16)).toUInt32 >>> ((4 : Int32) &&& 31).toUInt32).toInt32) = (Int32.ofNat ((t0 / 16) / 16)) from own_ush _ 4 rfl (by decide) (by omega)]
 refine qsN X18 hx (l' := #[sI (Int32.ofNat ((t0 / 16) / 16)), sI (4 : Int32), sR b, sI (2 : Int32), sI (0 : Int32), sI (16 : Int32), sI (15 : Int32)]) (dt56 hby 23 rfl :) rfl ?_
 refine qi X18 hx (dt56 hby 24 rfl :) rfl ?_
 refine qfN X18 hx (dt56 hby 25 rfl :) ((if0 _ _).trans (flt (by decide : ¬ ((0 : Int32) < (0 : Int32)))).2.2.1) ?_
 exact X18.returnOut hx hR (dt56 hby 26 rfl :) hrt
def Q56_4 (Z : State) (b : Addr) (t0 : Nat) (f : Nat → Int32) (cs : Int32) (sv : Value) (dg : Addr) (h0 : Heap) (n0 : Nat) (v : Option Value) (h : Heap) (L : List Loc) : Prop := ∃ (g : Nat → Int32), v = none ∧ Fr n0 L ∧ Keep h0 h [b] ∧ own_Af Z h b .byte (Int32.ofNat 4) g ∧ (g 3 = own_lo (own_hx (t0 % 16)) ∧ g 2 = own_lo (own_hx ((t0 / 16) % 16)) ∧ g 1 = own_lo (own_hx (((t0 / 16) / 16) % 16)) ∧ g 0 = own_lo (own_hx ((((t0 / 16) / 16) / 16) % 16)))
theorem rm56_4 (l : Launch) (Z : State) (a0 : Array Value) (hw : own_hw a0 Z) (b : Addr) (t0 : Nat) (f : Nat → Int32) (cs : Int32) (sv : Value) (dg : Addr) (h0 : Heap) (n0 : Nat) (Z0 : n0 ≤ h0.size) (HB0 : own_Af Z h0 b .byte (Int32.ofNat 4) f) (Hg1 : n0 ≤ b) (h2 : (t0 < 65536)) (hS : (own_ST Z cs sv dg)) (HO : Old Z n0 h0) :
 own_M l ym56 [Jvm.Cond.code ym56 cm56 7 none] (⟨0, 0, 0, 0⟩ : Room) #[(.int (Int32.ofNat t0)), (.int (4 : Int32)), (.ref b), (.int (4 : Int32))] Z h0 (Q56_4 Z b t0 f cs sv dg h0 n0) := by
 refine own_go n0 (F := fun m => mkF m 0 #[sI (Int32.ofNat t0), sI (4 : Int32), sR b, sI (4 : Int32), .unset, .unset, .unset] []) (plainFor_of_name pn_10) (fun m => rfl) ?_
 intro p e s m below meth c sq Pq hR hx hby hml hown hnm hZ hh hlk X0 e0 N0 pre0
 have F1 : Sta Z h0 "java/lang/Integer" "digits" "[C" (.ref dg) := (hS.2.2.2.2.2.1).ext HO.2
 obtain ⟨T2, X2, e2, st2⟩ := getS2 X0 hx hZ hown (host := "") (Or.inl (hw _ (wi 255 rfl))) Via.refl e0 F1 (g := (mkF m 20 #[sI (Int32.ofNat t0), sI (4 : Int32), sR b, sI (4 : Int32), sI (3 : Int32), sI (16 : Int32), sI (15 : Int32)] [(.int (3 : Int32)), (.ref b)])) rfl (dt56 hby 13 rfl :)
 have Fd3 : own_Af Z h0 dg .char (Int32.ofNat 36) own_hx := hS.2.2.2.2.2.2.ext HO.2
 obtain ⟨co4, Ao4, So4, Mo4, Bo4, Go4⟩ := Fd3.op
 have ib5 : ¬ ((Int32.ofNat (t0 % 16)) < 0 ∨ co4.slots.size ≤ ((Int32.ofNat (t0 % 16))).toNatClampNeg) := inb_of So4 ⟨own_i0 (by omega), own_ilt (by omega) (by omega) (by omega)⟩
 obtain ⟨co6, Ao6, So6, Mo6, Bo6, Go6⟩ := HB0.op
 obtain ⟨T7, h7, X7, e7, W7, st7⟩ := stB X2 hx hZ e2 Ao6 (j := (3 : Int32)) (inb_of So6 ⟨by decide, by decide⟩) (g := (mkF m 29 #[sI (Int32.ofNat t0), sI (4 : Int32), sR b, sI (4 : Int32), sI (3 : Int32), sI (16 : Int32), sI (15 : Int32)] [(.int ((own_hx (t0 % 16)).toInt8.toInt32)), (.int (3 : Int32)), (.ref b)])) rfl rfl (dt56 hby 19 rfl :)
 have V7 : own_Af Z h7 b .byte (Int32.ofNat 4) (own_sb f (3 : Int32) ((own_hx (t0 % 16)).toInt8.toInt32)) := own_Af.set Ao6 So6 Mo6 Bo6 Go6 (fits_nar_byte _) W7
 have F8 : Old Z n0 h7 := HO.wr W7 Hg1
 have K10 : Keep h0 h7 [b] := (Keep.refl h0 [b]).wr W7 (Or.inl (wi 0 rfl))
 have N11 := Fr.snoc X7 N0 Hg1
 have F12 : Sta Z h7 "java/lang/Integer" "digits" "[C" (.ref dg) := (hS.2.2.2.2.2.1).ext F8.2
 obtain ⟨T13, X13, e13, st13⟩ := getS2 X7 hx hZ hown (host := "") (Or.inl (hw _ (wi 255 rfl))) Via.refl e7 F12 (g := (mkF m 20 #[sI (Int32.ofNat (t0 / 16)), sI (4 : Int32), sR b, sI (4 : Int32), sI (2 : Int32), sI (16 : Int32), sI (15 : Int32)] [(.int (2 : Int32)), (.ref b)])) rfl (dt56 hby 13 rfl :)
 have Fd14 : own_Af Z h7 dg .char (Int32.ofNat 36) own_hx := hS.2.2.2.2.2.2.ext F8.2
 obtain ⟨co15, Ao15, So15, Mo15, Bo15, Go15⟩ := Fd14.op
 have ib16 : ¬ ((Int32.ofNat ((t0 / 16) % 16)) < 0 ∨ co15.slots.size ≤ ((Int32.ofNat ((t0 / 16) % 16))).toNatClampNeg) := inb_of So15 ⟨own_i0 (by omega), own_ilt (by omega) (by omega) (by omega)⟩
 obtain ⟨co17, Ao17, So17, Mo17, Bo17, Go17⟩ := V7.op
 obtain ⟨T18, h18, X18, e18, W18, st18⟩ := stB X13 hx hZ e13 Ao17 (j := (2 : Int32)) (inb_of So17 ⟨by decide, by decide⟩) (g := (mkF m 29 #[sI (Int32.ofNat (t0 / 16)), sI (4 : Int32), sR b, sI (4 : Int32), sI (2 : Int32), sI (16 : Int32), sI (15 : Int32)] [(.int ((own_hx ((t0 / 16) % 16)).toInt8.toInt32)), (.int (2 : Int32)), (.ref b)])) rfl rfl (dt56 hby 19 rfl :)
 have V18 : own_Af Z h18 b .byte (Int32.ofNat 4) (own_sb (own_sb f (3 : Int32) ((own_hx (t0 % 16)).toInt8.toInt32)) (2 : Int32) ((own_hx ((t0 / 16) % 16)).toInt8.toInt32)) := own_Af.set Ao17 So17 Mo17 Bo17 Go17 (fits_nar_byte _) W18
 have F19 : Old Z n0 h18 := F8.wr W18 Hg1
 have K21 : Keep h0 h18 [b] := K10.wr W18 (Or.inl (wi 0 rfl))
 have N22 := Fr.snoc X18 N11 Hg1
 have F23 : Sta Z h18 "java/lang/Integer" "digits" "[C" (.ref dg) := (hS.2.2.2.2.2.1).ext F19.2
 obtain ⟨T24, X24, e24, st24⟩ := getS2 X18 hx hZ hown (host := "") (Or.inl (hw _ (wi 255 rfl))) Via.refl e18 F23 (g := (mkF m 20 #[sI (Int32.ofNat ((t0 / 16) / 16)), sI (4 : Int32), sR b, sI (4 : Int32), sI (1 : Int32), sI (16 : Int32), sI (15 : Int32)] [(.int (1 : Int32)), (.ref b)])) rfl (dt56 hby 13 rfl :)
 have Fd25 : own_Af Z h18 dg .char (Int32.ofNat 36) own_hx := hS.2.2.2.2.2.2.ext F19.2
 obtain ⟨co26, Ao26, So26, Mo26, Bo26, Go26⟩ := Fd25.op
 have ib27 : ¬ ((Int32.ofNat (((t0 / 16) / 16) % 16)) < 0 ∨ co26.slots.size ≤ ((Int32.ofNat (((t0 / 16) / 16) % 16))).toNatClampNeg) := inb_of So26 ⟨own_i0 (by omega), own_ilt (by omega) (by omega) (by omega)⟩
 obtain ⟨co28, Ao28, So28, Mo28, Bo28, Go28⟩ := V18.op
 obtain ⟨T29, h29, X29, e29, W29, st29⟩ := stB X24 hx hZ e24 Ao28 (j := (1 : Int32)) (inb_of So28 ⟨by decide, by decide⟩) (g := (mkF m 29 #[sI (Int32.ofNat ((t0 / 16) / 16)), sI (4 : Int32), sR b, sI (4 : Int32), sI (1 : Int32), sI (16 : Int32), sI (15 : Int32)] [(.int ((own_hx (((t0 / 16) / 16) % 16)).toInt8.toInt32)), (.int (1 : Int32)), (.ref b)])) rfl rfl (dt56 hby 19 rfl :)
 have V29 : own_Af Z h29 b .byte (Int32.ofNat 4) (own_sb (own_sb (own_sb f (3 : Int32) ((own_hx (t0 % 16)).toInt8.toInt32)) (2 : Int32) ((own_hx ((t0 / 16) % 16)).toInt8.toInt32)) (1 : Int32) ((own_hx (((t0 / 16) / 16) % 16)).toInt8.toInt32)) := own_Af.set Ao28 So28 Mo28 Bo28 Go28 (fits_nar_byte _) W29
 have F30 : Old Z n0 h29 := F19.wr W29 Hg1
 have K32 : Keep h0 h29 [b] := K21.wr W29 (Or.inl (wi 0 rfl))
 have N33 := Fr.snoc X29 N22 Hg1
 have F34 : Sta Z h29 "java/lang/Integer" "digits" "[C" (.ref dg) := (hS.2.2.2.2.2.1).ext F30.2
 obtain ⟨T35, X35, e35, st35⟩ := getS2 X29 hx hZ hown (host := "") (Or.inl (hw _ (wi 255 rfl))) Via.refl e29 F34 (g := (mkF m 20 #[sI (Int32.ofNat (((t0 / 16) / 16) / 16)), sI (4 : Int32), sR b, sI (4 : Int32), sI (0 : Int32), sI (16 : Int32), sI (15 : Int32)] [(.int (0 : Int32)), (.ref b)])) rfl (dt56 hby 13 rfl :)
 have Fd36 : own_Af Z h29 dg .char (Int32.ofNat 36) own_hx := hS.2.2.2.2.2.2.ext F30.2
 obtain ⟨co37, Ao37, So37, Mo37, Bo37, Go37⟩ := Fd36.op
 have ib38 : ¬ ((Int32.ofNat ((((t0 / 16) / 16) / 16) % 16)) < 0 ∨ co37.slots.size ≤ ((Int32.ofNat ((((t0 / 16) / 16) / 16) % 16))).toNatClampNeg) := inb_of So37 ⟨own_i0 (by omega), own_ilt (by omega) (by omega) (by omega)⟩
 obtain ⟨co39, Ao39, So39, Mo39, Bo39, Go39⟩ := V29.op
 obtain ⟨T40, h40, X40, e40, W40, st40⟩ := stB X35 hx hZ e35 Ao39 (j := (0 : Int32)) (inb_of So39 ⟨by decide, by decide⟩) (g := (mkF m 29 #[sI (Int32.ofNat (((t0 / 16) / 16) / 16)), sI (4 : Int32), sR b, sI (4 : Int32), sI (0 : Int32), sI (16 : Int32), sI (15 : Int32)] [(.int ((own_hx ((((t0 / 16) / 16) / 16) % 16)).toInt8.toInt32)), (.int (0 : Int32)), (.ref b)])) rfl rfl (dt56 hby 19 rfl :)
 have V40 : own_Af Z h40 b .byte (Int32.ofNat 4) (own_sb (own_sb (own_sb (own_sb f (3 : Int32) ((own_hx (t0 % 16)).toInt8.toInt32)) (2 : Int32) ((own_hx ((t0 / 16) % 16)).toInt8.toInt32)) (1 : Int32) ((own_hx (((t0 / 16) / 16) % 16)).toInt8.toInt32)) (0 : Int32) ((own_hx ((((t0 / 16) / 16) / 16) % 16)).toInt8.toInt32)) := own_Af.set Ao39 So39 Mo39 Bo39 Go39 (fits_nar_byte _) W40
 have K43 : Keep h0 h40 [b] := K32.wr W40 (Or.inl (wi 0 rfl))
 have N44 := Fr.snoc X40 N33 Hg1
 refine own_fin X40 hlk (v := none) (fun _ => rfl) (by decide) (by decide) ?_ (fun fs hrt => pre0 _ ?_)
 ·
  show Q56_4 Z b t0 f cs sv dg h0 n0 _ T40.heap _
  rw [e40]
  exact ⟨(own_sb (own_sb (own_sb (own_sb f (3 : Int32) ((own_hx (t0 % 16)).toInt8.toInt32)) (2 : Int32) ((own_hx ((t0 / 16) % 16)).toInt8.toInt32)) (1 : Int32) ((own_hx (((t0 / 16) / 16) % 16)).toInt8.toInt32)) (0 : Int32) ((own_hx ((((t0 / 16) / 16) / 16) % 16)).toInt8.toInt32)), rfl, N44, K43, V40, ⟨own_nb _, own_nb _, own_nb _, own_nb _⟩⟩
 refine qiN X0 hx (dt56 hby 0 rfl :) rfl ?_
 refine qs X0 hx (l' := #[sI (Int32.ofNat t0), sI (4 : Int32), sR b, sI (4 : Int32), sI (4 : Int32), .unset, .unset]) (dt56 hby 1 rfl :) rfl ?_
 refine qc X0 hx (1 : Int32) (dt56 hby 2 rfl :) rfl ?_
 refine qiN X0 hx (dt56 hby 3 rfl :) rfl ?_
 refine XS.ishl X0.here hx rfl (dt56 hby 4 rfl :) rfl ?_
 rw [show ((1 : Int32) <<< ((4 : Int32) &&& 31)) = (16 : Int32) from by decide]
 refine qs X0 hx (l' := #[sI (Int32.ofNat t0), sI (4 : Int32), sR b, sI (4 : Int32), sI (4 : Int32), sI (16 : Int32), .unset]) (dt56 hby 5 rfl :) rfl ?_
 refine qi X0 hx (dt56 hby 6 rfl :) rfl ?_
 refine qc X0 hx (1 : Int32) (dt56 hby 7 rfl :) rfl ?_
 refine XS.isub X0.here hx rfl (dt56 hby 8 rfl :) rfl ?_
 refine qs X0 hx (l' := #[sI (Int32.ofNat t0), sI (4 : Int32), sR b, sI (4 : Int32), sI (4 : Int32), sI (16 : Int32), sI (15 : Int32)]) (dt56 hby 9 rfl :) rfl ?_
 refine qaN X0 hx (dt56 hby 10 rfl :) rfl rfl ?_
 refine XS.iinc X0.here hx rfl (dt56 hby 11 rfl :) rfl (l' := #[sI (Int32.ofNat t0), sI (4 : Int32), sR b, sI (4 : Int32), sI (3 : Int32), sI (16 : Int32), sI (15 : Int32)]) rfl ?_
 refine qi X0 hx (dt56 hby 12 rfl :) rfl ?_
 refine st2 _ ?_
 refine qiN X2 hx (dt56 hby 14 rfl :) rfl ?_
 refine qi X2 hx (dt56 hby 15 rfl :) rfl ?_
 refine XS.iand X2.here hx rfl (dt56 hby 16 rfl :) rfl ?_
 rw [show ((Int32.ofNat t0) &&& (15 : Int32)) = (Int32.ofNat (t0 % 16)) from own_m15 (by omega)]
 refine X2.caload hx (j := (Int32.ofNat (t0 % 16))) (v := (.int (own_hx ((Int32.ofNat (t0 % 16))).toNatClampNeg))) (by rw [e2]; exact Ao4.1) (State.isArrayOf_alike hZ.alike Ao4.2.1) Ao4.2.2 ib5 (Bo4 _ (Nat.lt_of_not_le fun q => ib5 (Or.inr q))) (g := (mkF m 27 #[sI (Int32.ofNat t0), sI (4 : Int32), sR b, sI (4 : Int32), sI (3 : Int32), sI (16 : Int32), sI (15 : Int32)] [(.int (Int32.ofNat (t0 % 16))), (.ref dg), (.int (3 : Int32)), (.ref b)])) rfl rfl (dt56 hby 17 rfl :) _ ?_
 rw [show (own_hx ((Int32.ofNat (t0 % 16))).toNatClampNeg) = (own_hx (t0 % 16)) from congrArg own_hx (own_in (by omega))]
 refine XS.i2b X2.here hx rfl (dt56 hby 18 rfl :) rfl ?_
 refine st7 _ ?_
 refine qiN X7 hx (dt56 hby 20 rfl :) rfl ?_
 refine qiN X7 hx (dt56 hby 21 rfl :) rfl ?_
 refine XS.iushr X7.here hx rfl (dt56 hby 22 rfl :) rfl ?_
 rw [show (((Int32.ofNat t0).toUInt32 >>> ((4 : Int32) &&& 31).toUInt32).toInt32) = (Int32.ofNat (t0 / 16)) from own_ush _ 4 rfl (by decide) (by omega)]
 refine qsN X7 hx (l' := #[sI (Int32.ofNat (t0 / 16)), sI (4 : Int32), sR b, sI (4 : Int32), sI (3 : Int32), sI (16 : Int32), sI (15 : Int32)]) (dt56 hby 23 rfl :) rfl ?_
 refine qi X7 hx (dt56 hby 24 rfl :) rfl ?_
 refine qfY X7 hx 36 14 (dt56 hby 25 rfl :) ((if0 _ _).trans (tlt (by decide : (0 : Int32) < (3 : Int32))).2.2.1) (by decide) (by decide) ?_
 refine qaN X7 hx (dt56 hby 10 rfl :) rfl rfl ?_
 refine XS.iinc X7.here hx rfl (dt56 hby 11 rfl :) rfl (l' := #[sI (Int32.ofNat (t0 / 16)), sI (4 : Int32), sR b, sI (4 : Int32), sI (2 : Int32), sI (16 : Int32), sI (15 : Int32)]) rfl ?_
 refine qi X7 hx (dt56 hby 12 rfl :) rfl ?_
 refine st13 _ ?_
 refine qiN X13 hx (dt56 hby 14 rfl :) rfl ?_
 refine qi X13 hx (dt56 hby 15 rfl :) rfl ?_
 refine XS.iand X13.here hx rfl (dt56 hby 16 rfl :) rfl ?_
 rw [show ((Int32.ofNat (t0 / 16)) &&& (15 : Int32)) = (Int32.ofNat ((t0 / 16) % 16)) from own_m15 (by omega)]
 refine X13.caload hx (j := (Int32.ofNat ((t0 / 16) % 16))) (v := (.int (own_hx ((Int32.ofNat ((t0 / 16) % 16))).toNatClampNeg))) (by rw [e13]; exact Ao15.1) (State.isArrayOf_alike hZ.alike Ao15.2.1) Ao15.2.2 ib16 (Bo15 _ (Nat.lt_of_not_le fun q => ib16 (Or.inr q))) (g := (mkF m 27 #[sI (Int32.ofNat (t0 / 16)), sI (4 : Int32), sR b, sI (4 : Int32), sI (2 : Int32), sI (16 : Int32), sI (15 : Int32)] [(.int (Int32.ofNat ((t0 / 16) % 16))), (.ref dg), (.int (2 : Int32)), (.ref b)])) rfl rfl (dt56 hby 17 rfl :) _ ?_
 rw [show (own_hx ((Int32.ofNat ((t0 / 16) % 16))).toNatClampNeg) = (own_hx ((t0 / 16) % 16)) from congrArg own_hx (own_in (by omega))]
 refine XS.i2b X13.here hx rfl (dt56 hby 18 rfl :) rfl ?_
 refine st18 _ ?_
 refine qiN X18 hx (dt56 hby 20 rfl :) rfl ?_
 refine qiN X18 hx (dt56 hby 21 rfl :) rfl ?_
 refine XS.iushr X18.here hx rfl (dt56 hby 22 rfl :) rfl ?_
 rw [show (((Int32.ofNat (t0 / 16)).toUInt32 >>> ((4 : Int32) &&& 31).toUInt32).toInt32) = (Int32.ofNat ((t0 / 16) / 16)) from own_ush _ 4 rfl (by decide) (by omega)]
 refine qsN X18 hx (l' := #[sI (Int32.ofNat ((t0 / 16) / 16)), sI (4 : Int32), sR b, sI (4 : Int32), sI (2 : Int32), sI (16 : Int32), sI (15 : Int32)]) (dt56 hby 23 rfl :) rfl ?_
 refine qi X18 hx (dt56 hby 24 rfl :) rfl ?_
 refine qfY X18 hx 36 14 (dt56 hby 25 rfl :) ((if0 _ _).trans (tlt (by decide : (0 : Int32) < (2 : Int32))).2.2.1) (by decide) (by decide) ?_
 refine qaN X18 hx (dt56 hby 10 rfl :) rfl rfl ?_
 refine XS.iinc X18.here hx rfl (dt56 hby 11 rfl :) rfl (l' := #[sI (Int32.ofNat ((t0 / 16) / 16)), sI (4 : Int32), sR b, sI (4 : Int32), sI (1 : Int32), sI (16 : Int32), sI (15 : Int32)]) rfl ?_
 refine qi X18 hx (dt56 hby 12 rfl :) rfl ?_
 refine st24 _ ?_
 refine qiN X24 hx (dt56 hby 14 rfl :) rfl ?_
 refine qi X24 hx (dt56 hby 15 rfl :) rfl ?_
 refine XS.iand X24.here hx rfl (dt56 hby 16 rfl :) rfl ?_
 rw [show ((Int32.ofNat ((t0 / 16) / 16)) &&& (15 : Int32)) = (Int32.ofNat (((t0 / 16) / 16) % 16)) from own_m15 (by omega)]
 refine X24.caload hx (j := (Int32.ofNat (((t0 / 16) / 16) % 16))) (v := (.int (own_hx ((Int32.ofNat (((t0 / 16) / 16) % 16))).toNatClampNeg))) (by rw [e24]; exact Ao26.1) (State.isArrayOf_alike hZ.alike Ao26.2.1) Ao26.2.2 ib27 (Bo26 _ (Nat.lt_of_not_le fun q => ib27 (Or.inr q))) (g := (mkF m 27 #[sI (Int32.ofNat ((t0 / 16) / 16)), sI (4 : Int32), sR b, sI (4 : Int32), sI (1 : Int32), sI (16 : Int32), sI (15 : Int32)] [(.int (Int32.ofNat (((t0 / 16) / 16) % 16))), (.ref dg), (.int (1 : Int32)), (.ref b)])) rfl rfl (dt56 hby 17 rfl :) _ ?_
 rw [show (own_hx ((Int32.ofNat (((t0 / 16) / 16) % 16))).toNatClampNeg) = (own_hx (((t0 / 16) / 16) % 16)) from congrArg own_hx (own_in (by omega))]
 refine XS.i2b X24.here hx rfl (dt56 hby 18 rfl :) rfl ?_
 refine st29 _ ?_
 refine qiN X29 hx (dt56 hby 20 rfl :) rfl ?_
 refine qiN X29 hx (dt56 hby 21 rfl :) rfl ?_
 refine XS.iushr X29.here hx rfl (dt56 hby 22 rfl :) rfl ?_
 rw [show (((Int32.ofNat ((t0 / 16) / 16)).toUInt32 >>> ((4 : Int32) &&& 31).toUInt32).toInt32) = (Int32.ofNat (((t0 / 16) / 16) / 16)) from own_ush _ 4 rfl (by decide) (by omega)]
 refine qsN X29 hx (l' := #[sI (Int32.ofNat (((t0 / 16) / 16) / 16)), sI (4 : Int32), sR b, sI (4 : Int32), sI (1 : Int32), sI (16 : Int32), sI (15 : Int32)]) (dt56 hby 23 rfl :) rfl ?_
 refine qi X29 hx (dt56 hby 24 rfl :) rfl ?_
 refine qfY X29 hx 36 14 (dt56 hby 25 rfl :) ((if0 _ _).trans (tlt (by decide : (0 : Int32) < (1 : Int32))).2.2.1) (by decide) (by decide) ?_
 refine qaN X29 hx (dt56 hby 10 rfl :) rfl rfl ?_
 refine XS.iinc X29.here hx rfl (dt56 hby 11 rfl :) rfl (l' := #[sI (Int32.ofNat (((t0 / 16) / 16) / 16)), sI (4 : Int32), sR b, sI (4 : Int32), sI (0 : Int32), sI (16 : Int32), sI (15 : Int32)]) rfl ?_
 refine qi X29 hx (dt56 hby 12 rfl :) rfl ?_
 refine st35 _ ?_
 refine qiN X35 hx (dt56 hby 14 rfl :) rfl ?_
 refine qi X35 hx (dt56 hby 15 rfl :) rfl ?_
 refine XS.iand X35.here hx rfl (dt56 hby 16 rfl :) rfl ?_
 rw [show ((Int32.ofNat (((t0 / 16) / 16) / 16)) &&& (15 : Int32)) = (Int32.ofNat ((((t0 / 16) / 16) / 16) % 16)) from own_m15 (by omega)]
 refine X35.caload hx (j := (Int32.ofNat ((((t0 / 16) / 16) / 16) % 16))) (v := (.int (own_hx ((Int32.ofNat ((((t0 / 16) / 16) / 16) % 16))).toNatClampNeg))) (by rw [e35]; exact Ao37.1) (State.isArrayOf_alike hZ.alike Ao37.2.1) Ao37.2.2 ib38 (Bo37 _ (Nat.lt_of_not_le fun q => ib38 (Or.inr q))) (g := (mkF m 27 #[sI (Int32.ofNat (((t0 / 16) / 16) / 16)), sI (4 : Int32), sR b, sI (4 : Int32), sI (0 : Int32), sI (16 : Int32), sI (15 : Int32)] [(.int (Int32.ofNat ((((t0 / 16) / 16) / 16) % 16))), (.ref dg), (.int (0 : Int32)), (.ref b)])) rfl rfl (dt56 hby 17 rfl :) _ ?_
 rw [show (own_hx ((Int32.ofNat ((((t0 / 16) / 16) / 16) % 16))).toNatClampNeg) = (own_hx ((((t0 / 16) / 16) / 16) % 16)) from congrArg own_hx (own_in (by omega))]
 refine XS.i2b X35.here hx rfl (dt56 hby 18 rfl :) rfl ?_
 refine st40 _ ?_
 refine qiN X40 hx (dt56 hby 20 rfl :) rfl ?_
 refine qiN X40 hx (dt56 hby 21 rfl :) rfl ?_
 refine XS.iushr X40.here hx rfl (dt56 hby 22 rfl :) rfl ?_
 rw [show (((Int32.ofNat (((t0 / 16) / 16) / 16)).toUInt32 >>> ((4 : Int32) &&& 31).toUInt32).toInt32) = (Int32.ofNat ((((t0 / 16) / 16) / 16) / 16)) from own_ush _ 4 rfl (by decide) (by omega)]
 refine qsN X40 hx (l' := #[sI (Int32.ofNat ((((t0 / 16) / 16) / 16) / 16)), sI (4 : Int32), sR b, sI (4 : Int32), sI (0 : Int32), sI (16 : Int32), sI (15 : Int32)]) (dt56 hby 23 rfl :) rfl ?_
 refine qi X40 hx (dt56 hby 24 rfl :) rfl ?_
 refine qfN X40 hx (dt56 hby 25 rfl :) ((if0 _ _).trans (flt (by decide : ¬ ((0 : Int32) < (0 : Int32)))).2.2.1) ?_
 exact X40.returnOut hx hR (dt56 hby 26 rfl :) hrt
theorem own_fu1 {t : Nat} {g : Nat → Int32} (h : t < 16) (v : g 0 = own_lo (own_hx (t % 16))) : own_lat (own_hs t) g := own_lat_hs (ht := by omega) (by
  rw [own_hs1 h]
  intro j hj
  obtain rfl : j = 0 := by simp at hj; omega
  rw [v, Nat.mod_eq_of_lt h]; rfl)
theorem own_fu2 {t : Nat} {g : Nat → Int32} (h : ¬ t < 16) (h2 : t < 256) (v : g 1 = own_lo (own_hx (t % 16)) ∧ g 0 = own_lo (own_hx (t / 16 % 16))) : own_lat (own_hs t) g := own_lat_hs (ht := by omega) (by
  rw [own_hs2 h h2]
  intro j hj
  match j, hj with
  | 0, _ => rw [v.2, Nat.mod_eq_of_lt (by omega)]; rfl
  | 1, _ => rw [v.1]; rfl
  | j + 2, hj => exact absurd hj (by simp))
theorem own_fu4 {t : Nat} {g : Nat → Int32} (h : ¬ t < 256) (h2 : t < 65536) (v : g 3 = own_lo (own_hx (t % 16)) ∧ g 2 = own_lo (own_hx (t / 16 % 16)) ∧ g 1 = own_lo (own_hx (t / 16 / 16 % 16)) ∧ g 0 = own_lo (own_hx (t / 16 / 16 / 16 % 16))) : own_lat (own_hs t) g := own_lat_hs (ht := h2) (by
  rw [own_hs4 h]
  intro j hj
  match j, hj with
  | 0, _ => rw [v.2.2.2, show t / 16 / 16 / 16 % 16 = t / 4096 by omega]; rfl
  | 1, _ => rw [v.2.2.1, show t / 16 / 16 % 16 = t / 256 % 16 by omega]; rfl
  | 2, _ => rw [v.2.1]; rfl
  | 3, _ => rw [v.1]; rfl
  | j + 4, hj => exact absurd hj (by simp [own_h4]))
theorem pd_36 : parseMethodDescriptor "(II[BI)V" = some ⟨[.int, .int, (.array .byte), .int], none⟩ := by decide +kernel
def Q53_1 (Z : State) (t0 : Nat) (cs : Int32) (sv : Value) (dg : Addr) (h0 : Heap) (n0 : Nat) (v : Option Value) (h : Heap) (L : List Loc) : Prop := ∃ (a2 : Addr) (b2 : Addr), v = some (.ref a2) ∧ Fr n0 L ∧ Keep h0 h [] ∧ n0 ≤ a2 ∧ h0.size ≤ a2 ∧ n0 ≤ b2 ∧ h0.size ≤ b2 ∧ own_Ls Z h a2 b2 (own_hs t0)
theorem rm53_1 (l : Launch) (Z : State) (a0 : Array Value) (hw : own_hw a0 Z) (t0 : Nat) (cs : Int32) (sv : Value) (dg : Addr) (h0 : Heap) (n0 : Nat) (Z0 : n0 ≤ h0.size) (h1 : (t0 < 16)) (hS : (own_ST Z cs sv dg)) (HO : Old Z n0 h0) :
 own_M l ym53 [Jvm.Cond.code ym53 cm53 5 (some (.object "java/lang/String"))] (⟨2, 2, 5, 27⟩ : Room) #[(.int (Int32.ofNat t0)), (.int (4 : Int32))] Z h0 (Q53_1 Z t0 cs sv dg h0 n0) := by
 refine own_go n0 (F := fun m => mkF m 0 #[sI (Int32.ofNat t0), sI (4 : Int32), .unset, .unset, .unset] []) (plainFor_of_name pn_10) (fun m => rfl) ?_
 intro p e s m below meth c sq Pq hR hx hby hml hown hnm hZ hh hlk X0 e0 N0 pre0
 obtain ⟨_, _, ⟨T2, L2, k2, n2⟩, -, X2, ⟨Lc2, hQ2, l2, y2, z2⟩, st2⟩ := Jvm.LawKit.callS X0 hx (y := ym54) hown (mw hZ hw 243 rfl) (mw hZ hw 244 rfl) (mw hZ hw 238 rfl) (mw hZ hw 245 rfl) (by decide) (backOf (W := 1) (rm54 l Z a0 hw t0 h0 n0 Z0 (by omega)) hZ (hw _ (wi 245 rfl)) (hw _ (wi 238 rfl)) (by decide) (by decide)) (g := (mkF m 3 #[sI (Int32.ofNat t0), sI (4 : Int32), .unset, .unset, .unset] [(.int (Int32.ofNat t0)), (.int (32 : Int32))])) rfl (by rw [hml]; rfl) (argsL := [(.int (Int32.ofNat t0))]) (rest := [(.int (32 : Int32))]) (lenOf pd_6 rfl) rfl (Nat.le_refl _) (dt53 hby 2 rfl :) (fun _ _ => ⟨rfl, e0, (by decide : 0 + 0 ≤ _), (by decide : 0 + 0 ≤ _)⟩)
 dsimp only [Pt.U, Pt.locs, Pt.cells, Pt.slots] at X2 l2 y2 z2 st2 hQ2
 subst l2 y2 z2
 obtain ⟨r3, rfl, N2q, R4, R5⟩ := hQ2
 have N2 := Fr.app N0 N2q
 obtain ⟨_, _, ⟨T6, L6, k6, n6⟩, -, X6, ⟨Lc6, hQ6, l6, y6, z6⟩, st6⟩ := Jvm.LawKit.callS X2 hx (y := ym55) hown (mw hZ hw 247 rfl) (mw hZ hw 248 rfl) (mw hZ hw 249 rfl) (mw hZ hw 250 rfl) (by decide) (backOf (W := 0) (rm55 l Z a0 hw ((((32 : Int32) - r3) + (3 : Int32)) / (4 : Int32)) (1 : Int32) h0 n0 Z0 ) hZ (hw _ (wi 250 rfl)) (hw _ (wi 249 rfl)) (by decide) (by decide)) (g := (mkF m 16 #[sI (Int32.ofNat t0), sI (4 : Int32), sI ((32 : Int32) - r3), .unset, .unset] [(.int (1 : Int32)), (.int ((((32 : Int32) - r3) + (3 : Int32)) / (4 : Int32)))])) rfl (by rw [hml]; rfl) (argsL := [(.int ((((32 : Int32) - r3) + (3 : Int32)) / (4 : Int32))), (.int (1 : Int32))]) (rest := []) (lenOf pd_10 rfl) rfl (Nat.le_refl _) (dt53 hby 13 rfl :) (fun _ _ => ⟨rfl, R5, (by decide : 0 + 0 ≤ _), (by decide : 0 + 0 ≤ _)⟩)
 dsimp only [Pt.U, Pt.locs, Pt.cells, Pt.slots] at X6 l6 y6 z6 st6 hQ6
 subst l6 y6 z6
 obtain ⟨r7, rfl, N6q, R8, R9⟩ := hQ6
 have N6 := Fr.app N2 N6q
 have hb := R4.1 h1
 have hr : r7 = (1 : Int32) := own_mx (k := 1) rfl (by decide) (by omega) (by omega) R8
 have F10 : Sta Z h0 "java/lang/String" "COMPACT_STRINGS" "Z" (.int cs) := (hS.1.1).ext HO.2
 obtain ⟨T11, X11, e11, st11⟩ := getS2 X6 hx hZ hown (host := "") (Or.inl (hw _ (wi 251 rfl))) Via.refl R9 F10 (g := (mkF m 20 #[sI (Int32.ofNat t0), sI (4 : Int32), sI ((32 : Int32) - r3), sI (1 : Int32), .unset] [])) rfl (dt53 hby 15 rfl :)
 have hc23_12 : ¬ (cs = (0 : Int32)) := hS.1.2
 obtain ⟨T13, h13, k13, X13, e13, E13, A13, Y13, st13⟩ := newPE X11 hx hZ (hw _ (wi 7 rfl)) e11 (g := (mkF m 27 #[sI (Int32.ofNat t0), sI (4 : Int32), sI ((32 : Int32) - r3), sI (1 : Int32), .unset] [(.int (1 : Int32))])) rfl (dt53 hby 18 rfl :) rfl (by decide) (cap := 1) (by decide) (by decide) (by decide) (by decide) (ad := "[B") (by decide)
 obtain ⟨b13, g13⟩ : ∃ z, z = h0.size := ⟨_, rfl⟩
 rw [← g13] at A13 st13 Y13
 have g_b13 : n0 ≤ b13 := Nat.le_trans Z0 (Nat.le_of_eq g13.symm)
 have sz_b13 : h0.size ≤ b13 := Nat.le_trans (Keep.refl h0 []).1 (Nat.le_of_eq g13.symm)
 have F14 : Old Z n0 h13 := HO.ext E13
 have Z15 : n0 ≤ h13.size := Nat.le_trans Z0 E13.1
 have K16 : Keep h0 h13 [] := (Keep.refl h0 []).ext E13
 have V13 : own_Af Z h13 b13 .byte (1 : Int32) (fun _ => 0) := own_Af.new A13 (by decide) rfl
 obtain ⟨_, _, ⟨T18, L18, k18, n18⟩, -, X18, ⟨Lc18, hQ18, l18, y18, z18⟩, st18⟩ := Jvm.LawKit.callS X13 hx (y := ym56) hown (mw hZ hw 252 rfl) (mw hZ hw 253 rfl) (mw hZ hw 238 rfl) (mw hZ hw 254 rfl) (by decide) (backOf (W := 0) (rm56_1 l Z a0 hw b13 t0 (fun _ => (0 : Int32)) cs sv dg h13 n0 Z15 V13 g_b13 (by omega) hS F14) hZ (hw _ (wi 254 rfl)) (hw _ (wi 238 rfl)) (by decide) (by decide)) (g := (mkF m 36 #[sI (Int32.ofNat t0), sI (4 : Int32), sI ((32 : Int32) - r3), sI (1 : Int32), sR b13] [(.int (1 : Int32)), (.ref b13), (.int (4 : Int32)), (.int (Int32.ofNat t0))])) rfl (by rw [hml]; rfl) (argsL := [(.int (Int32.ofNat t0)), (.int (4 : Int32)), (.ref b13), (.int (1 : Int32))]) (rest := []) (lenOf pd_36 rfl) rfl (Nat.le_refl _) (dt53 hby 24 rfl :) (fun _ _ => ⟨rfl, e13, (by decide : 1 + 0 ≤ _), (by decide : 1 + 0 ≤ _)⟩)
 dsimp only [Pt.U, Pt.locs, Pt.cells, Pt.slots] at X18 l18 y18 z18 st18 hQ18
 subst l18 y18 z18
 obtain ⟨g19, rfl, N18q, R20, R21, R22⟩ := hQ18
 have N18 := Fr.app N6 N18q
 have F24 : eA Z T18.heap b13 := Y13.keep R20
 have Z25 : n0 ≤ T18.heap.size := Nat.le_trans Z15 R20.1
 have K26 : Keep h0 T18.heap [] := K16.trans R20 (allS (Or.inr sz_b13) all0)
 obtain ⟨T27, h27, X27, e27, E27, A27, D27, -, st27⟩ := newO X18 hx hZ hown (hw _ (wi 256 rfl)) (hw _ (wi 6 rfl)) (hw _ (wi 5 rfl)) rfl (g := (mkF m 39 #[sI (Int32.ofNat t0), sI (4 : Int32), sI ((32 : Int32) - r3), sI (1 : Int32), sR b13] [])) rfl (dt53 hby 25 rfl :) (by decide) (by decide)
 obtain ⟨b27, g27⟩ : ∃ z, z = T18.heap.size := ⟨_, rfl⟩
 rw [← g27] at A27 D27 st27
 have ne28 : b13 ≠ b27 := Nat.ne_of_lt (Nat.lt_of_lt_of_le F24.lt (Nat.le_of_eq g27.symm))
 have g_b27 : n0 ≤ b27 := Nat.le_trans Z25 (Nat.le_of_eq g27.symm)
 have sz_b27 : h0.size ≤ b27 := Nat.le_trans K26.1 (Nat.le_of_eq g27.symm)
 have F31 : own_Af Z h27 b13 .byte (Int32.ofNat 1) g19 := R21.ext E27
 have Z32 : n0 ≤ h27.size := Nat.le_trans Z25 E27.1
 have K33 : Keep h0 h27 [] := K26.ext E27
 have F34 : fSv Z h27 b27 .null := D27 (Or.inr (hw _ (wi 8 rfl))) (ty := (.array .byte)) (by decide)
 have F35 : fSc Z h27 b27 (.int (0 : Int32)) := D27 (Or.inr (hw _ (wi 9 rfl))) (ty := .byte) (by decide)
 obtain ⟨_, _, ⟨T36, L36, k36, n36⟩, -, X36, ⟨Lc36, hQ36, l36, y36, z36⟩, st36⟩ := X27.specialBack hx (y := ym51) rfl hown (mw hZ hw 257 rfl) (mw hZ hw 234 rfl) (mw hZ hw 235 rfl) (by decide) (backOf (W := 1) (rm51_0 l Z a0 hw b27 b13 h27 n0 Z32 A27 g_b27 F34 F35) hZ (hw _ (wi 235 rfl)) (hw _ (wi 5 rfl)) (by decide) (by decide)) (g := (mkF m 46 #[sI (Int32.ofNat t0), sI (4 : Int32), sI ((32 : Int32) - r3), sI (1 : Int32), sR b13] [(.int (0 : Int32)), (.ref b13), (.ref b27), (.ref b27)])) rfl (by rw [hml]; rfl) (Steps.refl _) (a := b27) (argsL := [(.ref b13), (.int (0 : Int32))]) (rest := [(.ref b27)]) (lenOf pd_18 rfl) rfl (Nat.le_refl _) (dt53 hby 29 rfl :) (fun _ _ => ⟨rfl, e27, (by decide : 2 + 0 ≤ _), (by decide : 5 + 0 ≤ _)⟩)
 dsimp only [Pt.U, Pt.locs, Pt.cells, Pt.slots] at X36 l36 y36 z36 st36 hQ36
 subst l36 y36 z36
 obtain ⟨rfl, N36q, R37, R38, R39, R40⟩ := hQ36
 have N36 := Fr.app N18 N36q
 have F43 : own_Af Z T36.heap b13 .byte (Int32.ofNat 1) g19 := F31.keep R37 (ninS ne28 nin0)
 have K46 : Keep h0 T36.heap [] := K33.trans R37 (allS (Or.inr sz_b27) all0)
 have hlen : (own_hs t0).length = 1 := by rw [own_hs1 h1]; rfl
 have Sq : own_Ls Z T36.heap b27 b13 (own_hs t0) := ⟨g19, R38, R39, R40, by rw [hlen]; exact F43, own_fu1 h1 R22, by omega⟩
 refine own_fin X36 hlk (v := some (.ref b27)) (own_nv hR) (by decide) (by decide) ?_ (fun fs hrt => pre0 _ ?_)
 ·
  show Q53_1 Z t0 cs sv dg h0 n0 _ T36.heap _
  exact ⟨b27, b13, rfl, N36, K46, g_b27, sz_b27, g_b13, sz_b13, Sq⟩
 refine qb X0 hx (32 : Int32) (dt53 hby 0 rfl :) rfl ?_
 refine qiN X0 hx (dt53 hby 1 rfl :) rfl ?_
 refine st2 _ ?_
 refine XS.isub X2.here hx rfl (dt53 hby 3 rfl :) rfl ?_
 refine qsN X2 hx (l' := #[sI (Int32.ofNat t0), sI (4 : Int32), sI ((32 : Int32) - r3), .unset, .unset]) (dt53 hby 4 rfl :) rfl ?_
 refine qiN X2 hx (dt53 hby 5 rfl :) rfl ?_
 refine qiN X2 hx (dt53 hby 6 rfl :) rfl ?_
 refine qc X2 hx (1 : Int32) (dt53 hby 7 rfl :) rfl ?_
 refine XS.isub X2.here hx rfl (dt53 hby 8 rfl :) rfl ?_
 refine XS.iadd X2.here hx rfl (dt53 hby 9 rfl :) rfl ?_
 refine qiN X2 hx (dt53 hby 10 rfl :) rfl ?_
 refine XS.idiv X2.here hx rfl (dt53 hby 11 rfl :) rfl (by decide) ?_
 refine qc X2 hx (1 : Int32) (dt53 hby 12 rfl :) rfl ?_
 refine st6 _ ?_
 rw [show r7 = (1 : Int32) from hr]
 refine qsN X6 hx (l' := #[sI (Int32.ofNat t0), sI (4 : Int32), sI ((32 : Int32) - r3), sI (1 : Int32), .unset]) (dt53 hby 14 rfl :) rfl ?_
 refine st11 _ ?_
 refine qfN X11 hx (dt53 hby 16 rfl :) ((if0 _ _).trans (feq hc23_12).1) ?_
 refine qiN X11 hx (dt53 hby 17 rfl :) rfl ?_
 refine st13 _ ?_
 refine qt X13 hx (l' := #[sI (Int32.ofNat t0), sI (4 : Int32), sI ((32 : Int32) - r3), sI (1 : Int32), sR b13]) (dt53 hby 19 rfl :) rfl rfl ?_
 refine qiN X13 hx (dt53 hby 20 rfl :) rfl ?_
 refine qiN X13 hx (dt53 hby 21 rfl :) rfl ?_
 refine qa X13 hx (dt53 hby 22 rfl :) rfl rfl ?_
 refine qiN X13 hx (dt53 hby 23 rfl :) rfl ?_
 refine st18 _ ?_
 refine st27 _ ?_
 refine XS.dup X27.here hx rfl (dt53 hby 26 rfl :) rfl rfl ?_
 refine qa X27 hx (dt53 hby 27 rfl :) rfl rfl ?_
 refine qc X27 hx (0 : Int32) (dt53 hby 28 rfl :) rfl ?_
 refine st36.trans ?_
 exact retOut X36 hx hR rfl (Or.inr (Or.inr (Or.inr (Or.inr ⟨rfl, rfl, rfl⟩)))) (dt53 hby 30 rfl :) hrt
def Q53_2 (Z : State) (t0 : Nat) (cs : Int32) (sv : Value) (dg : Addr) (h0 : Heap) (n0 : Nat) (v : Option Value) (h : Heap) (L : List Loc) : Prop := ∃ (a2 : Addr) (b2 : Addr), v = some (.ref a2) ∧ Fr n0 L ∧ Keep h0 h [] ∧ n0 ≤ a2 ∧ h0.size ≤ a2 ∧ n0 ≤ b2 ∧ h0.size ≤ b2 ∧ own_Ls Z h a2 b2 (own_hs t0)
theorem rm53_2 (l : Launch) (Z : State) (a0 : Array Value) (hw : own_hw a0 Z) (t0 : Nat) (cs : Int32) (sv : Value) (dg : Addr) (h0 : Heap) (n0 : Nat) (Z0 : n0 ≤ h0.size) (hq0 : (¬ t0 < 16)) (h1 : (t0 < 256)) (hS : (own_ST Z cs sv dg)) (HO : Old Z n0 h0) :
 own_M l ym53 [Jvm.Cond.code ym53 cm53 5 (some (.object "java/lang/String"))] (⟨2, 2, 6, 27⟩ : Room) #[(.int (Int32.ofNat t0)), (.int (4 : Int32))] Z h0 (Q53_2 Z t0 cs sv dg h0 n0) := by
 refine own_go n0 (F := fun m => mkF m 0 #[sI (Int32.ofNat t0), sI (4 : Int32), .unset, .unset, .unset] []) (plainFor_of_name pn_10) (fun m => rfl) ?_
 intro p e s m below meth c sq Pq hR hx hby hml hown hnm hZ hh hlk X0 e0 N0 pre0
 obtain ⟨_, _, ⟨T2, L2, k2, n2⟩, -, X2, ⟨Lc2, hQ2, l2, y2, z2⟩, st2⟩ := Jvm.LawKit.callS X0 hx (y := ym54) hown (mw hZ hw 243 rfl) (mw hZ hw 244 rfl) (mw hZ hw 238 rfl) (mw hZ hw 245 rfl) (by decide) (backOf (W := 1) (rm54 l Z a0 hw t0 h0 n0 Z0 (by omega)) hZ (hw _ (wi 245 rfl)) (hw _ (wi 238 rfl)) (by decide) (by decide)) (g := (mkF m 3 #[sI (Int32.ofNat t0), sI (4 : Int32), .unset, .unset, .unset] [(.int (Int32.ofNat t0)), (.int (32 : Int32))])) rfl (by rw [hml]; rfl) (argsL := [(.int (Int32.ofNat t0))]) (rest := [(.int (32 : Int32))]) (lenOf pd_6 rfl) rfl (Nat.le_refl _) (dt53 hby 2 rfl :) (fun _ _ => ⟨rfl, e0, (by decide : 0 + 0 ≤ _), (by decide : 0 + 0 ≤ _)⟩)
 dsimp only [Pt.U, Pt.locs, Pt.cells, Pt.slots] at X2 l2 y2 z2 st2 hQ2
 subst l2 y2 z2
 obtain ⟨r3, rfl, N2q, R4, R5⟩ := hQ2
 have N2 := Fr.app N0 N2q
 obtain ⟨_, _, ⟨T6, L6, k6, n6⟩, -, X6, ⟨Lc6, hQ6, l6, y6, z6⟩, st6⟩ := Jvm.LawKit.callS X2 hx (y := ym55) hown (mw hZ hw 247 rfl) (mw hZ hw 248 rfl) (mw hZ hw 249 rfl) (mw hZ hw 250 rfl) (by decide) (backOf (W := 0) (rm55 l Z a0 hw ((((32 : Int32) - r3) + (3 : Int32)) / (4 : Int32)) (1 : Int32) h0 n0 Z0 ) hZ (hw _ (wi 250 rfl)) (hw _ (wi 249 rfl)) (by decide) (by decide)) (g := (mkF m 16 #[sI (Int32.ofNat t0), sI (4 : Int32), sI ((32 : Int32) - r3), .unset, .unset] [(.int (1 : Int32)), (.int ((((32 : Int32) - r3) + (3 : Int32)) / (4 : Int32)))])) rfl (by rw [hml]; rfl) (argsL := [(.int ((((32 : Int32) - r3) + (3 : Int32)) / (4 : Int32))), (.int (1 : Int32))]) (rest := []) (lenOf pd_10 rfl) rfl (Nat.le_refl _) (dt53 hby 13 rfl :) (fun _ _ => ⟨rfl, R5, (by decide : 0 + 0 ≤ _), (by decide : 0 + 0 ≤ _)⟩)
 dsimp only [Pt.U, Pt.locs, Pt.cells, Pt.slots] at X6 l6 y6 z6 st6 hQ6
 subst l6 y6 z6
 obtain ⟨r7, rfl, N6q, R8, R9⟩ := hQ6
 have N6 := Fr.app N2 N6q
 have hb := R4.2.1 (by omega) h1
 have hr : r7 = (2 : Int32) := own_mx (k := 2) rfl (by decide) (by omega) (by omega) R8
 have F10 : Sta Z h0 "java/lang/String" "COMPACT_STRINGS" "Z" (.int cs) := (hS.1.1).ext HO.2
 obtain ⟨T11, X11, e11, st11⟩ := getS2 X6 hx hZ hown (host := "") (Or.inl (hw _ (wi 251 rfl))) Via.refl R9 F10 (g := (mkF m 20 #[sI (Int32.ofNat t0), sI (4 : Int32), sI ((32 : Int32) - r3), sI (2 : Int32), .unset] [])) rfl (dt53 hby 15 rfl :)
 have hc23_12 : ¬ (cs = (0 : Int32)) := hS.1.2
 obtain ⟨T13, h13, k13, X13, e13, E13, A13, Y13, st13⟩ := newPE X11 hx hZ (hw _ (wi 7 rfl)) e11 (g := (mkF m 27 #[sI (Int32.ofNat t0), sI (4 : Int32), sI ((32 : Int32) - r3), sI (2 : Int32), .unset] [(.int (2 : Int32))])) rfl (dt53 hby 18 rfl :) rfl (by decide) (cap := 2) (by decide) (by decide) (by decide) (by decide) (ad := "[B") (by decide)
 obtain ⟨b13, g13⟩ : ∃ z, z = h0.size := ⟨_, rfl⟩
 rw [← g13] at A13 st13 Y13
 have g_b13 : n0 ≤ b13 := Nat.le_trans Z0 (Nat.le_of_eq g13.symm)
 have sz_b13 : h0.size ≤ b13 := Nat.le_trans (Keep.refl h0 []).1 (Nat.le_of_eq g13.symm)
 have F14 : Old Z n0 h13 := HO.ext E13
 have Z15 : n0 ≤ h13.size := Nat.le_trans Z0 E13.1
 have K16 : Keep h0 h13 [] := (Keep.refl h0 []).ext E13
 have V13 : own_Af Z h13 b13 .byte (2 : Int32) (fun _ => 0) := own_Af.new A13 (by decide) rfl
 obtain ⟨_, _, ⟨T18, L18, k18, n18⟩, -, X18, ⟨Lc18, hQ18, l18, y18, z18⟩, st18⟩ := Jvm.LawKit.callS X13 hx (y := ym56) hown (mw hZ hw 252 rfl) (mw hZ hw 253 rfl) (mw hZ hw 238 rfl) (mw hZ hw 254 rfl) (by decide) (backOf (W := 0) (rm56_2 l Z a0 hw b13 t0 (fun _ => (0 : Int32)) cs sv dg h13 n0 Z15 V13 g_b13 (by omega) hS F14) hZ (hw _ (wi 254 rfl)) (hw _ (wi 238 rfl)) (by decide) (by decide)) (g := (mkF m 36 #[sI (Int32.ofNat t0), sI (4 : Int32), sI ((32 : Int32) - r3), sI (2 : Int32), sR b13] [(.int (2 : Int32)), (.ref b13), (.int (4 : Int32)), (.int (Int32.ofNat t0))])) rfl (by rw [hml]; rfl) (argsL := [(.int (Int32.ofNat t0)), (.int (4 : Int32)), (.ref b13), (.int (2 : Int32))]) (rest := []) (lenOf pd_36 rfl) rfl (Nat.le_refl _) (dt53 hby 24 rfl :) (fun _ _ => ⟨rfl, e13, (by decide : 1 + 0 ≤ _), (by decide : 2 + 0 ≤ _)⟩)
 dsimp only [Pt.U, Pt.locs, Pt.cells, Pt.slots] at X18 l18 y18 z18 st18 hQ18
 subst l18 y18 z18
 obtain ⟨g19, rfl, N18q, R20, R21, R22⟩ := hQ18
 have N18 := Fr.app N6 N18q
 have F24 : eA Z T18.heap b13 := Y13.keep R20
 have Z25 : n0 ≤ T18.heap.size := Nat.le_trans Z15 R20.1
 have K26 : Keep h0 T18.heap [] := K16.trans R20 (allS (Or.inr sz_b13) all0)
 obtain ⟨T27, h27, X27, e27, E27, A27, D27, -, st27⟩ := newO X18 hx hZ hown (hw _ (wi 256 rfl)) (hw _ (wi 6 rfl)) (hw _ (wi 5 rfl)) rfl (g := (mkF m 39 #[sI (Int32.ofNat t0), sI (4 : Int32), sI ((32 : Int32) - r3), sI (2 : Int32), sR b13] [])) rfl (dt53 hby 25 rfl :) (by decide) (by decide)
 obtain ⟨b27, g27⟩ : ∃ z, z = T18.heap.size := ⟨_, rfl⟩
 rw [← g27] at A27 D27 st27
 have ne28 : b13 ≠ b27 := Nat.ne_of_lt (Nat.lt_of_lt_of_le F24.lt (Nat.le_of_eq g27.symm))
 have g_b27 : n0 ≤ b27 := Nat.le_trans Z25 (Nat.le_of_eq g27.symm)
 have sz_b27 : h0.size ≤ b27 := Nat.le_trans K26.1 (Nat.le_of_eq g27.symm)
 have F31 : own_Af Z h27 b13 .byte (Int32.ofNat 2) g19 := R21.ext E27
 have Z32 : n0 ≤ h27.size := Nat.le_trans Z25 E27.1
 have K33 : Keep h0 h27 [] := K26.ext E27
 have F34 : fSv Z h27 b27 .null := D27 (Or.inr (hw _ (wi 8 rfl))) (ty := (.array .byte)) (by decide)
 have F35 : fSc Z h27 b27 (.int (0 : Int32)) := D27 (Or.inr (hw _ (wi 9 rfl))) (ty := .byte) (by decide)
 obtain ⟨_, _, ⟨T36, L36, k36, n36⟩, -, X36, ⟨Lc36, hQ36, l36, y36, z36⟩, st36⟩ := X27.specialBack hx (y := ym51) rfl hown (mw hZ hw 257 rfl) (mw hZ hw 234 rfl) (mw hZ hw 235 rfl) (by decide) (backOf (W := 1) (rm51_0 l Z a0 hw b27 b13 h27 n0 Z32 A27 g_b27 F34 F35) hZ (hw _ (wi 235 rfl)) (hw _ (wi 5 rfl)) (by decide) (by decide)) (g := (mkF m 46 #[sI (Int32.ofNat t0), sI (4 : Int32), sI ((32 : Int32) - r3), sI (2 : Int32), sR b13] [(.int (0 : Int32)), (.ref b13), (.ref b27), (.ref b27)])) rfl (by rw [hml]; rfl) (Steps.refl _) (a := b27) (argsL := [(.ref b13), (.int (0 : Int32))]) (rest := [(.ref b27)]) (lenOf pd_18 rfl) rfl (Nat.le_refl _) (dt53 hby 29 rfl :) (fun _ _ => ⟨rfl, e27, (by decide : 2 + 0 ≤ _), (by decide : 6 + 0 ≤ _)⟩)
 dsimp only [Pt.U, Pt.locs, Pt.cells, Pt.slots] at X36 l36 y36 z36 st36 hQ36
 subst l36 y36 z36
 obtain ⟨rfl, N36q, R37, R38, R39, R40⟩ := hQ36
 have N36 := Fr.app N18 N36q
 have F43 : own_Af Z T36.heap b13 .byte (Int32.ofNat 2) g19 := F31.keep R37 (ninS ne28 nin0)
 have K46 : Keep h0 T36.heap [] := K33.trans R37 (allS (Or.inr sz_b27) all0)
 have hlen : (own_hs t0).length = 2 := by rw [own_hs2 hq0 h1]; rfl
 have Sq : own_Ls Z T36.heap b27 b13 (own_hs t0) := ⟨g19, R38, R39, R40, by rw [hlen]; exact F43, own_fu2 hq0 h1 R22, by omega⟩
 refine own_fin X36 hlk (v := some (.ref b27)) (own_nv hR) (by decide) (by decide) ?_ (fun fs hrt => pre0 _ ?_)
 ·
  show Q53_2 Z t0 cs sv dg h0 n0 _ T36.heap _
  exact ⟨b27, b13, rfl, N36, K46, g_b27, sz_b27, g_b13, sz_b13, Sq⟩
 refine qb X0 hx (32 : Int32) (dt53 hby 0 rfl :) rfl ?_
 refine qiN X0 hx (dt53 hby 1 rfl :) rfl ?_
 refine st2 _ ?_
 refine XS.isub X2.here hx rfl (dt53 hby 3 rfl :) rfl ?_
 refine qsN X2 hx (l' := #[sI (Int32.ofNat t0), sI (4 : Int32), sI ((32 : Int32) - r3), .unset, .unset]) (dt53 hby 4 rfl :) rfl ?_
 refine qiN X2 hx (dt53 hby 5 rfl :) rfl ?_
 refine qiN X2 hx (dt53 hby 6 rfl :) rfl ?_
 refine qc X2 hx (1 : Int32) (dt53 hby 7 rfl :) rfl ?_
 refine XS.isub X2.here hx rfl (dt53 hby 8 rfl :) rfl ?_
 refine XS.iadd X2.here hx rfl (dt53 hby 9 rfl :) rfl ?_
 refine qiN X2 hx (dt53 hby 10 rfl :) rfl ?_
 refine XS.idiv X2.here hx rfl (dt53 hby 11 rfl :) rfl (by decide) ?_
 refine qc X2 hx (1 : Int32) (dt53 hby 12 rfl :) rfl ?_
 refine st6 _ ?_
 rw [show r7 = (2 : Int32) from hr]
 refine qsN X6 hx (l' := #[sI (Int32.ofNat t0), sI (4 : Int32), sI ((32 : Int32) - r3), sI (2 : Int32), .unset]) (dt53 hby 14 rfl :) rfl ?_
 refine st11 _ ?_
 refine qfN X11 hx (dt53 hby 16 rfl :) ((if0 _ _).trans (feq hc23_12).1) ?_
 refine qiN X11 hx (dt53 hby 17 rfl :) rfl ?_
 refine st13 _ ?_
 refine qt X13 hx (l' := #[sI (Int32.ofNat t0), sI (4 : Int32), sI ((32 : Int32) - r3), sI (2 : Int32), sR b13]) (dt53 hby 19 rfl :) rfl rfl ?_
 refine qiN X13 hx (dt53 hby 20 rfl :) rfl ?_
 refine qiN X13 hx (dt53 hby 21 rfl :) rfl ?_
 refine qa X13 hx (dt53 hby 22 rfl :) rfl rfl ?_
 refine qiN X13 hx (dt53 hby 23 rfl :) rfl ?_
 refine st18 _ ?_
 refine st27 _ ?_
 refine XS.dup X27.here hx rfl (dt53 hby 26 rfl :) rfl rfl ?_
 refine qa X27 hx (dt53 hby 27 rfl :) rfl rfl ?_
 refine qc X27 hx (0 : Int32) (dt53 hby 28 rfl :) rfl ?_
 refine st36.trans ?_
 exact retOut X36 hx hR rfl (Or.inr (Or.inr (Or.inr (Or.inr ⟨rfl, rfl, rfl⟩)))) (dt53 hby 30 rfl :) hrt
def Q53_4 (Z : State) (t0 : Nat) (cs : Int32) (sv : Value) (dg : Addr) (h0 : Heap) (n0 : Nat) (v : Option Value) (h : Heap) (L : List Loc) : Prop := ∃ (a2 : Addr) (b2 : Addr), v = some (.ref a2) ∧ Fr n0 L ∧ Keep h0 h [] ∧ n0 ≤ a2 ∧ h0.size ≤ a2 ∧ n0 ≤ b2 ∧ h0.size ≤ b2 ∧ own_Ls Z h a2 b2 (own_hs t0)
theorem rm53_4 (l : Launch) (Z : State) (a0 : Array Value) (hw : own_hw a0 Z) (t0 : Nat) (cs : Int32) (sv : Value) (dg : Addr) (h0 : Heap) (n0 : Nat) (Z0 : n0 ≤ h0.size) (hq0 : (¬ t0 < 256)) (h3 : (4096 ≤ t0)) (h1 : (t0 < 65536)) (hS : (own_ST Z cs sv dg)) (HO : Old Z n0 h0) :
 own_M l ym53 [Jvm.Cond.code ym53 cm53 5 (some (.object "java/lang/String"))] (⟨2, 2, 8, 27⟩ : Room) #[(.int (Int32.ofNat t0)), (.int (4 : Int32))] Z h0 (Q53_4 Z t0 cs sv dg h0 n0) := by
 refine own_go n0 (F := fun m => mkF m 0 #[sI (Int32.ofNat t0), sI (4 : Int32), .unset, .unset, .unset] []) (plainFor_of_name pn_10) (fun m => rfl) ?_
 intro p e s m below meth c sq Pq hR hx hby hml hown hnm hZ hh hlk X0 e0 N0 pre0
 obtain ⟨_, _, ⟨T2, L2, k2, n2⟩, -, X2, ⟨Lc2, hQ2, l2, y2, z2⟩, st2⟩ := Jvm.LawKit.callS X0 hx (y := ym54) hown (mw hZ hw 243 rfl) (mw hZ hw 244 rfl) (mw hZ hw 238 rfl) (mw hZ hw 245 rfl) (by decide) (backOf (W := 1) (rm54 l Z a0 hw t0 h0 n0 Z0 (by omega)) hZ (hw _ (wi 245 rfl)) (hw _ (wi 238 rfl)) (by decide) (by decide)) (g := (mkF m 3 #[sI (Int32.ofNat t0), sI (4 : Int32), .unset, .unset, .unset] [(.int (Int32.ofNat t0)), (.int (32 : Int32))])) rfl (by rw [hml]; rfl) (argsL := [(.int (Int32.ofNat t0))]) (rest := [(.int (32 : Int32))]) (lenOf pd_6 rfl) rfl (Nat.le_refl _) (dt53 hby 2 rfl :) (fun _ _ => ⟨rfl, e0, (by decide : 0 + 0 ≤ _), (by decide : 0 + 0 ≤ _)⟩)
 dsimp only [Pt.U, Pt.locs, Pt.cells, Pt.slots] at X2 l2 y2 z2 st2 hQ2
 subst l2 y2 z2
 obtain ⟨r3, rfl, N2q, R4, R5⟩ := hQ2
 have N2 := Fr.app N0 N2q
 obtain ⟨_, _, ⟨T6, L6, k6, n6⟩, -, X6, ⟨Lc6, hQ6, l6, y6, z6⟩, st6⟩ := Jvm.LawKit.callS X2 hx (y := ym55) hown (mw hZ hw 247 rfl) (mw hZ hw 248 rfl) (mw hZ hw 249 rfl) (mw hZ hw 250 rfl) (by decide) (backOf (W := 0) (rm55 l Z a0 hw ((((32 : Int32) - r3) + (3 : Int32)) / (4 : Int32)) (1 : Int32) h0 n0 Z0 ) hZ (hw _ (wi 250 rfl)) (hw _ (wi 249 rfl)) (by decide) (by decide)) (g := (mkF m 16 #[sI (Int32.ofNat t0), sI (4 : Int32), sI ((32 : Int32) - r3), .unset, .unset] [(.int (1 : Int32)), (.int ((((32 : Int32) - r3) + (3 : Int32)) / (4 : Int32)))])) rfl (by rw [hml]; rfl) (argsL := [(.int ((((32 : Int32) - r3) + (3 : Int32)) / (4 : Int32))), (.int (1 : Int32))]) (rest := []) (lenOf pd_10 rfl) rfl (Nat.le_refl _) (dt53 hby 13 rfl :) (fun _ _ => ⟨rfl, R5, (by decide : 0 + 0 ≤ _), (by decide : 0 + 0 ≤ _)⟩)
 dsimp only [Pt.U, Pt.locs, Pt.cells, Pt.slots] at X6 l6 y6 z6 st6 hQ6
 subst l6 y6 z6
 obtain ⟨r7, rfl, N6q, R8, R9⟩ := hQ6
 have N6 := Fr.app N2 N6q
 have hb := R4.2.2 h3
 have hr : r7 = (4 : Int32) := own_mx (k := 4) rfl (by decide) (by omega) (by omega) R8
 have F10 : Sta Z h0 "java/lang/String" "COMPACT_STRINGS" "Z" (.int cs) := (hS.1.1).ext HO.2
 obtain ⟨T11, X11, e11, st11⟩ := getS2 X6 hx hZ hown (host := "") (Or.inl (hw _ (wi 251 rfl))) Via.refl R9 F10 (g := (mkF m 20 #[sI (Int32.ofNat t0), sI (4 : Int32), sI ((32 : Int32) - r3), sI (4 : Int32), .unset] [])) rfl (dt53 hby 15 rfl :)
 have hc23_12 : ¬ (cs = (0 : Int32)) := hS.1.2
 obtain ⟨T13, h13, k13, X13, e13, E13, A13, Y13, st13⟩ := newPE X11 hx hZ (hw _ (wi 7 rfl)) e11 (g := (mkF m 27 #[sI (Int32.ofNat t0), sI (4 : Int32), sI ((32 : Int32) - r3), sI (4 : Int32), .unset] [(.int (4 : Int32))])) rfl (dt53 hby 18 rfl :) rfl (by decide) (cap := 4) (by decide) (by decide) (by decide) (by decide) (ad := "[B") (by decide)
 obtain ⟨b13, g13⟩ : ∃ z, z = h0.size := ⟨_, rfl⟩
 rw [← g13] at A13 st13 Y13
 have g_b13 : n0 ≤ b13 := Nat.le_trans Z0 (Nat.le_of_eq g13.symm)
 have sz_b13 : h0.size ≤ b13 := Nat.le_trans (Keep.refl h0 []).1 (Nat.le_of_eq g13.symm)
 have F14 : Old Z n0 h13 := HO.ext E13
 have Z15 : n0 ≤ h13.size := Nat.le_trans Z0 E13.1
 have K16 : Keep h0 h13 [] := (Keep.refl h0 []).ext E13
 have V13 : own_Af Z h13 b13 .byte (4 : Int32) (fun _ => 0) := own_Af.new A13 (by decide) rfl
 obtain ⟨_, _, ⟨T18, L18, k18, n18⟩, -, X18, ⟨Lc18, hQ18, l18, y18, z18⟩, st18⟩ := Jvm.LawKit.callS X13 hx (y := ym56) hown (mw hZ hw 252 rfl) (mw hZ hw 253 rfl) (mw hZ hw 238 rfl) (mw hZ hw 254 rfl) (by decide) (backOf (W := 0) (rm56_4 l Z a0 hw b13 t0 (fun _ => (0 : Int32)) cs sv dg h13 n0 Z15 V13 g_b13 (by omega) hS F14) hZ (hw _ (wi 254 rfl)) (hw _ (wi 238 rfl)) (by decide) (by decide)) (g := (mkF m 36 #[sI (Int32.ofNat t0), sI (4 : Int32), sI ((32 : Int32) - r3), sI (4 : Int32), sR b13] [(.int (4 : Int32)), (.ref b13), (.int (4 : Int32)), (.int (Int32.ofNat t0))])) rfl (by rw [hml]; rfl) (argsL := [(.int (Int32.ofNat t0)), (.int (4 : Int32)), (.ref b13), (.int (4 : Int32))]) (rest := []) (lenOf pd_36 rfl) rfl (Nat.le_refl _) (dt53 hby 24 rfl :) (fun _ _ => ⟨rfl, e13, (by decide : 1 + 0 ≤ _), (by decide : 4 + 0 ≤ _)⟩)
 dsimp only [Pt.U, Pt.locs, Pt.cells, Pt.slots] at X18 l18 y18 z18 st18 hQ18
 subst l18 y18 z18
 obtain ⟨g19, rfl, N18q, R20, R21, R22⟩ := hQ18
 have N18 := Fr.app N6 N18q
 have F24 : eA Z T18.heap b13 := Y13.keep R20
 have Z25 : n0 ≤ T18.heap.size := Nat.le_trans Z15 R20.1
 have K26 : Keep h0 T18.heap [] := K16.trans R20 (allS (Or.inr sz_b13) all0)
 obtain ⟨T27, h27, X27, e27, E27, A27, D27, -, st27⟩ := newO X18 hx hZ hown (hw _ (wi 256 rfl)) (hw _ (wi 6 rfl)) (hw _ (wi 5 rfl)) rfl (g := (mkF m 39 #[sI (Int32.ofNat t0), sI (4 : Int32), sI ((32 : Int32) - r3), sI (4 : Int32), sR b13] [])) rfl (dt53 hby 25 rfl :) (by decide) (by decide)
 obtain ⟨b27, g27⟩ : ∃ z, z = T18.heap.size := ⟨_, rfl⟩
 rw [← g27] at A27 D27 st27
 have ne28 : b13 ≠ b27 := Nat.ne_of_lt (Nat.lt_of_lt_of_le F24.lt (Nat.le_of_eq g27.symm))
 have g_b27 : n0 ≤ b27 := Nat.le_trans Z25 (Nat.le_of_eq g27.symm)
 have sz_b27 : h0.size ≤ b27 := Nat.le_trans K26.1 (Nat.le_of_eq g27.symm)
 have F31 : own_Af Z h27 b13 .byte (Int32.ofNat 4) g19 := R21.ext E27
 have Z32 : n0 ≤ h27.size := Nat.le_trans Z25 E27.1
 have K33 : Keep h0 h27 [] := K26.ext E27
 have F34 : fSv Z h27 b27 .null := D27 (Or.inr (hw _ (wi 8 rfl))) (ty := (.array .byte)) (by decide)
 have F35 : fSc Z h27 b27 (.int (0 : Int32)) := D27 (Or.inr (hw _ (wi 9 rfl))) (ty := .byte) (by decide)
 obtain ⟨_, _, ⟨T36, L36, k36, n36⟩, -, X36, ⟨Lc36, hQ36, l36, y36, z36⟩, st36⟩ := X27.specialBack hx (y := ym51) rfl hown (mw hZ hw 257 rfl) (mw hZ hw 234 rfl) (mw hZ hw 235 rfl) (by decide) (backOf (W := 1) (rm51_0 l Z a0 hw b27 b13 h27 n0 Z32 A27 g_b27 F34 F35) hZ (hw _ (wi 235 rfl)) (hw _ (wi 5 rfl)) (by decide) (by decide)) (g := (mkF m 46 #[sI (Int32.ofNat t0), sI (4 : Int32), sI ((32 : Int32) - r3), sI (4 : Int32), sR b13] [(.int (0 : Int32)), (.ref b13), (.ref b27), (.ref b27)])) rfl (by rw [hml]; rfl) (Steps.refl _) (a := b27) (argsL := [(.ref b13), (.int (0 : Int32))]) (rest := [(.ref b27)]) (lenOf pd_18 rfl) rfl (Nat.le_refl _) (dt53 hby 29 rfl :) (fun _ _ => ⟨rfl, e27, (by decide : 2 + 0 ≤ _), (by decide : 8 + 0 ≤ _)⟩)
 dsimp only [Pt.U, Pt.locs, Pt.cells, Pt.slots] at X36 l36 y36 z36 st36 hQ36
 subst l36 y36 z36
 obtain ⟨rfl, N36q, R37, R38, R39, R40⟩ := hQ36
 have N36 := Fr.app N18 N36q
 have F43 : own_Af Z T36.heap b13 .byte (Int32.ofNat 4) g19 := F31.keep R37 (ninS ne28 nin0)
 have K46 : Keep h0 T36.heap [] := K33.trans R37 (allS (Or.inr sz_b27) all0)
 have hlen : (own_hs t0).length = 4 := by rw [own_hs4 hq0]; rfl
 have Sq : own_Ls Z T36.heap b27 b13 (own_hs t0) := ⟨g19, R38, R39, R40, by rw [hlen]; exact F43, own_fu4 hq0 h1 R22, by omega⟩
 refine own_fin X36 hlk (v := some (.ref b27)) (own_nv hR) (by decide) (by decide) ?_ (fun fs hrt => pre0 _ ?_)
 ·
  show Q53_4 Z t0 cs sv dg h0 n0 _ T36.heap _
  exact ⟨b27, b13, rfl, N36, K46, g_b27, sz_b27, g_b13, sz_b13, Sq⟩
 refine qb X0 hx (32 : Int32) (dt53 hby 0 rfl :) rfl ?_
 refine qiN X0 hx (dt53 hby 1 rfl :) rfl ?_
 refine st2 _ ?_
 refine XS.isub X2.here hx rfl (dt53 hby 3 rfl :) rfl ?_
 refine qsN X2 hx (l' := #[sI (Int32.ofNat t0), sI (4 : Int32), sI ((32 : Int32) - r3), .unset, .unset]) (dt53 hby 4 rfl :) rfl ?_
 refine qiN X2 hx (dt53 hby 5 rfl :) rfl ?_
 refine qiN X2 hx (dt53 hby 6 rfl :) rfl ?_
 refine qc X2 hx (1 : Int32) (dt53 hby 7 rfl :) rfl ?_
 refine XS.isub X2.here hx rfl (dt53 hby 8 rfl :) rfl ?_
 refine XS.iadd X2.here hx rfl (dt53 hby 9 rfl :) rfl ?_
 refine qiN X2 hx (dt53 hby 10 rfl :) rfl ?_
 refine XS.idiv X2.here hx rfl (dt53 hby 11 rfl :) rfl (by decide) ?_
 refine qc X2 hx (1 : Int32) (dt53 hby 12 rfl :) rfl ?_
 refine st6 _ ?_
 rw [show r7 = (4 : Int32) from hr]
 refine qsN X6 hx (l' := #[sI (Int32.ofNat t0), sI (4 : Int32), sI ((32 : Int32) - r3), sI (4 : Int32), .unset]) (dt53 hby 14 rfl :) rfl ?_
 refine st11 _ ?_
 refine qfN X11 hx (dt53 hby 16 rfl :) ((if0 _ _).trans (feq hc23_12).1) ?_
 refine qiN X11 hx (dt53 hby 17 rfl :) rfl ?_
 refine st13 _ ?_
 refine qt X13 hx (l' := #[sI (Int32.ofNat t0), sI (4 : Int32), sI ((32 : Int32) - r3), sI (4 : Int32), sR b13]) (dt53 hby 19 rfl :) rfl rfl ?_
 refine qiN X13 hx (dt53 hby 20 rfl :) rfl ?_
 refine qiN X13 hx (dt53 hby 21 rfl :) rfl ?_
 refine qa X13 hx (dt53 hby 22 rfl :) rfl rfl ?_
 refine qiN X13 hx (dt53 hby 23 rfl :) rfl ?_
 refine st18 _ ?_
 refine st27 _ ?_
 refine XS.dup X27.here hx rfl (dt53 hby 26 rfl :) rfl rfl ?_
 refine qa X27 hx (dt53 hby 27 rfl :) rfl rfl ?_
 refine qc X27 hx (0 : Int32) (dt53 hby 28 rfl :) rfl ?_
 refine st36.trans ?_
 exact retOut X36 hx hR rfl (Or.inr (Or.inr (Or.inr (Or.inr ⟨rfl, rfl, rfl⟩)))) (dt53 hby 30 rfl :) hrt
theorem pd_37 : parseMethodDescriptor "(II)Ljava/lang/String;" = some ⟨[.int, .int], some (.object "java/lang/String")⟩ := by decide +kernel
def Q52 (Z : State) (t0 : Nat) (cs : Int32) (sv : Value) (dg : Addr) (h0 : Heap) (n0 : Nat) (v : Option Value) (h : Heap) (L : List Loc) : Prop := ∃ (a2 : Addr) (b2 : Addr), v = some (.ref a2) ∧ Fr n0 L ∧ Keep h0 h [] ∧ n0 ≤ a2 ∧ h0.size ≤ a2 ∧ n0 ≤ b2 ∧ h0.size ≤ b2 ∧ own_Ls Z h a2 b2 (own_hs t0)
theorem rm52 (l : Launch) (Z : State) (a0 : Array Value) (hw : own_hw a0 Z) (t0 : Nat) (cs : Int32) (sv : Value) (dg : Addr) (h0 : Heap) (n0 : Nat) (Z0 : n0 ≤ h0.size) (ht : (t0 < 256 ∨ (4096 ≤ t0 ∧ t0 < 65536))) (hS : (own_ST Z cs sv dg)) (HO : Old Z n0 h0) :
 own_M l ym52 [Jvm.Cond.code ym52 cm52 1 (some (.object "java/lang/String"))] (⟨3, 2, 8, 43⟩ : Room) #[(.int (Int32.ofNat t0))] Z h0 (Q52 Z t0 cs sv dg h0 n0) := by
 refine own_go n0 (F := fun m => mkF m 0 #[sI (Int32.ofNat t0)] []) (plainFor_of_name pn_10) (fun m => rfl) ?_
 intro p e s m below meth c sq Pq hR hx hby hml hown hnm hZ hh hlk X0 e0 N0 pre0
 have P1 : ∀ t, Steps p.tables e below (sq.setTop (mkF m 2 #[sI (Int32.ofNat t0)] [(.int (4 : Int32)), (.int (Int32.ofNat t0))])) t → Pq t := fun t k => pre0 t (by
  refine qiN X0 hx (dt52 hby 0 rfl :) rfl ?_
  refine qc X0 hx (4 : Int32) (dt52 hby 1 rfl :) rfl ?_
  exact k)
 obtain h1 | ⟨hq0, h1⟩ | ⟨hq0, h3, h1⟩ : t0 < 16 ∨ (¬ t0 < 16 ∧ t0 < 256) ∨ (¬ t0 < 256 ∧ 4096 ≤ t0 ∧ t0 < 65536) := by omega
 ·
  obtain ⟨_, _, ⟨T3, L3, k3, n3⟩, -, X3, ⟨Lc3, hQ3, l3, y3, z3⟩, st3⟩ := Jvm.LawKit.callS X0 hx (y := ym53) hown (mw hZ hw 240 rfl) (mw hZ hw 241 rfl) (mw hZ hw 238 rfl) (mw hZ hw 242 rfl) (by decide) (backOf (W := 0) (rm53_1 l Z a0 hw t0 cs sv dg h0 n0 Z0 (by omega) hS HO) hZ (hw _ (wi 242 rfl)) (hw _ (wi 238 rfl)) (by decide) (by decide)) (g := (mkF m 2 #[sI (Int32.ofNat t0)] [(.int (4 : Int32)), (.int (Int32.ofNat t0))])) rfl (by rw [hml]; rfl) (argsL := [(.int (Int32.ofNat t0)), (.int (4 : Int32))]) (rest := []) (lenOf pd_37 rfl) rfl (Nat.le_refl _) (dt52 hby 2 rfl :) (fun _ _ => ⟨rfl, e0, (by decide : 0 + 2 ≤ _), (by decide : 0 + 5 ≤ _)⟩)
  dsimp only [Pt.U, Pt.locs, Pt.cells, Pt.slots] at X3 l3 y3 z3 st3 hQ3
  subst l3 y3 z3
  obtain ⟨a24, b25, rfl, N3q, R6, R7, R8, R9, R10, R11⟩ := hQ3
  have N3 := Fr.app N0 N3q
  have K14 : Keep h0 T3.heap [] := (Keep.refl h0 []).trans R6 all0
  have sz_a24 : h0.size ≤ a24 := Nat.le_trans (Keep.refl h0 []).1 R8
  have sz_b25 : h0.size ≤ b25 := Nat.le_trans (Keep.refl h0 []).1 R10
  refine own_fin X3 hlk (v := some (.ref a24)) (own_nv hR) (by decide) (by decide) ?_ (fun fs hrt => P1 _ ?_)
  ·
   show Q52 Z t0 cs sv dg h0 n0 _ T3.heap _
   exact ⟨a24, b25, rfl, N3, K14, R7, sz_a24, R9, sz_b25, R11⟩
  refine st3 _ ?_
  exact retOut X3 hx hR rfl (Or.inr (Or.inr (Or.inr (Or.inr ⟨rfl, rfl, rfl⟩)))) (dt52 hby 3 rfl :) hrt
 ·
  obtain ⟨_, _, ⟨T17, L17, k17, n17⟩, -, X17, ⟨Lc17, hQ17, l17, y17, z17⟩, st17⟩ := Jvm.LawKit.callS X0 hx (y := ym53) hown (mw hZ hw 240 rfl) (mw hZ hw 241 rfl) (mw hZ hw 238 rfl) (mw hZ hw 242 rfl) (by decide) (backOf (W := 0) (rm53_2 l Z a0 hw t0 cs sv dg h0 n0 Z0 (by omega) (by omega) hS HO) hZ (hw _ (wi 242 rfl)) (hw _ (wi 238 rfl)) (by decide) (by decide)) (g := (mkF m 2 #[sI (Int32.ofNat t0)] [(.int (4 : Int32)), (.int (Int32.ofNat t0))])) rfl (by rw [hml]; rfl) (argsL := [(.int (Int32.ofNat t0)), (.int (4 : Int32))]) (rest := []) (lenOf pd_37 rfl) rfl (Nat.le_refl _) (dt52 hby 2 rfl :) (fun _ _ => ⟨rfl, e0, (by decide : 0 + 2 ≤ _), (by decide : 0 + 6 ≤ _)⟩)
  dsimp only [Pt.U, Pt.locs, Pt.cells, Pt.slots] at X17 l17 y17 z17 st17 hQ17
  subst l17 y17 z17
  obtain ⟨a218, b219, rfl, N17q, R20, R21, R22, R23, R24, R25⟩ := hQ17
  have N17 := Fr.app N0 N17q
  have K28 : Keep h0 T17.heap [] := (Keep.refl h0 []).trans R20 all0
  have sz_a218 : h0.size ≤ a218 := Nat.le_trans (Keep.refl h0 []).1 R22
  have sz_b219 : h0.size ≤ b219 := Nat.le_trans (Keep.refl h0 []).1 R24
  refine own_fin X17 hlk (v := some (.ref a218)) (own_nv hR) (by decide) (by decide) ?_ (fun fs hrt => P1 _ ?_)
  ·
   show Q52 Z t0 cs sv dg h0 n0 _ T17.heap _
   exact ⟨a218, b219, rfl, N17, K28, R21, sz_a218, R23, sz_b219, R25⟩
  refine st17 _ ?_
  exact retOut X17 hx hR rfl (Or.inr (Or.inr (Or.inr (Or.inr ⟨rfl, rfl, rfl⟩)))) (dt52 hby 3 rfl :) hrt
 ·
  obtain ⟨_, _, ⟨T32, L32, k32, n32⟩, -, X32, ⟨Lc32, hQ32, l32, y32, z32⟩, st32⟩ := Jvm.LawKit.callS X0 hx (y := ym53) hown (mw hZ hw 240 rfl) (mw hZ hw 241 rfl) (mw hZ hw 238 rfl) (mw hZ hw 242 rfl) (by decide) (backOf (W := 0) (rm53_4 l Z a0 hw t0 cs sv dg h0 n0 Z0 (by omega) (by omega) (by omega) hS HO) hZ (hw _ (wi 242 rfl)) (hw _ (wi 238 rfl)) (by decide) (by decide)) (g := (mkF m 2 #[sI (Int32.ofNat t0)] [(.int (4 : Int32)), (.int (Int32.ofNat t0))])) rfl (by rw [hml]; rfl) (argsL := [(.int (Int32.ofNat t0)), (.int (4 : Int32))]) (rest := []) (lenOf pd_37 rfl) rfl (Nat.le_refl _) (dt52 hby 2 rfl :) (fun _ _ => ⟨rfl, e0, (by decide : 0 + 2 ≤ _), (by decide : 0 + 8 ≤ _)⟩)
  dsimp only [Pt.U, Pt.locs, Pt.cells, Pt.slots] at X32 l32 y32 z32 st32 hQ32
  subst l32 y32 z32
  obtain ⟨a233, b234, rfl, N32q, R35, R36, R37, R38, R39, R40⟩ := hQ32
  have N32 := Fr.app N0 N32q
  have K43 : Keep h0 T32.heap [] := (Keep.refl h0 []).trans R35 all0
  have sz_a233 : h0.size ≤ a233 := Nat.le_trans (Keep.refl h0 []).1 R37
  have sz_b234 : h0.size ≤ b234 := Nat.le_trans (Keep.refl h0 []).1 R39
  refine own_fin X32 hlk (v := some (.ref a233)) (own_nv hR) (by decide) (by decide) ?_ (fun fs hrt => P1 _ ?_)
  ·
   show Q52 Z t0 cs sv dg h0 n0 _ T32.heap _
   exact ⟨a233, b234, rfl, N32, K43, R36, sz_a233, R38, sz_b234, R40⟩
  refine st32 _ ?_
  exact retOut X32 hx hR rfl (Or.inr (Or.inr (Or.inr (Or.inr ⟨rfl, rfl, rfl⟩)))) (dt52 hby 3 rfl :) hrt
def Q67_2 (Z : State) (b : Addr) (p2 : Int32) (f : Nat → Int32) (h0 : Heap) (n0 : Nat) (v : Option Value) (h : Heap) (L : List Loc) : Prop := ∃ (g : Nat → Int32), v = none ∧ Fr n0 L ∧ Keep h0 h [b] ∧ own_Af Z h b .byte (Int32.ofNat 2) g ∧ (g 0 = nar .byte p2 ∧ g 1 = nar .byte p2)
theorem rm67_2 (l : Launch) (Z : State) (a0 : Array Value) (hw : own_hw a0 Z) (b : Addr) (p2 : Int32) (f : Nat → Int32) (h0 : Heap) (n0 : Nat) (Z0 : n0 ≤ h0.size) (HB0 : own_Af Z h0 b .byte (Int32.ofNat 2) f) (Hg1 : n0 ≤ b) :
 own_M l ym67 [Jvm.Cond.code ym67 cm67 4 none] (⟨0, 0, 0, 0⟩ : Room) #[(.ref b), (.int p2)] Z h0 (Q67_2 Z b p2 f h0 n0) := by
 refine own_go n0 (F := fun m => mkF m 0 #[sR b, sI p2, .unset, .unset] []) (plainFor_of_name pn_6) (fun m => rfl) ?_
 intro p e s m below meth c sq Pq hR hx hby hml hown hnm hZ hh hlk X0 e0 N0 pre0
 obtain ⟨co1, Ao1, So1, Mo1, Bo1, Go1⟩ := HB0.op
 obtain ⟨co2, Ao2, So2, Mo2, Bo2, Go2⟩ := HB0.op
 obtain ⟨T3, h3, X3, e3, W3, st3⟩ := stB X0 hx hZ e0 Ao2 (j := (0 : Int32)) (inb_of So2 ⟨by decide, by decide⟩) (g := (mkF m 13 #[sR b, sI p2, sI (0 : Int32), sI (2 : Int32)] [(.int p2), (.int (0 : Int32)), (.ref b)])) rfl rfl (dt67 hby 11 rfl :)
 have V3 : own_Af Z h3 b .byte (Int32.ofNat 2) (own_sb f (0 : Int32) p2) := own_Af.set Ao2 So2 Mo2 Bo2 Go2 (fits_nar_byte _) W3
 have K5 : Keep h0 h3 [b] := (Keep.refl h0 [b]).wr W3 (Or.inl (wi 0 rfl))
 have N6 := Fr.snoc X3 N0 Hg1
 obtain ⟨co7, Ao7, So7, Mo7, Bo7, Go7⟩ := V3.op
 obtain ⟨T8, h8, X8, e8, W8, st8⟩ := stB X3 hx hZ e3 Ao7 (j := (1 : Int32)) (inb_of So7 ⟨by decide, by decide⟩) (g := (mkF m 13 #[sR b, sI p2, sI (1 : Int32), sI (2 : Int32)] [(.int p2), (.int (1 : Int32)), (.ref b)])) rfl rfl (dt67 hby 11 rfl :)
 have V8 : own_Af Z h8 b .byte (Int32.ofNat 2) (own_sb (own_sb f (0 : Int32) p2) (1 : Int32) p2) := own_Af.set Ao7 So7 Mo7 Bo7 Go7 (fits_nar_byte _) W8
 have K10 : Keep h0 h8 [b] := K5.wr W8 (Or.inl (wi 0 rfl))
 have N11 := Fr.snoc X8 N6 Hg1
 refine own_fin X8 hlk (v := none) (fun _ => rfl) (by decide) (by decide) ?_ (fun fs hrt => pre0 _ ?_)
 ·
  show Q67_2 Z b p2 f h0 n0 _ T8.heap _
  rw [e8]
  exact ⟨(own_sb (own_sb f (0 : Int32) p2) (1 : Int32) p2), rfl, N11, K10, V8, ⟨rfl, rfl⟩⟩
 refine qc X0 hx (0 : Int32) (dt67 hby 0 rfl :) rfl ?_
 refine qsN X0 hx (l' := #[sR b, sI p2, sI (0 : Int32), .unset]) (dt67 hby 1 rfl :) rfl ?_
 refine qaN X0 hx (dt67 hby 2 rfl :) rfl rfl ?_
 refine X0.arraylength hx (by rw [e0]; exact Ao1.1) (State.isArrayOf_alike hZ.alike Ao1.2.1) (g := (mkF m 3 #[sR b, sI p2, sI (0 : Int32), .unset] [(.ref b)])) rfl rfl (dt67 hby 3 rfl :) _ ?_
 rw [len_of So1 Mo1]
 show Steps p.tables e below (sq.setTop (mkF m 4 #[sR b, sI p2, sI (0 : Int32), .unset] [(.int (2 : Int32))])) _
 refine qsN X0 hx (l' := #[sR b, sI p2, sI (0 : Int32), sI (2 : Int32)]) (dt67 hby 4 rfl :) rfl ?_
 refine qiN X0 hx (dt67 hby 5 rfl :) rfl ?_
 refine qiN X0 hx (dt67 hby 6 rfl :) rfl ?_
 refine qmN X0 hx (dt67 hby 7 rfl :) (tlt (by decide : (0 : Int32) < (2 : Int32))).2.1 ?_
 refine qaN X0 hx (dt67 hby 8 rfl :) rfl rfl ?_
 refine qiN X0 hx (dt67 hby 9 rfl :) rfl ?_
 refine qiN X0 hx (dt67 hby 10 rfl :) rfl ?_
 refine st3 _ ?_
 refine XS.iinc X3.here hx rfl (dt67 hby 12 rfl :) rfl (l' := #[sR b, sI p2, sI (1 : Int32), sI (2 : Int32)]) rfl ?_
 refine qg X3 hx 17 5 (dt67 hby 13 rfl :) (by decide) (by decide) ?_
 refine qiN X3 hx (dt67 hby 5 rfl :) rfl ?_
 refine qiN X3 hx (dt67 hby 6 rfl :) rfl ?_
 refine qmN X3 hx (dt67 hby 7 rfl :) (tlt (by decide : (1 : Int32) < (2 : Int32))).2.1 ?_
 refine qaN X3 hx (dt67 hby 8 rfl :) rfl rfl ?_
 refine qiN X3 hx (dt67 hby 9 rfl :) rfl ?_
 refine qiN X3 hx (dt67 hby 10 rfl :) rfl ?_
 refine st8 _ ?_
 refine XS.iinc X8.here hx rfl (dt67 hby 12 rfl :) rfl (l' := #[sR b, sI p2, sI (2 : Int32), sI (2 : Int32)]) rfl ?_
 refine qg X8 hx 17 5 (dt67 hby 13 rfl :) (by decide) (by decide) ?_
 refine qiN X8 hx (dt67 hby 5 rfl :) rfl ?_
 refine qiN X8 hx (dt67 hby 6 rfl :) rfl ?_
 refine qmY X8 hx 7 20 (dt67 hby 7 rfl :) (flt (by decide : ¬ ((2 : Int32) < (2 : Int32)))).2.1 (by decide) (by decide) ?_
 exact X8.returnOut hx hR (dt67 hby 14 rfl :) hrt
def Q67_3 (Z : State) (b : Addr) (p2 : Int32) (f : Nat → Int32) (h0 : Heap) (n0 : Nat) (v : Option Value) (h : Heap) (L : List Loc) : Prop := ∃ (g : Nat → Int32), v = none ∧ Fr n0 L ∧ Keep h0 h [b] ∧ own_Af Z h b .byte (Int32.ofNat 3) g ∧ (g 0 = nar .byte p2 ∧ g 1 = nar .byte p2 ∧ g 2 = nar .byte p2)
theorem rm67_3 (l : Launch) (Z : State) (a0 : Array Value) (hw : own_hw a0 Z) (b : Addr) (p2 : Int32) (f : Nat → Int32) (h0 : Heap) (n0 : Nat) (Z0 : n0 ≤ h0.size) (HB0 : own_Af Z h0 b .byte (Int32.ofNat 3) f) (Hg1 : n0 ≤ b) :
 own_M l ym67 [Jvm.Cond.code ym67 cm67 4 none] (⟨0, 0, 0, 0⟩ : Room) #[(.ref b), (.int p2)] Z h0 (Q67_3 Z b p2 f h0 n0) := by
 refine own_go n0 (F := fun m => mkF m 0 #[sR b, sI p2, .unset, .unset] []) (plainFor_of_name pn_6) (fun m => rfl) ?_
 intro p e s m below meth c sq Pq hR hx hby hml hown hnm hZ hh hlk X0 e0 N0 pre0
 obtain ⟨co1, Ao1, So1, Mo1, Bo1, Go1⟩ := HB0.op
 obtain ⟨co2, Ao2, So2, Mo2, Bo2, Go2⟩ := HB0.op
 obtain ⟨T3, h3, X3, e3, W3, st3⟩ := stB X0 hx hZ e0 Ao2 (j := (0 : Int32)) (inb_of So2 ⟨by decide, by decide⟩) (g := (mkF m 13 #[sR b, sI p2, sI (0 : Int32), sI (3 : Int32)] [(.int p2), (.int (0 : Int32)), (.ref b)])) rfl rfl (dt67 hby 11 rfl :)
 have V3 : own_Af Z h3 b .byte (Int32.ofNat 3) (own_sb f (0 : Int32) p2) := own_Af.set Ao2 So2 Mo2 Bo2 Go2 (fits_nar_byte _) W3
 have K5 : Keep h0 h3 [b] := (Keep.refl h0 [b]).wr W3 (Or.inl (wi 0 rfl))
 have N6 := Fr.snoc X3 N0 Hg1
 obtain ⟨co7, Ao7, So7, Mo7, Bo7, Go7⟩ := V3.op
 obtain ⟨T8, h8, X8, e8, W8, st8⟩ := stB X3 hx hZ e3 Ao7 (j := (1 : Int32)) (inb_of So7 ⟨by decide, by decide⟩) (g := (mkF m 13 #[sR b, sI p2, sI (1 : Int32), sI (3 : Int32)] [(.int p2), (.int (1 : Int32)), (.ref b)])) rfl rfl (dt67 hby 11 rfl :)
 have V8 : own_Af Z h8 b .byte (Int32.ofNat 3) (own_sb (own_sb f (0 : Int32) p2) (1 : Int32) p2) := own_Af.set Ao7 So7 Mo7 Bo7 Go7 (fits_nar_byte _) W8
 have K10 : Keep h0 h8 [b] := K5.wr W8 (Or.inl (wi 0 rfl))
 have N11 := Fr.snoc X8 N6 Hg1
 obtain ⟨co12, Ao12, So12, Mo12, Bo12, Go12⟩ := V8.op
 obtain ⟨T13, h13, X13, e13, W13, st13⟩ := stB X8 hx hZ e8 Ao12 (j := (2 : Int32)) (inb_of So12 ⟨by decide, by decide⟩) (g := (mkF m 13 #[sR b, sI p2, sI (2 : Int32), sI (3 : Int32)] [(.int p2), (.int (2 : Int32)), (.ref b)])) rfl rfl (dt67 hby 11 rfl :)
 have V13 : own_Af Z h13 b .byte (Int32.ofNat 3) (own_sb (own_sb (own_sb f (0 : Int32) p2) (1 : Int32) p2) (2 : Int32) p2) := own_Af.set Ao12 So12 Mo12 Bo12 Go12 (fits_nar_byte _) W13
 have K15 : Keep h0 h13 [b] := K10.wr W13 (Or.inl (wi 0 rfl))
 have N16 := Fr.snoc X13 N11 Hg1
 refine own_fin X13 hlk (v := none) (fun _ => rfl) (by decide) (by decide) ?_ (fun fs hrt => pre0 _ ?_)
 ·
  show Q67_3 Z b p2 f h0 n0 _ T13.heap _
  rw [e13]
  exact ⟨(own_sb (own_sb (own_sb f (0 : Int32) p2) (1 : Int32) p2) (2 : Int32) p2), rfl, N16, K15, V13, ⟨rfl, rfl, rfl⟩⟩
 refine qc X0 hx (0 : Int32) (dt67 hby 0 rfl :) rfl ?_
 refine qsN X0 hx (l' := #[sR b, sI p2, sI (0 : Int32), .unset]) (dt67 hby 1 rfl :) rfl ?_
 refine qaN X0 hx (dt67 hby 2 rfl :) rfl rfl ?_
 refine X0.arraylength hx (by rw [e0]; exact Ao1.1) (State.isArrayOf_alike hZ.alike Ao1.2.1) (g := (mkF m 3 #[sR b, sI p2, sI (0 : Int32), .unset] [(.ref b)])) rfl rfl (dt67 hby 3 rfl :) _ ?_
 rw [len_of So1 Mo1]
 show Steps p.tables e below (sq.setTop (mkF m 4 #[sR b, sI p2, sI (0 : Int32), .unset] [(.int (3 : Int32))])) _
 refine qsN X0 hx (l' := #[sR b, sI p2, sI (0 : Int32), sI (3 : Int32)]) (dt67 hby 4 rfl :) rfl ?_
 refine qiN X0 hx (dt67 hby 5 rfl :) rfl ?_
 refine qiN X0 hx (dt67 hby 6 rfl :) rfl ?_
 refine qmN X0 hx (dt67 hby 7 rfl :) (tlt (by decide : (0 : Int32) < (3 : Int32))).2.1 ?_
 refine qaN X0 hx (dt67 hby 8 rfl :) rfl rfl ?_
 refine qiN X0 hx (dt67 hby 9 rfl :) rfl ?_
 refine qiN X0 hx (dt67 hby 10 rfl :) rfl ?_
 refine st3 _ ?_
 refine XS.iinc X3.here hx rfl (dt67 hby 12 rfl :) rfl (l' := #[sR b, sI p2, sI (1 : Int32), sI (3 : Int32)]) rfl ?_
 refine qg X3 hx 17 5 (dt67 hby 13 rfl :) (by decide) (by decide) ?_
 refine qiN X3 hx (dt67 hby 5 rfl :) rfl ?_
 refine qiN X3 hx (dt67 hby 6 rfl :) rfl ?_
 refine qmN X3 hx (dt67 hby 7 rfl :) (tlt (by decide : (1 : Int32) < (3 : Int32))).2.1 ?_
 refine qaN X3 hx (dt67 hby 8 rfl :) rfl rfl ?_
 refine qiN X3 hx (dt67 hby 9 rfl :) rfl ?_
 refine qiN X3 hx (dt67 hby 10 rfl :) rfl ?_
 refine st8 _ ?_
 refine XS.iinc X8.here hx rfl (dt67 hby 12 rfl :) rfl (l' := #[sR b, sI p2, sI (2 : Int32), sI (3 : Int32)]) rfl ?_
 refine qg X8 hx 17 5 (dt67 hby 13 rfl :) (by decide) (by decide) ?_
 refine qiN X8 hx (dt67 hby 5 rfl :) rfl ?_
 refine qiN X8 hx (dt67 hby 6 rfl :) rfl ?_
 refine qmN X8 hx (dt67 hby 7 rfl :) (tlt (by decide : (2 : Int32) < (3 : Int32))).2.1 ?_
 refine qaN X8 hx (dt67 hby 8 rfl :) rfl rfl ?_
 refine qiN X8 hx (dt67 hby 9 rfl :) rfl ?_
 refine qiN X8 hx (dt67 hby 10 rfl :) rfl ?_
 refine st13 _ ?_
 refine XS.iinc X13.here hx rfl (dt67 hby 12 rfl :) rfl (l' := #[sR b, sI p2, sI (3 : Int32), sI (3 : Int32)]) rfl ?_
 refine qg X13 hx 17 5 (dt67 hby 13 rfl :) (by decide) (by decide) ?_
 refine qiN X13 hx (dt67 hby 5 rfl :) rfl ?_
 refine qiN X13 hx (dt67 hby 6 rfl :) rfl ?_
 refine qmY X13 hx 7 20 (dt67 hby 7 rfl :) (flt (by decide : ¬ ((3 : Int32) < (3 : Int32)))).2.1 (by decide) (by decide) ?_
 exact X13.returnOut hx hR (dt67 hby 14 rfl :) hrt
section own_lits
open Jvm.Free.SB Jvm.Free.SBG
/-- ldc_w of a String constant: where it comes to stand, and what the tables and the heap then say -/
theorem own_ldcwN {p : Program} {l : Launch} {e : Env} {R : Room} {s : State} {m : MethodId} {args : Array Value} {below : List Frame} {meth : Method} {c : Code} {T : State} {locs : List Loc} {cells slots : Nat} (X : Stand p l e R s m args below meth c T locs cells slots) (hx : p.tables.exec = Jvm.exec) {own text : String} {index : Nat} (hown : s.vm.findClass own = some m.cls)
    (hlink : (Cond.stringLink own index text).before args s = true) (hS : ∀ a ∈ Bundle.stringAtoms, a.before args s = true) {g : JFrame} (hg : g.method = m) (hd : decode c.code g.pc = .ok (.ldc_w index, 3)) {n : Nat} (hn : 4 * text.toList.length ≤ n) (hbig : n ≤ 536870912) (hc : cells + 2 ≤ R.cells) (hl : slots + (n + 4) ≤ R.slots) :
    ∃ (a : Addr) (U : State), Stand p l e R (s.setVm U.vm) m args below meth c U locs (cells + 2) (slots + (n + 4)) ∧ s.Since U.vm U.heap.size ∧ (∃ k, U.vm.classes[m.cls]? = some k ∧ k.resolved[index]? = some (some (.string a))) ∧ (∀ x, x < T.heap.size → U.heap[x]? = T.heap[x]?) ∧ T.Warmed39 U.vm ∧
      (U.vm.interned = T.vm.interned ∨ ∃ us : Array UInt16, utf16ToString? us = some text ∧ U.vm.interned = T.vm.interned.push (us, a) ∧ T.vm.interned.find? (fun p => p.1 == us) = none ∧ (us.all (· < 256) = true → SlIn 0 T.heap.size U a us)) ∧
      ∀ t, Steps p.tables e below (U.setTop { g with pc := g.pc + 3, stack := .ref a :: g.stack }) t → Steps p.tables e below (T.setTop g) t := by
  subst hg
  obtain ⟨k, cf, j, us, hk, hcf, hcj, hus, hnm, htx, hres⟩ := Cond.stringLink_spec hown hlink
  obtain ⟨k1, hk1, ek, -, ee, -⟩ := X.warmed.wide.2.2.2 _ k hk
  have hcf1 : k1.cf = some cf := by rw [ek]; exact hcf
  have hsz : (stringBytes us).size ≤ n := Nat.le_trans (text_bytes_le htx) hn
  have n1 : ∀ q : Class, q.cf = some cf → q.cf.bind (namesOf? ·.constantPool index) = some (.string text) ∧ q.cf.bind (·.constantPool[index]?) = some (.string j) ∧ q.cf.bind (·.constantPool.utf8? j) = some us := fun q hq => by
    rw [hq]
    exact ⟨hnm, hcj, by simp [ConstantPool.utf8?, hus]⟩
  -- the entry now: open as at the start, or a String
  have now : (k1.resolved[index]? = some none ∧ k.resolved[index]? = some none) ∨ ∃ a, k1.resolved[index]? = some (some (.string a)) := by
    rcases ee index with e0 | ⟨-, r, e1, hr | ⟨a, -, -, -, rfl, -⟩⟩
    · rw [e0]
      exact hres.imp (fun h => ⟨h, h⟩) id
    · cases r <;> simp [State.rightAt, hk, hcf, hnm] at hr
    · exact Or.inr ⟨a, e1⟩
  rcases now with ⟨o1, o0⟩ | ⟨a, r1⟩
  · have W1 : ∀ (vm : Vm) (a : Addr), s.Warmed39 vm → vm.interned.find? (fun p => p.1 == us) = some (us, a) → s.Warmed39 (vm.noted g.method.cls index (.string a)) := fun vm a w f => State.Warmed39.notedString w hk (Or.inl o0) (n1 k hcf).1 (n1 k hcf).2.1 (n1 k hcf).2.2 f
    have W2 : ∀ (vm : Vm) (a : Addr), T.Warmed39 vm → vm.interned.find? (fun p => p.1 == us) = some (us, a) → T.Warmed39 (vm.noted g.method.cls index (.string a)) := fun vm a w f => State.Warmed39.notedString w hk1 (Or.inl o1) (n1 k1 hcf1).1 (n1 k1 hcf1).2.1 (n1 k1 hcf1).2.2 f
    cases hf : T.vm.interned.find? (fun p => p.1 == us) with
    | some pr =>
      obtain ⟨u2, a⟩ := pr
      obtain rfl : u2 = us := by simpa using Array.find?_some hf
      have w1 := W1 _ a X.warmed.wide hf
      refine ⟨a, T.setVm (T.vm.noted g.method.cls index (.string a)), (X.mono (Nat.le_add_right _ _) (Nat.le_add_right _ _)).retabled w1, ⟨w1, State.Booked.step (T₂ := T.setVm (T.vm.noted g.method.cls index (.string a))) (X.warmed.no_new_pair _) X.same.2.1 ⟨Nat.le_refl _, Or.inl rfl⟩⟩,
        ⟨_, Vm.classes_note_self index (.string a) hk1, Class.resolved_note_self (.string a) o1⟩, fun _ _ => rfl, W2 _ a (State.Warmed39.refl T) hf, Or.inl rfl, fun t ht => ?_⟩
      jvm_step X.here [hx, hd, ldc_w.wp_string_found (e := e) (s := T) (f := g) X.here.top hk1 hcf1 hcj hus o1 hf]
      exact ht
    | none =>
      obtain ⟨Q, LQ, hq4, fv, fc⟩ := StringT.of_atoms (args := args) hS
      obtain ⟨kS, kB, LW, ty⟩ := LQ.warmer X.warmed.alike
      obtain ⟨b, eb⟩ : ∃ b, b = T.heap.size := ⟨_, rfl⟩
      obtain ⟨V, eV⟩ : ∃ V : Vm, V = { T.vm with interned := T.vm.interned.push (us, b + 1) } := ⟨_, rfl⟩
      have hp : V.interned.find? (fun p => p.1 == us) = some (us, b + 1) := by
        rw [eV]
        show (T.vm.interned.push (us, b + 1)).find? _ = _
        rw [Array.find?_push, hf]; simp
      have hV : V.classes = T.vm.classes := by rw [eV]
      have w1 := W1 V (b + 1) (by rw [eV]; exact X.warmed.wide.interns us (b + 1)) hp
      have w2 := W2 V (b + 1) (by rw [eV]; exact (State.Warmed39.refl T).interns us (b + 1)) hp
      have XX := (X.pushed (bytesOf Q.cB us)).pushed (stringAt Q.cS kS Q.fv Q.fc us T.heap.size)
      have z1 : (bytesOf Q.cB us).slots.size = (stringBytes us).size := by rw [(Cell.writeAll_facts _ _).2.2]; simp [bytes0]
      have z2 : (stringAt Q.cS kS Q.fv Q.fc us T.heap.size).slots.size = 4 := by simp [string0, Cell.setSlot, ty, hq4]
      obtain ⟨S, eS⟩ : ∃ S, S = withString T Q.cB Q.cS kS Q.fv Q.fc us := ⟨_, rfl⟩
      rw [← withString_eq, ← eS] at XX
      have hh : S.heap = (T.heap.push (bytesOf Q.cB us)).push (stringAt Q.cS kS Q.fv Q.fc us T.heap.size) := by rw [eS, withString_eq]; rfl
      have hz : S.heap.size = b + 2 := by rw [hh, eb]; simp
      have old : ∀ x, x < T.heap.size → S.heap[x]? = T.heap[x]? := fun x q => by
        rw [hh, Array.getElem?_push, if_neg (by rw [Array.size_push]; omega), Array.getElem?_push, if_neg (by omega)]
      have at0 : S.heap[T.heap.size]? = some (bytesOf Q.cB us) := by rw [hh, Array.getElem?_push, if_neg (by rw [Array.size_push]; omega), Array.getElem?_push, if_pos rfl]
      have at1 : S.heap[T.heap.size + 1]? = some (stringAt Q.cS kS Q.fv Q.fc us T.heap.size) := by rw [hh, Array.getElem?_push, if_pos (by rw [Array.size_push])]
      have one : T.Interned1 (S.setVm (V.noted g.method.cls index (.string (b + 1)))) := ⟨by show T.heap.size ≤ S.heap.size; omega, Or.inr ⟨us, b + 1, by rw [eV]; rfl, by omega, by show b + 1 < S.heap.size; omega⟩⟩
      refine ⟨b + 1, S.setVm (V.noted g.method.cls index (.string (b + 1))), (XX.mono (by omega) (by rw [z1, z2]; omega)).retabled w1, ⟨w1, State.Booked.step (X.warmed.no_new_pair _) X.same.2.1 one⟩,
        ⟨_, Vm.classes_note_self (vm := V) index (.string (b + 1)) (by rw [hV]; exact hk1), Class.resolved_note_self (.string (b + 1)) o1⟩, old, w2, Or.inr ⟨us, htx, by rw [eV]; rfl, hf, fun q => ?_⟩, fun t ht => ?_⟩
      · subst eb
        exact made_sl (W := S.setVm (V.noted g.method.cls index (.string (T.heap.size + 1)))) hS LQ hq4 ty w1.alike at0 at1 q (by omega) 0
      · refine Steps.instr (c := _) (by simpa using X.here) ?_
        simp [jvm, wpRun, exec, X.here.top, hx, hd]
        have hfs : T.fitsSlot = s.fitsSlot := (show T.fitsSlot = (s.setVm T.vm).fitsSlot from rfl).trans (State.fitsSlot_setVm X.warmed.alike)
        refine ldc_w.wp_string_new (e := e) (s := T) (f := g) X.here.top hk1 hcf1 hcj hus o1 hf LW.found LW.cls LW.initialized LW.ordinary LW.foundB LW.clsB LW.kindB LW.value LW.coder (by rw [Launch.admits_arrayLengthLimit X.admits]; omega) (by rw [Launch.admits_maxHeapBytes X.admits]; simp only [componentBytes]; omega) (X.cellsAbove hc)
          (by have := X.slotsAbove hl; show T.slotsUsed + (stringBytes us).size + kS.instanceTypes.size ≤ _; rw [ty, hq4]; omega) (stringBytes_fit LW.clsB LW.kindB us) LW.valueSlot LW.coderSlot (by rw [hfs]; exact fv _) (by rw [hfs]; exact fc _) (fun d acts => ?_)
        subst eb eV eS
        intro acts2
        have q1 : (withString T Q.cB Q.cS kS Q.fv Q.fc us).topJava?.isSome := by simpa [withString] using X.here.top
        have q2 : ((withString T Q.cB Q.cS kS Q.fv Q.fc us).setVm (({ T.vm with interned := T.vm.interned.push (us, T.heap.size + 1) } : Vm).noted g.method.cls index (.string (T.heap.size + 1)))).topJava?.isSome := by simpa using q1
        simp [jvm, afterInstr, q1, q2]
        rw [State.modifyTopJava_setTop]
        exact ht
  · refine ⟨a, T, (X.mono (Nat.le_add_right _ _) (Nat.le_add_right _ _)).retabled X.warmed.wide, X.warmed.since _, ⟨k1, hk1, r1⟩, fun _ _ => rfl, State.Warmed39.refl T, Or.inl rfl, fun t ht => ?_⟩
    jvm_step X.here [hx, hd, ldc_w.wp_string (e := e) (s := T) (f := g) X.here.top hk1 hcf1 hcj r1]
    exact ht
theorem own_read {Z : State} {vm : Vm} {h : Heap} {q : SQ} {us : Array UInt16} {zs : List Int32} (hal : Z.vm.Alike vm) (F : SlB (Wst Z vm h) q us) (hlat : us.all (· < 256) = true) (hu : us.toList.map (fun u => Jvm.Lit.byteI u) = zs.map own_lo) (hz : ∀ c ∈ zs, 0 ≤ c.toInt ∧ c.toInt ≤ 255) (hl : zs.length ≤ 100) : own_Ls Z h q.sa q.sd zs := by
  obtain ⟨cS, ⟨F, hfS, hcS⟩, ⟨kS, k1, k2, k3⟩, hB, hbyt⟩ := F
  obtain ⟨cv, kv, iv, v1, v2⟩ := F.ffV
  obtain ⟨cc, kc, ic, c1, c2⟩ := F.ffC
  obtain ⟨kv', v1'⟩ := ff_back (U := Wst Z vm h) hal v1
  obtain ⟨kc', c1'⟩ := ff_back (U := Wst Z vm h) hal c1
  have hfZ : Z.vm.findClass "java/lang/String" = some q.sC.cls := by rw [← hal.findClass, hcS]; exact hfS
  obtain ⟨kz, hkz, -⟩ := Vm.findClass_spec hfZ
  obtain ⟨kz2, hkz2, ekz⟩ := hal.2.2 _ _ hkz
  have k1 : vm.classes[cS]? = some kS := k1
  have ek : kz2 = kS := Option.some.inj (hkz2.symm.trans (hcS ▸ k1))
  have hBZ : Z.vm.findClass "[B" = some q.SA.cls := by rw [← hal.findClass]; exact hB
  obtain ⟨kb, hkb, -⟩ := Vm.findClass_spec hBZ
  obtain ⟨kb2, hkb2, ekb⟩ := hal.2.2 _ _ hkb
  obtain ⟨hst, k9, hk9, comp, hkind⟩ := F.arr
  have hk9 : vm.classes[q.SA.cls]? = some k9 := hk9
  have ek9 : k9 = kb2 := Option.some.inj (hk9.symm.trans hkb2)
  have hA : Z.isArrayOf q.SA .byte := ⟨hst, kb, hkb, comp, by rw [ek9, ekb] at hkind; exact hkind⟩
  have hsl : q.SA.slots = us.map fun u => Value.int (Jvm.Lit.byteI u) := by rw [hbyt, SBG.stringBytes_lat hlat]; rfl
  have hlen : us.size = zs.length := by simpa using congrArg List.length hu
  have hsz : q.SA.slots.size = zs.length := by rw [hsl, Array.size_map]; exact hlen
  have hat : ∀ i, i < q.SA.slots.size → q.SA.slots[i]? = some (.int (own_lo (zs.getD i 0))) := fun i hi => by
    rw [hsz] at hi
    have e := congrArg (fun l => l[i]?) hu
    simp only [List.getElem?_map, Array.getElem?_toList] at e
    rw [hsl, Array.getElem?_map, List.getD_eq_getElem?_getD]
    rw [List.getElem?_eq_getElem hi] at e ⊢
    cases hq : us[i]? with
    | none => rw [hq] at e; simp at e
    | some u => rw [hq] at e; simp at e; simp [e]
  refine ⟨fun i => own_lo (zs.getD i 0), ⟨q.sC, kz, F.ha, hfZ, hkz, F.obj, fun _ => by rw [k3, ← ek, ekz]⟩, ⟨q.sC, cv, kv', iv, q.fSV, F.ha, v1', F.stV, F.kn, F.obj, by rw [← hal.assignable]; exact v2, F.slV⟩, ⟨q.sC, cc, kc', ic, q.fSC, F.ha, c1', F.stC, F.kn, F.obj, by rw [← hal.assignable]; exact c2, F.slC⟩,
    own_Af.of ⟨F.hd, hA, F.knA⟩ ?_ ?_ hat ?_, fun i hi => ⟨?_, rfl⟩, hl⟩
  · rw [own_in (by omega)]; exact hsz
  · exact own_i0 (by omega)
  · intro i hi
    have e := F.bytes i hi
    rw [SBG.getD_of (hat i hi)] at e
    exact e
  · rw [List.getD_eq_getElem?_getD, List.getElem?_eq_getElem hi]; exact hz _ (List.getElem_mem hi)
/-- ldc_w of a constant that the invariant serves, read -/
theorem own_ldcw {p : Program} {l : Launch} {e : Env} {R : Room} {s : State} {m : MethodId} {args : Array Value} {below : List Frame} {meth : Method} {c : Code} {T : State} {locs : List Loc} {cells slots : Nat} {Z : State} {a0 : Array Value} {EL : List (String × Nat)} {h : Heap} {vm0 : Vm} {own text : String} {index : Nat} (X : Stand p l e R (s.setVm vm0) m args below meth c T locs cells slots) (hx : p.tables.exec = Jvm.exec) (hZ : Z.Warmed39 vm0) (hown : vm0.findClass own = some m.cls)
    (w : (Cond.stringLink own index text).before a0 Z = true) (wS : ∀ a ∈ Bundle.stringAtoms, a.before a0 Z = true) (eT : T.heap = h) {k0 : Nat} (hS : s.Since vm0 k0) (hk : k0 ≤ h.size) (hEL : EW Z a0 EL) (hmem : (own, index) ∈ EL) (H : CHv Z EL vm0 h)
    {zs : List Int32} (ht : (∀ c ∈ text.toList, c.toNat < 256) ∧ text.toList.map (fun c => Jvm.Lit.byteI c.toNat.toUInt16) = zs.map own_lo) (hz : ∀ c ∈ zs, 0 ≤ c.toInt ∧ c.toInt ≤ 255) (hlz : zs.length ≤ 100)
    {g : JFrame} (hg : g.method = m) (hd : decode c.code g.pc = .ok (.ldc_w index, 3)) {n : Nat} (hn : 4 * text.toList.length ≤ n) (hbig : n ≤ 536870912) (hc : cells + 2 ≤ R.cells) (hl : slots + (n + 4) ≤ R.slots) :
    ∃ (a : Addr) (U : State) (h' : Heap) (k1 : Nat) (b : Addr), Stand p l e R (s.setVm U.vm) m args below meth c U locs (cells + 2) (slots + (n + 4)) ∧ U.heap = h' ∧ Ext h h' ∧ s.Since U.vm k1 ∧ k1 ≤ h'.size ∧ Z.Warmed39 (s.setVm U.vm).vm ∧ (s.setVm U.vm).vm.findClass own = some m.cls ∧ own_Ls Z h' a b zs ∧ CHr Z EL vm0 h U.vm h' ∧ (∀ x, Safe Z EL U.vm h' x → x ≠ a ∧ x ≠ b) ∧
      ∀ t, Steps p.tables e below (U.setTop { g with pc := g.pc + 3, stack := .ref a :: g.stack }) t → Steps p.tables e below (T.setTop g) t := by
  have wS2 : ∀ d ∈ Bundle.stringAtoms, d.before args (s.setVm vm0) = true := fun d hd => by
    have q := wS d hd
    simp only [Bundle.stringAtoms, List.mem_cons, List.not_mem_nil, or_false] at hd
    rcases hd with rfl | rfl | rfl | rfl | rfl | rfl | rfl
    · exact mv (s := s.setVm vm0) hZ q
    · exact mv (s := s.setVm vm0) hZ q
    · exact mvA (s := s.setVm vm0) hZ q
    · exact mv (s := s.setVm vm0) hZ q
    · exact mv (s := s.setVm vm0) hZ q
    · exact mv (s := s.setVm vm0) hZ q
    · exact mv (s := s.setVm vm0) hZ q
  obtain ⟨a, U, X', hS', ⟨kk, hkk, hrr⟩, hb, hTW, hint, st⟩ := own_ldcwN X hx (own := own) hown (mvS hZ w) wS2 hg hd hn hbig hc hl
  subst eT
  have E := ext_of hb
  have hW : Z.Warmed39 U.vm := State.Warmed39.trans (t := s.setVm vm0) hZ hS'.1
  have A := CHv.at X hZ hEL H
  have hZT : Z.Warmed39 T.vm := wtrans (s := s.setVm vm0) hZ X.warmed
  have B := CHv.later (vm := T.vm) (vm1 := U.vm) hZT (show (Wst Z T.vm T.heap).Warmed39 U.vm from hTW) hEL E (hint.imp id fun ⟨us, _, e1, e2, e3⟩ => ⟨us, a, e1, e2, fun hq => by
    obtain ⟨q, cS, hqa, r1, r2, r3, r4, r5⟩ := e3 hq
    have F : SlB U q us := ⟨cS, r1, r2, r3, r4⟩
    refine ⟨q, hqa, F.carry (V := Wst Z U.vm U.heap) (Vm.Alike.refl _) F.ha F.hd, ?_⟩
    exact r5.elim (fun z => absurd z.1 (Nat.not_lt_zero _)) id⟩) A.1
  have hf : U.vm.findClass own = some m.cls := by rw [hS'.1.alike.findClass]; exact hown
  have C : CHr Z EL vm0 T.heap U.vm U.heap := A.trans ⟨B.1, E.1, B.2⟩
  have w2 : (Cond.stringLink own index text).before a0 (Wst Z U.vm U.heap) = true := mvS (s := { Z with heap := U.heap }) hW w
  obtain ⟨k2, cf, i, us, hk2, hcf, hp, hu, -, htx, -⟩ := Cond.stringLink_spec (s := Wst Z U.vm U.heap) hf w2
  have hk2 : U.vm.classes[m.cls]? = some k2 := hk2
  have ek : kk = k2 := Option.some.inj (hkk.symm.trans hk2)
  have bk : Booksv U.vm own index us a := ⟨m.cls, k2, cf, i, hf, hk2, hcf, hp, hu, Or.inl (ek ▸ hrr)⟩
  obtain ⟨q, rfl, F⟩ := SlB.of (C.1 _ hmem us a bk)
  have hlat := Jvm.ClassFile.lat_of_text htx ht.1
  have hus : us.toList.map (fun u => Jvm.Lit.byteI u) = zs.map own_lo := by rw [Jvm.ClassFile.units_of_text htx ht.1, List.map_map]; exact ht.2
  exact ⟨q.sa, U, _, _, q.sd, X', rfl, E, hS.trans hS' (Nat.le_trans hk E.1), Nat.le_refl _, hW, hf, own_read hW.alike F hlat hus hz hlz, C, fun x S => ⟨fun e => S ⟨_, hmem, us, q.sa, bk, q, rfl, F, Or.inl e⟩, fun e => S ⟨_, hmem, us, q.sa, bk, q, rfl, F, Or.inr e⟩⟩, st⟩
/-- the same of ldc -/
theorem own_ldcc {p : Program} {l : Launch} {e : Env} {R : Room} {s : State} {m : MethodId} {args : Array Value} {below : List Frame} {meth : Method} {c : Code} {T : State} {locs : List Loc} {cells slots : Nat} {Z : State} {a0 : Array Value} {EL : List (String × Nat)} {h : Heap} {vm0 : Vm} {own text : String} {index : Nat} (X : Stand p l e R (s.setVm vm0) m args below meth c T locs cells slots) (hx : p.tables.exec = Jvm.exec) (hZ : Z.Warmed39 vm0) (hown : vm0.findClass own = some m.cls)
    (w : (Cond.stringLink own index text).before a0 Z = true) (wS : ∀ a ∈ Bundle.stringAtoms, a.before a0 Z = true) (eT : T.heap = h) {k0 : Nat} (hS : s.Since vm0 k0) (hk : k0 ≤ h.size) (hEL : EW Z a0 EL) (hmem : (own, index) ∈ EL) (H : CHv Z EL vm0 h)
    {zs : List Int32} (ht : (∀ c ∈ text.toList, c.toNat < 256) ∧ text.toList.map (fun c => Jvm.Lit.byteI c.toNat.toUInt16) = zs.map own_lo) (hz : ∀ c ∈ zs, 0 ≤ c.toInt ∧ c.toInt ≤ 255) (hlz : zs.length ≤ 100)
    {g : JFrame} (hg : g.method = m) (hd : decode c.code g.pc = .ok (.ldc index, 2)) {n : Nat} (hn : 4 * text.toList.length ≤ n) (hbig : n ≤ 536870912) (hc : cells + 2 ≤ R.cells) (hl : slots + (n + 4) ≤ R.slots) :
    ∃ (a : Addr) (U : State) (h' : Heap) (k1 : Nat) (b : Addr), Stand p l e R (s.setVm U.vm) m args below meth c U locs (cells + 2) (slots + (n + 4)) ∧ U.heap = h' ∧ Ext h h' ∧ s.Since U.vm k1 ∧ k1 ≤ h'.size ∧ Z.Warmed39 (s.setVm U.vm).vm ∧ (s.setVm U.vm).vm.findClass own = some m.cls ∧ own_Ls Z h' a b zs ∧ CHr Z EL vm0 h U.vm h' ∧ (∀ x, Safe Z EL U.vm h' x → x ≠ a ∧ x ≠ b) ∧
      ∀ t, Steps p.tables e below (U.setTop { g with pc := g.pc + 2, stack := .ref a :: g.stack }) t → Steps p.tables e below (T.setTop g) t := by
  have hv : text.toList.map (fun c => Value.int (Jvm.Lit.byteI c.toNat.toUInt16)) = zs.map fun c => Value.int (own_lo c) := by
    have q := congrArg (List.map Value.int) ht.2
    rw [List.map_map, List.map_map] at q
    exact q
  obtain ⟨a, U, h', k1, b, k, X', e1, E, hS2, hk2, hW, hf, x1, x2, x3, x4, -, -, C, -, ne, st⟩ := ldcCH X hx hZ hown w wS eT hS hk hEL hmem H (vs := zs.map fun c => Value.int (own_lo c)) (z := Int32.ofNat zs.length) ⟨ht.1, hv⟩ (own_i0 (by omega)) (by rw [own_in (by omega), List.length_map]) hg hd hn hbig hc hl
  exact ⟨a, U, h', k1, b, X', e1, E, hS2, hk2, hW, hf, own_lit hlz hz x1 x2 x3 x4, C, ne, st⟩

end own_lits
theorem own_EW {Z : State} {a0 : Array Value} (hw : ∀ d ∈ tables_1, d.before a0 Z = true) : EW Z a0 consts_1 :=
  EW.cons (hw _ (wi 258 rfl)) (by decide) (EW.cons (hw _ (wi 308 rfl)) (by decide) (EW.cons (hw _ (wi 4 rfl)) (by decide) (EW.cons (hw _ (wi 331 rfl)) (by decide) EW.nil)))
theorem own_wS {Z : State} {a0 : Array Value} (hw : ∀ d ∈ tables_1, d.before a0 Z = true) : ∀ a ∈ Bundle.stringAtoms, a.before a0 Z = true := by
  intro a ha
  simp only [Bundle.stringAtoms, Bundle.sN, List.mem_cons, List.not_mem_nil, or_false] at ha
  rcases ha with rfl | rfl | rfl | rfl | rfl | rfl | rfl
  · exact (hw _ (wi 5 rfl))
  · exact (hw _ (wi 6 rfl))
  · exact (hw _ (wi 7 rfl))
  · exact (hw _ (wi 8 rfl))
  · exact (hw _ (wi 9 rfl))
  · exact (hw _ (wi 10 rfl))
  · exact (hw _ (wi 11 rfl))
theorem own_nbl : nar .byte (own_lo (48 : Int32)) = own_lo (48 : Int32) := own_nb _
theorem own_rp2 {g : Nat → Int32} {x : Int32} (v : g 0 = x ∧ g 1 = x) : ∀ j, j < 2 → g j = x
  | 0, _ => v.1
  | 1, _ => v.2
  | j + 2, h => absurd h (by omega)
theorem own_rp3 {g : Nat → Int32} {x : Int32} (v : g 0 = x ∧ g 1 = x ∧ g 2 = x) : ∀ j, j < 3 → g j = x
  | 0, _ => v.1
  | 1, _ => v.2.1
  | 2, _ => v.2.2
  | j + 3, h => absurd h (by omega)
def Q66 (Z : State) (a1 : Addr) (kk : Nat) (b : Addr) (cs : Int32) (sv : Value) (dg : Addr) (h0 : Heap) (n0 : Nat) (v : Option Value) (h : Heap) (L : List Loc) : Prop := ∃ (a2 : Addr) (b2 : Addr), v = some (.ref a2) ∧ Fr n0 L ∧ Keep h0 h [] ∧ own_Ls Z h a2 b2 (List.replicate kk (48 : Int32)) ∧ (h0.size ≤ b2 ∨ kk = 0)
theorem rm66 (l : Launch) (Z : State) (a0 : Array Value) (hw : own_hw a0 Z) (a1 : Addr) (kk : Nat) (b : Addr) (cs : Int32) (sv : Value) (dg : Addr) (h0 : Heap) (n0 : Nat) (Z0 : n0 ≤ h0.size) (HU0 : own_Ls Z h0 a1 b ([(48 : Int32)] : List Int32)) (hkk : (kk = 0 ∨ kk = 2 ∨ kk = 3)) (hS : (own_ST Z cs sv dg)) (HO : Old Z n0 h0) :
    MetFree l ym66 (head1 [Jvm.Cond.code ym66 cm66 5 (some (.object "java/lang/String"))] (⟨2, 2, 7, 27⟩ : Room)) (fun a U => a = #[(.ref a1), (.int (Int32.ofNat kk))] ∧ Z.Warmed39 U.vm ∧ U.heap = h0 ∧ CHv Z consts_1 U.vm h0) (fun _ _ _ _ _ => True) (fun _ U o U' => ∃ v L, o = .returned v ∧ Q66 Z a1 kk b cs sv dg h0 n0 v U'.heap L ∧ CHr Z consts_1 U.vm U.heap U'.vm U'.heap ∧ ReturnedEndW U o U' L (⟨2, 2, 7, 27⟩ : Room).cells (⟨2, 2, 7, 27⟩ : Room).slots) := by
 refine MetFree.of_bodySF (plainFor_of_name pn_4) hisR ?_
 intro p e s m args below meth c sq Bd hml0 hP hK
 obtain ⟨rfl, hZ, hh, hC⟩ := hP
 have hx := Bd.exec
 have hby := Bd.bytes
 have hR := Bd.returns
 have hml : c.maxLocals = 5 := hml0
 have hown : s.vm.findClass "java/lang/String" = some m.cls := findClass_of_methodNamed Bd.named
 have hnm := (name_of_methodNamed Bd.named Bd.method).1
 have X0 : Stand p l e (⟨2, 2, 7, 27⟩ : Room) (s.setVm s.vm) m #[(.ref a1), (.int (Int32.ofNat kk))] below meth c sq [] 0 0 := Stand.of_body Bd
 have e0 : sq.heap = h0 := by rw [← hh, Bd.state]; rfl
 have N0 := Fr.nil n0
 obtain ⟨Pq, hPq, pre0⟩ : ∃ Q : State → Prop, (∀ t, Q t → Steps p.tables e below (sq.setTop (entryFrame m #[(.ref a1), (.int (Int32.ofNat kk))] 5)) t) ∧ ∀ t, Steps p.tables e below (sq.setTop (mkF m 0 #[sR a1, sI (Int32.ofNat kk), .unset, .unset, .unset] [])) t → Q t := ⟨_, fun _ k => k, fun t k => castTop (by first | (simp [entryFrame, mkF, argsToLocals, Value.category]; done) | rfl) k⟩
 have hZ : Z.Warmed39 (s.setVm s.vm).vm := hZ
 have hown : (s.setVm s.vm).vm.findClass "java/lang/String" = some m.cls := hown
 have hS0 : s.Since s.vm 0 := (State.WarmedH.refl s).since 0
 have hk0 : 0 ≤ h0.size := Nat.zero_le _
 have hEL := own_EW hw
 have wS := own_wS hw
 have R0 : CHr Z consts_1 s.vm h0 s.vm h0 := CHr.refl hC
 obtain ⟨f2, E3, V3, C3, A3, r3, l3⟩ := HU0
 have hf0 : f2 0 = own_lo (48 : Int32) := (r3 0 (by decide)).2
 rcases hkk with rfl | rfl | rfl
 ·
  obtain ⟨T1, X1, e1, st1⟩ := getF X0 hx hZ hown (host := "") (Or.inl (hw _ (wi 24 rfl))) Via.refl e0 V3 (g := (mkF m 40 #[sR a1, sI (0 : Int32), .unset, .unset, .unset] [(.ref a1)])) rfl rfl (dt66 hby 6 rfl :)
  obtain ⟨co2, Ao2, So2, Mo2, Bo2, Go2⟩ := A3.op
  have P3 : ∀ t, Steps p.tables e below (T1.setTop (mkF m 53 #[sR a1, sI (0 : Int32), sI (1 : Int32), .unset, .unset] [])) t → Pq t := fun t k => pre0 t (by
   show Steps p.tables e below (sq.setTop (mkF m 0 #[sR a1, sI (0 : Int32), .unset, .unset, .unset] [])) _
   refine qiN X0 hx (dt66 hby 0 rfl :) rfl ?_
   refine qfY X0 hx 1 32 (dt66 hby 1 rfl :) ((if0 _ _).trans (flt (by decide : ¬ ((0 : Int32) < (0 : Int32)))).2.1) (by decide) (by decide) ?_
   refine qiN X0 hx (dt66 hby 2 rfl :) rfl ?_
   refine qc X0 hx (1 : Int32) (dt66 hby 3 rfl :) rfl ?_
   refine qmY X0 hx 34 39 (dt66 hby 4 rfl :) (feq (by decide : ¬ ((0 : Int32) = (1 : Int32)))).2 (by decide) (by decide) ?_
   refine qaN X0 hx (dt66 hby 5 rfl :) rfl rfl ?_
   refine st1 _ ?_
   refine X1.arraylength hx (by rw [e1]; exact Ao2.1) (State.isArrayOf_alike hZ.alike Ao2.2.1) (g := (mkF m 43 #[sR a1, sI (0 : Int32), .unset, .unset, .unset] [(.ref b)])) rfl rfl (dt66 hby 7 rfl :) _ ?_
   rw [len_of So2 Mo2]
   show Steps p.tables e below (T1.setTop (mkF m 44 #[sR a1, sI (0 : Int32), .unset, .unset, .unset] [(.int (1 : Int32))])) _
   refine qsN X1 hx (l' := #[sR a1, sI (0 : Int32), sI (1 : Int32), .unset, .unset]) (dt66 hby 8 rfl :) rfl ?_
   refine qiN X1 hx (dt66 hby 9 rfl :) rfl ?_
   refine qfN X1 hx (dt66 hby 10 rfl :) ((if0 _ _).trans (feq (by decide : ¬ ((1 : Int32) = (0 : Int32)))).1) ?_
   refine qiN X1 hx (dt66 hby 11 rfl :) rfl ?_
   refine qfN X1 hx (dt66 hby 12 rfl :) ((if0 _ _).trans (teq (by decide : (0 : Int32) = (0 : Int32))).2) ?_
   exact k)
  obtain ⟨ba4, T4, h4, kn4, bv4, X4, e4, E4, hS4, hk4, hZ, hown, Ls4, C4, nE4, st4⟩ := own_ldcc X1 hx hZ hown (hw _ (wi 331 rfl)) wS e1 hS0 hk0 hEL (wi 3 rfl) R0.1 (zs := ([] : List Int32)) ⟨by decide, rfl⟩ (by decide) (by decide) (g := (mkF m 53 #[sR a1, sI (0 : Int32), sI (1 : Int32), .unset, .unset] [])) rfl (dt66 hby 13 rfl :) (n := 0) (by decide) (by decide) (by decide) (by decide)
  have K10 : Keep h0 h4 [] := (Keep.refl h0 []).ext E4
  have R11 : CHr Z consts_1 s.vm h0 T4.vm h4 := R0.trans C4
  obtain ⟨fs, hrt, hrun, hended, hRE⟩ := X4.leaveW hS4 (by rw [e4]; exact hk4) (v := some (.ref ba4)) (fun h => by rw [hR] at h; cases h)
  refine ⟨_, _, hPq _ <| P3 _ ?_, hrun, hended, _, _, rfl, ?_, ?_, hRE.1, hRE.2.1, hRE.2.2.1, hRE.2.2.2.mono (by decide) (by decide)⟩
  ·
   refine st4 _ ?_
   exact retOut X4 hx hR rfl (Or.inr (Or.inr (Or.inr (Or.inr ⟨rfl, rfl, rfl⟩)))) (dt66 hby 14 rfl :) hrt
  ·
   show Q66 Z a1 0 b cs sv dg h0 n0 _ T4.heap _
   rw [e4]
   exact ⟨ba4, bv4, rfl, N0, K10, Ls4, Or.inr rfl⟩
  ·
   rw [hh]
   show CHr Z consts_1 s.vm h0 T4.vm T4.heap
   rw [e4]
   exact R11.trans (CHv.at X4 hZ hEL R11.1)
 ·
  obtain ⟨T12, X12, e12, st12⟩ := getF X0 hx hZ hown (host := "") (Or.inl (hw _ (wi 24 rfl))) Via.refl e0 V3 (g := (mkF m 40 #[sR a1, sI (2 : Int32), .unset, .unset, .unset] [(.ref a1)])) rfl rfl (dt66 hby 6 rfl :)
  obtain ⟨co13, Ao13, So13, Mo13, Bo13, Go13⟩ := A3.op
  have hc62_14 : ¬ (((2147483647 : Int32) / (2 : Int32)) < (1 : Int32)) := by decide
  obtain ⟨T15, h15, k15, X15, e15, E15, A15, Y15, st15⟩ := newPE X12 hx hZ (hw _ (wi 7 rfl)) e12 (g := (mkF m 82 #[sR a1, sI (2 : Int32), sI (1 : Int32), .unset, .unset] [(.int (2 : Int32))])) rfl (dt66 hby 24 rfl :) rfl (by decide) (cap := 2) (by decide) (by decide) (by decide) (by decide) (ad := "[B") (by decide)
  obtain ⟨b15, g15⟩ : ∃ z, z = h0.size := ⟨_, rfl⟩
  rw [← g15] at A15 st15 Y15
  have ne16 : a1 ≠ b15 := Nat.ne_of_lt (Nat.lt_of_lt_of_le E3.lt (Nat.le_of_eq g15.symm))
  have g_b15 : n0 ≤ b15 := Nat.le_trans Z0 (Nat.le_of_eq g15.symm)
  have sf18 : Safe Z consts_1 s.vm h0 b15 := Safe.new (Nat.le_of_eq g15.symm)
  have sz_b15 : h0.size ≤ b15 := Nat.le_trans (Keep.refl h0 []).1 (Nat.le_of_eq g15.symm)
  have F21 : fSv Z h15 a1 (.ref b) := V3.ext E15
  have F22 : fSc Z h15 a1 (.int (0 : Int32)) := C3.ext E15
  have F23 : own_Af Z h15 b .byte (Int32.ofNat 1) f2 := A3.ext E15
  have Z24 : n0 ≤ h15.size := Nat.le_trans Z0 E15.1
  have K25 : Keep h0 h15 [] := (Keep.refl h0 []).ext E15
  have R26 : CHr Z consts_1 s.vm h0 s.vm h15 := R0.trans (CHr.ext E15 R0.1)
  have sf27 : Safe Z consts_1 s.vm h15 b15 := Safe.ext E15 R0.1 sf18
  have V15 : own_Af Z h15 b15 .byte (2 : Int32) (fun _ => 0) := own_Af.new A15 (by decide) rfl
  obtain ⟨T28, X28, e28, st28⟩ := getF X15 hx hZ hown (host := "") (Or.inl (hw _ (wi 24 rfl))) Via.refl e15 F21 (g := (mkF m 87 #[sR a1, sI (2 : Int32), sI (1 : Int32), sR b15, .unset] [(.ref a1), (.ref b15)])) rfl rfl (dt66 hby 28 rfl :)
  obtain ⟨co29, Ao29, So29, Mo29, Bo29, Go29⟩ := F23.op
  have ib30 : ¬ ((0 : Int32) < 0 ∨ co29.slots.size ≤ ((0 : Int32)).toNatClampNeg) := inb_of So29 ⟨by decide, by decide⟩
  obtain ⟨_, _, ⟨T31, L31, k31, n31⟩, -, X31, ⟨Lc31, hQ31, l31, y31, z31⟩, st31⟩ := Jvm.LawKit.callS X28 hx (y := ym67) hown (mw hZ hw 315 rfl) (mw hZ hw 316 rfl) (mw hZ hw 86 rfl) (mw hZ hw 317 rfl) (by decide) (backOf (W := 0) (rm67_2 l Z a0 hw b15 (f2 0) (fun _ => (0 : Int32)) h15 n0 Z24 V15 g_b15) hZ (hw _ (wi 317 rfl)) (hw _ (wi 86 rfl)) (by decide) (by decide)) (g := (mkF m 92 #[sR a1, sI (2 : Int32), sI (1 : Int32), sR b15, .unset] [(.int (f2 0)), (.ref b15)])) rfl (by rw [hml]; rfl) (argsL := [(.ref b15), (.int (f2 0))]) (rest := []) (lenOf pd_18 rfl) rfl (Nat.le_refl _) (dt66 hby 31 rfl :) (fun _ _ => ⟨rfl, e28, (by decide : 1 + 0 ≤ _), (by decide : 2 + 0 ≤ _)⟩)
  dsimp only [Pt.U, Pt.locs, Pt.cells, Pt.slots] at X31 l31 y31 z31 st31 hQ31
  subst l31 y31 z31
  obtain ⟨g32, rfl, N31q, R33, R34, R35⟩ := hQ31
  have N31 := Fr.app N0 N31q
  have F39 : fSc Z T31.heap a1 (.int (0 : Int32)) := F22.keep R33 (ninS ne16 nin0)
  have F41 : eA Z T31.heap b15 := Y15.keep R33
  have Z42 : n0 ≤ T31.heap.size := Nat.le_trans Z24 R33.1
  have K43 : Keep h0 T31.heap [] := K25.trans R33 (allS (Or.inr sz_b15) all0)
  have R44 : CHr Z consts_1 s.vm h0 s.vm T31.heap := R26.trans (CHr.keep R33 (allS sf27 all0) R26.1)
  obtain ⟨T46, h46, X46, e46, E46, A46, D46, -, st46⟩ := newO X31 hx hZ hown (hw _ (wi 229 rfl)) (hw _ (wi 6 rfl)) (hw _ (wi 5 rfl)) rfl (g := (mkF m 95 #[sR a1, sI (2 : Int32), sI (1 : Int32), sR b15, .unset] [])) rfl (dt66 hby 32 rfl :) (by decide) (by decide)
  obtain ⟨b46, g46⟩ : ∃ z, z = T31.heap.size := ⟨_, rfl⟩
  rw [← g46] at A46 D46 st46
  have ne49 : b15 ≠ b46 := Nat.ne_of_lt (Nat.lt_of_lt_of_le F41.lt (Nat.le_of_eq g46.symm))
  have g_b46 : n0 ≤ b46 := Nat.le_trans Z42 (Nat.le_of_eq g46.symm)
  have sf50 : Safe Z consts_1 s.vm T31.heap b46 := Safe.new (Nat.le_of_eq g46.symm)
  have sz_b46 : h0.size ≤ b46 := Nat.le_trans K43.1 (Nat.le_of_eq g46.symm)
  have F54 : fSc Z h46 a1 (.int (0 : Int32)) := F39.ext E46
  have F57 : own_Af Z h46 b15 .byte (Int32.ofNat 2) g32 := R34.ext E46
  have Z58 : n0 ≤ h46.size := Nat.le_trans Z42 E46.1
  have K59 : Keep h0 h46 [] := K43.ext E46
  have R60 : CHr Z consts_1 s.vm h0 s.vm h46 := R44.trans (CHr.ext E46 R44.1)
  have sf62 : Safe Z consts_1 s.vm h46 b46 := Safe.ext E46 R44.1 sf50
  have F63 : fSv Z h46 b46 .null := D46 (Or.inr (hw _ (wi 8 rfl))) (ty := (.array .byte)) (by decide)
  have F64 : fSc Z h46 b46 (.int (0 : Int32)) := D46 (Or.inr (hw _ (wi 9 rfl))) (ty := .byte) (by decide)
  obtain ⟨T65, X65, e65, st65⟩ := getF X46 hx hZ hown (host := "") (Or.inl (hw _ (wi 31 rfl))) Via.refl e46 F54 (g := (mkF m 101 #[sR a1, sI (2 : Int32), sI (1 : Int32), sR b15, .unset] [(.ref a1), (.ref b15), (.ref b46), (.ref b46)])) rfl rfl (dt66 hby 36 rfl :)
  obtain ⟨_, _, ⟨T66, L66, k66, n66⟩, -, X66, ⟨Lc66, hQ66, l66, y66, z66⟩, st66⟩ := X65.specialBack hx (y := ym51) rfl hown (mw hZ hw 233 rfl) (mw hZ hw 234 rfl) (mw hZ hw 235 rfl) (by decide) (backOf (W := 1) (rm51_0 l Z a0 hw b46 b15 h46 n0 Z58 A46 g_b46 F63 F64) hZ (hw _ (wi 235 rfl)) (hw _ (wi 5 rfl)) (by decide) (by decide)) (g := (mkF m 104 #[sR a1, sI (2 : Int32), sI (1 : Int32), sR b15, .unset] [(.int (0 : Int32)), (.ref b15), (.ref b46), (.ref b46)])) rfl (by rw [hml]; rfl) (Steps.refl _) (a := b46) (argsL := [(.ref b15), (.int (0 : Int32))]) (rest := [(.ref b46)]) (lenOf pd_18 rfl) rfl (Nat.le_refl _) (dt66 hby 37 rfl :) (fun _ _ => ⟨rfl, e65, (by decide : 2 + 0 ≤ _), (by decide : 6 + 0 ≤ _)⟩)
  dsimp only [Pt.U, Pt.locs, Pt.cells, Pt.slots] at X66 l66 y66 z66 st66 hQ66
  subst l66 y66 z66
  obtain ⟨rfl, N66q, R67, R68, R69, R70⟩ := hQ66
  have N66 := Fr.app N31 N66q
  have F77 : own_Af Z T66.heap b15 .byte (Int32.ofNat 2) g32 := F57.keep R67 (ninS ne49 nin0)
  have K80 : Keep h0 T66.heap [] := K59.trans R67 (allS (Or.inr sz_b46) all0)
  have R81 : CHr Z consts_1 s.vm h0 s.vm T66.heap := R60.trans (CHr.keep R67 (allS sf62 all0) R60.1)
  have hv := R35
  rw [hf0, own_nbl] at hv
  have Sq : own_Ls Z T66.heap b46 b15 (List.replicate 2 (48 : Int32)) := ⟨g32, R68, R69, R70, F77, own_lat_rep (own_rp2 hv), by decide⟩
  obtain ⟨fs, hrt, hrun, hended, hRE⟩ := X66.leaveW hS0 (Nat.le_trans (Nat.le_trans (Nat.le_trans (Nat.le_trans hk0 E15.1) R33.1) E46.1) R67.1) (v := some (.ref b46)) (fun h => by rw [hR] at h; cases h)
  refine ⟨_, _, hPq _ <| pre0 _ ?_, hrun, hended, _, _, rfl, ?_, ?_, hRE.1, hRE.2.1, hRE.2.2.1, hRE.2.2.2.mono (by decide) (by decide)⟩
  ·
   show Steps p.tables e below (sq.setTop (mkF m 0 #[sR a1, sI (2 : Int32), .unset, .unset, .unset] [])) _
   refine qiN X0 hx (dt66 hby 0 rfl :) rfl ?_
   refine qfY X0 hx 1 32 (dt66 hby 1 rfl :) ((if0 _ _).trans (flt (by decide : ¬ ((2 : Int32) < (0 : Int32)))).2.1) (by decide) (by decide) ?_
   refine qiN X0 hx (dt66 hby 2 rfl :) rfl ?_
   refine qc X0 hx (1 : Int32) (dt66 hby 3 rfl :) rfl ?_
   refine qmY X0 hx 34 39 (dt66 hby 4 rfl :) (feq (by decide : ¬ ((2 : Int32) = (1 : Int32)))).2 (by decide) (by decide) ?_
   refine qaN X0 hx (dt66 hby 5 rfl :) rfl rfl ?_
   refine st12 _ ?_
   refine X12.arraylength hx (by rw [e12]; exact Ao13.1) (State.isArrayOf_alike hZ.alike Ao13.2.1) (g := (mkF m 43 #[sR a1, sI (2 : Int32), .unset, .unset, .unset] [(.ref b)])) rfl rfl (dt66 hby 7 rfl :) _ ?_
   rw [len_of So13 Mo13]
   show Steps p.tables e below (T12.setTop (mkF m 44 #[sR a1, sI (2 : Int32), .unset, .unset, .unset] [(.int (1 : Int32))])) _
   refine qsN X12 hx (l' := #[sR a1, sI (2 : Int32), sI (1 : Int32), .unset, .unset]) (dt66 hby 8 rfl :) rfl ?_
   refine qiN X12 hx (dt66 hby 9 rfl :) rfl ?_
   refine qfN X12 hx (dt66 hby 10 rfl :) ((if0 _ _).trans (feq (by decide : ¬ ((1 : Int32) = (0 : Int32)))).1) ?_
   refine qiN X12 hx (dt66 hby 11 rfl :) rfl ?_
   refine qfY X12 hx 50 56 (dt66 hby 12 rfl :) ((if0 _ _).trans (feq (by decide : ¬ ((2 : Int32) = (0 : Int32)))).2) (by decide) (by decide) ?_
   refine X12.ldcwInt hx hown (mw hZ hw 314 rfl) (g := (mkF m 56 #[sR a1, sI (2 : Int32), sI (1 : Int32), .unset, .unset] [])) rfl (dt66 hby 15 rfl :) _ ?_
   refine qiN X12 hx (dt66 hby 16 rfl :) rfl ?_
   refine XS.idiv X12.here hx rfl (dt66 hby 17 rfl :) rfl (by decide) ?_
   refine qiN X12 hx (dt66 hby 18 rfl :) rfl ?_
   refine qmY X12 hx 62 76 (dt66 hby 19 rfl :) (flt hc62_14).2.1 (by decide) (by decide) ?_
   refine qiN X12 hx (dt66 hby 20 rfl :) rfl ?_
   refine qc X12 hx (1 : Int32) (dt66 hby 21 rfl :) rfl ?_
   refine qmN X12 hx (dt66 hby 22 rfl :) (teq (by decide : (1 : Int32) = (1 : Int32))).2 ?_
   refine qiN X12 hx (dt66 hby 23 rfl :) rfl ?_
   refine st15 _ ?_
   refine qtN X15 hx (l' := #[sR a1, sI (2 : Int32), sI (1 : Int32), sR b15, .unset]) (dt66 hby 25 rfl :) rfl rfl ?_
   refine qaN X15 hx (dt66 hby 26 rfl :) rfl rfl ?_
   refine qaN X15 hx (dt66 hby 27 rfl :) rfl rfl ?_
   refine st28 _ ?_
   refine qc X28 hx (0 : Int32) (dt66 hby 29 rfl :) rfl ?_
   refine X28.baloadBytes hx (j := (0 : Int32)) (v := (.int (f2 ((0 : Int32)).toNatClampNeg))) (by rw [e28]; exact Ao29.1) (State.isArrayOf_alike hZ.alike Ao29.2.1) Ao29.2.2 ib30 (Bo29 _ (Nat.lt_of_not_le fun q => ib30 (Or.inr q))) (g := (mkF m 91 #[sR a1, sI (2 : Int32), sI (1 : Int32), sR b15, .unset] [(.int (0 : Int32)), (.ref b), (.ref b15)])) rfl rfl (dt66 hby 30 rfl :) _ ?_
   rw [show (f2 ((0 : Int32)).toNatClampNeg) = (f2 0) from congrArg f2 (by decide)]
   refine st31 _ ?_
   refine st46 _ ?_
   refine XS.dup X46.here hx rfl (dt66 hby 33 rfl :) rfl rfl ?_
   refine qaN X46 hx (dt66 hby 34 rfl :) rfl rfl ?_
   refine qaN X46 hx (dt66 hby 35 rfl :) rfl rfl ?_
   refine st65 _ ?_
   refine st66.trans ?_
   exact retOut X66 hx hR rfl (Or.inr (Or.inr (Or.inr (Or.inr ⟨rfl, rfl, rfl⟩)))) (dt66 hby 38 rfl :) hrt
  ·
   show Q66 Z a1 2 b cs sv dg h0 n0 _ T66.heap _
   exact ⟨b46, b15, rfl, N66, K80, Sq, Or.inl sz_b15⟩
  ·
   rw [hh]
   show CHr Z consts_1 s.vm h0 T66.vm T66.heap
   exact R81.trans (CHv.at X66 hZ hEL R81.1)
 ·
  obtain ⟨T84, X84, e84, st84⟩ := getF X0 hx hZ hown (host := "") (Or.inl (hw _ (wi 24 rfl))) Via.refl e0 V3 (g := (mkF m 40 #[sR a1, sI (3 : Int32), .unset, .unset, .unset] [(.ref a1)])) rfl rfl (dt66 hby 6 rfl :)
  obtain ⟨co85, Ao85, So85, Mo85, Bo85, Go85⟩ := A3.op
  have hc62_86 : ¬ (((2147483647 : Int32) / (3 : Int32)) < (1 : Int32)) := by decide
  obtain ⟨T87, h87, k87, X87, e87, E87, A87, Y87, st87⟩ := newPE X84 hx hZ (hw _ (wi 7 rfl)) e84 (g := (mkF m 82 #[sR a1, sI (3 : Int32), sI (1 : Int32), .unset, .unset] [(.int (3 : Int32))])) rfl (dt66 hby 24 rfl :) rfl (by decide) (cap := 3) (by decide) (by decide) (by decide) (by decide) (ad := "[B") (by decide)
  obtain ⟨b87, g87⟩ : ∃ z, z = h0.size := ⟨_, rfl⟩
  rw [← g87] at A87 st87 Y87
  have ne88 : a1 ≠ b87 := Nat.ne_of_lt (Nat.lt_of_lt_of_le E3.lt (Nat.le_of_eq g87.symm))
  have g_b87 : n0 ≤ b87 := Nat.le_trans Z0 (Nat.le_of_eq g87.symm)
  have sf90 : Safe Z consts_1 s.vm h0 b87 := Safe.new (Nat.le_of_eq g87.symm)
  have sz_b87 : h0.size ≤ b87 := Nat.le_trans (Keep.refl h0 []).1 (Nat.le_of_eq g87.symm)
  have F93 : fSv Z h87 a1 (.ref b) := V3.ext E87
  have F94 : fSc Z h87 a1 (.int (0 : Int32)) := C3.ext E87
  have F95 : own_Af Z h87 b .byte (Int32.ofNat 1) f2 := A3.ext E87
  have Z96 : n0 ≤ h87.size := Nat.le_trans Z0 E87.1
  have K97 : Keep h0 h87 [] := (Keep.refl h0 []).ext E87
  have R98 : CHr Z consts_1 s.vm h0 s.vm h87 := R0.trans (CHr.ext E87 R0.1)
  have sf99 : Safe Z consts_1 s.vm h87 b87 := Safe.ext E87 R0.1 sf90
  have V87 : own_Af Z h87 b87 .byte (3 : Int32) (fun _ => 0) := own_Af.new A87 (by decide) rfl
  obtain ⟨T100, X100, e100, st100⟩ := getF X87 hx hZ hown (host := "") (Or.inl (hw _ (wi 24 rfl))) Via.refl e87 F93 (g := (mkF m 87 #[sR a1, sI (3 : Int32), sI (1 : Int32), sR b87, .unset] [(.ref a1), (.ref b87)])) rfl rfl (dt66 hby 28 rfl :)
  obtain ⟨co101, Ao101, So101, Mo101, Bo101, Go101⟩ := F95.op
  have ib102 : ¬ ((0 : Int32) < 0 ∨ co101.slots.size ≤ ((0 : Int32)).toNatClampNeg) := inb_of So101 ⟨by decide, by decide⟩
  obtain ⟨_, _, ⟨T103, L103, k103, n103⟩, -, X103, ⟨Lc103, hQ103, l103, y103, z103⟩, st103⟩ := Jvm.LawKit.callS X100 hx (y := ym67) hown (mw hZ hw 315 rfl) (mw hZ hw 316 rfl) (mw hZ hw 86 rfl) (mw hZ hw 317 rfl) (by decide) (backOf (W := 0) (rm67_3 l Z a0 hw b87 (f2 0) (fun _ => (0 : Int32)) h87 n0 Z96 V87 g_b87) hZ (hw _ (wi 317 rfl)) (hw _ (wi 86 rfl)) (by decide) (by decide)) (g := (mkF m 92 #[sR a1, sI (3 : Int32), sI (1 : Int32), sR b87, .unset] [(.int (f2 0)), (.ref b87)])) rfl (by rw [hml]; rfl) (argsL := [(.ref b87), (.int (f2 0))]) (rest := []) (lenOf pd_18 rfl) rfl (Nat.le_refl _) (dt66 hby 31 rfl :) (fun _ _ => ⟨rfl, e100, (by decide : 1 + 0 ≤ _), (by decide : 3 + 0 ≤ _)⟩)
  dsimp only [Pt.U, Pt.locs, Pt.cells, Pt.slots] at X103 l103 y103 z103 st103 hQ103
  subst l103 y103 z103
  obtain ⟨g104, rfl, N103q, R105, R106, R107⟩ := hQ103
  have N103 := Fr.app N0 N103q
  have F111 : fSc Z T103.heap a1 (.int (0 : Int32)) := F94.keep R105 (ninS ne88 nin0)
  have F113 : eA Z T103.heap b87 := Y87.keep R105
  have Z114 : n0 ≤ T103.heap.size := Nat.le_trans Z96 R105.1
  have K115 : Keep h0 T103.heap [] := K97.trans R105 (allS (Or.inr sz_b87) all0)
  have R116 : CHr Z consts_1 s.vm h0 s.vm T103.heap := R98.trans (CHr.keep R105 (allS sf99 all0) R98.1)
  obtain ⟨T118, h118, X118, e118, E118, A118, D118, -, st118⟩ := newO X103 hx hZ hown (hw _ (wi 229 rfl)) (hw _ (wi 6 rfl)) (hw _ (wi 5 rfl)) rfl (g := (mkF m 95 #[sR a1, sI (3 : Int32), sI (1 : Int32), sR b87, .unset] [])) rfl (dt66 hby 32 rfl :) (by decide) (by decide)
  obtain ⟨b118, g118⟩ : ∃ z, z = T103.heap.size := ⟨_, rfl⟩
  rw [← g118] at A118 D118 st118
  have ne121 : b87 ≠ b118 := Nat.ne_of_lt (Nat.lt_of_lt_of_le F113.lt (Nat.le_of_eq g118.symm))
  have g_b118 : n0 ≤ b118 := Nat.le_trans Z114 (Nat.le_of_eq g118.symm)
  have sf122 : Safe Z consts_1 s.vm T103.heap b118 := Safe.new (Nat.le_of_eq g118.symm)
  have sz_b118 : h0.size ≤ b118 := Nat.le_trans K115.1 (Nat.le_of_eq g118.symm)
  have F126 : fSc Z h118 a1 (.int (0 : Int32)) := F111.ext E118
  have F129 : own_Af Z h118 b87 .byte (Int32.ofNat 3) g104 := R106.ext E118
  have Z130 : n0 ≤ h118.size := Nat.le_trans Z114 E118.1
  have K131 : Keep h0 h118 [] := K115.ext E118
  have R132 : CHr Z consts_1 s.vm h0 s.vm h118 := R116.trans (CHr.ext E118 R116.1)
  have sf134 : Safe Z consts_1 s.vm h118 b118 := Safe.ext E118 R116.1 sf122
  have F135 : fSv Z h118 b118 .null := D118 (Or.inr (hw _ (wi 8 rfl))) (ty := (.array .byte)) (by decide)
  have F136 : fSc Z h118 b118 (.int (0 : Int32)) := D118 (Or.inr (hw _ (wi 9 rfl))) (ty := .byte) (by decide)
  obtain ⟨T137, X137, e137, st137⟩ := getF X118 hx hZ hown (host := "") (Or.inl (hw _ (wi 31 rfl))) Via.refl e118 F126 (g := (mkF m 101 #[sR a1, sI (3 : Int32), sI (1 : Int32), sR b87, .unset] [(.ref a1), (.ref b87), (.ref b118), (.ref b118)])) rfl rfl (dt66 hby 36 rfl :)
  obtain ⟨_, _, ⟨T138, L138, k138, n138⟩, -, X138, ⟨Lc138, hQ138, l138, y138, z138⟩, st138⟩ := X137.specialBack hx (y := ym51) rfl hown (mw hZ hw 233 rfl) (mw hZ hw 234 rfl) (mw hZ hw 235 rfl) (by decide) (backOf (W := 1) (rm51_0 l Z a0 hw b118 b87 h118 n0 Z130 A118 g_b118 F135 F136) hZ (hw _ (wi 235 rfl)) (hw _ (wi 5 rfl)) (by decide) (by decide)) (g := (mkF m 104 #[sR a1, sI (3 : Int32), sI (1 : Int32), sR b87, .unset] [(.int (0 : Int32)), (.ref b87), (.ref b118), (.ref b118)])) rfl (by rw [hml]; rfl) (Steps.refl _) (a := b118) (argsL := [(.ref b87), (.int (0 : Int32))]) (rest := [(.ref b118)]) (lenOf pd_18 rfl) rfl (Nat.le_refl _) (dt66 hby 37 rfl :) (fun _ _ => ⟨rfl, e137, (by decide : 2 + 0 ≤ _), (by decide : 7 + 0 ≤ _)⟩)
  dsimp only [Pt.U, Pt.locs, Pt.cells, Pt.slots] at X138 l138 y138 z138 st138 hQ138
  subst l138 y138 z138
  obtain ⟨rfl, N138q, R139, R140, R141, R142⟩ := hQ138
  have N138 := Fr.app N103 N138q
  have F149 : own_Af Z T138.heap b87 .byte (Int32.ofNat 3) g104 := F129.keep R139 (ninS ne121 nin0)
  have K152 : Keep h0 T138.heap [] := K131.trans R139 (allS (Or.inr sz_b118) all0)
  have R153 : CHr Z consts_1 s.vm h0 s.vm T138.heap := R132.trans (CHr.keep R139 (allS sf134 all0) R132.1)
  have hv := R107
  rw [hf0, own_nbl] at hv
  have Sq : own_Ls Z T138.heap b118 b87 (List.replicate 3 (48 : Int32)) := ⟨g104, R140, R141, R142, F149, own_lat_rep (own_rp3 hv), by decide⟩
  obtain ⟨fs, hrt, hrun, hended, hRE⟩ := X138.leaveW hS0 (Nat.le_trans (Nat.le_trans (Nat.le_trans (Nat.le_trans hk0 E87.1) R105.1) E118.1) R139.1) (v := some (.ref b118)) (fun h => by rw [hR] at h; cases h)
  refine ⟨_, _, hPq _ <| pre0 _ ?_, hrun, hended, _, _, rfl, ?_, ?_, hRE.1, hRE.2.1, hRE.2.2.1, hRE.2.2.2.mono (by decide) (by decide)⟩
  ·
   show Steps p.tables e below (sq.setTop (mkF m 0 #[sR a1, sI (3 : Int32), .unset, .unset, .unset] [])) _
   refine qiN X0 hx (dt66 hby 0 rfl :) rfl ?_
   refine qfY X0 hx 1 32 (dt66 hby 1 rfl :) ((if0 _ _).trans (flt (by decide : ¬ ((3 : Int32) < (0 : Int32)))).2.1) (by decide) (by decide) ?_
   refine qiN X0 hx (dt66 hby 2 rfl :) rfl ?_
   refine qc X0 hx (1 : Int32) (dt66 hby 3 rfl :) rfl ?_
   refine qmY X0 hx 34 39 (dt66 hby 4 rfl :) (feq (by decide : ¬ ((3 : Int32) = (1 : Int32)))).2 (by decide) (by decide) ?_
   refine qaN X0 hx (dt66 hby 5 rfl :) rfl rfl ?_
   refine st84 _ ?_
   refine X84.arraylength hx (by rw [e84]; exact Ao85.1) (State.isArrayOf_alike hZ.alike Ao85.2.1) (g := (mkF m 43 #[sR a1, sI (3 : Int32), .unset, .unset, .unset] [(.ref b)])) rfl rfl (dt66 hby 7 rfl :) _ ?_
   rw [len_of So85 Mo85]
   show Steps p.tables e below (T84.setTop (mkF m 44 #[sR a1, sI (3 : Int32), .unset, .unset, .unset] [(.int (1 : Int32))])) _
   refine qsN X84 hx (l' := #[sR a1, sI (3 : Int32), sI (1 : Int32), .unset, .unset]) (dt66 hby 8 rfl :) rfl ?_
   refine qiN X84 hx (dt66 hby 9 rfl :) rfl ?_
   refine qfN X84 hx (dt66 hby 10 rfl :) ((if0 _ _).trans (feq (by decide : ¬ ((1 : Int32) = (0 : Int32)))).1) ?_
   refine qiN X84 hx (dt66 hby 11 rfl :) rfl ?_
   refine qfY X84 hx 50 56 (dt66 hby 12 rfl :) ((if0 _ _).trans (feq (by decide : ¬ ((3 : Int32) = (0 : Int32)))).2) (by decide) (by decide) ?_
   refine X84.ldcwInt hx hown (mw hZ hw 314 rfl) (g := (mkF m 56 #[sR a1, sI (3 : Int32), sI (1 : Int32), .unset, .unset] [])) rfl (dt66 hby 15 rfl :) _ ?_
   refine qiN X84 hx (dt66 hby 16 rfl :) rfl ?_
   refine XS.idiv X84.here hx rfl (dt66 hby 17 rfl :) rfl (by decide) ?_
   refine qiN X84 hx (dt66 hby 18 rfl :) rfl ?_
   refine qmY X84 hx 62 76 (dt66 hby 19 rfl :) (flt hc62_86).2.1 (by decide) (by decide) ?_
   refine qiN X84 hx (dt66 hby 20 rfl :) rfl ?_
   refine qc X84 hx (1 : Int32) (dt66 hby 21 rfl :) rfl ?_
   refine qmN X84 hx (dt66 hby 22 rfl :) (teq (by decide : (1 : Int32) = (1 : Int32))).2 ?_
   refine qiN X84 hx (dt66 hby 23 rfl :) rfl ?_
   refine st87 _ ?_
   refine qtN X87 hx (l' := #[sR a1, sI (3 : Int32), sI (1 : Int32), sR b87, .unset]) (dt66 hby 25 rfl :) rfl rfl ?_
   refine qaN X87 hx (dt66 hby 26 rfl :) rfl rfl ?_
   refine qaN X87 hx (dt66 hby 27 rfl :) rfl rfl ?_
   refine st100 _ ?_
   refine qc X100 hx (0 : Int32) (dt66 hby 29 rfl :) rfl ?_
   refine X100.baloadBytes hx (j := (0 : Int32)) (v := (.int (f2 ((0 : Int32)).toNatClampNeg))) (by rw [e100]; exact Ao101.1) (State.isArrayOf_alike hZ.alike Ao101.2.1) Ao101.2.2 ib102 (Bo101 _ (Nat.lt_of_not_le fun q => ib102 (Or.inr q))) (g := (mkF m 91 #[sR a1, sI (3 : Int32), sI (1 : Int32), sR b87, .unset] [(.int (0 : Int32)), (.ref b), (.ref b87)])) rfl rfl (dt66 hby 30 rfl :) _ ?_
   rw [show (f2 ((0 : Int32)).toNatClampNeg) = (f2 0) from congrArg f2 (by decide)]
   refine st103 _ ?_
   refine st118 _ ?_
   refine XS.dup X118.here hx rfl (dt66 hby 33 rfl :) rfl rfl ?_
   refine qaN X118 hx (dt66 hby 34 rfl :) rfl rfl ?_
   refine qaN X118 hx (dt66 hby 35 rfl :) rfl rfl ?_
   refine st137 _ ?_
   refine st138.trans ?_
   exact retOut X138 hx hR rfl (Or.inr (Or.inr (Or.inr (Or.inr ⟨rfl, rfl, rfl⟩)))) (dt66 hby 38 rfl :) hrt
  ·
   show Q66 Z a1 3 b cs sv dg h0 n0 _ T138.heap _
   exact ⟨b118, b87, rfl, N138, K152, Sq, Or.inl sz_b87⟩
  ·
   rw [hh]
   show CHr Z consts_1 s.vm h0 T138.vm T138.heap
   exact R153.trans (CHv.at X138 hZ hEL R153.1)
theorem own_encE {xs : List Int32} {i tt : Nat} {c : Int32} (hi : i < xs.length) (hc : c = xs.getD i 0) (he : own_esc c) (hch : own_ch c) (ht : tt = c.toInt.toNat) : (((own_encs (xs.take i) ++ ([(92 : Int32), (117 : Int32)] : List Int32)) ++ (List.replicate (4 - (own_hs tt).length) (48 : Int32))) ++ (own_hs tt)) = own_encs (xs.take (i + 1)) := by
  subst ht
  rw [own_encs_take hi, ← hc, own_enc1 he, List.append_assoc, own_pad (own_esct he hch), List.append_assoc]; rfl
theorem own_encN {xs : List Int32} {i : Nat} {c : Int32} (hi : i < xs.length) (hc : c = xs.getD i 0) (he : ¬ own_esc c) : (own_encs (xs.take i) ++ [c]) = own_encs (xs.take (i + 1)) := by
  rw [own_encs_take hi, ← hc, own_enc0 he]
theorem own_8233 {c : Int32} (he : own_esc c) (q : ¬ (c.toInt < 32 ∨ (127 ≤ c.toInt ∧ c.toInt ≤ 159))) (h : ¬ c = (8232 : Int32)) : c = (8233 : Int32) := by
  have e1 : (8232 : Int32).toInt = 8232 := rfl
  have e2 : (8233 : Int32).toInt = 8233 := rfl
  rw [← Int32.toInt_inj, e1] at h
  refine own_inj ?_
  unfold own_esc at he
  omega
theorem own_nesc {c r : Int32} (he : ¬ own_esc c) (v : ((c.toInt < 32 ∨ (127 ≤ c.toInt ∧ c.toInt ≤ 159)) ∧ r = (1 : Int32)) ∨ (¬ (c.toInt < 32 ∨ (127 ≤ c.toInt ∧ c.toInt ≤ 159)) ∧ r = (0 : Int32))) : r = (0 : Int32) ∧ ¬ c = (8232 : Int32) ∧ ¬ c = (8233 : Int32) := by
  unfold own_esc at he
  refine ⟨?_, fun e => ?_, fun e => ?_⟩
  · rcases v with ⟨q, -⟩ | ⟨-, q⟩
    · exact absurd (q.elim Or.inl (fun z => Or.inr (Or.inl z))) he
    · exact q
  · exact he (Or.inr (Or.inr (Or.inl (by rw [e]; rfl))))
  · exact he (Or.inr (Or.inr (Or.inr (by rw [e]; rfl))))
theorem own_kk {t : Nat} : 4 - (own_hs t).length = 0 ∨ 4 - (own_hs t).length = 2 ∨ 4 - (own_hs t).length = 3 := by
  rcases own_hsl (t := t) with e | e | e <;> rw [e]
  · exact Or.inr (Or.inr rfl)
  · exact Or.inr (Or.inl rfl)
  · exact Or.inl rfl
theorem pn_11 : plainName "com/example/motes_to_bounds/motestobounds/io/TextReport" = true := by first | (simp [plainName, overriddenIn]; done) | decide +kernel
theorem pd_38 : parseMethodDescriptor "(I)C" = some ⟨[.int], some .char⟩ := by decide +kernel
theorem pd_39 : parseMethodDescriptor "(I)Ljava/lang/String;" = some ⟨[.int], some (.object "java/lang/String")⟩ := by decide +kernel
theorem pd_40 : parseMethodDescriptor "(Ljava/lang/String;)Ljava/lang/StringBuilder;" = some ⟨[(.object "java/lang/String")], some (.object "java/lang/StringBuilder")⟩ := by decide +kernel
theorem pd_41 : parseMethodDescriptor "(C)Ljava/lang/StringBuilder;" = some ⟨[.char], some (.object "java/lang/StringBuilder")⟩ := by decide +kernel
theorem pd_42 : parseMethodDescriptor "()Ljava/lang/String;" = some ⟨[], some (.object "java/lang/String")⟩ := by decide +kernel
def Q2 (Z : State) (a1 bq : Addr) (xs : List Int32) (cs : Int32) (sv : Value) (dg : Addr) (h0 : Heap) (n0 : Nat) (v : Option Value) (h : Heap) (L : List Loc) : Prop := ∃ (a2 : Addr) (b2 : Addr), v = some (.ref a2) ∧ Fr n0 L ∧ Keep h0 h [] ∧ own_Str Z h a2 b2 (own_encs xs)
theorem rm2 (l : Launch) (Z : State) (a0 : Array Value) (hw : own_hw a0 Z) (a1 bq : Addr) (xs : List Int32) (cs : Int32) (sv : Value) (dg : Addr) (h0 : Heap) (n0 : Nat) (Z0 : n0 ≤ h0.size) (HU0 : own_Str Z h0 a1 bq xs) (h3 : (xs.length ≤ 3)) (hS : (own_ST Z cs sv dg)) (HO : Old Z n0 h0) :
    MetFree l ym2 (head1 [Jvm.Cond.code ym2 cm2 5 (some (.object "java/lang/String"))] (⟨9, 47, 1596, 132⟩ : Room)) (fun a U => a = #[(.ref a1)] ∧ Z.Warmed39 U.vm ∧ U.heap = h0 ∧ CHv Z consts_1 U.vm h0) (fun _ _ _ _ _ => True) (fun _ U o U' => ∃ v L, o = .returned v ∧ Q2 Z a1 bq xs cs sv dg h0 n0 v U'.heap L ∧ CHr Z consts_1 U.vm U.heap U'.vm U'.heap ∧ ReturnedEndW U o U' L (⟨9, 47, 1596, 132⟩ : Room).cells (⟨9, 47, 1596, 132⟩ : Room).slots) := by
 refine MetFree.of_bodySF (plainFor_of_name pn_11) hisR ?_
 intro p e s m args below meth c sq Bd hml0 hP hK
 obtain ⟨rfl, hZ, hh, hC⟩ := hP
 have hx := Bd.exec
 have hby := Bd.bytes
 have hR := Bd.returns
 have hml : c.maxLocals = 5 := hml0
 have hown : s.vm.findClass "com/example/motes_to_bounds/motestobounds/io/TextReport" = some m.cls := findClass_of_methodNamed Bd.named
 have hnm := (name_of_methodNamed Bd.named Bd.method).1
 have X0 : Stand p l e (⟨9, 47, 1596, 132⟩ : Room) (s.setVm s.vm) m #[(.ref a1)] below meth c sq [] 0 0 := Stand.of_body Bd
 have e0 : sq.heap = h0 := by rw [← hh, Bd.state]; rfl
 have N0 := Fr.nil n0
 obtain ⟨Pq, hPq, pre0⟩ : ∃ Q : State → Prop, (∀ t, Q t → Steps p.tables e below (sq.setTop (entryFrame m #[(.ref a1)] 5)) t) ∧ ∀ t, Steps p.tables e below (sq.setTop (mkF m 0 #[sR a1, .unset, .unset, .unset, .unset] [])) t → Q t := ⟨_, fun _ k => k, fun t k => castTop (by first | (simp [entryFrame, mkF, argsToLocals, Value.category]; done) | rfl) k⟩
 have hZ : Z.Warmed39 (s.setVm s.vm).vm := hZ
 have hown : (s.setVm s.vm).vm.findClass "com/example/motes_to_bounds/motestobounds/io/TextReport" = some m.cls := hown
 have hS0 : s.Since s.vm 0 := (State.WarmedH.refl s).since 0
 have hk0 : 0 ≤ h0.size := Nat.zero_le _
 have hEL := own_EW hw
 have wS := own_wS hw
 have R0 : CHr Z consts_1 s.vm h0 s.vm h0 := CHr.refl hC
 have Es := HU0.exa
 obtain ⟨T1, h1, X1, e1, E1, A1, D1, -, st1⟩ := newO X0 hx hZ hown (hw _ (wi 16 rfl)) (hw _ (wi 17 rfl)) (hw _ (wi 18 rfl)) e0 (g := (mkF m 0 #[sR a1, .unset, .unset, .unset, .unset] [])) rfl (dt2 hby 0 rfl :) (by decide) (by decide)
 obtain ⟨b1, g1⟩ : ∃ z, z = h0.size := ⟨_, rfl⟩
 rw [← g1] at A1 D1 st1
 have ne2 : a1 ≠ b1 := Nat.ne_of_lt (Nat.lt_of_lt_of_le HU0.lt0 (Nat.le_of_eq g1.symm))
 have ne3 : bq ≠ b1 := Nat.ne_of_lt (Nat.lt_of_lt_of_le HU0.lt1 (Nat.le_of_eq g1.symm))
 have g_b1 : n0 ≤ b1 := Nat.le_trans Z0 (Nat.le_of_eq g1.symm)
 have sf4 : Safe Z consts_1 s.vm h0 b1 := Safe.new (Nat.le_of_eq g1.symm)
 have sz_b1 : h0.size ≤ b1 := Nat.le_trans (Keep.refl h0 []).1 (Nat.le_of_eq g1.symm)
 have F5 : own_Str Z h1 a1 bq xs := HU0.ext E1
 have F6 : Old Z n0 h1 := HO.ext E1
 have F7 : eS Z h1 a1 := Es.ext E1
 have Z8 : n0 ≤ h1.size := Nat.le_trans Z0 E1.1
 have K9 : Keep h0 h1 [] := (Keep.refl h0 []).ext E1
 have R10 : CHr Z consts_1 s.vm h0 s.vm h1 := R0.trans (CHr.ext E1 R0.1)
 have sf11 : Safe Z consts_1 s.vm h1 b1 := Safe.ext E1 R0.1 sf4
 have F12 : fBv Z h1 b1 .null := D1 (Or.inl (hw _ (wi 46 rfl))) (ty := (.array .byte)) (by decide)
 have F13 : fBc Z h1 b1 (.int (0 : Int32)) := D1 (Or.inl (hw _ (wi 48 rfl))) (ty := .byte) (by decide)
 have F14 : fBn Z h1 b1 (.int (0 : Int32)) := D1 (Or.inl (hw _ (wi 78 rfl))) (ty := .int) (by decide)
 have F15 : fBm Z h1 b1 (.int (0 : Int32)) := D1 (Or.inl (hw _ (wi 224 rfl))) (ty := .boolean) (by decide)
 obtain ⟨cq16, kq16, q16a, q16b, q16c⟩ := isOf hZ e1 F7
 obtain ⟨_, _, ⟨T16, L16, k16, n16⟩, -, X16, ⟨Lc16, hQ16, l16, y16, z16⟩, st16⟩ := X1.virtualBack hx (y := ym3) (z := ym3) hown (mw hZ hw 19 rfl) (mw hZ hw 20 rfl) (notFace_of_selects (args := #[]) (mw hZ hw 22 rfl)) (mw hZ hw 22 rfl) (mw hZ hw 21 rfl) (by decide) (backOf (W := 2) (rm3_s l Z a0 hw a1 bq xs cs sv dg h1 n0 Z8 F5 hS F6) hZ (hw _ (wi 23 rfl)) (hw _ (wi 5 rfl)) (by decide) (by decide)) q16a q16c (g := (mkF m 5 #[sR a1, .unset, .unset, .unset, .unset] [(.ref a1), (.ref b1), (.ref b1)])) rfl (by rw [hml]; rfl) (Steps.refl _) (argsL := []) (rest := [(.ref b1), (.ref b1)]) (lenOf pd_28 rfl) rfl (Nat.le_refl _) (dt2 hby 3 rfl :) (fun _ _ => ⟨rfl, e1, (by decide : 1 + 0 ≤ _), (by decide : 4 + 0 ≤ _)⟩)
 dsimp only [Pt.U, Pt.locs, Pt.cells, Pt.slots] at X16 l16 y16 z16 st16 hQ16
 subst l16 y16 z16
 obtain ⟨rfl, N16q, R17⟩ := hQ16
 have N16 := Fr.app N0 N16q
 obtain ⟨_, _, ⟨T19, L19, k19, n19⟩, -, X19, ⟨Lc19, hQ19, l19, y19, z19⟩, st19⟩ := X16.specialBack hx (y := ym5) rfl hown (mw hZ hw 32 rfl) (mw hZ hw 33 rfl) (mw hZ hw 34 rfl) (by decide) (backOf (W := 1) (rm5 l Z a0 hw b1 xs.length cs sv dg h1 n0 Z8 A1 g_b1 F12 F13 F14 F15 (by omega) hS F6) hZ (hw _ (wi 34 rfl)) (hw _ (wi 18 rfl)) (by decide) (by decide)) (g := (mkF m 8 #[sR a1, .unset, .unset, .unset, .unset] [(.int (Int32.ofNat xs.length)), (.ref b1), (.ref b1)])) rfl (by rw [hml]; rfl) (Steps.refl _) (a := b1) (argsL := [(.int (Int32.ofNat xs.length))]) (rest := [(.ref b1)]) (lenOf pd_24 rfl) rfl (Nat.le_refl _) (dt2 hby 4 rfl :) (fun _ _ => ⟨rfl, R17, (by decide : 1 + 1 ≤ _), (by decide : 4 + 3 ≤ _)⟩)
 dsimp only [Pt.U, Pt.locs, Pt.cells, Pt.slots] at X19 l19 y19 z19 st19 hQ19
 subst l19 y19 z19
 obtain ⟨b20, rfl, N19q, R21, R22, R23, R24, R25, R26, R27, R28, R29, R30⟩ := hQ19
 have N19 := Fr.app N16 N19q
 have F31 : own_Str Z T19.heap a1 bq xs := F5.keep R21 (ninS ne2 nin0) (ninS ne3 nin0)
 have F32 : Old Z n0 T19.heap := F6.keep R21 (allS g_b1 all0)
 have Z35 : n0 ≤ T19.heap.size := Nat.le_trans Z8 R21.1
 have K36 : Keep h0 T19.heap [] := K9.trans R21 (allS (Or.inr sz_b1) all0)
 have R37 : CHr Z consts_1 s.vm h0 s.vm T19.heap := R10.trans (CHr.keep R21 (allS sf11 all0) R10.1)
 have ne39 : a1 ≠ b20 := Nat.ne_of_lt (Nat.lt_of_lt_of_le F5.lt0 R24)
 have ne40 : bq ≠ b20 := Nat.ne_of_lt (Nat.lt_of_lt_of_le F5.lt1 R24)
 have ne41 : b1 ≠ b20 := Nat.ne_of_lt (Nat.lt_of_lt_of_le A1.lt R24)
 have sz_b20 : h0.size ≤ b20 := Nat.le_trans K9.1 R24
 have sf42 : Safe Z consts_1 s.vm T19.heap b20 := Safe.keep R21 (allS sf11 all0) R10.1 (Safe.new R24)
 have Sb0 : own_Sb Z T19.heap b1 b20 (own_encs (xs.take 0)) := own_Sb.mk0 (ys := []) (n := 0) rfl ne41 R22 R25 R27 R29 R30 R28 R26 (Nat.zero_le _) (by omega) (fun i hi => absurd hi (Nat.not_lt_zero i))
 have P43 : ∀ t, Steps p.tables e below (T19.setTop (mkF m 14 #[sR a1, sR b1, sI (Int32.ofNat 0), .unset, .unset] [])) t → Pq t := fun t k => pre0 t (by
  refine st1 _ ?_
  refine XS.dup X1.here hx rfl (dt2 hby 1 rfl :) rfl rfl ?_
  refine qaN X1 hx (dt2 hby 2 rfl :) rfl rfl ?_
  refine st16.trans ?_
  refine st19.trans ?_
  refine qtN X19 hx (l' := #[sR a1, sR b1, .unset, .unset, .unset]) (dt2 hby 5 rfl :) rfl rfl ?_
  refine qc X19 hx (0 : Int32) (dt2 hby 6 rfl :) rfl ?_
  refine qsN X19 hx (l' := #[sR a1, sR b1, sI (0 : Int32), .unset, .unset]) (dt2 hby 7 rfl :) rfl ?_
  show Steps p.tables e below (T19.setTop (mkF m 14 #[sR a1, sR b1, sI (Int32.ofNat 0), .unset, .unset] [])) _
  exact k)
 have lp : ∀ (nn i : Nat), nn + i = xs.length → ∀ (vm : Vm) (Tl : State) (lo : List Loc) (hl : Heap) (kl : Nat) (b : Addr) (L3 L4 : Slot), (L3 = .unset ∨ ∃ u : Value, L3 = .val u ∧ u.category = 1) → (L4 = .unset ∨ ∃ u : Value, L4 = .val u ∧ u.category = 1) → Stand p l e (⟨9, 47, 1596, 132⟩ : Room) (s.setVm vm) m #[(.ref a1)] below meth c Tl lo (3 + 14 * i) (20 + 500 * i) → Tl.heap = hl → s.Since vm kl → kl ≤ hl.size → Z.Warmed39 (s.setVm vm).vm → (s.setVm vm).vm.findClass "com/example/motes_to_bounds/motestobounds/io/TextReport" = some m.cls → CHr Z consts_1 s.vm h0 vm hl → Safe Z consts_1 vm hl b → own_Sb Z hl b1 b (own_encs (xs.take i)) → own_Str Z hl a1 bq xs → Old Z n0 hl → Keep h0 hl [] → Fr n0 lo → n0 ≤ hl.size → h0.size ≤ b → n0 ≤ b → a1 ≠ b → bq ≠ b → (∀ t, Steps p.tables e below (Tl.setTop (mkF m 14 #[sR a1, sR b1, sI (Int32.ofNat i), L3, L4] [])) t → Pq t) →
   ∃ (vm' : Vm) (T' : State) (lo' : List Loc) (h' : Heap) (k' : Nat) (b' : Addr) (L3 L4 : Slot), Stand p l e (⟨9, 47, 1596, 132⟩ : Room) (s.setVm vm') m #[(.ref a1)] below meth c T' lo' (3 + 14 * xs.length) (20 + 500 * xs.length) ∧ T'.heap = h' ∧ s.Since vm' k' ∧ k' ≤ h'.size ∧ Z.Warmed39 (s.setVm vm').vm ∧ (s.setVm vm').vm.findClass "com/example/motes_to_bounds/motestobounds/io/TextReport" = some m.cls ∧ CHr Z consts_1 s.vm h0 vm' h' ∧ own_Sb Z h' b1 b' (own_encs (xs.take xs.length)) ∧ own_Str Z h' a1 bq xs ∧ Old Z n0 h' ∧ Keep h0 h' [] ∧ Fr n0 lo' ∧ n0 ≤ h'.size ∧ ∀ t, Steps p.tables e below (T'.setTop (mkF m 14 #[sR a1, sR b1, sI (Int32.ofNat xs.length), L3, L4] [])) t → Pq t := by
  intro nn
  induction nn with
  | zero =>
   intro i hi vm Tl lo hl kl b L3 L4 hL3 hL4 Xl el hSl hkl hZ hown Rl sfl Ul Vl Ol Kl Nl Zl szl gl na nb Pl
   obtain rfl : xs.length = i := by omega
   exact ⟨vm, Tl, lo, hl, kl, b, L3, L4, Xl, el, hSl, hkl, hZ, hown, Rl, Ul, Vl, Ol, Kl, Nl, Zl, Pl⟩
  | succ nn ih =>
   intro i hi vm Tl lo hl kl b L3 L4 hL3 hL4 Xl el hSl hkl hZ hown Rl sfl Ul Vl Ol Kl Nl Zl szl gl na nb Pl
   have hin : i < xs.length := by omega
   have Es := Vl.exa
   have Eb := Ul.exa
   have hch := Vl.ch hin
   have hle := own_encs_t (xs := xs) (i := i)
   obtain ⟨cq44, kq44, q44a, q44b, q44c⟩ := isOf hZ el Es
   obtain ⟨_, _, ⟨T44, L44, k44, n44⟩, -, X44, ⟨Lc44, hQ44, l44, y44, z44⟩, st44⟩ := Xl.virtualBack hx (y := ym3) (z := ym3) hown (mw hZ hw 19 rfl) (mw hZ hw 20 rfl) (notFace_of_selects (args := #[]) (mw hZ hw 22 rfl)) (mw hZ hw 22 rfl) (mw hZ hw 21 rfl) (by decide) (backOf (W := 1) (rm3_s l Z a0 hw a1 bq xs cs sv dg hl n0 Zl Vl hS Ol) hZ (hw _ (wi 23 rfl)) (hw _ (wi 5 rfl)) (by decide) (by decide)) q44a q44c (g := (mkF m 16 #[sR a1, sR b1, sI (Int32.ofNat i), L3, L4] [(.ref a1), (.int (Int32.ofNat i))])) rfl (by rw [hml]; rfl) (Steps.refl _) (argsL := []) (rest := [(.int (Int32.ofNat i))]) (lenOf pd_28 rfl) rfl (Nat.le_refl _) (dt2 hby 10 rfl :) (fun _ _ => ⟨rfl, el, (by dsimp only [Pt.cells]; omega), (by dsimp only [Pt.slots]; omega)⟩)
   dsimp only [Pt.U, Pt.locs, Pt.cells, Pt.slots] at X44 l44 y44 z44 st44 hQ44
   subst l44 y44 z44
   obtain ⟨rfl, N44q, R45⟩ := hQ44
   have N44 := Fr.app Nl N44q
   have hc19_46 : (Int32.ofNat i) < (Int32.ofNat xs.length) := own_ilt (by omega) (by omega) hin
   obtain ⟨cq48, kq48, q48a, q48b, q48c⟩ := isOf hZ R45 Es
   obtain ⟨_, _, ⟨T48, L48, k48, n48⟩, -, X48, ⟨Lc48, hQ48, l48, y48, z48⟩, st48⟩ := X44.virtualBack hx (y := ym21) (z := ym21) hown (mw hZ hw 116 rfl) (mw hZ hw 117 rfl) (notFace_of_selects (args := #[]) (mw hZ hw 119 rfl)) (mw hZ hw 119 rfl) (mw hZ hw 118 rfl) (by decide) (backOf (W := 0) (rm21_s l Z a0 hw a1 i bq xs cs sv dg hl n0 Zl Vl (by omega) hS Ol) hZ (hw _ (wi 120 rfl)) (hw _ (wi 5 rfl)) (by decide) (by decide)) q48a q48c (g := (mkF m 24 #[sR a1, sR b1, sI (Int32.ofNat i), L3, L4] [(.int (Int32.ofNat i)), (.ref a1)])) rfl (by rw [hml]; rfl) (Steps.refl _) (argsL := [(.int (Int32.ofNat i))]) (rest := []) (lenOf pd_38 rfl) rfl (Nat.le_refl _) (dt2 hby 14 rfl :) (fun _ _ => ⟨rfl, R45, (by dsimp only [Pt.cells]; omega), (by dsimp only [Pt.slots]; omega)⟩)
   dsimp only [Pt.U, Pt.locs, Pt.cells, Pt.slots] at X48 l48 y48 z48 st48 hQ48
   subst l48 y48 z48
   obtain ⟨rfl, N48q, R49⟩ := hQ48
   have N48 := Fr.app N44 N48q
   have P50 : ∀ t, Steps p.tables e below (T48.setTop (mkF m 28 #[sR a1, sR b1, sI (Int32.ofNat i), sI (xs.getD i 0), L4] [])) t → Pq t := fun t k => Pl t (by
    refine qiN Xl hx (dt2 hby 8 rfl :) rfl ?_
    refine qaN Xl hx (dt2 hby 9 rfl :) rfl rfl ?_
    refine st44.trans ?_
    refine qmN X44 hx (dt2 hby 11 rfl :) (tlt hc19_46).2.1 ?_
    refine qaN X44 hx (dt2 hby 12 rfl :) rfl rfl ?_
    refine qiN X44 hx (dt2 hby 13 rfl :) rfl ?_
    refine st48.trans ?_
    refine qsN X48 hx (l' := #[sR a1, sR b1, sI (Int32.ofNat i), sI (xs.getD i 0), L4]) (dt2 hby 15 rfl :) (XS.store1 rfl hL3 rfl) ?_
    exact k)
   obtain ⟨c0, hc0⟩ : ∃ z : Int32, z = (xs.getD i 0) := ⟨_, rfl⟩
   have P51 : ∀ t, Steps p.tables e below (T48.setTop (mkF m 28 #[sR a1, sR b1, sI (Int32.ofNat i), sI c0, L4] [])) t → Pq t := by rw [hc0]; exact P50
   rw [← hc0] at hch
   obtain ⟨_, _, ⟨T53, L53, k53, n53⟩, -, X53, ⟨Lc53, hQ53, l53, y53, z53⟩, st53⟩ := Jvm.LawKit.callS X48 hx (y := ym26) hown (mw hZ hw 138 rfl) (mw hZ hw 139 rfl) (mw hZ hw 140 rfl) (mw hZ hw 141 rfl) (by decide) (backOf (W := 0) (rm26 l Z a0 hw c0 hl n0 Zl hch) hZ (hw _ (wi 141 rfl)) (hw _ (wi 140 rfl)) (by decide) (by decide)) (g := (mkF m 29 #[sR a1, sR b1, sI (Int32.ofNat i), sI c0, L4] [(.int c0)])) rfl (by rw [hml]; rfl) (argsL := [(.int c0)]) (rest := []) (lenOf pd_16 rfl) rfl (Nat.le_refl _) (dt2 hby 17 rfl :) (fun _ _ => ⟨rfl, R49, (by dsimp only [Pt.cells]; omega), (by dsimp only [Pt.slots]; omega)⟩)
   dsimp only [Pt.U, Pt.locs, Pt.cells, Pt.slots] at X53 l53 y53 z53 st53 hQ53
   subst l53 y53 z53
   obtain ⟨r54, rfl, N53q, R55, R56⟩ := hQ53
   have N53 := Fr.app N48 N53q
   have P57 : ∀ t, Steps p.tables e below (T53.setTop (mkF m 32 #[sR a1, sR b1, sI (Int32.ofNat i), sI c0, L4] [(.int r54)])) t → Pq t := fun t k => P51 t (by
    refine qiN X48 hx (dt2 hby 16 rfl :) rfl ?_
    refine st53 _ ?_
    exact k)
   by_cases hesc : own_esc c0
   ·
    have P58 : ∀ t, Steps p.tables e below (T53.setTop (mkF m 49 #[sR a1, sR b1, sI (Int32.ofNat i), sI c0, L4] [])) t → Pq t := by
     intro t kk
     rcases R55 with ⟨q, rfl⟩ | ⟨q, rfl⟩
     ·
      have P59 : ∀ t, Steps p.tables e below (T53.setTop (mkF m 49 #[sR a1, sR b1, sI (Int32.ofNat i), sI c0, L4] [])) t → Pq t := fun t k => P57 t (by
       refine qfY X53 hx 32 49 (dt2 hby 18 rfl :) ((if0 _ _).trans (feq (by decide : ¬ ((1 : Int32) = (0 : Int32)))).2) (by decide) (by decide) ?_
       exact k)
      exact P59 t kk
     ·
      have P60 : ∀ t, Steps p.tables e below (T53.setTop (mkF m 39 #[sR a1, sR b1, sI (Int32.ofNat i), sI c0, L4] [(.int (8232 : Int32)), (.int c0)])) t → Pq t := fun t k => P57 t (by
       refine qfN X53 hx (dt2 hby 18 rfl :) ((if0 _ _).trans (teq (by decide : (0 : Int32) = (0 : Int32))).2) ?_
       refine qiN X53 hx (dt2 hby 19 rfl :) rfl ?_
       refine qp X53 hx (8232 : Int32) (dt2 hby 20 rfl :) rfl ?_
       exact k)
      by_cases h82 : c0 = (8232 : Int32)
      ·
       have P61 : ∀ t, Steps p.tables e below (T53.setTop (mkF m 49 #[sR a1, sR b1, sI (Int32.ofNat i), sI c0, L4] [])) t → Pq t := fun t k => P60 t (by
        refine qmY X53 hx 39 49 (dt2 hby 21 rfl :) (teq h82).1 (by decide) (by decide) ?_
        exact k)
       exact P61 t kk
      ·
       have hc46_62 : c0 = (8233 : Int32) := own_8233 hesc q h82
       have P63 : ∀ t, Steps p.tables e below (T53.setTop (mkF m 49 #[sR a1, sR b1, sI (Int32.ofNat i), sI c0, L4] [])) t → Pq t := fun t k => P60 t (by
        refine qmN X53 hx (dt2 hby 21 rfl :) (feq h82).1 ?_
        refine qiN X53 hx (dt2 hby 22 rfl :) rfl ?_
        refine qp X53 hx (8233 : Int32) (dt2 hby 23 rfl :) rfl ?_
        refine qmN X53 hx (dt2 hby 24 rfl :) (teq hc46_62).2 ?_
        exact k)
       exact P63 t kk
    obtain ⟨tt, htt⟩ : ∃ z, z = c0.toInt.toNat := ⟨_, rfl⟩
    have hot : c0 = Int32.ofNat tt := by rw [htt]; exact own_oft hch
    obtain ⟨_, _, ⟨T65, L65, k65, n65⟩, -, X65, ⟨Lc65, hQ65, l65, y65, z65⟩, st65⟩ := Jvm.LawKit.callS X53 hx (y := ym52) hown (mw hZ hw 236 rfl) (mw hZ hw 237 rfl) (mw hZ hw 238 rfl) (mw hZ hw 239 rfl) (by decide) (backOf (W := 0) (rm52 l Z a0 hw tt cs sv dg hl n0 Zl (by rw [htt]; exact own_esct hesc hch) hS Ol) hZ (hw _ (wi 239 rfl)) (hw _ (wi 238 rfl)) (by decide) (by decide)) (g := (mkF m 50 #[sR a1, sR b1, sI (Int32.ofNat i), sI (Int32.ofNat tt), L4] [(.int (Int32.ofNat tt))])) rfl (by rw [hml]; rfl) (argsL := [(.int (Int32.ofNat tt))]) (rest := []) (lenOf pd_39 rfl) rfl (Nat.le_refl _) (dt2 hby 26 rfl :) (fun _ _ => ⟨rfl, R56, (by dsimp only [Pt.cells]; omega), (by dsimp only [Pt.slots]; omega)⟩)
    dsimp only [Pt.U, Pt.locs, Pt.cells, Pt.slots] at X65 l65 y65 z65 st65 hQ65
    subst l65 y65 z65
    obtain ⟨a266, b267, rfl, N65q, R68, R69, R70, R71, R72, R73⟩ := hQ65
    have N65 := Fr.app N53 N65q
    have F74 : own_Sb Z T65.heap b1 b (own_encs (xs.take i)) := Ul.keep R68 nin0 nin0
    have F75 : own_Str Z T65.heap a1 bq xs := Vl.keep R68 nin0 nin0
    have F76 : Old Z n0 T65.heap := Ol.keep R68 all0
    have F78 : eB Z T65.heap b1 := Eb.keep R68
    have Z79 : n0 ≤ T65.heap.size := Nat.le_trans Zl R68.1
    have K80 : Keep h0 T65.heap [] := Kl.trans R68 all0
    have R81 : CHr Z consts_1 s.vm h0 vm T65.heap := Rl.trans (CHr.keep R68 all0 Rl.1)
    have sf82 : Safe Z consts_1 vm T65.heap b := Safe.keep R68 all0 Rl.1 sfl
    have ne83 : b1 ≠ a266 := Nat.ne_of_lt (Nat.lt_of_lt_of_le Ul.lt0 R70)
    have ne84 : b ≠ a266 := Nat.ne_of_lt (Nat.lt_of_lt_of_le Ul.lt1 R70)
    have ne88 : b1 ≠ b267 := Nat.ne_of_lt (Nat.lt_of_lt_of_le Ul.lt0 R72)
    have ne89 : b ≠ b267 := Nat.ne_of_lt (Nat.lt_of_lt_of_le Ul.lt1 R72)
    have P93 : ∀ t, Steps p.tables e below (T65.setTop (mkF m 56 #[sR a1, sR b1, sI (Int32.ofNat i), sI (Int32.ofNat tt), sR a266] [(.ref b1)])) t → Pq t := fun t k => P58 t (by
     refine qiN X53 hx (dt2 hby 25 rfl :) rfl ?_
     rw [show c0 = (Int32.ofNat tt) from hot]
     refine st65 _ ?_
     refine qt X65 hx (l' := #[sR a1, sR b1, sI (Int32.ofNat i), sI (Int32.ofNat tt), sR a266]) (dt2 hby 27 rfl :) rfl (XS.store1 rfl hL4 rfl) ?_
     refine qaN X65 hx (dt2 hby 28 rfl :) rfl rfl ?_
     exact k)
    obtain ⟨ba94, T94, h94, kn94, bv94, X94, e94, E94, hS94, hk94, hZ, hown, Ls94, C94, nE94, st94⟩ := own_ldcw X65 hx hZ hown (hw _ (wi 258 rfl)) wS rfl hSl (Nat.le_trans hkl R68.1) hEL (wi 0 rfl) R81.1 (zs := ([(92 : Int32), (117 : Int32)] : List Int32)) ⟨by decide, rfl⟩ (by decide) (by decide) (g := (mkF m 56 #[sR a1, sR b1, sI (Int32.ofNat i), sI (Int32.ofNat tt), sR a266] [(.ref b1)])) rfl (dt2 hby 29 rfl :) (n := 8) (by decide) (by decide) (by dsimp only; omega) (by dsimp only; omega)
    have F95 : own_Sb Z h94 b1 b (own_encs (xs.take i)) := F74.ext E94
    have F96 : own_Str Z h94 a1 bq xs := F75.ext E94
    have F97 : Old Z n0 h94 := F76.ext E94
    have F99 : eB Z h94 b1 := F78.ext E94
    have F100 : own_Ls Z h94 a266 b267 (own_hs tt) := R73.ext E94
    have Z101 : n0 ≤ h94.size := Nat.le_trans Z79 E94.1
    have K102 : Keep h0 h94 [] := K80.ext E94
    have R103 : CHr Z consts_1 s.vm h0 T94.vm h94 := R81.trans C94
    have sf104 : Safe Z consts_1 T94.vm h94 b := C94.safe F74.lt1 sf82
    have ne110 : b ≠ bv94 := (nE94 b sf104).2
    obtain ⟨cq116, kq116, q116a, q116b, q116c⟩ := isOf hZ e94 F99
    obtain ⟨_, _, ⟨T116, L116, k116, n116⟩, -, X116, ⟨Lc116, hQ116, l116, y116, z116⟩, st116⟩ := X94.virtualBack hx (y := ym57) (z := ym57) hown (mw hZ hw 259 rfl) (mw hZ hw 260 rfl) (notFace_of_selects (args := #[]) (mw hZ hw 262 rfl)) (mw hZ hw 262 rfl) (mw hZ hw 261 rfl) (by decide) (backOf (W := 0) (rm57 l Z a0 hw b1 ba94 b bv94 (own_encs (xs.take i)) ([(92 : Int32), (117 : Int32)] : List Int32) cs sv dg h94 n0 Z101 F95 Ls94 g_b1 gl (Ne.symm ne110) (by simp only [List.length_append, List.length_cons, List.length_nil, List.length_replicate]; have := own_hsl (t := tt); omega) hS F97) hZ (hw _ (wi 263 rfl)) (hw _ (wi 18 rfl)) (by decide) (by decide)) q116a q116c (g := (mkF m 59 #[sR a1, sR b1, sI (Int32.ofNat i), sI (Int32.ofNat tt), sR a266] [(.ref ba94), (.ref b1)])) rfl (by rw [hml]; rfl) (Steps.refl _) (argsL := [(.ref ba94)]) (rest := []) (lenOf pd_40 rfl) rfl (Nat.le_refl _) (dt2 hby 30 rfl :) (fun _ _ => ⟨rfl, e94, (by dsimp only [Pt.cells]; omega), (by dsimp only [Pt.slots]; omega)⟩)
    dsimp only [Pt.U, Pt.locs, Pt.cells, Pt.slots] at X116 l116 y116 z116 st116 hQ116
    subst l116 y116 z116
    obtain ⟨b2117, rfl, N116q, R118, R119, R120, R121⟩ := hQ116
    have N116 := Fr.app N65 N116q
    have F122 : own_Str Z T116.heap a1 bq xs := F96.keep R118 (ninS ne2 (ninS na nin0)) (ninS ne3 (ninS nb nin0))
    have F123 : Old Z n0 T116.heap := F97.keep R118 (allS g_b1 (allS gl all0))
    have F125 : eB Z T116.heap b1 := F99.keep R118
    have F126 : own_Ls Z T116.heap a266 b267 (own_hs tt) := F100.keep R118 (ninS (Ne.symm ne83) (ninS (Ne.symm ne84) nin0)) (ninS (Ne.symm ne88) (ninS (Ne.symm ne89) nin0))
    have Z129 : n0 ≤ T116.heap.size := Nat.le_trans Z101 R118.1
    have K130 : Keep h0 T116.heap [] := K102.trans R118 (allS (Or.inr sz_b1) (allS (Or.inr szl) all0))
    have R131 : CHr Z consts_1 s.vm h0 T94.vm T116.heap := R103.trans (CHr.keep R118 (allS (Safe.exa hZ.alike F99 (by decide) (by decide)) (allS sf104 all0)) R103.1)
    have sf132 : Safe Z consts_1 T94.vm T116.heap b := Safe.keep R118 (allS (Safe.exa hZ.alike F99 (by decide) (by decide)) (allS sf104 all0)) R103.1 sf104
    have ne135 : a1 ≠ b2117 := R120.elim (fun e => by rw [e]; exact na) (fun q => Nat.ne_of_lt (Nat.lt_of_lt_of_le F96.lt0 q))
    have ne136 : bq ≠ b2117 := R120.elim (fun e => by rw [e]; exact nb) (fun q => Nat.ne_of_lt (Nat.lt_of_lt_of_le F96.lt1 q))
    have ne137 : a266 ≠ b2117 := R120.elim (fun e => by rw [e]; exact (Ne.symm ne84)) (fun q => Nat.ne_of_lt (Nat.lt_of_lt_of_le F100.lt0 q))
    have ne138 : b267 ≠ b2117 := R120.elim (fun e => by rw [e]; exact (Ne.symm ne89)) (fun q => Nat.ne_of_lt (Nat.lt_of_lt_of_le F100.lt1 q))
    have sz141 : h0.size ≤ b2117 := R120.elim (fun e => by rw [e]; exact szl) (fun q => Nat.le_trans K102.1 q)
    have sf142 : Safe Z consts_1 T94.vm T116.heap b2117 := R120.elim (fun e => by rw [e]; exact sf132) (fun q => Safe.keep R118 (allS (Safe.exa hZ.alike F99 (by decide) (by decide)) (allS sf104 all0)) R103.1 (Safe.new q))
    have P143 : ∀ t, Steps p.tables e below (T116.setTop (mkF m 62 #[sR a1, sR b1, sI (Int32.ofNat i), sI (Int32.ofNat tt), sR a266] [(.ref b1)])) t → Pq t := fun t k => P93 t (by
     refine st94 _ ?_
     refine st116.trans ?_
     exact k)
    obtain ⟨ba144, T144, h144, kn144, bv144, X144, e144, E144, hS144, hk144, hZ, hown, Ls144, C144, nE144, st144⟩ := own_ldcw X116 hx hZ hown (hw _ (wi 308 rfl)) wS rfl hS94 (Nat.le_trans hk94 R118.1) hEL (wi 1 rfl) R131.1 (zs := ([(48 : Int32)] : List Int32)) ⟨by decide, rfl⟩ (by decide) (by decide) (g := (mkF m 62 #[sR a1, sR b1, sI (Int32.ofNat i), sI (Int32.ofNat tt), sR a266] [(.ref b1)])) rfl (dt2 hby 31 rfl :) (n := 4) (by decide) (by decide) (by dsimp only; omega) (by dsimp only; omega)
    have F145 : own_Str Z h144 a1 bq xs := F122.ext E144
    have F146 : Old Z n0 h144 := F123.ext E144
    have F148 : eB Z h144 b1 := F125.ext E144
    have F149 : own_Ls Z h144 a266 b267 (own_hs tt) := F126.ext E144
    have F150 : own_Sb Z h144 b1 b2117 ((own_encs (xs.take i)) ++ ([(92 : Int32), (117 : Int32)] : List Int32)) := R121.ext E144
    have Z151 : n0 ≤ h144.size := Nat.le_trans Z129 E144.1
    have K152 : Keep h0 h144 [] := K130.ext E144
    have R153 : CHr Z consts_1 s.vm h0 T144.vm h144 := R131.trans C144
    have sf156 : Safe Z consts_1 T144.vm h144 b2117 := C144.safe R121.lt1 sf142
    have Le144 := Ls144.exa
    have Sh := F149.str
    have Eh := F149.exa
    obtain ⟨cq165, kq165, q165a, q165b, q165c⟩ := isOf hZ e144 Eh
    obtain ⟨_, _, ⟨T165, L165, k165, n165⟩, -, X165, ⟨Lc165, hQ165, l165, y165, z165⟩, st165⟩ := X144.virtualBack hx (y := ym3) (z := ym3) hown (mw hZ hw 19 rfl) (mw hZ hw 20 rfl) (notFace_of_selects (args := #[]) (mw hZ hw 22 rfl)) (mw hZ hw 22 rfl) (mw hZ hw 21 rfl) (by decide) (backOf (W := 3) (rm3_s l Z a0 hw a266 b267 (own_hs tt) cs sv dg h144 n0 Z151 Sh hS F146) hZ (hw _ (wi 23 rfl)) (hw _ (wi 5 rfl)) (by decide) (by decide)) q165a q165c (g := (mkF m 68 #[sR a1, sR b1, sI (Int32.ofNat i), sI (Int32.ofNat tt), sR a266] [(.ref a266), (.int (4 : Int32)), (.ref ba144), (.ref b1)])) rfl (by rw [hml]; rfl) (Steps.refl _) (argsL := []) (rest := [(.int (4 : Int32)), (.ref ba144), (.ref b1)]) (lenOf pd_28 rfl) rfl (Nat.le_refl _) (dt2 hby 34 rfl :) (fun _ _ => ⟨rfl, e144, (by dsimp only [Pt.cells]; omega), (by dsimp only [Pt.slots]; omega)⟩)
    dsimp only [Pt.U, Pt.locs, Pt.cells, Pt.slots] at X165 l165 y165 z165 st165 hQ165
    subst l165 y165 z165
    obtain ⟨rfl, N165q, R166⟩ := hQ165
    have N165 := Fr.app N116 N165q
    have P167 : ∀ t, Steps p.tables e below (T165.setTop (mkF m 72 #[sR a1, sR b1, sI (Int32.ofNat i), sI (Int32.ofNat tt), sR a266] [(.int (Int32.ofNat (4 - (own_hs tt).length))), (.ref ba144), (.ref b1)])) t → Pq t := fun t k => P143 t (by
     refine st144 _ ?_
     refine qc X144 hx (4 : Int32) (dt2 hby 32 rfl :) rfl ?_
     refine qa X144 hx (dt2 hby 33 rfl :) rfl rfl ?_
     refine st165.trans ?_
     refine XS.isub X165.here hx rfl (dt2 hby 35 rfl :) rfl ?_
     rw [show ((4 : Int32) - (Int32.ofNat (own_hs tt).length)) = (Int32.ofNat (4 - (own_hs tt).length)) from own_isub (i := 4) (by have := own_hsl (t := tt); omega)]
     exact k)
    obtain ⟨cq169, kq169, q169a, q169b, q169c⟩ := isOf hZ R166 Le144
    obtain ⟨_, _, ⟨T169, L169, k169, n169⟩, -, Xq169, hSq169, hg169, ⟨Lc169, hQ169, l169, y169, z169, C169⟩, st169⟩ := X165.virtualBackS hx (y := ym66) (z := ym66) hown (mw hZ hw 309 rfl) (mw hZ hw 310 rfl) (notFace_of_selects (args := #[]) (mw hZ hw 312 rfl)) (mw hZ hw 312 rfl) (mw hZ hw 311 rfl) (by decide) (backOfSH (W := 1) (rm66 l Z a0 hw ba144 (4 - (own_hs tt).length) bv144 cs sv dg h144 n0 Z151 Ls144 own_kk hS F146) hZ (hw _ (wi 313 rfl)) (hw _ (wi 5 rfl)) (by decide) (by decide) hEL R153.1) q169a q169c (g := (mkF m 72 #[sR a1, sR b1, sI (Int32.ofNat i), sI (Int32.ofNat tt), sR a266] [(.int (Int32.ofNat (4 - (own_hs tt).length))), (.ref ba144), (.ref b1)])) rfl (by rw [hml]; rfl) (Steps.refl _) (argsL := [(.int (Int32.ofNat (4 - (own_hs tt).length)))]) (rest := [(.ref b1)]) (lenOf pd_39 rfl) rfl (Nat.le_refl _) (dt2 hby 36 rfl :) (fun _ _ => ⟨rfl, R166, (by dsimp only [Pt.cells]; omega), (by dsimp only [Pt.slots]; omega)⟩)
    dsimp only [Pt.U, Pt.locs, Pt.cells, Pt.slots] at Xq169 l169 y169 z169 st169 hQ169 C169 hSq169 hg169
    subst l169 y169 z169
    obtain ⟨X169, hS169, hZ, hown⟩ := rebS hS144 (by rw [R166]; exact hk144) Xq169 hSq169 hg169 hZ hown
    obtain ⟨a2170, b2171, rfl, N169q, R172, R173, R174⟩ := hQ169
    have N169 := Fr.app N165 N169q
    have F175 : own_Str Z T169.heap a1 bq xs := F145.keep R172 nin0 nin0
    have F176 : Old Z n0 T169.heap := F146.keep R172 all0
    have F178 : eB Z T169.heap b1 := F148.keep R172
    have F179 : own_Sb Z T169.heap b1 b2117 ((own_encs (xs.take i)) ++ ([(92 : Int32), (117 : Int32)] : List Int32)) := F150.keep R172 nin0 nin0
    have F182 : own_Ls Z T169.heap a266 b267 (own_hs tt) := F149.keep R172 nin0 nin0
    have Z183 : n0 ≤ T169.heap.size := Nat.le_trans Z151 R172.1
    have K184 : Keep h0 T169.heap [] := K152.trans R172 all0
    have R185 : CHr Z consts_1 s.vm h0 T169.vm T169.heap := R153.trans C169
    have sf188 : Safe Z consts_1 T169.vm T169.heap b2117 := C169.safe F150.lt1 sf156
    have hnz : b2171 ≠ b2117 := R174.elim (fun q => Ne.symm (Nat.ne_of_lt (Nat.lt_of_lt_of_le F150.lt1 q))) (fun q => own_ne0 F179 (by simp) (by have u := R173; rw [q] at u; exact u))
    obtain ⟨cq193, kq193, q193a, q193b, q193c⟩ := isOf hZ rfl F178
    obtain ⟨_, _, ⟨T193, L193, k193, n193⟩, -, X193, ⟨Lc193, hQ193, l193, y193, z193⟩, st193⟩ := X169.virtualBack hx (y := ym57) (z := ym57) hown (mw hZ hw 259 rfl) (mw hZ hw 260 rfl) (notFace_of_selects (args := #[]) (mw hZ hw 262 rfl)) (mw hZ hw 262 rfl) (mw hZ hw 261 rfl) (by decide) (backOf (W := 0) (rm57 l Z a0 hw b1 a2170 b2117 b2171 ((own_encs (xs.take i)) ++ ([(92 : Int32), (117 : Int32)] : List Int32)) (List.replicate (4 - (own_hs tt).length) (48 : Int32)) cs sv dg T169.heap n0 Z183 F179 R173 g_b1 R119 hnz (by simp only [List.length_append, List.length_cons, List.length_nil, List.length_replicate]; have := own_hsl (t := tt); omega) hS F176) hZ (hw _ (wi 263 rfl)) (hw _ (wi 18 rfl)) (by decide) (by decide)) q193a q193c (g := (mkF m 75 #[sR a1, sR b1, sI (Int32.ofNat i), sI (Int32.ofNat tt), sR a266] [(.ref a2170), (.ref b1)])) rfl (by rw [hml]; rfl) (Steps.refl _) (argsL := [(.ref a2170)]) (rest := []) (lenOf pd_40 rfl) rfl (Nat.le_refl _) (dt2 hby 37 rfl :) (fun _ _ => ⟨rfl, rfl, (by dsimp only [Pt.cells]; omega), (by dsimp only [Pt.slots]; omega)⟩)
    dsimp only [Pt.U, Pt.locs, Pt.cells, Pt.slots] at X193 l193 y193 z193 st193 hQ193
    subst l193 y193 z193
    obtain ⟨b2194, rfl, N193q, R195, R196, R197, R198⟩ := hQ193
    have N193 := Fr.app N169 N193q
    have F199 : own_Str Z T193.heap a1 bq xs := F175.keep R195 (ninS ne2 (ninS ne135 nin0)) (ninS ne3 (ninS ne136 nin0))
    have F200 : Old Z n0 T193.heap := F176.keep R195 (allS g_b1 (allS R119 all0))
    have F202 : eB Z T193.heap b1 := F178.keep R195
    have F203 : own_Ls Z T193.heap a266 b267 (own_hs tt) := F182.keep R195 (ninS (Ne.symm ne83) (ninS ne137 nin0)) (ninS (Ne.symm ne88) (ninS ne138 nin0))
    have Z205 : n0 ≤ T193.heap.size := Nat.le_trans Z183 R195.1
    have K206 : Keep h0 T193.heap [] := K184.trans R195 (allS (Or.inr sz_b1) (allS (Or.inr sz141) all0))
    have R207 : CHr Z consts_1 s.vm h0 T169.vm T193.heap := R185.trans (CHr.keep R195 (allS (Safe.exa hZ.alike F178 (by decide) (by decide)) (allS sf188 all0)) R185.1)
    have sf210 : Safe Z consts_1 T169.vm T193.heap b2117 := Safe.keep R195 (allS (Safe.exa hZ.alike F178 (by decide) (by decide)) (allS sf188 all0)) R185.1 sf188
    have ne211 : a1 ≠ b2194 := R197.elim (fun e => by rw [e]; exact ne135) (fun q => Nat.ne_of_lt (Nat.lt_of_lt_of_le F175.lt0 q))
    have ne212 : bq ≠ b2194 := R197.elim (fun e => by rw [e]; exact ne136) (fun q => Nat.ne_of_lt (Nat.lt_of_lt_of_le F175.lt1 q))
    have ne214 : b267 ≠ b2194 := R197.elim (fun e => by rw [e]; exact ne138) (fun q => Nat.ne_of_lt (Nat.lt_of_lt_of_le F182.lt1 q))
    have sz217 : h0.size ≤ b2194 := R197.elim (fun e => by rw [e]; exact sz141) (fun q => Nat.le_trans K184.1 q)
    have sf218 : Safe Z consts_1 T169.vm T193.heap b2194 := R197.elim (fun e => by rw [e]; exact sf210) (fun q => Safe.keep R195 (allS (Safe.exa hZ.alike F178 (by decide) (by decide)) (allS sf188 all0)) R185.1 (Safe.new q))
    obtain ⟨cq220, kq220, q220a, q220b, q220c⟩ := isOf hZ rfl F202
    obtain ⟨_, _, ⟨T220, L220, k220, n220⟩, -, X220, ⟨Lc220, hQ220, l220, y220, z220⟩, st220⟩ := X193.virtualBack hx (y := ym57) (z := ym57) hown (mw hZ hw 259 rfl) (mw hZ hw 260 rfl) (notFace_of_selects (args := #[]) (mw hZ hw 262 rfl)) (mw hZ hw 262 rfl) (mw hZ hw 261 rfl) (by decide) (backOf (W := 0) (rm57 l Z a0 hw b1 a266 b2194 b267 (((own_encs (xs.take i)) ++ ([(92 : Int32), (117 : Int32)] : List Int32)) ++ (List.replicate (4 - (own_hs tt).length) (48 : Int32))) (own_hs tt) cs sv dg T193.heap n0 Z205 R198 F203 g_b1 R196 ne214 (by simp only [List.length_append, List.length_cons, List.length_nil, List.length_replicate]; have := own_hsl (t := tt); omega) hS F200) hZ (hw _ (wi 263 rfl)) (hw _ (wi 18 rfl)) (by decide) (by decide)) q220a q220c (g := (mkF m 80 #[sR a1, sR b1, sI (Int32.ofNat i), sI (Int32.ofNat tt), sR a266] [(.ref a266), (.ref b1)])) rfl (by rw [hml]; rfl) (Steps.refl _) (argsL := [(.ref a266)]) (rest := []) (lenOf pd_40 rfl) rfl (Nat.le_refl _) (dt2 hby 39 rfl :) (fun _ _ => ⟨rfl, rfl, (by dsimp only [Pt.cells]; omega), (by dsimp only [Pt.slots]; omega)⟩)
    dsimp only [Pt.U, Pt.locs, Pt.cells, Pt.slots] at X220 l220 y220 z220 st220 hQ220
    subst l220 y220 z220
    obtain ⟨b2221, rfl, N220q, R222, R223, R224, R225⟩ := hQ220
    have N220 := Fr.app N193 N220q
    have F226 : own_Str Z T220.heap a1 bq xs := F199.keep R222 (ninS ne2 (ninS ne211 nin0)) (ninS ne3 (ninS ne212 nin0))
    have F227 : Old Z n0 T220.heap := F200.keep R222 (allS g_b1 (allS R196 all0))
    have Z231 : n0 ≤ T220.heap.size := Nat.le_trans Z205 R222.1
    have K232 : Keep h0 T220.heap [] := K206.trans R222 (allS (Or.inr sz_b1) (allS (Or.inr sz217) all0))
    have R233 : CHr Z consts_1 s.vm h0 T169.vm T220.heap := R207.trans (CHr.keep R222 (allS (Safe.exa hZ.alike F202 (by decide) (by decide)) (allS sf218 all0)) R207.1)
    have sf237 : Safe Z consts_1 T169.vm T220.heap b2194 := Safe.keep R222 (allS (Safe.exa hZ.alike F202 (by decide) (by decide)) (allS sf218 all0)) R207.1 sf218
    have ne238 : a1 ≠ b2221 := R224.elim (fun e => by rw [e]; exact ne211) (fun q => Nat.ne_of_lt (Nat.lt_of_lt_of_le F199.lt0 q))
    have ne239 : bq ≠ b2221 := R224.elim (fun e => by rw [e]; exact ne212) (fun q => Nat.ne_of_lt (Nat.lt_of_lt_of_le F199.lt1 q))
    have sz242 : h0.size ≤ b2221 := R224.elim (fun e => by rw [e]; exact sz217) (fun q => Nat.le_trans K206.1 q)
    have sf243 : Safe Z consts_1 T169.vm T220.heap b2221 := R224.elim (fun e => by rw [e]; exact sf237) (fun q => Safe.keep R222 (allS (Safe.exa hZ.alike F202 (by decide) (by decide)) (allS sf218 all0)) R207.1 (Safe.new q))
    have P244 : ∀ t, Steps p.tables e below (T220.setTop (mkF m 14 #[sR a1, sR b1, sI (Int32.ofNat (i + 1)), sI (Int32.ofNat tt), sR a266] [])) t → Pq t := fun t k => P167 t (by
     refine st169.trans ?_
     refine st193.trans ?_
     refine qa X193 hx (dt2 hby 38 rfl :) rfl rfl ?_
     refine st220.trans ?_
     refine XS.pop X220.here hx rfl (dt2 hby 40 rfl :) rfl rfl ?_
     refine qg X220 hx 84 93 (dt2 hby 41 rfl :) (by decide) (by decide) ?_
     refine XS.iinc X220.here hx rfl (dt2 hby 42 rfl :) rfl (l' := #[sR a1, sR b1, sI ((Int32.ofNat i) + (1 : Int32)), sI (Int32.ofNat tt), sR a266]) rfl ?_
     rw [show ((Int32.ofNat i) + (1 : Int32)) = (Int32.ofNat (i + 1)) from own_isucc _]
     refine qg X220 hx 96 14 (dt2 hby 43 rfl :) (by decide) (by decide) ?_
     exact k)
    have Un : own_Sb Z T220.heap b1 b2221 (own_encs (xs.take (i + 1))) := (own_encE hin hc0 hesc hch htt) ▸ R225
    exact ih (i + 1) (by omega) _ T220 _ T220.heap _ b2221 _ _ (Or.inr ⟨_, rfl, rfl⟩) (Or.inr ⟨_, rfl, rfl⟩) (X220.mono (by omega) (by omega)) rfl hS169 (Nat.le_trans (Nat.le_trans (Nat.le_refl _) R195.1) R222.1) hZ hown R233 sf243 Un F226 F227 K232 N220 Z231 sz242 R223 ne238 ne239 P244
   ·
    obtain ⟨rfl, hn1, hn2⟩ := own_nesc hesc R55
    have hc39_245 : ¬ (c0 = (8232 : Int32)) := hn1
    have hc46_246 : ¬ (c0 = (8233 : Int32)) := hn2
    obtain ⟨cq249, kq249, q249a, q249b, q249c⟩ := isOf hZ R56 Eb
    obtain ⟨_, _, ⟨T249, L249, k249, n249⟩, -, X249, ⟨Lc249, hQ249, l249, y249, z249⟩, st249⟩ := X53.virtualBack hx (y := ym28) (z := ym28) hown (mw hZ hw 145 rfl) (mw hZ hw 146 rfl) (notFace_of_selects (args := #[]) (mw hZ hw 148 rfl)) (mw hZ hw 148 rfl) (mw hZ hw 147 rfl) (by decide) (backOf (W := 0) (rm28 l Z a0 hw b1 c0 b (own_encs (xs.take i)) cs sv dg hl n0 Zl Ul g_b1 gl hch (by omega) hS Ol) hZ (hw _ (wi 149 rfl)) (hw _ (wi 18 rfl)) (by decide) (by decide)) q249a q249c (g := (mkF m 89 #[sR a1, sR b1, sI (Int32.ofNat i), sI c0, L4] [(.int c0), (.ref b1)])) rfl (by rw [hml]; rfl) (Steps.refl _) (argsL := [(.int c0)]) (rest := []) (lenOf pd_41 rfl) rfl (Nat.le_refl _) (dt2 hby 46 rfl :) (fun _ _ => ⟨rfl, R56, (by dsimp only [Pt.cells]; omega), (by dsimp only [Pt.slots]; omega)⟩)
    dsimp only [Pt.U, Pt.locs, Pt.cells, Pt.slots] at X249 l249 y249 z249 st249 hQ249
    subst l249 y249 z249
    obtain ⟨b2250, rfl, N249q, R251, R252, R253, R254⟩ := hQ249
    have N249 := Fr.app N53 N249q
    have F255 : own_Str Z T249.heap a1 bq xs := Vl.keep R251 (ninS ne2 (ninS na nin0)) (ninS ne3 (ninS nb nin0))
    have F256 : Old Z n0 T249.heap := Ol.keep R251 (allS g_b1 (allS gl all0))
    have Z259 : n0 ≤ T249.heap.size := Nat.le_trans Zl R251.1
    have K260 : Keep h0 T249.heap [] := Kl.trans R251 (allS (Or.inr sz_b1) (allS (Or.inr szl) all0))
    have R261 : CHr Z consts_1 s.vm h0 vm T249.heap := Rl.trans (CHr.keep R251 (allS (Safe.exa hZ.alike Eb (by decide) (by decide)) (allS sfl all0)) Rl.1)
    have sf262 : Safe Z consts_1 vm T249.heap b := Safe.keep R251 (allS (Safe.exa hZ.alike Eb (by decide) (by decide)) (allS sfl all0)) Rl.1 sfl
    have ne263 : a1 ≠ b2250 := R253.elim (fun e => by rw [e]; exact na) (fun q => Nat.ne_of_lt (Nat.lt_of_lt_of_le Vl.lt0 q))
    have ne264 : bq ≠ b2250 := R253.elim (fun e => by rw [e]; exact nb) (fun q => Nat.ne_of_lt (Nat.lt_of_lt_of_le Vl.lt1 q))
    have sz265 : h0.size ≤ b2250 := R253.elim (fun e => by rw [e]; exact szl) (fun q => Nat.le_trans Kl.1 q)
    have sf266 : Safe Z consts_1 vm T249.heap b2250 := R253.elim (fun e => by rw [e]; exact sf262) (fun q => Safe.keep R251 (allS (Safe.exa hZ.alike Eb (by decide) (by decide)) (allS sfl all0)) Rl.1 (Safe.new q))
    have P267 : ∀ t, Steps p.tables e below (T249.setTop (mkF m 14 #[sR a1, sR b1, sI (Int32.ofNat (i + 1)), sI c0, L4] [])) t → Pq t := fun t k => P57 t (by
     refine qfN X53 hx (dt2 hby 18 rfl :) ((if0 _ _).trans (teq (by decide : (0 : Int32) = (0 : Int32))).2) ?_
     refine qiN X53 hx (dt2 hby 19 rfl :) rfl ?_
     refine qp X53 hx (8232 : Int32) (dt2 hby 20 rfl :) rfl ?_
     refine qmN X53 hx (dt2 hby 21 rfl :) (feq hc39_245).1 ?_
     refine qiN X53 hx (dt2 hby 22 rfl :) rfl ?_
     refine qp X53 hx (8233 : Int32) (dt2 hby 23 rfl :) rfl ?_
     refine qmY X53 hx 46 87 (dt2 hby 24 rfl :) (feq hc46_246).2 (by decide) (by decide) ?_
     refine qaN X53 hx (dt2 hby 44 rfl :) rfl rfl ?_
     refine qiN X53 hx (dt2 hby 45 rfl :) rfl ?_
     refine st249.trans ?_
     refine XS.pop X249.here hx rfl (dt2 hby 47 rfl :) rfl rfl ?_
     refine XS.iinc X249.here hx rfl (dt2 hby 42 rfl :) rfl (l' := #[sR a1, sR b1, sI ((Int32.ofNat i) + (1 : Int32)), sI c0, L4]) rfl ?_
     rw [show ((Int32.ofNat i) + (1 : Int32)) = (Int32.ofNat (i + 1)) from own_isucc _]
     refine qg X249 hx 96 14 (dt2 hby 43 rfl :) (by decide) (by decide) ?_
     exact k)
    have Un : own_Sb Z T249.heap b1 b2250 (own_encs (xs.take (i + 1))) := (own_encN hin hc0 hesc) ▸ R254
    exact ih (i + 1) (by omega) _ T249 _ T249.heap _ b2250 _ _ (Or.inr ⟨_, rfl, rfl⟩) hL4 (X249.mono (by omega) (by omega)) rfl hSl (Nat.le_trans hkl R251.1) hZ hown R261 sf266 Un F255 F256 K260 N249 Z259 sz265 R252 ne263 ne264 P267
 obtain ⟨vm9, T9, lo9, h9, k9, b9, L3, L4, X9q, e9, hS9, hk9, hZ, hown, R9, U9, V9, O9, K9, N9, Z9, P9⟩ := lp xs.length 0 (by omega) s.vm T19 _ T19.heap _ b20 _ _ (Or.inl rfl) (Or.inl rfl) (X19.mono (by omega) (by omega)) rfl hS0 (Nat.le_trans (Nat.le_trans hk0 E1.1) R21.1) hZ hown R37 sf42 Sb0 F31 F32 K36 N19 Z35 sz_b20 R23 ne39 ne40 P43
 have X9 : Stand p l e (⟨9, 47, 1596, 132⟩ : Room) (s.setVm vm9) m #[(.ref a1)] below meth c T9 lo9 45 1520 := X9q.mono (by omega) (by omega)
 have Es9 := V9.exa
 have Eb9 := U9.exa
 obtain ⟨cq268, kq268, q268a, q268b, q268c⟩ := isOf hZ e9 Es9
 obtain ⟨_, _, ⟨T268, L268, k268, n268⟩, -, X268, ⟨Lc268, hQ268, l268, y268, z268⟩, st268⟩ := X9.virtualBack hx (y := ym3) (z := ym3) hown (mw hZ hw 19 rfl) (mw hZ hw 20 rfl) (notFace_of_selects (args := #[]) (mw hZ hw 22 rfl)) (mw hZ hw 22 rfl) (mw hZ hw 21 rfl) (by decide) (backOf (W := 1) (rm3_s l Z a0 hw a1 bq xs cs sv dg h9 n0 Z9 V9 hS O9) hZ (hw _ (wi 23 rfl)) (hw _ (wi 5 rfl)) (by decide) (by decide)) q268a q268c (g := (mkF m 16 #[sR a1, sR b1, sI (Int32.ofNat xs.length), L3, L4] [(.ref a1), (.int (Int32.ofNat xs.length))])) rfl (by rw [hml]; rfl) (Steps.refl _) (argsL := []) (rest := [(.int (Int32.ofNat xs.length))]) (lenOf pd_28 rfl) rfl (Nat.le_refl _) (dt2 hby 10 rfl :) (fun _ _ => ⟨rfl, e9, (by decide : 45 + 0 ≤ _), (by decide : 1520 + 0 ≤ _)⟩)
 dsimp only [Pt.U, Pt.locs, Pt.cells, Pt.slots] at X268 l268 y268 z268 st268 hQ268
 subst l268 y268 z268
 obtain ⟨rfl, N268q, R269⟩ := hQ268
 have N268 := Fr.app N9 N268q
 have hc19_270 : ¬ ((Int32.ofNat xs.length) < (Int32.ofNat xs.length)) := own_inlt (by omega) (by omega) (Nat.le_refl _)
 obtain ⟨cq271, kq271, q271a, q271b, q271c⟩ := isOf hZ R269 Eb9
 obtain ⟨_, _, ⟨T271, L271, k271, n271⟩, -, X271, ⟨Lc271, hQ271, l271, y271, z271⟩, st271⟩ := X268.virtualBack hx (y := ym8) (z := ym8) hown (mw hZ hw 49 rfl) (mw hZ hw 50 rfl) (notFace_of_selects (args := #[]) (mw hZ hw 52 rfl)) (mw hZ hw 52 rfl) (mw hZ hw 51 rfl) (by decide) (backOf (W := 0) (rm8 l Z a0 hw b1 b9 (own_encs (xs.take xs.length)) cs sv dg h9 n0 Z9 U9 hS O9) hZ (hw _ (wi 53 rfl)) (hw _ (wi 18 rfl)) (by decide) (by decide)) q271a q271c (g := (mkF m 100 #[sR a1, sR b1, sI (Int32.ofNat xs.length), L3, L4] [(.ref b1)])) rfl (by rw [hml]; rfl) (Steps.refl _) (argsL := []) (rest := []) (lenOf pd_42 rfl) rfl (Nat.le_refl _) (dt2 hby 49 rfl :) (fun _ _ => ⟨rfl, R269, (by decide : 45 + 2 ≤ _), (by decide : 1520 + 76 ≤ _)⟩)
 dsimp only [Pt.U, Pt.locs, Pt.cells, Pt.slots] at X271 l271 y271 z271 st271 hQ271
 subst l271 y271 z271
 obtain ⟨a2272, b2273, rfl, N271q, R274, R275, R276, R277, R278, R279⟩ := hQ271
 have N271 := Fr.app N268 N271q
 have K284 : Keep h0 T271.heap [] := K9.trans R274 all0
 have R285 : CHr Z consts_1 s.vm h0 vm9 T271.heap := R9.trans (CHr.keep R274 all0 R9.1)
 have Sn : own_Str Z T271.heap a2272 b2273 (own_encs xs) := by have u := R279; rw [List.take_length] at u; exact u
 obtain ⟨fs, hrt, hrun, hended, hRE⟩ := X271.leaveW hS9 (Nat.le_trans hk9 R274.1) (v := some (.ref a2272)) (fun h => by rw [hR] at h; cases h)
 refine ⟨_, _, hPq _ <| P9 _ ?_, hrun, hended, _, _, rfl, ?_, ?_, hRE.1, hRE.2.1, hRE.2.2.1, hRE.2.2.2.mono (by decide) (by decide)⟩
 ·
  refine qiN X9 hx (dt2 hby 8 rfl :) rfl ?_
  refine qaN X9 hx (dt2 hby 9 rfl :) rfl rfl ?_
  refine st268.trans ?_
  refine qmY X268 hx 19 99 (dt2 hby 11 rfl :) (flt hc19_270).2.1 (by decide) (by decide) ?_
  refine qaN X268 hx (dt2 hby 48 rfl :) rfl rfl ?_
  refine st271.trans ?_
  exact retOut X271 hx hR rfl (Or.inr (Or.inr (Or.inr (Or.inr ⟨rfl, rfl, rfl⟩)))) (dt2 hby 50 rfl :) hrt
 ·
  show Q2 Z a1 bq xs cs sv dg h0 n0 _ T271.heap _
  exact ⟨a2272, b2273, rfl, N271, K284, Sn⟩
 ·
  rw [hh]
  show CHr Z consts_1 s.vm h0 T271.vm T271.heap
  exact R285.trans (CHv.at X271 hZ hEL R285.1)
def Q32 (Z : State) (a1 : Addr) (p3 : Int32) (i : Nat) (b : Addr) (zs : List Int32) (cs : Int32) (sv : Value) (dg : Addr) (h0 : Heap) (n0 : Nat) (v : Option Value) (h : Heap) (L : List Loc) : Prop := v = some (.int (Int32.ofNat (i + (own_enc p3).length))) ∧ Fr n0 L ∧ h = h0
theorem rm32 (l : Launch) (Z : State) (a0 : Array Value) (hw : own_hw a0 Z) (a1 : Addr) (p3 : Int32) (i : Nat) (b : Addr) (zs : List Int32) (cs : Int32) (sv : Value) (dg : Addr) (h0 : Heap) (n0 : Nat) (Z0 : n0 ≤ h0.size) (HU0 : own_Str Z h0 a1 b zs) (hc : (own_ch p3)) (hl : (i + (own_enc p3).length ≤ zs.length)) (he : (∀ j, j < (own_enc p3).length → zs.getD (i + j) 0 = (own_enc p3).getD j 0)) (hS : (own_ST Z cs sv dg)) (HO : Old Z n0 h0) :
 own_M l ym32 [Jvm.Cond.code ym32 cm32 5 (some .int)] (⟨5, 0, 0, 66⟩ : Room) #[(.ref a1), (.int (Int32.ofNat i)), (.int p3)] Z h0 (Q32 Z a1 p3 i b zs cs sv dg h0 n0) := by
 refine own_go n0 (F := fun m => mkF m 0 #[sR a1, sI (Int32.ofNat i), sI p3, .unset, .unset] []) (plainFor_of_name pn_0) (fun m => rfl) ?_
 intro p e s m below meth c sq Pq hR hx hby hml hown hnm hZ hh hlk X0 e0 N0 pre0
 have Es := HU0.exa
 have hz := HU0.len
 have hc1_1 : ¬ ((Int32.ofNat i) < (0 : Int32)) := own_i0 (by omega)
 obtain ⟨cq2, kq2, q2a, q2b, q2c⟩ := isOf hZ e0 Es
 obtain ⟨_, _, ⟨T2, L2, k2, n2⟩, -, X2, ⟨Lc2, hQ2, l2, y2, z2⟩, st2⟩ := X0.virtualBack hx (y := ym3) (z := ym3) hown (mw hZ hw 97 rfl) (mw hZ hw 20 rfl) (notFace_of_selects (args := #[]) (mw hZ hw 22 rfl)) (mw hZ hw 22 rfl) (mw hZ hw 21 rfl) (by decide) (backOf (W := 0) (rm3_s l Z a0 hw a1 b zs cs sv dg h0 n0 Z0 HU0 hS HO) hZ (hw _ (wi 23 rfl)) (hw _ (wi 5 rfl)) (by decide) (by decide)) q2a q2c (g := (mkF m 7 #[sR a1, sI (Int32.ofNat i), sI p3, .unset, .unset] [(.ref a1)])) rfl (by rw [hml]; rfl) (Steps.refl _) (argsL := []) (rest := []) (lenOf pd_28 rfl) rfl (Nat.le_refl _) (dt32 hby 3 rfl :) (fun _ _ => ⟨rfl, e0, (by decide : 0 + 0 ≤ _), (by decide : 0 + 0 ≤ _)⟩)
 dsimp only [Pt.U, Pt.locs, Pt.cells, Pt.slots] at X2 l2 y2 z2 st2 hQ2
 subst l2 y2 z2
 obtain ⟨rfl, N2q, R3⟩ := hQ2
 have N2 := Fr.app N0 N2q
 obtain ⟨_, _, ⟨T4, L4, k4, n4⟩, -, X4, ⟨Lc4, hQ4, l4, y4, z4⟩, st4⟩ := Jvm.LawKit.callS X2 hx (y := ym33) hown (mw hZ hw 166 rfl) (mw hZ hw 167 rfl) (mw hZ hw 2 rfl) (mw hZ hw 168 rfl) (by decide) (backOf (W := 0) (rm33 l Z a0 hw p3 h0 n0 Z0 ) hZ (hw _ (wi 168 rfl)) (hw _ (wi 2 rfl)) (by decide) (by decide)) (g := (mkF m 12 #[sR a1, sI (Int32.ofNat i), sI p3, sI (Int32.ofNat zs.length), .unset] [(.int p3)])) rfl (by rw [hml]; rfl) (argsL := [(.int p3)]) (rest := []) (lenOf pd_16 rfl) rfl (Nat.le_refl _) (dt32 hby 6 rfl :) (fun _ _ => ⟨rfl, R3, (by decide : 0 + 0 ≤ _), (by decide : 0 + 0 ≤ _)⟩)
 dsimp only [Pt.U, Pt.locs, Pt.cells, Pt.slots] at X4 l4 y4 z4 st4 hQ4
 subst l4 y4 z4
 obtain ⟨r5, rfl, N4q, R6, R7⟩ := hQ4
 have N4 := Fr.app N2 N4q
 have P8 : ∀ t, Steps p.tables e below (T4.setTop (mkF m 15 #[sR a1, sI (Int32.ofNat i), sI p3, sI (Int32.ofNat zs.length), .unset] [(.int r5)])) t → Pq t := fun t k => pre0 t (by
  refine qiN X0 hx (dt32 hby 0 rfl :) rfl ?_
  refine qfY X0 hx 1 6 (dt32 hby 1 rfl :) ((if0 _ _).trans (flt hc1_1).2.1) (by decide) (by decide) ?_
  refine qaN X0 hx (dt32 hby 2 rfl :) rfl rfl ?_
  refine st2.trans ?_
  refine qsN X2 hx (l' := #[sR a1, sI (Int32.ofNat i), sI p3, sI (Int32.ofNat zs.length), .unset]) (dt32 hby 4 rfl :) rfl ?_
  refine qiN X2 hx (dt32 hby 5 rfl :) rfl ?_
  refine st4 _ ?_
  exact k)
 rcases R6 with ⟨he1, rfl⟩ | ⟨he1, rfl⟩
 ·
  have hen := own_enc1 he1
  have hle : (own_enc p3).length = 6 := by rw [hen]; rfl
  have h64 := hc.2
  have hc23_9 : ¬ ((Int32.ofNat zs.length) < (Int32.ofNat (i + 6))) := own_inlt (by omega) (by omega) (by omega)
  obtain ⟨cq11, kq11, q11a, q11b, q11c⟩ := isOf hZ R7 Es
  obtain ⟨_, _, ⟨T11, L11, k11, n11⟩, -, X11, ⟨Lc11, hQ11, l11, y11, z11⟩, st11⟩ := X4.virtualBack hx (y := ym21) (z := ym21) hown (mw hZ hw 169 rfl) (mw hZ hw 117 rfl) (notFace_of_selects (args := #[]) (mw hZ hw 119 rfl)) (mw hZ hw 119 rfl) (mw hZ hw 118 rfl) (by decide) (backOf (W := 0) (rm21_s l Z a0 hw a1 i b zs cs sv dg h0 n0 Z0 HU0 (by omega) hS HO) hZ (hw _ (wi 120 rfl)) (hw _ (wi 5 rfl)) (by decide) (by decide)) q11a q11c (g := (mkF m 30 #[sR a1, sI (Int32.ofNat i), sI p3, sI (Int32.ofNat zs.length), .unset] [(.int (Int32.ofNat i)), (.ref a1)])) rfl (by rw [hml]; rfl) (Steps.refl _) (argsL := [(.int (Int32.ofNat i))]) (rest := []) (lenOf pd_38 rfl) rfl (Nat.le_refl _) (dt32 hby 15 rfl :) (fun _ _ => ⟨rfl, R7, (by decide : 0 + 0 ≤ _), (by decide : 0 + 0 ≤ _)⟩)
  dsimp only [Pt.U, Pt.locs, Pt.cells, Pt.slots] at X11 l11 y11 z11 st11 hQ11
  subst l11 y11 z11
  obtain ⟨rfl, N11q, R12⟩ := hQ11
  have N11 := Fr.app N4 N11q
  obtain ⟨cq14, kq14, q14a, q14b, q14c⟩ := isOf hZ R12 Es
  obtain ⟨_, _, ⟨T14, L14, k14, n14⟩, -, X14, ⟨Lc14, hQ14, l14, y14, z14⟩, st14⟩ := X11.virtualBack hx (y := ym21) (z := ym21) hown (mw hZ hw 169 rfl) (mw hZ hw 117 rfl) (notFace_of_selects (args := #[]) (mw hZ hw 119 rfl)) (mw hZ hw 119 rfl) (mw hZ hw 118 rfl) (by decide) (backOf (W := 0) (rm21_s l Z a0 hw a1 (i + 1) b zs cs sv dg h0 n0 Z0 HU0 (by omega) hS HO) hZ (hw _ (wi 120 rfl)) (hw _ (wi 5 rfl)) (by decide) (by decide)) q14a q14c (g := (mkF m 42 #[sR a1, sI (Int32.ofNat i), sI p3, sI (Int32.ofNat zs.length), .unset] [(.int (Int32.ofNat (i + 1))), (.ref a1)])) rfl (by rw [hml]; rfl) (Steps.refl _) (argsL := [(.int (Int32.ofNat (i + 1)))]) (rest := []) (lenOf pd_38 rfl) rfl (Nat.le_refl _) (dt32 hby 22 rfl :) (fun _ _ => ⟨rfl, R12, (by decide : 0 + 0 ≤ _), (by decide : 0 + 0 ≤ _)⟩)
  dsimp only [Pt.U, Pt.locs, Pt.cells, Pt.slots] at X14 l14 y14 z14 st14 hQ14
  subst l14 y14 z14
  obtain ⟨rfl, N14q, R15⟩ := hQ14
  have N14 := Fr.app N11 N14q
  obtain ⟨cq17, kq17, q17a, q17b, q17c⟩ := isOf hZ R15 Es
  obtain ⟨_, _, ⟨T17, L17, k17, n17⟩, -, X17, ⟨Lc17, hQ17, l17, y17, z17⟩, st17⟩ := X14.virtualBack hx (y := ym21) (z := ym21) hown (mw hZ hw 169 rfl) (mw hZ hw 117 rfl) (notFace_of_selects (args := #[]) (mw hZ hw 119 rfl)) (mw hZ hw 119 rfl) (mw hZ hw 118 rfl) (by decide) (backOf (W := 0) (rm21_s l Z a0 hw a1 (i + 2) b zs cs sv dg h0 n0 Z0 HU0 (by omega) hS HO) hZ (hw _ (wi 120 rfl)) (hw _ (wi 5 rfl)) (by decide) (by decide)) q17a q17c (g := (mkF m 54 #[sR a1, sI (Int32.ofNat i), sI p3, sI (Int32.ofNat zs.length), .unset] [(.int (Int32.ofNat (i + 2))), (.ref a1)])) rfl (by rw [hml]; rfl) (Steps.refl _) (argsL := [(.int (Int32.ofNat (i + 2)))]) (rest := []) (lenOf pd_38 rfl) rfl (Nat.le_refl _) (dt32 hby 29 rfl :) (fun _ _ => ⟨rfl, R15, (by decide : 0 + 0 ≤ _), (by decide : 0 + 0 ≤ _)⟩)
  dsimp only [Pt.U, Pt.locs, Pt.cells, Pt.slots] at X17 l17 y17 z17 st17 hQ17
  subst l17 y17 z17
  obtain ⟨rfl, N17q, R18⟩ := hQ17
  have N17 := Fr.app N14 N17q
  obtain ⟨_, _, ⟨T21, L21, k21, n21⟩, -, X21, ⟨Lc21, hQ21, l21, y21, z21⟩, st21⟩ := Jvm.LawKit.callS X17 hx (y := ym70) hown (mw hZ hw 324 rfl) (mw hZ hw 325 rfl) (mw hZ hw 2 rfl) (mw hZ hw 326 rfl) (by decide) (backOf (W := 1) (rm70 l Z a0 hw ((p3 >>> ((12 : Int32) &&& 31)) &&& (15 : Int32)) h0 n0 Z0 ((own_m15b _).1) ((own_m15b _).2)) hZ (hw _ (wi 326 rfl)) (hw _ (wi 2 rfl)) (by decide) (by decide)) (g := (mkF m 64 #[sR a1, sI (Int32.ofNat i), sI p3, sI (Int32.ofNat zs.length), .unset] [(.int ((p3 >>> ((12 : Int32) &&& 31)) &&& (15 : Int32))), (.int (own_hx (p3.toInt.toNat / 4096)))])) rfl (by rw [hml]; rfl) (argsL := [(.int ((p3 >>> ((12 : Int32) &&& 31)) &&& (15 : Int32)))]) (rest := [(.int (own_hx (p3.toInt.toNat / 4096)))]) (lenOf pd_38 rfl) rfl (Nat.le_refl _) (dt32 hby 35 rfl :) (fun _ _ => ⟨rfl, R18, (by decide : 0 + 0 ≤ _), (by decide : 0 + 0 ≤ _)⟩)
  dsimp only [Pt.U, Pt.locs, Pt.cells, Pt.slots] at X21 l21 y21 z21 st21 hQ21
  subst l21 y21 z21
  obtain ⟨r22, rfl, N21q, R23, R24⟩ := hQ21
  have N21 := Fr.app N17 N21q
  have hc67_25 : (own_hx (p3.toInt.toNat / 4096)) = r22 := own_hexeq (v := p3.toInt.toNat / 4096) (by omega) ((own_nib hc _ 12 rfl).trans (by omega)) R23
  obtain ⟨cq27, kq27, q27a, q27b, q27c⟩ := isOf hZ R24 Es
  obtain ⟨_, _, ⟨T27, L27, k27, n27⟩, -, X27, ⟨Lc27, hQ27, l27, y27, z27⟩, st27⟩ := X21.virtualBack hx (y := ym21) (z := ym21) hown (mw hZ hw 169 rfl) (mw hZ hw 117 rfl) (notFace_of_selects (args := #[]) (mw hZ hw 119 rfl)) (mw hZ hw 119 rfl) (mw hZ hw 118 rfl) (by decide) (backOf (W := 0) (rm21_s l Z a0 hw a1 (i + 3) b zs cs sv dg h0 n0 Z0 HU0 (by omega) hS HO) hZ (hw _ (wi 120 rfl)) (hw _ (wi 5 rfl)) (by decide) (by decide)) q27a q27c (g := (mkF m 74 #[sR a1, sI (Int32.ofNat i), sI p3, sI (Int32.ofNat zs.length), .unset] [(.int (Int32.ofNat (i + 3))), (.ref a1)])) rfl (by rw [hml]; rfl) (Steps.refl _) (argsL := [(.int (Int32.ofNat (i + 3)))]) (rest := []) (lenOf pd_38 rfl) rfl (Nat.le_refl _) (dt32 hby 41 rfl :) (fun _ _ => ⟨rfl, R24, (by decide : 0 + 0 ≤ _), (by decide : 0 + 0 ≤ _)⟩)
  dsimp only [Pt.U, Pt.locs, Pt.cells, Pt.slots] at X27 l27 y27 z27 st27 hQ27
  subst l27 y27 z27
  obtain ⟨rfl, N27q, R28⟩ := hQ27
  have N27 := Fr.app N21 N27q
  obtain ⟨_, _, ⟨T31, L31, k31, n31⟩, -, X31, ⟨Lc31, hQ31, l31, y31, z31⟩, st31⟩ := Jvm.LawKit.callS X27 hx (y := ym70) hown (mw hZ hw 324 rfl) (mw hZ hw 325 rfl) (mw hZ hw 2 rfl) (mw hZ hw 326 rfl) (by decide) (backOf (W := 1) (rm70 l Z a0 hw ((p3 >>> ((8 : Int32) &&& 31)) &&& (15 : Int32)) h0 n0 Z0 ((own_m15b _).1) ((own_m15b _).2)) hZ (hw _ (wi 326 rfl)) (hw _ (wi 2 rfl)) (by decide) (by decide)) (g := (mkF m 84 #[sR a1, sI (Int32.ofNat i), sI p3, sI (Int32.ofNat zs.length), .unset] [(.int ((p3 >>> ((8 : Int32) &&& 31)) &&& (15 : Int32))), (.int (own_hx (p3.toInt.toNat / 256 % 16)))])) rfl (by rw [hml]; rfl) (argsL := [(.int ((p3 >>> ((8 : Int32) &&& 31)) &&& (15 : Int32)))]) (rest := [(.int (own_hx (p3.toInt.toNat / 256 % 16)))]) (lenOf pd_38 rfl) rfl (Nat.le_refl _) (dt32 hby 47 rfl :) (fun _ _ => ⟨rfl, R28, (by decide : 0 + 0 ≤ _), (by decide : 0 + 0 ≤ _)⟩)
  dsimp only [Pt.U, Pt.locs, Pt.cells, Pt.slots] at X31 l31 y31 z31 st31 hQ31
  subst l31 y31 z31
  obtain ⟨r32, rfl, N31q, R33, R34⟩ := hQ31
  have N31 := Fr.app N27 N31q
  have hc87_35 : (own_hx (p3.toInt.toNat / 256 % 16)) = r32 := own_hexeq (v := p3.toInt.toNat / 256 % 16) (by omega) ((own_nib hc _ 8 rfl).trans (by omega)) R33
  obtain ⟨cq37, kq37, q37a, q37b, q37c⟩ := isOf hZ R34 Es
  obtain ⟨_, _, ⟨T37, L37, k37, n37⟩, -, X37, ⟨Lc37, hQ37, l37, y37, z37⟩, st37⟩ := X31.virtualBack hx (y := ym21) (z := ym21) hown (mw hZ hw 169 rfl) (mw hZ hw 117 rfl) (notFace_of_selects (args := #[]) (mw hZ hw 119 rfl)) (mw hZ hw 119 rfl) (mw hZ hw 118 rfl) (by decide) (backOf (W := 0) (rm21_s l Z a0 hw a1 (i + 4) b zs cs sv dg h0 n0 Z0 HU0 (by omega) hS HO) hZ (hw _ (wi 120 rfl)) (hw _ (wi 5 rfl)) (by decide) (by decide)) q37a q37c (g := (mkF m 94 #[sR a1, sI (Int32.ofNat i), sI p3, sI (Int32.ofNat zs.length), .unset] [(.int (Int32.ofNat (i + 4))), (.ref a1)])) rfl (by rw [hml]; rfl) (Steps.refl _) (argsL := [(.int (Int32.ofNat (i + 4)))]) (rest := []) (lenOf pd_38 rfl) rfl (Nat.le_refl _) (dt32 hby 53 rfl :) (fun _ _ => ⟨rfl, R34, (by decide : 0 + 0 ≤ _), (by decide : 0 + 0 ≤ _)⟩)
  dsimp only [Pt.U, Pt.locs, Pt.cells, Pt.slots] at X37 l37 y37 z37 st37 hQ37
  subst l37 y37 z37
  obtain ⟨rfl, N37q, R38⟩ := hQ37
  have N37 := Fr.app N31 N37q
  obtain ⟨_, _, ⟨T41, L41, k41, n41⟩, -, X41, ⟨Lc41, hQ41, l41, y41, z41⟩, st41⟩ := Jvm.LawKit.callS X37 hx (y := ym70) hown (mw hZ hw 324 rfl) (mw hZ hw 325 rfl) (mw hZ hw 2 rfl) (mw hZ hw 326 rfl) (by decide) (backOf (W := 1) (rm70 l Z a0 hw ((p3 >>> ((4 : Int32) &&& 31)) &&& (15 : Int32)) h0 n0 Z0 ((own_m15b _).1) ((own_m15b _).2)) hZ (hw _ (wi 326 rfl)) (hw _ (wi 2 rfl)) (by decide) (by decide)) (g := (mkF m 103 #[sR a1, sI (Int32.ofNat i), sI p3, sI (Int32.ofNat zs.length), .unset] [(.int ((p3 >>> ((4 : Int32) &&& 31)) &&& (15 : Int32))), (.int (own_hx (p3.toInt.toNat / 16 % 16)))])) rfl (by rw [hml]; rfl) (argsL := [(.int ((p3 >>> ((4 : Int32) &&& 31)) &&& (15 : Int32)))]) (rest := [(.int (own_hx (p3.toInt.toNat / 16 % 16)))]) (lenOf pd_38 rfl) rfl (Nat.le_refl _) (dt32 hby 59 rfl :) (fun _ _ => ⟨rfl, R38, (by decide : 0 + 0 ≤ _), (by decide : 0 + 0 ≤ _)⟩)
  dsimp only [Pt.U, Pt.locs, Pt.cells, Pt.slots] at X41 l41 y41 z41 st41 hQ41
  subst l41 y41 z41
  obtain ⟨r42, rfl, N41q, R43, R44⟩ := hQ41
  have N41 := Fr.app N37 N41q
  have hc106_45 : (own_hx (p3.toInt.toNat / 16 % 16)) = r42 := own_hexeq (v := p3.toInt.toNat / 16 % 16) (by omega) ((own_nib hc _ 4 rfl).trans (by omega)) R43
  obtain ⟨cq47, kq47, q47a, q47b, q47c⟩ := isOf hZ R44 Es
  obtain ⟨_, _, ⟨T47, L47, k47, n47⟩, -, X47, ⟨Lc47, hQ47, l47, y47, z47⟩, st47⟩ := X41.virtualBack hx (y := ym21) (z := ym21) hown (mw hZ hw 169 rfl) (mw hZ hw 117 rfl) (notFace_of_selects (args := #[]) (mw hZ hw 119 rfl)) (mw hZ hw 119 rfl) (mw hZ hw 118 rfl) (by decide) (backOf (W := 0) (rm21_s l Z a0 hw a1 (i + 5) b zs cs sv dg h0 n0 Z0 HU0 (by omega) hS HO) hZ (hw _ (wi 120 rfl)) (hw _ (wi 5 rfl)) (by decide) (by decide)) q47a q47c (g := (mkF m 113 #[sR a1, sI (Int32.ofNat i), sI p3, sI (Int32.ofNat zs.length), .unset] [(.int (Int32.ofNat (i + 5))), (.ref a1)])) rfl (by rw [hml]; rfl) (Steps.refl _) (argsL := [(.int (Int32.ofNat (i + 5)))]) (rest := []) (lenOf pd_38 rfl) rfl (Nat.le_refl _) (dt32 hby 65 rfl :) (fun _ _ => ⟨rfl, R44, (by decide : 0 + 0 ≤ _), (by decide : 0 + 0 ≤ _)⟩)
  dsimp only [Pt.U, Pt.locs, Pt.cells, Pt.slots] at X47 l47 y47 z47 st47 hQ47
  subst l47 y47 z47
  obtain ⟨rfl, N47q, R48⟩ := hQ47
  have N47 := Fr.app N41 N47q
  obtain ⟨_, _, ⟨T51, L51, k51, n51⟩, -, X51, ⟨Lc51, hQ51, l51, y51, z51⟩, st51⟩ := Jvm.LawKit.callS X47 hx (y := ym70) hown (mw hZ hw 324 rfl) (mw hZ hw 325 rfl) (mw hZ hw 2 rfl) (mw hZ hw 326 rfl) (by decide) (backOf (W := 1) (rm70 l Z a0 hw (p3 &&& (15 : Int32)) h0 n0 Z0 ((own_m15b _).1) ((own_m15b _).2)) hZ (hw _ (wi 326 rfl)) (hw _ (wi 2 rfl)) (by decide) (by decide)) (g := (mkF m 120 #[sR a1, sI (Int32.ofNat i), sI p3, sI (Int32.ofNat zs.length), .unset] [(.int (p3 &&& (15 : Int32))), (.int (own_hx (p3.toInt.toNat % 16)))])) rfl (by rw [hml]; rfl) (argsL := [(.int (p3 &&& (15 : Int32)))]) (rest := [(.int (own_hx (p3.toInt.toNat % 16)))]) (lenOf pd_38 rfl) rfl (Nat.le_refl _) (dt32 hby 69 rfl :) (fun _ _ => ⟨rfl, R48, (by decide : 0 + 0 ≤ _), (by decide : 0 + 0 ≤ _)⟩)
  dsimp only [Pt.U, Pt.locs, Pt.cells, Pt.slots] at X51 l51 y51 z51 st51 hQ51
  subst l51 y51 z51
  obtain ⟨r52, rfl, N51q, R53, R54⟩ := hQ51
  have N51 := Fr.app N47 N51q
  have hc123_55 : (own_hx (p3.toInt.toNat % 16)) = r52 := own_hexeq (v := p3.toInt.toNat % 16) (by omega) ((own_nib0 hc).trans (by omega)) R53
  refine own_fin X51 hlk (v := some (.int (Int32.ofNat (i + (own_enc p3).length)))) (own_nv hR) (by decide) (by decide) ?_ (fun fs hrt => P8 _ ?_)
  ·
   show Q32 Z a1 p3 i b zs cs sv dg h0 n0 _ T51.heap _
   rw [R54]
   exact ⟨rfl, N51, rfl⟩
  refine qfN X4 hx (dt32 hby 7 rfl :) ((if0 _ _).trans (feq (by decide : ¬ ((1 : Int32) = (0 : Int32)))).1) ?_
  refine qiN X4 hx (dt32 hby 8 rfl :) rfl ?_
  refine qb X4 hx (6 : Int32) (dt32 hby 9 rfl :) rfl ?_
  refine XS.iadd X4.here hx rfl (dt32 hby 10 rfl :) rfl ?_
  rw [show ((Int32.ofNat i) + (6 : Int32)) = (Int32.ofNat (i + 6)) from own_iadd i 6]
  refine qiN X4 hx (dt32 hby 11 rfl :) rfl ?_
  refine qmY X4 hx 23 28 (dt32 hby 12 rfl :) (flt hc23_9).2.2.2 (by decide) (by decide) ?_
  refine qaN X4 hx (dt32 hby 13 rfl :) rfl rfl ?_
  refine qiN X4 hx (dt32 hby 14 rfl :) rfl ?_
  refine st11.trans ?_
  rw [show (zs.getD i 0) = (92 : Int32) from (he 0 (by omega)).trans (by rw [hen]; rfl)]
  refine qb X11 hx (92 : Int32) (dt32 hby 16 rfl :) rfl ?_
  refine qmN X11 hx (dt32 hby 17 rfl :) (teq (by decide : (92 : Int32) = (92 : Int32))).2 ?_
  refine qaN X11 hx (dt32 hby 18 rfl :) rfl rfl ?_
  refine qiN X11 hx (dt32 hby 19 rfl :) rfl ?_
  refine qc X11 hx (1 : Int32) (dt32 hby 20 rfl :) rfl ?_
  refine XS.iadd X11.here hx rfl (dt32 hby 21 rfl :) rfl ?_
  rw [show ((Int32.ofNat i) + (1 : Int32)) = (Int32.ofNat (i + 1)) from own_iadd i 1]
  refine st14.trans ?_
  rw [show (zs.getD (i + 1) 0) = (117 : Int32) from (he 1 (by omega)).trans (by rw [hen]; rfl)]
  refine qb X14 hx (117 : Int32) (dt32 hby 23 rfl :) rfl ?_
  refine qmN X14 hx (dt32 hby 24 rfl :) (teq (by decide : (117 : Int32) = (117 : Int32))).2 ?_
  refine qaN X14 hx (dt32 hby 25 rfl :) rfl rfl ?_
  refine qiN X14 hx (dt32 hby 26 rfl :) rfl ?_
  refine qc X14 hx (2 : Int32) (dt32 hby 27 rfl :) rfl ?_
  refine XS.iadd X14.here hx rfl (dt32 hby 28 rfl :) rfl ?_
  rw [show ((Int32.ofNat i) + (2 : Int32)) = (Int32.ofNat (i + 2)) from own_iadd i 2]
  refine st17.trans ?_
  rw [show (zs.getD (i + 2) 0) = (own_hx (p3.toInt.toNat / 4096)) from (he 2 (by omega)).trans (by rw [hen]; rfl)]
  refine qiN X17 hx (dt32 hby 30 rfl :) rfl ?_
  refine qb X17 hx (12 : Int32) (dt32 hby 31 rfl :) rfl ?_
  refine XS.ishr X17.here hx rfl (dt32 hby 32 rfl :) rfl ?_
  refine qb X17 hx (15 : Int32) (dt32 hby 33 rfl :) rfl ?_
  refine XS.iand X17.here hx rfl (dt32 hby 34 rfl :) rfl ?_
  refine st21 _ ?_
  refine qmN X21 hx (dt32 hby 36 rfl :) (teq hc67_25).2 ?_
  refine qaN X21 hx (dt32 hby 37 rfl :) rfl rfl ?_
  refine qiN X21 hx (dt32 hby 38 rfl :) rfl ?_
  refine qc X21 hx (3 : Int32) (dt32 hby 39 rfl :) rfl ?_
  refine XS.iadd X21.here hx rfl (dt32 hby 40 rfl :) rfl ?_
  rw [show ((Int32.ofNat i) + (3 : Int32)) = (Int32.ofNat (i + 3)) from own_iadd i 3]
  refine st27.trans ?_
  rw [show (zs.getD (i + 3) 0) = (own_hx (p3.toInt.toNat / 256 % 16)) from (he 3 (by omega)).trans (by rw [hen]; rfl)]
  refine qiN X27 hx (dt32 hby 42 rfl :) rfl ?_
  refine qb X27 hx (8 : Int32) (dt32 hby 43 rfl :) rfl ?_
  refine XS.ishr X27.here hx rfl (dt32 hby 44 rfl :) rfl ?_
  refine qb X27 hx (15 : Int32) (dt32 hby 45 rfl :) rfl ?_
  refine XS.iand X27.here hx rfl (dt32 hby 46 rfl :) rfl ?_
  refine st31 _ ?_
  refine qmN X31 hx (dt32 hby 48 rfl :) (teq hc87_35).2 ?_
  refine qaN X31 hx (dt32 hby 49 rfl :) rfl rfl ?_
  refine qiN X31 hx (dt32 hby 50 rfl :) rfl ?_
  refine qc X31 hx (4 : Int32) (dt32 hby 51 rfl :) rfl ?_
  refine XS.iadd X31.here hx rfl (dt32 hby 52 rfl :) rfl ?_
  rw [show ((Int32.ofNat i) + (4 : Int32)) = (Int32.ofNat (i + 4)) from own_iadd i 4]
  refine st37.trans ?_
  rw [show (zs.getD (i + 4) 0) = (own_hx (p3.toInt.toNat / 16 % 16)) from (he 4 (by omega)).trans (by rw [hen]; rfl)]
  refine qiN X37 hx (dt32 hby 54 rfl :) rfl ?_
  refine qc X37 hx (4 : Int32) (dt32 hby 55 rfl :) rfl ?_
  refine XS.ishr X37.here hx rfl (dt32 hby 56 rfl :) rfl ?_
  refine qb X37 hx (15 : Int32) (dt32 hby 57 rfl :) rfl ?_
  refine XS.iand X37.here hx rfl (dt32 hby 58 rfl :) rfl ?_
  refine st41 _ ?_
  refine qmN X41 hx (dt32 hby 60 rfl :) (teq hc106_45).2 ?_
  refine qaN X41 hx (dt32 hby 61 rfl :) rfl rfl ?_
  refine qiN X41 hx (dt32 hby 62 rfl :) rfl ?_
  refine qc X41 hx (5 : Int32) (dt32 hby 63 rfl :) rfl ?_
  refine XS.iadd X41.here hx rfl (dt32 hby 64 rfl :) rfl ?_
  rw [show ((Int32.ofNat i) + (5 : Int32)) = (Int32.ofNat (i + 5)) from own_iadd i 5]
  refine st47.trans ?_
  rw [show (zs.getD (i + 5) 0) = (own_hx (p3.toInt.toNat % 16)) from (he 5 (by omega)).trans (by rw [hen]; rfl)]
  refine qiN X47 hx (dt32 hby 66 rfl :) rfl ?_
  refine qb X47 hx (15 : Int32) (dt32 hby 67 rfl :) rfl ?_
  refine XS.iand X47.here hx rfl (dt32 hby 68 rfl :) rfl ?_
  refine st51 _ ?_
  refine qmN X51 hx (dt32 hby 70 rfl :) (teq hc123_55).2 ?_
  refine qc X51 hx (1 : Int32) (dt32 hby 71 rfl :) rfl ?_
  refine qg X51 hx 127 131 (dt32 hby 72 rfl :) (by decide) (by decide) ?_
  refine qs X51 hx (l' := #[sR a1, sI (Int32.ofNat i), sI p3, sI (Int32.ofNat zs.length), sI (1 : Int32)]) (dt32 hby 73 rfl :) rfl ?_
  refine qi X51 hx (dt32 hby 74 rfl :) rfl ?_
  refine qfN X51 hx (dt32 hby 75 rfl :) ((if0 _ _).trans (feq (by decide : ¬ ((1 : Int32) = (0 : Int32)))).1) ?_
  refine qiN X51 hx (dt32 hby 76 rfl :) rfl ?_
  refine qb X51 hx (6 : Int32) (dt32 hby 77 rfl :) rfl ?_
  refine XS.iadd X51.here hx rfl (dt32 hby 78 rfl :) rfl ?_
  rw [show ((Int32.ofNat i) + (6 : Int32)) = (Int32.ofNat (i + 6)) from own_iadd i 6]
  refine qg X51 hx 142 146 (dt32 hby 79 rfl :) (by decide) (by decide) ?_
  rw [show (Int32.ofNat (i + 6)) = (Int32.ofNat (i + (own_enc p3).length)) from by rw [hle]]
  exact retI X51 hx hR (dt32 hby 80 rfl :) hrt
 ·
  have hen := own_enc0 he1
  have hle : (own_enc p3).length = 1 := by rw [hen]; rfl
  have hc149_56 : (Int32.ofNat i) < (Int32.ofNat zs.length) := own_ilt (by omega) (by omega) (by omega)
  obtain ⟨cq58, kq58, q58a, q58b, q58c⟩ := isOf hZ R7 Es
  obtain ⟨_, _, ⟨T58, L58, k58, n58⟩, -, X58, ⟨Lc58, hQ58, l58, y58, z58⟩, st58⟩ := X4.virtualBack hx (y := ym21) (z := ym21) hown (mw hZ hw 169 rfl) (mw hZ hw 117 rfl) (notFace_of_selects (args := #[]) (mw hZ hw 119 rfl)) (mw hZ hw 119 rfl) (mw hZ hw 118 rfl) (by decide) (backOf (W := 0) (rm21_s l Z a0 hw a1 i b zs cs sv dg h0 n0 Z0 HU0 (by omega) hS HO) hZ (hw _ (wi 120 rfl)) (hw _ (wi 5 rfl)) (by decide) (by decide)) q58a q58c (g := (mkF m 156 #[sR a1, sI (Int32.ofNat i), sI p3, sI (Int32.ofNat zs.length), .unset] [(.int (Int32.ofNat i)), (.ref a1)])) rfl (by rw [hml]; rfl) (Steps.refl _) (argsL := [(.int (Int32.ofNat i))]) (rest := []) (lenOf pd_38 rfl) rfl (Nat.le_refl _) (dt32 hby 86 rfl :) (fun _ _ => ⟨rfl, R7, (by decide : 0 + 0 ≤ _), (by decide : 0 + 0 ≤ _)⟩)
  dsimp only [Pt.U, Pt.locs, Pt.cells, Pt.slots] at X58 l58 y58 z58 st58 hQ58
  subst l58 y58 z58
  obtain ⟨rfl, N58q, R59⟩ := hQ58
  have N58 := Fr.app N4 N58q
  have hc160_60 : p3 = p3 := rfl
  refine own_fin X58 hlk (v := some (.int (Int32.ofNat (i + (own_enc p3).length)))) (own_nv hR) (by decide) (by decide) ?_ (fun fs hrt => P8 _ ?_)
  ·
   show Q32 Z a1 p3 i b zs cs sv dg h0 n0 _ T58.heap _
   rw [R59]
   exact ⟨rfl, N58, rfl⟩
  refine qfY X4 hx 15 147 (dt32 hby 7 rfl :) ((if0 _ _).trans (teq (by decide : (0 : Int32) = (0 : Int32))).1) (by decide) (by decide) ?_
  refine qiN X4 hx (dt32 hby 81 rfl :) rfl ?_
  refine qiN X4 hx (dt32 hby 82 rfl :) rfl ?_
  refine qmY X4 hx 149 154 (dt32 hby 83 rfl :) (tlt hc149_56).1 (by decide) (by decide) ?_
  refine qaN X4 hx (dt32 hby 84 rfl :) rfl rfl ?_
  refine qiN X4 hx (dt32 hby 85 rfl :) rfl ?_
  refine st58.trans ?_
  rw [show (zs.getD i 0) = p3 from (he 0 (by omega)).trans (by rw [hen]; rfl)]
  refine qiN X58 hx (dt32 hby 87 rfl :) rfl ?_
  refine qmN X58 hx (dt32 hby 88 rfl :) (teq hc160_60).2 ?_
  refine qiN X58 hx (dt32 hby 89 rfl :) rfl ?_
  refine qc X58 hx (1 : Int32) (dt32 hby 90 rfl :) rfl ?_
  refine XS.iadd X58.here hx rfl (dt32 hby 91 rfl :) rfl ?_
  rw [show ((Int32.ofNat i) + (1 : Int32)) = (Int32.ofNat (i + 1)) from own_iadd i 1]
  refine qg X58 hx 166 170 (dt32 hby 92 rfl :) (by decide) (by decide) ?_
  rw [show (Int32.ofNat (i + 1)) = (Int32.ofNat (i + (own_enc p3).length)) from by rw [hle]]
  exact retI X58 hx hR (dt32 hby 93 rfl :) hrt
theorem own_encs_app : ∀ (xs ys : List Int32), own_encs (xs ++ ys) = own_encs xs ++ own_encs ys
  | [], ys => rfl
  | x :: xs, ys => by
    show own_enc x ++ own_encs (xs ++ ys) = (own_enc x ++ own_encs xs) ++ own_encs ys
    rw [own_encs_app xs ys, List.append_assoc]
theorem own_sp (pre post : List Int32) (c : Int32) (i : Nat) (hi : i = (own_encs pre).length) : i + (own_enc c).length ≤ (own_encs (pre ++ c :: post)).length ∧ ∀ j, j < (own_enc c).length → (own_encs (pre ++ c :: post)).getD (i + j) 0 = (own_enc c).getD j 0 := by
  subst hi
  rw [own_encs_app]
  refine ⟨by rw [List.length_append]; show _ ≤ _ + (own_enc c ++ own_encs post).length; rw [List.length_append]; omega, fun j hj => ?_⟩
  rw [own_gd2]
  exact own_gd1 hj
theorem own_k3 (z : Int32) : (z &&& (3 : Int32)) = (0 : Int32) ∨ (z &&& (3 : Int32)) = (1 : Int32) ∨ (z &&& (3 : Int32)) = (2 : Int32) ∨ (z &&& (3 : Int32)) = (3 : Int32) := by
  have m := c_mask z (3 : Int32) 2 (by decide) (by decide)
  generalize (z &&& (3 : Int32)) = y at *
  have hk : y.toInt = 0 ∨ y.toInt = 1 ∨ y.toInt = 2 ∨ y.toInt = 3 := by omega
  rcases hk with h | h | h | h
  · exact Or.inl (Int32.toInt_inj.mp h)
  · exact Or.inr (Or.inl (Int32.toInt_inj.mp h))
  · exact Or.inr (Or.inr (Or.inl (Int32.toInt_inj.mp h)))
  · exact Or.inr (Or.inr (Or.inr (Int32.toInt_inj.mp h)))
theorem pd_43 : parseMethodDescriptor "(Ljava/lang/String;)Ljava/lang/String;" = some ⟨[(.object "java/lang/String")], some (.object "java/lang/String")⟩ := by decide +kernel
theorem pd_44 : parseMethodDescriptor "(C)Ljava/lang/String;" = some ⟨[.char], some (.object "java/lang/String")⟩ := by decide +kernel
theorem pd_45 : parseMethodDescriptor "(Ljava/lang/String;IC)I" = some ⟨[(.object "java/lang/String"), .int, .char], some .int⟩ := by decide +kernel
theorem pd_46 : parseMethodDescriptor "([C)V" = some ⟨[(.array .char)], none⟩ := by decide +kernel
def Q0 (Z : State) (i0 i1 i2 i3 cs : Int32) (sv : Value) (dg : Addr) (h0 : Heap) (n0 : Nat) (v : Option Value) (h : Heap) (L : List Loc) : Prop := v = some (.int (1 : Int32)) ∧ Fr n0 L
theorem rm0 (l : Launch) (Z : State) (a0 : Array Value) (hw : own_hw a0 Z) (ws : List Jvm.Cond) (i0 i1 i2 i3 cs : Int32) (sv : Value) (dg : Addr) (h0 : Heap) (n0 : Nat) (Z0 : n0 ≤ h0.size) (hS : (own_ST Z cs sv dg)) (HO : Old Z n0 h0) :
    MetFree l x (head1 (Jvm.Cond.code x code maxLocals ret :: ws) room_1) (fun a U => a = #[(.int i0), (.int i1), (.int i2), (.int i3)] ∧ Z.Warmed39 U.vm ∧ U.heap = h0 ∧ CHv Z consts_1 U.vm h0) (fun _ _ _ _ _ => True) (fun _ U o U' => ∃ v L, o = .returned v ∧ Q0 Z i0 i1 i2 i3 cs sv dg h0 n0 v U'.heap L ∧ ReturnedEndW U o U' L room_1.cells room_1.slots) := by
 refine MetFree.of_bodySF (plainFor_of_name pn_0) hisR ?_
 intro p e s m args below meth c sq Bd hml0 hP hK
 obtain ⟨rfl, hZ, hh, hC⟩ := hP
 have hx := Bd.exec
 have hby := Bd.bytes
 have hR := Bd.returns
 have hml : c.maxLocals = 11 := hml0
 have hown : s.vm.findClass "com/example/motes_to_bounds/motestobounds/io/TextReportPrintablePinLaw" = some m.cls := findClass_of_methodNamed Bd.named
 have hnm := (name_of_methodNamed Bd.named Bd.method).1
 have X0 : Stand p l e room_1 (s.setVm s.vm) m #[(.int i0), (.int i1), (.int i2), (.int i3)] below meth c sq [] 0 0 := Stand.of_body Bd
 have e0 : sq.heap = h0 := by rw [← hh, Bd.state]; rfl
 have N0 := Fr.nil n0
 obtain ⟨Pq, hPq, pre0⟩ : ∃ Q : State → Prop, (∀ t, Q t → Steps p.tables e below (sq.setTop (entryFrame m #[(.int i0), (.int i1), (.int i2), (.int i3)] maxLocals)) t) ∧ ∀ t, Steps p.tables e below (sq.setTop (mkF m 0 #[sI i0, sI i1, sI i2, sI i3, .unset, .unset, .unset, .unset, .unset, .unset, .unset] [])) t → Q t := ⟨_, fun _ k => k, fun t k => castTop (by first | (simp [entryFrame, mkF, argsToLocals, Value.category, maxLocals]; done) | rfl) k⟩
 have hZ : Z.Warmed39 (s.setVm s.vm).vm := hZ
 have hown : (s.setVm s.vm).vm.findClass "com/example/motes_to_bounds/motestobounds/io/TextReportPrintablePinLaw" = some m.cls := hown
 have hS0 : s.Since s.vm 0 := (State.WarmedH.refl s).since 0
 have hk0 : 0 ≤ h0.size := Nat.zero_le _
 have hEL := own_EW hw
 have wS := own_wS hw
 have R0 : CHr Z consts_1 s.vm h0 s.vm h0 := CHr.refl hC
 obtain ⟨_, _, ⟨T1, L1, k1, n1⟩, -, X1, ⟨Lc1, hQ1, l1, y1, z1⟩, st1⟩ := Jvm.LawKit.callS X0 hx (y := ym1) hown (mw hZ hw 0 rfl) (mw hZ hw 1 rfl) (mw hZ hw 2 rfl) (mw hZ hw 3 rfl) (by decide) (backOf (W := 0) (rm1 l Z a0 hw i1 h0 n0 Z0 ) hZ (hw _ (wi 3 rfl)) (hw _ (wi 2 rfl)) (by decide) (by decide)) (g := (mkF m 6 #[sI i0, sI i1, sI i2, sI i3, sI (i0 &&& (3 : Int32)), .unset, .unset, .unset, .unset, .unset, .unset] [(.int i1)])) rfl (by rw [hml]; rfl) (argsL := [(.int i1)]) (rest := []) (lenOf pd_38 rfl) rfl (Nat.le_refl _) (hb hby at_6) (fun _ _ => ⟨rfl, e0, (by decide : 0 + 0 ≤ _), (by decide : 0 + 0 ≤ _)⟩)
 dsimp only [Pt.U, Pt.locs, Pt.cells, Pt.slots] at X1 l1 y1 z1 st1 hQ1
 subst l1 y1 z1
 obtain ⟨r2, rfl, N1q, R3, R4⟩ := hQ1
 have N1 := Fr.app N0 N1q
 obtain ⟨_, _, ⟨T5, L5, k5, n5⟩, -, X5, ⟨Lc5, hQ5, l5, y5, z5⟩, st5⟩ := Jvm.LawKit.callS X1 hx (y := ym1) hown (mw hZ hw 0 rfl) (mw hZ hw 1 rfl) (mw hZ hw 2 rfl) (mw hZ hw 3 rfl) (by decide) (backOf (W := 0) (rm1 l Z a0 hw i2 h0 n0 Z0 ) hZ (hw _ (wi 3 rfl)) (hw _ (wi 2 rfl)) (by decide) (by decide)) (g := (mkF m 12 #[sI i0, sI i1, sI i2, sI i3, sI (i0 &&& (3 : Int32)), sI r2, .unset, .unset, .unset, .unset, .unset] [(.int i2)])) rfl (by rw [hml]; rfl) (argsL := [(.int i2)]) (rest := []) (lenOf pd_38 rfl) rfl (Nat.le_refl _) (hb hby at_12) (fun _ _ => ⟨rfl, R4, (by decide : 0 + 0 ≤ _), (by decide : 0 + 0 ≤ _)⟩)
 dsimp only [Pt.U, Pt.locs, Pt.cells, Pt.slots] at X5 l5 y5 z5 st5 hQ5
 subst l5 y5 z5
 obtain ⟨r6, rfl, N5q, R7, R8⟩ := hQ5
 have N5 := Fr.app N1 N5q
 obtain ⟨_, _, ⟨T9, L9, k9, n9⟩, -, X9, ⟨Lc9, hQ9, l9, y9, z9⟩, st9⟩ := Jvm.LawKit.callS X5 hx (y := ym1) hown (mw hZ hw 0 rfl) (mw hZ hw 1 rfl) (mw hZ hw 2 rfl) (mw hZ hw 3 rfl) (by decide) (backOf (W := 0) (rm1 l Z a0 hw i3 h0 n0 Z0 ) hZ (hw _ (wi 3 rfl)) (hw _ (wi 2 rfl)) (by decide) (by decide)) (g := (mkF m 18 #[sI i0, sI i1, sI i2, sI i3, sI (i0 &&& (3 : Int32)), sI r2, sI r6, .unset, .unset, .unset, .unset] [(.int i3)])) rfl (by rw [hml]; rfl) (argsL := [(.int i3)]) (rest := []) (lenOf pd_38 rfl) rfl (Nat.le_refl _) (hb hby at_18) (fun _ _ => ⟨rfl, R8, (by decide : 0 + 0 ≤ _), (by decide : 0 + 0 ≤ _)⟩)
 dsimp only [Pt.U, Pt.locs, Pt.cells, Pt.slots] at X9 l9 y9 z9 st9 hQ9
 subst l9 y9 z9
 obtain ⟨r10, rfl, N9q, R11, R12⟩ := hQ9
 have N9 := Fr.app N5 N9q
 have P13 : ∀ t, Steps p.tables e below (T9.setTop (mkF m 23 #[sI i0, sI i1, sI i2, sI i3, sI (i0 &&& (3 : Int32)), sI r2, sI r6, sI r10, .unset, .unset, .unset] [])) t → Pq t := fun t k => pre0 t (by
  refine qiN X0 hx (hb hby at_0) rfl ?_
  refine qc X0 hx (3 : Int32) (hb hby at_1) rfl ?_
  refine XS.iand X0.here hx rfl (hb hby at_2) rfl ?_
  refine qs X0 hx (l' := #[sI i0, sI i1, sI i2, sI i3, sI (i0 &&& (3 : Int32)), .unset, .unset, .unset, .unset, .unset, .unset]) (hb hby at_3) rfl ?_
  refine qiN X0 hx (hb hby at_5) rfl ?_
  refine st1 _ ?_
  refine qs X1 hx (l' := #[sI i0, sI i1, sI i2, sI i3, sI (i0 &&& (3 : Int32)), sI r2, .unset, .unset, .unset, .unset, .unset]) (hb hby at_9) rfl ?_
  refine qiN X1 hx (hb hby at_11) rfl ?_
  refine st5 _ ?_
  refine qs X5 hx (l' := #[sI i0, sI i1, sI i2, sI i3, sI (i0 &&& (3 : Int32)), sI r2, sI r6, .unset, .unset, .unset, .unset]) (hb hby at_15) rfl ?_
  refine qiN X5 hx (hb hby at_17) rfl ?_
  refine st9 _ ?_
  refine qs X9 hx (l' := #[sI i0, sI i1, sI i2, sI i3, sI (i0 &&& (3 : Int32)), sI r2, sI r6, sI r10, .unset, .unset, .unset]) (hb hby at_21) rfl ?_
  exact k)
 obtain hk | hk | hk | hk := own_k3 i0
 ·
  have P14 : ∀ t, Steps p.tables e below (T9.setTop (mkF m 28 #[sI i0, sI i1, sI i2, sI i3, sI (0 : Int32), sI r2, sI r6, sI r10, .unset, .unset, .unset] [])) t → Pq t := fun t k => P13 t (by
   rw [show (i0 &&& (3 : Int32)) = (0 : Int32) from hk]
   refine qi X9 hx (hb hby at_23) rfl ?_
   refine qfN X9 hx (hb hby at_25) ((if0 _ _).trans (teq (by decide : (0 : Int32) = (0 : Int32))).2) ?_
   exact k)
  obtain ⟨ba15, T15, h15, kn15, bv15, X15, e15, E15, hS15, hk15, hZ, hown, Ls15, C15, nE15, st15⟩ := own_ldcc X9 hx hZ hown (hw _ (wi 4 rfl)) wS R12 hS0 hk0 hEL (wi 2 rfl) R0.1 (zs := ([] : List Int32)) ⟨by decide, rfl⟩ (by decide) (by decide) (g := (mkF m 28 #[sI i0, sI i1, sI i2, sI i3, sI (0 : Int32), sI r2, sI r6, sI r10, .unset, .unset, .unset] [])) rfl (hb hby at_28) (n := 0) (by decide) (by decide) (by decide) (by decide)
  have F16 : Old Z n0 h15 := HO.ext E15
  have Z17 : n0 ≤ h15.size := Nat.le_trans Z0 E15.1
  have R18 : CHr Z consts_1 s.vm h0 T15.vm h15 := R0.trans C15
  have Sc : own_Str Z h15 ba15 bv15 [] := Ls15.str
  have P19 : ∀ t, Steps p.tables e below (T15.setTop (mkF m 111 #[sI i0, sI i1, sI i2, sI i3, sI (0 : Int32), sI r2, sI r6, sI r10, sR ba15, .unset, .unset] [(.ref ba15)])) t → Pq t := fun t k => P14 t (by
   refine st15 _ ?_
   refine qt X15 hx (l' := #[sI i0, sI i1, sI i2, sI i3, sI (0 : Int32), sI r2, sI r6, sI r10, sR ba15, .unset, .unset]) (hb hby at_30) rfl rfl ?_
   refine qg X15 hx 32 109 (hb hby at_32) (by decide) (by decide) ?_
   refine qa X15 hx (hb hby at_109) rfl rfl ?_
   exact k)
  obtain ⟨_, _, ⟨T21, L21, k21, n21⟩, -, Xq21, hSq21, hg21, ⟨Lc21, hQ21, l21, y21, z21, C21⟩, st21⟩ := callSS X15 hx (y := ym2) hown (mw hZ hw 12 rfl) (mw hZ hw 13 rfl) (mw hZ hw 14 rfl) (mw hZ hw 15 rfl) (by decide) (backOfSH (W := 0) (rm2 l Z a0 hw ba15 bv15 ([]) cs sv dg h15 n0 Z17 Sc (by simp) hS F16) hZ (hw _ (wi 15 rfl)) (hw _ (wi 14 rfl)) (by decide) (by decide) hEL R18.1) (g := (mkF m 111 #[sI i0, sI i1, sI i2, sI i3, sI (0 : Int32), sI r2, sI r6, sI r10, sR ba15, .unset, .unset] [(.ref ba15)])) rfl (by rw [hml]; rfl) (argsL := [(.ref ba15)]) (rest := []) (lenOf pd_43 rfl) rfl (Nat.le_refl _) (hb hby at_111) (fun _ _ => ⟨rfl, e15, (by decide : 2 + 47 ≤ _), (by decide : 4 + 1596 ≤ _)⟩)
  dsimp only [Pt.U, Pt.locs, Pt.cells, Pt.slots] at Xq21 l21 y21 z21 st21 hQ21 C21 hSq21 hg21
  subst l21 y21 z21
  obtain ⟨X21, hS21, hZ, hown⟩ := rebS hS15 (by rw [e15]; exact hk15) Xq21 hSq21 hg21 hZ hown
  obtain ⟨a222, b223, rfl, N21q, R24, R25⟩ := hQ21
  have N21 := Fr.app N9 N21q
  have F26 : Old Z n0 T21.heap := F16.keep R24 all0
  have Z28 : n0 ≤ T21.heap.size := Nat.le_trans Z17 R24.1
  have E9 := R25.exa
  obtain ⟨cq30, kq30, q30a, q30b, q30c⟩ := isOf hZ rfl E9
  obtain ⟨_, _, ⟨T30, L30, k30, n30⟩, -, X30, ⟨Lc30, hQ30, l30, y30, z30⟩, st30⟩ := X21.virtualBack hx (y := ym3) (z := ym3) hown (mw hZ hw 97 rfl) (mw hZ hw 20 rfl) (notFace_of_selects (args := #[]) (mw hZ hw 22 rfl)) (mw hZ hw 22 rfl) (mw hZ hw 21 rfl) (by decide) (backOf (W := 1) (rm3_s l Z a0 hw a222 b223 (own_encs []) cs sv dg T21.heap n0 Z28 R25 hS F26) hZ (hw _ (wi 23 rfl)) (hw _ (wi 5 rfl)) (by decide) (by decide)) q30a q30c (g := (mkF m 174 #[sI i0, sI i1, sI i2, sI i3, sI (0 : Int32), sI r2, sI r6, sI r10, sR ba15, sR a222, sI (0 : Int32)] [(.ref a222), (.int (0 : Int32))])) rfl (by rw [hml]; rfl) (Steps.refl _) (argsL := []) (rest := [(.int (0 : Int32))]) (lenOf pd_28 rfl) rfl (Nat.le_refl _) (hb hby at_174) (fun _ _ => ⟨rfl, rfl, (by decide : 49 + 0 ≤ _), (by decide : 1600 + 0 ≤ _)⟩)
  dsimp only [Pt.U, Pt.locs, Pt.cells, Pt.slots] at X30 l30 y30 z30 st30 hQ30
  subst l30 y30 z30
  obtain ⟨rfl, N30q, R31⟩ := hQ30
  have N30 := Fr.app N21 N30q
  have hc177_32 : (0 : Int32) = (Int32.ofNat (own_encs []).length) := rfl
  obtain ⟨fs, hrt, hrun, hended, hRE⟩ := X30.leaveW hS21 (by rw [R31]; exact (Nat.le_refl _)) (v := some (.int (1 : Int32))) (fun h => by rw [hR] at h; cases h)
  refine ⟨_, _, hPq _ <| P19 _ ?_, hrun, hended, _, _, rfl, ?_, hRE.1, hRE.2.1, hRE.2.2.1, hRE.2.2.2.mono (by decide) (by decide)⟩
  ·
   refine st21.trans ?_
   refine qt X21 hx (l' := #[sI i0, sI i1, sI i2, sI i3, sI (0 : Int32), sI r2, sI r6, sI r10, sR ba15, sR a222, .unset]) (hb hby at_114) rfl rfl ?_
   refine qc X21 hx (0 : Int32) (hb hby at_116) rfl ?_
   refine qs X21 hx (l' := #[sI i0, sI i1, sI i2, sI i3, sI (0 : Int32), sI r2, sI r6, sI r10, sR ba15, sR a222, sI (0 : Int32)]) (hb hby at_117) rfl ?_
   refine qi X21 hx (hb hby at_119) rfl ?_
   refine qc X21 hx (1 : Int32) (hb hby at_121) rfl ?_
   refine qmY X21 hx 122 136 (hb hby at_122) (tlt (by decide : (0 : Int32) < (1 : Int32))).1 (by decide) (by decide) ?_
   refine qi X21 hx (hb hby at_136) rfl ?_
   refine qc X21 hx (2 : Int32) (hb hby at_138) rfl ?_
   refine qmY X21 hx 139 153 (hb hby at_139) (tlt (by decide : (0 : Int32) < (2 : Int32))).1 (by decide) (by decide) ?_
   refine qi X21 hx (hb hby at_153) rfl ?_
   refine qc X21 hx (3 : Int32) (hb hby at_155) rfl ?_
   refine qmY X21 hx 156 170 (hb hby at_156) (tlt (by decide : (0 : Int32) < (3 : Int32))).1 (by decide) (by decide) ?_
   refine qi X21 hx (hb hby at_170) rfl ?_
   refine qa X21 hx (hb hby at_172) rfl rfl ?_
   refine st30.trans ?_
   refine qmN X30 hx (hb hby at_177) (teq hc177_32).2 ?_
   refine qc X30 hx (1 : Int32) (hb hby at_180) rfl ?_
   refine qg X30 hx 181 185 (hb hby at_181) (by decide) (by decide) ?_
   exact retN X30 hx (t := .boolean) hR (by simp) (hb hby at_185) hrt
  ·
   show Q0 Z i0 i1 i2 i3 cs sv dg h0 n0 _ T30.heap _
   rw [R31]
   exact ⟨rfl, N30⟩
 ·
  obtain ⟨_, _, ⟨T34, L34, k34, n34⟩, -, X34, ⟨Lc34, hQ34, l34, y34, z34⟩, st34⟩ := Jvm.LawKit.callS X9 hx (y := ym49) hown (mw hZ hw 225 rfl) (mw hZ hw 226 rfl) (mw hZ hw 5 rfl) (mw hZ hw 227 rfl) (by decide) (backOf (W := 0) (rm49 l Z a0 hw r2 cs sv dg h0 n0 Z0 R3 hS HO) hZ (hw _ (wi 227 rfl)) (hw _ (wi 5 rfl)) (by decide) (by decide)) (g := (mkF m 43 #[sI i0, sI i1, sI i2, sI i3, sI (1 : Int32), sI r2, sI r6, sI r10, .unset, .unset, .unset] [(.int r2)])) rfl (by rw [hml]; rfl) (argsL := [(.int r2)]) (rest := []) (lenOf pd_44 rfl) rfl (Nat.le_refl _) (hb hby at_43) (fun _ _ => ⟨rfl, R12, (by decide : 0 + 2 ≤ _), (by decide : 0 + 6 ≤ _)⟩)
  dsimp only [Pt.U, Pt.locs, Pt.cells, Pt.slots] at X34 l34 y34 z34 st34 hQ34
  subst l34 y34 z34
  obtain ⟨a235, b236, rfl, N34q, R37, R38, R39, R40, R41, R42⟩ := hQ34
  have N34 := Fr.app N9 N34q
  have F43 : Old Z n0 T34.heap := HO.keep R37 all0
  have Z44 : n0 ≤ T34.heap.size := Nat.le_trans Z0 R37.1
  have R45 : CHr Z consts_1 s.vm h0 s.vm T34.heap := R0.trans (CHr.keep R37 all0 R0.1)
  have P48 : ∀ t, Steps p.tables e below (T34.setTop (mkF m 111 #[sI i0, sI i1, sI i2, sI i3, sI (1 : Int32), sI r2, sI r6, sI r10, sR a235, .unset, .unset] [(.ref a235)])) t → Pq t := fun t k => P13 t (by
   rw [show (i0 &&& (3 : Int32)) = (1 : Int32) from hk]
   refine qi X9 hx (hb hby at_23) rfl ?_
   refine qfY X9 hx 25 35 (hb hby at_25) ((if0 _ _).trans (feq (by decide : ¬ ((1 : Int32) = (0 : Int32)))).2) (by decide) (by decide) ?_
   refine qi X9 hx (hb hby at_35) rfl ?_
   refine qc X9 hx (1 : Int32) (hb hby at_37) rfl ?_
   refine qmN X9 hx (hb hby at_38) (teq (by decide : (1 : Int32) = (1 : Int32))).2 ?_
   refine qi X9 hx (hb hby at_41) rfl ?_
   refine st34 _ ?_
   refine qt X34 hx (l' := #[sI i0, sI i1, sI i2, sI i3, sI (1 : Int32), sI r2, sI r6, sI r10, sR a235, .unset, .unset]) (hb hby at_46) rfl rfl ?_
   refine qg X34 hx 48 109 (hb hby at_48) (by decide) (by decide) ?_
   refine qa X34 hx (hb hby at_109) rfl rfl ?_
   exact k)
  obtain ⟨_, _, ⟨T50, L50, k50, n50⟩, -, Xq50, hSq50, hg50, ⟨Lc50, hQ50, l50, y50, z50, C50⟩, st50⟩ := callSS X34 hx (y := ym2) hown (mw hZ hw 12 rfl) (mw hZ hw 13 rfl) (mw hZ hw 14 rfl) (mw hZ hw 15 rfl) (by decide) (backOfSH (W := 0) (rm2 l Z a0 hw a235 b236 ([r2]) cs sv dg T34.heap n0 Z44 R42 (by simp) hS F43) hZ (hw _ (wi 15 rfl)) (hw _ (wi 14 rfl)) (by decide) (by decide) hEL R45.1) (g := (mkF m 111 #[sI i0, sI i1, sI i2, sI i3, sI (1 : Int32), sI r2, sI r6, sI r10, sR a235, .unset, .unset] [(.ref a235)])) rfl (by rw [hml]; rfl) (argsL := [(.ref a235)]) (rest := []) (lenOf pd_43 rfl) rfl (Nat.le_refl _) (hb hby at_111) (fun _ _ => ⟨rfl, rfl, (by decide : 2 + 47 ≤ _), (by decide : 6 + 1596 ≤ _)⟩)
  dsimp only [Pt.U, Pt.locs, Pt.cells, Pt.slots] at Xq50 l50 y50 z50 st50 hQ50 C50 hSq50 hg50
  subst l50 y50 z50
  obtain ⟨X50, hS50, hZ, hown⟩ := rebS hS0 (Nat.le_trans hk0 R37.1) Xq50 hSq50 hg50 hZ hown
  obtain ⟨a251, b252, rfl, N50q, R53, R54⟩ := hQ50
  have N50 := Fr.app N34 N50q
  have F55 : Old Z n0 T50.heap := F43.keep R53 all0
  have Z57 : n0 ≤ T50.heap.size := Nat.le_trans Z44 R53.1
  have E9 := R54.exa
  have sp0 := own_sp [] [] r2 0 (by simp [own_encs])
  obtain ⟨_, _, ⟨T64, L64, k64, n64⟩, -, X64, ⟨Lc64, hQ64, l64, y64, z64⟩, st64⟩ := Jvm.LawKit.callS X50 hx (y := ym32) hown (mw hZ hw 163 rfl) (mw hZ hw 164 rfl) (mw hZ hw 2 rfl) (mw hZ hw 165 rfl) (by decide) (backOf (W := 0) (rm32 l Z a0 hw a251 r2 0 b252 (own_encs [r2]) cs sv dg T50.heap n0 Z57 R54 R3 sp0.1 sp0.2 hS F55) hZ (hw _ (wi 165 rfl)) (hw _ (wi 2 rfl)) (by decide) (by decide)) (g := (mkF m 131 #[sI i0, sI i1, sI i2, sI i3, sI (1 : Int32), sI r2, sI r6, sI r10, sR a235, sR a251, sI (0 : Int32)] [(.int r2), (.int (0 : Int32)), (.ref a251)])) rfl (by rw [hml]; rfl) (argsL := [(.ref a251), (.int (0 : Int32)), (.int r2)]) (rest := []) (lenOf pd_45 rfl) rfl (Nat.le_refl _) (hb hby at_131) (fun _ _ => ⟨rfl, rfl, (by decide : 49 + 0 ≤ _), (by decide : 1602 + 0 ≤ _)⟩)
  dsimp only [Pt.U, Pt.locs, Pt.cells, Pt.slots] at X64 l64 y64 z64 st64 hQ64
  subst l64 y64 z64
  obtain ⟨rfl, N64q, R65⟩ := hQ64
  have N64 := Fr.app N50 N64q
  obtain ⟨cq66, kq66, q66a, q66b, q66c⟩ := isOf hZ R65 E9
  obtain ⟨_, _, ⟨T66, L66, k66, n66⟩, -, X66, ⟨Lc66, hQ66, l66, y66, z66⟩, st66⟩ := X64.virtualBack hx (y := ym3) (z := ym3) hown (mw hZ hw 97 rfl) (mw hZ hw 20 rfl) (notFace_of_selects (args := #[]) (mw hZ hw 22 rfl)) (mw hZ hw 22 rfl) (mw hZ hw 21 rfl) (by decide) (backOf (W := 1) (rm3_s l Z a0 hw a251 b252 (own_encs [r2]) cs sv dg T50.heap n0 Z57 R54 hS F55) hZ (hw _ (wi 23 rfl)) (hw _ (wi 5 rfl)) (by decide) (by decide)) q66a q66c (g := (mkF m 174 #[sI i0, sI i1, sI i2, sI i3, sI (1 : Int32), sI r2, sI r6, sI r10, sR a235, sR a251, sI (Int32.ofNat (0 + (own_enc r2).length))] [(.ref a251), (.int (Int32.ofNat (0 + (own_enc r2).length)))])) rfl (by rw [hml]; rfl) (Steps.refl _) (argsL := []) (rest := [(.int (Int32.ofNat (0 + (own_enc r2).length)))]) (lenOf pd_28 rfl) rfl (Nat.le_refl _) (hb hby at_174) (fun _ _ => ⟨rfl, R65, (by decide : 49 + 0 ≤ _), (by decide : 1602 + 0 ≤ _)⟩)
  dsimp only [Pt.U, Pt.locs, Pt.cells, Pt.slots] at X66 l66 y66 z66 st66 hQ66
  subst l66 y66 z66
  obtain ⟨rfl, N66q, R67⟩ := hQ66
  have N66 := Fr.app N64 N66q
  have hc177_68 : (Int32.ofNat (0 + (own_enc r2).length)) = (Int32.ofNat (own_encs [r2]).length) := own_ieq (by simp [own_encs, Nat.add_assoc])
  obtain ⟨fs, hrt, hrun, hended, hRE⟩ := X66.leaveW hS50 (by rw [R67]; exact (Nat.le_refl _)) (v := some (.int (1 : Int32))) (fun h => by rw [hR] at h; cases h)
  refine ⟨_, _, hPq _ <| P48 _ ?_, hrun, hended, _, _, rfl, ?_, hRE.1, hRE.2.1, hRE.2.2.1, hRE.2.2.2.mono (by decide) (by decide)⟩
  ·
   refine st50.trans ?_
   refine qt X50 hx (l' := #[sI i0, sI i1, sI i2, sI i3, sI (1 : Int32), sI r2, sI r6, sI r10, sR a235, sR a251, .unset]) (hb hby at_114) rfl rfl ?_
   refine qc X50 hx (0 : Int32) (hb hby at_116) rfl ?_
   refine qs X50 hx (l' := #[sI i0, sI i1, sI i2, sI i3, sI (1 : Int32), sI r2, sI r6, sI r10, sR a235, sR a251, sI (0 : Int32)]) (hb hby at_117) rfl ?_
   refine qi X50 hx (hb hby at_119) rfl ?_
   refine qc X50 hx (1 : Int32) (hb hby at_121) rfl ?_
   refine qmN X50 hx (hb hby at_122) (flt (by decide : ¬ ((1 : Int32) < (1 : Int32)))).1 ?_
   refine qa X50 hx (hb hby at_125) rfl rfl ?_
   refine qi X50 hx (hb hby at_127) rfl ?_
   refine qi X50 hx (hb hby at_129) rfl ?_
   refine st64 _ ?_
   refine qs X64 hx (l' := #[sI i0, sI i1, sI i2, sI i3, sI (1 : Int32), sI r2, sI r6, sI r10, sR a235, sR a251, sI (Int32.ofNat (0 + (own_enc r2).length))]) (hb hby at_134) rfl ?_
   refine qi X64 hx (hb hby at_136) rfl ?_
   refine qc X64 hx (2 : Int32) (hb hby at_138) rfl ?_
   refine qmY X64 hx 139 153 (hb hby at_139) (tlt (by decide : (1 : Int32) < (2 : Int32))).1 (by decide) (by decide) ?_
   refine qi X64 hx (hb hby at_153) rfl ?_
   refine qc X64 hx (3 : Int32) (hb hby at_155) rfl ?_
   refine qmY X64 hx 156 170 (hb hby at_156) (tlt (by decide : (1 : Int32) < (3 : Int32))).1 (by decide) (by decide) ?_
   refine qi X64 hx (hb hby at_170) rfl ?_
   refine qa X64 hx (hb hby at_172) rfl rfl ?_
   refine st66.trans ?_
   refine qmN X66 hx (hb hby at_177) (teq hc177_68).2 ?_
   refine qc X66 hx (1 : Int32) (hb hby at_180) rfl ?_
   refine qg X66 hx 181 185 (hb hby at_181) (by decide) (by decide) ?_
   exact retN X66 hx (t := .boolean) hR (by simp) (hb hby at_185) hrt
  ·
   show Q0 Z i0 i1 i2 i3 cs sv dg h0 n0 _ T66.heap _
   rw [R67]
   exact ⟨rfl, N66⟩
 ·
  obtain ⟨T69, h69, X69, e69, E69, A69, D69, -, st69⟩ := newO X9 hx hZ hown (hw _ (wi 98 rfl)) (hw _ (wi 6 rfl)) (hw _ (wi 5 rfl)) R12 (g := (mkF m 57 #[sI i0, sI i1, sI i2, sI i3, sI (2 : Int32), sI r2, sI r6, sI r10, .unset, .unset, .unset] [])) rfl (hb hby at_57) (by decide) (by decide)
  obtain ⟨b69, g69⟩ : ∃ z, z = h0.size := ⟨_, rfl⟩
  rw [← g69] at A69 D69 st69
  have g_b69 : n0 ≤ b69 := Nat.le_trans Z0 (Nat.le_of_eq g69.symm)
  have sf70 : Safe Z consts_1 s.vm h0 b69 := Safe.new (Nat.le_of_eq g69.symm)
  have F71 : Old Z n0 h69 := HO.ext E69
  have Z72 : n0 ≤ h69.size := Nat.le_trans Z0 E69.1
  have R73 : CHr Z consts_1 s.vm h0 s.vm h69 := R0.trans (CHr.ext E69 R0.1)
  have sf74 : Safe Z consts_1 s.vm h69 b69 := Safe.ext E69 R0.1 sf70
  have F75 : fSv Z h69 b69 .null := D69 (Or.inr (hw _ (wi 8 rfl))) (ty := (.array .byte)) (by decide)
  have F76 : fSc Z h69 b69 (.int (0 : Int32)) := D69 (Or.inr (hw _ (wi 9 rfl))) (ty := .byte) (by decide)
  obtain ⟨T77, h77, k77, X77, e77, E77, A77, Y77, st77⟩ := newPE X69 hx hZ (hw _ (wi 99 rfl)) e69 (g := (mkF m 62 #[sI i0, sI i1, sI i2, sI i3, sI (2 : Int32), sI r2, sI r6, sI r10, .unset, .unset, .unset] [(.int (2 : Int32)), (.ref b69), (.ref b69)])) rfl (hb hby at_62) rfl (by decide) (cap := 2) (by decide) (by decide) (by decide) (by decide) (ad := "[C") (by decide)
  obtain ⟨b77, g77⟩ : ∃ z, z = h69.size := ⟨_, rfl⟩
  rw [← g77] at A77 st77 Y77
  have ne78 : b69 ≠ b77 := Nat.ne_of_lt (Nat.lt_of_lt_of_le A69.lt (Nat.le_of_eq g77.symm))
  have g_b77 : n0 ≤ b77 := Nat.le_trans Z72 (Nat.le_of_eq g77.symm)
  have sf79 : Safe Z consts_1 s.vm h69 b77 := Safe.new (Nat.le_of_eq g77.symm)
  have F80 : Old Z n0 h77 := F71.ext E77
  have F81 : eS Z h77 b69 := A69.ext E77
  have F82 : fSv Z h77 b69 .null := F75.ext E77
  have F83 : fSc Z h77 b69 (.int (0 : Int32)) := F76.ext E77
  have Z84 : n0 ≤ h77.size := Nat.le_trans Z72 E77.1
  have R85 : CHr Z consts_1 s.vm h0 s.vm h77 := R73.trans (CHr.ext E77 R73.1)
  have sf86 : Safe Z consts_1 s.vm h77 b69 := Safe.ext E77 R73.1 sf74
  have sf87 : Safe Z consts_1 s.vm h77 b77 := Safe.ext E77 R73.1 sf79
  have V77 : own_Af Z h77 b77 .char (2 : Int32) (fun _ => 0) := own_Af.new A77 (by decide) rfl
  obtain ⟨co88, Ao88, So88, Mo88, Bo88, Go88⟩ := V77.op
  obtain ⟨T89, h89, X89, e89, W89, st89⟩ := stC X77 hx hZ e77 Ao88 (j := (0 : Int32)) (inb_of So88 ⟨by decide, by decide⟩) (g := (mkF m 68 #[sI i0, sI i1, sI i2, sI i3, sI (2 : Int32), sI r2, sI r6, sI r10, .unset, .unset, .unset] [(.int r2), (.int (0 : Int32)), (.ref b77), (.ref b77), (.ref b69), (.ref b69)])) rfl rfl (hb hby at_68)
  have V89 : own_Af Z h89 b77 .char (2 : Int32) (own_sc (fun _ => (0 : Int32)) (0 : Int32) r2) := own_Af.set Ao88 So88 Mo88 Bo88 Go88 (fits_nar_char _) W89
  have F90 : Old Z n0 h89 := F80.wr W89 g_b77
  have F91 : eS Z h89 b69 := F81.wr W89
  have F92 : fSv Z h89 b69 .null := F82.other W89 (Or.inl ne78)
  have F93 : fSc Z h89 b69 (.int (0 : Int32)) := F83.other W89 (Or.inl ne78)
  have Z95 : n0 ≤ h89.size := Nat.le_trans Z84 (Keep.of_wr W89).1
  have N96 := Fr.snoc X89 N9 g_b77
  have R97 : CHr Z consts_1 s.vm h0 s.vm h89 := R85.trans (CHr.wr W89 sf87 R85.1)
  have sf98 : Safe Z consts_1 s.vm h89 b69 := Safe.wr W89 sf87 R85.1 sf86
  have sf99 : Safe Z consts_1 s.vm h89 b77 := Safe.wr W89 sf87 R85.1 sf87
  obtain ⟨co100, Ao100, So100, Mo100, Bo100, Go100⟩ := V89.op
  obtain ⟨T101, h101, X101, e101, W101, st101⟩ := stC X89 hx hZ e89 Ao100 (j := (1 : Int32)) (inb_of So100 ⟨by decide, by decide⟩) (g := (mkF m 73 #[sI i0, sI i1, sI i2, sI i3, sI (2 : Int32), sI r2, sI r6, sI r10, .unset, .unset, .unset] [(.int r6), (.int (1 : Int32)), (.ref b77), (.ref b77), (.ref b69), (.ref b69)])) rfl rfl (hb hby at_73)
  have V101 : own_Af Z h101 b77 .char (2 : Int32) (own_sc (own_sc (fun _ => (0 : Int32)) (0 : Int32) r2) (1 : Int32) r6) := own_Af.set Ao100 So100 Mo100 Bo100 Go100 (fits_nar_char _) W101
  have F102 : Old Z n0 h101 := F90.wr W101 g_b77
  have F103 : eS Z h101 b69 := F91.wr W101
  have F104 : fSv Z h101 b69 .null := F92.other W101 (Or.inl ne78)
  have F105 : fSc Z h101 b69 (.int (0 : Int32)) := F93.other W101 (Or.inl ne78)
  have Z107 : n0 ≤ h101.size := Nat.le_trans Z95 (Keep.of_wr W101).1
  have N108 := Fr.snoc X101 N96 g_b77
  have R109 : CHr Z consts_1 s.vm h0 s.vm h101 := R97.trans (CHr.wr W101 sf99 R97.1)
  have sf110 : Safe Z consts_1 s.vm h101 b69 := Safe.wr W101 sf99 R97.1 sf98
  obtain ⟨ff, hff⟩ : ∃ z : Nat → Int32, z = (own_sc (own_sc (fun _ => (0 : Int32)) (0 : Int32) r2) (1 : Int32) r6) := ⟨_, rfl⟩
  have ef0 : ff 0 = r2 := by rw [hff]; exact own_nc _ R3
  have ef1 : ff 1 = r6 := by rw [hff]; exact own_nc _ R7
  have Vf : own_Af Z h101 b77 .char (Int32.ofNat 2) ff := by rw [hff]; exact V101
  obtain ⟨_, _, ⟨T114, L114, k114, n114⟩, -, X114, ⟨Lc114, hQ114, l114, y114, z114⟩, st114⟩ := X101.specialBack hx (y := ym16) rfl hown (mw hZ hw 100 rfl) (mw hZ hw 101 rfl) (mw hZ hw 102 rfl) (by decide) (backOf (W := 1) (rm16_2 l Z a0 hw b69 b77 ff cs sv dg h101 n0 Z107 Vf (by rw [ef0]; exact R3) (by rw [ef1]; exact R7) F103 g_b69 F104 F105 ne78 hS F102) hZ (hw _ (wi 102 rfl)) (hw _ (wi 5 rfl)) (by decide) (by decide)) (g := (mkF m 74 #[sI i0, sI i1, sI i2, sI i3, sI (2 : Int32), sI r2, sI r6, sI r10, .unset, .unset, .unset] [(.ref b77), (.ref b69), (.ref b69)])) rfl (by rw [hml]; rfl) (Steps.refl _) (a := b69) (argsL := [(.ref b77)]) (rest := [(.ref b69)]) (lenOf pd_46 rfl) rfl (Nat.le_refl _) (hb hby at_74) (fun _ _ => ⟨rfl, e101, (by decide : 2 + 2 ≤ _), (by decide : 6 + 74 ≤ _)⟩)
  dsimp only [Pt.U, Pt.locs, Pt.cells, Pt.slots] at X114 l114 y114 z114 st114 hQ114
  subst l114 y114 z114
  obtain ⟨b2115, rfl, N114q, R116, R117, R118, R119⟩ := hQ114
  have N114 := Fr.app N108 N114q
  have F120 : Old Z n0 T114.heap := F102.keep R116 (allS g_b69 all0)
  have Z124 : n0 ≤ T114.heap.size := Nat.le_trans Z107 R116.1
  have R125 : CHr Z consts_1 s.vm h0 s.vm T114.heap := R109.trans (CHr.keep R116 (allS sf110 all0) R109.1)
  have Sc : own_Str Z T114.heap b69 b2115 [r2, r6] := by have u := R119; rw [ef0, ef1] at u; exact u
  have P131 : ∀ t, Steps p.tables e below (T114.setTop (mkF m 111 #[sI i0, sI i1, sI i2, sI i3, sI (2 : Int32), sI r2, sI r6, sI r10, sR b69, .unset, .unset] [(.ref b69)])) t → Pq t := fun t k => P13 t (by
   rw [show (i0 &&& (3 : Int32)) = (2 : Int32) from hk]
   refine qi X9 hx (hb hby at_23) rfl ?_
   refine qfY X9 hx 25 35 (hb hby at_25) ((if0 _ _).trans (feq (by decide : ¬ ((2 : Int32) = (0 : Int32)))).2) (by decide) (by decide) ?_
   refine qi X9 hx (hb hby at_35) rfl ?_
   refine qc X9 hx (1 : Int32) (hb hby at_37) rfl ?_
   refine qmY X9 hx 38 51 (hb hby at_38) (feq (by decide : ¬ ((2 : Int32) = (1 : Int32)))).2 (by decide) (by decide) ?_
   refine qi X9 hx (hb hby at_51) rfl ?_
   refine qc X9 hx (2 : Int32) (hb hby at_53) rfl ?_
   refine qmN X9 hx (hb hby at_54) (teq (by decide : (2 : Int32) = (2 : Int32))).2 ?_
   refine st69 _ ?_
   refine XS.dup X69.here hx rfl (hb hby at_60) rfl rfl ?_
   refine qc X69 hx (2 : Int32) (hb hby at_61) rfl ?_
   refine st77 _ ?_
   refine XS.dup X77.here hx rfl (hb hby at_64) rfl rfl ?_
   refine qc X77 hx (0 : Int32) (hb hby at_65) rfl ?_
   refine qi X77 hx (hb hby at_66) rfl ?_
   refine st89 _ ?_
   refine XS.dup X89.here hx rfl (hb hby at_69) rfl rfl ?_
   refine qc X89 hx (1 : Int32) (hb hby at_70) rfl ?_
   refine qi X89 hx (hb hby at_71) rfl ?_
   refine st101 _ ?_
   refine st114.trans ?_
   refine qt X114 hx (l' := #[sI i0, sI i1, sI i2, sI i3, sI (2 : Int32), sI r2, sI r6, sI r10, sR b69, .unset, .unset]) (hb hby at_77) rfl rfl ?_
   refine qg X114 hx 79 109 (hb hby at_79) (by decide) (by decide) ?_
   refine qa X114 hx (hb hby at_109) rfl rfl ?_
   exact k)
  obtain ⟨_, _, ⟨T133, L133, k133, n133⟩, -, Xq133, hSq133, hg133, ⟨Lc133, hQ133, l133, y133, z133, C133⟩, st133⟩ := callSS X114 hx (y := ym2) hown (mw hZ hw 12 rfl) (mw hZ hw 13 rfl) (mw hZ hw 14 rfl) (mw hZ hw 15 rfl) (by decide) (backOfSH (W := 0) (rm2 l Z a0 hw b69 b2115 ([r2, r6]) cs sv dg T114.heap n0 Z124 Sc (by simp) hS F120) hZ (hw _ (wi 15 rfl)) (hw _ (wi 14 rfl)) (by decide) (by decide) hEL R125.1) (g := (mkF m 111 #[sI i0, sI i1, sI i2, sI i3, sI (2 : Int32), sI r2, sI r6, sI r10, sR b69, .unset, .unset] [(.ref b69)])) rfl (by rw [hml]; rfl) (argsL := [(.ref b69)]) (rest := []) (lenOf pd_43 rfl) rfl (Nat.le_refl _) (hb hby at_111) (fun _ _ => ⟨rfl, rfl, (by decide : 4 + 47 ≤ _), (by decide : 80 + 1596 ≤ _)⟩)
  dsimp only [Pt.U, Pt.locs, Pt.cells, Pt.slots] at Xq133 l133 y133 z133 st133 hQ133 C133 hSq133 hg133
  subst l133 y133 z133
  obtain ⟨X133, hS133, hZ, hown⟩ := rebS hS0 (Nat.le_trans (Nat.le_trans (Nat.le_trans (Nat.le_trans (Nat.le_trans hk0 E69.1) E77.1) (Keep.of_wr W89).1) (Keep.of_wr W101).1) R116.1) Xq133 hSq133 hg133 hZ hown
  obtain ⟨a2134, b2135, rfl, N133q, R136, R137⟩ := hQ133
  have N133 := Fr.app N114 N133q
  have F138 : Old Z n0 T133.heap := F120.keep R136 all0
  have Z140 : n0 ≤ T133.heap.size := Nat.le_trans Z124 R136.1
  have E9 := R137.exa
  have sp0 := own_sp [] [r6] r2 0 (by simp [own_encs])
  obtain ⟨_, _, ⟨T147, L147, k147, n147⟩, -, X147, ⟨Lc147, hQ147, l147, y147, z147⟩, st147⟩ := Jvm.LawKit.callS X133 hx (y := ym32) hown (mw hZ hw 163 rfl) (mw hZ hw 164 rfl) (mw hZ hw 2 rfl) (mw hZ hw 165 rfl) (by decide) (backOf (W := 0) (rm32 l Z a0 hw a2134 r2 0 b2135 (own_encs [r2, r6]) cs sv dg T133.heap n0 Z140 R137 R3 sp0.1 sp0.2 hS F138) hZ (hw _ (wi 165 rfl)) (hw _ (wi 2 rfl)) (by decide) (by decide)) (g := (mkF m 131 #[sI i0, sI i1, sI i2, sI i3, sI (2 : Int32), sI r2, sI r6, sI r10, sR b69, sR a2134, sI (0 : Int32)] [(.int r2), (.int (0 : Int32)), (.ref a2134)])) rfl (by rw [hml]; rfl) (argsL := [(.ref a2134), (.int (0 : Int32)), (.int r2)]) (rest := []) (lenOf pd_45 rfl) rfl (Nat.le_refl _) (hb hby at_131) (fun _ _ => ⟨rfl, rfl, (by decide : 51 + 0 ≤ _), (by decide : 1676 + 0 ≤ _)⟩)
  dsimp only [Pt.U, Pt.locs, Pt.cells, Pt.slots] at X147 l147 y147 z147 st147 hQ147
  subst l147 y147 z147
  obtain ⟨rfl, N147q, R148⟩ := hQ147
  have N147 := Fr.app N133 N147q
  have sp1 := own_sp [r2] [] r6 (0 + (own_enc r2).length) (by simp [own_encs])
  obtain ⟨_, _, ⟨T152, L152, k152, n152⟩, -, X152, ⟨Lc152, hQ152, l152, y152, z152⟩, st152⟩ := Jvm.LawKit.callS X147 hx (y := ym32) hown (mw hZ hw 163 rfl) (mw hZ hw 164 rfl) (mw hZ hw 2 rfl) (mw hZ hw 165 rfl) (by decide) (backOf (W := 0) (rm32 l Z a0 hw a2134 r6 (0 + (own_enc r2).length) b2135 (own_encs [r2, r6]) cs sv dg T133.heap n0 Z140 R137 R7 sp1.1 sp1.2 hS F138) hZ (hw _ (wi 165 rfl)) (hw _ (wi 2 rfl)) (by decide) (by decide)) (g := (mkF m 148 #[sI i0, sI i1, sI i2, sI i3, sI (2 : Int32), sI r2, sI r6, sI r10, sR b69, sR a2134, sI (Int32.ofNat (0 + (own_enc r2).length))] [(.int r6), (.int (Int32.ofNat (0 + (own_enc r2).length))), (.ref a2134)])) rfl (by rw [hml]; rfl) (argsL := [(.ref a2134), (.int (Int32.ofNat (0 + (own_enc r2).length))), (.int r6)]) (rest := []) (lenOf pd_45 rfl) rfl (Nat.le_refl _) (hb hby at_148) (fun _ _ => ⟨rfl, R148, (by decide : 51 + 0 ≤ _), (by decide : 1676 + 0 ≤ _)⟩)
  dsimp only [Pt.U, Pt.locs, Pt.cells, Pt.slots] at X152 l152 y152 z152 st152 hQ152
  subst l152 y152 z152
  obtain ⟨rfl, N152q, R153⟩ := hQ152
  have N152 := Fr.app N147 N152q
  obtain ⟨cq154, kq154, q154a, q154b, q154c⟩ := isOf hZ R153 E9
  obtain ⟨_, _, ⟨T154, L154, k154, n154⟩, -, X154, ⟨Lc154, hQ154, l154, y154, z154⟩, st154⟩ := X152.virtualBack hx (y := ym3) (z := ym3) hown (mw hZ hw 97 rfl) (mw hZ hw 20 rfl) (notFace_of_selects (args := #[]) (mw hZ hw 22 rfl)) (mw hZ hw 22 rfl) (mw hZ hw 21 rfl) (by decide) (backOf (W := 1) (rm3_s l Z a0 hw a2134 b2135 (own_encs [r2, r6]) cs sv dg T133.heap n0 Z140 R137 hS F138) hZ (hw _ (wi 23 rfl)) (hw _ (wi 5 rfl)) (by decide) (by decide)) q154a q154c (g := (mkF m 174 #[sI i0, sI i1, sI i2, sI i3, sI (2 : Int32), sI r2, sI r6, sI r10, sR b69, sR a2134, sI (Int32.ofNat ((0 + (own_enc r2).length) + (own_enc r6).length))] [(.ref a2134), (.int (Int32.ofNat ((0 + (own_enc r2).length) + (own_enc r6).length)))])) rfl (by rw [hml]; rfl) (Steps.refl _) (argsL := []) (rest := [(.int (Int32.ofNat ((0 + (own_enc r2).length) + (own_enc r6).length)))]) (lenOf pd_28 rfl) rfl (Nat.le_refl _) (hb hby at_174) (fun _ _ => ⟨rfl, R153, (by decide : 51 + 0 ≤ _), (by decide : 1676 + 0 ≤ _)⟩)
  dsimp only [Pt.U, Pt.locs, Pt.cells, Pt.slots] at X154 l154 y154 z154 st154 hQ154
  subst l154 y154 z154
  obtain ⟨rfl, N154q, R155⟩ := hQ154
  have N154 := Fr.app N152 N154q
  have hc177_156 : (Int32.ofNat ((0 + (own_enc r2).length) + (own_enc r6).length)) = (Int32.ofNat (own_encs [r2, r6]).length) := own_ieq (by simp [own_encs, Nat.add_assoc])
  obtain ⟨fs, hrt, hrun, hended, hRE⟩ := X154.leaveW hS133 (by rw [R155]; exact (Nat.le_refl _)) (v := some (.int (1 : Int32))) (fun h => by rw [hR] at h; cases h)
  refine ⟨_, _, hPq _ <| P131 _ ?_, hrun, hended, _, _, rfl, ?_, hRE.1, hRE.2.1, hRE.2.2.1, hRE.2.2.2.mono (by decide) (by decide)⟩
  ·
   refine st133.trans ?_
   refine qt X133 hx (l' := #[sI i0, sI i1, sI i2, sI i3, sI (2 : Int32), sI r2, sI r6, sI r10, sR b69, sR a2134, .unset]) (hb hby at_114) rfl rfl ?_
   refine qc X133 hx (0 : Int32) (hb hby at_116) rfl ?_
   refine qs X133 hx (l' := #[sI i0, sI i1, sI i2, sI i3, sI (2 : Int32), sI r2, sI r6, sI r10, sR b69, sR a2134, sI (0 : Int32)]) (hb hby at_117) rfl ?_
   refine qi X133 hx (hb hby at_119) rfl ?_
   refine qc X133 hx (1 : Int32) (hb hby at_121) rfl ?_
   refine qmN X133 hx (hb hby at_122) (flt (by decide : ¬ ((2 : Int32) < (1 : Int32)))).1 ?_
   refine qa X133 hx (hb hby at_125) rfl rfl ?_
   refine qi X133 hx (hb hby at_127) rfl ?_
   refine qi X133 hx (hb hby at_129) rfl ?_
   refine st147 _ ?_
   refine qs X147 hx (l' := #[sI i0, sI i1, sI i2, sI i3, sI (2 : Int32), sI r2, sI r6, sI r10, sR b69, sR a2134, sI (Int32.ofNat (0 + (own_enc r2).length))]) (hb hby at_134) rfl ?_
   refine qi X147 hx (hb hby at_136) rfl ?_
   refine qc X147 hx (2 : Int32) (hb hby at_138) rfl ?_
   refine qmN X147 hx (hb hby at_139) (flt (by decide : ¬ ((2 : Int32) < (2 : Int32)))).1 ?_
   refine qa X147 hx (hb hby at_142) rfl rfl ?_
   refine qi X147 hx (hb hby at_144) rfl ?_
   refine qi X147 hx (hb hby at_146) rfl ?_
   refine st152 _ ?_
   refine qs X152 hx (l' := #[sI i0, sI i1, sI i2, sI i3, sI (2 : Int32), sI r2, sI r6, sI r10, sR b69, sR a2134, sI (Int32.ofNat ((0 + (own_enc r2).length) + (own_enc r6).length))]) (hb hby at_151) rfl ?_
   refine qi X152 hx (hb hby at_153) rfl ?_
   refine qc X152 hx (3 : Int32) (hb hby at_155) rfl ?_
   refine qmY X152 hx 156 170 (hb hby at_156) (tlt (by decide : (2 : Int32) < (3 : Int32))).1 (by decide) (by decide) ?_
   refine qi X152 hx (hb hby at_170) rfl ?_
   refine qa X152 hx (hb hby at_172) rfl rfl ?_
   refine st154.trans ?_
   refine qmN X154 hx (hb hby at_177) (teq hc177_156).2 ?_
   refine qc X154 hx (1 : Int32) (hb hby at_180) rfl ?_
   refine qg X154 hx 181 185 (hb hby at_181) (by decide) (by decide) ?_
   exact retN X154 hx (t := .boolean) hR (by simp) (hb hby at_185) hrt
  ·
   show Q0 Z i0 i1 i2 i3 cs sv dg h0 n0 _ T154.heap _
   rw [R155]
   exact ⟨rfl, N154⟩
 ·
  obtain ⟨T157, h157, X157, e157, E157, A157, D157, -, st157⟩ := newO X9 hx hZ hown (hw _ (wi 98 rfl)) (hw _ (wi 6 rfl)) (hw _ (wi 5 rfl)) R12 (g := (mkF m 82 #[sI i0, sI i1, sI i2, sI i3, sI (3 : Int32), sI r2, sI r6, sI r10, .unset, .unset, .unset] [])) rfl (hb hby at_82) (by decide) (by decide)
  obtain ⟨b157, g157⟩ : ∃ z, z = h0.size := ⟨_, rfl⟩
  rw [← g157] at A157 D157 st157
  have g_b157 : n0 ≤ b157 := Nat.le_trans Z0 (Nat.le_of_eq g157.symm)
  have sf158 : Safe Z consts_1 s.vm h0 b157 := Safe.new (Nat.le_of_eq g157.symm)
  have F159 : Old Z n0 h157 := HO.ext E157
  have Z160 : n0 ≤ h157.size := Nat.le_trans Z0 E157.1
  have R161 : CHr Z consts_1 s.vm h0 s.vm h157 := R0.trans (CHr.ext E157 R0.1)
  have sf162 : Safe Z consts_1 s.vm h157 b157 := Safe.ext E157 R0.1 sf158
  have F163 : fSv Z h157 b157 .null := D157 (Or.inr (hw _ (wi 8 rfl))) (ty := (.array .byte)) (by decide)
  have F164 : fSc Z h157 b157 (.int (0 : Int32)) := D157 (Or.inr (hw _ (wi 9 rfl))) (ty := .byte) (by decide)
  obtain ⟨T165, h165, k165, X165, e165, E165, A165, Y165, st165⟩ := newPE X157 hx hZ (hw _ (wi 99 rfl)) e157 (g := (mkF m 87 #[sI i0, sI i1, sI i2, sI i3, sI (3 : Int32), sI r2, sI r6, sI r10, .unset, .unset, .unset] [(.int (3 : Int32)), (.ref b157), (.ref b157)])) rfl (hb hby at_87) rfl (by decide) (cap := 3) (by decide) (by decide) (by decide) (by decide) (ad := "[C") (by decide)
  obtain ⟨b165, g165⟩ : ∃ z, z = h157.size := ⟨_, rfl⟩
  rw [← g165] at A165 st165 Y165
  have ne166 : b157 ≠ b165 := Nat.ne_of_lt (Nat.lt_of_lt_of_le A157.lt (Nat.le_of_eq g165.symm))
  have g_b165 : n0 ≤ b165 := Nat.le_trans Z160 (Nat.le_of_eq g165.symm)
  have sf167 : Safe Z consts_1 s.vm h157 b165 := Safe.new (Nat.le_of_eq g165.symm)
  have F168 : Old Z n0 h165 := F159.ext E165
  have F169 : eS Z h165 b157 := A157.ext E165
  have F170 : fSv Z h165 b157 .null := F163.ext E165
  have F171 : fSc Z h165 b157 (.int (0 : Int32)) := F164.ext E165
  have Z172 : n0 ≤ h165.size := Nat.le_trans Z160 E165.1
  have R173 : CHr Z consts_1 s.vm h0 s.vm h165 := R161.trans (CHr.ext E165 R161.1)
  have sf174 : Safe Z consts_1 s.vm h165 b157 := Safe.ext E165 R161.1 sf162
  have sf175 : Safe Z consts_1 s.vm h165 b165 := Safe.ext E165 R161.1 sf167
  have V165 : own_Af Z h165 b165 .char (3 : Int32) (fun _ => 0) := own_Af.new A165 (by decide) rfl
  obtain ⟨co176, Ao176, So176, Mo176, Bo176, Go176⟩ := V165.op
  obtain ⟨T177, h177, X177, e177, W177, st177⟩ := stC X165 hx hZ e165 Ao176 (j := (0 : Int32)) (inb_of So176 ⟨by decide, by decide⟩) (g := (mkF m 93 #[sI i0, sI i1, sI i2, sI i3, sI (3 : Int32), sI r2, sI r6, sI r10, .unset, .unset, .unset] [(.int r2), (.int (0 : Int32)), (.ref b165), (.ref b165), (.ref b157), (.ref b157)])) rfl rfl (hb hby at_93)
  have V177 : own_Af Z h177 b165 .char (3 : Int32) (own_sc (fun _ => (0 : Int32)) (0 : Int32) r2) := own_Af.set Ao176 So176 Mo176 Bo176 Go176 (fits_nar_char _) W177
  have F178 : Old Z n0 h177 := F168.wr W177 g_b165
  have F179 : eS Z h177 b157 := F169.wr W177
  have F180 : fSv Z h177 b157 .null := F170.other W177 (Or.inl ne166)
  have F181 : fSc Z h177 b157 (.int (0 : Int32)) := F171.other W177 (Or.inl ne166)
  have Z183 : n0 ≤ h177.size := Nat.le_trans Z172 (Keep.of_wr W177).1
  have N184 := Fr.snoc X177 N9 g_b165
  have R185 : CHr Z consts_1 s.vm h0 s.vm h177 := R173.trans (CHr.wr W177 sf175 R173.1)
  have sf186 : Safe Z consts_1 s.vm h177 b157 := Safe.wr W177 sf175 R173.1 sf174
  have sf187 : Safe Z consts_1 s.vm h177 b165 := Safe.wr W177 sf175 R173.1 sf175
  obtain ⟨co188, Ao188, So188, Mo188, Bo188, Go188⟩ := V177.op
  obtain ⟨T189, h189, X189, e189, W189, st189⟩ := stC X177 hx hZ e177 Ao188 (j := (1 : Int32)) (inb_of So188 ⟨by decide, by decide⟩) (g := (mkF m 98 #[sI i0, sI i1, sI i2, sI i3, sI (3 : Int32), sI r2, sI r6, sI r10, .unset, .unset, .unset] [(.int r6), (.int (1 : Int32)), (.ref b165), (.ref b165), (.ref b157), (.ref b157)])) rfl rfl (hb hby at_98)
  have V189 : own_Af Z h189 b165 .char (3 : Int32) (own_sc (own_sc (fun _ => (0 : Int32)) (0 : Int32) r2) (1 : Int32) r6) := own_Af.set Ao188 So188 Mo188 Bo188 Go188 (fits_nar_char _) W189
  have F190 : Old Z n0 h189 := F178.wr W189 g_b165
  have F191 : eS Z h189 b157 := F179.wr W189
  have F192 : fSv Z h189 b157 .null := F180.other W189 (Or.inl ne166)
  have F193 : fSc Z h189 b157 (.int (0 : Int32)) := F181.other W189 (Or.inl ne166)
  have Z195 : n0 ≤ h189.size := Nat.le_trans Z183 (Keep.of_wr W189).1
  have N196 := Fr.snoc X189 N184 g_b165
  have R197 : CHr Z consts_1 s.vm h0 s.vm h189 := R185.trans (CHr.wr W189 sf187 R185.1)
  have sf198 : Safe Z consts_1 s.vm h189 b157 := Safe.wr W189 sf187 R185.1 sf186
  have sf199 : Safe Z consts_1 s.vm h189 b165 := Safe.wr W189 sf187 R185.1 sf187
  obtain ⟨co200, Ao200, So200, Mo200, Bo200, Go200⟩ := V189.op
  obtain ⟨T201, h201, X201, e201, W201, st201⟩ := stC X189 hx hZ e189 Ao200 (j := (2 : Int32)) (inb_of So200 ⟨by decide, by decide⟩) (g := (mkF m 103 #[sI i0, sI i1, sI i2, sI i3, sI (3 : Int32), sI r2, sI r6, sI r10, .unset, .unset, .unset] [(.int r10), (.int (2 : Int32)), (.ref b165), (.ref b165), (.ref b157), (.ref b157)])) rfl rfl (hb hby at_103)
  have V201 : own_Af Z h201 b165 .char (3 : Int32) (own_sc (own_sc (own_sc (fun _ => (0 : Int32)) (0 : Int32) r2) (1 : Int32) r6) (2 : Int32) r10) := own_Af.set Ao200 So200 Mo200 Bo200 Go200 (fits_nar_char _) W201
  have F202 : Old Z n0 h201 := F190.wr W201 g_b165
  have F203 : eS Z h201 b157 := F191.wr W201
  have F204 : fSv Z h201 b157 .null := F192.other W201 (Or.inl ne166)
  have F205 : fSc Z h201 b157 (.int (0 : Int32)) := F193.other W201 (Or.inl ne166)
  have Z207 : n0 ≤ h201.size := Nat.le_trans Z195 (Keep.of_wr W201).1
  have N208 := Fr.snoc X201 N196 g_b165
  have R209 : CHr Z consts_1 s.vm h0 s.vm h201 := R197.trans (CHr.wr W201 sf199 R197.1)
  have sf210 : Safe Z consts_1 s.vm h201 b157 := Safe.wr W201 sf199 R197.1 sf198
  obtain ⟨ff, hff⟩ : ∃ z : Nat → Int32, z = (own_sc (own_sc (own_sc (fun _ => (0 : Int32)) (0 : Int32) r2) (1 : Int32) r6) (2 : Int32) r10) := ⟨_, rfl⟩
  have ef0 : ff 0 = r2 := by rw [hff]; exact own_nc _ R3
  have ef1 : ff 1 = r6 := by rw [hff]; exact own_nc _ R7
  have ef2 : ff 2 = r10 := by rw [hff]; exact own_nc _ R11
  have Vf : own_Af Z h201 b165 .char (Int32.ofNat 3) ff := by rw [hff]; exact V201
  obtain ⟨_, _, ⟨T215, L215, k215, n215⟩, -, X215, ⟨Lc215, hQ215, l215, y215, z215⟩, st215⟩ := X201.specialBack hx (y := ym16) rfl hown (mw hZ hw 100 rfl) (mw hZ hw 101 rfl) (mw hZ hw 102 rfl) (by decide) (backOf (W := 1) (rm16_3 l Z a0 hw b157 b165 ff cs sv dg h201 n0 Z207 Vf (by rw [ef0]; exact R3) (by rw [ef1]; exact R7) (by rw [ef2]; exact R11) F203 g_b157 F204 F205 ne166 hS F202) hZ (hw _ (wi 102 rfl)) (hw _ (wi 5 rfl)) (by decide) (by decide)) (g := (mkF m 104 #[sI i0, sI i1, sI i2, sI i3, sI (3 : Int32), sI r2, sI r6, sI r10, .unset, .unset, .unset] [(.ref b165), (.ref b157), (.ref b157)])) rfl (by rw [hml]; rfl) (Steps.refl _) (a := b157) (argsL := [(.ref b165)]) (rest := [(.ref b157)]) (lenOf pd_46 rfl) rfl (Nat.le_refl _) (hb hby at_104) (fun _ _ => ⟨rfl, e201, (by decide : 2 + 2 ≤ _), (by decide : 7 + 75 ≤ _)⟩)
  dsimp only [Pt.U, Pt.locs, Pt.cells, Pt.slots] at X215 l215 y215 z215 st215 hQ215
  subst l215 y215 z215
  obtain ⟨b2216, rfl, N215q, R217, R218, R219, R220⟩ := hQ215
  have N215 := Fr.app N208 N215q
  have F221 : Old Z n0 T215.heap := F202.keep R217 (allS g_b157 all0)
  have Z225 : n0 ≤ T215.heap.size := Nat.le_trans Z207 R217.1
  have R226 : CHr Z consts_1 s.vm h0 s.vm T215.heap := R209.trans (CHr.keep R217 (allS sf210 all0) R209.1)
  have Sc : own_Str Z T215.heap b157 b2216 [r2, r6, r10] := by have u := R220; rw [ef0, ef1, ef2] at u; exact u
  have P232 : ∀ t, Steps p.tables e below (T215.setTop (mkF m 111 #[sI i0, sI i1, sI i2, sI i3, sI (3 : Int32), sI r2, sI r6, sI r10, sR b157, .unset, .unset] [(.ref b157)])) t → Pq t := fun t k => P13 t (by
   rw [show (i0 &&& (3 : Int32)) = (3 : Int32) from hk]
   refine qi X9 hx (hb hby at_23) rfl ?_
   refine qfY X9 hx 25 35 (hb hby at_25) ((if0 _ _).trans (feq (by decide : ¬ ((3 : Int32) = (0 : Int32)))).2) (by decide) (by decide) ?_
   refine qi X9 hx (hb hby at_35) rfl ?_
   refine qc X9 hx (1 : Int32) (hb hby at_37) rfl ?_
   refine qmY X9 hx 38 51 (hb hby at_38) (feq (by decide : ¬ ((3 : Int32) = (1 : Int32)))).2 (by decide) (by decide) ?_
   refine qi X9 hx (hb hby at_51) rfl ?_
   refine qc X9 hx (2 : Int32) (hb hby at_53) rfl ?_
   refine qmY X9 hx 54 82 (hb hby at_54) (feq (by decide : ¬ ((3 : Int32) = (2 : Int32)))).2 (by decide) (by decide) ?_
   refine st157 _ ?_
   refine XS.dup X157.here hx rfl (hb hby at_85) rfl rfl ?_
   refine qc X157 hx (3 : Int32) (hb hby at_86) rfl ?_
   refine st165 _ ?_
   refine XS.dup X165.here hx rfl (hb hby at_89) rfl rfl ?_
   refine qc X165 hx (0 : Int32) (hb hby at_90) rfl ?_
   refine qi X165 hx (hb hby at_91) rfl ?_
   refine st177 _ ?_
   refine XS.dup X177.here hx rfl (hb hby at_94) rfl rfl ?_
   refine qc X177 hx (1 : Int32) (hb hby at_95) rfl ?_
   refine qi X177 hx (hb hby at_96) rfl ?_
   refine st189 _ ?_
   refine XS.dup X189.here hx rfl (hb hby at_99) rfl rfl ?_
   refine qc X189 hx (2 : Int32) (hb hby at_100) rfl ?_
   refine qi X189 hx (hb hby at_101) rfl ?_
   refine st201 _ ?_
   refine st215.trans ?_
   refine qt X215 hx (l' := #[sI i0, sI i1, sI i2, sI i3, sI (3 : Int32), sI r2, sI r6, sI r10, sR b157, .unset, .unset]) (hb hby at_107) rfl rfl ?_
   refine qa X215 hx (hb hby at_109) rfl rfl ?_
   exact k)
  obtain ⟨_, _, ⟨T234, L234, k234, n234⟩, -, Xq234, hSq234, hg234, ⟨Lc234, hQ234, l234, y234, z234, C234⟩, st234⟩ := callSS X215 hx (y := ym2) hown (mw hZ hw 12 rfl) (mw hZ hw 13 rfl) (mw hZ hw 14 rfl) (mw hZ hw 15 rfl) (by decide) (backOfSH (W := 0) (rm2 l Z a0 hw b157 b2216 ([r2, r6, r10]) cs sv dg T215.heap n0 Z225 Sc (by simp) hS F221) hZ (hw _ (wi 15 rfl)) (hw _ (wi 14 rfl)) (by decide) (by decide) hEL R226.1) (g := (mkF m 111 #[sI i0, sI i1, sI i2, sI i3, sI (3 : Int32), sI r2, sI r6, sI r10, sR b157, .unset, .unset] [(.ref b157)])) rfl (by rw [hml]; rfl) (argsL := [(.ref b157)]) (rest := []) (lenOf pd_43 rfl) rfl (Nat.le_refl _) (hb hby at_111) (fun _ _ => ⟨rfl, rfl, (by decide : 4 + 47 ≤ _), (by decide : 82 + 1596 ≤ _)⟩)
  dsimp only [Pt.U, Pt.locs, Pt.cells, Pt.slots] at Xq234 l234 y234 z234 st234 hQ234 C234 hSq234 hg234
  subst l234 y234 z234
  obtain ⟨X234, hS234, hZ, hown⟩ := rebS hS0 (Nat.le_trans (Nat.le_trans (Nat.le_trans (Nat.le_trans (Nat.le_trans (Nat.le_trans hk0 E157.1) E165.1) (Keep.of_wr W177).1) (Keep.of_wr W189).1) (Keep.of_wr W201).1) R217.1) Xq234 hSq234 hg234 hZ hown
  obtain ⟨a2235, b2236, rfl, N234q, R237, R238⟩ := hQ234
  have N234 := Fr.app N215 N234q
  have F239 : Old Z n0 T234.heap := F221.keep R237 all0
  have Z241 : n0 ≤ T234.heap.size := Nat.le_trans Z225 R237.1
  have E9 := R238.exa
  have sp0 := own_sp [] [r6, r10] r2 0 (by simp [own_encs])
  obtain ⟨_, _, ⟨T248, L248, k248, n248⟩, -, X248, ⟨Lc248, hQ248, l248, y248, z248⟩, st248⟩ := Jvm.LawKit.callS X234 hx (y := ym32) hown (mw hZ hw 163 rfl) (mw hZ hw 164 rfl) (mw hZ hw 2 rfl) (mw hZ hw 165 rfl) (by decide) (backOf (W := 0) (rm32 l Z a0 hw a2235 r2 0 b2236 (own_encs [r2, r6, r10]) cs sv dg T234.heap n0 Z241 R238 R3 sp0.1 sp0.2 hS F239) hZ (hw _ (wi 165 rfl)) (hw _ (wi 2 rfl)) (by decide) (by decide)) (g := (mkF m 131 #[sI i0, sI i1, sI i2, sI i3, sI (3 : Int32), sI r2, sI r6, sI r10, sR b157, sR a2235, sI (0 : Int32)] [(.int r2), (.int (0 : Int32)), (.ref a2235)])) rfl (by rw [hml]; rfl) (argsL := [(.ref a2235), (.int (0 : Int32)), (.int r2)]) (rest := []) (lenOf pd_45 rfl) rfl (Nat.le_refl _) (hb hby at_131) (fun _ _ => ⟨rfl, rfl, (by decide : 51 + 0 ≤ _), (by decide : 1678 + 0 ≤ _)⟩)
  dsimp only [Pt.U, Pt.locs, Pt.cells, Pt.slots] at X248 l248 y248 z248 st248 hQ248
  subst l248 y248 z248
  obtain ⟨rfl, N248q, R249⟩ := hQ248
  have N248 := Fr.app N234 N248q
  have sp1 := own_sp [r2] [r10] r6 (0 + (own_enc r2).length) (by simp [own_encs])
  obtain ⟨_, _, ⟨T253, L253, k253, n253⟩, -, X253, ⟨Lc253, hQ253, l253, y253, z253⟩, st253⟩ := Jvm.LawKit.callS X248 hx (y := ym32) hown (mw hZ hw 163 rfl) (mw hZ hw 164 rfl) (mw hZ hw 2 rfl) (mw hZ hw 165 rfl) (by decide) (backOf (W := 0) (rm32 l Z a0 hw a2235 r6 (0 + (own_enc r2).length) b2236 (own_encs [r2, r6, r10]) cs sv dg T234.heap n0 Z241 R238 R7 sp1.1 sp1.2 hS F239) hZ (hw _ (wi 165 rfl)) (hw _ (wi 2 rfl)) (by decide) (by decide)) (g := (mkF m 148 #[sI i0, sI i1, sI i2, sI i3, sI (3 : Int32), sI r2, sI r6, sI r10, sR b157, sR a2235, sI (Int32.ofNat (0 + (own_enc r2).length))] [(.int r6), (.int (Int32.ofNat (0 + (own_enc r2).length))), (.ref a2235)])) rfl (by rw [hml]; rfl) (argsL := [(.ref a2235), (.int (Int32.ofNat (0 + (own_enc r2).length))), (.int r6)]) (rest := []) (lenOf pd_45 rfl) rfl (Nat.le_refl _) (hb hby at_148) (fun _ _ => ⟨rfl, R249, (by decide : 51 + 0 ≤ _), (by decide : 1678 + 0 ≤ _)⟩)
  dsimp only [Pt.U, Pt.locs, Pt.cells, Pt.slots] at X253 l253 y253 z253 st253 hQ253
  subst l253 y253 z253
  obtain ⟨rfl, N253q, R254⟩ := hQ253
  have N253 := Fr.app N248 N253q
  have sp2 := own_sp [r2, r6] [] r10 ((0 + (own_enc r2).length) + (own_enc r6).length) (by simp [own_encs])
  obtain ⟨_, _, ⟨T258, L258, k258, n258⟩, -, X258, ⟨Lc258, hQ258, l258, y258, z258⟩, st258⟩ := Jvm.LawKit.callS X253 hx (y := ym32) hown (mw hZ hw 163 rfl) (mw hZ hw 164 rfl) (mw hZ hw 2 rfl) (mw hZ hw 165 rfl) (by decide) (backOf (W := 0) (rm32 l Z a0 hw a2235 r10 ((0 + (own_enc r2).length) + (own_enc r6).length) b2236 (own_encs [r2, r6, r10]) cs sv dg T234.heap n0 Z241 R238 R11 sp2.1 sp2.2 hS F239) hZ (hw _ (wi 165 rfl)) (hw _ (wi 2 rfl)) (by decide) (by decide)) (g := (mkF m 165 #[sI i0, sI i1, sI i2, sI i3, sI (3 : Int32), sI r2, sI r6, sI r10, sR b157, sR a2235, sI (Int32.ofNat ((0 + (own_enc r2).length) + (own_enc r6).length))] [(.int r10), (.int (Int32.ofNat ((0 + (own_enc r2).length) + (own_enc r6).length))), (.ref a2235)])) rfl (by rw [hml]; rfl) (argsL := [(.ref a2235), (.int (Int32.ofNat ((0 + (own_enc r2).length) + (own_enc r6).length))), (.int r10)]) (rest := []) (lenOf pd_45 rfl) rfl (Nat.le_refl _) (hb hby at_165) (fun _ _ => ⟨rfl, R254, (by decide : 51 + 0 ≤ _), (by decide : 1678 + 0 ≤ _)⟩)
  dsimp only [Pt.U, Pt.locs, Pt.cells, Pt.slots] at X258 l258 y258 z258 st258 hQ258
  subst l258 y258 z258
  obtain ⟨rfl, N258q, R259⟩ := hQ258
  have N258 := Fr.app N253 N258q
  obtain ⟨cq260, kq260, q260a, q260b, q260c⟩ := isOf hZ R259 E9
  obtain ⟨_, _, ⟨T260, L260, k260, n260⟩, -, X260, ⟨Lc260, hQ260, l260, y260, z260⟩, st260⟩ := X258.virtualBack hx (y := ym3) (z := ym3) hown (mw hZ hw 97 rfl) (mw hZ hw 20 rfl) (notFace_of_selects (args := #[]) (mw hZ hw 22 rfl)) (mw hZ hw 22 rfl) (mw hZ hw 21 rfl) (by decide) (backOf (W := 1) (rm3_s l Z a0 hw a2235 b2236 (own_encs [r2, r6, r10]) cs sv dg T234.heap n0 Z241 R238 hS F239) hZ (hw _ (wi 23 rfl)) (hw _ (wi 5 rfl)) (by decide) (by decide)) q260a q260c (g := (mkF m 174 #[sI i0, sI i1, sI i2, sI i3, sI (3 : Int32), sI r2, sI r6, sI r10, sR b157, sR a2235, sI (Int32.ofNat (((0 + (own_enc r2).length) + (own_enc r6).length) + (own_enc r10).length))] [(.ref a2235), (.int (Int32.ofNat (((0 + (own_enc r2).length) + (own_enc r6).length) + (own_enc r10).length)))])) rfl (by rw [hml]; rfl) (Steps.refl _) (argsL := []) (rest := [(.int (Int32.ofNat (((0 + (own_enc r2).length) + (own_enc r6).length) + (own_enc r10).length)))]) (lenOf pd_28 rfl) rfl (Nat.le_refl _) (hb hby at_174) (fun _ _ => ⟨rfl, R259, (by decide : 51 + 0 ≤ _), (by decide : 1678 + 0 ≤ _)⟩)
  dsimp only [Pt.U, Pt.locs, Pt.cells, Pt.slots] at X260 l260 y260 z260 st260 hQ260
  subst l260 y260 z260
  obtain ⟨rfl, N260q, R261⟩ := hQ260
  have N260 := Fr.app N258 N260q
  have hc177_262 : (Int32.ofNat (((0 + (own_enc r2).length) + (own_enc r6).length) + (own_enc r10).length)) = (Int32.ofNat (own_encs [r2, r6, r10]).length) := own_ieq (by simp [own_encs, Nat.add_assoc])
  obtain ⟨fs, hrt, hrun, hended, hRE⟩ := X260.leaveW hS234 (by rw [R261]; exact (Nat.le_refl _)) (v := some (.int (1 : Int32))) (fun h => by rw [hR] at h; cases h)
  refine ⟨_, _, hPq _ <| P232 _ ?_, hrun, hended, _, _, rfl, ?_, hRE.1, hRE.2.1, hRE.2.2.1, hRE.2.2.2.mono (by decide) (by decide)⟩
  ·
   refine st234.trans ?_
   refine qt X234 hx (l' := #[sI i0, sI i1, sI i2, sI i3, sI (3 : Int32), sI r2, sI r6, sI r10, sR b157, sR a2235, .unset]) (hb hby at_114) rfl rfl ?_
   refine qc X234 hx (0 : Int32) (hb hby at_116) rfl ?_
   refine qs X234 hx (l' := #[sI i0, sI i1, sI i2, sI i3, sI (3 : Int32), sI r2, sI r6, sI r10, sR b157, sR a2235, sI (0 : Int32)]) (hb hby at_117) rfl ?_
   refine qi X234 hx (hb hby at_119) rfl ?_
   refine qc X234 hx (1 : Int32) (hb hby at_121) rfl ?_
   refine qmN X234 hx (hb hby at_122) (flt (by decide : ¬ ((3 : Int32) < (1 : Int32)))).1 ?_
   refine qa X234 hx (hb hby at_125) rfl rfl ?_
   refine qi X234 hx (hb hby at_127) rfl ?_
   refine qi X234 hx (hb hby at_129) rfl ?_
   refine st248 _ ?_
   refine qs X248 hx (l' := #[sI i0, sI i1, sI i2, sI i3, sI (3 : Int32), sI r2, sI r6, sI r10, sR b157, sR a2235, sI (Int32.ofNat (0 + (own_enc r2).length))]) (hb hby at_134) rfl ?_
   refine qi X248 hx (hb hby at_136) rfl ?_
   refine qc X248 hx (2 : Int32) (hb hby at_138) rfl ?_
   refine qmN X248 hx (hb hby at_139) (flt (by decide : ¬ ((3 : Int32) < (2 : Int32)))).1 ?_
   refine qa X248 hx (hb hby at_142) rfl rfl ?_
   refine qi X248 hx (hb hby at_144) rfl ?_
   refine qi X248 hx (hb hby at_146) rfl ?_
   refine st253 _ ?_
   refine qs X253 hx (l' := #[sI i0, sI i1, sI i2, sI i3, sI (3 : Int32), sI r2, sI r6, sI r10, sR b157, sR a2235, sI (Int32.ofNat ((0 + (own_enc r2).length) + (own_enc r6).length))]) (hb hby at_151) rfl ?_
   refine qi X253 hx (hb hby at_153) rfl ?_
   refine qc X253 hx (3 : Int32) (hb hby at_155) rfl ?_
   refine qmN X253 hx (hb hby at_156) (flt (by decide : ¬ ((3 : Int32) < (3 : Int32)))).1 ?_
   refine qa X253 hx (hb hby at_159) rfl rfl ?_
   refine qi X253 hx (hb hby at_161) rfl ?_
   refine qi X253 hx (hb hby at_163) rfl ?_
   refine st258 _ ?_
   refine qs X258 hx (l' := #[sI i0, sI i1, sI i2, sI i3, sI (3 : Int32), sI r2, sI r6, sI r10, sR b157, sR a2235, sI (Int32.ofNat (((0 + (own_enc r2).length) + (own_enc r6).length) + (own_enc r10).length))]) (hb hby at_168) rfl ?_
   refine qi X258 hx (hb hby at_170) rfl ?_
   refine qa X258 hx (hb hby at_172) rfl rfl ?_
   refine st260.trans ?_
   refine qmN X260 hx (hb hby at_177) (teq hc177_262).2 ?_
   refine qc X260 hx (1 : Int32) (hb hby at_180) rfl ?_
   refine qg X260 hx 181 185 (hb hby at_181) (by decide) (by decide) ?_
   exact retN X260 hx (t := .boolean) hR (by simp) (hb hby at_185) hrt
  ·
   show Q0 Z i0 i1 i2 i3 cs sv dg h0 n0 _ T260.heap _
   rw [R261]
   exact ⟨rfl, N260⟩
theorem own_len {args : Array Value} {s : State} {t : Term} {aA : Addr} {cl : Cell} {ty : FieldType} (ev : t.eval args s none [] s = some (.ref aA)) (A : Arr s s.heap aA cl ty) (h : (Jvm.Cond.eq (Jvm.Term.length t) (Jvm.Term.int (36 : Int32))).value args s none s [] = some true) : cl.slots.size = (36 : Int32).toNatClampNeg := by
  have hA := Arr.fin (State.Warmed39.refl s).alike A
  by_cases hl : cl.slots.size < 2 ^ 31
  · have e := len_f (args := args) (first := s) (o := none) (idx := []) ev hA hl
    have q : some (decide (cl.slots.size.toInt32 = (36 : Int32))) = some true := (Cond.eq_ints e (Term.int_eval 36)).symm.trans h
    have q2 : cl.slots.size.toInt32 = (36 : Int32) := by simpa using q
    have q3 : cl.slots.size.toInt32.toInt = 36 := by rw [q2]; rfl
    have q4 : cl.slots.size.toInt32.toInt = (cl.slots.size : Int) := Int32.toInt_ofNat_of_lt hl
    show cl.slots.size = 36
    omega
  · exfalso
    simp [Cond.value, Term.eval, ev, hA, hl] at h
theorem own_steq {args : Array Value} {s : State} {t : Term} {z : Int32} (h : (Jvm.Cond.eq t (Jvm.Term.int z)).value args s none s [] = some true) : t.eval args s none [] s = some (.int z) := by
  cases e : t.eval args s none [] s with
  | none => simp [Cond.value, e] at h
  | some v =>
    cases v with
    | int y =>
      have q := (Cond.eq_ints e (Term.int_eval z)).symm.trans h
      have q2 : y = z := by simpa using q
      rw [q2]
    | _ => simp [Cond.value, Term.eval, e] at h
theorem own_elemI {args : Array Value} {s : State} {t : Term} {aA : Addr} {cl : Cell} {ty : FieldType} {j z : Int32} (ev : t.eval args s none [] s = some (.ref aA)) (A : Arr s s.heap aA cl ty) (h : (Jvm.Cond.eq (Jvm.Term.elem t (Jvm.Term.int j)) (Jvm.Term.int z)).value args s none s [] = some true) (hj : ¬ j < 0) : cl.slots[j.toNatClampNeg]? = some (.int z) := by
  have e := elem_f (t := t) (a := Jvm.Term.int j) (first := s) (o := none) (idx := []) (s := s) (args := args) ev (Term.int_eval j) (Arr.fin (State.Warmed39.refl s).alike A) hj
  exact e.symm.trans (own_steq h)
theorem own_fit36 : ∀ i, i < 36 → fits .char (.int (own_hx i)) = true := by decide
set_option maxRecDepth 65536 in
set_option maxHeartbeats 40000000 in
theorem comes_1 {Post : Tables → Env → Array Value → State → Outcome → State → Prop} (hpost : ∀ tb e args s v u, (limb_1_1.after args s (.returned v) u = true ∧ limb_1_2.after args s (.returned v) u = true ∧ True) → Jvm.D.FramedW s (.returned v) u (Jvm.fieldLocs frame_1_writes args s ++ Jvm.arrayLocs frame_1_arrays args s ++ Jvm.staticLocs frame_1_statics s) 64 4480 → Post tb e args s (.returned v) u) :
    ArmFor flags0 classFile x code maxLocals ret World_1 tables_1 room_1 Calls_1 rest_1 Pre_1 Post := by
  intro l hfl _ _ p e ha hc hk s m args below hf hA hF happ hP
  obtain ⟨hcalls, hrest, hpre⟩ := hP
  obtain ⟨-, -, -, hnamed, -, -, -, hat⟩ := (Spec.applies_iff hf).mp happ
  obtain ⟨hg, hn⟩ := and_e (Cond.before_iff.mp (show (Jvm.Cond.and given_1 narrow_1).before args s = true from hpre))
  obtain ⟨hcount, hg0⟩ := and_e hg
  obtain ⟨ha0, hg1⟩ := and_e hg0
  obtain ⟨ha1, hg2⟩ := and_e hg1
  obtain ⟨ha2, hg3⟩ := and_e hg2
  obtain ⟨w0, w1, w2, w3, rfl⟩ : ∃ w0 w1 w2 w3 : Value, args = #[w0, w1, w2, w3] := by
    have hs : args.size = 4 := by simpa [Cond.value, given_1] using hcount
    obtain ⟨L⟩ := args
    match L, hs with
    | [w0, w1, w2, w3], _ => exact ⟨w0, w1, w2, w3, rfl⟩
  have hw := fun d (hd : d ∈ tables_1) => atoms_spec (ws := Jvm.Cond.code x code maxLocals ret :: tables_1) hat d (List.mem_cons_of_mem _ hd)
  have hfit : Fit s := fun {y c} hc i hi => by
    obtain ⟨ha, rfl⟩ := Array.getElem?_eq_some_iff.mp hc
    have q := List.all_eq_true.mp ((Array.all_eq_true_iff_forall_mem.mp hF) _ (Array.getElem_mem ha)) i (List.mem_range.mpr hi)
    simpa [Array.getElem?_eq_getElem hi] using q
  obtain ⟨hsets, hown0⟩ := atoms_of _ (rest_1_c_eq ▸ (show rest_1_c.before _ s = true from hrest))
  have hr0 := Cond.before_iff.mp hown0
  obtain ⟨i0, ei0⟩ := is_v ha0
  obtain rfl : w0 = (.int i0) := Option.some.inj ei0
  obtain ⟨i1, ei1⟩ := is_v ha1
  obtain rfl : w1 = (.int i1) := Option.some.inj ei1
  obtain ⟨i2, ei2⟩ := is_v ha2
  obtain rfl : w2 = (.int i2) := Option.some.inj ei2
  obtain ⟨i3, ei3⟩ := is_v hg3
  obtain rfl : w3 = (.int i3) := Option.some.inj ei3
  obtain ⟨wc, ewc⟩ := is_v (Cond.before_iff.mp (hsets _ (List.mem_of_getElem? (i := 1) rfl)))
  have n5 := not_v (Cond.before_iff.mp (hsets _ (List.mem_of_getElem? (i := 2) rfl)))
  have S0 : Sta s s.heap "java/lang/String" "COMPACT_STRINGS" "Z" (.int wc) := Sta.start ewc (Or.inl (hsets _ (List.mem_of_getElem? (i := 0) rfl)))
  have hwc : ¬ (wc = (0 : Int32)) := gotF (Cond.eq_ints ewc (Term.int_eval (0))) n5
  obtain ⟨sv, esv, rsv⟩ := isR_v (Cond.before_iff.mp (hsets _ (List.mem_of_getElem? (i := 8) rfl)))
  have S1 : Sta s s.heap "jdk/internal/util/Preconditions" "SIOOBE_FORMATTER" "Ljava/util/function/BiFunction;" sv := Sta.start esv (Or.inl (hsets _ (List.mem_of_getElem? (i := 7) rfl)))
  have S2 : Sta s s.heap "java/lang/StringUTF16" "$assertionsDisabled" "Z" (.int (1 : Int32)) := Sta.start (own_steq (Cond.before_iff.mp (hsets _ (List.mem_of_getElem? (i := 12) rfl)))) (Or.inl (hsets _ (List.mem_of_getElem? (i := 11) rfl)))
  have S3 : Sta s s.heap "java/lang/StringUTF16" "HI_BYTE_SHIFT" "I" (.int (0 : Int32)) := Sta.start (own_steq (Cond.before_iff.mp (hsets _ (List.mem_of_getElem? (i := 15) rfl)))) (Or.inl (hsets _ (List.mem_of_getElem? (i := 14) rfl)))
  have S4 : Sta s s.heap "java/lang/StringUTF16" "LO_BYTE_SHIFT" "I" (.int (8 : Int32)) := Sta.start (own_steq (Cond.before_iff.mp (hsets _ (List.mem_of_getElem? (i := 18) rfl)))) (Or.inl (hsets _ (List.mem_of_getElem? (i := 17) rfl)))
  obtain ⟨dg, edg⟩ := arr_v (Cond.before_iff.mp (hsets _ (List.mem_of_getElem? (i := 21) rfl)))
  obtain ⟨cl, Ar⟩ := Arr.start edg (Cond.before_iff.mp (hsets _ (List.mem_of_getElem? (i := 21) rfl)))
  have S5 : Sta s s.heap "java/lang/Integer" "digits" "[C" (.ref dg) := Sta.start edg (Or.inl (hsets _ (List.mem_of_getElem? (i := 20) rfl)))
  have hsz : cl.slots.size = (36 : Int32).toNatClampNeg := own_len edg Ar (Cond.before_iff.mp (hsets _ (List.mem_of_getElem? (i := 23) rfl)))
  have Dg : own_Af s s.heap dg .char (Int32.ofNat 36) own_hx := by
    refine own_Af.of Ar hsz (by decide) (fun i hi => ?_) (fun i hi => own_fit36 i (by rw [hsz] at hi; exact hi))
    have hi : i < 36 := by rw [hsz] at hi; exact hi
    match i, hi with
    | 0, _ => exact own_elemI (j := (0 : Int32)) edg Ar (Cond.before_iff.mp (hsets _ (List.mem_of_getElem? (i := 24) rfl))) (by decide)
    | 1, _ => exact own_elemI (j := (1 : Int32)) edg Ar (Cond.before_iff.mp (hsets _ (List.mem_of_getElem? (i := 25) rfl))) (by decide)
    | 2, _ => exact own_elemI (j := (2 : Int32)) edg Ar (Cond.before_iff.mp (hsets _ (List.mem_of_getElem? (i := 26) rfl))) (by decide)
    | 3, _ => exact own_elemI (j := (3 : Int32)) edg Ar (Cond.before_iff.mp (hsets _ (List.mem_of_getElem? (i := 27) rfl))) (by decide)
    | 4, _ => exact own_elemI (j := (4 : Int32)) edg Ar (Cond.before_iff.mp (hsets _ (List.mem_of_getElem? (i := 28) rfl))) (by decide)
    | 5, _ => exact own_elemI (j := (5 : Int32)) edg Ar (Cond.before_iff.mp (hsets _ (List.mem_of_getElem? (i := 29) rfl))) (by decide)
    | 6, _ => exact own_elemI (j := (6 : Int32)) edg Ar (Cond.before_iff.mp (hsets _ (List.mem_of_getElem? (i := 30) rfl))) (by decide)
    | 7, _ => exact own_elemI (j := (7 : Int32)) edg Ar (Cond.before_iff.mp (hsets _ (List.mem_of_getElem? (i := 31) rfl))) (by decide)
    | 8, _ => exact own_elemI (j := (8 : Int32)) edg Ar (Cond.before_iff.mp (hsets _ (List.mem_of_getElem? (i := 32) rfl))) (by decide)
    | 9, _ => exact own_elemI (j := (9 : Int32)) edg Ar (Cond.before_iff.mp (hsets _ (List.mem_of_getElem? (i := 33) rfl))) (by decide)
    | 10, _ => exact own_elemI (j := (10 : Int32)) edg Ar (Cond.before_iff.mp (hsets _ (List.mem_of_getElem? (i := 34) rfl))) (by decide)
    | 11, _ => exact own_elemI (j := (11 : Int32)) edg Ar (Cond.before_iff.mp (hsets _ (List.mem_of_getElem? (i := 35) rfl))) (by decide)
    | 12, _ => exact own_elemI (j := (12 : Int32)) edg Ar (Cond.before_iff.mp (hsets _ (List.mem_of_getElem? (i := 36) rfl))) (by decide)
    | 13, _ => exact own_elemI (j := (13 : Int32)) edg Ar (Cond.before_iff.mp (hsets _ (List.mem_of_getElem? (i := 37) rfl))) (by decide)
    | 14, _ => exact own_elemI (j := (14 : Int32)) edg Ar (Cond.before_iff.mp (hsets _ (List.mem_of_getElem? (i := 38) rfl))) (by decide)
    | 15, _ => exact own_elemI (j := (15 : Int32)) edg Ar (Cond.before_iff.mp (hsets _ (List.mem_of_getElem? (i := 39) rfl))) (by decide)
    | 16, _ => exact own_elemI (j := (16 : Int32)) edg Ar (Cond.before_iff.mp (hsets _ (List.mem_of_getElem? (i := 40) rfl))) (by decide)
    | 17, _ => exact own_elemI (j := (17 : Int32)) edg Ar (Cond.before_iff.mp (hsets _ (List.mem_of_getElem? (i := 41) rfl))) (by decide)
    | 18, _ => exact own_elemI (j := (18 : Int32)) edg Ar (Cond.before_iff.mp (hsets _ (List.mem_of_getElem? (i := 42) rfl))) (by decide)
    | 19, _ => exact own_elemI (j := (19 : Int32)) edg Ar (Cond.before_iff.mp (hsets _ (List.mem_of_getElem? (i := 43) rfl))) (by decide)
    | 20, _ => exact own_elemI (j := (20 : Int32)) edg Ar (Cond.before_iff.mp (hsets _ (List.mem_of_getElem? (i := 44) rfl))) (by decide)
    | 21, _ => exact own_elemI (j := (21 : Int32)) edg Ar (Cond.before_iff.mp (hsets _ (List.mem_of_getElem? (i := 45) rfl))) (by decide)
    | 22, _ => exact own_elemI (j := (22 : Int32)) edg Ar (Cond.before_iff.mp (hsets _ (List.mem_of_getElem? (i := 46) rfl))) (by decide)
    | 23, _ => exact own_elemI (j := (23 : Int32)) edg Ar (Cond.before_iff.mp (hsets _ (List.mem_of_getElem? (i := 47) rfl))) (by decide)
    | 24, _ => exact own_elemI (j := (24 : Int32)) edg Ar (Cond.before_iff.mp (hsets _ (List.mem_of_getElem? (i := 48) rfl))) (by decide)
    | 25, _ => exact own_elemI (j := (25 : Int32)) edg Ar (Cond.before_iff.mp (hsets _ (List.mem_of_getElem? (i := 49) rfl))) (by decide)
    | 26, _ => exact own_elemI (j := (26 : Int32)) edg Ar (Cond.before_iff.mp (hsets _ (List.mem_of_getElem? (i := 50) rfl))) (by decide)
    | 27, _ => exact own_elemI (j := (27 : Int32)) edg Ar (Cond.before_iff.mp (hsets _ (List.mem_of_getElem? (i := 51) rfl))) (by decide)
    | 28, _ => exact own_elemI (j := (28 : Int32)) edg Ar (Cond.before_iff.mp (hsets _ (List.mem_of_getElem? (i := 52) rfl))) (by decide)
    | 29, _ => exact own_elemI (j := (29 : Int32)) edg Ar (Cond.before_iff.mp (hsets _ (List.mem_of_getElem? (i := 53) rfl))) (by decide)
    | 30, _ => exact own_elemI (j := (30 : Int32)) edg Ar (Cond.before_iff.mp (hsets _ (List.mem_of_getElem? (i := 54) rfl))) (by decide)
    | 31, _ => exact own_elemI (j := (31 : Int32)) edg Ar (Cond.before_iff.mp (hsets _ (List.mem_of_getElem? (i := 55) rfl))) (by decide)
    | 32, _ => exact own_elemI (j := (32 : Int32)) edg Ar (Cond.before_iff.mp (hsets _ (List.mem_of_getElem? (i := 56) rfl))) (by decide)
    | 33, _ => exact own_elemI (j := (33 : Int32)) edg Ar (Cond.before_iff.mp (hsets _ (List.mem_of_getElem? (i := 57) rfl))) (by decide)
    | 34, _ => exact own_elemI (j := (34 : Int32)) edg Ar (Cond.before_iff.mp (hsets _ (List.mem_of_getElem? (i := 58) rfl))) (by decide)
    | 35, _ => exact own_elemI (j := (35 : Int32)) edg Ar (Cond.before_iff.mp (hsets _ (List.mem_of_getElem? (i := 59) rfl))) (by decide)
    | i + 36, hi => exact absurd hi (by omega)
  have hS : own_ST s wc sv dg := ⟨⟨S0, hwc⟩, ⟨S1, ref_cases rsv⟩, S2, S3, S4, S5, Dg⟩
  have hC : CHv s consts_1 s.vm s.heap := CHv.start (own_EW hw) (fun p hp => hcalls.1 p hp) (show Jvm.Lit.compactW.before #[.int i0, .int i1, .int i2, .int i3] s = true from (hsets _ (List.mem_of_getElem? (i := 2) rfl))) (hw _ (List.mem_of_getElem? (i := 7) rfl)) (hw _ (List.mem_of_getElem? (i := 6) rfl))
  obtain ⟨n, o, h1, h2, h3, _, L, rfl, ⟨rfl, N⟩, hq⟩ := rm0 l s _ hw tables_1 i0 i1 i2 i3 wc sv dg s.heap s.heap.size (Nat.le_refl _) hS (Old.start s) p e ha hc hk s m _ below hf ((Spec.applies_iff_loose hf).mp happ).1 ⟨rfl, State.Warmed39.refl s, rfl, hC⟩ trivial
  exact ⟨n, _, h1, h2, h3, hpost _ _ _ _ _ _ ⟨Cond.after_iff.mpr rfl, Cond.after_iff.mpr (eq_i res_at (Term.int_eval (1)) rfl), trivial⟩ ⟨hq.1, hq.2.1, hq.2.2.1, (hq.2.2.2.sift fun y hy => Or.inr (N y hy)).mono (by decide) (by decide)⟩⟩
theorem main_1_1 : Claimed_1_1 := comes_1 fun _ _ _ _ _ _ h hF => ⟨h.1, hF⟩
theorem main_1_2 : Claimed_1_2 := comes_1 fun _ _ _ _ _ _ h hF => ⟨h.2.1, hF⟩
end Jvm.Pilot.@@N@@
namespace Jvm.Pilot.@@N@@
open Jvm Jvm.ClassFile Sem Op Lib Jvm.Free Jvm.Stand Jvm.Pilot.@@N@@.Jvm.D
/-! MADE BY PROGRAM (witnessworld.py) out of the Statement's table words and the real class files: 29 classes; the members and pool entries that the words name. The judged class is class 1, her method 1. -/
namespace start1
open Jvm.ClassFile
def u (s : String) : CpInfo := .utf8 (stringToUtf16 s)
/-- a pool by its gaps: so many unusable entries, then the entry; so many at the end -/
def gap : Nat → List CpInfo → List CpInfo
  | 0, r => r
  | n + 1, r => .unusable :: gap n r
def poolList (es : List (Nat × CpInfo)) (last : Nat) : List CpInfo := es.foldr (fun e r => gap e.1 (e.2 :: r)) (gap last [])
def pool (es : List (Nat × CpInfo)) (last : Nat) : Array CpInfo := ⟨poolList es last⟩
def fileOf (pool : Array CpInfo) (this : Nat) (attrs : Array Attribute := #[]) (ms : Array MethodInfo := #[]) (fl : Nat := 33) (sup : Nat := 0) (ifs : Array Nat := #[]) (fds : Array FieldInfo := #[]) : ClassFile where
  minorVersion := 0
  majorVersion := 65
  constantPool := pool
  accessFlags := fl
  thisClass := this
  superClass := sup
  interfaces := ifs
  fields := fds
  methods := ms
  attributes := attrs
def plain (name : String) (sup : Option ClassId) : Class where
  name := name
  kind := .ordinary
  loader := none
  accessFlags := 33
  super := sup
  interfaces := #[]
  cf := none
  fields := #[]
  methods := #[]
  instanceTypes := #[]
  staticTypes := #[]
  resolved := #[]
  callSites := []
  init := .initialized
  statics := none
  mirror := none

def pool0 : Array CpInfo := pool [(5, u "<init>"), (0, u "()V"), (1, .class_ 10), (1, u "java/lang/Object"), (85, u "clone"), (0, u "()Ljava/lang/Object;")] 26

def k0c0 : Code := { maxStack := 0, maxLocals := 1, code := object_method_1_code, exceptionTable := #[], attributes := #[] }
def k0m0 : Method := { name := "<init>", desc := "()V", sig := { parameters := [], returnType := none }, accessFlags := 1, code := some k0c0 }
def k0m1 : Method := { name := "clone", desc := "()Ljava/lang/Object;", sig := { parameters := [], returnType := some (.object "java/lang/Object") }, accessFlags := 260, code := none }
/-- java/lang/Object -/
def k0 : Class := { plain "java/lang/Object" none with
  accessFlags := 33
  interfaces := #[]
  cf := some (fileOf pool0 8 #[] #[{ accessFlags := 1, nameIndex := 5, descriptorIndex := 6, attributes := #[] }, { accessFlags := 260, nameIndex := 96, descriptorIndex := 97, attributes := #[] }] 33 0 #[] #[])
  fields := #[]
  methods := #[k0m0, k0m1]
  instanceTypes := #[]
  staticTypes := #[]
  resolved := Array.replicate 124 none
  statics := none }

def pool1 : Array CpInfo := pool [(2, .class_ 4), (1, u "java/lang/Object"), (0, u "<init>"), (0, u "()V"), (0, .methodref 8 9), (0, .class_ 10), (0, .nameAndType 11 12), (0, u "com/example/motes_to_bounds/motestobounds/io/TextReportPrintablePinLaw"), (0, u "draw"), (0, u "(I)C"), (0, .string 14), (0, u ""), (0, .methodref 16 17), (0, .class_ 18), (0, .nameAndType 19 20), (0, u "java/lang/String"), (0, u "valueOf"), (0, u "(C)Ljava/lang/String;"), (0, .methodref 16 22), (0, .nameAndType 5 23), (0, u "([C)V"), (0, .methodref 25 26), (0, .class_ 27), (0, .nameAndType 28 29), (0, u "com/example/motes_to_bounds/motestobounds/io/TextReport"), (0, u "printable"), (0, u "(Ljava/lang/String;)Ljava/lang/String;"), (0, .methodref 8 31), (0, .nameAndType 32 33), (0, u "step"), (0, u "(Ljava/lang/String;IC)I"), (0, .methodref 16 35), (0, .nameAndType 36 37), (0, u "length"), (0, u "()I"), (0, .methodref 8 39), (0, .nameAndType 40 41), (0, u "escaped"), (0, u "(C)Z"), (0, .methodref 16 43), (0, .nameAndType 44 12), (0, u "charAt"), (0, .methodref 8 46), (0, .nameAndType 47 12), (0, u "hex"), (2, u "law"), (0, u "(IIII)Z")] 3

def k1m0 : Method := { name := "<init>", desc := "()V", sig := { parameters := [], returnType := none }, accessFlags := 1, code := none }
def k1c1 : Code := { maxStack := 6, maxLocals := 11, code := code, exceptionTable := #[], attributes := #[] }
def k1m1 : Method := { name := "law", desc := "(IIII)Z", sig := { parameters := [.int, .int, .int, .int], returnType := some .boolean }, accessFlags := 9, code := some k1c1 }
def k1c2 : Code := { maxStack := 3, maxLocals := 3, code := method_3_code, exceptionTable := #[], attributes := #[] }
def k1m2 : Method := { name := "draw", desc := "(I)C", sig := { parameters := [.int], returnType := some .char }, accessFlags := 10, code := some k1c2 }
def k1c3 : Code := { maxStack := 2, maxLocals := 1, code := method_4_code, exceptionTable := #[], attributes := #[] }
def k1m3 : Method := { name := "escaped", desc := "(C)Z", sig := { parameters := [.char], returnType := some .boolean }, accessFlags := 10, code := some k1c3 }
def k1c4 : Code := { maxStack := 2, maxLocals := 1, code := method_5_code, exceptionTable := #[], attributes := #[] }
def k1m4 : Method := { name := "hex", desc := "(I)C", sig := { parameters := [.int], returnType := some .char }, accessFlags := 10, code := some k1c4 }
def k1c5 : Code := { maxStack := 3, maxLocals := 5, code := method_6_code, exceptionTable := #[], attributes := #[] }
def k1m5 : Method := { name := "step", desc := "(Ljava/lang/String;IC)I", sig := { parameters := [(.object "java/lang/String"), .int, .char], returnType := some .int }, accessFlags := 10, code := some k1c5 }
/-- com/example/motes_to_bounds/motestobounds/io/TextReportPrintablePinLaw -/
def k1 : Class := { plain "com/example/motes_to_bounds/motestobounds/io/TextReportPrintablePinLaw" (some 0) with
  accessFlags := 49
  interfaces := #[]
  cf := some (fileOf pool1 8 #[] #[{ accessFlags := 1, nameIndex := 5, descriptorIndex := 6, attributes := #[] }, { accessFlags := 9, nameIndex := 50, descriptorIndex := 51, attributes := #[] }, { accessFlags := 10, nameIndex := 11, descriptorIndex := 12, attributes := #[] }, { accessFlags := 10, nameIndex := 40, descriptorIndex := 41, attributes := #[] }, { accessFlags := 10, nameIndex := 47, descriptorIndex := 12, attributes := #[] }, { accessFlags := 10, nameIndex := 32, descriptorIndex := 33, attributes := #[] }] 49 2 #[] #[])
  fields := #[]
  methods := #[k1m0, k1m1, k1m2, k1m3, k1m4, k1m5]
  instanceTypes := #[]
  staticTypes := #[]
  resolved := Array.replicate 55 none
  statics := none }

def pool2 : Array CpInfo := pool [(1, .class_ 2), (0, u "java/io/Serializable"), (0, .class_ 4), (0, u "java/lang/Object")] 2

/-- java/io/Serializable -/
def k2 : Class := { plain "java/io/Serializable" (some 0) with
  accessFlags := 1537
  interfaces := #[]
  cf := some (fileOf pool2 1 #[] #[] 1537 3 #[] #[])
  fields := #[]
  methods := #[]
  instanceTypes := #[]
  staticTypes := #[]
  resolved := Array.replicate 7 none
  statics := none }

def pool3 : Array CpInfo := pool [(1, .class_ 2), (0, u "java/lang/Comparable"), (0, .class_ 4), (0, u "java/lang/Object")] 7

/-- java/lang/Comparable -/
def k3 : Class := { plain "java/lang/Comparable" (some 0) with
  accessFlags := 1537
  interfaces := #[]
  cf := some (fileOf pool3 1 #[] #[] 1537 3 #[] #[])
  fields := #[]
  methods := #[]
  instanceTypes := #[]
  staticTypes := #[]
  resolved := Array.replicate 12 none
  statics := none }

def pool4 : Array CpInfo := pool [(2, .class_ 4), (1, u "java/lang/CharSequence"), (42, .class_ 48), (0, u "java/lang/CharSequence$1CodePointIterator"), (10, .class_ 60), (0, u "java/lang/CharSequence$1CharIterator"), (5, .class_ 67), (0, u "java/lang/Object")] 63

/-- java/lang/CharSequence -/
def k4 : Class := { plain "java/lang/CharSequence" (some 0) with
  accessFlags := 1537
  interfaces := #[]
  cf := some (fileOf pool4 2 #[.nestMembers #[47, 59]] #[] 1537 66 #[] #[])
  fields := #[]
  methods := #[]
  instanceTypes := #[]
  staticTypes := #[]
  resolved := Array.replicate 131 none
  statics := none }

def pool5 : Array CpInfo := pool [(1, .class_ 2), (0, u "java/lang/constant/Constable"), (0, .class_ 4), (0, u "java/lang/Object")] 6

/-- java/lang/constant/Constable -/
def k5 : Class := { plain "java/lang/constant/Constable" (some 0) with
  accessFlags := 1537
  interfaces := #[]
  cf := some (fileOf pool5 1 #[] #[] 1537 3 #[] #[])
  fields := #[]
  methods := #[]
  instanceTypes := #[]
  staticTypes := #[]
  resolved := Array.replicate 11 none
  statics := none }

def pool6 : Array CpInfo := pool [(1, .class_ 2), (0, u "java/lang/constant/ConstantDesc"), (0, .class_ 4), (0, u "java/lang/Object")] 32

/-- java/lang/constant/ConstantDesc -/
def k6 : Class := { plain "java/lang/constant/ConstantDesc" (some 0) with
  accessFlags := 1537
  interfaces := #[]
  cf := some (fileOf pool6 1 #[] #[] 1537 3 #[] #[])
  fields := #[]
  methods := #[]
  instanceTypes := #[]
  staticTypes := #[]
  resolved := Array.replicate 37 none
  statics := none }

def pool7 : Array CpInfo := pool [(1, .methodref 2 3), (0, .class_ 4), (0, .nameAndType 5 6), (0, u "java/lang/Object"), (0, u "<init>"), (0, u "()V"), (0, .string 8), (0, u ""), (0, .fieldref 10 11), (0, .class_ 12), (0, .nameAndType 13 14), (0, u "java/lang/String"), (0, u "value"), (0, u "[B"), (0, .fieldref 10 16), (0, .nameAndType 17 18), (0, u "coder"), (0, u "B"), (2, u "hash"), (0, u "I"), (2, u "hashIsZero"), (0, u "Z"), (0, .methodref 10 28), (0, .nameAndType 5 29), (0, u "([CIILjava/lang/Void;)V"), (6, u "checkBoundsOffCount"), (0, u "(III)I"), (0, .fieldref 10 39), (0, .nameAndType 40 26), (0, u "COMPACT_STRINGS"), (1, .class_ 44), (1, u "java/lang/StringUTF16"), (0, u "compress"), (1, .methodref 42 48), (0, .nameAndType 49 50), (0, u "coderFromArrayLen"), (0, u "([BI)B"), (2, u "toBytes"), (0, .methodref 55 56), (0, .class_ 57), (0, .nameAndType 58 59), (0, u "java/util/Arrays"), (0, u "copyOfRange"), (0, u "([BII)[B"), (46, .methodref 107 108), (0, .class_ 109), (0, .nameAndType 110 111), (0, u "java/lang/StringLatin1"), (0, u "inflate"), (0, u "([BI[BII)V"), (30, u "()Z"), (34, .methodref 42 178), (0, .nameAndType 45 179), (0, u "([CII)[B"), (13, .class_ 195), (1, u "java/lang/System"), (13, .methodref 10 210), (0, .nameAndType 5 211), (0, u "([BB)V"), (0, .methodref 193 213), (0, .nameAndType 214 215), (0, u "arraycopy"), (0, u "(Ljava/lang/Object;ILjava/lang/Object;II)V"), (118, u "()I"), (0, .methodref 10 336), (0, .nameAndType 17 337), (0, u "()B"), (2, u "()[B"), (22, u "([BI)C"), (5, u "(C)Z"), (21, u "(II)V"), (35, u "(I)C"), (61, .methodref 10 490), (0, .nameAndType 5 491), (0, u "(Ljava/lang/AbstractStringBuilder;Ljava/lang/Void;)V"), (0, .methodref 10 493), (0, .nameAndType 494 142), (0, u "isLatin1"), (0, .methodref 107 496), (0, .nameAndType 497 363), (0, u "charAt"), (0, .methodref 42 496), (2, u "checkIndex"), (4, .nameAndType 507 334), (0, u "length"), (24, u "getBytes"), (16, .methodref 550 506), (0, .class_ 551), (0, u "java/lang/AbstractStringBuilder"), (0, .methodref 550 553), (0, .nameAndType 554 340), (0, u "getValue"), (20, .class_ 576), (0, u "java/lang/CharSequence"), (22, u "CASE_INSENSITIVE_ORDER"), (0, u "Ljava/util/Comparator;"), (181, u "valueOf"), (0, u "(C)Ljava/lang/String;"), (37, u "([BIB)V"), (69, u "repeat"), (0, u "(I)Ljava/lang/String;"), (50, .integer 2147483647), (66, u "([C)V"), (4, .methodref 107 1016), (0, .nameAndType 1017 369), (0, u "canEncode"), (0, .methodref 107 1019), (0, .nameAndType 53 1020), (0, u "(C)[B"), (0, .methodref 42 1019), (19, .methodref 55 1042), (0, .nameAndType 1043 211), (0, u "fill"), (3, .methodref 550 493), (0, .fieldref 550 1049), (0, .nameAndType 1050 26), (0, u "maybeLatin1"), (2, .fieldref 1054 1055), (0, .class_ 1056), (0, .nameAndType 1057 1058), (0, u "jdk/internal/util/Preconditions"), (0, u "SIOOBE_FORMATTER"), (0, u "Ljava/util/function/BiFunction;"), (0, .methodref 1054 1060), (0, .nameAndType 501 1061), (0, u "(IILjava/util/function/BiFunction;)I"), (2, u "(IIILjava/util/function/BiFunction;)I"), (0, .methodref 1054 1066), (0, .nameAndType 1067 1064), (0, u "checkFromIndexSize"), (33, u "serialPersistentFields"), (0, u "[Ljava/io/ObjectStreamField;"), (0, .class_ 1104), (0, u "java/lang/String$CaseInsensitiveComparator"), (1, .class_ 1107), (0, u "java/io/Serializable"), (0, .class_ 1109), (0, u "java/lang/Comparable"), (0, .class_ 1111), (0, u "java/lang/constant/Constable"), (0, .class_ 1113), (0, u "java/lang/constant/ConstantDesc"), (2, u "serialVersionUID"), (0, u "J"), (3, u "REPL"), (0, u "C"), (2, u "LATIN1"), (1, u "UTF16"), (105, u "(Ljava/lang/StringBuilder;)V")] 217

def k7m0 : Method := { name := "<init>", desc := "()V", sig := { parameters := [], returnType := none }, accessFlags := 1, code := none }
def k7c1 : Code := { maxStack := 5, maxLocals := 2, code := jdk_42_method_3_code, exceptionTable := #[], attributes := #[] }
def k7m1 : Method := { name := "<init>", desc := "([C)V", sig := { parameters := [(.array .char)], returnType := none }, accessFlags := 1, code := some k7c1 }
def k7c2 : Code := { maxStack := 3, maxLocals := 2, code := jdk_42_method_53_code, exceptionTable := #[], attributes := #[] }
def k7m2 : Method := { name := "<init>", desc := "(Ljava/lang/StringBuilder;)V", sig := { parameters := [(.object "java/lang/StringBuilder")], returnType := none }, accessFlags := 1, code := some k7c2 }
def k7c3 : Code := { maxStack := 2, maxLocals := 1, code := jdk_42_method_54_code, exceptionTable := #[], attributes := #[] }
def k7m3 : Method := { name := "length", desc := "()I", sig := { parameters := [], returnType := some .int }, accessFlags := 1, code := some k7c3 }
def k7c4 : Code := { maxStack := 2, maxLocals := 2, code := jdk_42_method_56_code, exceptionTable := #[], attributes := #[] }
def k7m4 : Method := { name := "charAt", desc := "(I)C", sig := { parameters := [.int], returnType := some .char }, accessFlags := 1, code := some k7c4 }
def k7c5 : Code := { maxStack := 4, maxLocals := 1, code := jdk_42_method_139_code, exceptionTable := #[], attributes := #[] }
def k7m5 : Method := { name := "valueOf", desc := "(C)Ljava/lang/String;", sig := { parameters := [.char], returnType := some (.object "java/lang/String") }, accessFlags := 9, code := some k7c5 }
def k7c6 : Code := { maxStack := 5, maxLocals := 5, code := jdk_42_method_145_code, exceptionTable := #[], attributes := #[] }
def k7m6 : Method := { name := "repeat", desc := "(I)Ljava/lang/String;", sig := { parameters := [.int], returnType := some (.object "java/lang/String") }, accessFlags := 1, code := some k7c6 }
def k7c7 : Code := { maxStack := 5, maxLocals := 4, code := jdk_42_method_147_code, exceptionTable := #[], attributes := #[] }
def k7m7 : Method := { name := "getBytes", desc := "([BIB)V", sig := { parameters := [(.array .byte), .int, .byte], returnType := none }, accessFlags := 0, code := some k7c7 }
def k7c8 : Code := { maxStack := 4, maxLocals := 6, code := jdk_42_method_149_code, exceptionTable := #[], attributes := #[] }
def k7m8 : Method := { name := "<init>", desc := "([CIILjava/lang/Void;)V", sig := { parameters := [(.array .char), .int, .int, (.object "java/lang/Void")], returnType := none }, accessFlags := 2, code := some k7c8 }
def k7c9 : Code := { maxStack := 5, maxLocals := 5, code := jdk_42_method_150_code, exceptionTable := #[], attributes := #[] }
def k7m9 : Method := { name := "<init>", desc := "(Ljava/lang/AbstractStringBuilder;Ljava/lang/Void;)V", sig := { parameters := [(.object "java/lang/AbstractStringBuilder"), (.object "java/lang/Void")], returnType := none }, accessFlags := 0, code := some k7c9 }
def k7c10 : Code := { maxStack := 2, maxLocals := 3, code := jdk_42_method_151_code, exceptionTable := #[], attributes := #[] }
def k7m10 : Method := { name := "<init>", desc := "([BB)V", sig := { parameters := [(.array .byte), .byte], returnType := none }, accessFlags := 0, code := some k7c10 }
def k7c11 : Code := { maxStack := 1, maxLocals := 1, code := jdk_42_method_152_code, exceptionTable := #[], attributes := #[] }
def k7m11 : Method := { name := "coder", desc := "()B", sig := { parameters := [], returnType := some .byte }, accessFlags := 0, code := some k7c11 }
def k7c12 : Code := { maxStack := 1, maxLocals := 1, code := jdk_42_method_154_code, exceptionTable := #[], attributes := #[] }
def k7m12 : Method := { name := "isLatin1", desc := "()Z", sig := { parameters := [], returnType := some .boolean }, accessFlags := 0, code := some k7c12 }
def k7c13 : Code := { maxStack := 3, maxLocals := 2, code := jdk_42_method_155_code, exceptionTable := #[], attributes := #[] }
def k7m13 : Method := { name := "checkIndex", desc := "(II)V", sig := { parameters := [.int, .int], returnType := none }, accessFlags := 8, code := some k7c13 }
def k7c14 : Code := { maxStack := 4, maxLocals := 3, code := jdk_42_method_157_code, exceptionTable := #[], attributes := #[] }
def k7m14 : Method := { name := "checkBoundsOffCount", desc := "(III)I", sig := { parameters := [.int, .int, .int], returnType := some .int }, accessFlags := 8, code := some k7c14 }
/-- java/lang/String -/
def k7 : Class := { plain "java/lang/String" (some 0) with
  accessFlags := 49
  interfaces := #[2, 3, 4, 5, 6]
  cf := some (fileOf pool7 10 #[.nestMembers #[1103]] #[{ accessFlags := 1, nameIndex := 5, descriptorIndex := 6, attributes := #[] }, { accessFlags := 1, nameIndex := 5, descriptorIndex := 1010, attributes := #[] }, { accessFlags := 1, nameIndex := 5, descriptorIndex := 1233, attributes := #[] }, { accessFlags := 1, nameIndex := 507, descriptorIndex := 334, attributes := #[] }, { accessFlags := 1, nameIndex := 497, descriptorIndex := 427, attributes := #[] }, { accessFlags := 9, nameIndex := 782, descriptorIndex := 783, attributes := #[] }, { accessFlags := 1, nameIndex := 891, descriptorIndex := 892, attributes := #[] }, { accessFlags := 0, nameIndex := 532, descriptorIndex := 821, attributes := #[] }, { accessFlags := 2, nameIndex := 5, descriptorIndex := 29, attributes := #[] }, { accessFlags := 0, nameIndex := 5, descriptorIndex := 491, attributes := #[] }, { accessFlags := 0, nameIndex := 5, descriptorIndex := 211, attributes := #[] }, { accessFlags := 0, nameIndex := 17, descriptorIndex := 337, attributes := #[] }, { accessFlags := 0, nameIndex := 494, descriptorIndex := 142, attributes := #[] }, { accessFlags := 8, nameIndex := 501, descriptorIndex := 391, attributes := #[] }, { accessFlags := 8, nameIndex := 36, descriptorIndex := 37, attributes := #[] }] 49 2 #[1106, 1108, 575, 1110, 1112] #[{ accessFlags := 18, nameIndex := 13, descriptorIndex := 14, attributes := #[] }, { accessFlags := 18, nameIndex := 17, descriptorIndex := 18, attributes := #[] }, { accessFlags := 2, nameIndex := 21, descriptorIndex := 22, attributes := #[] }, { accessFlags := 2, nameIndex := 25, descriptorIndex := 26, attributes := #[] }, { accessFlags := 26, nameIndex := 1116, descriptorIndex := 1117, attributes := #[] }, { accessFlags := 24, nameIndex := 40, descriptorIndex := 26, attributes := #[] }, { accessFlags := 26, nameIndex := 1101, descriptorIndex := 1102, attributes := #[] }, { accessFlags := 26, nameIndex := 1121, descriptorIndex := 1122, attributes := #[] }, { accessFlags := 25, nameIndex := 599, descriptorIndex := 600, attributes := #[] }, { accessFlags := 24, nameIndex := 1125, descriptorIndex := 18, attributes := #[] }, { accessFlags := 24, nameIndex := 1127, descriptorIndex := 18, attributes := #[] }])
  fields := #[{ name := "value", type := (.array .byte), accessFlags := 18, slot := 0, constantValue := 0 }, { name := "coder", type := .byte, accessFlags := 18, slot := 1, constantValue := 0 }, { name := "hash", type := .int, accessFlags := 2, slot := 2, constantValue := 0 }, { name := "hashIsZero", type := .boolean, accessFlags := 2, slot := 3, constantValue := 0 }, { name := "serialVersionUID", type := .long, accessFlags := 26, slot := 0, constantValue := 0 }, { name := "COMPACT_STRINGS", type := .boolean, accessFlags := 24, slot := 1, constantValue := 0 }, { name := "serialPersistentFields", type := (.array (.object "java/io/ObjectStreamField")), accessFlags := 26, slot := 2, constantValue := 0 }, { name := "REPL", type := .char, accessFlags := 26, slot := 3, constantValue := 0 }, { name := "CASE_INSENSITIVE_ORDER", type := (.object "java/util/Comparator"), accessFlags := 25, slot := 4, constantValue := 0 }, { name := "LATIN1", type := .byte, accessFlags := 24, slot := 5, constantValue := 0 }, { name := "UTF16", type := .byte, accessFlags := 24, slot := 6, constantValue := 0 }]
  methods := #[k7m0, k7m1, k7m2, k7m3, k7m4, k7m5, k7m6, k7m7, k7m8, k7m9, k7m10, k7m11, k7m12, k7m13, k7m14]
  instanceTypes := #[(.array .byte), .byte, .int, .boolean]
  staticTypes := #[.long, .boolean, (.array (.object "java/io/ObjectStreamField")), .char, (.object "java/util/Comparator"), .byte, .byte]
  resolved := Array.replicate 1451 none
  statics := some 0 }

def pool8 : Array CpInfo := pool [(2, .class_ 4), (1, u "java/lang/Object"), (0, u "<init>"), (0, u "()V"), (4, .class_ 13), (1, u "com/example/motes_to_bounds/motestobounds/io/TextReport"), (0, u "NODE"), (0, u "Lcom/example/motes_to_bounds/motestobounds/io/TextReport$Column;"), (20, u "ROUTE"), (0, u "Ljava/util/List;"), (6, u "HOP_FIGURES"), (2, u "END_TO_END"), (0, .class_ 49), (0, u "java/lang/StringBuilder"), (3, .methodref 48 54), (0, .nameAndType 55 56), (0, u "append"), (0, u "(Ljava/lang/String;)Ljava/lang/StringBuilder;"), (9, u "()Ljava/lang/String;"), (2, u "printable"), (0, u "(Ljava/lang/String;)Ljava/lang/String;"), (0, .methodref 48 72), (0, .nameAndType 55 73), (0, u "(C)Ljava/lang/StringBuilder;"), (8, u "KEY"), (13, .class_ 97), (0, u "java/lang/String"), (36, .methodref 48 135), (0, .nameAndType 136 66), (0, u "toString"), (32, .class_ 170), (0, u "com/example/motes_to_bounds/motestobounds/io/TextReport$Place"), (19, u "()I"), (7, .class_ 200), (1, u "java/lang/Integer"), (22, u "PLACE"), (5, u "GRANT"), (0, .class_ 231), (0, u "com/example/motes_to_bounds/motestobounds/io/TextReport$Column"), (102, u "(I)Ljava/lang/String;"), (38, u "SHAPE"), (74, u "SLOT_FIGURES"), (0, .methodref 96 450), (0, .nameAndType 451 190), (0, u "length"), (0, .methodref 48 453), (0, .nameAndType 5 454), (0, u "(I)V"), (0, .methodref 96 456), (0, .nameAndType 457 458), (0, u "charAt"), (0, u "(I)C"), (0, .methodref 460 461), (0, .class_ 462), (0, .nameAndType 463 464), (0, u "java/lang/Character"), (0, u "isISOControl"), (0, u "(C)Z"), (0, .methodref 198 466), (0, .nameAndType 467 334), (0, u "toHexString"), (0, .string 469), (0, u "\\u"), (0, .string 471), (0, u "0"), (0, .methodref 96 473), (0, .nameAndType 474 334), (0, u "repeat"), (310, u "NONE"), (0, u "Ljava/lang/String;"), (1, u "UP"), (1, u "COLUMN_GAP"), (0, u "LINE_SEPARATOR"), (0, u "C"), (1, u "PARAGRAPH_SEPARATOR")] 293

def k8m0 : Method := { name := "<init>", desc := "()V", sig := { parameters := [], returnType := none }, accessFlags := 2, code := none }
def k8c1 : Code := { maxStack := 4, maxLocals := 5, code := prog_20_method_8_code, exceptionTable := #[], attributes := #[] }
def k8m1 : Method := { name := "printable", desc := "(Ljava/lang/String;)Ljava/lang/String;", sig := { parameters := [(.object "java/lang/String")], returnType := some (.object "java/lang/String") }, accessFlags := 9, code := some k8c1 }
/-- com/example/motes_to_bounds/motestobounds/io/TextReport -/
def k8 : Class := { plain "com/example/motes_to_bounds/motestobounds/io/TextReport" (some 0) with
  accessFlags := 33
  interfaces := #[]
  cf := some (fileOf pool8 11 #[.nestMembers #[169, 230]] #[{ accessFlags := 2, nameIndex := 5, descriptorIndex := 6, attributes := #[] }, { accessFlags := 9, nameIndex := 69, descriptorIndex := 70, attributes := #[] }] 33 2 #[] #[{ accessFlags := 26, nameIndex := 14, descriptorIndex := 15, attributes := #[] }, { accessFlags := 26, nameIndex := 36, descriptorIndex := 37, attributes := #[] }, { accessFlags := 26, nameIndex := 44, descriptorIndex := 37, attributes := #[] }, { accessFlags := 26, nameIndex := 47, descriptorIndex := 37, attributes := #[] }, { accessFlags := 26, nameIndex := 785, descriptorIndex := 786, attributes := #[] }, { accessFlags := 26, nameIndex := 788, descriptorIndex := 786, attributes := #[] }, { accessFlags := 26, nameIndex := 82, descriptorIndex := 37, attributes := #[] }, { accessFlags := 26, nameIndex := 790, descriptorIndex := 786, attributes := #[] }, { accessFlags := 26, nameIndex := 791, descriptorIndex := 792, attributes := #[] }, { accessFlags := 26, nameIndex := 794, descriptorIndex := 792, attributes := #[] }, { accessFlags := 26, nameIndex := 223, descriptorIndex := 37, attributes := #[] }, { accessFlags := 26, nameIndex := 229, descriptorIndex := 37, attributes := #[] }, { accessFlags := 26, nameIndex := 448, descriptorIndex := 37, attributes := #[] }, { accessFlags := 26, nameIndex := 373, descriptorIndex := 37, attributes := #[] }])
  fields := #[{ name := "NODE", type := (.object "com/example/motes_to_bounds/motestobounds/io/TextReport$Column"), accessFlags := 26, slot := 0, constantValue := 0 }, { name := "ROUTE", type := (.object "java/util/List"), accessFlags := 26, slot := 1, constantValue := 0 }, { name := "HOP_FIGURES", type := (.object "java/util/List"), accessFlags := 26, slot := 2, constantValue := 0 }, { name := "END_TO_END", type := (.object "java/util/List"), accessFlags := 26, slot := 3, constantValue := 0 }, { name := "NONE", type := (.object "java/lang/String"), accessFlags := 26, slot := 4, constantValue := 0 }, { name := "UP", type := (.object "java/lang/String"), accessFlags := 26, slot := 5, constantValue := 0 }, { name := "KEY", type := (.object "java/util/List"), accessFlags := 26, slot := 6, constantValue := 0 }, { name := "COLUMN_GAP", type := (.object "java/lang/String"), accessFlags := 26, slot := 7, constantValue := 0 }, { name := "LINE_SEPARATOR", type := .char, accessFlags := 26, slot := 8, constantValue := 0 }, { name := "PARAGRAPH_SEPARATOR", type := .char, accessFlags := 26, slot := 9, constantValue := 0 }, { name := "PLACE", type := (.object "java/util/List"), accessFlags := 26, slot := 10, constantValue := 0 }, { name := "GRANT", type := (.object "java/util/List"), accessFlags := 26, slot := 11, constantValue := 0 }, { name := "SLOT_FIGURES", type := (.object "java/util/List"), accessFlags := 26, slot := 12, constantValue := 0 }, { name := "SHAPE", type := (.object "java/util/List"), accessFlags := 26, slot := 13, constantValue := 0 }]
  methods := #[k8m0, k8m1]
  instanceTypes := #[]
  staticTypes := #[(.object "com/example/motes_to_bounds/motestobounds/io/TextReport$Column"), (.object "java/util/List"), (.object "java/util/List"), (.object "java/util/List"), (.object "java/lang/String"), (.object "java/lang/String"), (.object "java/util/List"), (.object "java/lang/String"), .char, .char, (.object "java/util/List"), (.object "java/util/List"), (.object "java/util/List"), (.object "java/util/List")]
  resolved := Array.replicate 1088 none
  statics := none }

def pool9 : Array CpInfo := pool [(1, .class_ 2), (0, u "java/lang/Appendable"), (0, .class_ 4), (0, u "java/lang/Object")] 9

/-- java/lang/Appendable -/
def k9 : Class := { plain "java/lang/Appendable" (some 0) with
  accessFlags := 1537
  interfaces := #[]
  cf := some (fileOf pool9 1 #[] #[] 1537 3 #[] #[])
  fields := #[]
  methods := #[]
  instanceTypes := #[]
  staticTypes := #[]
  resolved := Array.replicate 14 none
  statics := none }

def pool10 : Array CpInfo := pool [(1, .class_ 2), (0, u "java/lang/String"), (0, .methodref 4 5), (0, .class_ 6), (0, .nameAndType 7 8), (0, u "java/lang/Object"), (0, u "<init>"), (0, u "()V"), (1, .class_ 12), (1, u "java/lang/AbstractStringBuilder"), (0, u "EMPTYVALUE"), (0, u "[B"), (0, .fieldref 10 16), (0, .nameAndType 17 14), (0, u "value"), (0, .fieldref 1 19), (0, .nameAndType 20 21), (0, u "COMPACT_STRINGS"), (0, u "Z"), (0, .fieldref 10 23), (0, .nameAndType 24 25), (0, u "coder"), (0, u "B"), (0, .methodref 27 28), (0, .class_ 29), (0, .nameAndType 30 31), (0, u "java/lang/StringUTF16"), (0, u "newBytesFor"), (0, u "(I)[B"), (0, .methodref 1 33), (0, .nameAndType 34 35), (0, u "length"), (0, u "()I"), (3, .integer 2147483647), (0, .methodref 1 41), (0, .nameAndType 24 42), (0, u "()B"), (2, u "append"), (0, u "(Ljava/lang/String;)Ljava/lang/AbstractStringBuilder;"), (1, .class_ 49), (0, u "java/lang/CharSequence"), (19, u "(Ljava/lang/String;)V"), (5, u "maybeLatin1"), (3, .fieldref 10 80), (0, .nameAndType 81 82), (0, u "count"), (0, u "I"), (0, .methodref 10 84), (0, .nameAndType 85 86), (0, u "isLatin1"), (0, u "()Z"), (1, .class_ 90), (1, u "java/lang/StringLatin1"), (9, .methodref 10 101), (0, .nameAndType 102 103), (0, u "ensureCapacityInternal"), (0, u "(I)V"), (0, .methodref 10 105), (0, .nameAndType 106 107), (0, u "newCapacity"), (0, u "(I)I"), (0, .methodref 109 110), (0, .class_ 111), (0, .nameAndType 112 113), (0, u "java/util/Arrays"), (0, u "copyOf"), (0, u "([BI)[B"), (0, .methodref 115 116), (0, .class_ 117), (0, .nameAndType 118 119), (0, u "jdk/internal/util/ArraysSupport"), (0, u "newLength"), (0, u "(III)I"), (5, .methodref 88 126), (0, .nameAndType 127 128), (0, u "inflate"), (0, u "([BI[BII)V"), (7, u "([BII)V"), (54, .methodref 88 192), (0, .nameAndType 193 194), (0, u "canEncode"), (0, u "(C)Z"), (0, .methodref 10 196), (0, .nameAndType 127 8), (0, .methodref 27 198), (0, .nameAndType 199 136), (0, u "putCharSB"), (8, .methodref 10 209), (0, .nameAndType 210 211), (0, u "putStringAt"), (0, u "(ILjava/lang/String;)V"), (5, u "inflateIfNeededFor"), (2, .nameAndType 221 222), (0, u "getBytes"), (0, u "([BIB)V"), (69, u "(C)Ljava/lang/AbstractStringBuilder;"), (104, .methodref 10 398), (0, .nameAndType 217 69), (0, .methodref 1 220), (3, u "()[B"), (40, .class_ 445), (0, u "java/lang/Appendable"), (106, u "getValue")] 56

def k10m0 : Method := { name := "<init>", desc := "()V", sig := { parameters := [], returnType := none }, accessFlags := 0, code := none }
def k10c1 : Code := { maxStack := 2, maxLocals := 2, code := jdk_68_method_2_code, exceptionTable := #[], attributes := #[] }
def k10m1 : Method := { name := "<init>", desc := "(I)V", sig := { parameters := [.int], returnType := none }, accessFlags := 0, code := some k10c1 }
def k10c2 : Code := { maxStack := 1, maxLocals := 1, code := jdk_68_method_6_code, exceptionTable := #[], attributes := #[] }
def k10m2 : Method := { name := "length", desc := "()I", sig := { parameters := [], returnType := some .int }, accessFlags := 1, code := some k10c2 }
def k10c3 : Code := { maxStack := 4, maxLocals := 3, code := jdk_68_method_9_code, exceptionTable := #[], attributes := #[] }
def k10m3 : Method := { name := "ensureCapacityInternal", desc := "(I)V", sig := { parameters := [.int], returnType := none }, accessFlags := 2, code := some k10c3 }
def k10c4 : Code := { maxStack := 5, maxLocals := 6, code := jdk_68_method_10_code, exceptionTable := #[], attributes := #[] }
def k10m4 : Method := { name := "newCapacity", desc := "(I)I", sig := { parameters := [.int], returnType := some .int }, accessFlags := 2, code := some k10c4 }
def k10c5 : Code := { maxStack := 5, maxLocals := 2, code := jdk_68_method_11_code, exceptionTable := #[], attributes := #[] }
def k10m5 : Method := { name := "inflate", desc := "()V", sig := { parameters := [], returnType := none }, accessFlags := 2, code := some k10c5 }
def k10c6 : Code := { maxStack := 3, maxLocals := 3, code := jdk_68_method_22_code, exceptionTable := #[], attributes := #[] }
def k10m6 : Method := { name := "append", desc := "(Ljava/lang/String;)Ljava/lang/AbstractStringBuilder;", sig := { parameters := [(.object "java/lang/String")], returnType := some (.object "java/lang/AbstractStringBuilder") }, accessFlags := 1, code := some k10c6 }
def k10c7 : Code := { maxStack := 5, maxLocals := 2, code := jdk_68_method_31_code, exceptionTable := #[], attributes := #[] }
def k10m7 : Method := { name := "append", desc := "(C)Ljava/lang/AbstractStringBuilder;", sig := { parameters := [.char], returnType := some (.object "java/lang/AbstractStringBuilder") }, accessFlags := 1, code := some k10c7 }
def k10c8 : Code := { maxStack := 1, maxLocals := 1, code := jdk_68_method_64_code, exceptionTable := #[], attributes := #[] }
def k10m8 : Method := { name := "getValue", desc := "()[B", sig := { parameters := [], returnType := some (.array .byte) }, accessFlags := 16, code := some k10c8 }
def k10c9 : Code := { maxStack := 1, maxLocals := 1, code := jdk_68_method_68_code, exceptionTable := #[], attributes := #[] }
def k10m9 : Method := { name := "isLatin1", desc := "()Z", sig := { parameters := [], returnType := some .boolean }, accessFlags := 16, code := some k10c9 }
def k10c10 : Code := { maxStack := 2, maxLocals := 2, code := jdk_68_method_71_code, exceptionTable := #[], attributes := #[] }
def k10m10 : Method := { name := "inflateIfNeededFor", desc := "(Ljava/lang/String;)V", sig := { parameters := [(.object "java/lang/String")], returnType := none }, accessFlags := 2, code := some k10c10 }
def k10c11 : Code := { maxStack := 4, maxLocals := 3, code := jdk_68_method_73_code, exceptionTable := #[], attributes := #[] }
def k10m11 : Method := { name := "putStringAt", desc := "(ILjava/lang/String;)V", sig := { parameters := [.int, (.object "java/lang/String")], returnType := none }, accessFlags := 2, code := some k10c11 }
/-- java/lang/AbstractStringBuilder -/
def k10 : Class := { plain "java/lang/AbstractStringBuilder" (some 0) with
  accessFlags := 1056
  interfaces := #[9, 4]
  cf := some (fileOf pool10 10 #[] #[{ accessFlags := 0, nameIndex := 7, descriptorIndex := 8, attributes := #[] }, { accessFlags := 0, nameIndex := 7, descriptorIndex := 103, attributes := #[] }, { accessFlags := 1, nameIndex := 34, descriptorIndex := 35, attributes := #[] }, { accessFlags := 2, nameIndex := 102, descriptorIndex := 103, attributes := #[] }, { accessFlags := 2, nameIndex := 106, descriptorIndex := 107, attributes := #[] }, { accessFlags := 2, nameIndex := 127, descriptorIndex := 8, attributes := #[] }, { accessFlags := 1, nameIndex := 45, descriptorIndex := 46, attributes := #[] }, { accessFlags := 1, nameIndex := 45, descriptorIndex := 292, attributes := #[] }, { accessFlags := 16, nameIndex := 552, descriptorIndex := 403, attributes := #[] }, { accessFlags := 16, nameIndex := 85, descriptorIndex := 86, attributes := #[] }, { accessFlags := 2, nameIndex := 217, descriptorIndex := 69, attributes := #[] }, { accessFlags := 2, nameIndex := 210, descriptorIndex := 211, attributes := #[] }] 1056 4 #[444, 48] #[{ accessFlags := 0, nameIndex := 17, descriptorIndex := 14, attributes := #[] }, { accessFlags := 0, nameIndex := 24, descriptorIndex := 25, attributes := #[] }, { accessFlags := 0, nameIndex := 75, descriptorIndex := 21, attributes := #[] }, { accessFlags := 0, nameIndex := 81, descriptorIndex := 82, attributes := #[] }, { accessFlags := 26, nameIndex := 13, descriptorIndex := 14, attributes := #[] }])
  fields := #[{ name := "value", type := (.array .byte), accessFlags := 0, slot := 0, constantValue := 0 }, { name := "coder", type := .byte, accessFlags := 0, slot := 1, constantValue := 0 }, { name := "maybeLatin1", type := .boolean, accessFlags := 0, slot := 2, constantValue := 0 }, { name := "count", type := .int, accessFlags := 0, slot := 3, constantValue := 0 }, { name := "EMPTYVALUE", type := (.array .byte), accessFlags := 26, slot := 0, constantValue := 0 }]
  methods := #[k10m0, k10m1, k10m2, k10m3, k10m4, k10m5, k10m6, k10m7, k10m8, k10m9, k10m10, k10m11]
  instanceTypes := #[(.array .byte), .byte, .boolean, .int]
  staticTypes := #[(.array .byte)]
  resolved := Array.replicate 609 none
  statics := none }

def pool11 : Array CpInfo := pool [(1, .methodref 2 3), (0, .class_ 4), (0, .nameAndType 5 6), (0, u "java/lang/AbstractStringBuilder"), (0, u "<init>"), (0, u "(I)V"), (11, .class_ 20), (1, u "java/lang/String"), (3, .class_ 26), (1, u "java/lang/StringBuilder"), (0, u "append"), (0, u "(Ljava/lang/String;)Ljava/lang/StringBuilder;"), (0, .methodref 2 30), (0, .nameAndType 27 31), (0, u "(Ljava/lang/String;)Ljava/lang/AbstractStringBuilder;"), (18, .methodref 2 51), (0, .nameAndType 27 52), (0, u "(C)Ljava/lang/AbstractStringBuilder;"), (84, .methodref 18 138), (0, .nameAndType 5 139), (0, u "(Ljava/lang/StringBuilder;)V"), (5, u "()V"), (10, u "()I"), (129, u "(C)Ljava/lang/StringBuilder;"), (56, .methodref 2 344), (0, .nameAndType 345 156), (0, u "length"), (3, .class_ 350), (0, u "java/lang/Appendable"), (0, .class_ 352), (0, u "java/io/Serializable"), (0, .class_ 354), (0, u "java/lang/Comparable"), (0, .class_ 356), (0, u "java/lang/CharSequence"), (0, u "serialVersionUID"), (0, u "J"), (40, u "toString"), (0, u "()Ljava/lang/String;")] 21

def k11m0 : Method := { name := "<init>", desc := "()V", sig := { parameters := [], returnType := none }, accessFlags := 1, code := none }
def k11c1 : Code := { maxStack := 2, maxLocals := 2, code := jdk_67_method_2_code, exceptionTable := #[], attributes := #[] }
def k11m1 : Method := { name := "<init>", desc := "(I)V", sig := { parameters := [.int], returnType := none }, accessFlags := 1, code := some k11c1 }
def k11c2 : Code := { maxStack := 2, maxLocals := 2, code := jdk_67_method_7_code, exceptionTable := #[], attributes := #[] }
def k11m2 : Method := { name := "append", desc := "(Ljava/lang/String;)Ljava/lang/StringBuilder;", sig := { parameters := [(.object "java/lang/String")], returnType := some (.object "java/lang/StringBuilder") }, accessFlags := 1, code := some k11c2 }
def k11c3 : Code := { maxStack := 2, maxLocals := 2, code := jdk_67_method_14_code, exceptionTable := #[], attributes := #[] }
def k11m3 : Method := { name := "append", desc := "(C)Ljava/lang/StringBuilder;", sig := { parameters := [.char], returnType := some (.object "java/lang/StringBuilder") }, accessFlags := 1, code := some k11c3 }
def k11c4 : Code := { maxStack := 3, maxLocals := 1, code := jdk_67_method_42_code, exceptionTable := #[], attributes := #[] }
def k11m4 : Method := { name := "toString", desc := "()Ljava/lang/String;", sig := { parameters := [], returnType := some (.object "java/lang/String") }, accessFlags := 1, code := some k11c4 }
def k11c5 : Code := { maxStack := 1, maxLocals := 1, code := jdk_67_method_93_code, exceptionTable := #[], attributes := #[] }
def k11m5 : Method := { name := "length", desc := "()I", sig := { parameters := [], returnType := some .int }, accessFlags := 4161, code := some k11c5 }
/-- java/lang/StringBuilder -/
def k11 : Class := { plain "java/lang/StringBuilder" (some 10) with
  accessFlags := 49
  interfaces := #[9, 2, 3, 4]
  cf := some (fileOf pool11 24 #[] #[{ accessFlags := 1, nameIndex := 5, descriptorIndex := 145, attributes := #[] }, { accessFlags := 1, nameIndex := 5, descriptorIndex := 6, attributes := #[] }, { accessFlags := 1, nameIndex := 27, descriptorIndex := 28, attributes := #[] }, { accessFlags := 1, nameIndex := 27, descriptorIndex := 286, attributes := #[] }, { accessFlags := 1, nameIndex := 399, descriptorIndex := 400, attributes := #[] }, { accessFlags := 4161, nameIndex := 345, descriptorIndex := 156, attributes := #[] }] 49 2 #[349, 351, 353, 355] #[{ accessFlags := 24, nameIndex := 357, descriptorIndex := 358, attributes := #[] }])
  fields := #[{ name := "serialVersionUID", type := .long, accessFlags := 24, slot := 0, constantValue := 0 }]
  methods := #[k11m0, k11m1, k11m2, k11m3, k11m4, k11m5]
  instanceTypes := #[(.array .byte), .byte, .boolean, .int]
  staticTypes := #[.long]
  resolved := Array.replicate 422 none
  statics := none }

def pool12 : Array CpInfo := pool [(2, .class_ 4), (1, u "java/lang/Object"), (0, u "<init>"), (0, u "()V"), (7, .class_ 16), (1, u "java/util/Arrays"), (57, .class_ 76), (1, u "java/util/Arrays$NaturalOrder"), (32, u "()Ljava/lang/Object;"), (3, .class_ 115), (1, u "java/util/Arrays$LegacyMergeSort"), (1, u "Z"), (10, .nameAndType 129 109), (0, u "clone"), (9, u "copyOfRange"), (10, .methodref 151 152), (0, .class_ 153), (0, .nameAndType 154 155), (0, u "java/lang/System"), (0, u "arraycopy"), (0, u "(Ljava/lang/Object;ILjava/lang/Object;II)V"), (146, u "copyOf"), (1, .methodref 305 306), (0, .class_ 307), (0, .nameAndType 308 309), (0, u "java/lang/Math"), (0, u "min"), (0, u "(II)I"), (0, .methodref 311 128), (0, .class_ 312), (0, u "[B"), (26, .methodref 14 340), (0, .nameAndType 341 342), (0, u "copyOfRangeByte"), (0, u "([BII)[B"), (0, .methodref 14 344), (0, .nameAndType 345 346), (0, u "checkLength"), (0, u "(II)V"), (28, .class_ 376), (0, u "java/util/Arrays$ArrayList"), (68, u "$assertionsDisabled"), (269, u "MIN_ARRAY_SORT_GRAN"), (0, u "I"), (2, u "INSERTIONSORT_THRESHOLD"), (120, u "fill"), (9, u "([BB)V"), (18, u "([BI)[B"), (105, .class_ 976), (0, u "java/util/Arrays$ArrayItr")] 52

def k12m0 : Method := { name := "<init>", desc := "()V", sig := { parameters := [], returnType := none }, accessFlags := 2, code := none }
def k12c1 : Code := { maxStack := 3, maxLocals := 4, code := jdk_65_method_109_code, exceptionTable := #[], attributes := #[] }
def k12m1 : Method := { name := "fill", desc := "([BB)V", sig := { parameters := [(.array .byte), .byte], returnType := none }, accessFlags := 9, code := some k12c1 }
def k12c2 : Code := { maxStack := 6, maxLocals := 3, code := jdk_65_method_121_code, exceptionTable := #[], attributes := #[] }
def k12m2 : Method := { name := "copyOf", desc := "([BI)[B", sig := { parameters := [(.array .byte), .int], returnType := some (.array .byte) }, accessFlags := 9, code := some k12c2 }
def k12c3 : Code := { maxStack := 4, maxLocals := 2, code := jdk_65_method_131_code, exceptionTable := #[], attributes := #[] }
def k12m3 : Method := { name := "checkLength", desc := "(II)V", sig := { parameters := [.int, .int], returnType := none }, accessFlags := 10, code := some k12c3 }
def k12c4 : Code := { maxStack := 3, maxLocals := 3, code := jdk_65_method_132_code, exceptionTable := #[], attributes := #[] }
def k12m4 : Method := { name := "copyOfRange", desc := "([BII)[B", sig := { parameters := [(.array .byte), .int, .int], returnType := some (.array .byte) }, accessFlags := 9, code := some k12c4 }
def k12c5 : Code := { maxStack := 6, maxLocals := 5, code := jdk_65_method_133_code, exceptionTable := #[], attributes := #[] }
def k12m5 : Method := { name := "copyOfRangeByte", desc := "([BII)[B", sig := { parameters := [(.array .byte), .int, .int], returnType := some (.array .byte) }, accessFlags := 10, code := some k12c5 }
/-- java/util/Arrays -/
def k12 : Class := { plain "java/util/Arrays" (some 0) with
  accessFlags := 49
  interfaces := #[]
  cf := some (fileOf pool12 14 #[.nestMembers #[975, 375, 113, 74]] #[{ accessFlags := 2, nameIndex := 5, descriptorIndex := 6, attributes := #[] }, { accessFlags := 9, nameIndex := 840, descriptorIndex := 850, attributes := #[] }, { accessFlags := 9, nameIndex := 302, descriptorIndex := 869, attributes := #[] }, { accessFlags := 10, nameIndex := 345, descriptorIndex := 346, attributes := #[] }, { accessFlags := 9, nameIndex := 139, descriptorIndex := 342, attributes := #[] }, { accessFlags := 10, nameIndex := 341, descriptorIndex := 342, attributes := #[] }] 49 2 #[] #[{ accessFlags := 26, nameIndex := 715, descriptorIndex := 716, attributes := #[] }, { accessFlags := 26, nameIndex := 719, descriptorIndex := 716, attributes := #[] }, { accessFlags := 4120, nameIndex := 445, descriptorIndex := 117, attributes := #[] }])
  fields := #[{ name := "MIN_ARRAY_SORT_GRAN", type := .int, accessFlags := 26, slot := 0, constantValue := 0 }, { name := "INSERTIONSORT_THRESHOLD", type := .int, accessFlags := 26, slot := 1, constantValue := 0 }, { name := "$assertionsDisabled", type := .boolean, accessFlags := 4120, slot := 2, constantValue := 0 }]
  methods := #[k12m0, k12m1, k12m2, k12m3, k12m4, k12m5]
  instanceTypes := #[]
  staticTypes := #[.int, .int, .boolean]
  resolved := Array.replicate 1029 none
  statics := none }

def pool13 : Array CpInfo := pool [(1, .class_ 2), (0, u "java/lang/Cloneable"), (0, .class_ 4), (0, u "java/lang/Object")] 2

/-- java/lang/Cloneable -/
def k13 : Class := { plain "java/lang/Cloneable" (some 0) with
  accessFlags := 1537
  interfaces := #[]
  cf := some (fileOf pool13 1 #[] #[] 1537 3 #[] #[])
  fields := #[]
  methods := #[]
  instanceTypes := #[]
  staticTypes := #[]
  resolved := Array.replicate 7 none
  statics := none }

def pool14 : Array CpInfo := pool [(3, .class_ 4), (0, u "java/lang/String"), (1, .class_ 8), (1, u "java/lang/Object"), (0, u "<init>"), (0, u "()V"), (0, .methodref 12 13), (0, .class_ 14), (0, .nameAndType 15 16), (0, u "java/lang/StringUTF16"), (0, u "newBytesLength"), (0, u "(I)I"), (3, .integer 1073741823), (23, .fieldref 12 45), (0, .nameAndType 46 47), (0, u "$assertionsDisabled"), (0, u "Z"), (0, .methodref 12 49), (0, .nameAndType 50 51), (0, u "length"), (0, u "([B)I"), (7, .fieldref 12 60), (0, .nameAndType 61 62), (0, u "HI_BYTE_SHIFT"), (0, u "I"), (0, .fieldref 12 64), (0, .nameAndType 65 62), (0, u "LO_BYTE_SHIFT"), (1, .methodref 12 68), (0, .nameAndType 69 70), (0, u "checkIndex"), (0, u "(I[B)V"), (0, .methodref 12 72), (0, .nameAndType 73 74), (0, u "getChar"), (0, u "([BI)C"), (24, u "(II[B)V"), (7, .methodref 12 108), (0, .nameAndType 109 110), (0, u "newBytesFor"), (0, u "(I)[B"), (0, .methodref 12 112), (0, .nameAndType 113 114), (0, u "putChar"), (0, u "([BII)V"), (0, .methodref 12 116), (0, .nameAndType 117 118), (0, u "compress"), (0, u "([CI[BII)I"), (0, .methodref 12 120), (0, .nameAndType 121 122), (0, u "toBytes"), (0, u "([CII)[B"), (17, u "inflate"), (0, u "([BI[BII)V"), (31, .methodref 12 174), (0, .nameAndType 175 99), (0, u "checkBoundsOffCount"), (85, u "coderFromArrayLen"), (0, u "([BI)B"), (18, u "(III)I"), (87, .class_ 371), (1, u "java/lang/StringUTF16$LinesSpliterator"), (20, u "charAt"), (21, .methodref 3 415), (0, .nameAndType 69 416), (0, u "(II)V"), (2, .methodref 3 420), (0, .nameAndType 175 281), (9, u "MAX_LENGTH"), (44, u "(C)[B"), (110, u "putCharSB"), (40, .class_ 628), (0, u "java/lang/StringUTF16$CodePointsSpliterator"), (0, .class_ 630), (0, u "java/lang/StringUTF16$CharsSpliterator")] 4

def k14m0 : Method := { name := "<init>", desc := "()V", sig := { parameters := [], returnType := none }, accessFlags := 0, code := none }
def k14c1 : Code := { maxStack := 1, maxLocals := 1, code := jdk_52_method_2_code, exceptionTable := #[], attributes := #[] }
def k14m1 : Method := { name := "newBytesFor", desc := "(I)[B", sig := { parameters := [.int], returnType := some (.array .byte) }, accessFlags := 9, code := some k14c1 }
def k14c2 : Code := { maxStack := 4, maxLocals := 1, code := jdk_52_method_3_code, exceptionTable := #[], attributes := #[] }
def k14m2 : Method := { name := "newBytesLength", desc := "(I)I", sig := { parameters := [.int], returnType := some .int }, accessFlags := 9, code := some k14c2 }
def k14c3 : Code := { maxStack := 4, maxLocals := 3, code := jdk_52_method_4_code, exceptionTable := #[], attributes := #[] }
def k14m3 : Method := { name := "putChar", desc := "([BII)V", sig := { parameters := [(.array .byte), .int, .int], returnType := none }, accessFlags := 8, code := some k14c3 }
def k14c4 : Code := { maxStack := 3, maxLocals := 2, code := jdk_52_method_5_code, exceptionTable := #[], attributes := #[] }
def k14m4 : Method := { name := "getChar", desc := "([BI)C", sig := { parameters := [(.array .byte), .int], returnType := some .char }, accessFlags := 8, code := some k14c4 }
def k14c5 : Code := { maxStack := 2, maxLocals := 1, code := jdk_52_method_6_code, exceptionTable := #[], attributes := #[] }
def k14m5 : Method := { name := "length", desc := "([B)I", sig := { parameters := [(.array .byte)], returnType := some .int }, accessFlags := 9, code := some k14c5 }
def k14c6 : Code := { maxStack := 4, maxLocals := 5, code := jdk_52_method_14_code, exceptionTable := #[], attributes := #[] }
def k14m6 : Method := { name := "toBytes", desc := "([CII)[B", sig := { parameters := [(.array .char), .int, .int], returnType := some (.array .byte) }, accessFlags := 9, code := some k14c6 }
def k14c7 : Code := { maxStack := 2, maxLocals := 2, code := jdk_52_method_15_code, exceptionTable := #[], attributes := #[] }
def k14m7 : Method := { name := "coderFromArrayLen", desc := "([BI)B", sig := { parameters := [(.array .byte), .int], returnType := some .byte }, accessFlags := 8, code := some k14c7 }
def k14c8 : Code := { maxStack := 5, maxLocals := 6, code := jdk_52_method_16_code, exceptionTable := #[], attributes := #[] }
def k14m8 : Method := { name := "compress", desc := "([CII)[B", sig := { parameters := [(.array .char), .int, .int], returnType := some (.array .byte) }, accessFlags := 9, code := some k14c8 }
def k14c9 : Code := { maxStack := 3, maxLocals := 7, code := jdk_52_method_21_code, exceptionTable := #[], attributes := #[] }
def k14m9 : Method := { name := "compress", desc := "([CI[BII)I", sig := { parameters := [(.array .char), .int, (.array .byte), .int, .int], returnType := some .int }, accessFlags := 9, code := some k14c9 }
def k14c10 : Code := { maxStack := 3, maxLocals := 2, code := jdk_52_method_24_code, exceptionTable := #[], attributes := #[] }
def k14m10 : Method := { name := "toBytes", desc := "(C)[B", sig := { parameters := [.char], returnType := some (.array .byte) }, accessFlags := 9, code := some k14c10 }
def k14c11 : Code := { maxStack := 3, maxLocals := 3, code := jdk_52_method_71_code, exceptionTable := #[], attributes := #[] }
def k14m11 : Method := { name := "putCharSB", desc := "([BII)V", sig := { parameters := [(.array .byte), .int, .int], returnType := none }, accessFlags := 9, code := some k14c11 }
def k14c12 : Code := { maxStack := 2, maxLocals := 2, code := jdk_52_method_83_code, exceptionTable := #[], attributes := #[] }
def k14m12 : Method := { name := "charAt", desc := "([BI)C", sig := { parameters := [(.array .byte), .int], returnType := some .char }, accessFlags := 9, code := some k14c12 }
def k14c13 : Code := { maxStack := 4, maxLocals := 6, code := jdk_52_method_86_code, exceptionTable := #[], attributes := #[] }
def k14m13 : Method := { name := "inflate", desc := "([BI[BII)V", sig := { parameters := [(.array .byte), .int, (.array .byte), .int, .int], returnType := none }, accessFlags := 9, code := some k14c13 }
def k14c14 : Code := { maxStack := 2, maxLocals := 2, code := jdk_52_method_91_code, exceptionTable := #[], attributes := #[] }
def k14m14 : Method := { name := "checkIndex", desc := "(I[B)V", sig := { parameters := [.int, (.array .byte)], returnType := none }, accessFlags := 9, code := some k14c14 }
def k14c15 : Code := { maxStack := 3, maxLocals := 3, code := jdk_52_method_94_code, exceptionTable := #[], attributes := #[] }
def k14m15 : Method := { name := "checkBoundsOffCount", desc := "(II[B)V", sig := { parameters := [.int, .int, (.array .byte)], returnType := none }, accessFlags := 9, code := some k14c15 }
/-- java/lang/StringUTF16 -/
def k14 : Class := { plain "java/lang/StringUTF16" (some 0) with
  accessFlags := 48
  interfaces := #[]
  cf := some (fileOf pool14 12 #[.nestMembers #[627, 629, 369]] #[{ accessFlags := 0, nameIndex := 9, descriptorIndex := 10, attributes := #[] }, { accessFlags := 9, nameIndex := 109, descriptorIndex := 110, attributes := #[] }, { accessFlags := 9, nameIndex := 15, descriptorIndex := 16, attributes := #[] }, { accessFlags := 8, nameIndex := 113, descriptorIndex := 114, attributes := #[] }, { accessFlags := 8, nameIndex := 73, descriptorIndex := 74, attributes := #[] }, { accessFlags := 9, nameIndex := 50, descriptorIndex := 51, attributes := #[] }, { accessFlags := 9, nameIndex := 121, descriptorIndex := 122, attributes := #[] }, { accessFlags := 8, nameIndex := 261, descriptorIndex := 262, attributes := #[] }, { accessFlags := 9, nameIndex := 117, descriptorIndex := 122, attributes := #[] }, { accessFlags := 9, nameIndex := 117, descriptorIndex := 118, attributes := #[] }, { accessFlags := 9, nameIndex := 121, descriptorIndex := 475, attributes := #[] }, { accessFlags := 9, nameIndex := 586, descriptorIndex := 114, attributes := #[] }, { accessFlags := 9, nameIndex := 392, descriptorIndex := 74, attributes := #[] }, { accessFlags := 9, nameIndex := 140, descriptorIndex := 141, attributes := #[] }, { accessFlags := 9, nameIndex := 69, descriptorIndex := 70, attributes := #[] }, { accessFlags := 9, nameIndex := 175, descriptorIndex := 99, attributes := #[] }] 48 6 #[] #[{ accessFlags := 26, nameIndex := 61, descriptorIndex := 62, attributes := #[] }, { accessFlags := 26, nameIndex := 65, descriptorIndex := 62, attributes := #[] }, { accessFlags := 24, nameIndex := 430, descriptorIndex := 62, attributes := #[] }, { accessFlags := 4120, nameIndex := 46, descriptorIndex := 47, attributes := #[] }])
  fields := #[{ name := "HI_BYTE_SHIFT", type := .int, accessFlags := 26, slot := 0, constantValue := 0 }, { name := "LO_BYTE_SHIFT", type := .int, accessFlags := 26, slot := 1, constantValue := 0 }, { name := "MAX_LENGTH", type := .int, accessFlags := 24, slot := 2, constantValue := 0 }, { name := "$assertionsDisabled", type := .boolean, accessFlags := 4120, slot := 3, constantValue := 0 }]
  methods := #[k14m0, k14m1, k14m2, k14m3, k14m4, k14m5, k14m6, k14m7, k14m8, k14m9, k14m10, k14m11, k14m12, k14m13, k14m14, k14m15]
  instanceTypes := #[]
  staticTypes := #[.int, .int, .int, .boolean]
  resolved := Array.replicate 635 none
  statics := some 1 }

def pool15 : Array CpInfo := pool [(1, .class_ 2), (0, u "java/lang/String"), (1, .class_ 6), (1, u "java/lang/Object"), (0, u "<init>"), (0, u "()V"), (0, .methodref 1 10), (0, .nameAndType 11 12), (0, u "checkIndex"), (0, u "(II)V"), (1, .class_ 16), (1, u "java/lang/StringLatin1"), (0, u "inflate"), (2, .class_ 22), (1, u "java/lang/StringUTF16"), (3, .nameAndType 17 27), (0, u "([BI[BII)V"), (25, u "([BI)C"), (36, u "canEncode"), (14, u "(C)Z"), (15, u "$assertionsDisabled"), (0, u "Z"), (98, .class_ 223), (1, u "java/lang/StringLatin1$LinesSpliterator"), (16, .methodref 20 26), (11, u "charAt"), (127, u "toBytes"), (1, u "(C)[B"), (7, .class_ 391), (0, u "java/lang/StringLatin1$CharsSpliterator")] 3

def k15m0 : Method := { name := "<init>", desc := "()V", sig := { parameters := [], returnType := none }, accessFlags := 0, code := none }
def k15c1 : Code := { maxStack := 2, maxLocals := 2, code := jdk_43_method_2_code, exceptionTable := #[], attributes := #[] }
def k15m1 : Method := { name := "charAt", desc := "([BI)C", sig := { parameters := [(.array .byte), .int], returnType := some .char }, accessFlags := 9, code := some k15c1 }
def k15c2 : Code := { maxStack := 2, maxLocals := 1, code := jdk_43_method_3_code, exceptionTable := #[], attributes := #[] }
def k15m2 : Method := { name := "canEncode", desc := "(C)Z", sig := { parameters := [.char], returnType := some .boolean }, accessFlags := 9, code := some k15c2 }
def k15c3 : Code := { maxStack := 4, maxLocals := 1, code := jdk_43_method_46_code, exceptionTable := #[], attributes := #[] }
def k15m3 : Method := { name := "toBytes", desc := "(C)[B", sig := { parameters := [.char], returnType := some (.array .byte) }, accessFlags := 9, code := some k15c3 }
def k15c4 : Code := { maxStack := 5, maxLocals := 5, code := jdk_43_method_50_code, exceptionTable := #[], attributes := #[] }
def k15m4 : Method := { name := "inflate", desc := "([BI[BII)V", sig := { parameters := [(.array .byte), .int, (.array .byte), .int, .int], returnType := none }, accessFlags := 9, code := some k15c4 }
/-- java/lang/StringLatin1 -/
def k15 : Class := { plain "java/lang/StringLatin1" (some 0) with
  accessFlags := 48
  interfaces := #[]
  cf := some (fileOf pool15 14 #[.nestMembers #[390, 221]] #[{ accessFlags := 0, nameIndex := 7, descriptorIndex := 8, attributes := #[] }, { accessFlags := 9, nameIndex := 252, descriptorIndex := 53, attributes := #[] }, { accessFlags := 9, nameIndex := 90, descriptorIndex := 105, attributes := #[] }, { accessFlags := 9, nameIndex := 380, descriptorIndex := 382, attributes := #[] }, { accessFlags := 9, nameIndex := 17, descriptorIndex := 27, attributes := #[] }] 48 4 #[] #[{ accessFlags := 4120, nameIndex := 121, descriptorIndex := 122, attributes := #[] }])
  fields := #[{ name := "$assertionsDisabled", type := .boolean, accessFlags := 4120, slot := 0, constantValue := 0 }]
  methods := #[k15m0, k15m1, k15m2, k15m3, k15m4]
  instanceTypes := #[]
  staticTypes := #[.boolean]
  resolved := Array.replicate 395 none
  statics := none }

def pool16 : Array CpInfo := pool [(2, .class_ 4), (1, u "java/lang/Object"), (0, u "<init>"), (0, u "()V"), (17, .class_ 26), (1, u "jdk/internal/util/Preconditions"), (6, u "checkIndex"), (15, u "checkFromIndexSize"), (5, .class_ 56), (0, u "jdk/internal/util/Preconditions$4"), (57, .class_ 115), (0, u "jdk/internal/util/Preconditions$1"), (7, u "SIOOBE_FORMATTER"), (0, u "Ljava/util/function/BiFunction;"), (0, .class_ 126), (0, u "jdk/internal/util/Preconditions$2"), (3, u "AIOOBE_FORMATTER"), (0, .class_ 132), (0, u "jdk/internal/util/Preconditions$3"), (3, u "IOOBE_FORMATTER"), (41, u "(IILjava/util/function/BiFunction;)I"), (4, u "(IIILjava/util/function/BiFunction;)I")] 10

def k16m0 : Method := { name := "<init>", desc := "()V", sig := { parameters := [], returnType := none }, accessFlags := 1, code := none }
def k16c1 : Code := { maxStack := 3, maxLocals := 3, code := jdk_41_method_11_code, exceptionTable := #[], attributes := #[] }
def k16m1 : Method := { name := "checkIndex", desc := "(IILjava/util/function/BiFunction;)I", sig := { parameters := [.int, .int, (.object "java/util/function/BiFunction")], returnType := some .int }, accessFlags := 9, code := some k16c1 }
def k16c2 : Code := { maxStack := 4, maxLocals := 4, code := jdk_41_method_13_code, exceptionTable := #[], attributes := #[] }
def k16m2 : Method := { name := "checkFromIndexSize", desc := "(IIILjava/util/function/BiFunction;)I", sig := { parameters := [.int, .int, .int, (.object "java/util/function/BiFunction")], returnType := some .int }, accessFlags := 9, code := some k16c2 }
/-- jdk/internal/util/Preconditions -/
def k16 : Class := { plain "jdk/internal/util/Preconditions" (some 0) with
  accessFlags := 33
  interfaces := #[]
  cf := some (fileOf pool16 24 #[.nestMembers #[55, 131, 125, 114]] #[{ accessFlags := 1, nameIndex := 5, descriptorIndex := 6, attributes := #[] }, { accessFlags := 9, nameIndex := 33, descriptorIndex := 178, attributes := #[] }, { accessFlags := 9, nameIndex := 49, descriptorIndex := 183, attributes := #[] }] 33 2 #[] #[{ accessFlags := 25, nameIndex := 123, descriptorIndex := 124, attributes := #[] }, { accessFlags := 25, nameIndex := 130, descriptorIndex := 124, attributes := #[] }, { accessFlags := 25, nameIndex := 136, descriptorIndex := 124, attributes := #[] }])
  fields := #[{ name := "SIOOBE_FORMATTER", type := (.object "java/util/function/BiFunction"), accessFlags := 25, slot := 0, constantValue := 0 }, { name := "AIOOBE_FORMATTER", type := (.object "java/util/function/BiFunction"), accessFlags := 25, slot := 1, constantValue := 0 }, { name := "IOOBE_FORMATTER", type := (.object "java/util/function/BiFunction"), accessFlags := 25, slot := 2, constantValue := 0 }]
  methods := #[k16m0, k16m1, k16m2]
  instanceTypes := #[]
  staticTypes := #[(.object "java/util/function/BiFunction"), (.object "java/util/function/BiFunction"), (.object "java/util/function/BiFunction")]
  resolved := Array.replicate 194 none
  statics := some 2 }

def pool17 : Array CpInfo := pool [(1, .class_ 2), (0, u "java/lang/Character"), (18, u "value"), (0, u "C"), (19, .class_ 44), (1, u "java/lang/Object"), (3, .class_ 50), (1, u "java/lang/Character$CharacterCache"), (30, u "(C)Z"), (32, u "(I)Z"), (151, .methodref 1 267), (0, .nameAndType 268 114), (0, u "isISOControl"), (15, u "$assertionsDisabled"), (0, u "Z"), (21, .class_ 309), (1, u "java/lang/Character$UnicodeBlock"), (73, u "TYPE"), (0, u "Ljava/lang/Class;"), (0, .class_ 386), (0, u "java/io/Serializable"), (0, .class_ 388), (0, u "java/lang/Comparable"), (0, .class_ 390), (0, u "java/lang/constant/Constable"), (0, u "MIN_RADIX"), (0, u "I"), (2, u "MAX_RADIX"), (1, u "MIN_VALUE"), (1, u "MAX_VALUE"), (3, u "UNASSIGNED"), (0, u "B"), (0, u "UPPERCASE_LETTER"), (1, u "LOWERCASE_LETTER"), (0, u "TITLECASE_LETTER"), (1, u "MODIFIER_LETTER"), (1, u "OTHER_LETTER"), (1, u "NON_SPACING_MARK"), (1, u "ENCLOSING_MARK"), (1, u "COMBINING_SPACING_MARK"), (1, u "DECIMAL_DIGIT_NUMBER"), (1, u "LETTER_NUMBER"), (1, u "OTHER_NUMBER"), (1, u "SPACE_SEPARATOR"), (1, u "LINE_SEPARATOR"), (1, u "PARAGRAPH_SEPARATOR"), (1, u "CONTROL"), (1, u "FORMAT"), (1, u "PRIVATE_USE"), (1, u "SURROGATE"), (1, u "DASH_PUNCTUATION"), (1, u "START_PUNCTUATION"), (1, u "END_PUNCTUATION"), (1, u "CONNECTOR_PUNCTUATION"), (1, u "OTHER_PUNCTUATION"), (1, u "MATH_SYMBOL"), (1, u "CURRENCY_SYMBOL"), (1, u "MODIFIER_SYMBOL"), (1, u "OTHER_SYMBOL"), (1, u "INITIAL_QUOTE_PUNCTUATION"), (1, u "FINAL_QUOTE_PUNCTUATION"), (1, u "ERROR"), (1, u "DIRECTIONALITY_UNDEFINED"), (0, u "DIRECTIONALITY_LEFT_TO_RIGHT"), (0, u "DIRECTIONALITY_RIGHT_TO_LEFT"), (0, u "DIRECTIONALITY_RIGHT_TO_LEFT_ARABIC"), (0, u "DIRECTIONALITY_EUROPEAN_NUMBER"), (0, u "DIRECTIONALITY_EUROPEAN_NUMBER_SEPARATOR"), (0, u "DIRECTIONALITY_EUROPEAN_NUMBER_TERMINATOR"), (0, u "DIRECTIONALITY_ARABIC_NUMBER"), (0, u "DIRECTIONALITY_COMMON_NUMBER_SEPARATOR"), (0, u "DIRECTIONALITY_NONSPACING_MARK"), (0, u "DIRECTIONALITY_BOUNDARY_NEUTRAL"), (0, u "DIRECTIONALITY_PARAGRAPH_SEPARATOR"), (0, u "DIRECTIONALITY_SEGMENT_SEPARATOR"), (0, u "DIRECTIONALITY_WHITESPACE"), (0, u "DIRECTIONALITY_OTHER_NEUTRALS"), (0, u "DIRECTIONALITY_LEFT_TO_RIGHT_EMBEDDING"), (0, u "DIRECTIONALITY_LEFT_TO_RIGHT_OVERRIDE"), (0, u "DIRECTIONALITY_RIGHT_TO_LEFT_EMBEDDING"), (0, u "DIRECTIONALITY_RIGHT_TO_LEFT_OVERRIDE"), (1, u "DIRECTIONALITY_POP_DIRECTIONAL_FORMAT"), (0, u "DIRECTIONALITY_LEFT_TO_RIGHT_ISOLATE"), (0, u "DIRECTIONALITY_RIGHT_TO_LEFT_ISOLATE"), (0, u "DIRECTIONALITY_FIRST_STRONG_ISOLATE"), (0, u "DIRECTIONALITY_POP_DIRECTIONAL_ISOLATE"), (0, u "MIN_HIGH_SURROGATE"), (0, u "MAX_HIGH_SURROGATE"), (1, u "MIN_LOW_SURROGATE"), (0, u "MAX_LOW_SURROGATE"), (1, u "MIN_SURROGATE"), (0, u "MAX_SURROGATE"), (0, u "MIN_SUPPLEMENTARY_CODE_POINT"), (0, u "MIN_CODE_POINT"), (0, u "MAX_CODE_POINT"), (1, u "serialVersionUID"), (0, u "J"), (2, u "SIZE"), (0, u "BYTES"), (88, .class_ 596), (0, u "java/lang/Character$UnicodeScript"), (0, .class_ 598), (0, u "java/lang/Character$Subset")] 5

def k17c0 : Code := { maxStack := 1, maxLocals := 1, code := jdk_89_method_88_code, exceptionTable := #[], attributes := #[] }
def k17m0 : Method := { name := "isISOControl", desc := "(C)Z", sig := { parameters := [.char], returnType := some .boolean }, accessFlags := 9, code := some k17c0 }
def k17c1 : Code := { maxStack := 2, maxLocals := 1, code := jdk_89_method_89_code, exceptionTable := #[], attributes := #[] }
def k17m1 : Method := { name := "isISOControl", desc := "(I)Z", sig := { parameters := [.int], returnType := some .boolean }, accessFlags := 9, code := some k17c1 }
/-- java/lang/Character -/
def k17 : Class := { plain "java/lang/Character" (some 0) with
  accessFlags := 49
  interfaces := #[2, 3, 5]
  cf := some (fileOf pool17 1 #[.nestMembers #[48, 595, 307, 597]] #[{ accessFlags := 9, nameIndex := 268, descriptorIndex := 81, attributes := #[] }, { accessFlags := 9, nameIndex := 268, descriptorIndex := 114, attributes := #[] }] 49 42 #[385, 387, 389] #[{ accessFlags := 25, nameIndex := 391, descriptorIndex := 392, attributes := #[] }, { accessFlags := 25, nameIndex := 395, descriptorIndex := 392, attributes := #[] }, { accessFlags := 25, nameIndex := 397, descriptorIndex := 22, attributes := #[] }, { accessFlags := 25, nameIndex := 399, descriptorIndex := 22, attributes := #[] }, { accessFlags := 25, nameIndex := 383, descriptorIndex := 384, attributes := #[] }, { accessFlags := 25, nameIndex := 403, descriptorIndex := 404, attributes := #[] }, { accessFlags := 25, nameIndex := 405, descriptorIndex := 404, attributes := #[] }, { accessFlags := 25, nameIndex := 407, descriptorIndex := 404, attributes := #[] }, { accessFlags := 25, nameIndex := 408, descriptorIndex := 404, attributes := #[] }, { accessFlags := 25, nameIndex := 410, descriptorIndex := 404, attributes := #[] }, { accessFlags := 25, nameIndex := 412, descriptorIndex := 404, attributes := #[] }, { accessFlags := 25, nameIndex := 414, descriptorIndex := 404, attributes := #[] }, { accessFlags := 25, nameIndex := 416, descriptorIndex := 404, attributes := #[] }, { accessFlags := 25, nameIndex := 418, descriptorIndex := 404, attributes := #[] }, { accessFlags := 25, nameIndex := 420, descriptorIndex := 404, attributes := #[] }, { accessFlags := 25, nameIndex := 422, descriptorIndex := 404, attributes := #[] }, { accessFlags := 25, nameIndex := 424, descriptorIndex := 404, attributes := #[] }, { accessFlags := 25, nameIndex := 426, descriptorIndex := 404, attributes := #[] }, { accessFlags := 25, nameIndex := 428, descriptorIndex := 404, attributes := #[] }, { accessFlags := 25, nameIndex := 430, descriptorIndex := 404, attributes := #[] }, { accessFlags := 25, nameIndex := 432, descriptorIndex := 404, attributes := #[] }, { accessFlags := 25, nameIndex := 434, descriptorIndex := 404, attributes := #[] }, { accessFlags := 25, nameIndex := 436, descriptorIndex := 404, attributes := #[] }, { accessFlags := 25, nameIndex := 438, descriptorIndex := 404, attributes := #[] }, { accessFlags := 25, nameIndex := 440, descriptorIndex := 404, attributes := #[] }, { accessFlags := 25, nameIndex := 442, descriptorIndex := 404, attributes := #[] }, { accessFlags := 25, nameIndex := 444, descriptorIndex := 404, attributes := #[] }, { accessFlags := 25, nameIndex := 446, descriptorIndex := 404, attributes := #[] }, { accessFlags := 25, nameIndex := 448, descriptorIndex := 404, attributes := #[] }, { accessFlags := 25, nameIndex := 450, descriptorIndex := 404, attributes := #[] }, { accessFlags := 25, nameIndex := 452, descriptorIndex := 404, attributes := #[] }, { accessFlags := 25, nameIndex := 454, descriptorIndex := 404, attributes := #[] }, { accessFlags := 25, nameIndex := 456, descriptorIndex := 404, attributes := #[] }, { accessFlags := 25, nameIndex := 458, descriptorIndex := 404, attributes := #[] }, { accessFlags := 25, nameIndex := 460, descriptorIndex := 404, attributes := #[] }, { accessFlags := 24, nameIndex := 462, descriptorIndex := 392, attributes := #[] }, { accessFlags := 25, nameIndex := 464, descriptorIndex := 404, attributes := #[] }, { accessFlags := 25, nameIndex := 465, descriptorIndex := 404, attributes := #[] }, { accessFlags := 25, nameIndex := 466, descriptorIndex := 404, attributes := #[] }, { accessFlags := 25, nameIndex := 467, descriptorIndex := 404, attributes := #[] }, { accessFlags := 25, nameIndex := 468, descriptorIndex := 404, attributes := #[] }, { accessFlags := 25, nameIndex := 469, descriptorIndex := 404, attributes := #[] }, { accessFlags := 25, nameIndex := 470, descriptorIndex := 404, attributes := #[] }, { accessFlags := 25, nameIndex := 471, descriptorIndex := 404, attributes := #[] }, { accessFlags := 25, nameIndex := 472, descriptorIndex := 404, attributes := #[] }, { accessFlags := 25, nameIndex := 473, descriptorIndex := 404, attributes := #[] }, { accessFlags := 25, nameIndex := 474, descriptorIndex := 404, attributes := #[] }, { accessFlags := 25, nameIndex := 475, descriptorIndex := 404, attributes := #[] }, { accessFlags := 25, nameIndex := 476, descriptorIndex := 404, attributes := #[] }, { accessFlags := 25, nameIndex := 477, descriptorIndex := 404, attributes := #[] }, { accessFlags := 25, nameIndex := 478, descriptorIndex := 404, attributes := #[] }, { accessFlags := 25, nameIndex := 479, descriptorIndex := 404, attributes := #[] }, { accessFlags := 25, nameIndex := 480, descriptorIndex := 404, attributes := #[] }, { accessFlags := 25, nameIndex := 481, descriptorIndex := 404, attributes := #[] }, { accessFlags := 25, nameIndex := 482, descriptorIndex := 404, attributes := #[] }, { accessFlags := 25, nameIndex := 484, descriptorIndex := 404, attributes := #[] }, { accessFlags := 25, nameIndex := 485, descriptorIndex := 404, attributes := #[] }, { accessFlags := 25, nameIndex := 486, descriptorIndex := 404, attributes := #[] }, { accessFlags := 25, nameIndex := 487, descriptorIndex := 404, attributes := #[] }, { accessFlags := 25, nameIndex := 488, descriptorIndex := 404, attributes := #[] }, { accessFlags := 25, nameIndex := 489, descriptorIndex := 22, attributes := #[] }, { accessFlags := 25, nameIndex := 490, descriptorIndex := 22, attributes := #[] }, { accessFlags := 25, nameIndex := 492, descriptorIndex := 22, attributes := #[] }, { accessFlags := 25, nameIndex := 493, descriptorIndex := 22, attributes := #[] }, { accessFlags := 25, nameIndex := 495, descriptorIndex := 22, attributes := #[] }, { accessFlags := 25, nameIndex := 496, descriptorIndex := 22, attributes := #[] }, { accessFlags := 25, nameIndex := 497, descriptorIndex := 392, attributes := #[] }, { accessFlags := 25, nameIndex := 498, descriptorIndex := 392, attributes := #[] }, { accessFlags := 25, nameIndex := 499, descriptorIndex := 392, attributes := #[] }, { accessFlags := 18, nameIndex := 21, descriptorIndex := 22, attributes := #[] }, { accessFlags := 26, nameIndex := 501, descriptorIndex := 502, attributes := #[] }, { accessFlags := 25, nameIndex := 505, descriptorIndex := 392, attributes := #[] }, { accessFlags := 25, nameIndex := 506, descriptorIndex := 392, attributes := #[] }, { accessFlags := 4120, nameIndex := 284, descriptorIndex := 285, attributes := #[] }])
  fields := #[{ name := "MIN_RADIX", type := .int, accessFlags := 25, slot := 0, constantValue := 0 }, { name := "MAX_RADIX", type := .int, accessFlags := 25, slot := 1, constantValue := 0 }, { name := "MIN_VALUE", type := .char, accessFlags := 25, slot := 2, constantValue := 0 }, { name := "MAX_VALUE", type := .char, accessFlags := 25, slot := 3, constantValue := 0 }, { name := "TYPE", type := (.object "java/lang/Class"), accessFlags := 25, slot := 4, constantValue := 0 }, { name := "UNASSIGNED", type := .byte, accessFlags := 25, slot := 5, constantValue := 0 }, { name := "UPPERCASE_LETTER", type := .byte, accessFlags := 25, slot := 6, constantValue := 0 }, { name := "LOWERCASE_LETTER", type := .byte, accessFlags := 25, slot := 7, constantValue := 0 }, { name := "TITLECASE_LETTER", type := .byte, accessFlags := 25, slot := 8, constantValue := 0 }, { name := "MODIFIER_LETTER", type := .byte, accessFlags := 25, slot := 9, constantValue := 0 }, { name := "OTHER_LETTER", type := .byte, accessFlags := 25, slot := 10, constantValue := 0 }, { name := "NON_SPACING_MARK", type := .byte, accessFlags := 25, slot := 11, constantValue := 0 }, { name := "ENCLOSING_MARK", type := .byte, accessFlags := 25, slot := 12, constantValue := 0 }, { name := "COMBINING_SPACING_MARK", type := .byte, accessFlags := 25, slot := 13, constantValue := 0 }, { name := "DECIMAL_DIGIT_NUMBER", type := .byte, accessFlags := 25, slot := 14, constantValue := 0 }, { name := "LETTER_NUMBER", type := .byte, accessFlags := 25, slot := 15, constantValue := 0 }, { name := "OTHER_NUMBER", type := .byte, accessFlags := 25, slot := 16, constantValue := 0 }, { name := "SPACE_SEPARATOR", type := .byte, accessFlags := 25, slot := 17, constantValue := 0 }, { name := "LINE_SEPARATOR", type := .byte, accessFlags := 25, slot := 18, constantValue := 0 }, { name := "PARAGRAPH_SEPARATOR", type := .byte, accessFlags := 25, slot := 19, constantValue := 0 }, { name := "CONTROL", type := .byte, accessFlags := 25, slot := 20, constantValue := 0 }, { name := "FORMAT", type := .byte, accessFlags := 25, slot := 21, constantValue := 0 }, { name := "PRIVATE_USE", type := .byte, accessFlags := 25, slot := 22, constantValue := 0 }, { name := "SURROGATE", type := .byte, accessFlags := 25, slot := 23, constantValue := 0 }, { name := "DASH_PUNCTUATION", type := .byte, accessFlags := 25, slot := 24, constantValue := 0 }, { name := "START_PUNCTUATION", type := .byte, accessFlags := 25, slot := 25, constantValue := 0 }, { name := "END_PUNCTUATION", type := .byte, accessFlags := 25, slot := 26, constantValue := 0 }, { name := "CONNECTOR_PUNCTUATION", type := .byte, accessFlags := 25, slot := 27, constantValue := 0 }, { name := "OTHER_PUNCTUATION", type := .byte, accessFlags := 25, slot := 28, constantValue := 0 }, { name := "MATH_SYMBOL", type := .byte, accessFlags := 25, slot := 29, constantValue := 0 }, { name := "CURRENCY_SYMBOL", type := .byte, accessFlags := 25, slot := 30, constantValue := 0 }, { name := "MODIFIER_SYMBOL", type := .byte, accessFlags := 25, slot := 31, constantValue := 0 }, { name := "OTHER_SYMBOL", type := .byte, accessFlags := 25, slot := 32, constantValue := 0 }, { name := "INITIAL_QUOTE_PUNCTUATION", type := .byte, accessFlags := 25, slot := 33, constantValue := 0 }, { name := "FINAL_QUOTE_PUNCTUATION", type := .byte, accessFlags := 25, slot := 34, constantValue := 0 }, { name := "ERROR", type := .int, accessFlags := 24, slot := 35, constantValue := 0 }, { name := "DIRECTIONALITY_UNDEFINED", type := .byte, accessFlags := 25, slot := 36, constantValue := 0 }, { name := "DIRECTIONALITY_LEFT_TO_RIGHT", type := .byte, accessFlags := 25, slot := 37, constantValue := 0 }, { name := "DIRECTIONALITY_RIGHT_TO_LEFT", type := .byte, accessFlags := 25, slot := 38, constantValue := 0 }, { name := "DIRECTIONALITY_RIGHT_TO_LEFT_ARABIC", type := .byte, accessFlags := 25, slot := 39, constantValue := 0 }, { name := "DIRECTIONALITY_EUROPEAN_NUMBER", type := .byte, accessFlags := 25, slot := 40, constantValue := 0 }, { name := "DIRECTIONALITY_EUROPEAN_NUMBER_SEPARATOR", type := .byte, accessFlags := 25, slot := 41, constantValue := 0 }, { name := "DIRECTIONALITY_EUROPEAN_NUMBER_TERMINATOR", type := .byte, accessFlags := 25, slot := 42, constantValue := 0 }, { name := "DIRECTIONALITY_ARABIC_NUMBER", type := .byte, accessFlags := 25, slot := 43, constantValue := 0 }, { name := "DIRECTIONALITY_COMMON_NUMBER_SEPARATOR", type := .byte, accessFlags := 25, slot := 44, constantValue := 0 }, { name := "DIRECTIONALITY_NONSPACING_MARK", type := .byte, accessFlags := 25, slot := 45, constantValue := 0 }, { name := "DIRECTIONALITY_BOUNDARY_NEUTRAL", type := .byte, accessFlags := 25, slot := 46, constantValue := 0 }, { name := "DIRECTIONALITY_PARAGRAPH_SEPARATOR", type := .byte, accessFlags := 25, slot := 47, constantValue := 0 }, { name := "DIRECTIONALITY_SEGMENT_SEPARATOR", type := .byte, accessFlags := 25, slot := 48, constantValue := 0 }, { name := "DIRECTIONALITY_WHITESPACE", type := .byte, accessFlags := 25, slot := 49, constantValue := 0 }, { name := "DIRECTIONALITY_OTHER_NEUTRALS", type := .byte, accessFlags := 25, slot := 50, constantValue := 0 }, { name := "DIRECTIONALITY_LEFT_TO_RIGHT_EMBEDDING", type := .byte, accessFlags := 25, slot := 51, constantValue := 0 }, { name := "DIRECTIONALITY_LEFT_TO_RIGHT_OVERRIDE", type := .byte, accessFlags := 25, slot := 52, constantValue := 0 }, { name := "DIRECTIONALITY_RIGHT_TO_LEFT_EMBEDDING", type := .byte, accessFlags := 25, slot := 53, constantValue := 0 }, { name := "DIRECTIONALITY_RIGHT_TO_LEFT_OVERRIDE", type := .byte, accessFlags := 25, slot := 54, constantValue := 0 }, { name := "DIRECTIONALITY_POP_DIRECTIONAL_FORMAT", type := .byte, accessFlags := 25, slot := 55, constantValue := 0 }, { name := "DIRECTIONALITY_LEFT_TO_RIGHT_ISOLATE", type := .byte, accessFlags := 25, slot := 56, constantValue := 0 }, { name := "DIRECTIONALITY_RIGHT_TO_LEFT_ISOLATE", type := .byte, accessFlags := 25, slot := 57, constantValue := 0 }, { name := "DIRECTIONALITY_FIRST_STRONG_ISOLATE", type := .byte, accessFlags := 25, slot := 58, constantValue := 0 }, { name := "DIRECTIONALITY_POP_DIRECTIONAL_ISOLATE", type := .byte, accessFlags := 25, slot := 59, constantValue := 0 }, { name := "MIN_HIGH_SURROGATE", type := .char, accessFlags := 25, slot := 60, constantValue := 0 }, { name := "MAX_HIGH_SURROGATE", type := .char, accessFlags := 25, slot := 61, constantValue := 0 }, { name := "MIN_LOW_SURROGATE", type := .char, accessFlags := 25, slot := 62, constantValue := 0 }, { name := "MAX_LOW_SURROGATE", type := .char, accessFlags := 25, slot := 63, constantValue := 0 }, { name := "MIN_SURROGATE", type := .char, accessFlags := 25, slot := 64, constantValue := 0 }, { name := "MAX_SURROGATE", type := .char, accessFlags := 25, slot := 65, constantValue := 0 }, { name := "MIN_SUPPLEMENTARY_CODE_POINT", type := .int, accessFlags := 25, slot := 66, constantValue := 0 }, { name := "MIN_CODE_POINT", type := .int, accessFlags := 25, slot := 67, constantValue := 0 }, { name := "MAX_CODE_POINT", type := .int, accessFlags := 25, slot := 68, constantValue := 0 }, { name := "value", type := .char, accessFlags := 18, slot := 0, constantValue := 0 }, { name := "serialVersionUID", type := .long, accessFlags := 26, slot := 69, constantValue := 0 }, { name := "SIZE", type := .int, accessFlags := 25, slot := 70, constantValue := 0 }, { name := "BYTES", type := .int, accessFlags := 25, slot := 71, constantValue := 0 }, { name := "$assertionsDisabled", type := .boolean, accessFlags := 4120, slot := 72, constantValue := 0 }]
  methods := #[k17m0, k17m1]
  instanceTypes := #[.char]
  staticTypes := #[.int, .int, .char, .char, (.object "java/lang/Class"), .byte, .byte, .byte, .byte, .byte, .byte, .byte, .byte, .byte, .byte, .byte, .byte, .byte, .byte, .byte, .byte, .byte, .byte, .byte, .byte, .byte, .byte, .byte, .byte, .byte, .byte, .byte, .byte, .byte, .byte, .int, .byte, .byte, .byte, .byte, .byte, .byte, .byte, .byte, .byte, .byte, .byte, .byte, .byte, .byte, .byte, .byte, .byte, .byte, .byte, .byte, .byte, .byte, .byte, .byte, .char, .char, .char, .char, .char, .char, .int, .int, .int, .long, .int, .int, .boolean]
  resolved := Array.replicate 604 none
  statics := none }

def pool18 : Array CpInfo := pool [(2, .class_ 4), (1, u "java/lang/Object"), (0, u "<init>"), (0, u "()V"), (1, .class_ 10), (1, u "java/lang/Number"), (2, .class_ 14), (0, u "java/io/Serializable"), (0, u "serialVersionUID"), (0, u "J")] 20

def k18m0 : Method := { name := "<init>", desc := "()V", sig := { parameters := [], returnType := none }, accessFlags := 1, code := none }
/-- java/lang/Number -/
def k18 : Class := { plain "java/lang/Number" (some 0) with
  accessFlags := 1057
  interfaces := #[2]
  cf := some (fileOf pool18 8 #[] #[{ accessFlags := 1, nameIndex := 5, descriptorIndex := 6, attributes := #[] }] 1057 2 #[13] #[{ accessFlags := 26, nameIndex := 15, descriptorIndex := 16, attributes := #[] }])
  fields := #[{ name := "serialVersionUID", type := .long, accessFlags := 26, slot := 0, constantValue := 0 }]
  methods := #[k18m0]
  instanceTypes := #[]
  staticTypes := #[.long]
  resolved := Array.replicate 37 none
  statics := none }

def pool19 : Array CpInfo := pool [(1, .class_ 2), (0, u "java/lang/Integer"), (2, .class_ 6), (0, u "java/lang/String"), (5, u "(I)Ljava/lang/String;"), (0, .fieldref 5 14), (0, .nameAndType 15 16), (0, u "COMPACT_STRINGS"), (0, u "Z"), (0, .fieldref 1 18), (0, .nameAndType 19 20), (0, u "digits"), (0, u "[C"), (9, u "(II)Ljava/lang/String;"), (17, .methodref 1 49), (0, .nameAndType 50 30), (0, u "toUnsignedString0"), (0, .methodref 1 52), (0, .nameAndType 53 54), (0, u "numberOfLeadingZeros"), (0, u "(I)I"), (0, .methodref 56 57), (0, .class_ 58), (0, .nameAndType 59 60), (0, u "java/lang/Math"), (0, u "max"), (0, u "(II)I"), (0, .methodref 1 62), (0, .nameAndType 63 64), (0, u "formatUnsignedInt"), (0, u "(II[BI)V"), (0, .methodref 5 66), (0, .nameAndType 67 68), (0, u "<init>"), (0, u "([BB)V"), (16, u "DigitOnes"), (0, u "[B"), (2, u "DigitTens"), (99, .class_ 190), (0, u "java/lang/Integer$IntegerCache"), (3, u "I"), (8, .class_ 204), (0, u "java/lang/Number"), (2, u "value"), (56, .integer 65536), (37, u "TYPE"), (0, u "Ljava/lang/Class;"), (0, .class_ 305), (0, u "java/lang/Comparable"), (0, .class_ 307), (0, u "java/lang/constant/Constable"), (0, .class_ 309), (0, u "java/lang/constant/ConstantDesc"), (0, u "MIN_VALUE"), (1, u "MAX_VALUE"), (3, u "SIZE"), (1, u "BYTES"), (1, u "serialVersionUID"), (0, u "J"), (12, u "toHexString")] 118

def k19c0 : Code := { maxStack := 2, maxLocals := 1, code := jdk_33_method_4_code, exceptionTable := #[], attributes := #[] }
def k19m0 : Method := { name := "toHexString", desc := "(I)Ljava/lang/String;", sig := { parameters := [.int], returnType := some (.object "java/lang/String") }, accessFlags := 9, code := some k19c0 }
def k19c1 : Code := { maxStack := 4, maxLocals := 5, code := jdk_33_method_7_code, exceptionTable := #[], attributes := #[] }
def k19m1 : Method := { name := "toUnsignedString0", desc := "(II)Ljava/lang/String;", sig := { parameters := [.int, .int], returnType := some (.object "java/lang/String") }, accessFlags := 10, code := some k19c1 }
def k19c2 : Code := { maxStack := 5, maxLocals := 7, code := jdk_33_method_8_code, exceptionTable := #[], attributes := #[] }
def k19m2 : Method := { name := "formatUnsignedInt", desc := "(II[BI)V", sig := { parameters := [.int, .int, (.array .byte), .int], returnType := none }, accessFlags := 10, code := some k19c2 }
def k19c3 : Code := { maxStack := 3, maxLocals := 2, code := jdk_33_method_47_code, exceptionTable := #[], attributes := #[] }
def k19m3 : Method := { name := "numberOfLeadingZeros", desc := "(I)I", sig := { parameters := [.int], returnType := some .int }, accessFlags := 9, code := some k19c3 }
/-- java/lang/Integer -/
def k19 : Class := { plain "java/lang/Integer" (some 18) with
  accessFlags := 49
  interfaces := #[3, 5, 6]
  cf := some (fileOf pool19 1 #[.nestMembers #[189]] #[{ accessFlags := 9, nameIndex := 334, descriptorIndex := 12, attributes := #[] }, { accessFlags := 10, nameIndex := 50, descriptorIndex := 30, attributes := #[] }, { accessFlags := 10, nameIndex := 63, descriptorIndex := 64, attributes := #[] }, { accessFlags := 9, nameIndex := 53, descriptorIndex := 54, attributes := #[] }] 49 203 #[304, 306, 308] #[{ accessFlags := 25, nameIndex := 310, descriptorIndex := 194, attributes := #[] }, { accessFlags := 25, nameIndex := 312, descriptorIndex := 194, attributes := #[] }, { accessFlags := 25, nameIndex := 302, descriptorIndex := 303, attributes := #[] }, { accessFlags := 24, nameIndex := 19, descriptorIndex := 20, attributes := #[] }, { accessFlags := 24, nameIndex := 89, descriptorIndex := 86, attributes := #[] }, { accessFlags := 24, nameIndex := 85, descriptorIndex := 86, attributes := #[] }, { accessFlags := 18, nameIndex := 207, descriptorIndex := 194, attributes := #[] }, { accessFlags := 25, nameIndex := 316, descriptorIndex := 194, attributes := #[] }, { accessFlags := 25, nameIndex := 318, descriptorIndex := 194, attributes := #[] }, { accessFlags := 26, nameIndex := 320, descriptorIndex := 321, attributes := #[] }])
  fields := #[{ name := "MIN_VALUE", type := .int, accessFlags := 25, slot := 0, constantValue := 0 }, { name := "MAX_VALUE", type := .int, accessFlags := 25, slot := 1, constantValue := 0 }, { name := "TYPE", type := (.object "java/lang/Class"), accessFlags := 25, slot := 2, constantValue := 0 }, { name := "digits", type := (.array .char), accessFlags := 24, slot := 3, constantValue := 0 }, { name := "DigitTens", type := (.array .byte), accessFlags := 24, slot := 4, constantValue := 0 }, { name := "DigitOnes", type := (.array .byte), accessFlags := 24, slot := 5, constantValue := 0 }, { name := "value", type := .int, accessFlags := 18, slot := 0, constantValue := 0 }, { name := "SIZE", type := .int, accessFlags := 25, slot := 6, constantValue := 0 }, { name := "BYTES", type := .int, accessFlags := 25, slot := 7, constantValue := 0 }, { name := "serialVersionUID", type := .long, accessFlags := 26, slot := 8, constantValue := 0 }]
  methods := #[k19m0, k19m1, k19m2, k19m3]
  instanceTypes := #[.int]
  staticTypes := #[.int, .int, (.object "java/lang/Class"), (.array .char), (.array .byte), (.array .byte), .int, .int, .long]
  resolved := Array.replicate 453 none
  statics := some 3 }

def pool20 : Array CpInfo := pool [(1, .class_ 2), (0, u "java/lang/Math"), (1, .class_ 6), (1, u "java/lang/Object"), (0, u "<init>"), (0, u "()V"), (89, .class_ 100), (1, u "java/lang/Math$RandomNumberGeneratorHolder"), (71, u "negativeZeroFloatBits"), (0, u "J"), (2, u "negativeZeroDoubleBits"), (21, u "max"), (2, u "min"), (43, u "$assertionsDisabled"), (0, u "Z"), (88, u "(II)I"), (2, u "twoToTheDoubleScaleDown"), (0, u "D"), (4, u "twoToTheDoubleScaleUp"), (9, u "E"), (3, u "PI"), (2, u "TAU"), (2, u "DEGREES_TO_RADIANS"), (0, u "RADIANS_TO_DEGREES")] 94

def k20m0 : Method := { name := "<init>", desc := "()V", sig := { parameters := [], returnType := none }, accessFlags := 2, code := none }
def k20c1 : Code := { maxStack := 2, maxLocals := 2, code := jdk_29_method_65_code, exceptionTable := #[], attributes := #[] }
def k20m1 : Method := { name := "max", desc := "(II)I", sig := { parameters := [.int, .int], returnType := some .int }, accessFlags := 9, code := some k20c1 }
def k20c2 : Code := { maxStack := 2, maxLocals := 2, code := jdk_29_method_69_code, exceptionTable := #[], attributes := #[] }
def k20m2 : Method := { name := "min", desc := "(II)I", sig := { parameters := [.int, .int], returnType := some .int }, accessFlags := 9, code := some k20c2 }
/-- java/lang/Math -/
def k20 : Class := { plain "java/lang/Math" (some 0) with
  accessFlags := 49
  interfaces := #[]
  cf := some (fileOf pool20 1 #[.nestMembers #[98]] #[{ accessFlags := 2, nameIndex := 7, descriptorIndex := 8, attributes := #[] }, { accessFlags := 9, nameIndex := 198, descriptorIndex := 335, attributes := #[] }, { accessFlags := 9, nameIndex := 201, descriptorIndex := 335, attributes := #[] }] 49 4 #[] #[{ accessFlags := 25, nameIndex := 354, descriptorIndex := 339, attributes := #[] }, { accessFlags := 25, nameIndex := 358, descriptorIndex := 339, attributes := #[] }, { accessFlags := 25, nameIndex := 361, descriptorIndex := 339, attributes := #[] }, { accessFlags := 26, nameIndex := 364, descriptorIndex := 339, attributes := #[] }, { accessFlags := 26, nameIndex := 365, descriptorIndex := 339, attributes := #[] }, { accessFlags := 26, nameIndex := 172, descriptorIndex := 173, attributes := #[] }, { accessFlags := 26, nameIndex := 176, descriptorIndex := 173, attributes := #[] }, { accessFlags := 8, nameIndex := 344, descriptorIndex := 339, attributes := #[] }, { accessFlags := 8, nameIndex := 338, descriptorIndex := 339, attributes := #[] }, { accessFlags := 4120, nameIndex := 245, descriptorIndex := 246, attributes := #[] }])
  fields := #[{ name := "E", type := .double, accessFlags := 25, slot := 0, constantValue := 0 }, { name := "PI", type := .double, accessFlags := 25, slot := 1, constantValue := 0 }, { name := "TAU", type := .double, accessFlags := 25, slot := 2, constantValue := 0 }, { name := "DEGREES_TO_RADIANS", type := .double, accessFlags := 26, slot := 3, constantValue := 0 }, { name := "RADIANS_TO_DEGREES", type := .double, accessFlags := 26, slot := 4, constantValue := 0 }, { name := "negativeZeroFloatBits", type := .long, accessFlags := 26, slot := 5, constantValue := 0 }, { name := "negativeZeroDoubleBits", type := .long, accessFlags := 26, slot := 6, constantValue := 0 }, { name := "twoToTheDoubleScaleUp", type := .double, accessFlags := 8, slot := 7, constantValue := 0 }, { name := "twoToTheDoubleScaleDown", type := .double, accessFlags := 8, slot := 8, constantValue := 0 }, { name := "$assertionsDisabled", type := .boolean, accessFlags := 4120, slot := 9, constantValue := 0 }]
  methods := #[k20m0, k20m1, k20m2]
  instanceTypes := #[]
  staticTypes := #[.double, .double, .double, .double, .double, .long, .long, .double, .double, .boolean]
  resolved := Array.replicate 460 none
  statics := none }

def pool21 : Array CpInfo := pool [(9, u "<init>"), (6, .class_ 18), (1, u "java/lang/Object"), (0, u "()V"), (1, .class_ 23), (1, u "jdk/internal/util/ArraysSupport"), (0, u "LOG2_ARRAY_LONG_INDEX_SCALE"), (0, u "I"), (2, u "U"), (0, u "Ljdk/internal/misc/Unsafe;"), (8, u "BIG_ENDIAN"), (0, u "Z"), (8, u "LOG2_BYTE_BIT_SIZE"), (4, u "LOG2_ARRAY_INT_INDEX_SCALE"), (54, u "JLA"), (0, u "Ljdk/internal/access/JavaLangAccess;"), (11, u "LOG2_ARRAY_BOOLEAN_INDEX_SCALE"), (9, u "LOG2_ARRAY_BYTE_INDEX_SCALE"), (5, u "LOG2_ARRAY_CHAR_INDEX_SCALE"), (5, u "LOG2_ARRAY_SHORT_INDEX_SCALE"), (18, u "LOG2_ARRAY_FLOAT_INDEX_SCALE"), (24, u "LOG2_ARRAY_DOUBLE_INDEX_SCALE"), (6, .methodref 195 196), (0, .class_ 197), (0, .nameAndType 198 199), (0, u "java/lang/Math"), (0, u "max"), (0, u "(II)I"), (0, .integer 2147483639), (76, u "T_BOOLEAN"), (2, u "T_CHAR"), (1, u "T_FLOAT"), (1, u "T_DOUBLE"), (1, u "T_BYTE"), (1, u "T_SHORT"), (1, u "T_INT"), (1, u "T_LONG"), (1, u "SOFT_MAX_ARRAY_LENGTH"), (56, u "newLength"), (0, u "(III)I")] 25

def k21m0 : Method := { name := "<init>", desc := "()V", sig := { parameters := [], returnType := none }, accessFlags := 2, code := none }
def k21c1 : Code := { maxStack := 3, maxLocals := 4, code := jdk_48_method_27_code, exceptionTable := #[], attributes := #[] }
def k21m1 : Method := { name := "newLength", desc := "(III)I", sig := { parameters := [.int, .int, .int], returnType := some .int }, accessFlags := 9, code := some k21c1 }
/-- jdk/internal/util/ArraysSupport -/
def k21 : Class := { plain "jdk/internal/util/ArraysSupport" (some 0) with
  accessFlags := 33
  interfaces := #[]
  cf := some (fileOf pool21 21 #[] #[{ accessFlags := 2, nameIndex := 9, descriptorIndex := 19, attributes := #[] }, { accessFlags := 9, nameIndex := 351, descriptorIndex := 352, attributes := #[] }] 33 16 #[] #[{ accessFlags := 24, nameIndex := 28, descriptorIndex := 29, attributes := #[] }, { accessFlags := 26, nameIndex := 38, descriptorIndex := 39, attributes := #[] }, { accessFlags := 25, nameIndex := 121, descriptorIndex := 25, attributes := #[] }, { accessFlags := 25, nameIndex := 131, descriptorIndex := 25, attributes := #[] }, { accessFlags := 25, nameIndex := 137, descriptorIndex := 25, attributes := #[] }, { accessFlags := 25, nameIndex := 143, descriptorIndex := 25, attributes := #[] }, { accessFlags := 25, nameIndex := 53, descriptorIndex := 25, attributes := #[] }, { accessFlags := 25, nameIndex := 24, descriptorIndex := 25, attributes := #[] }, { accessFlags := 25, nameIndex := 162, descriptorIndex := 25, attributes := #[] }, { accessFlags := 25, nameIndex := 187, descriptorIndex := 25, attributes := #[] }, { accessFlags := 26, nameIndex := 48, descriptorIndex := 25, attributes := #[] }, { accessFlags := 25, nameIndex := 277, descriptorIndex := 25, attributes := #[] }, { accessFlags := 25, nameIndex := 280, descriptorIndex := 25, attributes := #[] }, { accessFlags := 25, nameIndex := 282, descriptorIndex := 25, attributes := #[] }, { accessFlags := 25, nameIndex := 284, descriptorIndex := 25, attributes := #[] }, { accessFlags := 25, nameIndex := 286, descriptorIndex := 25, attributes := #[] }, { accessFlags := 25, nameIndex := 288, descriptorIndex := 25, attributes := #[] }, { accessFlags := 25, nameIndex := 290, descriptorIndex := 25, attributes := #[] }, { accessFlags := 25, nameIndex := 292, descriptorIndex := 25, attributes := #[] }, { accessFlags := 26, nameIndex := 108, descriptorIndex := 109, attributes := #[] }, { accessFlags := 25, nameIndex := 294, descriptorIndex := 25, attributes := #[] }])
  fields := #[{ name := "U", type := (.object "jdk/internal/misc/Unsafe"), accessFlags := 24, slot := 0, constantValue := 0 }, { name := "BIG_ENDIAN", type := .boolean, accessFlags := 26, slot := 1, constantValue := 0 }, { name := "LOG2_ARRAY_BOOLEAN_INDEX_SCALE", type := .int, accessFlags := 25, slot := 2, constantValue := 0 }, { name := "LOG2_ARRAY_BYTE_INDEX_SCALE", type := .int, accessFlags := 25, slot := 3, constantValue := 0 }, { name := "LOG2_ARRAY_CHAR_INDEX_SCALE", type := .int, accessFlags := 25, slot := 4, constantValue := 0 }, { name := "LOG2_ARRAY_SHORT_INDEX_SCALE", type := .int, accessFlags := 25, slot := 5, constantValue := 0 }, { name := "LOG2_ARRAY_INT_INDEX_SCALE", type := .int, accessFlags := 25, slot := 6, constantValue := 0 }, { name := "LOG2_ARRAY_LONG_INDEX_SCALE", type := .int, accessFlags := 25, slot := 7, constantValue := 0 }, { name := "LOG2_ARRAY_FLOAT_INDEX_SCALE", type := .int, accessFlags := 25, slot := 8, constantValue := 0 }, { name := "LOG2_ARRAY_DOUBLE_INDEX_SCALE", type := .int, accessFlags := 25, slot := 9, constantValue := 0 }, { name := "LOG2_BYTE_BIT_SIZE", type := .int, accessFlags := 26, slot := 10, constantValue := 0 }, { name := "T_BOOLEAN", type := .int, accessFlags := 25, slot := 11, constantValue := 0 }, { name := "T_CHAR", type := .int, accessFlags := 25, slot := 12, constantValue := 0 }, { name := "T_FLOAT", type := .int, accessFlags := 25, slot := 13, constantValue := 0 }, { name := "T_DOUBLE", type := .int, accessFlags := 25, slot := 14, constantValue := 0 }, { name := "T_BYTE", type := .int, accessFlags := 25, slot := 15, constantValue := 0 }, { name := "T_SHORT", type := .int, accessFlags := 25, slot := 16, constantValue := 0 }, { name := "T_INT", type := .int, accessFlags := 25, slot := 17, constantValue := 0 }, { name := "T_LONG", type := .int, accessFlags := 25, slot := 18, constantValue := 0 }, { name := "JLA", type := (.object "jdk/internal/access/JavaLangAccess"), accessFlags := 26, slot := 19, constantValue := 0 }, { name := "SOFT_MAX_ARRAY_LENGTH", type := .int, accessFlags := 25, slot := 20, constantValue := 0 }]
  methods := #[k21m0, k21m1]
  instanceTypes := #[]
  staticTypes := #[(.object "jdk/internal/misc/Unsafe"), .boolean, .int, .int, .int, .int, .int, .int, .int, .int, .int, .int, .int, .int, .int, .int, .int, .int, .int, (.object "jdk/internal/access/JavaLangAccess"), .int]
  resolved := Array.replicate 378 none
  statics := none }

def pool22 : Array CpInfo := pool [(2, .class_ 4), (1, u "java/lang/Object"), (0, u "<init>"), (0, u "()V"), (1, .class_ 10), (1, u "java/lang/System"), (0, u "allowSecurityManager"), (0, u "I"), (16, u "cons"), (0, u "Ljava/io/Console;"), (77, .class_ 110), (1, u "java/lang/System$CallersHolder"), (43, u "initialErrStream"), (0, u "Ljava/io/PrintStream;"), (19, u "security"), (0, u "Ljava/lang/SecurityManager;"), (31, .class_ 209), (0, u "java/lang/System$1"), (7, u "props"), (0, u "Ljava/util/Properties;"), (2, u "lineSeparator"), (0, u "Ljava/lang/String;"), (96, .class_ 321), (1, u "java/lang/System$LoggerFinder"), (5, .class_ 328), (0, u "java/lang/System$Logger"), (67, u "err"), (2, u "out"), (91, u "notSupportedJnuEncoding"), (15, u "in"), (17, u "initialIn"), (0, u "Ljava/io/InputStream;"), (35, u "bootLayer"), (0, u "Ljava/lang/ModuleLayer;"), (99, .class_ 664), (0, u "java/lang/System$2"), (9, u "NEVER"), (2, u "MAYBE"), (49, u "arraycopy"), (0, u "(Ljava/lang/Object;ILjava/lang/Object;II)V"), (72, .class_ 802), (0, u "java/lang/System$Logger$Level")] 31

def k22m0 : Method := { name := "<init>", desc := "()V", sig := { parameters := [], returnType := none }, accessFlags := 2, code := none }
def k22m1 : Method := { name := "arraycopy", desc := "(Ljava/lang/Object;ILjava/lang/Object;II)V", sig := { parameters := [(.object "java/lang/Object"), .int, (.object "java/lang/Object"), .int, .int], returnType := none }, accessFlags := 265, code := none }
/-- java/lang/System -/
def k22 : Class := { plain "java/lang/System" (some 0) with
  accessFlags := 49
  interfaces := #[]
  cf := some (fileOf pool22 8 #[.nestMembers #[319, 327, 801, 108, 663, 208]] #[{ accessFlags := 2, nameIndex := 5, descriptorIndex := 6, attributes := #[] }, { accessFlags := 265, nameIndex := 727, descriptorIndex := 728, attributes := #[] }] 49 2 #[] #[{ accessFlags := 25, nameIndex := 507, descriptorIndex := 526, attributes := #[] }, { accessFlags := 25, nameIndex := 399, descriptorIndex := 155, attributes := #[] }, { accessFlags := 25, nameIndex := 396, descriptorIndex := 155, attributes := #[] }, { accessFlags := 10, nameIndex := 525, descriptorIndex := 526, attributes := #[] }, { accessFlags := 26, nameIndex := 674, descriptorIndex := 12, attributes := #[] }, { accessFlags := 26, nameIndex := 677, descriptorIndex := 12, attributes := #[] }, { accessFlags := 10, nameIndex := 11, descriptorIndex := 12, attributes := #[] }, { accessFlags := 74, nameIndex := 175, descriptorIndex := 176, attributes := #[] }, { accessFlags := 10, nameIndex := 491, descriptorIndex := 222, attributes := #[] }, { accessFlags := 74, nameIndex := 29, descriptorIndex := 30, attributes := #[] }, { accessFlags := 74, nameIndex := 154, descriptorIndex := 155, attributes := #[] }, { accessFlags := 10, nameIndex := 217, descriptorIndex := 218, attributes := #[] }, { accessFlags := 10, nameIndex := 221, descriptorIndex := 222, attributes := #[] }, { accessFlags := 8, nameIndex := 562, descriptorIndex := 563, attributes := #[] }])
  fields := #[{ name := "in", type := (.object "java/io/InputStream"), accessFlags := 25, slot := 0, constantValue := 0 }, { name := "out", type := (.object "java/io/PrintStream"), accessFlags := 25, slot := 1, constantValue := 0 }, { name := "err", type := (.object "java/io/PrintStream"), accessFlags := 25, slot := 2, constantValue := 0 }, { name := "initialIn", type := (.object "java/io/InputStream"), accessFlags := 10, slot := 3, constantValue := 0 }, { name := "NEVER", type := .int, accessFlags := 26, slot := 4, constantValue := 0 }, { name := "MAYBE", type := .int, accessFlags := 26, slot := 5, constantValue := 0 }, { name := "allowSecurityManager", type := .int, accessFlags := 10, slot := 6, constantValue := 0 }, { name := "security", type := (.object "java/lang/SecurityManager"), accessFlags := 74, slot := 7, constantValue := 0 }, { name := "notSupportedJnuEncoding", type := (.object "java/lang/String"), accessFlags := 10, slot := 8, constantValue := 0 }, { name := "cons", type := (.object "java/io/Console"), accessFlags := 74, slot := 9, constantValue := 0 }, { name := "initialErrStream", type := (.object "java/io/PrintStream"), accessFlags := 74, slot := 10, constantValue := 0 }, { name := "props", type := (.object "java/util/Properties"), accessFlags := 10, slot := 11, constantValue := 0 }, { name := "lineSeparator", type := (.object "java/lang/String"), accessFlags := 10, slot := 12, constantValue := 0 }, { name := "bootLayer", type := (.object "java/lang/ModuleLayer"), accessFlags := 8, slot := 13, constantValue := 0 }]
  methods := #[k22m0, k22m1]
  instanceTypes := #[]
  staticTypes := #[(.object "java/io/InputStream"), (.object "java/io/PrintStream"), (.object "java/io/PrintStream"), (.object "java/io/InputStream"), .int, .int, .int, (.object "java/lang/SecurityManager"), (.object "java/lang/String"), (.object "java/io/Console"), (.object "java/io/PrintStream"), (.object "java/util/Properties"), (.object "java/lang/String"), (.object "java/lang/ModuleLayer")]
  resolved := Array.replicate 834 none
  statics := none }

/-- the primitive byte -/
def k23 : Class := { plain "byte" none with kind := .primitive 'B', accessFlags := 0x411 }
/-- [B -/
def k24 : Class := { plain "[B" (some 0) with kind := .array 23 .byte, interfaces := #[13, 2], accessFlags := 1041 }

/-- the primitive char -/
def k25 : Class := { plain "char" none with kind := .primitive 'C', accessFlags := 0x411 }
/-- [C -/
def k26 : Class := { plain "[C" (some 0) with kind := .array 25 .char, interfaces := #[13, 2], accessFlags := 1041 }

/-- the primitive int -/
def k27 : Class := { plain "int" none with kind := .primitive 'I', accessFlags := 0x411 }
/-- [I -/
def k28 : Class := { plain "[I" (some 0) with kind := .array 27 .int, interfaces := #[13, 2], accessFlags := 1041 }

def heap : Heap := #[{ cls := 7, slots := #[.long 0, .int 1, .null, .int 0, .null, .int 0, .int 0], vm := .statics 7 },
  { cls := 14, slots := #[.int 0, .int 8, .int 0, .int 1], vm := .statics 14 },
  { cls := 16, slots := #[.null, .null, .null], vm := .statics 16 },
  { cls := 19, slots := #[.int 0, .int 0, .null, .ref 4, .null, .null, .int 0, .int 0, .long 0], vm := .statics 19 },
  { cls := 26, slots := #[.int 48, .int 49, .int 50, .int 51, .int 52, .int 53, .int 54, .int 55, .int 56, .int 57, .int 97, .int 98, .int 99, .int 100, .int 101, .int 102, .int 103, .int 104, .int 105, .int 106, .int 107, .int 108, .int 109, .int 110, .int 111, .int 112, .int 113, .int 114, .int 115, .int 116, .int 117, .int 118, .int 119, .int 120, .int 121, .int 122], vm := .none }]
def classes : Array Class := #[k0, k1, k2, k3, k4, k5, k6, k7, k8, k9, k10, k11, k12, k13, k14, k15, k16, k17, k18, k19, k20, k21, k22, k23, k24, k25, k26, k27, k28]
def interned : List (Array UInt16 × Addr) := []
def slotsUsed : Nat := 59
def theMethod : MethodId := ⟨1, 1⟩
def args0 : Array Value := #[.int 3, .int 5, .int 6, .int 7]
def aboutOver (below : List Frame) : State where
  vm := { classes := classes, interned := interned.toArray }
  heap := heap
  slotsUsed := slotsUsed
  threads := #[{ frames := .invoking theMethod args0 :: below }]
def below0 : List Frame := [.native { method := ⟨0, 0⟩, args := #[] }]
def about1 : State := aboutOver below0
def p0 : Program := .bare "" "" ""
def e0 : Env := launch0.env 0 0 0
theorem w_frames : about1.frames = Frame.invoking theMethod args0 :: below0 := rfl
set_option maxRecDepth 65536 in
theorem w_args : argsFit about1.vm theMethod args0 = true := by decide +kernel
set_option maxRecDepth 65536 in
theorem w_heap : heapFits about1 = true := by decide +kernel
set_option maxRecDepth 65536 in
theorem w_runnable : about1.curStatus? = some .runnable := by decide +kernel
set_option maxRecDepth 65536 in
theorem w_alone : about1.alone = true := by decide +kernel
set_option maxRecDepth 65536 in
theorem w_named : about1.methodNamed? x = some theMethod := by decide +kernel
set_option maxRecDepth 65536 in
theorem w_hears : about1.hears theMethod below0 = true := by decide +kernel
set_option maxRecDepth 65536 in
theorem w_ripe : about1.ripe theMethod args0 below0 = true := by decide +kernel
theorem w_running : about1.status = .running := rfl
set_option maxRecDepth 65536 in
theorem w_room : about1.hasRoom e0.platform room_1 = true :=
  launch0.hasRoom_least _ room_1 (by decide +kernel) (by decide +kernel) (by decide +kernel) (by decide +kernel) (by decide +kernel) (by decide +kernel)
theorem allAtoms_all (ts : List Jvm.Cond) (a : Array Jvm.Value) (st : Jvm.State) : (allAtoms ts).before a st = ts.all (fun c => c.before a st) := by
  induction ts with
  | nil => rfl
  | cons c t ih =>
    show (Jvm.Cond.and c (allAtoms t)).before a st = _
    rw [Jvm.Cond.before_and, ih, List.all_cons]
def words1 : List Jvm.Cond := Jvm.Cond.code x code maxLocals ret :: tables_1
/-- a 'code' word, met by the world's own term for the bytes: nothing is compared byte by byte -/
theorem code_word {y : MethodName} {bytes : ByteArray} {mx : Nat} {rt : Option FieldType} {a : Array Value} {s : State} {m : MethodId} {meth : Method} {c : Code} (h1 : s.methodNamed? y = some m) (h2 : s.vm.method? m = some meth) (h3 : meth.code = some c) (h4 : c.code = bytes)
    (h5 : (c.maxLocals == mx && c.exceptionTable.isEmpty && decide (c.maxStack ≤ mostOperands) && decide (meth.sig.returnType = rt) && !meth.locks && decide (parseMethodDescriptor y.desc = some meth.sig)) = true) : (Jvm.Cond.code y bytes mx rt).before a s = true := by
  simp only [Bool.and_eq_true, beq_iff_eq, Bool.not_eq_true', decide_eq_true_eq] at h5
  obtain ⟨⟨⟨⟨⟨g1, g2⟩, g3⟩, g4⟩, g5⟩, g6⟩ := h5
  simp [Cond.before, Cond.holds, Cond.value, h1, h2, h3, h4, g1, g2, g3, g4, g5, g6]
def isCode : Jvm.Cond → Bool
  | .code _ _ _ _ => true
  | _ => false
theorem all_split {L : List Jvm.Cond} {P : Jvm.Cond → Bool} (h1 : L.all (fun c => isCode c || P c) = true) (h2 : ∀ c ∈ L.filter isCode, P c = true) : L.all P = true := by
  refine List.all_eq_true.mpr fun c hc => ?_
  have h := List.all_eq_true.mp h1 c hc
  rcases Bool.eq_false_or_eq_true (isCode c) with hi | hi
  · exact h2 c (List.mem_filter.mpr ⟨hc, hi⟩)
  · simpa [hi] using h
set_option maxRecDepth 65536 in
theorem w_c0 : (Jvm.Cond.code x code maxLocals ret).before args0 about1 = true := code_word (m := ⟨1, 1⟩) (meth := k1m1) (c := k1c1) (by decide +kernel) rfl rfl rfl (by decide +kernel)
set_option maxRecDepth 65536 in
theorem w_c1 : (Jvm.Cond.code ({ cls := "com/example/motes_to_bounds/motestobounds/io/TextReportPrintablePinLaw", name := "draw", desc := "(I)C" } : Jvm.MethodName) method_3_code (3 : Nat) (Option.some Jvm.ClassFile.FieldType.char)).before args0 about1 = true := code_word (m := ⟨1, 2⟩) (meth := k1m2) (c := k1c2) (by decide +kernel) rfl rfl rfl (by decide +kernel)
set_option maxRecDepth 65536 in
theorem w_c2 : (Jvm.Cond.code ({ cls := "com/example/motes_to_bounds/motestobounds/io/TextReport", name := "printable", desc := "(Ljava/lang/String;)Ljava/lang/String;" } : Jvm.MethodName) prog_20_method_8_code (5 : Nat) (Option.some (Jvm.ClassFile.FieldType.object "java/lang/String"))).before args0 about1 = true := code_word (m := ⟨8, 1⟩) (meth := k8m1) (c := k8c1) (by decide +kernel) rfl rfl rfl (by decide +kernel)
set_option maxRecDepth 65536 in
theorem w_c3 : (Jvm.Cond.code ({ cls := "java/lang/String", name := "length", desc := "()I" } : Jvm.MethodName) jdk_42_method_54_code (1 : Nat) (Option.some Jvm.ClassFile.FieldType.int)).before args0 about1 = true := code_word (m := ⟨7, 3⟩) (meth := k7m3) (c := k7c3) (by decide +kernel) rfl rfl rfl (by decide +kernel)
set_option maxRecDepth 65536 in
theorem w_c4 : (Jvm.Cond.code ({ cls := "java/lang/String", name := "coder", desc := "()B" } : Jvm.MethodName) jdk_42_method_152_code (1 : Nat) (Option.some Jvm.ClassFile.FieldType.byte)).before args0 about1 = true := code_word (m := ⟨7, 11⟩) (meth := k7m11) (c := k7c11) (by decide +kernel) rfl rfl rfl (by decide +kernel)
set_option maxRecDepth 65536 in
theorem w_c5 : (Jvm.Cond.code ({ cls := "java/lang/StringBuilder", name := "<init>", desc := "(I)V" } : Jvm.MethodName) jdk_67_method_2_code (2 : Nat) (Option.none : Option Jvm.ClassFile.FieldType)).before args0 about1 = true := code_word (m := ⟨11, 1⟩) (meth := k11m1) (c := k11c1) (by decide +kernel) rfl rfl rfl (by decide +kernel)
set_option maxRecDepth 65536 in
theorem w_c6 : (Jvm.Cond.code ({ cls := "java/lang/AbstractStringBuilder", name := "<init>", desc := "(I)V" } : Jvm.MethodName) jdk_68_method_2_code (2 : Nat) (Option.none : Option Jvm.ClassFile.FieldType)).before args0 about1 = true := code_word (m := ⟨10, 1⟩) (meth := k10m1) (c := k10c1) (by decide +kernel) rfl rfl rfl (by decide +kernel)
set_option maxRecDepth 65536 in
theorem w_c7 : (Jvm.Cond.code ({ cls := "java/lang/Object", name := "<init>", desc := "()V" } : Jvm.MethodName) object_method_1_code (1 : Nat) (Option.none : Option Jvm.ClassFile.FieldType)).before args0 about1 = true := code_word (m := ⟨0, 0⟩) (meth := k0m0) (c := k0c0) (by decide +kernel) rfl rfl rfl (by decide +kernel)
set_option maxRecDepth 65536 in
theorem w_c8 : (Jvm.Cond.code ({ cls := "java/lang/StringBuilder", name := "toString", desc := "()Ljava/lang/String;" } : Jvm.MethodName) jdk_67_method_42_code (1 : Nat) (Option.some (Jvm.ClassFile.FieldType.object "java/lang/String"))).before args0 about1 = true := code_word (m := ⟨11, 4⟩) (meth := k11m4) (c := k11c4) (by decide +kernel) rfl rfl rfl (by decide +kernel)
set_option maxRecDepth 65536 in
theorem w_c9 : (Jvm.Cond.code ({ cls := "java/lang/String", name := "<init>", desc := "(Ljava/lang/StringBuilder;)V" } : Jvm.MethodName) jdk_42_method_53_code (2 : Nat) (Option.none : Option Jvm.ClassFile.FieldType)).before args0 about1 = true := code_word (m := ⟨7, 2⟩) (meth := k7m2) (c := k7c2) (by decide +kernel) rfl rfl rfl (by decide +kernel)
set_option maxRecDepth 65536 in
theorem w_c10 : (Jvm.Cond.code ({ cls := "java/lang/String", name := "<init>", desc := "(Ljava/lang/AbstractStringBuilder;Ljava/lang/Void;)V" } : Jvm.MethodName) jdk_42_method_150_code (5 : Nat) (Option.none : Option Jvm.ClassFile.FieldType)).before args0 about1 = true := code_word (m := ⟨7, 9⟩) (meth := k7m9) (c := k7c9) (by decide +kernel) rfl rfl rfl (by decide +kernel)
set_option maxRecDepth 65536 in
theorem w_c11 : (Jvm.Cond.code ({ cls := "java/lang/AbstractStringBuilder", name := "getValue", desc := "()[B" } : Jvm.MethodName) jdk_68_method_64_code (1 : Nat) (Option.some (Jvm.ClassFile.FieldType.array Jvm.ClassFile.FieldType.byte))).before args0 about1 = true := code_word (m := ⟨10, 8⟩) (meth := k10m8) (c := k10c8) (by decide +kernel) rfl rfl rfl (by decide +kernel)
set_option maxRecDepth 65536 in
theorem w_c12 : (Jvm.Cond.code ({ cls := "java/lang/StringBuilder", name := "length", desc := "()I" } : Jvm.MethodName) jdk_67_method_93_code (1 : Nat) (Option.some Jvm.ClassFile.FieldType.int)).before args0 about1 = true := code_word (m := ⟨11, 5⟩) (meth := k11m5) (c := k11c5) (by decide +kernel) rfl rfl rfl (by decide +kernel)
set_option maxRecDepth 65536 in
theorem w_c13 : (Jvm.Cond.code ({ cls := "java/lang/AbstractStringBuilder", name := "length", desc := "()I" } : Jvm.MethodName) jdk_68_method_6_code (1 : Nat) (Option.some Jvm.ClassFile.FieldType.int)).before args0 about1 = true := code_word (m := ⟨10, 2⟩) (meth := k10m2) (c := k10c2) (by decide +kernel) rfl rfl rfl (by decide +kernel)
set_option maxRecDepth 65536 in
theorem w_c14 : (Jvm.Cond.code ({ cls := "java/lang/AbstractStringBuilder", name := "isLatin1", desc := "()Z" } : Jvm.MethodName) jdk_68_method_68_code (1 : Nat) (Option.some Jvm.ClassFile.FieldType.boolean)).before args0 about1 = true := code_word (m := ⟨10, 9⟩) (meth := k10m9) (c := k10c9) (by decide +kernel) rfl rfl rfl (by decide +kernel)
set_option maxRecDepth 65536 in
theorem w_c15 : (Jvm.Cond.code ({ cls := "java/util/Arrays", name := "copyOfRange", desc := "([BII)[B" } : Jvm.MethodName) jdk_65_method_132_code (3 : Nat) (Option.some (Jvm.ClassFile.FieldType.array Jvm.ClassFile.FieldType.byte))).before args0 about1 = true := code_word (m := ⟨12, 4⟩) (meth := k12m4) (c := k12c4) (by decide +kernel) rfl rfl rfl (by decide +kernel)
set_option maxRecDepth 65536 in
theorem w_c16 : (Jvm.Cond.code ({ cls := "java/lang/String", name := "<init>", desc := "([C)V" } : Jvm.MethodName) jdk_42_method_3_code (2 : Nat) (Option.none : Option Jvm.ClassFile.FieldType)).before args0 about1 = true := code_word (m := ⟨7, 1⟩) (meth := k7m1) (c := k7c1) (by decide +kernel) rfl rfl rfl (by decide +kernel)
set_option maxRecDepth 65536 in
theorem w_c17 : (Jvm.Cond.code ({ cls := "java/lang/String", name := "<init>", desc := "([CIILjava/lang/Void;)V" } : Jvm.MethodName) jdk_42_method_149_code (6 : Nat) (Option.none : Option Jvm.ClassFile.FieldType)).before args0 about1 = true := code_word (m := ⟨7, 8⟩) (meth := k7m8) (c := k7c8) (by decide +kernel) rfl rfl rfl (by decide +kernel)
set_option maxRecDepth 65536 in
theorem w_c18 : (Jvm.Cond.code ({ cls := "java/lang/StringUTF16", name := "compress", desc := "([CII)[B" } : Jvm.MethodName) jdk_52_method_16_code (6 : Nat) (Option.some (Jvm.ClassFile.FieldType.array Jvm.ClassFile.FieldType.byte))).before args0 about1 = true := code_word (m := ⟨14, 8⟩) (meth := k14m8) (c := k14c8) (by decide +kernel) rfl rfl rfl (by decide +kernel)
set_option maxRecDepth 65536 in
theorem w_c19 : (Jvm.Cond.code ({ cls := "java/lang/StringUTF16", name := "compress", desc := "([CI[BII)I" } : Jvm.MethodName) jdk_52_method_21_code (7 : Nat) (Option.some Jvm.ClassFile.FieldType.int)).before args0 about1 = true := code_word (m := ⟨14, 9⟩) (meth := k14m9) (c := k14c9) (by decide +kernel) rfl rfl rfl (by decide +kernel)
set_option maxRecDepth 65536 in
theorem w_c20 : (Jvm.Cond.code ({ cls := "java/lang/StringUTF16", name := "coderFromArrayLen", desc := "([BI)B" } : Jvm.MethodName) jdk_52_method_15_code (2 : Nat) (Option.some Jvm.ClassFile.FieldType.byte)).before args0 about1 = true := code_word (m := ⟨14, 7⟩) (meth := k14m7) (c := k14c7) (by decide +kernel) rfl rfl rfl (by decide +kernel)
set_option maxRecDepth 65536 in
theorem w_c21 : (Jvm.Cond.code ({ cls := "java/lang/String", name := "charAt", desc := "(I)C" } : Jvm.MethodName) jdk_42_method_56_code (2 : Nat) (Option.some Jvm.ClassFile.FieldType.char)).before args0 about1 = true := code_word (m := ⟨7, 4⟩) (meth := k7m4) (c := k7c4) (by decide +kernel) rfl rfl rfl (by decide +kernel)
set_option maxRecDepth 65536 in
theorem w_c22 : (Jvm.Cond.code ({ cls := "java/lang/String", name := "isLatin1", desc := "()Z" } : Jvm.MethodName) jdk_42_method_154_code (1 : Nat) (Option.some Jvm.ClassFile.FieldType.boolean)).before args0 about1 = true := code_word (m := ⟨7, 12⟩) (meth := k7m12) (c := k7c12) (by decide +kernel) rfl rfl rfl (by decide +kernel)
set_option maxRecDepth 65536 in
theorem w_c23 : (Jvm.Cond.code ({ cls := "java/lang/StringLatin1", name := "charAt", desc := "([BI)C" } : Jvm.MethodName) jdk_43_method_2_code (2 : Nat) (Option.some Jvm.ClassFile.FieldType.char)).before args0 about1 = true := code_word (m := ⟨15, 1⟩) (meth := k15m1) (c := k15c1) (by decide +kernel) rfl rfl rfl (by decide +kernel)
set_option maxRecDepth 65536 in
theorem w_c24 : (Jvm.Cond.code ({ cls := "java/lang/String", name := "checkIndex", desc := "(II)V" } : Jvm.MethodName) jdk_42_method_155_code (2 : Nat) (Option.none : Option Jvm.ClassFile.FieldType)).before args0 about1 = true := code_word (m := ⟨7, 13⟩) (meth := k7m13) (c := k7c13) (by decide +kernel) rfl rfl rfl (by decide +kernel)
set_option maxRecDepth 65536 in
theorem w_c25 : (Jvm.Cond.code ({ cls := "jdk/internal/util/Preconditions", name := "checkIndex", desc := "(IILjava/util/function/BiFunction;)I" } : Jvm.MethodName) jdk_41_method_11_code (3 : Nat) (Option.some Jvm.ClassFile.FieldType.int)).before args0 about1 = true := code_word (m := ⟨16, 1⟩) (meth := k16m1) (c := k16c1) (by decide +kernel) rfl rfl rfl (by decide +kernel)
set_option maxRecDepth 65536 in
theorem w_c26 : (Jvm.Cond.code ({ cls := "java/lang/Character", name := "isISOControl", desc := "(C)Z" } : Jvm.MethodName) jdk_89_method_88_code (1 : Nat) (Option.some Jvm.ClassFile.FieldType.boolean)).before args0 about1 = true := code_word (m := ⟨17, 0⟩) (meth := k17m0) (c := k17c0) (by decide +kernel) rfl rfl rfl (by decide +kernel)
set_option maxRecDepth 65536 in
theorem w_c27 : (Jvm.Cond.code ({ cls := "java/lang/Character", name := "isISOControl", desc := "(I)Z" } : Jvm.MethodName) jdk_89_method_89_code (1 : Nat) (Option.some Jvm.ClassFile.FieldType.boolean)).before args0 about1 = true := code_word (m := ⟨17, 1⟩) (meth := k17m1) (c := k17c1) (by decide +kernel) rfl rfl rfl (by decide +kernel)
set_option maxRecDepth 65536 in
theorem w_c28 : (Jvm.Cond.code ({ cls := "java/lang/StringBuilder", name := "append", desc := "(C)Ljava/lang/StringBuilder;" } : Jvm.MethodName) jdk_67_method_14_code (2 : Nat) (Option.some (Jvm.ClassFile.FieldType.object "java/lang/StringBuilder"))).before args0 about1 = true := code_word (m := ⟨11, 3⟩) (meth := k11m3) (c := k11c3) (by decide +kernel) rfl rfl rfl (by decide +kernel)
set_option maxRecDepth 65536 in
theorem w_c29 : (Jvm.Cond.code ({ cls := "java/lang/AbstractStringBuilder", name := "append", desc := "(C)Ljava/lang/AbstractStringBuilder;" } : Jvm.MethodName) jdk_68_method_31_code (2 : Nat) (Option.some (Jvm.ClassFile.FieldType.object "java/lang/AbstractStringBuilder"))).before args0 about1 = true := code_word (m := ⟨10, 7⟩) (meth := k10m7) (c := k10c7) (by decide +kernel) rfl rfl rfl (by decide +kernel)
set_option maxRecDepth 65536 in
theorem w_c30 : (Jvm.Cond.code ({ cls := "java/lang/AbstractStringBuilder", name := "ensureCapacityInternal", desc := "(I)V" } : Jvm.MethodName) jdk_68_method_9_code (3 : Nat) (Option.none : Option Jvm.ClassFile.FieldType)).before args0 about1 = true := code_word (m := ⟨10, 3⟩) (meth := k10m3) (c := k10c3) (by decide +kernel) rfl rfl rfl (by decide +kernel)
set_option maxRecDepth 65536 in
theorem w_c31 : (Jvm.Cond.code ({ cls := "java/lang/StringLatin1", name := "canEncode", desc := "(C)Z" } : Jvm.MethodName) jdk_43_method_3_code (1 : Nat) (Option.some Jvm.ClassFile.FieldType.boolean)).before args0 about1 = true := code_word (m := ⟨15, 2⟩) (meth := k15m2) (c := k15c2) (by decide +kernel) rfl rfl rfl (by decide +kernel)
set_option maxRecDepth 65536 in
theorem w_c32 : (Jvm.Cond.code ({ cls := "com/example/motes_to_bounds/motestobounds/io/TextReportPrintablePinLaw", name := "step", desc := "(Ljava/lang/String;IC)I" } : Jvm.MethodName) method_6_code (5 : Nat) (Option.some Jvm.ClassFile.FieldType.int)).before args0 about1 = true := code_word (m := ⟨1, 5⟩) (meth := k1m5) (c := k1c5) (by decide +kernel) rfl rfl rfl (by decide +kernel)
set_option maxRecDepth 65536 in
theorem w_c33 : (Jvm.Cond.code ({ cls := "com/example/motes_to_bounds/motestobounds/io/TextReportPrintablePinLaw", name := "escaped", desc := "(C)Z" } : Jvm.MethodName) method_4_code (1 : Nat) (Option.some Jvm.ClassFile.FieldType.boolean)).before args0 about1 = true := code_word (m := ⟨1, 3⟩) (meth := k1m3) (c := k1c3) (by decide +kernel) rfl rfl rfl (by decide +kernel)
set_option maxRecDepth 65536 in
theorem w_c34 : (Jvm.Cond.code ({ cls := "java/lang/StringUTF16", name := "toBytes", desc := "([CII)[B" } : Jvm.MethodName) jdk_52_method_14_code (5 : Nat) (Option.some (Jvm.ClassFile.FieldType.array Jvm.ClassFile.FieldType.byte))).before args0 about1 = true := code_word (m := ⟨14, 6⟩) (meth := k14m6) (c := k14c6) (by decide +kernel) rfl rfl rfl (by decide +kernel)
set_option maxRecDepth 65536 in
theorem w_c35 : (Jvm.Cond.code ({ cls := "java/lang/StringUTF16", name := "newBytesFor", desc := "(I)[B" } : Jvm.MethodName) jdk_52_method_2_code (1 : Nat) (Option.some (Jvm.ClassFile.FieldType.array Jvm.ClassFile.FieldType.byte))).before args0 about1 = true := code_word (m := ⟨14, 1⟩) (meth := k14m1) (c := k14c1) (by decide +kernel) rfl rfl rfl (by decide +kernel)
set_option maxRecDepth 65536 in
theorem w_c36 : (Jvm.Cond.code ({ cls := "java/lang/StringUTF16", name := "newBytesLength", desc := "(I)I" } : Jvm.MethodName) jdk_52_method_3_code (1 : Nat) (Option.some Jvm.ClassFile.FieldType.int)).before args0 about1 = true := code_word (m := ⟨14, 2⟩) (meth := k14m2) (c := k14c2) (by decide +kernel) rfl rfl rfl (by decide +kernel)
set_option maxRecDepth 65536 in
theorem w_c37 : (Jvm.Cond.code ({ cls := "java/lang/StringUTF16", name := "putChar", desc := "([BII)V" } : Jvm.MethodName) jdk_52_method_4_code (3 : Nat) (Option.none : Option Jvm.ClassFile.FieldType)).before args0 about1 = true := code_word (m := ⟨14, 3⟩) (meth := k14m3) (c := k14c3) (by decide +kernel) rfl rfl rfl (by decide +kernel)
set_option maxRecDepth 65536 in
theorem w_c38 : (Jvm.Cond.code ({ cls := "java/lang/StringUTF16", name := "getChar", desc := "([BI)C" } : Jvm.MethodName) jdk_52_method_5_code (2 : Nat) (Option.some Jvm.ClassFile.FieldType.char)).before args0 about1 = true := code_word (m := ⟨14, 4⟩) (meth := k14m4) (c := k14c4) (by decide +kernel) rfl rfl rfl (by decide +kernel)
set_option maxRecDepth 65536 in
theorem w_c39 : (Jvm.Cond.code ({ cls := "java/lang/StringUTF16", name := "charAt", desc := "([BI)C" } : Jvm.MethodName) jdk_52_method_83_code (2 : Nat) (Option.some Jvm.ClassFile.FieldType.char)).before args0 about1 = true := code_word (m := ⟨14, 12⟩) (meth := k14m12) (c := k14c12) (by decide +kernel) rfl rfl rfl (by decide +kernel)
set_option maxRecDepth 65536 in
theorem w_c40 : (Jvm.Cond.code ({ cls := "java/lang/StringUTF16", name := "checkIndex", desc := "(I[B)V" } : Jvm.MethodName) jdk_52_method_91_code (2 : Nat) (Option.none : Option Jvm.ClassFile.FieldType)).before args0 about1 = true := code_word (m := ⟨14, 14⟩) (meth := k14m14) (c := k14c14) (by decide +kernel) rfl rfl rfl (by decide +kernel)
set_option maxRecDepth 65536 in
theorem w_c41 : (Jvm.Cond.code ({ cls := "java/lang/StringUTF16", name := "length", desc := "([B)I" } : Jvm.MethodName) jdk_52_method_6_code (1 : Nat) (Option.some Jvm.ClassFile.FieldType.int)).before args0 about1 = true := code_word (m := ⟨14, 5⟩) (meth := k14m5) (c := k14c5) (by decide +kernel) rfl rfl rfl (by decide +kernel)
set_option maxRecDepth 65536 in
theorem w_c42 : (Jvm.Cond.code ({ cls := "java/lang/AbstractStringBuilder", name := "inflate", desc := "()V" } : Jvm.MethodName) jdk_68_method_11_code (2 : Nat) (Option.none : Option Jvm.ClassFile.FieldType)).before args0 about1 = true := code_word (m := ⟨10, 5⟩) (meth := k10m5) (c := k10c5) (by decide +kernel) rfl rfl rfl (by decide +kernel)
set_option maxRecDepth 65536 in
theorem w_c43 : (Jvm.Cond.code ({ cls := "java/lang/StringLatin1", name := "inflate", desc := "([BI[BII)V" } : Jvm.MethodName) jdk_43_method_50_code (5 : Nat) (Option.none : Option Jvm.ClassFile.FieldType)).before args0 about1 = true := code_word (m := ⟨15, 4⟩) (meth := k15m4) (c := k15c4) (by decide +kernel) rfl rfl rfl (by decide +kernel)
set_option maxRecDepth 65536 in
theorem w_c44 : (Jvm.Cond.code ({ cls := "java/lang/StringUTF16", name := "inflate", desc := "([BI[BII)V" } : Jvm.MethodName) jdk_52_method_86_code (6 : Nat) (Option.none : Option Jvm.ClassFile.FieldType)).before args0 about1 = true := code_word (m := ⟨14, 13⟩) (meth := k14m13) (c := k14c13) (by decide +kernel) rfl rfl rfl (by decide +kernel)
set_option maxRecDepth 65536 in
theorem w_c45 : (Jvm.Cond.code ({ cls := "java/lang/StringUTF16", name := "checkBoundsOffCount", desc := "(II[B)V" } : Jvm.MethodName) jdk_52_method_94_code (3 : Nat) (Option.none : Option Jvm.ClassFile.FieldType)).before args0 about1 = true := code_word (m := ⟨14, 15⟩) (meth := k14m15) (c := k14c15) (by decide +kernel) rfl rfl rfl (by decide +kernel)
set_option maxRecDepth 65536 in
theorem w_c46 : (Jvm.Cond.code ({ cls := "java/lang/String", name := "checkBoundsOffCount", desc := "(III)I" } : Jvm.MethodName) jdk_42_method_157_code (3 : Nat) (Option.some Jvm.ClassFile.FieldType.int)).before args0 about1 = true := code_word (m := ⟨7, 14⟩) (meth := k7m14) (c := k7c14) (by decide +kernel) rfl rfl rfl (by decide +kernel)
set_option maxRecDepth 65536 in
theorem w_c47 : (Jvm.Cond.code ({ cls := "jdk/internal/util/Preconditions", name := "checkFromIndexSize", desc := "(IIILjava/util/function/BiFunction;)I" } : Jvm.MethodName) jdk_41_method_13_code (4 : Nat) (Option.some Jvm.ClassFile.FieldType.int)).before args0 about1 = true := code_word (m := ⟨16, 2⟩) (meth := k16m2) (c := k16c2) (by decide +kernel) rfl rfl rfl (by decide +kernel)
set_option maxRecDepth 65536 in
theorem w_c48 : (Jvm.Cond.code ({ cls := "java/lang/StringUTF16", name := "putCharSB", desc := "([BII)V" } : Jvm.MethodName) jdk_52_method_71_code (3 : Nat) (Option.none : Option Jvm.ClassFile.FieldType)).before args0 about1 = true := code_word (m := ⟨14, 11⟩) (meth := k14m11) (c := k14c11) (by decide +kernel) rfl rfl rfl (by decide +kernel)
set_option maxRecDepth 65536 in
theorem w_c49 : (Jvm.Cond.code ({ cls := "java/lang/String", name := "valueOf", desc := "(C)Ljava/lang/String;" } : Jvm.MethodName) jdk_42_method_139_code (1 : Nat) (Option.some (Jvm.ClassFile.FieldType.object "java/lang/String"))).before args0 about1 = true := code_word (m := ⟨7, 5⟩) (meth := k7m5) (c := k7c5) (by decide +kernel) rfl rfl rfl (by decide +kernel)
set_option maxRecDepth 65536 in
theorem w_c50 : (Jvm.Cond.code ({ cls := "java/lang/StringLatin1", name := "toBytes", desc := "(C)[B" } : Jvm.MethodName) jdk_43_method_46_code (1 : Nat) (Option.some (Jvm.ClassFile.FieldType.array Jvm.ClassFile.FieldType.byte))).before args0 about1 = true := code_word (m := ⟨15, 3⟩) (meth := k15m3) (c := k15c3) (by decide +kernel) rfl rfl rfl (by decide +kernel)
set_option maxRecDepth 65536 in
theorem w_c51 : (Jvm.Cond.code ({ cls := "java/lang/String", name := "<init>", desc := "([BB)V" } : Jvm.MethodName) jdk_42_method_151_code (3 : Nat) (Option.none : Option Jvm.ClassFile.FieldType)).before args0 about1 = true := code_word (m := ⟨7, 10⟩) (meth := k7m10) (c := k7c10) (by decide +kernel) rfl rfl rfl (by decide +kernel)
set_option maxRecDepth 65536 in
theorem w_c52 : (Jvm.Cond.code ({ cls := "java/lang/Integer", name := "toHexString", desc := "(I)Ljava/lang/String;" } : Jvm.MethodName) jdk_33_method_4_code (1 : Nat) (Option.some (Jvm.ClassFile.FieldType.object "java/lang/String"))).before args0 about1 = true := code_word (m := ⟨19, 0⟩) (meth := k19m0) (c := k19c0) (by decide +kernel) rfl rfl rfl (by decide +kernel)
set_option maxRecDepth 65536 in
theorem w_c53 : (Jvm.Cond.code ({ cls := "java/lang/Integer", name := "toUnsignedString0", desc := "(II)Ljava/lang/String;" } : Jvm.MethodName) jdk_33_method_7_code (5 : Nat) (Option.some (Jvm.ClassFile.FieldType.object "java/lang/String"))).before args0 about1 = true := code_word (m := ⟨19, 1⟩) (meth := k19m1) (c := k19c1) (by decide +kernel) rfl rfl rfl (by decide +kernel)
set_option maxRecDepth 65536 in
theorem w_c54 : (Jvm.Cond.code ({ cls := "java/lang/Integer", name := "numberOfLeadingZeros", desc := "(I)I" } : Jvm.MethodName) jdk_33_method_47_code (2 : Nat) (Option.some Jvm.ClassFile.FieldType.int)).before args0 about1 = true := code_word (m := ⟨19, 3⟩) (meth := k19m3) (c := k19c3) (by decide +kernel) rfl rfl rfl (by decide +kernel)
set_option maxRecDepth 65536 in
theorem w_c55 : (Jvm.Cond.code ({ cls := "java/lang/Math", name := "max", desc := "(II)I" } : Jvm.MethodName) jdk_29_method_65_code (2 : Nat) (Option.some Jvm.ClassFile.FieldType.int)).before args0 about1 = true := code_word (m := ⟨20, 1⟩) (meth := k20m1) (c := k20c1) (by decide +kernel) rfl rfl rfl (by decide +kernel)
set_option maxRecDepth 65536 in
theorem w_c56 : (Jvm.Cond.code ({ cls := "java/lang/Integer", name := "formatUnsignedInt", desc := "(II[BI)V" } : Jvm.MethodName) jdk_33_method_8_code (7 : Nat) (Option.none : Option Jvm.ClassFile.FieldType)).before args0 about1 = true := code_word (m := ⟨19, 2⟩) (meth := k19m2) (c := k19c2) (by decide +kernel) rfl rfl rfl (by decide +kernel)
set_option maxRecDepth 65536 in
theorem w_c57 : (Jvm.Cond.code ({ cls := "java/lang/StringBuilder", name := "append", desc := "(Ljava/lang/String;)Ljava/lang/StringBuilder;" } : Jvm.MethodName) jdk_67_method_7_code (2 : Nat) (Option.some (Jvm.ClassFile.FieldType.object "java/lang/StringBuilder"))).before args0 about1 = true := code_word (m := ⟨11, 2⟩) (meth := k11m2) (c := k11c2) (by decide +kernel) rfl rfl rfl (by decide +kernel)
set_option maxRecDepth 65536 in
theorem w_c58 : (Jvm.Cond.code ({ cls := "java/lang/AbstractStringBuilder", name := "append", desc := "(Ljava/lang/String;)Ljava/lang/AbstractStringBuilder;" } : Jvm.MethodName) jdk_68_method_22_code (3 : Nat) (Option.some (Jvm.ClassFile.FieldType.object "java/lang/AbstractStringBuilder"))).before args0 about1 = true := code_word (m := ⟨10, 6⟩) (meth := k10m6) (c := k10c6) (by decide +kernel) rfl rfl rfl (by decide +kernel)
set_option maxRecDepth 65536 in
theorem w_c59 : (Jvm.Cond.code ({ cls := "java/lang/AbstractStringBuilder", name := "newCapacity", desc := "(I)I" } : Jvm.MethodName) jdk_68_method_10_code (6 : Nat) (Option.some Jvm.ClassFile.FieldType.int)).before args0 about1 = true := code_word (m := ⟨10, 4⟩) (meth := k10m4) (c := k10c4) (by decide +kernel) rfl rfl rfl (by decide +kernel)
set_option maxRecDepth 65536 in
theorem w_c60 : (Jvm.Cond.code ({ cls := "jdk/internal/util/ArraysSupport", name := "newLength", desc := "(III)I" } : Jvm.MethodName) jdk_48_method_27_code (4 : Nat) (Option.some Jvm.ClassFile.FieldType.int)).before args0 about1 = true := code_word (m := ⟨21, 1⟩) (meth := k21m1) (c := k21c1) (by decide +kernel) rfl rfl rfl (by decide +kernel)
set_option maxRecDepth 65536 in
theorem w_c61 : (Jvm.Cond.code ({ cls := "java/util/Arrays", name := "copyOf", desc := "([BI)[B" } : Jvm.MethodName) jdk_65_method_121_code (3 : Nat) (Option.some (Jvm.ClassFile.FieldType.array Jvm.ClassFile.FieldType.byte))).before args0 about1 = true := code_word (m := ⟨12, 2⟩) (meth := k12m2) (c := k12c2) (by decide +kernel) rfl rfl rfl (by decide +kernel)
set_option maxRecDepth 65536 in
theorem w_c62 : (Jvm.Cond.code ({ cls := "java/lang/Math", name := "min", desc := "(II)I" } : Jvm.MethodName) jdk_29_method_69_code (2 : Nat) (Option.some Jvm.ClassFile.FieldType.int)).before args0 about1 = true := code_word (m := ⟨20, 2⟩) (meth := k20m2) (c := k20c2) (by decide +kernel) rfl rfl rfl (by decide +kernel)
set_option maxRecDepth 65536 in
theorem w_c63 : (Jvm.Cond.code ({ cls := "java/lang/AbstractStringBuilder", name := "putStringAt", desc := "(ILjava/lang/String;)V" } : Jvm.MethodName) jdk_68_method_73_code (3 : Nat) (Option.none : Option Jvm.ClassFile.FieldType)).before args0 about1 = true := code_word (m := ⟨10, 11⟩) (meth := k10m11) (c := k10c11) (by decide +kernel) rfl rfl rfl (by decide +kernel)
set_option maxRecDepth 65536 in
theorem w_c64 : (Jvm.Cond.code ({ cls := "java/lang/AbstractStringBuilder", name := "inflateIfNeededFor", desc := "(Ljava/lang/String;)V" } : Jvm.MethodName) jdk_68_method_71_code (2 : Nat) (Option.none : Option Jvm.ClassFile.FieldType)).before args0 about1 = true := code_word (m := ⟨10, 10⟩) (meth := k10m10) (c := k10c10) (by decide +kernel) rfl rfl rfl (by decide +kernel)
set_option maxRecDepth 65536 in
theorem w_c65 : (Jvm.Cond.code ({ cls := "java/lang/String", name := "getBytes", desc := "([BIB)V" } : Jvm.MethodName) jdk_42_method_147_code (4 : Nat) (Option.none : Option Jvm.ClassFile.FieldType)).before args0 about1 = true := code_word (m := ⟨7, 7⟩) (meth := k7m7) (c := k7c7) (by decide +kernel) rfl rfl rfl (by decide +kernel)
set_option maxRecDepth 65536 in
theorem w_c66 : (Jvm.Cond.code ({ cls := "java/lang/String", name := "repeat", desc := "(I)Ljava/lang/String;" } : Jvm.MethodName) jdk_42_method_145_code (5 : Nat) (Option.some (Jvm.ClassFile.FieldType.object "java/lang/String"))).before args0 about1 = true := code_word (m := ⟨7, 6⟩) (meth := k7m6) (c := k7c6) (by decide +kernel) rfl rfl rfl (by decide +kernel)
set_option maxRecDepth 65536 in
theorem w_c67 : (Jvm.Cond.code ({ cls := "java/util/Arrays", name := "fill", desc := "([BB)V" } : Jvm.MethodName) jdk_65_method_109_code (4 : Nat) (Option.none : Option Jvm.ClassFile.FieldType)).before args0 about1 = true := code_word (m := ⟨12, 1⟩) (meth := k12m1) (c := k12c1) (by decide +kernel) rfl rfl rfl (by decide +kernel)
set_option maxRecDepth 65536 in
theorem w_c68 : (Jvm.Cond.code ({ cls := "java/util/Arrays", name := "copyOfRangeByte", desc := "([BII)[B" } : Jvm.MethodName) jdk_65_method_133_code (5 : Nat) (Option.some (Jvm.ClassFile.FieldType.array Jvm.ClassFile.FieldType.byte))).before args0 about1 = true := code_word (m := ⟨12, 5⟩) (meth := k12m5) (c := k12c5) (by decide +kernel) rfl rfl rfl (by decide +kernel)
set_option maxRecDepth 65536 in
theorem w_c69 : (Jvm.Cond.code ({ cls := "java/util/Arrays", name := "checkLength", desc := "(II)V" } : Jvm.MethodName) jdk_65_method_131_code (2 : Nat) (Option.none : Option Jvm.ClassFile.FieldType)).before args0 about1 = true := code_word (m := ⟨12, 3⟩) (meth := k12m3) (c := k12c3) (by decide +kernel) rfl rfl rfl (by decide +kernel)
set_option maxRecDepth 65536 in
theorem w_c70 : (Jvm.Cond.code ({ cls := "com/example/motes_to_bounds/motestobounds/io/TextReportPrintablePinLaw", name := "hex", desc := "(I)C" } : Jvm.MethodName) method_5_code (1 : Nat) (Option.some Jvm.ClassFile.FieldType.char)).before args0 about1 = true := code_word (m := ⟨1, 4⟩) (meth := k1m4) (c := k1c4) (by decide +kernel) rfl rfl rfl (by decide +kernel)
set_option maxRecDepth 65536 in
theorem w_c71 : (Jvm.Cond.code ({ cls := "java/lang/StringUTF16", name := "toBytes", desc := "(C)[B" } : Jvm.MethodName) jdk_52_method_24_code (2 : Nat) (Option.some (Jvm.ClassFile.FieldType.array Jvm.ClassFile.FieldType.byte))).before args0 about1 = true := code_word (m := ⟨14, 10⟩) (meth := k14m10) (c := k14c10) (by decide +kernel) rfl rfl rfl (by decide +kernel)
def codes1 : List Jvm.Cond := [Jvm.Cond.code x code maxLocals ret, Jvm.Cond.code ({ cls := "com/example/motes_to_bounds/motestobounds/io/TextReportPrintablePinLaw", name := "draw", desc := "(I)C" } : Jvm.MethodName) method_3_code (3 : Nat) (Option.some Jvm.ClassFile.FieldType.char), Jvm.Cond.code ({ cls := "com/example/motes_to_bounds/motestobounds/io/TextReport", name := "printable", desc := "(Ljava/lang/String;)Ljava/lang/String;" } : Jvm.MethodName) prog_20_method_8_code (5 : Nat) (Option.some (Jvm.ClassFile.FieldType.object "java/lang/String")), Jvm.Cond.code ({ cls := "java/lang/String", name := "length", desc := "()I" } : Jvm.MethodName) jdk_42_method_54_code (1 : Nat) (Option.some Jvm.ClassFile.FieldType.int), Jvm.Cond.code ({ cls := "java/lang/String", name := "coder", desc := "()B" } : Jvm.MethodName) jdk_42_method_152_code (1 : Nat) (Option.some Jvm.ClassFile.FieldType.byte), Jvm.Cond.code ({ cls := "java/lang/StringBuilder", name := "<init>", desc := "(I)V" } : Jvm.MethodName) jdk_67_method_2_code (2 : Nat) (Option.none : Option Jvm.ClassFile.FieldType), Jvm.Cond.code ({ cls := "java/lang/AbstractStringBuilder", name := "<init>", desc := "(I)V" } : Jvm.MethodName) jdk_68_method_2_code (2 : Nat) (Option.none : Option Jvm.ClassFile.FieldType), Jvm.Cond.code ({ cls := "java/lang/Object", name := "<init>", desc := "()V" } : Jvm.MethodName) object_method_1_code (1 : Nat) (Option.none : Option Jvm.ClassFile.FieldType), Jvm.Cond.code ({ cls := "java/lang/StringBuilder", name := "toString", desc := "()Ljava/lang/String;" } : Jvm.MethodName) jdk_67_method_42_code (1 : Nat) (Option.some (Jvm.ClassFile.FieldType.object "java/lang/String")), Jvm.Cond.code ({ cls := "java/lang/String", name := "<init>", desc := "(Ljava/lang/StringBuilder;)V" } : Jvm.MethodName) jdk_42_method_53_code (2 : Nat) (Option.none : Option Jvm.ClassFile.FieldType), Jvm.Cond.code ({ cls := "java/lang/String", name := "<init>", desc := "(Ljava/lang/AbstractStringBuilder;Ljava/lang/Void;)V" } : Jvm.MethodName) jdk_42_method_150_code (5 : Nat) (Option.none : Option Jvm.ClassFile.FieldType), Jvm.Cond.code ({ cls := "java/lang/AbstractStringBuilder", name := "getValue", desc := "()[B" } : Jvm.MethodName) jdk_68_method_64_code (1 : Nat) (Option.some (Jvm.ClassFile.FieldType.array Jvm.ClassFile.FieldType.byte)), Jvm.Cond.code ({ cls := "java/lang/StringBuilder", name := "length", desc := "()I" } : Jvm.MethodName) jdk_67_method_93_code (1 : Nat) (Option.some Jvm.ClassFile.FieldType.int), Jvm.Cond.code ({ cls := "java/lang/AbstractStringBuilder", name := "length", desc := "()I" } : Jvm.MethodName) jdk_68_method_6_code (1 : Nat) (Option.some Jvm.ClassFile.FieldType.int), Jvm.Cond.code ({ cls := "java/lang/AbstractStringBuilder", name := "isLatin1", desc := "()Z" } : Jvm.MethodName) jdk_68_method_68_code (1 : Nat) (Option.some Jvm.ClassFile.FieldType.boolean), Jvm.Cond.code ({ cls := "java/util/Arrays", name := "copyOfRange", desc := "([BII)[B" } : Jvm.MethodName) jdk_65_method_132_code (3 : Nat) (Option.some (Jvm.ClassFile.FieldType.array Jvm.ClassFile.FieldType.byte)), Jvm.Cond.code ({ cls := "java/lang/String", name := "<init>", desc := "([C)V" } : Jvm.MethodName) jdk_42_method_3_code (2 : Nat) (Option.none : Option Jvm.ClassFile.FieldType), Jvm.Cond.code ({ cls := "java/lang/String", name := "<init>", desc := "([CIILjava/lang/Void;)V" } : Jvm.MethodName) jdk_42_method_149_code (6 : Nat) (Option.none : Option Jvm.ClassFile.FieldType), Jvm.Cond.code ({ cls := "java/lang/StringUTF16", name := "compress", desc := "([CII)[B" } : Jvm.MethodName) jdk_52_method_16_code (6 : Nat) (Option.some (Jvm.ClassFile.FieldType.array Jvm.ClassFile.FieldType.byte)), Jvm.Cond.code ({ cls := "java/lang/StringUTF16", name := "compress", desc := "([CI[BII)I" } : Jvm.MethodName) jdk_52_method_21_code (7 : Nat) (Option.some Jvm.ClassFile.FieldType.int), Jvm.Cond.code ({ cls := "java/lang/StringUTF16", name := "coderFromArrayLen", desc := "([BI)B" } : Jvm.MethodName) jdk_52_method_15_code (2 : Nat) (Option.some Jvm.ClassFile.FieldType.byte), Jvm.Cond.code ({ cls := "java/lang/String", name := "charAt", desc := "(I)C" } : Jvm.MethodName) jdk_42_method_56_code (2 : Nat) (Option.some Jvm.ClassFile.FieldType.char), Jvm.Cond.code ({ cls := "java/lang/String", name := "isLatin1", desc := "()Z" } : Jvm.MethodName) jdk_42_method_154_code (1 : Nat) (Option.some Jvm.ClassFile.FieldType.boolean), Jvm.Cond.code ({ cls := "java/lang/StringLatin1", name := "charAt", desc := "([BI)C" } : Jvm.MethodName) jdk_43_method_2_code (2 : Nat) (Option.some Jvm.ClassFile.FieldType.char), Jvm.Cond.code ({ cls := "java/lang/String", name := "checkIndex", desc := "(II)V" } : Jvm.MethodName) jdk_42_method_155_code (2 : Nat) (Option.none : Option Jvm.ClassFile.FieldType), Jvm.Cond.code ({ cls := "jdk/internal/util/Preconditions", name := "checkIndex", desc := "(IILjava/util/function/BiFunction;)I" } : Jvm.MethodName) jdk_41_method_11_code (3 : Nat) (Option.some Jvm.ClassFile.FieldType.int), Jvm.Cond.code ({ cls := "java/lang/Character", name := "isISOControl", desc := "(C)Z" } : Jvm.MethodName) jdk_89_method_88_code (1 : Nat) (Option.some Jvm.ClassFile.FieldType.boolean), Jvm.Cond.code ({ cls := "java/lang/Character", name := "isISOControl", desc := "(I)Z" } : Jvm.MethodName) jdk_89_method_89_code (1 : Nat) (Option.some Jvm.ClassFile.FieldType.boolean), Jvm.Cond.code ({ cls := "java/lang/StringBuilder", name := "append", desc := "(C)Ljava/lang/StringBuilder;" } : Jvm.MethodName) jdk_67_method_14_code (2 : Nat) (Option.some (Jvm.ClassFile.FieldType.object "java/lang/StringBuilder")), Jvm.Cond.code ({ cls := "java/lang/AbstractStringBuilder", name := "append", desc := "(C)Ljava/lang/AbstractStringBuilder;" } : Jvm.MethodName) jdk_68_method_31_code (2 : Nat) (Option.some (Jvm.ClassFile.FieldType.object "java/lang/AbstractStringBuilder")), Jvm.Cond.code ({ cls := "java/lang/AbstractStringBuilder", name := "ensureCapacityInternal", desc := "(I)V" } : Jvm.MethodName) jdk_68_method_9_code (3 : Nat) (Option.none : Option Jvm.ClassFile.FieldType), Jvm.Cond.code ({ cls := "java/lang/StringLatin1", name := "canEncode", desc := "(C)Z" } : Jvm.MethodName) jdk_43_method_3_code (1 : Nat) (Option.some Jvm.ClassFile.FieldType.boolean), Jvm.Cond.code ({ cls := "com/example/motes_to_bounds/motestobounds/io/TextReportPrintablePinLaw", name := "step", desc := "(Ljava/lang/String;IC)I" } : Jvm.MethodName) method_6_code (5 : Nat) (Option.some Jvm.ClassFile.FieldType.int), Jvm.Cond.code ({ cls := "com/example/motes_to_bounds/motestobounds/io/TextReportPrintablePinLaw", name := "escaped", desc := "(C)Z" } : Jvm.MethodName) method_4_code (1 : Nat) (Option.some Jvm.ClassFile.FieldType.boolean), Jvm.Cond.code ({ cls := "java/lang/StringUTF16", name := "toBytes", desc := "([CII)[B" } : Jvm.MethodName) jdk_52_method_14_code (5 : Nat) (Option.some (Jvm.ClassFile.FieldType.array Jvm.ClassFile.FieldType.byte)), Jvm.Cond.code ({ cls := "java/lang/StringUTF16", name := "newBytesFor", desc := "(I)[B" } : Jvm.MethodName) jdk_52_method_2_code (1 : Nat) (Option.some (Jvm.ClassFile.FieldType.array Jvm.ClassFile.FieldType.byte)), Jvm.Cond.code ({ cls := "java/lang/StringUTF16", name := "newBytesLength", desc := "(I)I" } : Jvm.MethodName) jdk_52_method_3_code (1 : Nat) (Option.some Jvm.ClassFile.FieldType.int), Jvm.Cond.code ({ cls := "java/lang/StringUTF16", name := "putChar", desc := "([BII)V" } : Jvm.MethodName) jdk_52_method_4_code (3 : Nat) (Option.none : Option Jvm.ClassFile.FieldType), Jvm.Cond.code ({ cls := "java/lang/StringUTF16", name := "getChar", desc := "([BI)C" } : Jvm.MethodName) jdk_52_method_5_code (2 : Nat) (Option.some Jvm.ClassFile.FieldType.char), Jvm.Cond.code ({ cls := "java/lang/StringUTF16", name := "charAt", desc := "([BI)C" } : Jvm.MethodName) jdk_52_method_83_code (2 : Nat) (Option.some Jvm.ClassFile.FieldType.char), Jvm.Cond.code ({ cls := "java/lang/StringUTF16", name := "checkIndex", desc := "(I[B)V" } : Jvm.MethodName) jdk_52_method_91_code (2 : Nat) (Option.none : Option Jvm.ClassFile.FieldType), Jvm.Cond.code ({ cls := "java/lang/StringUTF16", name := "length", desc := "([B)I" } : Jvm.MethodName) jdk_52_method_6_code (1 : Nat) (Option.some Jvm.ClassFile.FieldType.int), Jvm.Cond.code ({ cls := "java/lang/AbstractStringBuilder", name := "inflate", desc := "()V" } : Jvm.MethodName) jdk_68_method_11_code (2 : Nat) (Option.none : Option Jvm.ClassFile.FieldType), Jvm.Cond.code ({ cls := "java/lang/StringLatin1", name := "inflate", desc := "([BI[BII)V" } : Jvm.MethodName) jdk_43_method_50_code (5 : Nat) (Option.none : Option Jvm.ClassFile.FieldType), Jvm.Cond.code ({ cls := "java/lang/StringUTF16", name := "inflate", desc := "([BI[BII)V" } : Jvm.MethodName) jdk_52_method_86_code (6 : Nat) (Option.none : Option Jvm.ClassFile.FieldType), Jvm.Cond.code ({ cls := "java/lang/StringUTF16", name := "checkBoundsOffCount", desc := "(II[B)V" } : Jvm.MethodName) jdk_52_method_94_code (3 : Nat) (Option.none : Option Jvm.ClassFile.FieldType), Jvm.Cond.code ({ cls := "java/lang/String", name := "checkBoundsOffCount", desc := "(III)I" } : Jvm.MethodName) jdk_42_method_157_code (3 : Nat) (Option.some Jvm.ClassFile.FieldType.int), Jvm.Cond.code ({ cls := "jdk/internal/util/Preconditions", name := "checkFromIndexSize", desc := "(IIILjava/util/function/BiFunction;)I" } : Jvm.MethodName) jdk_41_method_13_code (4 : Nat) (Option.some Jvm.ClassFile.FieldType.int), Jvm.Cond.code ({ cls := "java/lang/StringUTF16", name := "putCharSB", desc := "([BII)V" } : Jvm.MethodName) jdk_52_method_71_code (3 : Nat) (Option.none : Option Jvm.ClassFile.FieldType), Jvm.Cond.code ({ cls := "java/lang/String", name := "valueOf", desc := "(C)Ljava/lang/String;" } : Jvm.MethodName) jdk_42_method_139_code (1 : Nat) (Option.some (Jvm.ClassFile.FieldType.object "java/lang/String")), Jvm.Cond.code ({ cls := "java/lang/StringLatin1", name := "toBytes", desc := "(C)[B" } : Jvm.MethodName) jdk_43_method_46_code (1 : Nat) (Option.some (Jvm.ClassFile.FieldType.array Jvm.ClassFile.FieldType.byte)), Jvm.Cond.code ({ cls := "java/lang/String", name := "<init>", desc := "([BB)V" } : Jvm.MethodName) jdk_42_method_151_code (3 : Nat) (Option.none : Option Jvm.ClassFile.FieldType), Jvm.Cond.code ({ cls := "java/lang/Integer", name := "toHexString", desc := "(I)Ljava/lang/String;" } : Jvm.MethodName) jdk_33_method_4_code (1 : Nat) (Option.some (Jvm.ClassFile.FieldType.object "java/lang/String")), Jvm.Cond.code ({ cls := "java/lang/Integer", name := "toUnsignedString0", desc := "(II)Ljava/lang/String;" } : Jvm.MethodName) jdk_33_method_7_code (5 : Nat) (Option.some (Jvm.ClassFile.FieldType.object "java/lang/String")), Jvm.Cond.code ({ cls := "java/lang/Integer", name := "numberOfLeadingZeros", desc := "(I)I" } : Jvm.MethodName) jdk_33_method_47_code (2 : Nat) (Option.some Jvm.ClassFile.FieldType.int), Jvm.Cond.code ({ cls := "java/lang/Math", name := "max", desc := "(II)I" } : Jvm.MethodName) jdk_29_method_65_code (2 : Nat) (Option.some Jvm.ClassFile.FieldType.int), Jvm.Cond.code ({ cls := "java/lang/Integer", name := "formatUnsignedInt", desc := "(II[BI)V" } : Jvm.MethodName) jdk_33_method_8_code (7 : Nat) (Option.none : Option Jvm.ClassFile.FieldType), Jvm.Cond.code ({ cls := "java/lang/StringBuilder", name := "append", desc := "(Ljava/lang/String;)Ljava/lang/StringBuilder;" } : Jvm.MethodName) jdk_67_method_7_code (2 : Nat) (Option.some (Jvm.ClassFile.FieldType.object "java/lang/StringBuilder")), Jvm.Cond.code ({ cls := "java/lang/AbstractStringBuilder", name := "append", desc := "(Ljava/lang/String;)Ljava/lang/AbstractStringBuilder;" } : Jvm.MethodName) jdk_68_method_22_code (3 : Nat) (Option.some (Jvm.ClassFile.FieldType.object "java/lang/AbstractStringBuilder")), Jvm.Cond.code ({ cls := "java/lang/AbstractStringBuilder", name := "newCapacity", desc := "(I)I" } : Jvm.MethodName) jdk_68_method_10_code (6 : Nat) (Option.some Jvm.ClassFile.FieldType.int), Jvm.Cond.code ({ cls := "jdk/internal/util/ArraysSupport", name := "newLength", desc := "(III)I" } : Jvm.MethodName) jdk_48_method_27_code (4 : Nat) (Option.some Jvm.ClassFile.FieldType.int), Jvm.Cond.code ({ cls := "java/util/Arrays", name := "copyOf", desc := "([BI)[B" } : Jvm.MethodName) jdk_65_method_121_code (3 : Nat) (Option.some (Jvm.ClassFile.FieldType.array Jvm.ClassFile.FieldType.byte)), Jvm.Cond.code ({ cls := "java/lang/Math", name := "min", desc := "(II)I" } : Jvm.MethodName) jdk_29_method_69_code (2 : Nat) (Option.some Jvm.ClassFile.FieldType.int), Jvm.Cond.code ({ cls := "java/lang/AbstractStringBuilder", name := "putStringAt", desc := "(ILjava/lang/String;)V" } : Jvm.MethodName) jdk_68_method_73_code (3 : Nat) (Option.none : Option Jvm.ClassFile.FieldType), Jvm.Cond.code ({ cls := "java/lang/AbstractStringBuilder", name := "inflateIfNeededFor", desc := "(Ljava/lang/String;)V" } : Jvm.MethodName) jdk_68_method_71_code (2 : Nat) (Option.none : Option Jvm.ClassFile.FieldType), Jvm.Cond.code ({ cls := "java/lang/String", name := "getBytes", desc := "([BIB)V" } : Jvm.MethodName) jdk_42_method_147_code (4 : Nat) (Option.none : Option Jvm.ClassFile.FieldType), Jvm.Cond.code ({ cls := "java/lang/String", name := "repeat", desc := "(I)Ljava/lang/String;" } : Jvm.MethodName) jdk_42_method_145_code (5 : Nat) (Option.some (Jvm.ClassFile.FieldType.object "java/lang/String")), Jvm.Cond.code ({ cls := "java/util/Arrays", name := "fill", desc := "([BB)V" } : Jvm.MethodName) jdk_65_method_109_code (4 : Nat) (Option.none : Option Jvm.ClassFile.FieldType), Jvm.Cond.code ({ cls := "java/util/Arrays", name := "copyOfRangeByte", desc := "([BII)[B" } : Jvm.MethodName) jdk_65_method_133_code (5 : Nat) (Option.some (Jvm.ClassFile.FieldType.array Jvm.ClassFile.FieldType.byte)), Jvm.Cond.code ({ cls := "java/util/Arrays", name := "checkLength", desc := "(II)V" } : Jvm.MethodName) jdk_65_method_131_code (2 : Nat) (Option.none : Option Jvm.ClassFile.FieldType), Jvm.Cond.code ({ cls := "com/example/motes_to_bounds/motestobounds/io/TextReportPrintablePinLaw", name := "hex", desc := "(I)C" } : Jvm.MethodName) method_5_code (1 : Nat) (Option.some Jvm.ClassFile.FieldType.char), Jvm.Cond.code ({ cls := "java/lang/StringUTF16", name := "toBytes", desc := "(C)[B" } : Jvm.MethodName) jdk_52_method_24_code (2 : Nat) (Option.some (Jvm.ClassFile.FieldType.array Jvm.ClassFile.FieldType.byte))]
set_option maxRecDepth 65536 in
theorem codes_eq : words1.filter isCode = codes1 := rfl
theorem w_codes : ∀ c ∈ words1.filter isCode, c.before args0 about1 = true := by
  rw [codes_eq]
  intro c hc
  simp only [codes1, List.mem_cons, List.not_mem_nil, or_false] at hc
  rcases hc with rfl | rfl | rfl | rfl | rfl | rfl | rfl | rfl | rfl | rfl | rfl | rfl | rfl | rfl | rfl | rfl | rfl | rfl | rfl | rfl | rfl | rfl | rfl | rfl | rfl | rfl | rfl | rfl | rfl | rfl | rfl | rfl | rfl | rfl | rfl | rfl | rfl | rfl | rfl | rfl | rfl | rfl | rfl | rfl | rfl | rfl | rfl | rfl | rfl | rfl | rfl | rfl | rfl | rfl | rfl | rfl | rfl | rfl | rfl | rfl | rfl | rfl | rfl | rfl | rfl | rfl | rfl | rfl | rfl | rfl | rfl | rfl
  · exact w_c0
  · exact w_c1
  · exact w_c2
  · exact w_c3
  · exact w_c4
  · exact w_c5
  · exact w_c6
  · exact w_c7
  · exact w_c8
  · exact w_c9
  · exact w_c10
  · exact w_c11
  · exact w_c12
  · exact w_c13
  · exact w_c14
  · exact w_c15
  · exact w_c16
  · exact w_c17
  · exact w_c18
  · exact w_c19
  · exact w_c20
  · exact w_c21
  · exact w_c22
  · exact w_c23
  · exact w_c24
  · exact w_c25
  · exact w_c26
  · exact w_c27
  · exact w_c28
  · exact w_c29
  · exact w_c30
  · exact w_c31
  · exact w_c32
  · exact w_c33
  · exact w_c34
  · exact w_c35
  · exact w_c36
  · exact w_c37
  · exact w_c38
  · exact w_c39
  · exact w_c40
  · exact w_c41
  · exact w_c42
  · exact w_c43
  · exact w_c44
  · exact w_c45
  · exact w_c46
  · exact w_c47
  · exact w_c48
  · exact w_c49
  · exact w_c50
  · exact w_c51
  · exact w_c52
  · exact w_c53
  · exact w_c54
  · exact w_c55
  · exact w_c56
  · exact w_c57
  · exact w_c58
  · exact w_c59
  · exact w_c60
  · exact w_c61
  · exact w_c62
  · exact w_c63
  · exact w_c64
  · exact w_c65
  · exact w_c66
  · exact w_c67
  · exact w_c68
  · exact w_c69
  · exact w_c70
  · exact w_c71
set_option maxRecDepth 65536 in
theorem w_t1 : (words1.take 24).all (fun c => isCode c || c.before args0 about1) = true := by decide +kernel
set_option maxRecDepth 65536 in
theorem w_t2 : ((words1.drop 24).take 24).all (fun c => isCode c || c.before args0 about1) = true := by decide +kernel
set_option maxRecDepth 65536 in
theorem w_t3 : (((words1.drop 24).drop 24).take 24).all (fun c => isCode c || c.before args0 about1) = true := by decide +kernel
set_option maxRecDepth 65536 in
theorem w_t4 : ((((words1.drop 24).drop 24).drop 24).take 24).all (fun c => isCode c || c.before args0 about1) = true := by decide +kernel
set_option maxRecDepth 65536 in
theorem w_t5 : (((((words1.drop 24).drop 24).drop 24).drop 24).take 24).all (fun c => isCode c || c.before args0 about1) = true := by decide +kernel
set_option maxRecDepth 65536 in
theorem w_t6 : ((((((words1.drop 24).drop 24).drop 24).drop 24).drop 24).take 24).all (fun c => isCode c || c.before args0 about1) = true := by decide +kernel
set_option maxRecDepth 65536 in
theorem w_t7 : (((((((words1.drop 24).drop 24).drop 24).drop 24).drop 24).drop 24).take 24).all (fun c => isCode c || c.before args0 about1) = true := by decide +kernel
set_option maxRecDepth 65536 in
theorem w_t8 : ((((((((words1.drop 24).drop 24).drop 24).drop 24).drop 24).drop 24).drop 24).take 24).all (fun c => isCode c || c.before args0 about1) = true := by decide +kernel
set_option maxRecDepth 65536 in
theorem w_t9 : (((((((((words1.drop 24).drop 24).drop 24).drop 24).drop 24).drop 24).drop 24).drop 24).take 24).all (fun c => isCode c || c.before args0 about1) = true := by decide +kernel
set_option maxRecDepth 65536 in
theorem w_t10 : ((((((((((words1.drop 24).drop 24).drop 24).drop 24).drop 24).drop 24).drop 24).drop 24).drop 24).take 24).all (fun c => isCode c || c.before args0 about1) = true := by decide +kernel
set_option maxRecDepth 65536 in
theorem w_t11 : (((((((((((words1.drop 24).drop 24).drop 24).drop 24).drop 24).drop 24).drop 24).drop 24).drop 24).drop 24).take 24).all (fun c => isCode c || c.before args0 about1) = true := by decide +kernel
set_option maxRecDepth 65536 in
theorem w_t12 : ((((((((((((words1.drop 24).drop 24).drop 24).drop 24).drop 24).drop 24).drop 24).drop 24).drop 24).drop 24).drop 24).take 24).all (fun c => isCode c || c.before args0 about1) = true := by decide +kernel
set_option maxRecDepth 65536 in
theorem w_t13 : (((((((((((((words1.drop 24).drop 24).drop 24).drop 24).drop 24).drop 24).drop 24).drop 24).drop 24).drop 24).drop 24).drop 24).take 24).all (fun c => isCode c || c.before args0 about1) = true := by decide +kernel
set_option maxRecDepth 65536 in
theorem w_t14 : (((((((((((((words1.drop 24).drop 24).drop 24).drop 24).drop 24).drop 24).drop 24).drop 24).drop 24).drop 24).drop 24).drop 24).drop 24).all (fun c => isCode c || c.before args0 about1) = true := by decide +kernel
theorem w_tables : (allAtoms (Jvm.Cond.code x code maxLocals ret :: tables_1)).before args0 about1 = true := by
  rw [allAtoms_all]
  show words1.all (fun c => c.before args0 about1) = true
  refine all_split ?_ w_codes
  rw [← List.take_append_drop 24 words1, List.all_append, w_t1, ← List.take_append_drop 24 (words1.drop 24), List.all_append, w_t2, ← List.take_append_drop 24 ((words1.drop 24).drop 24), List.all_append, w_t3, ← List.take_append_drop 24 (((words1.drop 24).drop 24).drop 24), List.all_append, w_t4, ← List.take_append_drop 24 ((((words1.drop 24).drop 24).drop 24).drop 24), List.all_append, w_t5, ← List.take_append_drop 24 (((((words1.drop 24).drop 24).drop 24).drop 24).drop 24), List.all_append, w_t6, ← List.take_append_drop 24 ((((((words1.drop 24).drop 24).drop 24).drop 24).drop 24).drop 24), List.all_append, w_t7, ← List.take_append_drop 24 (((((((words1.drop 24).drop 24).drop 24).drop 24).drop 24).drop 24).drop 24), List.all_append, w_t8, ← List.take_append_drop 24 ((((((((words1.drop 24).drop 24).drop 24).drop 24).drop 24).drop 24).drop 24).drop 24), List.all_append, w_t9, ← List.take_append_drop 24 (((((((((words1.drop 24).drop 24).drop 24).drop 24).drop 24).drop 24).drop 24).drop 24).drop 24), List.all_append, w_t10, ← List.take_append_drop 24 ((((((((((words1.drop 24).drop 24).drop 24).drop 24).drop 24).drop 24).drop 24).drop 24).drop 24).drop 24), List.all_append, w_t11, ← List.take_append_drop 24 (((((((((((words1.drop 24).drop 24).drop 24).drop 24).drop 24).drop 24).drop 24).drop 24).drop 24).drop 24).drop 24), List.all_append, w_t12, ← List.take_append_drop 24 ((((((((((((words1.drop 24).drop 24).drop 24).drop 24).drop 24).drop 24).drop 24).drop 24).drop 24).drop 24).drop 24).drop 24), List.all_append, w_t13, w_t14]
  rfl
set_option maxRecDepth 65536 in
theorem w_rest : rest_1_c.before args0 about1 = true := by decide +kernel
set_option maxRecDepth 65536 in
theorem w_case : (Jvm.Cond.and given_1 narrow_1).before args0 about1 = true := by decide +kernel
set_option maxRecDepth 65536 in
theorem w_consts : constsHeld consts_1 about1 := Jvm.Lit.constsHeldB_iff.mp (by decide +kernel)
theorem w_applies : (headSpec (Jvm.Cond.code x code maxLocals ret :: tables_1) room_1).applies x e0.platform about1 = true :=
  (Spec.applies_iff w_frames).mpr ⟨w_running, w_runnable, w_alone, w_named, w_hears, w_ripe, w_room, w_tables⟩
theorem atStart : AtStart classFile x code maxLocals ret World_1 tables_1 room_1 Calls_1 rest_1 Pre_1 launch0 p0 e0 about1 theMethod args0 below0 :=
  ⟨lists_1, trivial, launch0.admits_env _ _ _, launch0.least_env, fairChoices_fair.cas, fairChoices_fair.clock, w_frames, w_args, w_heap, w_applies, ⟨w_consts, trivial⟩, w_rest, w_case⟩
end start1
theorem witness_1 : WitnessClaimed_1 := ⟨start1.p0, start1.e0, start1.about1, start1.theMethod, start1.args0, start1.below0, start1.atStart⟩
end Jvm.Pilot.@@N@@
