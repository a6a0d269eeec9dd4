import JvmDerived
import JvmDerived.Pilot.@@N@@Statement
import JvmDerived.Pilot.@@N@@Code
set_option linter.unusedVariables false
set_option linter.unusedSimpArgs false
namespace Jvm.RoadKit
open Sem ClassFile Op Lib Jvm.Stand Jvm.Free Jvm.LawKit
section OwnNew
variable {p : Program} {l : Launch} {e : Env} {R : Room} {s : State} {m : MethodId} {args : Array Value} {below : List Frame} {meth : Method} {c : Code} {T : State} {locs : List Loc} {cells slots : Nat}
theorem retI (X : Stand p l e R s m args below meth c T locs cells slots) (hx : p.tables.exec = Jvm.exec) {pc : Nat} {Ls : Array Slot} {z : Int32} {rest : List Value} (hret : meth.sig.returnType = some .int) (hd : decode c.code pc = .ok (.ireturn, 1)) {fs : List Frame}
    (hl : ∀ (f : JFrame) (acts : List Action), f.method = m → f.locked = none → f.entered = [] → (doReturn e (T.setTop f) acts (some (.int z))).1 = T.setFrames fs) : Steps p.tables e below (T.setTop (mkF m pc Ls (.int z :: rest))) (T.setFrames fs) := by
  have hm' : T.vm.method? m = some meth := X.method'
  have hn : narrow .int (.int z) = .int z := rfl
  show Steps p.tables e below (T.setTop { method := m, pc := pc, locals := Ls, stack := _ :: rest, locked := none }) _
  jvm_step X.here [X.here.top, hx, hd, hm', hret, hn]
  first | (intro acts; rw [hl _ acts rfl rfl rfl]) | rw [hl _ _ rfl rfl rfl]
  exact Steps.refl _
/-- from S the run comes to an end of this invocation at which K holds -/
def OFin (p : Program) (e : Env) (below : List Frame) (K : Outcome → State → Prop) (S : State) : Prop := ∃ s₂ o, Steps p.tables e below S s₂ ∧ s₂.status = .running ∧ Ended s₂ below o ∧ K o s₂
theorem OFin.of {K : Outcome → State → Prop} {S S' : State} (h : ∀ t, Steps p.tables e below S' t → Steps p.tables e below S t) (k : OFin p e below K S') : OFin p e below K S := by
  obtain ⟨t, o, a, b⟩ := k; exact ⟨t, o, h t a, b⟩
theorem OFin.to {K : Outcome → State → Prop} {S S' : State} (h : Steps p.tables e below S S') (k : OFin p e below K S') : OFin p e below K S := by
  obtain ⟨t, o, a, b⟩ := k; exact ⟨t, o, h.trans a, b⟩
abbrev KPost (s : State) (Q : Option Value → Heap → List Loc → Prop) (C D : Nat) : Outcome → State → Prop := fun o U' => ∃ v L, o = .returned v ∧ Q v U'.heap L ∧ FrameEnd s o U' L C D
theorem OFin.retI (X : Stand p l e R s m args below meth c T locs cells slots) (hx : p.tables.exec = Jvm.exec) (hlk : meth.locks = false) {pc : Nat} {Ls : Array Slot} {z : Int32} {rest : List Value} {Q : Option Value → Heap → List Loc → Prop} {C D : Nat} (hret : meth.sig.returnType = some .int) (hd : decode c.code pc = .ok (.ireturn, 1)) (hC : cells ≤ C) (hD : slots ≤ D) (hQ : Q (some (.int z)) T.heap locs) :
    OFin p e below (KPost s Q C D) (T.setTop (mkF m pc Ls (.int z :: rest))) := by
  obtain ⟨fs, hr, hrun, hended, hW, hsame⟩ := X.leave (v := some (.int z)) (fun h => by rw [hret] at h; cases h) hlk
  exact ⟨_, _, Jvm.RoadKit.retI X hx hret hd hr, hrun, hended, _, _, rfl, hQ, ⟨_, rfl⟩, hW, hsame.mono hC hD⟩
theorem OFin.retB (X : Stand p l e R s m args below meth c T locs cells slots) (hx : p.tables.exec = Jvm.exec) (hlk : meth.locks = false) {pc : Nat} {Ls : Array Slot} {z : Int32} {rest : List Value} {Q : Option Value → Heap → List Loc → Prop} {C D : Nat} {t : FieldType} (ht : t = .boolean ∨ t = .byte ∨ t = .char ∨ t = .short) (hret : meth.sig.returnType = some t) (hd : decode c.code pc = .ok (.ireturn, 1)) (hC : cells ≤ C) (hD : slots ≤ D) (hQ : Q (some (.int (nar t z))) T.heap locs) :
    OFin p e below (KPost s Q C D) (T.setTop (mkF m pc Ls (.int z :: rest))) := by
  obtain ⟨fs, hr, hrun, hended, hW, hsame⟩ := X.leave (v := some (.int (nar t z))) (fun h => by rw [hret] at h; cases h) hlk
  exact ⟨_, _, retN X hx hret ht hd hr, hrun, hended, _, _, rfl, hQ, ⟨_, rfl⟩, hW, hsame.mono hC hD⟩
theorem OFin.retJ (X : Stand p l e R s m args below meth c T locs cells slots) (hx : p.tables.exec = Jvm.exec) (hlk : meth.locks = false) {pc : Nat} {Ls : Array Slot} {z : Int64} {Q : Option Value → Heap → List Loc → Prop} {C D : Nat} (hret : meth.sig.returnType = some .long) (hd : decode c.code pc = .ok (.lreturn, 1)) (hC : cells ≤ C) (hD : slots ≤ D) (hQ : Q (some (.long z)) T.heap locs) :
    OFin p e below (KPost s Q C D) (T.setTop (mkF m pc Ls [.long z])) := by
  obtain ⟨fs, hr, hrun, hended, hW, hsame⟩ := X.leave (v := some (.long z)) (fun h => by rw [hret] at h; cases h) hlk
  exact ⟨_, _, X.lreturnOut hx hret hd hr, hrun, hended, _, _, rfl, hQ, ⟨_, rfl⟩, hW, hsame.mono hC hD⟩
theorem OFin.retA (X : Stand p l e R s m args below meth c T locs cells slots) (hx : p.tables.exec = Jvm.exec) (hlk : meth.locks = false) {pc : Nat} {Ls : Array Slot} {z : Value} {Q : Option Value → Heap → List Loc → Prop} {C D : Nat} {t : FieldType} (ht : t.isReference = true) (hz : z.isRef = true) (hret : meth.sig.returnType = some t) (hd : decode c.code pc = .ok (.areturn, 1)) (hC : cells ≤ C) (hD : slots ≤ D) (hQ : Q (some z) T.heap locs) :
    OFin p e below (KPost s Q C D) (T.setTop (mkF m pc Ls [z])) := by
  obtain ⟨fs, hr, hrun, hended, hW, hsame⟩ := X.leave (v := some z) (fun h => by rw [hret] at h; cases h) hlk
  exact ⟨_, _, X.areturnOut hx hz hret ht hd hr, hrun, hended, _, _, rfl, hQ, ⟨_, rfl⟩, hW, hsame.mono hC hD⟩
theorem OFin.retD (X : Stand p l e R s m args below meth c T locs cells slots) (hx : p.tables.exec = Jvm.exec) (hlk : meth.locks = false) {pc : Nat} {Ls : Array Slot} {z : UInt64} {rest : List Value} {Q : Option Value → Heap → List Loc → Prop} {C D : Nat} (hret : meth.sig.returnType = some .double) (hd : decode c.code pc = .ok (.dreturn, 1)) (hC : cells ≤ C) (hD : slots ≤ D) (hQ : Q (some (.double z)) T.heap locs) :
    OFin p e below (KPost s Q C D) (T.setTop (mkF m pc Ls (.double z :: rest))) := by
  obtain ⟨fs, hr, hrun, hended, hW, hsame⟩ := X.leave (v := some (.double z)) (fun h => by rw [hret] at h; cases h) hlk
  exact ⟨_, _, retOut X hx hret rfl (Or.inr (Or.inr (Or.inl ⟨rfl, rfl, z, rfl⟩))) hd hr, hrun, hended, _, _, rfl, hQ, ⟨_, rfl⟩, hW, hsame.mono hC hD⟩
theorem OFin.retV (X : Stand p l e R s m args below meth c T locs cells slots) (hx : p.tables.exec = Jvm.exec) (hlk : meth.locks = false) {pc : Nat} {Ls : Array Slot} {Q : Option Value → Heap → List Loc → Prop} {C D : Nat} (hret : meth.sig.returnType = none) (hd : decode c.code pc = .ok (.return_, 1)) (hC : cells ≤ C) (hD : slots ≤ D) (hQ : Q none T.heap locs) :
    OFin p e below (KPost s Q C D) (T.setTop (mkF m pc Ls [])) := by
  obtain ⟨fs, hr, hrun, hended, hW, hsame⟩ := X.leave (v := none) (fun _ => rfl) hlk
  exact ⟨_, _, X.returnOut hx hret hd hr, hrun, hended, _, _, rfl, hQ, ⟨_, rfl⟩, hW, hsame.mono hC hD⟩
abbrev KPostW (s : State) (Q : Option Value → Heap → List Loc → Prop) (C D : Nat) : Outcome → State → Prop := fun o U' => ∃ v L, o = .returned v ∧ Q v U'.heap L ∧ ReturnedEndW s o U' L C D
theorem OFin.retBW {vm₁ : Vm} {k : Nat} (X : Stand p l e R (s.setVm vm₁) m args below meth c T locs cells slots) (hS : s.Since vm₁ k) (hk : k ≤ T.heap.size) (hx : p.tables.exec = Jvm.exec) (hlk : meth.locks = false) {pc : Nat} {Ls : Array Slot} {z : Int32} {rest : List Value} {Q : Option Value → Heap → List Loc → Prop} {C D : Nat} {t : FieldType} (ht : t = .boolean ∨ t = .byte ∨ t = .char ∨ t = .short) (hret : meth.sig.returnType = some t) (hd : decode c.code pc = .ok (.ireturn, 1)) (hC : cells ≤ C) (hD : slots ≤ D) (hQ : Q (some (.int (nar t z))) T.heap locs) :
    OFin p e below (KPostW s Q C D) (T.setTop (mkF m pc Ls (.int z :: rest))) := by
  obtain ⟨fs, hr, hrun, hended, h1, h2, h3, h4⟩ := X.leaveW hS hk (v := some (.int (nar t z))) (fun h => by rw [hret] at h; cases h) hlk
  exact ⟨_, _, retN X hx hret ht hd hr, hrun, hended, _, _, rfl, hQ, ⟨_, rfl⟩, h2, h3, h4.mono hC hD⟩
theorem own_alen {Z : State} {h : Heap} {a : Addr} {cl : Cell} {ty : FieldType} {z : Int32} {g : JFrame} {rest : List Value} {target : State} (X : Stand p l e R s m args below meth c T locs cells slots) (hx : p.tables.exec = Jvm.exec) (hZ : Z.Warmed39 s.vm) (eT : T.heap = h) (A : Arr Z h a cl ty) (S : cl.slots.size = z.toNatClampNeg) (q : ¬ z < 0) (hg : g.method = m) (hs : g.stack = .ref a :: rest) (hd : decode c.code g.pc = .ok (.arraylength, 1))
    (hr : Steps p.tables e below (T.setTop { g with pc := g.pc + 1, stack := .int z :: rest }) target) : Steps p.tables e below (T.setTop g) target := by
  refine X.arraylength hx (by rw [eT]; exact A.1) (State.isArrayOf_alike hZ.alike A.2.1) hg hs hd _ ?_
  rw [len_of S q]; exact hr
def OwnNoSta (h : Heap) (ws : List Addr) : Prop := ∀ x ∈ ws, ∀ cell : Cell, h[x]? = some cell → cell.vm.isStatics = false
theorem own_sn0 {h : Heap} : OwnNoSta h [] := fun _ q => nomatch q
theorem own_snS {Z : State} {h : Heap} {a : Addr} {C : String} {ws : List Addr} (E : Exa Z h a C) (r : OwnNoSta h ws) : OwnNoSta h (a :: ws) := fun x q cell hc => by
  rcases List.mem_cons.mp q with rfl | q
  · obtain ⟨c', _, h1, -, -, h4, -⟩ := E; cases h1.symm.trans hc; exact h4
  · exact r x q cell hc
theorem own_snV {Z : State} {h : Heap} {a : Addr} {k : ClassId} {ty : FieldType} {z : Int32} {vs : List Value} {dv : Value} {ws : List Addr} (F : Arv Z h a k ty z vs dv) (r : OwnNoSta h ws) : OwnNoSta h (a :: ws) := fun x q cell hc => by
  rcases List.mem_cons.mp q with rfl | q
  · obtain ⟨c', A, -⟩ := F; cases A.1.symm.trans hc; exact A.plain
  · exact r x q cell hc
theorem own_staKeep {Z : State} {h h' : Heap} {C n d : String} {v : Value} {ws : List Addr} (F : Sta Z h C n d v) (K : Keep h h' ws) (q : OwnNoSta h ws) : Sta Z h' C n d v := by
  obtain ⟨cf, i, k, f, st, cell, h1, h2, h3, h4, h5, h6, h7⟩ := F
  refine ⟨cf, i, k, f, st, cell, h1, h2, h3, h4, K.2.1 st cell h5 (fun z => ?_), h6, h7⟩
  have := q st z cell h5
  rw [this] at h6; cases h6
theorem own_pop2L {tb : Tables} [Ours tb] {e : Env} {below : List Frame} {T target : State} {m : MethodId} {c : Code} {g : JFrame} (h : At T m c below) (hx : tb.exec = Jvm.exec) (hg : g.method = m) {x : Int64} {rest : List Value} (hd : decode c.code g.pc = .ok (.pop2, 1)) (hs : g.stack = .long x :: rest)
    (hr : Steps tb e below (T.setTop { g with pc := g.pc + 1, stack := rest }) target) : Steps tb e below (T.setTop g) target := by
  subst hg
  jvm_step h [h.top, hx, hd, hs, Value.category]
  exact hr
def OwnMet (E : Int32) (h0 : Heap) (n0 : Nat) (v : Option Value) (h : Heap) (L : List Loc) : Prop := v = some (.int E) ∧ Fr n0 L ∧ h = h0
end OwnNew
end Jvm.RoadKit
namespace Jvm.Pilot.@@N@@
open Jvm Jvm.ClassFile Sem Op Lib Jvm.Free Jvm.Stand Jvm.LawKit Jvm.RoadKit Bundle Jvm.Pilot.@@N@@.Jvm.D
abbrev cA : String := "com/example/holdfast/holdfast/xml/Markup"
abbrev cB : String := "java/lang/String"
abbrev cC : String := "com/example/holdfast/holdfast/xml/MarkupNextAttributePinLaw"
abbrev cD : String := "Lcom/example/holdfast/holdfast/xml/Markup$Kind;"
abbrev cE : String := "jdk/internal/util/Preconditions"
abbrev cF : String := "Ljava/util/function/BiFunction;"
abbrev cG : String := "com/example/holdfast/holdfast/xml/Markup$Kind"
abbrev cH : String := "java/util/Arrays"
abbrev cI : String := "java/lang/StringUTF16"
abbrev cJ : String := "java/lang/StringLatin1"
abbrev c10 : String := "Lsun/nio/cs/UTF_8;"
abbrev c11 : String := "jdk/internal/util/ArraysSupport"
abbrev c12 : String := "Ljava/nio/charset/Charset;"
abbrev mn0 : MethodName := (⟨cA, "isSpace", "(B)Z"⟩ : MethodName)
abbrev mn1 : MethodName := (⟨cA, "endsName", "(B)Z"⟩ : MethodName)
abbrev mn2 : MethodName := (⟨cA, "indexOf", "(BI)I"⟩ : MethodName)
abbrev mn3 : MethodName := (⟨cA, "pastSpace", "(I)I"⟩ : MethodName)
abbrev mn4 : MethodName := (⟨cA, "readName", "(I)I"⟩ : MethodName)
abbrev mn5 : MethodName := (⟨cA, "byteAfter", "(I)B"⟩ : MethodName)
abbrev mn6 : MethodName := (⟨cA, "tagEnd", "()I"⟩ : MethodName)
abbrev mn7 : MethodName := (⟨cA, "emptyElement", "()Z"⟩ : MethodName)
abbrev mn8 : MethodName := (⟨cA, "<init>", "([BII)V"⟩ : MethodName)
abbrev mn9 : MethodName := (⟨cA, "nextTag", "()Z"⟩ : MethodName)
abbrev mn10 : MethodName := (⟨cA, "nextAttribute", "()Z"⟩ : MethodName)
abbrev mn11 : MethodName := (⟨cA, "readAttribute", "()Z"⟩ : MethodName)
abbrev mn12 : MethodName := (⟨cE, "checkIndex", "(IILjava/util/function/BiFunction;)I"⟩ : MethodName)
abbrev mn13 : MethodName := (⟨cB, "checkIndex", "(II)V"⟩ : MethodName)
abbrev mn14 : MethodName := (⟨cB, "coder", "()B"⟩ : MethodName)
abbrev mn15 : MethodName := (⟨cB, "isLatin1", "()Z"⟩ : MethodName)
abbrev mn16 : MethodName := (⟨cB, "length", "()I"⟩ : MethodName)
abbrev mn17 : MethodName := (⟨cJ, "charAt", "([BI)C"⟩ : MethodName)
abbrev mn18 : MethodName := (⟨cB, "charAt", "(I)C"⟩ : MethodName)
abbrev mn19 : MethodName := (⟨cA, "startsWith", "(ILjava/lang/String;)Z"⟩ : MethodName)
abbrev mn20 : MethodName := (⟨cA, "past", "(ILjava/lang/String;)I"⟩ : MethodName)
abbrev mn21 : MethodName := (⟨cH, "rangeCheck", "(III)V"⟩ : MethodName)
abbrev mn22 : MethodName := (⟨c11, "mismatch", "([BI[BII)I"⟩ : MethodName)
abbrev mn23 : MethodName := (⟨cH, "equals", "([BII[BII)Z"⟩ : MethodName)
abbrev mn24 : MethodName := (⟨cA, "nameIs", "([B)Z"⟩ : MethodName)
abbrev mn25 : MethodName := (⟨cC, "count", "(I)I"⟩ : MethodName)
abbrev mn26 : MethodName := (⟨cC, "space", "(I)B"⟩ : MethodName)
abbrev mn27 : MethodName := (⟨cC, "stopsName", "(B)Z"⟩ : MethodName)
abbrev mn28 : MethodName := (⟨cC, "nameByte", "(I)B"⟩ : MethodName)
abbrev mn29 : MethodName := (⟨cC, "valueChar", "(IB)C"⟩ : MethodName)
abbrev mn30 : MethodName := (⟨"java/lang/Math", "min", "(II)I"⟩ : MethodName)
abbrev mn31 : MethodName := (⟨cH, "checkLength", "(II)V"⟩ : MethodName)
abbrev mn32 : MethodName := (⟨"java/util/Objects", "requireNonNull", "(Ljava/lang/Object;)Ljava/lang/Object;"⟩ : MethodName)
abbrev mn33 : MethodName := (⟨cH, "copyOfRangeByte", "([BII)[B"⟩ : MethodName)
abbrev mn34 : MethodName := (⟨cH, "copyOfRange", "([BII)[B"⟩ : MethodName)
abbrev mn35 : MethodName := (⟨"java/lang/StringCoding", "countPositives", "([BII)I"⟩ : MethodName)
abbrev mn36 : MethodName := (⟨cB, "<init>", "(Ljava/nio/charset/Charset;[BII)V"⟩ : MethodName)
abbrev mn37 : MethodName := (⟨cE, "checkFromIndexSize", "(IIILjava/util/function/BiFunction;)I"⟩ : MethodName)
abbrev mn38 : MethodName := (⟨cB, "checkBoundsOffCount", "(III)I"⟩ : MethodName)
abbrev mn39 : MethodName := (⟨cB, "<init>", "([BIILjava/nio/charset/Charset;)V"⟩ : MethodName)
abbrev mn40 : MethodName := (⟨cC, "breakerByte", "(I)B"⟩ : MethodName)
abbrev mn41 : MethodName := (⟨cA, "value", "()Ljava/lang/String;"⟩ : MethodName)
abbrev mn42 : MethodName := (⟨cB, "<init>", "([CIILjava/lang/Void;)V"⟩ : MethodName)
abbrev mn43 : MethodName := (⟨cB, "<init>", "([C)V"⟩ : MethodName)
abbrev mn44 : MethodName := (⟨cI, "compress", "([CI[BII)I"⟩ : MethodName)
abbrev mn45 : MethodName := (⟨cI, "compress", "([CII)[B"⟩ : MethodName)
abbrev mn46 : MethodName := (⟨cI, "coderFromArrayLen", "([BI)B"⟩ : MethodName)
abbrev mn47 : MethodName := (⟨cJ, "equals", "([B[B)Z"⟩ : MethodName)
abbrev mn48 : MethodName := (⟨cB, "equals", "(Ljava/lang/Object;)Z"⟩ : MethodName)
end Jvm.Pilot.@@N@@
namespace Jvm.Pilot.@@N@@
open Jvm Jvm.ClassFile Sem Op Lib Jvm.Free Jvm.Stand Jvm.Pilot.@@N@@.Jvm.D
/-! MADE BY PROGRAM (witnessworld.py) out of the Statement's table words and the real class files: 32 classes; the members and pool entries that the words name. The judged class is class 1, her method 7. -/
set_option maxRecDepth 65536
set_option maxHeartbeats 40000000
namespace start1
open Jvm.ClassFile
set_option maxRecDepth 65536
abbrev mt (n d : String) (ps : List FieldType) (r : Option FieldType) (f : Nat) (c : Option Code) : Method := { name := n, desc := d, sig := { parameters := ps, returnType := r }, accessFlags := f, code := c }
def u (s : String) : CpInfo := .utf8 (stringToUtf16 s)
/-- a pool by its gaps: so many unusable entries, then the entry; so many at the end -/
def gap : Nat → List CpInfo → List CpInfo
  | 0, r => r
  | n + 1, r => .unusable :: gap n r
def poolList (es : List (Nat × CpInfo)) (last : Nat) : List CpInfo := es.foldr (fun e r => gap e.1 (e.2 :: r)) (gap last [])
def pool (es : List (Nat × CpInfo)) (last : Nat) : Array CpInfo := ⟨poolList es last⟩
def fileOf (pool : Array CpInfo) (this : Nat) (attrs : Array Attribute := #[]) (ms : Array MethodInfo := #[]) (fl : Nat := 33) (sup : Nat := 0) (ifs : Array Nat := #[]) (fds : Array FieldInfo := #[]) : ClassFile where
  minorVersion := 0
  majorVersion := 65
  constantPool := pool
  accessFlags := fl
  thisClass := this
  superClass := sup
  interfaces := ifs
  fields := fds
  methods := ms
  attributes := attrs
def plain (name : String) (sup : Option ClassId) : Class where
  name := name
  kind := .ordinary
  loader := none
  accessFlags := 33
  super := sup
  interfaces := #[]
  cf := none
  fields := #[]
  methods := #[]
  instanceTypes := #[]
  staticTypes := #[]
  resolved := #[]
  callSites := []
  init := .initialized
  statics := none
  mirror := none

def pool0 : Array CpInfo := pool [(5, u "<init>"), (0, u "()V"), (1, .class_ 10), (1, u "java/lang/Object")] 113

def k0c0 : Code := { maxStack := 0, maxLocals := 1, code := object_method_1_code, exceptionTable := #[], attributes := #[] }
def k0m0 : Method := mt "<init>" "()V" [] (none) 1 (some k0c0)
/-- java/lang/Object -/
def k0 : Class := { plain "java/lang/Object" none with
  accessFlags := 33
  interfaces := #[]
  cf := some (fileOf pool0 8 #[] #[⟨1, 5, 6, #[]⟩] 33 0 #[] #[])
  fields := #[]
  methods := #[k0m0]
  instanceTypes := #[]
  staticTypes := #[]
  resolved := Array.replicate 124 none
  statics := none }

def pool1 : Array CpInfo := pool [(2, .class_ 4), (1, u "java/lang/Object"), (0, u "<init>"), (0, u "()V"), (0, .methodref 8 9), (0, .class_ 10), (0, .nameAndType 11 12), (0, u "com/example/holdfast/holdfast/xml/MarkupNextAttributePinLaw"), (0, u "stopsName"), (0, u "(B)Z"), (0, .methodref 8 14), (0, .nameAndType 15 16), (0, u "count"), (0, u "(I)I"), (0, .methodref 8 18), (0, .nameAndType 19 20), (0, u "space"), (0, u "(I)B"), (0, .methodref 8 22), (0, .nameAndType 23 20), (0, u "nameByte"), (0, .methodref 8 25), (0, .nameAndType 26 27), (0, u "valueChar"), (0, u "(IB)C"), (0, .methodref 8 29), (0, .nameAndType 30 20), (0, u "breakerByte"), (0, .class_ 32), (0, u "com/example/holdfast/holdfast/xml/Markup"), (0, .methodref 31 34), (0, .nameAndType 5 35), (0, u "([BII)V"), (0, .methodref 31 37), (0, .nameAndType 38 39), (0, u "nextTag"), (0, u "()Z"), (0, .methodref 31 41), (0, .nameAndType 42 43), (0, u "tagEnd"), (0, u "()I"), (0, .methodref 31 45), (0, .nameAndType 46 39), (0, u "nextAttribute"), (0, .methodref 31 48), (0, .nameAndType 49 39), (0, u "emptyElement"), (0, .methodref 31 51), (0, .nameAndType 52 53), (0, u "nameIs"), (0, u "([B)Z"), (0, .methodref 31 55), (0, .nameAndType 56 57), (0, u "value"), (0, u "()Ljava/lang/String;"), (0, .class_ 59), (0, u "java/lang/String"), (0, .methodref 58 61), (0, .nameAndType 5 62), (0, u "([C)V"), (0, .methodref 58 64), (0, .nameAndType 65 66), (0, u "equals"), (0, u "(Ljava/lang/Object;)Z"), (3, u "law"), (0, u "(IIIIII)Z")] 6

def k1m0 : Method := mt "<init>" "()V" [] (none) 1 (none)
def k1c1 : Code := { maxStack := 2, maxLocals := 2, code := method_2_code, exceptionTable := #[], attributes := #[] }
def k1m1 : Method := mt "space" "(I)B" [.int] (some .byte) 10 (some k1c1)
def k1c2 : Code := { maxStack := 3, maxLocals := 1, code := method_3_code, exceptionTable := #[], attributes := #[] }
def k1m2 : Method := mt "count" "(I)I" [.int] (some .int) 10 (some k1c2)
def k1c3 : Code := { maxStack := 2, maxLocals := 1, code := method_4_code, exceptionTable := #[], attributes := #[] }
def k1m3 : Method := mt "stopsName" "(B)Z" [.byte] (some .boolean) 10 (some k1c3)
def k1c4 : Code := { maxStack := 1, maxLocals := 2, code := method_5_code, exceptionTable := #[], attributes := #[] }
def k1m4 : Method := mt "nameByte" "(I)B" [.int] (some .byte) 10 (some k1c4)
def k1c5 : Code := { maxStack := 2, maxLocals := 3, code := method_6_code, exceptionTable := #[], attributes := #[] }
def k1m5 : Method := mt "valueChar" "(IB)C" [.int, .byte] (some .char) 10 (some k1c5)
def k1c6 : Code := { maxStack := 2, maxLocals := 3, code := method_7_code, exceptionTable := #[], attributes := #[] }
def k1m6 : Method := mt "breakerByte" "(I)B" [.int] (some .byte) 10 (some k1c6)
def k1c7 : Code := { maxStack := 5, maxLocals := 36, code := code, exceptionTable := #[], attributes := #[] }
def k1m7 : Method := mt "law" "(IIIIII)Z" [.int, .int, .int, .int, .int, .int] (some .boolean) 9 (some k1c7)
/-- com/example/holdfast/holdfast/xml/MarkupNextAttributePinLaw -/
def k1 : Class := { plain "com/example/holdfast/holdfast/xml/MarkupNextAttributePinLaw" (some 0) with
  accessFlags := 49
  interfaces := #[]
  cf := some (fileOf pool1 8 #[] #[⟨1, 5, 6, #[]⟩, ⟨10, 19, 20, #[]⟩, ⟨10, 15, 16, #[]⟩, ⟨10, 11, 12, #[]⟩, ⟨10, 23, 20, #[]⟩, ⟨10, 26, 27, #[]⟩, ⟨10, 30, 20, #[]⟩, ⟨9, 70, 71, #[]⟩] 49 2 #[] #[])
  fields := #[]
  methods := #[k1m0, k1m1, k1m2, k1m3, k1m4, k1m5, k1m6, k1m7]
  instanceTypes := #[]
  staticTypes := #[]
  resolved := Array.replicate 78 none
  statics := none }

def pool2 : Array CpInfo := pool [(1, .methodref 2 3), (0, .class_ 4), (0, .nameAndType 5 6), (0, u "java/lang/Object"), (0, u "<init>"), (0, u "()V"), (0, .fieldref 8 9), (0, .class_ 10), (0, .nameAndType 11 12), (0, u "com/example/holdfast/holdfast/xml/Markup"), (0, u "text"), (0, u "[B"), (0, .fieldref 8 14), (0, .nameAndType 15 16), (0, u "at"), (0, u "I"), (0, .fieldref 8 18), (0, .nameAndType 19 16), (0, u "end"), (9, u "([BII)V"), (3, u "()I"), (2, u "nextTag"), (0, u "()Z"), (2, u "kind"), (1, .fieldref 43 44), (0, .class_ 45), (0, .nameAndType 46 47), (0, u "com/example/holdfast/holdfast/xml/Markup$Kind"), (0, u "END"), (0, u "Lcom/example/holdfast/holdfast/xml/Markup$Kind;"), (6, u "nextAttribute"), (0, .methodref 8 56), (0, .nameAndType 57 58), (0, u "indexOf"), (0, u "(BI)I"), (0, .methodref 8 60), (0, .nameAndType 61 62), (0, u "byteAfter"), (0, u "(I)B"), (3, u "(I)I"), (0, .fieldref 8 68), (0, .nameAndType 40 47), (0, .fieldref 8 70), (0, .nameAndType 71 16), (0, u "tagStart"), (0, .fieldref 8 73), (0, .nameAndType 74 75), (0, u "emptyElement"), (0, u "Z"), (0, .fieldref 43 77), (0, .nameAndType 78 47), (0, u "INSTRUCTION"), (0, .methodref 8 80), (0, .nameAndType 81 66), (0, u "readName"), (0, .string 83), (0, u "?>"), (0, .methodref 8 85), (0, .nameAndType 86 87), (0, u "past"), (0, u "(ILjava/lang/String;)I"), (0, .fieldref 8 89), (0, .nameAndType 90 16), (0, u "tagEnd"), (0, .fieldref 8 92), (0, .nameAndType 93 16), (0, u "nameEnd"), (0, .fieldref 43 95), (0, .nameAndType 96 47), (0, u "START"), (0, .fieldref 8 98), (0, .nameAndType 99 75), (0, u "attributesLeft"), (0, .methodref 8 101), (0, .nameAndType 102 37), (0, u "readAttribute"), (0, .methodref 8 104), (0, .nameAndType 105 66), (0, u "pastSpace"), (0, .fieldref 8 107), (0, .nameAndType 108 16), (0, u "valueStart"), (0, .fieldref 8 110), (0, .nameAndType 111 16), (0, u "valueEnd"), (0, .fieldref 8 113), (0, .nameAndType 114 16), (0, u "nameStart"), (0, .methodref 116 117), (0, .class_ 118), (0, .nameAndType 119 120), (0, u "java/util/Arrays"), (0, u "equals"), (0, u "([BII[BII)Z"), (0, .class_ 122), (0, u "java/lang/String"), (0, .fieldref 124 125), (0, .class_ 126), (0, .nameAndType 127 128), (0, u "java/nio/charset/StandardCharsets"), (0, u "UTF_8"), (0, u "Ljava/nio/charset/Charset;"), (0, .methodref 121 130), (0, .nameAndType 5 131), (0, u "([BIILjava/nio/charset/Charset;)V"), (0, .fieldref 8 133), (0, .nameAndType 134 16), (0, u "nameHash"), (4, .methodref 8 140), (0, .nameAndType 141 142), (0, u "endsName"), (0, u "(B)Z"), (2, .methodref 8 146), (0, .nameAndType 147 148), (0, u "startsWith"), (0, u "(ILjava/lang/String;)Z"), (13, .long 6917669769424414208), (1, .methodref 8 165), (0, .nameAndType 166 142), (0, u "isSpace"), (0, .methodref 121 168), (0, .nameAndType 169 33), (0, u "length"), (0, .methodref 121 171), (0, .nameAndType 172 173), (0, u "charAt"), (0, u "(I)C"), (8, u "ENDS_NAME"), (0, u "J"), (6, u "nameIs"), (0, u "([B)Z"), (1, u "()Ljava/lang/String;"), (1, u "value")] 5

def k2c0 : Code := { maxStack := 2, maxLocals := 4, code := prog_7_method_1_code, exceptionTable := #[], attributes := #[] }
def k2m0 : Method := mt "<init>" "([BII)V" [(.array .byte), .int, .int] (none) 0 (some k2c0)
def k2c1 : Code := { maxStack := 4, maxLocals := 5, code := prog_7_method_3_code, exceptionTable := #[], attributes := #[] }
def k2m1 : Method := mt "nextTag" "()Z" [] (some .boolean) 0 (some k2c1)
def k2c2 : Code := { maxStack := 1, maxLocals := 1, code := prog_7_method_6_code, exceptionTable := #[], attributes := #[] }
def k2m2 : Method := mt "tagEnd" "()I" [] (some .int) 0 (some k2c2)
def k2c3 : Code := { maxStack := 1, maxLocals := 1, code := prog_7_method_7_code, exceptionTable := #[], attributes := #[] }
def k2m3 : Method := mt "emptyElement" "()Z" [] (some .boolean) 0 (some k2c3)
def k2c4 : Code := { maxStack := 4, maxLocals := 2, code := prog_7_method_8_code, exceptionTable := #[], attributes := #[] }
def k2m4 : Method := mt "nextAttribute" "()Z" [] (some .boolean) 0 (some k2c4)
def k2c5 : Code := { maxStack := 4, maxLocals := 2, code := prog_7_method_9_code, exceptionTable := #[], attributes := #[] }
def k2m5 : Method := mt "readAttribute" "()Z" [] (some .boolean) 2 (some k2c5)
def k2c6 : Code := { maxStack := 6, maxLocals := 2, code := prog_7_method_10_code, exceptionTable := #[], attributes := #[] }
def k2m6 : Method := mt "nameIs" "([B)Z" [(.array .byte)] (some .boolean) 0 (some k2c6)
def k2c7 : Code := { maxStack := 6, maxLocals := 1, code := prog_7_method_13_code, exceptionTable := #[], attributes := #[] }
def k2m7 : Method := mt "value" "()Ljava/lang/String;" [] (some (.object "java/lang/String")) 0 (some k2c7)
def k2c8 : Code := { maxStack := 3, maxLocals := 4, code := prog_7_method_15_code, exceptionTable := #[], attributes := #[] }
def k2m8 : Method := mt "readName" "(I)I" [.int] (some .int) 2 (some k2c8)
def k2c9 : Code := { maxStack := 3, maxLocals := 2, code := prog_7_method_16_code, exceptionTable := #[], attributes := #[] }
def k2m9 : Method := mt "byteAfter" "(I)B" [.int] (some .byte) 2 (some k2c9)
def k2c10 : Code := { maxStack := 4, maxLocals := 1, code := prog_7_method_19_code, exceptionTable := #[], attributes := #[] }
def k2m10 : Method := mt "endsName" "(B)Z" [.byte] (some .boolean) 10 (some k2c10)
def k2c11 : Code := { maxStack := 2, maxLocals := 2, code := prog_7_method_20_code, exceptionTable := #[], attributes := #[] }
def k2m11 : Method := mt "pastSpace" "(I)I" [.int] (some .int) 2 (some k2c11)
def k2c12 : Code := { maxStack := 2, maxLocals := 1, code := prog_7_method_21_code, exceptionTable := #[], attributes := #[] }
def k2m12 : Method := mt "isSpace" "(B)Z" [.byte] (some .boolean) 10 (some k2c12)
def k2c13 : Code := { maxStack := 3, maxLocals := 4, code := prog_7_method_22_code, exceptionTable := #[], attributes := #[] }
def k2m13 : Method := mt "past" "(ILjava/lang/String;)I" [.int, (.object "java/lang/String")] (some .int) 2 (some k2c13)
def k2c14 : Code := { maxStack := 3, maxLocals := 4, code := prog_7_method_23_code, exceptionTable := #[], attributes := #[] }
def k2m14 : Method := mt "startsWith" "(ILjava/lang/String;)Z" [.int, (.object "java/lang/String")] (some .boolean) 2 (some k2c14)
def k2c15 : Code := { maxStack := 2, maxLocals := 4, code := prog_7_method_25_code, exceptionTable := #[], attributes := #[] }
def k2m15 : Method := mt "indexOf" "(BI)I" [.byte, .int] (some .int) 2 (some k2c15)
/-- com/example/holdfast/holdfast/xml/Markup -/
def k2 : Class := { plain "com/example/holdfast/holdfast/xml/Markup" (some 0) with
  accessFlags := 48
  interfaces := #[]
  cf := some (fileOf pool2 8 #[.nestMembers #[43]] #[⟨0, 5, 29, #[]⟩, ⟨0, 36, 37, #[]⟩, ⟨0, 90, 33, #[]⟩, ⟨0, 74, 37, #[]⟩, ⟨0, 54, 37, #[]⟩, ⟨2, 102, 37, #[]⟩, ⟨0, 190, 191, #[]⟩, ⟨0, 195, 193, #[]⟩, ⟨2, 81, 66, #[]⟩, ⟨2, 61, 62, #[]⟩, ⟨10, 141, 142, #[]⟩, ⟨2, 105, 66, #[]⟩, ⟨10, 166, 142, #[]⟩, ⟨2, 86, 87, #[]⟩, ⟨2, 147, 148, #[]⟩, ⟨2, 57, 58, #[]⟩] 48 2 #[] #[⟨26, 182, 183, #[]⟩, ⟨18, 11, 12, #[]⟩, ⟨18, 19, 16, #[]⟩, ⟨2, 15, 16, #[]⟩, ⟨2, 40, 47, #[]⟩, ⟨2, 71, 16, #[]⟩, ⟨2, 90, 16, #[]⟩, ⟨2, 74, 75, #[]⟩, ⟨2, 99, 75, #[]⟩, ⟨2, 114, 16, #[]⟩, ⟨2, 93, 16, #[]⟩, ⟨2, 134, 16, #[]⟩, ⟨2, 108, 16, #[]⟩, ⟨2, 111, 16, #[]⟩])
  fields := #[⟨"ENDS_NAME", .long, 26, 0, 0⟩, ⟨"text", (.array .byte), 18, 0, 0⟩, ⟨"end", .int, 18, 1, 0⟩, ⟨"at", .int, 2, 2, 0⟩, ⟨"kind", (.object "com/example/holdfast/holdfast/xml/Markup$Kind"), 2, 3, 0⟩, ⟨"tagStart", .int, 2, 4, 0⟩, ⟨"tagEnd", .int, 2, 5, 0⟩, ⟨"emptyElement", .boolean, 2, 6, 0⟩, ⟨"attributesLeft", .boolean, 2, 7, 0⟩, ⟨"nameStart", .int, 2, 8, 0⟩, ⟨"nameEnd", .int, 2, 9, 0⟩, ⟨"nameHash", .int, 2, 10, 0⟩, ⟨"valueStart", .int, 2, 11, 0⟩, ⟨"valueEnd", .int, 2, 12, 0⟩]
  methods := #[k2m0, k2m1, k2m2, k2m3, k2m4, k2m5, k2m6, k2m7, k2m8, k2m9, k2m10, k2m11, k2m12, k2m13, k2m14, k2m15]
  instanceTypes := #[(.array .byte), .int, .int, (.object "com/example/holdfast/holdfast/xml/Markup$Kind"), .int, .int, .boolean, .boolean, .int, .int, .int, .int, .int]
  staticTypes := #[.long]
  resolved := Array.replicate 201 none
  statics := none }

def pool3 : Array CpInfo := pool [(1, .class_ 2), (0, u "java/lang/constant/Constable"), (0, .class_ 4), (0, u "java/lang/Object")] 6

/-- java/lang/constant/Constable -/
def k3 : Class := { plain "java/lang/constant/Constable" (some 0) with
  accessFlags := 1537
  interfaces := #[]
  cf := some (fileOf pool3 1 #[] #[] 1537 3 #[] #[])
  fields := #[]
  methods := #[]
  instanceTypes := #[]
  staticTypes := #[]
  resolved := Array.replicate 11 none
  statics := none }

def pool4 : Array CpInfo := pool [(1, .class_ 2), (0, u "java/lang/Comparable"), (0, .class_ 4), (0, u "java/lang/Object")] 7

/-- java/lang/Comparable -/
def k4 : Class := { plain "java/lang/Comparable" (some 0) with
  accessFlags := 1537
  interfaces := #[]
  cf := some (fileOf pool4 1 #[] #[] 1537 3 #[] #[])
  fields := #[]
  methods := #[]
  instanceTypes := #[]
  staticTypes := #[]
  resolved := Array.replicate 12 none
  statics := none }

def pool5 : Array CpInfo := pool [(1, .class_ 2), (0, u "java/io/Serializable"), (0, .class_ 4), (0, u "java/lang/Object")] 2

/-- java/io/Serializable -/
def k5 : Class := { plain "java/io/Serializable" (some 0) with
  accessFlags := 1537
  interfaces := #[]
  cf := some (fileOf pool5 1 #[] #[] 1537 3 #[] #[])
  fields := #[]
  methods := #[]
  instanceTypes := #[]
  staticTypes := #[]
  resolved := Array.replicate 7 none
  statics := none }

def pool6 : Array CpInfo := pool [(2, .class_ 4), (1, u "java/lang/Enum"), (0, u "name"), (0, u "Ljava/lang/String;"), (2, u "ordinal"), (0, u "I"), (1, .class_ 14), (1, u "java/lang/Object"), (4, u "hash"), (86, .class_ 108), (1, u "java/lang/Enum$EnumDesc"), (2, .class_ 112), (0, u "java/lang/constant/Constable"), (0, .class_ 114), (0, u "java/lang/Comparable"), (0, .class_ 116), (0, u "java/io/Serializable")] 87

/-- java/lang/Enum -/
def k6 : Class := { plain "java/lang/Enum" (some 0) with
  accessFlags := 1057
  interfaces := #[3, 4, 5]
  cf := some (fileOf pool6 2 #[.nestMembers #[106]] #[] 1057 12 #[111, 113, 115] #[⟨18, 5, 6, #[]⟩, ⟨18, 9, 10, #[]⟩, ⟨2, 19, 10, #[]⟩])
  fields := #[⟨"name", (.object "java/lang/String"), 18, 0, 0⟩, ⟨"ordinal", .int, 18, 1, 0⟩, ⟨"hash", .int, 2, 2, 0⟩]
  methods := #[]
  instanceTypes := #[(.object "java/lang/String"), .int, .int]
  staticTypes := #[]
  resolved := Array.replicate 204 none
  statics := none }

def pool7 : Array CpInfo := pool [(1, .class_ 2), (0, u "com/example/holdfast/holdfast/xml/Markup$Kind"), (2, u "START"), (0, u "Lcom/example/holdfast/holdfast/xml/Markup$Kind;"), (2, u "END"), (2, u "INSTRUCTION"), (2, u "$VALUES"), (0, u "[Lcom/example/holdfast/holdfast/xml/Markup$Kind;"), (6, .class_ 25), (1, u "java/lang/Enum"), (26, .class_ 53), (0, u "com/example/holdfast/holdfast/xml/Markup")] 2

/-- com/example/holdfast/holdfast/xml/Markup$Kind -/
def k7 : Class := { plain "com/example/holdfast/holdfast/xml/Markup$Kind" (some 6) with
  accessFlags := 16432
  interfaces := #[]
  cf := some (fileOf pool7 1 #[.nestHost 52] #[] 16432 23 #[] #[⟨16409, 5, 6, #[]⟩, ⟨16409, 9, 6, #[]⟩, ⟨16409, 12, 6, #[]⟩, ⟨4122, 15, 16, #[]⟩])
  fields := #[⟨"START", (.object "com/example/holdfast/holdfast/xml/Markup$Kind"), 16409, 0, 0⟩, ⟨"END", (.object "com/example/holdfast/holdfast/xml/Markup$Kind"), 16409, 1, 0⟩, ⟨"INSTRUCTION", (.object "com/example/holdfast/holdfast/xml/Markup$Kind"), 16409, 2, 0⟩, ⟨"$VALUES", (.array (.object "com/example/holdfast/holdfast/xml/Markup$Kind")), 4122, 3, 0⟩]
  methods := #[]
  instanceTypes := #[(.object "java/lang/String"), .int, .int]
  staticTypes := #[(.object "com/example/holdfast/holdfast/xml/Markup$Kind"), (.object "com/example/holdfast/holdfast/xml/Markup$Kind"), (.object "com/example/holdfast/holdfast/xml/Markup$Kind"), (.array (.object "com/example/holdfast/holdfast/xml/Markup$Kind"))]
  resolved := Array.replicate 56 none
  statics := some 0 }

def pool8 : Array CpInfo := pool [(2, .class_ 4), (1, u "java/lang/CharSequence"), (42, .class_ 48), (0, u "java/lang/CharSequence$1CodePointIterator"), (10, .class_ 60), (0, u "java/lang/CharSequence$1CharIterator"), (5, .class_ 67), (0, u "java/lang/Object")] 63

/-- java/lang/CharSequence -/
def k8 : Class := { plain "java/lang/CharSequence" (some 0) with
  accessFlags := 1537
  interfaces := #[]
  cf := some (fileOf pool8 2 #[.nestMembers #[47, 59]] #[] 1537 66 #[] #[])
  fields := #[]
  methods := #[]
  instanceTypes := #[]
  staticTypes := #[]
  resolved := Array.replicate 131 none
  statics := none }

def pool9 : Array CpInfo := pool [(1, .class_ 2), (0, u "java/lang/constant/ConstantDesc"), (0, .class_ 4), (0, u "java/lang/Object")] 32

/-- java/lang/constant/ConstantDesc -/
def k9 : Class := { plain "java/lang/constant/ConstantDesc" (some 0) with
  accessFlags := 1537
  interfaces := #[]
  cf := some (fileOf pool9 1 #[] #[] 1537 3 #[] #[])
  fields := #[]
  methods := #[]
  instanceTypes := #[]
  staticTypes := #[]
  resolved := Array.replicate 37 none
  statics := none }

def pool10 : Array CpInfo := pool [(1, .methodref 2 3), (0, .class_ 4), (0, .nameAndType 5 6), (0, u "java/lang/Object"), (0, u "<init>"), (0, u "()V"), (0, .string 8), (0, u ""), (0, .fieldref 10 11), (0, .class_ 12), (0, .nameAndType 13 14), (0, u "java/lang/String"), (0, u "value"), (0, u "[B"), (0, .fieldref 10 16), (0, .nameAndType 17 18), (0, u "coder"), (0, u "B"), (2, u "hash"), (0, u "I"), (2, u "hashIsZero"), (0, u "Z"), (0, .methodref 10 28), (0, .nameAndType 5 29), (0, u "([CIILjava/lang/Void;)V"), (4, .methodref 10 35), (0, .nameAndType 36 37), (0, u "checkBoundsOffCount"), (0, u "(III)I"), (0, .fieldref 10 39), (0, .nameAndType 40 26), (0, u "COMPACT_STRINGS"), (1, .class_ 44), (1, u "java/lang/StringUTF16"), (0, u "compress"), (1, .methodref 42 48), (0, .nameAndType 49 50), (0, u "coderFromArrayLen"), (0, u "([BI)B"), (3, .methodref 55 56), (0, .class_ 57), (0, .nameAndType 58 59), (0, u "java/util/Arrays"), (0, u "copyOfRange"), (0, u "([BII)[B"), (15, .methodref 10 76), (0, .nameAndType 5 77), (0, u "(Ljava/nio/charset/Charset;[BII)V"), (0, .methodref 79 80), (0, .class_ 81), (0, .nameAndType 82 83), (0, u "java/util/Objects"), (0, u "requireNonNull"), (0, u "(Ljava/lang/Object;)Ljava/lang/Object;"), (0, .class_ 85), (0, u "java/nio/charset/Charset"), (0, .fieldref 87 88), (0, .class_ 89), (0, .nameAndType 90 91), (0, u "sun/nio/cs/UTF_8"), (0, u "INSTANCE"), (0, u "Lsun/nio/cs/UTF_8;"), (0, .methodref 93 94), (0, .class_ 95), (0, .nameAndType 96 97), (0, u "java/lang/StringCoding"), (0, u "countPositives"), (0, u "([BII)I"), (9, .class_ 109), (1, u "java/lang/StringLatin1"), (32, u "()Z"), (34, .methodref 42 178), (0, .nameAndType 45 179), (0, u "([CII)[B"), (58, u "([BIILjava/nio/charset/Charset;)V"), (95, u "()I"), (0, .methodref 10 336), (0, .nameAndType 17 337), (0, u "()B"), (25, u "([BI)C"), (27, u "(II)V"), (35, u "(I)C"), (64, .methodref 10 493), (0, .nameAndType 494 142), (0, u "isLatin1"), (0, .methodref 107 496), (0, .nameAndType 497 363), (0, u "charAt"), (3, u "checkIndex"), (5, u "length"), (33, .methodref 107 542), (0, .nameAndType 543 544), (0, u "equals"), (0, u "([B[B)Z"), (28, u "(Ljava/lang/Object;)Z"), (1, .class_ 576), (0, u "java/lang/CharSequence"), (22, u "CASE_INSENSITIVE_ORDER"), (0, u "Ljava/util/Comparator;"), (409, u "([C)V"), (42, .fieldref 1054 1055), (0, .class_ 1056), (0, .nameAndType 1057 1058), (0, u "jdk/internal/util/Preconditions"), (0, u "SIOOBE_FORMATTER"), (0, u "Ljava/util/function/BiFunction;"), (0, .methodref 1054 1060), (0, .nameAndType 501 1061), (0, u "(IILjava/util/function/BiFunction;)I"), (2, u "(IIILjava/util/function/BiFunction;)I"), (0, .methodref 1054 1066), (0, .nameAndType 1067 1064), (0, u "checkFromIndexSize"), (33, u "serialPersistentFields"), (0, u "[Ljava/io/ObjectStreamField;"), (0, .class_ 1104), (0, u "java/lang/String$CaseInsensitiveComparator"), (1, .class_ 1107), (0, u "java/io/Serializable"), (0, .class_ 1109), (0, u "java/lang/Comparable"), (0, .class_ 1111), (0, u "java/lang/constant/Constable"), (0, .class_ 1113), (0, u "java/lang/constant/ConstantDesc"), (2, u "serialVersionUID"), (0, u "J"), (3, u "REPL"), (0, u "C"), (2, u "LATIN1"), (1, u "UTF16")] 323

def k10m0 : Method := mt "<init>" "()V" [] (none) 1 (none)
def k10c1 : Code := { maxStack := 5, maxLocals := 2, code := jdk_42_method_3_code, exceptionTable := #[], attributes := #[] }
def k10m1 : Method := mt "<init>" "([C)V" [(.array .char)] (none) 1 (some k10c1)
def k10c2 : Code := { maxStack := 6, maxLocals := 5, code := jdk_42_method_10_code, exceptionTable := #[], attributes := #[] }
def k10m2 : Method := mt "<init>" "([BIILjava/nio/charset/Charset;)V" [(.array .byte), .int, .int, (.object "java/nio/charset/Charset")] (none) 1 (some k10c2)
def k10c3 : Code := { maxStack := 6, maxLocals := 11, code := jdk_42_method_11_code, exceptionTable := #[{ startPc := 800, endPc := 813, handlerPc := 816, catchType := 202 }], attributes := #[] }
def k10m3 : Method := mt "<init>" "(Ljava/nio/charset/Charset;[BII)V" [(.object "java/nio/charset/Charset"), (.array .byte), .int, .int] (none) 2 (some k10c3)
def k10c4 : Code := { maxStack := 2, maxLocals := 1, code := jdk_42_method_54_code, exceptionTable := #[], attributes := #[] }
def k10m4 : Method := mt "length" "()I" [] (some .int) 1 (some k10c4)
def k10c5 : Code := { maxStack := 2, maxLocals := 2, code := jdk_42_method_56_code, exceptionTable := #[], attributes := #[] }
def k10m5 : Method := mt "charAt" "(I)C" [.int] (some .char) 1 (some k10c5)
def k10c6 : Code := { maxStack := 2, maxLocals := 3, code := jdk_42_method_66_code, exceptionTable := #[], attributes := #[] }
def k10m6 : Method := mt "equals" "(Ljava/lang/Object;)Z" [(.object "java/lang/Object")] (some .boolean) 1 (some k10c6)
def k10c7 : Code := { maxStack := 4, maxLocals := 6, code := jdk_42_method_149_code, exceptionTable := #[], attributes := #[] }
def k10m7 : Method := mt "<init>" "([CIILjava/lang/Void;)V" [(.array .char), .int, .int, (.object "java/lang/Void")] (none) 2 (some k10c7)
def k10c8 : Code := { maxStack := 1, maxLocals := 1, code := jdk_42_method_152_code, exceptionTable := #[], attributes := #[] }
def k10m8 : Method := mt "coder" "()B" [] (some .byte) 0 (some k10c8)
def k10c9 : Code := { maxStack := 1, maxLocals := 1, code := jdk_42_method_154_code, exceptionTable := #[], attributes := #[] }
def k10m9 : Method := mt "isLatin1" "()Z" [] (some .boolean) 0 (some k10c9)
def k10c10 : Code := { maxStack := 3, maxLocals := 2, code := jdk_42_method_155_code, exceptionTable := #[], attributes := #[] }
def k10m10 : Method := mt "checkIndex" "(II)V" [.int, .int] (none) 8 (some k10c10)
def k10c11 : Code := { maxStack := 4, maxLocals := 3, code := jdk_42_method_157_code, exceptionTable := #[], attributes := #[] }
def k10m11 : Method := mt "checkBoundsOffCount" "(III)I" [.int, .int, .int] (some .int) 8 (some k10c11)
/-- java/lang/String -/
def k10 : Class := { plain "java/lang/String" (some 0) with
  accessFlags := 49
  interfaces := #[5, 4, 8, 3, 9]
  cf := some (fileOf pool10 10 #[.nestMembers #[1103]] #[⟨1, 5, 6, #[]⟩, ⟨1, 5, 1010, #[]⟩, ⟨1, 5, 238, #[]⟩, ⟨2, 5, 77, #[]⟩, ⟨1, 507, 334, #[]⟩, ⟨1, 497, 427, #[]⟩, ⟨1, 543, 573, #[]⟩, ⟨2, 5, 29, #[]⟩, ⟨0, 17, 337, #[]⟩, ⟨0, 494, 142, #[]⟩, ⟨8, 501, 391, #[]⟩, ⟨8, 36, 37, #[]⟩] 49 2 #[1106, 1108, 575, 1110, 1112] #[⟨18, 13, 14, #[]⟩, ⟨18, 17, 18, #[]⟩, ⟨2, 21, 22, #[]⟩, ⟨2, 25, 26, #[]⟩, ⟨26, 1116, 1117, #[]⟩, ⟨24, 40, 26, #[]⟩, ⟨26, 1101, 1102, #[]⟩, ⟨26, 1121, 1122, #[]⟩, ⟨25, 599, 600, #[]⟩, ⟨24, 1125, 18, #[]⟩, ⟨24, 1127, 18, #[]⟩])
  fields := #[⟨"value", (.array .byte), 18, 0, 0⟩, ⟨"coder", .byte, 18, 1, 0⟩, ⟨"hash", .int, 2, 2, 0⟩, ⟨"hashIsZero", .boolean, 2, 3, 0⟩, ⟨"serialVersionUID", .long, 26, 0, 0⟩, ⟨"COMPACT_STRINGS", .boolean, 24, 1, 0⟩, ⟨"serialPersistentFields", (.array (.object "java/io/ObjectStreamField")), 26, 2, 0⟩, ⟨"REPL", .char, 26, 3, 0⟩, ⟨"CASE_INSENSITIVE_ORDER", (.object "java/util/Comparator"), 25, 4, 0⟩, ⟨"LATIN1", .byte, 24, 5, 0⟩, ⟨"UTF16", .byte, 24, 6, 0⟩]
  methods := #[k10m0, k10m1, k10m2, k10m3, k10m4, k10m5, k10m6, k10m7, k10m8, k10m9, k10m10, k10m11]
  instanceTypes := #[(.array .byte), .byte, .int, .boolean]
  staticTypes := #[.long, .boolean, (.array (.object "java/io/ObjectStreamField")), .char, (.object "java/util/Comparator"), .byte, .byte]
  resolved := Array.replicate 1451 none
  statics := some 1 }

def pool11 : Array CpInfo := pool [(1, .class_ 2), (0, u "java/lang/String"), (1, .class_ 6), (1, u "java/lang/Object"), (0, u "<init>"), (0, u "()V"), (0, .methodref 1 10), (0, .nameAndType 11 12), (0, u "checkIndex"), (0, u "(II)V"), (1, .class_ 16), (1, u "java/lang/StringLatin1"), (36, u "([BI)C"), (67, u "$assertionsDisabled"), (0, u "Z"), (98, .class_ 223), (1, u "java/lang/StringLatin1$LinesSpliterator"), (28, u "charAt"), (28, u "equals"), (0, u "([B[B)Z"), (107, .class_ 391), (0, u "java/lang/StringLatin1$CharsSpliterator")] 3

def k11m0 : Method := mt "<init>" "()V" [] (none) 0 (none)
def k11c1 : Code := { maxStack := 2, maxLocals := 2, code := jdk_43_method_2_code, exceptionTable := #[], attributes := #[] }
def k11m1 : Method := mt "charAt" "([BI)C" [(.array .byte), .int] (some .char) 9 (some k11c1)
def k11c2 : Code := { maxStack := 3, maxLocals := 3, code := jdk_43_method_13_code, exceptionTable := #[], attributes := #[] }
def k11m2 : Method := mt "equals" "([B[B)Z" [(.array .byte), (.array .byte)] (some .boolean) 9 (some k11c2)
/-- java/lang/StringLatin1 -/
def k11 : Class := { plain "java/lang/StringLatin1" (some 0) with
  accessFlags := 48
  interfaces := #[]
  cf := some (fileOf pool11 14 #[.nestMembers #[390, 221]] #[⟨0, 7, 8, #[]⟩, ⟨9, 252, 53, #[]⟩, ⟨9, 281, 282, #[]⟩] 48 4 #[] #[⟨4120, 121, 122, #[]⟩])
  fields := #[⟨"$assertionsDisabled", .boolean, 4120, 0, 0⟩]
  methods := #[k11m0, k11m1, k11m2]
  instanceTypes := #[]
  staticTypes := #[.boolean]
  resolved := Array.replicate 395 none
  statics := none }

def pool12 : Array CpInfo := pool [(2, .class_ 4), (1, u "java/lang/Object"), (0, u "<init>"), (0, u "()V"), (17, .class_ 26), (1, u "jdk/internal/util/Preconditions"), (6, u "checkIndex"), (15, u "checkFromIndexSize"), (5, .class_ 56), (0, u "jdk/internal/util/Preconditions$4"), (57, .class_ 115), (0, u "jdk/internal/util/Preconditions$1"), (7, u "SIOOBE_FORMATTER"), (0, u "Ljava/util/function/BiFunction;"), (0, .class_ 126), (0, u "jdk/internal/util/Preconditions$2"), (3, u "AIOOBE_FORMATTER"), (0, .class_ 132), (0, u "jdk/internal/util/Preconditions$3"), (3, u "IOOBE_FORMATTER"), (41, u "(IILjava/util/function/BiFunction;)I"), (4, u "(IIILjava/util/function/BiFunction;)I")] 10

def k12m0 : Method := mt "<init>" "()V" [] (none) 1 (none)
def k12c1 : Code := { maxStack := 3, maxLocals := 3, code := jdk_41_method_11_code, exceptionTable := #[], attributes := #[] }
def k12m1 : Method := mt "checkIndex" "(IILjava/util/function/BiFunction;)I" [.int, .int, (.object "java/util/function/BiFunction")] (some .int) 9 (some k12c1)
def k12c2 : Code := { maxStack := 4, maxLocals := 4, code := jdk_41_method_13_code, exceptionTable := #[], attributes := #[] }
def k12m2 : Method := mt "checkFromIndexSize" "(IIILjava/util/function/BiFunction;)I" [.int, .int, .int, (.object "java/util/function/BiFunction")] (some .int) 9 (some k12c2)
/-- jdk/internal/util/Preconditions -/
def k12 : Class := { plain "jdk/internal/util/Preconditions" (some 0) with
  accessFlags := 33
  interfaces := #[]
  cf := some (fileOf pool12 24 #[.nestMembers #[55, 131, 125, 114]] #[⟨1, 5, 6, #[]⟩, ⟨9, 33, 178, #[]⟩, ⟨9, 49, 183, #[]⟩] 33 2 #[] #[⟨25, 123, 124, #[]⟩, ⟨25, 130, 124, #[]⟩, ⟨25, 136, 124, #[]⟩])
  fields := #[⟨"SIOOBE_FORMATTER", (.object "java/util/function/BiFunction"), 25, 0, 0⟩, ⟨"AIOOBE_FORMATTER", (.object "java/util/function/BiFunction"), 25, 1, 0⟩, ⟨"IOOBE_FORMATTER", (.object "java/util/function/BiFunction"), 25, 2, 0⟩]
  methods := #[k12m0, k12m1, k12m2]
  instanceTypes := #[]
  staticTypes := #[(.object "java/util/function/BiFunction"), (.object "java/util/function/BiFunction"), (.object "java/util/function/BiFunction")]
  resolved := Array.replicate 194 none
  statics := some 2 }

def pool13 : Array CpInfo := pool [(2, .class_ 4), (1, u "java/lang/Object"), (0, u "<init>"), (0, u "()V"), (6, .methodref 14 15), (0, .class_ 16), (0, .nameAndType 17 18), (0, u "java/util/Arrays"), (0, u "rangeCheck"), (0, u "(III)V"), (55, .class_ 76), (1, u "java/util/Arrays$NaturalOrder"), (36, .class_ 115), (1, u "java/util/Arrays$LegacyMergeSort"), (1, u "Z"), (21, u "copyOfRange"), (10, .methodref 151 152), (0, .class_ 153), (0, .nameAndType 154 155), (0, u "java/lang/System"), (0, u "arraycopy"), (0, u "(Ljava/lang/Object;ILjava/lang/Object;II)V"), (90, .class_ 248), (1, u "jdk/internal/util/ArraysSupport"), (0, u "mismatch"), (25, .methodref 246 276), (0, .nameAndType 249 277), (0, u "([BI[BII)I"), (20, u "equals"), (5, .methodref 305 306), (0, .class_ 307), (0, .nameAndType 308 309), (0, u "java/lang/Math"), (0, u "min"), (0, u "(II)I"), (29, .methodref 14 340), (0, .nameAndType 341 342), (0, u "copyOfRangeByte"), (0, u "([BII)[B"), (0, .methodref 14 344), (0, .nameAndType 345 346), (0, u "checkLength"), (0, u "(II)V"), (28, .class_ 376), (0, u "java/util/Arrays$ArrayList"), (68, u "$assertionsDisabled"), (269, u "MIN_ARRAY_SORT_GRAN"), (0, u "I"), (2, u "INSERTIONSORT_THRESHOLD"), (111, u "([BII[BII)Z"), (143, .class_ 976), (0, u "java/util/Arrays$ArrayItr")] 52

def k13m0 : Method := mt "<init>" "()V" [] (none) 2 (none)
def k13c1 : Code := { maxStack := 4, maxLocals := 3, code := jdk_65_method_30_code, exceptionTable := #[], attributes := #[] }
def k13m1 : Method := mt "rangeCheck" "(III)V" [.int, .int, .int] (none) 8 (some k13c1)
def k13c2 : Code := { maxStack := 5, maxLocals := 8, code := jdk_65_method_90_code, exceptionTable := #[], attributes := #[] }
def k13m2 : Method := mt "equals" "([BII[BII)Z" [(.array .byte), .int, .int, (.array .byte), .int, .int] (some .boolean) 9 (some k13c2)
def k13c3 : Code := { maxStack := 4, maxLocals := 2, code := jdk_65_method_131_code, exceptionTable := #[], attributes := #[] }
def k13m3 : Method := mt "checkLength" "(II)V" [.int, .int] (none) 10 (some k13c3)
def k13c4 : Code := { maxStack := 3, maxLocals := 3, code := jdk_65_method_132_code, exceptionTable := #[], attributes := #[] }
def k13m4 : Method := mt "copyOfRange" "([BII)[B" [(.array .byte), .int, .int] (some (.array .byte)) 9 (some k13c4)
def k13c5 : Code := { maxStack := 6, maxLocals := 5, code := jdk_65_method_133_code, exceptionTable := #[], attributes := #[] }
def k13m5 : Method := mt "copyOfRangeByte" "([BII)[B" [(.array .byte), .int, .int] (some (.array .byte)) 10 (some k13c5)
/-- java/util/Arrays -/
def k13 : Class := { plain "java/util/Arrays" (some 0) with
  accessFlags := 49
  interfaces := #[]
  cf := some (fileOf pool13 14 #[.nestMembers #[975, 375, 113, 74]] #[⟨2, 5, 6, #[]⟩, ⟨8, 17, 18, #[]⟩, ⟨9, 298, 831, #[]⟩, ⟨10, 345, 346, #[]⟩, ⟨9, 139, 342, #[]⟩, ⟨10, 341, 342, #[]⟩] 49 2 #[] #[⟨26, 715, 716, #[]⟩, ⟨26, 719, 716, #[]⟩, ⟨4120, 445, 117, #[]⟩])
  fields := #[⟨"MIN_ARRAY_SORT_GRAN", .int, 26, 0, 0⟩, ⟨"INSERTIONSORT_THRESHOLD", .int, 26, 1, 0⟩, ⟨"$assertionsDisabled", .boolean, 4120, 2, 0⟩]
  methods := #[k13m0, k13m1, k13m2, k13m3, k13m4, k13m5]
  instanceTypes := #[]
  staticTypes := #[.int, .int, .boolean]
  resolved := Array.replicate 1029 none
  statics := none }

def pool14 : Array CpInfo := pool [(9, u "<init>"), (6, .class_ 18), (1, u "java/lang/Object"), (0, u "()V"), (1, .class_ 23), (1, u "jdk/internal/util/ArraysSupport"), (0, u "LOG2_ARRAY_LONG_INDEX_SCALE"), (0, u "I"), (2, u "U"), (0, u "Ljdk/internal/misc/Unsafe;"), (8, u "BIG_ENDIAN"), (0, u "Z"), (8, u "LOG2_BYTE_BIT_SIZE"), (4, u "LOG2_ARRAY_INT_INDEX_SCALE"), (54, u "JLA"), (0, u "Ljdk/internal/access/JavaLangAccess;"), (11, u "LOG2_ARRAY_BOOLEAN_INDEX_SCALE"), (9, u "LOG2_ARRAY_BYTE_INDEX_SCALE"), (5, u "LOG2_ARRAY_CHAR_INDEX_SCALE"), (5, u "LOG2_ARRAY_SHORT_INDEX_SCALE"), (5, u "mismatch"), (12, u "LOG2_ARRAY_FLOAT_INDEX_SCALE"), (24, u "LOG2_ARRAY_DOUBLE_INDEX_SCALE"), (89, u "T_BOOLEAN"), (2, u "T_CHAR"), (1, u "T_FLOAT"), (1, u "T_DOUBLE"), (1, u "T_BYTE"), (1, u "T_SHORT"), (1, u "T_INT"), (1, u "T_LONG"), (1, u "SOFT_MAX_ARRAY_LENGTH"), (42, u "([BI[BII)I")] 40

def k14m0 : Method := mt "<init>" "()V" [] (none) 2 (none)
def k14c1 : Code := { maxStack := 8, maxLocals := 8, code := jdk_48_method_14_code, exceptionTable := #[], attributes := #[] }
def k14m1 : Method := mt "mismatch" "([BI[BII)I" [(.array .byte), .int, (.array .byte), .int, .int] (some .int) 9 (some k14c1)
/-- jdk/internal/util/ArraysSupport -/
def k14 : Class := { plain "jdk/internal/util/ArraysSupport" (some 0) with
  accessFlags := 33
  interfaces := #[]
  cf := some (fileOf pool14 21 #[] #[⟨2, 9, 19, #[]⟩, ⟨9, 149, 337, #[]⟩] 33 16 #[] #[⟨24, 28, 29, #[]⟩, ⟨26, 38, 39, #[]⟩, ⟨25, 121, 25, #[]⟩, ⟨25, 131, 25, #[]⟩, ⟨25, 137, 25, #[]⟩, ⟨25, 143, 25, #[]⟩, ⟨25, 53, 25, #[]⟩, ⟨25, 24, 25, #[]⟩, ⟨25, 162, 25, #[]⟩, ⟨25, 187, 25, #[]⟩, ⟨26, 48, 25, #[]⟩, ⟨25, 277, 25, #[]⟩, ⟨25, 280, 25, #[]⟩, ⟨25, 282, 25, #[]⟩, ⟨25, 284, 25, #[]⟩, ⟨25, 286, 25, #[]⟩, ⟨25, 288, 25, #[]⟩, ⟨25, 290, 25, #[]⟩, ⟨25, 292, 25, #[]⟩, ⟨26, 108, 109, #[]⟩, ⟨25, 294, 25, #[]⟩])
  fields := #[⟨"U", (.object "jdk/internal/misc/Unsafe"), 24, 0, 0⟩, ⟨"BIG_ENDIAN", .boolean, 26, 1, 0⟩, ⟨"LOG2_ARRAY_BOOLEAN_INDEX_SCALE", .int, 25, 2, 0⟩, ⟨"LOG2_ARRAY_BYTE_INDEX_SCALE", .int, 25, 3, 0⟩, ⟨"LOG2_ARRAY_CHAR_INDEX_SCALE", .int, 25, 4, 0⟩, ⟨"LOG2_ARRAY_SHORT_INDEX_SCALE", .int, 25, 5, 0⟩, ⟨"LOG2_ARRAY_INT_INDEX_SCALE", .int, 25, 6, 0⟩, ⟨"LOG2_ARRAY_LONG_INDEX_SCALE", .int, 25, 7, 0⟩, ⟨"LOG2_ARRAY_FLOAT_INDEX_SCALE", .int, 25, 8, 0⟩, ⟨"LOG2_ARRAY_DOUBLE_INDEX_SCALE", .int, 25, 9, 0⟩, ⟨"LOG2_BYTE_BIT_SIZE", .int, 26, 10, 0⟩, ⟨"T_BOOLEAN", .int, 25, 11, 0⟩, ⟨"T_CHAR", .int, 25, 12, 0⟩, ⟨"T_FLOAT", .int, 25, 13, 0⟩, ⟨"T_DOUBLE", .int, 25, 14, 0⟩, ⟨"T_BYTE", .int, 25, 15, 0⟩, ⟨"T_SHORT", .int, 25, 16, 0⟩, ⟨"T_INT", .int, 25, 17, 0⟩, ⟨"T_LONG", .int, 25, 18, 0⟩, ⟨"JLA", (.object "jdk/internal/access/JavaLangAccess"), 26, 19, 0⟩, ⟨"SOFT_MAX_ARRAY_LENGTH", .int, 25, 20, 0⟩]
  methods := #[k14m0, k14m1]
  instanceTypes := #[]
  staticTypes := #[(.object "jdk/internal/misc/Unsafe"), .boolean, .int, .int, .int, .int, .int, .int, .int, .int, .int, .int, .int, .int, .int, .int, .int, .int, .int, (.object "jdk/internal/access/JavaLangAccess"), .int]
  resolved := Array.replicate 378 none
  statics := none }

def pool15 : Array CpInfo := pool [(2, .class_ 4), (1, u "java/lang/Object"), (0, u "<init>"), (0, u "()V"), (14, .class_ 23), (1, u "java/nio/charset/StandardCharsets"), (0, u "US_ASCII"), (0, u "Ljava/nio/charset/Charset;"), (7, u "ISO_8859_1"), (7, u "UTF_8"), (5, u "UTF_16BE"), (5, u "UTF_16LE"), (5, u "UTF_16")] 8

def k15m0 : Method := mt "<init>" "()V" [] (none) 2 (none)
/-- java/nio/charset/StandardCharsets -/
def k15 : Class := { plain "java/nio/charset/StandardCharsets" (some 0) with
  accessFlags := 49
  interfaces := #[]
  cf := some (fileOf pool15 21 #[] #[⟨2, 5, 6, #[]⟩] 49 2 #[] #[⟨25, 24, 25, #[]⟩, ⟨25, 33, 25, #[]⟩, ⟨25, 41, 25, #[]⟩, ⟨25, 47, 25, #[]⟩, ⟨25, 53, 25, #[]⟩, ⟨25, 59, 25, #[]⟩])
  fields := #[⟨"US_ASCII", (.object "java/nio/charset/Charset"), 25, 0, 0⟩, ⟨"ISO_8859_1", (.object "java/nio/charset/Charset"), 25, 1, 0⟩, ⟨"UTF_8", (.object "java/nio/charset/Charset"), 25, 2, 0⟩, ⟨"UTF_16BE", (.object "java/nio/charset/Charset"), 25, 3, 0⟩, ⟨"UTF_16LE", (.object "java/nio/charset/Charset"), 25, 4, 0⟩, ⟨"UTF_16", (.object "java/nio/charset/Charset"), 25, 5, 0⟩]
  methods := #[k15m0]
  instanceTypes := #[]
  staticTypes := #[(.object "java/nio/charset/Charset"), (.object "java/nio/charset/Charset"), (.object "java/nio/charset/Charset"), (.object "java/nio/charset/Charset"), (.object "java/nio/charset/Charset"), (.object "java/nio/charset/Charset")]
  resolved := Array.replicate 68 none
  statics := some 3 }

def pool16 : Array CpInfo := pool [(2, .class_ 4), (1, u "java/lang/Object"), (0, u "<init>"), (0, u "()V"), (35, .class_ 44), (1, u "java/util/Objects"), (0, u "requireNonNull"), (0, u "(Ljava/lang/Object;)Ljava/lang/Object;")] 137

def k16m0 : Method := mt "<init>" "()V" [] (none) 2 (none)
def k16c1 : Code := { maxStack := 2, maxLocals := 1, code := jdk_31_method_10_code, exceptionTable := #[], attributes := #[] }
def k16m1 : Method := mt "requireNonNull" "(Ljava/lang/Object;)Ljava/lang/Object;" [(.object "java/lang/Object")] (some (.object "java/lang/Object")) 9 (some k16c1)
/-- java/util/Objects -/
def k16 : Class := { plain "java/util/Objects" (some 0) with
  accessFlags := 49
  interfaces := #[]
  cf := some (fileOf pool16 42 #[] #[⟨2, 5, 6, #[]⟩, ⟨9, 45, 46, #[]⟩] 49 2 #[] #[])
  fields := #[]
  methods := #[k16m0, k16m1]
  instanceTypes := #[]
  staticTypes := #[]
  resolved := Array.replicate 184 none
  statics := none }

def pool17 : Array CpInfo := pool [(18, .class_ 20), (1, u "java/nio/charset/Charset"), (0, u "cache1"), (0, u "[Ljava/lang/Object;"), (2, u "cache2"), (0, .class_ 27), (0, u "java/lang/Object"), (0, .class_ 29), (0, u "java/nio/charset/Charset$1"), (4, .class_ 36), (1, u "java/nio/charset/Charset$ThreadTrackHolder"), (21, .class_ 59), (0, u "java/nio/charset/Charset$2"), (11, .class_ 73), (1, u "java/nio/charset/Charset$ExtendedProviderHolder"), (22, u "standardProvider"), (0, u "Ljava/nio/charset/spi/CharsetProvider;"), (29, u "name"), (7, .class_ 136), (0, u "java/nio/charset/Charset$3"), (5, u "defaultCharset"), (0, u "Ljava/nio/charset/Charset;"), (14, u "zeroAliases"), (0, u "[Ljava/lang/String;"), (29, u "Ljava/lang/String;"), (2, u "aliases"), (2, u "aliasSet"), (0, u "Ljava/util/Set;"), (82, .class_ 280), (0, u "java/lang/Comparable"), (84, .class_ 366), (0, u "java/nio/charset/Charset$ExtendedProviderHolder$1")] 3

/-- java/nio/charset/Charset -/
def k17 : Class := { plain "java/nio/charset/Charset" (some 0) with
  accessFlags := 1057
  interfaces := #[4]
  cf := some (fileOf pool17 18 #[.nestMembers #[71, 365, 34, 135, 58, 28]] #[] 1057 26 #[279] #[⟨26, 96, 97, #[]⟩, ⟨26, 158, 159, #[]⟩, ⟨74, 21, 22, #[]⟩, ⟨74, 25, 22, #[]⟩, ⟨10, 142, 143, #[]⟩, ⟨18, 127, 189, #[]⟩, ⟨18, 192, 159, #[]⟩, ⟨2, 195, 196, #[]⟩])
  fields := #[⟨"standardProvider", (.object "java/nio/charset/spi/CharsetProvider"), 26, 0, 0⟩, ⟨"zeroAliases", (.array (.object "java/lang/String")), 26, 1, 0⟩, ⟨"cache1", (.array (.object "java/lang/Object")), 74, 2, 0⟩, ⟨"cache2", (.array (.object "java/lang/Object")), 74, 3, 0⟩, ⟨"defaultCharset", (.object "java/nio/charset/Charset"), 10, 4, 0⟩, ⟨"name", (.object "java/lang/String"), 18, 0, 0⟩, ⟨"aliases", (.array (.object "java/lang/String")), 18, 1, 0⟩, ⟨"aliasSet", (.object "java/util/Set"), 2, 2, 0⟩]
  methods := #[]
  instanceTypes := #[(.object "java/lang/String"), (.array (.object "java/lang/String")), (.object "java/util/Set")]
  staticTypes := #[(.object "java/nio/charset/spi/CharsetProvider"), (.array (.object "java/lang/String")), (.array (.object "java/lang/Object")), (.array (.object "java/lang/Object")), (.object "java/nio/charset/Charset")]
  resolved := Array.replicate 370 none
  statics := none }

def pool18 : Array CpInfo := pool [(1, .class_ 2), (0, u "sun/nio/cs/HistoricallyNamedCharset"), (0, .class_ 4), (0, u "java/lang/Object")] 4

/-- sun/nio/cs/HistoricallyNamedCharset -/
def k18 : Class := { plain "sun/nio/cs/HistoricallyNamedCharset" (some 0) with
  accessFlags := 1537
  interfaces := #[]
  cf := some (fileOf pool18 1 #[] #[] 1537 3 #[] #[])
  fields := #[]
  methods := #[]
  instanceTypes := #[]
  staticTypes := #[]
  resolved := Array.replicate 9 none
  statics := none }

def pool19 : Array CpInfo := pool [(2, .class_ 4), (1, u "java/nio/charset/Charset"), (130, .class_ 136), (0, u "sun/nio/cs/Unicode"), (0, .class_ 138), (0, u "sun/nio/cs/HistoricallyNamedCharset")] 15

/-- sun/nio/cs/Unicode -/
def k19 : Class := { plain "sun/nio/cs/Unicode" (some 17) with
  accessFlags := 1056
  interfaces := #[18]
  cf := some (fileOf pool19 135 #[] #[] 1056 2 #[137] #[])
  fields := #[]
  methods := #[]
  instanceTypes := #[(.object "java/lang/String"), (.array (.object "java/lang/String")), (.object "java/util/Set")]
  staticTypes := #[]
  resolved := Array.replicate 154 none
  statics := none }

def pool20 : Array CpInfo := pool [(10, .class_ 12), (1, u "sun/nio/cs/Unicode"), (0, u "<init>"), (3, .class_ 18), (0, u "sun/nio/cs/UTF_8$Decoder"), (3, .class_ 23), (0, u "sun/nio/cs/UTF_8$Encoder"), (15, .class_ 40), (0, u "sun/nio/cs/UTF_8"), (2, u "()V"), (2, u "INSTANCE"), (0, u "Lsun/nio/cs/UTF_8;"), (8, u "JLA"), (0, u "Ljdk/internal/access/JavaLangAccess;")] 26

def k20m0 : Method := mt "<init>" "()V" [] (none) 1 (none)
/-- sun/nio/cs/UTF_8 -/
def k20 : Class := { plain "sun/nio/cs/UTF_8" (some 19) with
  accessFlags := 49
  interfaces := #[]
  cf := some (fileOf pool20 39 #[.nestMembers #[22, 17]] #[⟨1, 13, 43, #[]⟩] 49 10 #[] #[⟨25, 46, 47, #[]⟩, ⟨26, 56, 57, #[]⟩])
  fields := #[⟨"INSTANCE", (.object "sun/nio/cs/UTF_8"), 25, 0, 0⟩, ⟨"JLA", (.object "jdk/internal/access/JavaLangAccess"), 26, 1, 0⟩]
  methods := #[k20m0]
  instanceTypes := #[(.object "java/lang/String"), (.array (.object "java/lang/String")), (.object "java/util/Set")]
  staticTypes := #[(.object "sun/nio/cs/UTF_8"), (.object "jdk/internal/access/JavaLangAccess")]
  resolved := Array.replicate 84 none
  statics := some 4 }

def pool21 : Array CpInfo := pool [(2, .class_ 4), (1, u "java/lang/Object"), (0, u "<init>"), (0, u "()V"), (1, .class_ 10), (1, u "java/lang/StringCoding"), (0, u "countPositives"), (0, u "([BII)I")] 36

def k21m0 : Method := mt "<init>" "()V" [] (none) 2 (none)
def k21c1 : Code := { maxStack := 2, maxLocals := 5, code := jdk_123_method_3_code, exceptionTable := #[], attributes := #[] }
def k21m1 : Method := mt "countPositives" "([BII)I" [(.array .byte), .int, .int] (some .int) 9 (some k21c1)
/-- java/lang/StringCoding -/
def k21 : Class := { plain "java/lang/StringCoding" (some 0) with
  accessFlags := 32
  interfaces := #[]
  cf := some (fileOf pool21 8 #[] #[⟨2, 5, 6, #[]⟩, ⟨9, 11, 12, #[]⟩] 32 2 #[] #[])
  fields := #[]
  methods := #[k21m0, k21m1]
  instanceTypes := #[]
  staticTypes := #[]
  resolved := Array.replicate 49 none
  statics := none }

def pool22 : Array CpInfo := pool [(1, .class_ 2), (0, u "java/lang/Math"), (1, .class_ 6), (1, u "java/lang/Object"), (0, u "<init>"), (0, u "()V"), (89, .class_ 100), (1, u "java/lang/Math$RandomNumberGeneratorHolder"), (71, u "negativeZeroFloatBits"), (0, u "J"), (2, u "negativeZeroDoubleBits"), (24, u "min"), (43, u "$assertionsDisabled"), (0, u "Z"), (88, u "(II)I"), (2, u "twoToTheDoubleScaleDown"), (0, u "D"), (4, u "twoToTheDoubleScaleUp"), (9, u "E"), (3, u "PI"), (2, u "TAU"), (2, u "DEGREES_TO_RADIANS"), (0, u "RADIANS_TO_DEGREES")] 94

def k22m0 : Method := mt "<init>" "()V" [] (none) 2 (none)
def k22c1 : Code := { maxStack := 2, maxLocals := 2, code := jdk_29_method_69_code, exceptionTable := #[], attributes := #[] }
def k22m1 : Method := mt "min" "(II)I" [.int, .int] (some .int) 9 (some k22c1)
/-- java/lang/Math -/
def k22 : Class := { plain "java/lang/Math" (some 0) with
  accessFlags := 49
  interfaces := #[]
  cf := some (fileOf pool22 1 #[.nestMembers #[98]] #[⟨2, 7, 8, #[]⟩, ⟨9, 201, 335, #[]⟩] 49 4 #[] #[⟨25, 354, 339, #[]⟩, ⟨25, 358, 339, #[]⟩, ⟨25, 361, 339, #[]⟩, ⟨26, 364, 339, #[]⟩, ⟨26, 365, 339, #[]⟩, ⟨26, 172, 173, #[]⟩, ⟨26, 176, 173, #[]⟩, ⟨8, 344, 339, #[]⟩, ⟨8, 338, 339, #[]⟩, ⟨4120, 245, 246, #[]⟩])
  fields := #[⟨"E", .double, 25, 0, 0⟩, ⟨"PI", .double, 25, 1, 0⟩, ⟨"TAU", .double, 25, 2, 0⟩, ⟨"DEGREES_TO_RADIANS", .double, 26, 3, 0⟩, ⟨"RADIANS_TO_DEGREES", .double, 26, 4, 0⟩, ⟨"negativeZeroFloatBits", .long, 26, 5, 0⟩, ⟨"negativeZeroDoubleBits", .long, 26, 6, 0⟩, ⟨"twoToTheDoubleScaleUp", .double, 8, 7, 0⟩, ⟨"twoToTheDoubleScaleDown", .double, 8, 8, 0⟩, ⟨"$assertionsDisabled", .boolean, 4120, 9, 0⟩]
  methods := #[k22m0, k22m1]
  instanceTypes := #[]
  staticTypes := #[.double, .double, .double, .double, .double, .long, .long, .double, .double, .boolean]
  resolved := Array.replicate 460 none
  statics := none }

def pool23 : Array CpInfo := pool [(2, .class_ 4), (1, u "java/lang/Object"), (0, u "<init>"), (0, u "()V"), (1, .class_ 10), (1, u "java/lang/System"), (0, u "allowSecurityManager"), (0, u "I"), (16, u "cons"), (0, u "Ljava/io/Console;"), (77, .class_ 110), (1, u "java/lang/System$CallersHolder"), (43, u "initialErrStream"), (0, u "Ljava/io/PrintStream;"), (19, u "security"), (0, u "Ljava/lang/SecurityManager;"), (31, .class_ 209), (0, u "java/lang/System$1"), (7, u "props"), (0, u "Ljava/util/Properties;"), (2, u "lineSeparator"), (0, u "Ljava/lang/String;"), (96, .class_ 321), (1, u "java/lang/System$LoggerFinder"), (5, .class_ 328), (0, u "java/lang/System$Logger"), (67, u "err"), (2, u "out"), (91, u "notSupportedJnuEncoding"), (15, u "in"), (17, u "initialIn"), (0, u "Ljava/io/InputStream;"), (35, u "bootLayer"), (0, u "Ljava/lang/ModuleLayer;"), (99, .class_ 664), (0, u "java/lang/System$2"), (9, u "NEVER"), (2, u "MAYBE"), (49, u "arraycopy"), (0, u "(Ljava/lang/Object;ILjava/lang/Object;II)V"), (72, .class_ 802), (0, u "java/lang/System$Logger$Level")] 31

def k23m0 : Method := mt "<init>" "()V" [] (none) 2 (none)
def k23m1 : Method := mt "arraycopy" "(Ljava/lang/Object;ILjava/lang/Object;II)V" [(.object "java/lang/Object"), .int, (.object "java/lang/Object"), .int, .int] (none) 265 (none)
/-- java/lang/System -/
def k23 : Class := { plain "java/lang/System" (some 0) with
  accessFlags := 49
  interfaces := #[]
  cf := some (fileOf pool23 8 #[.nestMembers #[319, 327, 801, 108, 663, 208]] #[⟨2, 5, 6, #[]⟩, ⟨265, 727, 728, #[]⟩] 49 2 #[] #[⟨25, 507, 526, #[]⟩, ⟨25, 399, 155, #[]⟩, ⟨25, 396, 155, #[]⟩, ⟨10, 525, 526, #[]⟩, ⟨26, 674, 12, #[]⟩, ⟨26, 677, 12, #[]⟩, ⟨10, 11, 12, #[]⟩, ⟨74, 175, 176, #[]⟩, ⟨10, 491, 222, #[]⟩, ⟨74, 29, 30, #[]⟩, ⟨74, 154, 155, #[]⟩, ⟨10, 217, 218, #[]⟩, ⟨10, 221, 222, #[]⟩, ⟨8, 562, 563, #[]⟩])
  fields := #[⟨"in", (.object "java/io/InputStream"), 25, 0, 0⟩, ⟨"out", (.object "java/io/PrintStream"), 25, 1, 0⟩, ⟨"err", (.object "java/io/PrintStream"), 25, 2, 0⟩, ⟨"initialIn", (.object "java/io/InputStream"), 10, 3, 0⟩, ⟨"NEVER", .int, 26, 4, 0⟩, ⟨"MAYBE", .int, 26, 5, 0⟩, ⟨"allowSecurityManager", .int, 10, 6, 0⟩, ⟨"security", (.object "java/lang/SecurityManager"), 74, 7, 0⟩, ⟨"notSupportedJnuEncoding", (.object "java/lang/String"), 10, 8, 0⟩, ⟨"cons", (.object "java/io/Console"), 74, 9, 0⟩, ⟨"initialErrStream", (.object "java/io/PrintStream"), 74, 10, 0⟩, ⟨"props", (.object "java/util/Properties"), 10, 11, 0⟩, ⟨"lineSeparator", (.object "java/lang/String"), 10, 12, 0⟩, ⟨"bootLayer", (.object "java/lang/ModuleLayer"), 8, 13, 0⟩]
  methods := #[k23m0, k23m1]
  instanceTypes := #[]
  staticTypes := #[(.object "java/io/InputStream"), (.object "java/io/PrintStream"), (.object "java/io/PrintStream"), (.object "java/io/InputStream"), .int, .int, .int, (.object "java/lang/SecurityManager"), (.object "java/lang/String"), (.object "java/io/Console"), (.object "java/io/PrintStream"), (.object "java/util/Properties"), (.object "java/lang/String"), (.object "java/lang/ModuleLayer")]
  resolved := Array.replicate 834 none
  statics := none }

def pool24 : Array CpInfo := pool [(6, .class_ 8), (1, u "java/lang/Object"), (0, u "<init>"), (0, u "()V"), (1, .class_ 14), (1, u "java/lang/StringUTF16"), (31, u "$assertionsDisabled"), (0, u "Z"), (13, u "HI_BYTE_SHIFT"), (0, u "I"), (2, u "LO_BYTE_SHIFT"), (49, .methodref 12 116), (0, .nameAndType 117 118), (0, u "compress"), (0, u "([CI[BII)I"), (3, u "([CII)[B"), (138, u "coderFromArrayLen"), (0, u "([BI)B"), (106, .class_ 371), (1, u "java/lang/StringUTF16$LinesSpliterator"), (58, u "MAX_LENGTH"), (196, .class_ 628), (0, u "java/lang/StringUTF16$CodePointsSpliterator"), (0, .class_ 630), (0, u "java/lang/StringUTF16$CharsSpliterator")] 4

def k24m0 : Method := mt "<init>" "()V" [] (none) 0 (none)
def k24c1 : Code := { maxStack := 2, maxLocals := 2, code := jdk_52_method_15_code, exceptionTable := #[], attributes := #[] }
def k24m1 : Method := mt "coderFromArrayLen" "([BI)B" [(.array .byte), .int] (some .byte) 8 (some k24c1)
def k24c2 : Code := { maxStack := 5, maxLocals := 6, code := jdk_52_method_16_code, exceptionTable := #[], attributes := #[] }
def k24m2 : Method := mt "compress" "([CII)[B" [(.array .char), .int, .int] (some (.array .byte)) 9 (some k24c2)
def k24c3 : Code := { maxStack := 3, maxLocals := 7, code := jdk_52_method_21_code, exceptionTable := #[], attributes := #[] }
def k24m3 : Method := mt "compress" "([CI[BII)I" [(.array .char), .int, (.array .byte), .int, .int] (some .int) 9 (some k24c3)
/-- java/lang/StringUTF16 -/
def k24 : Class := { plain "java/lang/StringUTF16" (some 0) with
  accessFlags := 48
  interfaces := #[]
  cf := some (fileOf pool24 12 #[.nestMembers #[627, 629, 369]] #[⟨0, 9, 10, #[]⟩, ⟨8, 261, 262, #[]⟩, ⟨9, 117, 122, #[]⟩, ⟨9, 117, 118, #[]⟩] 48 6 #[] #[⟨26, 61, 62, #[]⟩, ⟨26, 65, 62, #[]⟩, ⟨24, 430, 62, #[]⟩, ⟨4120, 46, 47, #[]⟩])
  fields := #[⟨"HI_BYTE_SHIFT", .int, 26, 0, 0⟩, ⟨"LO_BYTE_SHIFT", .int, 26, 1, 0⟩, ⟨"MAX_LENGTH", .int, 24, 2, 0⟩, ⟨"$assertionsDisabled", .boolean, 4120, 3, 0⟩]
  methods := #[k24m0, k24m1, k24m2, k24m3]
  instanceTypes := #[]
  staticTypes := #[.int, .int, .int, .boolean]
  resolved := Array.replicate 635 none
  statics := none }

def pool25 : Array CpInfo := pool [(1, u "java/lang/Cloneable"), (0, .class_ 1), (0, u "java/lang/Object"), (0, .class_ 3)] 3

/-- java/lang/Cloneable -/
def k25 : Class := { plain "java/lang/Cloneable" (some 0) with
  accessFlags := 1537
  interfaces := #[]
  cf := some (fileOf pool25 2 #[] #[] 1537 4 #[] #[])
  fields := #[]
  methods := #[]
  instanceTypes := #[]
  staticTypes := #[]
  resolved := Array.replicate 8 none
  statics := none }

/-- the primitive byte -/
def k26 : Class := { plain "byte" none with kind := .primitive 'B', accessFlags := 0x411 }
/-- [B -/
def k27 : Class := { plain "[B" (some 0) with kind := .array 26 .byte, interfaces := #[25, 5], accessFlags := 1041 }

/-- the primitive char -/
def k28 : Class := { plain "char" none with kind := .primitive 'C', accessFlags := 0x411 }
/-- [C -/
def k29 : Class := { plain "[C" (some 0) with kind := .array 28 .char, interfaces := #[25, 5], accessFlags := 1041 }

/-- the primitive int -/
def k30 : Class := { plain "int" none with kind := .primitive 'I', accessFlags := 0x411 }
/-- [I -/
def k31 : Class := { plain "[I" (some 0) with kind := .array 30 .int, interfaces := #[25, 5], accessFlags := 1041 }

def heap : Heap := #[{ cls := 7, slots := #[.ref 5, .ref 6, .ref 7, .null], vm := .statics 7 },
  { cls := 10, slots := #[.long 0, .int 1, .null, .int 0, .null, .int 0, .int 0], vm := .statics 10 },
  { cls := 12, slots := #[.null, .null, .null], vm := .statics 12 },
  { cls := 15, slots := #[.null, .null, .ref 8, .null, .null, .null], vm := .statics 15 },
  { cls := 20, slots := #[.ref 8, .null], vm := .statics 20 },
  { cls := 7, slots := #[.null, .int 0, .int 0], vm := .none },
  { cls := 7, slots := #[.null, .int 1, .int 0], vm := .none },
  { cls := 7, slots := #[.null, .int 2, .int 0], vm := .none },
  { cls := 20, slots := #[.null, .null, .null], vm := .none }]
def classes : Array Class := #[k0, k1, k2, k3, k4, k5, k6, k7, k8, k9, k10, k11, k12, k13, k14, k15, k16, k17, k18, k19, k20, k21, k22, k23, k24, k25, k26, k27, k28, k29, k30, k31]
def interned : List (Array UInt16 × Addr) := []
def slotsUsed : Nat := 34
def theMethod : MethodId := ⟨1, 7⟩
def args0 : Array Value := #[.int 5, .int 5, .int 5, .int 5, .int 5, .int 5]
def aboutOver (below : List Frame) : State where
  vm := { classes := classes, interned := interned.toArray }
  heap := heap
  slotsUsed := slotsUsed
  threads := #[{ frames := .invoking theMethod args0 :: below }]
def below0 : List Frame := [.native { method := ⟨0, 0⟩, args := #[] }]
def about1 : State := aboutOver below0
def p0 : Program := .bare "" "" ""
def e0 : Env := launch0.env 0 0 0
theorem w_frames : about1.frames = Frame.invoking theMethod args0 :: below0 := rfl
theorem w_args : argsFit about1.vm theMethod args0 = true := by decide +kernel
theorem w_heap : heapFits about1 = true := by decide +kernel
theorem w_runnable : about1.curStatus? = some .runnable := by decide +kernel
theorem w_alone : about1.alone = true := by decide +kernel
theorem w_named : about1.methodNamed? x = some theMethod := by decide +kernel
theorem w_hears : about1.hears theMethod below0 = true := by decide +kernel
theorem w_ripe : about1.ripe theMethod args0 below0 = true := by decide +kernel
theorem w_running : about1.status = .running := rfl
theorem w_room : about1.hasRoom e0.platform room_1 = true :=
  launch0.hasRoom_least _ room_1 (by decide +kernel) (by decide +kernel) (by decide +kernel) (by decide +kernel) (by decide +kernel) (by decide +kernel)
theorem allAtoms_all (ts : List Jvm.Cond) (a : Array Jvm.Value) (st : Jvm.State) : (allAtoms ts).before a st = ts.all (fun c => c.before a st) := by
  induction ts with
  | nil => rfl
  | cons c t ih =>
    show (Jvm.Cond.and c (allAtoms t)).before a st = _
    rw [Jvm.Cond.before_and, ih, List.all_cons]
def words1 : List Jvm.Cond := Jvm.Cond.code x code maxLocals ret :: tables_1
/-- a 'code' word, met by the world's own term for the bytes: nothing is compared byte by byte -/
theorem code_word {y : MethodName} {bytes : ByteArray} {mx : Nat} {rt : Option FieldType} {a : Array Value} {s : State} {m : MethodId} {meth : Method} {c : Code} (h1 : s.methodNamed? y = some m) (h2 : s.vm.method? m = some meth) (h3 : meth.code = some c) (h4 : c.code = bytes)
    (h5 : (c.maxLocals == mx && c.exceptionTable.isEmpty && decide (c.maxStack ≤ mostOperands) && decide (meth.sig.returnType = rt) && !meth.locks && decide (parseMethodDescriptor y.desc = some meth.sig)) = true) : (Jvm.Cond.code y bytes mx rt).before a s = true := by
  simp only [Bool.and_eq_true, beq_iff_eq, Bool.not_eq_true', decide_eq_true_eq] at h5
  obtain ⟨⟨⟨⟨⟨g1, g2⟩, g3⟩, g4⟩, g5⟩, g6⟩ := h5
  simp [Cond.before, Cond.holds, Cond.value, h1, h2, h3, h4, g1, g2, g3, g4, g5, g6]
theorem codeW_word {y : MethodName} {bytes : ByteArray} {mx : Nat} {rt : Option FieldType} {hs : List (Nat × Nat × Nat × Nat)} {a : Array Value} {s : State} {m : MethodId} {meth : Method} {c : Code} (h1 : s.methodNamed? y = some m) (h2 : s.vm.method? m = some meth) (h3 : meth.code = some c) (h4 : c.code = bytes)
    (h5 : (c.maxLocals == mx && decide (c.exceptionTable.toList.map (fun h => (h.startPc, h.endPc, h.handlerPc, h.catchType)) = hs) && decide (c.maxStack ≤ mostOperands) && decide (meth.sig.returnType = rt) && !meth.locks && decide (parseMethodDescriptor y.desc = some meth.sig)) = true) : (Jvm.Cond.codeWith y bytes mx rt hs).before a s = true := by
  simp only [Bool.and_eq_true, beq_iff_eq, Bool.not_eq_true', decide_eq_true_eq] at h5
  obtain ⟨⟨⟨⟨⟨g1, g2⟩, g3⟩, g4⟩, g5⟩, g6⟩ := h5
  simp only [Cond.before, Cond.holds, Cond.value, h1, h2, h3, h4, g1, g2, g3, g4, g5, g6, Option.bind_some, Option.map_some, Option.any_some, decide_true, beq_self_eq_true, Bool.and_true, Bool.not_false]
def isCode : Jvm.Cond → Bool
  | .code _ _ _ _ => true
  | .codeWith _ _ _ _ _ => true
  | _ => false
theorem all_split {L : List Jvm.Cond} {P : Jvm.Cond → Bool} (h1 : L.all (fun c => isCode c || P c) = true) (h2 : ∀ c ∈ L.filter isCode, P c = true) : L.all P = true := by
  refine List.all_eq_true.mpr fun c hc => ?_
  have h := List.all_eq_true.mp h1 c hc
  rcases Bool.eq_false_or_eq_true (isCode c) with hi | hi
  · exact h2 c (List.mem_filter.mpr ⟨hc, hi⟩)
  · simpa [hi] using h
theorem w_c0 : (Jvm.Cond.code x code maxLocals ret).before args0 about1 = true := code_word (m := ⟨1, 7⟩) (meth := k1m7) (c := k1c7) (by decide +kernel) rfl rfl rfl (by decide +kernel)
theorem w_c1 : (Jvm.Cond.code mn25 method_3_code (1 : Nat) (Option.some .int)).before args0 about1 = true := code_word (m := ⟨1, 2⟩) (meth := k1m2) (c := k1c2) (by decide +kernel) rfl rfl rfl (by decide +kernel)
theorem w_c2 : (Jvm.Cond.code mn26 method_2_code (2 : Nat) (Option.some .byte)).before args0 about1 = true := code_word (m := ⟨1, 1⟩) (meth := k1m1) (c := k1c1) (by decide +kernel) rfl rfl rfl (by decide +kernel)
theorem w_c3 : (Jvm.Cond.code mn28 method_5_code (2 : Nat) (Option.some .byte)).before args0 about1 = true := code_word (m := ⟨1, 4⟩) (meth := k1m4) (c := k1c4) (by decide +kernel) rfl rfl rfl (by decide +kernel)
theorem w_c4 : (Jvm.Cond.code mn27 method_4_code (1 : Nat) (Option.some .boolean)).before args0 about1 = true := code_word (m := ⟨1, 3⟩) (meth := k1m3) (c := k1c3) (by decide +kernel) rfl rfl rfl (by decide +kernel)
theorem w_c5 : (Jvm.Cond.code mn29 method_6_code (3 : Nat) (Option.some .char)).before args0 about1 = true := code_word (m := ⟨1, 5⟩) (meth := k1m5) (c := k1c5) (by decide +kernel) rfl rfl rfl (by decide +kernel)
theorem w_c6 : (Jvm.Cond.code mn8 prog_7_method_1_code (4 : Nat) (Option.none : Option Jvm.ClassFile.FieldType)).before args0 about1 = true := code_word (m := ⟨2, 0⟩) (meth := k2m0) (c := k2c0) (by decide +kernel) rfl rfl rfl (by decide +kernel)
theorem w_c7 : (Jvm.Cond.code ({ cls := "java/lang/Object", name := "<init>", desc := "()V" } : Jvm.MethodName) object_method_1_code (1 : Nat) (Option.none : Option Jvm.ClassFile.FieldType)).before args0 about1 = true := code_word (m := ⟨0, 0⟩) (meth := k0m0) (c := k0c0) (by decide +kernel) rfl rfl rfl (by decide +kernel)
theorem w_c8 : (Jvm.Cond.code mn9 prog_7_method_3_code (5 : Nat) (Option.some .boolean)).before args0 about1 = true := code_word (m := ⟨2, 1⟩) (meth := k2m1) (c := k2c1) (by decide +kernel) rfl rfl rfl (by decide +kernel)
theorem w_c9 : (Jvm.Cond.code mn2 prog_7_method_25_code (4 : Nat) (Option.some .int)).before args0 about1 = true := code_word (m := ⟨2, 15⟩) (meth := k2m15) (c := k2c15) (by decide +kernel) rfl rfl rfl (by decide +kernel)
theorem w_c10 : (Jvm.Cond.code mn5 prog_7_method_16_code (2 : Nat) (Option.some .byte)).before args0 about1 = true := code_word (m := ⟨2, 9⟩) (meth := k2m9) (c := k2c9) (by decide +kernel) rfl rfl rfl (by decide +kernel)
theorem w_c11 : (Jvm.Cond.code mn4 prog_7_method_15_code (4 : Nat) (Option.some .int)).before args0 about1 = true := code_word (m := ⟨2, 8⟩) (meth := k2m8) (c := k2c8) (by decide +kernel) rfl rfl rfl (by decide +kernel)
theorem w_c12 : (Jvm.Cond.code mn1 prog_7_method_19_code (1 : Nat) (Option.some .boolean)).before args0 about1 = true := code_word (m := ⟨2, 10⟩) (meth := k2m10) (c := k2c10) (by decide +kernel) rfl rfl rfl (by decide +kernel)
theorem w_c13 : (Jvm.Cond.code mn6 prog_7_method_6_code (1 : Nat) (Option.some .int)).before args0 about1 = true := code_word (m := ⟨2, 2⟩) (meth := k2m2) (c := k2c2) (by decide +kernel) rfl rfl rfl (by decide +kernel)
theorem w_c14 : (Jvm.Cond.code mn10 prog_7_method_8_code (2 : Nat) (Option.some .boolean)).before args0 about1 = true := code_word (m := ⟨2, 4⟩) (meth := k2m4) (c := k2c4) (by decide +kernel) rfl rfl rfl (by decide +kernel)
theorem w_c15 : (Jvm.Cond.code mn11 prog_7_method_9_code (2 : Nat) (Option.some .boolean)).before args0 about1 = true := code_word (m := ⟨2, 5⟩) (meth := k2m5) (c := k2c5) (by decide +kernel) rfl rfl rfl (by decide +kernel)
theorem w_c16 : (Jvm.Cond.code mn3 prog_7_method_20_code (2 : Nat) (Option.some .int)).before args0 about1 = true := code_word (m := ⟨2, 11⟩) (meth := k2m11) (c := k2c11) (by decide +kernel) rfl rfl rfl (by decide +kernel)
theorem w_c17 : (Jvm.Cond.code mn0 prog_7_method_21_code (1 : Nat) (Option.some .boolean)).before args0 about1 = true := code_word (m := ⟨2, 12⟩) (meth := k2m12) (c := k2c12) (by decide +kernel) rfl rfl rfl (by decide +kernel)
theorem w_c18 : (Jvm.Cond.code mn7 prog_7_method_7_code (1 : Nat) (Option.some .boolean)).before args0 about1 = true := code_word (m := ⟨2, 3⟩) (meth := k2m3) (c := k2c3) (by decide +kernel) rfl rfl rfl (by decide +kernel)
theorem w_c19 : (Jvm.Cond.code mn20 prog_7_method_22_code (4 : Nat) (Option.some .int)).before args0 about1 = true := code_word (m := ⟨2, 13⟩) (meth := k2m13) (c := k2c13) (by decide +kernel) rfl rfl rfl (by decide +kernel)
theorem w_c20 : (Jvm.Cond.code mn19 prog_7_method_23_code (4 : Nat) (Option.some .boolean)).before args0 about1 = true := code_word (m := ⟨2, 14⟩) (meth := k2m14) (c := k2c14) (by decide +kernel) rfl rfl rfl (by decide +kernel)
theorem w_c21 : (Jvm.Cond.code mn16 jdk_42_method_54_code (1 : Nat) (Option.some .int)).before args0 about1 = true := code_word (m := ⟨10, 4⟩) (meth := k10m4) (c := k10c4) (by decide +kernel) rfl rfl rfl (by decide +kernel)
theorem w_c22 : (Jvm.Cond.code mn14 jdk_42_method_152_code (1 : Nat) (Option.some .byte)).before args0 about1 = true := code_word (m := ⟨10, 8⟩) (meth := k10m8) (c := k10c8) (by decide +kernel) rfl rfl rfl (by decide +kernel)
theorem w_c23 : (Jvm.Cond.code mn18 jdk_42_method_56_code (2 : Nat) (Option.some .char)).before args0 about1 = true := code_word (m := ⟨10, 5⟩) (meth := k10m5) (c := k10c5) (by decide +kernel) rfl rfl rfl (by decide +kernel)
theorem w_c24 : (Jvm.Cond.code mn15 jdk_42_method_154_code (1 : Nat) (Option.some .boolean)).before args0 about1 = true := code_word (m := ⟨10, 9⟩) (meth := k10m9) (c := k10c9) (by decide +kernel) rfl rfl rfl (by decide +kernel)
theorem w_c25 : (Jvm.Cond.code mn17 jdk_43_method_2_code (2 : Nat) (Option.some .char)).before args0 about1 = true := code_word (m := ⟨11, 1⟩) (meth := k11m1) (c := k11c1) (by decide +kernel) rfl rfl rfl (by decide +kernel)
theorem w_c26 : (Jvm.Cond.code mn13 jdk_42_method_155_code (2 : Nat) (Option.none : Option Jvm.ClassFile.FieldType)).before args0 about1 = true := code_word (m := ⟨10, 10⟩) (meth := k10m10) (c := k10c10) (by decide +kernel) rfl rfl rfl (by decide +kernel)
theorem w_c27 : (Jvm.Cond.code mn12 jdk_41_method_11_code (3 : Nat) (Option.some .int)).before args0 about1 = true := code_word (m := ⟨12, 1⟩) (meth := k12m1) (c := k12c1) (by decide +kernel) rfl rfl rfl (by decide +kernel)
theorem w_c28 : (Jvm.Cond.code mn24 prog_7_method_10_code (2 : Nat) (Option.some .boolean)).before args0 about1 = true := code_word (m := ⟨2, 6⟩) (meth := k2m6) (c := k2c6) (by decide +kernel) rfl rfl rfl (by decide +kernel)
theorem w_c29 : (Jvm.Cond.code mn23 jdk_65_method_90_code (8 : Nat) (Option.some .boolean)).before args0 about1 = true := code_word (m := ⟨13, 2⟩) (meth := k13m2) (c := k13c2) (by decide +kernel) rfl rfl rfl (by decide +kernel)
theorem w_c30 : (Jvm.Cond.code mn21 jdk_65_method_30_code (3 : Nat) (Option.none : Option Jvm.ClassFile.FieldType)).before args0 about1 = true := code_word (m := ⟨13, 1⟩) (meth := k13m1) (c := k13c1) (by decide +kernel) rfl rfl rfl (by decide +kernel)
theorem w_c31 : (Jvm.Cond.code mn22 jdk_48_method_14_code (8 : Nat) (Option.some .int)).before args0 about1 = true := code_word (m := ⟨14, 1⟩) (meth := k14m1) (c := k14c1) (by decide +kernel) rfl rfl rfl (by decide +kernel)
theorem w_c32 : (Jvm.Cond.code mn41 prog_7_method_13_code (1 : Nat) (Option.some (Jvm.ClassFile.FieldType.object "java/lang/String"))).before args0 about1 = true := code_word (m := ⟨2, 7⟩) (meth := k2m7) (c := k2c7) (by decide +kernel) rfl rfl rfl (by decide +kernel)
theorem w_c33 : (Jvm.Cond.code mn39 jdk_42_method_10_code (5 : Nat) (Option.none : Option Jvm.ClassFile.FieldType)).before args0 about1 = true := code_word (m := ⟨10, 2⟩) (meth := k10m2) (c := k10c2) (by decide +kernel) rfl rfl rfl (by decide +kernel)
theorem w_c34 : (Jvm.Cond.code mn32 jdk_31_method_10_code (1 : Nat) (Option.some (Jvm.ClassFile.FieldType.object "java/lang/Object"))).before args0 about1 = true := code_word (m := ⟨16, 1⟩) (meth := k16m1) (c := k16c1) (by decide +kernel) rfl rfl rfl (by decide +kernel)
theorem w_c35 : (Jvm.Cond.code mn38 jdk_42_method_157_code (3 : Nat) (Option.some .int)).before args0 about1 = true := code_word (m := ⟨10, 11⟩) (meth := k10m11) (c := k10c11) (by decide +kernel) rfl rfl rfl (by decide +kernel)
theorem w_c36 : (Jvm.Cond.code mn37 jdk_41_method_13_code (4 : Nat) (Option.some .int)).before args0 about1 = true := code_word (m := ⟨12, 2⟩) (meth := k12m2) (c := k12c2) (by decide +kernel) rfl rfl rfl (by decide +kernel)
theorem w_cW : (Jvm.Cond.codeWith mn36 jdk_42_method_11_code (11 : Nat) (Option.none : Option Jvm.ClassFile.FieldType) [((800 : Nat), (813 : Nat), (816 : Nat), (202 : Nat))]).before args0 about1 = true := codeW_word (m := ⟨10, 3⟩) (meth := k10m3) (c := k10c3) (by decide +kernel) rfl rfl rfl (by decide +kernel)
theorem w_c37 : (Jvm.Cond.code mn43 jdk_42_method_3_code (2 : Nat) (Option.none : Option Jvm.ClassFile.FieldType)).before args0 about1 = true := code_word (m := ⟨10, 1⟩) (meth := k10m1) (c := k10c1) (by decide +kernel) rfl rfl rfl (by decide +kernel)
theorem w_c38 : (Jvm.Cond.code mn42 jdk_42_method_149_code (6 : Nat) (Option.none : Option Jvm.ClassFile.FieldType)).before args0 about1 = true := code_word (m := ⟨10, 7⟩) (meth := k10m7) (c := k10c7) (by decide +kernel) rfl rfl rfl (by decide +kernel)
theorem w_c39 : (Jvm.Cond.code mn48 jdk_42_method_66_code (3 : Nat) (Option.some .boolean)).before args0 about1 = true := code_word (m := ⟨10, 6⟩) (meth := k10m6) (c := k10c6) (by decide +kernel) rfl rfl rfl (by decide +kernel)
theorem w_c40 : (Jvm.Cond.code mn47 jdk_43_method_13_code (3 : Nat) (Option.some .boolean)).before args0 about1 = true := code_word (m := ⟨11, 2⟩) (meth := k11m2) (c := k11c2) (by decide +kernel) rfl rfl rfl (by decide +kernel)
theorem w_c41 : (Jvm.Cond.code mn35 jdk_123_method_3_code (5 : Nat) (Option.some .int)).before args0 about1 = true := code_word (m := ⟨21, 1⟩) (meth := k21m1) (c := k21c1) (by decide +kernel) rfl rfl rfl (by decide +kernel)
theorem w_c42 : (Jvm.Cond.code mn34 jdk_65_method_132_code (3 : Nat) (Option.some (Jvm.ClassFile.FieldType.array Jvm.ClassFile.FieldType.byte))).before args0 about1 = true := code_word (m := ⟨13, 4⟩) (meth := k13m4) (c := k13c4) (by decide +kernel) rfl rfl rfl (by decide +kernel)
theorem w_c43 : (Jvm.Cond.code mn33 jdk_65_method_133_code (5 : Nat) (Option.some (Jvm.ClassFile.FieldType.array Jvm.ClassFile.FieldType.byte))).before args0 about1 = true := code_word (m := ⟨13, 5⟩) (meth := k13m5) (c := k13c5) (by decide +kernel) rfl rfl rfl (by decide +kernel)
theorem w_c44 : (Jvm.Cond.code mn31 jdk_65_method_131_code (2 : Nat) (Option.none : Option Jvm.ClassFile.FieldType)).before args0 about1 = true := code_word (m := ⟨13, 3⟩) (meth := k13m3) (c := k13c3) (by decide +kernel) rfl rfl rfl (by decide +kernel)
theorem w_c45 : (Jvm.Cond.code mn30 jdk_29_method_69_code (2 : Nat) (Option.some .int)).before args0 about1 = true := code_word (m := ⟨22, 1⟩) (meth := k22m1) (c := k22c1) (by decide +kernel) rfl rfl rfl (by decide +kernel)
theorem w_c46 : (Jvm.Cond.code mn45 jdk_52_method_16_code (6 : Nat) (Option.some (Jvm.ClassFile.FieldType.array Jvm.ClassFile.FieldType.byte))).before args0 about1 = true := code_word (m := ⟨24, 2⟩) (meth := k24m2) (c := k24c2) (by decide +kernel) rfl rfl rfl (by decide +kernel)
theorem w_c47 : (Jvm.Cond.code mn44 jdk_52_method_21_code (7 : Nat) (Option.some .int)).before args0 about1 = true := code_word (m := ⟨24, 3⟩) (meth := k24m3) (c := k24c3) (by decide +kernel) rfl rfl rfl (by decide +kernel)
theorem w_c48 : (Jvm.Cond.code mn46 jdk_52_method_15_code (2 : Nat) (Option.some .byte)).before args0 about1 = true := code_word (m := ⟨24, 1⟩) (meth := k24m1) (c := k24c1) (by decide +kernel) rfl rfl rfl (by decide +kernel)
theorem w_c49 : (Jvm.Cond.code mn40 method_7_code (3 : Nat) (Option.some .byte)).before args0 about1 = true := code_word (m := ⟨1, 6⟩) (meth := k1m6) (c := k1c6) (by decide +kernel) rfl rfl rfl (by decide +kernel)
def codes1 : List Jvm.Cond := [Jvm.Cond.code x code maxLocals ret, Jvm.Cond.code mn25 method_3_code (1 : Nat) (Option.some .int), Jvm.Cond.code mn26 method_2_code (2 : Nat) (Option.some .byte), Jvm.Cond.code mn28 method_5_code (2 : Nat) (Option.some .byte), Jvm.Cond.code mn27 method_4_code (1 : Nat) (Option.some .boolean), Jvm.Cond.code mn29 method_6_code (3 : Nat) (Option.some .char), Jvm.Cond.code mn8 prog_7_method_1_code (4 : Nat) (Option.none : Option Jvm.ClassFile.FieldType), Jvm.Cond.code ({ cls := "java/lang/Object", name := "<init>", desc := "()V" } : Jvm.MethodName) object_method_1_code (1 : Nat) (Option.none : Option Jvm.ClassFile.FieldType), Jvm.Cond.code mn9 prog_7_method_3_code (5 : Nat) (Option.some .boolean), Jvm.Cond.code mn2 prog_7_method_25_code (4 : Nat) (Option.some .int), Jvm.Cond.code mn5 prog_7_method_16_code (2 : Nat) (Option.some .byte), Jvm.Cond.code mn4 prog_7_method_15_code (4 : Nat) (Option.some .int), Jvm.Cond.code mn1 prog_7_method_19_code (1 : Nat) (Option.some .boolean), Jvm.Cond.code mn6 prog_7_method_6_code (1 : Nat) (Option.some .int), Jvm.Cond.code mn10 prog_7_method_8_code (2 : Nat) (Option.some .boolean), Jvm.Cond.code mn11 prog_7_method_9_code (2 : Nat) (Option.some .boolean), Jvm.Cond.code mn3 prog_7_method_20_code (2 : Nat) (Option.some .int), Jvm.Cond.code mn0 prog_7_method_21_code (1 : Nat) (Option.some .boolean), Jvm.Cond.code mn7 prog_7_method_7_code (1 : Nat) (Option.some .boolean), Jvm.Cond.code mn20 prog_7_method_22_code (4 : Nat) (Option.some .int), Jvm.Cond.code mn19 prog_7_method_23_code (4 : Nat) (Option.some .boolean), Jvm.Cond.code mn16 jdk_42_method_54_code (1 : Nat) (Option.some .int), Jvm.Cond.code mn14 jdk_42_method_152_code (1 : Nat) (Option.some .byte), Jvm.Cond.code mn18 jdk_42_method_56_code (2 : Nat) (Option.some .char), Jvm.Cond.code mn15 jdk_42_method_154_code (1 : Nat) (Option.some .boolean), Jvm.Cond.code mn17 jdk_43_method_2_code (2 : Nat) (Option.some .char), Jvm.Cond.code mn13 jdk_42_method_155_code (2 : Nat) (Option.none : Option Jvm.ClassFile.FieldType), Jvm.Cond.code mn12 jdk_41_method_11_code (3 : Nat) (Option.some .int), Jvm.Cond.code mn24 prog_7_method_10_code (2 : Nat) (Option.some .boolean), Jvm.Cond.code mn23 jdk_65_method_90_code (8 : Nat) (Option.some .boolean), Jvm.Cond.code mn21 jdk_65_method_30_code (3 : Nat) (Option.none : Option Jvm.ClassFile.FieldType), Jvm.Cond.code mn22 jdk_48_method_14_code (8 : Nat) (Option.some .int), Jvm.Cond.code mn41 prog_7_method_13_code (1 : Nat) (Option.some (Jvm.ClassFile.FieldType.object "java/lang/String")), Jvm.Cond.code mn39 jdk_42_method_10_code (5 : Nat) (Option.none : Option Jvm.ClassFile.FieldType), Jvm.Cond.code mn32 jdk_31_method_10_code (1 : Nat) (Option.some (Jvm.ClassFile.FieldType.object "java/lang/Object")), Jvm.Cond.code mn38 jdk_42_method_157_code (3 : Nat) (Option.some .int), Jvm.Cond.code mn37 jdk_41_method_13_code (4 : Nat) (Option.some .int), Jvm.Cond.codeWith mn36 jdk_42_method_11_code (11 : Nat) (Option.none : Option Jvm.ClassFile.FieldType) [((800 : Nat), (813 : Nat), (816 : Nat), (202 : Nat))], Jvm.Cond.code mn43 jdk_42_method_3_code (2 : Nat) (Option.none : Option Jvm.ClassFile.FieldType), Jvm.Cond.code mn42 jdk_42_method_149_code (6 : Nat) (Option.none : Option Jvm.ClassFile.FieldType), Jvm.Cond.code mn48 jdk_42_method_66_code (3 : Nat) (Option.some .boolean), Jvm.Cond.code mn47 jdk_43_method_13_code (3 : Nat) (Option.some .boolean), Jvm.Cond.code mn35 jdk_123_method_3_code (5 : Nat) (Option.some .int), Jvm.Cond.code mn34 jdk_65_method_132_code (3 : Nat) (Option.some (Jvm.ClassFile.FieldType.array Jvm.ClassFile.FieldType.byte)), Jvm.Cond.code mn33 jdk_65_method_133_code (5 : Nat) (Option.some (Jvm.ClassFile.FieldType.array Jvm.ClassFile.FieldType.byte)), Jvm.Cond.code mn31 jdk_65_method_131_code (2 : Nat) (Option.none : Option Jvm.ClassFile.FieldType), Jvm.Cond.code mn30 jdk_29_method_69_code (2 : Nat) (Option.some .int), Jvm.Cond.code mn45 jdk_52_method_16_code (6 : Nat) (Option.some (Jvm.ClassFile.FieldType.array Jvm.ClassFile.FieldType.byte)), Jvm.Cond.code mn44 jdk_52_method_21_code (7 : Nat) (Option.some .int), Jvm.Cond.code mn46 jdk_52_method_15_code (2 : Nat) (Option.some .byte), Jvm.Cond.code mn40 method_7_code (3 : Nat) (Option.some .byte)]
theorem codes_eq : words1.filter isCode = codes1 := rfl
theorem w_codes : ∀ c ∈ words1.filter isCode, c.before args0 about1 = true := by
  rw [codes_eq]
  intro c hc
  simp only [codes1, List.mem_cons, List.not_mem_nil, or_false] at hc
  rcases hc with rfl | rfl | rfl | rfl | rfl | rfl | rfl | rfl | rfl | rfl | rfl | rfl | rfl | rfl | rfl | rfl | rfl | rfl | rfl | rfl | rfl | rfl | rfl | rfl | rfl | rfl | rfl | rfl | rfl | rfl | rfl | rfl | rfl | rfl | rfl | rfl | rfl | rfl | rfl | rfl | rfl | rfl | rfl | rfl | rfl | rfl | rfl | rfl | rfl | rfl | rfl
  · exact w_c0
  · exact w_c1
  · exact w_c2
  · exact w_c3
  · exact w_c4
  · exact w_c5
  · exact w_c6
  · exact w_c7
  · exact w_c8
  · exact w_c9
  · exact w_c10
  · exact w_c11
  · exact w_c12
  · exact w_c13
  · exact w_c14
  · exact w_c15
  · exact w_c16
  · exact w_c17
  · exact w_c18
  · exact w_c19
  · exact w_c20
  · exact w_c21
  · exact w_c22
  · exact w_c23
  · exact w_c24
  · exact w_c25
  · exact w_c26
  · exact w_c27
  · exact w_c28
  · exact w_c29
  · exact w_c30
  · exact w_c31
  · exact w_c32
  · exact w_c33
  · exact w_c34
  · exact w_c35
  · exact w_c36
  · exact w_cW
  · exact w_c37
  · exact w_c38
  · exact w_c39
  · exact w_c40
  · exact w_c41
  · exact w_c42
  · exact w_c43
  · exact w_c44
  · exact w_c45
  · exact w_c46
  · exact w_c47
  · exact w_c48
  · exact w_c49
theorem w_t1 : (words1.take 24).all (fun c => isCode c || c.before args0 about1) = true := by decide +kernel
theorem w_t2 : ((words1.drop 24).take 24).all (fun c => isCode c || c.before args0 about1) = true := by decide +kernel
theorem w_t3 : (((words1.drop 24).drop 24).take 24).all (fun c => isCode c || c.before args0 about1) = true := by decide +kernel
theorem w_t4 : ((((words1.drop 24).drop 24).drop 24).take 24).all (fun c => isCode c || c.before args0 about1) = true := by decide +kernel
theorem w_t5 : (((((words1.drop 24).drop 24).drop 24).drop 24).take 24).all (fun c => isCode c || c.before args0 about1) = true := by decide +kernel
theorem w_t6 : ((((((words1.drop 24).drop 24).drop 24).drop 24).drop 24).take 24).all (fun c => isCode c || c.before args0 about1) = true := by decide +kernel
theorem w_t7 : (((((((words1.drop 24).drop 24).drop 24).drop 24).drop 24).drop 24).take 24).all (fun c => isCode c || c.before args0 about1) = true := by decide +kernel
theorem w_t8 : ((((((((words1.drop 24).drop 24).drop 24).drop 24).drop 24).drop 24).drop 24).take 24).all (fun c => isCode c || c.before args0 about1) = true := by decide +kernel
theorem w_t9 : (((((((((words1.drop 24).drop 24).drop 24).drop 24).drop 24).drop 24).drop 24).drop 24).take 24).all (fun c => isCode c || c.before args0 about1) = true := by decide +kernel
theorem w_t10 : ((((((((((words1.drop 24).drop 24).drop 24).drop 24).drop 24).drop 24).drop 24).drop 24).drop 24).take 24).all (fun c => isCode c || c.before args0 about1) = true := by decide +kernel
theorem w_t11 : ((((((((((words1.drop 24).drop 24).drop 24).drop 24).drop 24).drop 24).drop 24).drop 24).drop 24).drop 24).all (fun c => isCode c || c.before args0 about1) = true := by decide +kernel
theorem w_tables : (allAtoms (Jvm.Cond.code x code maxLocals ret :: tables_1)).before args0 about1 = true := by
  rw [allAtoms_all]
  show words1.all (fun c => c.before args0 about1) = true
  refine all_split ?_ w_codes
  rw [← List.take_append_drop 24 words1, List.all_append, w_t1, ← List.take_append_drop 24 (words1.drop 24), List.all_append, w_t2, ← List.take_append_drop 24 ((words1.drop 24).drop 24), List.all_append, w_t3, ← List.take_append_drop 24 (((words1.drop 24).drop 24).drop 24), List.all_append, w_t4, ← List.take_append_drop 24 ((((words1.drop 24).drop 24).drop 24).drop 24), List.all_append, w_t5, ← List.take_append_drop 24 (((((words1.drop 24).drop 24).drop 24).drop 24).drop 24), List.all_append, w_t6, ← List.take_append_drop 24 ((((((words1.drop 24).drop 24).drop 24).drop 24).drop 24).drop 24), List.all_append, w_t7, ← List.take_append_drop 24 (((((((words1.drop 24).drop 24).drop 24).drop 24).drop 24).drop 24).drop 24), List.all_append, w_t8, ← List.take_append_drop 24 ((((((((words1.drop 24).drop 24).drop 24).drop 24).drop 24).drop 24).drop 24).drop 24), List.all_append, w_t9, ← List.take_append_drop 24 (((((((((words1.drop 24).drop 24).drop 24).drop 24).drop 24).drop 24).drop 24).drop 24).drop 24), List.all_append, w_t10, w_t11]
  rfl
theorem w_rest : rest_1_c.before args0 about1 = true := by decide +kernel
theorem w_case : (Jvm.Cond.and given_1 narrow_1).before args0 about1 = true := by decide +kernel
theorem w_consts : constsHeld consts_1 about1 := Jvm.Lit.constsHeldB_iff.mp (by decide +kernel)
theorem w_applies : (headSpec (Jvm.Cond.code x code maxLocals ret :: tables_1) room_1).applies x e0.platform about1 = true :=
  (Spec.applies_iff w_frames).mpr ⟨w_running, w_runnable, w_alone, w_named, w_hears, w_ripe, w_room, w_tables⟩
theorem atStart : AtStart classFile x code maxLocals ret World_1 tables_1 room_1 Calls_1 rest_1 Pre_1 launch0 p0 e0 about1 theMethod args0 below0 :=
  ⟨lists_1, trivial, launch0.admits_env _ _ _, launch0.least_env, fairChoices_fair.cas, fairChoices_fair.clock, w_frames, w_args, w_heap, w_applies, ⟨w_consts, trivial⟩, w_rest, w_case⟩
end start1
theorem witness_1 : WitnessClaimed_1 := ⟨start1.p0, start1.e0, start1.about1, start1.theMethod, start1.args0, start1.below0, start1.atStart⟩
end Jvm.Pilot.@@N@@
namespace Jvm.Pilot.@@N@@
open Jvm Jvm.ClassFile Sem Op Lib Jvm.Free Jvm.Stand Jvm.LawKit Jvm.RoadKit Bundle Jvm.Pilot.@@N@@.Jvm.D
theorem pd_0 : parseMethodDescriptor "(B)Z" = some ⟨[.byte], some .boolean⟩ := by decide +kernel
theorem pd_1 : parseMethodDescriptor "(BI)I" = some ⟨[.byte, .int], some .int⟩ := by decide +kernel
theorem pd_2 : parseMethodDescriptor "(I)B" = some ⟨[.int], some .byte⟩ := by decide +kernel
theorem pd_3 : parseMethodDescriptor "(I)I" = some ⟨[.int], some .int⟩ := by decide +kernel
theorem pd_4 : parseMethodDescriptor "()Z" = some ⟨[], some .boolean⟩ := by decide +kernel
theorem pd_5 : parseMethodDescriptor "(IILjava/util/function/BiFunction;)I" = some ⟨[.int, .int, (.object "java/util/function/BiFunction")], some .int⟩ := by decide +kernel
theorem pd_6 : parseMethodDescriptor "()B" = some ⟨[], some .byte⟩ := by decide +kernel
theorem pd_7 : parseMethodDescriptor "(II)V" = some ⟨[.int, .int], none⟩ := by decide +kernel
theorem pd_8 : parseMethodDescriptor "([BI)C" = some ⟨[(.array .byte), .int], some .char⟩ := by decide +kernel
theorem pd_9 : parseMethodDescriptor "()I" = some ⟨[], some .int⟩ := by decide +kernel
theorem pd_10 : parseMethodDescriptor "(I)C" = some ⟨[.int], some .char⟩ := by decide +kernel
theorem pd_11 : parseMethodDescriptor "(ILjava/lang/String;)Z" = some ⟨[.int, (.object "java/lang/String")], some .boolean⟩ := by decide +kernel
theorem pd_12 : parseMethodDescriptor "(ILjava/lang/String;)I" = some ⟨[.int, (.object "java/lang/String")], some .int⟩ := by decide +kernel
theorem pd_13 : parseMethodDescriptor "(III)V" = some ⟨[.int, .int, .int], none⟩ := by decide +kernel
theorem pd_14 : parseMethodDescriptor "([BI[BII)I" = some ⟨[(.array .byte), .int, (.array .byte), .int, .int], some .int⟩ := by decide +kernel
theorem pd_15 : parseMethodDescriptor "([BII[BII)Z" = some ⟨[(.array .byte), .int, .int, (.array .byte), .int, .int], some .boolean⟩ := by decide +kernel
theorem pd_16 : parseMethodDescriptor "(II)I" = some ⟨[.int, .int], some .int⟩ := by decide +kernel
theorem pd_17 : parseMethodDescriptor "([BII)[B" = some ⟨[(.array .byte), .int, .int], some (.array .byte)⟩ := by decide +kernel
theorem pd_18 : parseMethodDescriptor "([BII)I" = some ⟨[(.array .byte), .int, .int], some .int⟩ := by decide +kernel
theorem pd_19 : parseMethodDescriptor "(IIILjava/util/function/BiFunction;)I" = some ⟨[.int, .int, .int, (.object "java/util/function/BiFunction")], some .int⟩ := by decide +kernel
theorem pd_20 : parseMethodDescriptor "(Ljava/lang/Object;)Ljava/lang/Object;" = some ⟨[(.object "java/lang/Object")], some (.object "java/lang/Object")⟩ := by decide +kernel
theorem pd_21 : parseMethodDescriptor "(III)I" = some ⟨[.int, .int, .int], some .int⟩ := by decide +kernel
theorem pd_22 : parseMethodDescriptor "(Ljava/nio/charset/Charset;[BII)V" = some ⟨[(.object "java/nio/charset/Charset"), (.array .byte), .int, .int], none⟩ := by decide +kernel
theorem pd_23 : parseMethodDescriptor "([BIILjava/nio/charset/Charset;)V" = some ⟨[(.array .byte), .int, .int, (.object "java/nio/charset/Charset")], none⟩ := by decide +kernel
theorem pd_24 : parseMethodDescriptor "([CIILjava/lang/Void;)V" = some ⟨[(.array .char), .int, .int, (.object "java/lang/Void")], none⟩ := by decide +kernel
theorem pd_25 : parseMethodDescriptor "([CI[BII)I" = some ⟨[(.array .char), .int, (.array .byte), .int, .int], some .int⟩ := by decide +kernel
theorem pd_26 : parseMethodDescriptor "([CII)[B" = some ⟨[(.array .char), .int, .int], some (.array .byte)⟩ := by decide +kernel
theorem pd_27 : parseMethodDescriptor "([BI)B" = some ⟨[(.array .byte), .int], some .byte⟩ := by decide +kernel
theorem pd_28 : parseMethodDescriptor "([B[B)Z" = some ⟨[(.array .byte), (.array .byte)], some .boolean⟩ := by decide +kernel
theorem pd_29 : parseMethodDescriptor "([BII)V" = some ⟨[(.array .byte), .int, .int], none⟩ := by decide +kernel
theorem pd_30 : parseMethodDescriptor "([B)Z" = some ⟨[(.array .byte)], some .boolean⟩ := by decide +kernel
theorem pd_31 : parseMethodDescriptor "()Ljava/lang/String;" = some ⟨[], some (.object "java/lang/String")⟩ := by decide +kernel
theorem pd_32 : parseMethodDescriptor "([C)V" = some ⟨[(.array .char)], none⟩ := by decide +kernel
theorem pd_33 : parseMethodDescriptor "(Ljava/lang/Object;)Z" = some ⟨[(.object "java/lang/Object")], some .boolean⟩ := by decide +kernel
theorem pd_34 : parseMethodDescriptor "(IB)C" = some ⟨[.int, .byte], some .char⟩ := by decide +kernel
set_option maxRecDepth 65536
set_option maxHeartbeats 40000000
section OwnHeld
open Jvm.Free.SB Jvm.Free.SBG
variable {p : Program} {l : Launch} {e : Env} {R : Room} {s : State} {m : MethodId} {args : Array Value} {below : List Frame} {meth : Method} {c : Code} {T : State} {locs : List Loc} {cells slots : Nat} {Z : State} {EL : List (String × Nat)}
abbrev KPostH (Z : State) (EL : List (String × Nat)) (s : State) (Q : Option Value → Heap → List Loc → Prop) (C D : Nat) : Outcome → State → Prop := fun o U' => ∃ v L, o = .returned v ∧ Q v U'.heap L ∧ CHr Z EL s.vm s.heap U'.vm U'.heap ∧ ReturnedEndW s o U' L C D
theorem own_retAH {vm₁ : Vm} {k : Nat} (X : Stand p l e R (s.setVm vm₁) m args below meth c T locs cells slots) (hS : s.Since vm₁ k) (hk : k ≤ T.heap.size) (hR : CHr Z EL s.vm s.heap T.vm T.heap) (hx : p.tables.exec = Jvm.exec) (hlk : meth.locks = false) {pc : Nat} {Ls : Array Slot} {z : Value} {Q : Option Value → Heap → List Loc → Prop} {C D : Nat} {t : FieldType} (ht : t.isReference = true) (hz : z.isRef = true) (hret : meth.sig.returnType = some t) (hd : decode c.code pc = .ok (.areturn, 1)) (hC : cells ≤ C) (hD : slots ≤ D) (hQ : Q (some z) T.heap locs) :
    OFin p e below (KPostH Z EL s Q C D) (T.setTop (mkF m pc Ls [z])) := by
  obtain ⟨fs, hr, hrun, hended, h1, h2, h3, h4⟩ := X.leaveW hS hk (v := some z) (fun h => by rw [hret] at h; cases h) hlk
  exact ⟨_, _, X.areturnOut hx hz hret ht hd hr, hrun, hended, _, _, rfl, hQ, hR, ⟨_, rfl⟩, h2, h3, h4.mono hC hD⟩
theorem own_retBH {vm₁ : Vm} {k : Nat} (X : Stand p l e R (s.setVm vm₁) m args below meth c T locs cells slots) (hS : s.Since vm₁ k) (hk : k ≤ T.heap.size) (hR : CHr Z EL s.vm s.heap T.vm T.heap) (hx : p.tables.exec = Jvm.exec) (hlk : meth.locks = false) {pc : Nat} {Ls : Array Slot} {z : Int32} {rest : List Value} {Q : Option Value → Heap → List Loc → Prop} {C D : Nat} {t : FieldType} (ht : t = .boolean ∨ t = .byte ∨ t = .char ∨ t = .short) (hret : meth.sig.returnType = some t) (hd : decode c.code pc = .ok (.ireturn, 1)) (hC : cells ≤ C) (hD : slots ≤ D) (hQ : Q (some (.int (nar t z))) T.heap locs) :
    OFin p e below (KPostH Z EL s Q C D) (T.setTop (mkF m pc Ls (.int z :: rest))) := by
  obtain ⟨fs, hr, hrun, hended, h1, h2, h3, h4⟩ := X.leaveW hS hk (v := some (.int (nar t z))) (fun h => by rw [hret] at h; cases h) hlk
  exact ⟨_, _, retN X hx hret ht hd hr, hrun, hended, _, _, rfl, hQ, hR, ⟨_, rfl⟩, h2, h3, h4.mono hC hD⟩
theorem own_retVH {vm₁ : Vm} {k : Nat} (X : Stand p l e R (s.setVm vm₁) m args below meth c T locs cells slots) (hS : s.Since vm₁ k) (hk : k ≤ T.heap.size) (hR : CHr Z EL s.vm s.heap T.vm T.heap) (hx : p.tables.exec = Jvm.exec) (hlk : meth.locks = false) {pc : Nat} {Ls : Array Slot} {Q : Option Value → Heap → List Loc → Prop} {C D : Nat} (hret : meth.sig.returnType = none) (hd : decode c.code pc = .ok (.return_, 1)) (hC : cells ≤ C) (hD : slots ≤ D) (hQ : Q none T.heap locs) :
    OFin p e below (KPostH Z EL s Q C D) (T.setTop (mkF m pc Ls [])) := by
  obtain ⟨fs, hr, hrun, hended, h1, h2, h3, h4⟩ := X.leaveW hS hk (v := none) (fun _ => rfl) hlk
  exact ⟨_, _, X.returnOut hx hret hd hr, hrun, hended, _, _, rfl, hQ, hR, ⟨_, rfl⟩, h2, h3, h4.mono hC hD⟩
theorem own_safeNull {vm : Vm} {h : Heap} {x : Addr} (hal : Z.vm.Alike vm) (E : Exa Z h x cB) (F : Fld Z h x cB "value" "[B" .null) : Safe Z EL vm h x := fun B => by
  obtain ⟨cell, k, e1, e2, -, -, -⟩ := E
  obtain ⟨p, -, u, a, -, q, -, F', rfl | rfl⟩ := B
  · obtain ⟨cell', cf, k', i, f, h1, h2, h3, h4, h5, h6, h7⟩ := F
    obtain ⟨cS, ⟨⟨s1, -, -, ⟨c1, k1, i1, f1, -⟩, -, -, -, v1, -⟩, -⟩, -⟩ := F'
    cases (show h[q.sa]? = some q.sC from s1).symm.trans h1
    obtain ⟨k3, e3, -⟩ := State.fieldFound?_setVm (s := ({ Z with heap := h } : State)) hal (show ({ Z with heap := h } : State).fieldFound? _ _ _ = _ from h2)
    have e4 := (show (Wst Z vm h).fieldFound? _ _ _ = _ from e3).symm.trans f1
    simp only [Option.some.injEq, Prod.mk.injEq] at e4
    rw [← e4.2.2.2, h7] at v1
    cases v1
  · cases (show h[q.sd]? = some q.SA from F'.hd).symm.trans e1
    obtain ⟨cS, -, -, f, -⟩ := F'
    have f2 : vm.findClass "[B" = some q.SA.cls := f
    rw [hal.findClass] at f2
    exact ids_ne (Z := Z) f2 e2 (by decide) rfl
theorem own_nsRoot {a0 : Array Value} {O K : String} {n : Nat} (w : (Cond.noSuperclass O).before a0 Z = true) (wk : (Cond.instantiable K n).before a0 Z = true) (hn : O ≠ K) : NS Z O K := by
  obtain ⟨c, k, h1, h2, h3, -, -⟩ := Cond.noSuperclass_spec w
  obtain ⟨t, -, g1, -⟩ := Cond.instantiable_spec wk
  have ne := ids_ne h1 g1 hn
  refine ⟨c, t, h1, g1, fun fuel => ?_⟩
  cases fuel with
  | zero => rfl
  | succ f => simp [Vm.isSubclassAux, ne, h2, h3]
theorem own_nsI {a0 : Array Value} {C S K : String} {n : Nat} (w : (Cond.superclass C S).before a0 Z = true) (wk : (Cond.instantiable K n).before a0 Z = true) (ns : NS Z C K) (hn : C ≠ K) : ∃ c t, Z.vm.findClass C = some c ∧ Z.vm.findClass K = some t ∧ Z.vm.assignable c t = false := by
  obtain ⟨c, t, h0, g0, n3⟩ := ns
  obtain ⟨p, k, kp, h1, h2, h3, h4, h5, -, h7⟩ := Cond.superclass_spec h0 w
  obtain ⟨t', k', g1, g2, g3, g4, -⟩ := Cond.instantiable_spec wk
  cases g0.symm.trans g1
  have ne := ids_ne h0 g0 hn
  have g7 : k'.isInterface = false := by simp at g4; exact g4.1
  refine ⟨c, t, h0, g0, ?_⟩
  show Z.vm.assignableAux (255 + 1) c t = false
  simp [Vm.assignableAux, ne, h2, g2, h5, g3, g7, Vm.isSubclass, n3]
end OwnHeld
abbrev HW (a0 : Array Value) (Z : State) : Prop := ∀ d ∈ tables_1, d.before a0 Z = true
abbrev Dec (c : ByteArray) (L : List (Nat × Instr × Nat)) : Prop := ∀ x ∈ L, decode c x.1 = .ok (x.2.1, x.2.2)
abbrev Con (l : Launch) (y : MethodName) (cw : Jvm.Cond) (ws : List Jvm.Cond) (R : Jvm.Room) (av : Array Value) (Z : State) (h0 : Heap) (Q : Option Value → Heap → List Loc → Prop) : Prop :=
  MetFree l y (head1 (cw :: ws) R) (fun a U => a = av ∧ Z.Warmed39 U.vm ∧ U.heap = h0) (fun _ _ _ _ _ => True) (fun _ U o U' => ∃ v L, o = .returned v ∧ Q v U'.heap L ∧ FrameEnd U o U' L R.cells R.slots)
abbrev ConH (EL : List (String × Nat)) (l : Launch) (y : MethodName) (cw : Jvm.Cond) (ws : List Jvm.Cond) (R : Jvm.Room) (av : Array Value) (Z : State) (h0 : Heap) (Q : Option Value → Heap → List Loc → Prop) : Prop :=
  MetFree l y (head1 (cw :: ws) R) (fun a U => a = av ∧ Z.Warmed39 U.vm ∧ U.heap = h0 ∧ CHv Z EL U.vm h0) (fun _ _ _ _ _ => True) (fun _ U o U' => ∃ v L, o = .returned v ∧ Q v U'.heap L ∧ CHr Z EL U.vm U.heap U'.vm U'.heap ∧ ReturnedEndW U o U' L R.cells R.slots)
section OwnOf
variable {l : Launch} {y : MethodName} {cw : Jvm.Cond} {ws : List Jvm.Cond} {R : Jvm.Room} {av : Array Value} {Z : State} {h0 : Heap} {Q : Option Value → Heap → List Loc → Prop} {cd : ByteArray} {ml : Nat} {rt : Option FieldType} {LL : List (Nat × Instr × Nat)} {EL : List (String × Nat)}
abbrev OwnHis (y : MethodName) (cw : Jvm.Cond) (ws : List Jvm.Cond) (R : Jvm.Room) (cd : ByteArray) (ml : Nat) (rt : Option FieldType) : Prop := ∀ args (s : State) m, (head1 (cw :: ws) R).pre.before args s = true → s.methodNamed? y = some m → ∃ meth c, s.vm.method? m = some meth ∧ meth.code = some c ∧ c.code = cd ∧ c.maxLocals = ml ∧ meth.sig.returnType = rt ∧ meth.locks = false
abbrev DecAt (c : Code) (L : List (Nat × Instr × Nat)) : Prop := ∀ (i : Nat) {a b : Nat} {ins : Instr}, L[i]? = some (a, ins, b) → decode c.code a = .ok (ins, b)
theorem own_of (pf : plainFor y = true) (his : OwnHis y cw ws R cd ml rt) (dl : Dec cd LL)
    (F : ∀ {p : Program} {e : Env} {s : State} {m : MethodId} {below : List Frame} {meth : Method} {c : Code} {s₁ : State}, p.tables.exec = Jvm.exec → DecAt c LL → meth.locks = false → meth.sig.returnType = rt → c.maxLocals = ml → Z.Warmed39 s.vm → s.vm.findClass y.cls = some m.cls → meth.name = y.name → Stand p l e R s m av below meth c s₁ [] 0 0 → s₁.heap = h0 → OFin p e below (KPost s Q R.cells R.slots) (s₁.setTop (entryFrame m av ml))) : Con l y cw ws R av Z h0 Q := by
  refine MetFree.of_bodySF pf his ?_
  intro p e s m args below meth c s₁ Bd hml0 hP hK
  obtain ⟨rfl, hZ, hh⟩ := hP
  exact F Bd.exec (fun i {a b ins} q => by rw [Bd.bytes]; exact dl (a, ins, b) (List.mem_of_getElem? q)) (BodyLoose.notSynchronized Bd) Bd.returns hml0 hZ (findClass_of_methodNamed Bd.named) (name_of_methodNamed Bd.named Bd.method).1 (Stand.of_body Bd) (by rw [← hh, Bd.state]; rfl)
theorem own_ofH (pf : plainFor y = true) (his : OwnHis y cw ws R cd ml rt) (dl : Dec cd LL)
    (F : ∀ {p : Program} {e : Env} {s : State} {m : MethodId} {below : List Frame} {meth : Method} {c : Code} {s₁ : State}, p.tables.exec = Jvm.exec → DecAt c LL → meth.locks = false → meth.sig.returnType = rt → c.maxLocals = ml → Z.Warmed39 s.vm → s.vm.findClass y.cls = some m.cls → meth.name = y.name → Stand p l e R s m av below meth c s₁ [] 0 0 → s₁.heap = h0 → s.heap = h0 → CHv Z EL s.vm h0 → OFin p e below (KPostH Z EL s Q R.cells R.slots) (s₁.setTop (entryFrame m av ml))) : ConH EL l y cw ws R av Z h0 Q := by
  refine MetFree.of_bodySF pf his ?_
  intro p e s m args below meth c s₁ Bd hml0 hP hK
  obtain ⟨rfl, hZ, hh, hC⟩ := hP
  exact F Bd.exec (fun i {a b ins} q => by rw [Bd.bytes]; exact dl (a, ins, b) (List.mem_of_getElem? q)) (BodyLoose.notSynchronized Bd) Bd.returns hml0 hZ (findClass_of_methodNamed Bd.named) (name_of_methodNamed Bd.named Bd.method).1 (Stand.of_body Bd) (by rw [← hh, Bd.state]; rfl) hh hC
end OwnOf
abbrev vi (x : Int32) : Slot := .val (.int x)
abbrev vr (x : Addr) : Slot := .val (.ref x)
section OwnCold
open Jvm.Free.SB Jvm.Free.SBG
variable {p : Program} {l : Launch} {e : Env} {R : Jvm.Room} {s : State} {m : MethodId} {args : Array Value} {below : List Frame} {meth : Method} {c : Code} {T : State} {locs : List Loc} {cells slots : Nat} {Z : State} {a0 : Array Value} {EL : List (String × Nat)} {h : Heap} {vm0 : Vm} {y : MethodName} {bytes : ByteArray} {maxL len W : Nat} {ret : Option FieldType} {hs : List (Nat × Nat × Nat × Nat)} {rm : Jvm.Room} {as' : Array Value} {Q : Option Value → Heap → List Loc → Prop}
/-- where a callee has come back: the state behind the call -/
abbrev OwnBk (U t : State) : State := ({ U with heap := t.heap, slotsUsed := t.slotsUsed } : State).setVm t.vm
theorem own_frame {U t : State} {g : JFrame} {mk : MethodId} {a : Array Value} {v : Option Value} {L : List Loc} {k n : Nat} {ig : Instr} (hA : At U g.method c below) (hd : decode c.code g.pc = .ok (ig, len)) (hE : Ended t (.java g :: U.frames.tail) (.returned v)) (hR : ReturnedEndW (U.calling g mk a) (.returned v) t L k n) :
    t = (OwnBk U t).setTop { g with pc := g.pc + len, stack := v.toList ++ g.stack } ∧ U.sameButNew ({ U with heap := t.heap, slotsUsed := t.slotsUsed } : State) L k n := by
  obtain ⟨-, hW, -, e0, r1, r2, r3, r4, r5⟩ := hR
  obtain ⟨j, hj⟩ := Option.isSome_iff_exists.mp hA.top
  obtain ⟨fs, hfs⟩ := State.topJava?_eq_some.mp hj
  obtain ⟨th, hth, -⟩ := State.frames_cons hfs
  refine ⟨?_, ?_, r1, r2, r3, r4, r5⟩
  · obtain ⟨c', i', len', q1, q2, q3⟩ := hE
    have ec : t.code? g.method = U.code? g.method := by rw [State.code?_eq, State.code?_eq, (show U.Warmed39 t.vm from hW).alike.method?]
    cases (hA.code.symm.trans ec.symm).trans q1
    rw [hd] at q2
    cases q2
    have e1 : t = ({ (U.calling g mk a).setFrames t.frames with heap := t.heap, slotsUsed := t.slotsUsed } : State).setVm t.vm := by
      have z : t = ({ t with vm := (U.calling g mk a).vm } : State).setVm t.vm := rfl
      rw [e0] at z; exact z
    have e2 : (OwnBk U t).frames = .java j :: fs := hfs
    rw [State.setTop_of_frames _ e2]
    refine e1.trans ?_
    rw [q3, State.calling_eq hA.top, State.setFrames_setFrames, hfs]
    rfl
  · show ({ U with heap := t.heap, slotsUsed := t.slotsUsed } : State) = { U.setFrames U.frames with heap := t.heap, slotsUsed := t.slotsUsed }
    rw [State.setFrames_self hth]
/-- a constructor with an exception table, none of whose rows is walked, that may load literals, called by invokespecial -/
theorem own_specialSH (X : Stand p l e R (s.setVm vm0) m args below meth c T locs cells slots) (hx : p.tables.exec = Jvm.exec) {own : String} {index : Nat} (hy1 : y.name = "<init>") (hown : (s.setVm vm0).vm.findClass own = some m.cls)
    (hlink : (Cond.methodLink own index y).before args (s.setVm vm0) = true) (hinst : (Cond.instanceMethod y).before args (s.setVm vm0) = true) (hcode : (Cond.codeWith y bytes maxL none hs).before args (s.setVm vm0) = true)
    (hy : y.cls ≠ "java/lang/invoke/MethodHandle" ∧ y.cls ≠ "java/lang/invoke/VarHandle")
    (hM : ConH EL l y (Cond.codeWith y bytes maxL none hs) [] rm as' Z h Q) (hZ : Z.Warmed39 vm0) (wc : (Cond.codeWith y bytes maxL none hs).before a0 Z = true) (wz : (Cond.initialized y.cls).before a0 Z = true) (hf : rm.frames + 1 ≤ R.frames) (hl : W + (maxL + 11) + rm.locals ≤ R.locals) (hEL : EW Z a0 EL) (H : CHv Z EL vm0 h)
    {g : JFrame} (hg : g.method = m) (hsize : g.locals.size = c.maxLocals) {a : Addr} {argsL rest : List Value} (hlen : ∀ sig, parseMethodDescriptor y.desc = some sig → argsL.length = sig.parameters.length) (hst : g.stack = argsL.reverse ++ .ref a :: rest) (hW : 2 * g.monitorRoom + (rest.map fun v => v.category).sum ≤ W)
    (hd : decode c.code g.pc = .ok (.invokespecial index, 3)) (ha : (.ref a :: argsL).toArray = as') (hh : T.heap = h) (hc : cells + rm.cells ≤ R.cells) (hs' : slots + rm.slots ≤ R.slots) :
    ∃ (v : Option Value) (T' : State) (L : List Loc), Stand p l e R (s.setVm T'.vm) m args below meth c T' (locs ++ L) (cells + rm.cells) (slots + rm.slots) ∧ (s.setVm vm0).Since T'.vm T'.heap.size ∧ T.heap.size ≤ T'.heap.size ∧ Q v T'.heap L ∧ CHr Z EL vm0 h T'.vm T'.heap ∧ Steps p.tables e below (T.setTop g) (T'.setTop { g with pc := g.pc + 3, stack := v.toList ++ rest }) := by
  have hpl : e.platform.magicAccessors = ({} : Platform).magicAccessors := by rw [X.admits.platform]
  obtain ⟨mk, -, -, -, vm1, hn, -, -, -, -, -, -, -, hW1, go⟩ := Steps.initColdArgsH (e := e) X.here hx X.warmed hpl hown hy1 hy hlink hinst hcode (f := g) hg hlen hst hd
  have X1 := X.noted hW1
  have hZ1 : Z.Warmed39 (T.setVm vm1).vm := wtrans (s := s.setVm vm0) hZ X1.warmed
  subst hg
  have hn1 := X1.named hn
  obtain ⟨mY, methY, cY, n2, b1, b2, -, b4, -, -, -, -⟩ := Cond.codeWith_spec (args := #[]) (mv hZ1 wc)
  cases hn1.symm.trans n2
  obtain ⟨kY, hkY, -⟩ := className_of_methodNamed hn1
  have hA : At (T.setVm vm1) ({ g with stack := rest } : JFrame).method c below := X1.here
  have happ : (head1 [Cond.codeWith y bytes maxL none hs] rm).appliesLoose y e.platform ((T.setVm vm1).calling { g with stack := rest } mk (.ref a :: argsL).toArray) = true :=
    Spec.appliesLoose_calling (g := { g with stack := rest }) hA hd hn1 hkY (Cond.initialized_spec (args := #[]) (findClass_of_methodNamed hn1) hkY (mv hZ1 wz))
      (X1.room_calling (g := { g with stack := rest }) (R' := rm) hsize b1 b2 hf (by rw [b4]; exact Nat.le_trans (Nat.add_le_add_right (Nat.add_le_add_right hW _) _) hl) hc hs')
      (by show (Cond.and _ .tt).before _ _ = true; rw [Cond.before_and, mv hZ1 wc]; rfl)
  obtain ⟨fs, hfs⟩ := hA.above
  have hfr : ((T.setVm vm1).setTop { g with stack := rest }).frames = (.java { g with stack := rest } :: fs) ++ below := by rw [State.frames_setTop' _ hA.top, hfs]; rfl
  obtain ⟨o, t, hsteps, -, hend, v, L, rfl, hQ, hCH, hR⟩ := Steps.callFree hM p X.admits X.cas X.clock (acts := []) hfr happ ⟨ha, hZ1, hh, (CHv.at X1 hZ hEL H).1⟩ trivial
  rw [State.frames_setTop' _ hA.top] at hend
  obtain ⟨ht, hsame⟩ := own_frame (U := T.setVm vm1) hA hd hend hR
  obtain ⟨-, w1, w2, -⟩ := id hR
  obtain ⟨X2, hS⟩ := X1.movedW (T₂ := OwnBk (T.setVm vm1) t) ((X1.here.setHeapUsed t.heap t.slotsUsed).setVm (show (T.setVm vm1).Warmed39 t.vm from w1).alike) X1.tail rfl rfl w1 w2 hsame
  refine ⟨v, OwnBk (T.setVm vm1) t, L, X2, hS, hsame.2.1, hQ, (CHv.at X1 hZ hEL H).trans ?_, (go _ fun acts => by rw [doInvoke_state]; exact Steps.refl _).trans ?_⟩
  · subst hh; exact hCH
  · have q := hsteps
    rw [ht] at q
    exact q
end OwnCold
theorem own_selP {Z : State} {a0 : Array Value} {y : MethodName} {n : Nat} (wi : (Cond.instantiable y.cls n).before a0 Z = true) (wp : (Cond.privateMethod y).before a0 Z = true) (wm : (Cond.instanceMethod y).before a0 Z = true) (hy : y.cls ≠ "java/lang/invoke/MethodHandle" ∧ y.cls ≠ "java/lang/invoke/VarHandle") : (Cond.selects y.cls y y).before a0 Z = true := by
  obtain ⟨c, k, h1, h2, -, h4, -⟩ := Cond.instantiable_spec wi
  have h5 : k.isInterface = false := by simp at h4; exact h4.1
  exact selects_self_of_private h1 h2 h5 (Cond.privateMethod_at wp) wm hy
section OwnCall
variable {p : Program} {l : Launch} {e : Env} {R rm : Jvm.Room} {s : State} {m : MethodId} {args as' : Array Value} {below : List Frame} {meth : Method} {c : Code} {T : State} {locs : List Loc} {cells slots : Nat} {Z : State} {a0 : Array Value} {h : Heap} {own C : String} {y z : MethodName} {bytes : ByteArray} {maxL W index ml n : Nat} {ret : Option FieldType} {Q : Option Value → Heap → List Loc → Prop} {g : JFrame} {argsL rest : List Value} {ps : List FieldType} {r : Option FieldType} {a : Addr}
theorem wt (hw : HW a0 Z) (i : Nat) {d : Jvm.Cond} (h : tables_1[i]? = some d) : d.before a0 Z = true := hw _ (List.mem_of_getElem? h)
abbrev OwnGo (p : Program) (l : Launch) (e : Env) (R : Jvm.Room) (s : State) (m : MethodId) (args : Array Value) (below : List Frame) (meth : Method) (c : Code) (T : State) (locs : List Loc) (cells slots : Nat) (rm : Jvm.Room) (Q : Option Value → Heap → List Loc → Prop) (g : JFrame) (rest : List Value) : Prop :=
  ∃ (v : Option Value) (T' : State) (L : List Loc), Stand p l e R s m args below meth c T' (locs ++ L) (cells + rm.cells) (slots + rm.slots) ∧ Q v T'.heap L ∧ Steps p.tables e below (T.setTop g) (T'.setTop { g with pc := g.pc + 3, stack := v.toList ++ rest })
abbrev OwnMH (y : MethodName) : Prop := y.cls ≠ "java/lang/invoke/MethodHandle" ∧ y.cls ≠ "java/lang/invoke/VarHandle"
theorem own_hW (hm : g.monitorRoom = 0) (hW : (rest.map fun v => v.category).sum ≤ W) : 2 * g.monitorRoom + (rest.map fun v => v.category).sum ≤ W := by rw [hm]; omega
theorem own_cS (X : Stand p l e R s m args below meth c T locs cells slots) (hx : p.tables.exec = Jvm.exec) (hw : HW a0 Z) (hZ : Z.Warmed39 s.vm) (hown : s.vm.findClass own = some m.cls) (i1 i2 i3 i4 : Nat) (w1 : tables_1[i1]? = some (.methodLink own index y)) (w2 : tables_1[i2]? = some (.static y)) (w3 : tables_1[i3]? = some (.initialized y.cls)) (w4 : tables_1[i4]? = some (.code y bytes maxL ret)) (hy : OwnMH y)
    (hM : Con l y (.code y bytes maxL ret) [] rm as' Z h Q) (hf : rm.frames + 1 ≤ R.frames) (hl : W + (maxL + 11) + rm.locals ≤ R.locals) (hg : g.method = m) (hml : c.maxLocals = ml) (hs : g.locals.size = ml) (hp : parseMethodDescriptor y.desc = some ⟨ps, r⟩) (hk : argsL.length = ps.length) (hst : g.stack = argsL.reverse ++ rest) (hm : g.monitorRoom = 0) (hW : (rest.map fun v => v.category).sum ≤ W)
    (hd : decode c.code g.pc = .ok (.invokestatic index, 3)) (ha : argsL.toArray = as') (eT : T.heap = h) (hc : cells + rm.cells ≤ R.cells) (hsl : slots + rm.slots ≤ R.slots) : OwnGo p l e R s m args below meth c T locs cells slots rm Q g rest := by
  obtain ⟨v, _, ⟨T1, L1, k1, n1⟩, -, X1, ⟨Lc, hQ, l1, y1, z1⟩, st⟩ := Jvm.LawKit.callS X hx (y := y) hown (mvT hZ (wt hw i1 w1)) (mvT hZ (wt hw i2 w2)) (mvT hZ (wt hw i3 w3)) (mvT hZ (wt hw i4 w4)) hy (backOf (W := W) hM hZ (wt hw i4 w4) (wt hw i3 w3) hf hl) (g := g) hg (hs.trans hml.symm) (argsL := argsL) (rest := rest) (lenOf hp hk) hst (own_hW hm hW) hd (fun _ _ => ⟨ha, eT, hc, hsl⟩)
  dsimp only [Pt.U, Pt.locs, Pt.cells, Pt.slots] at X1 l1 y1 z1 st hQ
  subst l1 y1 z1
  exact ⟨v, T1, Lc, X1, hQ, st _ (Steps.refl _)⟩
theorem own_cP (X : Stand p l e R s m args below meth c T locs cells slots) (hx : p.tables.exec = Jvm.exec) (hw : HW a0 Z) (hZ : Z.Warmed39 s.vm) (hown : s.vm.findClass own = some m.cls) (i1 i2 i3 i4 i5 i6 : Nat) (w1 : tables_1[i1]? = some (.methodLink own index y)) (w2 : tables_1[i2]? = some (.instanceMethod y)) (w3 : tables_1[i3]? = some (.instantiable y.cls n)) (w4 : tables_1[i4]? = some (.privateMethod y)) (w5 : tables_1[i5]? = some (.initialized y.cls)) (w6 : tables_1[i6]? = some (.code y bytes maxL ret)) (hy : OwnMH y) (E : Exa Z h a C)
    (hM : Con l y (.code y bytes maxL ret) [] rm as' Z h Q) (hf : rm.frames + 1 ≤ R.frames) (hl : W + (maxL + 11) + rm.locals ≤ R.locals) (hg : g.method = m) (hml : c.maxLocals = ml) (hs : g.locals.size = ml) (hp : parseMethodDescriptor y.desc = some ⟨ps, r⟩) (hk : argsL.length = ps.length) (hst : g.stack = argsL.reverse ++ .ref a :: rest) (hm : g.monitorRoom = 0) (hW : (rest.map fun v => v.category).sum ≤ W)
    (hd : decode c.code g.pc = .ok (.invokevirtual index, 3)) (ha : (.ref a :: argsL).toArray = as') (eT : T.heap = h) (hc : cells + rm.cells ≤ R.cells) (hsl : slots + rm.slots ≤ R.slots) : OwnGo p l e R s m args below meth c T locs cells slots rm Q g rest := by
  obtain ⟨cq, hcq, hsq⟩ := Exa.cell E
  obtain ⟨v, _, ⟨T1, L1, k1, n1⟩, -, X1, ⟨Lc, hQ, l1, y1, z1⟩, st⟩ := X.privateBack hx (y := y) hown (mvT hZ (wt hw i1 w1)) (mvT hZ (wt hw i2 w2)) (mvT hZ (own_selP (y := y) (wt hw i3 w3) (wt hw i4 w4) (wt hw i2 w2) hy)) (Cond.privateMethod_at (mvP (args := #[]) hZ (wt hw i4 w4))) (mvT hZ (wt hw i6 w6)) hy (backOf (W := W) hM hZ (wt hw i6 w6) (wt hw i5 w5) hf hl) (g := g) hg (hs.trans hml.symm) (Steps.refl _) (a := a) (by rw [eT]; exact hcq) hsq (argsL := argsL) (rest := rest) (lenOf hp hk) hst (own_hW hm hW) hd (fun _ _ => ⟨ha, eT, hc, hsl⟩)
  dsimp only [Pt.U, Pt.locs, Pt.cells, Pt.slots] at X1 l1 y1 z1 st hQ
  subst l1 y1 z1
  exact ⟨v, T1, Lc, X1, hQ, st⟩
theorem own_cV (X : Stand p l e R s m args below meth c T locs cells slots) (hx : p.tables.exec = Jvm.exec) (hw : HW a0 Z) (hZ : Z.Warmed39 s.vm) (hown : s.vm.findClass own = some m.cls) (i1 i2 i3 i4 i5 i6 : Nat) (w1 : tables_1[i1]? = some (.methodLink own index y)) (w2 : tables_1[i2]? = some (.declares y)) (w3 : tables_1[i3]? = some (.selects C y y)) (w4 : tables_1[i4]? = some (.instanceMethod y)) (w5 : tables_1[i5]? = some (.initialized y.cls)) (w6 : tables_1[i6]? = some (.code y bytes maxL ret)) (hy : OwnMH y) (E : Exa Z h a C)
    (hM : Con l y (.code y bytes maxL ret) [] rm as' Z h Q) (hf : rm.frames + 1 ≤ R.frames) (hl : W + (maxL + 11) + rm.locals ≤ R.locals) (hg : g.method = m) (hml : c.maxLocals = ml) (hs : g.locals.size = ml) (hp : parseMethodDescriptor y.desc = some ⟨ps, r⟩) (hk : argsL.length = ps.length) (hst : g.stack = argsL.reverse ++ .ref a :: rest) (hm : g.monitorRoom = 0) (hW : (rest.map fun v => v.category).sum ≤ W)
    (hd : decode c.code g.pc = .ok (.invokevirtual index, 3)) (ha : (.ref a :: argsL).toArray = as') (eT : T.heap = h) (hc : cells + rm.cells ≤ R.cells) (hsl : slots + rm.slots ≤ R.slots) : OwnGo p l e R s m args below meth c T locs cells slots rm Q g rest := by
  obtain ⟨cq, kq, qa, qb, qc⟩ := isOf hZ eT E
  obtain ⟨v, _, ⟨T1, L1, k1, n1⟩, -, X1, ⟨Lc, hQ, l1, y1, z1⟩, st⟩ := X.virtualBack hx (y := y) (z := y) hown (mvT hZ (wt hw i1 w1)) (mvT hZ (wt hw i2 w2)) (notFace_of_selects (args := #[]) (mvT hZ (wt hw i3 w3))) (mvT hZ (wt hw i3 w3)) (mvT hZ (wt hw i4 w4)) hy (backOf (W := W) hM hZ (wt hw i6 w6) (wt hw i5 w5) hf hl) qa qc (g := g) hg (hs.trans hml.symm) (Steps.refl _) (argsL := argsL) (rest := rest) (lenOf hp hk) hst (own_hW hm hW) hd (fun _ _ => ⟨ha, eT, hc, hsl⟩)
  dsimp only [Pt.U, Pt.locs, Pt.cells, Pt.slots] at X1 l1 y1 z1 st hQ
  subst l1 y1 z1
  exact ⟨v, T1, Lc, X1, hQ, st⟩
theorem own_cN (X : Stand p l e R s m args below meth c T locs cells slots) (hx : p.tables.exec = Jvm.exec) (hw : HW a0 Z) (hZ : Z.Warmed39 s.vm) (hown : s.vm.findClass own = some m.cls) (i1 i2 i3 i4 : Nat) (w1 : tables_1[i1]? = some (.methodLink own index y)) (w2 : tables_1[i2]? = some (.instanceMethod y)) (w3 : tables_1[i3]? = some (.initialized y.cls)) (w4 : tables_1[i4]? = some (.code y bytes maxL none)) (hy : OwnMH y) (hi : y.name = "<init>")
    (hM : Con l y (.code y bytes maxL none) [] rm as' Z h Q) (hf : rm.frames + 1 ≤ R.frames) (hl : W + (maxL + 11) + rm.locals ≤ R.locals) (hg : g.method = m) (hml : c.maxLocals = ml) (hs : g.locals.size = ml) (hp : parseMethodDescriptor y.desc = some ⟨ps, r⟩) (hk : argsL.length = ps.length) (hst : g.stack = argsL.reverse ++ .ref a :: rest) (hm : g.monitorRoom = 0) (hW : (rest.map fun v => v.category).sum ≤ W)
    (hd : decode c.code g.pc = .ok (.invokespecial index, 3)) (ha : (.ref a :: argsL).toArray = as') (eT : T.heap = h) (hc : cells + rm.cells ≤ R.cells) (hsl : slots + rm.slots ≤ R.slots) : OwnGo p l e R s m args below meth c T locs cells slots rm Q g rest := by
  obtain ⟨v, _, ⟨T1, L1, k1, n1⟩, -, X1, ⟨Lc, hQ, l1, y1, z1⟩, st⟩ := X.specialBack hx (y := y) hi hown (mvT hZ (wt hw i1 w1)) (mvT hZ (wt hw i2 w2)) (mvT hZ (wt hw i4 w4)) hy (backOf (W := W) hM hZ (wt hw i4 w4) (wt hw i3 w3) hf hl) (g := g) hg (hs.trans hml.symm) (Steps.refl _) (a := a) (argsL := argsL) (rest := rest) (lenOf hp hk) hst (own_hW hm hW) hd (fun _ _ => ⟨ha, eT, hc, hsl⟩)
  dsimp only [Pt.U, Pt.locs, Pt.cells, Pt.slots] at X1 l1 y1 z1 st hQ
  subst l1 y1 z1
  exact ⟨v, T1, Lc, X1, hQ, st⟩
end OwnCall
section OwnStep
variable {p : Program} {l : Launch} {e : Env} {R : Jvm.Room} {s : State} {m : MethodId} {args : Array Value} {below : List Frame} {meth : Method} {c : Code} {T target : State} {locs : List Loc} {cells slots : Nat} {g : JFrame} {rest : List Value} {x y z : Int32} {v : Value} {i o : Int} {k : Nat} {kf : Fin 4} {l' : Array Slot} {cd : ClassFile.Cond}
theorem aN (X : Stand p l e R s m args below meth c T locs cells slots) (hx : p.tables.exec = Jvm.exec) (hg : g.method = m) (hd : decode c.code g.pc = .ok (.aload_n kf, 1)) (hl : g.locals[kf.val]? = some (.val v)) (hv : v.isRef = true) (hr : Steps p.tables e below (T.setTop { g with pc := g.pc + 1, stack := v :: g.stack }) target) : Steps p.tables e below (T.setTop g) target := XS.aloadN X.here hx hg hd hl hv hr
theorem aW (X : Stand p l e R s m args below meth c T locs cells slots) (hx : p.tables.exec = Jvm.exec) (hg : g.method = m) (hd : decode c.code g.pc = .ok (.aload k, 2)) (hl : g.locals[k]? = some (.val v)) (hv : v.isRef = true) (hr : Steps p.tables e below (T.setTop { g with pc := g.pc + 2, stack := v :: g.stack }) target) : Steps p.tables e below (T.setTop g) target := XS.aload X.here hx hg hd hl hv hr
theorem iN (X : Stand p l e R s m args below meth c T locs cells slots) (hx : p.tables.exec = Jvm.exec) (hg : g.method = m) (hd : decode c.code g.pc = .ok (.iload_n kf, 1)) (hl : g.locals[kf.val]? = some (.val (.int x))) (hr : Steps p.tables e below (T.setTop { g with pc := g.pc + 1, stack := .int x :: g.stack }) target) : Steps p.tables e below (T.setTop g) target := XS.iloadN X.here hx hg hd hl hr
theorem iW (X : Stand p l e R s m args below meth c T locs cells slots) (hx : p.tables.exec = Jvm.exec) (hg : g.method = m) (hd : decode c.code g.pc = .ok (.iload k, 2)) (hl : g.locals[k]? = some (.val (.int x))) (hr : Steps p.tables e below (T.setTop { g with pc := g.pc + 2, stack := .int x :: g.stack }) target) : Steps p.tables e below (T.setTop g) target := XS.iload X.here hx hg hd hl hr
theorem iC (X : Stand p l e R s m args below meth c T locs cells slots) (hx : p.tables.exec = Jvm.exec) (hg : g.method = m) (hd : decode c.code g.pc = .ok (.iconst i, 1)) (hr : Steps p.tables e below (T.setTop { g with pc := g.pc + 1, stack := .int (Int32.ofInt i) :: g.stack }) target) : Steps p.tables e below (T.setTop g) target := XS.iconst X.here hx hg hd hr
theorem bP (X : Stand p l e R s m args below meth c T locs cells slots) (hx : p.tables.exec = Jvm.exec) (hg : g.method = m) (hd : decode c.code g.pc = .ok (.bipush i, 2)) (hr : Steps p.tables e below (T.setTop { g with pc := g.pc + 2, stack := .int (Int8.ofInt i).toInt32 :: g.stack }) target) : Steps p.tables e below (T.setTop g) target := XS.bipush X.here hx hg hd hr
theorem sW (X : Stand p l e R s m args below meth c T locs cells slots) (hx : p.tables.exec = Jvm.exec) (hg : g.method = m) (hd : decode c.code g.pc = .ok (.istore k, 2)) (hs : g.stack = .int x :: rest) (hl : storeLocals g.locals k (.int x) = some l') (hr : Steps p.tables e below (T.setTop { g with pc := g.pc + 2, stack := rest, locals := l' }) target) : Steps p.tables e below (T.setTop g) target := XS.istore X.here hx hg hd hs hl hr
theorem iI (X : Stand p l e R s m args below meth c T locs cells slots) (hx : p.tables.exec = Jvm.exec) (hg : g.method = m) (hd : decode c.code g.pc = .ok (.iinc k i, 3)) (hl : g.locals[k]? = some (.val (.int x))) (hl' : storeLocals g.locals k (.int (x + Int32.ofInt i)) = some l') (hr : Steps p.tables e below (T.setTop { g with pc := g.pc + 3, locals := l' }) target) : Steps p.tables e below (T.setTop g) target := XS.iinc X.here hx hg hd hl hl' hr
theorem own_jmp {a b : Nat} {o : Int} (h : (a : Int) + o = (b : Int)) : 0 ≤ (a : Int) + o ∧ ((a : Int) + o).toNat = b := by rw [h]; exact ⟨Int.natCast_nonneg b, Int.toNat_natCast b⟩
theorem gO (X : Stand p l e R s m args below meth c T locs cells slots) (hx : p.tables.exec = Jvm.exec) (hg : g.method = m) (a b : Nat) (ha : g.pc = a) (hd : decode c.code g.pc = .ok (.goto o, 3)) (h : (a : Int) + o = (b : Int)) (hr : Steps p.tables e below (T.setTop { g with pc := b }) target) : Steps p.tables e below (T.setTop g) target := XS.goto X.here hx hg ha hd (own_jmp h).1 (own_jmp h).2 hr
theorem fY (X : Stand p l e R s m args below meth c T locs cells slots) (hx : p.tables.exec = Jvm.exec) (hg : g.method = m) (a b : Nat) (ha : g.pc = a) (hd : decode c.code g.pc = .ok (.ifCond cd o, 3)) (hs : g.stack = .int x :: rest) (hc : ifCond.holds cd x = true) (h : (a : Int) + o = (b : Int)) (hr : Steps p.tables e below (T.setTop { g with pc := b, stack := rest }) target) : Steps p.tables e below (T.setTop g) target := XS.ifYes X.here hx hg ha hd hs hc (own_jmp h).1 (own_jmp h).2 hr
theorem fN (X : Stand p l e R s m args below meth c T locs cells slots) (hx : p.tables.exec = Jvm.exec) (hg : g.method = m) (hd : decode c.code g.pc = .ok (.ifCond cd o, 3)) (hs : g.stack = .int x :: rest) (hc : ifCond.holds cd x = false) (hr : Steps p.tables e below (T.setTop { g with pc := g.pc + 3, stack := rest }) target) : Steps p.tables e below (T.setTop g) target := XS.ifNo X.here hx hg hd hs hc hr
theorem cY (X : Stand p l e R s m args below meth c T locs cells slots) (hx : p.tables.exec = Jvm.exec) (hg : g.method = m) (a b : Nat) (ha : g.pc = a) (hd : decode c.code g.pc = .ok (.if_icmp cd o, 3)) (hs : g.stack = .int y :: .int x :: rest) (hc : if_icmp.holds cd x y = true) (h : (a : Int) + o = (b : Int)) (hr : Steps p.tables e below (T.setTop { g with pc := b, stack := rest }) target) : Steps p.tables e below (T.setTop g) target := XS.icmpYes X.here hx hg ha hd hs hc (own_jmp h).1 (own_jmp h).2 hr
theorem cN (X : Stand p l e R s m args below meth c T locs cells slots) (hx : p.tables.exec = Jvm.exec) (hg : g.method = m) (hd : decode c.code g.pc = .ok (.if_icmp cd o, 3)) (hs : g.stack = .int y :: .int x :: rest) (hc : if_icmp.holds cd x y = false) (hr : Steps p.tables e below (T.setTop { g with pc := g.pc + 3, stack := rest }) target) : Steps p.tables e below (T.setTop g) target := XS.icmpNo X.here hx hg hd hs hc hr
end OwnStep
theorem dl_prog_7_21 : Dec prog_7_method_21_code [(0, .iload_n 0, 1), (1, .bipush 32, 2), (3, .if_icmp .eq 21, 3), (24, .iconst 1, 1), (25, .goto 4, 3), (29, .ireturn, 1), (6, .iload_n 0, 1), (7, .bipush 9, 2), (9, .if_icmp .eq 15, 3), (12, .iload_n 0, 1), (13, .bipush 10, 2), (15, .if_icmp .eq 9, 3), (18, .iload_n 0, 1), (19, .bipush 13, 2), (21, .if_icmp .ne 7, 3), (28, .iconst 0, 1)] := by decide +kernel
theorem dl_prog_7_19 : Dec prog_7_method_19_code [(0, .iload_n 0, 1), (1, .ifCond .lt 25, 3), (26, .iconst 0, 1), (27, .ireturn, 1), (4, .iload_n 0, 1), (5, .bipush 64, 2), (7, .if_icmp .ge 19, 3), (10, .ldc2_w 162, 3), (13, .iload_n 0, 1), (14, .lushr, 1), (15, .lconst 1, 1), (16, .land, 1), (17, .lconst 0, 1), (18, .lcmp, 1), (19, .ifCond .eq 7, 3), (22, .iconst 1, 1), (23, .goto 4, 3)] := by decide +kernel
theorem dl_prog_7_25 : Dec prog_7_method_25_code [(0, .iload_n 2, 1), (1, .istore_n 3, 1), (2, .iload_n 3, 1), (3, .aload_n 0, 1), (4, .getfield 17, 3), (7, .if_icmp .ge 21, 3), (28, .iconst (-1), 1), (29, .ireturn, 1), (10, .aload_n 0, 1), (11, .getfield 7, 3), (14, .iload_n 3, 1), (15, .baload, 1), (16, .iload_n 1, 1), (17, .if_icmp .ne 5, 3), (20, .iload_n 3, 1), (21, .ireturn, 1), (22, .iinc 3 1, 3), (25, .goto (-23), 3)] := by decide +kernel
theorem dl_prog_7_20 : Dec prog_7_method_20_code [(0, .iload_n 1, 1), (1, .aload_n 0, 1), (2, .getfield 17, 3), (5, .if_icmp .ge 21, 3), (26, .iload_n 1, 1), (27, .ireturn, 1), (8, .aload_n 0, 1), (9, .getfield 7, 3), (12, .iload_n 1, 1), (13, .baload, 1), (14, .invokestatic 164, 3), (17, .ifCond .eq 9, 3), (20, .iinc 1 1, 3), (23, .goto (-23), 3)] := by decide +kernel
theorem dl_prog_7_15 : Dec prog_7_method_15_code [(0, .iload_n 1, 1), (1, .istore_n 2, 1), (2, .iconst 0, 1), (3, .istore_n 3, 1), (4, .iload_n 2, 1), (5, .aload_n 0, 1), (6, .getfield 17, 3), (9, .if_icmp .ge 33, 3), (42, .aload_n 0, 1), (43, .iload_n 1, 1), (44, .putfield 112, 3), (47, .aload_n 0, 1), (48, .iload_n 2, 1), (49, .putfield 91, 3), (52, .aload_n 0, 1), (53, .iload_n 3, 1), (54, .putfield 132, 3), (57, .iload_n 2, 1), (58, .ireturn, 1), (12, .aload_n 0, 1), (13, .getfield 7, 3), (16, .iload_n 2, 1), (17, .baload, 1), (18, .invokestatic 139, 3), (21, .ifCond .ne 21, 3), (24, .bipush 31, 2), (26, .iload_n 3, 1), (27, .imul, 1), (28, .aload_n 0, 1), (29, .getfield 7, 3), (32, .iload_n 2, 1), (33, .baload, 1), (34, .iadd, 1), (35, .istore_n 3, 1), (36, .iinc 2 1, 3), (39, .goto (-35), 3)] := by decide +kernel
theorem dl_prog_7_16 : Dec prog_7_method_16_code [(0, .iload_n 1, 1), (1, .iconst 1, 1), (2, .iadd, 1), (3, .aload_n 0, 1), (4, .getfield 17, 3), (7, .if_icmp .ge 14, 3), (10, .aload_n 0, 1), (11, .getfield 7, 3), (14, .iload_n 1, 1), (15, .iconst 1, 1), (16, .iadd, 1), (17, .baload, 1), (18, .goto 4, 3), (22, .ireturn, 1)] := by decide +kernel
theorem dl_prog_7_6 : Dec prog_7_method_6_code [(0, .aload_n 0, 1), (1, .getfield 88, 3), (4, .ireturn, 1)] := by decide +kernel
theorem dl_prog_7_7 : Dec prog_7_method_7_code [(0, .aload_n 0, 1), (1, .getfield 72, 3), (4, .ireturn, 1)] := by decide +kernel
theorem dl_prog_7_1 : Dec prog_7_method_1_code [(0, .aload_n 0, 1), (1, .invokespecial 1, 3), (4, .aload_n 0, 1), (5, .aload_n 1, 1), (6, .putfield 7, 3), (9, .aload_n 0, 1), (10, .iload_n 2, 1), (11, .putfield 13, 3), (14, .aload_n 0, 1), (15, .iload_n 3, 1), (16, .putfield 17, 3), (19, .return_, 1)] := by decide +kernel
theorem dl_prog_7_3 : Dec prog_7_method_3_code [(0, .aload_n 0, 1), (1, .bipush 60, 2), (3, .aload_n 0, 1), (4, .getfield 13, 3), (7, .invokevirtual 55, 3), (10, .istore_n 1, 1), (11, .aload_n 0, 1), (12, .getfield 17, 3), (15, .istore_n 2, 1), (16, .iload_n 1, 1), (17, .ifCond .lt 44, 3), (20, .aload_n 0, 1), (21, .iload_n 1, 1), (22, .invokevirtual 59, 3), (25, .bipush 33, 2), (27, .if_icmp .ne 34, 3), (61, .iload_n 1, 1), (62, .ifCond .ge 23, 3), (85, .aload_n 0, 1), (86, .iload_n 1, 1), (87, .putfield 69, 3), (90, .aload_n 0, 1), (91, .iconst 0, 1), (92, .putfield 72, 3), (95, .aload_n 0, 1), (96, .iload_n 1, 1), (97, .invokevirtual 59, 3), (100, .istore_n 3, 1), (101, .iload_n 3, 1), (102, .bipush 63, 2), (104, .if_icmp .ne 56, 3), (160, .iload_n 3, 1), (161, .bipush 47, 2), (163, .if_icmp .ne 70, 3), (233, .aload_n 0, 1), (234, .getstatic 94, 3), (237, .putfield 67, 3), (240, .aload_n 0, 1), (241, .iconst (-1), 1), (242, .putfield 88, 3), (245, .aload_n 0, 1), (246, .aload_n 0, 1), (247, .iload_n 1, 1), (248, .iconst 1, 1), (249, .iadd, 1), (250, .invokevirtual 79, 3), (253, .putfield 13, 3), (256, .aload_n 0, 1), (257, .aload_n 0, 1), (258, .getfield 67, 3), (261, .getstatic 94, 3), (264, .if_acmp .ne 7, 3), (267, .iconst 1, 1), (268, .goto 4, 3), (272, .putfield 97, 3), (275, .iconst 1, 1), (276, .ireturn, 1), (166, .aload_n 0, 1), (167, .getstatic 42, 3), (170, .putfield 67, 3), (173, .aload_n 0, 1), (174, .iload_n 1, 1), (175, .iconst 2, 1), (176, .iadd, 1), (177, .invokevirtual 79, 3), (180, .pop, 1), (181, .aload_n 0, 1), (182, .bipush 62, 2), (184, .aload_n 0, 1), (185, .getfield 91, 3), (188, .invokevirtual 55, 3), (191, .istore 4, 2), (193, .aload_n 0, 1), (194, .iload 4, 2), (196, .ifCond .ge 7, 3), (199, .iconst (-1), 1), (200, .goto 7, 3), (207, .putfield 88, 3), (210, .aload_n 0, 1), (211, .iload 4, 2), (213, .ifCond .ge 10, 3), (216, .aload_n 0, 1), (217, .getfield 17, 3), (220, .goto 7, 3), (227, .putfield 13, 3), (230, .goto 26, 3), (271, .iconst 0, 1), (203, .iload 4, 2), (205, .iconst 1, 1), (206, .iadd, 1), (223, .iload 4, 2), (225, .iconst 1, 1), (226, .iadd, 1), (107, .aload_n 0, 1), (108, .getstatic 76, 3), (111, .putfield 67, 3), (114, .aload_n 0, 1), (115, .iload_n 1, 1), (116, .iconst 2, 1), (117, .iadd, 1), (118, .invokevirtual 79, 3), (121, .pop, 1), (122, .aload_n 0, 1), (123, .aload_n 0, 1), (124, .iload_n 1, 1), (125, .iconst 2, 1), (126, .iadd, 1), (127, .ldc 82, 2), (129, .invokevirtual 84, 3), (132, .putfield 88, 3), (135, .aload_n 0, 1), (136, .aload_n 0, 1), (137, .getfield 88, 3), (140, .ifCond .ge 10, 3), (143, .aload_n 0, 1), (144, .getfield 17, 3), (147, .goto 7, 3), (154, .putfield 13, 3), (157, .goto 99, 3), (150, .aload_n 0, 1), (151, .getfield 88, 3)] := by decide +kernel
theorem dl_prog_7_8 : Dec prog_7_method_8_code [(0, .aload_n 0, 1), (1, .getfield 97, 3), (4, .ifCond .ne 5, 3), (7, .iconst 0, 1), (8, .ireturn, 1), (9, .aload_n 0, 1), (10, .aload_n 0, 1), (11, .invokevirtual 100, 3), (14, .putfield 97, 3), (17, .aload_n 0, 1), (18, .getfield 97, 3), (21, .ifCond .ne 61, 3), (24, .aload_n 0, 1), (25, .bipush 62, 2), (27, .aload_n 0, 1), (28, .getfield 13, 3), (31, .invokevirtual 55, 3), (34, .istore_n 1, 1), (35, .aload_n 0, 1), (36, .iload_n 1, 1), (37, .ifCond .ge 7, 3), (40, .iconst (-1), 1), (41, .goto 6, 3), (47, .putfield 88, 3), (50, .aload_n 0, 1), (51, .iload_n 1, 1), (52, .aload_n 0, 1), (53, .getfield 69, 3), (56, .iconst 1, 1), (57, .iadd, 1), (58, .if_icmp .le 20, 3), (78, .iconst 0, 1), (79, .putfield 72, 3), (82, .aload_n 0, 1), (83, .getfield 97, 3), (86, .ireturn, 1), (44, .iload_n 1, 1), (45, .iconst 1, 1), (46, .iadd, 1), (61, .aload_n 0, 1), (62, .getfield 7, 3), (65, .iload_n 1, 1), (66, .iconst 1, 1), (67, .isub, 1), (68, .baload, 1), (69, .bipush 47, 2), (71, .if_icmp .ne 7, 3), (74, .iconst 1, 1), (75, .goto 4, 3)] := by decide +kernel
theorem dl_prog_7_9 : Dec prog_7_method_9_code [(0, .aload_n 0, 1), (1, .aload_n 0, 1), (2, .aload_n 0, 1), (3, .getfield 13, 3), (6, .invokevirtual 103, 3), (9, .putfield 13, 3), (12, .aload_n 0, 1), (13, .getfield 13, 3), (16, .aload_n 0, 1), (17, .getfield 17, 3), (20, .if_icmp .eq 31, 3), (51, .iconst 0, 1), (52, .ireturn, 1), (23, .aload_n 0, 1), (24, .getfield 7, 3), (27, .aload_n 0, 1), (28, .getfield 13, 3), (31, .baload, 1), (32, .bipush 62, 2), (34, .if_icmp .eq 17, 3), (37, .aload_n 0, 1), (38, .getfield 7, 3), (41, .aload_n 0, 1), (42, .getfield 13, 3), (45, .baload, 1), (46, .bipush 47, 2), (48, .if_icmp .ne 5, 3), (53, .aload_n 0, 1), (54, .aload_n 0, 1), (55, .aload_n 0, 1), (56, .aload_n 0, 1), (57, .getfield 13, 3), (60, .invokevirtual 79, 3), (63, .invokevirtual 103, 3), (66, .putfield 13, 3), (69, .aload_n 0, 1), (70, .getfield 13, 3), (73, .aload_n 0, 1), (74, .getfield 17, 3), (77, .if_icmp .eq 17, 3), (94, .iconst 0, 1), (95, .ireturn, 1), (80, .aload_n 0, 1), (81, .getfield 7, 3), (84, .aload_n 0, 1), (85, .getfield 13, 3), (88, .baload, 1), (89, .bipush 61, 2), (91, .if_icmp .eq 5, 3), (96, .aload_n 0, 1), (97, .aload_n 0, 1), (98, .aload_n 0, 1), (99, .getfield 13, 3), (102, .iconst 1, 1), (103, .iadd, 1), (104, .invokevirtual 103, 3), (107, .putfield 13, 3), (110, .aload_n 0, 1), (111, .getfield 13, 3), (114, .aload_n 0, 1), (115, .getfield 17, 3), (118, .if_icmp .eq 31, 3), (149, .iconst 0, 1), (150, .ireturn, 1), (151, .aload_n 0, 1), (152, .aload_n 0, 1), (153, .getfield 7, 3), (156, .aload_n 0, 1), (157, .getfield 13, 3), (160, .baload, 1), (161, .aload_n 0, 1), (162, .getfield 13, 3), (165, .iconst 1, 1), (166, .iadd, 1), (167, .invokevirtual 55, 3), (170, .istore_n 1, 1), (171, .iload_n 1, 1), (172, .ifCond .ge 13, 3), (175, .aload_n 0, 1), (176, .aload_n 0, 1), (177, .getfield 17, 3), (180, .putfield 13, 3), (183, .iconst 0, 1), (184, .ireturn, 1), (185, .aload_n 0, 1), (186, .aload_n 0, 1), (187, .getfield 13, 3), (190, .iconst 1, 1), (191, .iadd, 1), (192, .putfield 106, 3), (195, .aload_n 0, 1), (196, .iload_n 1, 1), (197, .putfield 109, 3), (200, .aload_n 0, 1), (201, .iload_n 1, 1), (202, .iconst 1, 1), (203, .iadd, 1), (204, .putfield 13, 3), (207, .iconst 1, 1), (208, .ireturn, 1), (121, .aload_n 0, 1), (122, .getfield 7, 3), (125, .aload_n 0, 1), (126, .getfield 13, 3), (129, .baload, 1), (130, .bipush 39, 2), (132, .if_icmp .eq 19, 3), (135, .aload_n 0, 1), (136, .getfield 7, 3), (139, .aload_n 0, 1), (140, .getfield 13, 3), (143, .baload, 1), (144, .bipush 34, 2), (146, .if_icmp .eq 5, 3)] := by decide +kernel
theorem dl_jdk_41_11 : Dec jdk_41_method_11_code [(0, .iload_n 0, 1), (1, .ifCond .lt 8, 3), (4, .iload_n 0, 1), (5, .iload_n 1, 1), (6, .if_icmp .lt 10, 3), (16, .iload_n 0, 1), (17, .ireturn, 1)] := by decide +kernel
theorem dl_jdk_42_155 : Dec jdk_42_method_155_code [(0, .iload_n 0, 1), (1, .iload_n 1, 1), (2, .getstatic 1053, 3), (5, .invokestatic 1059, 3), (8, .pop, 1), (9, .return_, 1)] := by decide +kernel
theorem dl_jdk_42_152 : Dec jdk_42_method_152_code [(0, .getstatic 38, 3), (3, .ifCond .eq 10, 3), (6, .aload_n 0, 1), (7, .getfield 15, 3), (10, .goto 4, 3), (14, .ireturn, 1)] := by decide +kernel
theorem dl_jdk_42_154 : Dec jdk_42_method_154_code [(0, .getstatic 38, 3), (3, .ifCond .eq 14, 3), (6, .aload_n 0, 1), (7, .getfield 15, 3), (10, .ifCond .ne 7, 3), (13, .iconst 1, 1), (14, .goto 4, 3), (18, .ireturn, 1)] := by decide +kernel
theorem dl_jdk_42_54 : Dec jdk_42_method_54_code [(0, .aload_n 0, 1), (1, .getfield 9, 3), (4, .arraylength, 1), (5, .aload_n 0, 1), (6, .invokevirtual 335, 3), (9, .ishr, 1), (10, .ireturn, 1)] := by decide +kernel
theorem dl_jdk_43_2 : Dec jdk_43_method_2_code [(0, .iload_n 1, 1), (1, .aload_n 0, 1), (2, .arraylength, 1), (3, .invokestatic 9, 3), (6, .aload_n 0, 1), (7, .iload_n 1, 1), (8, .baload, 1), (9, .sipush 255, 3), (12, .iand, 1), (13, .i2c, 1), (14, .ireturn, 1)] := by decide +kernel
theorem dl_jdk_42_56 : Dec jdk_42_method_56_code [(0, .aload_n 0, 1), (1, .invokevirtual 492, 3), (4, .ifCond .eq 12, 3), (7, .aload_n 0, 1), (8, .getfield 9, 3), (11, .iload_n 1, 1), (12, .invokestatic 495, 3), (15, .ireturn, 1)] := by decide +kernel
theorem dl_prog_7_23 : Dec prog_7_method_23_code [(0, .iload_n 1, 1), (1, .aload_n 2, 1), (2, .invokevirtual 167, 3), (5, .iadd, 1), (6, .aload_n 0, 1), (7, .getfield 17, 3), (10, .if_icmp .le 5, 3), (13, .iconst 0, 1), (14, .ireturn, 1), (15, .iconst 0, 1), (16, .istore_n 3, 1), (17, .iload_n 3, 1), (18, .aload_n 2, 1), (19, .invokevirtual 167, 3), (22, .if_icmp .ge 27, 3), (25, .aload_n 0, 1), (26, .getfield 7, 3), (29, .iload_n 1, 1), (30, .iload_n 3, 1), (31, .iadd, 1), (32, .baload, 1), (33, .aload_n 2, 1), (34, .iload_n 3, 1), (35, .invokevirtual 170, 3), (38, .if_icmp .eq 5, 3), (43, .iinc 3 1, 3), (46, .goto (-29), 3), (49, .iconst 1, 1), (50, .ireturn, 1), (41, .iconst 0, 1), (42, .ireturn, 1)] := by decide +kernel
theorem dl_prog_7_22 : Dec prog_7_method_22_code [(0, .iload_n 1, 1), (1, .istore_n 3, 1), (2, .iload_n 3, 1), (3, .aload_n 0, 1), (4, .getfield 17, 3), (7, .if_icmp .ge 18, 3), (25, .iload_n 3, 1), (26, .aload_n 0, 1), (27, .getfield 17, 3), (30, .if_icmp .ge 12, 3), (42, .iconst (-1), 1), (43, .ireturn, 1), (10, .aload_n 0, 1), (11, .iload_n 3, 1), (12, .aload_n 2, 1), (13, .invokevirtual 145, 3), (16, .ifCond .ne 9, 3), (19, .iinc 3 1, 3), (22, .goto (-20), 3), (33, .iload_n 3, 1), (34, .aload_n 2, 1), (35, .invokevirtual 167, 3), (38, .iadd, 1), (39, .goto 4, 3)] := by decide +kernel
theorem dl_jdk_65_30 : Dec jdk_65_method_30_code [(0, .iload_n 1, 1), (1, .iload_n 2, 1), (2, .if_icmp .le 44, 3), (46, .iload_n 1, 1), (47, .ifCond .ge 12, 3), (59, .iload_n 2, 1), (60, .iload_n 0, 1), (61, .if_icmp .le 12, 3), (73, .return_, 1)] := by decide +kernel
theorem dl_jdk_48_14 : Dec jdk_48_method_14_code [(0, .iconst 0, 1), (1, .istore 5, 2), (3, .iload 4, 2), (5, .bipush 7, 2), (7, .if_icmp .le 63, 3), (70, .iload 5, 2), (72, .iload 4, 2), (74, .if_icmp .ge 27, 3), (77, .aload_n 0, 1), (78, .iload_n 1, 1), (79, .iload 5, 2), (81, .iadd, 1), (82, .baload, 1), (83, .aload_n 2, 1), (84, .iload_n 3, 1), (85, .iload 5, 2), (87, .iadd, 1), (88, .baload, 1), (89, .if_icmp .eq 6, 3), (95, .iinc 5 1, 3), (98, .goto (-28), 3), (101, .iconst (-1), 1), (102, .ireturn, 1)] := by decide +kernel
theorem dl_jdk_65_90 : Dec jdk_65_method_90_code [(0, .aload_n 0, 1), (1, .arraylength, 1), (2, .iload_n 1, 1), (3, .iload_n 2, 1), (4, .invokestatic 13, 3), (7, .aload_n 3, 1), (8, .arraylength, 1), (9, .iload 4, 2), (11, .iload 5, 2), (13, .invokestatic 13, 3), (16, .iload_n 2, 1), (17, .iload_n 1, 1), (18, .isub, 1), (19, .istore 6, 2), (21, .iload 5, 2), (23, .iload 4, 2), (25, .isub, 1), (26, .istore 7, 2), (28, .iload 6, 2), (30, .iload 7, 2), (32, .if_icmp .eq 5, 3), (37, .aload_n 0, 1), (38, .iload_n 1, 1), (39, .aload_n 3, 1), (40, .iload 4, 2), (42, .iload 6, 2), (44, .invokestatic 275, 3), (47, .ifCond .ge 7, 3), (50, .iconst 1, 1), (51, .goto 4, 3), (55, .ireturn, 1)] := by decide +kernel
theorem dl_prog_7_10 : Dec prog_7_method_10_code [(0, .aload_n 0, 1), (1, .getfield 7, 3), (4, .aload_n 0, 1), (5, .getfield 112, 3), (8, .aload_n 0, 1), (9, .getfield 91, 3), (12, .aload_n 1, 1), (13, .iconst 0, 1), (14, .aload_n 1, 1), (15, .arraylength, 1), (16, .invokestatic 115, 3), (19, .ireturn, 1)] := by decide +kernel
theorem dl_method_3 : Dec method_3_code [(0, .iload_n 0, 1), (1, .iconst 1, 1), (2, .iand, 1), (3, .iload_n 0, 1), (4, .iconst 1, 1), (5, .iushr, 1), (6, .iconst 1, 1), (7, .iand, 1), (8, .iadd, 1), (9, .ireturn, 1)] := by decide +kernel
theorem dl_method_2 : Dec method_2_code [(0, .iload_n 0, 1), (1, .iconst 3, 1), (2, .iand, 1), (3, .istore_n 1, 1), (4, .iload_n 1, 1), (5, .ifCond .ne 6, 3), (8, .bipush 32, 2), (10, .ireturn, 1), (11, .iload_n 1, 1), (12, .iconst 1, 1), (13, .if_icmp .ne 6, 3), (16, .bipush 9, 2), (18, .ireturn, 1), (19, .iload_n 1, 1), (20, .iconst 2, 1), (21, .if_icmp .ne 6, 3), (24, .bipush 10, 2), (26, .ireturn, 1), (27, .bipush 13, 2), (29, .ireturn, 1)] := by decide +kernel
theorem dl_method_4 : Dec method_4_code [(0, .iload_n 0, 1), (1, .bipush 32, 2), (3, .if_icmp .eq 39, 3), (42, .iconst 1, 1), (43, .goto 4, 3), (47, .ireturn, 1), (6, .iload_n 0, 1), (7, .bipush 9, 2), (9, .if_icmp .eq 33, 3), (12, .iload_n 0, 1), (13, .bipush 10, 2), (15, .if_icmp .eq 27, 3), (18, .iload_n 0, 1), (19, .bipush 13, 2), (21, .if_icmp .eq 21, 3), (24, .iload_n 0, 1), (25, .bipush 61, 2), (27, .if_icmp .eq 15, 3), (30, .iload_n 0, 1), (31, .bipush 47, 2), (33, .if_icmp .eq 9, 3), (36, .iload_n 0, 1), (37, .bipush 62, 2), (39, .if_icmp .ne 7, 3), (46, .iconst 0, 1)] := by decide +kernel
theorem dl_method_5 : Dec method_5_code [(0, .iload_n 0, 1), (1, .i2b, 1), (2, .istore_n 1, 1), (3, .iload_n 1, 1), (4, .invokestatic 7, 3), (7, .ifCond .eq 8, 3), (15, .iload_n 1, 1), (16, .ireturn, 1), (10, .bipush 110, 2), (12, .goto 4, 3)] := by decide +kernel
theorem dl_method_6 : Dec method_6_code [(0, .iload_n 0, 1), (1, .bipush 127, 2), (3, .iand, 1), (4, .i2c, 1), (5, .istore_n 2, 1), (6, .iload_n 2, 1), (7, .iload_n 1, 1), (8, .if_icmp .ne 8, 3), (11, .bipush 118, 2), (13, .goto 4, 3), (17, .ireturn, 1), (16, .iload_n 2, 1)] := by decide +kernel
theorem dl_jdk_29_69 : Dec jdk_29_method_69_code [(0, .iload_n 0, 1), (1, .iload_n 1, 1), (2, .if_icmp .gt 7, 3), (9, .iload_n 1, 1), (10, .ireturn, 1), (5, .iload_n 0, 1), (6, .goto 4, 3)] := by decide +kernel
theorem dl_jdk_65_131 : Dec jdk_65_method_131_code [(0, .iload_n 1, 1), (1, .iload_n 0, 1), (2, .if_icmp .ge 35, 3), (37, .return_, 1)] := by decide +kernel
theorem dl_jdk_31_10 : Dec jdk_31_method_10_code [(0, .aload_n 0, 1), (1, .ifnonnull 11, 3), (12, .aload_n 0, 1), (13, .areturn, 1)] := by decide +kernel
theorem dl_jdk_65_133 : Dec jdk_65_method_133_code [(0, .iload_n 1, 1), (1, .iload_n 2, 1), (2, .invokestatic 343, 3), (5, .iload_n 2, 1), (6, .iload_n 1, 1), (7, .isub, 1), (8, .istore_n 3, 1), (9, .iload_n 3, 1), (10, .newarray .byte, 2), (12, .astore 4, 2), (14, .aload_n 0, 1), (15, .iload_n 1, 1), (16, .aload 4, 2), (18, .iconst 0, 1), (19, .aload_n 0, 1), (20, .arraylength, 1), (21, .iload_n 1, 1), (22, .isub, 1), (23, .iload_n 3, 1), (24, .invokestatic 304, 3), (27, .invokestatic 150, 3), (30, .aload 4, 2), (32, .areturn, 1)] := by decide +kernel
theorem dl_jdk_65_132 : Dec jdk_65_method_132_code [(0, .iload_n 1, 1), (1, .ifCond .ne 9, 3), (10, .aload_n 0, 1), (11, .iload_n 1, 1), (12, .iload_n 2, 1), (13, .invokestatic 339, 3), (16, .areturn, 1)] := by decide +kernel
theorem dl_jdk_123_3 : Dec jdk_123_method_3_code [(0, .iload_n 1, 1), (1, .iload_n 2, 1), (2, .iadd, 1), (3, .istore_n 3, 1), (4, .iload_n 1, 1), (5, .istore 4, 2), (7, .iload 4, 2), (9, .iload_n 3, 1), (10, .if_icmp .ge 21, 3), (13, .aload_n 0, 1), (14, .iload 4, 2), (16, .baload, 1), (17, .ifCond .ge 8, 3), (25, .iinc 4 1, 3), (28, .goto (-21), 3), (31, .iload_n 2, 1), (32, .ireturn, 1)] := by decide +kernel
theorem dl_jdk_42_11 : Dec jdk_42_method_11_code [(0, .aload_n 0, 1), (1, .invokespecial 1, 3), (4, .iload 4, 2), (6, .ifCond .ne 24, 3), (30, .aload_n 1, 1), (31, .getstatic 86, 3), (34, .if_acmp .ne 312, 3), (37, .getstatic 38, 3), (40, .ifCond .eq 252, 3), (43, .aload_n 2, 1), (44, .iload_n 3, 1), (45, .iload 4, 2), (47, .invokestatic 92, 3), (50, .istore 5, 2), (52, .iload 5, 2), (54, .iload 4, 2), (56, .if_icmp .ne 22, 3), (59, .aload_n 0, 1), (60, .aload_n 2, 1), (61, .iload_n 3, 1), (62, .iload_n 3, 1), (63, .iload 4, 2), (65, .iadd, 1), (66, .invokestatic 54, 3), (69, .putfield 9, 3), (72, .aload_n 0, 1), (73, .iconst 0, 1), (74, .putfield 15, 3), (77, .return_, 1), (9, .aload_n 0, 1), (10, .ldc 7, 2), (12, .getfield 9, 3), (15, .putfield 9, 3), (18, .aload_n 0, 1), (19, .ldc 7, 2), (21, .getfield 15, 3), (24, .putfield 15, 3), (27, .goto 852, 3), (879, .return_, 1)] := by decide +kernel
theorem dl_jdk_41_13 : Dec jdk_41_method_13_code [(0, .iload_n 2, 1), (1, .iload_n 0, 1), (2, .ior, 1), (3, .iload_n 1, 1), (4, .ior, 1), (5, .ifCond .lt 10, 3), (8, .iload_n 1, 1), (9, .iload_n 2, 1), (10, .iload_n 0, 1), (11, .isub, 1), (12, .if_icmp .le 11, 3), (23, .iload_n 0, 1), (24, .ireturn, 1)] := by decide +kernel
theorem dl_jdk_42_157 : Dec jdk_42_method_157_code [(0, .iload_n 0, 1), (1, .iload_n 1, 1), (2, .iload_n 2, 1), (3, .getstatic 1053, 3), (6, .invokestatic 1065, 3), (9, .ireturn, 1)] := by decide +kernel
theorem dl_jdk_42_10 : Dec jdk_42_method_10_code [(0, .aload_n 0, 1), (1, .aload 4, 2), (3, .invokestatic 78, 3), (6, .checkcast 84, 3), (9, .aload_n 1, 1), (10, .iload_n 2, 1), (11, .iload_n 3, 1), (12, .aload_n 1, 1), (13, .arraylength, 1), (14, .invokestatic 34, 3), (17, .iload_n 3, 1), (18, .invokespecial 75, 3), (21, .return_, 1)] := by decide +kernel
theorem dl_method_7 : Dec method_7_code [(0, .iload_n 0, 1), (1, .i2b, 1), (2, .istore_n 1, 1), (3, .iload_n 1, 1), (4, .bipush 32, 2), (6, .if_icmp .eq 33, 3), (39, .iconst 1, 1), (40, .goto 4, 3), (44, .istore_n 2, 1), (45, .iload_n 2, 1), (46, .ifCond .eq 8, 3), (49, .bipush 120, 2), (51, .goto 4, 3), (55, .ireturn, 1), (9, .iload_n 1, 1), (10, .bipush 9, 2), (12, .if_icmp .eq 27, 3), (15, .iload_n 1, 1), (16, .bipush 10, 2), (18, .if_icmp .eq 21, 3), (21, .iload_n 1, 1), (22, .bipush 13, 2), (24, .if_icmp .eq 15, 3), (27, .iload_n 1, 1), (28, .bipush 34, 2), (30, .if_icmp .eq 9, 3), (33, .iload_n 1, 1), (34, .bipush 39, 2), (36, .if_icmp .ne 7, 3), (43, .iconst 0, 1), (54, .iload_n 1, 1)] := by decide +kernel
theorem dl_prog_7_13 : Dec prog_7_method_13_code [(0, .new 121, 3), (3, .dup, 1), (4, .aload_n 0, 1), (5, .getfield 7, 3), (8, .aload_n 0, 1), (9, .getfield 106, 3), (12, .aload_n 0, 1), (13, .getfield 109, 3), (16, .aload_n 0, 1), (17, .getfield 106, 3), (20, .isub, 1), (21, .getstatic 123, 3), (24, .invokespecial 129, 3), (27, .areturn, 1)] := by decide +kernel
theorem dl_jdk_42_149 : Dec jdk_42_method_149_code [(0, .aload_n 0, 1), (1, .invokespecial 1, 3), (4, .iload_n 3, 1), (5, .ifCond .ne 22, 3), (8, .aload_n 0, 1), (9, .ldc 7, 2), (11, .getfield 9, 3), (14, .putfield 9, 3), (17, .aload_n 0, 1), (18, .ldc 7, 2), (20, .getfield 15, 3), (23, .putfield 15, 3), (26, .return_, 1), (27, .getstatic 38, 3), (30, .ifCond .eq 28, 3), (33, .aload_n 1, 1), (34, .iload_n 2, 1), (35, .iload_n 3, 1), (36, .invokestatic 177, 3), (39, .astore 5, 2), (41, .aload_n 0, 1), (42, .aload 5, 2), (44, .iload_n 3, 1), (45, .invokestatic 47, 3), (48, .putfield 15, 3), (51, .aload_n 0, 1), (52, .aload 5, 2), (54, .putfield 9, 3), (57, .return_, 1)] := by decide +kernel
theorem dl_jdk_42_3 : Dec jdk_42_method_3_code [(0, .aload_n 0, 1), (1, .aload_n 1, 1), (2, .iconst 0, 1), (3, .aload_n 1, 1), (4, .arraylength, 1), (5, .aconst_null, 1), (6, .invokespecial 27, 3), (9, .return_, 1)] := by decide +kernel
theorem dl_jdk_52_21 : Dec jdk_52_method_21_code [(0, .iconst 0, 1), (1, .istore 5, 2), (3, .iload 5, 2), (5, .iload 4, 2), (7, .if_icmp .ge 37, 3), (10, .aload_n 0, 1), (11, .iload_n 1, 1), (12, .caload, 1), (13, .istore 6, 2), (15, .iload 6, 2), (17, .sipush 255, 3), (20, .if_icmp .le 6, 3), (26, .aload_n 2, 1), (27, .iload_n 3, 1), (28, .iload 6, 2), (30, .i2b, 1), (31, .bastore, 1), (32, .iinc 1 1, 3), (35, .iinc 3 1, 3), (38, .iinc 5 1, 3), (41, .goto (-38), 3), (44, .iload 4, 2), (46, .ireturn, 1)] := by decide +kernel
theorem dl_jdk_52_16 : Dec jdk_52_method_16_code [(0, .iload_n 2, 1), (1, .newarray .byte, 2), (3, .astore_n 3, 1), (4, .aload_n 0, 1), (5, .iload_n 1, 1), (6, .aload_n 3, 1), (7, .iconst 0, 1), (8, .iload_n 2, 1), (9, .invokestatic 115, 3), (12, .istore 4, 2), (14, .iload 4, 2), (16, .iload_n 2, 1), (17, .if_icmp .eq 40, 3), (57, .aload_n 3, 1), (58, .areturn, 1)] := by decide +kernel
theorem dl_jdk_52_15 : Dec jdk_52_method_15_code [(0, .iload_n 1, 1), (1, .aload_n 0, 1), (2, .arraylength, 1), (3, .isub, 1), (4, .bipush 31, 2), (6, .iushr, 1), (7, .i2b, 1), (8, .ireturn, 1)] := by decide +kernel
theorem dl_jdk_43_13 : Dec jdk_43_method_13_code [(0, .aload_n 0, 1), (1, .arraylength, 1), (2, .aload_n 1, 1), (3, .arraylength, 1), (4, .if_icmp .ne 30, 3), (7, .iconst 0, 1), (8, .istore_n 2, 1), (9, .iload_n 2, 1), (10, .aload_n 0, 1), (11, .arraylength, 1), (12, .if_icmp .ge 20, 3), (32, .iconst 1, 1), (33, .ireturn, 1), (15, .aload_n 0, 1), (16, .iload_n 2, 1), (17, .baload, 1), (18, .aload_n 1, 1), (19, .iload_n 2, 1), (20, .baload, 1), (21, .if_icmp .eq 5, 3), (26, .iinc 2 1, 3), (29, .goto (-20), 3)] := by decide +kernel
theorem dl_jdk_42_66 : Dec jdk_42_method_66_code [(0, .aload_n 0, 1), (1, .aload_n 1, 1), (2, .if_acmp .ne 5, 3), (7, .aload_n 1, 1), (8, .instanceof 10, 3), (11, .ifCond .eq 43, 3), (14, .aload_n 1, 1), (15, .checkcast 10, 3), (18, .astore_n 2, 1), (19, .getstatic 38, 3), (22, .ifCond .eq 14, 3), (25, .aload_n 0, 1), (26, .getfield 15, 3), (29, .aload_n 2, 1), (30, .getfield 15, 3), (33, .if_icmp .ne 21, 3), (36, .aload_n 0, 1), (37, .getfield 9, 3), (40, .aload_n 2, 1), (41, .getfield 9, 3), (44, .invokestatic 541, 3), (47, .ifCond .eq 7, 3), (50, .iconst 1, 1), (51, .goto 4, 3), (55, .ireturn, 1)] := by decide +kernel
theorem sn0 {Z : State} {a0 : Array Value} (hw : ∀ d ∈ tables_1, d.before a0 Z = true) : Jvm.RoadKit.slotOf Z cB "coder" "B" ≠ Jvm.RoadKit.slotOf Z cB "value" "[B" := slot_ne (Or.inr (wt hw 107 rfl)) (Or.inr (wt hw 106 rfl)) (by decide) (t := .byte) (t' := (.array .byte)) (by decide) (by decide)
theorem sn1 {Z : State} {a0 : Array Value} (hw : ∀ d ∈ tables_1, d.before a0 Z = true) : Jvm.RoadKit.slotOf Z cB "value" "[B" ≠ Jvm.RoadKit.slotOf Z cB "coder" "B" := slot_ne (Or.inr (wt hw 106 rfl)) (Or.inr (wt hw 107 rfl)) (by decide) (t := (.array .byte)) (t' := .byte) (by decide) (by decide)
abbrev la0 (v0 : Addr) (v1 : Int32) (v2 : Addr) (v3 v4 v5 : Int32) : Array Slot := #[vr v0, vi v1, vr v2, vi v3, vi v4, vi v5, .unset, .unset]
abbrev la1 (v0 : Addr) (v1 v2 : Int32) (v3 : Addr) (v4 v5 : Int32) : Array Slot := #[vr v0, vi v1, vi v2, vr v3, vi v4, vi v5, .unset, .unset]
abbrev la2 (v0 : Addr) (v1 v2 : Int32) (v3 : Addr) (v4 v5 v6 : Int32) : Array Slot := #[vr v0, vi v1, vi v2, vr v3, vi v4, vi v5, vi v6, .unset]
abbrev la3 (v0 : Addr) (v1 v2 : Int32) (v3 : Addr) (v4 v5 v6 v7 : Int32) : Array Slot := #[vr v0, vi v1, vi v2, vr v3, vi v4, vi v5, vi v6, vi v7]
abbrev la4 (v0 : Addr) (v1 v2 v3 v4 : Int32) : Array Slot := #[vr v0, vi v1, vi v2, vi v3, vi v4]
abbrev la5 (v0 v1 v2 : Addr) (v3 v4 : Int32) : Array Slot := #[vr v0, vr v1, vr v2, vi v3, vi v4, .unset, .unset, .unset, .unset, .unset, .unset]
abbrev la6 (v0 v1 v2 : Addr) (v3 v4 v5 : Int32) : Array Slot := #[vr v0, vr v1, vr v2, vi v3, vi v4, vi v5, .unset, .unset, .unset, .unset, .unset]
abbrev la7 (v0 v1 v2 v3 v4 v5 : Int32) (v6 : Slot) (v7 : Int32) (v8 v9 v10 v11 v12 v13 v14 v15 v16 v17 v18 v19 v20 v21 v22 v23 v24 v25 : Slot) (v26 : Addr) (v27 v28 v29 : Slot) : Array Slot := #[vi v0, vi v1, vi v2, vi v3, vi v4, vi v5, v6, vi v7, v8, v9, v10, v11, v12, v13, v14, v15, v16, v17, v18, v19, v20, v21, v22, v23, v24, v25, vr v26, v27, v28, v29, .unset, .unset, .unset, .unset, .unset, .unset]
abbrev la8 (v0 v1 v2 v3 v4 v5 : Int32) (v6 : Slot) (v7 : Int32) (v8 v9 v10 v11 v12 v13 v14 v15 v16 v17 v18 v19 v20 v21 v22 v23 v24 v25 : Slot) (v26 : Addr) (v27 : Int32) (v28 v29 : Slot) : Array Slot := #[vi v0, vi v1, vi v2, vi v3, vi v4, vi v5, v6, vi v7, v8, v9, v10, v11, v12, v13, v14, v15, v16, v17, v18, v19, v20, v21, v22, v23, v24, v25, vr v26, vi v27, v28, v29, .unset, .unset, .unset, .unset, .unset, .unset]
abbrev la9 (v0 v1 v2 v3 v4 v5 : Int32) (v6 : Slot) (v7 : Int32) (v8 v9 v10 v11 v12 v13 v14 v15 v16 v17 v18 v19 v20 v21 v22 v23 v24 v25 : Slot) (v26 : Addr) (v27 v28 : Int32) (v29 : Slot) : Array Slot := #[vi v0, vi v1, vi v2, vi v3, vi v4, vi v5, v6, vi v7, v8, v9, v10, v11, v12, v13, v14, v15, v16, v17, v18, v19, v20, v21, v22, v23, v24, v25, vr v26, vi v27, vi v28, v29, .unset, .unset, .unset, .unset, .unset, .unset]
abbrev la10 (v0 v1 v2 v3 v4 v5 : Int32) (v6 : Slot) (v7 : Int32) (v8 v9 v10 v11 v12 v13 v14 v15 v16 v17 v18 v19 v20 v21 v22 v23 v24 v25 : Slot) (v26 : Addr) (v27 v28 v29 : Int32) : Array Slot := #[vi v0, vi v1, vi v2, vi v3, vi v4, vi v5, v6, vi v7, v8, v9, v10, v11, v12, v13, v14, v15, v16, v17, v18, v19, v20, v21, v22, v23, v24, v25, vr v26, vi v27, vi v28, vi v29, .unset, .unset, .unset, .unset, .unset, .unset]
abbrev la11 (v0 v1 v2 v3 v4 v5 : Int32) (v6 : Slot) (v7 : Int32) (v8 v9 v10 v11 v12 v13 v14 v15 v16 v17 v18 v19 v20 v21 v22 v23 v24 v25 : Slot) (v26 : Addr) (v27 v28 v29 v30 : Int32) : Array Slot := #[vi v0, vi v1, vi v2, vi v3, vi v4, vi v5, v6, vi v7, v8, v9, v10, v11, v12, v13, v14, v15, v16, v17, v18, v19, v20, v21, v22, v23, v24, v25, vr v26, vi v27, vi v28, vi v29, vi v30, .unset, .unset, .unset, .unset, .unset]
abbrev la12 (v0 v1 v2 v3 v4 v5 : Int32) (v6 : Slot) (v7 : Int32) (v8 v9 v10 v11 v12 v13 v14 v15 v16 v17 v18 v19 v20 v21 v22 v23 v24 v25 : Slot) (v26 : Addr) (v27 v28 v29 v30 v31 : Int32) : Array Slot := #[vi v0, vi v1, vi v2, vi v3, vi v4, vi v5, v6, vi v7, v8, v9, v10, v11, v12, v13, v14, v15, v16, v17, v18, v19, v20, v21, v22, v23, v24, v25, vr v26, vi v27, vi v28, vi v29, vi v30, vi v31, .unset, .unset, .unset, .unset]
abbrev la13 (v0 v1 v2 v3 v4 v5 : Int32) (v6 : Slot) (v7 : Int32) (v8 v9 v10 v11 v12 v13 v14 v15 v16 v17 v18 v19 v20 v21 v22 v23 v24 v25 : Slot) (v26 : Addr) (v27 v28 v29 v30 v31 v32 : Int32) : Array Slot := #[vi v0, vi v1, vi v2, vi v3, vi v4, vi v5, v6, vi v7, v8, v9, v10, v11, v12, v13, v14, v15, v16, v17, v18, v19, v20, v21, v22, v23, v24, v25, vr v26, vi v27, vi v28, vi v29, vi v30, vi v31, vi v32, .unset, .unset, .unset]
abbrev la14 (v0 v1 v2 v3 v4 v5 : Int32) (v6 : Slot) (v7 : Int32) (v8 v9 v10 v11 v12 v13 v14 v15 v16 v17 v18 v19 v20 v21 v22 v23 v24 v25 : Slot) (v26 : Addr) (v27 v28 v29 v30 v31 v32 v33 : Int32) : Array Slot := #[vi v0, vi v1, vi v2, vi v3, vi v4, vi v5, v6, vi v7, v8, v9, v10, v11, v12, v13, v14, v15, v16, v17, v18, v19, v20, v21, v22, v23, v24, v25, vr v26, vi v27, vi v28, vi v29, vi v30, vi v31, vi v32, vi v33, .unset, .unset]
abbrev la15 (v0 v1 v2 v3 v4 v5 : Int32) (v6 : Slot) (v7 : Int32) (v8 v9 v10 v11 v12 v13 v14 v15 v16 v17 v18 v19 v20 v21 v22 v23 v24 v25 : Slot) (v26 : Addr) (v27 v28 v29 v30 v31 v32 v33 v34 : Int32) : Array Slot := #[vi v0, vi v1, vi v2, vi v3, vi v4, vi v5, v6, vi v7, v8, v9, v10, v11, v12, v13, v14, v15, v16, v17, v18, v19, v20, v21, v22, v23, v24, v25, vr v26, vi v27, vi v28, vi v29, vi v30, vi v31, vi v32, vi v33, vi v34, .unset]
abbrev la16 (v0 v1 v2 v3 v4 v5 : Int32) (v6 : Slot) (v7 : Int32) (v8 v9 v10 v11 v12 v13 v14 v15 v16 v17 v18 v19 v20 v21 v22 v23 v24 v25 : Slot) (v26 : Addr) (v27 v28 v29 v30 v31 v32 v33 v34 v35 : Int32) : Array Slot := #[vi v0, vi v1, vi v2, vi v3, vi v4, vi v5, v6, vi v7, v8, v9, v10, v11, v12, v13, v14, v15, v16, v17, v18, v19, v20, v21, v22, v23, v24, v25, vr v26, vi v27, vi v28, vi v29, vi v30, vi v31, vi v32, vi v33, vi v34, vi v35]
abbrev la17 (v0 v1 v2 v3 v4 v5 : Int32) (v6 : Addr) (v7 : Int32) (v8 v9 v10 v11 v12 v13 v14 v15 v16 v17 v18 v19 : Slot) (v20 v21 v22 v23 v24 : Int32) (v25 : Slot) (v26 : Addr) (v27 v28 v29 v30 v31 v32 : Int32) : Array Slot := #[vi v0, vi v1, vi v2, vi v3, vi v4, vi v5, vr v6, vi v7, v8, v9, v10, v11, v12, v13, v14, v15, v16, v17, v18, v19, vi v20, vi v21, vi v22, vi v23, vi v24, v25, vr v26, vi v27, vi v28, vi v29, vi v30, vi v31, vi v32, .unset, .unset, .unset]
abbrev la18 (v0 v1 v2 v3 v4 v5 : Int32) (v6 : Addr) (v7 : Int32) (v8 v9 v10 v11 v12 v13 v14 v15 v16 v17 v18 v19 : Slot) (v20 v21 v22 v23 v24 : Int32) (v25 : Slot) (v26 : Addr) (v27 v28 v29 v30 v31 v32 v33 : Int32) : Array Slot := #[vi v0, vi v1, vi v2, vi v3, vi v4, vi v5, vr v6, vi v7, v8, v9, v10, v11, v12, v13, v14, v15, v16, v17, v18, v19, vi v20, vi v21, vi v22, vi v23, vi v24, v25, vr v26, vi v27, vi v28, vi v29, vi v30, vi v31, vi v32, vi v33, .unset, .unset]
abbrev la19 (v0 v1 v2 v3 v4 v5 : Int32) (v6 : Addr) (v7 : Int32) (v8 v9 v10 v11 v12 v13 v14 v15 v16 v17 v18 v19 : Slot) (v20 v21 v22 v23 v24 : Int32) (v25 : Slot) (v26 : Addr) (v27 v28 v29 v30 v31 v32 v33 v34 : Int32) : Array Slot := #[vi v0, vi v1, vi v2, vi v3, vi v4, vi v5, vr v6, vi v7, v8, v9, v10, v11, v12, v13, v14, v15, v16, v17, v18, v19, vi v20, vi v21, vi v22, vi v23, vi v24, v25, vr v26, vi v27, vi v28, vi v29, vi v30, vi v31, vi v32, vi v33, vi v34, .unset]
abbrev la20 (v0 v1 v2 v3 v4 v5 : Int32) (v6 : Addr) (v7 : Int32) (v8 v9 v10 v11 v12 v13 v14 v15 v16 v17 v18 v19 : Slot) (v20 v21 v22 v23 v24 : Int32) (v25 : Slot) (v26 : Addr) (v27 v28 v29 v30 v31 v32 v33 v34 v35 : Int32) : Array Slot := #[vi v0, vi v1, vi v2, vi v3, vi v4, vi v5, vr v6, vi v7, v8, v9, v10, v11, v12, v13, v14, v15, v16, v17, v18, v19, vi v20, vi v21, vi v22, vi v23, vi v24, v25, vr v26, vi v27, vi v28, vi v29, vi v30, vi v31, vi v32, vi v33, vi v34, vi v35]
abbrev la21 (v0 v1 v2 v3 v4 v5 : Int32) (v6 : Addr) (v7 v8 : Int32) (v9 v10 v11 v12 v13 v14 v15 v16 v17 v18 v19 v20 v21 v22 v23 v24 : Slot) (v25 : Int32) (v26 v27 v28 v29 : Slot) : Array Slot := #[vi v0, vi v1, vi v2, vi v3, vi v4, vi v5, vr v6, vi v7, vi v8, v9, v10, v11, v12, v13, v14, v15, v16, v17, v18, v19, v20, v21, v22, v23, v24, vi v25, v26, v27, v28, v29, .unset, .unset, .unset, .unset, .unset, .unset]
abbrev la22 (v0 v1 v2 v3 v4 v5 : Int32) (v6 : Addr) (v7 v8 : Int32) (v9 v10 v11 v12 v13 v14 v15 v16 v17 v18 v19 v20 v21 v22 v23 v24 : Slot) (v25 : Int32) (v26 : Addr) (v27 v28 v29 : Slot) : Array Slot := #[vi v0, vi v1, vi v2, vi v3, vi v4, vi v5, vr v6, vi v7, vi v8, v9, v10, v11, v12, v13, v14, v15, v16, v17, v18, v19, v20, v21, v22, v23, v24, vi v25, vr v26, v27, v28, v29, .unset, .unset, .unset, .unset, .unset, .unset]
abbrev la23 (v0 v1 v2 v3 v4 v5 : Int32) (v6 : Addr) (v7 v8 : Int32) (v9 v10 v11 v12 v13 v14 v15 v16 v17 v18 v19 : Slot) (v20 v21 v22 v23 v24 : Int32) (v25 v26 v27 v28 v29 : Slot) : Array Slot := #[vi v0, vi v1, vi v2, vi v3, vi v4, vi v5, vr v6, vi v7, vi v8, v9, v10, v11, v12, v13, v14, v15, v16, v17, v18, v19, vi v20, vi v21, vi v22, vi v23, vi v24, v25, v26, v27, v28, v29, .unset, .unset, .unset, .unset, .unset, .unset]
abbrev la24 (v0 v1 v2 v3 v4 v5 : Int32) (v6 : Addr) (v7 v8 : Int32) (v9 v10 v11 v12 v13 v14 v15 v16 v17 v18 v19 : Slot) (v20 v21 v22 v23 v24 v25 : Int32) (v26 v27 v28 v29 : Slot) : Array Slot := #[vi v0, vi v1, vi v2, vi v3, vi v4, vi v5, vr v6, vi v7, vi v8, v9, v10, v11, v12, v13, v14, v15, v16, v17, v18, v19, vi v20, vi v21, vi v22, vi v23, vi v24, vi v25, v26, v27, v28, v29, .unset, .unset, .unset, .unset, .unset, .unset]
abbrev la25 (v0 v1 v2 v3 v4 v5 : Int32) (v6 : Addr) (v7 v8 : Int32) (v9 v10 v11 v12 v13 v14 v15 v16 v17 v18 v19 : Slot) (v20 v21 v22 v23 v24 v25 : Int32) (v26 : Addr) (v27 v28 v29 : Slot) : Array Slot := #[vi v0, vi v1, vi v2, vi v3, vi v4, vi v5, vr v6, vi v7, vi v8, v9, v10, v11, v12, v13, v14, v15, v16, v17, v18, v19, vi v20, vi v21, vi v22, vi v23, vi v24, vi v25, vr v26, v27, v28, v29, .unset, .unset, .unset, .unset, .unset, .unset]
abbrev la26 (v0 v1 v2 v3 v4 v5 : Int32) (v6 : Addr) (v7 v8 : Int32) (v9 v10 v11 v12 v13 v14 v15 v16 v17 v18 v19 : Slot) (v20 v21 v22 v23 v24 v25 : Int32) (v26 : Addr) (v27 : Int32) (v28 v29 : Slot) : Array Slot := #[vi v0, vi v1, vi v2, vi v3, vi v4, vi v5, vr v6, vi v7, vi v8, v9, v10, v11, v12, v13, v14, v15, v16, v17, v18, v19, vi v20, vi v21, vi v22, vi v23, vi v24, vi v25, vr v26, vi v27, v28, v29, .unset, .unset, .unset, .unset, .unset, .unset]
abbrev la27 (v0 v1 v2 v3 v4 v5 : Int32) (v6 : Addr) (v7 v8 : Int32) (v9 v10 v11 v12 v13 v14 v15 v16 v17 v18 v19 : Slot) (v20 v21 v22 v23 v24 v25 : Int32) (v26 : Addr) (v27 v28 : Int32) (v29 : Slot) : Array Slot := #[vi v0, vi v1, vi v2, vi v3, vi v4, vi v5, vr v6, vi v7, vi v8, v9, v10, v11, v12, v13, v14, v15, v16, v17, v18, v19, vi v20, vi v21, vi v22, vi v23, vi v24, vi v25, vr v26, vi v27, vi v28, v29, .unset, .unset, .unset, .unset, .unset, .unset]
abbrev la28 (v0 v1 v2 v3 v4 v5 : Int32) (v6 : Addr) (v7 v8 : Int32) (v9 v10 v11 v12 v13 v14 v15 v16 v17 v18 v19 : Slot) (v20 v21 v22 v23 v24 v25 : Int32) (v26 : Addr) (v27 v28 v29 : Int32) : Array Slot := #[vi v0, vi v1, vi v2, vi v3, vi v4, vi v5, vr v6, vi v7, vi v8, v9, v10, v11, v12, v13, v14, v15, v16, v17, v18, v19, vi v20, vi v21, vi v22, vi v23, vi v24, vi v25, vr v26, vi v27, vi v28, vi v29, .unset, .unset, .unset, .unset, .unset, .unset]
abbrev la29 (v0 v1 v2 v3 v4 v5 : Int32) (v6 : Addr) (v7 v8 : Int32) (v9 v10 v11 v12 v13 v14 v15 v16 v17 v18 v19 : Slot) (v20 v21 v22 v23 v24 v25 : Int32) (v26 : Addr) (v27 v28 v29 v30 : Int32) : Array Slot := #[vi v0, vi v1, vi v2, vi v3, vi v4, vi v5, vr v6, vi v7, vi v8, v9, v10, v11, v12, v13, v14, v15, v16, v17, v18, v19, vi v20, vi v21, vi v22, vi v23, vi v24, vi v25, vr v26, vi v27, vi v28, vi v29, vi v30, .unset, .unset, .unset, .unset, .unset]
abbrev la30 (v0 v1 v2 v3 v4 v5 : Int32) (v6 : Addr) (v7 v8 : Int32) (v9 v10 v11 v12 v13 v14 v15 v16 v17 v18 v19 : Slot) (v20 v21 v22 v23 v24 v25 : Int32) (v26 : Addr) (v27 v28 v29 v30 v31 : Int32) : Array Slot := #[vi v0, vi v1, vi v2, vi v3, vi v4, vi v5, vr v6, vi v7, vi v8, v9, v10, v11, v12, v13, v14, v15, v16, v17, v18, v19, vi v20, vi v21, vi v22, vi v23, vi v24, vi v25, vr v26, vi v27, vi v28, vi v29, vi v30, vi v31, .unset, .unset, .unset, .unset]
abbrev la31 (v0 v1 v2 v3 v4 v5 : Int32) (v6 : Addr) (v7 v8 : Int32) (v9 v10 v11 v12 v13 v14 v15 v16 v17 v18 v19 : Slot) (v20 v21 v22 v23 v24 v25 : Int32) (v26 : Addr) (v27 v28 v29 v30 v31 v32 : Int32) : Array Slot := #[vi v0, vi v1, vi v2, vi v3, vi v4, vi v5, vr v6, vi v7, vi v8, v9, v10, v11, v12, v13, v14, v15, v16, v17, v18, v19, vi v20, vi v21, vi v22, vi v23, vi v24, vi v25, vr v26, vi v27, vi v28, vi v29, vi v30, vi v31, vi v32, .unset, .unset, .unset]
abbrev la32 (v0 v1 v2 v3 v4 v5 : Int32) (v6 : Addr) (v7 v8 : Int32) (v9 v10 v11 v12 v13 v14 v15 v16 v17 v18 v19 : Slot) (v20 v21 v22 v23 v24 v25 : Int32) (v26 : Addr) (v27 v28 v29 v30 v31 v32 v33 : Int32) : Array Slot := #[vi v0, vi v1, vi v2, vi v3, vi v4, vi v5, vr v6, vi v7, vi v8, v9, v10, v11, v12, v13, v14, v15, v16, v17, v18, v19, vi v20, vi v21, vi v22, vi v23, vi v24, vi v25, vr v26, vi v27, vi v28, vi v29, vi v30, vi v31, vi v32, vi v33, .unset, .unset]
abbrev la33 (v0 v1 v2 v3 v4 v5 : Int32) (v6 : Addr) (v7 v8 : Int32) (v9 v10 v11 v12 v13 v14 v15 v16 v17 v18 v19 : Slot) (v20 v21 v22 v23 v24 v25 : Int32) (v26 : Addr) (v27 v28 v29 v30 v31 v32 v33 v34 : Int32) : Array Slot := #[vi v0, vi v1, vi v2, vi v3, vi v4, vi v5, vr v6, vi v7, vi v8, v9, v10, v11, v12, v13, v14, v15, v16, v17, v18, v19, vi v20, vi v21, vi v22, vi v23, vi v24, vi v25, vr v26, vi v27, vi v28, vi v29, vi v30, vi v31, vi v32, vi v33, vi v34, .unset]
abbrev la34 (v0 v1 v2 v3 v4 v5 : Int32) (v6 : Addr) (v7 v8 : Int32) (v9 v10 v11 v12 v13 v14 v15 v16 v17 v18 v19 : Slot) (v20 v21 v22 v23 v24 v25 : Int32) (v26 : Addr) (v27 v28 v29 v30 v31 v32 v33 v34 v35 : Int32) : Array Slot := #[vi v0, vi v1, vi v2, vi v3, vi v4, vi v5, vr v6, vi v7, vi v8, v9, v10, v11, v12, v13, v14, v15, v16, v17, v18, v19, vi v20, vi v21, vi v22, vi v23, vi v24, vi v25, vr v26, vi v27, vi v28, vi v29, vi v30, vi v31, vi v32, vi v33, vi v34, vi v35]
abbrev la35 (v0 v1 v2 v3 v4 v5 : Int32) (v6 : Addr) (v7 v8 : Int32) (v9 v10 v11 v12 v13 v14 v15 v16 v17 : Slot) (v18 v19 : Addr) (v20 v21 v22 v23 v24 v25 v26 v27 v28 v29 : Int32) : Array Slot := #[vi v0, vi v1, vi v2, vi v3, vi v4, vi v5, vr v6, vi v7, vi v8, v9, v10, v11, v12, v13, v14, v15, v16, v17, vr v18, vr v19, vi v20, vi v21, vi v22, vi v23, vi v24, vi v25, vi v26, vi v27, vi v28, vi v29, .unset, .unset, .unset, .unset, .unset, .unset]
abbrev la36 (v0 v1 v2 v3 v4 v5 : Int32) (v6 : Addr) (v7 v8 : Int32) (v9 v10 v11 v12 v13 v14 v15 v16 v17 : Slot) (v18 v19 : Addr) (v20 v21 v22 v23 v24 v25 : Int32) (v26 : Addr) (v27 v28 v29 : Int32) : Array Slot := #[vi v0, vi v1, vi v2, vi v3, vi v4, vi v5, vr v6, vi v7, vi v8, v9, v10, v11, v12, v13, v14, v15, v16, v17, vr v18, vr v19, vi v20, vi v21, vi v22, vi v23, vi v24, vi v25, vr v26, vi v27, vi v28, vi v29, .unset, .unset, .unset, .unset, .unset, .unset]
abbrev la37 (v0 v1 v2 v3 v4 v5 : Int32) (v6 : Addr) (v7 v8 : Int32) (v9 v10 v11 v12 v13 v14 v15 v16 v17 : Slot) (v18 v19 : Addr) (v20 v21 v22 v23 v24 v25 : Int32) (v26 : Addr) (v27 v28 v29 v30 : Int32) : Array Slot := #[vi v0, vi v1, vi v2, vi v3, vi v4, vi v5, vr v6, vi v7, vi v8, v9, v10, v11, v12, v13, v14, v15, v16, v17, vr v18, vr v19, vi v20, vi v21, vi v22, vi v23, vi v24, vi v25, vr v26, vi v27, vi v28, vi v29, vi v30, .unset, .unset, .unset, .unset, .unset]
abbrev la38 (v0 v1 v2 v3 v4 v5 : Int32) (v6 : Addr) (v7 v8 : Int32) (v9 v10 v11 v12 v13 v14 v15 v16 v17 : Slot) (v18 v19 : Addr) (v20 v21 v22 v23 v24 v25 : Int32) (v26 : Addr) (v27 v28 v29 v30 v31 : Int32) : Array Slot := #[vi v0, vi v1, vi v2, vi v3, vi v4, vi v5, vr v6, vi v7, vi v8, v9, v10, v11, v12, v13, v14, v15, v16, v17, vr v18, vr v19, vi v20, vi v21, vi v22, vi v23, vi v24, vi v25, vr v26, vi v27, vi v28, vi v29, vi v30, vi v31, .unset, .unset, .unset, .unset]
abbrev la39 (v0 v1 v2 v3 v4 v5 : Int32) (v6 : Addr) (v7 v8 : Int32) (v9 v10 v11 v12 v13 v14 v15 v16 v17 : Slot) (v18 v19 : Addr) (v20 v21 v22 v23 v24 v25 : Int32) (v26 : Addr) (v27 v28 v29 v30 v31 v32 : Int32) : Array Slot := #[vi v0, vi v1, vi v2, vi v3, vi v4, vi v5, vr v6, vi v7, vi v8, v9, v10, v11, v12, v13, v14, v15, v16, v17, vr v18, vr v19, vi v20, vi v21, vi v22, vi v23, vi v24, vi v25, vr v26, vi v27, vi v28, vi v29, vi v30, vi v31, vi v32, .unset, .unset, .unset]
abbrev la40 (v0 v1 v2 v3 v4 v5 : Int32) (v6 : Addr) (v7 v8 v9 : Int32) (v10 : Slot) (v11 v12 v13 v14 v15 v16 v17 : Int32) (v18 v19 : Addr) (v20 v21 v22 v23 v24 v25 v26 v27 v28 : Int32) : Array Slot := #[vi v0, vi v1, vi v2, vi v3, vi v4, vi v5, vr v6, vi v7, vi v8, vi v9, v10, vi v11, vi v12, vi v13, vi v14, vi v15, vi v16, vi v17, vr v18, vr v19, vi v20, vi v21, vi v22, vi v23, vi v24, vi v25, vi v26, vi v27, vi v28, .unset, .unset, .unset, .unset, .unset, .unset, .unset]
abbrev la41 (v0 v1 v2 v3 v4 v5 : Int32) (v6 : Addr) (v7 v8 v9 : Int32) (v10 : Slot) (v11 v12 v13 v14 v15 v16 v17 : Int32) (v18 v19 : Addr) (v20 v21 v22 v23 v24 v25 v26 v27 v28 v29 : Int32) : Array Slot := #[vi v0, vi v1, vi v2, vi v3, vi v4, vi v5, vr v6, vi v7, vi v8, vi v9, v10, vi v11, vi v12, vi v13, vi v14, vi v15, vi v16, vi v17, vr v18, vr v19, vi v20, vi v21, vi v22, vi v23, vi v24, vi v25, vi v26, vi v27, vi v28, vi v29, .unset, .unset, .unset, .unset, .unset, .unset]
abbrev la42 (v0 v1 v2 v3 v4 v5 : Int32) (v6 : Addr) (v7 v8 v9 : Int32) (v10 : Slot) (v11 v12 v13 v14 v15 v16 v17 : Int32) (v18 v19 : Addr) (v20 v21 v22 v23 v24 v25 v26 v27 : Int32) : Array Slot := #[vi v0, vi v1, vi v2, vi v3, vi v4, vi v5, vr v6, vi v7, vi v8, vi v9, v10, vi v11, vi v12, vi v13, vi v14, vi v15, vi v16, vi v17, vr v18, vr v19, vi v20, vi v21, vi v22, vi v23, vi v24, vi v25, vi v26, vi v27, .unset, .unset, .unset, .unset, .unset, .unset, .unset, .unset]
abbrev la43 (v0 v1 v2 v3 v4 v5 : Int32) (v6 : Addr) (v7 v8 v9 : Int32) (v10 : Slot) (v11 v12 v13 v14 v15 v16 v17 : Int32) (v18 v19 : Addr) (v20 v21 v22 v23 v24 v25 : Int32) : Array Slot := #[vi v0, vi v1, vi v2, vi v3, vi v4, vi v5, vr v6, vi v7, vi v8, vi v9, v10, vi v11, vi v12, vi v13, vi v14, vi v15, vi v16, vi v17, vr v18, vr v19, vi v20, vi v21, vi v22, vi v23, vi v24, vi v25, .unset, .unset, .unset, .unset, .unset, .unset, .unset, .unset, .unset, .unset]
abbrev la44 (v0 v1 v2 v3 v4 v5 : Int32) (v6 : Addr) (v7 v8 v9 : Int32) (v10 : Slot) (v11 v12 v13 v14 v15 v16 v17 : Int32) (v18 v19 : Addr) (v20 v21 v22 v23 v24 v25 v26 : Int32) : Array Slot := #[vi v0, vi v1, vi v2, vi v3, vi v4, vi v5, vr v6, vi v7, vi v8, vi v9, v10, vi v11, vi v12, vi v13, vi v14, vi v15, vi v16, vi v17, vr v18, vr v19, vi v20, vi v21, vi v22, vi v23, vi v24, vi v25, vi v26, .unset, .unset, .unset, .unset, .unset, .unset, .unset, .unset, .unset]
abbrev la45 (v0 v1 v2 v3 v4 v5 : Int32) (v6 : Addr) (v7 v8 v9 : Int32) (v10 : Slot) (v11 v12 v13 v14 v15 v16 v17 : Int32) (v18 v19 : Addr) (v20 v21 v22 v23 v24 : Int32) : Array Slot := #[vi v0, vi v1, vi v2, vi v3, vi v4, vi v5, vr v6, vi v7, vi v8, vi v9, v10, vi v11, vi v12, vi v13, vi v14, vi v15, vi v16, vi v17, vr v18, vr v19, vi v20, vi v21, vi v22, vi v23, vi v24, .unset, .unset, .unset, .unset, .unset, .unset, .unset, .unset, .unset, .unset, .unset]
abbrev la46 (v0 v1 v2 v3 v4 v5 : Int32) (v6 : Addr) (v7 v8 v9 : Int32) (v10 : Slot) (v11 v12 v13 v14 v15 v16 v17 : Int32) (v18 : Addr) : Array Slot := #[vi v0, vi v1, vi v2, vi v3, vi v4, vi v5, vr v6, vi v7, vi v8, vi v9, v10, vi v11, vi v12, vi v13, vi v14, vi v15, vi v16, vi v17, vr v18, .unset, .unset, .unset, .unset, .unset, .unset, .unset, .unset, .unset, .unset, .unset, .unset, .unset, .unset, .unset, .unset, .unset]
abbrev la47 (v0 v1 v2 v3 v4 v5 : Int32) (v6 : Addr) (v7 v8 v9 : Int32) (v10 : Slot) (v11 v12 v13 v14 v15 v16 v17 : Int32) (v18 v19 : Addr) : Array Slot := #[vi v0, vi v1, vi v2, vi v3, vi v4, vi v5, vr v6, vi v7, vi v8, vi v9, v10, vi v11, vi v12, vi v13, vi v14, vi v15, vi v16, vi v17, vr v18, vr v19, .unset, .unset, .unset, .unset, .unset, .unset, .unset, .unset, .unset, .unset, .unset, .unset, .unset, .unset, .unset, .unset]
abbrev la48 (v0 v1 v2 v3 v4 v5 : Int32) (v6 : Addr) (v7 v8 v9 : Int32) (v10 : Slot) (v11 v12 v13 v14 v15 v16 v17 : Int32) (v18 v19 : Addr) (v20 : Int32) : Array Slot := #[vi v0, vi v1, vi v2, vi v3, vi v4, vi v5, vr v6, vi v7, vi v8, vi v9, v10, vi v11, vi v12, vi v13, vi v14, vi v15, vi v16, vi v17, vr v18, vr v19, vi v20, .unset, .unset, .unset, .unset, .unset, .unset, .unset, .unset, .unset, .unset, .unset, .unset, .unset, .unset, .unset]
abbrev la49 (v0 v1 v2 v3 v4 v5 : Int32) (v6 : Addr) (v7 v8 v9 : Int32) (v10 : Slot) (v11 v12 v13 v14 v15 v16 v17 : Int32) (v18 v19 : Addr) (v20 v21 : Int32) : Array Slot := #[vi v0, vi v1, vi v2, vi v3, vi v4, vi v5, vr v6, vi v7, vi v8, vi v9, v10, vi v11, vi v12, vi v13, vi v14, vi v15, vi v16, vi v17, vr v18, vr v19, vi v20, vi v21, .unset, .unset, .unset, .unset, .unset, .unset, .unset, .unset, .unset, .unset, .unset, .unset, .unset, .unset]
abbrev la50 (v0 v1 v2 v3 v4 v5 : Int32) (v6 : Addr) (v7 v8 v9 : Int32) (v10 : Slot) (v11 v12 v13 v14 v15 v16 v17 : Int32) (v18 v19 : Addr) (v20 v21 v22 : Int32) : Array Slot := #[vi v0, vi v1, vi v2, vi v3, vi v4, vi v5, vr v6, vi v7, vi v8, vi v9, v10, vi v11, vi v12, vi v13, vi v14, vi v15, vi v16, vi v17, vr v18, vr v19, vi v20, vi v21, vi v22, .unset, .unset, .unset, .unset, .unset, .unset, .unset, .unset, .unset, .unset, .unset, .unset, .unset]
abbrev la51 (v0 v1 v2 v3 v4 v5 : Int32) (v6 : Addr) (v7 v8 v9 : Int32) (v10 : Slot) (v11 v12 v13 v14 v15 v16 v17 : Int32) (v18 v19 : Addr) (v20 v21 v22 v23 : Int32) : Array Slot := #[vi v0, vi v1, vi v2, vi v3, vi v4, vi v5, vr v6, vi v7, vi v8, vi v9, v10, vi v11, vi v12, vi v13, vi v14, vi v15, vi v16, vi v17, vr v18, vr v19, vi v20, vi v21, vi v22, vi v23, .unset, .unset, .unset, .unset, .unset, .unset, .unset, .unset, .unset, .unset, .unset, .unset]
abbrev la52 (v0 v1 v2 v3 v4 v5 : Int32) (v6 : Addr) (v7 v8 v9 : Int32) (v10 : Slot) (v11 v12 v13 v14 : Int32) : Array Slot := #[vi v0, vi v1, vi v2, vi v3, vi v4, vi v5, vr v6, vi v7, vi v8, vi v9, v10, vi v11, vi v12, vi v13, vi v14, .unset, .unset, .unset, .unset, .unset, .unset, .unset, .unset, .unset, .unset, .unset, .unset, .unset, .unset, .unset, .unset, .unset, .unset, .unset, .unset, .unset]
abbrev la53 (v0 v1 v2 v3 v4 v5 : Int32) (v6 : Addr) (v7 v8 v9 : Int32) (v10 : Slot) (v11 v12 v13 v14 v15 : Int32) : Array Slot := #[vi v0, vi v1, vi v2, vi v3, vi v4, vi v5, vr v6, vi v7, vi v8, vi v9, v10, vi v11, vi v12, vi v13, vi v14, vi v15, .unset, .unset, .unset, .unset, .unset, .unset, .unset, .unset, .unset, .unset, .unset, .unset, .unset, .unset, .unset, .unset, .unset, .unset, .unset, .unset]
abbrev la54 (v0 v1 v2 v3 v4 v5 : Int32) (v6 : Addr) (v7 v8 v9 : Int32) (v10 : Slot) (v11 v12 v13 v14 v15 v16 : Int32) : Array Slot := #[vi v0, vi v1, vi v2, vi v3, vi v4, vi v5, vr v6, vi v7, vi v8, vi v9, v10, vi v11, vi v12, vi v13, vi v14, vi v15, vi v16, .unset, .unset, .unset, .unset, .unset, .unset, .unset, .unset, .unset, .unset, .unset, .unset, .unset, .unset, .unset, .unset, .unset, .unset, .unset]
abbrev la55 (v0 v1 v2 v3 v4 v5 : Int32) (v6 : Addr) (v7 v8 v9 : Int32) (v10 : Slot) (v11 v12 v13 v14 v15 v16 v17 : Int32) : Array Slot := #[vi v0, vi v1, vi v2, vi v3, vi v4, vi v5, vr v6, vi v7, vi v8, vi v9, v10, vi v11, vi v12, vi v13, vi v14, vi v15, vi v16, vi v17, .unset, .unset, .unset, .unset, .unset, .unset, .unset, .unset, .unset, .unset, .unset, .unset, .unset, .unset, .unset, .unset, .unset, .unset]
abbrev la56 (v0 v1 v2 v3 v4 v5 : Int32) (v6 : Addr) (v7 v8 v9 : Int32) (v10 : Slot) : Array Slot := #[vi v0, vi v1, vi v2, vi v3, vi v4, vi v5, vr v6, vi v7, vi v8, vi v9, v10, .unset, .unset, .unset, .unset, .unset, .unset, .unset, .unset, .unset, .unset, .unset, .unset, .unset, .unset, .unset, .unset, .unset, .unset, .unset, .unset, .unset, .unset, .unset, .unset, .unset]
abbrev la57 (v0 v1 v2 v3 v4 v5 : Int32) (v6 : Addr) (v7 v8 v9 : Int32) (v10 : Slot) (v11 : Int32) : Array Slot := #[vi v0, vi v1, vi v2, vi v3, vi v4, vi v5, vr v6, vi v7, vi v8, vi v9, v10, vi v11, .unset, .unset, .unset, .unset, .unset, .unset, .unset, .unset, .unset, .unset, .unset, .unset, .unset, .unset, .unset, .unset, .unset, .unset, .unset, .unset, .unset, .unset, .unset, .unset]
abbrev la58 (v0 v1 v2 v3 v4 v5 : Int32) (v6 : Addr) (v7 v8 v9 : Int32) (v10 : Slot) (v11 v12 : Int32) : Array Slot := #[vi v0, vi v1, vi v2, vi v3, vi v4, vi v5, vr v6, vi v7, vi v8, vi v9, v10, vi v11, vi v12, .unset, .unset, .unset, .unset, .unset, .unset, .unset, .unset, .unset, .unset, .unset, .unset, .unset, .unset, .unset, .unset, .unset, .unset, .unset, .unset, .unset, .unset, .unset]
abbrev la59 (v0 v1 v2 v3 v4 v5 : Int32) (v6 : Addr) (v7 v8 v9 : Int32) (v10 : Slot) (v11 v12 v13 : Int32) : Array Slot := #[vi v0, vi v1, vi v2, vi v3, vi v4, vi v5, vr v6, vi v7, vi v8, vi v9, v10, vi v11, vi v12, vi v13, .unset, .unset, .unset, .unset, .unset, .unset, .unset, .unset, .unset, .unset, .unset, .unset, .unset, .unset, .unset, .unset, .unset, .unset, .unset, .unset, .unset, .unset]
abbrev la60 (v0 v1 v2 v3 v4 v5 : Int32) (v6 : Addr) (v7 v8 v9 v10 : Int32) : Array Slot := #[vi v0, vi v1, vi v2, vi v3, vi v4, vi v5, vr v6, vi v7, vi v8, vi v9, vi v10, .unset, .unset, .unset, .unset, .unset, .unset, .unset, .unset, .unset, .unset, .unset, .unset, .unset, .unset, .unset, .unset, .unset, .unset, .unset, .unset, .unset, .unset, .unset, .unset, .unset]
abbrev la61 (v0 v1 v2 v3 v4 v5 : Int32) (v6 : Addr) (v7 v8 : Int32) : Array Slot := #[vi v0, vi v1, vi v2, vi v3, vi v4, vi v5, vr v6, vi v7, vi v8, .unset, .unset, .unset, .unset, .unset, .unset, .unset, .unset, .unset, .unset, .unset, .unset, .unset, .unset, .unset, .unset, .unset, .unset, .unset, .unset, .unset, .unset, .unset, .unset, .unset, .unset, .unset]
abbrev la62 (v0 v1 v2 v3 v4 v5 : Int32) (v6 : Addr) (v7 v8 v9 : Int32) : Array Slot := #[vi v0, vi v1, vi v2, vi v3, vi v4, vi v5, vr v6, vi v7, vi v8, vi v9, .unset, .unset, .unset, .unset, .unset, .unset, .unset, .unset, .unset, .unset, .unset, .unset, .unset, .unset, .unset, .unset, .unset, .unset, .unset, .unset, .unset, .unset, .unset, .unset, .unset, .unset]
abbrev la63 (v0 v1 v2 v3 v4 v5 : Int32) : Array Slot := #[vi v0, vi v1, vi v2, vi v3, vi v4, vi v5, .unset, .unset, .unset, .unset, .unset, .unset, .unset, .unset, .unset, .unset, .unset, .unset, .unset, .unset, .unset, .unset, .unset, .unset, .unset, .unset, .unset, .unset, .unset, .unset, .unset, .unset, .unset, .unset, .unset, .unset]
abbrev la64 (v0 v1 v2 v3 v4 v5 : Int32) (v6 : Addr) : Array Slot := #[vi v0, vi v1, vi v2, vi v3, vi v4, vi v5, vr v6, .unset, .unset, .unset, .unset, .unset, .unset, .unset, .unset, .unset, .unset, .unset, .unset, .unset, .unset, .unset, .unset, .unset, .unset, .unset, .unset, .unset, .unset, .unset, .unset, .unset, .unset, .unset, .unset, .unset]
abbrev la65 (v0 v1 v2 v3 v4 v5 : Int32) (v6 : Addr) (v7 : Int32) : Array Slot := #[vi v0, vi v1, vi v2, vi v3, vi v4, vi v5, vr v6, vi v7, .unset, .unset, .unset, .unset, .unset, .unset, .unset, .unset, .unset, .unset, .unset, .unset, .unset, .unset, .unset, .unset, .unset, .unset, .unset, .unset, .unset, .unset, .unset, .unset, .unset, .unset, .unset, .unset]
section OwnTxt
variable {Z : State} {h h' : Heap} {a b : Addr} {k : ClassId} {n : Int32} {pre : List Int32}
/-- the byte array a begins with pre -/
def Txt (Z : State) (h : Heap) (a : Addr) (k : ClassId) (n : Int32) (pre : List Int32) : Prop := ∃ bs : List Int32, Arv Z h a k .byte n (bs.map Value.int) (.int (0 : Int32)) ∧ n.toNatClampNeg = bs.length ∧ bs.take pre.length = pre
theorem Txt.lt (F : Txt Z h a k n pre) : a < h.size := by obtain ⟨bs, A, -⟩ := F; exact A.lt
theorem Txt.ext (F : Txt Z h a k n pre) (E : Ext h h') : Txt Z h' a k n pre := by obtain ⟨bs, A, r⟩ := F; exact ⟨bs, A.ext E, r⟩
theorem Txt.other {sl : Nat} {v : Value} (F : Txt Z h b k n pre) (W : Wr h h' a sl v) (q : b ≠ a) : Txt Z h' b k n pre := by obtain ⟨bs, A, r⟩ := F; exact ⟨bs, A.other W q, r⟩
theorem Txt.keep {ws : List Addr} (F : Txt Z h a k n pre) (K : Keep h h' ws) (q : a ∉ ws) : Txt Z h' a k n pre := by obtain ⟨bs, A, r⟩ := F; exact ⟨bs, A.keep K q, r⟩
theorem own_mapget (bs : List Int32) (i : Nat) : (bs.map Value.int).getD i (.int (0 : Int32)) = .int (bs.getD i 0) := by
  simp only [List.getD_eq_getElem?_getD, List.getElem?_map]
  cases bs[i]? <;> rfl
theorem own_ofNat {i : Nat} (h : i < 2147483648) : (Int32.ofNat i).toInt = i := Int32.toInt_ofNat_of_lt h
theorem own_clamp {i : Nat} (h : i < 2147483648) : (Int32.ofNat i).toNatClampNeg = i := by
  unfold Int32.toNatClampNeg; rw [own_ofNat h]; rfl
theorem own_n31 (x : Int32) : x.toNatClampNeg < 2147483648 := by
  unfold Int32.toNatClampNeg; have := rng32 x; omega
theorem own_takeget {bs pre : List Int32} {i : Nat} (h : bs.take pre.length = pre) (hi : i < pre.length) : bs.getD i 0 = pre.getD i 0 := by
  have e : pre[i]? = bs[i]? := by rw [← h, List.getElem?_take_of_lt hi]
  simp only [List.getD_eq_getElem?_getD, e]
theorem Txt.len (F : Txt Z h a k n pre) : pre.length ≤ n.toNatClampNeg := by
  obtain ⟨bs, -, e, t⟩ := F
  have := congrArg List.length t
  rw [List.length_take] at this
  omega
theorem Txt.at (F : Txt Z h a k n pre) {j : Int32} {i : Nat} (hj : j = Int32.ofNat i) (hi : i < pre.length) : ∃ cl : Cell, Arr Z h a cl .byte ∧ ¬ (j < 0 ∨ cl.slots.size ≤ j.toNatClampNeg) ∧ cl.slots[j.toNatClampNeg]? = some (.int (pre.getD i 0)) := by
  have hl := F.len
  have h31 := own_n31 n
  obtain ⟨bs, ⟨cl, A, q, S, N, H, G⟩, e, t⟩ := F
  have hj' : j.toNatClampNeg = i := by rw [hj]; exact own_clamp (by omega)
  have hin : ¬ (j < 0 ∨ cl.slots.size ≤ j.toNatClampNeg) := by
    rw [hj', S]
    rintro (q | q)
    · rw [Int32.lt_iff_toInt_lt, hj, own_ofNat (by omega)] at q
      have : (0 : Int32).toInt = 0 := by decide
      omega
    · omega
  refine ⟨cl, A, hin, Has.at H hin ?_⟩
  rw [hj', own_mapget, own_takeget t hi]
theorem own_settake {bs pre : List Int32} {x : Int32} (h : bs.take pre.length = pre) (hl : pre.length < bs.length) : (bs.set pre.length x).take (pre ++ [x]).length = pre ++ [x] := by
  have e : (bs.set pre.length x) = bs.take pre.length ++ x :: bs.drop (pre.length + 1) := List.set_eq_take_append_cons_drop ▸ (if_pos hl)
  rw [e, h, List.length_append, List.length_singleton]
  rw [List.take_append, List.take_of_length_le (Nat.le_succ _)]
  simp
/-- a byte is laid behind the text -/
theorem Txt.store (F : Txt Z h a k n pre) {j x : Int32} (hj : j = Int32.ofNat pre.length) (hi : pre.length < n.toNatClampNeg) : ∃ cl : Cell, Arr Z h a cl .byte ∧ ¬ (j < 0 ∨ cl.slots.size ≤ j.toNatClampNeg) ∧ ∀ {h' : Heap}, Wr h h' a j.toNatClampNeg (.int x.toInt8.toInt32) → Txt Z h' a k n (pre ++ [x.toInt8.toInt32]) := by
  have h31 := own_n31 n
  obtain ⟨bs, ⟨cl, A, q, S, N, H, G⟩, e, t⟩ := F
  have hj' : j.toNatClampNeg = pre.length := by rw [hj]; exact own_clamp (by omega)
  refine ⟨cl, A, ?_, fun {h'} W => ⟨bs.set pre.length x.toInt8.toInt32, ?_, by rw [List.length_set]; exact e, own_settake t (by omega)⟩⟩
  · rw [hj', S]
    rintro (q | q)
    · rw [Int32.lt_iff_toInt_lt, hj, own_ofNat (by omega)] at q
      have : (0 : Int32).toInt = 0 := by decide
      omega
    · omega
  · rw [List.map_set]
    exact Arv.set A q S N H G (fits_nar_byte _) W pre.length hj' (by rw [List.length_map]; omega)
/-- a byte is laid anywhere, nothing is known of the text -/
theorem Txt.any (F : Txt Z h a k n []) {j x : Int32} (hj : ¬ j < 0 ∧ j < n) : ∃ cl : Cell, Arr Z h a cl .byte ∧ ¬ (j < 0 ∨ cl.slots.size ≤ j.toNatClampNeg) ∧ ∀ {h' : Heap}, Wr h h' a j.toNatClampNeg (.int x.toInt8.toInt32) → Txt Z h' a k n [] := by
  obtain ⟨bs, ⟨cl, A, q, S, N, H, G⟩, e, t⟩ := F
  have hin := inb_of S hj
  refine ⟨cl, A, hin, fun {h'} W => ⟨bs.set j.toNatClampNeg x.toInt8.toInt32, ?_, by rw [List.length_set]; exact e, rfl⟩⟩
  rw [List.map_set]
  exact Arv.set A q S N H G (fits_nar_byte _) W _ rfl (by rw [List.length_map, ← e, ← S]; exact Nat.lt_of_not_le fun z => hin (Or.inr z))
theorem own_pos (pre : List Int32) (x : Int32) : Int32.ofNat pre.length + (1 : Int32) = Int32.ofNat (pre ++ [x]).length := by
  rw [List.length_append, List.length_singleton, show (1 : Int32) = Int32.ofNat 1 from rfl, Int32.ofNat_add]
/-- the first place from i on at which P holds; the length if there is none -/
def own_find (P : Int32 → Bool) (pre : List Int32) (i : Nat) : Nat := i + (pre.drop i).findIdx P
theorem own_find_end (P : Int32 → Bool) (pre : List Int32) : own_find P pre pre.length = pre.length := by unfold own_find; simp
theorem own_find_yes {P : Int32 → Bool} {pre : List Int32} {i : Nat} (hi : i < pre.length) (h : P (pre.getD i 0) = true) : own_find P pre i = i := by
  unfold own_find
  rw [List.drop_eq_getElem_cons hi, List.findIdx_cons]
  have e : pre.getD i 0 = pre[i] := by simp [List.getD_eq_getElem?_getD, hi]
  rw [← e, h]; simp
theorem own_find_no {P : Int32 → Bool} {pre : List Int32} {i : Nat} (hi : i < pre.length) (h : P (pre.getD i 0) = false) : own_find P pre i = own_find P pre (i + 1) := by
  unfold own_find
  rw [List.drop_eq_getElem_cons hi, List.findIdx_cons]
  have e : pre.getD i 0 = pre[i] := by simp [List.getD_eq_getElem?_getD, hi]
  rw [← e, h]; simp; omega
theorem own_find_le (P : Int32 → Bool) {pre : List Int32} {i : Nat} (hi : i ≤ pre.length) : own_find P pre i ≤ pre.length := by
  unfold own_find
  have := List.findIdx_le_length (p := P) (xs := pre.drop i)
  rw [List.length_drop] at this; omega
theorem own_find_ge (P : Int32 → Bool) (pre : List Int32) (i : Nat) : i ≤ own_find P pre i := Nat.le_add_right _ _
theorem own_succ (i : Nat) : Int32.ofNat i + (1 : Int32) = Int32.ofNat (i + 1) := by
  rw [show (1 : Int32) = Int32.ofNat 1 from rfl, Int32.ofNat_add]
theorem own_natlt {i j : Nat} (hi : i < 2147483648) (hj : j < 2147483648) : Int32.ofNat i < Int32.ofNat j ↔ i < j := by
  rw [Int32.lt_iff_toInt_lt, own_ofNat hi, own_ofNat hj]; omega
end OwnTxt
theorem own_snT {Z : State} {h : Heap} {a : Addr} {k : ClassId} {n : Int32} {pre : List Int32} {ws : List Addr} (F : Txt Z h a k n pre) (r : OwnNoSta h ws) : OwnNoSta h (a :: ws) := by obtain ⟨bs, A, -⟩ := F; exact own_snV A r
section OwnStT
variable {p : Program} {l : Launch} {e : Env} {R : Jvm.Room} {s : State} {m : MethodId} {args : Array Value} {below : List Frame} {meth : Method} {c : Code} {T : State} {locs : List Loc} {cells slots : Nat} {Z : State} {h : Heap} {a : Addr} {k : ClassId} {n j x : Int32} {pre : List Int32} {g : JFrame} {rest : List Value}
theorem own_stT (X : Stand p l e R s m args below meth c T locs cells slots) (hx : p.tables.exec = Jvm.exec) (hZ : Z.Warmed39 s.vm) (eT : T.heap = h) (F : Txt Z h a k n pre) (hj : j = Int32.ofNat pre.length) (hi : pre.length < n.toNatClampNeg) (hg : g.method = m) (hs : g.stack = .int x :: .int j :: .ref a :: rest) (hd : decode c.code g.pc = .ok (.bastore, 1)) :
    ∃ T' h', Stand p l e R s m args below meth c T' (locs ++ [⟨a, j.toNatClampNeg⟩]) cells slots ∧ T'.heap = h' ∧ Wr h h' a j.toNatClampNeg (.int (nar .byte x)) ∧ Txt Z h' a k n (pre ++ [x.toInt8.toInt32]) ∧ ∀ t, Steps p.tables e below (T'.setTop { g with pc := g.pc + 1, stack := rest }) t → Steps p.tables e below (T.setTop g) t := by
  obtain ⟨cl, A, hin, G⟩ := Txt.store F (x := x) (j := j) hj hi
  obtain ⟨T', h', X', e', W, st⟩ := stB X hx hZ eT A hin hg hs hd
  exact ⟨T', h', X', e', W, G W, st⟩
theorem own_stA (X : Stand p l e R s m args below meth c T locs cells slots) (hx : p.tables.exec = Jvm.exec) (hZ : Z.Warmed39 s.vm) (eT : T.heap = h) (F : Txt Z h a k n []) (hj : ¬ j < 0 ∧ j < n) (hg : g.method = m) (hs : g.stack = .int x :: .int j :: .ref a :: rest) (hd : decode c.code g.pc = .ok (.bastore, 1)) :
    ∃ T' h', Stand p l e R s m args below meth c T' (locs ++ [⟨a, j.toNatClampNeg⟩]) cells slots ∧ T'.heap = h' ∧ Wr h h' a j.toNatClampNeg (.int (nar .byte x)) ∧ Txt Z h' a k n [] ∧ ∀ t, Steps p.tables e below (T'.setTop { g with pc := g.pc + 1, stack := rest }) t → Steps p.tables e below (T.setTop g) t := by
  obtain ⟨cl, A, hin, G⟩ := Txt.any F (x := x) (j := j) hj
  obtain ⟨T', h', X', e', W, st⟩ := stB X hx hZ eT A hin hg hs hd
  exact ⟨T', h', X', e', W, G W, st⟩
end OwnStT
section OwnCopy
variable {p : Program} {l : Launch} {e : Env} {R : Room} {s : State} {m : MethodId} {args : Array Value} {below : List Frame} {meth : Method} {c : Code} {T : State} {locs : List Loc} {cells slots : Nat} {Z : State} {h : Heap}
/-- System.arraycopy of n bytes of a text into a new array of n places -/
theorem own_acopy (X : Stand p l e R s m args below meth c T locs cells slots) (hx : p.tables.exec = Jvm.exec) (hZ : Z.Warmed39 s.vm) {a0 : Array Value} {own : String} {index : Nat} (hown : s.vm.findClass own = some m.cls) (w1 : (Cond.methodLink own index acN).before a0 Z = true) (w2 : (Cond.native acN).before a0 Z = true) (w3 : (Cond.static acN).before a0 Z = true) (w4 : (Cond.initialized "java/lang/System").before a0 Z = true)
    (eT : T.heap = h) {src dst : Addr} {ks kd : ClassId} {ns : Int32} {pre : List Int32} {vs0 : List Value} {o n : Nat} (Fs : Txt Z h src ks ns pre) (Fd : Arv Z h dst kd .byte (Int32.ofNat n) vs0 (.int (0 : Int32))) (hne : src ≠ dst) (hon : o + n ≤ pre.length)
    {g : JFrame} (hg : g.method = m) (hsize : g.locals.size = c.maxLocals) {rest : List Value} (hstack : g.stack = .int (Int32.ofNat n) :: .int (0 : Int32) :: .ref dst :: .int (Int32.ofNat o) :: .ref src :: rest) (hdg : decode c.code g.pc = .ok (.invokestatic index, 3))
    (hframes : 1 ≤ R.frames) (hlocals : 2 * g.monitorRoom + (rest.map fun v => v.category).sum + (nativeFrameWords "java/lang/System" "arraycopy" 5 + 11) ≤ R.locals) :
    ∃ (T' : State) (h' : Heap), Stand p l e R s m args below meth c T' (locs ++ copyLocs dst 0 n) cells slots ∧ T'.heap = h' ∧ Keep h h' [dst] ∧ Arv Z h' dst kd .byte (Int32.ofNat n) (((pre.drop o).take n).map Value.int) (.int (0 : Int32)) ∧
      ∀ target, Steps p.tables e below (T'.setTop { g with pc := g.pc + 3, stack := rest }) target → Steps p.tables e below (T.setTop g) target := by
  have hl := Fs.len
  have h31 := own_n31 ns
  obtain ⟨bs, ⟨cs, As, qs, Ss, Ns, Hs, Gs⟩, es, ts⟩ := Fs
  obtain ⟨cd, Ad, qd, Sd, Nd, Hd, Gd⟩ := Fd
  obtain ⟨hs1, kS, hkS, cS, kindS⟩ := As.2.1
  obtain ⟨hd1, kD, hkD, cD, kindD⟩ := Ad.2.1
  obtain ⟨kS', hkS', eS⟩ := hZ.alike.2.2 _ _ hkS
  obtain ⟨kD', hkD', eD⟩ := hZ.alike.2.2 _ _ hkD
  have on : (Int32.ofNat n).toNatClampNeg = n := own_clamp (by omega)
  have oo : (Int32.ofNat o).toNatClampNeg = o := own_clamp (by omega)
  have tn : (Int32.ofNat n).toInt = n := own_ofNat (by omega)
  have to' : (Int32.ofNat o).toInt = o := own_ofNat (by omega)
  have e0 : (0 : Int32).toInt = 0 := by decide
  have c0 : (0 : Int32).toNatClampNeg = 0 := by decide
  have hsz : cs.slots.size = bs.length := by rw [Ss, es]
  have hdz : cd.slots.size = n := by rw [Sd, on]
  have hbl : pre.length ≤ bs.length := by rw [← es]; exact hl
  have val : ∀ i, i < n → cs.slots.getD (o + i) .null = .int (pre.getD (o + i) 0) := fun i hi => by
    have q := Hs (o + i) (by omega)
    rw [own_mapget, own_takeget ts (by omega)] at q
    have hlt : o + i < cs.slots.size := by omega
    simp only [Array.getD_eq_getD_getElem?, q, Option.getD_some]
  have fit : ∀ i, i < n → fits .byte (.int (pre.getD (o + i) 0)) = true := fun i hi => by
    have q := Gs (o + i) (by omega)
    rw [own_mapget, own_takeget ts (by omega)] at q
    exact q
  obtain ⟨vm₁, hW, X', st⟩ := X.arraycopyK hx hown (mvT hZ w1) (mvT hZ w2) (mvT hZ w3) (mvT hZ w4) (src := src) (dst := dst) (srcPos := Int32.ofNat o) (destPos := (0 : Int32)) (n := Int32.ofNat n) (cs := cs) (cd := cd) (sType := .byte) (dType := .byte) (by rw [eT]; exact As.1) (by rw [eT]; exact Ad.1) hs1 hd1 As.2.2 Ad.2.2 hkS' hkD' (by rw [eS]; exact kindS) (by rw [eD]; exact kindD) rfl
    (by rw [Int32.lt_iff_toInt_lt, to', e0]; omega) (by decide) (by rw [Int32.lt_iff_toInt_lt, tn, e0]; omega) (by rw [to', tn]; omega) (by rw [e0, tn]; omega)
    (fun vm1 _ i hi => by rw [on] at hi; rw [oo, val i hi]; exact ⟨fit i hi, trivial⟩) (g := g) hg hsize hstack hdg hframes hlocals
  rw [c0, on] at X'
  have hin : (0 : Nat) + (cs.stretch o n).length ≤ cd.slots.size := by simp [Cell.stretch]; omega
  have hf := Cell.storeRun_facts cd 0 (cs.stretch o n)
  have hce : copied cs cd (Int32.ofNat o) 0 (Int32.ofNat n) = cd.storeRun 0 (cs.stretch o n) := by show cd.storeRun _ (cs.stretch _ _) = _; rw [c0, oo, on]
  have hh : ((T.setVm vm₁).setCell dst (copied cs cd (Int32.ofNat o) 0 (Int32.ofNat n))).heap = h.setIfInBounds dst (cd.storeRun 0 (cs.stretch o n)) := by rw [hce, ← eT]; rfl
  have hdl : dst < h.size := Ad.lt
  have hget : (h.setIfInBounds dst (cd.storeRun 0 (cs.stretch o n)))[dst]? = some (cd.storeRun 0 (cs.stretch o n)) := by rw [Array.getElem?_setIfInBounds_self_of_lt hdl]
  have sval : ∀ i, i < n → (cd.storeRun 0 (cs.stretch o n)).slots[i]? = some (.int (pre.getD (o + i) 0)) := fun i hi => by
    rw [Cell.storeRun_get cd 0 (cs.stretch o n) i hin, if_pos (by simp [Cell.stretch]; omega)]
    have q := val i hi
    simp only [Array.getD_eq_getD_getElem?, List.getD_eq_getElem?_getD] at q
    simp [Cell.stretch, hi, q]
  have lval : ∀ i, i < n → (((pre.drop o).take n).map Value.int).getD i (.int (0 : Int32)) = .int (pre.getD (o + i) 0) := fun i hi => by
    rw [own_mapget]
    simp only [List.getD_eq_getElem?_getD, List.getElem?_take_of_lt hi, List.getElem?_drop]
  refine ⟨_, _, X', hh, ⟨by simp, fun x cx hcx hnx => ?_, fun x cx hcx => ?_⟩, ⟨cd.storeRun 0 (cs.stretch o n), ⟨hget, ?_, ?_⟩, hf.1.trans qd, by rw [hf.2.2.1, hdz, on], Nd, fun i hi => ?_, fun i hi => ?_⟩, st⟩
  · rw [Array.getElem?_setIfInBounds_ne (fun q => hnx (by rw [← q]; exact List.mem_singleton.mpr rfl))]; exact hcx
  · by_cases q : dst = x
    · subst q
      cases Ad.1.symm.trans hcx
      exact ⟨_, hget, hf.1, hf.2.1, hf.2.2.1⟩
    · exact ⟨cx, by rw [Array.getElem?_setIfInBounds_ne q]; exact hcx, rfl, rfl, rfl⟩
  · exact ⟨fun k => by rw [hf.2.1]; exact hd1 k, kD, by rw [hf.1]; exact hkD, cD, kindD⟩
  · rw [hf.2.1]; exact Ad.2.2
  · rw [hf.2.2.1, hdz] at hi
    rw [sval i hi, lval i hi]
  · rw [hf.2.2.1, hdz] at hi
    rw [lval i hi]; exact fit i hi
end OwnCopy
def own_b (b : Bool) : Int32 := if b then 1 else 0
def own_isp (x : Int32) : Bool := decide (x = 32) || decide (x = 9) || decide (x = 10) || decide (x = 13)
def own_en (x : Int32) : Bool := decide (x = 9) || decide (x = 10) || decide (x = 13) || decide (x = 32) || decide (x = 47) || decide (x = 61) || decide (x = 62)
theorem own_p31 {Z : State} {h : Heap} {a : Addr} {k : ClassId} {n : Int32} {pre : List Int32} (F : Txt Z h a k n pre) : pre.length < 2147483648 := Nat.lt_of_le_of_lt F.len (own_n31 n)
theorem own_z7 {Z : State} {h : Heap} {a : Addr} {k : ClassId} {n : Int32} {pre : List Int32} (F : Txt Z h a k n pre) {i : Nat} (hk : i + 0 = pre.length) : ¬ Int32.ofNat i < Int32.ofNat pre.length := by
  have := own_p31 F
  rw [own_natlt (by omega) (by omega)]; omega
theorem own_s7 {Z : State} {h : Heap} {a : Addr} {k : ClassId} {n : Int32} {pre : List Int32} (F : Txt Z h a k n pre) {i kk : Nat} (hk : i + (kk + 1) = pre.length) : Int32.ofNat i < Int32.ofNat pre.length := by
  have := own_p31 F
  rw [own_natlt (by omega) (by omega)]; omega
/-- what indexOf answers -/
def own_ix (pre : List Int32) (b : Int32) (i : Nat) : Int32 := if own_find (fun x => decide (x = b)) pre i < pre.length then Int32.ofNat (own_find (fun x => decide (x = b)) pre i) else -1
theorem own_ixz {pre : List Int32} {b : Int32} {i i0 : Nat} (hk : i + 0 = pre.length) (hf : own_find (fun x => decide (x = b)) pre i = own_find (fun x => decide (x = b)) pre i0) : own_ix pre b i0 = -1 := by
  unfold own_ix
  rw [← hf, show i = pre.length by omega, own_find_end, if_neg (Nat.lt_irrefl _)]
theorem own_ixs {pre : List Int32} {b : Int32} {i i0 : Nat} (hi : i < pre.length) (h : decide (pre.getD i 0 = b) = true) (hf : own_find (fun x => decide (x = b)) pre i = own_find (fun x => decide (x = b)) pre i0) : own_ix pre b i0 = Int32.ofNat i := by
  unfold own_ix
  rw [← hf, own_find_yes (P := fun x => decide (x = b)) hi h, if_pos hi]
theorem own_en_neg {x : Int32} (h : x < (0 : Int32)) : own_en x = false := by
  rw [Int32.lt_iff_toInt_lt] at h
  unfold own_en
  simp only [Bool.or_eq_false_iff, decide_eq_false_iff_not]
  have e0 : (0 : Int32).toInt = 0 := by decide
  refine ⟨⟨⟨⟨⟨⟨?_, ?_⟩, ?_⟩, ?_⟩, ?_⟩, ?_⟩, ?_⟩ <;> (rintro rfl; revert h; decide)
theorem own_en_big {x : Int32} (h : ¬ x < (64 : Int32)) : own_en x = false := by
  unfold own_en
  simp only [Bool.or_eq_false_iff, decide_eq_false_iff_not]
  refine ⟨⟨⟨⟨⟨⟨?_, ?_⟩, ?_⟩, ?_⟩, ?_⟩, ?_⟩, ?_⟩ <;> (rintro rfl; revert h; decide)
abbrev own_enm (x : Int32) : Int32 := lcmpW ((((6917669769424414208 : Int64).toUInt64 >>> (x &&& 0x3f).toInt64.toUInt64).toInt64) &&& (1 : Int64)) (0 : Int64)
theorem own_en64 : ∀ i : Fin 64, own_en (Int32.ofNat i.1) = !decide (own_enm (Int32.ofNat i.1) = (0 : Int32)) := by decide +kernel
theorem own_en_all {x : Int32} (h0 : ¬ x < (0 : Int32)) (h1 : x < (64 : Int32)) : own_en x = !decide (own_enm x = (0 : Int32)) := by
  rw [Int32.lt_iff_toInt_lt] at h0 h1
  have e0 : (0 : Int32).toInt = 0 := by decide
  have e1 : (64 : Int32).toInt = 64 := by decide
  have e : x = Int32.ofNat x.toInt.toNat := Int32.toInt_inj.mp (by rw [own_ofNat (by omega)]; omega)
  have := own_en64 ⟨x.toInt.toNat, by omega⟩
  rw [← e] at this; exact this
theorem own_en_f {x : Int32} (h0 : ¬ x < (0 : Int32)) (h1 : x < (64 : Int32)) (h2 : own_enm x = (0 : Int32)) : own_en x = false := by rw [own_en_all h0 h1, h2]; rfl
theorem own_en_t {x : Int32} (h0 : ¬ x < (0 : Int32)) (h1 : x < (64 : Int32)) (h2 : ¬ own_enm x = (0 : Int32)) : own_en x = true := by rw [own_en_all h0 h1, decide_eq_false h2]; rfl
theorem own_b0 {b : Bool} (h : own_b b = (0 : Int32)) : b = false := by cases b <;> first | rfl | (revert h; decide)
theorem own_b1 {b : Bool} (h : ¬ own_b b = (0 : Int32)) : b = true := by cases b <;> first | rfl | (exact absurd rfl h)
theorem own_isp1 {x : Int32} (h : ¬ own_b (own_isp x) = (0 : Int32)) : (!own_isp x) = false := by rw [own_b1 h]; rfl
theorem own_isp0 {x : Int32} (h : own_b (own_isp x) = (0 : Int32)) : (!own_isp x) = true := by rw [own_b0 h]; rfl
theorem own_fz {P : Int32 → Bool} {pre : List Int32} {i : Nat} (hk : i + 0 = pre.length) : own_find P pre i = i := by rw [show i = pre.length by omega, own_find_end]
theorem own_ba {Z : State} {h : Heap} {a : Addr} {k : ClassId} {n : Int32} {pre : List Int32} (F : Txt Z h a k n pre) {i : Nat} (hk : i + 1 < pre.length) : Int32.ofNat i + (1 : Int32) < Int32.ofNat pre.length := by
  have := own_p31 F
  rw [own_succ, own_natlt (by omega) (by omega)]; omega
theorem own_ix0 {pre : List Int32} (h : pre.getD 0 0 = 60) : own_ix pre (60 : Int32) 0 = (0 : Int32) := by
  have hl : 0 < pre.length := by
    cases pre with
    | nil => revert h; decide
    | cons _ _ => simp
  unfold own_ix
  rw [own_find_yes (P := fun x => decide (x = 60)) hl (decide_eq_true h), if_pos hl]; rfl
theorem own_neL {Z : State} {h : Heap} {a : Addr} {k : ClassId} {n : Int32} {pre : List Int32} (F : Txt Z h a k n pre) {i : Nat} (hi : i < pre.length) : ¬ Int32.ofNat i = Int32.ofNat pre.length := fun q => by
  have := own_p31 F
  have e := congrArg Int32.toInt q
  rw [own_ofNat (by omega), own_ofNat (by omega)] at e
  omega
theorem own_ltne {Z : State} {h : Heap} {a : Addr} {k : ClassId} {n : Int32} {pre : List Int32} (F : Txt Z h a k n pre) {i : Nat} (hi : i ≤ pre.length) (hn : ¬ Int32.ofNat i = Int32.ofNat pre.length) : i < pre.length := by
  rcases Nat.lt_or_eq_of_le hi with h | h
  · exact h
  · exact absurd (by rw [h]) hn
theorem own_or3 {A B D : Prop} (h : A ∨ B ∨ D) (a : ¬ A) (b : ¬ B) : D := (h.resolve_left a).resolve_left b
theorem own_or2 {A B : Prop} (h : A ∨ ¬ B) (a : ¬ A) : ¬ B := h.resolve_left a
theorem own_orq {A B D : Prop} (h : A ∨ (B ∧ D)) (a : ¬ A) : B ∧ D := h.resolve_left a
theorem own_nn31 {Z : State} {h : Heap} {a : Addr} {k : ClassId} {n : Int32} {pre : List Int32} (F : Txt Z h a k n pre) {i : Nat} (hi : i ≤ pre.length) : ¬ Int32.ofNat i < (0 : Int32) := by
  have := own_p31 F
  rw [Int32.lt_iff_toInt_lt, own_ofNat (by omega)]
  have : (0 : Int32).toInt = 0 := by decide
  omega
theorem own_1lt {Z : State} {h : Heap} {a : Addr} {k : ClassId} {n : Int32} {pre : List Int32} (F : Txt Z h a k n pre) {g : Nat} (hg : 1 < g) (hl : g < pre.length) : (1 : Int32) < Int32.ofNat g := by
  have := own_p31 F
  rw [show (1 : Int32) = Int32.ofNat 1 from rfl, own_natlt (by omega) (by omega)]; exact hg
theorem own_pred {g : Nat} (h : 1 ≤ g) : Int32.ofNat g - (1 : Int32) = Int32.ofNat (g - 1) := by
  have e := own_succ (g - 1)
  rw [show g - 1 + 1 = g by omega] at e
  rw [← e, Int32.add_sub_cancel]
theorem own_add0 (x : Int32) : x + (0 : Int32) = x := Int32.add_zero x
theorem own_plus2 (i : Nat) : Int32.ofNat i + (2 : Int32) = Int32.ofNat (i + 2) := by rw [show (2 : Int32) = Int32.ofNat 2 from rfl, Int32.ofNat_add]
theorem own_sw1 {Z : State} {h : Heap} {a : Addr} {k : ClassId} {n : Int32} {pre : List Int32} (F : Txt Z h a k n pre) (hn : n.toNatClampNeg < 1000) {i : Nat} (hi : i ≤ pre.length) (hc : ¬ Int32.ofNat pre.length < Int32.ofNat i + (2 : Int32)) : i + 1 < pre.length := by
  have hl := F.len
  rw [own_plus2, own_natlt (by omega) (by omega)] at hc; omega
theorem own_sw0 {Z : State} {h : Heap} {a : Addr} {k : ClassId} {n : Int32} {pre : List Int32} (F : Txt Z h a k n pre) (hn : n.toNatClampNeg < 1000) {i : Nat} (hi : i ≤ pre.length) (hc : ¬ Int32.ofNat pre.length < Int32.ofNat i + (2 : Int32)) : i < pre.length := Nat.lt_of_succ_lt (own_sw1 F hn hi hc)
theorem own_subn (a n : Nat) : Int32.ofNat (a + n) - Int32.ofNat a = Int32.ofNat n := by
  rw [Int32.ofNat_add, Int32.add_comm, Int32.add_sub_cancel]
theorem own_rc1 {Z : State} {h : Heap} {a : Addr} {k : ClassId} {n : Int32} {pre : List Int32} (F : Txt Z h a k n pre) {i d : Nat} (hl : i + d ≤ pre.length) : ¬ Int32.ofNat (i + d) < Int32.ofNat i := by
  have := own_p31 F
  rw [own_natlt (by omega) (by omega)]; omega
theorem own_rc3 {Z : State} {h : Heap} {a : Addr} {k : ClassId} {n : Int32} {pre : List Int32} (F : Txt Z h a k n pre) {i : Nat} (hl : i ≤ pre.length) : ¬ n < Int32.ofNat i := by
  have h1 := own_p31 F
  have h2 := F.len
  obtain ⟨bs, ⟨cl, A, q, S, N, H, G⟩, e, t⟩ := F
  rw [Int32.lt_iff_toInt_lt] at N
  have e0 : (0 : Int32).toInt = 0 := by decide
  rw [Int32.lt_iff_toInt_lt, own_ofNat (by omega)]
  unfold Int32.toNatClampNeg at h2
  omega
def own_count (p : Int32) : Int32 := (p &&& (1 : Int32)) + (((p.toUInt32 >>> ((1 : Int32) &&& 31).toUInt32).toInt32) &&& (1 : Int32))
def own_space (p : Int32) : Int32 := if p &&& (3 : Int32) = (0 : Int32) then 32 else if p &&& (3 : Int32) = (1 : Int32) then 9 else if p &&& (3 : Int32) = (2 : Int32) then 10 else 13
theorem own_space_isp (p : Int32) : own_isp (own_space p) = true := by unfold own_space; (repeat' split) <;> rfl
theorem own_space_b (p : Int32) : (own_space p).toInt8.toInt32 = own_space p := by unfold own_space; (repeat' split) <;> rfl
def own_nb (p : Int32) : Int32 := if own_en (p.toInt8.toInt32) then 110 else p.toInt8.toInt32
theorem own_nb_t {p : Int32} (h : ¬ own_b (own_en (p.toInt8.toInt32)) = (0 : Int32)) : own_nb p = 110 := by unfold own_nb; rw [own_b1 h]; rfl
theorem own_88 (p : Int32) : p.toInt8.toInt32.toInt8.toInt32 = p.toInt8.toInt32 := by rw [Int8.toInt8_toInt32]
theorem own_nb_f {p : Int32} (h : own_b (own_en (p.toInt8.toInt32)) = (0 : Int32)) : own_nb p = nar .byte (p.toInt8.toInt32) := by
  unfold own_nb; rw [own_b0 h]; exact (own_88 p).symm
theorem own_nb_en (p : Int32) : own_en (own_nb p) = false := by
  unfold own_nb
  cases h : own_en (p.toInt8.toInt32)
  · exact h
  · rfl
theorem own_nb_b (p : Int32) : (own_nb p).toInt8.toInt32 = own_nb p := by
  unfold own_nb
  split
  · rfl
  · exact own_88 p
def own_vc (p q : Int32) : Int32 := if (p &&& (127 : Int32)).toUInt32.toUInt16.toUInt32.toInt32 = q then 118 else nar .char ((p &&& (127 : Int32)).toUInt32.toUInt16.toUInt32.toInt32)
theorem own_vc_t {p q : Int32} (h : (p &&& (127 : Int32)).toUInt32.toUInt16.toUInt32.toInt32 = q) : own_vc p q = 118 := if_pos h
theorem own_vc_f {p q : Int32} (h : ¬ (p &&& (127 : Int32)).toUInt32.toUInt16.toUInt32.toInt32 = q) : own_vc p q = nar .char ((p &&& (127 : Int32)).toUInt32.toUInt16.toUInt32.toInt32) := if_neg h
theorem own_m3 (p : Int32) : (p &&& (3 : Int32)) % (3 : Int32) = (0 : Int32) ∨ (p &&& (3 : Int32)) % (3 : Int32) = (1 : Int32) ∨ (p &&& (3 : Int32)) % (3 : Int32) = (2 : Int32) := by
  have h1 := c_mask p 3 2 (by decide) (by decide)
  have h2 := (c_irem (p &&& 3) 3 3 (by decide)).1 (by omega)
  have e0 : (0 : Int32).toInt = 0 := by decide
  have e1 : (1 : Int32).toInt = 1 := by decide
  have e2 : (2 : Int32).toInt = 2 := by decide
  rw [← Int32.toInt_inj, ← Int32.toInt_inj, ← Int32.toInt_inj]
  omega
def own_imin (x y : Int32) : Int32 := if y < x then y else x
theorem own_take1 {pre : List Int32} {o : Nat} (h : o + 1 ≤ pre.length) : ((pre.drop o).take 1).map Value.int = [.int (pre.getD o 0)] := by
  rw [List.drop_eq_getElem_cons (by omega)]
  show [Value.int pre[o]] = _
  simp [List.getD_eq_getElem?_getD, show o < pre.length by omega]
theorem own_take2 {pre : List Int32} {o : Nat} (h : o + 2 ≤ pre.length) : ((pre.drop o).take 2).map Value.int = [.int (pre.getD o 0), .int (pre.getD (o + 1) 0)] := by
  rw [List.drop_eq_getElem_cons (by omega), List.drop_eq_getElem_cons (by omega)]
  show [Value.int pre[o], Value.int pre[o + 1]] = _
  simp [List.getD_eq_getElem?_getD, show o < pre.length by omega, show o + 1 < pre.length by omega]
theorem own_minn {Z : State} {h : Heap} {a : Addr} {k : ClassId} {n : Int32} {pre : List Int32} (F : Txt Z h a k n pre) {o d : Nat} (hl : o + d ≤ pre.length) : own_imin (n - Int32.ofNat o) (Int32.ofNat d) = Int32.ofNat d := by
  have h1 := own_p31 F
  have h2 := F.len
  obtain ⟨bs, ⟨cl, A, q, S, N, H, G⟩, e, t⟩ := F
  rw [Int32.lt_iff_toInt_lt] at N
  have e0 : (0 : Int32).toInt = 0 := by decide
  have r := rng32 n
  unfold Int32.toNatClampNeg at h2
  have e1 := own_ofNat (i := o) (by omega)
  have e2 := own_ofNat (i := d) (by omega)
  have c1 := c_isub n (Int32.ofNat o)
  have r2 := rng32 (n - Int32.ofNat o)
  unfold own_imin
  split
  · rfl
  · rename_i hq
    rw [Int32.lt_iff_toInt_lt] at hq
    exact Int32.toInt_inj.mp (by omega)
theorem own_minn1 {Z : State} {h : Heap} {a : Addr} {k : ClassId} {n : Int32} {pre : List Int32} (F : Txt Z h a k n pre) {o : Nat} (hl : o + 1 ≤ pre.length) : own_imin (n - Int32.ofNat o) (1 : Int32) = (1 : Int32) := own_minn F hl
theorem own_minn2 {Z : State} {h : Heap} {a : Addr} {k : ClassId} {n : Int32} {pre : List Int32} (F : Txt Z h a k n pre) {o : Nat} (hl : o + 2 ≤ pre.length) : own_imin (n - Int32.ofNat o) (2 : Int32) = (2 : Int32) := own_minn F hl
theorem own_o0 {Z : State} {h : Heap} {a : Addr} {k : ClassId} {n : Int32} {pre : List Int32} (F : Txt Z h a k n pre) {o d : Nat} (hl : o + d ≤ pre.length) (ho : 0 < o) : ¬ Int32.ofNat o = (0 : Int32) := fun q => by
  have h1 := own_p31 F
  have e := congrArg Int32.toInt q
  rw [own_ofNat (by omega)] at e
  have e0 : (0 : Int32).toInt = 0 := by decide
  omega
theorem own_orn {x y : Int32} (hx : ¬ x < (0 : Int32)) (hy : ¬ y < (0 : Int32)) : ¬ (x ||| y) < (0 : Int32) := by
  have e : ∀ z : Int32, z < (0 : Int32) ↔ z.toBitVec.msb = true := fun z => by
    rw [Int32.lt_iff_toInt_lt, BitVec.msb_eq_toInt, decide_eq_true_iff]; exact Iff.rfl
  rw [e] at *
  have h : (x ||| y).toBitVec.msb = (x.toBitVec.msb || y.toBitVec.msb) := by
    show (x.toBitVec ||| y.toBitVec).msb = _
    exact BitVec.msb_or
  rw [h]
  simp only [Bool.or_eq_true, not_or]
  exact ⟨hx, hy⟩
theorem own_ntn {Z : State} {h : Heap} {a : Addr} {k : ClassId} {n : Int32} {pre : List Int32} (F : Txt Z h a k n pre) : ¬ n < (0 : Int32) := by obtain ⟨bs, ⟨cl, A, q, S, N, H, G⟩, e, t⟩ := F; exact N
theorem own_cf {Z : State} {h : Heap} {a : Addr} {k : ClassId} {n : Int32} {pre : List Int32} (F : Txt Z h a k n pre) {o d : Nat} (hl : o + d ≤ pre.length) : ¬ ((n ||| Int32.ofNat o) ||| Int32.ofNat d) < (0 : Int32) := own_orn (own_orn (own_ntn F) (own_nn31 F (by omega))) (own_nn31 F (by omega))
theorem own_cf1 {Z : State} {h : Heap} {a : Addr} {k : ClassId} {n : Int32} {pre : List Int32} (F : Txt Z h a k n pre) {o d : Nat} (hl : o + d ≤ pre.length) : ¬ ((n ||| Int32.ofNat o) ||| Int32.ofNat d) < (0 : Int32) := own_cf F hl
theorem own_cf2 {Z : State} {h : Heap} {a : Addr} {k : ClassId} {n : Int32} {pre : List Int32} (F : Txt Z h a k n pre) {o d : Nat} (hl : o + d ≤ pre.length) : ¬ (n - Int32.ofNat o) < Int32.ofNat d := by
  have h1 := own_p31 F
  have h2 := F.len
  have N := own_ntn F
  rw [Int32.lt_iff_toInt_lt] at N ⊢
  have e0 : (0 : Int32).toInt = 0 := by decide
  have r := rng32 n
  unfold Int32.toNatClampNeg at h2
  have e1 := own_ofNat (i := o) (by omega)
  have e2 := own_ofNat (i := d) (by omega)
  have c1 := c_isub n (Int32.ofNat o)
  have r2 := rng32 (n - Int32.ofNat o)
  omega
def own_bad (x : Int32) : Bool := decide (x = 32) || decide (x = 9) || decide (x = 10) || decide (x = 13) || decide (x = 34) || decide (x = 39)
def own_bb (p : Int32) : Int32 := if own_bad (p.toInt8.toInt32) then 120 else p.toInt8.toInt32
theorem own_bb_t {p : Int32} (h : own_bad (p.toInt8.toInt32) = true) : own_bb p = 120 := if_pos h
theorem own_bb_f {p : Int32} (h : own_bad (p.toInt8.toInt32) = false) : own_bb p = nar .byte (p.toInt8.toInt32) := (if_neg (by rw [h]; decide)).trans (own_88 p).symm
section
variable {Z : State} {a0 : Array Value} {h h' : Heap} {a b : Addr} {v0 v1 v2 v3 v4 v5 v6 v7 v8 v9 v10 v11 v12 w : Value}
def Mk (Z : State) (h : Heap) (a : Addr) (v0 v1 v2 v3 v4 v5 v6 v7 v8 v9 v10 v11 v12 : Value) : Prop := Fld Z h a cA "text" "[B" v0 ∧ Fld Z h a cA "at" "I" v1 ∧ Fld Z h a cA "end" "I" v2 ∧ Fld Z h a cA "kind" cD v3 ∧ Fld Z h a cA "tagStart" "I" v4 ∧ Fld Z h a cA "tagEnd" "I" v5 ∧ Fld Z h a cA "emptyElement" "Z" v6 ∧ Fld Z h a cA "nameStart" "I" v7 ∧ Fld Z h a cA "nameEnd" "I" v8 ∧ Fld Z h a cA "nameHash" "I" v9 ∧ Fld Z h a cA "valueStart" "I" v10 ∧ Fld Z h a cA "valueEnd" "I" v11 ∧ Fld Z h a cA "attributesLeft" "Z" v12
theorem Mk.g_text (M : Mk Z h a v0 v1 v2 v3 v4 v5 v6 v7 v8 v9 v10 v11 v12) : Fld Z h a cA "text" "[B" v0 := M.1
theorem Mk.g_at (M : Mk Z h a v0 v1 v2 v3 v4 v5 v6 v7 v8 v9 v10 v11 v12) : Fld Z h a cA "at" "I" v1 := M.2.1
theorem Mk.g_end (M : Mk Z h a v0 v1 v2 v3 v4 v5 v6 v7 v8 v9 v10 v11 v12) : Fld Z h a cA "end" "I" v2 := M.2.2.1
theorem Mk.g_kind (M : Mk Z h a v0 v1 v2 v3 v4 v5 v6 v7 v8 v9 v10 v11 v12) : Fld Z h a cA "kind" cD v3 := M.2.2.2.1
theorem Mk.g_tagStart (M : Mk Z h a v0 v1 v2 v3 v4 v5 v6 v7 v8 v9 v10 v11 v12) : Fld Z h a cA "tagStart" "I" v4 := M.2.2.2.2.1
theorem Mk.g_tagEnd (M : Mk Z h a v0 v1 v2 v3 v4 v5 v6 v7 v8 v9 v10 v11 v12) : Fld Z h a cA "tagEnd" "I" v5 := M.2.2.2.2.2.1
theorem Mk.g_emptyElement (M : Mk Z h a v0 v1 v2 v3 v4 v5 v6 v7 v8 v9 v10 v11 v12) : Fld Z h a cA "emptyElement" "Z" v6 := M.2.2.2.2.2.2.1
theorem Mk.g_nameStart (M : Mk Z h a v0 v1 v2 v3 v4 v5 v6 v7 v8 v9 v10 v11 v12) : Fld Z h a cA "nameStart" "I" v7 := M.2.2.2.2.2.2.2.1
theorem Mk.g_nameEnd (M : Mk Z h a v0 v1 v2 v3 v4 v5 v6 v7 v8 v9 v10 v11 v12) : Fld Z h a cA "nameEnd" "I" v8 := M.2.2.2.2.2.2.2.2.1
theorem Mk.g_nameHash (M : Mk Z h a v0 v1 v2 v3 v4 v5 v6 v7 v8 v9 v10 v11 v12) : Fld Z h a cA "nameHash" "I" v9 := M.2.2.2.2.2.2.2.2.2.1
theorem Mk.g_valueStart (M : Mk Z h a v0 v1 v2 v3 v4 v5 v6 v7 v8 v9 v10 v11 v12) : Fld Z h a cA "valueStart" "I" v10 := M.2.2.2.2.2.2.2.2.2.2.1
theorem Mk.g_valueEnd (M : Mk Z h a v0 v1 v2 v3 v4 v5 v6 v7 v8 v9 v10 v11 v12) : Fld Z h a cA "valueEnd" "I" v11 := M.2.2.2.2.2.2.2.2.2.2.2.1
theorem Mk.g_attributesLeft (M : Mk Z h a v0 v1 v2 v3 v4 v5 v6 v7 v8 v9 v10 v11 v12) : Fld Z h a cA "attributesLeft" "Z" v12 := M.2.2.2.2.2.2.2.2.2.2.2.2
theorem Mk.lt (M : Mk Z h a v0 v1 v2 v3 v4 v5 v6 v7 v8 v9 v10 v11 v12) : a < h.size := M.1.lt
theorem Mk.ext (M : Mk Z h a v0 v1 v2 v3 v4 v5 v6 v7 v8 v9 v10 v11 v12) (E : Ext h h') : Mk Z h' a v0 v1 v2 v3 v4 v5 v6 v7 v8 v9 v10 v11 v12 := ⟨(M.1).ext E, (M.2.1).ext E, (M.2.2.1).ext E, (M.2.2.2.1).ext E, (M.2.2.2.2.1).ext E, (M.2.2.2.2.2.1).ext E, (M.2.2.2.2.2.2.1).ext E, (M.2.2.2.2.2.2.2.1).ext E, (M.2.2.2.2.2.2.2.2.1).ext E, (M.2.2.2.2.2.2.2.2.2.1).ext E, (M.2.2.2.2.2.2.2.2.2.2.1).ext E, (M.2.2.2.2.2.2.2.2.2.2.2.1).ext E, (M.2.2.2.2.2.2.2.2.2.2.2.2).ext E⟩
theorem Mk.other {sl : Nat} (M : Mk Z h a v0 v1 v2 v3 v4 v5 v6 v7 v8 v9 v10 v11 v12) (W : Wr h h' b sl w) (q : a ≠ b) : Mk Z h' a v0 v1 v2 v3 v4 v5 v6 v7 v8 v9 v10 v11 v12 := ⟨(M.1).other W (Or.inl q), (M.2.1).other W (Or.inl q), (M.2.2.1).other W (Or.inl q), (M.2.2.2.1).other W (Or.inl q), (M.2.2.2.2.1).other W (Or.inl q), (M.2.2.2.2.2.1).other W (Or.inl q), (M.2.2.2.2.2.2.1).other W (Or.inl q), (M.2.2.2.2.2.2.2.1).other W (Or.inl q), (M.2.2.2.2.2.2.2.2.1).other W (Or.inl q), (M.2.2.2.2.2.2.2.2.2.1).other W (Or.inl q), (M.2.2.2.2.2.2.2.2.2.2.1).other W (Or.inl q), (M.2.2.2.2.2.2.2.2.2.2.2.1).other W (Or.inl q), (M.2.2.2.2.2.2.2.2.2.2.2.2).other W (Or.inl q)⟩
theorem Mk.keep {ws : List Addr} (M : Mk Z h a v0 v1 v2 v3 v4 v5 v6 v7 v8 v9 v10 v11 v12) (K : Keep h h' ws) (q : a ∉ ws) : Mk Z h' a v0 v1 v2 v3 v4 v5 v6 v7 v8 v9 v10 v11 v12 := ⟨(M.1).keep K q, (M.2.1).keep K q, (M.2.2.1).keep K q, (M.2.2.2.1).keep K q, (M.2.2.2.2.1).keep K q, (M.2.2.2.2.2.1).keep K q, (M.2.2.2.2.2.2.1).keep K q, (M.2.2.2.2.2.2.2.1).keep K q, (M.2.2.2.2.2.2.2.2.1).keep K q, (M.2.2.2.2.2.2.2.2.2.1).keep K q, (M.2.2.2.2.2.2.2.2.2.2.1).keep K q, (M.2.2.2.2.2.2.2.2.2.2.2.1).keep K q, (M.2.2.2.2.2.2.2.2.2.2.2.2).keep K q⟩
theorem ly_Mk_0 (hw : ∀ d ∈ tables_1, d.before a0 Z = true) : Laid Z a0 cA cA "text" "[B" := (Or.inr (wt hw 28 rfl))
theorem ly_Mk_1 (hw : ∀ d ∈ tables_1, d.before a0 Z = true) : Laid Z a0 cA cA "at" "I" := (Or.inl (wt hw 30 rfl))
theorem ly_Mk_2 (hw : ∀ d ∈ tables_1, d.before a0 Z = true) : Laid Z a0 cA cA "end" "I" := (Or.inr (wt hw 32 rfl))
theorem ly_Mk_3 (hw : ∀ d ∈ tables_1, d.before a0 Z = true) : Laid Z a0 cA cA "kind" cD := (Or.inl (wt hw 54 rfl))
theorem ly_Mk_4 (hw : ∀ d ∈ tables_1, d.before a0 Z = true) : Laid Z a0 cA cA "tagStart" "I" := (Or.inl (wt hw 47 rfl))
theorem ly_Mk_5 (hw : ∀ d ∈ tables_1, d.before a0 Z = true) : Laid Z a0 cA cA "tagEnd" "I" := (Or.inl (wt hw 56 rfl))
theorem ly_Mk_6 (hw : ∀ d ∈ tables_1, d.before a0 Z = true) : Laid Z a0 cA cA "emptyElement" "Z" := (Or.inl (wt hw 49 rfl))
theorem ly_Mk_7 (hw : ∀ d ∈ tables_1, d.before a0 Z = true) : Laid Z a0 cA cA "nameStart" "I" := (Or.inl (wt hw 66 rfl))
theorem ly_Mk_8 (hw : ∀ d ∈ tables_1, d.before a0 Z = true) : Laid Z a0 cA cA "nameEnd" "I" := (Or.inl (wt hw 68 rfl))
theorem ly_Mk_9 (hw : ∀ d ∈ tables_1, d.before a0 Z = true) : Laid Z a0 cA cA "nameHash" "I" := (Or.inl (wt hw 70 rfl))
theorem ly_Mk_10 (hw : ∀ d ∈ tables_1, d.before a0 Z = true) : Laid Z a0 cA cA "valueStart" "I" := (Or.inl (wt hw 154 rfl))
theorem ly_Mk_11 (hw : ∀ d ∈ tables_1, d.before a0 Z = true) : Laid Z a0 cA cA "valueEnd" "I" := (Or.inl (wt hw 156 rfl))
theorem ly_Mk_12 (hw : ∀ d ∈ tables_1, d.before a0 Z = true) : Laid Z a0 cA cA "attributesLeft" "Z" := (Or.inl (wt hw 72 rfl))
theorem Mk.ne {f d f2 d2 : String} {t t2 : FieldType} {b : Addr} {x : Value} (F : Fld Z h b cA f d x) (W : Wr h h' a (Jvm.RoadKit.slotOf Z cA f2 d2) w) (L : Laid Z a0 cA cA f d ∧ parseFieldDescriptor d = some t) (L2 : Laid Z a0 cA cA f2 d2 ∧ parseFieldDescriptor d2 = some t2) (hn : f ≠ f2) : Fld Z h' b cA f d x := F.other W (Or.inr (slot_ne L.1 L2.1 hn L.2 L2.2))
theorem Mk.l0 (hw : ∀ d ∈ tables_1, d.before a0 Z = true) : Laid Z a0 cA cA "text" "[B" ∧ parseFieldDescriptor "[B" = some (.array .byte) := ⟨ly_Mk_0 hw, by decide⟩
theorem Mk.l1 (hw : ∀ d ∈ tables_1, d.before a0 Z = true) : Laid Z a0 cA cA "at" "I" ∧ parseFieldDescriptor "I" = some .int := ⟨ly_Mk_1 hw, by decide⟩
theorem Mk.l2 (hw : ∀ d ∈ tables_1, d.before a0 Z = true) : Laid Z a0 cA cA "end" "I" ∧ parseFieldDescriptor "I" = some .int := ⟨ly_Mk_2 hw, by decide⟩
theorem Mk.l3 (hw : ∀ d ∈ tables_1, d.before a0 Z = true) : Laid Z a0 cA cA "kind" cD ∧ parseFieldDescriptor cD = some (.object cG) := ⟨ly_Mk_3 hw, by decide⟩
theorem Mk.l4 (hw : ∀ d ∈ tables_1, d.before a0 Z = true) : Laid Z a0 cA cA "tagStart" "I" ∧ parseFieldDescriptor "I" = some .int := ⟨ly_Mk_4 hw, by decide⟩
theorem Mk.l5 (hw : ∀ d ∈ tables_1, d.before a0 Z = true) : Laid Z a0 cA cA "tagEnd" "I" ∧ parseFieldDescriptor "I" = some .int := ⟨ly_Mk_5 hw, by decide⟩
theorem Mk.l6 (hw : ∀ d ∈ tables_1, d.before a0 Z = true) : Laid Z a0 cA cA "emptyElement" "Z" ∧ parseFieldDescriptor "Z" = some .boolean := ⟨ly_Mk_6 hw, by decide⟩
theorem Mk.l7 (hw : ∀ d ∈ tables_1, d.before a0 Z = true) : Laid Z a0 cA cA "nameStart" "I" ∧ parseFieldDescriptor "I" = some .int := ⟨ly_Mk_7 hw, by decide⟩
theorem Mk.l8 (hw : ∀ d ∈ tables_1, d.before a0 Z = true) : Laid Z a0 cA cA "nameEnd" "I" ∧ parseFieldDescriptor "I" = some .int := ⟨ly_Mk_8 hw, by decide⟩
theorem Mk.l9 (hw : ∀ d ∈ tables_1, d.before a0 Z = true) : Laid Z a0 cA cA "nameHash" "I" ∧ parseFieldDescriptor "I" = some .int := ⟨ly_Mk_9 hw, by decide⟩
theorem Mk.l10 (hw : ∀ d ∈ tables_1, d.before a0 Z = true) : Laid Z a0 cA cA "valueStart" "I" ∧ parseFieldDescriptor "I" = some .int := ⟨ly_Mk_10 hw, by decide⟩
theorem Mk.l11 (hw : ∀ d ∈ tables_1, d.before a0 Z = true) : Laid Z a0 cA cA "valueEnd" "I" ∧ parseFieldDescriptor "I" = some .int := ⟨ly_Mk_11 hw, by decide⟩
theorem Mk.l12 (hw : ∀ d ∈ tables_1, d.before a0 Z = true) : Laid Z a0 cA cA "attributesLeft" "Z" ∧ parseFieldDescriptor "Z" = some .boolean := ⟨ly_Mk_12 hw, by decide⟩
theorem Mk.put_text (hw : ∀ d ∈ tables_1, d.before a0 Z = true) (M : Mk Z h a v0 v1 v2 v3 v4 v5 v6 v7 v8 v9 v10 v11 v12) (W : Wr h h' a (Jvm.RoadKit.slotOf Z cA "text" "[B") w) : Mk Z h' a w v1 v2 v3 v4 v5 v6 v7 v8 v9 v10 v11 v12 := ⟨(M.1).same W, Mk.ne (M.2.1) W (Mk.l1 hw) (Mk.l0 hw) (by decide), Mk.ne (M.2.2.1) W (Mk.l2 hw) (Mk.l0 hw) (by decide), Mk.ne (M.2.2.2.1) W (Mk.l3 hw) (Mk.l0 hw) (by decide), Mk.ne (M.2.2.2.2.1) W (Mk.l4 hw) (Mk.l0 hw) (by decide), Mk.ne (M.2.2.2.2.2.1) W (Mk.l5 hw) (Mk.l0 hw) (by decide), Mk.ne (M.2.2.2.2.2.2.1) W (Mk.l6 hw) (Mk.l0 hw) (by decide), Mk.ne (M.2.2.2.2.2.2.2.1) W (Mk.l7 hw) (Mk.l0 hw) (by decide), Mk.ne (M.2.2.2.2.2.2.2.2.1) W (Mk.l8 hw) (Mk.l0 hw) (by decide), Mk.ne (M.2.2.2.2.2.2.2.2.2.1) W (Mk.l9 hw) (Mk.l0 hw) (by decide), Mk.ne (M.2.2.2.2.2.2.2.2.2.2.1) W (Mk.l10 hw) (Mk.l0 hw) (by decide), Mk.ne (M.2.2.2.2.2.2.2.2.2.2.2.1) W (Mk.l11 hw) (Mk.l0 hw) (by decide), Mk.ne (M.2.2.2.2.2.2.2.2.2.2.2.2) W (Mk.l12 hw) (Mk.l0 hw) (by decide)⟩
theorem Mk.put_at (hw : ∀ d ∈ tables_1, d.before a0 Z = true) (M : Mk Z h a v0 v1 v2 v3 v4 v5 v6 v7 v8 v9 v10 v11 v12) (W : Wr h h' a (Jvm.RoadKit.slotOf Z cA "at" "I") w) : Mk Z h' a v0 w v2 v3 v4 v5 v6 v7 v8 v9 v10 v11 v12 := ⟨Mk.ne (M.1) W (Mk.l0 hw) (Mk.l1 hw) (by decide), (M.2.1).same W, Mk.ne (M.2.2.1) W (Mk.l2 hw) (Mk.l1 hw) (by decide), Mk.ne (M.2.2.2.1) W (Mk.l3 hw) (Mk.l1 hw) (by decide), Mk.ne (M.2.2.2.2.1) W (Mk.l4 hw) (Mk.l1 hw) (by decide), Mk.ne (M.2.2.2.2.2.1) W (Mk.l5 hw) (Mk.l1 hw) (by decide), Mk.ne (M.2.2.2.2.2.2.1) W (Mk.l6 hw) (Mk.l1 hw) (by decide), Mk.ne (M.2.2.2.2.2.2.2.1) W (Mk.l7 hw) (Mk.l1 hw) (by decide), Mk.ne (M.2.2.2.2.2.2.2.2.1) W (Mk.l8 hw) (Mk.l1 hw) (by decide), Mk.ne (M.2.2.2.2.2.2.2.2.2.1) W (Mk.l9 hw) (Mk.l1 hw) (by decide), Mk.ne (M.2.2.2.2.2.2.2.2.2.2.1) W (Mk.l10 hw) (Mk.l1 hw) (by decide), Mk.ne (M.2.2.2.2.2.2.2.2.2.2.2.1) W (Mk.l11 hw) (Mk.l1 hw) (by decide), Mk.ne (M.2.2.2.2.2.2.2.2.2.2.2.2) W (Mk.l12 hw) (Mk.l1 hw) (by decide)⟩
theorem Mk.put_end (hw : ∀ d ∈ tables_1, d.before a0 Z = true) (M : Mk Z h a v0 v1 v2 v3 v4 v5 v6 v7 v8 v9 v10 v11 v12) (W : Wr h h' a (Jvm.RoadKit.slotOf Z cA "end" "I") w) : Mk Z h' a v0 v1 w v3 v4 v5 v6 v7 v8 v9 v10 v11 v12 := ⟨Mk.ne (M.1) W (Mk.l0 hw) (Mk.l2 hw) (by decide), Mk.ne (M.2.1) W (Mk.l1 hw) (Mk.l2 hw) (by decide), (M.2.2.1).same W, Mk.ne (M.2.2.2.1) W (Mk.l3 hw) (Mk.l2 hw) (by decide), Mk.ne (M.2.2.2.2.1) W (Mk.l4 hw) (Mk.l2 hw) (by decide), Mk.ne (M.2.2.2.2.2.1) W (Mk.l5 hw) (Mk.l2 hw) (by decide), Mk.ne (M.2.2.2.2.2.2.1) W (Mk.l6 hw) (Mk.l2 hw) (by decide), Mk.ne (M.2.2.2.2.2.2.2.1) W (Mk.l7 hw) (Mk.l2 hw) (by decide), Mk.ne (M.2.2.2.2.2.2.2.2.1) W (Mk.l8 hw) (Mk.l2 hw) (by decide), Mk.ne (M.2.2.2.2.2.2.2.2.2.1) W (Mk.l9 hw) (Mk.l2 hw) (by decide), Mk.ne (M.2.2.2.2.2.2.2.2.2.2.1) W (Mk.l10 hw) (Mk.l2 hw) (by decide), Mk.ne (M.2.2.2.2.2.2.2.2.2.2.2.1) W (Mk.l11 hw) (Mk.l2 hw) (by decide), Mk.ne (M.2.2.2.2.2.2.2.2.2.2.2.2) W (Mk.l12 hw) (Mk.l2 hw) (by decide)⟩
theorem Mk.put_kind (hw : ∀ d ∈ tables_1, d.before a0 Z = true) (M : Mk Z h a v0 v1 v2 v3 v4 v5 v6 v7 v8 v9 v10 v11 v12) (W : Wr h h' a (Jvm.RoadKit.slotOf Z cA "kind" cD) w) : Mk Z h' a v0 v1 v2 w v4 v5 v6 v7 v8 v9 v10 v11 v12 := ⟨Mk.ne (M.1) W (Mk.l0 hw) (Mk.l3 hw) (by decide), Mk.ne (M.2.1) W (Mk.l1 hw) (Mk.l3 hw) (by decide), Mk.ne (M.2.2.1) W (Mk.l2 hw) (Mk.l3 hw) (by decide), (M.2.2.2.1).same W, Mk.ne (M.2.2.2.2.1) W (Mk.l4 hw) (Mk.l3 hw) (by decide), Mk.ne (M.2.2.2.2.2.1) W (Mk.l5 hw) (Mk.l3 hw) (by decide), Mk.ne (M.2.2.2.2.2.2.1) W (Mk.l6 hw) (Mk.l3 hw) (by decide), Mk.ne (M.2.2.2.2.2.2.2.1) W (Mk.l7 hw) (Mk.l3 hw) (by decide), Mk.ne (M.2.2.2.2.2.2.2.2.1) W (Mk.l8 hw) (Mk.l3 hw) (by decide), Mk.ne (M.2.2.2.2.2.2.2.2.2.1) W (Mk.l9 hw) (Mk.l3 hw) (by decide), Mk.ne (M.2.2.2.2.2.2.2.2.2.2.1) W (Mk.l10 hw) (Mk.l3 hw) (by decide), Mk.ne (M.2.2.2.2.2.2.2.2.2.2.2.1) W (Mk.l11 hw) (Mk.l3 hw) (by decide), Mk.ne (M.2.2.2.2.2.2.2.2.2.2.2.2) W (Mk.l12 hw) (Mk.l3 hw) (by decide)⟩
theorem Mk.put_tagStart (hw : ∀ d ∈ tables_1, d.before a0 Z = true) (M : Mk Z h a v0 v1 v2 v3 v4 v5 v6 v7 v8 v9 v10 v11 v12) (W : Wr h h' a (Jvm.RoadKit.slotOf Z cA "tagStart" "I") w) : Mk Z h' a v0 v1 v2 v3 w v5 v6 v7 v8 v9 v10 v11 v12 := ⟨Mk.ne (M.1) W (Mk.l0 hw) (Mk.l4 hw) (by decide), Mk.ne (M.2.1) W (Mk.l1 hw) (Mk.l4 hw) (by decide), Mk.ne (M.2.2.1) W (Mk.l2 hw) (Mk.l4 hw) (by decide), Mk.ne (M.2.2.2.1) W (Mk.l3 hw) (Mk.l4 hw) (by decide), (M.2.2.2.2.1).same W, Mk.ne (M.2.2.2.2.2.1) W (Mk.l5 hw) (Mk.l4 hw) (by decide), Mk.ne (M.2.2.2.2.2.2.1) W (Mk.l6 hw) (Mk.l4 hw) (by decide), Mk.ne (M.2.2.2.2.2.2.2.1) W (Mk.l7 hw) (Mk.l4 hw) (by decide), Mk.ne (M.2.2.2.2.2.2.2.2.1) W (Mk.l8 hw) (Mk.l4 hw) (by decide), Mk.ne (M.2.2.2.2.2.2.2.2.2.1) W (Mk.l9 hw) (Mk.l4 hw) (by decide), Mk.ne (M.2.2.2.2.2.2.2.2.2.2.1) W (Mk.l10 hw) (Mk.l4 hw) (by decide), Mk.ne (M.2.2.2.2.2.2.2.2.2.2.2.1) W (Mk.l11 hw) (Mk.l4 hw) (by decide), Mk.ne (M.2.2.2.2.2.2.2.2.2.2.2.2) W (Mk.l12 hw) (Mk.l4 hw) (by decide)⟩
theorem Mk.put_tagEnd (hw : ∀ d ∈ tables_1, d.before a0 Z = true) (M : Mk Z h a v0 v1 v2 v3 v4 v5 v6 v7 v8 v9 v10 v11 v12) (W : Wr h h' a (Jvm.RoadKit.slotOf Z cA "tagEnd" "I") w) : Mk Z h' a v0 v1 v2 v3 v4 w v6 v7 v8 v9 v10 v11 v12 := ⟨Mk.ne (M.1) W (Mk.l0 hw) (Mk.l5 hw) (by decide), Mk.ne (M.2.1) W (Mk.l1 hw) (Mk.l5 hw) (by decide), Mk.ne (M.2.2.1) W (Mk.l2 hw) (Mk.l5 hw) (by decide), Mk.ne (M.2.2.2.1) W (Mk.l3 hw) (Mk.l5 hw) (by decide), Mk.ne (M.2.2.2.2.1) W (Mk.l4 hw) (Mk.l5 hw) (by decide), (M.2.2.2.2.2.1).same W, Mk.ne (M.2.2.2.2.2.2.1) W (Mk.l6 hw) (Mk.l5 hw) (by decide), Mk.ne (M.2.2.2.2.2.2.2.1) W (Mk.l7 hw) (Mk.l5 hw) (by decide), Mk.ne (M.2.2.2.2.2.2.2.2.1) W (Mk.l8 hw) (Mk.l5 hw) (by decide), Mk.ne (M.2.2.2.2.2.2.2.2.2.1) W (Mk.l9 hw) (Mk.l5 hw) (by decide), Mk.ne (M.2.2.2.2.2.2.2.2.2.2.1) W (Mk.l10 hw) (Mk.l5 hw) (by decide), Mk.ne (M.2.2.2.2.2.2.2.2.2.2.2.1) W (Mk.l11 hw) (Mk.l5 hw) (by decide), Mk.ne (M.2.2.2.2.2.2.2.2.2.2.2.2) W (Mk.l12 hw) (Mk.l5 hw) (by decide)⟩
theorem Mk.put_emptyElement (hw : ∀ d ∈ tables_1, d.before a0 Z = true) (M : Mk Z h a v0 v1 v2 v3 v4 v5 v6 v7 v8 v9 v10 v11 v12) (W : Wr h h' a (Jvm.RoadKit.slotOf Z cA "emptyElement" "Z") w) : Mk Z h' a v0 v1 v2 v3 v4 v5 w v7 v8 v9 v10 v11 v12 := ⟨Mk.ne (M.1) W (Mk.l0 hw) (Mk.l6 hw) (by decide), Mk.ne (M.2.1) W (Mk.l1 hw) (Mk.l6 hw) (by decide), Mk.ne (M.2.2.1) W (Mk.l2 hw) (Mk.l6 hw) (by decide), Mk.ne (M.2.2.2.1) W (Mk.l3 hw) (Mk.l6 hw) (by decide), Mk.ne (M.2.2.2.2.1) W (Mk.l4 hw) (Mk.l6 hw) (by decide), Mk.ne (M.2.2.2.2.2.1) W (Mk.l5 hw) (Mk.l6 hw) (by decide), (M.2.2.2.2.2.2.1).same W, Mk.ne (M.2.2.2.2.2.2.2.1) W (Mk.l7 hw) (Mk.l6 hw) (by decide), Mk.ne (M.2.2.2.2.2.2.2.2.1) W (Mk.l8 hw) (Mk.l6 hw) (by decide), Mk.ne (M.2.2.2.2.2.2.2.2.2.1) W (Mk.l9 hw) (Mk.l6 hw) (by decide), Mk.ne (M.2.2.2.2.2.2.2.2.2.2.1) W (Mk.l10 hw) (Mk.l6 hw) (by decide), Mk.ne (M.2.2.2.2.2.2.2.2.2.2.2.1) W (Mk.l11 hw) (Mk.l6 hw) (by decide), Mk.ne (M.2.2.2.2.2.2.2.2.2.2.2.2) W (Mk.l12 hw) (Mk.l6 hw) (by decide)⟩
theorem Mk.put_nameStart (hw : ∀ d ∈ tables_1, d.before a0 Z = true) (M : Mk Z h a v0 v1 v2 v3 v4 v5 v6 v7 v8 v9 v10 v11 v12) (W : Wr h h' a (Jvm.RoadKit.slotOf Z cA "nameStart" "I") w) : Mk Z h' a v0 v1 v2 v3 v4 v5 v6 w v8 v9 v10 v11 v12 := ⟨Mk.ne (M.1) W (Mk.l0 hw) (Mk.l7 hw) (by decide), Mk.ne (M.2.1) W (Mk.l1 hw) (Mk.l7 hw) (by decide), Mk.ne (M.2.2.1) W (Mk.l2 hw) (Mk.l7 hw) (by decide), Mk.ne (M.2.2.2.1) W (Mk.l3 hw) (Mk.l7 hw) (by decide), Mk.ne (M.2.2.2.2.1) W (Mk.l4 hw) (Mk.l7 hw) (by decide), Mk.ne (M.2.2.2.2.2.1) W (Mk.l5 hw) (Mk.l7 hw) (by decide), Mk.ne (M.2.2.2.2.2.2.1) W (Mk.l6 hw) (Mk.l7 hw) (by decide), (M.2.2.2.2.2.2.2.1).same W, Mk.ne (M.2.2.2.2.2.2.2.2.1) W (Mk.l8 hw) (Mk.l7 hw) (by decide), Mk.ne (M.2.2.2.2.2.2.2.2.2.1) W (Mk.l9 hw) (Mk.l7 hw) (by decide), Mk.ne (M.2.2.2.2.2.2.2.2.2.2.1) W (Mk.l10 hw) (Mk.l7 hw) (by decide), Mk.ne (M.2.2.2.2.2.2.2.2.2.2.2.1) W (Mk.l11 hw) (Mk.l7 hw) (by decide), Mk.ne (M.2.2.2.2.2.2.2.2.2.2.2.2) W (Mk.l12 hw) (Mk.l7 hw) (by decide)⟩
theorem Mk.put_nameEnd (hw : ∀ d ∈ tables_1, d.before a0 Z = true) (M : Mk Z h a v0 v1 v2 v3 v4 v5 v6 v7 v8 v9 v10 v11 v12) (W : Wr h h' a (Jvm.RoadKit.slotOf Z cA "nameEnd" "I") w) : Mk Z h' a v0 v1 v2 v3 v4 v5 v6 v7 w v9 v10 v11 v12 := ⟨Mk.ne (M.1) W (Mk.l0 hw) (Mk.l8 hw) (by decide), Mk.ne (M.2.1) W (Mk.l1 hw) (Mk.l8 hw) (by decide), Mk.ne (M.2.2.1) W (Mk.l2 hw) (Mk.l8 hw) (by decide), Mk.ne (M.2.2.2.1) W (Mk.l3 hw) (Mk.l8 hw) (by decide), Mk.ne (M.2.2.2.2.1) W (Mk.l4 hw) (Mk.l8 hw) (by decide), Mk.ne (M.2.2.2.2.2.1) W (Mk.l5 hw) (Mk.l8 hw) (by decide), Mk.ne (M.2.2.2.2.2.2.1) W (Mk.l6 hw) (Mk.l8 hw) (by decide), Mk.ne (M.2.2.2.2.2.2.2.1) W (Mk.l7 hw) (Mk.l8 hw) (by decide), (M.2.2.2.2.2.2.2.2.1).same W, Mk.ne (M.2.2.2.2.2.2.2.2.2.1) W (Mk.l9 hw) (Mk.l8 hw) (by decide), Mk.ne (M.2.2.2.2.2.2.2.2.2.2.1) W (Mk.l10 hw) (Mk.l8 hw) (by decide), Mk.ne (M.2.2.2.2.2.2.2.2.2.2.2.1) W (Mk.l11 hw) (Mk.l8 hw) (by decide), Mk.ne (M.2.2.2.2.2.2.2.2.2.2.2.2) W (Mk.l12 hw) (Mk.l8 hw) (by decide)⟩
theorem Mk.put_nameHash (hw : ∀ d ∈ tables_1, d.before a0 Z = true) (M : Mk Z h a v0 v1 v2 v3 v4 v5 v6 v7 v8 v9 v10 v11 v12) (W : Wr h h' a (Jvm.RoadKit.slotOf Z cA "nameHash" "I") w) : Mk Z h' a v0 v1 v2 v3 v4 v5 v6 v7 v8 w v10 v11 v12 := ⟨Mk.ne (M.1) W (Mk.l0 hw) (Mk.l9 hw) (by decide), Mk.ne (M.2.1) W (Mk.l1 hw) (Mk.l9 hw) (by decide), Mk.ne (M.2.2.1) W (Mk.l2 hw) (Mk.l9 hw) (by decide), Mk.ne (M.2.2.2.1) W (Mk.l3 hw) (Mk.l9 hw) (by decide), Mk.ne (M.2.2.2.2.1) W (Mk.l4 hw) (Mk.l9 hw) (by decide), Mk.ne (M.2.2.2.2.2.1) W (Mk.l5 hw) (Mk.l9 hw) (by decide), Mk.ne (M.2.2.2.2.2.2.1) W (Mk.l6 hw) (Mk.l9 hw) (by decide), Mk.ne (M.2.2.2.2.2.2.2.1) W (Mk.l7 hw) (Mk.l9 hw) (by decide), Mk.ne (M.2.2.2.2.2.2.2.2.1) W (Mk.l8 hw) (Mk.l9 hw) (by decide), (M.2.2.2.2.2.2.2.2.2.1).same W, Mk.ne (M.2.2.2.2.2.2.2.2.2.2.1) W (Mk.l10 hw) (Mk.l9 hw) (by decide), Mk.ne (M.2.2.2.2.2.2.2.2.2.2.2.1) W (Mk.l11 hw) (Mk.l9 hw) (by decide), Mk.ne (M.2.2.2.2.2.2.2.2.2.2.2.2) W (Mk.l12 hw) (Mk.l9 hw) (by decide)⟩
theorem Mk.put_valueStart (hw : ∀ d ∈ tables_1, d.before a0 Z = true) (M : Mk Z h a v0 v1 v2 v3 v4 v5 v6 v7 v8 v9 v10 v11 v12) (W : Wr h h' a (Jvm.RoadKit.slotOf Z cA "valueStart" "I") w) : Mk Z h' a v0 v1 v2 v3 v4 v5 v6 v7 v8 v9 w v11 v12 := ⟨Mk.ne (M.1) W (Mk.l0 hw) (Mk.l10 hw) (by decide), Mk.ne (M.2.1) W (Mk.l1 hw) (Mk.l10 hw) (by decide), Mk.ne (M.2.2.1) W (Mk.l2 hw) (Mk.l10 hw) (by decide), Mk.ne (M.2.2.2.1) W (Mk.l3 hw) (Mk.l10 hw) (by decide), Mk.ne (M.2.2.2.2.1) W (Mk.l4 hw) (Mk.l10 hw) (by decide), Mk.ne (M.2.2.2.2.2.1) W (Mk.l5 hw) (Mk.l10 hw) (by decide), Mk.ne (M.2.2.2.2.2.2.1) W (Mk.l6 hw) (Mk.l10 hw) (by decide), Mk.ne (M.2.2.2.2.2.2.2.1) W (Mk.l7 hw) (Mk.l10 hw) (by decide), Mk.ne (M.2.2.2.2.2.2.2.2.1) W (Mk.l8 hw) (Mk.l10 hw) (by decide), Mk.ne (M.2.2.2.2.2.2.2.2.2.1) W (Mk.l9 hw) (Mk.l10 hw) (by decide), (M.2.2.2.2.2.2.2.2.2.2.1).same W, Mk.ne (M.2.2.2.2.2.2.2.2.2.2.2.1) W (Mk.l11 hw) (Mk.l10 hw) (by decide), Mk.ne (M.2.2.2.2.2.2.2.2.2.2.2.2) W (Mk.l12 hw) (Mk.l10 hw) (by decide)⟩
theorem Mk.put_valueEnd (hw : ∀ d ∈ tables_1, d.before a0 Z = true) (M : Mk Z h a v0 v1 v2 v3 v4 v5 v6 v7 v8 v9 v10 v11 v12) (W : Wr h h' a (Jvm.RoadKit.slotOf Z cA "valueEnd" "I") w) : Mk Z h' a v0 v1 v2 v3 v4 v5 v6 v7 v8 v9 v10 w v12 := ⟨Mk.ne (M.1) W (Mk.l0 hw) (Mk.l11 hw) (by decide), Mk.ne (M.2.1) W (Mk.l1 hw) (Mk.l11 hw) (by decide), Mk.ne (M.2.2.1) W (Mk.l2 hw) (Mk.l11 hw) (by decide), Mk.ne (M.2.2.2.1) W (Mk.l3 hw) (Mk.l11 hw) (by decide), Mk.ne (M.2.2.2.2.1) W (Mk.l4 hw) (Mk.l11 hw) (by decide), Mk.ne (M.2.2.2.2.2.1) W (Mk.l5 hw) (Mk.l11 hw) (by decide), Mk.ne (M.2.2.2.2.2.2.1) W (Mk.l6 hw) (Mk.l11 hw) (by decide), Mk.ne (M.2.2.2.2.2.2.2.1) W (Mk.l7 hw) (Mk.l11 hw) (by decide), Mk.ne (M.2.2.2.2.2.2.2.2.1) W (Mk.l8 hw) (Mk.l11 hw) (by decide), Mk.ne (M.2.2.2.2.2.2.2.2.2.1) W (Mk.l9 hw) (Mk.l11 hw) (by decide), Mk.ne (M.2.2.2.2.2.2.2.2.2.2.1) W (Mk.l10 hw) (Mk.l11 hw) (by decide), (M.2.2.2.2.2.2.2.2.2.2.2.1).same W, Mk.ne (M.2.2.2.2.2.2.2.2.2.2.2.2) W (Mk.l12 hw) (Mk.l11 hw) (by decide)⟩
theorem Mk.put_attributesLeft (hw : ∀ d ∈ tables_1, d.before a0 Z = true) (M : Mk Z h a v0 v1 v2 v3 v4 v5 v6 v7 v8 v9 v10 v11 v12) (W : Wr h h' a (Jvm.RoadKit.slotOf Z cA "attributesLeft" "Z") w) : Mk Z h' a v0 v1 v2 v3 v4 v5 v6 v7 v8 v9 v10 v11 w := ⟨Mk.ne (M.1) W (Mk.l0 hw) (Mk.l12 hw) (by decide), Mk.ne (M.2.1) W (Mk.l1 hw) (Mk.l12 hw) (by decide), Mk.ne (M.2.2.1) W (Mk.l2 hw) (Mk.l12 hw) (by decide), Mk.ne (M.2.2.2.1) W (Mk.l3 hw) (Mk.l12 hw) (by decide), Mk.ne (M.2.2.2.2.1) W (Mk.l4 hw) (Mk.l12 hw) (by decide), Mk.ne (M.2.2.2.2.2.1) W (Mk.l5 hw) (Mk.l12 hw) (by decide), Mk.ne (M.2.2.2.2.2.2.1) W (Mk.l6 hw) (Mk.l12 hw) (by decide), Mk.ne (M.2.2.2.2.2.2.2.1) W (Mk.l7 hw) (Mk.l12 hw) (by decide), Mk.ne (M.2.2.2.2.2.2.2.2.1) W (Mk.l8 hw) (Mk.l12 hw) (by decide), Mk.ne (M.2.2.2.2.2.2.2.2.2.1) W (Mk.l9 hw) (Mk.l12 hw) (by decide), Mk.ne (M.2.2.2.2.2.2.2.2.2.2.1) W (Mk.l10 hw) (Mk.l12 hw) (by decide), Mk.ne (M.2.2.2.2.2.2.2.2.2.2.2.1) W (Mk.l11 hw) (Mk.l12 hw) (by decide), (M.2.2.2.2.2.2.2.2.2.2.2.2).same W⟩
end
theorem pn_0 : plainName cA = true := by first | (simp [plainName, overriddenIn]; done) | decide +kernel
theorem efIsp {m : MethodId} {p0 : Int32} : entryFrame m #[(.int p0)] 1 = mkF m 0 #[.val (.int p0)] [] := by first | (simp [entryFrame, mkF, argsToLocals, Value.category]; done) | rfl
def QIsp (Z : State) (p0 : Int32) (h0 : Heap) (n0 : Nat) (v : Option Value) (h : Heap) (L : List Loc) : Prop := v = some (.int (own_b (own_isp p0))) ∧ Fr n0 L ∧ h = h0
theorem rmIsp (l : Launch) (Z : State) (a0 : Array Value) (hw : HW a0 Z) (ws : List Jvm.Cond) (p0 : Int32) (h0 : Heap) (n0 : Nat) (Z0 : n0 ≤ h0.size)  :
    Con l mn0 (Jvm.Cond.code mn0 prog_7_method_21_code 1 (some .boolean)) ws (⟨0, 0, 0, 0⟩ : Jvm.Room) #[(.int p0)] Z h0 (QIsp Z p0 h0 n0) := by
  refine own_of (plainFor_of_name pn_0) hisR dl_prog_7_21 ?_
  intro p e s m below meth c s₁ hx D hlk hret hml hZ hown hnm X0 e0
  replace hown : s.vm.findClass cA = some m.cls := hown
  have N0 := Fr.nil n0
  rw [efIsp]
  refine OFin.of (S' := s₁.setTop (mkF m 3 #[.val (.int p0)] [(.int (32 : Int32)), (.int p0)])) (fun t ht => iN X0 hx rfl (D 0 rfl) rfl (bP X0 hx rfl (D 1 rfl) ht)) ?_
  by_cases hc1 : p0 = (32 : Int32)
  · refine OFin.of (S' := s₁.setTop (mkF m 29 #[.val (.int p0)] [(.int (1 : Int32))])) (fun t ht => cY X0 hx rfl 3 24 rfl (D 2 rfl) rfl (teq hc1).1 (by decide) (iC X0 hx rfl (D 3 rfl) (gO X0 hx rfl 25 29 rfl (D 4 rfl) (by decide) ht))) ?_
    exact OFin.retB X0 hx hlk (t := .boolean) (by simp) hret (D 5 rfl) (by decide) (by decide) (by rw [e0]; exact ⟨(by show some (Value.int (1 : Int32)) = _; simp [own_isp, own_b, hc1]), N0, rfl⟩)
  · refine OFin.of (S' := s₁.setTop (mkF m 9 #[.val (.int p0)] [(.int (9 : Int32)), (.int p0)])) (fun t ht => cN X0 hx rfl (D 2 rfl) rfl (feq hc1).1 (iN X0 hx rfl (D 6 rfl) rfl (bP X0 hx rfl (D 7 rfl) ht))) ?_
    by_cases hc2 : p0 = (9 : Int32)
    · refine OFin.of (S' := s₁.setTop (mkF m 29 #[.val (.int p0)] [(.int (1 : Int32))])) (fun t ht => cY X0 hx rfl 9 24 rfl (D 8 rfl) rfl (teq hc2).1 (by decide) (iC X0 hx rfl (D 3 rfl) (gO X0 hx rfl 25 29 rfl (D 4 rfl) (by decide) ht))) ?_
      exact OFin.retB X0 hx hlk (t := .boolean) (by simp) hret (D 5 rfl) (by decide) (by decide) (by rw [e0]; exact ⟨(by show some (Value.int (1 : Int32)) = _; simp [own_isp, own_b, hc1, hc2]), N0, rfl⟩)
    · refine OFin.of (S' := s₁.setTop (mkF m 15 #[.val (.int p0)] [(.int (10 : Int32)), (.int p0)])) (fun t ht => cN X0 hx rfl (D 8 rfl) rfl (feq hc2).1 (iN X0 hx rfl (D 9 rfl) rfl (bP X0 hx rfl (D 10 rfl) ht))) ?_
      by_cases hc3 : p0 = (10 : Int32)
      · refine OFin.of (S' := s₁.setTop (mkF m 29 #[.val (.int p0)] [(.int (1 : Int32))])) (fun t ht => cY X0 hx rfl 15 24 rfl (D 11 rfl) rfl (teq hc3).1 (by decide) (iC X0 hx rfl (D 3 rfl) (gO X0 hx rfl 25 29 rfl (D 4 rfl) (by decide) ht))) ?_
        exact OFin.retB X0 hx hlk (t := .boolean) (by simp) hret (D 5 rfl) (by decide) (by decide) (by rw [e0]; exact ⟨(by show some (Value.int (1 : Int32)) = _; simp [own_isp, own_b, hc1, hc2, hc3]), N0, rfl⟩)
      · refine OFin.of (S' := s₁.setTop (mkF m 21 #[.val (.int p0)] [(.int (13 : Int32)), (.int p0)])) (fun t ht => cN X0 hx rfl (D 11 rfl) rfl (feq hc3).1 (iN X0 hx rfl (D 12 rfl) rfl (bP X0 hx rfl (D 13 rfl) ht))) ?_
        by_cases hc4 : p0 = (13 : Int32)
        · refine OFin.of (S' := s₁.setTop (mkF m 29 #[.val (.int p0)] [(.int (1 : Int32))])) (fun t ht => cN X0 hx rfl (D 14 rfl) rfl (teq hc4).2 (iC X0 hx rfl (D 3 rfl) (gO X0 hx rfl 25 29 rfl (D 4 rfl) (by decide) ht))) ?_
          exact OFin.retB X0 hx hlk (t := .boolean) (by simp) hret (D 5 rfl) (by decide) (by decide) (by rw [e0]; exact ⟨(by show some (Value.int (1 : Int32)) = _; simp [own_isp, own_b, hc1, hc2, hc3, hc4]), N0, rfl⟩)
        · refine OFin.of (S' := s₁.setTop (mkF m 29 #[.val (.int p0)] [(.int (0 : Int32))])) (fun t ht => cY X0 hx rfl 21 28 rfl (D 14 rfl) rfl (feq hc4).2 (by decide) (iC X0 hx rfl (D 15 rfl) ht)) ?_
          exact OFin.retB X0 hx hlk (t := .boolean) (by simp) hret (D 5 rfl) (by decide) (by decide) (by rw [e0]; exact ⟨(by show some (Value.int (0 : Int32)) = _; simp [own_isp, own_b, hc1, hc2, hc3, hc4]), N0, rfl⟩)
theorem efEns {m : MethodId} {p0 : Int32} : entryFrame m #[(.int p0)] 1 = mkF m 0 #[.val (.int p0)] [] := by first | (simp [entryFrame, mkF, argsToLocals, Value.category]; done) | rfl
def QEns (Z : State) (p0 : Int32) (h0 : Heap) (n0 : Nat) (v : Option Value) (h : Heap) (L : List Loc) : Prop := v = some (.int (own_b (own_en p0))) ∧ Fr n0 L ∧ h = h0
theorem rmEns (l : Launch) (Z : State) (a0 : Array Value) (hw : HW a0 Z) (ws : List Jvm.Cond) (p0 : Int32) (h0 : Heap) (n0 : Nat) (Z0 : n0 ≤ h0.size)  :
    Con l mn1 (Jvm.Cond.code mn1 prog_7_method_19_code 1 (some .boolean)) ws (⟨0, 0, 0, 0⟩ : Jvm.Room) #[(.int p0)] Z h0 (QEns Z p0 h0 n0) := by
  refine own_of (plainFor_of_name pn_0) hisR dl_prog_7_19 ?_
  intro p e s m below meth c s₁ hx D hlk hret hml hZ hown hnm X0 e0
  replace hown : s.vm.findClass cA = some m.cls := hown
  have N0 := Fr.nil n0
  rw [efEns]
  refine OFin.of (S' := s₁.setTop (mkF m 1 #[.val (.int p0)] [(.int p0)])) (fun t ht => iN X0 hx rfl (D 0 rfl) rfl ht) ?_
  by_cases hc1 : p0 < (0 : Int32)
  · refine OFin.of (S' := s₁.setTop (mkF m 27 #[.val (.int p0)] [(.int (0 : Int32))])) (fun t ht => fY X0 hx rfl 1 26 rfl (D 1 rfl) rfl ((if0 _ _).trans (tlt hc1).1) (by decide) (iC X0 hx rfl (D 2 rfl) ht)) ?_
    exact OFin.retB X0 hx hlk (t := .boolean) (by simp) hret (D 3 rfl) (by decide) (by decide) (by rw [e0]; exact ⟨(by show some (Value.int (0 : Int32)) = _; rw [own_en_neg hc1]; rfl), N0, rfl⟩)
  · refine OFin.of (S' := s₁.setTop (mkF m 7 #[.val (.int p0)] [(.int (64 : Int32)), (.int p0)])) (fun t ht => fN X0 hx rfl (D 1 rfl) rfl ((if0 _ _).trans (flt hc1).1) (iN X0 hx rfl (D 4 rfl) rfl (bP X0 hx rfl (D 5 rfl) ht))) ?_
    by_cases hc2 : p0 < (64 : Int32)
    · refine OFin.of (S' := s₁.setTop (mkF m 19 #[.val (.int p0)] [(.int (lcmpW ((((6917669769424414208 : Int64).toUInt64 >>> (p0 &&& 0x3f).toInt64.toUInt64).toInt64) &&& (1 : Int64)) (0 : Int64)))])) (fun t ht => cN X0 hx rfl (D 6 rfl) rfl (tlt hc2).2.1 (X0.ldc2Long hx hown (mvT hZ (wt hw 64 rfl)) (g := (mkF m 10 #[.val (.int p0)] [])) rfl (D 7 rfl) _ (iN X0 hx rfl (D 8 rfl) rfl (XS.lushr X0.here hx rfl (D 9 rfl) rfl (XS.lconst X0.here hx rfl (D 10 rfl) (XS.land X0.here hx rfl (D 11 rfl) rfl (XS.lconst X0.here hx rfl (D 12 rfl) (XS.lcmp X0.here hx rfl (D 13 rfl) rfl ht)))))))) ?_
      by_cases hc3 : (lcmpW ((((6917669769424414208 : Int64).toUInt64 >>> (p0 &&& 0x3f).toInt64.toUInt64).toInt64) &&& (1 : Int64)) (0 : Int64)) = (0 : Int32)
      · refine OFin.of (S' := s₁.setTop (mkF m 27 #[.val (.int p0)] [(.int (0 : Int32))])) (fun t ht => fY X0 hx rfl 19 26 rfl (D 14 rfl) rfl ((if0 _ _).trans (teq hc3).1) (by decide) (iC X0 hx rfl (D 2 rfl) ht)) ?_
        exact OFin.retB X0 hx hlk (t := .boolean) (by simp) hret (D 3 rfl) (by decide) (by decide) (by rw [e0]; exact ⟨(by show some (Value.int (0 : Int32)) = _; rw [own_en_f hc1 hc2 hc3]; rfl), N0, rfl⟩)
      · refine OFin.of (S' := s₁.setTop (mkF m 27 #[.val (.int p0)] [(.int (1 : Int32))])) (fun t ht => fN X0 hx rfl (D 14 rfl) rfl ((if0 _ _).trans (feq hc3).1) (iC X0 hx rfl (D 15 rfl) (gO X0 hx rfl 23 27 rfl (D 16 rfl) (by decide) ht))) ?_
        exact OFin.retB X0 hx hlk (t := .boolean) (by simp) hret (D 3 rfl) (by decide) (by decide) (by rw [e0]; exact ⟨(by show some (Value.int (1 : Int32)) = _; rw [own_en_t hc1 hc2 hc3]; rfl), N0, rfl⟩)
    · refine OFin.of (S' := s₁.setTop (mkF m 27 #[.val (.int p0)] [(.int (0 : Int32))])) (fun t ht => cY X0 hx rfl 7 26 rfl (D 6 rfl) rfl (flt hc2).2.1 (by decide) (iC X0 hx rfl (D 2 rfl) ht)) ?_
      exact OFin.retB X0 hx hlk (t := .boolean) (by simp) hret (D 3 rfl) (by decide) (by decide) (by rw [e0]; exact ⟨(by show some (Value.int (0 : Int32)) = _; rw [own_en_big hc2]; rfl), N0, rfl⟩)
theorem efIx {m : MethodId} {a0 : Addr} {p1 : Int32} {i0 : Nat} : entryFrame m #[(.ref a0), (.int p1), (.int (Int32.ofNat i0))] 4 = mkF m 0 #[.val (.ref a0), .val (.int p1), .val (.int (Int32.ofNat i0)), .unset] [] := by first | (simp [entryFrame, mkF, argsToLocals, Value.category]; done) | rfl
def QIx (Z : State) (a0 : Addr) (p1 : Int32) (tx : Addr) (kt : ClassId) (nt : Int32) (pre : List Int32) (i0 : Nat) (r : Int32) (h0 : Heap) (n0 : Nat) (v : Option Value) (h : Heap) (L : List Loc) : Prop := v = some (.int r) ∧ Fr n0 L ∧ h = h0
theorem rmIx (l : Launch) (Z : State) (a0 : Array Value) (hw : HW a0 Z) (ws : List Jvm.Cond) (a0 : Addr) (p1 : Int32) (tx : Addr) (kt : ClassId) (nt : Int32) (pre : List Int32) (i0 : Nat) (r : Int32) (h0 : Heap) (n0 : Nat) (Z0 : n0 ≤ h0.size) (Ft : Fld Z h0 a0 cA "text" "[B" (.ref tx)) (Fe : Fld Z h0 a0 cA "end" "I" (.int (Int32.ofNat pre.length))) (Tx : Txt Z h0 tx kt nt pre) (hi0 : i0 ≤ pre.length) (hr : own_ix pre p1 i0 = r) :
    Con l mn2 (Jvm.Cond.code mn2 prog_7_method_25_code 4 (some .int)) ws (⟨0, 0, 0, 0⟩ : Jvm.Room) #[(.ref a0), (.int p1), (.int (Int32.ofNat i0))] Z h0 (QIx Z a0 p1 tx kt nt pre i0 r h0 n0) := by
  refine own_of (plainFor_of_name pn_0) hisR dl_prog_7_25 ?_
  intro p e s m below meth c s₁ hx D hlk hret hml hZ hown hnm X0 e0
  replace hown : s.vm.findClass cA = some m.cls := hown
  have N0 := Fr.nil n0
  rw [efIx]
  refine OFin.of (S' := s₁.setTop (mkF m 2 #[.val (.ref a0), .val (.int p1), .val (.int (Int32.ofNat i0)), .val (.int (Int32.ofNat i0))] [])) (fun t ht => iN X0 hx rfl (D 0 rfl) rfl (XS.istoreN X0.here hx rfl (D 1 rfl) rfl (l' := #[.val (.ref a0), .val (.int p1), .val (.int (Int32.ofNat i0)), .val (.int (Int32.ofNat i0))]) rfl ht)) ?_
  have lp1 : ∀ (kk i : Nat) (hk : i + kk = pre.length) (hf : own_find (fun x => decide (x = p1)) pre i = own_find (fun x => decide (x = p1)) pre i0) {Tl : State} {locs : List Loc} (Xl : Stand p l e (⟨0, 0, 0, 0⟩ : Jvm.Room) s m #[(.ref a0), (.int p1), (.int (Int32.ofNat i0))] below meth c Tl locs 0 0) (el : Tl.heap = h0) (Nl : Fr n0 locs), OFin p e below (KPost s (QIx Z a0 p1 tx kt nt pre i0 r h0 n0) (⟨0, 0, 0, 0⟩ : Jvm.Room).cells (⟨0, 0, 0, 0⟩ : Jvm.Room).slots) (Tl.setTop (mkF m 2 #[.val (.ref a0), .val (.int p1), .val (.int (Int32.ofNat i0)), .val (.int (Int32.ofNat i))] [])) := by
    intro kk
    induction kk with
    | zero => 
      intro i hk hf Tl locs Xl el Nl
      obtain ⟨T2, X2, e2, st2⟩ := getF Xl hx hZ hown (host := "") (Or.inl (wt hw 31 rfl)) Via.refl el Fe (g := (mkF m 4 #[.val (.ref a0), .val (.int p1), .val (.int (Int32.ofNat i0)), .val (.int (Int32.ofNat i))] [(.ref a0), (.int (Int32.ofNat i))])) rfl rfl (D 4 rfl)
      refine OFin.of (fun t ht => iN Xl hx rfl (D 2 rfl) rfl (aN Xl hx rfl (D 3 rfl) rfl rfl (st2 t ht))) ?_
      refine OFin.of (S' := T2.setTop (mkF m 29 #[.val (.ref a0), .val (.int p1), .val (.int (Int32.ofNat i0)), .val (.int (Int32.ofNat i))] [(.int (-1 : Int32))])) (fun t ht => cY X2 hx rfl 7 28 rfl (D 5 rfl) rfl (flt (own_z7 Tx hk : ¬ ((Int32.ofNat i) < (Int32.ofNat pre.length)))).2.1 (by decide) (iC X2 hx rfl (D 6 rfl) ht)) ?_
      exact OFin.retI X2 hx hlk hret (D 7 rfl) (by decide) (by decide) (by rw [e2]; exact ⟨(by rw [← hr, own_ixz hk hf]), Nl, rfl⟩)
    | succ kk ih => 
      intro i hk hf Tl locs Xl el Nl
      obtain ⟨T3, X3, e3, st3⟩ := getF Xl hx hZ hown (host := "") (Or.inl (wt hw 31 rfl)) Via.refl el Fe (g := (mkF m 4 #[.val (.ref a0), .val (.int p1), .val (.int (Int32.ofNat i0)), .val (.int (Int32.ofNat i))] [(.ref a0), (.int (Int32.ofNat i))])) rfl rfl (D 4 rfl)
      refine OFin.of (fun t ht => iN Xl hx rfl (D 2 rfl) rfl (aN Xl hx rfl (D 3 rfl) rfl rfl (st3 t ht))) ?_
      obtain ⟨T4, X4, e4, st4⟩ := getF X3 hx hZ hown (host := "") (Or.inl (wt hw 27 rfl)) Via.refl e3 Ft (g := (mkF m 11 #[.val (.ref a0), .val (.int p1), .val (.int (Int32.ofNat i0)), .val (.int (Int32.ofNat i))] [(.ref a0)])) rfl rfl (D 9 rfl)
      refine OFin.of (fun t ht => cN X3 hx rfl (D 5 rfl) rfl (tlt (own_s7 Tx hk : (Int32.ofNat i) < (Int32.ofNat pre.length))).2.1 (aN X3 hx rfl (D 8 rfl) rfl rfl (st4 t ht))) ?_
      obtain ⟨cl5, Ar5, hin5, hat5⟩ := Txt.at Tx (j := (Int32.ofNat i)) (i := i) rfl (by omega)
      refine OFin.of (fun t ht => iN X4 hx rfl (D 10 rfl) rfl (X4.baloadBytes hx (j := (Int32.ofNat i)) (v := (.int (pre.getD i 0))) (by rw [e4]; exact Ar5.1) (State.isArrayOf_alike hZ.alike Ar5.2.1) Ar5.2.2 hin5 hat5 (g := (mkF m 15 #[.val (.ref a0), .val (.int p1), .val (.int (Int32.ofNat i0)), .val (.int (Int32.ofNat i))] [(.int (Int32.ofNat i)), (.ref tx)])) rfl rfl (D 11 rfl) _ ht)) ?_
      refine OFin.of (S' := T4.setTop (mkF m 17 #[.val (.ref a0), .val (.int p1), .val (.int (Int32.ofNat i0)), .val (.int (Int32.ofNat i))] [(.int p1), (.int (pre.getD i 0))])) (fun t ht => iN X4 hx rfl (D 12 rfl) rfl ht) ?_
      by_cases hc6 : (pre.getD i 0) = p1
      · refine OFin.of (S' := T4.setTop (mkF m 21 #[.val (.ref a0), .val (.int p1), .val (.int (Int32.ofNat i0)), .val (.int (Int32.ofNat i))] [(.int (Int32.ofNat i))])) (fun t ht => cN X4 hx rfl (D 13 rfl) rfl (teq hc6).2 (iN X4 hx rfl (D 14 rfl) rfl ht)) ?_
        exact OFin.retI X4 hx hlk hret (D 15 rfl) (by decide) (by decide) (by rw [e4]; exact ⟨(by rw [← hr, own_ixs (by omega) (decide_eq_true hc6) hf]), Nl, rfl⟩)
      · refine OFin.of (S' := T4.setTop (mkF m 2 #[.val (.ref a0), .val (.int p1), .val (.int (Int32.ofNat i0)), .val (.int ((Int32.ofNat i) + (1 : Int32)))] [])) (fun t ht => cY X4 hx rfl 17 22 rfl (D 13 rfl) rfl (feq hc6).2 (by decide) (iI X4 hx rfl (D 16 rfl) rfl (l' := #[.val (.ref a0), .val (.int p1), .val (.int (Int32.ofNat i0)), .val (.int ((Int32.ofNat i) + (1 : Int32)))]) rfl (gO X4 hx rfl 25 2 rfl (D 17 rfl) (by decide) ht))) ?_
        rw [own_succ]
        exact ih (i + 1) (by omega) ((own_find_no (by omega) (decide_eq_false hc6)).symm.trans hf) X4 e4 Nl
  exact lp1 _ i0 (Nat.add_sub_cancel' hi0) rfl X0 e0 N0
theorem efPs {m : MethodId} {a0 : Addr} {i0 : Nat} : entryFrame m #[(.ref a0), (.int (Int32.ofNat i0))] 2 = mkF m 0 #[.val (.ref a0), .val (.int (Int32.ofNat i0))] [] := by first | (simp [entryFrame, mkF, argsToLocals, Value.category]; done) | rfl
def QPs (Z : State) (a0 tx : Addr) (kt : ClassId) (nt : Int32) (pre : List Int32) (i0 j0 : Nat) (h0 : Heap) (n0 : Nat) (v : Option Value) (h : Heap) (L : List Loc) : Prop := v = some (.int (Int32.ofNat j0)) ∧ Fr n0 L ∧ h = h0
theorem rmPs (l : Launch) (Z : State) (a0 : Array Value) (hw : HW a0 Z) (ws : List Jvm.Cond) (a0 tx : Addr) (kt : ClassId) (nt : Int32) (pre : List Int32) (i0 j0 : Nat) (h0 : Heap) (n0 : Nat) (Z0 : n0 ≤ h0.size) (Ft : Fld Z h0 a0 cA "text" "[B" (.ref tx)) (Fe : Fld Z h0 a0 cA "end" "I" (.int (Int32.ofNat pre.length))) (Tx : Txt Z h0 tx kt nt pre) (hi0 : i0 ≤ pre.length) (hj0 : own_find (fun x => !own_isp x) pre i0 = j0) :
    Con l mn3 (Jvm.Cond.code mn3 prog_7_method_20_code 2 (some .int)) ws (⟨1, 0, 0, 12⟩ : Jvm.Room) #[(.ref a0), (.int (Int32.ofNat i0))] Z h0 (QPs Z a0 tx kt nt pre i0 j0 h0 n0) := by
  refine own_of (plainFor_of_name pn_0) hisR dl_prog_7_20 ?_
  intro p e s m below meth c s₁ hx D hlk hret hml hZ hown hnm X0 e0
  replace hown : s.vm.findClass cA = some m.cls := hown
  have N0 := Fr.nil n0
  rw [efPs]
  have lp1 : ∀ (kk i : Nat) (hk : i + kk = pre.length) (hf : own_find (fun x => !own_isp x) pre i = own_find (fun x => !own_isp x) pre i0) {Tl : State} {locs : List Loc} (Xl : Stand p l e (⟨1, 0, 0, 12⟩ : Jvm.Room) s m #[(.ref a0), (.int (Int32.ofNat i0))] below meth c Tl locs 0 0) (el : Tl.heap = h0) (Nl : Fr n0 locs), OFin p e below (KPost s (QPs Z a0 tx kt nt pre i0 j0 h0 n0) (⟨1, 0, 0, 12⟩ : Jvm.Room).cells (⟨1, 0, 0, 12⟩ : Jvm.Room).slots) (Tl.setTop (mkF m 0 #[.val (.ref a0), .val (.int (Int32.ofNat i))] [])) := by
    intro kk
    induction kk with
    | zero => 
      intro i hk hf Tl locs Xl el Nl
      obtain ⟨T2, X2, e2, st2⟩ := getF Xl hx hZ hown (host := "") (Or.inl (wt hw 31 rfl)) Via.refl el Fe (g := (mkF m 2 #[.val (.ref a0), .val (.int (Int32.ofNat i))] [(.ref a0), (.int (Int32.ofNat i))])) rfl rfl (D 2 rfl)
      refine OFin.of (fun t ht => iN Xl hx rfl (D 0 rfl) rfl (aN Xl hx rfl (D 1 rfl) rfl rfl (st2 t ht))) ?_
      refine OFin.of (S' := T2.setTop (mkF m 27 #[.val (.ref a0), .val (.int (Int32.ofNat i))] [(.int (Int32.ofNat i))])) (fun t ht => cY X2 hx rfl 5 26 rfl (D 3 rfl) rfl (flt (own_z7 Tx hk : ¬ ((Int32.ofNat i) < (Int32.ofNat pre.length)))).2.1 (by decide) (iN X2 hx rfl (D 4 rfl) rfl ht)) ?_
      exact OFin.retI X2 hx hlk hret (D 5 rfl) (by decide) (by decide) (by rw [e2]; exact ⟨(by rw [← hj0, ← hf, own_fz hk]), Nl, rfl⟩)
    | succ kk ih => 
      intro i hk hf Tl locs Xl el Nl
      obtain ⟨T3, X3, e3, st3⟩ := getF Xl hx hZ hown (host := "") (Or.inl (wt hw 31 rfl)) Via.refl el Fe (g := (mkF m 2 #[.val (.ref a0), .val (.int (Int32.ofNat i))] [(.ref a0), (.int (Int32.ofNat i))])) rfl rfl (D 2 rfl)
      refine OFin.of (fun t ht => iN Xl hx rfl (D 0 rfl) rfl (aN Xl hx rfl (D 1 rfl) rfl rfl (st3 t ht))) ?_
      obtain ⟨T4, X4, e4, st4⟩ := getF X3 hx hZ hown (host := "") (Or.inl (wt hw 27 rfl)) Via.refl e3 Ft (g := (mkF m 9 #[.val (.ref a0), .val (.int (Int32.ofNat i))] [(.ref a0)])) rfl rfl (D 7 rfl)
      refine OFin.of (fun t ht => cN X3 hx rfl (D 3 rfl) rfl (tlt (own_s7 Tx hk : (Int32.ofNat i) < (Int32.ofNat pre.length))).2.1 (aN X3 hx rfl (D 6 rfl) rfl rfl (st4 t ht))) ?_
      obtain ⟨cl5, Ar5, hin5, hat5⟩ := Txt.at Tx (j := (Int32.ofNat i)) (i := i) rfl (by omega)
      refine OFin.of (fun t ht => iN X4 hx rfl (D 8 rfl) rfl (X4.baloadBytes hx (j := (Int32.ofNat i)) (v := (.int (pre.getD i 0))) (by rw [e4]; exact Ar5.1) (State.isArrayOf_alike hZ.alike Ar5.2.1) Ar5.2.2 hin5 hat5 (g := (mkF m 13 #[.val (.ref a0), .val (.int (Int32.ofNat i))] [(.int (Int32.ofNat i)), (.ref tx)])) rfl rfl (D 9 rfl) _ ht)) ?_
      obtain ⟨_, T6, Lc6, X6, hQ6, st6⟩ := own_cS X4 hx hw hZ hown 91 92 20 93 rfl rfl rfl rfl (by decide) (rmIsp l Z _ hw [] (pre.getD i 0) h0 n0 Z0 ) (by decide) (by decide) (g := (mkF m 14 #[.val (.ref a0), .val (.int (Int32.ofNat i))] [(.int (pre.getD i 0))])) rfl hml rfl (argsL := [(.int (pre.getD i 0))]) (rest := []) pd_0 rfl rfl rfl (W := 0) (Nat.le_of_eq rfl) (D 10 rfl) rfl e4 (by decide) (by decide)
      obtain ⟨rfl, Nq6, hs6⟩ := hQ6
      have N7 := Fr.app Nl Nq6
      refine OFin.to st6 ?_
      by_cases hc8 : (own_b (own_isp (pre.getD i 0))) = (0 : Int32)
      · refine OFin.of (S' := T6.setTop (mkF m 27 #[.val (.ref a0), .val (.int (Int32.ofNat i))] [(.int (Int32.ofNat i))])) (fun t ht => fY X6 hx rfl 17 26 rfl (D 11 rfl) rfl ((if0 _ _).trans (teq hc8).1) (by decide) (iN X6 hx rfl (D 4 rfl) rfl ht)) ?_
        exact OFin.retI X6 hx hlk hret (D 5 rfl) (by decide) (by decide) (by rw [hs6]; exact ⟨(by rw [← hj0, ← hf, own_find_yes (by omega) (own_isp0 hc8)]), N7, rfl⟩)
      · refine OFin.of (S' := T6.setTop (mkF m 0 #[.val (.ref a0), .val (.int ((Int32.ofNat i) + (1 : Int32)))] [])) (fun t ht => fN X6 hx rfl (D 11 rfl) rfl ((if0 _ _).trans (feq hc8).1) (iI X6 hx rfl (D 12 rfl) rfl (l' := #[.val (.ref a0), .val (.int ((Int32.ofNat i) + (1 : Int32)))]) rfl (gO X6 hx rfl 23 0 rfl (D 13 rfl) (by decide) ht))) ?_
        rw [own_succ]
        exact ih (i + 1) (by omega) ((own_find_no (by omega) (own_isp1 hc8)).symm.trans hf) X6 hs6 N7
  exact lp1 _ i0 (Nat.add_sub_cancel' hi0) rfl X0 e0 N0
theorem efRn {m : MethodId} {a0 : Addr} {i0 : Nat} : entryFrame m #[(.ref a0), (.int (Int32.ofNat i0))] 4 = mkF m 0 #[.val (.ref a0), .val (.int (Int32.ofNat i0)), .unset, .unset] [] := by first | (simp [entryFrame, mkF, argsToLocals, Value.category]; done) | rfl
def QRn (Z : State) (a0 tx : Addr) (kt : ClassId) (nt : Int32) (pre : List Int32) (vat : Int32) (vkd : Value) (vts vte vem vns vne vnh vvs vve val : Int32) (i0 j0 : Nat) (h0 : Heap) (n0 : Nat) (v : Option Value) (h : Heap) (L : List Loc) : Prop := ∃ hv : Int32, v = some (.int (Int32.ofNat j0)) ∧ Fr n0 L ∧ Keep h0 h [a0] ∧ Mk Z h a0 (.ref tx) (.int vat) (.int (Int32.ofNat pre.length)) vkd (.int vts) (.int vte) (.int vem) (.int (Int32.ofNat i0)) (.int (Int32.ofNat j0)) (.int hv) (.int vvs) (.int vve) (.int val)
theorem rmRn (l : Launch) (Z : State) (a0 : Array Value) (hw : HW a0 Z) (ws : List Jvm.Cond) (a0 tx : Addr) (kt : ClassId) (nt : Int32) (pre : List Int32) (vat : Int32) (vkd : Value) (vts vte vem vns vne vnh vvs vve val : Int32) (i0 j0 : Nat) (h0 : Heap) (n0 : Nat) (Z0 : n0 ≤ h0.size) (EO : Exa Z h0 a0 cA) (M0 : Mk Z h0 a0 (.ref tx) (.int vat) (.int (Int32.ofNat pre.length)) vkd (.int vts) (.int vte) (.int vem) (.int vns) (.int vne) (.int vnh) (.int vvs) (.int vve) (.int val)) (Tx : Txt Z h0 tx kt nt pre) (g0 : n0 ≤ a0) (hnt : tx ≠ a0) (hi0 : i0 ≤ pre.length) (hj0 : own_find own_en pre i0 = j0) :
    Con l mn4 (Jvm.Cond.code mn4 prog_7_method_15_code 4 (some .int)) ws (⟨1, 0, 0, 12⟩ : Jvm.Room) #[(.ref a0), (.int (Int32.ofNat i0))] Z h0 (QRn Z a0 tx kt nt pre vat vkd vts vte vem vns vne vnh vvs vve val i0 j0 h0 n0) := by
  refine own_of (plainFor_of_name pn_0) hisR dl_prog_7_15 ?_
  intro p e s m below meth c s₁ hx D hlk hret hml hZ hown hnm X0 e0
  replace hown : s.vm.findClass cA = some m.cls := hown
  have N0 := Fr.nil n0
  rw [efRn]
  have K0 : Keep h0 h0 [a0] := Keep.refl _ _
  refine OFin.of (S' := s₁.setTop (mkF m 4 #[.val (.ref a0), .val (.int (Int32.ofNat i0)), .val (.int (Int32.ofNat i0)), .val (.int (0 : Int32))] [])) (fun t ht => iN X0 hx rfl (D 0 rfl) rfl (XS.istoreN X0.here hx rfl (D 1 rfl) rfl (l' := #[.val (.ref a0), .val (.int (Int32.ofNat i0)), .val (.int (Int32.ofNat i0)), .unset]) rfl (iC X0 hx rfl (D 2 rfl) (XS.istoreN X0.here hx rfl (D 3 rfl) rfl (l' := #[.val (.ref a0), .val (.int (Int32.ofNat i0)), .val (.int (Int32.ofNat i0)), .val (.int (0 : Int32))]) rfl ht)))) ?_
  have lp1 : ∀ (kk i : Nat) (hk : i + kk = pre.length) (hf : own_find own_en pre i = own_find own_en pre i0) (hs : Int32) {Tl : State} {locs : List Loc} (Xl : Stand p l e (⟨1, 0, 0, 12⟩ : Jvm.Room) s m #[(.ref a0), (.int (Int32.ofNat i0))] below meth c Tl locs 0 0) (el : Tl.heap = h0) (Nl : Fr n0 locs), OFin p e below (KPost s (QRn Z a0 tx kt nt pre vat vkd vts vte vem vns vne vnh vvs vve val i0 j0 h0 n0) (⟨1, 0, 0, 12⟩ : Jvm.Room).cells (⟨1, 0, 0, 12⟩ : Jvm.Room).slots) (Tl.setTop (mkF m 4 #[.val (.ref a0), .val (.int (Int32.ofNat i0)), .val (.int (Int32.ofNat i)), .val (.int hs)] [])) := by
    intro kk
    induction kk with
    | zero => 
      intro i hk hf hs Tl locs Xl el Nl
      obtain ⟨T2, X2, e2, st2⟩ := getF Xl hx hZ hown (host := "") (Or.inl (wt hw 31 rfl)) Via.refl el M0.g_end (g := (mkF m 6 #[.val (.ref a0), .val (.int (Int32.ofNat i0)), .val (.int (Int32.ofNat i)), .val (.int hs)] [(.ref a0), (.int (Int32.ofNat i))])) rfl rfl (D 6 rfl)
      refine OFin.of (fun t ht => iN Xl hx rfl (D 4 rfl) rfl (aN Xl hx rfl (D 5 rfl) rfl rfl (st2 t ht))) ?_
      obtain ⟨T3, h3, X3, e3, W3, st3⟩ := putF X2 hx hZ hown (host := "") (Or.inl (wt hw 65 rfl)) Via.refl e2 M0.g_nameStart EO (Or.inl (wt hw 66 rfl)) (wt hw 19 rfl) (ty := .int) (by decide) rfl rfl (g := (mkF m 44 #[.val (.ref a0), .val (.int (Int32.ofNat i0)), .val (.int (Int32.ofNat i)), .val (.int hs)] [(.int (Int32.ofNat i0)), (.ref a0)])) rfl rfl (D 10 rfl)
      have f4 := (EO.wr W3)
      have f5 := (Tx.other W3 hnt)
      have Z6 := Nat.le_trans Z0 (Keep.of_wr W3).1
      have K7 := K0.wr W3 (Or.inl (List.mem_of_getElem? (i := 0) rfl))
      have N8 := Fr.snoc X3 Nl g0
      have M9 := M0.put_nameStart hw W3
      refine OFin.of (fun t ht => cY X2 hx rfl 9 42 rfl (D 7 rfl) rfl (flt (own_z7 Tx hk : ¬ ((Int32.ofNat i) < (Int32.ofNat pre.length)))).2.1 (by decide) (aN X2 hx rfl (D 8 rfl) rfl rfl (iN X2 hx rfl (D 9 rfl) rfl (st3 t ht)))) ?_
      obtain ⟨T10, h10, X10, e10, W10, st10⟩ := putF X3 hx hZ hown (host := "") (Or.inl (wt hw 67 rfl)) Via.refl e3 M9.g_nameEnd f4 (Or.inl (wt hw 68 rfl)) (wt hw 19 rfl) (ty := .int) (by decide) rfl rfl (g := (mkF m 49 #[.val (.ref a0), .val (.int (Int32.ofNat i0)), .val (.int (Int32.ofNat i)), .val (.int hs)] [(.int (Int32.ofNat i)), (.ref a0)])) rfl rfl (D 13 rfl)
      have f11 := (f4.wr W10)
      have f12 := (f5.other W10 hnt)
      have Z13 := Nat.le_trans Z6 (Keep.of_wr W10).1
      have K14 := K7.wr W10 (Or.inl (List.mem_of_getElem? (i := 0) rfl))
      have N15 := Fr.snoc X10 N8 g0
      have M16 := M9.put_nameEnd hw W10
      refine OFin.of (fun t ht => aN X3 hx rfl (D 11 rfl) rfl rfl (iN X3 hx rfl (D 12 rfl) rfl (st10 t ht))) ?_
      obtain ⟨T17, h17, X17, e17, W17, st17⟩ := putF X10 hx hZ hown (host := "") (Or.inl (wt hw 69 rfl)) Via.refl e10 M16.g_nameHash f11 (Or.inl (wt hw 70 rfl)) (wt hw 19 rfl) (ty := .int) (by decide) rfl rfl (g := (mkF m 54 #[.val (.ref a0), .val (.int (Int32.ofNat i0)), .val (.int (Int32.ofNat i)), .val (.int hs)] [(.int hs), (.ref a0)])) rfl rfl (D 16 rfl)
      have f18 := (f11.wr W17)
      have f19 := (f12.other W17 hnt)
      have Z20 := Nat.le_trans Z13 (Keep.of_wr W17).1
      have K21 := K14.wr W17 (Or.inl (List.mem_of_getElem? (i := 0) rfl))
      have N22 := Fr.snoc X17 N15 g0
      have M23 := M16.put_nameHash hw W17
      refine OFin.of (fun t ht => aN X10 hx rfl (D 14 rfl) rfl rfl (iN X10 hx rfl (D 15 rfl) rfl (st17 t ht))) ?_
      refine OFin.of (S' := T17.setTop (mkF m 58 #[.val (.ref a0), .val (.int (Int32.ofNat i0)), .val (.int (Int32.ofNat i)), .val (.int hs)] [(.int (Int32.ofNat i))])) (fun t ht => iN X17 hx rfl (D 17 rfl) rfl ht) ?_
      exact OFin.retI X17 hx hlk hret (D 18 rfl) (by decide) (by decide) (by rw [e17]; exact ⟨hs, by rw [(hj0.symm.trans (hf.symm.trans (own_fz hk)))], N22, K21, by rw [(hj0.symm.trans (hf.symm.trans (own_fz hk)))]; exact M23⟩)
    | succ kk ih => 
      intro i hk hf hs Tl locs Xl el Nl
      obtain ⟨T24, X24, e24, st24⟩ := getF Xl hx hZ hown (host := "") (Or.inl (wt hw 31 rfl)) Via.refl el M0.g_end (g := (mkF m 6 #[.val (.ref a0), .val (.int (Int32.ofNat i0)), .val (.int (Int32.ofNat i)), .val (.int hs)] [(.ref a0), (.int (Int32.ofNat i))])) rfl rfl (D 6 rfl)
      refine OFin.of (fun t ht => iN Xl hx rfl (D 4 rfl) rfl (aN Xl hx rfl (D 5 rfl) rfl rfl (st24 t ht))) ?_
      obtain ⟨T25, X25, e25, st25⟩ := getF X24 hx hZ hown (host := "") (Or.inl (wt hw 27 rfl)) Via.refl e24 M0.g_text (g := (mkF m 13 #[.val (.ref a0), .val (.int (Int32.ofNat i0)), .val (.int (Int32.ofNat i)), .val (.int hs)] [(.ref a0)])) rfl rfl (D 20 rfl)
      refine OFin.of (fun t ht => cN X24 hx rfl (D 7 rfl) rfl (tlt (own_s7 Tx hk : (Int32.ofNat i) < (Int32.ofNat pre.length))).2.1 (aN X24 hx rfl (D 19 rfl) rfl rfl (st25 t ht))) ?_
      obtain ⟨cl26, Ar26, hin26, hat26⟩ := Txt.at Tx (j := (Int32.ofNat i)) (i := i) rfl (by omega)
      refine OFin.of (fun t ht => iN X25 hx rfl (D 21 rfl) rfl (X25.baloadBytes hx (j := (Int32.ofNat i)) (v := (.int (pre.getD i 0))) (by rw [e25]; exact Ar26.1) (State.isArrayOf_alike hZ.alike Ar26.2.1) Ar26.2.2 hin26 hat26 (g := (mkF m 17 #[.val (.ref a0), .val (.int (Int32.ofNat i0)), .val (.int (Int32.ofNat i)), .val (.int hs)] [(.int (Int32.ofNat i)), (.ref tx)])) rfl rfl (D 22 rfl) _ ht)) ?_
      obtain ⟨_, T27, Lc27, X27, hQ27, st27⟩ := own_cS X25 hx hw hZ hown 61 62 20 63 rfl rfl rfl rfl (by decide) (rmEns l Z _ hw [] (pre.getD i 0) h0 n0 Z0 ) (by decide) (by decide) (g := (mkF m 18 #[.val (.ref a0), .val (.int (Int32.ofNat i0)), .val (.int (Int32.ofNat i)), .val (.int hs)] [(.int (pre.getD i 0))])) rfl hml rfl (argsL := [(.int (pre.getD i 0))]) (rest := []) pd_0 rfl rfl rfl (W := 0) (Nat.le_of_eq rfl) (D 23 rfl) rfl e25 (by decide) (by decide)
      obtain ⟨rfl, Nq27, hs27⟩ := hQ27
      have N28 := Fr.app Nl Nq27
      refine OFin.to st27 ?_
      by_cases hc29 : (own_b (own_en (pre.getD i 0))) = (0 : Int32)
      · obtain ⟨T30, X30, e30, st30⟩ := getF X27 hx hZ hown (host := "") (Or.inl (wt hw 27 rfl)) Via.refl hs27 M0.g_text (g := (mkF m 29 #[.val (.ref a0), .val (.int (Int32.ofNat i0)), .val (.int (Int32.ofNat i)), .val (.int hs)] [(.ref a0), (.int ((31 : Int32) * hs))])) rfl rfl (D 29 rfl)
        refine OFin.of (fun t ht => fN X27 hx rfl (D 24 rfl) rfl ((if0 _ _).trans (teq hc29).2) (bP X27 hx rfl (D 25 rfl) (iN X27 hx rfl (D 26 rfl) rfl (XS.imul X27.here hx rfl (D 27 rfl) rfl (aN X27 hx rfl (D 28 rfl) rfl rfl (st30 t ht)))))) ?_
        obtain ⟨cl31, Ar31, hin31, hat31⟩ := Txt.at Tx (j := (Int32.ofNat i)) (i := i) rfl (by omega)
        refine OFin.of (fun t ht => iN X30 hx rfl (D 30 rfl) rfl (X30.baloadBytes hx (j := (Int32.ofNat i)) (v := (.int (pre.getD i 0))) (by rw [e30]; exact Ar31.1) (State.isArrayOf_alike hZ.alike Ar31.2.1) Ar31.2.2 hin31 hat31 (g := (mkF m 33 #[.val (.ref a0), .val (.int (Int32.ofNat i0)), .val (.int (Int32.ofNat i)), .val (.int hs)] [(.int (Int32.ofNat i)), (.ref tx), (.int ((31 : Int32) * hs))])) rfl rfl (D 31 rfl) _ ht)) ?_
        refine OFin.of (S' := T30.setTop (mkF m 4 #[.val (.ref a0), .val (.int (Int32.ofNat i0)), .val (.int ((Int32.ofNat i) + (1 : Int32))), .val (.int (((31 : Int32) * hs) + (pre.getD i 0)))] [])) (fun t ht => XS.iadd X30.here hx rfl (D 32 rfl) rfl (XS.istoreN X30.here hx rfl (D 33 rfl) rfl (l' := #[.val (.ref a0), .val (.int (Int32.ofNat i0)), .val (.int (Int32.ofNat i)), .val (.int (((31 : Int32) * hs) + (pre.getD i 0)))]) rfl (iI X30 hx rfl (D 34 rfl) rfl (l' := #[.val (.ref a0), .val (.int (Int32.ofNat i0)), .val (.int ((Int32.ofNat i) + (1 : Int32))), .val (.int (((31 : Int32) * hs) + (pre.getD i 0)))]) rfl (gO X30 hx rfl 39 4 rfl (D 35 rfl) (by decide) ht)))) ?_
        rw [own_succ]
        exact ih (i + 1) (by omega) ((own_find_no (by omega) (own_b0 hc29)).symm.trans hf) _ X30 e30 N28
      · obtain ⟨T32, h32, X32, e32, W32, st32⟩ := putF X27 hx hZ hown (host := "") (Or.inl (wt hw 65 rfl)) Via.refl hs27 M0.g_nameStart EO (Or.inl (wt hw 66 rfl)) (wt hw 19 rfl) (ty := .int) (by decide) rfl rfl (g := (mkF m 44 #[.val (.ref a0), .val (.int (Int32.ofNat i0)), .val (.int (Int32.ofNat i)), .val (.int hs)] [(.int (Int32.ofNat i0)), (.ref a0)])) rfl rfl (D 10 rfl)
        have f33 := (EO.wr W32)
        have f34 := (Tx.other W32 hnt)
        have Z35 := Nat.le_trans Z0 (Keep.of_wr W32).1
        have K36 := K0.wr W32 (Or.inl (List.mem_of_getElem? (i := 0) rfl))
        have N37 := Fr.snoc X32 N28 g0
        have M38 := M0.put_nameStart hw W32
        refine OFin.of (fun t ht => fY X27 hx rfl 21 42 rfl (D 24 rfl) rfl ((if0 _ _).trans (feq hc29).2) (by decide) (aN X27 hx rfl (D 8 rfl) rfl rfl (iN X27 hx rfl (D 9 rfl) rfl (st32 t ht)))) ?_
        obtain ⟨T39, h39, X39, e39, W39, st39⟩ := putF X32 hx hZ hown (host := "") (Or.inl (wt hw 67 rfl)) Via.refl e32 M38.g_nameEnd f33 (Or.inl (wt hw 68 rfl)) (wt hw 19 rfl) (ty := .int) (by decide) rfl rfl (g := (mkF m 49 #[.val (.ref a0), .val (.int (Int32.ofNat i0)), .val (.int (Int32.ofNat i)), .val (.int hs)] [(.int (Int32.ofNat i)), (.ref a0)])) rfl rfl (D 13 rfl)
        have f40 := (f33.wr W39)
        have f41 := (f34.other W39 hnt)
        have Z42 := Nat.le_trans Z35 (Keep.of_wr W39).1
        have K43 := K36.wr W39 (Or.inl (List.mem_of_getElem? (i := 0) rfl))
        have N44 := Fr.snoc X39 N37 g0
        have M45 := M38.put_nameEnd hw W39
        refine OFin.of (fun t ht => aN X32 hx rfl (D 11 rfl) rfl rfl (iN X32 hx rfl (D 12 rfl) rfl (st39 t ht))) ?_
        obtain ⟨T46, h46, X46, e46, W46, st46⟩ := putF X39 hx hZ hown (host := "") (Or.inl (wt hw 69 rfl)) Via.refl e39 M45.g_nameHash f40 (Or.inl (wt hw 70 rfl)) (wt hw 19 rfl) (ty := .int) (by decide) rfl rfl (g := (mkF m 54 #[.val (.ref a0), .val (.int (Int32.ofNat i0)), .val (.int (Int32.ofNat i)), .val (.int hs)] [(.int hs), (.ref a0)])) rfl rfl (D 16 rfl)
        have f47 := (f40.wr W46)
        have f48 := (f41.other W46 hnt)
        have Z49 := Nat.le_trans Z42 (Keep.of_wr W46).1
        have K50 := K43.wr W46 (Or.inl (List.mem_of_getElem? (i := 0) rfl))
        have N51 := Fr.snoc X46 N44 g0
        have M52 := M45.put_nameHash hw W46
        refine OFin.of (fun t ht => aN X39 hx rfl (D 14 rfl) rfl rfl (iN X39 hx rfl (D 15 rfl) rfl (st46 t ht))) ?_
        refine OFin.of (S' := T46.setTop (mkF m 58 #[.val (.ref a0), .val (.int (Int32.ofNat i0)), .val (.int (Int32.ofNat i)), .val (.int hs)] [(.int (Int32.ofNat i))])) (fun t ht => iN X46 hx rfl (D 17 rfl) rfl ht) ?_
        exact OFin.retI X46 hx hlk hret (D 18 rfl) (by decide) (by decide) (by rw [e46]; exact ⟨hs, by rw [(hj0.symm.trans (hf.symm.trans (own_find_yes (by omega) (own_b1 hc29))))], N51, K50, by rw [(hj0.symm.trans (hf.symm.trans (own_find_yes (by omega) (own_b1 hc29))))]; exact M52⟩)
  exact lp1 _ i0 (Nat.add_sub_cancel' hi0) rfl (0 : Int32) X0 e0 N0
theorem efBa {m : MethodId} {a0 : Addr} {i0 : Nat} : entryFrame m #[(.ref a0), (.int (Int32.ofNat i0))] 2 = mkF m 0 #[.val (.ref a0), .val (.int (Int32.ofNat i0))] [] := by first | (simp [entryFrame, mkF, argsToLocals, Value.category]; done) | rfl
def QBa (Z : State) (a0 tx : Addr) (kt : ClassId) (nt : Int32) (pre : List Int32) (i0 : Nat) (bv : Int32) (h0 : Heap) (n0 : Nat) (v : Option Value) (h : Heap) (L : List Loc) : Prop := v = some (.int bv) ∧ Fr n0 L ∧ h = h0
theorem rmBa (l : Launch) (Z : State) (a0 : Array Value) (hw : HW a0 Z) (ws : List Jvm.Cond) (a0 tx : Addr) (kt : ClassId) (nt : Int32) (pre : List Int32) (i0 : Nat) (bv : Int32) (h0 : Heap) (n0 : Nat) (Z0 : n0 ≤ h0.size) (Ft : Fld Z h0 a0 cA "text" "[B" (.ref tx)) (Fe : Fld Z h0 a0 cA "end" "I" (.int (Int32.ofNat pre.length))) (Tx : Txt Z h0 tx kt nt pre) (hi1 : i0 + 1 < pre.length) (hbv : nar .byte (pre.getD (i0 + 1) 0) = bv) :
    Con l mn5 (Jvm.Cond.code mn5 prog_7_method_16_code 2 (some .byte)) ws (⟨0, 0, 0, 0⟩ : Jvm.Room) #[(.ref a0), (.int (Int32.ofNat i0))] Z h0 (QBa Z a0 tx kt nt pre i0 bv h0 n0) := by
  refine own_of (plainFor_of_name pn_0) hisR dl_prog_7_16 ?_
  intro p e s m below meth c s₁ hx D hlk hret hml hZ hown hnm X0 e0
  replace hown : s.vm.findClass cA = some m.cls := hown
  have N0 := Fr.nil n0
  rw [efBa]
  obtain ⟨T1, X1, e1, st1⟩ := getF X0 hx hZ hown (host := "") (Or.inl (wt hw 31 rfl)) Via.refl e0 Fe (g := (mkF m 4 #[.val (.ref a0), .val (.int (Int32.ofNat i0))] [(.ref a0), (.int ((Int32.ofNat i0) + (1 : Int32)))])) rfl rfl (D 4 rfl)
  refine OFin.of (fun t ht => iN X0 hx rfl (D 0 rfl) rfl (iC X0 hx rfl (D 1 rfl) (XS.iadd X0.here hx rfl (D 2 rfl) rfl (aN X0 hx rfl (D 3 rfl) rfl rfl (st1 t ht))))) ?_
  obtain ⟨T2, X2, e2, st2⟩ := getF X1 hx hZ hown (host := "") (Or.inl (wt hw 27 rfl)) Via.refl e1 Ft (g := (mkF m 11 #[.val (.ref a0), .val (.int (Int32.ofNat i0))] [(.ref a0)])) rfl rfl (D 7 rfl)
  refine OFin.of (fun t ht => cN X1 hx rfl (D 5 rfl) rfl (tlt (own_ba Tx hi1 : ((Int32.ofNat i0) + (1 : Int32)) < (Int32.ofNat pre.length))).2.1 (aN X1 hx rfl (D 6 rfl) rfl rfl (st2 t ht))) ?_
  obtain ⟨cl3, Ar3, hin3, hat3⟩ := Txt.at Tx (j := ((Int32.ofNat i0) + (1 : Int32))) (i := (i0 + 1)) (own_succ i0) hi1
  refine OFin.of (fun t ht => iN X2 hx rfl (D 8 rfl) rfl (iC X2 hx rfl (D 9 rfl) (XS.iadd X2.here hx rfl (D 10 rfl) rfl (X2.baloadBytes hx (j := ((Int32.ofNat i0) + (1 : Int32))) (v := (.int (pre.getD (i0 + 1) 0))) (by rw [e2]; exact Ar3.1) (State.isArrayOf_alike hZ.alike Ar3.2.1) Ar3.2.2 hin3 hat3 (g := (mkF m 17 #[.val (.ref a0), .val (.int (Int32.ofNat i0))] [(.int ((Int32.ofNat i0) + (1 : Int32))), (.ref tx)])) rfl rfl (D 11 rfl) _ ht)))) ?_
  refine OFin.of (S' := T2.setTop (mkF m 22 #[.val (.ref a0), .val (.int (Int32.ofNat i0))] [(.int (pre.getD (i0 + 1) 0))])) (fun t ht => gO X2 hx rfl 18 22 rfl (D 12 rfl) (by decide) ht) ?_
  exact OFin.retB X2 hx hlk (t := .byte) (by simp) hret (D 13 rfl) (by decide) (by decide) (by rw [e2]; exact ⟨(by rw [hbv]), N0, rfl⟩)
theorem efTe {m : MethodId} {a0 : Addr} : entryFrame m #[(.ref a0)] 1 = mkF m 0 #[.val (.ref a0)] [] := by first | (simp [entryFrame, mkF, argsToLocals, Value.category]; done) | rfl
def QTe (Z : State) (a0 : Addr) (vg : Int32) (h0 : Heap) (n0 : Nat) (v : Option Value) (h : Heap) (L : List Loc) : Prop := v = some (.int vg) ∧ Fr n0 L ∧ h = h0
theorem rmTe (l : Launch) (Z : State) (a0 : Array Value) (hw : HW a0 Z) (ws : List Jvm.Cond) (a0 : Addr) (vg : Int32) (h0 : Heap) (n0 : Nat) (Z0 : n0 ≤ h0.size) (Fg : Fld Z h0 a0 cA "tagEnd" "I" (.int vg)) :
    Con l mn6 (Jvm.Cond.code mn6 prog_7_method_6_code 1 (some .int)) ws (⟨0, 0, 0, 0⟩ : Jvm.Room) #[(.ref a0)] Z h0 (QTe Z a0 vg h0 n0) := by
  refine own_of (plainFor_of_name pn_0) hisR dl_prog_7_6 ?_
  intro p e s m below meth c s₁ hx D hlk hret hml hZ hown hnm X0 e0
  replace hown : s.vm.findClass cA = some m.cls := hown
  have N0 := Fr.nil n0
  rw [efTe]
  obtain ⟨T1, X1, e1, st1⟩ := getF X0 hx hZ hown (host := "") (Or.inl (wt hw 55 rfl)) Via.refl e0 Fg (g := (mkF m 1 #[.val (.ref a0)] [(.ref a0)])) rfl rfl (D 1 rfl)
  refine OFin.of (fun t ht => aN X0 hx rfl (D 0 rfl) rfl rfl (st1 t ht)) ?_
  exact OFin.retI X1 hx hlk hret (D 2 rfl) (by decide) (by decide) (by rw [e1]; exact ⟨rfl, N0, rfl⟩)
theorem efEm {m : MethodId} {a0 : Addr} : entryFrame m #[(.ref a0)] 1 = mkF m 0 #[.val (.ref a0)] [] := by first | (simp [entryFrame, mkF, argsToLocals, Value.category]; done) | rfl
def QEm (Z : State) (a0 : Addr) (vg : Int32) (h0 : Heap) (n0 : Nat) (v : Option Value) (h : Heap) (L : List Loc) : Prop := v = some (.int vg) ∧ Fr n0 L ∧ h = h0
theorem rmEm (l : Launch) (Z : State) (a0 : Array Value) (hw : HW a0 Z) (ws : List Jvm.Cond) (a0 : Addr) (vg : Int32) (h0 : Heap) (n0 : Nat) (Z0 : n0 ≤ h0.size) (Fg : Fld Z h0 a0 cA "emptyElement" "Z" (.int vg)) (hn : nar .boolean vg = vg) :
    Con l mn7 (Jvm.Cond.code mn7 prog_7_method_7_code 1 (some .boolean)) ws (⟨0, 0, 0, 0⟩ : Jvm.Room) #[(.ref a0)] Z h0 (QEm Z a0 vg h0 n0) := by
  refine own_of (plainFor_of_name pn_0) hisR dl_prog_7_7 ?_
  intro p e s m below meth c s₁ hx D hlk hret hml hZ hown hnm X0 e0
  replace hown : s.vm.findClass cA = some m.cls := hown
  have N0 := Fr.nil n0
  rw [efEm]
  obtain ⟨T1, X1, e1, st1⟩ := getF X0 hx hZ hown (host := "") (Or.inl (wt hw 48 rfl)) Via.refl e0 Fg (g := (mkF m 1 #[.val (.ref a0)] [(.ref a0)])) rfl rfl (D 1 rfl)
  refine OFin.of (fun t ht => aN X0 hx rfl (D 0 rfl) rfl rfl (st1 t ht)) ?_
  exact OFin.retB X1 hx hlk (t := .boolean) (by simp) hret (D 2 rfl) (by decide) (by decide) (by rw [e1]; exact ⟨(by rw [hn]), N0, rfl⟩)
theorem efIni {m : MethodId} {a0 a1 : Addr} {p2 p3 : Int32} : entryFrame m #[(.ref a0), (.ref a1), (.int p2), (.int p3)] 4 = mkF m 0 #[.val (.ref a0), .val (.ref a1), .val (.int p2), .val (.int p3)] [] := by first | (simp [entryFrame, mkF, argsToLocals, Value.category]; done) | rfl
def QIni (Z : State) (a0 a1 : Addr) (p2 p3 : Int32) (h0 : Heap) (n0 : Nat) (v : Option Value) (h : Heap) (L : List Loc) : Prop := v = none ∧ Fr n0 L ∧ Keep h0 h [a0] ∧ Mk Z h a0 (.ref a1) (.int p2) (.int p3) .null (.int (0 : Int32)) (.int (0 : Int32)) (.int (0 : Int32)) (.int (0 : Int32)) (.int (0 : Int32)) (.int (0 : Int32)) (.int (0 : Int32)) (.int (0 : Int32)) (.int (0 : Int32))
theorem rmIni (l : Launch) (Z : State) (a0 : Array Value) (hw : HW a0 Z) (ws : List Jvm.Cond) (a0 a1 : Addr) (p2 p3 : Int32) (h0 : Heap) (n0 : Nat) (Z0 : n0 ≤ h0.size) (EO : Exa Z h0 a0 cA) (M0 : Mk Z h0 a0 .null (.int (0 : Int32)) (.int (0 : Int32)) .null (.int (0 : Int32)) (.int (0 : Int32)) (.int (0 : Int32)) (.int (0 : Int32)) (.int (0 : Int32)) (.int (0 : Int32)) (.int (0 : Int32)) (.int (0 : Int32)) (.int (0 : Int32))) (g0 : n0 ≤ a0) :
    Con l mn8 (Jvm.Cond.code mn8 prog_7_method_1_code 4 none) ws (⟨1, 0, 0, 12⟩ : Jvm.Room) #[(.ref a0), (.ref a1), (.int p2), (.int p3)] Z h0 (QIni Z a0 a1 p2 p3 h0 n0) := by
  refine own_of (plainFor_of_name pn_0) hisR dl_prog_7_1 ?_
  intro p e s m below meth c s₁ hx D hlk hret hml hZ hown hnm X0 e0
  replace hown : s.vm.findClass cA = some m.cls := hown
  have N0 := Fr.nil n0
  rw [efIni]
  have K0 : Keep h0 h0 [a0] := Keep.refl _ _
  obtain ⟨T1, X1, e1, st1⟩ := initO X0 hx hZ hown (wt hw 24 rfl) (wt hw 25 rfl) (wt hw 26 rfl) e0 (g := (mkF m 1 #[.val (.ref a0), .val (.ref a1), .val (.int p2), .val (.int p3)] [(.ref a0)])) rfl (by rw [hml]; rfl) rfl (D 1 rfl) (by decide) (W := 0) (by show 2 * 0 + _ ≤ _; exact Nat.le_of_eq rfl) (by decide)
  refine OFin.of (fun t ht => aN X0 hx rfl (D 0 rfl) rfl rfl (st1 t ht)) ?_
  obtain ⟨T2, h2, X2, e2, W2, st2⟩ := putF X1 hx hZ hown (host := "") (Or.inl (wt hw 27 rfl)) Via.refl e1 M0.g_text EO (Or.inr ⟨(wt hw 28 rfl), rfl, hnm⟩) (wt hw 19 rfl) (ty := (.array .byte)) (by decide) rfl rfl (g := (mkF m 6 #[.val (.ref a0), .val (.ref a1), .val (.int p2), .val (.int p3)] [(.ref a1), (.ref a0)])) rfl rfl (D 4 rfl)
  have f3 := (EO.wr W2)
  have Z4 := Nat.le_trans Z0 (Keep.of_wr W2).1
  have K5 := K0.wr W2 (Or.inl (List.mem_of_getElem? (i := 0) rfl))
  have N6 := Fr.snoc X2 N0 g0
  have M7 := M0.put_text hw W2
  refine OFin.of (fun t ht => aN X1 hx rfl (D 2 rfl) rfl rfl (aN X1 hx rfl (D 3 rfl) rfl rfl (st2 t ht))) ?_
  obtain ⟨T8, h8, X8, e8, W8, st8⟩ := putF X2 hx hZ hown (host := "") (Or.inl (wt hw 29 rfl)) Via.refl e2 M7.g_at f3 (Or.inl (wt hw 30 rfl)) (wt hw 19 rfl) (ty := .int) (by decide) rfl rfl (g := (mkF m 11 #[.val (.ref a0), .val (.ref a1), .val (.int p2), .val (.int p3)] [(.int p2), (.ref a0)])) rfl rfl (D 7 rfl)
  have f9 := (f3.wr W8)
  have Z10 := Nat.le_trans Z4 (Keep.of_wr W8).1
  have K11 := K5.wr W8 (Or.inl (List.mem_of_getElem? (i := 0) rfl))
  have N12 := Fr.snoc X8 N6 g0
  have M13 := M7.put_at hw W8
  refine OFin.of (fun t ht => aN X2 hx rfl (D 5 rfl) rfl rfl (iN X2 hx rfl (D 6 rfl) rfl (st8 t ht))) ?_
  obtain ⟨T14, h14, X14, e14, W14, st14⟩ := putF X8 hx hZ hown (host := "") (Or.inl (wt hw 31 rfl)) Via.refl e8 M13.g_end f9 (Or.inr ⟨(wt hw 32 rfl), rfl, hnm⟩) (wt hw 19 rfl) (ty := .int) (by decide) rfl rfl (g := (mkF m 16 #[.val (.ref a0), .val (.ref a1), .val (.int p2), .val (.int p3)] [(.int p3), (.ref a0)])) rfl rfl (D 10 rfl)
  have f15 := (f9.wr W14)
  have Z16 := Nat.le_trans Z10 (Keep.of_wr W14).1
  have K17 := K11.wr W14 (Or.inl (List.mem_of_getElem? (i := 0) rfl))
  have N18 := Fr.snoc X14 N12 g0
  have M19 := M13.put_end hw W14
  refine OFin.of (fun t ht => aN X8 hx rfl (D 8 rfl) rfl rfl (iN X8 hx rfl (D 9 rfl) rfl (st14 t ht))) ?_
  exact OFin.retV X14 hx hlk hret (D 11 rfl) (by decide) (by decide) (by rw [e14]; exact ⟨rfl, N18, K17, M19⟩)
theorem efNtS {m : MethodId} {a0 : Addr} : entryFrame m #[(.ref a0)] 5 = mkF m 0 #[.val (.ref a0), .unset, .unset, .unset, .unset] [] := by first | (simp [entryFrame, mkF, argsToLocals, Value.category]; done) | rfl
def QNtS (Z : State) (a0 tx : Addr) (kt : ClassId) (nt : Int32) (pre : List Int32) (vkd : Value) (vts vte vem vns vne vnh vvs vve val : Int32) (kSTART kEND kINSTRUCTION : Addr) (j0 : Nat) (h0 : Heap) (n0 : Nat) (v : Option Value) (h : Heap) (L : List Loc) : Prop := ∃ hv : Int32, v = some (.int (1 : Int32)) ∧ Fr n0 L ∧ Keep h0 h [a0] ∧ Mk Z h a0 (.ref tx) (.int (Int32.ofNat j0)) (.int (Int32.ofNat pre.length)) (.ref kSTART) (.int (0 : Int32)) (.int (-1 : Int32)) (.int (0 : Int32)) (.int (Int32.ofNat 1)) (.int (Int32.ofNat j0)) (.int hv) (.int vvs) (.int vve) (.int (1 : Int32))
theorem rmNtS (l : Launch) (Z : State) (a0 : Array Value) (hw : HW a0 Z) (ws : List Jvm.Cond) (a0 tx : Addr) (kt : ClassId) (nt : Int32) (pre : List Int32) (vkd : Value) (vts vte vem vns vne vnh vvs vve val : Int32) (kSTART kEND kINSTRUCTION : Addr) (j0 : Nat) (h0 : Heap) (n0 : Nat) (Z0 : n0 ≤ h0.size) (EO : Exa Z h0 a0 cA) (M0 : Mk Z h0 a0 (.ref tx) (.int (0 : Int32)) (.int (Int32.ofNat pre.length)) vkd (.int vts) (.int vte) (.int vem) (.int vns) (.int vne) (.int vnh) (.int vvs) (.int vve) (.int val)) (Tx : Txt Z h0 tx kt nt pre) (g0 : n0 ≤ a0) (hnt : tx ≠ a0) (SkSTART : Sta Z h0 cG "START" cD (.ref kSTART)) (SkEND : Sta Z h0 cG "END" cD (.ref kEND)) (SkINSTRUCTION : Sta Z h0 cG "INSTRUCTION" cD (.ref kINSTRUCTION)) (hp0 : pre.getD 0 0 = 60) (hp1 : 0 + 1 < pre.length) (hpb : nar .byte (pre.getD (0 + 1) 0) = (97 : Int32)) (hi0 : 1 ≤ pre.length) (hj0 : own_find own_en pre 1 = j0) :
    Con l mn9 (Jvm.Cond.code mn9 prog_7_method_3_code 5 (some .boolean)) ws (⟨2, 0, 0, 28⟩ : Jvm.Room) #[(.ref a0)] Z h0 (QNtS Z a0 tx kt nt pre vkd vts vte vem vns vne vnh vvs vve val kSTART kEND kINSTRUCTION j0 h0 n0) := by
  refine own_of (plainFor_of_name pn_0) hisR dl_prog_7_3 ?_
  intro p e s m below meth c s₁ hx D hlk hret hml hZ hown hnm X0 e0
  replace hown : s.vm.findClass cA = some m.cls := hown
  have N0 := Fr.nil n0
  rw [efNtS]
  have K0 : Keep h0 h0 [a0] := Keep.refl _ _
  obtain ⟨T1, X1, e1, st1⟩ := getF X0 hx hZ hown (host := "") (Or.inl (wt hw 29 rfl)) Via.refl e0 M0.g_at (g := (mkF m 4 #[.val (.ref a0), .unset, .unset, .unset, .unset] [(.ref a0), (.int (60 : Int32)), (.ref a0)])) rfl rfl (D 3 rfl)
  refine OFin.of (fun t ht => aN X0 hx rfl (D 0 rfl) rfl rfl (bP X0 hx rfl (D 1 rfl) (aN X0 hx rfl (D 2 rfl) rfl rfl (st1 t ht)))) ?_
  obtain ⟨_, T2, Lc2, X2, hQ2, st2⟩ := own_cP X1 hx hw hZ hown 38 39 19 40 20 41 rfl rfl rfl rfl rfl rfl (by decide) EO (rmIx l Z _ hw [] a0 (60 : Int32) tx kt nt pre 0 (0 : Int32) h0 n0 Z0 M0.g_text M0.g_end Tx (Nat.zero_le _) (own_ix0 hp0)) (by decide) (by decide) (g := (mkF m 7 #[.val (.ref a0), .unset, .unset, .unset, .unset] [(.int (0 : Int32)), (.int (60 : Int32)), (.ref a0)])) rfl hml rfl (argsL := [(.int (60 : Int32)), (.int (0 : Int32))]) (rest := []) pd_1 rfl rfl rfl (W := 0) (Nat.le_of_eq rfl) (D 4 rfl) rfl e1 (by decide) (by decide)
  obtain ⟨rfl, Nq2, hs2⟩ := hQ2
  have N3 := Fr.app N0 Nq2
  refine OFin.to st2 ?_
  obtain ⟨T4, X4, e4, st4⟩ := getF X2 hx hZ hown (host := "") (Or.inl (wt hw 31 rfl)) Via.refl hs2 M0.g_end (g := (mkF m 12 #[.val (.ref a0), .val (.int (0 : Int32)), .unset, .unset, .unset] [(.ref a0)])) rfl rfl (D 7 rfl)
  refine OFin.of (fun t ht => XS.istoreN X2.here hx rfl (D 5 rfl) rfl (l' := #[.val (.ref a0), .val (.int (0 : Int32)), .unset, .unset, .unset]) rfl (aN X2 hx rfl (D 6 rfl) rfl rfl (st4 t ht))) ?_
  obtain ⟨_, T5, Lc5, X5, hQ5, st5⟩ := own_cP X4 hx hw hZ hown 42 43 19 44 20 45 rfl rfl rfl rfl rfl rfl (by decide) EO (rmBa l Z _ hw [] a0 tx kt nt pre 0 (97 : Int32) h0 n0 Z0 M0.g_text M0.g_end Tx hp1 hpb) (by decide) (by decide) (g := (mkF m 22 #[.val (.ref a0), .val (.int (0 : Int32)), .val (.int (Int32.ofNat pre.length)), .unset, .unset] [(.int (0 : Int32)), (.ref a0)])) rfl hml rfl (argsL := [(.int (0 : Int32))]) (rest := []) pd_2 rfl rfl rfl (W := 0) (Nat.le_of_eq rfl) (D 13 rfl) rfl e4 (by decide) (by decide)
  obtain ⟨rfl, Nq5, hs5⟩ := hQ5
  have N6 := Fr.app N3 Nq5
  refine OFin.of (fun t ht => XS.istoreN X4.here hx rfl (D 8 rfl) rfl (l' := #[.val (.ref a0), .val (.int (0 : Int32)), .val (.int (Int32.ofNat pre.length)), .unset, .unset]) rfl (iN X4 hx rfl (D 9 rfl) rfl (fN X4 hx rfl (D 10 rfl) rfl ((if0 _ _).trans (flt (by decide : ¬ ((0 : Int32) < (0 : Int32)))).1) (aN X4 hx rfl (D 11 rfl) rfl rfl (iN X4 hx rfl (D 12 rfl) rfl (st5.trans ht)))))) ?_
  obtain ⟨T7, h7, X7, e7, W7, st7⟩ := putF X5 hx hZ hown (host := "") (Or.inl (wt hw 46 rfl)) Via.refl hs5 M0.g_tagStart EO (Or.inl (wt hw 47 rfl)) (wt hw 19 rfl) (ty := .int) (by decide) rfl rfl (g := (mkF m 87 #[.val (.ref a0), .val (.int (0 : Int32)), .val (.int (Int32.ofNat pre.length)), .unset, .unset] [(.int (0 : Int32)), (.ref a0)])) rfl rfl (D 20 rfl)
  have f8 := (EO.wr W7)
  have f9 := (Tx.other W7 hnt)
  have f10 := (SkSTART.wr W7)
  have f11 := (SkEND.wr W7)
  have f12 := (SkINSTRUCTION.wr W7)
  have Z13 := Nat.le_trans Z0 (Keep.of_wr W7).1
  have K14 := K0.wr W7 (Or.inl (List.mem_of_getElem? (i := 0) rfl))
  have N15 := Fr.snoc X7 N6 g0
  have M16 := M0.put_tagStart hw W7
  refine OFin.of (fun t ht => bP X5 hx rfl (D 14 rfl) (cY X5 hx rfl 27 61 rfl (D 15 rfl) rfl (feq (by decide : ¬ ((97 : Int32) = (33 : Int32)))).2 (by decide) (iN X5 hx rfl (D 16 rfl) rfl (fY X5 hx rfl 62 85 rfl (D 17 rfl) rfl ((if0 _ _).trans (flt (by decide : ¬ ((0 : Int32) < (0 : Int32)))).2.1) (by decide) (aN X5 hx rfl (D 18 rfl) rfl rfl (iN X5 hx rfl (D 19 rfl) rfl (st7 t ht))))))) ?_
  obtain ⟨T17, h17, X17, e17, W17, st17⟩ := putFN X7 hx hZ hown (wt hw 48 rfl) Via.refl e7 M16.g_emptyElement f8 (Or.inl (wt hw 49 rfl)) (wt hw 19 rfl) (ty := .boolean) (v' := (.int (0 : Int32))) (by decide) rfl rfl (g := (mkF m 92 #[.val (.ref a0), .val (.int (0 : Int32)), .val (.int (Int32.ofNat pre.length)), .unset, .unset] [(.int (0 : Int32)), (.ref a0)])) rfl rfl (D 23 rfl)
  have f18 := (f8.wr W17)
  have f19 := (f9.other W17 hnt)
  have f20 := (f10.wr W17)
  have f21 := (f11.wr W17)
  have f22 := (f12.wr W17)
  have Z23 := Nat.le_trans Z13 (Keep.of_wr W17).1
  have K24 := K14.wr W17 (Or.inl (List.mem_of_getElem? (i := 0) rfl))
  have N25 := Fr.snoc X17 N15 g0
  have M26 := M16.put_emptyElement hw W17
  refine OFin.of (fun t ht => aN X7 hx rfl (D 21 rfl) rfl rfl (iC X7 hx rfl (D 22 rfl) (st17 t ht))) ?_
  obtain ⟨_, T27, Lc27, X27, hQ27, st27⟩ := own_cP X17 hx hw hZ hown 42 43 19 44 20 45 rfl rfl rfl rfl rfl rfl (by decide) f18 (rmBa l Z _ hw [] a0 tx kt nt pre 0 (97 : Int32) h17 n0 Z23 M26.g_text M26.g_end f19 hp1 hpb) (by decide) (by decide) (g := (mkF m 97 #[.val (.ref a0), .val (.int (0 : Int32)), .val (.int (Int32.ofNat pre.length)), .unset, .unset] [(.int (0 : Int32)), (.ref a0)])) rfl hml rfl (argsL := [(.int (0 : Int32))]) (rest := []) pd_2 rfl rfl rfl (W := 0) (Nat.le_of_eq rfl) (D 26 rfl) rfl e17 (by decide) (by decide)
  obtain ⟨rfl, Nq27, hs27⟩ := hQ27
  have N28 := Fr.app N25 Nq27
  refine OFin.of (fun t ht => aN X17 hx rfl (D 24 rfl) rfl rfl (iN X17 hx rfl (D 25 rfl) rfl (st27.trans ht))) ?_
  obtain ⟨T29, X29, e29, st29⟩ := getS (host := "") X27 hx hZ hown (wt hw 50 rfl) Via.refl hs27 f20 (g := (mkF m 234 #[.val (.ref a0), .val (.int (0 : Int32)), .val (.int (Int32.ofNat pre.length)), .val (.int (97 : Int32)), .unset] [(.ref a0)])) rfl (D 35 rfl)
  refine OFin.of (fun t ht => XS.istoreN X27.here hx rfl (D 27 rfl) rfl (l' := #[.val (.ref a0), .val (.int (0 : Int32)), .val (.int (Int32.ofNat pre.length)), .val (.int (97 : Int32)), .unset]) rfl (iN X27 hx rfl (D 28 rfl) rfl (bP X27 hx rfl (D 29 rfl) (cY X27 hx rfl 104 160 rfl (D 30 rfl) rfl (feq (by decide : ¬ ((97 : Int32) = (63 : Int32)))).2 (by decide) (iN X27 hx rfl (D 31 rfl) rfl (bP X27 hx rfl (D 32 rfl) (cY X27 hx rfl 163 233 rfl (D 33 rfl) rfl (feq (by decide : ¬ ((97 : Int32) = (47 : Int32)))).2 (by decide) (aN X27 hx rfl (D 34 rfl) rfl rfl (st29 t ht))))))))) ?_
  obtain ⟨T30, h30, X30, e30, W30, st30⟩ := putF X29 hx hZ hown (host := "") (Or.inl (wt hw 53 rfl)) Via.refl e29 M26.g_kind f18 (Or.inl (wt hw 54 rfl)) (wt hw 19 rfl) (ty := (.object cG)) (by decide) rfl rfl (g := (mkF m 237 #[.val (.ref a0), .val (.int (0 : Int32)), .val (.int (Int32.ofNat pre.length)), .val (.int (97 : Int32)), .unset] [(.ref kSTART), (.ref a0)])) rfl rfl (D 36 rfl)
  have f31 := (f18.wr W30)
  have f32 := (f19.other W30 hnt)
  have f33 := (f20.wr W30)
  have f34 := (f21.wr W30)
  have f35 := (f22.wr W30)
  have Z36 := Nat.le_trans Z23 (Keep.of_wr W30).1
  have K37 := K24.wr W30 (Or.inl (List.mem_of_getElem? (i := 0) rfl))
  have N38 := Fr.snoc X30 N28 g0
  have M39 := M26.put_kind hw W30
  refine OFin.of st30 ?_
  obtain ⟨T40, h40, X40, e40, W40, st40⟩ := putF X30 hx hZ hown (host := "") (Or.inl (wt hw 55 rfl)) Via.refl e30 M39.g_tagEnd f31 (Or.inl (wt hw 56 rfl)) (wt hw 19 rfl) (ty := .int) (by decide) rfl rfl (g := (mkF m 242 #[.val (.ref a0), .val (.int (0 : Int32)), .val (.int (Int32.ofNat pre.length)), .val (.int (97 : Int32)), .unset] [(.int (-1 : Int32)), (.ref a0)])) rfl rfl (D 39 rfl)
  have f41 := (f31.wr W40)
  have f42 := (f32.other W40 hnt)
  have f43 := (f33.wr W40)
  have f44 := (f34.wr W40)
  have f45 := (f35.wr W40)
  have Z46 := Nat.le_trans Z36 (Keep.of_wr W40).1
  have K47 := K37.wr W40 (Or.inl (List.mem_of_getElem? (i := 0) rfl))
  have N48 := Fr.snoc X40 N38 g0
  have M49 := M39.put_tagEnd hw W40
  refine OFin.of (fun t ht => aN X30 hx rfl (D 37 rfl) rfl rfl (iC X30 hx rfl (D 38 rfl) (st40 t ht))) ?_
  obtain ⟨_, T50, Lc50, X50, hQ50, st50⟩ := own_cP X40 hx hw hZ hown 57 58 19 59 20 60 rfl rfl rfl rfl rfl rfl (by decide) f41 (rmRn l Z _ hw [] a0 tx kt nt pre (0 : Int32) (.ref kSTART) (0 : Int32) (-1 : Int32) (0 : Int32) vns vne vnh vvs vve val 1 j0 h40 n0 Z46 f41 M49 f42 g0 hnt hi0 hj0) (by decide) (by decide) (g := (mkF m 250 #[.val (.ref a0), .val (.int (0 : Int32)), .val (.int (Int32.ofNat pre.length)), .val (.int (97 : Int32)), .unset] [(.int (1 : Int32)), (.ref a0), (.ref a0)])) rfl hml rfl (argsL := [(.int (1 : Int32))]) (rest := [(.ref a0)]) pd_3 rfl rfl rfl (W := 1) (Nat.le_of_eq rfl) (D 45 rfl) rfl e40 (by decide) (by decide)
  obtain ⟨hv50, rfl, Nq50, Kq50, M50⟩ := hQ50
  have N51 := Fr.app N48 Nq50
  have f52 := (f41.keep Kq50)
  have f53 := (f42.keep Kq50 (ninS hnt nin0))
  have f54 := (own_staKeep f43 Kq50 (own_snS f41 own_sn0))
  have f55 := (own_staKeep f44 Kq50 (own_snS f41 own_sn0))
  have f56 := (own_staKeep f45 Kq50 (own_snS f41 own_sn0))
  have Z57 := Nat.le_trans Z46 Kq50.1
  have K58 := K47.trans Kq50 (allS (Or.inl (List.mem_of_getElem? (i := 0) rfl)) all0)
  refine OFin.of (fun t ht => aN X40 hx rfl (D 40 rfl) rfl rfl (aN X40 hx rfl (D 41 rfl) rfl rfl (iN X40 hx rfl (D 42 rfl) rfl (iC X40 hx rfl (D 43 rfl) (XS.iadd X40.here hx rfl (D 44 rfl) rfl (st50.trans ht)))))) ?_
  obtain ⟨T59, h59, X59, e59, W59, st59⟩ := putF X50 hx hZ hown (host := "") (Or.inl (wt hw 29 rfl)) Via.refl (rfl : T50.heap = T50.heap) M50.g_at f52 (Or.inl (wt hw 30 rfl)) (wt hw 19 rfl) (ty := .int) (by decide) rfl rfl (g := (mkF m 253 #[.val (.ref a0), .val (.int (0 : Int32)), .val (.int (Int32.ofNat pre.length)), .val (.int (97 : Int32)), .unset] [(.int (Int32.ofNat j0)), (.ref a0)])) rfl rfl (D 46 rfl)
  have f60 := (f52.wr W59)
  have f61 := (f53.other W59 hnt)
  have f62 := (f54.wr W59)
  have f63 := (f55.wr W59)
  have f64 := (f56.wr W59)
  have Z65 := Nat.le_trans Z57 (Keep.of_wr W59).1
  have K66 := K58.wr W59 (Or.inl (List.mem_of_getElem? (i := 0) rfl))
  have N67 := Fr.snoc X59 N51 g0
  have M68 := M50.put_at hw W59
  refine OFin.of st59 ?_
  obtain ⟨T69, X69, e69, st69⟩ := getF X59 hx hZ hown (host := "") (Or.inl (wt hw 53 rfl)) Via.refl e59 M68.g_kind (g := (mkF m 258 #[.val (.ref a0), .val (.int (0 : Int32)), .val (.int (Int32.ofNat pre.length)), .val (.int (97 : Int32)), .unset] [(.ref a0), (.ref a0)])) rfl rfl (D 49 rfl)
  refine OFin.of (fun t ht => aN X59 hx rfl (D 47 rfl) rfl rfl (aN X59 hx rfl (D 48 rfl) rfl rfl (st69 t ht))) ?_
  obtain ⟨T70, X70, e70, st70⟩ := getS (host := "") X69 hx hZ hown (wt hw 50 rfl) Via.refl e69 f62 (g := (mkF m 261 #[.val (.ref a0), .val (.int (0 : Int32)), .val (.int (Int32.ofNat pre.length)), .val (.int (97 : Int32)), .unset] [(.ref kSTART), (.ref a0)])) rfl (D 50 rfl)
  refine OFin.of st70 ?_
  obtain ⟨T71, h71, X71, e71, W71, st71⟩ := putFN X70 hx hZ hown (wt hw 71 rfl) Via.refl e70 M68.g_attributesLeft f60 (Or.inl (wt hw 72 rfl)) (wt hw 19 rfl) (ty := .boolean) (v' := (.int (1 : Int32))) (by decide) rfl rfl (g := (mkF m 272 #[.val (.ref a0), .val (.int (0 : Int32)), .val (.int (Int32.ofNat pre.length)), .val (.int (97 : Int32)), .unset] [(.int (1 : Int32)), (.ref a0)])) rfl rfl (D 54 rfl)
  have f72 := (f60.wr W71)
  have f73 := (f61.other W71 hnt)
  have f74 := (f62.wr W71)
  have f75 := (f63.wr W71)
  have f76 := (f64.wr W71)
  have Z77 := Nat.le_trans Z65 (Keep.of_wr W71).1
  have K78 := K66.wr W71 (Or.inl (List.mem_of_getElem? (i := 0) rfl))
  have N79 := Fr.snoc X71 N67 g0
  have M80 := M68.put_attributesLeft hw W71
  refine OFin.of (fun t ht => acmp X70 hx rfl (cd := .ne) (x := (.ref kSTART)) (y := (.ref kSTART)) rfl rfl (pc0 := 264) (pc' := 267) (same := true) rfl (D 51 rfl) rfl (decide_eq_true rfl) (by decide) (by decide) (iC X70 hx rfl (D 52 rfl) (gO X70 hx rfl 268 272 rfl (D 53 rfl) (by decide) (st71 t ht)))) ?_
  refine OFin.of (S' := T71.setTop (mkF m 276 #[.val (.ref a0), .val (.int (0 : Int32)), .val (.int (Int32.ofNat pre.length)), .val (.int (97 : Int32)), .unset] [(.int (1 : Int32))])) (fun t ht => iC X71 hx rfl (D 55 rfl) ht) ?_
  exact OFin.retB X71 hx hlk (t := .boolean) (by simp) hret (D 56 rfl) (by decide) (by decide) (by rw [e71]; exact ⟨hv50, rfl, N79, K78, M80⟩)
theorem efNtE {m : MethodId} {a0 : Addr} : entryFrame m #[(.ref a0)] 5 = mkF m 0 #[.val (.ref a0), .unset, .unset, .unset, .unset] [] := by first | (simp [entryFrame, mkF, argsToLocals, Value.category]; done) | rfl
def QNtE (Z : State) (a0 tx : Addr) (kt : ClassId) (nt : Int32) (pre : List Int32) (vkd : Value) (vts vte vem vns vne vnh vvs vve val : Int32) (kSTART kEND kINSTRUCTION : Addr) (j0 : Nat) (r0 : Int32) (h0 : Heap) (n0 : Nat) (v : Option Value) (h : Heap) (L : List Loc) : Prop := ∃ hv at1 te1 : Int32, v = some (.int (1 : Int32)) ∧ Fr n0 L ∧ Keep h0 h [a0] ∧ Mk Z h a0 (.ref tx) (.int at1) (.int (Int32.ofNat pre.length)) (.ref kEND) (.int (0 : Int32)) (.int te1) (.int (0 : Int32)) (.int (Int32.ofNat 2)) (.int (Int32.ofNat j0)) (.int hv) (.int vvs) (.int vve) (.int (0 : Int32))
theorem rmNtE (l : Launch) (Z : State) (a0 : Array Value) (hw : HW a0 Z) (ws : List Jvm.Cond) (a0 tx : Addr) (kt : ClassId) (nt : Int32) (pre : List Int32) (vkd : Value) (vts vte vem vns vne vnh vvs vve val : Int32) (kSTART kEND kINSTRUCTION : Addr) (j0 : Nat) (r0 : Int32) (h0 : Heap) (n0 : Nat) (Z0 : n0 ≤ h0.size) (EO : Exa Z h0 a0 cA) (M0 : Mk Z h0 a0 (.ref tx) (.int (0 : Int32)) (.int (Int32.ofNat pre.length)) vkd (.int vts) (.int vte) (.int vem) (.int vns) (.int vne) (.int vnh) (.int vvs) (.int vve) (.int val)) (Tx : Txt Z h0 tx kt nt pre) (g0 : n0 ≤ a0) (hnt : tx ≠ a0) (SkSTART : Sta Z h0 cG "START" cD (.ref kSTART)) (SkEND : Sta Z h0 cG "END" cD (.ref kEND)) (SkINSTRUCTION : Sta Z h0 cG "INSTRUCTION" cD (.ref kINSTRUCTION)) (hne1 : kEND ≠ kSTART) (hp0 : pre.getD 0 0 = 60) (hp1 : 0 + 1 < pre.length) (hpb : nar .byte (pre.getD (0 + 1) 0) = (47 : Int32)) (hi0 : 2 ≤ pre.length) (hj0 : own_find own_en pre 2 = j0) (hr0 : own_ix pre 62 j0 = r0) :
    Con l mn9 (Jvm.Cond.code mn9 prog_7_method_3_code 5 (some .boolean)) ws (⟨2, 0, 0, 27⟩ : Jvm.Room) #[(.ref a0)] Z h0 (QNtE Z a0 tx kt nt pre vkd vts vte vem vns vne vnh vvs vve val kSTART kEND kINSTRUCTION j0 r0 h0 n0) := by
  refine own_of (plainFor_of_name pn_0) hisR dl_prog_7_3 ?_
  intro p e s m below meth c s₁ hx D hlk hret hml hZ hown hnm X0 e0
  replace hown : s.vm.findClass cA = some m.cls := hown
  have N0 := Fr.nil n0
  rw [efNtE]
  have K0 : Keep h0 h0 [a0] := Keep.refl _ _
  obtain ⟨T1, X1, e1, st1⟩ := getF X0 hx hZ hown (host := "") (Or.inl (wt hw 29 rfl)) Via.refl e0 M0.g_at (g := (mkF m 4 #[.val (.ref a0), .unset, .unset, .unset, .unset] [(.ref a0), (.int (60 : Int32)), (.ref a0)])) rfl rfl (D 3 rfl)
  refine OFin.of (fun t ht => aN X0 hx rfl (D 0 rfl) rfl rfl (bP X0 hx rfl (D 1 rfl) (aN X0 hx rfl (D 2 rfl) rfl rfl (st1 t ht)))) ?_
  obtain ⟨_, T2, Lc2, X2, hQ2, st2⟩ := own_cP X1 hx hw hZ hown 38 39 19 40 20 41 rfl rfl rfl rfl rfl rfl (by decide) EO (rmIx l Z _ hw [] a0 (60 : Int32) tx kt nt pre 0 (0 : Int32) h0 n0 Z0 M0.g_text M0.g_end Tx (Nat.zero_le _) (own_ix0 hp0)) (by decide) (by decide) (g := (mkF m 7 #[.val (.ref a0), .unset, .unset, .unset, .unset] [(.int (0 : Int32)), (.int (60 : Int32)), (.ref a0)])) rfl hml rfl (argsL := [(.int (60 : Int32)), (.int (0 : Int32))]) (rest := []) pd_1 rfl rfl rfl (W := 0) (Nat.le_of_eq rfl) (D 4 rfl) rfl e1 (by decide) (by decide)
  obtain ⟨rfl, Nq2, hs2⟩ := hQ2
  have N3 := Fr.app N0 Nq2
  refine OFin.to st2 ?_
  obtain ⟨T4, X4, e4, st4⟩ := getF X2 hx hZ hown (host := "") (Or.inl (wt hw 31 rfl)) Via.refl hs2 M0.g_end (g := (mkF m 12 #[.val (.ref a0), .val (.int (0 : Int32)), .unset, .unset, .unset] [(.ref a0)])) rfl rfl (D 7 rfl)
  refine OFin.of (fun t ht => XS.istoreN X2.here hx rfl (D 5 rfl) rfl (l' := #[.val (.ref a0), .val (.int (0 : Int32)), .unset, .unset, .unset]) rfl (aN X2 hx rfl (D 6 rfl) rfl rfl (st4 t ht))) ?_
  obtain ⟨_, T5, Lc5, X5, hQ5, st5⟩ := own_cP X4 hx hw hZ hown 42 43 19 44 20 45 rfl rfl rfl rfl rfl rfl (by decide) EO (rmBa l Z _ hw [] a0 tx kt nt pre 0 (47 : Int32) h0 n0 Z0 M0.g_text M0.g_end Tx hp1 hpb) (by decide) (by decide) (g := (mkF m 22 #[.val (.ref a0), .val (.int (0 : Int32)), .val (.int (Int32.ofNat pre.length)), .unset, .unset] [(.int (0 : Int32)), (.ref a0)])) rfl hml rfl (argsL := [(.int (0 : Int32))]) (rest := []) pd_2 rfl rfl rfl (W := 0) (Nat.le_of_eq rfl) (D 13 rfl) rfl e4 (by decide) (by decide)
  obtain ⟨rfl, Nq5, hs5⟩ := hQ5
  have N6 := Fr.app N3 Nq5
  refine OFin.of (fun t ht => XS.istoreN X4.here hx rfl (D 8 rfl) rfl (l' := #[.val (.ref a0), .val (.int (0 : Int32)), .val (.int (Int32.ofNat pre.length)), .unset, .unset]) rfl (iN X4 hx rfl (D 9 rfl) rfl (fN X4 hx rfl (D 10 rfl) rfl ((if0 _ _).trans (flt (by decide : ¬ ((0 : Int32) < (0 : Int32)))).1) (aN X4 hx rfl (D 11 rfl) rfl rfl (iN X4 hx rfl (D 12 rfl) rfl (st5.trans ht)))))) ?_
  obtain ⟨T7, h7, X7, e7, W7, st7⟩ := putF X5 hx hZ hown (host := "") (Or.inl (wt hw 46 rfl)) Via.refl hs5 M0.g_tagStart EO (Or.inl (wt hw 47 rfl)) (wt hw 19 rfl) (ty := .int) (by decide) rfl rfl (g := (mkF m 87 #[.val (.ref a0), .val (.int (0 : Int32)), .val (.int (Int32.ofNat pre.length)), .unset, .unset] [(.int (0 : Int32)), (.ref a0)])) rfl rfl (D 20 rfl)
  have f8 := (EO.wr W7)
  have f9 := (Tx.other W7 hnt)
  have f10 := (SkSTART.wr W7)
  have f11 := (SkEND.wr W7)
  have f12 := (SkINSTRUCTION.wr W7)
  have Z13 := Nat.le_trans Z0 (Keep.of_wr W7).1
  have K14 := K0.wr W7 (Or.inl (List.mem_of_getElem? (i := 0) rfl))
  have N15 := Fr.snoc X7 N6 g0
  have M16 := M0.put_tagStart hw W7
  refine OFin.of (fun t ht => bP X5 hx rfl (D 14 rfl) (cY X5 hx rfl 27 61 rfl (D 15 rfl) rfl (feq (by decide : ¬ ((47 : Int32) = (33 : Int32)))).2 (by decide) (iN X5 hx rfl (D 16 rfl) rfl (fY X5 hx rfl 62 85 rfl (D 17 rfl) rfl ((if0 _ _).trans (flt (by decide : ¬ ((0 : Int32) < (0 : Int32)))).2.1) (by decide) (aN X5 hx rfl (D 18 rfl) rfl rfl (iN X5 hx rfl (D 19 rfl) rfl (st7 t ht))))))) ?_
  obtain ⟨T17, h17, X17, e17, W17, st17⟩ := putFN X7 hx hZ hown (wt hw 48 rfl) Via.refl e7 M16.g_emptyElement f8 (Or.inl (wt hw 49 rfl)) (wt hw 19 rfl) (ty := .boolean) (v' := (.int (0 : Int32))) (by decide) rfl rfl (g := (mkF m 92 #[.val (.ref a0), .val (.int (0 : Int32)), .val (.int (Int32.ofNat pre.length)), .unset, .unset] [(.int (0 : Int32)), (.ref a0)])) rfl rfl (D 23 rfl)
  have f18 := (f8.wr W17)
  have f19 := (f9.other W17 hnt)
  have f20 := (f10.wr W17)
  have f21 := (f11.wr W17)
  have f22 := (f12.wr W17)
  have Z23 := Nat.le_trans Z13 (Keep.of_wr W17).1
  have K24 := K14.wr W17 (Or.inl (List.mem_of_getElem? (i := 0) rfl))
  have N25 := Fr.snoc X17 N15 g0
  have M26 := M16.put_emptyElement hw W17
  refine OFin.of (fun t ht => aN X7 hx rfl (D 21 rfl) rfl rfl (iC X7 hx rfl (D 22 rfl) (st17 t ht))) ?_
  obtain ⟨_, T27, Lc27, X27, hQ27, st27⟩ := own_cP X17 hx hw hZ hown 42 43 19 44 20 45 rfl rfl rfl rfl rfl rfl (by decide) f18 (rmBa l Z _ hw [] a0 tx kt nt pre 0 (47 : Int32) h17 n0 Z23 M26.g_text M26.g_end f19 hp1 hpb) (by decide) (by decide) (g := (mkF m 97 #[.val (.ref a0), .val (.int (0 : Int32)), .val (.int (Int32.ofNat pre.length)), .unset, .unset] [(.int (0 : Int32)), (.ref a0)])) rfl hml rfl (argsL := [(.int (0 : Int32))]) (rest := []) pd_2 rfl rfl rfl (W := 0) (Nat.le_of_eq rfl) (D 26 rfl) rfl e17 (by decide) (by decide)
  obtain ⟨rfl, Nq27, hs27⟩ := hQ27
  have N28 := Fr.app N25 Nq27
  refine OFin.of (fun t ht => aN X17 hx rfl (D 24 rfl) rfl rfl (iN X17 hx rfl (D 25 rfl) rfl (st27.trans ht))) ?_
  obtain ⟨T29, X29, e29, st29⟩ := getS (host := "") X27 hx hZ hown (wt hw 99 rfl) Via.refl hs27 f21 (g := (mkF m 167 #[.val (.ref a0), .val (.int (0 : Int32)), .val (.int (Int32.ofNat pre.length)), .val (.int (47 : Int32)), .unset] [(.ref a0)])) rfl (D 58 rfl)
  refine OFin.of (fun t ht => XS.istoreN X27.here hx rfl (D 27 rfl) rfl (l' := #[.val (.ref a0), .val (.int (0 : Int32)), .val (.int (Int32.ofNat pre.length)), .val (.int (47 : Int32)), .unset]) rfl (iN X27 hx rfl (D 28 rfl) rfl (bP X27 hx rfl (D 29 rfl) (cY X27 hx rfl 104 160 rfl (D 30 rfl) rfl (feq (by decide : ¬ ((47 : Int32) = (63 : Int32)))).2 (by decide) (iN X27 hx rfl (D 31 rfl) rfl (bP X27 hx rfl (D 32 rfl) (cN X27 hx rfl (D 33 rfl) rfl (teq (by decide : (47 : Int32) = (47 : Int32))).2 (aN X27 hx rfl (D 57 rfl) rfl rfl (st29 t ht))))))))) ?_
  obtain ⟨T30, h30, X30, e30, W30, st30⟩ := putF X29 hx hZ hown (host := "") (Or.inl (wt hw 53 rfl)) Via.refl e29 M26.g_kind f18 (Or.inl (wt hw 54 rfl)) (wt hw 19 rfl) (ty := (.object cG)) (by decide) rfl rfl (g := (mkF m 170 #[.val (.ref a0), .val (.int (0 : Int32)), .val (.int (Int32.ofNat pre.length)), .val (.int (47 : Int32)), .unset] [(.ref kEND), (.ref a0)])) rfl rfl (D 59 rfl)
  have f31 := (f18.wr W30)
  have f32 := (f19.other W30 hnt)
  have f33 := (f20.wr W30)
  have f34 := (f21.wr W30)
  have f35 := (f22.wr W30)
  have Z36 := Nat.le_trans Z23 (Keep.of_wr W30).1
  have K37 := K24.wr W30 (Or.inl (List.mem_of_getElem? (i := 0) rfl))
  have N38 := Fr.snoc X30 N28 g0
  have M39 := M26.put_kind hw W30
  refine OFin.of st30 ?_
  obtain ⟨_, T40, Lc40, X40, hQ40, st40⟩ := own_cP X30 hx hw hZ hown 57 58 19 59 20 60 rfl rfl rfl rfl rfl rfl (by decide) f31 (rmRn l Z _ hw [] a0 tx kt nt pre (0 : Int32) (.ref kEND) (0 : Int32) vte (0 : Int32) vns vne vnh vvs vve val 2 j0 h30 n0 Z36 f31 M39 f32 g0 hnt hi0 hj0) (by decide) (by decide) (g := (mkF m 177 #[.val (.ref a0), .val (.int (0 : Int32)), .val (.int (Int32.ofNat pre.length)), .val (.int (47 : Int32)), .unset] [(.int (2 : Int32)), (.ref a0)])) rfl hml rfl (argsL := [(.int (2 : Int32))]) (rest := []) pd_3 rfl rfl rfl (W := 0) (Nat.le_of_eq rfl) (D 64 rfl) rfl e30 (by decide) (by decide)
  obtain ⟨hv40, rfl, Nq40, Kq40, M40⟩ := hQ40
  have N41 := Fr.app N38 Nq40
  have f42 := (f31.keep Kq40)
  have f43 := (f32.keep Kq40 (ninS hnt nin0))
  have f44 := (own_staKeep f33 Kq40 (own_snS f31 own_sn0))
  have f45 := (own_staKeep f34 Kq40 (own_snS f31 own_sn0))
  have f46 := (own_staKeep f35 Kq40 (own_snS f31 own_sn0))
  have Z47 := Nat.le_trans Z36 Kq40.1
  have K48 := K37.trans Kq40 (allS (Or.inl (List.mem_of_getElem? (i := 0) rfl)) all0)
  refine OFin.of (fun t ht => aN X30 hx rfl (D 60 rfl) rfl rfl (iN X30 hx rfl (D 61 rfl) rfl (iC X30 hx rfl (D 62 rfl) (XS.iadd X30.here hx rfl (D 63 rfl) rfl (st40.trans ht))))) ?_
  obtain ⟨T49, X49, e49, st49⟩ := getF X40 hx hZ hown (host := "") (Or.inl (wt hw 67 rfl)) Via.refl (rfl : T40.heap = T40.heap) M40.g_nameEnd (g := (mkF m 185 #[.val (.ref a0), .val (.int (0 : Int32)), .val (.int (Int32.ofNat pre.length)), .val (.int (47 : Int32)), .unset] [(.ref a0), (.int (62 : Int32)), (.ref a0)])) rfl rfl (D 69 rfl)
  refine OFin.of (fun t ht => XS.pop X40.here hx rfl (D 65 rfl) rfl rfl (aN X40 hx rfl (D 66 rfl) rfl rfl (bP X40 hx rfl (D 67 rfl) (aN X40 hx rfl (D 68 rfl) rfl rfl (st49 t ht))))) ?_
  obtain ⟨_, T50, Lc50, X50, hQ50, st50⟩ := own_cP X49 hx hw hZ hown 38 39 19 40 20 41 rfl rfl rfl rfl rfl rfl (by decide) f42 (rmIx l Z _ hw [] a0 (62 : Int32) tx kt nt pre j0 r0 T40.heap n0 Z47 M40.g_text M40.g_end f43 (hj0 ▸ own_find_le _ hi0) hr0) (by decide) (by decide) (g := (mkF m 188 #[.val (.ref a0), .val (.int (0 : Int32)), .val (.int (Int32.ofNat pre.length)), .val (.int (47 : Int32)), .unset] [(.int (Int32.ofNat j0)), (.int (62 : Int32)), (.ref a0)])) rfl hml rfl (argsL := [(.int (62 : Int32)), (.int (Int32.ofNat j0))]) (rest := []) pd_1 rfl rfl rfl (W := 0) (Nat.le_of_eq rfl) (D 70 rfl) rfl e49 (by decide) (by decide)
  obtain ⟨rfl, Nq50, hs50⟩ := hQ50
  have N51 := Fr.app N41 Nq50
  refine OFin.to st50 ?_
  refine OFin.of (S' := T50.setTop (mkF m 196 #[.val (.ref a0), .val (.int (0 : Int32)), .val (.int (Int32.ofNat pre.length)), .val (.int (47 : Int32)), .val (.int r0)] [(.int r0), (.ref a0)])) (fun t ht => sW X50 hx rfl (D 71 rfl) rfl (l' := #[.val (.ref a0), .val (.int (0 : Int32)), .val (.int (Int32.ofNat pre.length)), .val (.int (47 : Int32)), .val (.int r0)]) rfl (aN X50 hx rfl (D 72 rfl) rfl rfl (iW X50 hx rfl (D 73 rfl) rfl ht))) ?_
  by_cases hc52 : r0 < (0 : Int32)
  · obtain ⟨T53, h53, X53, e53, W53, st53⟩ := putF X50 hx hZ hown (host := "") (Or.inl (wt hw 55 rfl)) Via.refl hs50 M40.g_tagEnd f42 (Or.inl (wt hw 56 rfl)) (wt hw 19 rfl) (ty := .int) (by decide) rfl rfl (g := (mkF m 207 #[.val (.ref a0), .val (.int (0 : Int32)), .val (.int (Int32.ofNat pre.length)), .val (.int (47 : Int32)), .val (.int r0)] [(.int (-1 : Int32)), (.ref a0)])) rfl rfl (D 77 rfl)
    have f54 := (f42.wr W53)
    have f55 := (f43.other W53 hnt)
    have f56 := (f44.wr W53)
    have f57 := (f45.wr W53)
    have f58 := (f46.wr W53)
    have Z59 := Nat.le_trans Z47 (Keep.of_wr W53).1
    have K60 := K48.wr W53 (Or.inl (List.mem_of_getElem? (i := 0) rfl))
    have N61 := Fr.snoc X53 N51 g0
    have M62 := M40.put_tagEnd hw W53
    refine OFin.of (fun t ht => fN X50 hx rfl (D 74 rfl) rfl ((if0 _ _).trans (tlt hc52).2.1) (iC X50 hx rfl (D 75 rfl) (gO X50 hx rfl 200 207 rfl (D 76 rfl) (by decide) (st53 t ht)))) ?_
    obtain ⟨T63, X63, e63, st63⟩ := getF X53 hx hZ hown (host := "") (Or.inl (wt hw 31 rfl)) Via.refl e53 M62.g_end (g := (mkF m 217 #[.val (.ref a0), .val (.int (0 : Int32)), .val (.int (Int32.ofNat pre.length)), .val (.int (47 : Int32)), .val (.int r0)] [(.ref a0), (.ref a0)])) rfl rfl (D 82 rfl)
    refine OFin.of (fun t ht => aN X53 hx rfl (D 78 rfl) rfl rfl (iW X53 hx rfl (D 79 rfl) rfl (fN X53 hx rfl (D 80 rfl) rfl ((if0 _ _).trans (tlt hc52).2.1) (aN X53 hx rfl (D 81 rfl) rfl rfl (st63 t ht))))) ?_
    obtain ⟨T64, h64, X64, e64, W64, st64⟩ := putF X63 hx hZ hown (host := "") (Or.inl (wt hw 29 rfl)) Via.refl e63 M62.g_at f54 (Or.inl (wt hw 30 rfl)) (wt hw 19 rfl) (ty := .int) (by decide) rfl rfl (g := (mkF m 227 #[.val (.ref a0), .val (.int (0 : Int32)), .val (.int (Int32.ofNat pre.length)), .val (.int (47 : Int32)), .val (.int r0)] [(.int (Int32.ofNat pre.length)), (.ref a0)])) rfl rfl (D 84 rfl)
    have f65 := (f54.wr W64)
    have f66 := (f55.other W64 hnt)
    have f67 := (f56.wr W64)
    have f68 := (f57.wr W64)
    have f69 := (f58.wr W64)
    have Z70 := Nat.le_trans Z59 (Keep.of_wr W64).1
    have K71 := K60.wr W64 (Or.inl (List.mem_of_getElem? (i := 0) rfl))
    have N72 := Fr.snoc X64 N61 g0
    have M73 := M62.put_at hw W64
    refine OFin.of (fun t ht => gO X63 hx rfl 220 227 rfl (D 83 rfl) (by decide) (st64 t ht)) ?_
    obtain ⟨T74, X74, e74, st74⟩ := getF X64 hx hZ hown (host := "") (Or.inl (wt hw 53 rfl)) Via.refl e64 M73.g_kind (g := (mkF m 258 #[.val (.ref a0), .val (.int (0 : Int32)), .val (.int (Int32.ofNat pre.length)), .val (.int (47 : Int32)), .val (.int r0)] [(.ref a0), (.ref a0)])) rfl rfl (D 49 rfl)
    refine OFin.of (fun t ht => gO X64 hx rfl 230 256 rfl (D 85 rfl) (by decide) (aN X64 hx rfl (D 47 rfl) rfl rfl (aN X64 hx rfl (D 48 rfl) rfl rfl (st74 t ht)))) ?_
    obtain ⟨T75, X75, e75, st75⟩ := getS (host := "") X74 hx hZ hown (wt hw 50 rfl) Via.refl e74 f67 (g := (mkF m 261 #[.val (.ref a0), .val (.int (0 : Int32)), .val (.int (Int32.ofNat pre.length)), .val (.int (47 : Int32)), .val (.int r0)] [(.ref kEND), (.ref a0)])) rfl (D 50 rfl)
    refine OFin.of st75 ?_
    obtain ⟨T76, h76, X76, e76, W76, st76⟩ := putFN X75 hx hZ hown (wt hw 71 rfl) Via.refl e75 M73.g_attributesLeft f65 (Or.inl (wt hw 72 rfl)) (wt hw 19 rfl) (ty := .boolean) (v' := (.int (0 : Int32))) (by decide) rfl rfl (g := (mkF m 272 #[.val (.ref a0), .val (.int (0 : Int32)), .val (.int (Int32.ofNat pre.length)), .val (.int (47 : Int32)), .val (.int r0)] [(.int (0 : Int32)), (.ref a0)])) rfl rfl (D 54 rfl)
    have f77 := (f65.wr W76)
    have f78 := (f66.other W76 hnt)
    have f79 := (f67.wr W76)
    have f80 := (f68.wr W76)
    have f81 := (f69.wr W76)
    have Z82 := Nat.le_trans Z70 (Keep.of_wr W76).1
    have K83 := K71.wr W76 (Or.inl (List.mem_of_getElem? (i := 0) rfl))
    have N84 := Fr.snoc X76 N72 g0
    have M85 := M73.put_attributesLeft hw W76
    refine OFin.of (fun t ht => acmp X75 hx rfl (cd := .ne) (x := (.ref kEND)) (y := (.ref kSTART)) rfl rfl (pc0 := 264) (pc' := 271) (same := false) rfl (D 51 rfl) rfl (decide_eq_false (fun q => hne1 (Value.ref.inj q))) (by decide) (by decide) (iC X75 hx rfl (D 86 rfl) (st76 t ht))) ?_
    refine OFin.of (S' := T76.setTop (mkF m 276 #[.val (.ref a0), .val (.int (0 : Int32)), .val (.int (Int32.ofNat pre.length)), .val (.int (47 : Int32)), .val (.int r0)] [(.int (1 : Int32))])) (fun t ht => iC X76 hx rfl (D 55 rfl) ht) ?_
    exact OFin.retB X76 hx hlk (t := .boolean) (by simp) hret (D 56 rfl) (by decide) (by decide) (by rw [e76]; exact ⟨hv40, (Int32.ofNat pre.length), (-1 : Int32), rfl, N84, K83, M85⟩)
  · obtain ⟨T86, h86, X86, e86, W86, st86⟩ := putF X50 hx hZ hown (host := "") (Or.inl (wt hw 55 rfl)) Via.refl hs50 M40.g_tagEnd f42 (Or.inl (wt hw 56 rfl)) (wt hw 19 rfl) (ty := .int) (by decide) rfl rfl (g := (mkF m 207 #[.val (.ref a0), .val (.int (0 : Int32)), .val (.int (Int32.ofNat pre.length)), .val (.int (47 : Int32)), .val (.int r0)] [(.int (r0 + (1 : Int32))), (.ref a0)])) rfl rfl (D 77 rfl)
    have f87 := (f42.wr W86)
    have f88 := (f43.other W86 hnt)
    have f89 := (f44.wr W86)
    have f90 := (f45.wr W86)
    have f91 := (f46.wr W86)
    have Z92 := Nat.le_trans Z47 (Keep.of_wr W86).1
    have K93 := K48.wr W86 (Or.inl (List.mem_of_getElem? (i := 0) rfl))
    have N94 := Fr.snoc X86 N51 g0
    have M95 := M40.put_tagEnd hw W86
    refine OFin.of (fun t ht => fY X50 hx rfl 196 203 rfl (D 74 rfl) rfl ((if0 _ _).trans (flt hc52).2.1) (by decide) (iW X50 hx rfl (D 87 rfl) rfl (iC X50 hx rfl (D 88 rfl) (XS.iadd X50.here hx rfl (D 89 rfl) rfl (st86 t ht))))) ?_
    obtain ⟨T96, h96, X96, e96, W96, st96⟩ := putF X86 hx hZ hown (host := "") (Or.inl (wt hw 29 rfl)) Via.refl e86 M95.g_at f87 (Or.inl (wt hw 30 rfl)) (wt hw 19 rfl) (ty := .int) (by decide) rfl rfl (g := (mkF m 227 #[.val (.ref a0), .val (.int (0 : Int32)), .val (.int (Int32.ofNat pre.length)), .val (.int (47 : Int32)), .val (.int r0)] [(.int (r0 + (1 : Int32))), (.ref a0)])) rfl rfl (D 84 rfl)
    have f97 := (f87.wr W96)
    have f98 := (f88.other W96 hnt)
    have f99 := (f89.wr W96)
    have f100 := (f90.wr W96)
    have f101 := (f91.wr W96)
    have Z102 := Nat.le_trans Z92 (Keep.of_wr W96).1
    have K103 := K93.wr W96 (Or.inl (List.mem_of_getElem? (i := 0) rfl))
    have N104 := Fr.snoc X96 N94 g0
    have M105 := M95.put_at hw W96
    refine OFin.of (fun t ht => aN X86 hx rfl (D 78 rfl) rfl rfl (iW X86 hx rfl (D 79 rfl) rfl (fY X86 hx rfl 213 223 rfl (D 80 rfl) rfl ((if0 _ _).trans (flt hc52).2.1) (by decide) (iW X86 hx rfl (D 90 rfl) rfl (iC X86 hx rfl (D 91 rfl) (XS.iadd X86.here hx rfl (D 92 rfl) rfl (st96 t ht))))))) ?_
    obtain ⟨T106, X106, e106, st106⟩ := getF X96 hx hZ hown (host := "") (Or.inl (wt hw 53 rfl)) Via.refl e96 M105.g_kind (g := (mkF m 258 #[.val (.ref a0), .val (.int (0 : Int32)), .val (.int (Int32.ofNat pre.length)), .val (.int (47 : Int32)), .val (.int r0)] [(.ref a0), (.ref a0)])) rfl rfl (D 49 rfl)
    refine OFin.of (fun t ht => gO X96 hx rfl 230 256 rfl (D 85 rfl) (by decide) (aN X96 hx rfl (D 47 rfl) rfl rfl (aN X96 hx rfl (D 48 rfl) rfl rfl (st106 t ht)))) ?_
    obtain ⟨T107, X107, e107, st107⟩ := getS (host := "") X106 hx hZ hown (wt hw 50 rfl) Via.refl e106 f99 (g := (mkF m 261 #[.val (.ref a0), .val (.int (0 : Int32)), .val (.int (Int32.ofNat pre.length)), .val (.int (47 : Int32)), .val (.int r0)] [(.ref kEND), (.ref a0)])) rfl (D 50 rfl)
    refine OFin.of st107 ?_
    obtain ⟨T108, h108, X108, e108, W108, st108⟩ := putFN X107 hx hZ hown (wt hw 71 rfl) Via.refl e107 M105.g_attributesLeft f97 (Or.inl (wt hw 72 rfl)) (wt hw 19 rfl) (ty := .boolean) (v' := (.int (0 : Int32))) (by decide) rfl rfl (g := (mkF m 272 #[.val (.ref a0), .val (.int (0 : Int32)), .val (.int (Int32.ofNat pre.length)), .val (.int (47 : Int32)), .val (.int r0)] [(.int (0 : Int32)), (.ref a0)])) rfl rfl (D 54 rfl)
    have f109 := (f97.wr W108)
    have f110 := (f98.other W108 hnt)
    have f111 := (f99.wr W108)
    have f112 := (f100.wr W108)
    have f113 := (f101.wr W108)
    have Z114 := Nat.le_trans Z102 (Keep.of_wr W108).1
    have K115 := K103.wr W108 (Or.inl (List.mem_of_getElem? (i := 0) rfl))
    have N116 := Fr.snoc X108 N104 g0
    have M117 := M105.put_attributesLeft hw W108
    refine OFin.of (fun t ht => acmp X107 hx rfl (cd := .ne) (x := (.ref kEND)) (y := (.ref kSTART)) rfl rfl (pc0 := 264) (pc' := 271) (same := false) rfl (D 51 rfl) rfl (decide_eq_false (fun q => hne1 (Value.ref.inj q))) (by decide) (by decide) (iC X107 hx rfl (D 86 rfl) (st108 t ht))) ?_
    refine OFin.of (S' := T108.setTop (mkF m 276 #[.val (.ref a0), .val (.int (0 : Int32)), .val (.int (Int32.ofNat pre.length)), .val (.int (47 : Int32)), .val (.int r0)] [(.int (1 : Int32))])) (fun t ht => iC X108 hx rfl (D 55 rfl) ht) ?_
    exact OFin.retB X108 hx hlk (t := .boolean) (by simp) hret (D 56 rfl) (by decide) (by decide) (by rw [e108]; exact ⟨hv40, (r0 + (1 : Int32)), (r0 + (1 : Int32)), rfl, N116, K115, M117⟩)
theorem efNa0 {m : MethodId} {a0 : Addr} : entryFrame m #[(.ref a0)] 2 = mkF m 0 #[.val (.ref a0), .unset] [] := by first | (simp [entryFrame, mkF, argsToLocals, Value.category]; done) | rfl
def QNa0 (Z : State) (a0 : Addr) (h0 : Heap) (n0 : Nat) (v : Option Value) (h : Heap) (L : List Loc) : Prop := v = some (.int (0 : Int32)) ∧ Fr n0 L ∧ h = h0
theorem rmNa0 (l : Launch) (Z : State) (a0 : Array Value) (hw : HW a0 Z) (ws : List Jvm.Cond) (a0 : Addr) (h0 : Heap) (n0 : Nat) (Z0 : n0 ≤ h0.size) (Fl : Fld Z h0 a0 cA "attributesLeft" "Z" (.int (0 : Int32))) :
    Con l mn10 (Jvm.Cond.code mn10 prog_7_method_8_code 2 (some .boolean)) ws (⟨0, 0, 0, 0⟩ : Jvm.Room) #[(.ref a0)] Z h0 (QNa0 Z a0 h0 n0) := by
  refine own_of (plainFor_of_name pn_0) hisR dl_prog_7_8 ?_
  intro p e s m below meth c s₁ hx D hlk hret hml hZ hown hnm X0 e0
  replace hown : s.vm.findClass cA = some m.cls := hown
  have N0 := Fr.nil n0
  rw [efNa0]
  obtain ⟨T1, X1, e1, st1⟩ := getF X0 hx hZ hown (host := "") (Or.inl (wt hw 71 rfl)) Via.refl e0 Fl (g := (mkF m 1 #[.val (.ref a0), .unset] [(.ref a0)])) rfl rfl (D 1 rfl)
  refine OFin.of (fun t ht => aN X0 hx rfl (D 0 rfl) rfl rfl (st1 t ht)) ?_
  refine OFin.of (S' := T1.setTop (mkF m 8 #[.val (.ref a0), .unset] [(.int (0 : Int32))])) (fun t ht => fN X1 hx rfl (D 2 rfl) rfl ((if0 _ _).trans (teq (by decide : (0 : Int32) = (0 : Int32))).2) (iC X1 hx rfl (D 3 rfl) ht)) ?_
  exact OFin.retB X1 hx hlk (t := .boolean) (by simp) hret (D 4 rfl) (by decide) (by decide) (by rw [e1]; exact ⟨rfl, N0, rfl⟩)
abbrev own_nsp : Int32 → Bool := fun x => !own_isp x
abbrev own_stop1 (pre : List Int32) (j : Nat) : Prop := Int32.ofNat j = Int32.ofNat pre.length ∨ pre.getD j 0 = (62 : Int32) ∨ pre.getD j 0 = (47 : Int32)
abbrev own_stop2 (pre : List Int32) (j : Nat) : Prop := Int32.ofNat j = Int32.ofNat pre.length ∨ ¬ pre.getD j 0 = (61 : Int32)
abbrev own_stop3 (pre : List Int32) (j : Nat) : Prop := Int32.ofNat j = Int32.ofNat pre.length ∨ (¬ pre.getD j 0 = (39 : Int32) ∧ ¬ pre.getD j 0 = (34 : Int32))
def own_j1 (pre : List Int32) (i : Nat) : Nat := own_find own_nsp pre i
def own_j2 (pre : List Int32) (i : Nat) : Nat := own_find own_en pre (own_j1 pre i)
def own_j3 (pre : List Int32) (i : Nat) : Nat := own_find own_nsp pre (own_j2 pre i)
def own_j4 (pre : List Int32) (i : Nat) : Nat := own_find own_nsp pre (own_j3 pre i + 1)
def own_rx (pre : List Int32) (i : Nat) : Int32 := own_ix pre (pre.getD (own_j4 pre i) 0) (own_j4 pre i + 1)
def own_r1 (pre : List Int32) (i : Nat) : Nat := own_find (fun x => decide (x = pre.getD (own_j4 pre i) 0)) pre (own_j4 pre i + 1)
def own_raF (pre : List Int32) (i : Nat) : Option Nat :=
  if own_stop1 pre (own_j1 pre i) then some (own_j1 pre i) else if own_stop2 pre (own_j3 pre i) then some (own_j3 pre i) else if own_stop3 pre (own_j4 pre i) then some (own_j4 pre i) else if own_rx pre i < (0 : Int32) then some pre.length else none
section OwnRa
variable {pre : List Int32} {i j1 j2 j3 j4 r1 : Nat} {rr : Int32} (hy1 : own_find own_nsp pre i = j1) (hy2 : own_find own_en pre j1 = j2) (hy3 : own_find own_nsp pre j2 = j3) (hy4 : own_find own_nsp pre (j3 + 1) = j4) (hrr : own_ix pre (pre.getD j4 0) (j4 + 1) = rr)
theorem own_ra1 (hy1 : own_find own_nsp pre i = j1) (h : own_stop1 pre j1) : own_raF pre i = some j1 := by
  subst hy1; exact if_pos h
theorem own_ra2 (hy1 : own_find own_nsp pre i = j1) (hy2 : own_find own_en pre j1 = j2) (hy3 : own_find own_nsp pre j2 = j3) (n1 : ¬ own_stop1 pre j1) (h : own_stop2 pre j3) : own_raF pre i = some j3 := by
  subst hy3 hy2 hy1; exact (if_neg n1).trans (if_pos h)
theorem own_ra3 (hy1 : own_find own_nsp pre i = j1) (hy2 : own_find own_en pre j1 = j2) (hy3 : own_find own_nsp pre j2 = j3) (hy4 : own_find own_nsp pre (j3 + 1) = j4) (n1 : ¬ own_stop1 pre j1) (n2 : ¬ own_stop2 pre j3) (h : own_stop3 pre j4) : own_raF pre i = some j4 := by
  subst hy4 hy3 hy2 hy1; exact (if_neg n1).trans ((if_neg n2).trans (if_pos h))
theorem own_ra4 (hy1 : own_find own_nsp pre i = j1) (hy2 : own_find own_en pre j1 = j2) (hy3 : own_find own_nsp pre j2 = j3) (hy4 : own_find own_nsp pre (j3 + 1) = j4) (hrr : own_ix pre (pre.getD j4 0) (j4 + 1) = rr) (n1 : ¬ own_stop1 pre j1) (n2 : ¬ own_stop2 pre j3) (n3 : ¬ own_stop3 pre j4) (h : rr < (0 : Int32)) : own_raF pre i = some pre.length := by
  subst hrr hy4 hy3 hy2 hy1; exact (if_neg n1).trans ((if_neg n2).trans ((if_neg n3).trans (if_pos h)))
theorem own_raN (hy1 : own_find own_nsp pre i = j1) (hy2 : own_find own_en pre j1 = j2) (hy3 : own_find own_nsp pre j2 = j3) (hy4 : own_find own_nsp pre (j3 + 1) = j4) (hrr : own_ix pre (pre.getD j4 0) (j4 + 1) = rr) (n1 : ¬ own_stop1 pre j1) (n2 : ¬ own_stop2 pre j3) (n3 : ¬ own_stop3 pre j4) (h : ¬ rr < (0 : Int32)) : own_raF pre i = none := by
  subst hrr hy4 hy3 hy2 hy1; exact (if_neg n1).trans ((if_neg n2).trans ((if_neg n3).trans (if_neg h)))
end OwnRa
theorem own_no3 {A B D : Prop} (a : ¬ A) (b : ¬ B) (d : ¬ D) : ¬ (A ∨ B ∨ D) := fun q => q.elim a (fun q => q.elim b d)
theorem own_no2 {A B : Prop} (a : ¬ A) (b : B) : ¬ (A ∨ ¬ B) := fun q => q.elim a (fun n => n b)
theorem own_no2q {A B D : Prop} (a : ¬ A) (b : B ∨ D) : ¬ (A ∨ (¬ B ∧ ¬ D)) := fun q => q.elim a (fun n => b.elim n.1 n.2)
theorem own_ixn {pre : List Int32} {b : Int32} {i r1 : Nat} {rr : Int32} (hy : own_find (fun x => decide (x = b)) pre i = r1) (hrr : own_ix pre b i = rr) (h : ¬ rr < (0 : Int32)) : rr = Int32.ofNat r1 := by
  subst hrr hy
  unfold own_ix at *
  split
  · rfl
  · rename_i q; rw [if_neg q] at h; exact absurd (by decide) h
theorem own_ixl {pre : List Int32} {b : Int32} {i r1 : Nat} (hy : own_find (fun x => decide (x = b)) pre i = r1) (h : ¬ own_ix pre b i < (0 : Int32)) : r1 < pre.length := by
  subst hy
  unfold own_ix at h
  split at h
  · assumption
  · exact absurd (by decide) h
def own_te (pre : List Int32) (j : Nat) : Int32 := if own_ix pre 62 j < (0 : Int32) then -1 else own_ix pre 62 j + (1 : Int32)
def own_em (pre : List Int32) (j : Nat) : Int32 := if own_ix pre 62 j < (0 : Int32) then 0 else if (1 : Int32) < own_ix pre 62 j ∧ pre.getD (own_find (fun x => decide (x = 62)) pre j - 1) 0 = (47 : Int32) then 1 else 0
section OwnTe
variable {pre : List Int32} {j g : Nat} {rr : Int32}
theorem own_te_n (hr : own_ix pre 62 j = rr) (h : rr < (0 : Int32)) : own_te pre j = (-1 : Int32) := by subst hr; exact if_pos h
theorem own_te_y (hr : own_ix pre 62 j = rr) (h : ¬ rr < (0 : Int32)) : own_te pre j = rr + (1 : Int32) := by subst hr; exact if_neg h
theorem own_em_n (hr : own_ix pre 62 j = rr) (h : rr < (0 : Int32)) : own_em pre j = (0 : Int32) := by subst hr; exact if_pos h
theorem own_em_0 (hr : own_ix pre 62 j = rr) (h : ¬ rr < (0 : Int32)) (h1 : ¬ (1 : Int32) < rr) : own_em pre j = (0 : Int32) := by subst hr; exact (if_neg h).trans (if_neg fun q => h1 q.1)
theorem own_em_f (hg : own_find (fun x => decide (x = 62)) pre j = g) (hr : own_ix pre 62 j = rr) (h : ¬ rr < (0 : Int32)) (h2 : ¬ pre.getD (g - 1) 0 = (47 : Int32)) : own_em pre j = (0 : Int32) := by subst hr hg; exact (if_neg h).trans (if_neg fun q => h2 q.2)
theorem own_em_t (hg : own_find (fun x => decide (x = 62)) pre j = g) (hr : own_ix pre 62 j = rr) (h : ¬ rr < (0 : Int32)) (h1 : (1 : Int32) < rr) (h2 : pre.getD (g - 1) 0 = (47 : Int32)) : own_em pre j = (1 : Int32) := by subst hr hg; exact (if_neg h).trans (if_pos ⟨h1, h2⟩)
theorem own_neg1 (h : rr < (0 : Int32)) : ¬ (1 : Int32) < rr := by
  rw [Int32.lt_iff_toInt_lt] at *
  have e0 : (0 : Int32).toInt = 0 := by decide
  have e1 : (1 : Int32).toInt = 1 := by decide
  omega
theorem own_g1 (h : (1 : Int32) < Int32.ofNat g) : 1 ≤ g := by
  cases g with
  | zero => revert h; decide
  | succ k => omega
end OwnTe
theorem efRa {m : MethodId} {a0 : Addr} : entryFrame m #[(.ref a0)] 2 = mkF m 0 #[.val (.ref a0), .unset] [] := by first | (simp [entryFrame, mkF, argsToLocals, Value.category]; done) | rfl
def QRa (Z : State) (a0 tx : Addr) (kt : ClassId) (nt : Int32) (pre : List Int32) (vkd : Value) (vts vte vem vns vne vnh vvs vve val : Int32) (i0 j1 j2 j3 j4 r1 : Nat) (rr : Int32) (h0 : Heap) (n0 : Nat) (v : Option Value) (h : Heap) (L : List Loc) : Prop := (∃ (ja : Nat) (ns1 ne1 nh1 : Int32), own_raF pre i0 = some ja ∧ ja ≤ pre.length ∧ v = some (.int (0 : Int32)) ∧ Fr n0 L ∧ Keep h0 h [a0] ∧ Mk Z h a0 (.ref tx) (.int (Int32.ofNat ja)) (.int (Int32.ofNat pre.length)) vkd (.int vts) (.int vte) (.int vem) (.int ns1) (.int ne1) (.int nh1) (.int vvs) (.int vve) (.int val)) ∨ (own_raF pre i0 = none ∧ ∃ nh1 : Int32, v = some (.int (1 : Int32)) ∧ Fr n0 L ∧ Keep h0 h [a0] ∧ Mk Z h a0 (.ref tx) (.int ((Int32.ofNat r1) + (1 : Int32))) (.int (Int32.ofNat pre.length)) vkd (.int vts) (.int vte) (.int vem) (.int (Int32.ofNat j1)) (.int (Int32.ofNat j2)) (.int nh1) (.int (Int32.ofNat (j4 + 1))) (.int (Int32.ofNat r1)) (.int val))
theorem rmRa (l : Launch) (Z : State) (a0 : Array Value) (hw : HW a0 Z) (ws : List Jvm.Cond) (a0 tx : Addr) (kt : ClassId) (nt : Int32) (pre : List Int32) (vkd : Value) (vts vte vem vns vne vnh vvs vve val : Int32) (i0 j1 j2 j3 j4 r1 : Nat) (rr : Int32) (h0 : Heap) (n0 : Nat) (Z0 : n0 ≤ h0.size) (EO : Exa Z h0 a0 cA) (M0 : Mk Z h0 a0 (.ref tx) (.int (Int32.ofNat i0)) (.int (Int32.ofNat pre.length)) vkd (.int vts) (.int vte) (.int vem) (.int vns) (.int vne) (.int vnh) (.int vvs) (.int vve) (.int val)) (Tx : Txt Z h0 tx kt nt pre) (g0 : n0 ≤ a0) (hnt : tx ≠ a0) (hi0 : i0 ≤ pre.length) (hy1 : own_find own_nsp pre i0 = j1) (hy2 : own_find own_en pre j1 = j2) (hy3 : own_find own_nsp pre j2 = j3) (hy4 : own_find own_nsp pre (j3 + 1) = j4) (hy5 : own_find (fun x => decide (x = pre.getD j4 0)) pre (j4 + 1) = r1) (hrr : own_ix pre (pre.getD j4 0) (j4 + 1) = rr) :
    Con l mn11 (Jvm.Cond.code mn11 prog_7_method_9_code 2 (some .boolean)) ws (⟨2, 0, 0, 29⟩ : Jvm.Room) #[(.ref a0)] Z h0 (QRa Z a0 tx kt nt pre vkd vts vte vem vns vne vnh vvs vve val i0 j1 j2 j3 j4 r1 rr h0 n0) := by
  refine own_of (plainFor_of_name pn_0) hisR dl_prog_7_9 ?_
  intro p e s m below meth c s₁ hx D hlk hret hml hZ hown hnm X0 e0
  replace hown : s.vm.findClass cA = some m.cls := hown
  have N0 := Fr.nil n0
  rw [efRa]
  have K0 : Keep h0 h0 [a0] := Keep.refl _ _
  have hl1 : j1 ≤ pre.length := hy1 ▸ own_find_le _ hi0
  have hl2 : j2 ≤ pre.length := hy2 ▸ own_find_le _ hl1
  have hl3 : j3 ≤ pre.length := hy3 ▸ own_find_le _ hl2
  obtain ⟨T1, X1, e1, st1⟩ := getF X0 hx hZ hown (host := "") (Or.inl (wt hw 29 rfl)) Via.refl e0 M0.g_at (g := (mkF m 3 #[.val (.ref a0), .unset] [(.ref a0), (.ref a0), (.ref a0)])) rfl rfl (D 3 rfl)
  refine OFin.of (fun t ht => aN X0 hx rfl (D 0 rfl) rfl rfl (aN X0 hx rfl (D 1 rfl) rfl rfl (aN X0 hx rfl (D 2 rfl) rfl rfl (st1 t ht)))) ?_
  obtain ⟨_, T2, Lc2, X2, hQ2, st2⟩ := own_cP X1 hx hw hZ hown 87 88 19 89 20 90 rfl rfl rfl rfl rfl rfl (by decide) EO (rmPs l Z _ hw [] a0 tx kt nt pre i0 j1 h0 n0 Z0 M0.g_text M0.g_end Tx hi0 hy1) (by decide) (by decide) (g := (mkF m 6 #[.val (.ref a0), .unset] [(.int (Int32.ofNat i0)), (.ref a0), (.ref a0)])) rfl hml rfl (argsL := [(.int (Int32.ofNat i0))]) (rest := [(.ref a0)]) pd_3 rfl rfl rfl (W := 1) (Nat.le_of_eq rfl) (D 4 rfl) rfl e1 (by decide) (by decide)
  obtain ⟨rfl, Nq2, hs2⟩ := hQ2
  have N3 := Fr.app N0 Nq2
  refine OFin.to st2 ?_
  obtain ⟨T4, h4, X4, e4, W4, st4⟩ := putF X2 hx hZ hown (host := "") (Or.inl (wt hw 29 rfl)) Via.refl hs2 M0.g_at EO (Or.inl (wt hw 30 rfl)) (wt hw 19 rfl) (ty := .int) (by decide) rfl rfl (g := (mkF m 9 #[.val (.ref a0), .unset] [(.int (Int32.ofNat j1)), (.ref a0)])) rfl rfl (D 5 rfl)
  have f5 := (EO.wr W4)
  have f6 := (Tx.other W4 hnt)
  have Z7 := Nat.le_trans Z0 (Keep.of_wr W4).1
  have K8 := K0.wr W4 (Or.inl (List.mem_of_getElem? (i := 0) rfl))
  have N9 := Fr.snoc X4 N3 g0
  have M10 := M0.put_at hw W4
  refine OFin.of st4 ?_
  obtain ⟨T11, X11, e11, st11⟩ := getF X4 hx hZ hown (host := "") (Or.inl (wt hw 29 rfl)) Via.refl e4 M10.g_at (g := (mkF m 13 #[.val (.ref a0), .unset] [(.ref a0)])) rfl rfl (D 7 rfl)
  refine OFin.of (fun t ht => aN X4 hx rfl (D 6 rfl) rfl rfl (st11 t ht)) ?_
  obtain ⟨T12, X12, e12, st12⟩ := getF X11 hx hZ hown (host := "") (Or.inl (wt hw 31 rfl)) Via.refl e11 M10.g_end (g := (mkF m 17 #[.val (.ref a0), .unset] [(.ref a0), (.int (Int32.ofNat j1))])) rfl rfl (D 9 rfl)
  refine OFin.of (fun t ht => aN X11 hx rfl (D 8 rfl) rfl rfl (st12 t ht)) ?_
  by_cases hc13 : (Int32.ofNat j1) = (Int32.ofNat pre.length)
  · refine OFin.of (S' := T12.setTop (mkF m 52 #[.val (.ref a0), .unset] [(.int (0 : Int32))])) (fun t ht => cY X12 hx rfl 20 51 rfl (D 10 rfl) rfl (teq hc13).1 (by decide) (iC X12 hx rfl (D 11 rfl) ht)) ?_
    exact OFin.retB X12 hx hlk (t := .boolean) (by simp) hret (D 12 rfl) (by decide) (by decide) (by rw [e12]; exact Or.inl ⟨j1, vns, vne, vnh, own_ra1 hy1 (Or.inl hc13), hl1, rfl, N9, K8, M10⟩)
  · obtain ⟨T14, X14, e14, st14⟩ := getF X12 hx hZ hown (host := "") (Or.inl (wt hw 27 rfl)) Via.refl e12 M10.g_text (g := (mkF m 24 #[.val (.ref a0), .unset] [(.ref a0)])) rfl rfl (D 14 rfl)
    refine OFin.of (fun t ht => cN X12 hx rfl (D 10 rfl) rfl (feq hc13).1 (aN X12 hx rfl (D 13 rfl) rfl rfl (st14 t ht))) ?_
    obtain ⟨T15, X15, e15, st15⟩ := getF X14 hx hZ hown (host := "") (Or.inl (wt hw 29 rfl)) Via.refl e14 M10.g_at (g := (mkF m 28 #[.val (.ref a0), .unset] [(.ref a0), (.ref tx)])) rfl rfl (D 16 rfl)
    refine OFin.of (fun t ht => aN X14 hx rfl (D 15 rfl) rfl rfl (st15 t ht)) ?_
    obtain ⟨cl16, Ar16, hin16, hat16⟩ := Txt.at f6 (j := (Int32.ofNat j1)) (i := j1) rfl (own_ltne Tx hl1 hc13)
    refine OFin.of (fun t ht => X15.baloadBytes hx (j := (Int32.ofNat j1)) (v := (.int (pre.getD j1 0))) (by rw [e15]; exact Ar16.1) (State.isArrayOf_alike hZ.alike Ar16.2.1) Ar16.2.2 hin16 hat16 (g := (mkF m 31 #[.val (.ref a0), .unset] [(.int (Int32.ofNat j1)), (.ref tx)])) rfl rfl (D 17 rfl) _ ht) ?_
    refine OFin.of (S' := T15.setTop (mkF m 34 #[.val (.ref a0), .unset] [(.int (62 : Int32)), (.int (pre.getD j1 0))])) (fun t ht => bP X15 hx rfl (D 18 rfl) ht) ?_
    by_cases hc17 : (pre.getD j1 0) = (62 : Int32)
    · refine OFin.of (S' := T15.setTop (mkF m 52 #[.val (.ref a0), .unset] [(.int (0 : Int32))])) (fun t ht => cY X15 hx rfl 34 51 rfl (D 19 rfl) rfl (teq hc17).1 (by decide) (iC X15 hx rfl (D 11 rfl) ht)) ?_
      exact OFin.retB X15 hx hlk (t := .boolean) (by simp) hret (D 12 rfl) (by decide) (by decide) (by rw [e15]; exact Or.inl ⟨j1, vns, vne, vnh, own_ra1 hy1 (Or.inr (Or.inl hc17)), hl1, rfl, N9, K8, M10⟩)
    · obtain ⟨T18, X18, e18, st18⟩ := getF X15 hx hZ hown (host := "") (Or.inl (wt hw 27 rfl)) Via.refl e15 M10.g_text (g := (mkF m 38 #[.val (.ref a0), .unset] [(.ref a0)])) rfl rfl (D 21 rfl)
      refine OFin.of (fun t ht => cN X15 hx rfl (D 19 rfl) rfl (feq hc17).1 (aN X15 hx rfl (D 20 rfl) rfl rfl (st18 t ht))) ?_
      obtain ⟨T19, X19, e19, st19⟩ := getF X18 hx hZ hown (host := "") (Or.inl (wt hw 29 rfl)) Via.refl e18 M10.g_at (g := (mkF m 42 #[.val (.ref a0), .unset] [(.ref a0), (.ref tx)])) rfl rfl (D 23 rfl)
      refine OFin.of (fun t ht => aN X18 hx rfl (D 22 rfl) rfl rfl (st19 t ht)) ?_
      obtain ⟨cl20, Ar20, hin20, hat20⟩ := Txt.at f6 (j := (Int32.ofNat j1)) (i := j1) rfl (own_ltne Tx hl1 hc13)
      refine OFin.of (fun t ht => X19.baloadBytes hx (j := (Int32.ofNat j1)) (v := (.int (pre.getD j1 0))) (by rw [e19]; exact Ar20.1) (State.isArrayOf_alike hZ.alike Ar20.2.1) Ar20.2.2 hin20 hat20 (g := (mkF m 45 #[.val (.ref a0), .unset] [(.int (Int32.ofNat j1)), (.ref tx)])) rfl rfl (D 24 rfl) _ ht) ?_
      refine OFin.of (S' := T19.setTop (mkF m 48 #[.val (.ref a0), .unset] [(.int (47 : Int32)), (.int (pre.getD j1 0))])) (fun t ht => bP X19 hx rfl (D 25 rfl) ht) ?_
      by_cases hc21 : (pre.getD j1 0) = (47 : Int32)
      · refine OFin.of (S' := T19.setTop (mkF m 52 #[.val (.ref a0), .unset] [(.int (0 : Int32))])) (fun t ht => cN X19 hx rfl (D 26 rfl) rfl (teq hc21).2 (iC X19 hx rfl (D 11 rfl) ht)) ?_
        exact OFin.retB X19 hx hlk (t := .boolean) (by simp) hret (D 12 rfl) (by decide) (by decide) (by rw [e19]; exact Or.inl ⟨j1, vns, vne, vnh, own_ra1 hy1 (Or.inr (Or.inr hc21)), hl1, rfl, N9, K8, M10⟩)
      · obtain ⟨T22, X22, e22, st22⟩ := getF X19 hx hZ hown (host := "") (Or.inl (wt hw 29 rfl)) Via.refl e19 M10.g_at (g := (mkF m 57 #[.val (.ref a0), .unset] [(.ref a0), (.ref a0), (.ref a0), (.ref a0)])) rfl rfl (D 31 rfl)
        refine OFin.of (fun t ht => cY X19 hx rfl 48 53 rfl (D 26 rfl) rfl (feq hc21).2 (by decide) (aN X19 hx rfl (D 27 rfl) rfl rfl (aN X19 hx rfl (D 28 rfl) rfl rfl (aN X19 hx rfl (D 29 rfl) rfl rfl (aN X19 hx rfl (D 30 rfl) rfl rfl (st22 t ht)))))) ?_
        obtain ⟨_, T23, Lc23, X23, hQ23, st23⟩ := own_cP X22 hx hw hZ hown 57 58 19 59 20 60 rfl rfl rfl rfl rfl rfl (by decide) f5 (rmRn l Z _ hw [] a0 tx kt nt pre (Int32.ofNat j1) vkd vts vte vem vns vne vnh vvs vve val j1 j2 h4 n0 Z7 f5 M10 f6 g0 hnt hl1 hy2) (by decide) (by decide) (g := (mkF m 60 #[.val (.ref a0), .unset] [(.int (Int32.ofNat j1)), (.ref a0), (.ref a0), (.ref a0)])) rfl hml rfl (argsL := [(.int (Int32.ofNat j1))]) (rest := [(.ref a0), (.ref a0)]) pd_3 rfl rfl rfl (W := 2) (Nat.le_of_eq rfl) (D 32 rfl) rfl e22 (by decide) (by decide)
        obtain ⟨hv23, rfl, Nq23, Kq23, M23⟩ := hQ23
        have N24 := Fr.app N9 Nq23
        have f25 := (f5.keep Kq23)
        have f26 := (f6.keep Kq23 (ninS hnt nin0))
        have Z27 := Nat.le_trans Z7 Kq23.1
        have K28 := K8.trans Kq23 (allS (Or.inl (List.mem_of_getElem? (i := 0) rfl)) all0)
        refine OFin.to st23 ?_
        obtain ⟨_, T29, Lc29, X29, hQ29, st29⟩ := own_cP X23 hx hw hZ hown 87 88 19 89 20 90 rfl rfl rfl rfl rfl rfl (by decide) f25 (rmPs l Z _ hw [] a0 tx kt nt pre j2 j3 T23.heap n0 Z27 M23.g_text M23.g_end f26 hl2 hy3) (by decide) (by decide) (g := (mkF m 63 #[.val (.ref a0), .unset] [(.int (Int32.ofNat j2)), (.ref a0), (.ref a0)])) rfl hml rfl (argsL := [(.int (Int32.ofNat j2))]) (rest := [(.ref a0)]) pd_3 rfl rfl rfl (W := 1) (Nat.le_of_eq rfl) (D 33 rfl) rfl (rfl : T23.heap = T23.heap) (by decide) (by decide)
        obtain ⟨rfl, Nq29, hs29⟩ := hQ29
        have N30 := Fr.app N24 Nq29
        refine OFin.to st29 ?_
        obtain ⟨T31, h31, X31, e31, W31, st31⟩ := putF X29 hx hZ hown (host := "") (Or.inl (wt hw 29 rfl)) Via.refl hs29 M23.g_at f25 (Or.inl (wt hw 30 rfl)) (wt hw 19 rfl) (ty := .int) (by decide) rfl rfl (g := (mkF m 66 #[.val (.ref a0), .unset] [(.int (Int32.ofNat j3)), (.ref a0)])) rfl rfl (D 34 rfl)
        have f32 := (f25.wr W31)
        have f33 := (f26.other W31 hnt)
        have Z34 := Nat.le_trans Z27 (Keep.of_wr W31).1
        have K35 := K28.wr W31 (Or.inl (List.mem_of_getElem? (i := 0) rfl))
        have N36 := Fr.snoc X31 N30 g0
        have M37 := M23.put_at hw W31
        refine OFin.of st31 ?_
        obtain ⟨T38, X38, e38, st38⟩ := getF X31 hx hZ hown (host := "") (Or.inl (wt hw 29 rfl)) Via.refl e31 M37.g_at (g := (mkF m 70 #[.val (.ref a0), .unset] [(.ref a0)])) rfl rfl (D 36 rfl)
        refine OFin.of (fun t ht => aN X31 hx rfl (D 35 rfl) rfl rfl (st38 t ht)) ?_
        obtain ⟨T39, X39, e39, st39⟩ := getF X38 hx hZ hown (host := "") (Or.inl (wt hw 31 rfl)) Via.refl e38 M37.g_end (g := (mkF m 74 #[.val (.ref a0), .unset] [(.ref a0), (.int (Int32.ofNat j3))])) rfl rfl (D 38 rfl)
        refine OFin.of (fun t ht => aN X38 hx rfl (D 37 rfl) rfl rfl (st39 t ht)) ?_
        by_cases hc40 : (Int32.ofNat j3) = (Int32.ofNat pre.length)
        · refine OFin.of (S' := T39.setTop (mkF m 95 #[.val (.ref a0), .unset] [(.int (0 : Int32))])) (fun t ht => cY X39 hx rfl 77 94 rfl (D 39 rfl) rfl (teq hc40).1 (by decide) (iC X39 hx rfl (D 40 rfl) ht)) ?_
          exact OFin.retB X39 hx hlk (t := .boolean) (by simp) hret (D 41 rfl) (by decide) (by decide) (by rw [e39]; exact Or.inl ⟨j3, (Int32.ofNat j1), (Int32.ofNat j2), hv23, own_ra2 hy1 hy2 hy3 (own_no3 hc13 hc17 hc21) (Or.inl hc40), hl3, rfl, N36, K35, M37⟩)
        · obtain ⟨T41, X41, e41, st41⟩ := getF X39 hx hZ hown (host := "") (Or.inl (wt hw 27 rfl)) Via.refl e39 M37.g_text (g := (mkF m 81 #[.val (.ref a0), .unset] [(.ref a0)])) rfl rfl (D 43 rfl)
          refine OFin.of (fun t ht => cN X39 hx rfl (D 39 rfl) rfl (feq hc40).1 (aN X39 hx rfl (D 42 rfl) rfl rfl (st41 t ht))) ?_
          obtain ⟨T42, X42, e42, st42⟩ := getF X41 hx hZ hown (host := "") (Or.inl (wt hw 29 rfl)) Via.refl e41 M37.g_at (g := (mkF m 85 #[.val (.ref a0), .unset] [(.ref a0), (.ref tx)])) rfl rfl (D 45 rfl)
          refine OFin.of (fun t ht => aN X41 hx rfl (D 44 rfl) rfl rfl (st42 t ht)) ?_
          obtain ⟨cl43, Ar43, hin43, hat43⟩ := Txt.at f33 (j := (Int32.ofNat j3)) (i := j3) rfl (own_ltne Tx hl3 hc40)
          refine OFin.of (fun t ht => X42.baloadBytes hx (j := (Int32.ofNat j3)) (v := (.int (pre.getD j3 0))) (by rw [e42]; exact Ar43.1) (State.isArrayOf_alike hZ.alike Ar43.2.1) Ar43.2.2 hin43 hat43 (g := (mkF m 88 #[.val (.ref a0), .unset] [(.int (Int32.ofNat j3)), (.ref tx)])) rfl rfl (D 46 rfl) _ ht) ?_
          refine OFin.of (S' := T42.setTop (mkF m 91 #[.val (.ref a0), .unset] [(.int (61 : Int32)), (.int (pre.getD j3 0))])) (fun t ht => bP X42 hx rfl (D 47 rfl) ht) ?_
          by_cases hc44 : (pre.getD j3 0) = (61 : Int32)
          · refine OFin.of (S' := T42.setTop (mkF m 96 #[.val (.ref a0), .unset] [])) (fun t ht => cY X42 hx rfl 91 96 rfl (D 48 rfl) rfl (teq hc44).1 (by decide) ht) ?_
            have hm3 := own_ltne Tx hl3 hc40
            have hl4 : j4 ≤ pre.length := hy4 ▸ own_find_le _ hm3
            obtain ⟨T45, X45, e45, st45⟩ := getF X42 hx hZ hown (host := "") (Or.inl (wt hw 29 rfl)) Via.refl e42 M37.g_at (g := (mkF m 99 #[.val (.ref a0), .unset] [(.ref a0), (.ref a0), (.ref a0)])) rfl rfl (D 52 rfl)
            refine OFin.of (fun t ht => aN X42 hx rfl (D 49 rfl) rfl rfl (aN X42 hx rfl (D 50 rfl) rfl rfl (aN X42 hx rfl (D 51 rfl) rfl rfl (st45 t ht)))) ?_
            refine OFin.of (S' := T45.setTop (mkF m 104 #[.val (.ref a0), .unset] [(.int ((Int32.ofNat j3) + (1 : Int32))), (.ref a0), (.ref a0)])) (fun t ht => iC X45 hx rfl (D 53 rfl) (XS.iadd X45.here hx rfl (D 54 rfl) rfl ht)) ?_
            rw [own_succ j3]
            obtain ⟨_, T46, Lc46, X46, hQ46, st46⟩ := own_cP X45 hx hw hZ hown 87 88 19 89 20 90 rfl rfl rfl rfl rfl rfl (by decide) f32 (rmPs l Z _ hw [] a0 tx kt nt pre (j3 + 1) j4 h31 n0 Z34 M37.g_text M37.g_end f33 hm3 hy4) (by decide) (by decide) (g := (mkF m 104 #[.val (.ref a0), .unset] [(.int (Int32.ofNat (j3 + 1))), (.ref a0), (.ref a0)])) rfl hml rfl (argsL := [(.int (Int32.ofNat (j3 + 1)))]) (rest := [(.ref a0)]) pd_3 rfl rfl rfl (W := 1) (Nat.le_of_eq rfl) (D 55 rfl) rfl e45 (by decide) (by decide)
            obtain ⟨rfl, Nq46, hs46⟩ := hQ46
            have N47 := Fr.app N36 Nq46
            refine OFin.to st46 ?_
            obtain ⟨T48, h48, X48, e48, W48, st48⟩ := putF X46 hx hZ hown (host := "") (Or.inl (wt hw 29 rfl)) Via.refl hs46 M37.g_at f32 (Or.inl (wt hw 30 rfl)) (wt hw 19 rfl) (ty := .int) (by decide) rfl rfl (g := (mkF m 107 #[.val (.ref a0), .unset] [(.int (Int32.ofNat j4)), (.ref a0)])) rfl rfl (D 56 rfl)
            have f49 := (f32.wr W48)
            have f50 := (f33.other W48 hnt)
            have Z51 := Nat.le_trans Z34 (Keep.of_wr W48).1
            have K52 := K35.wr W48 (Or.inl (List.mem_of_getElem? (i := 0) rfl))
            have N53 := Fr.snoc X48 N47 g0
            have M54 := M37.put_at hw W48
            refine OFin.of st48 ?_
            obtain ⟨T55, X55, e55, st55⟩ := getF X48 hx hZ hown (host := "") (Or.inl (wt hw 29 rfl)) Via.refl e48 M54.g_at (g := (mkF m 111 #[.val (.ref a0), .unset] [(.ref a0)])) rfl rfl (D 58 rfl)
            refine OFin.of (fun t ht => aN X48 hx rfl (D 57 rfl) rfl rfl (st55 t ht)) ?_
            obtain ⟨T56, X56, e56, st56⟩ := getF X55 hx hZ hown (host := "") (Or.inl (wt hw 31 rfl)) Via.refl e55 M54.g_end (g := (mkF m 115 #[.val (.ref a0), .unset] [(.ref a0), (.int (Int32.ofNat j4))])) rfl rfl (D 60 rfl)
            refine OFin.of (fun t ht => aN X55 hx rfl (D 59 rfl) rfl rfl (st56 t ht)) ?_
            by_cases hc57 : (Int32.ofNat j4) = (Int32.ofNat pre.length)
            · refine OFin.of (S' := T56.setTop (mkF m 150 #[.val (.ref a0), .unset] [(.int (0 : Int32))])) (fun t ht => cY X56 hx rfl 118 149 rfl (D 61 rfl) rfl (teq hc57).1 (by decide) (iC X56 hx rfl (D 62 rfl) ht)) ?_
              exact OFin.retB X56 hx hlk (t := .boolean) (by simp) hret (D 63 rfl) (by decide) (by decide) (by rw [e56]; exact Or.inl ⟨j4, (Int32.ofNat j1), (Int32.ofNat j2), hv23, own_ra3 hy1 hy2 hy3 hy4 (own_no3 hc13 hc17 hc21) (own_no2 hc40 hc44) (Or.inl hc57), hl4, rfl, N53, K52, M54⟩)
            · refine OFin.of (S' := T56.setTop (mkF m 121 #[.val (.ref a0), .unset] [])) (fun t ht => cN X56 hx rfl (D 61 rfl) rfl (feq hc57).1 ht) ?_
              have hm4 := own_ltne Tx hl4 hc57
              have jn58 : ∀ (hqq : pre.getD j4 0 = (39 : Int32) ∨ pre.getD j4 0 = (34 : Int32)) {Tl : State} {locs : List Loc} (Xl : Stand p l e (⟨2, 0, 0, 29⟩ : Jvm.Room) s m #[(.ref a0)] below meth c Tl locs 0 0) (el : Tl.heap = h48) (Nl : Fr n0 locs), OFin p e below (KPost s (QRa Z a0 tx kt nt pre vkd vts vte vem vns vne vnh vvs vve val i0 j1 j2 j3 j4 r1 rr h0 n0) (⟨2, 0, 0, 29⟩ : Jvm.Room).cells (⟨2, 0, 0, 29⟩ : Jvm.Room).slots) (Tl.setTop (mkF m 151 #[.val (.ref a0), .unset] [])) := by
                intro hqq Tl locs Xl el Nl
                obtain ⟨T59, X59, e59, st59⟩ := getF Xl hx hZ hown (host := "") (Or.inl (wt hw 27 rfl)) Via.refl el M54.g_text (g := (mkF m 153 #[.val (.ref a0), .unset] [(.ref a0), (.ref a0)])) rfl rfl (D 66 rfl)
                refine OFin.of (fun t ht => aN Xl hx rfl (D 64 rfl) rfl rfl (aN Xl hx rfl (D 65 rfl) rfl rfl (st59 t ht))) ?_
                obtain ⟨T60, X60, e60, st60⟩ := getF X59 hx hZ hown (host := "") (Or.inl (wt hw 29 rfl)) Via.refl e59 M54.g_at (g := (mkF m 157 #[.val (.ref a0), .unset] [(.ref a0), (.ref tx), (.ref a0)])) rfl rfl (D 68 rfl)
                refine OFin.of (fun t ht => aN X59 hx rfl (D 67 rfl) rfl rfl (st60 t ht)) ?_
                obtain ⟨cl61, Ar61, hin61, hat61⟩ := Txt.at f50 (j := (Int32.ofNat j4)) (i := j4) rfl hm4
                refine OFin.of (fun t ht => X60.baloadBytes hx (j := (Int32.ofNat j4)) (v := (.int (pre.getD j4 0))) (by rw [e60]; exact Ar61.1) (State.isArrayOf_alike hZ.alike Ar61.2.1) Ar61.2.2 hin61 hat61 (g := (mkF m 160 #[.val (.ref a0), .unset] [(.int (Int32.ofNat j4)), (.ref tx), (.ref a0)])) rfl rfl (D 69 rfl) _ ht) ?_
                obtain ⟨T62, X62, e62, st62⟩ := getF X60 hx hZ hown (host := "") (Or.inl (wt hw 29 rfl)) Via.refl e60 M54.g_at (g := (mkF m 162 #[.val (.ref a0), .unset] [(.ref a0), (.int (pre.getD j4 0)), (.ref a0)])) rfl rfl (D 71 rfl)
                refine OFin.of (fun t ht => aN X60 hx rfl (D 70 rfl) rfl rfl (st62 t ht)) ?_
                refine OFin.of (S' := T62.setTop (mkF m 167 #[.val (.ref a0), .unset] [(.int ((Int32.ofNat j4) + (1 : Int32))), (.int (pre.getD j4 0)), (.ref a0)])) (fun t ht => iC X62 hx rfl (D 72 rfl) (XS.iadd X62.here hx rfl (D 73 rfl) rfl ht)) ?_
                rw [own_succ j4]
                obtain ⟨_, T63, Lc63, X63, hQ63, st63⟩ := own_cP X62 hx hw hZ hown 38 39 19 40 20 41 rfl rfl rfl rfl rfl rfl (by decide) f49 (rmIx l Z _ hw [] a0 (pre.getD j4 0) tx kt nt pre (j4 + 1) rr h48 n0 Z51 M54.g_text M54.g_end f50 hm4 hrr) (by decide) (by decide) (g := (mkF m 167 #[.val (.ref a0), .unset] [(.int (Int32.ofNat (j4 + 1))), (.int (pre.getD j4 0)), (.ref a0)])) rfl hml rfl (argsL := [(.int (pre.getD j4 0)), (.int (Int32.ofNat (j4 + 1)))]) (rest := []) pd_1 rfl rfl rfl (W := 0) (Nat.le_of_eq rfl) (D 74 rfl) rfl e62 (by decide) (by decide)
                obtain ⟨rfl, Nq63, hs63⟩ := hQ63
                have N64 := Fr.app Nl Nq63
                refine OFin.to st63 ?_
                refine OFin.of (S' := T63.setTop (mkF m 172 #[.val (.ref a0), .val (.int rr)] [(.int rr)])) (fun t ht => XS.istoreN X63.here hx rfl (D 75 rfl) rfl (l' := #[.val (.ref a0), .val (.int rr)]) rfl (iN X63 hx rfl (D 76 rfl) rfl ht)) ?_
                by_cases hc65 : rr < (0 : Int32)
                · obtain ⟨T66, X66, e66, st66⟩ := getF X63 hx hZ hown (host := "") (Or.inl (wt hw 31 rfl)) Via.refl hs63 M54.g_end (g := (mkF m 177 #[.val (.ref a0), .val (.int rr)] [(.ref a0), (.ref a0)])) rfl rfl (D 80 rfl)
                  refine OFin.of (fun t ht => fN X63 hx rfl (D 77 rfl) rfl ((if0 _ _).trans (tlt hc65).2.1) (aN X63 hx rfl (D 78 rfl) rfl rfl (aN X63 hx rfl (D 79 rfl) rfl rfl (st66 t ht)))) ?_
                  obtain ⟨T67, h67, X67, e67, W67, st67⟩ := putF X66 hx hZ hown (host := "") (Or.inl (wt hw 29 rfl)) Via.refl e66 M54.g_at f49 (Or.inl (wt hw 30 rfl)) (wt hw 19 rfl) (ty := .int) (by decide) rfl rfl (g := (mkF m 180 #[.val (.ref a0), .val (.int rr)] [(.int (Int32.ofNat pre.length)), (.ref a0)])) rfl rfl (D 81 rfl)
                  have f68 := (f49.wr W67)
                  have f69 := (f50.other W67 hnt)
                  have Z70 := Nat.le_trans Z51 (Keep.of_wr W67).1
                  have K71 := K52.wr W67 (Or.inl (List.mem_of_getElem? (i := 0) rfl))
                  have N72 := Fr.snoc X67 N64 g0
                  have M73 := M54.put_at hw W67
                  refine OFin.of st67 ?_
                  refine OFin.of (S' := T67.setTop (mkF m 184 #[.val (.ref a0), .val (.int rr)] [(.int (0 : Int32))])) (fun t ht => iC X67 hx rfl (D 82 rfl) ht) ?_
                  exact OFin.retB X67 hx hlk (t := .boolean) (by simp) hret (D 83 rfl) (by decide) (by decide) (by rw [e67]; exact Or.inl ⟨pre.length, (Int32.ofNat j1), (Int32.ofNat j2), hv23, own_ra4 hy1 hy2 hy3 hy4 hrr (own_no3 hc13 hc17 hc21) (own_no2 hc40 hc44) (own_no2q hc57 hqq) hc65, (Nat.le_refl _), rfl, N72, K71, M73⟩)
                · refine OFin.of (S' := T63.setTop (mkF m 185 #[.val (.ref a0), .val (.int rr)] [])) (fun t ht => fY X63 hx rfl 172 185 rfl (D 77 rfl) rfl ((if0 _ _).trans (flt hc65).2.1) (by decide) ht) ?_
                  obtain rfl := own_ixn hy5 hrr hc65
                  obtain ⟨T74, X74, e74, st74⟩ := getF X63 hx hZ hown (host := "") (Or.inl (wt hw 29 rfl)) Via.refl hs63 M54.g_at (g := (mkF m 187 #[.val (.ref a0), .val (.int (Int32.ofNat r1))] [(.ref a0), (.ref a0)])) rfl rfl (D 86 rfl)
                  refine OFin.of (fun t ht => aN X63 hx rfl (D 84 rfl) rfl rfl (aN X63 hx rfl (D 85 rfl) rfl rfl (st74 t ht))) ?_
                  refine OFin.of (S' := T74.setTop (mkF m 192 #[.val (.ref a0), .val (.int (Int32.ofNat r1))] [(.int ((Int32.ofNat j4) + (1 : Int32))), (.ref a0)])) (fun t ht => iC X74 hx rfl (D 87 rfl) (XS.iadd X74.here hx rfl (D 88 rfl) rfl ht)) ?_
                  rw [own_succ j4]
                  obtain ⟨T75, h75, X75, e75, W75, st75⟩ := putF X74 hx hZ hown (host := "") (Or.inl (wt hw 153 rfl)) Via.refl e74 M54.g_valueStart f49 (Or.inl (wt hw 154 rfl)) (wt hw 19 rfl) (ty := .int) (by decide) rfl rfl (g := (mkF m 192 #[.val (.ref a0), .val (.int (Int32.ofNat r1))] [(.int (Int32.ofNat (j4 + 1))), (.ref a0)])) rfl rfl (D 89 rfl)
                  have f76 := (f49.wr W75)
                  have f77 := (f50.other W75 hnt)
                  have Z78 := Nat.le_trans Z51 (Keep.of_wr W75).1
                  have K79 := K52.wr W75 (Or.inl (List.mem_of_getElem? (i := 0) rfl))
                  have N80 := Fr.snoc X75 N64 g0
                  have M81 := M54.put_valueStart hw W75
                  refine OFin.of st75 ?_
                  obtain ⟨T82, h82, X82, e82, W82, st82⟩ := putF X75 hx hZ hown (host := "") (Or.inl (wt hw 155 rfl)) Via.refl e75 M81.g_valueEnd f76 (Or.inl (wt hw 156 rfl)) (wt hw 19 rfl) (ty := .int) (by decide) rfl rfl (g := (mkF m 197 #[.val (.ref a0), .val (.int (Int32.ofNat r1))] [(.int (Int32.ofNat r1)), (.ref a0)])) rfl rfl (D 92 rfl)
                  have f83 := (f76.wr W82)
                  have f84 := (f77.other W82 hnt)
                  have Z85 := Nat.le_trans Z78 (Keep.of_wr W82).1
                  have K86 := K79.wr W82 (Or.inl (List.mem_of_getElem? (i := 0) rfl))
                  have N87 := Fr.snoc X82 N80 g0
                  have M88 := M81.put_valueEnd hw W82
                  refine OFin.of (fun t ht => aN X75 hx rfl (D 90 rfl) rfl rfl (iN X75 hx rfl (D 91 rfl) rfl (st82 t ht))) ?_
                  obtain ⟨T89, h89, X89, e89, W89, st89⟩ := putF X82 hx hZ hown (host := "") (Or.inl (wt hw 29 rfl)) Via.refl e82 M88.g_at f83 (Or.inl (wt hw 30 rfl)) (wt hw 19 rfl) (ty := .int) (by decide) rfl rfl (g := (mkF m 204 #[.val (.ref a0), .val (.int (Int32.ofNat r1))] [(.int ((Int32.ofNat r1) + (1 : Int32))), (.ref a0)])) rfl rfl (D 97 rfl)
                  have f90 := (f83.wr W89)
                  have f91 := (f84.other W89 hnt)
                  have Z92 := Nat.le_trans Z85 (Keep.of_wr W89).1
                  have K93 := K86.wr W89 (Or.inl (List.mem_of_getElem? (i := 0) rfl))
                  have N94 := Fr.snoc X89 N87 g0
                  have M95 := M88.put_at hw W89
                  refine OFin.of (fun t ht => aN X82 hx rfl (D 93 rfl) rfl rfl (iN X82 hx rfl (D 94 rfl) rfl (iC X82 hx rfl (D 95 rfl) (XS.iadd X82.here hx rfl (D 96 rfl) rfl (st89 t ht))))) ?_
                  refine OFin.of (S' := T89.setTop (mkF m 208 #[.val (.ref a0), .val (.int (Int32.ofNat r1))] [(.int (1 : Int32))])) (fun t ht => iC X89 hx rfl (D 98 rfl) ht) ?_
                  exact OFin.retB X89 hx hlk (t := .boolean) (by simp) hret (D 99 rfl) (by decide) (by decide) (by rw [e89]; exact Or.inr ⟨own_raN hy1 hy2 hy3 hy4 hrr (own_no3 hc13 hc17 hc21) (own_no2 hc40 hc44) (own_no2q hc57 hqq) hc65, hv23, rfl, N94, K93, M95⟩)
              obtain ⟨T96, X96, e96, st96⟩ := getF X56 hx hZ hown (host := "") (Or.inl (wt hw 27 rfl)) Via.refl e56 M54.g_text (g := (mkF m 122 #[.val (.ref a0), .unset] [(.ref a0)])) rfl rfl (D 101 rfl)
              refine OFin.of (fun t ht => aN X56 hx rfl (D 100 rfl) rfl rfl (st96 t ht)) ?_
              obtain ⟨T97, X97, e97, st97⟩ := getF X96 hx hZ hown (host := "") (Or.inl (wt hw 29 rfl)) Via.refl e96 M54.g_at (g := (mkF m 126 #[.val (.ref a0), .unset] [(.ref a0), (.ref tx)])) rfl rfl (D 103 rfl)
              refine OFin.of (fun t ht => aN X96 hx rfl (D 102 rfl) rfl rfl (st97 t ht)) ?_
              obtain ⟨cl98, Ar98, hin98, hat98⟩ := Txt.at f50 (j := (Int32.ofNat j4)) (i := j4) rfl hm4
              refine OFin.of (fun t ht => X97.baloadBytes hx (j := (Int32.ofNat j4)) (v := (.int (pre.getD j4 0))) (by rw [e97]; exact Ar98.1) (State.isArrayOf_alike hZ.alike Ar98.2.1) Ar98.2.2 hin98 hat98 (g := (mkF m 129 #[.val (.ref a0), .unset] [(.int (Int32.ofNat j4)), (.ref tx)])) rfl rfl (D 104 rfl) _ ht) ?_
              refine OFin.of (S' := T97.setTop (mkF m 132 #[.val (.ref a0), .unset] [(.int (39 : Int32)), (.int (pre.getD j4 0))])) (fun t ht => bP X97 hx rfl (D 105 rfl) ht) ?_
              by_cases hc99 : (pre.getD j4 0) = (39 : Int32)
              · refine OFin.of (S' := T97.setTop (mkF m 151 #[.val (.ref a0), .unset] [])) (fun t ht => cY X97 hx rfl 132 151 rfl (D 106 rfl) rfl (teq hc99).1 (by decide) ht) ?_
                exact jn58 (Or.inl hc99) X97 e97 N53
              · obtain ⟨T100, X100, e100, st100⟩ := getF X97 hx hZ hown (host := "") (Or.inl (wt hw 27 rfl)) Via.refl e97 M54.g_text (g := (mkF m 136 #[.val (.ref a0), .unset] [(.ref a0)])) rfl rfl (D 108 rfl)
                refine OFin.of (fun t ht => cN X97 hx rfl (D 106 rfl) rfl (feq hc99).1 (aN X97 hx rfl (D 107 rfl) rfl rfl (st100 t ht))) ?_
                obtain ⟨T101, X101, e101, st101⟩ := getF X100 hx hZ hown (host := "") (Or.inl (wt hw 29 rfl)) Via.refl e100 M54.g_at (g := (mkF m 140 #[.val (.ref a0), .unset] [(.ref a0), (.ref tx)])) rfl rfl (D 110 rfl)
                refine OFin.of (fun t ht => aN X100 hx rfl (D 109 rfl) rfl rfl (st101 t ht)) ?_
                obtain ⟨cl102, Ar102, hin102, hat102⟩ := Txt.at f50 (j := (Int32.ofNat j4)) (i := j4) rfl hm4
                refine OFin.of (fun t ht => X101.baloadBytes hx (j := (Int32.ofNat j4)) (v := (.int (pre.getD j4 0))) (by rw [e101]; exact Ar102.1) (State.isArrayOf_alike hZ.alike Ar102.2.1) Ar102.2.2 hin102 hat102 (g := (mkF m 143 #[.val (.ref a0), .unset] [(.int (Int32.ofNat j4)), (.ref tx)])) rfl rfl (D 111 rfl) _ ht) ?_
                refine OFin.of (S' := T101.setTop (mkF m 146 #[.val (.ref a0), .unset] [(.int (34 : Int32)), (.int (pre.getD j4 0))])) (fun t ht => bP X101 hx rfl (D 112 rfl) ht) ?_
                by_cases hc103 : (pre.getD j4 0) = (34 : Int32)
                · refine OFin.of (S' := T101.setTop (mkF m 151 #[.val (.ref a0), .unset] [])) (fun t ht => cY X101 hx rfl 146 151 rfl (D 113 rfl) rfl (teq hc103).1 (by decide) ht) ?_
                  exact jn58 (Or.inr hc103) X101 e101 N53
                · refine OFin.of (S' := T101.setTop (mkF m 150 #[.val (.ref a0), .unset] [(.int (0 : Int32))])) (fun t ht => cN X101 hx rfl (D 113 rfl) rfl (feq hc103).1 (iC X101 hx rfl (D 62 rfl) ht)) ?_
                  exact OFin.retB X101 hx hlk (t := .boolean) (by simp) hret (D 63 rfl) (by decide) (by decide) (by rw [e101]; exact Or.inl ⟨j4, (Int32.ofNat j1), (Int32.ofNat j2), hv23, own_ra3 hy1 hy2 hy3 hy4 (own_no3 hc13 hc17 hc21) (own_no2 hc40 hc44) (Or.inr ⟨hc99, hc103⟩), hl4, rfl, N53, K52, M54⟩)
          · refine OFin.of (S' := T42.setTop (mkF m 95 #[.val (.ref a0), .unset] [(.int (0 : Int32))])) (fun t ht => cN X42 hx rfl (D 48 rfl) rfl (feq hc44).1 (iC X42 hx rfl (D 40 rfl) ht)) ?_
            exact OFin.retB X42 hx hlk (t := .boolean) (by simp) hret (D 41 rfl) (by decide) (by decide) (by rw [e42]; exact Or.inl ⟨j3, (Int32.ofNat j1), (Int32.ofNat j2), hv23, own_ra2 hy1 hy2 hy3 (own_no3 hc13 hc17 hc21) (Or.inr hc44), hl3, rfl, N36, K35, M37⟩)
theorem efNb {m : MethodId} {a0 : Addr} : entryFrame m #[(.ref a0)] 2 = mkF m 0 #[.val (.ref a0), .unset] [] := by first | (simp [entryFrame, mkF, argsToLocals, Value.category]; done) | rfl
def QNb (Z : State) (a0 tx : Addr) (kt : ClassId) (nt : Int32) (pre : List Int32) (vkd : Value) (vte vem vns vne vnh vvs vve : Int32) (i0 : Nat) (h0 : Heap) (n0 : Nat) (v : Option Value) (h : Heap) (L : List Loc) : Prop := (∃ (ja : Nat) (ns1 ne1 nh1 : Int32), own_raF pre i0 = some ja ∧ v = some (.int (0 : Int32)) ∧ Fr n0 L ∧ Keep h0 h [a0] ∧ Mk Z h a0 (.ref tx) (.int (Int32.ofNat ja)) (.int (Int32.ofNat pre.length)) vkd (.int (0 : Int32)) (.int (own_te pre ja)) (.int (own_em pre ja)) (.int ns1) (.int ne1) (.int nh1) (.int vvs) (.int vve) (.int (0 : Int32))) ∨ (own_raF pre i0 = none ∧ ∃ nh1 : Int32, v = some (.int (1 : Int32)) ∧ Fr n0 L ∧ Keep h0 h [a0] ∧ Mk Z h a0 (.ref tx) (.int ((Int32.ofNat (own_r1 pre i0)) + (1 : Int32))) (.int (Int32.ofNat pre.length)) vkd (.int (0 : Int32)) (.int vte) (.int vem) (.int (Int32.ofNat (own_j1 pre i0))) (.int (Int32.ofNat (own_j2 pre i0))) (.int nh1) (.int (Int32.ofNat ((own_j4 pre i0) + 1))) (.int (Int32.ofNat (own_r1 pre i0))) (.int (1 : Int32)))
theorem rmNb (l : Launch) (Z : State) (a0 : Array Value) (hw : HW a0 Z) (ws : List Jvm.Cond) (a0 tx : Addr) (kt : ClassId) (nt : Int32) (pre : List Int32) (vkd : Value) (vte vem vns vne vnh vvs vve : Int32) (i0 : Nat) (h0 : Heap) (n0 : Nat) (Z0 : n0 ≤ h0.size) (EO : Exa Z h0 a0 cA) (M0 : Mk Z h0 a0 (.ref tx) (.int (Int32.ofNat i0)) (.int (Int32.ofNat pre.length)) vkd (.int (0 : Int32)) (.int vte) (.int vem) (.int vns) (.int vne) (.int vnh) (.int vvs) (.int vve) (.int (1 : Int32))) (Tx : Txt Z h0 tx kt nt pre) (g0 : n0 ≤ a0) (hnt : tx ≠ a0) (hi0 : i0 ≤ pre.length) :
    Con l mn10 (Jvm.Cond.code mn10 prog_7_method_8_code 2 (some .boolean)) ws (⟨3, 0, 0, 43⟩ : Jvm.Room) #[(.ref a0)] Z h0 (QNb Z a0 tx kt nt pre vkd vte vem vns vne vnh vvs vve i0 h0 n0) := by
  refine own_of (plainFor_of_name pn_0) hisR dl_prog_7_8 ?_
  intro p e s m below meth c s₁ hx D hlk hret hml hZ hown hnm X0 e0
  replace hown : s.vm.findClass cA = some m.cls := hown
  have N0 := Fr.nil n0
  rw [efNb]
  have K0 : Keep h0 h0 [a0] := Keep.refl _ _
  obtain ⟨T1, X1, e1, st1⟩ := getF X0 hx hZ hown (host := "") (Or.inl (wt hw 71 rfl)) Via.refl e0 M0.g_attributesLeft (g := (mkF m 1 #[.val (.ref a0), .unset] [(.ref a0)])) rfl rfl (D 1 rfl)
  refine OFin.of (fun t ht => aN X0 hx rfl (D 0 rfl) rfl rfl (st1 t ht)) ?_
  obtain ⟨_, T2, Lc2, X2, hQ2, st2⟩ := own_cP X1 hx hw hZ hown 83 84 19 85 20 86 rfl rfl rfl rfl rfl rfl (by decide) EO (rmRa l Z _ hw [] a0 tx kt nt pre vkd (0 : Int32) vte vem vns vne vnh vvs vve (1 : Int32) i0 _ _ _ _ _ _ h0 n0 Z0 EO M0 Tx g0 hnt hi0 rfl rfl rfl rfl rfl rfl) (by decide) (by decide) (g := (mkF m 11 #[.val (.ref a0), .unset] [(.ref a0), (.ref a0)])) rfl hml rfl (argsL := []) (rest := [(.ref a0)]) pd_4 rfl rfl rfl (W := 1) (Nat.le_of_eq rfl) (D 7 rfl) rfl e1 (by decide) (by decide)
  rcases hQ2 with ⟨ja_2, ns1_2, ne1_2, nh1_2, hF_2, hJ_2, rfl, Nq2, Kq2, M2⟩ | ⟨hF_2, nh1_2, rfl, Nq2, Kq2, M2⟩
  · have N3 := Fr.app N0 Nq2
    have f4 := (EO.keep Kq2)
    have f5 := (Tx.keep Kq2 (ninS hnt nin0))
    have Z6 := Nat.le_trans Z0 Kq2.1
    have K7 := K0.trans Kq2 (allS (Or.inl (List.mem_of_getElem? (i := 0) rfl)) all0)
    refine OFin.of (fun t ht => fY X1 hx rfl 4 9 rfl (D 2 rfl) rfl ((if0 _ _).trans (feq (by decide : ¬ ((1 : Int32) = (0 : Int32)))).2) (by decide) (aN X1 hx rfl (D 5 rfl) rfl rfl (aN X1 hx rfl (D 6 rfl) rfl rfl (st2.trans ht)))) ?_
    obtain ⟨T8, h8, X8, e8, W8, st8⟩ := putFN X2 hx hZ hown (wt hw 71 rfl) Via.refl (rfl : T2.heap = T2.heap) M2.g_attributesLeft f4 (Or.inl (wt hw 72 rfl)) (wt hw 19 rfl) (ty := .boolean) (v' := (.int (0 : Int32))) (by decide) rfl rfl (g := (mkF m 14 #[.val (.ref a0), .unset] [(.int (0 : Int32)), (.ref a0)])) rfl rfl (D 8 rfl)
    have f9 := (f4.wr W8)
    have f10 := (f5.other W8 hnt)
    have Z11 := Nat.le_trans Z6 (Keep.of_wr W8).1
    have K12 := K7.wr W8 (Or.inl (List.mem_of_getElem? (i := 0) rfl))
    have N13 := Fr.snoc X8 N3 g0
    have M14 := M2.put_attributesLeft hw W8
    refine OFin.of st8 ?_
    obtain ⟨T15, X15, e15, st15⟩ := getF X8 hx hZ hown (host := "") (Or.inl (wt hw 71 rfl)) Via.refl e8 M14.g_attributesLeft (g := (mkF m 18 #[.val (.ref a0), .unset] [(.ref a0)])) rfl rfl (D 10 rfl)
    refine OFin.of (fun t ht => aN X8 hx rfl (D 9 rfl) rfl rfl (st15 t ht)) ?_
    obtain ⟨T16, X16, e16, st16⟩ := getF X15 hx hZ hown (host := "") (Or.inl (wt hw 29 rfl)) Via.refl e15 M14.g_at (g := (mkF m 28 #[.val (.ref a0), .unset] [(.ref a0), (.int (62 : Int32)), (.ref a0)])) rfl rfl (D 15 rfl)
    refine OFin.of (fun t ht => fN X15 hx rfl (D 11 rfl) rfl ((if0 _ _).trans (teq (by decide : (0 : Int32) = (0 : Int32))).2) (aN X15 hx rfl (D 12 rfl) rfl rfl (bP X15 hx rfl (D 13 rfl) (aN X15 hx rfl (D 14 rfl) rfl rfl (st16 t ht))))) ?_
    obtain ⟨rx, hrx⟩ : ∃ z, own_ix pre 62 ja_2 = z := ⟨_, rfl⟩
    obtain ⟨g, hg⟩ : ∃ z, own_find (fun x => decide (x = 62)) pre ja_2 = z := ⟨_, rfl⟩
    obtain ⟨_, T17, Lc17, X17, hQ17, st17⟩ := own_cP X16 hx hw hZ hown 38 39 19 40 20 41 rfl rfl rfl rfl rfl rfl (by decide) f9 (rmIx l Z _ hw [] a0 (62 : Int32) tx kt nt pre ja_2 rx h8 n0 Z11 M14.g_text M14.g_end f10 hJ_2 hrx) (by decide) (by decide) (g := (mkF m 31 #[.val (.ref a0), .unset] [(.int (Int32.ofNat ja_2)), (.int (62 : Int32)), (.ref a0)])) rfl hml rfl (argsL := [(.int (62 : Int32)), (.int (Int32.ofNat ja_2))]) (rest := []) pd_1 rfl rfl rfl (W := 0) (Nat.le_of_eq rfl) (D 16 rfl) rfl e16 (by decide) (by decide)
    obtain ⟨rfl, Nq17, hs17⟩ := hQ17
    have N18 := Fr.app N13 Nq17
    refine OFin.to st17 ?_
    refine OFin.of (S' := T17.setTop (mkF m 37 #[.val (.ref a0), .val (.int rx)] [(.int rx), (.ref a0)])) (fun t ht => XS.istoreN X17.here hx rfl (D 17 rfl) rfl (l' := #[.val (.ref a0), .val (.int rx)]) rfl (aN X17 hx rfl (D 18 rfl) rfl rfl (iN X17 hx rfl (D 19 rfl) rfl ht))) ?_
    by_cases hc19 : rx < (0 : Int32)
    · obtain ⟨T20, h20, X20, e20, W20, st20⟩ := putF X17 hx hZ hown (host := "") (Or.inl (wt hw 55 rfl)) Via.refl hs17 M14.g_tagEnd f9 (Or.inl (wt hw 56 rfl)) (wt hw 19 rfl) (ty := .int) (by decide) rfl rfl (g := (mkF m 47 #[.val (.ref a0), .val (.int rx)] [(.int (-1 : Int32)), (.ref a0)])) rfl rfl (D 23 rfl)
      have f21 := (f9.wr W20)
      have f22 := (f10.other W20 hnt)
      have Z23 := Nat.le_trans Z11 (Keep.of_wr W20).1
      have K24 := K12.wr W20 (Or.inl (List.mem_of_getElem? (i := 0) rfl))
      have N25 := Fr.snoc X20 N18 g0
      have M26 := M14.put_tagEnd hw W20
      refine OFin.of (fun t ht => fN X17 hx rfl (D 20 rfl) rfl ((if0 _ _).trans (tlt hc19).2.1) (iC X17 hx rfl (D 21 rfl) (gO X17 hx rfl 41 47 rfl (D 22 rfl) (by decide) (st20 t ht)))) ?_
      obtain ⟨T27, X27, e27, st27⟩ := getF X20 hx hZ hown (host := "") (Or.inl (wt hw 46 rfl)) Via.refl e20 M26.g_tagStart (g := (mkF m 53 #[.val (.ref a0), .val (.int rx)] [(.ref a0), (.int rx), (.ref a0)])) rfl rfl (D 27 rfl)
      refine OFin.of (fun t ht => aN X20 hx rfl (D 24 rfl) rfl rfl (iN X20 hx rfl (D 25 rfl) rfl (aN X20 hx rfl (D 26 rfl) rfl rfl (st27 t ht)))) ?_
      obtain ⟨T28, h28, X28, e28, W28, st28⟩ := putFN X27 hx hZ hown (wt hw 48 rfl) Via.refl e27 M26.g_emptyElement f21 (Or.inl (wt hw 49 rfl)) (wt hw 19 rfl) (ty := .boolean) (v' := (.int (0 : Int32))) (by decide) rfl rfl (g := (mkF m 79 #[.val (.ref a0), .val (.int rx)] [(.int (0 : Int32)), (.ref a0)])) rfl rfl (D 32 rfl)
      have f29 := (f21.wr W28)
      have f30 := (f22.other W28 hnt)
      have Z31 := Nat.le_trans Z23 (Keep.of_wr W28).1
      have K32 := K24.wr W28 (Or.inl (List.mem_of_getElem? (i := 0) rfl))
      have N33 := Fr.snoc X28 N25 g0
      have M34 := M26.put_emptyElement hw W28
      refine OFin.of (fun t ht => iC X27 hx rfl (D 28 rfl) (XS.iadd X27.here hx rfl (D 29 rfl) rfl (cY X27 hx rfl 58 78 rfl (D 30 rfl) rfl (flt (own_neg1 hc19 : ¬ ((1 : Int32) < rx))).2.2.2 (by decide) (iC X27 hx rfl (D 31 rfl) (st28 t ht))))) ?_
      obtain ⟨T35, X35, e35, st35⟩ := getF X28 hx hZ hown (host := "") (Or.inl (wt hw 71 rfl)) Via.refl e28 M34.g_attributesLeft (g := (mkF m 83 #[.val (.ref a0), .val (.int rx)] [(.ref a0)])) rfl rfl (D 34 rfl)
      refine OFin.of (fun t ht => aN X28 hx rfl (D 33 rfl) rfl rfl (st35 t ht)) ?_
      exact OFin.retB X35 hx hlk (t := .boolean) (by simp) hret (D 35 rfl) (by decide) (by decide) (by rw [e35]; exact Or.inl ⟨ja_2, ns1_2, ne1_2, nh1_2, hF_2, rfl, N33, K32, by rw [own_te_n hrx hc19, own_em_n hrx hc19]; exact M34⟩)
    · refine OFin.of (S' := T17.setTop (mkF m 44 #[.val (.ref a0), .val (.int rx)] [(.ref a0)])) (fun t ht => fY X17 hx rfl 37 44 rfl (D 20 rfl) rfl ((if0 _ _).trans (flt hc19).2.1) (by decide) ht) ?_
      have hgl := own_ixl hg (hrx.symm ▸ hc19)
      obtain rfl := own_ixn hg hrx hc19
      obtain ⟨T36, h36, X36, e36, W36, st36⟩ := putF X17 hx hZ hown (host := "") (Or.inl (wt hw 55 rfl)) Via.refl hs17 M14.g_tagEnd f9 (Or.inl (wt hw 56 rfl)) (wt hw 19 rfl) (ty := .int) (by decide) rfl rfl (g := (mkF m 47 #[.val (.ref a0), .val (.int (Int32.ofNat g))] [(.int ((Int32.ofNat g) + (1 : Int32))), (.ref a0)])) rfl rfl (D 23 rfl)
      have f37 := (f9.wr W36)
      have f38 := (f10.other W36 hnt)
      have Z39 := Nat.le_trans Z11 (Keep.of_wr W36).1
      have K40 := K12.wr W36 (Or.inl (List.mem_of_getElem? (i := 0) rfl))
      have N41 := Fr.snoc X36 N18 g0
      have M42 := M14.put_tagEnd hw W36
      refine OFin.of (fun t ht => iN X17 hx rfl (D 36 rfl) rfl (iC X17 hx rfl (D 37 rfl) (XS.iadd X17.here hx rfl (D 38 rfl) rfl (st36 t ht)))) ?_
      obtain ⟨T43, X43, e43, st43⟩ := getF X36 hx hZ hown (host := "") (Or.inl (wt hw 46 rfl)) Via.refl e36 M42.g_tagStart (g := (mkF m 53 #[.val (.ref a0), .val (.int (Int32.ofNat g))] [(.ref a0), (.int (Int32.ofNat g)), (.ref a0)])) rfl rfl (D 27 rfl)
      refine OFin.of (fun t ht => aN X36 hx rfl (D 24 rfl) rfl rfl (iN X36 hx rfl (D 25 rfl) rfl (aN X36 hx rfl (D 26 rfl) rfl rfl (st43 t ht)))) ?_
      refine OFin.of (S' := T43.setTop (mkF m 58 #[.val (.ref a0), .val (.int (Int32.ofNat g))] [(.int (1 : Int32)), (.int (Int32.ofNat g)), (.ref a0)])) (fun t ht => iC X43 hx rfl (D 28 rfl) (XS.iadd X43.here hx rfl (D 29 rfl) rfl ht)) ?_
      by_cases hc44 : (1 : Int32) < (Int32.ofNat g)
      · obtain ⟨T45, X45, e45, st45⟩ := getF X43 hx hZ hown (host := "") (Or.inl (wt hw 27 rfl)) Via.refl e43 M42.g_text (g := (mkF m 62 #[.val (.ref a0), .val (.int (Int32.ofNat g))] [(.ref a0), (.ref a0)])) rfl rfl (D 40 rfl)
        refine OFin.of (fun t ht => cN X43 hx rfl (D 30 rfl) rfl (tlt hc44).2.2.2 (aN X43 hx rfl (D 39 rfl) rfl rfl (st45 t ht))) ?_
        obtain ⟨cl46, Ar46, hin46, hat46⟩ := Txt.at f38 (j := ((Int32.ofNat g) - (1 : Int32))) (i := (g - 1)) (own_pred (own_g1 hc44)) (by omega)
        refine OFin.of (fun t ht => iN X45 hx rfl (D 41 rfl) rfl (iC X45 hx rfl (D 42 rfl) (XS.isub X45.here hx rfl (D 43 rfl) rfl (X45.baloadBytes hx (j := ((Int32.ofNat g) - (1 : Int32))) (v := (.int (pre.getD (g - 1) 0))) (by rw [e45]; exact Ar46.1) (State.isArrayOf_alike hZ.alike Ar46.2.1) Ar46.2.2 hin46 hat46 (g := (mkF m 68 #[.val (.ref a0), .val (.int (Int32.ofNat g))] [(.int ((Int32.ofNat g) - (1 : Int32))), (.ref tx), (.ref a0)])) rfl rfl (D 44 rfl) _ ht)))) ?_
        refine OFin.of (S' := T45.setTop (mkF m 71 #[.val (.ref a0), .val (.int (Int32.ofNat g))] [(.int (47 : Int32)), (.int (pre.getD (g - 1) 0)), (.ref a0)])) (fun t ht => bP X45 hx rfl (D 45 rfl) ht) ?_
        by_cases hc47 : (pre.getD (g - 1) 0) = (47 : Int32)
        · obtain ⟨T48, h48, X48, e48, W48, st48⟩ := putFN X45 hx hZ hown (wt hw 48 rfl) Via.refl e45 M42.g_emptyElement f37 (Or.inl (wt hw 49 rfl)) (wt hw 19 rfl) (ty := .boolean) (v' := (.int (1 : Int32))) (by decide) rfl rfl (g := (mkF m 79 #[.val (.ref a0), .val (.int (Int32.ofNat g))] [(.int (1 : Int32)), (.ref a0)])) rfl rfl (D 32 rfl)
          have f49 := (f37.wr W48)
          have f50 := (f38.other W48 hnt)
          have Z51 := Nat.le_trans Z39 (Keep.of_wr W48).1
          have K52 := K40.wr W48 (Or.inl (List.mem_of_getElem? (i := 0) rfl))
          have N53 := Fr.snoc X48 N41 g0
          have M54 := M42.put_emptyElement hw W48
          refine OFin.of (fun t ht => cN X45 hx rfl (D 46 rfl) rfl (teq hc47).2 (iC X45 hx rfl (D 47 rfl) (gO X45 hx rfl 75 79 rfl (D 48 rfl) (by decide) (st48 t ht)))) ?_
          obtain ⟨T55, X55, e55, st55⟩ := getF X48 hx hZ hown (host := "") (Or.inl (wt hw 71 rfl)) Via.refl e48 M54.g_attributesLeft (g := (mkF m 83 #[.val (.ref a0), .val (.int (Int32.ofNat g))] [(.ref a0)])) rfl rfl (D 34 rfl)
          refine OFin.of (fun t ht => aN X48 hx rfl (D 33 rfl) rfl rfl (st55 t ht)) ?_
          exact OFin.retB X55 hx hlk (t := .boolean) (by simp) hret (D 35 rfl) (by decide) (by decide) (by rw [e55]; exact Or.inl ⟨ja_2, ns1_2, ne1_2, nh1_2, hF_2, rfl, N53, K52, by rw [own_te_y hrx hc19, own_em_t hg hrx hc19 hc44 hc47]; exact M54⟩)
        · obtain ⟨T56, h56, X56, e56, W56, st56⟩ := putFN X45 hx hZ hown (wt hw 48 rfl) Via.refl e45 M42.g_emptyElement f37 (Or.inl (wt hw 49 rfl)) (wt hw 19 rfl) (ty := .boolean) (v' := (.int (0 : Int32))) (by decide) rfl rfl (g := (mkF m 79 #[.val (.ref a0), .val (.int (Int32.ofNat g))] [(.int (0 : Int32)), (.ref a0)])) rfl rfl (D 32 rfl)
          have f57 := (f37.wr W56)
          have f58 := (f38.other W56 hnt)
          have Z59 := Nat.le_trans Z39 (Keep.of_wr W56).1
          have K60 := K40.wr W56 (Or.inl (List.mem_of_getElem? (i := 0) rfl))
          have N61 := Fr.snoc X56 N41 g0
          have M62 := M42.put_emptyElement hw W56
          refine OFin.of (fun t ht => cY X45 hx rfl 71 78 rfl (D 46 rfl) rfl (feq hc47).2 (by decide) (iC X45 hx rfl (D 31 rfl) (st56 t ht))) ?_
          obtain ⟨T63, X63, e63, st63⟩ := getF X56 hx hZ hown (host := "") (Or.inl (wt hw 71 rfl)) Via.refl e56 M62.g_attributesLeft (g := (mkF m 83 #[.val (.ref a0), .val (.int (Int32.ofNat g))] [(.ref a0)])) rfl rfl (D 34 rfl)
          refine OFin.of (fun t ht => aN X56 hx rfl (D 33 rfl) rfl rfl (st63 t ht)) ?_
          exact OFin.retB X63 hx hlk (t := .boolean) (by simp) hret (D 35 rfl) (by decide) (by decide) (by rw [e63]; exact Or.inl ⟨ja_2, ns1_2, ne1_2, nh1_2, hF_2, rfl, N61, K60, by rw [own_te_y hrx hc19, own_em_f hg hrx hc19 hc47]; exact M62⟩)
      · obtain ⟨T64, h64, X64, e64, W64, st64⟩ := putFN X43 hx hZ hown (wt hw 48 rfl) Via.refl e43 M42.g_emptyElement f37 (Or.inl (wt hw 49 rfl)) (wt hw 19 rfl) (ty := .boolean) (v' := (.int (0 : Int32))) (by decide) rfl rfl (g := (mkF m 79 #[.val (.ref a0), .val (.int (Int32.ofNat g))] [(.int (0 : Int32)), (.ref a0)])) rfl rfl (D 32 rfl)
        have f65 := (f37.wr W64)
        have f66 := (f38.other W64 hnt)
        have Z67 := Nat.le_trans Z39 (Keep.of_wr W64).1
        have K68 := K40.wr W64 (Or.inl (List.mem_of_getElem? (i := 0) rfl))
        have N69 := Fr.snoc X64 N41 g0
        have M70 := M42.put_emptyElement hw W64
        refine OFin.of (fun t ht => cY X43 hx rfl 58 78 rfl (D 30 rfl) rfl (flt hc44).2.2.2 (by decide) (iC X43 hx rfl (D 31 rfl) (st64 t ht))) ?_
        obtain ⟨T71, X71, e71, st71⟩ := getF X64 hx hZ hown (host := "") (Or.inl (wt hw 71 rfl)) Via.refl e64 M70.g_attributesLeft (g := (mkF m 83 #[.val (.ref a0), .val (.int (Int32.ofNat g))] [(.ref a0)])) rfl rfl (D 34 rfl)
        refine OFin.of (fun t ht => aN X64 hx rfl (D 33 rfl) rfl rfl (st71 t ht)) ?_
        exact OFin.retB X71 hx hlk (t := .boolean) (by simp) hret (D 35 rfl) (by decide) (by decide) (by rw [e71]; exact Or.inl ⟨ja_2, ns1_2, ne1_2, nh1_2, hF_2, rfl, N69, K68, by rw [own_te_y hrx hc19, own_em_0 hrx hc19 hc44]; exact M70⟩)
  · have N72 := Fr.app N0 Nq2
    have f73 := (EO.keep Kq2)
    have f74 := (Tx.keep Kq2 (ninS hnt nin0))
    have Z75 := Nat.le_trans Z0 Kq2.1
    have K76 := K0.trans Kq2 (allS (Or.inl (List.mem_of_getElem? (i := 0) rfl)) all0)
    refine OFin.of (fun t ht => fY X1 hx rfl 4 9 rfl (D 2 rfl) rfl ((if0 _ _).trans (feq (by decide : ¬ ((1 : Int32) = (0 : Int32)))).2) (by decide) (aN X1 hx rfl (D 5 rfl) rfl rfl (aN X1 hx rfl (D 6 rfl) rfl rfl (st2.trans ht)))) ?_
    obtain ⟨T77, h77, X77, e77, W77, st77⟩ := putFN X2 hx hZ hown (wt hw 71 rfl) Via.refl (rfl : T2.heap = T2.heap) M2.g_attributesLeft f73 (Or.inl (wt hw 72 rfl)) (wt hw 19 rfl) (ty := .boolean) (v' := (.int (1 : Int32))) (by decide) rfl rfl (g := (mkF m 14 #[.val (.ref a0), .unset] [(.int (1 : Int32)), (.ref a0)])) rfl rfl (D 8 rfl)
    have f78 := (f73.wr W77)
    have f79 := (f74.other W77 hnt)
    have Z80 := Nat.le_trans Z75 (Keep.of_wr W77).1
    have K81 := K76.wr W77 (Or.inl (List.mem_of_getElem? (i := 0) rfl))
    have N82 := Fr.snoc X77 N72 g0
    have M83 := M2.put_attributesLeft hw W77
    refine OFin.of st77 ?_
    obtain ⟨T84, X84, e84, st84⟩ := getF X77 hx hZ hown (host := "") (Or.inl (wt hw 71 rfl)) Via.refl e77 M83.g_attributesLeft (g := (mkF m 18 #[.val (.ref a0), .unset] [(.ref a0)])) rfl rfl (D 10 rfl)
    refine OFin.of (fun t ht => aN X77 hx rfl (D 9 rfl) rfl rfl (st84 t ht)) ?_
    obtain ⟨T85, X85, e85, st85⟩ := getF X84 hx hZ hown (host := "") (Or.inl (wt hw 71 rfl)) Via.refl e84 M83.g_attributesLeft (g := (mkF m 83 #[.val (.ref a0), .unset] [(.ref a0)])) rfl rfl (D 34 rfl)
    refine OFin.of (fun t ht => fY X84 hx rfl 21 82 rfl (D 11 rfl) rfl ((if0 _ _).trans (feq (by decide : ¬ ((1 : Int32) = (0 : Int32)))).2) (by decide) (aN X84 hx rfl (D 33 rfl) rfl rfl (st85 t ht))) ?_
    exact OFin.retB X85 hx hlk (t := .boolean) (by simp) hret (D 35 rfl) (by decide) (by decide) (by rw [e85]; exact Or.inr ⟨hF_2, nh1_2, rfl, N82, K81, M83⟩)
theorem own_strAtoms {Z : State} {a0 : Array Value} (hw : ∀ d ∈ tables_1, d.before a0 Z = true) : ∀ a ∈ Bundle.stringAtoms, a.before a0 Z = true := fun a ha => by
  simp only [Bundle.stringAtoms, List.mem_cons, List.not_mem_nil, or_false] at ha
  rcases ha with rfl | rfl | rfl | rfl | rfl | rfl | rfl
  · exact (wt hw 104 rfl)
  · exact (wt hw 105 rfl)
  · exact (wt hw 0 rfl)
  · exact (wt hw 106 rfl)
  · exact (wt hw 107 rfl)
  · exact (wt hw 108 rfl)
  · exact (wt hw 109 rfl)
theorem own_EW {Z : State} {a0 : Array Value} (hw : ∀ d ∈ tables_1, d.before a0 Z = true) : EW Z a0 consts_1 := EW.cons (text := "?>") (wt hw 103 rfl) (by decide) (EW.cons (text := "") (wt hw 201 rfl) (by decide) EW.nil)
theorem pn_1 : plainName cE = true := by first | (simp [plainName, overriddenIn]; done) | decide +kernel
theorem efCkN {m : MethodId} {p0 p1 : Int32} : entryFrame m #[(.int p0), (.int p1), .null] 3 = mkF m 0 #[.val (.int p0), .val (.int p1), .val .null] [] := by first | (simp [entryFrame, mkF, argsToLocals, Value.category]; done) | rfl
def QCkN (Z : State) (p0 p1 : Int32) (h0 : Heap) (n0 : Nat) (v : Option Value) (h : Heap) (L : List Loc) : Prop := v = some (.int p0) ∧ Fr n0 L ∧ h = h0
theorem rmCkN (l : Launch) (Z : State) (a0 : Array Value) (hw : HW a0 Z) (ws : List Jvm.Cond) (p0 p1 : Int32) (h0 : Heap) (n0 : Nat) (Z0 : n0 ≤ h0.size) (hc0 : ¬ p0 < (0 : Int32)) (hc1 : p0 < p1) :
    Con l mn12 (Jvm.Cond.code mn12 jdk_41_method_11_code 3 (some .int)) ws (⟨0, 0, 0, 0⟩ : Jvm.Room) #[(.int p0), (.int p1), .null] Z h0 (QCkN Z p0 p1 h0 n0) := by
  refine own_of (plainFor_of_name pn_1) hisR dl_jdk_41_11 ?_
  intro p e s m below meth c s₁ hx D hlk hret hml hZ hown hnm X0 e0
  replace hown : s.vm.findClass cE = some m.cls := hown
  have N0 := Fr.nil n0
  rw [efCkN]
  refine OFin.of (S' := s₁.setTop (mkF m 17 #[.val (.int p0), .val (.int p1), .val .null] [(.int p0)])) (fun t ht => iN X0 hx rfl (D 0 rfl) rfl (fN X0 hx rfl (D 1 rfl) rfl ((if0 _ _).trans (flt hc0).1) (iN X0 hx rfl (D 2 rfl) rfl (iN X0 hx rfl (D 3 rfl) rfl (cY X0 hx rfl 6 16 rfl (D 4 rfl) rfl (tlt hc1).1 (by decide) (iN X0 hx rfl (D 5 rfl) rfl ht)))))) ?_
  exact OFin.retI X0 hx hlk hret (D 6 rfl) (by decide) (by decide) (by rw [e0]; exact ⟨rfl, N0, rfl⟩)
theorem efCkR {m : MethodId} {p0 p1 : Int32} {a2 : Addr} : entryFrame m #[(.int p0), (.int p1), (.ref a2)] 3 = mkF m 0 #[.val (.int p0), .val (.int p1), .val (.ref a2)] [] := by first | (simp [entryFrame, mkF, argsToLocals, Value.category]; done) | rfl
def QCkR (Z : State) (p0 p1 : Int32) (a2 : Addr) (h0 : Heap) (n0 : Nat) (v : Option Value) (h : Heap) (L : List Loc) : Prop := v = some (.int p0) ∧ Fr n0 L ∧ h = h0
theorem rmCkR (l : Launch) (Z : State) (a0 : Array Value) (hw : HW a0 Z) (ws : List Jvm.Cond) (p0 p1 : Int32) (a2 : Addr) (h0 : Heap) (n0 : Nat) (Z0 : n0 ≤ h0.size) (hc0 : ¬ p0 < (0 : Int32)) (hc1 : p0 < p1) :
    Con l mn12 (Jvm.Cond.code mn12 jdk_41_method_11_code 3 (some .int)) ws (⟨0, 0, 0, 0⟩ : Jvm.Room) #[(.int p0), (.int p1), (.ref a2)] Z h0 (QCkR Z p0 p1 a2 h0 n0) := by
  refine own_of (plainFor_of_name pn_1) hisR dl_jdk_41_11 ?_
  intro p e s m below meth c s₁ hx D hlk hret hml hZ hown hnm X0 e0
  replace hown : s.vm.findClass cE = some m.cls := hown
  have N0 := Fr.nil n0
  rw [efCkR]
  refine OFin.of (S' := s₁.setTop (mkF m 17 #[.val (.int p0), .val (.int p1), .val (.ref a2)] [(.int p0)])) (fun t ht => iN X0 hx rfl (D 0 rfl) rfl (fN X0 hx rfl (D 1 rfl) rfl ((if0 _ _).trans (flt hc0).1) (iN X0 hx rfl (D 2 rfl) rfl (iN X0 hx rfl (D 3 rfl) rfl (cY X0 hx rfl 6 16 rfl (D 4 rfl) rfl (tlt hc1).1 (by decide) (iN X0 hx rfl (D 5 rfl) rfl ht)))))) ?_
  exact OFin.retI X0 hx hlk hret (D 6 rfl) (by decide) (by decide) (by rw [e0]; exact ⟨rfl, N0, rfl⟩)
theorem rmCk (l : Launch) (Z : State) (a0 : Array Value) (hw : ∀ d ∈ tables_1, d.before a0 Z = true) (p0 p1 : Int32) (fm : Value) (hfm : fm.isRef = true) (h0 : Heap) (n0 : Nat) (Z0 : n0 ≤ h0.size) (hc0 : ¬ p0 < (0 : Int32)) (hc1 : p0 < p1) :
    MetFree l mn12 (head1 [Jvm.Cond.code mn12 jdk_41_method_11_code 3 (some .int)] ({ frames := 0, cells := 0, slots := 0, locals := 0 } : Room)) (fun a U => a = #[(.int p0), (.int p1), fm] ∧ Z.Warmed39 U.vm ∧ U.heap = h0) (fun _ _ _ _ _ => True) (fun _ U o U' => ∃ v L, o = .returned v ∧ OwnMet p0 h0 n0 v U'.heap L ∧ FrameEnd U o U' L ({ frames := 0, cells := 0, slots := 0, locals := 0 } : Room).cells ({ frames := 0, cells := 0, slots := 0, locals := 0 } : Room).slots) := by
  rcases ref_cases hfm with rfl | ⟨f, rfl⟩
  · exact rmCkN l Z _ hw [] p0 p1 h0 n0 Z0 hc0 hc1
  · exact rmCkR l Z _ hw [] p0 p1 f h0 n0 Z0 hc0 hc1
theorem pn_2 : plainName cB = true := by first | (simp [plainName, overriddenIn]; done) | decide +kernel
theorem efCkS {m : MethodId} {p0 p1 : Int32} : entryFrame m #[(.int p0), (.int p1)] 2 = mkF m 0 #[.val (.int p0), .val (.int p1)] [] := by first | (simp [entryFrame, mkF, argsToLocals, Value.category]; done) | rfl
def QCkS (Z : State) (p0 p1 : Int32) (fm : Value) (h0 : Heap) (n0 : Nat) (v : Option Value) (h : Heap) (L : List Loc) : Prop := v = none ∧ Fr n0 L ∧ h = h0
theorem rmCkS (l : Launch) (Z : State) (a0 : Array Value) (hw : HW a0 Z) (ws : List Jvm.Cond) (p0 p1 : Int32) (fm : Value) (h0 : Heap) (n0 : Nat) (Z0 : n0 ≤ h0.size) (Sfm : Sta Z h0 cE "SIOOBE_FORMATTER" cF fm) (hfm : fm.isRef = true) (hc0 : ¬ p0 < (0 : Int32)) (hc1 : p0 < p1) :
    Con l mn13 (Jvm.Cond.code mn13 jdk_42_method_155_code 2 none) ws (⟨1, 0, 0, 14⟩ : Jvm.Room) #[(.int p0), (.int p1)] Z h0 (QCkS Z p0 p1 fm h0 n0) := by
  refine own_of (plainFor_of_name pn_2) hisR dl_jdk_42_155 ?_
  intro p e s m below meth c s₁ hx D hlk hret hml hZ hown hnm X0 e0
  replace hown : s.vm.findClass cB = some m.cls := hown
  have N0 := Fr.nil n0
  rw [efCkS]
  obtain ⟨T1, X1, e1, st1⟩ := getS (host := "") X0 hx hZ hown (wt hw 148 rfl) Via.refl e0 Sfm (g := (mkF m 2 #[.val (.int p0), .val (.int p1)] [(.int p1), (.int p0)])) rfl (D 2 rfl)
  refine OFin.of (fun t ht => iN X0 hx rfl (D 0 rfl) rfl (iN X0 hx rfl (D 1 rfl) rfl (st1 t ht))) ?_
  obtain ⟨_, T2, Lc2, X2, hQ2, st2⟩ := own_cS X1 hx hw hZ hown 150 151 149 152 rfl rfl rfl rfl (by decide) (rmCk l Z _ hw p0 p1 fm hfm h0 n0 Z0 hc0 hc1) (by decide) (by decide) (g := (mkF m 5 #[.val (.int p0), .val (.int p1)] [fm, (.int p1), (.int p0)])) rfl hml rfl (argsL := [(.int p0), (.int p1), fm]) (rest := []) pd_5 rfl rfl rfl (W := 0) (Nat.le_of_eq rfl) (D 3 rfl) rfl e1 (by decide) (by decide)
  obtain ⟨rfl, Nq2, hs2⟩ := hQ2
  have N3 := Fr.app N0 Nq2
  refine OFin.to st2 ?_
  refine OFin.of (S' := T2.setTop (mkF m 9 #[.val (.int p0), .val (.int p1)] [])) (fun t ht => XS.pop X2.here hx rfl (D 4 rfl) rfl rfl ht) ?_
  exact OFin.retV X2 hx hlk hret (D 5 rfl) (by decide) (by decide) (by rw [hs2]; exact ⟨rfl, N3, rfl⟩)
theorem efCod {m : MethodId} {a0 : Addr} : entryFrame m #[(.ref a0)] 1 = mkF m 0 #[.val (.ref a0)] [] := by first | (simp [entryFrame, mkF, argsToLocals, Value.category]; done) | rfl
def QCod (Z : State) (a0 : Addr) (cs : Int32) (h0 : Heap) (n0 : Nat) (v : Option Value) (h : Heap) (L : List Loc) : Prop := v = some (.int (0 : Int32)) ∧ Fr n0 L ∧ h = h0
theorem rmCod (l : Launch) (Z : State) (a0 : Array Value) (hw : HW a0 Z) (ws : List Jvm.Cond) (a0 : Addr) (cs : Int32) (h0 : Heap) (n0 : Nat) (Z0 : n0 ≤ h0.size) (Fc : Fld Z h0 a0 cB "coder" "B" (.int (0 : Int32))) (Scs : Sta Z h0 cB "COMPACT_STRINGS" "Z" (.int cs)) (hcs : ¬ cs = (0 : Int32)) :
    Con l mn14 (Jvm.Cond.code mn14 jdk_42_method_152_code 1 (some .byte)) ws (⟨0, 0, 0, 0⟩ : Jvm.Room) #[(.ref a0)] Z h0 (QCod Z a0 cs h0 n0) := by
  refine own_of (plainFor_of_name pn_2) hisR dl_jdk_42_152 ?_
  intro p e s m below meth c s₁ hx D hlk hret hml hZ hown hnm X0 e0
  replace hown : s.vm.findClass cB = some m.cls := hown
  have N0 := Fr.nil n0
  rw [efCod]
  obtain ⟨T1, X1, e1, st1⟩ := getS (host := "") X0 hx hZ hown (wt hw 129 rfl) Via.refl e0 Scs (g := (mkF m 0 #[.val (.ref a0)] [])) rfl (D 0 rfl)
  refine OFin.of st1 ?_
  obtain ⟨T2, X2, e2, st2⟩ := getF X1 hx hZ hown (host := "") (Or.inl (wt hw 130 rfl)) Via.refl e1 Fc (g := (mkF m 7 #[.val (.ref a0)] [(.ref a0)])) rfl rfl (D 3 rfl)
  refine OFin.of (fun t ht => fN X1 hx rfl (D 1 rfl) rfl ((if0 _ _).trans (feq (hcs : ¬ (cs = (0 : Int32)))).1) (aN X1 hx rfl (D 2 rfl) rfl rfl (st2 t ht))) ?_
  refine OFin.of (S' := T2.setTop (mkF m 14 #[.val (.ref a0)] [(.int (0 : Int32))])) (fun t ht => gO X2 hx rfl 10 14 rfl (D 4 rfl) (by decide) ht) ?_
  exact OFin.retB X2 hx hlk (t := .byte) (by simp) hret (D 5 rfl) (by decide) (by decide) (by rw [e2]; exact ⟨(by show some (Value.int (nar .byte (0 : Int32))) = _; rfl), N0, rfl⟩)
theorem efIsL {m : MethodId} {a0 : Addr} : entryFrame m #[(.ref a0)] 1 = mkF m 0 #[.val (.ref a0)] [] := by first | (simp [entryFrame, mkF, argsToLocals, Value.category]; done) | rfl
def QIsL (Z : State) (a0 : Addr) (cs : Int32) (h0 : Heap) (n0 : Nat) (v : Option Value) (h : Heap) (L : List Loc) : Prop := v = some (.int (1 : Int32)) ∧ Fr n0 L ∧ h = h0
theorem rmIsL (l : Launch) (Z : State) (a0 : Array Value) (hw : HW a0 Z) (ws : List Jvm.Cond) (a0 : Addr) (cs : Int32) (h0 : Heap) (n0 : Nat) (Z0 : n0 ≤ h0.size) (Fc : Fld Z h0 a0 cB "coder" "B" (.int (0 : Int32))) (Scs : Sta Z h0 cB "COMPACT_STRINGS" "Z" (.int cs)) (hcs : ¬ cs = (0 : Int32)) :
    Con l mn15 (Jvm.Cond.code mn15 jdk_42_method_154_code 1 (some .boolean)) ws (⟨0, 0, 0, 0⟩ : Jvm.Room) #[(.ref a0)] Z h0 (QIsL Z a0 cs h0 n0) := by
  refine own_of (plainFor_of_name pn_2) hisR dl_jdk_42_154 ?_
  intro p e s m below meth c s₁ hx D hlk hret hml hZ hown hnm X0 e0
  replace hown : s.vm.findClass cB = some m.cls := hown
  have N0 := Fr.nil n0
  rw [efIsL]
  obtain ⟨T1, X1, e1, st1⟩ := getS (host := "") X0 hx hZ hown (wt hw 129 rfl) Via.refl e0 Scs (g := (mkF m 0 #[.val (.ref a0)] [])) rfl (D 0 rfl)
  refine OFin.of st1 ?_
  obtain ⟨T2, X2, e2, st2⟩ := getF X1 hx hZ hown (host := "") (Or.inl (wt hw 130 rfl)) Via.refl e1 Fc (g := (mkF m 7 #[.val (.ref a0)] [(.ref a0)])) rfl rfl (D 3 rfl)
  refine OFin.of (fun t ht => fN X1 hx rfl (D 1 rfl) rfl ((if0 _ _).trans (feq (hcs : ¬ (cs = (0 : Int32)))).1) (aN X1 hx rfl (D 2 rfl) rfl rfl (st2 t ht))) ?_
  refine OFin.of (S' := T2.setTop (mkF m 18 #[.val (.ref a0)] [(.int (1 : Int32))])) (fun t ht => fN X2 hx rfl (D 4 rfl) rfl ((if0 _ _).trans (teq (by decide : (0 : Int32) = (0 : Int32))).2) (iC X2 hx rfl (D 5 rfl) (gO X2 hx rfl 14 18 rfl (D 6 rfl) (by decide) ht))) ?_
  exact OFin.retB X2 hx hlk (t := .boolean) (by simp) hret (D 7 rfl) (by decide) (by decide) (by rw [e2]; exact ⟨(by show some (Value.int (nar .boolean (1 : Int32))) = _; rfl), N0, rfl⟩)
theorem efLen {m : MethodId} {a0 : Addr} : entryFrame m #[(.ref a0)] 1 = mkF m 0 #[.val (.ref a0)] [] := by first | (simp [entryFrame, mkF, argsToLocals, Value.category]; done) | rfl
def QLen (Z : State) (a0 tv : Addr) (kv : ClassId) (cs : Int32) (h0 : Heap) (n0 : Nat) (v : Option Value) (h : Heap) (L : List Loc) : Prop := v = some (.int (2 : Int32)) ∧ Fr n0 L ∧ h = h0
theorem rmLen (l : Launch) (Z : State) (a0 : Array Value) (hw : HW a0 Z) (ws : List Jvm.Cond) (a0 tv : Addr) (kv : ClassId) (cs : Int32) (h0 : Heap) (n0 : Nat) (Z0 : n0 ≤ h0.size) (ES : Exa Z h0 a0 cB) (Fc : Fld Z h0 a0 cB "coder" "B" (.int (0 : Int32))) (Fv : Fld Z h0 a0 cB "value" "[B" (.ref tv)) (Vv : Arv Z h0 tv kv .byte (2 : Int32) [(.int (63 : Int32)), (.int (62 : Int32))] (.int (0 : Int32))) (Scs : Sta Z h0 cB "COMPACT_STRINGS" "Z" (.int cs)) (hcs : ¬ cs = (0 : Int32)) :
    Con l mn16 (Jvm.Cond.code mn16 jdk_42_method_54_code 1 (some .int)) ws (⟨1, 0, 0, 13⟩ : Jvm.Room) #[(.ref a0)] Z h0 (QLen Z a0 tv kv cs h0 n0) := by
  refine own_of (plainFor_of_name pn_2) hisR dl_jdk_42_54 ?_
  intro p e s m below meth c s₁ hx D hlk hret hml hZ hown hnm X0 e0
  replace hown : s.vm.findClass cB = some m.cls := hown
  have N0 := Fr.nil n0
  rw [efLen]
  obtain ⟨T1, X1, e1, st1⟩ := getF X0 hx hZ hown (host := "") (Or.inl (wt hw 123 rfl)) Via.refl e0 Fv (g := (mkF m 1 #[.val (.ref a0)] [(.ref a0)])) rfl rfl (D 1 rfl)
  refine OFin.of (fun t ht => aN X0 hx rfl (D 0 rfl) rfl rfl (st1 t ht)) ?_
  obtain ⟨cl2, Ar2, q2, S2, Ng2, H2, G2⟩ := id Vv
  refine OFin.of (fun t ht => own_alen X1 hx hZ e1 Ar2 S2 Ng2 (g := (mkF m 4 #[.val (.ref a0)] [(.ref tv)])) rfl rfl (D 2 rfl) ht) ?_
  obtain ⟨_, T3, Lc3, X3, hQ3, st3⟩ := own_cV X1 hx hw hZ hown 124 125 127 126 104 128 rfl rfl rfl rfl rfl rfl (by decide) ES (rmCod l Z _ hw [] a0 cs h0 n0 Z0 Fc Scs hcs) (by decide) (by decide) (g := (mkF m 6 #[.val (.ref a0)] [(.ref a0), (.int (2 : Int32))])) rfl hml rfl (argsL := []) (rest := [(.int (2 : Int32))]) pd_6 rfl rfl rfl (W := 1) (Nat.le_of_eq rfl) (D 4 rfl) rfl e1 (by decide) (by decide)
  obtain ⟨rfl, Nq3, hs3⟩ := hQ3
  have N4 := Fr.app N0 Nq3
  refine OFin.of (fun t ht => aN X1 hx rfl (D 3 rfl) rfl rfl (st3.trans ht)) ?_
  refine OFin.of (S' := T3.setTop (mkF m 10 #[.val (.ref a0)] [(.int ((2 : Int32) >>> ((0 : Int32) &&& 31)))])) (fun t ht => XS.ishr X3.here hx rfl (D 5 rfl) rfl ht) ?_
  exact OFin.retI X3 hx hlk hret (D 6 rfl) (by decide) (by decide) (by rw [hs3]; exact ⟨(by show some (Value.int ((2 : Int32) >>> ((0 : Int32) &&& 31))) = _; rfl), N4, rfl⟩)
theorem pn_3 : plainName cJ = true := by first | (simp [plainName, overriddenIn]; done) | decide +kernel
theorem efL1c0 {m : MethodId} {a0 : Addr} : entryFrame m #[(.ref a0), (.int (0 : Int32))] 2 = mkF m 0 #[.val (.ref a0), .val (.int (0 : Int32))] [] := by first | (simp [entryFrame, mkF, argsToLocals, Value.category]; done) | rfl
def QL1c0 (Z : State) (a0 : Addr) (kv : ClassId) (fm : Value) (h0 : Heap) (n0 : Nat) (v : Option Value) (h : Heap) (L : List Loc) : Prop := v = some (.int (63 : Int32)) ∧ Fr n0 L ∧ h = h0
theorem rmL1c0 (l : Launch) (Z : State) (a0 : Array Value) (hw : HW a0 Z) (ws : List Jvm.Cond) (a0 : Addr) (kv : ClassId) (fm : Value) (h0 : Heap) (n0 : Nat) (Z0 : n0 ≤ h0.size) (Vv : Arv Z h0 a0 kv .byte (2 : Int32) [(.int (63 : Int32)), (.int (62 : Int32))] (.int (0 : Int32))) (Sfm : Sta Z h0 cE "SIOOBE_FORMATTER" cF fm) (hfm : fm.isRef = true) :
    Con l mn17 (Jvm.Cond.code mn17 jdk_43_method_2_code 2 (some .char)) ws (⟨2, 0, 0, 27⟩ : Jvm.Room) #[(.ref a0), (.int (0 : Int32))] Z h0 (QL1c0 Z a0 kv fm h0 n0) := by
  refine own_of (plainFor_of_name pn_3) hisR dl_jdk_43_2 ?_
  intro p e s m below meth c s₁ hx D hlk hret hml hZ hown hnm X0 e0
  replace hown : s.vm.findClass cJ = some m.cls := hown
  have N0 := Fr.nil n0
  rw [efL1c0]
  obtain ⟨cl1, Ar1, q1, S1, Ng1, H1, G1⟩ := id Vv
  refine OFin.of (fun t ht => iN X0 hx rfl (D 0 rfl) rfl (aN X0 hx rfl (D 1 rfl) rfl rfl (own_alen X0 hx hZ e0 Ar1 S1 Ng1 (g := (mkF m 2 #[.val (.ref a0), .val (.int (0 : Int32))] [(.ref a0), (.int (0 : Int32))])) rfl rfl (D 2 rfl) ht))) ?_
  obtain ⟨_, T2, Lc2, X2, hQ2, st2⟩ := own_cS X0 hx hw hZ hown 145 146 104 147 rfl rfl rfl rfl (by decide) (rmCkS l Z _ hw [] (0 : Int32) (2 : Int32) fm h0 n0 Z0 Sfm hfm (by decide) (by decide)) (by decide) (by decide) (g := (mkF m 3 #[.val (.ref a0), .val (.int (0 : Int32))] [(.int (2 : Int32)), (.int (0 : Int32))])) rfl hml rfl (argsL := [(.int (0 : Int32)), (.int (2 : Int32))]) (rest := []) pd_7 rfl rfl rfl (W := 0) (Nat.le_of_eq rfl) (D 3 rfl) rfl e0 (by decide) (by decide)
  obtain ⟨rfl, Nq2, hs2⟩ := hQ2
  have N3 := Fr.app N0 Nq2
  refine OFin.to st2 ?_
  obtain ⟨cl4, Ar4, q4, S4, Ng4, H4, G4⟩ := id Vv
  have hin4 := inb_of (j := (0 : Int32)) S4 ⟨by decide, by decide⟩
  have hat4 : cl4.slots[((0 : Int32)).toNatClampNeg]? = some (.int (63 : Int32)) := Has.at H4 hin4 rfl
  refine OFin.of (fun t ht => aN X2 hx rfl (D 4 rfl) rfl rfl (iN X2 hx rfl (D 5 rfl) rfl (X2.baloadBytes hx (j := (0 : Int32)) (v := (.int (63 : Int32))) (by rw [hs2]; exact Ar4.1) (State.isArrayOf_alike hZ.alike Ar4.2.1) Ar4.2.2 hin4 hat4 (g := (mkF m 8 #[.val (.ref a0), .val (.int (0 : Int32))] [(.int (0 : Int32)), (.ref a0)])) rfl rfl (D 6 rfl) _ ht))) ?_
  refine OFin.of (S' := T2.setTop (mkF m 14 #[.val (.ref a0), .val (.int (0 : Int32))] [(.int ((63 : Int32).toUInt32.toUInt16.toUInt32.toInt32))])) (fun t ht => XS.sipush X2.here hx rfl (D 7 rfl) (XS.iand X2.here hx rfl (D 8 rfl) rfl (XS.i2c X2.here hx rfl (D 9 rfl) rfl ht))) ?_
  exact OFin.retB X2 hx hlk (t := .char) (by simp) hret (D 10 rfl) (by decide) (by decide) (by rw [hs2]; exact ⟨(by show some (Value.int (nar .char ((63 : Int32).toUInt32.toUInt16.toUInt32.toInt32))) = _; rfl), N3, rfl⟩)
theorem efChA0 {m : MethodId} {a0 : Addr} : entryFrame m #[(.ref a0), (.int (0 : Int32))] 2 = mkF m 0 #[.val (.ref a0), .val (.int (0 : Int32))] [] := by first | (simp [entryFrame, mkF, argsToLocals, Value.category]; done) | rfl
def QChA0 (Z : State) (a0 tv : Addr) (kv : ClassId) (cs : Int32) (fm : Value) (h0 : Heap) (n0 : Nat) (v : Option Value) (h : Heap) (L : List Loc) : Prop := v = some (.int (63 : Int32)) ∧ Fr n0 L ∧ h = h0
theorem rmChA0 (l : Launch) (Z : State) (a0 : Array Value) (hw : HW a0 Z) (ws : List Jvm.Cond) (a0 tv : Addr) (kv : ClassId) (cs : Int32) (fm : Value) (h0 : Heap) (n0 : Nat) (Z0 : n0 ≤ h0.size) (ES : Exa Z h0 a0 cB) (Fc : Fld Z h0 a0 cB "coder" "B" (.int (0 : Int32))) (Fv : Fld Z h0 a0 cB "value" "[B" (.ref tv)) (Vv : Arv Z h0 tv kv .byte (2 : Int32) [(.int (63 : Int32)), (.int (62 : Int32))] (.int (0 : Int32))) (Scs : Sta Z h0 cB "COMPACT_STRINGS" "Z" (.int cs)) (hcs : ¬ cs = (0 : Int32)) (Sfm : Sta Z h0 cE "SIOOBE_FORMATTER" cF fm) (hfm : fm.isRef = true) :
    Con l mn18 (Jvm.Cond.code mn18 jdk_42_method_56_code 2 (some .char)) ws (⟨3, 0, 0, 40⟩ : Jvm.Room) #[(.ref a0), (.int (0 : Int32))] Z h0 (QChA0 Z a0 tv kv cs fm h0 n0) := by
  refine own_of (plainFor_of_name pn_2) hisR dl_jdk_42_56 ?_
  intro p e s m below meth c s₁ hx D hlk hret hml hZ hown hnm X0 e0
  replace hown : s.vm.findClass cB = some m.cls := hown
  have N0 := Fr.nil n0
  rw [efChA0]
  obtain ⟨_, T1, Lc1, X1, hQ1, st1⟩ := own_cV X0 hx hw hZ hown 136 137 139 138 104 140 rfl rfl rfl rfl rfl rfl (by decide) ES (rmIsL l Z _ hw [] a0 cs h0 n0 Z0 Fc Scs hcs) (by decide) (by decide) (g := (mkF m 1 #[.val (.ref a0), .val (.int (0 : Int32))] [(.ref a0)])) rfl hml rfl (argsL := []) (rest := []) pd_4 rfl rfl rfl (W := 0) (Nat.le_of_eq rfl) (D 1 rfl) rfl e0 (by decide) (by decide)
  obtain ⟨rfl, Nq1, hs1⟩ := hQ1
  have N2 := Fr.app N0 Nq1
  refine OFin.of (fun t ht => aN X0 hx rfl (D 0 rfl) rfl rfl (st1.trans ht)) ?_
  obtain ⟨T3, X3, e3, st3⟩ := getF X1 hx hZ hown (host := "") (Or.inl (wt hw 123 rfl)) Via.refl hs1 Fv (g := (mkF m 8 #[.val (.ref a0), .val (.int (0 : Int32))] [(.ref a0)])) rfl rfl (D 4 rfl)
  refine OFin.of (fun t ht => fN X1 hx rfl (D 2 rfl) rfl ((if0 _ _).trans (feq (by decide : ¬ ((1 : Int32) = (0 : Int32)))).1) (aN X1 hx rfl (D 3 rfl) rfl rfl (st3 t ht))) ?_
  obtain ⟨_, T4, Lc4, X4, hQ4, st4⟩ := own_cS X3 hx hw hZ hown 141 142 143 144 rfl rfl rfl rfl (by decide) (rmL1c0 l Z _ hw [] tv kv fm h0 n0 Z0 Vv Sfm hfm) (by decide) (by decide) (g := (mkF m 12 #[.val (.ref a0), .val (.int (0 : Int32))] [(.int (0 : Int32)), (.ref tv)])) rfl hml rfl (argsL := [(.ref tv), (.int (0 : Int32))]) (rest := []) pd_8 rfl rfl rfl (W := 0) (Nat.le_of_eq rfl) (D 6 rfl) rfl e3 (by decide) (by decide)
  obtain ⟨rfl, Nq4, hs4⟩ := hQ4
  have N5 := Fr.app N2 Nq4
  refine OFin.of (fun t ht => iN X3 hx rfl (D 5 rfl) rfl (st4.trans ht)) ?_
  exact OFin.retB X4 hx hlk (t := .char) (by simp) hret (D 7 rfl) (by decide) (by decide) (by rw [hs4]; exact ⟨(by show some (Value.int (nar .char (63 : Int32))) = _; rfl), N5, rfl⟩)
theorem efL1c1 {m : MethodId} {a0 : Addr} : entryFrame m #[(.ref a0), (.int (1 : Int32))] 2 = mkF m 0 #[.val (.ref a0), .val (.int (1 : Int32))] [] := by first | (simp [entryFrame, mkF, argsToLocals, Value.category]; done) | rfl
def QL1c1 (Z : State) (a0 : Addr) (kv : ClassId) (fm : Value) (h0 : Heap) (n0 : Nat) (v : Option Value) (h : Heap) (L : List Loc) : Prop := v = some (.int (62 : Int32)) ∧ Fr n0 L ∧ h = h0
theorem rmL1c1 (l : Launch) (Z : State) (a0 : Array Value) (hw : HW a0 Z) (ws : List Jvm.Cond) (a0 : Addr) (kv : ClassId) (fm : Value) (h0 : Heap) (n0 : Nat) (Z0 : n0 ≤ h0.size) (Vv : Arv Z h0 a0 kv .byte (2 : Int32) [(.int (63 : Int32)), (.int (62 : Int32))] (.int (0 : Int32))) (Sfm : Sta Z h0 cE "SIOOBE_FORMATTER" cF fm) (hfm : fm.isRef = true) :
    Con l mn17 (Jvm.Cond.code mn17 jdk_43_method_2_code 2 (some .char)) ws (⟨2, 0, 0, 27⟩ : Jvm.Room) #[(.ref a0), (.int (1 : Int32))] Z h0 (QL1c1 Z a0 kv fm h0 n0) := by
  refine own_of (plainFor_of_name pn_3) hisR dl_jdk_43_2 ?_
  intro p e s m below meth c s₁ hx D hlk hret hml hZ hown hnm X0 e0
  replace hown : s.vm.findClass cJ = some m.cls := hown
  have N0 := Fr.nil n0
  rw [efL1c1]
  obtain ⟨cl1, Ar1, q1, S1, Ng1, H1, G1⟩ := id Vv
  refine OFin.of (fun t ht => iN X0 hx rfl (D 0 rfl) rfl (aN X0 hx rfl (D 1 rfl) rfl rfl (own_alen X0 hx hZ e0 Ar1 S1 Ng1 (g := (mkF m 2 #[.val (.ref a0), .val (.int (1 : Int32))] [(.ref a0), (.int (1 : Int32))])) rfl rfl (D 2 rfl) ht))) ?_
  obtain ⟨_, T2, Lc2, X2, hQ2, st2⟩ := own_cS X0 hx hw hZ hown 145 146 104 147 rfl rfl rfl rfl (by decide) (rmCkS l Z _ hw [] (1 : Int32) (2 : Int32) fm h0 n0 Z0 Sfm hfm (by decide) (by decide)) (by decide) (by decide) (g := (mkF m 3 #[.val (.ref a0), .val (.int (1 : Int32))] [(.int (2 : Int32)), (.int (1 : Int32))])) rfl hml rfl (argsL := [(.int (1 : Int32)), (.int (2 : Int32))]) (rest := []) pd_7 rfl rfl rfl (W := 0) (Nat.le_of_eq rfl) (D 3 rfl) rfl e0 (by decide) (by decide)
  obtain ⟨rfl, Nq2, hs2⟩ := hQ2
  have N3 := Fr.app N0 Nq2
  refine OFin.to st2 ?_
  obtain ⟨cl4, Ar4, q4, S4, Ng4, H4, G4⟩ := id Vv
  have hin4 := inb_of (j := (1 : Int32)) S4 ⟨by decide, by decide⟩
  have hat4 : cl4.slots[((1 : Int32)).toNatClampNeg]? = some (.int (62 : Int32)) := Has.at H4 hin4 rfl
  refine OFin.of (fun t ht => aN X2 hx rfl (D 4 rfl) rfl rfl (iN X2 hx rfl (D 5 rfl) rfl (X2.baloadBytes hx (j := (1 : Int32)) (v := (.int (62 : Int32))) (by rw [hs2]; exact Ar4.1) (State.isArrayOf_alike hZ.alike Ar4.2.1) Ar4.2.2 hin4 hat4 (g := (mkF m 8 #[.val (.ref a0), .val (.int (1 : Int32))] [(.int (1 : Int32)), (.ref a0)])) rfl rfl (D 6 rfl) _ ht))) ?_
  refine OFin.of (S' := T2.setTop (mkF m 14 #[.val (.ref a0), .val (.int (1 : Int32))] [(.int ((62 : Int32).toUInt32.toUInt16.toUInt32.toInt32))])) (fun t ht => XS.sipush X2.here hx rfl (D 7 rfl) (XS.iand X2.here hx rfl (D 8 rfl) rfl (XS.i2c X2.here hx rfl (D 9 rfl) rfl ht))) ?_
  exact OFin.retB X2 hx hlk (t := .char) (by simp) hret (D 10 rfl) (by decide) (by decide) (by rw [hs2]; exact ⟨(by show some (Value.int (nar .char ((62 : Int32).toUInt32.toUInt16.toUInt32.toInt32))) = _; rfl), N3, rfl⟩)
theorem efChA1 {m : MethodId} {a0 : Addr} : entryFrame m #[(.ref a0), (.int (1 : Int32))] 2 = mkF m 0 #[.val (.ref a0), .val (.int (1 : Int32))] [] := by first | (simp [entryFrame, mkF, argsToLocals, Value.category]; done) | rfl
def QChA1 (Z : State) (a0 tv : Addr) (kv : ClassId) (cs : Int32) (fm : Value) (h0 : Heap) (n0 : Nat) (v : Option Value) (h : Heap) (L : List Loc) : Prop := v = some (.int (62 : Int32)) ∧ Fr n0 L ∧ h = h0
theorem rmChA1 (l : Launch) (Z : State) (a0 : Array Value) (hw : HW a0 Z) (ws : List Jvm.Cond) (a0 tv : Addr) (kv : ClassId) (cs : Int32) (fm : Value) (h0 : Heap) (n0 : Nat) (Z0 : n0 ≤ h0.size) (ES : Exa Z h0 a0 cB) (Fc : Fld Z h0 a0 cB "coder" "B" (.int (0 : Int32))) (Fv : Fld Z h0 a0 cB "value" "[B" (.ref tv)) (Vv : Arv Z h0 tv kv .byte (2 : Int32) [(.int (63 : Int32)), (.int (62 : Int32))] (.int (0 : Int32))) (Scs : Sta Z h0 cB "COMPACT_STRINGS" "Z" (.int cs)) (hcs : ¬ cs = (0 : Int32)) (Sfm : Sta Z h0 cE "SIOOBE_FORMATTER" cF fm) (hfm : fm.isRef = true) :
    Con l mn18 (Jvm.Cond.code mn18 jdk_42_method_56_code 2 (some .char)) ws (⟨3, 0, 0, 40⟩ : Jvm.Room) #[(.ref a0), (.int (1 : Int32))] Z h0 (QChA1 Z a0 tv kv cs fm h0 n0) := by
  refine own_of (plainFor_of_name pn_2) hisR dl_jdk_42_56 ?_
  intro p e s m below meth c s₁ hx D hlk hret hml hZ hown hnm X0 e0
  replace hown : s.vm.findClass cB = some m.cls := hown
  have N0 := Fr.nil n0
  rw [efChA1]
  obtain ⟨_, T1, Lc1, X1, hQ1, st1⟩ := own_cV X0 hx hw hZ hown 136 137 139 138 104 140 rfl rfl rfl rfl rfl rfl (by decide) ES (rmIsL l Z _ hw [] a0 cs h0 n0 Z0 Fc Scs hcs) (by decide) (by decide) (g := (mkF m 1 #[.val (.ref a0), .val (.int (1 : Int32))] [(.ref a0)])) rfl hml rfl (argsL := []) (rest := []) pd_4 rfl rfl rfl (W := 0) (Nat.le_of_eq rfl) (D 1 rfl) rfl e0 (by decide) (by decide)
  obtain ⟨rfl, Nq1, hs1⟩ := hQ1
  have N2 := Fr.app N0 Nq1
  refine OFin.of (fun t ht => aN X0 hx rfl (D 0 rfl) rfl rfl (st1.trans ht)) ?_
  obtain ⟨T3, X3, e3, st3⟩ := getF X1 hx hZ hown (host := "") (Or.inl (wt hw 123 rfl)) Via.refl hs1 Fv (g := (mkF m 8 #[.val (.ref a0), .val (.int (1 : Int32))] [(.ref a0)])) rfl rfl (D 4 rfl)
  refine OFin.of (fun t ht => fN X1 hx rfl (D 2 rfl) rfl ((if0 _ _).trans (feq (by decide : ¬ ((1 : Int32) = (0 : Int32)))).1) (aN X1 hx rfl (D 3 rfl) rfl rfl (st3 t ht))) ?_
  obtain ⟨_, T4, Lc4, X4, hQ4, st4⟩ := own_cS X3 hx hw hZ hown 141 142 143 144 rfl rfl rfl rfl (by decide) (rmL1c1 l Z _ hw [] tv kv fm h0 n0 Z0 Vv Sfm hfm) (by decide) (by decide) (g := (mkF m 12 #[.val (.ref a0), .val (.int (1 : Int32))] [(.int (1 : Int32)), (.ref tv)])) rfl hml rfl (argsL := [(.ref tv), (.int (1 : Int32))]) (rest := []) pd_8 rfl rfl rfl (W := 0) (Nat.le_of_eq rfl) (D 6 rfl) rfl e3 (by decide) (by decide)
  obtain ⟨rfl, Nq4, hs4⟩ := hQ4
  have N5 := Fr.app N2 Nq4
  refine OFin.of (fun t ht => iN X3 hx rfl (D 5 rfl) rfl (st4.trans ht)) ?_
  exact OFin.retB X4 hx hlk (t := .char) (by simp) hret (D 7 rfl) (by decide) (by decide) (by rw [hs4]; exact ⟨(by show some (Value.int (nar .char (62 : Int32))) = _; rfl), N5, rfl⟩)
theorem efSw {m : MethodId} {a0 a2 : Addr} {i0 : Nat} : entryFrame m #[(.ref a0), (.int (Int32.ofNat i0)), (.ref a2)] 4 = mkF m 0 #[.val (.ref a0), .val (.int (Int32.ofNat i0)), .val (.ref a2), .unset] [] := by first | (simp [entryFrame, mkF, argsToLocals, Value.category]; done) | rfl
def QSw (Z : State) (a0 a2 tx : Addr) (kt : ClassId) (nt : Int32) (pre : List Int32) (tv : Addr) (kv : ClassId) (cs : Int32) (fm : Value) (i0 : Nat) (h0 : Heap) (n0 : Nat) (v : Option Value) (h : Heap) (L : List Loc) : Prop := ∃ r : Int32, v = some (.int r) ∧ Fr n0 L ∧ h = h0
theorem rmSw (l : Launch) (Z : State) (a0 : Array Value) (hw : HW a0 Z) (ws : List Jvm.Cond) (a0 a2 tx : Addr) (kt : ClassId) (nt : Int32) (pre : List Int32) (tv : Addr) (kv : ClassId) (cs : Int32) (fm : Value) (i0 : Nat) (h0 : Heap) (n0 : Nat) (Z0 : n0 ≤ h0.size) (EO : Exa Z h0 a0 cA) (Ft : Fld Z h0 a0 cA "text" "[B" (.ref tx)) (Fe : Fld Z h0 a0 cA "end" "I" (.int (Int32.ofNat pre.length))) (Tx : Txt Z h0 tx kt nt pre) (ELs : Exa Z h0 a2 cB) (FLc : Fld Z h0 a2 cB "coder" "B" (.int (0 : Int32))) (FLv : Fld Z h0 a2 cB "value" "[B" (.ref tv)) (Vv : Arv Z h0 tv kv .byte (2 : Int32) [(.int (63 : Int32)), (.int (62 : Int32))] (.int (0 : Int32))) (Scs : Sta Z h0 cB "COMPACT_STRINGS" "Z" (.int cs)) (hcs : ¬ cs = (0 : Int32)) (Sfm : Sta Z h0 cE "SIOOBE_FORMATTER" cF fm) (hfm : fm.isRef = true) (hi0 : i0 ≤ pre.length) (hn3 : nt.toNatClampNeg < 1000) :
    Con l mn19 (Jvm.Cond.code mn19 prog_7_method_23_code 4 (some .boolean)) ws (⟨4, 0, 0, 54⟩ : Jvm.Room) #[(.ref a0), (.int (Int32.ofNat i0)), (.ref a2)] Z h0 (QSw Z a0 a2 tx kt nt pre tv kv cs fm i0 h0 n0) := by
  refine own_of (plainFor_of_name pn_0) hisR dl_prog_7_23 ?_
  intro p e s m below meth c s₁ hx D hlk hret hml hZ hown hnm X0 e0
  replace hown : s.vm.findClass cA = some m.cls := hown
  have N0 := Fr.nil n0
  rw [efSw]
  obtain ⟨_, T1, Lc1, X1, hQ1, st1⟩ := own_cV X0 hx hw hZ hown 118 119 121 120 104 122 rfl rfl rfl rfl rfl rfl (by decide) ELs (rmLen l Z _ hw [] a2 tv kv cs h0 n0 Z0 ELs FLc FLv Vv Scs hcs) (by decide) (by decide) (g := (mkF m 2 #[.val (.ref a0), .val (.int (Int32.ofNat i0)), .val (.ref a2), .unset] [(.ref a2), (.int (Int32.ofNat i0))])) rfl hml rfl (argsL := []) (rest := [(.int (Int32.ofNat i0))]) pd_9 rfl rfl rfl (W := 1) (Nat.le_of_eq rfl) (D 2 rfl) rfl e0 (by decide) (by decide)
  obtain ⟨rfl, Nq1, hs1⟩ := hQ1
  have N2 := Fr.app N0 Nq1
  refine OFin.of (fun t ht => iN X0 hx rfl (D 0 rfl) rfl (aN X0 hx rfl (D 1 rfl) rfl rfl (st1.trans ht))) ?_
  obtain ⟨T3, X3, e3, st3⟩ := getF X1 hx hZ hown (host := "") (Or.inl (wt hw 31 rfl)) Via.refl hs1 Fe (g := (mkF m 7 #[.val (.ref a0), .val (.int (Int32.ofNat i0)), .val (.ref a2), .unset] [(.ref a0), (.int ((Int32.ofNat i0) + (2 : Int32)))])) rfl rfl (D 5 rfl)
  refine OFin.of (fun t ht => XS.iadd X1.here hx rfl (D 3 rfl) rfl (aN X1 hx rfl (D 4 rfl) rfl rfl (st3 t ht))) ?_
  by_cases hc4 : (Int32.ofNat pre.length) < ((Int32.ofNat i0) + (2 : Int32))
  · refine OFin.of (S' := T3.setTop (mkF m 14 #[.val (.ref a0), .val (.int (Int32.ofNat i0)), .val (.ref a2), .unset] [(.int (0 : Int32))])) (fun t ht => cN X3 hx rfl (D 6 rfl) rfl (tlt hc4).2.2.2 (iC X3 hx rfl (D 7 rfl) ht)) ?_
    exact OFin.retB X3 hx hlk (t := .boolean) (by simp) hret (D 8 rfl) (by decide) (by decide) (by rw [e3]; exact ⟨(0 : Int32), rfl, N2, rfl⟩)
  · obtain ⟨_, T5, Lc5, X5, hQ5, st5⟩ := own_cV X3 hx hw hZ hown 118 119 121 120 104 122 rfl rfl rfl rfl rfl rfl (by decide) ELs (rmLen l Z _ hw [] a2 tv kv cs h0 n0 Z0 ELs FLc FLv Vv Scs hcs) (by decide) (by decide) (g := (mkF m 19 #[.val (.ref a0), .val (.int (Int32.ofNat i0)), .val (.ref a2), .val (.int (0 : Int32))] [(.ref a2), (.int (0 : Int32))])) rfl hml rfl (argsL := []) (rest := [(.int (0 : Int32))]) pd_9 rfl rfl rfl (W := 1) (Nat.le_of_eq rfl) (D 13 rfl) rfl e3 (by decide) (by decide)
    obtain ⟨rfl, Nq5, hs5⟩ := hQ5
    have N6 := Fr.app N2 Nq5
    refine OFin.of (fun t ht => cY X3 hx rfl 10 15 rfl (D 6 rfl) rfl (flt hc4).2.2.2 (by decide) (iC X3 hx rfl (D 9 rfl) (XS.istoreN X3.here hx rfl (D 10 rfl) rfl (l' := #[.val (.ref a0), .val (.int (Int32.ofNat i0)), .val (.ref a2), .val (.int (0 : Int32))]) rfl (iN X3 hx rfl (D 11 rfl) rfl (aN X3 hx rfl (D 12 rfl) rfl rfl (st5.trans ht)))))) ?_
    obtain ⟨T7, X7, e7, st7⟩ := getF X5 hx hZ hown (host := "") (Or.inl (wt hw 27 rfl)) Via.refl hs5 Ft (g := (mkF m 26 #[.val (.ref a0), .val (.int (Int32.ofNat i0)), .val (.ref a2), .val (.int (0 : Int32))] [(.ref a0)])) rfl rfl (D 16 rfl)
    refine OFin.of (fun t ht => cN X5 hx rfl (D 14 rfl) rfl (tlt (by decide : (0 : Int32) < (2 : Int32))).2.1 (aN X5 hx rfl (D 15 rfl) rfl rfl (st7 t ht))) ?_
    obtain ⟨cl8, Ar8, hin8, hat8⟩ := Txt.at Tx (j := ((Int32.ofNat i0) + (0 : Int32))) (i := i0) (own_add0 _) (own_sw0 Tx hn3 hi0 hc4)
    refine OFin.of (fun t ht => iN X7 hx rfl (D 17 rfl) rfl (iN X7 hx rfl (D 18 rfl) rfl (XS.iadd X7.here hx rfl (D 19 rfl) rfl (X7.baloadBytes hx (j := ((Int32.ofNat i0) + (0 : Int32))) (v := (.int (pre.getD i0 0))) (by rw [e7]; exact Ar8.1) (State.isArrayOf_alike hZ.alike Ar8.2.1) Ar8.2.2 hin8 hat8 (g := (mkF m 32 #[.val (.ref a0), .val (.int (Int32.ofNat i0)), .val (.ref a2), .val (.int (0 : Int32))] [(.int ((Int32.ofNat i0) + (0 : Int32))), (.ref tx)])) rfl rfl (D 20 rfl) _ ht)))) ?_
    obtain ⟨_, T9, Lc9, X9, hQ9, st9⟩ := own_cV X7 hx hw hZ hown 131 132 134 133 104 135 rfl rfl rfl rfl rfl rfl (by decide) ELs (rmChA0 l Z _ hw [] a2 tv kv cs fm h0 n0 Z0 ELs FLc FLv Vv Scs hcs Sfm hfm) (by decide) (by decide) (g := (mkF m 35 #[.val (.ref a0), .val (.int (Int32.ofNat i0)), .val (.ref a2), .val (.int (0 : Int32))] [(.int (0 : Int32)), (.ref a2), (.int (pre.getD i0 0))])) rfl hml rfl (argsL := [(.int (0 : Int32))]) (rest := [(.int (pre.getD i0 0))]) pd_10 rfl rfl rfl (W := 1) (Nat.le_of_eq rfl) (D 23 rfl) rfl e7 (by decide) (by decide)
    obtain ⟨rfl, Nq9, hs9⟩ := hQ9
    have N10 := Fr.app N6 Nq9
    refine OFin.of (fun t ht => aN X7 hx rfl (D 21 rfl) rfl rfl (iN X7 hx rfl (D 22 rfl) rfl (st9.trans ht))) ?_
    by_cases hc11 : (pre.getD i0 0) = (63 : Int32)
    · obtain ⟨_, T12, Lc12, X12, hQ12, st12⟩ := own_cV X9 hx hw hZ hown 118 119 121 120 104 122 rfl rfl rfl rfl rfl rfl (by decide) ELs (rmLen l Z _ hw [] a2 tv kv cs h0 n0 Z0 ELs FLc FLv Vv Scs hcs) (by decide) (by decide) (g := (mkF m 19 #[.val (.ref a0), .val (.int (Int32.ofNat i0)), .val (.ref a2), .val (.int (1 : Int32))] [(.ref a2), (.int (1 : Int32))])) rfl hml rfl (argsL := []) (rest := [(.int (1 : Int32))]) pd_9 rfl rfl rfl (W := 1) (Nat.le_of_eq rfl) (D 13 rfl) rfl hs9 (by decide) (by decide)
      obtain ⟨rfl, Nq12, hs12⟩ := hQ12
      have N13 := Fr.app N10 Nq12
      refine OFin.of (fun t ht => cY X9 hx rfl 38 43 rfl (D 24 rfl) rfl (teq hc11).1 (by decide) (iI X9 hx rfl (D 25 rfl) rfl (l' := #[.val (.ref a0), .val (.int (Int32.ofNat i0)), .val (.ref a2), .val (.int (1 : Int32))]) rfl (gO X9 hx rfl 46 17 rfl (D 26 rfl) (by decide) (iN X9 hx rfl (D 11 rfl) rfl (aN X9 hx rfl (D 12 rfl) rfl rfl (st12.trans ht)))))) ?_
      obtain ⟨T14, X14, e14, st14⟩ := getF X12 hx hZ hown (host := "") (Or.inl (wt hw 27 rfl)) Via.refl hs12 Ft (g := (mkF m 26 #[.val (.ref a0), .val (.int (Int32.ofNat i0)), .val (.ref a2), .val (.int (1 : Int32))] [(.ref a0)])) rfl rfl (D 16 rfl)
      refine OFin.of (fun t ht => cN X12 hx rfl (D 14 rfl) rfl (tlt (by decide : (1 : Int32) < (2 : Int32))).2.1 (aN X12 hx rfl (D 15 rfl) rfl rfl (st14 t ht))) ?_
      obtain ⟨cl15, Ar15, hin15, hat15⟩ := Txt.at Tx (j := ((Int32.ofNat i0) + (1 : Int32))) (i := (i0 + 1)) (own_succ i0) (own_sw1 Tx hn3 hi0 hc4)
      refine OFin.of (fun t ht => iN X14 hx rfl (D 17 rfl) rfl (iN X14 hx rfl (D 18 rfl) rfl (XS.iadd X14.here hx rfl (D 19 rfl) rfl (X14.baloadBytes hx (j := ((Int32.ofNat i0) + (1 : Int32))) (v := (.int (pre.getD (i0 + 1) 0))) (by rw [e14]; exact Ar15.1) (State.isArrayOf_alike hZ.alike Ar15.2.1) Ar15.2.2 hin15 hat15 (g := (mkF m 32 #[.val (.ref a0), .val (.int (Int32.ofNat i0)), .val (.ref a2), .val (.int (1 : Int32))] [(.int ((Int32.ofNat i0) + (1 : Int32))), (.ref tx)])) rfl rfl (D 20 rfl) _ ht)))) ?_
      obtain ⟨_, T16, Lc16, X16, hQ16, st16⟩ := own_cV X14 hx hw hZ hown 131 132 134 133 104 135 rfl rfl rfl rfl rfl rfl (by decide) ELs (rmChA1 l Z _ hw [] a2 tv kv cs fm h0 n0 Z0 ELs FLc FLv Vv Scs hcs Sfm hfm) (by decide) (by decide) (g := (mkF m 35 #[.val (.ref a0), .val (.int (Int32.ofNat i0)), .val (.ref a2), .val (.int (1 : Int32))] [(.int (1 : Int32)), (.ref a2), (.int (pre.getD (i0 + 1) 0))])) rfl hml rfl (argsL := [(.int (1 : Int32))]) (rest := [(.int (pre.getD (i0 + 1) 0))]) pd_10 rfl rfl rfl (W := 1) (Nat.le_of_eq rfl) (D 23 rfl) rfl e14 (by decide) (by decide)
      obtain ⟨rfl, Nq16, hs16⟩ := hQ16
      have N17 := Fr.app N13 Nq16
      refine OFin.of (fun t ht => aN X14 hx rfl (D 21 rfl) rfl rfl (iN X14 hx rfl (D 22 rfl) rfl (st16.trans ht))) ?_
      by_cases hc18 : (pre.getD (i0 + 1) 0) = (62 : Int32)
      · obtain ⟨_, T19, Lc19, X19, hQ19, st19⟩ := own_cV X16 hx hw hZ hown 118 119 121 120 104 122 rfl rfl rfl rfl rfl rfl (by decide) ELs (rmLen l Z _ hw [] a2 tv kv cs h0 n0 Z0 ELs FLc FLv Vv Scs hcs) (by decide) (by decide) (g := (mkF m 19 #[.val (.ref a0), .val (.int (Int32.ofNat i0)), .val (.ref a2), .val (.int (2 : Int32))] [(.ref a2), (.int (2 : Int32))])) rfl hml rfl (argsL := []) (rest := [(.int (2 : Int32))]) pd_9 rfl rfl rfl (W := 1) (Nat.le_of_eq rfl) (D 13 rfl) rfl hs16 (by decide) (by decide)
        obtain ⟨rfl, Nq19, hs19⟩ := hQ19
        have N20 := Fr.app N17 Nq19
        refine OFin.of (fun t ht => cY X16 hx rfl 38 43 rfl (D 24 rfl) rfl (teq hc18).1 (by decide) (iI X16 hx rfl (D 25 rfl) rfl (l' := #[.val (.ref a0), .val (.int (Int32.ofNat i0)), .val (.ref a2), .val (.int (2 : Int32))]) rfl (gO X16 hx rfl 46 17 rfl (D 26 rfl) (by decide) (iN X16 hx rfl (D 11 rfl) rfl (aN X16 hx rfl (D 12 rfl) rfl rfl (st19.trans ht)))))) ?_
        refine OFin.of (S' := T19.setTop (mkF m 50 #[.val (.ref a0), .val (.int (Int32.ofNat i0)), .val (.ref a2), .val (.int (2 : Int32))] [(.int (1 : Int32))])) (fun t ht => cY X19 hx rfl 22 49 rfl (D 14 rfl) rfl (flt (by decide : ¬ ((2 : Int32) < (2 : Int32)))).2.1 (by decide) (iC X19 hx rfl (D 27 rfl) ht)) ?_
        exact OFin.retB X19 hx hlk (t := .boolean) (by simp) hret (D 28 rfl) (by decide) (by decide) (by rw [hs19]; exact ⟨(1 : Int32), rfl, N20, rfl⟩)
      · refine OFin.of (S' := T16.setTop (mkF m 42 #[.val (.ref a0), .val (.int (Int32.ofNat i0)), .val (.ref a2), .val (.int (1 : Int32))] [(.int (0 : Int32))])) (fun t ht => cN X16 hx rfl (D 24 rfl) rfl (feq hc18).1 (iC X16 hx rfl (D 29 rfl) ht)) ?_
        exact OFin.retB X16 hx hlk (t := .boolean) (by simp) hret (D 30 rfl) (by decide) (by decide) (by rw [hs16]; exact ⟨(0 : Int32), rfl, N17, rfl⟩)
    · refine OFin.of (S' := T9.setTop (mkF m 42 #[.val (.ref a0), .val (.int (Int32.ofNat i0)), .val (.ref a2), .val (.int (0 : Int32))] [(.int (0 : Int32))])) (fun t ht => cN X9 hx rfl (D 24 rfl) rfl (feq hc11).1 (iC X9 hx rfl (D 29 rfl) ht)) ?_
      exact OFin.retB X9 hx hlk (t := .boolean) (by simp) hret (D 30 rfl) (by decide) (by decide) (by rw [hs9]; exact ⟨(0 : Int32), rfl, N10, rfl⟩)
theorem efPa {m : MethodId} {a0 a2 : Addr} {i0 : Nat} : entryFrame m #[(.ref a0), (.int (Int32.ofNat i0)), (.ref a2)] 4 = mkF m 0 #[.val (.ref a0), .val (.int (Int32.ofNat i0)), .val (.ref a2), .unset] [] := by first | (simp [entryFrame, mkF, argsToLocals, Value.category]; done) | rfl
def QPa (Z : State) (a0 a2 tx : Addr) (kt : ClassId) (nt : Int32) (pre : List Int32) (tv : Addr) (kv : ClassId) (cs : Int32) (fm : Value) (i0 : Nat) (h0 : Heap) (n0 : Nat) (v : Option Value) (h : Heap) (L : List Loc) : Prop := ∃ r : Int32, v = some (.int r) ∧ Fr n0 L ∧ h = h0
theorem rmPa (l : Launch) (Z : State) (a0 : Array Value) (hw : HW a0 Z) (ws : List Jvm.Cond) (a0 a2 tx : Addr) (kt : ClassId) (nt : Int32) (pre : List Int32) (tv : Addr) (kv : ClassId) (cs : Int32) (fm : Value) (i0 : Nat) (h0 : Heap) (n0 : Nat) (Z0 : n0 ≤ h0.size) (EO : Exa Z h0 a0 cA) (Ft : Fld Z h0 a0 cA "text" "[B" (.ref tx)) (Fe : Fld Z h0 a0 cA "end" "I" (.int (Int32.ofNat pre.length))) (Tx : Txt Z h0 tx kt nt pre) (ELs : Exa Z h0 a2 cB) (FLc : Fld Z h0 a2 cB "coder" "B" (.int (0 : Int32))) (FLv : Fld Z h0 a2 cB "value" "[B" (.ref tv)) (Vv : Arv Z h0 tv kv .byte (2 : Int32) [(.int (63 : Int32)), (.int (62 : Int32))] (.int (0 : Int32))) (Scs : Sta Z h0 cB "COMPACT_STRINGS" "Z" (.int cs)) (hcs : ¬ cs = (0 : Int32)) (Sfm : Sta Z h0 cE "SIOOBE_FORMATTER" cF fm) (hfm : fm.isRef = true) (hi0 : i0 ≤ pre.length) (hn3 : nt.toNatClampNeg < 1000) :
    Con l mn20 (Jvm.Cond.code mn20 prog_7_method_22_code 4 (some .int)) ws (⟨5, 0, 0, 69⟩ : Jvm.Room) #[(.ref a0), (.int (Int32.ofNat i0)), (.ref a2)] Z h0 (QPa Z a0 a2 tx kt nt pre tv kv cs fm i0 h0 n0) := by
  refine own_of (plainFor_of_name pn_0) hisR dl_prog_7_22 ?_
  intro p e s m below meth c s₁ hx D hlk hret hml hZ hown hnm X0 e0
  replace hown : s.vm.findClass cA = some m.cls := hown
  have N0 := Fr.nil n0
  rw [efPa]
  refine OFin.of (S' := s₁.setTop (mkF m 2 #[.val (.ref a0), .val (.int (Int32.ofNat i0)), .val (.ref a2), .val (.int (Int32.ofNat i0))] [])) (fun t ht => iN X0 hx rfl (D 0 rfl) rfl (XS.istoreN X0.here hx rfl (D 1 rfl) rfl (l' := #[.val (.ref a0), .val (.int (Int32.ofNat i0)), .val (.ref a2), .val (.int (Int32.ofNat i0))]) rfl ht)) ?_
  have lp1 : ∀ (kk i : Nat) (hk : i + kk = pre.length)  {Tl : State} {locs : List Loc} (Xl : Stand p l e (⟨5, 0, 0, 69⟩ : Jvm.Room) s m #[(.ref a0), (.int (Int32.ofNat i0)), (.ref a2)] below meth c Tl locs 0 0) (el : Tl.heap = h0) (Nl : Fr n0 locs), OFin p e below (KPost s (QPa Z a0 a2 tx kt nt pre tv kv cs fm i0 h0 n0) (⟨5, 0, 0, 69⟩ : Jvm.Room).cells (⟨5, 0, 0, 69⟩ : Jvm.Room).slots) (Tl.setTop (mkF m 2 #[.val (.ref a0), .val (.int (Int32.ofNat i0)), .val (.ref a2), .val (.int (Int32.ofNat i))] [])) := by
    intro kk
    induction kk with
    | zero => 
      intro i hk  Tl locs Xl el Nl
      obtain ⟨T2, X2, e2, st2⟩ := getF Xl hx hZ hown (host := "") (Or.inl (wt hw 31 rfl)) Via.refl el Fe (g := (mkF m 4 #[.val (.ref a0), .val (.int (Int32.ofNat i0)), .val (.ref a2), .val (.int (Int32.ofNat i))] [(.ref a0), (.int (Int32.ofNat i))])) rfl rfl (D 4 rfl)
      refine OFin.of (fun t ht => iN Xl hx rfl (D 2 rfl) rfl (aN Xl hx rfl (D 3 rfl) rfl rfl (st2 t ht))) ?_
      obtain ⟨T3, X3, e3, st3⟩ := getF X2 hx hZ hown (host := "") (Or.inl (wt hw 31 rfl)) Via.refl e2 Fe (g := (mkF m 27 #[.val (.ref a0), .val (.int (Int32.ofNat i0)), .val (.ref a2), .val (.int (Int32.ofNat i))] [(.ref a0), (.int (Int32.ofNat i))])) rfl rfl (D 8 rfl)
      refine OFin.of (fun t ht => cY X2 hx rfl 7 25 rfl (D 5 rfl) rfl (flt (own_z7 Tx hk : ¬ ((Int32.ofNat i) < (Int32.ofNat pre.length)))).2.1 (by decide) (iN X2 hx rfl (D 6 rfl) rfl (aN X2 hx rfl (D 7 rfl) rfl rfl (st3 t ht)))) ?_
      refine OFin.of (S' := T3.setTop (mkF m 43 #[.val (.ref a0), .val (.int (Int32.ofNat i0)), .val (.ref a2), .val (.int (Int32.ofNat i))] [(.int (-1 : Int32))])) (fun t ht => cY X3 hx rfl 30 42 rfl (D 9 rfl) rfl (flt (own_z7 Tx hk : ¬ ((Int32.ofNat i) < (Int32.ofNat pre.length)))).2.1 (by decide) (iC X3 hx rfl (D 10 rfl) ht)) ?_
      exact OFin.retI X3 hx hlk hret (D 11 rfl) (by decide) (by decide) (by rw [e3]; exact ⟨(-1 : Int32), rfl, Nl, rfl⟩)
    | succ kk ih => 
      intro i hk  Tl locs Xl el Nl
      obtain ⟨T4, X4, e4, st4⟩ := getF Xl hx hZ hown (host := "") (Or.inl (wt hw 31 rfl)) Via.refl el Fe (g := (mkF m 4 #[.val (.ref a0), .val (.int (Int32.ofNat i0)), .val (.ref a2), .val (.int (Int32.ofNat i))] [(.ref a0), (.int (Int32.ofNat i))])) rfl rfl (D 4 rfl)
      refine OFin.of (fun t ht => iN Xl hx rfl (D 2 rfl) rfl (aN Xl hx rfl (D 3 rfl) rfl rfl (st4 t ht))) ?_
      obtain ⟨_, T5, Lc5, X5, hQ5, st5⟩ := own_cP X4 hx hw hZ hown 114 115 19 116 20 117 rfl rfl rfl rfl rfl rfl (by decide) EO (rmSw l Z _ hw [] a0 a2 tx kt nt pre tv kv cs fm i h0 n0 Z0 EO Ft Fe Tx ELs FLc FLv Vv Scs hcs Sfm hfm (by omega) hn3) (by decide) (by decide) (g := (mkF m 13 #[.val (.ref a0), .val (.int (Int32.ofNat i0)), .val (.ref a2), .val (.int (Int32.ofNat i))] [(.ref a2), (.int (Int32.ofNat i)), (.ref a0)])) rfl hml rfl (argsL := [(.int (Int32.ofNat i)), (.ref a2)]) (rest := []) pd_11 rfl rfl rfl (W := 0) (Nat.le_of_eq rfl) (D 15 rfl) rfl e4 (by decide) (by decide)
      obtain ⟨rs5, rfl, Nq5, hs5⟩ := hQ5
      have N6 := Fr.app Nl Nq5
      refine OFin.of (fun t ht => cN X4 hx rfl (D 5 rfl) rfl (tlt (own_s7 Tx hk : (Int32.ofNat i) < (Int32.ofNat pre.length))).2.1 (aN X4 hx rfl (D 12 rfl) rfl rfl (iN X4 hx rfl (D 13 rfl) rfl (aN X4 hx rfl (D 14 rfl) rfl rfl (st5.trans ht))))) ?_
      by_cases hc7 : rs5 = (0 : Int32)
      · refine OFin.of (S' := T5.setTop (mkF m 2 #[.val (.ref a0), .val (.int (Int32.ofNat i0)), .val (.ref a2), .val (.int ((Int32.ofNat i) + (1 : Int32)))] [])) (fun t ht => fN X5 hx rfl (D 16 rfl) rfl ((if0 _ _).trans (teq hc7).2) (iI X5 hx rfl (D 17 rfl) rfl (l' := #[.val (.ref a0), .val (.int (Int32.ofNat i0)), .val (.ref a2), .val (.int ((Int32.ofNat i) + (1 : Int32)))]) rfl (gO X5 hx rfl 22 2 rfl (D 18 rfl) (by decide) ht))) ?_
        rw [own_succ]
        exact ih (i + 1) (by omega)  X5 hs5 N6
      · obtain ⟨T8, X8, e8, st8⟩ := getF X5 hx hZ hown (host := "") (Or.inl (wt hw 31 rfl)) Via.refl hs5 Fe (g := (mkF m 27 #[.val (.ref a0), .val (.int (Int32.ofNat i0)), .val (.ref a2), .val (.int (Int32.ofNat i))] [(.ref a0), (.int (Int32.ofNat i))])) rfl rfl (D 8 rfl)
        refine OFin.of (fun t ht => fY X5 hx rfl 16 25 rfl (D 16 rfl) rfl ((if0 _ _).trans (feq hc7).2) (by decide) (iN X5 hx rfl (D 6 rfl) rfl (aN X5 hx rfl (D 7 rfl) rfl rfl (st8 t ht)))) ?_
        obtain ⟨_, T9, Lc9, X9, hQ9, st9⟩ := own_cV X8 hx hw hZ hown 118 119 121 120 104 122 rfl rfl rfl rfl rfl rfl (by decide) ELs (rmLen l Z _ hw [] a2 tv kv cs h0 n0 Z0 ELs FLc FLv Vv Scs hcs) (by decide) (by decide) (g := (mkF m 35 #[.val (.ref a0), .val (.int (Int32.ofNat i0)), .val (.ref a2), .val (.int (Int32.ofNat i))] [(.ref a2), (.int (Int32.ofNat i))])) rfl hml rfl (argsL := []) (rest := [(.int (Int32.ofNat i))]) pd_9 rfl rfl rfl (W := 1) (Nat.le_of_eq rfl) (D 21 rfl) rfl e8 (by decide) (by decide)
        obtain ⟨rfl, Nq9, hs9⟩ := hQ9
        have N10 := Fr.app N6 Nq9
        refine OFin.of (fun t ht => cN X8 hx rfl (D 9 rfl) rfl (tlt (own_s7 Tx hk : (Int32.ofNat i) < (Int32.ofNat pre.length))).2.1 (iN X8 hx rfl (D 19 rfl) rfl (aN X8 hx rfl (D 20 rfl) rfl rfl (st9.trans ht)))) ?_
        refine OFin.of (S' := T9.setTop (mkF m 43 #[.val (.ref a0), .val (.int (Int32.ofNat i0)), .val (.ref a2), .val (.int (Int32.ofNat i))] [(.int ((Int32.ofNat i) + (2 : Int32)))])) (fun t ht => XS.iadd X9.here hx rfl (D 22 rfl) rfl (gO X9 hx rfl 39 43 rfl (D 23 rfl) (by decide) ht)) ?_
        exact OFin.retI X9 hx hlk hret (D 11 rfl) (by decide) (by decide) (by rw [hs9]; exact ⟨((Int32.ofNat i) + (2 : Int32)), rfl, N10, rfl⟩)
  exact lp1 _ i0 (Nat.add_sub_cancel' hi0)  X0 e0 N0
theorem efNtI {m : MethodId} {a0 : Addr} : entryFrame m #[(.ref a0)] 5 = mkF m 0 #[.val (.ref a0), .unset, .unset, .unset, .unset] [] := by first | (simp [entryFrame, mkF, argsToLocals, Value.category]; done) | rfl
def QNtI (Z : State) (a0 tx : Addr) (kt : ClassId) (nt : Int32) (pre : List Int32) (vkd : Value) (vts vte vem vns vne vnh vvs vve val : Int32) (kSTART kEND kINSTRUCTION : Addr) (j0 : Nat) (cs : Int32) (fm : Value) (h0 : Heap) (n0 : Nat) (v : Option Value) (h : Heap) (L : List Loc) : Prop := ∃ hv at1 te1 : Int32, v = some (.int (1 : Int32)) ∧ Fr n0 L ∧ Keep h0 h [a0] ∧ Mk Z h a0 (.ref tx) (.int at1) (.int (Int32.ofNat pre.length)) (.ref kINSTRUCTION) (.int (0 : Int32)) (.int te1) (.int (0 : Int32)) (.int (Int32.ofNat 2)) (.int (Int32.ofNat j0)) (.int hv) (.int vvs) (.int vve) (.int (0 : Int32))
theorem rmNtI (l : Launch) (Z : State) (a0 : Array Value) (hw : HW a0 Z) (ws : List Jvm.Cond) (a0 tx : Addr) (kt : ClassId) (nt : Int32) (pre : List Int32) (vkd : Value) (vts vte vem vns vne vnh vvs vve val : Int32) (kSTART kEND kINSTRUCTION : Addr) (j0 : Nat) (cs : Int32) (fm : Value) (h0 : Heap) (n0 : Nat) (Z0 : n0 ≤ h0.size) (EO : Exa Z h0 a0 cA) (M0 : Mk Z h0 a0 (.ref tx) (.int (0 : Int32)) (.int (Int32.ofNat pre.length)) vkd (.int vts) (.int vte) (.int vem) (.int vns) (.int vne) (.int vnh) (.int vvs) (.int vve) (.int val)) (Tx : Txt Z h0 tx kt nt pre) (g0 : n0 ≤ a0) (hnt : tx ≠ a0) (SkSTART : Sta Z h0 cG "START" cD (.ref kSTART)) (SkEND : Sta Z h0 cG "END" cD (.ref kEND)) (SkINSTRUCTION : Sta Z h0 cG "INSTRUCTION" cD (.ref kINSTRUCTION)) (hne1 : kINSTRUCTION ≠ kSTART) (hp0 : pre.getD 0 0 = 60) (hp1 : 0 + 1 < pre.length) (hpb : nar .byte (pre.getD (0 + 1) 0) = (63 : Int32)) (hi0 : 2 ≤ pre.length) (hj0 : own_find own_en pre 2 = j0) (Scs : Sta Z h0 cB "COMPACT_STRINGS" "Z" (.int cs)) (hcs : ¬ cs = (0 : Int32)) (Sfm : Sta Z h0 cE "SIOOBE_FORMATTER" cF fm) (hfm : fm.isRef = true) (hn3 : nt.toNatClampNeg < 1000) :
    ConH consts_1 l mn9 (Jvm.Cond.code mn9 prog_7_method_3_code 5 (some .boolean)) ws (⟨6, 2, 12, 85⟩ : Jvm.Room) #[(.ref a0)] Z h0 (QNtI Z a0 tx kt nt pre vkd vts vte vem vns vne vnh vvs vve val kSTART kEND kINSTRUCTION j0 cs fm h0 n0) := by
  refine own_ofH (plainFor_of_name pn_0) hisR dl_prog_7_3 ?_
  intro p e s m below meth c s₁ hx D hlk hret hml hZ hown hnm X0 e0 hh hC0
  replace hown : s.vm.findClass cA = some m.cls := hown
  have N0 := Fr.nil n0
  have hR0 : CHr Z consts_1 s.vm h0 s.vm h0 := CHr.refl hC0
  have hEL := own_EW hw
  rw [efNtI]
  have K0 : Keep h0 h0 [a0] := Keep.refl _ _
  obtain ⟨T1, X1, e1, st1⟩ := getF X0 hx hZ hown (host := "") (Or.inl (wt hw 29 rfl)) Via.refl e0 M0.g_at (g := (mkF m 4 #[.val (.ref a0), .unset, .unset, .unset, .unset] [(.ref a0), (.int (60 : Int32)), (.ref a0)])) rfl rfl (D 3 rfl)
  refine OFin.of (fun t ht => aN X0 hx rfl (D 0 rfl) rfl rfl (bP X0 hx rfl (D 1 rfl) (aN X0 hx rfl (D 2 rfl) rfl rfl (st1 t ht)))) ?_
  obtain ⟨_, T2, Lc2, X2, hQ2, st2⟩ := own_cP X1 hx hw hZ hown 38 39 19 40 20 41 rfl rfl rfl rfl rfl rfl (by decide) EO (rmIx l Z _ hw [] a0 (60 : Int32) tx kt nt pre 0 (0 : Int32) h0 n0 Z0 M0.g_text M0.g_end Tx (Nat.zero_le _) (own_ix0 hp0)) (by decide) (by decide) (g := (mkF m 7 #[.val (.ref a0), .unset, .unset, .unset, .unset] [(.int (0 : Int32)), (.int (60 : Int32)), (.ref a0)])) rfl hml rfl (argsL := [(.int (60 : Int32)), (.int (0 : Int32))]) (rest := []) pd_1 rfl rfl rfl (W := 0) (Nat.le_of_eq rfl) (D 4 rfl) rfl e1 (by decide) (by decide)
  obtain ⟨rfl, Nq2, hs2⟩ := hQ2
  have N3 := Fr.app N0 Nq2
  refine OFin.to st2 ?_
  obtain ⟨T4, X4, e4, st4⟩ := getF X2 hx hZ hown (host := "") (Or.inl (wt hw 31 rfl)) Via.refl hs2 M0.g_end (g := (mkF m 12 #[.val (.ref a0), .val (.int (0 : Int32)), .unset, .unset, .unset] [(.ref a0)])) rfl rfl (D 7 rfl)
  refine OFin.of (fun t ht => XS.istoreN X2.here hx rfl (D 5 rfl) rfl (l' := #[.val (.ref a0), .val (.int (0 : Int32)), .unset, .unset, .unset]) rfl (aN X2 hx rfl (D 6 rfl) rfl rfl (st4 t ht))) ?_
  obtain ⟨_, T5, Lc5, X5, hQ5, st5⟩ := own_cP X4 hx hw hZ hown 42 43 19 44 20 45 rfl rfl rfl rfl rfl rfl (by decide) EO (rmBa l Z _ hw [] a0 tx kt nt pre 0 (63 : Int32) h0 n0 Z0 M0.g_text M0.g_end Tx hp1 hpb) (by decide) (by decide) (g := (mkF m 22 #[.val (.ref a0), .val (.int (0 : Int32)), .val (.int (Int32.ofNat pre.length)), .unset, .unset] [(.int (0 : Int32)), (.ref a0)])) rfl hml rfl (argsL := [(.int (0 : Int32))]) (rest := []) pd_2 rfl rfl rfl (W := 0) (Nat.le_of_eq rfl) (D 13 rfl) rfl e4 (by decide) (by decide)
  obtain ⟨rfl, Nq5, hs5⟩ := hQ5
  have N6 := Fr.app N3 Nq5
  refine OFin.of (fun t ht => XS.istoreN X4.here hx rfl (D 8 rfl) rfl (l' := #[.val (.ref a0), .val (.int (0 : Int32)), .val (.int (Int32.ofNat pre.length)), .unset, .unset]) rfl (iN X4 hx rfl (D 9 rfl) rfl (fN X4 hx rfl (D 10 rfl) rfl ((if0 _ _).trans (flt (by decide : ¬ ((0 : Int32) < (0 : Int32)))).1) (aN X4 hx rfl (D 11 rfl) rfl rfl (iN X4 hx rfl (D 12 rfl) rfl (st5.trans ht)))))) ?_
  obtain ⟨T7, h7, X7, e7, W7, st7⟩ := putF X5 hx hZ hown (host := "") (Or.inl (wt hw 46 rfl)) Via.refl hs5 M0.g_tagStart EO (Or.inl (wt hw 47 rfl)) (wt hw 19 rfl) (ty := .int) (by decide) rfl rfl (g := (mkF m 87 #[.val (.ref a0), .val (.int (0 : Int32)), .val (.int (Int32.ofNat pre.length)), .unset, .unset] [(.int (0 : Int32)), (.ref a0)])) rfl rfl (D 20 rfl)
  have hA8 := CHr.wr W7 (Safe.exa hZ.alike EO (by decide) (by decide)) hR0.1
  have hR9 := hR0.trans hA8
  have f10 := (EO.wr W7)
  have f11 := (Tx.other W7 hnt)
  have f12 := (SkSTART.wr W7)
  have f13 := (SkEND.wr W7)
  have f14 := (SkINSTRUCTION.wr W7)
  have f15 := (Scs.wr W7)
  have f16 := (Sfm.wr W7)
  have Z17 := Nat.le_trans Z0 (Keep.of_wr W7).1
  have K18 := K0.wr W7 (Or.inl (List.mem_of_getElem? (i := 0) rfl))
  have N19 := Fr.snoc X7 N6 g0
  have M20 := M0.put_tagStart hw W7
  refine OFin.of (fun t ht => bP X5 hx rfl (D 14 rfl) (cY X5 hx rfl 27 61 rfl (D 15 rfl) rfl (feq (by decide : ¬ ((63 : Int32) = (33 : Int32)))).2 (by decide) (iN X5 hx rfl (D 16 rfl) rfl (fY X5 hx rfl 62 85 rfl (D 17 rfl) rfl ((if0 _ _).trans (flt (by decide : ¬ ((0 : Int32) < (0 : Int32)))).2.1) (by decide) (aN X5 hx rfl (D 18 rfl) rfl rfl (iN X5 hx rfl (D 19 rfl) rfl (st7 t ht))))))) ?_
  obtain ⟨T21, h21, X21, e21, W21, st21⟩ := putFN X7 hx hZ hown (wt hw 48 rfl) Via.refl e7 M20.g_emptyElement f10 (Or.inl (wt hw 49 rfl)) (wt hw 19 rfl) (ty := .boolean) (v' := (.int (0 : Int32))) (by decide) rfl rfl (g := (mkF m 92 #[.val (.ref a0), .val (.int (0 : Int32)), .val (.int (Int32.ofNat pre.length)), .unset, .unset] [(.int (0 : Int32)), (.ref a0)])) rfl rfl (D 23 rfl)
  have hA22 := CHr.wr W21 (Safe.exa hZ.alike f10 (by decide) (by decide)) hR9.1
  have hR23 := hR9.trans hA22
  have f24 := (f10.wr W21)
  have f25 := (f11.other W21 hnt)
  have f26 := (f12.wr W21)
  have f27 := (f13.wr W21)
  have f28 := (f14.wr W21)
  have f29 := (f15.wr W21)
  have f30 := (f16.wr W21)
  have Z31 := Nat.le_trans Z17 (Keep.of_wr W21).1
  have K32 := K18.wr W21 (Or.inl (List.mem_of_getElem? (i := 0) rfl))
  have N33 := Fr.snoc X21 N19 g0
  have M34 := M20.put_emptyElement hw W21
  refine OFin.of (fun t ht => aN X7 hx rfl (D 21 rfl) rfl rfl (iC X7 hx rfl (D 22 rfl) (st21 t ht))) ?_
  obtain ⟨_, T35, Lc35, X35, hQ35, st35⟩ := own_cP X21 hx hw hZ hown 42 43 19 44 20 45 rfl rfl rfl rfl rfl rfl (by decide) f24 (rmBa l Z _ hw [] a0 tx kt nt pre 0 (63 : Int32) h21 n0 Z31 M34.g_text M34.g_end f25 hp1 hpb) (by decide) (by decide) (g := (mkF m 97 #[.val (.ref a0), .val (.int (0 : Int32)), .val (.int (Int32.ofNat pre.length)), .unset, .unset] [(.int (0 : Int32)), (.ref a0)])) rfl hml rfl (argsL := [(.int (0 : Int32))]) (rest := []) pd_2 rfl rfl rfl (W := 0) (Nat.le_of_eq rfl) (D 26 rfl) rfl e21 (by decide) (by decide)
  obtain ⟨rfl, Nq35, hs35⟩ := hQ35
  have N36 := Fr.app N33 Nq35
  refine OFin.of (fun t ht => aN X21 hx rfl (D 24 rfl) rfl rfl (iN X21 hx rfl (D 25 rfl) rfl (st35.trans ht))) ?_
  obtain ⟨T37, X37, e37, st37⟩ := getS (host := "") X35 hx hZ hown (wt hw 101 rfl) Via.refl hs35 f28 (g := (mkF m 108 #[.val (.ref a0), .val (.int (0 : Int32)), .val (.int (Int32.ofNat pre.length)), .val (.int (63 : Int32)), .unset] [(.ref a0)])) rfl (D 94 rfl)
  refine OFin.of (fun t ht => XS.istoreN X35.here hx rfl (D 27 rfl) rfl (l' := #[.val (.ref a0), .val (.int (0 : Int32)), .val (.int (Int32.ofNat pre.length)), .val (.int (63 : Int32)), .unset]) rfl (iN X35 hx rfl (D 28 rfl) rfl (bP X35 hx rfl (D 29 rfl) (cN X35 hx rfl (D 30 rfl) rfl (teq (by decide : (63 : Int32) = (63 : Int32))).2 (aN X35 hx rfl (D 93 rfl) rfl rfl (st37 t ht)))))) ?_
  obtain ⟨T38, h38, X38, e38, W38, st38⟩ := putF X37 hx hZ hown (host := "") (Or.inl (wt hw 53 rfl)) Via.refl e37 M34.g_kind f24 (Or.inl (wt hw 54 rfl)) (wt hw 19 rfl) (ty := (.object cG)) (by decide) rfl rfl (g := (mkF m 111 #[.val (.ref a0), .val (.int (0 : Int32)), .val (.int (Int32.ofNat pre.length)), .val (.int (63 : Int32)), .unset] [(.ref kINSTRUCTION), (.ref a0)])) rfl rfl (D 95 rfl)
  have hA39 := CHr.wr W38 (Safe.exa hZ.alike f24 (by decide) (by decide)) hR23.1
  have hR40 := hR23.trans hA39
  have f41 := (f24.wr W38)
  have f42 := (f25.other W38 hnt)
  have f43 := (f26.wr W38)
  have f44 := (f27.wr W38)
  have f45 := (f28.wr W38)
  have f46 := (f29.wr W38)
  have f47 := (f30.wr W38)
  have Z48 := Nat.le_trans Z31 (Keep.of_wr W38).1
  have K49 := K32.wr W38 (Or.inl (List.mem_of_getElem? (i := 0) rfl))
  have N50 := Fr.snoc X38 N36 g0
  have M51 := M34.put_kind hw W38
  refine OFin.of st38 ?_
  obtain ⟨_, T52, Lc52, X52, hQ52, st52⟩ := own_cP X38 hx hw hZ hown 57 58 19 59 20 60 rfl rfl rfl rfl rfl rfl (by decide) f41 (rmRn l Z _ hw [] a0 tx kt nt pre (0 : Int32) (.ref kINSTRUCTION) (0 : Int32) vte (0 : Int32) vns vne vnh vvs vve val 2 j0 h38 n0 Z48 f41 M51 f42 g0 hnt hi0 hj0) (by decide) (by decide) (g := (mkF m 118 #[.val (.ref a0), .val (.int (0 : Int32)), .val (.int (Int32.ofNat pre.length)), .val (.int (63 : Int32)), .unset] [(.int (2 : Int32)), (.ref a0)])) rfl hml rfl (argsL := [(.int (2 : Int32))]) (rest := []) pd_3 rfl rfl rfl (W := 0) (Nat.le_of_eq rfl) (D 100 rfl) rfl e38 (by decide) (by decide)
  obtain ⟨hv52, rfl, Nq52, Kq52, M52⟩ := hQ52
  have N53 := Fr.app N50 Nq52
  have hA54 := CHr.keep Kq52 (sfS (Safe.exa hZ.alike f41 (by decide) (by decide)) sf0) hR40.1
  have hR55 := hR40.trans hA54
  have f56 := (f41.keep Kq52)
  have f57 := (f42.keep Kq52 (ninS hnt nin0))
  have f58 := (own_staKeep f43 Kq52 (own_snS f41 own_sn0))
  have f59 := (own_staKeep f44 Kq52 (own_snS f41 own_sn0))
  have f60 := (own_staKeep f45 Kq52 (own_snS f41 own_sn0))
  have f61 := (own_staKeep f46 Kq52 (own_snS f41 own_sn0))
  have f62 := (own_staKeep f47 Kq52 (own_snS f41 own_sn0))
  have Z63 := Nat.le_trans Z48 Kq52.1
  have K64 := K49.trans Kq52 (allS (Or.inl (List.mem_of_getElem? (i := 0) rfl)) all0)
  refine OFin.of (fun t ht => aN X38 hx rfl (D 96 rfl) rfl rfl (iN X38 hx rfl (D 97 rfl) rfl (iC X38 hx rfl (D 98 rfl) (XS.iadd X38.here hx rfl (D 99 rfl) rfl (st52.trans ht))))) ?_
  obtain ⟨al65, T65, h65, k65, lv65, c65, X65, e65, E65, S65, K65, hZ65, hown65, Ax65, Fc65, Fv65, Va65, -, -, CH65, -, nx65, st65⟩ := ldcCH (s := s) (vm0 := s.vm) X52 hx hZ hown (wt hw 103 rfl) (own_strAtoms hw) (rfl : T52.heap = T52.heap) ((State.WarmedH.refl s).since T52.heap.size) (Nat.le_refl _) hEL (List.mem_of_getElem? (i := 0) rfl) hR55.1 (vs := [(.int (63 : Int32)), (.int (62 : Int32))]) (z := (2 : Int32)) ⟨by decide, rfl⟩ (by decide) (by decide) (g := (mkF m 127 #[.val (.ref a0), .val (.int (0 : Int32)), .val (.int (Int32.ofNat pre.length)), .val (.int (63 : Int32)), .unset] [(.int (2 : Int32)), (.ref a0), (.ref a0)])) rfl (D 107 rfl) (n := 8) (by decide) (by decide) (by decide) (by decide)
  have hA66 := CH65
  have hR67 := hR55.trans hA66
  have f68 := f56.ext E65
  have f69 := f57.ext E65
  have f70 := f58.ext E65
  have f71 := f59.ext E65
  have f72 := f60.ext E65
  have f73 := f61.ext E65
  have f74 := f62.ext E65
  have f75 := M52.ext E65
  have Z76 := Nat.le_trans Z63 E65.1
  have K77 := K64.ext E65
  have ns78 := nx65 a0 (Safe.exa hZ65.alike f68 (by decide) (by decide))
  refine OFin.of (fun t ht => XS.pop X52.here hx rfl (D 101 rfl) rfl rfl (aN X52 hx rfl (D 102 rfl) rfl rfl (aN X52 hx rfl (D 103 rfl) rfl rfl (iN X52 hx rfl (D 104 rfl) rfl (iC X52 hx rfl (D 105 rfl) (XS.iadd X52.here hx rfl (D 106 rfl) rfl (st65 t ht))))))) ?_
  obtain ⟨_, T79, Lc79, X79, hQ79, st79⟩ := own_cP X65 hx hw hZ65 hown65 110 111 19 112 20 113 rfl rfl rfl rfl rfl rfl (by decide) f68 (rmPa l Z _ hw [] a0 al65 tx kt nt pre lv65 c65 cs fm 2 h65 n0 Z76 f68 f75.g_text f75.g_end f69 Ax65 Fc65 Fv65 Va65 f73 hcs f74 hfm hi0 hn3) (by decide) (by decide) (g := (mkF m 129 #[.val (.ref a0), .val (.int (0 : Int32)), .val (.int (Int32.ofNat pre.length)), .val (.int (63 : Int32)), .unset] [(.ref al65), (.int (2 : Int32)), (.ref a0), (.ref a0)])) rfl hml rfl (argsL := [(.int (2 : Int32)), (.ref al65)]) (rest := [(.ref a0)]) pd_12 rfl rfl rfl (W := 1) (Nat.le_of_eq rfl) (D 108 rfl) rfl e65 (by decide) (by decide)
  obtain ⟨rp79, rfl, Nq79, hs79⟩ := hQ79
  have N80 := Fr.app N53 Nq79
  refine OFin.to st79 ?_
  obtain ⟨T81, h81, X81, e81, W81, st81⟩ := putF X79 hx hZ65 hown65 (host := "") (Or.inl (wt hw 55 rfl)) Via.refl hs79 f75.g_tagEnd f68 (Or.inl (wt hw 56 rfl)) (wt hw 19 rfl) (ty := .int) (by decide) rfl rfl (g := (mkF m 132 #[.val (.ref a0), .val (.int (0 : Int32)), .val (.int (Int32.ofNat pre.length)), .val (.int (63 : Int32)), .unset] [(.int rp79), (.ref a0)])) rfl rfl (D 109 rfl)
  have hA82 := CHr.wr W81 (Safe.exa hZ65.alike f68 (by decide) (by decide)) hR67.1
  have hR83 := hR67.trans hA82
  have f84 := (f68.wr W81)
  have f85 := (f69.other W81 hnt)
  have f86 := (f70.wr W81)
  have f87 := (f71.wr W81)
  have f88 := (f72.wr W81)
  have f89 := (f73.wr W81)
  have f90 := (f74.wr W81)
  have f91 := (Ax65.wr W81)
  have f92 := (Fc65.other W81 (Or.inl (Ne.symm ns78.1)))
  have f93 := (Fv65.other W81 (Or.inl (Ne.symm ns78.1)))
  have f94 := (Va65.other W81 (Ne.symm ns78.2))
  have Z95 := Nat.le_trans Z76 (Keep.of_wr W81).1
  have K96 := K77.wr W81 (Or.inl (List.mem_of_getElem? (i := 0) rfl))
  have N97 := Fr.snoc X81 N80 g0
  have kk98 : k65 ≤ h81.size := (Nat.le_trans K65 (Keep.of_wr W81).1)
  have M99 := f75.put_tagEnd hw W81
  refine OFin.of st81 ?_
  obtain ⟨T100, X100, e100, st100⟩ := getF X81 hx hZ65 hown65 (host := "") (Or.inl (wt hw 55 rfl)) Via.refl e81 M99.g_tagEnd (g := (mkF m 137 #[.val (.ref a0), .val (.int (0 : Int32)), .val (.int (Int32.ofNat pre.length)), .val (.int (63 : Int32)), .unset] [(.ref a0), (.ref a0)])) rfl rfl (D 112 rfl)
  refine OFin.of (fun t ht => aN X81 hx rfl (D 110 rfl) rfl rfl (aN X81 hx rfl (D 111 rfl) rfl rfl (st100 t ht))) ?_
  by_cases hc101 : rp79 < (0 : Int32)
  · obtain ⟨T102, X102, e102, st102⟩ := getF X100 hx hZ65 hown65 (host := "") (Or.inl (wt hw 31 rfl)) Via.refl e100 M99.g_end (g := (mkF m 144 #[.val (.ref a0), .val (.int (0 : Int32)), .val (.int (Int32.ofNat pre.length)), .val (.int (63 : Int32)), .unset] [(.ref a0), (.ref a0)])) rfl rfl (D 115 rfl)
    refine OFin.of (fun t ht => fN X100 hx rfl (D 113 rfl) rfl ((if0 _ _).trans (tlt hc101).2.1) (aN X100 hx rfl (D 114 rfl) rfl rfl (st102 t ht))) ?_
    obtain ⟨T103, h103, X103, e103, W103, st103⟩ := putF X102 hx hZ65 hown65 (host := "") (Or.inl (wt hw 29 rfl)) Via.refl e102 M99.g_at f84 (Or.inl (wt hw 30 rfl)) (wt hw 19 rfl) (ty := .int) (by decide) rfl rfl (g := (mkF m 154 #[.val (.ref a0), .val (.int (0 : Int32)), .val (.int (Int32.ofNat pre.length)), .val (.int (63 : Int32)), .unset] [(.int (Int32.ofNat pre.length)), (.ref a0)])) rfl rfl (D 117 rfl)
    have hA104 := CHr.wr W103 (Safe.exa hZ65.alike f84 (by decide) (by decide)) hR83.1
    have hR105 := hR83.trans hA104
    have f106 := (f84.wr W103)
    have f107 := (f85.other W103 hnt)
    have f108 := (f86.wr W103)
    have f109 := (f87.wr W103)
    have f110 := (f88.wr W103)
    have f111 := (f89.wr W103)
    have f112 := (f90.wr W103)
    have f113 := (f91.wr W103)
    have f114 := (f92.other W103 (Or.inl (Ne.symm ns78.1)))
    have f115 := (f93.other W103 (Or.inl (Ne.symm ns78.1)))
    have f116 := (f94.other W103 (Ne.symm ns78.2))
    have Z117 := Nat.le_trans Z95 (Keep.of_wr W103).1
    have K118 := K96.wr W103 (Or.inl (List.mem_of_getElem? (i := 0) rfl))
    have N119 := Fr.snoc X103 N97 g0
    have kk120 : k65 ≤ h103.size := (Nat.le_trans kk98 (Keep.of_wr W103).1)
    have M121 := M99.put_at hw W103
    refine OFin.of (fun t ht => gO X102 hx rfl 147 154 rfl (D 116 rfl) (by decide) (st103 t ht)) ?_
    obtain ⟨T122, X122, e122, st122⟩ := getF X103 hx hZ65 hown65 (host := "") (Or.inl (wt hw 53 rfl)) Via.refl e103 M121.g_kind (g := (mkF m 258 #[.val (.ref a0), .val (.int (0 : Int32)), .val (.int (Int32.ofNat pre.length)), .val (.int (63 : Int32)), .unset] [(.ref a0), (.ref a0)])) rfl rfl (D 49 rfl)
    refine OFin.of (fun t ht => gO X103 hx rfl 157 256 rfl (D 118 rfl) (by decide) (aN X103 hx rfl (D 47 rfl) rfl rfl (aN X103 hx rfl (D 48 rfl) rfl rfl (st122 t ht)))) ?_
    obtain ⟨T123, X123, e123, st123⟩ := getS (host := "") X122 hx hZ65 hown65 (wt hw 50 rfl) Via.refl e122 f108 (g := (mkF m 261 #[.val (.ref a0), .val (.int (0 : Int32)), .val (.int (Int32.ofNat pre.length)), .val (.int (63 : Int32)), .unset] [(.ref kINSTRUCTION), (.ref a0)])) rfl (D 50 rfl)
    refine OFin.of st123 ?_
    obtain ⟨T124, h124, X124, e124, W124, st124⟩ := putFN X123 hx hZ65 hown65 (wt hw 71 rfl) Via.refl e123 M121.g_attributesLeft f106 (Or.inl (wt hw 72 rfl)) (wt hw 19 rfl) (ty := .boolean) (v' := (.int (0 : Int32))) (by decide) rfl rfl (g := (mkF m 272 #[.val (.ref a0), .val (.int (0 : Int32)), .val (.int (Int32.ofNat pre.length)), .val (.int (63 : Int32)), .unset] [(.int (0 : Int32)), (.ref a0)])) rfl rfl (D 54 rfl)
    have hA125 := CHr.wr W124 (Safe.exa hZ65.alike f106 (by decide) (by decide)) hR105.1
    have hR126 := hR105.trans hA125
    have f127 := (f106.wr W124)
    have f128 := (f107.other W124 hnt)
    have f129 := (f108.wr W124)
    have f130 := (f109.wr W124)
    have f131 := (f110.wr W124)
    have f132 := (f111.wr W124)
    have f133 := (f112.wr W124)
    have f134 := (f113.wr W124)
    have f135 := (f114.other W124 (Or.inl (Ne.symm ns78.1)))
    have f136 := (f115.other W124 (Or.inl (Ne.symm ns78.1)))
    have f137 := (f116.other W124 (Ne.symm ns78.2))
    have Z138 := Nat.le_trans Z117 (Keep.of_wr W124).1
    have K139 := K118.wr W124 (Or.inl (List.mem_of_getElem? (i := 0) rfl))
    have N140 := Fr.snoc X124 N119 g0
    have kk141 : k65 ≤ h124.size := (Nat.le_trans kk120 (Keep.of_wr W124).1)
    have M142 := M121.put_attributesLeft hw W124
    refine OFin.of (fun t ht => acmp X123 hx rfl (cd := .ne) (x := (.ref kINSTRUCTION)) (y := (.ref kSTART)) rfl rfl (pc0 := 264) (pc' := 271) (same := false) rfl (D 51 rfl) rfl (decide_eq_false (fun q => hne1 (Value.ref.inj q))) (by decide) (by decide) (iC X123 hx rfl (D 86 rfl) (st124 t ht))) ?_
    refine OFin.of (S' := T124.setTop (mkF m 276 #[.val (.ref a0), .val (.int (0 : Int32)), .val (.int (Int32.ofNat pre.length)), .val (.int (63 : Int32)), .unset] [(.int (1 : Int32))])) (fun t ht => iC X124 hx rfl (D 55 rfl) ht) ?_
    have rH143 : CHr Z consts_1 s.vm s.heap T124.vm T124.heap := by rw [hh, e124]; exact hR126.trans (CHv.at (s := s) (vm0 := T65.vm) X124 hZ65 hEL hR126.1)
    exact own_retBH (s := s) (vm₁ := T65.vm) X124 S65 (by rw [e124]; exact kk141) rH143 hx hlk (t := .boolean) (by simp) hret (D 56 rfl) (by decide) (by decide) (by rw [e124]; exact ⟨hv52, (Int32.ofNat pre.length), rp79, rfl, N140, K139, M142⟩)
  · obtain ⟨T144, X144, e144, st144⟩ := getF X100 hx hZ65 hown65 (host := "") (Or.inl (wt hw 55 rfl)) Via.refl e100 M99.g_tagEnd (g := (mkF m 151 #[.val (.ref a0), .val (.int (0 : Int32)), .val (.int (Int32.ofNat pre.length)), .val (.int (63 : Int32)), .unset] [(.ref a0), (.ref a0)])) rfl rfl (D 120 rfl)
    refine OFin.of (fun t ht => fY X100 hx rfl 140 150 rfl (D 113 rfl) rfl ((if0 _ _).trans (flt hc101).2.1) (by decide) (aN X100 hx rfl (D 119 rfl) rfl rfl (st144 t ht))) ?_
    obtain ⟨T145, h145, X145, e145, W145, st145⟩ := putF X144 hx hZ65 hown65 (host := "") (Or.inl (wt hw 29 rfl)) Via.refl e144 M99.g_at f84 (Or.inl (wt hw 30 rfl)) (wt hw 19 rfl) (ty := .int) (by decide) rfl rfl (g := (mkF m 154 #[.val (.ref a0), .val (.int (0 : Int32)), .val (.int (Int32.ofNat pre.length)), .val (.int (63 : Int32)), .unset] [(.int rp79), (.ref a0)])) rfl rfl (D 117 rfl)
    have hA146 := CHr.wr W145 (Safe.exa hZ65.alike f84 (by decide) (by decide)) hR83.1
    have hR147 := hR83.trans hA146
    have f148 := (f84.wr W145)
    have f149 := (f85.other W145 hnt)
    have f150 := (f86.wr W145)
    have f151 := (f87.wr W145)
    have f152 := (f88.wr W145)
    have f153 := (f89.wr W145)
    have f154 := (f90.wr W145)
    have f155 := (f91.wr W145)
    have f156 := (f92.other W145 (Or.inl (Ne.symm ns78.1)))
    have f157 := (f93.other W145 (Or.inl (Ne.symm ns78.1)))
    have f158 := (f94.other W145 (Ne.symm ns78.2))
    have Z159 := Nat.le_trans Z95 (Keep.of_wr W145).1
    have K160 := K96.wr W145 (Or.inl (List.mem_of_getElem? (i := 0) rfl))
    have N161 := Fr.snoc X145 N97 g0
    have kk162 : k65 ≤ h145.size := (Nat.le_trans kk98 (Keep.of_wr W145).1)
    have M163 := M99.put_at hw W145
    refine OFin.of st145 ?_
    obtain ⟨T164, X164, e164, st164⟩ := getF X145 hx hZ65 hown65 (host := "") (Or.inl (wt hw 53 rfl)) Via.refl e145 M163.g_kind (g := (mkF m 258 #[.val (.ref a0), .val (.int (0 : Int32)), .val (.int (Int32.ofNat pre.length)), .val (.int (63 : Int32)), .unset] [(.ref a0), (.ref a0)])) rfl rfl (D 49 rfl)
    refine OFin.of (fun t ht => gO X145 hx rfl 157 256 rfl (D 118 rfl) (by decide) (aN X145 hx rfl (D 47 rfl) rfl rfl (aN X145 hx rfl (D 48 rfl) rfl rfl (st164 t ht)))) ?_
    obtain ⟨T165, X165, e165, st165⟩ := getS (host := "") X164 hx hZ65 hown65 (wt hw 50 rfl) Via.refl e164 f150 (g := (mkF m 261 #[.val (.ref a0), .val (.int (0 : Int32)), .val (.int (Int32.ofNat pre.length)), .val (.int (63 : Int32)), .unset] [(.ref kINSTRUCTION), (.ref a0)])) rfl (D 50 rfl)
    refine OFin.of st165 ?_
    obtain ⟨T166, h166, X166, e166, W166, st166⟩ := putFN X165 hx hZ65 hown65 (wt hw 71 rfl) Via.refl e165 M163.g_attributesLeft f148 (Or.inl (wt hw 72 rfl)) (wt hw 19 rfl) (ty := .boolean) (v' := (.int (0 : Int32))) (by decide) rfl rfl (g := (mkF m 272 #[.val (.ref a0), .val (.int (0 : Int32)), .val (.int (Int32.ofNat pre.length)), .val (.int (63 : Int32)), .unset] [(.int (0 : Int32)), (.ref a0)])) rfl rfl (D 54 rfl)
    have hA167 := CHr.wr W166 (Safe.exa hZ65.alike f148 (by decide) (by decide)) hR147.1
    have hR168 := hR147.trans hA167
    have f169 := (f148.wr W166)
    have f170 := (f149.other W166 hnt)
    have f171 := (f150.wr W166)
    have f172 := (f151.wr W166)
    have f173 := (f152.wr W166)
    have f174 := (f153.wr W166)
    have f175 := (f154.wr W166)
    have f176 := (f155.wr W166)
    have f177 := (f156.other W166 (Or.inl (Ne.symm ns78.1)))
    have f178 := (f157.other W166 (Or.inl (Ne.symm ns78.1)))
    have f179 := (f158.other W166 (Ne.symm ns78.2))
    have Z180 := Nat.le_trans Z159 (Keep.of_wr W166).1
    have K181 := K160.wr W166 (Or.inl (List.mem_of_getElem? (i := 0) rfl))
    have N182 := Fr.snoc X166 N161 g0
    have kk183 : k65 ≤ h166.size := (Nat.le_trans kk162 (Keep.of_wr W166).1)
    have M184 := M163.put_attributesLeft hw W166
    refine OFin.of (fun t ht => acmp X165 hx rfl (cd := .ne) (x := (.ref kINSTRUCTION)) (y := (.ref kSTART)) rfl rfl (pc0 := 264) (pc' := 271) (same := false) rfl (D 51 rfl) rfl (decide_eq_false (fun q => hne1 (Value.ref.inj q))) (by decide) (by decide) (iC X165 hx rfl (D 86 rfl) (st166 t ht))) ?_
    refine OFin.of (S' := T166.setTop (mkF m 276 #[.val (.ref a0), .val (.int (0 : Int32)), .val (.int (Int32.ofNat pre.length)), .val (.int (63 : Int32)), .unset] [(.int (1 : Int32))])) (fun t ht => iC X166 hx rfl (D 55 rfl) ht) ?_
    have rH185 : CHr Z consts_1 s.vm s.heap T166.vm T166.heap := by rw [hh, e166]; exact hR168.trans (CHv.at (s := s) (vm0 := T65.vm) X166 hZ65 hEL hR168.1)
    exact own_retBH (s := s) (vm₁ := T65.vm) X166 S65 (by rw [e166]; exact kk183) rH185 hx hlk (t := .boolean) (by simp) hret (D 56 rfl) (by decide) (by decide) (by rw [e166]; exact ⟨hv52, rp79, rp79, rfl, N182, K181, M184⟩)
theorem pn_4 : plainName cH = true := by first | (simp [plainName, overriddenIn]; done) | decide +kernel
theorem efRck {m : MethodId} {p0 p1 p2 : Int32} : entryFrame m #[(.int p0), (.int p1), (.int p2)] 3 = mkF m 0 #[.val (.int p0), .val (.int p1), .val (.int p2)] [] := by first | (simp [entryFrame, mkF, argsToLocals, Value.category]; done) | rfl
def QRck (Z : State) (p0 p1 p2 : Int32) (h0 : Heap) (n0 : Nat) (v : Option Value) (h : Heap) (L : List Loc) : Prop := v = none ∧ Fr n0 L ∧ h = h0
theorem rmRck (l : Launch) (Z : State) (a0 : Array Value) (hw : HW a0 Z) (ws : List Jvm.Cond) (p0 p1 p2 : Int32) (h0 : Heap) (n0 : Nat) (Z0 : n0 ≤ h0.size) (hr1 : ¬ p2 < p1) (hr2 : ¬ p1 < (0 : Int32)) (hr3 : ¬ p0 < p2) :
    Con l mn21 (Jvm.Cond.code mn21 jdk_65_method_30_code 3 none) ws (⟨0, 0, 0, 0⟩ : Jvm.Room) #[(.int p0), (.int p1), (.int p2)] Z h0 (QRck Z p0 p1 p2 h0 n0) := by
  refine own_of (plainFor_of_name pn_4) hisR dl_jdk_65_30 ?_
  intro p e s m below meth c s₁ hx D hlk hret hml hZ hown hnm X0 e0
  replace hown : s.vm.findClass cH = some m.cls := hown
  have N0 := Fr.nil n0
  rw [efRck]
  refine OFin.of (S' := s₁.setTop (mkF m 73 #[.val (.int p0), .val (.int p1), .val (.int p2)] [])) (fun t ht => iN X0 hx rfl (D 0 rfl) rfl (iN X0 hx rfl (D 1 rfl) rfl (cY X0 hx rfl 2 46 rfl (D 2 rfl) rfl (flt (hr1 : ¬ (p2 < p1))).2.2.2 (by decide) (iN X0 hx rfl (D 3 rfl) rfl (fY X0 hx rfl 47 59 rfl (D 4 rfl) rfl ((if0 _ _).trans (flt (hr2 : ¬ (p1 < (0 : Int32)))).2.1) (by decide) (iN X0 hx rfl (D 5 rfl) rfl (iN X0 hx rfl (D 6 rfl) rfl (cY X0 hx rfl 61 73 rfl (D 7 rfl) rfl (flt (hr3 : ¬ (p0 < p2))).2.2.2 (by decide) ht)))))))) ?_
  exact OFin.retV X0 hx hlk hret (D 8 rfl) (by decide) (by decide) (by rw [e0]; exact ⟨rfl, N0, rfl⟩)
theorem pn_5 : plainName c11 = true := by first | (simp [plainName, overriddenIn]; done) | decide +kernel
theorem efMm1 {m : MethodId} {a0 a2 : Addr} {ns : Nat} : entryFrame m #[(.ref a0), (.int (Int32.ofNat ns)), (.ref a2), (.int (0 : Int32)), (.int (1 : Int32))] 8 = mkF m 0 #[.val (.ref a0), .val (.int (Int32.ofNat ns)), .val (.ref a2), .val (.int (0 : Int32)), .val (.int (1 : Int32)), .unset, .unset, .unset] [] := by first | (simp [entryFrame, mkF, argsToLocals, Value.category]; done) | rfl
def QMm1 (Z : State) (a0 a2 : Addr) (kt : ClassId) (nt : Int32) (pre : List Int32) (ns : Nat) (kn : ClassId) (x0 : Int32) (h0 : Heap) (n0 : Nat) (v : Option Value) (h : Heap) (L : List Loc) : Prop := v = some (.int (-1 : Int32)) ∧ Fr n0 L ∧ h = h0
theorem rmMm1 (l : Launch) (Z : State) (a0 : Array Value) (hw : HW a0 Z) (ws : List Jvm.Cond) (a0 a2 : Addr) (kt : ClassId) (nt : Int32) (pre : List Int32) (ns : Nat) (kn : ClassId) (x0 : Int32) (h0 : Heap) (n0 : Nat) (Z0 : n0 ≤ h0.size) (Tx : Txt Z h0 a0 kt nt pre) (Vn : Arv Z h0 a2 kn .byte (1 : Int32) [(.int x0)] (.int (0 : Int32))) (hnl : ns + 1 ≤ pre.length) (hv0 : pre.getD (ns) 0 = x0) :
    Con l mn22 (Jvm.Cond.code mn22 jdk_48_method_14_code 8 (some .int)) ws (⟨0, 0, 0, 0⟩ : Jvm.Room) #[(.ref a0), (.int (Int32.ofNat ns)), (.ref a2), (.int (0 : Int32)), (.int (1 : Int32))] Z h0 (QMm1 Z a0 a2 kt nt pre ns kn x0 h0 n0) := by
  refine own_of (plainFor_of_name pn_5) hisR dl_jdk_48_14 ?_
  intro p e s m below meth c s₁ hx D hlk hret hml hZ hown hnm X0 e0
  replace hown : s.vm.findClass c11 = some m.cls := hown
  have N0 := Fr.nil n0
  rw [efMm1]
  obtain ⟨cl1, Ar1, hin1, hat1⟩ := Txt.at Tx (j := ((Int32.ofNat ns) + (0 : Int32))) (i := ns) (own_add0 _) (by omega)
  refine OFin.of (fun t ht => iC X0 hx rfl (D 0 rfl) (sW X0 hx rfl (D 1 rfl) rfl (l' := (la0 a0 (Int32.ofNat ns) a2 0 1 0)) rfl (iW X0 hx rfl (D 2 rfl) rfl (bP X0 hx rfl (D 3 rfl) (cY X0 hx rfl 7 70 rfl (D 4 rfl) rfl (flt (by decide : ¬ ((7 : Int32) < (1 : Int32)))).2.2.2 (by decide) (iW X0 hx rfl (D 5 rfl) rfl (iW X0 hx rfl (D 6 rfl) rfl (cN X0 hx rfl (D 7 rfl) rfl (tlt (by decide : (0 : Int32) < (1 : Int32))).2.1 (aN X0 hx rfl (D 8 rfl) rfl rfl (iN X0 hx rfl (D 9 rfl) rfl (iW X0 hx rfl (D 10 rfl) rfl (XS.iadd X0.here hx rfl (D 11 rfl) rfl (X0.baloadBytes hx (j := ((Int32.ofNat ns) + (0 : Int32))) (v := (.int (pre.getD ns 0))) (by rw [e0]; exact Ar1.1) (State.isArrayOf_alike hZ.alike Ar1.2.1) Ar1.2.2 hin1 hat1 (g := (mkF m 82 (la0 a0 (Int32.ofNat ns) a2 0 1 0) [(.int ((Int32.ofNat ns) + (0 : Int32))), (.ref a0)])) rfl rfl (D 12 rfl) _ ht))))))))))))) ?_
  obtain ⟨cl2, Ar2, q2, S2, Ng2, H2, G2⟩ := id Vn
  have hin2 := inb_of (j := (0 : Int32)) S2 ⟨by decide, by decide⟩
  have hat2 : cl2.slots[((0 : Int32)).toNatClampNeg]? = some (.int x0) := Has.at H2 hin2 rfl
  refine OFin.of (fun t ht => aN X0 hx rfl (D 13 rfl) rfl rfl (iN X0 hx rfl (D 14 rfl) rfl (iW X0 hx rfl (D 15 rfl) rfl (XS.iadd X0.here hx rfl (D 16 rfl) rfl (X0.baloadBytes hx (j := (0 : Int32)) (v := (.int x0)) (by rw [e0]; exact Ar2.1) (State.isArrayOf_alike hZ.alike Ar2.2.1) Ar2.2.2 hin2 hat2 (g := (mkF m 88 (la0 a0 (Int32.ofNat ns) a2 0 1 0) [(.int (0 : Int32)), (.ref a2), (.int (pre.getD ns 0))])) rfl rfl (D 17 rfl) _ ht))))) ?_
  refine OFin.of (S' := s₁.setTop (mkF m 102 (la0 a0 (Int32.ofNat ns) a2 0 1 1) [(.int (-1 : Int32))])) (fun t ht => cY X0 hx rfl 89 95 rfl (D 18 rfl) rfl (teq (hv0 : (pre.getD ns 0) = x0)).1 (by decide) (iI X0 hx rfl (D 19 rfl) rfl (l' := (la0 a0 (Int32.ofNat ns) a2 0 1 1)) rfl (gO X0 hx rfl 98 70 rfl (D 20 rfl) (by decide) (iW X0 hx rfl (D 5 rfl) rfl (iW X0 hx rfl (D 6 rfl) rfl (cY X0 hx rfl 74 101 rfl (D 7 rfl) rfl (flt (by decide : ¬ ((1 : Int32) < (1 : Int32)))).2.1 (by decide) (iC X0 hx rfl (D 21 rfl) ht))))))) ?_
  exact OFin.retI X0 hx hlk hret (D 22 rfl) (by decide) (by decide) (by rw [e0]; exact ⟨rfl, N0, rfl⟩)
theorem efAq1 {m : MethodId} {a0 a3 : Addr} {ns : Nat} : entryFrame m #[(.ref a0), (.int (Int32.ofNat ns)), (.int (Int32.ofNat (ns + 1))), (.ref a3), (.int (0 : Int32)), (.int (1 : Int32))] 8 = mkF m 0 (la1 a0 (Int32.ofNat ns) (Int32.ofNat (ns + 1)) a3 0 1) [] := by first | (simp [entryFrame, mkF, argsToLocals, Value.category]; done) | rfl
def QAq1 (Z : State) (a0 a3 : Addr) (kt : ClassId) (nt : Int32) (pre : List Int32) (ns : Nat) (kn : ClassId) (x0 : Int32) (h0 : Heap) (n0 : Nat) (v : Option Value) (h : Heap) (L : List Loc) : Prop := v = some (.int (1 : Int32)) ∧ Fr n0 L ∧ h = h0
theorem rmAq1 (l : Launch) (Z : State) (a0 : Array Value) (hw : HW a0 Z) (ws : List Jvm.Cond) (a0 a3 : Addr) (kt : ClassId) (nt : Int32) (pre : List Int32) (ns : Nat) (kn : ClassId) (x0 : Int32) (h0 : Heap) (n0 : Nat) (Z0 : n0 ≤ h0.size) (Tx : Txt Z h0 a0 kt nt pre) (Vn : Arv Z h0 a3 kn .byte (1 : Int32) [(.int x0)] (.int (0 : Int32))) (hnl : ns + 1 ≤ pre.length) (hv0 : pre.getD (ns) 0 = x0) :
    Con l mn23 (Jvm.Cond.code mn23 jdk_65_method_90_code 8 (some .boolean)) ws (⟨1, 0, 0, 19⟩ : Jvm.Room) #[(.ref a0), (.int (Int32.ofNat ns)), (.int (Int32.ofNat (ns + 1))), (.ref a3), (.int (0 : Int32)), (.int (1 : Int32))] Z h0 (QAq1 Z a0 a3 kt nt pre ns kn x0 h0 n0) := by
  refine own_of (plainFor_of_name pn_4) hisR dl_jdk_65_90 ?_
  intro p e s m below meth c s₁ hx D hlk hret hml hZ hown hnm X0 e0
  replace hown : s.vm.findClass cH = some m.cls := hown
  have N0 := Fr.nil n0
  rw [efAq1]
  obtain ⟨bs1, ⟨cl1, Ar1, q1, S1, Ng1, H1, G1⟩, -⟩ := id Tx
  refine OFin.of (fun t ht => aN X0 hx rfl (D 0 rfl) rfl rfl (own_alen X0 hx hZ e0 Ar1 S1 Ng1 (g := (mkF m 1 (la1 a0 (Int32.ofNat ns) (Int32.ofNat (ns + 1)) a3 0 1) [(.ref a0)])) rfl rfl (D 1 rfl) ht)) ?_
  obtain ⟨_, T2, Lc2, X2, hQ2, st2⟩ := own_cS X0 hx hw hZ hown 166 167 164 168 rfl rfl rfl rfl (by decide) (rmRck l Z _ hw [] nt (Int32.ofNat ns) (Int32.ofNat (ns + 1)) h0 n0 Z0 (own_rc1 Tx hnl) (own_nn31 Tx (by omega)) (own_rc3 Tx hnl)) (by decide) (by decide) (g := (mkF m 4 (la1 a0 (Int32.ofNat ns) (Int32.ofNat (ns + 1)) a3 0 1) [(.int (Int32.ofNat (ns + 1))), (.int (Int32.ofNat ns)), (.int nt)])) rfl hml rfl (argsL := [(.int nt), (.int (Int32.ofNat ns)), (.int (Int32.ofNat (ns + 1)))]) (rest := []) pd_13 rfl rfl rfl (W := 0) (Nat.le_of_eq rfl) (D 4 rfl) rfl e0 (by decide) (by decide)
  obtain ⟨rfl, Nq2, hs2⟩ := hQ2
  have N3 := Fr.app N0 Nq2
  refine OFin.of (fun t ht => iN X0 hx rfl (D 2 rfl) rfl (iN X0 hx rfl (D 3 rfl) rfl (st2.trans ht))) ?_
  obtain ⟨cl4, Ar4, q4, S4, Ng4, H4, G4⟩ := id Vn
  refine OFin.of (fun t ht => aN X2 hx rfl (D 5 rfl) rfl rfl (own_alen X2 hx hZ hs2 Ar4 S4 Ng4 (g := (mkF m 8 (la1 a0 (Int32.ofNat ns) (Int32.ofNat (ns + 1)) a3 0 1) [(.ref a3)])) rfl rfl (D 6 rfl) ht)) ?_
  obtain ⟨_, T5, Lc5, X5, hQ5, st5⟩ := own_cS X2 hx hw hZ hown 166 167 164 168 rfl rfl rfl rfl (by decide) (rmRck l Z _ hw [] (1 : Int32) (0 : Int32) (1 : Int32) h0 n0 Z0 (by decide) (by decide) (by decide)) (by decide) (by decide) (g := (mkF m 13 (la1 a0 (Int32.ofNat ns) (Int32.ofNat (ns + 1)) a3 0 1) [(.int (1 : Int32)), (.int (0 : Int32)), (.int (1 : Int32))])) rfl hml rfl (argsL := [(.int (1 : Int32)), (.int (0 : Int32)), (.int (1 : Int32))]) (rest := []) pd_13 rfl rfl rfl (W := 0) (Nat.le_of_eq rfl) (D 9 rfl) rfl hs2 (by decide) (by decide)
  obtain ⟨rfl, Nq5, hs5⟩ := hQ5
  have N6 := Fr.app N3 Nq5
  refine OFin.of (fun t ht => iW X2 hx rfl (D 7 rfl) rfl (iW X2 hx rfl (D 8 rfl) rfl (st5.trans ht))) ?_
  refine OFin.of (S' := T5.setTop (mkF m 19 (la1 a0 (Int32.ofNat ns) (Int32.ofNat (ns + 1)) a3 0 1) [(.int ((Int32.ofNat (ns + 1)) - (Int32.ofNat ns)))])) (fun t ht => iN X5 hx rfl (D 10 rfl) rfl (iN X5 hx rfl (D 11 rfl) rfl (XS.isub X5.here hx rfl (D 12 rfl) rfl ht))) ?_
  rw [own_subn ns 1]
  rw [show Int32.ofNat 1 = (1 : Int32) from rfl]
  obtain ⟨_, T7, Lc7, X7, hQ7, st7⟩ := own_cS X5 hx hw hZ hown 169 170 171 172 rfl rfl rfl rfl (by decide) (rmMm1 l Z _ hw [] a0 a3 kt nt pre ns kn x0 h0 n0 Z0 Tx Vn hnl hv0) (by decide) (by decide) (g := (mkF m 44 (la3 a0 (Int32.ofNat ns) (Int32.ofNat (ns + 1)) a3 0 1 1 1) [(.int (1 : Int32)), (.int (0 : Int32)), (.ref a3), (.int (Int32.ofNat ns)), (.ref a0)])) rfl hml rfl (argsL := [(.ref a0), (.int (Int32.ofNat ns)), (.ref a3), (.int (0 : Int32)), (.int (1 : Int32))]) (rest := []) pd_14 rfl rfl rfl (W := 0) (Nat.le_of_eq rfl) (D 26 rfl) rfl hs5 (by decide) (by decide)
  obtain ⟨rfl, Nq7, hs7⟩ := hQ7
  have N8 := Fr.app N6 Nq7
  refine OFin.of (fun t ht => sW X5 hx rfl (D 13 rfl) rfl (l' := (la2 a0 (Int32.ofNat ns) (Int32.ofNat (ns + 1)) a3 0 1 1)) rfl (iW X5 hx rfl (D 14 rfl) rfl (iW X5 hx rfl (D 15 rfl) rfl (XS.isub X5.here hx rfl (D 16 rfl) rfl (sW X5 hx rfl (D 17 rfl) rfl (l' := (la3 a0 (Int32.ofNat ns) (Int32.ofNat (ns + 1)) a3 0 1 1 1)) rfl (iW X5 hx rfl (D 18 rfl) rfl (iW X5 hx rfl (D 19 rfl) rfl (cY X5 hx rfl 32 37 rfl (D 20 rfl) rfl (teq (by decide : (1 : Int32) = (1 : Int32))).1 (by decide) (aN X5 hx rfl (D 21 rfl) rfl rfl (iN X5 hx rfl (D 22 rfl) rfl (aN X5 hx rfl (D 23 rfl) rfl rfl (iW X5 hx rfl (D 24 rfl) rfl (iW X5 hx rfl (D 25 rfl) rfl (st7.trans ht)))))))))))))) ?_
  refine OFin.of (S' := T7.setTop (mkF m 55 (la3 a0 (Int32.ofNat ns) (Int32.ofNat (ns + 1)) a3 0 1 1 1) [(.int (1 : Int32))])) (fun t ht => fN X7 hx rfl (D 27 rfl) rfl ((if0 _ _).trans (tlt (by decide : (-1 : Int32) < (0 : Int32))).2.1) (iC X7 hx rfl (D 28 rfl) (gO X7 hx rfl 51 55 rfl (D 29 rfl) (by decide) ht))) ?_
  exact OFin.retB X7 hx hlk (t := .boolean) (by simp) hret (D 30 rfl) (by decide) (by decide) (by rw [hs7]; exact ⟨(by show some (Value.int (nar .boolean (1 : Int32))) = _; rfl), N8, rfl⟩)
theorem efNm1 {m : MethodId} {a0 a1 : Addr} : entryFrame m #[(.ref a0), (.ref a1)] 2 = mkF m 0 #[.val (.ref a0), .val (.ref a1)] [] := by first | (simp [entryFrame, mkF, argsToLocals, Value.category]; done) | rfl
def QNm1 (Z : State) (a0 a1 tx : Addr) (kt : ClassId) (nt : Int32) (pre : List Int32) (ns : Nat) (kn : ClassId) (x0 : Int32) (h0 : Heap) (n0 : Nat) (v : Option Value) (h : Heap) (L : List Loc) : Prop := v = some (.int (1 : Int32)) ∧ Fr n0 L ∧ h = h0
theorem rmNm1 (l : Launch) (Z : State) (a0 : Array Value) (hw : HW a0 Z) (ws : List Jvm.Cond) (a0 a1 tx : Addr) (kt : ClassId) (nt : Int32) (pre : List Int32) (ns : Nat) (kn : ClassId) (x0 : Int32) (h0 : Heap) (n0 : Nat) (Z0 : n0 ≤ h0.size) (Ft : Fld Z h0 a0 cA "text" "[B" (.ref tx)) (Fns : Fld Z h0 a0 cA "nameStart" "I" (.int (Int32.ofNat ns))) (Fne : Fld Z h0 a0 cA "nameEnd" "I" (.int (Int32.ofNat (ns + 1)))) (Tx : Txt Z h0 tx kt nt pre) (Vn : Arv Z h0 a1 kn .byte (1 : Int32) [(.int x0)] (.int (0 : Int32))) (hnl : ns + 1 ≤ pre.length) (hv0 : pre.getD (ns) 0 = x0) :
    Con l mn24 (Jvm.Cond.code mn24 prog_7_method_10_code 2 (some .boolean)) ws (⟨2, 0, 0, 38⟩ : Jvm.Room) #[(.ref a0), (.ref a1)] Z h0 (QNm1 Z a0 a1 tx kt nt pre ns kn x0 h0 n0) := by
  refine own_of (plainFor_of_name pn_0) hisR dl_prog_7_10 ?_
  intro p e s m below meth c s₁ hx D hlk hret hml hZ hown hnm X0 e0
  replace hown : s.vm.findClass cA = some m.cls := hown
  have N0 := Fr.nil n0
  rw [efNm1]
  obtain ⟨T1, X1, e1, st1⟩ := getF X0 hx hZ hown (host := "") (Or.inl (wt hw 27 rfl)) Via.refl e0 Ft (g := (mkF m 1 #[.val (.ref a0), .val (.ref a1)] [(.ref a0)])) rfl rfl (D 1 rfl)
  refine OFin.of (fun t ht => aN X0 hx rfl (D 0 rfl) rfl rfl (st1 t ht)) ?_
  obtain ⟨T2, X2, e2, st2⟩ := getF X1 hx hZ hown (host := "") (Or.inl (wt hw 65 rfl)) Via.refl e1 Fns (g := (mkF m 5 #[.val (.ref a0), .val (.ref a1)] [(.ref a0), (.ref tx)])) rfl rfl (D 3 rfl)
  refine OFin.of (fun t ht => aN X1 hx rfl (D 2 rfl) rfl rfl (st2 t ht)) ?_
  obtain ⟨T3, X3, e3, st3⟩ := getF X2 hx hZ hown (host := "") (Or.inl (wt hw 67 rfl)) Via.refl e2 Fne (g := (mkF m 9 #[.val (.ref a0), .val (.ref a1)] [(.ref a0), (.int (Int32.ofNat ns)), (.ref tx)])) rfl rfl (D 5 rfl)
  refine OFin.of (fun t ht => aN X2 hx rfl (D 4 rfl) rfl rfl (st3 t ht)) ?_
  obtain ⟨cl4, Ar4, q4, S4, Ng4, H4, G4⟩ := id Vn
  refine OFin.of (fun t ht => aN X3 hx rfl (D 6 rfl) rfl rfl (iC X3 hx rfl (D 7 rfl) (aN X3 hx rfl (D 8 rfl) rfl rfl (own_alen X3 hx hZ e3 Ar4 S4 Ng4 (g := (mkF m 15 #[.val (.ref a0), .val (.ref a1)] [(.ref a1), (.int (0 : Int32)), (.ref a1), (.int (Int32.ofNat (ns + 1))), (.int (Int32.ofNat ns)), (.ref tx)])) rfl rfl (D 9 rfl) ht)))) ?_
  obtain ⟨_, T5, Lc5, X5, hQ5, st5⟩ := own_cS X3 hx hw hZ hown 162 163 164 165 rfl rfl rfl rfl (by decide) (rmAq1 l Z _ hw [] tx a1 kt nt pre ns kn x0 h0 n0 Z0 Tx Vn hnl hv0) (by decide) (by decide) (g := (mkF m 16 #[.val (.ref a0), .val (.ref a1)] [(.int (1 : Int32)), (.int (0 : Int32)), (.ref a1), (.int (Int32.ofNat (ns + 1))), (.int (Int32.ofNat ns)), (.ref tx)])) rfl hml rfl (argsL := [(.ref tx), (.int (Int32.ofNat ns)), (.int (Int32.ofNat (ns + 1))), (.ref a1), (.int (0 : Int32)), (.int (1 : Int32))]) (rest := []) pd_15 rfl rfl rfl (W := 0) (Nat.le_of_eq rfl) (D 10 rfl) rfl e3 (by decide) (by decide)
  obtain ⟨rfl, Nq5, hs5⟩ := hQ5
  have N6 := Fr.app N0 Nq5
  refine OFin.to st5 ?_
  exact OFin.retB X5 hx hlk (t := .boolean) (by simp) hret (D 11 rfl) (by decide) (by decide) (by rw [hs5]; exact ⟨(by show some (Value.int (nar .boolean (1 : Int32))) = _; rfl), N6, rfl⟩)
theorem efMm2 {m : MethodId} {a0 a2 : Addr} {ns : Nat} : entryFrame m #[(.ref a0), (.int (Int32.ofNat ns)), (.ref a2), (.int (0 : Int32)), (.int (2 : Int32))] 8 = mkF m 0 #[.val (.ref a0), .val (.int (Int32.ofNat ns)), .val (.ref a2), .val (.int (0 : Int32)), .val (.int (2 : Int32)), .unset, .unset, .unset] [] := by first | (simp [entryFrame, mkF, argsToLocals, Value.category]; done) | rfl
def QMm2 (Z : State) (a0 a2 : Addr) (kt : ClassId) (nt : Int32) (pre : List Int32) (ns : Nat) (kn : ClassId) (x0 x1 : Int32) (h0 : Heap) (n0 : Nat) (v : Option Value) (h : Heap) (L : List Loc) : Prop := v = some (.int (-1 : Int32)) ∧ Fr n0 L ∧ h = h0
theorem rmMm2 (l : Launch) (Z : State) (a0 : Array Value) (hw : HW a0 Z) (ws : List Jvm.Cond) (a0 a2 : Addr) (kt : ClassId) (nt : Int32) (pre : List Int32) (ns : Nat) (kn : ClassId) (x0 x1 : Int32) (h0 : Heap) (n0 : Nat) (Z0 : n0 ≤ h0.size) (Tx : Txt Z h0 a0 kt nt pre) (Vn : Arv Z h0 a2 kn .byte (2 : Int32) [(.int x0), (.int x1)] (.int (0 : Int32))) (hnl : ns + 2 ≤ pre.length) (hv0 : pre.getD (ns) 0 = x0) (hv1 : pre.getD (ns + 1) 0 = x1) :
    Con l mn22 (Jvm.Cond.code mn22 jdk_48_method_14_code 8 (some .int)) ws (⟨0, 0, 0, 0⟩ : Jvm.Room) #[(.ref a0), (.int (Int32.ofNat ns)), (.ref a2), (.int (0 : Int32)), (.int (2 : Int32))] Z h0 (QMm2 Z a0 a2 kt nt pre ns kn x0 x1 h0 n0) := by
  refine own_of (plainFor_of_name pn_5) hisR dl_jdk_48_14 ?_
  intro p e s m below meth c s₁ hx D hlk hret hml hZ hown hnm X0 e0
  replace hown : s.vm.findClass c11 = some m.cls := hown
  have N0 := Fr.nil n0
  rw [efMm2]
  obtain ⟨cl1, Ar1, hin1, hat1⟩ := Txt.at Tx (j := ((Int32.ofNat ns) + (0 : Int32))) (i := ns) (own_add0 _) (by omega)
  refine OFin.of (fun t ht => iC X0 hx rfl (D 0 rfl) (sW X0 hx rfl (D 1 rfl) rfl (l' := (la0 a0 (Int32.ofNat ns) a2 0 2 0)) rfl (iW X0 hx rfl (D 2 rfl) rfl (bP X0 hx rfl (D 3 rfl) (cY X0 hx rfl 7 70 rfl (D 4 rfl) rfl (flt (by decide : ¬ ((7 : Int32) < (2 : Int32)))).2.2.2 (by decide) (iW X0 hx rfl (D 5 rfl) rfl (iW X0 hx rfl (D 6 rfl) rfl (cN X0 hx rfl (D 7 rfl) rfl (tlt (by decide : (0 : Int32) < (2 : Int32))).2.1 (aN X0 hx rfl (D 8 rfl) rfl rfl (iN X0 hx rfl (D 9 rfl) rfl (iW X0 hx rfl (D 10 rfl) rfl (XS.iadd X0.here hx rfl (D 11 rfl) rfl (X0.baloadBytes hx (j := ((Int32.ofNat ns) + (0 : Int32))) (v := (.int (pre.getD ns 0))) (by rw [e0]; exact Ar1.1) (State.isArrayOf_alike hZ.alike Ar1.2.1) Ar1.2.2 hin1 hat1 (g := (mkF m 82 (la0 a0 (Int32.ofNat ns) a2 0 2 0) [(.int ((Int32.ofNat ns) + (0 : Int32))), (.ref a0)])) rfl rfl (D 12 rfl) _ ht))))))))))))) ?_
  obtain ⟨cl2, Ar2, q2, S2, Ng2, H2, G2⟩ := id Vn
  have hin2 := inb_of (j := (0 : Int32)) S2 ⟨by decide, by decide⟩
  have hat2 : cl2.slots[((0 : Int32)).toNatClampNeg]? = some (.int x0) := Has.at H2 hin2 rfl
  refine OFin.of (fun t ht => aN X0 hx rfl (D 13 rfl) rfl rfl (iN X0 hx rfl (D 14 rfl) rfl (iW X0 hx rfl (D 15 rfl) rfl (XS.iadd X0.here hx rfl (D 16 rfl) rfl (X0.baloadBytes hx (j := (0 : Int32)) (v := (.int x0)) (by rw [e0]; exact Ar2.1) (State.isArrayOf_alike hZ.alike Ar2.2.1) Ar2.2.2 hin2 hat2 (g := (mkF m 88 (la0 a0 (Int32.ofNat ns) a2 0 2 0) [(.int (0 : Int32)), (.ref a2), (.int (pre.getD ns 0))])) rfl rfl (D 17 rfl) _ ht))))) ?_
  obtain ⟨cl3, Ar3, hin3, hat3⟩ := Txt.at Tx (j := ((Int32.ofNat ns) + (1 : Int32))) (i := (ns + 1)) (own_succ ns) (by omega)
  refine OFin.of (fun t ht => cY X0 hx rfl 89 95 rfl (D 18 rfl) rfl (teq (hv0 : (pre.getD ns 0) = x0)).1 (by decide) (iI X0 hx rfl (D 19 rfl) rfl (l' := (la0 a0 (Int32.ofNat ns) a2 0 2 1)) rfl (gO X0 hx rfl 98 70 rfl (D 20 rfl) (by decide) (iW X0 hx rfl (D 5 rfl) rfl (iW X0 hx rfl (D 6 rfl) rfl (cN X0 hx rfl (D 7 rfl) rfl (tlt (by decide : (1 : Int32) < (2 : Int32))).2.1 (aN X0 hx rfl (D 8 rfl) rfl rfl (iN X0 hx rfl (D 9 rfl) rfl (iW X0 hx rfl (D 10 rfl) rfl (XS.iadd X0.here hx rfl (D 11 rfl) rfl (X0.baloadBytes hx (j := ((Int32.ofNat ns) + (1 : Int32))) (v := (.int (pre.getD (ns + 1) 0))) (by rw [e0]; exact Ar3.1) (State.isArrayOf_alike hZ.alike Ar3.2.1) Ar3.2.2 hin3 hat3 (g := (mkF m 82 (la0 a0 (Int32.ofNat ns) a2 0 2 1) [(.int ((Int32.ofNat ns) + (1 : Int32))), (.ref a0)])) rfl rfl (D 12 rfl) _ ht))))))))))) ?_
  obtain ⟨cl4, Ar4, q4, S4, Ng4, H4, G4⟩ := id Vn
  have hin4 := inb_of (j := (1 : Int32)) S4 ⟨by decide, by decide⟩
  have hat4 : cl4.slots[((1 : Int32)).toNatClampNeg]? = some (.int x1) := Has.at H4 hin4 rfl
  refine OFin.of (fun t ht => aN X0 hx rfl (D 13 rfl) rfl rfl (iN X0 hx rfl (D 14 rfl) rfl (iW X0 hx rfl (D 15 rfl) rfl (XS.iadd X0.here hx rfl (D 16 rfl) rfl (X0.baloadBytes hx (j := (1 : Int32)) (v := (.int x1)) (by rw [e0]; exact Ar4.1) (State.isArrayOf_alike hZ.alike Ar4.2.1) Ar4.2.2 hin4 hat4 (g := (mkF m 88 (la0 a0 (Int32.ofNat ns) a2 0 2 1) [(.int (1 : Int32)), (.ref a2), (.int (pre.getD (ns + 1) 0))])) rfl rfl (D 17 rfl) _ ht))))) ?_
  refine OFin.of (S' := s₁.setTop (mkF m 102 (la0 a0 (Int32.ofNat ns) a2 0 2 2) [(.int (-1 : Int32))])) (fun t ht => cY X0 hx rfl 89 95 rfl (D 18 rfl) rfl (teq (hv1 : (pre.getD (ns + 1) 0) = x1)).1 (by decide) (iI X0 hx rfl (D 19 rfl) rfl (l' := (la0 a0 (Int32.ofNat ns) a2 0 2 2)) rfl (gO X0 hx rfl 98 70 rfl (D 20 rfl) (by decide) (iW X0 hx rfl (D 5 rfl) rfl (iW X0 hx rfl (D 6 rfl) rfl (cY X0 hx rfl 74 101 rfl (D 7 rfl) rfl (flt (by decide : ¬ ((2 : Int32) < (2 : Int32)))).2.1 (by decide) (iC X0 hx rfl (D 21 rfl) ht))))))) ?_
  exact OFin.retI X0 hx hlk hret (D 22 rfl) (by decide) (by decide) (by rw [e0]; exact ⟨rfl, N0, rfl⟩)
theorem efAq2 {m : MethodId} {a0 a3 : Addr} {ns : Nat} : entryFrame m #[(.ref a0), (.int (Int32.ofNat ns)), (.int (Int32.ofNat (ns + 2))), (.ref a3), (.int (0 : Int32)), (.int (2 : Int32))] 8 = mkF m 0 (la1 a0 (Int32.ofNat ns) (Int32.ofNat (ns + 2)) a3 0 2) [] := by first | (simp [entryFrame, mkF, argsToLocals, Value.category]; done) | rfl
def QAq2 (Z : State) (a0 a3 : Addr) (kt : ClassId) (nt : Int32) (pre : List Int32) (ns : Nat) (kn : ClassId) (x0 x1 : Int32) (h0 : Heap) (n0 : Nat) (v : Option Value) (h : Heap) (L : List Loc) : Prop := v = some (.int (1 : Int32)) ∧ Fr n0 L ∧ h = h0
theorem rmAq2 (l : Launch) (Z : State) (a0 : Array Value) (hw : HW a0 Z) (ws : List Jvm.Cond) (a0 a3 : Addr) (kt : ClassId) (nt : Int32) (pre : List Int32) (ns : Nat) (kn : ClassId) (x0 x1 : Int32) (h0 : Heap) (n0 : Nat) (Z0 : n0 ≤ h0.size) (Tx : Txt Z h0 a0 kt nt pre) (Vn : Arv Z h0 a3 kn .byte (2 : Int32) [(.int x0), (.int x1)] (.int (0 : Int32))) (hnl : ns + 2 ≤ pre.length) (hv0 : pre.getD (ns) 0 = x0) (hv1 : pre.getD (ns + 1) 0 = x1) :
    Con l mn23 (Jvm.Cond.code mn23 jdk_65_method_90_code 8 (some .boolean)) ws (⟨1, 0, 0, 19⟩ : Jvm.Room) #[(.ref a0), (.int (Int32.ofNat ns)), (.int (Int32.ofNat (ns + 2))), (.ref a3), (.int (0 : Int32)), (.int (2 : Int32))] Z h0 (QAq2 Z a0 a3 kt nt pre ns kn x0 x1 h0 n0) := by
  refine own_of (plainFor_of_name pn_4) hisR dl_jdk_65_90 ?_
  intro p e s m below meth c s₁ hx D hlk hret hml hZ hown hnm X0 e0
  replace hown : s.vm.findClass cH = some m.cls := hown
  have N0 := Fr.nil n0
  rw [efAq2]
  obtain ⟨bs1, ⟨cl1, Ar1, q1, S1, Ng1, H1, G1⟩, -⟩ := id Tx
  refine OFin.of (fun t ht => aN X0 hx rfl (D 0 rfl) rfl rfl (own_alen X0 hx hZ e0 Ar1 S1 Ng1 (g := (mkF m 1 (la1 a0 (Int32.ofNat ns) (Int32.ofNat (ns + 2)) a3 0 2) [(.ref a0)])) rfl rfl (D 1 rfl) ht)) ?_
  obtain ⟨_, T2, Lc2, X2, hQ2, st2⟩ := own_cS X0 hx hw hZ hown 166 167 164 168 rfl rfl rfl rfl (by decide) (rmRck l Z _ hw [] nt (Int32.ofNat ns) (Int32.ofNat (ns + 2)) h0 n0 Z0 (own_rc1 Tx hnl) (own_nn31 Tx (by omega)) (own_rc3 Tx hnl)) (by decide) (by decide) (g := (mkF m 4 (la1 a0 (Int32.ofNat ns) (Int32.ofNat (ns + 2)) a3 0 2) [(.int (Int32.ofNat (ns + 2))), (.int (Int32.ofNat ns)), (.int nt)])) rfl hml rfl (argsL := [(.int nt), (.int (Int32.ofNat ns)), (.int (Int32.ofNat (ns + 2)))]) (rest := []) pd_13 rfl rfl rfl (W := 0) (Nat.le_of_eq rfl) (D 4 rfl) rfl e0 (by decide) (by decide)
  obtain ⟨rfl, Nq2, hs2⟩ := hQ2
  have N3 := Fr.app N0 Nq2
  refine OFin.of (fun t ht => iN X0 hx rfl (D 2 rfl) rfl (iN X0 hx rfl (D 3 rfl) rfl (st2.trans ht))) ?_
  obtain ⟨cl4, Ar4, q4, S4, Ng4, H4, G4⟩ := id Vn
  refine OFin.of (fun t ht => aN X2 hx rfl (D 5 rfl) rfl rfl (own_alen X2 hx hZ hs2 Ar4 S4 Ng4 (g := (mkF m 8 (la1 a0 (Int32.ofNat ns) (Int32.ofNat (ns + 2)) a3 0 2) [(.ref a3)])) rfl rfl (D 6 rfl) ht)) ?_
  obtain ⟨_, T5, Lc5, X5, hQ5, st5⟩ := own_cS X2 hx hw hZ hown 166 167 164 168 rfl rfl rfl rfl (by decide) (rmRck l Z _ hw [] (2 : Int32) (0 : Int32) (2 : Int32) h0 n0 Z0 (by decide) (by decide) (by decide)) (by decide) (by decide) (g := (mkF m 13 (la1 a0 (Int32.ofNat ns) (Int32.ofNat (ns + 2)) a3 0 2) [(.int (2 : Int32)), (.int (0 : Int32)), (.int (2 : Int32))])) rfl hml rfl (argsL := [(.int (2 : Int32)), (.int (0 : Int32)), (.int (2 : Int32))]) (rest := []) pd_13 rfl rfl rfl (W := 0) (Nat.le_of_eq rfl) (D 9 rfl) rfl hs2 (by decide) (by decide)
  obtain ⟨rfl, Nq5, hs5⟩ := hQ5
  have N6 := Fr.app N3 Nq5
  refine OFin.of (fun t ht => iW X2 hx rfl (D 7 rfl) rfl (iW X2 hx rfl (D 8 rfl) rfl (st5.trans ht))) ?_
  refine OFin.of (S' := T5.setTop (mkF m 19 (la1 a0 (Int32.ofNat ns) (Int32.ofNat (ns + 2)) a3 0 2) [(.int ((Int32.ofNat (ns + 2)) - (Int32.ofNat ns)))])) (fun t ht => iN X5 hx rfl (D 10 rfl) rfl (iN X5 hx rfl (D 11 rfl) rfl (XS.isub X5.here hx rfl (D 12 rfl) rfl ht))) ?_
  rw [own_subn ns 2]
  rw [show Int32.ofNat 2 = (2 : Int32) from rfl]
  obtain ⟨_, T7, Lc7, X7, hQ7, st7⟩ := own_cS X5 hx hw hZ hown 169 170 171 172 rfl rfl rfl rfl (by decide) (rmMm2 l Z _ hw [] a0 a3 kt nt pre ns kn x0 x1 h0 n0 Z0 Tx Vn hnl hv0 hv1) (by decide) (by decide) (g := (mkF m 44 (la3 a0 (Int32.ofNat ns) (Int32.ofNat (ns + 2)) a3 0 2 2 2) [(.int (2 : Int32)), (.int (0 : Int32)), (.ref a3), (.int (Int32.ofNat ns)), (.ref a0)])) rfl hml rfl (argsL := [(.ref a0), (.int (Int32.ofNat ns)), (.ref a3), (.int (0 : Int32)), (.int (2 : Int32))]) (rest := []) pd_14 rfl rfl rfl (W := 0) (Nat.le_of_eq rfl) (D 26 rfl) rfl hs5 (by decide) (by decide)
  obtain ⟨rfl, Nq7, hs7⟩ := hQ7
  have N8 := Fr.app N6 Nq7
  refine OFin.of (fun t ht => sW X5 hx rfl (D 13 rfl) rfl (l' := (la2 a0 (Int32.ofNat ns) (Int32.ofNat (ns + 2)) a3 0 2 2)) rfl (iW X5 hx rfl (D 14 rfl) rfl (iW X5 hx rfl (D 15 rfl) rfl (XS.isub X5.here hx rfl (D 16 rfl) rfl (sW X5 hx rfl (D 17 rfl) rfl (l' := (la3 a0 (Int32.ofNat ns) (Int32.ofNat (ns + 2)) a3 0 2 2 2)) rfl (iW X5 hx rfl (D 18 rfl) rfl (iW X5 hx rfl (D 19 rfl) rfl (cY X5 hx rfl 32 37 rfl (D 20 rfl) rfl (teq (by decide : (2 : Int32) = (2 : Int32))).1 (by decide) (aN X5 hx rfl (D 21 rfl) rfl rfl (iN X5 hx rfl (D 22 rfl) rfl (aN X5 hx rfl (D 23 rfl) rfl rfl (iW X5 hx rfl (D 24 rfl) rfl (iW X5 hx rfl (D 25 rfl) rfl (st7.trans ht)))))))))))))) ?_
  refine OFin.of (S' := T7.setTop (mkF m 55 (la3 a0 (Int32.ofNat ns) (Int32.ofNat (ns + 2)) a3 0 2 2 2) [(.int (1 : Int32))])) (fun t ht => fN X7 hx rfl (D 27 rfl) rfl ((if0 _ _).trans (tlt (by decide : (-1 : Int32) < (0 : Int32))).2.1) (iC X7 hx rfl (D 28 rfl) (gO X7 hx rfl 51 55 rfl (D 29 rfl) (by decide) ht))) ?_
  exact OFin.retB X7 hx hlk (t := .boolean) (by simp) hret (D 30 rfl) (by decide) (by decide) (by rw [hs7]; exact ⟨(by show some (Value.int (nar .boolean (1 : Int32))) = _; rfl), N8, rfl⟩)
theorem efNm2 {m : MethodId} {a0 a1 : Addr} : entryFrame m #[(.ref a0), (.ref a1)] 2 = mkF m 0 #[.val (.ref a0), .val (.ref a1)] [] := by first | (simp [entryFrame, mkF, argsToLocals, Value.category]; done) | rfl
def QNm2 (Z : State) (a0 a1 tx : Addr) (kt : ClassId) (nt : Int32) (pre : List Int32) (ns : Nat) (kn : ClassId) (x0 x1 : Int32) (h0 : Heap) (n0 : Nat) (v : Option Value) (h : Heap) (L : List Loc) : Prop := v = some (.int (1 : Int32)) ∧ Fr n0 L ∧ h = h0
theorem rmNm2 (l : Launch) (Z : State) (a0 : Array Value) (hw : HW a0 Z) (ws : List Jvm.Cond) (a0 a1 tx : Addr) (kt : ClassId) (nt : Int32) (pre : List Int32) (ns : Nat) (kn : ClassId) (x0 x1 : Int32) (h0 : Heap) (n0 : Nat) (Z0 : n0 ≤ h0.size) (Ft : Fld Z h0 a0 cA "text" "[B" (.ref tx)) (Fns : Fld Z h0 a0 cA "nameStart" "I" (.int (Int32.ofNat ns))) (Fne : Fld Z h0 a0 cA "nameEnd" "I" (.int (Int32.ofNat (ns + 2)))) (Tx : Txt Z h0 tx kt nt pre) (Vn : Arv Z h0 a1 kn .byte (2 : Int32) [(.int x0), (.int x1)] (.int (0 : Int32))) (hnl : ns + 2 ≤ pre.length) (hv0 : pre.getD (ns) 0 = x0) (hv1 : pre.getD (ns + 1) 0 = x1) :
    Con l mn24 (Jvm.Cond.code mn24 prog_7_method_10_code 2 (some .boolean)) ws (⟨2, 0, 0, 38⟩ : Jvm.Room) #[(.ref a0), (.ref a1)] Z h0 (QNm2 Z a0 a1 tx kt nt pre ns kn x0 x1 h0 n0) := by
  refine own_of (plainFor_of_name pn_0) hisR dl_prog_7_10 ?_
  intro p e s m below meth c s₁ hx D hlk hret hml hZ hown hnm X0 e0
  replace hown : s.vm.findClass cA = some m.cls := hown
  have N0 := Fr.nil n0
  rw [efNm2]
  obtain ⟨T1, X1, e1, st1⟩ := getF X0 hx hZ hown (host := "") (Or.inl (wt hw 27 rfl)) Via.refl e0 Ft (g := (mkF m 1 #[.val (.ref a0), .val (.ref a1)] [(.ref a0)])) rfl rfl (D 1 rfl)
  refine OFin.of (fun t ht => aN X0 hx rfl (D 0 rfl) rfl rfl (st1 t ht)) ?_
  obtain ⟨T2, X2, e2, st2⟩ := getF X1 hx hZ hown (host := "") (Or.inl (wt hw 65 rfl)) Via.refl e1 Fns (g := (mkF m 5 #[.val (.ref a0), .val (.ref a1)] [(.ref a0), (.ref tx)])) rfl rfl (D 3 rfl)
  refine OFin.of (fun t ht => aN X1 hx rfl (D 2 rfl) rfl rfl (st2 t ht)) ?_
  obtain ⟨T3, X3, e3, st3⟩ := getF X2 hx hZ hown (host := "") (Or.inl (wt hw 67 rfl)) Via.refl e2 Fne (g := (mkF m 9 #[.val (.ref a0), .val (.ref a1)] [(.ref a0), (.int (Int32.ofNat ns)), (.ref tx)])) rfl rfl (D 5 rfl)
  refine OFin.of (fun t ht => aN X2 hx rfl (D 4 rfl) rfl rfl (st3 t ht)) ?_
  obtain ⟨cl4, Ar4, q4, S4, Ng4, H4, G4⟩ := id Vn
  refine OFin.of (fun t ht => aN X3 hx rfl (D 6 rfl) rfl rfl (iC X3 hx rfl (D 7 rfl) (aN X3 hx rfl (D 8 rfl) rfl rfl (own_alen X3 hx hZ e3 Ar4 S4 Ng4 (g := (mkF m 15 #[.val (.ref a0), .val (.ref a1)] [(.ref a1), (.int (0 : Int32)), (.ref a1), (.int (Int32.ofNat (ns + 2))), (.int (Int32.ofNat ns)), (.ref tx)])) rfl rfl (D 9 rfl) ht)))) ?_
  obtain ⟨_, T5, Lc5, X5, hQ5, st5⟩ := own_cS X3 hx hw hZ hown 162 163 164 165 rfl rfl rfl rfl (by decide) (rmAq2 l Z _ hw [] tx a1 kt nt pre ns kn x0 x1 h0 n0 Z0 Tx Vn hnl hv0 hv1) (by decide) (by decide) (g := (mkF m 16 #[.val (.ref a0), .val (.ref a1)] [(.int (2 : Int32)), (.int (0 : Int32)), (.ref a1), (.int (Int32.ofNat (ns + 2))), (.int (Int32.ofNat ns)), (.ref tx)])) rfl hml rfl (argsL := [(.ref tx), (.int (Int32.ofNat ns)), (.int (Int32.ofNat (ns + 2))), (.ref a1), (.int (0 : Int32)), (.int (2 : Int32))]) (rest := []) pd_15 rfl rfl rfl (W := 0) (Nat.le_of_eq rfl) (D 10 rfl) rfl e3 (by decide) (by decide)
  obtain ⟨rfl, Nq5, hs5⟩ := hQ5
  have N6 := Fr.app N0 Nq5
  refine OFin.to st5 ?_
  exact OFin.retB X5 hx hlk (t := .boolean) (by simp) hret (D 11 rfl) (by decide) (by decide) (by rw [hs5]; exact ⟨(by show some (Value.int (nar .boolean (1 : Int32))) = _; rfl), N6, rfl⟩)
theorem pn_6 : plainName cC = true := by first | (simp [plainName, overriddenIn]; done) | decide +kernel
theorem efCnt {m : MethodId} {p0 : Int32} : entryFrame m #[(.int p0)] 1 = mkF m 0 #[.val (.int p0)] [] := by first | (simp [entryFrame, mkF, argsToLocals, Value.category]; done) | rfl
def QCnt (Z : State) (p0 : Int32) (h0 : Heap) (n0 : Nat) (v : Option Value) (h : Heap) (L : List Loc) : Prop := v = some (.int (own_count p0)) ∧ Fr n0 L ∧ h = h0
theorem rmCnt (l : Launch) (Z : State) (a0 : Array Value) (hw : HW a0 Z) (ws : List Jvm.Cond) (p0 : Int32) (h0 : Heap) (n0 : Nat) (Z0 : n0 ≤ h0.size)  :
    Con l mn25 (Jvm.Cond.code mn25 method_3_code 1 (some .int)) ws (⟨0, 0, 0, 0⟩ : Jvm.Room) #[(.int p0)] Z h0 (QCnt Z p0 h0 n0) := by
  refine own_of (plainFor_of_name pn_6) hisR dl_method_3 ?_
  intro p e s m below meth c s₁ hx D hlk hret hml hZ hown hnm X0 e0
  replace hown : s.vm.findClass cC = some m.cls := hown
  have N0 := Fr.nil n0
  rw [efCnt]
  refine OFin.of (S' := s₁.setTop (mkF m 9 #[.val (.int p0)] [(.int ((p0 &&& (1 : Int32)) + (((p0.toUInt32 >>> ((1 : Int32) &&& 31).toUInt32).toInt32) &&& (1 : Int32))))])) (fun t ht => iN X0 hx rfl (D 0 rfl) rfl (iC X0 hx rfl (D 1 rfl) (XS.iand X0.here hx rfl (D 2 rfl) rfl (iN X0 hx rfl (D 3 rfl) rfl (iC X0 hx rfl (D 4 rfl) (XS.iushr X0.here hx rfl (D 5 rfl) rfl (iC X0 hx rfl (D 6 rfl) (XS.iand X0.here hx rfl (D 7 rfl) rfl (XS.iadd X0.here hx rfl (D 8 rfl) rfl ht))))))))) ?_
  exact OFin.retI X0 hx hlk hret (D 9 rfl) (by decide) (by decide) (by rw [e0]; exact ⟨(by show some (Value.int ((p0 &&& (1 : Int32)) + (((p0.toUInt32 >>> ((1 : Int32) &&& 31).toUInt32).toInt32) &&& (1 : Int32)))) = _; simp [own_count]), N0, rfl⟩)
theorem efSpc {m : MethodId} {p0 : Int32} : entryFrame m #[(.int p0)] 2 = mkF m 0 #[.val (.int p0), .unset] [] := by first | (simp [entryFrame, mkF, argsToLocals, Value.category]; done) | rfl
def QSpc (Z : State) (p0 : Int32) (h0 : Heap) (n0 : Nat) (v : Option Value) (h : Heap) (L : List Loc) : Prop := v = some (.int (own_space p0)) ∧ Fr n0 L ∧ h = h0
theorem rmSpc (l : Launch) (Z : State) (a0 : Array Value) (hw : HW a0 Z) (ws : List Jvm.Cond) (p0 : Int32) (h0 : Heap) (n0 : Nat) (Z0 : n0 ≤ h0.size)  :
    Con l mn26 (Jvm.Cond.code mn26 method_2_code 2 (some .byte)) ws (⟨0, 0, 0, 0⟩ : Jvm.Room) #[(.int p0)] Z h0 (QSpc Z p0 h0 n0) := by
  refine own_of (plainFor_of_name pn_6) hisR dl_method_2 ?_
  intro p e s m below meth c s₁ hx D hlk hret hml hZ hown hnm X0 e0
  replace hown : s.vm.findClass cC = some m.cls := hown
  have N0 := Fr.nil n0
  rw [efSpc]
  refine OFin.of (S' := s₁.setTop (mkF m 5 #[.val (.int p0), .val (.int (p0 &&& (3 : Int32)))] [(.int (p0 &&& (3 : Int32)))])) (fun t ht => iN X0 hx rfl (D 0 rfl) rfl (iC X0 hx rfl (D 1 rfl) (XS.iand X0.here hx rfl (D 2 rfl) rfl (XS.istoreN X0.here hx rfl (D 3 rfl) rfl (l' := #[.val (.int p0), .val (.int (p0 &&& (3 : Int32)))]) rfl (iN X0 hx rfl (D 4 rfl) rfl ht))))) ?_
  by_cases hc1 : (p0 &&& (3 : Int32)) = (0 : Int32)
  · refine OFin.of (S' := s₁.setTop (mkF m 10 #[.val (.int p0), .val (.int (p0 &&& (3 : Int32)))] [(.int (32 : Int32))])) (fun t ht => fN X0 hx rfl (D 5 rfl) rfl ((if0 _ _).trans (teq hc1).2) (bP X0 hx rfl (D 6 rfl) ht)) ?_
    exact OFin.retB X0 hx hlk (t := .byte) (by simp) hret (D 7 rfl) (by decide) (by decide) (by rw [e0]; exact ⟨(by show some (Value.int (32 : Int32)) = _; simp [own_space, hc1]), N0, rfl⟩)
  · refine OFin.of (S' := s₁.setTop (mkF m 13 #[.val (.int p0), .val (.int (p0 &&& (3 : Int32)))] [(.int (1 : Int32)), (.int (p0 &&& (3 : Int32)))])) (fun t ht => fY X0 hx rfl 5 11 rfl (D 5 rfl) rfl ((if0 _ _).trans (feq hc1).2) (by decide) (iN X0 hx rfl (D 8 rfl) rfl (iC X0 hx rfl (D 9 rfl) ht))) ?_
    by_cases hc2 : (p0 &&& (3 : Int32)) = (1 : Int32)
    · refine OFin.of (S' := s₁.setTop (mkF m 18 #[.val (.int p0), .val (.int (p0 &&& (3 : Int32)))] [(.int (9 : Int32))])) (fun t ht => cN X0 hx rfl (D 10 rfl) rfl (teq hc2).2 (bP X0 hx rfl (D 11 rfl) ht)) ?_
      exact OFin.retB X0 hx hlk (t := .byte) (by simp) hret (D 12 rfl) (by decide) (by decide) (by rw [e0]; exact ⟨(by show some (Value.int (9 : Int32)) = _; simp [own_space, hc1, hc2]), N0, rfl⟩)
    · refine OFin.of (S' := s₁.setTop (mkF m 21 #[.val (.int p0), .val (.int (p0 &&& (3 : Int32)))] [(.int (2 : Int32)), (.int (p0 &&& (3 : Int32)))])) (fun t ht => cY X0 hx rfl 13 19 rfl (D 10 rfl) rfl (feq hc2).2 (by decide) (iN X0 hx rfl (D 13 rfl) rfl (iC X0 hx rfl (D 14 rfl) ht))) ?_
      by_cases hc3 : (p0 &&& (3 : Int32)) = (2 : Int32)
      · refine OFin.of (S' := s₁.setTop (mkF m 26 #[.val (.int p0), .val (.int (p0 &&& (3 : Int32)))] [(.int (10 : Int32))])) (fun t ht => cN X0 hx rfl (D 15 rfl) rfl (teq hc3).2 (bP X0 hx rfl (D 16 rfl) ht)) ?_
        exact OFin.retB X0 hx hlk (t := .byte) (by simp) hret (D 17 rfl) (by decide) (by decide) (by rw [e0]; exact ⟨(by show some (Value.int (10 : Int32)) = _; simp [own_space, hc1, hc2, hc3]), N0, rfl⟩)
      · refine OFin.of (S' := s₁.setTop (mkF m 29 #[.val (.int p0), .val (.int (p0 &&& (3 : Int32)))] [(.int (13 : Int32))])) (fun t ht => cY X0 hx rfl 21 27 rfl (D 15 rfl) rfl (feq hc3).2 (by decide) (bP X0 hx rfl (D 18 rfl) ht)) ?_
        exact OFin.retB X0 hx hlk (t := .byte) (by simp) hret (D 19 rfl) (by decide) (by decide) (by rw [e0]; exact ⟨(by show some (Value.int (13 : Int32)) = _; simp [own_space, hc1, hc2, hc3]), N0, rfl⟩)
theorem efStn {m : MethodId} {p0 : Int32} : entryFrame m #[(.int p0)] 1 = mkF m 0 #[.val (.int p0)] [] := by first | (simp [entryFrame, mkF, argsToLocals, Value.category]; done) | rfl
def QStn (Z : State) (p0 : Int32) (h0 : Heap) (n0 : Nat) (v : Option Value) (h : Heap) (L : List Loc) : Prop := v = some (.int (own_b (own_en p0))) ∧ Fr n0 L ∧ h = h0
theorem rmStn (l : Launch) (Z : State) (a0 : Array Value) (hw : HW a0 Z) (ws : List Jvm.Cond) (p0 : Int32) (h0 : Heap) (n0 : Nat) (Z0 : n0 ≤ h0.size)  :
    Con l mn27 (Jvm.Cond.code mn27 method_4_code 1 (some .boolean)) ws (⟨0, 0, 0, 0⟩ : Jvm.Room) #[(.int p0)] Z h0 (QStn Z p0 h0 n0) := by
  refine own_of (plainFor_of_name pn_6) hisR dl_method_4 ?_
  intro p e s m below meth c s₁ hx D hlk hret hml hZ hown hnm X0 e0
  replace hown : s.vm.findClass cC = some m.cls := hown
  have N0 := Fr.nil n0
  rw [efStn]
  refine OFin.of (S' := s₁.setTop (mkF m 3 #[.val (.int p0)] [(.int (32 : Int32)), (.int p0)])) (fun t ht => iN X0 hx rfl (D 0 rfl) rfl (bP X0 hx rfl (D 1 rfl) ht)) ?_
  by_cases hc1 : p0 = (32 : Int32)
  · refine OFin.of (S' := s₁.setTop (mkF m 47 #[.val (.int p0)] [(.int (1 : Int32))])) (fun t ht => cY X0 hx rfl 3 42 rfl (D 2 rfl) rfl (teq hc1).1 (by decide) (iC X0 hx rfl (D 3 rfl) (gO X0 hx rfl 43 47 rfl (D 4 rfl) (by decide) ht))) ?_
    exact OFin.retB X0 hx hlk (t := .boolean) (by simp) hret (D 5 rfl) (by decide) (by decide) (by rw [e0]; exact ⟨(by show some (Value.int (1 : Int32)) = _; simp [own_b, own_en, nar, hc1]), N0, rfl⟩)
  · refine OFin.of (S' := s₁.setTop (mkF m 9 #[.val (.int p0)] [(.int (9 : Int32)), (.int p0)])) (fun t ht => cN X0 hx rfl (D 2 rfl) rfl (feq hc1).1 (iN X0 hx rfl (D 6 rfl) rfl (bP X0 hx rfl (D 7 rfl) ht))) ?_
    by_cases hc2 : p0 = (9 : Int32)
    · refine OFin.of (S' := s₁.setTop (mkF m 47 #[.val (.int p0)] [(.int (1 : Int32))])) (fun t ht => cY X0 hx rfl 9 42 rfl (D 8 rfl) rfl (teq hc2).1 (by decide) (iC X0 hx rfl (D 3 rfl) (gO X0 hx rfl 43 47 rfl (D 4 rfl) (by decide) ht))) ?_
      exact OFin.retB X0 hx hlk (t := .boolean) (by simp) hret (D 5 rfl) (by decide) (by decide) (by rw [e0]; exact ⟨(by show some (Value.int (1 : Int32)) = _; simp [own_b, own_en, nar, hc1, hc2]), N0, rfl⟩)
    · refine OFin.of (S' := s₁.setTop (mkF m 15 #[.val (.int p0)] [(.int (10 : Int32)), (.int p0)])) (fun t ht => cN X0 hx rfl (D 8 rfl) rfl (feq hc2).1 (iN X0 hx rfl (D 9 rfl) rfl (bP X0 hx rfl (D 10 rfl) ht))) ?_
      by_cases hc3 : p0 = (10 : Int32)
      · refine OFin.of (S' := s₁.setTop (mkF m 47 #[.val (.int p0)] [(.int (1 : Int32))])) (fun t ht => cY X0 hx rfl 15 42 rfl (D 11 rfl) rfl (teq hc3).1 (by decide) (iC X0 hx rfl (D 3 rfl) (gO X0 hx rfl 43 47 rfl (D 4 rfl) (by decide) ht))) ?_
        exact OFin.retB X0 hx hlk (t := .boolean) (by simp) hret (D 5 rfl) (by decide) (by decide) (by rw [e0]; exact ⟨(by show some (Value.int (1 : Int32)) = _; simp [own_b, own_en, nar, hc1, hc2, hc3]), N0, rfl⟩)
      · refine OFin.of (S' := s₁.setTop (mkF m 21 #[.val (.int p0)] [(.int (13 : Int32)), (.int p0)])) (fun t ht => cN X0 hx rfl (D 11 rfl) rfl (feq hc3).1 (iN X0 hx rfl (D 12 rfl) rfl (bP X0 hx rfl (D 13 rfl) ht))) ?_
        by_cases hc4 : p0 = (13 : Int32)
        · refine OFin.of (S' := s₁.setTop (mkF m 47 #[.val (.int p0)] [(.int (1 : Int32))])) (fun t ht => cY X0 hx rfl 21 42 rfl (D 14 rfl) rfl (teq hc4).1 (by decide) (iC X0 hx rfl (D 3 rfl) (gO X0 hx rfl 43 47 rfl (D 4 rfl) (by decide) ht))) ?_
          exact OFin.retB X0 hx hlk (t := .boolean) (by simp) hret (D 5 rfl) (by decide) (by decide) (by rw [e0]; exact ⟨(by show some (Value.int (1 : Int32)) = _; simp [own_b, own_en, nar, hc1, hc2, hc3, hc4]), N0, rfl⟩)
        · refine OFin.of (S' := s₁.setTop (mkF m 27 #[.val (.int p0)] [(.int (61 : Int32)), (.int p0)])) (fun t ht => cN X0 hx rfl (D 14 rfl) rfl (feq hc4).1 (iN X0 hx rfl (D 15 rfl) rfl (bP X0 hx rfl (D 16 rfl) ht))) ?_
          by_cases hc5 : p0 = (61 : Int32)
          · refine OFin.of (S' := s₁.setTop (mkF m 47 #[.val (.int p0)] [(.int (1 : Int32))])) (fun t ht => cY X0 hx rfl 27 42 rfl (D 17 rfl) rfl (teq hc5).1 (by decide) (iC X0 hx rfl (D 3 rfl) (gO X0 hx rfl 43 47 rfl (D 4 rfl) (by decide) ht))) ?_
            exact OFin.retB X0 hx hlk (t := .boolean) (by simp) hret (D 5 rfl) (by decide) (by decide) (by rw [e0]; exact ⟨(by show some (Value.int (1 : Int32)) = _; simp [own_b, own_en, nar, hc1, hc2, hc3, hc4, hc5]), N0, rfl⟩)
          · refine OFin.of (S' := s₁.setTop (mkF m 33 #[.val (.int p0)] [(.int (47 : Int32)), (.int p0)])) (fun t ht => cN X0 hx rfl (D 17 rfl) rfl (feq hc5).1 (iN X0 hx rfl (D 18 rfl) rfl (bP X0 hx rfl (D 19 rfl) ht))) ?_
            by_cases hc6 : p0 = (47 : Int32)
            · refine OFin.of (S' := s₁.setTop (mkF m 47 #[.val (.int p0)] [(.int (1 : Int32))])) (fun t ht => cY X0 hx rfl 33 42 rfl (D 20 rfl) rfl (teq hc6).1 (by decide) (iC X0 hx rfl (D 3 rfl) (gO X0 hx rfl 43 47 rfl (D 4 rfl) (by decide) ht))) ?_
              exact OFin.retB X0 hx hlk (t := .boolean) (by simp) hret (D 5 rfl) (by decide) (by decide) (by rw [e0]; exact ⟨(by show some (Value.int (1 : Int32)) = _; simp [own_b, own_en, nar, hc1, hc2, hc3, hc4, hc5, hc6]), N0, rfl⟩)
            · refine OFin.of (S' := s₁.setTop (mkF m 39 #[.val (.int p0)] [(.int (62 : Int32)), (.int p0)])) (fun t ht => cN X0 hx rfl (D 20 rfl) rfl (feq hc6).1 (iN X0 hx rfl (D 21 rfl) rfl (bP X0 hx rfl (D 22 rfl) ht))) ?_
              by_cases hc7 : p0 = (62 : Int32)
              · refine OFin.of (S' := s₁.setTop (mkF m 47 #[.val (.int p0)] [(.int (1 : Int32))])) (fun t ht => cN X0 hx rfl (D 23 rfl) rfl (teq hc7).2 (iC X0 hx rfl (D 3 rfl) (gO X0 hx rfl 43 47 rfl (D 4 rfl) (by decide) ht))) ?_
                exact OFin.retB X0 hx hlk (t := .boolean) (by simp) hret (D 5 rfl) (by decide) (by decide) (by rw [e0]; exact ⟨(by show some (Value.int (1 : Int32)) = _; simp [own_b, own_en, nar, hc1, hc2, hc3, hc4, hc5, hc6, hc7]), N0, rfl⟩)
              · refine OFin.of (S' := s₁.setTop (mkF m 47 #[.val (.int p0)] [(.int (0 : Int32))])) (fun t ht => cY X0 hx rfl 39 46 rfl (D 23 rfl) rfl (feq hc7).2 (by decide) (iC X0 hx rfl (D 24 rfl) ht)) ?_
                exact OFin.retB X0 hx hlk (t := .boolean) (by simp) hret (D 5 rfl) (by decide) (by decide) (by rw [e0]; exact ⟨(by show some (Value.int (0 : Int32)) = _; simp [own_b, own_en, nar, hc1, hc2, hc3, hc4, hc5, hc6, hc7]), N0, rfl⟩)
theorem efNby {m : MethodId} {p0 : Int32} : entryFrame m #[(.int p0)] 2 = mkF m 0 #[.val (.int p0), .unset] [] := by first | (simp [entryFrame, mkF, argsToLocals, Value.category]; done) | rfl
def QNby (Z : State) (p0 : Int32) (h0 : Heap) (n0 : Nat) (v : Option Value) (h : Heap) (L : List Loc) : Prop := v = some (.int (own_nb p0)) ∧ Fr n0 L ∧ h = h0
theorem rmNby (l : Launch) (Z : State) (a0 : Array Value) (hw : HW a0 Z) (ws : List Jvm.Cond) (p0 : Int32) (h0 : Heap) (n0 : Nat) (Z0 : n0 ≤ h0.size)  :
    Con l mn28 (Jvm.Cond.code mn28 method_5_code 2 (some .byte)) ws (⟨1, 0, 0, 12⟩ : Jvm.Room) #[(.int p0)] Z h0 (QNby Z p0 h0 n0) := by
  refine own_of (plainFor_of_name pn_6) hisR dl_method_5 ?_
  intro p e s m below meth c s₁ hx D hlk hret hml hZ hown hnm X0 e0
  replace hown : s.vm.findClass cC = some m.cls := hown
  have N0 := Fr.nil n0
  rw [efNby]
  obtain ⟨_, T1, Lc1, X1, hQ1, st1⟩ := own_cS X0 hx hw hZ hown 11 12 3 13 rfl rfl rfl rfl (by decide) (rmStn l Z _ hw [] (p0.toInt8.toInt32) h0 n0 Z0 ) (by decide) (by decide) (g := (mkF m 4 #[.val (.int p0), .val (.int (p0.toInt8.toInt32))] [(.int (p0.toInt8.toInt32))])) rfl hml rfl (argsL := [(.int (p0.toInt8.toInt32))]) (rest := []) pd_0 rfl rfl rfl (W := 0) (Nat.le_of_eq rfl) (D 4 rfl) rfl e0 (by decide) (by decide)
  obtain ⟨rfl, Nq1, hs1⟩ := hQ1
  have N2 := Fr.app N0 Nq1
  refine OFin.of (fun t ht => iN X0 hx rfl (D 0 rfl) rfl (XS.i2b X0.here hx rfl (D 1 rfl) rfl (XS.istoreN X0.here hx rfl (D 2 rfl) rfl (l' := #[.val (.int p0), .val (.int (p0.toInt8.toInt32))]) rfl (iN X0 hx rfl (D 3 rfl) rfl (st1.trans ht))))) ?_
  by_cases hc3 : (own_b (own_en (p0.toInt8.toInt32))) = (0 : Int32)
  · refine OFin.of (S' := T1.setTop (mkF m 16 #[.val (.int p0), .val (.int (p0.toInt8.toInt32))] [(.int (p0.toInt8.toInt32))])) (fun t ht => fY X1 hx rfl 7 15 rfl (D 5 rfl) rfl ((if0 _ _).trans (teq hc3).1) (by decide) (iN X1 hx rfl (D 6 rfl) rfl ht)) ?_
    exact OFin.retB X1 hx hlk (t := .byte) (by simp) hret (D 7 rfl) (by decide) (by decide) (by rw [hs1]; exact ⟨(by show some (Value.int (nar .byte (p0.toInt8.toInt32))) = _; rw [own_nb_f hc3]), N2, rfl⟩)
  · refine OFin.of (S' := T1.setTop (mkF m 16 #[.val (.int p0), .val (.int (p0.toInt8.toInt32))] [(.int (110 : Int32))])) (fun t ht => fN X1 hx rfl (D 5 rfl) rfl ((if0 _ _).trans (feq hc3).1) (bP X1 hx rfl (D 8 rfl) (gO X1 hx rfl 12 16 rfl (D 9 rfl) (by decide) ht))) ?_
    exact OFin.retB X1 hx hlk (t := .byte) (by simp) hret (D 7 rfl) (by decide) (by decide) (by rw [hs1]; exact ⟨(by show some (Value.int (110 : Int32)) = _; rw [own_nb_t hc3]), N2, rfl⟩)
theorem efVch {m : MethodId} {p0 p1 : Int32} : entryFrame m #[(.int p0), (.int p1)] 3 = mkF m 0 #[.val (.int p0), .val (.int p1), .unset] [] := by first | (simp [entryFrame, mkF, argsToLocals, Value.category]; done) | rfl
def QVch (Z : State) (p0 p1 : Int32) (h0 : Heap) (n0 : Nat) (v : Option Value) (h : Heap) (L : List Loc) : Prop := v = some (.int (own_vc p0 p1)) ∧ Fr n0 L ∧ h = h0
theorem rmVch (l : Launch) (Z : State) (a0 : Array Value) (hw : HW a0 Z) (ws : List Jvm.Cond) (p0 p1 : Int32) (h0 : Heap) (n0 : Nat) (Z0 : n0 ≤ h0.size)  :
    Con l mn29 (Jvm.Cond.code mn29 method_6_code 3 (some .char)) ws (⟨0, 0, 0, 0⟩ : Jvm.Room) #[(.int p0), (.int p1)] Z h0 (QVch Z p0 p1 h0 n0) := by
  refine own_of (plainFor_of_name pn_6) hisR dl_method_6 ?_
  intro p e s m below meth c s₁ hx D hlk hret hml hZ hown hnm X0 e0
  replace hown : s.vm.findClass cC = some m.cls := hown
  have N0 := Fr.nil n0
  rw [efVch]
  refine OFin.of (S' := s₁.setTop (mkF m 8 #[.val (.int p0), .val (.int p1), .val (.int ((p0 &&& (127 : Int32)).toUInt32.toUInt16.toUInt32.toInt32))] [(.int p1), (.int ((p0 &&& (127 : Int32)).toUInt32.toUInt16.toUInt32.toInt32))])) (fun t ht => iN X0 hx rfl (D 0 rfl) rfl (bP X0 hx rfl (D 1 rfl) (XS.iand X0.here hx rfl (D 2 rfl) rfl (XS.i2c X0.here hx rfl (D 3 rfl) rfl (XS.istoreN X0.here hx rfl (D 4 rfl) rfl (l' := #[.val (.int p0), .val (.int p1), .val (.int ((p0 &&& (127 : Int32)).toUInt32.toUInt16.toUInt32.toInt32))]) rfl (iN X0 hx rfl (D 5 rfl) rfl (iN X0 hx rfl (D 6 rfl) rfl ht))))))) ?_
  by_cases hc1 : ((p0 &&& (127 : Int32)).toUInt32.toUInt16.toUInt32.toInt32) = p1
  · refine OFin.of (S' := s₁.setTop (mkF m 17 #[.val (.int p0), .val (.int p1), .val (.int ((p0 &&& (127 : Int32)).toUInt32.toUInt16.toUInt32.toInt32))] [(.int (118 : Int32))])) (fun t ht => cN X0 hx rfl (D 7 rfl) rfl (teq hc1).2 (bP X0 hx rfl (D 8 rfl) (gO X0 hx rfl 13 17 rfl (D 9 rfl) (by decide) ht))) ?_
    exact OFin.retB X0 hx hlk (t := .char) (by simp) hret (D 10 rfl) (by decide) (by decide) (by rw [e0]; exact ⟨(by show some (Value.int (118 : Int32)) = _; rw [own_vc_t hc1]), N0, rfl⟩)
  · refine OFin.of (S' := s₁.setTop (mkF m 17 #[.val (.int p0), .val (.int p1), .val (.int ((p0 &&& (127 : Int32)).toUInt32.toUInt16.toUInt32.toInt32))] [(.int ((p0 &&& (127 : Int32)).toUInt32.toUInt16.toUInt32.toInt32))])) (fun t ht => cY X0 hx rfl 8 16 rfl (D 7 rfl) rfl (feq hc1).2 (by decide) (iN X0 hx rfl (D 11 rfl) rfl ht)) ?_
    exact OFin.retB X0 hx hlk (t := .char) (by simp) hret (D 10 rfl) (by decide) (by decide) (by rw [e0]; exact ⟨(by show some (Value.int (nar .char ((p0 &&& (127 : Int32)).toUInt32.toUInt16.toUInt32.toInt32))) = _; rw [own_vc_f hc1]), N0, rfl⟩)
theorem efImn {m : MethodId} {p0 p1 : Int32} : entryFrame m #[(.int p0), (.int p1)] 2 = mkF m 0 #[.val (.int p0), .val (.int p1)] [] := by first | (simp [entryFrame, mkF, argsToLocals, Value.category]; done) | rfl
def QImn (Z : State) (p0 p1 : Int32) (h0 : Heap) (n0 : Nat) (v : Option Value) (h : Heap) (L : List Loc) : Prop := v = some (.int (own_imin p0 p1)) ∧ Fr n0 L ∧ h = h0
theorem rmImn (l : Launch) (Z : State) (a0 : Array Value) (hw : HW a0 Z) (ws : List Jvm.Cond) (p0 p1 : Int32) (h0 : Heap) (n0 : Nat) (Z0 : n0 ≤ h0.size)  :
    Con l mn30 (Jvm.Cond.code mn30 jdk_29_method_69_code 2 (some .int)) ws (⟨0, 0, 0, 0⟩ : Jvm.Room) #[(.int p0), (.int p1)] Z h0 (QImn Z p0 p1 h0 n0) := by
  refine own_of (Jvm.Free.JP.mathPlain rfl (by decide +kernel)) hisR dl_jdk_29_69 ?_
  intro p e s m below meth c s₁ hx D hlk hret hml hZ hown hnm X0 e0
  replace hown : s.vm.findClass "java/lang/Math" = some m.cls := hown
  have N0 := Fr.nil n0
  rw [efImn]
  refine OFin.of (S' := s₁.setTop (mkF m 2 #[.val (.int p0), .val (.int p1)] [(.int p1), (.int p0)])) (fun t ht => iN X0 hx rfl (D 0 rfl) rfl (iN X0 hx rfl (D 1 rfl) rfl ht)) ?_
  by_cases hc1 : p1 < p0
  · refine OFin.of (S' := s₁.setTop (mkF m 10 #[.val (.int p0), .val (.int p1)] [(.int p1)])) (fun t ht => cY X0 hx rfl 2 9 rfl (D 2 rfl) rfl (tlt hc1).2.2.1 (by decide) (iN X0 hx rfl (D 3 rfl) rfl ht)) ?_
    exact OFin.retI X0 hx hlk hret (D 4 rfl) (by decide) (by decide) (by rw [e0]; exact ⟨(by show some (Value.int p1) = _; simp [own_imin, hc1]), N0, rfl⟩)
  · refine OFin.of (S' := s₁.setTop (mkF m 10 #[.val (.int p0), .val (.int p1)] [(.int p0)])) (fun t ht => cN X0 hx rfl (D 2 rfl) rfl (flt hc1).2.2.1 (iN X0 hx rfl (D 5 rfl) rfl (gO X0 hx rfl 6 10 rfl (D 6 rfl) (by decide) ht))) ?_
    exact OFin.retI X0 hx hlk hret (D 4 rfl) (by decide) (by decide) (by rw [e0]; exact ⟨(by show some (Value.int p0) = _; simp [own_imin, hc1]), N0, rfl⟩)
theorem efCkl {m : MethodId} {p0 p1 : Int32} : entryFrame m #[(.int p0), (.int p1)] 2 = mkF m 0 #[.val (.int p0), .val (.int p1)] [] := by first | (simp [entryFrame, mkF, argsToLocals, Value.category]; done) | rfl
def QCkl (Z : State) (p0 p1 : Int32) (h0 : Heap) (n0 : Nat) (v : Option Value) (h : Heap) (L : List Loc) : Prop := v = none ∧ Fr n0 L ∧ h = h0
theorem rmCkl (l : Launch) (Z : State) (a0 : Array Value) (hw : HW a0 Z) (ws : List Jvm.Cond) (p0 p1 : Int32) (h0 : Heap) (n0 : Nat) (Z0 : n0 ≤ h0.size) (hr1 : ¬ p1 < p0) :
    Con l mn31 (Jvm.Cond.code mn31 jdk_65_method_131_code 2 none) ws (⟨0, 0, 0, 0⟩ : Jvm.Room) #[(.int p0), (.int p1)] Z h0 (QCkl Z p0 p1 h0 n0) := by
  refine own_of (plainFor_of_name pn_4) hisR dl_jdk_65_131 ?_
  intro p e s m below meth c s₁ hx D hlk hret hml hZ hown hnm X0 e0
  replace hown : s.vm.findClass cH = some m.cls := hown
  have N0 := Fr.nil n0
  rw [efCkl]
  refine OFin.of (S' := s₁.setTop (mkF m 37 #[.val (.int p0), .val (.int p1)] [])) (fun t ht => iN X0 hx rfl (D 0 rfl) rfl (iN X0 hx rfl (D 1 rfl) rfl (cY X0 hx rfl 2 37 rfl (D 2 rfl) rfl (flt (hr1 : ¬ (p1 < p0))).2.1 (by decide) ht))) ?_
  exact OFin.retV X0 hx hlk hret (D 3 rfl) (by decide) (by decide) (by rw [e0]; exact ⟨rfl, N0, rfl⟩)
theorem pn_7 : plainName "java/util/Objects" = true := by first | (simp [plainName, overriddenIn]; done) | decide +kernel
theorem efRnn {m : MethodId} {a0 : Addr} : entryFrame m #[(.ref a0)] 1 = mkF m 0 #[.val (.ref a0)] [] := by first | (simp [entryFrame, mkF, argsToLocals, Value.category]; done) | rfl
def QRnn (Z : State) (a0 : Addr) (h0 : Heap) (n0 : Nat) (v : Option Value) (h : Heap) (L : List Loc) : Prop := v = some (.ref a0) ∧ Fr n0 L ∧ h = h0
theorem rmRnn (l : Launch) (Z : State) (a0 : Array Value) (hw : HW a0 Z) (ws : List Jvm.Cond) (a0 : Addr) (h0 : Heap) (n0 : Nat) (Z0 : n0 ≤ h0.size)  :
    Con l mn32 (Jvm.Cond.code mn32 jdk_31_method_10_code 1 (some (.object "java/lang/Object"))) ws (⟨0, 0, 0, 0⟩ : Jvm.Room) #[(.ref a0)] Z h0 (QRnn Z a0 h0 n0) := by
  refine own_of (plainFor_of_name pn_7) hisR dl_jdk_31_10 ?_
  intro p e s m below meth c s₁ hx D hlk hret hml hZ hown hnm X0 e0
  replace hown : s.vm.findClass "java/util/Objects" = some m.cls := hown
  have N0 := Fr.nil n0
  rw [efRnn]
  refine OFin.of (S' := s₁.setTop (mkF m 13 #[.val (.ref a0)] [(.ref a0)])) (fun t ht => aN X0 hx rfl (D 0 rfl) rfl rfl (XS.ifnonnullYes X0.here hx rfl (pc0 := 1) (pc' := 12) rfl (D 1 rfl) rfl (by decide) (by decide) (aN X0 hx rfl (D 2 rfl) rfl rfl ht))) ?_
  exact OFin.retA X0 hx hlk (t := (.object "java/lang/Object")) rfl rfl hret (D 3 rfl) (by decide) (by decide) (by rw [e0]; exact ⟨rfl, N0, rfl⟩)
theorem efCrb1 {m : MethodId} {a0 : Addr} {oo : Nat} : entryFrame m #[(.ref a0), (.int (Int32.ofNat oo)), (.int (Int32.ofNat (oo + 1)))] 5 = mkF m 0 #[.val (.ref a0), .val (.int (Int32.ofNat oo)), .val (.int (Int32.ofNat (oo + 1))), .unset, .unset] [] := by first | (simp [entryFrame, mkF, argsToLocals, Value.category]; done) | rfl
def QCrb1 (Z : State) (a0 : Addr) (kt : ClassId) (nt : Int32) (pre : List Int32) (oo : Nat) (h0 : Heap) (n0 : Nat) (v : Option Value) (h : Heap) (L : List Loc) : Prop := v = some (.ref h0.size) ∧ Fr n0 L ∧ Keep h0 h [] ∧ ∃ kb, Arv Z h h0.size kb .byte (1 : Int32) [(.int (pre.getD oo 0))] (.int (0 : Int32))
theorem rmCrb1 (l : Launch) (Z : State) (a0 : Array Value) (hw : HW a0 Z) (ws : List Jvm.Cond) (a0 : Addr) (kt : ClassId) (nt : Int32) (pre : List Int32) (oo : Nat) (h0 : Heap) (n0 : Nat) (Z0 : n0 ≤ h0.size) (Tx : Txt Z h0 a0 kt nt pre) (hon : oo + 1 ≤ pre.length) :
    Con l mn33 (Jvm.Cond.code mn33 jdk_65_method_133_code 5 (some (.array .byte))) ws (⟨1, 1, 1, 40⟩ : Jvm.Room) #[(.ref a0), (.int (Int32.ofNat oo)), (.int (Int32.ofNat (oo + 1)))] Z h0 (QCrb1 Z a0 kt nt pre oo h0 n0) := by
  refine own_of (plainFor_of_name pn_4) hisR dl_jdk_65_133 ?_
  intro p e s m below meth c s₁ hx D hlk hret hml hZ hown hnm X0 e0
  replace hown : s.vm.findClass cH = some m.cls := hown
  have N0 := Fr.nil n0
  rw [efCrb1]
  have K0 : Keep h0 h0 [] := Keep.refl _ _
  obtain ⟨_, T1, Lc1, X1, hQ1, st1⟩ := own_cS X0 hx hw hZ hown 230 231 164 232 rfl rfl rfl rfl (by decide) (rmCkl l Z _ hw [] (Int32.ofNat oo) (Int32.ofNat (oo + 1)) h0 n0 Z0 (own_rc1 Tx hon)) (by decide) (by decide) (g := (mkF m 2 #[.val (.ref a0), .val (.int (Int32.ofNat oo)), .val (.int (Int32.ofNat (oo + 1))), .unset, .unset] [(.int (Int32.ofNat (oo + 1))), (.int (Int32.ofNat oo))])) rfl hml rfl (argsL := [(.int (Int32.ofNat oo)), (.int (Int32.ofNat (oo + 1)))]) (rest := []) pd_7 rfl rfl rfl (W := 0) (Nat.le_of_eq rfl) (D 2 rfl) rfl e0 (by decide) (by decide)
  obtain ⟨rfl, Nq1, hs1⟩ := hQ1
  have N2 := Fr.app N0 Nq1
  refine OFin.of (fun t ht => iN X0 hx rfl (D 0 rfl) rfl (iN X0 hx rfl (D 1 rfl) rfl (st1.trans ht))) ?_
  refine OFin.of (S' := T1.setTop (mkF m 8 #[.val (.ref a0), .val (.int (Int32.ofNat oo)), .val (.int (Int32.ofNat (oo + 1))), .unset, .unset] [(.int ((Int32.ofNat (oo + 1)) - (Int32.ofNat oo)))])) (fun t ht => iN X1 hx rfl (D 3 rfl) rfl (iN X1 hx rfl (D 4 rfl) rfl (XS.isub X1.here hx rfl (D 5 rfl) rfl ht))) ?_
  rw [own_subn oo 1]
  rw [show Int32.ofNat 1 = (1 : Int32) from rfl]
  obtain ⟨T3, h3, k3, X3, e3, E3, A3, st3⟩ := newP X1 hx hZ (wt hw 0 rfl) hs1 (g := (mkF m 10 #[.val (.ref a0), .val (.int (Int32.ofNat oo)), .val (.int (Int32.ofNat (oo + 1))), .val (.int (1 : Int32)), .unset] [(.int (1 : Int32))])) rfl (D 8 rfl) rfl (by decide) (cap := 1) (by decide) (by decide) (by decide) (by decide)
  obtain ⟨b3, gq3⟩ : ∃ z, z = h0.size := ⟨_, rfl⟩
  rw [← gq3] at A3 st3
  have g4 : n0 ≤ b3 := (Nat.le_trans Z0 (Nat.le_of_eq gq3.symm))
  have sz5 : h0.size ≤ b3 := (Nat.le_trans K0.1 (Nat.le_of_eq gq3.symm))
  have ne6 : a0 ≠ b3 := (Nat.ne_of_lt (Nat.lt_of_lt_of_le Tx.lt (Nat.le_of_eq gq3.symm)))
  have f7 := Tx.ext E3
  have Z8 := Nat.le_trans Z0 E3.1
  have K9 := K0.ext E3
  have f10 : Arv Z h3 b3 k3 .byte (1 : Int32) [(.int (0 : Int32))] (.int (0 : Int32)) := ((Arv.new A3 (by decide)).pad (pad_rep [] (.int (0 : Int32)) 1))
  refine OFin.of (fun t ht => XS.istoreN X1.here hx rfl (D 6 rfl) rfl (l' := #[.val (.ref a0), .val (.int (Int32.ofNat oo)), .val (.int (Int32.ofNat (oo + 1))), .val (.int (1 : Int32)), .unset]) rfl (iN X1 hx rfl (D 7 rfl) rfl (st3 t ht))) ?_
  obtain ⟨bs11, ⟨cl11, Ar11, q11, S11, Ng11, H11, G11⟩, -⟩ := id f7
  refine OFin.of (fun t ht => XS.astore X3.here hx rfl (D 9 rfl) rfl rfl (l' := #[.val (.ref a0), .val (.int (Int32.ofNat oo)), .val (.int (Int32.ofNat (oo + 1))), .val (.int (1 : Int32)), .val (.ref b3)]) rfl (aN X3 hx rfl (D 10 rfl) rfl rfl (iN X3 hx rfl (D 11 rfl) rfl (aW X3 hx rfl (D 12 rfl) rfl rfl (iC X3 hx rfl (D 13 rfl) (aN X3 hx rfl (D 14 rfl) rfl rfl (own_alen X3 hx hZ e3 Ar11 S11 Ng11 (g := (mkF m 20 #[.val (.ref a0), .val (.int (Int32.ofNat oo)), .val (.int (Int32.ofNat (oo + 1))), .val (.int (1 : Int32)), .val (.ref b3)] [(.ref a0), (.int (0 : Int32)), (.ref b3), (.int (Int32.ofNat oo)), (.ref a0)])) rfl rfl (D 15 rfl) ht))))))) ?_
  obtain ⟨_, T12, Lc12, X12, hQ12, st12⟩ := own_cS X3 hx hw hZ hown 233 234 235 236 rfl rfl rfl rfl (by decide) (rmImn l Z _ hw [] (nt - (Int32.ofNat oo)) (1 : Int32) h3 n0 Z8 ) (by decide) (by decide) (g := (mkF m 24 #[.val (.ref a0), .val (.int (Int32.ofNat oo)), .val (.int (Int32.ofNat (oo + 1))), .val (.int (1 : Int32)), .val (.ref b3)] [(.int (1 : Int32)), (.int (nt - (Int32.ofNat oo))), (.int (0 : Int32)), (.ref b3), (.int (Int32.ofNat oo)), (.ref a0)])) rfl hml rfl (argsL := [(.int (nt - (Int32.ofNat oo))), (.int (1 : Int32))]) (rest := [(.int (0 : Int32)), (.ref b3), (.int (Int32.ofNat oo)), (.ref a0)]) pd_16 rfl rfl rfl (W := 4) (Nat.le_of_eq rfl) (D 19 rfl) rfl e3 (by decide) (by decide)
  obtain ⟨rfl, Nq12, hs12⟩ := hQ12
  have N13 := Fr.app N2 Nq12
  refine OFin.of (fun t ht => iN X3 hx rfl (D 16 rfl) rfl (XS.isub X3.here hx rfl (D 17 rfl) rfl (iN X3 hx rfl (D 18 rfl) rfl (st12.trans ht)))) ?_
  rw [own_minn1 Tx hon]
  obtain ⟨T14, h14, X14, e14, K14, V14, st14⟩ := own_acopy X12 hx hZ hown (wt hw 237 rfl) (wt hw 240 rfl) (wt hw 238 rfl) (wt hw 239 rfl) hs12 f7 f10 ne6 (o := oo) (n := 1) hon (g := (mkF m 27 #[.val (.ref a0), .val (.int (Int32.ofNat oo)), .val (.int (Int32.ofNat (oo + 1))), .val (.int (1 : Int32)), .val (.ref b3)] [(.int (1 : Int32)), (.int (0 : Int32)), (.ref b3), (.int (Int32.ofNat oo)), (.ref a0)])) rfl (by rw [hml]; rfl) rfl (D 20 rfl) (by decide) (by show 2 * 0 + 0 + (nativeFrameWords "java/lang/System" "arraycopy" 5 + 11) ≤ _; decide)
  have N15 := Fr.app N13 (fun x hx_ => by rw [copyLocs_base hx_]; exact g4 : Fr n0 (copyLocs b3 0 1))
  have f16 := (f7.keep K14 (ninS ne6 nin0))
  have Z17 := Nat.le_trans Z8 K14.1
  have K18 := K9.trans K14 (allS (Or.inr sz5) all0)
  have f19 : Arv Z h14 b3 k3 .byte (1 : Int32) [(.int (pre.getD oo 0))] (.int (0 : Int32)) := (by have q := V14; rw [own_take1 hon] at q; exact q)
  refine OFin.of st14 ?_
  refine OFin.of (S' := T14.setTop (mkF m 32 #[.val (.ref a0), .val (.int (Int32.ofNat oo)), .val (.int (Int32.ofNat (oo + 1))), .val (.int (1 : Int32)), .val (.ref b3)] [(.ref b3)])) (fun t ht => aW X14 hx rfl (D 21 rfl) rfl rfl ht) ?_
  exact OFin.retA X14 hx hlk (t := (.array .byte)) rfl rfl hret (D 22 rfl) (by decide) (by decide) (by rw [e14]; exact ⟨by rw [← gq3], N15, K18, k3, by rw [← gq3]; exact f19⟩)
theorem efCor1 {m : MethodId} {a0 : Addr} {oo : Nat} : entryFrame m #[(.ref a0), (.int (Int32.ofNat oo)), (.int (Int32.ofNat (oo + 1)))] 3 = mkF m 0 #[.val (.ref a0), .val (.int (Int32.ofNat oo)), .val (.int (Int32.ofNat (oo + 1)))] [] := by first | (simp [entryFrame, mkF, argsToLocals, Value.category]; done) | rfl
def QCor1 (Z : State) (a0 : Addr) (kt : ClassId) (nt : Int32) (pre : List Int32) (oo : Nat) (h0 : Heap) (n0 : Nat) (v : Option Value) (h : Heap) (L : List Loc) : Prop := v = some (.ref h0.size) ∧ Fr n0 L ∧ Keep h0 h [] ∧ ∃ kb, Arv Z h h0.size kb .byte (1 : Int32) [(.int (pre.getD oo 0))] (.int (0 : Int32))
theorem rmCor1 (l : Launch) (Z : State) (a0 : Array Value) (hw : HW a0 Z) (ws : List Jvm.Cond) (a0 : Addr) (kt : ClassId) (nt : Int32) (pre : List Int32) (oo : Nat) (h0 : Heap) (n0 : Nat) (Z0 : n0 ≤ h0.size) (Tx : Txt Z h0 a0 kt nt pre) (hon : oo + 1 ≤ pre.length) (ho : 0 < oo) :
    Con l mn34 (Jvm.Cond.code mn34 jdk_65_method_132_code 3 (some (.array .byte))) ws (⟨2, 1, 1, 56⟩ : Jvm.Room) #[(.ref a0), (.int (Int32.ofNat oo)), (.int (Int32.ofNat (oo + 1)))] Z h0 (QCor1 Z a0 kt nt pre oo h0 n0) := by
  refine own_of (plainFor_of_name pn_4) hisR dl_jdk_65_132 ?_
  intro p e s m below meth c s₁ hx D hlk hret hml hZ hown hnm X0 e0
  replace hown : s.vm.findClass cH = some m.cls := hown
  have N0 := Fr.nil n0
  rw [efCor1]
  have K0 : Keep h0 h0 [] := Keep.refl _ _
  obtain ⟨_, T1, Lc1, X1, hQ1, st1⟩ := own_cS X0 hx hw hZ hown 227 228 164 229 rfl rfl rfl rfl (by decide) (rmCrb1 l Z _ hw [] a0 kt nt pre oo h0 n0 Z0 Tx hon) (by decide) (by decide) (g := (mkF m 13 #[.val (.ref a0), .val (.int (Int32.ofNat oo)), .val (.int (Int32.ofNat (oo + 1)))] [(.int (Int32.ofNat (oo + 1))), (.int (Int32.ofNat oo)), (.ref a0)])) rfl hml rfl (argsL := [(.ref a0), (.int (Int32.ofNat oo)), (.int (Int32.ofNat (oo + 1)))]) (rest := []) pd_17 rfl rfl rfl (W := 0) (Nat.le_of_eq rfl) (D 5 rfl) rfl e0 (by decide) (by decide)
  obtain ⟨rfl, Nq1, Kq1, ⟨kb_1, f2⟩⟩ := hQ1
  have N3 := Fr.app N0 Nq1
  obtain ⟨b1, gq1⟩ : ∃ z, z = h0.size := ⟨_, rfl⟩
  rw [← gq1] at f2 st1
  have g4 : n0 ≤ b1 := (Nat.le_trans Z0 (Nat.le_of_eq gq1.symm))
  have sz5 : h0.size ≤ b1 := (Nat.le_trans K0.1 (Nat.le_of_eq gq1.symm))
  have ne6 : a0 ≠ b1 := (Nat.ne_of_lt (Nat.lt_of_lt_of_le Tx.lt (Nat.le_of_eq gq1.symm)))
  have f7 := (Tx.keep Kq1 nin0)
  have Z8 := Nat.le_trans Z0 Kq1.1
  have K9 := K0.trans Kq1 all0
  refine OFin.of (fun t ht => iN X0 hx rfl (D 0 rfl) rfl (fY X0 hx rfl 1 10 rfl (D 1 rfl) rfl ((if0 _ _).trans (feq (own_o0 Tx hon ho : ¬ ((Int32.ofNat oo) = (0 : Int32)))).2) (by decide) (aN X0 hx rfl (D 2 rfl) rfl rfl (iN X0 hx rfl (D 3 rfl) rfl (iN X0 hx rfl (D 4 rfl) rfl (st1.trans ht)))))) ?_
  exact OFin.retA X1 hx hlk (t := (.array .byte)) rfl rfl hret (D 6 rfl) (by decide) (by decide) (by exact ⟨by rw [← gq1], N3, K9, kb_1, by rw [← gq1]; exact f2⟩)
theorem pn_8 : plainName "java/lang/StringCoding" = true := by first | (simp [plainName, overriddenIn]; done) | decide +kernel
theorem efCpo1 {m : MethodId} {a0 : Addr} {oo : Nat} : entryFrame m #[(.ref a0), (.int (Int32.ofNat oo)), (.int (1 : Int32))] 5 = mkF m 0 #[.val (.ref a0), .val (.int (Int32.ofNat oo)), .val (.int (1 : Int32)), .unset, .unset] [] := by first | (simp [entryFrame, mkF, argsToLocals, Value.category]; done) | rfl
def QCpo1 (Z : State) (a0 : Addr) (kt : ClassId) (nt : Int32) (pre : List Int32) (oo : Nat) (h0 : Heap) (n0 : Nat) (v : Option Value) (h : Heap) (L : List Loc) : Prop := v = some (.int (1 : Int32)) ∧ Fr n0 L ∧ h = h0
theorem rmCpo1 (l : Launch) (Z : State) (a0 : Array Value) (hw : HW a0 Z) (ws : List Jvm.Cond) (a0 : Addr) (kt : ClassId) (nt : Int32) (pre : List Int32) (oo : Nat) (h0 : Heap) (n0 : Nat) (Z0 : n0 ≤ h0.size) (Tx : Txt Z h0 a0 kt nt pre) (hon : oo + 1 ≤ pre.length) (hb0 : ¬ pre.getD (oo) 0 < (0 : Int32)) :
    Con l mn35 (Jvm.Cond.code mn35 jdk_123_method_3_code 5 (some .int)) ws (⟨0, 0, 0, 0⟩ : Jvm.Room) #[(.ref a0), (.int (Int32.ofNat oo)), (.int (1 : Int32))] Z h0 (QCpo1 Z a0 kt nt pre oo h0 n0) := by
  refine own_of (plainFor_of_name pn_8) hisR dl_jdk_123_3 ?_
  intro p e s m below meth c s₁ hx D hlk hret hml hZ hown hnm X0 e0
  replace hown : s.vm.findClass "java/lang/StringCoding" = some m.cls := hown
  have N0 := Fr.nil n0
  rw [efCpo1]
  obtain ⟨cl1, Ar1, hin1, hat1⟩ := Txt.at Tx (j := (Int32.ofNat oo)) (i := oo) rfl (by omega)
  refine OFin.of (fun t ht => iN X0 hx rfl (D 0 rfl) rfl (iN X0 hx rfl (D 1 rfl) rfl (XS.iadd X0.here hx rfl (D 2 rfl) rfl (XS.istoreN X0.here hx rfl (D 3 rfl) rfl (l' := #[.val (.ref a0), .val (.int (Int32.ofNat oo)), .val (.int (1 : Int32)), .val (.int ((Int32.ofNat oo) + (1 : Int32))), .unset]) rfl (iN X0 hx rfl (D 4 rfl) rfl (sW X0 hx rfl (D 5 rfl) rfl (l' := #[.val (.ref a0), .val (.int (Int32.ofNat oo)), .val (.int (1 : Int32)), .val (.int ((Int32.ofNat oo) + (1 : Int32))), .val (.int (Int32.ofNat oo))]) rfl (iW X0 hx rfl (D 6 rfl) rfl (iN X0 hx rfl (D 7 rfl) rfl (cN X0 hx rfl (D 8 rfl) rfl (tlt ((by have h31_ := own_p31 Tx; simp only [own_succ, own_plus2]; rw [own_natlt (by omega) (by omega)]; omega) : (Int32.ofNat oo) < ((Int32.ofNat oo) + (1 : Int32)))).2.1 (aN X0 hx rfl (D 9 rfl) rfl rfl (iW X0 hx rfl (D 10 rfl) rfl (X0.baloadBytes hx (j := (Int32.ofNat oo)) (v := (.int (pre.getD oo 0))) (by rw [e0]; exact Ar1.1) (State.isArrayOf_alike hZ.alike Ar1.2.1) Ar1.2.2 hin1 hat1 (g := (mkF m 16 #[.val (.ref a0), .val (.int (Int32.ofNat oo)), .val (.int (1 : Int32)), .val (.int ((Int32.ofNat oo) + (1 : Int32))), .val (.int (Int32.ofNat oo))] [(.int (Int32.ofNat oo)), (.ref a0)])) rfl rfl (D 11 rfl) _ ht)))))))))))) ?_
  refine OFin.of (S' := s₁.setTop (mkF m 32 (la4 a0 (Int32.ofNat oo) 1 ((Int32.ofNat oo) + (1 : Int32)) ((Int32.ofNat oo) + (1 : Int32))) [(.int (1 : Int32))])) (fun t ht => fY X0 hx rfl 17 25 rfl (D 12 rfl) rfl ((if0 _ _).trans (flt (hb0 : ¬ ((pre.getD oo 0) < (0 : Int32)))).2.1) (by decide) (iI X0 hx rfl (D 13 rfl) rfl (l' := (la4 a0 (Int32.ofNat oo) 1 ((Int32.ofNat oo) + (1 : Int32)) ((Int32.ofNat oo) + (1 : Int32)))) rfl (gO X0 hx rfl 28 7 rfl (D 14 rfl) (by decide) (iW X0 hx rfl (D 6 rfl) rfl (iN X0 hx rfl (D 7 rfl) rfl (cY X0 hx rfl 10 31 rfl (D 8 rfl) rfl (flt ((by have h31_ := own_p31 Tx; simp only [own_succ, own_plus2]; rw [own_natlt (by omega) (by omega)]; omega) : ¬ (((Int32.ofNat oo) + (1 : Int32)) < ((Int32.ofNat oo) + (1 : Int32))))).2.1 (by decide) (iN X0 hx rfl (D 15 rfl) rfl ht))))))) ?_
  exact OFin.retI X0 hx hlk hret (D 16 rfl) (by decide) (by decide) (by rw [e0]; exact ⟨rfl, N0, rfl⟩)
theorem efIu1 {m : MethodId} {a0 a1 a2 : Addr} {oo : Nat} : entryFrame m #[(.ref a0), (.ref a1), (.ref a2), (.int (Int32.ofNat oo)), (.int (1 : Int32))] 11 = mkF m 0 (la5 a0 a1 a2 (Int32.ofNat oo) 1) [] := by first | (simp [entryFrame, mkF, argsToLocals, Value.category]; done) | rfl
def QIu1 (Z : State) (a0 a1 a2 : Addr) (kt : ClassId) (nt : Int32) (pre : List Int32) (oo : Nat) (cs : Int32) (h0 : Heap) (n0 : Nat) (v : Option Value) (h : Heap) (L : List Loc) : Prop := v = none ∧ Fr n0 L ∧ Keep h0 h [a0] ∧ Fld Z h a0 cB "coder" "B" (.int (0 : Int32)) ∧ ∃ (t : Addr) (kb : ClassId), Fld Z h a0 cB "value" "[B" (.ref t) ∧ Arv Z h t kb .byte (1 : Int32) [(.int (pre.getD oo 0))] (.int (0 : Int32))
theorem rmIu1 (l : Launch) (Z : State) (a0 : Array Value) (hw : HW a0 Z) (ws : List Jvm.Cond) (a0 a1 a2 : Addr) (kt : ClassId) (nt : Int32) (pre : List Int32) (oo : Nat) (cs : Int32) (h0 : Heap) (n0 : Nat) (Z0 : n0 ≤ h0.size) (EA : Exa Z h0 a0 cB) (Fc : Fld Z h0 a0 cB "coder" "B" (.int (0 : Int32))) (Fv : Fld Z h0 a0 cB "value" "[B" .null) (Tx : Txt Z h0 a2 kt nt pre) (Scs : Sta Z h0 cB "COMPACT_STRINGS" "Z" (.int cs)) (hcs : ¬ cs = (0 : Int32)) (Su8 : Sta Z h0 "sun/nio/cs/UTF_8" "INSTANCE" c10 (.ref a1)) (g0 : n0 ≤ a0) (hne : a2 ≠ a0) (hon : oo + 1 ≤ pre.length) (ho : 0 < oo) (hb0 : ¬ pre.getD (oo) 0 < (0 : Int32)) :
    Con l mn36 (Jvm.Cond.codeWith mn36 jdk_42_method_11_code 11 none [((800 : Nat), (813 : Nat), (816 : Nat), (202 : Nat))]) ws (⟨3, 1, 1, 71⟩ : Jvm.Room) #[(.ref a0), (.ref a1), (.ref a2), (.int (Int32.ofNat oo)), (.int (1 : Int32))] Z h0 (QIu1 Z a0 a1 a2 kt nt pre oo cs h0 n0) := by
  refine own_of (plainFor_of_name pn_2) hisWith dl_jdk_42_11 ?_
  intro p e s m below meth c s₁ hx D hlk hret hml hZ hown hnm X0 e0
  replace hown : s.vm.findClass cB = some m.cls := hown
  have N0 := Fr.nil n0
  rw [efIu1]
  have K0 : Keep h0 h0 [a0] := Keep.refl _ _
  obtain ⟨T1, X1, e1, st1⟩ := initO X0 hx hZ hown (wt hw 200 rfl) (wt hw 25 rfl) (wt hw 26 rfl) e0 (g := (mkF m 1 (la5 a0 a1 a2 (Int32.ofNat oo) 1) [(.ref a0)])) rfl (by rw [hml]; rfl) rfl (D 1 rfl) (by decide) (W := 0) (by show 2 * 0 + _ ≤ _; exact Nat.le_of_eq rfl) (by decide)
  refine OFin.of (fun t ht => aN X0 hx rfl (D 0 rfl) rfl rfl (st1 t ht)) ?_
  obtain ⟨T2, X2, e2, st2⟩ := getS (host := "") X1 hx hZ hown (wt hw 218 rfl) Via.refl e1 Su8 (g := (mkF m 31 (la5 a0 a1 a2 (Int32.ofNat oo) 1) [(.ref a1)])) rfl (D 5 rfl)
  refine OFin.of (fun t ht => iW X1 hx rfl (D 2 rfl) rfl (fY X1 hx rfl 6 30 rfl (D 3 rfl) rfl ((if0 _ _).trans (feq (by decide : ¬ ((1 : Int32) = (0 : Int32)))).2) (by decide) (aN X1 hx rfl (D 4 rfl) rfl rfl (st2 t ht)))) ?_
  obtain ⟨T3, X3, e3, st3⟩ := getS (host := "") X2 hx hZ hown (wt hw 129 rfl) Via.refl e2 Scs (g := (mkF m 37 (la5 a0 a1 a2 (Int32.ofNat oo) 1) [])) rfl (D 7 rfl)
  refine OFin.of (fun t ht => acmp X2 hx rfl (cd := .ne) (x := (.ref a1)) (y := (.ref a1)) rfl rfl (pc0 := 34) (pc' := 37) (same := true) rfl (D 6 rfl) rfl (decide_eq_true rfl) (by decide) (by decide) (st3 t ht)) ?_
  obtain ⟨_, T4, Lc4, X4, hQ4, st4⟩ := own_cS X3 hx hw hZ hown 220 221 222 223 rfl rfl rfl rfl (by decide) (rmCpo1 l Z _ hw [] a2 kt nt pre oo h0 n0 Z0 Tx hon hb0) (by decide) (by decide) (g := (mkF m 47 (la5 a0 a1 a2 (Int32.ofNat oo) 1) [(.int (1 : Int32)), (.int (Int32.ofNat oo)), (.ref a2)])) rfl hml rfl (argsL := [(.ref a2), (.int (Int32.ofNat oo)), (.int (1 : Int32))]) (rest := []) pd_18 rfl rfl rfl (W := 0) (Nat.le_of_eq rfl) (D 12 rfl) rfl e3 (by decide) (by decide)
  obtain ⟨rfl, Nq4, hs4⟩ := hQ4
  have N5 := Fr.app N0 Nq4
  refine OFin.of (fun t ht => fN X3 hx rfl (D 8 rfl) rfl ((if0 _ _).trans (feq (hcs : ¬ (cs = (0 : Int32)))).1) (aN X3 hx rfl (D 9 rfl) rfl rfl (iN X3 hx rfl (D 10 rfl) rfl (iW X3 hx rfl (D 11 rfl) rfl (st4.trans ht))))) ?_
  refine OFin.of (S' := T4.setTop (mkF m 66 (la6 a0 a1 a2 (Int32.ofNat oo) 1 1) [(.int ((Int32.ofNat oo) + (1 : Int32))), (.int (Int32.ofNat oo)), (.ref a2), (.ref a0)])) (fun t ht => sW X4 hx rfl (D 13 rfl) rfl (l' := (la6 a0 a1 a2 (Int32.ofNat oo) 1 1)) rfl (iW X4 hx rfl (D 14 rfl) rfl (iW X4 hx rfl (D 15 rfl) rfl (cN X4 hx rfl (D 16 rfl) rfl (teq (by decide : (1 : Int32) = (1 : Int32))).2 (aN X4 hx rfl (D 17 rfl) rfl rfl (aN X4 hx rfl (D 18 rfl) rfl rfl (iN X4 hx rfl (D 19 rfl) rfl (iN X4 hx rfl (D 20 rfl) rfl (iW X4 hx rfl (D 21 rfl) rfl (XS.iadd X4.here hx rfl (D 22 rfl) rfl ht)))))))))) ?_
  rw [own_succ oo]
  obtain ⟨_, T6, Lc6, X6, hQ6, st6⟩ := own_cS X4 hx hw hZ hown 224 225 164 226 rfl rfl rfl rfl (by decide) (rmCor1 l Z _ hw [] a2 kt nt pre oo h0 n0 Z0 Tx hon ho) (by decide) (by decide) (g := (mkF m 66 (la6 a0 a1 a2 (Int32.ofNat oo) 1 1) [(.int (Int32.ofNat (oo + 1))), (.int (Int32.ofNat oo)), (.ref a2), (.ref a0)])) rfl hml rfl (argsL := [(.ref a2), (.int (Int32.ofNat oo)), (.int (Int32.ofNat (oo + 1)))]) (rest := [(.ref a0)]) pd_17 rfl rfl rfl (W := 1) (Nat.le_of_eq rfl) (D 23 rfl) rfl hs4 (by decide) (by decide)
  obtain ⟨rfl, Nq6, Kq6, ⟨kb_6, f7⟩⟩ := hQ6
  have N8 := Fr.app N5 Nq6
  obtain ⟨b6, gq6⟩ : ∃ z, z = h0.size := ⟨_, rfl⟩
  rw [← gq6] at f7 st6
  have g9 : n0 ≤ b6 := (Nat.le_trans Z0 (Nat.le_of_eq gq6.symm))
  have sz10 : h0.size ≤ b6 := (Nat.le_trans K0.1 (Nat.le_of_eq gq6.symm))
  have ne11 : a0 ≠ b6 := (Nat.ne_of_lt (Nat.lt_of_lt_of_le EA.lt (Nat.le_of_eq gq6.symm)))
  have ne12 : a2 ≠ b6 := (Nat.ne_of_lt (Nat.lt_of_lt_of_le Tx.lt (Nat.le_of_eq gq6.symm)))
  have f13 := (EA.keep Kq6)
  have f14 := (Fc.keep Kq6 nin0)
  have f15 := (Fv.keep Kq6 nin0)
  have f16 := (Tx.keep Kq6 nin0)
  have f17 := (own_staKeep Scs Kq6 own_sn0)
  have f18 := (own_staKeep Su8 Kq6 own_sn0)
  have Z19 := Nat.le_trans Z0 Kq6.1
  have K20 := K0.trans Kq6 all0
  refine OFin.to st6 ?_
  obtain ⟨T21, h21, X21, e21, W21, st21⟩ := putF X6 hx hZ hown (host := "") (Or.inl (wt hw 123 rfl)) Via.refl (rfl : T6.heap = T6.heap) f15 f13 (Or.inr ⟨(wt hw 106 rfl), rfl, hnm⟩) (wt hw 105 rfl) (ty := (.array .byte)) (by decide) rfl rfl (g := (mkF m 69 (la6 a0 a1 a2 (Int32.ofNat oo) 1 1) [(.ref b6), (.ref a0)])) rfl rfl (D 24 rfl)
  have f22 := (f13.wr W21)
  have f23 := (f14.other W21 (Or.inr (sn0 hw)))
  have f24 := (f16.other W21 hne)
  have f25 := (f17.wr W21)
  have f26 := (f18.wr W21)
  have f27 := (f7.other W21 (Ne.symm ne11))
  have Z28 := Nat.le_trans Z19 (Keep.of_wr W21).1
  have K29 := K20.wr W21 (Or.inl (List.mem_of_getElem? (i := 0) rfl))
  have N30 := Fr.snoc X21 N8 g0
  have f31 : Fld Z h21 a0 cB "value" "[B" (.ref b6) := (f15.same W21)
  refine OFin.of st21 ?_
  obtain ⟨T32, h32, X32, e32, W32, st32⟩ := putFN X21 hx hZ hown (wt hw 130 rfl) Via.refl e21 f23 f22 (Or.inr ⟨(wt hw 107 rfl), rfl, hnm⟩) (wt hw 105 rfl) (ty := .byte) (v' := (.int (0 : Int32))) (by decide) rfl rfl (g := (mkF m 74 (la6 a0 a1 a2 (Int32.ofNat oo) 1 1) [(.int (0 : Int32)), (.ref a0)])) rfl rfl (D 27 rfl)
  have f33 := (f22.wr W32)
  have f34 := (f24.other W32 hne)
  have f35 := (f25.wr W32)
  have f36 := (f26.wr W32)
  have f37 := (f27.other W32 (Ne.symm ne11))
  have f38 := (f31.other W32 (Or.inr (sn1 hw)))
  have Z39 := Nat.le_trans Z28 (Keep.of_wr W32).1
  have K40 := K29.wr W32 (Or.inl (List.mem_of_getElem? (i := 0) rfl))
  have N41 := Fr.snoc X32 N30 g0
  have f42 : Fld Z h32 a0 cB "coder" "B" (.int (0 : Int32)) := (f23.same W32)
  refine OFin.of (fun t ht => aN X21 hx rfl (D 25 rfl) rfl rfl (iC X21 hx rfl (D 26 rfl) (st32 t ht))) ?_
  exact OFin.retV X32 hx hlk hret (D 28 rfl) (by decide) (by decide) (by rw [e32]; exact ⟨rfl, N41, K40, f42, b6, kb_6, f38, f37⟩)
theorem efCrb2 {m : MethodId} {a0 : Addr} {oo : Nat} : entryFrame m #[(.ref a0), (.int (Int32.ofNat oo)), (.int (Int32.ofNat (oo + 2)))] 5 = mkF m 0 #[.val (.ref a0), .val (.int (Int32.ofNat oo)), .val (.int (Int32.ofNat (oo + 2))), .unset, .unset] [] := by first | (simp [entryFrame, mkF, argsToLocals, Value.category]; done) | rfl
def QCrb2 (Z : State) (a0 : Addr) (kt : ClassId) (nt : Int32) (pre : List Int32) (oo : Nat) (h0 : Heap) (n0 : Nat) (v : Option Value) (h : Heap) (L : List Loc) : Prop := v = some (.ref h0.size) ∧ Fr n0 L ∧ Keep h0 h [] ∧ ∃ kb, Arv Z h h0.size kb .byte (2 : Int32) [(.int (pre.getD oo 0)), (.int (pre.getD (oo + 1) 0))] (.int (0 : Int32))
theorem rmCrb2 (l : Launch) (Z : State) (a0 : Array Value) (hw : HW a0 Z) (ws : List Jvm.Cond) (a0 : Addr) (kt : ClassId) (nt : Int32) (pre : List Int32) (oo : Nat) (h0 : Heap) (n0 : Nat) (Z0 : n0 ≤ h0.size) (Tx : Txt Z h0 a0 kt nt pre) (hon : oo + 2 ≤ pre.length) :
    Con l mn33 (Jvm.Cond.code mn33 jdk_65_method_133_code 5 (some (.array .byte))) ws (⟨1, 1, 2, 40⟩ : Jvm.Room) #[(.ref a0), (.int (Int32.ofNat oo)), (.int (Int32.ofNat (oo + 2)))] Z h0 (QCrb2 Z a0 kt nt pre oo h0 n0) := by
  refine own_of (plainFor_of_name pn_4) hisR dl_jdk_65_133 ?_
  intro p e s m below meth c s₁ hx D hlk hret hml hZ hown hnm X0 e0
  replace hown : s.vm.findClass cH = some m.cls := hown
  have N0 := Fr.nil n0
  rw [efCrb2]
  have K0 : Keep h0 h0 [] := Keep.refl _ _
  obtain ⟨_, T1, Lc1, X1, hQ1, st1⟩ := own_cS X0 hx hw hZ hown 230 231 164 232 rfl rfl rfl rfl (by decide) (rmCkl l Z _ hw [] (Int32.ofNat oo) (Int32.ofNat (oo + 2)) h0 n0 Z0 (own_rc1 Tx hon)) (by decide) (by decide) (g := (mkF m 2 #[.val (.ref a0), .val (.int (Int32.ofNat oo)), .val (.int (Int32.ofNat (oo + 2))), .unset, .unset] [(.int (Int32.ofNat (oo + 2))), (.int (Int32.ofNat oo))])) rfl hml rfl (argsL := [(.int (Int32.ofNat oo)), (.int (Int32.ofNat (oo + 2)))]) (rest := []) pd_7 rfl rfl rfl (W := 0) (Nat.le_of_eq rfl) (D 2 rfl) rfl e0 (by decide) (by decide)
  obtain ⟨rfl, Nq1, hs1⟩ := hQ1
  have N2 := Fr.app N0 Nq1
  refine OFin.of (fun t ht => iN X0 hx rfl (D 0 rfl) rfl (iN X0 hx rfl (D 1 rfl) rfl (st1.trans ht))) ?_
  refine OFin.of (S' := T1.setTop (mkF m 8 #[.val (.ref a0), .val (.int (Int32.ofNat oo)), .val (.int (Int32.ofNat (oo + 2))), .unset, .unset] [(.int ((Int32.ofNat (oo + 2)) - (Int32.ofNat oo)))])) (fun t ht => iN X1 hx rfl (D 3 rfl) rfl (iN X1 hx rfl (D 4 rfl) rfl (XS.isub X1.here hx rfl (D 5 rfl) rfl ht))) ?_
  rw [own_subn oo 2]
  rw [show Int32.ofNat 2 = (2 : Int32) from rfl]
  obtain ⟨T3, h3, k3, X3, e3, E3, A3, st3⟩ := newP X1 hx hZ (wt hw 0 rfl) hs1 (g := (mkF m 10 #[.val (.ref a0), .val (.int (Int32.ofNat oo)), .val (.int (Int32.ofNat (oo + 2))), .val (.int (2 : Int32)), .unset] [(.int (2 : Int32))])) rfl (D 8 rfl) rfl (by decide) (cap := 2) (by decide) (by decide) (by decide) (by decide)
  obtain ⟨b3, gq3⟩ : ∃ z, z = h0.size := ⟨_, rfl⟩
  rw [← gq3] at A3 st3
  have g4 : n0 ≤ b3 := (Nat.le_trans Z0 (Nat.le_of_eq gq3.symm))
  have sz5 : h0.size ≤ b3 := (Nat.le_trans K0.1 (Nat.le_of_eq gq3.symm))
  have ne6 : a0 ≠ b3 := (Nat.ne_of_lt (Nat.lt_of_lt_of_le Tx.lt (Nat.le_of_eq gq3.symm)))
  have f7 := Tx.ext E3
  have Z8 := Nat.le_trans Z0 E3.1
  have K9 := K0.ext E3
  have f10 : Arv Z h3 b3 k3 .byte (2 : Int32) [(.int (0 : Int32)), (.int (0 : Int32))] (.int (0 : Int32)) := ((Arv.new A3 (by decide)).pad (pad_rep [] (.int (0 : Int32)) 2))
  refine OFin.of (fun t ht => XS.istoreN X1.here hx rfl (D 6 rfl) rfl (l' := #[.val (.ref a0), .val (.int (Int32.ofNat oo)), .val (.int (Int32.ofNat (oo + 2))), .val (.int (2 : Int32)), .unset]) rfl (iN X1 hx rfl (D 7 rfl) rfl (st3 t ht))) ?_
  obtain ⟨bs11, ⟨cl11, Ar11, q11, S11, Ng11, H11, G11⟩, -⟩ := id f7
  refine OFin.of (fun t ht => XS.astore X3.here hx rfl (D 9 rfl) rfl rfl (l' := #[.val (.ref a0), .val (.int (Int32.ofNat oo)), .val (.int (Int32.ofNat (oo + 2))), .val (.int (2 : Int32)), .val (.ref b3)]) rfl (aN X3 hx rfl (D 10 rfl) rfl rfl (iN X3 hx rfl (D 11 rfl) rfl (aW X3 hx rfl (D 12 rfl) rfl rfl (iC X3 hx rfl (D 13 rfl) (aN X3 hx rfl (D 14 rfl) rfl rfl (own_alen X3 hx hZ e3 Ar11 S11 Ng11 (g := (mkF m 20 #[.val (.ref a0), .val (.int (Int32.ofNat oo)), .val (.int (Int32.ofNat (oo + 2))), .val (.int (2 : Int32)), .val (.ref b3)] [(.ref a0), (.int (0 : Int32)), (.ref b3), (.int (Int32.ofNat oo)), (.ref a0)])) rfl rfl (D 15 rfl) ht))))))) ?_
  obtain ⟨_, T12, Lc12, X12, hQ12, st12⟩ := own_cS X3 hx hw hZ hown 233 234 235 236 rfl rfl rfl rfl (by decide) (rmImn l Z _ hw [] (nt - (Int32.ofNat oo)) (2 : Int32) h3 n0 Z8 ) (by decide) (by decide) (g := (mkF m 24 #[.val (.ref a0), .val (.int (Int32.ofNat oo)), .val (.int (Int32.ofNat (oo + 2))), .val (.int (2 : Int32)), .val (.ref b3)] [(.int (2 : Int32)), (.int (nt - (Int32.ofNat oo))), (.int (0 : Int32)), (.ref b3), (.int (Int32.ofNat oo)), (.ref a0)])) rfl hml rfl (argsL := [(.int (nt - (Int32.ofNat oo))), (.int (2 : Int32))]) (rest := [(.int (0 : Int32)), (.ref b3), (.int (Int32.ofNat oo)), (.ref a0)]) pd_16 rfl rfl rfl (W := 4) (Nat.le_of_eq rfl) (D 19 rfl) rfl e3 (by decide) (by decide)
  obtain ⟨rfl, Nq12, hs12⟩ := hQ12
  have N13 := Fr.app N2 Nq12
  refine OFin.of (fun t ht => iN X3 hx rfl (D 16 rfl) rfl (XS.isub X3.here hx rfl (D 17 rfl) rfl (iN X3 hx rfl (D 18 rfl) rfl (st12.trans ht)))) ?_
  rw [own_minn2 Tx hon]
  obtain ⟨T14, h14, X14, e14, K14, V14, st14⟩ := own_acopy X12 hx hZ hown (wt hw 237 rfl) (wt hw 240 rfl) (wt hw 238 rfl) (wt hw 239 rfl) hs12 f7 f10 ne6 (o := oo) (n := 2) hon (g := (mkF m 27 #[.val (.ref a0), .val (.int (Int32.ofNat oo)), .val (.int (Int32.ofNat (oo + 2))), .val (.int (2 : Int32)), .val (.ref b3)] [(.int (2 : Int32)), (.int (0 : Int32)), (.ref b3), (.int (Int32.ofNat oo)), (.ref a0)])) rfl (by rw [hml]; rfl) rfl (D 20 rfl) (by decide) (by show 2 * 0 + 0 + (nativeFrameWords "java/lang/System" "arraycopy" 5 + 11) ≤ _; decide)
  have N15 := Fr.app N13 (fun x hx_ => by rw [copyLocs_base hx_]; exact g4 : Fr n0 (copyLocs b3 0 2))
  have f16 := (f7.keep K14 (ninS ne6 nin0))
  have Z17 := Nat.le_trans Z8 K14.1
  have K18 := K9.trans K14 (allS (Or.inr sz5) all0)
  have f19 : Arv Z h14 b3 k3 .byte (2 : Int32) [(.int (pre.getD oo 0)), (.int (pre.getD (oo + 1) 0))] (.int (0 : Int32)) := (by have q := V14; rw [own_take2 hon] at q; exact q)
  refine OFin.of st14 ?_
  refine OFin.of (S' := T14.setTop (mkF m 32 #[.val (.ref a0), .val (.int (Int32.ofNat oo)), .val (.int (Int32.ofNat (oo + 2))), .val (.int (2 : Int32)), .val (.ref b3)] [(.ref b3)])) (fun t ht => aW X14 hx rfl (D 21 rfl) rfl rfl ht) ?_
  exact OFin.retA X14 hx hlk (t := (.array .byte)) rfl rfl hret (D 22 rfl) (by decide) (by decide) (by rw [e14]; exact ⟨by rw [← gq3], N15, K18, k3, by rw [← gq3]; exact f19⟩)
theorem efCor2 {m : MethodId} {a0 : Addr} {oo : Nat} : entryFrame m #[(.ref a0), (.int (Int32.ofNat oo)), (.int (Int32.ofNat (oo + 2)))] 3 = mkF m 0 #[.val (.ref a0), .val (.int (Int32.ofNat oo)), .val (.int (Int32.ofNat (oo + 2)))] [] := by first | (simp [entryFrame, mkF, argsToLocals, Value.category]; done) | rfl
def QCor2 (Z : State) (a0 : Addr) (kt : ClassId) (nt : Int32) (pre : List Int32) (oo : Nat) (h0 : Heap) (n0 : Nat) (v : Option Value) (h : Heap) (L : List Loc) : Prop := v = some (.ref h0.size) ∧ Fr n0 L ∧ Keep h0 h [] ∧ ∃ kb, Arv Z h h0.size kb .byte (2 : Int32) [(.int (pre.getD oo 0)), (.int (pre.getD (oo + 1) 0))] (.int (0 : Int32))
theorem rmCor2 (l : Launch) (Z : State) (a0 : Array Value) (hw : HW a0 Z) (ws : List Jvm.Cond) (a0 : Addr) (kt : ClassId) (nt : Int32) (pre : List Int32) (oo : Nat) (h0 : Heap) (n0 : Nat) (Z0 : n0 ≤ h0.size) (Tx : Txt Z h0 a0 kt nt pre) (hon : oo + 2 ≤ pre.length) (ho : 0 < oo) :
    Con l mn34 (Jvm.Cond.code mn34 jdk_65_method_132_code 3 (some (.array .byte))) ws (⟨2, 1, 2, 56⟩ : Jvm.Room) #[(.ref a0), (.int (Int32.ofNat oo)), (.int (Int32.ofNat (oo + 2)))] Z h0 (QCor2 Z a0 kt nt pre oo h0 n0) := by
  refine own_of (plainFor_of_name pn_4) hisR dl_jdk_65_132 ?_
  intro p e s m below meth c s₁ hx D hlk hret hml hZ hown hnm X0 e0
  replace hown : s.vm.findClass cH = some m.cls := hown
  have N0 := Fr.nil n0
  rw [efCor2]
  have K0 : Keep h0 h0 [] := Keep.refl _ _
  obtain ⟨_, T1, Lc1, X1, hQ1, st1⟩ := own_cS X0 hx hw hZ hown 227 228 164 229 rfl rfl rfl rfl (by decide) (rmCrb2 l Z _ hw [] a0 kt nt pre oo h0 n0 Z0 Tx hon) (by decide) (by decide) (g := (mkF m 13 #[.val (.ref a0), .val (.int (Int32.ofNat oo)), .val (.int (Int32.ofNat (oo + 2)))] [(.int (Int32.ofNat (oo + 2))), (.int (Int32.ofNat oo)), (.ref a0)])) rfl hml rfl (argsL := [(.ref a0), (.int (Int32.ofNat oo)), (.int (Int32.ofNat (oo + 2)))]) (rest := []) pd_17 rfl rfl rfl (W := 0) (Nat.le_of_eq rfl) (D 5 rfl) rfl e0 (by decide) (by decide)
  obtain ⟨rfl, Nq1, Kq1, ⟨kb_1, f2⟩⟩ := hQ1
  have N3 := Fr.app N0 Nq1
  obtain ⟨b1, gq1⟩ : ∃ z, z = h0.size := ⟨_, rfl⟩
  rw [← gq1] at f2 st1
  have g4 : n0 ≤ b1 := (Nat.le_trans Z0 (Nat.le_of_eq gq1.symm))
  have sz5 : h0.size ≤ b1 := (Nat.le_trans K0.1 (Nat.le_of_eq gq1.symm))
  have ne6 : a0 ≠ b1 := (Nat.ne_of_lt (Nat.lt_of_lt_of_le Tx.lt (Nat.le_of_eq gq1.symm)))
  have f7 := (Tx.keep Kq1 nin0)
  have Z8 := Nat.le_trans Z0 Kq1.1
  have K9 := K0.trans Kq1 all0
  refine OFin.of (fun t ht => iN X0 hx rfl (D 0 rfl) rfl (fY X0 hx rfl 1 10 rfl (D 1 rfl) rfl ((if0 _ _).trans (feq (own_o0 Tx hon ho : ¬ ((Int32.ofNat oo) = (0 : Int32)))).2) (by decide) (aN X0 hx rfl (D 2 rfl) rfl rfl (iN X0 hx rfl (D 3 rfl) rfl (iN X0 hx rfl (D 4 rfl) rfl (st1.trans ht)))))) ?_
  exact OFin.retA X1 hx hlk (t := (.array .byte)) rfl rfl hret (D 6 rfl) (by decide) (by decide) (by exact ⟨by rw [← gq1], N3, K9, kb_1, by rw [← gq1]; exact f2⟩)
theorem efCpo2 {m : MethodId} {a0 : Addr} {oo : Nat} : entryFrame m #[(.ref a0), (.int (Int32.ofNat oo)), (.int (2 : Int32))] 5 = mkF m 0 #[.val (.ref a0), .val (.int (Int32.ofNat oo)), .val (.int (2 : Int32)), .unset, .unset] [] := by first | (simp [entryFrame, mkF, argsToLocals, Value.category]; done) | rfl
def QCpo2 (Z : State) (a0 : Addr) (kt : ClassId) (nt : Int32) (pre : List Int32) (oo : Nat) (h0 : Heap) (n0 : Nat) (v : Option Value) (h : Heap) (L : List Loc) : Prop := v = some (.int (2 : Int32)) ∧ Fr n0 L ∧ h = h0
theorem rmCpo2 (l : Launch) (Z : State) (a0 : Array Value) (hw : HW a0 Z) (ws : List Jvm.Cond) (a0 : Addr) (kt : ClassId) (nt : Int32) (pre : List Int32) (oo : Nat) (h0 : Heap) (n0 : Nat) (Z0 : n0 ≤ h0.size) (Tx : Txt Z h0 a0 kt nt pre) (hon : oo + 2 ≤ pre.length) (hb0 : ¬ pre.getD (oo) 0 < (0 : Int32)) (hb1 : ¬ pre.getD (oo + 1) 0 < (0 : Int32)) :
    Con l mn35 (Jvm.Cond.code mn35 jdk_123_method_3_code 5 (some .int)) ws (⟨0, 0, 0, 0⟩ : Jvm.Room) #[(.ref a0), (.int (Int32.ofNat oo)), (.int (2 : Int32))] Z h0 (QCpo2 Z a0 kt nt pre oo h0 n0) := by
  refine own_of (plainFor_of_name pn_8) hisR dl_jdk_123_3 ?_
  intro p e s m below meth c s₁ hx D hlk hret hml hZ hown hnm X0 e0
  replace hown : s.vm.findClass "java/lang/StringCoding" = some m.cls := hown
  have N0 := Fr.nil n0
  rw [efCpo2]
  obtain ⟨cl1, Ar1, hin1, hat1⟩ := Txt.at Tx (j := (Int32.ofNat oo)) (i := oo) rfl (by omega)
  refine OFin.of (fun t ht => iN X0 hx rfl (D 0 rfl) rfl (iN X0 hx rfl (D 1 rfl) rfl (XS.iadd X0.here hx rfl (D 2 rfl) rfl (XS.istoreN X0.here hx rfl (D 3 rfl) rfl (l' := #[.val (.ref a0), .val (.int (Int32.ofNat oo)), .val (.int (2 : Int32)), .val (.int ((Int32.ofNat oo) + (2 : Int32))), .unset]) rfl (iN X0 hx rfl (D 4 rfl) rfl (sW X0 hx rfl (D 5 rfl) rfl (l' := #[.val (.ref a0), .val (.int (Int32.ofNat oo)), .val (.int (2 : Int32)), .val (.int ((Int32.ofNat oo) + (2 : Int32))), .val (.int (Int32.ofNat oo))]) rfl (iW X0 hx rfl (D 6 rfl) rfl (iN X0 hx rfl (D 7 rfl) rfl (cN X0 hx rfl (D 8 rfl) rfl (tlt ((by have h31_ := own_p31 Tx; simp only [own_succ, own_plus2]; rw [own_natlt (by omega) (by omega)]; omega) : (Int32.ofNat oo) < ((Int32.ofNat oo) + (2 : Int32)))).2.1 (aN X0 hx rfl (D 9 rfl) rfl rfl (iW X0 hx rfl (D 10 rfl) rfl (X0.baloadBytes hx (j := (Int32.ofNat oo)) (v := (.int (pre.getD oo 0))) (by rw [e0]; exact Ar1.1) (State.isArrayOf_alike hZ.alike Ar1.2.1) Ar1.2.2 hin1 hat1 (g := (mkF m 16 #[.val (.ref a0), .val (.int (Int32.ofNat oo)), .val (.int (2 : Int32)), .val (.int ((Int32.ofNat oo) + (2 : Int32))), .val (.int (Int32.ofNat oo))] [(.int (Int32.ofNat oo)), (.ref a0)])) rfl rfl (D 11 rfl) _ ht)))))))))))) ?_
  obtain ⟨cl2, Ar2, hin2, hat2⟩ := Txt.at Tx (j := ((Int32.ofNat oo) + (1 : Int32))) (i := (oo + 1)) (own_succ oo) (by omega)
  refine OFin.of (fun t ht => fY X0 hx rfl 17 25 rfl (D 12 rfl) rfl ((if0 _ _).trans (flt (hb0 : ¬ ((pre.getD oo 0) < (0 : Int32)))).2.1) (by decide) (iI X0 hx rfl (D 13 rfl) rfl (l' := (la4 a0 (Int32.ofNat oo) 2 ((Int32.ofNat oo) + (2 : Int32)) ((Int32.ofNat oo) + (1 : Int32)))) rfl (gO X0 hx rfl 28 7 rfl (D 14 rfl) (by decide) (iW X0 hx rfl (D 6 rfl) rfl (iN X0 hx rfl (D 7 rfl) rfl (cN X0 hx rfl (D 8 rfl) rfl (tlt ((by have h31_ := own_p31 Tx; simp only [own_succ, own_plus2]; rw [own_natlt (by omega) (by omega)]; omega) : ((Int32.ofNat oo) + (1 : Int32)) < ((Int32.ofNat oo) + (2 : Int32)))).2.1 (aN X0 hx rfl (D 9 rfl) rfl rfl (iW X0 hx rfl (D 10 rfl) rfl (X0.baloadBytes hx (j := ((Int32.ofNat oo) + (1 : Int32))) (v := (.int (pre.getD (oo + 1) 0))) (by rw [e0]; exact Ar2.1) (State.isArrayOf_alike hZ.alike Ar2.2.1) Ar2.2.2 hin2 hat2 (g := (mkF m 16 (la4 a0 (Int32.ofNat oo) 2 ((Int32.ofNat oo) + (2 : Int32)) ((Int32.ofNat oo) + (1 : Int32))) [(.int ((Int32.ofNat oo) + (1 : Int32))), (.ref a0)])) rfl rfl (D 11 rfl) _ ht))))))))) ?_
  refine OFin.of (S' := s₁.setTop (mkF m 32 (la4 a0 (Int32.ofNat oo) 2 ((Int32.ofNat oo) + (2 : Int32)) (((Int32.ofNat oo) + (1 : Int32)) + (1 : Int32))) [(.int (2 : Int32))])) (fun t ht => fY X0 hx rfl 17 25 rfl (D 12 rfl) rfl ((if0 _ _).trans (flt (hb1 : ¬ ((pre.getD (oo + 1) 0) < (0 : Int32)))).2.1) (by decide) (iI X0 hx rfl (D 13 rfl) rfl (l' := (la4 a0 (Int32.ofNat oo) 2 ((Int32.ofNat oo) + (2 : Int32)) (((Int32.ofNat oo) + (1 : Int32)) + (1 : Int32)))) rfl (gO X0 hx rfl 28 7 rfl (D 14 rfl) (by decide) (iW X0 hx rfl (D 6 rfl) rfl (iN X0 hx rfl (D 7 rfl) rfl (cY X0 hx rfl 10 31 rfl (D 8 rfl) rfl (flt ((by have h31_ := own_p31 Tx; simp only [own_succ, own_plus2]; rw [own_natlt (by omega) (by omega)]; omega) : ¬ ((((Int32.ofNat oo) + (1 : Int32)) + (1 : Int32)) < ((Int32.ofNat oo) + (2 : Int32))))).2.1 (by decide) (iN X0 hx rfl (D 15 rfl) rfl ht))))))) ?_
  exact OFin.retI X0 hx hlk hret (D 16 rfl) (by decide) (by decide) (by rw [e0]; exact ⟨rfl, N0, rfl⟩)
theorem efIu2 {m : MethodId} {a0 a1 a2 : Addr} {oo : Nat} : entryFrame m #[(.ref a0), (.ref a1), (.ref a2), (.int (Int32.ofNat oo)), (.int (2 : Int32))] 11 = mkF m 0 (la5 a0 a1 a2 (Int32.ofNat oo) 2) [] := by first | (simp [entryFrame, mkF, argsToLocals, Value.category]; done) | rfl
def QIu2 (Z : State) (a0 a1 a2 : Addr) (kt : ClassId) (nt : Int32) (pre : List Int32) (oo : Nat) (cs : Int32) (h0 : Heap) (n0 : Nat) (v : Option Value) (h : Heap) (L : List Loc) : Prop := v = none ∧ Fr n0 L ∧ Keep h0 h [a0] ∧ Fld Z h a0 cB "coder" "B" (.int (0 : Int32)) ∧ ∃ (t : Addr) (kb : ClassId), Fld Z h a0 cB "value" "[B" (.ref t) ∧ Arv Z h t kb .byte (2 : Int32) [(.int (pre.getD oo 0)), (.int (pre.getD (oo + 1) 0))] (.int (0 : Int32))
theorem rmIu2 (l : Launch) (Z : State) (a0 : Array Value) (hw : HW a0 Z) (ws : List Jvm.Cond) (a0 a1 a2 : Addr) (kt : ClassId) (nt : Int32) (pre : List Int32) (oo : Nat) (cs : Int32) (h0 : Heap) (n0 : Nat) (Z0 : n0 ≤ h0.size) (EA : Exa Z h0 a0 cB) (Fc : Fld Z h0 a0 cB "coder" "B" (.int (0 : Int32))) (Fv : Fld Z h0 a0 cB "value" "[B" .null) (Tx : Txt Z h0 a2 kt nt pre) (Scs : Sta Z h0 cB "COMPACT_STRINGS" "Z" (.int cs)) (hcs : ¬ cs = (0 : Int32)) (Su8 : Sta Z h0 "sun/nio/cs/UTF_8" "INSTANCE" c10 (.ref a1)) (g0 : n0 ≤ a0) (hne : a2 ≠ a0) (hon : oo + 2 ≤ pre.length) (ho : 0 < oo) (hb0 : ¬ pre.getD (oo) 0 < (0 : Int32)) (hb1 : ¬ pre.getD (oo + 1) 0 < (0 : Int32)) :
    Con l mn36 (Jvm.Cond.codeWith mn36 jdk_42_method_11_code 11 none [((800 : Nat), (813 : Nat), (816 : Nat), (202 : Nat))]) ws (⟨3, 1, 2, 71⟩ : Jvm.Room) #[(.ref a0), (.ref a1), (.ref a2), (.int (Int32.ofNat oo)), (.int (2 : Int32))] Z h0 (QIu2 Z a0 a1 a2 kt nt pre oo cs h0 n0) := by
  refine own_of (plainFor_of_name pn_2) hisWith dl_jdk_42_11 ?_
  intro p e s m below meth c s₁ hx D hlk hret hml hZ hown hnm X0 e0
  replace hown : s.vm.findClass cB = some m.cls := hown
  have N0 := Fr.nil n0
  rw [efIu2]
  have K0 : Keep h0 h0 [a0] := Keep.refl _ _
  obtain ⟨T1, X1, e1, st1⟩ := initO X0 hx hZ hown (wt hw 200 rfl) (wt hw 25 rfl) (wt hw 26 rfl) e0 (g := (mkF m 1 (la5 a0 a1 a2 (Int32.ofNat oo) 2) [(.ref a0)])) rfl (by rw [hml]; rfl) rfl (D 1 rfl) (by decide) (W := 0) (by show 2 * 0 + _ ≤ _; exact Nat.le_of_eq rfl) (by decide)
  refine OFin.of (fun t ht => aN X0 hx rfl (D 0 rfl) rfl rfl (st1 t ht)) ?_
  obtain ⟨T2, X2, e2, st2⟩ := getS (host := "") X1 hx hZ hown (wt hw 218 rfl) Via.refl e1 Su8 (g := (mkF m 31 (la5 a0 a1 a2 (Int32.ofNat oo) 2) [(.ref a1)])) rfl (D 5 rfl)
  refine OFin.of (fun t ht => iW X1 hx rfl (D 2 rfl) rfl (fY X1 hx rfl 6 30 rfl (D 3 rfl) rfl ((if0 _ _).trans (feq (by decide : ¬ ((2 : Int32) = (0 : Int32)))).2) (by decide) (aN X1 hx rfl (D 4 rfl) rfl rfl (st2 t ht)))) ?_
  obtain ⟨T3, X3, e3, st3⟩ := getS (host := "") X2 hx hZ hown (wt hw 129 rfl) Via.refl e2 Scs (g := (mkF m 37 (la5 a0 a1 a2 (Int32.ofNat oo) 2) [])) rfl (D 7 rfl)
  refine OFin.of (fun t ht => acmp X2 hx rfl (cd := .ne) (x := (.ref a1)) (y := (.ref a1)) rfl rfl (pc0 := 34) (pc' := 37) (same := true) rfl (D 6 rfl) rfl (decide_eq_true rfl) (by decide) (by decide) (st3 t ht)) ?_
  obtain ⟨_, T4, Lc4, X4, hQ4, st4⟩ := own_cS X3 hx hw hZ hown 220 221 222 223 rfl rfl rfl rfl (by decide) (rmCpo2 l Z _ hw [] a2 kt nt pre oo h0 n0 Z0 Tx hon hb0 hb1) (by decide) (by decide) (g := (mkF m 47 (la5 a0 a1 a2 (Int32.ofNat oo) 2) [(.int (2 : Int32)), (.int (Int32.ofNat oo)), (.ref a2)])) rfl hml rfl (argsL := [(.ref a2), (.int (Int32.ofNat oo)), (.int (2 : Int32))]) (rest := []) pd_18 rfl rfl rfl (W := 0) (Nat.le_of_eq rfl) (D 12 rfl) rfl e3 (by decide) (by decide)
  obtain ⟨rfl, Nq4, hs4⟩ := hQ4
  have N5 := Fr.app N0 Nq4
  refine OFin.of (fun t ht => fN X3 hx rfl (D 8 rfl) rfl ((if0 _ _).trans (feq (hcs : ¬ (cs = (0 : Int32)))).1) (aN X3 hx rfl (D 9 rfl) rfl rfl (iN X3 hx rfl (D 10 rfl) rfl (iW X3 hx rfl (D 11 rfl) rfl (st4.trans ht))))) ?_
  refine OFin.of (S' := T4.setTop (mkF m 66 (la6 a0 a1 a2 (Int32.ofNat oo) 2 2) [(.int ((Int32.ofNat oo) + (2 : Int32))), (.int (Int32.ofNat oo)), (.ref a2), (.ref a0)])) (fun t ht => sW X4 hx rfl (D 13 rfl) rfl (l' := (la6 a0 a1 a2 (Int32.ofNat oo) 2 2)) rfl (iW X4 hx rfl (D 14 rfl) rfl (iW X4 hx rfl (D 15 rfl) rfl (cN X4 hx rfl (D 16 rfl) rfl (teq (by decide : (2 : Int32) = (2 : Int32))).2 (aN X4 hx rfl (D 17 rfl) rfl rfl (aN X4 hx rfl (D 18 rfl) rfl rfl (iN X4 hx rfl (D 19 rfl) rfl (iN X4 hx rfl (D 20 rfl) rfl (iW X4 hx rfl (D 21 rfl) rfl (XS.iadd X4.here hx rfl (D 22 rfl) rfl ht)))))))))) ?_
  rw [own_plus2 oo]
  obtain ⟨_, T6, Lc6, X6, hQ6, st6⟩ := own_cS X4 hx hw hZ hown 224 225 164 226 rfl rfl rfl rfl (by decide) (rmCor2 l Z _ hw [] a2 kt nt pre oo h0 n0 Z0 Tx hon ho) (by decide) (by decide) (g := (mkF m 66 (la6 a0 a1 a2 (Int32.ofNat oo) 2 2) [(.int (Int32.ofNat (oo + 2))), (.int (Int32.ofNat oo)), (.ref a2), (.ref a0)])) rfl hml rfl (argsL := [(.ref a2), (.int (Int32.ofNat oo)), (.int (Int32.ofNat (oo + 2)))]) (rest := [(.ref a0)]) pd_17 rfl rfl rfl (W := 1) (Nat.le_of_eq rfl) (D 23 rfl) rfl hs4 (by decide) (by decide)
  obtain ⟨rfl, Nq6, Kq6, ⟨kb_6, f7⟩⟩ := hQ6
  have N8 := Fr.app N5 Nq6
  obtain ⟨b6, gq6⟩ : ∃ z, z = h0.size := ⟨_, rfl⟩
  rw [← gq6] at f7 st6
  have g9 : n0 ≤ b6 := (Nat.le_trans Z0 (Nat.le_of_eq gq6.symm))
  have sz10 : h0.size ≤ b6 := (Nat.le_trans K0.1 (Nat.le_of_eq gq6.symm))
  have ne11 : a0 ≠ b6 := (Nat.ne_of_lt (Nat.lt_of_lt_of_le EA.lt (Nat.le_of_eq gq6.symm)))
  have ne12 : a2 ≠ b6 := (Nat.ne_of_lt (Nat.lt_of_lt_of_le Tx.lt (Nat.le_of_eq gq6.symm)))
  have f13 := (EA.keep Kq6)
  have f14 := (Fc.keep Kq6 nin0)
  have f15 := (Fv.keep Kq6 nin0)
  have f16 := (Tx.keep Kq6 nin0)
  have f17 := (own_staKeep Scs Kq6 own_sn0)
  have f18 := (own_staKeep Su8 Kq6 own_sn0)
  have Z19 := Nat.le_trans Z0 Kq6.1
  have K20 := K0.trans Kq6 all0
  refine OFin.to st6 ?_
  obtain ⟨T21, h21, X21, e21, W21, st21⟩ := putF X6 hx hZ hown (host := "") (Or.inl (wt hw 123 rfl)) Via.refl (rfl : T6.heap = T6.heap) f15 f13 (Or.inr ⟨(wt hw 106 rfl), rfl, hnm⟩) (wt hw 105 rfl) (ty := (.array .byte)) (by decide) rfl rfl (g := (mkF m 69 (la6 a0 a1 a2 (Int32.ofNat oo) 2 2) [(.ref b6), (.ref a0)])) rfl rfl (D 24 rfl)
  have f22 := (f13.wr W21)
  have f23 := (f14.other W21 (Or.inr (sn0 hw)))
  have f24 := (f16.other W21 hne)
  have f25 := (f17.wr W21)
  have f26 := (f18.wr W21)
  have f27 := (f7.other W21 (Ne.symm ne11))
  have Z28 := Nat.le_trans Z19 (Keep.of_wr W21).1
  have K29 := K20.wr W21 (Or.inl (List.mem_of_getElem? (i := 0) rfl))
  have N30 := Fr.snoc X21 N8 g0
  have f31 : Fld Z h21 a0 cB "value" "[B" (.ref b6) := (f15.same W21)
  refine OFin.of st21 ?_
  obtain ⟨T32, h32, X32, e32, W32, st32⟩ := putFN X21 hx hZ hown (wt hw 130 rfl) Via.refl e21 f23 f22 (Or.inr ⟨(wt hw 107 rfl), rfl, hnm⟩) (wt hw 105 rfl) (ty := .byte) (v' := (.int (0 : Int32))) (by decide) rfl rfl (g := (mkF m 74 (la6 a0 a1 a2 (Int32.ofNat oo) 2 2) [(.int (0 : Int32)), (.ref a0)])) rfl rfl (D 27 rfl)
  have f33 := (f22.wr W32)
  have f34 := (f24.other W32 hne)
  have f35 := (f25.wr W32)
  have f36 := (f26.wr W32)
  have f37 := (f27.other W32 (Ne.symm ne11))
  have f38 := (f31.other W32 (Or.inr (sn1 hw)))
  have Z39 := Nat.le_trans Z28 (Keep.of_wr W32).1
  have K40 := K29.wr W32 (Or.inl (List.mem_of_getElem? (i := 0) rfl))
  have N41 := Fr.snoc X32 N30 g0
  have f42 : Fld Z h32 a0 cB "coder" "B" (.int (0 : Int32)) := (f23.same W32)
  refine OFin.of (fun t ht => aN X21 hx rfl (D 25 rfl) rfl rfl (iC X21 hx rfl (D 26 rfl) (st32 t ht))) ?_
  exact OFin.retV X32 hx hlk hret (D 28 rfl) (by decide) (by decide) (by rw [e32]; exact ⟨rfl, N41, K40, f42, b6, kb_6, f38, f37⟩)
theorem efCfN {m : MethodId} {p0 p1 p2 : Int32} : entryFrame m #[(.int p0), (.int p1), (.int p2), .null] 4 = mkF m 0 #[.val (.int p0), .val (.int p1), .val (.int p2), .val .null] [] := by first | (simp [entryFrame, mkF, argsToLocals, Value.category]; done) | rfl
def QCfN (Z : State) (p0 p1 p2 : Int32) (h0 : Heap) (n0 : Nat) (v : Option Value) (h : Heap) (L : List Loc) : Prop := v = some (.int p0) ∧ Fr n0 L ∧ h = h0
theorem rmCfN (l : Launch) (Z : State) (a0 : Array Value) (hw : HW a0 Z) (ws : List Jvm.Cond) (p0 p1 p2 : Int32) (h0 : Heap) (n0 : Nat) (Z0 : n0 ≤ h0.size) (hq1 : ¬ ((p2 ||| p0) ||| p1) < (0 : Int32)) (hq2 : ¬ (p2 - p0) < p1) :
    Con l mn37 (Jvm.Cond.code mn37 jdk_41_method_13_code 4 (some .int)) ws (⟨0, 0, 0, 0⟩ : Jvm.Room) #[(.int p0), (.int p1), (.int p2), .null] Z h0 (QCfN Z p0 p1 p2 h0 n0) := by
  refine own_of (plainFor_of_name pn_1) hisR dl_jdk_41_13 ?_
  intro p e s m below meth c s₁ hx D hlk hret hml hZ hown hnm X0 e0
  replace hown : s.vm.findClass cE = some m.cls := hown
  have N0 := Fr.nil n0
  rw [efCfN]
  refine OFin.of (S' := s₁.setTop (mkF m 24 #[.val (.int p0), .val (.int p1), .val (.int p2), .val .null] [(.int p0)])) (fun t ht => iN X0 hx rfl (D 0 rfl) rfl (iN X0 hx rfl (D 1 rfl) rfl (XS.ior X0.here hx rfl (D 2 rfl) rfl (iN X0 hx rfl (D 3 rfl) rfl (XS.ior X0.here hx rfl (D 4 rfl) rfl (fN X0 hx rfl (D 5 rfl) rfl ((if0 _ _).trans (flt (hq1 : ¬ (((p2 ||| p0) ||| p1) < (0 : Int32)))).1) (iN X0 hx rfl (D 6 rfl) rfl (iN X0 hx rfl (D 7 rfl) rfl (iN X0 hx rfl (D 8 rfl) rfl (XS.isub X0.here hx rfl (D 9 rfl) rfl (cY X0 hx rfl 12 23 rfl (D 10 rfl) rfl (flt (hq2 : ¬ ((p2 - p0) < p1))).2.2.2 (by decide) (iN X0 hx rfl (D 11 rfl) rfl ht)))))))))))) ?_
  exact OFin.retI X0 hx hlk hret (D 12 rfl) (by decide) (by decide) (by rw [e0]; exact ⟨rfl, N0, rfl⟩)
theorem efCfR {m : MethodId} {p0 p1 p2 : Int32} {a3 : Addr} : entryFrame m #[(.int p0), (.int p1), (.int p2), (.ref a3)] 4 = mkF m 0 #[.val (.int p0), .val (.int p1), .val (.int p2), .val (.ref a3)] [] := by first | (simp [entryFrame, mkF, argsToLocals, Value.category]; done) | rfl
def QCfR (Z : State) (p0 p1 p2 : Int32) (a3 : Addr) (h0 : Heap) (n0 : Nat) (v : Option Value) (h : Heap) (L : List Loc) : Prop := v = some (.int p0) ∧ Fr n0 L ∧ h = h0
theorem rmCfR (l : Launch) (Z : State) (a0 : Array Value) (hw : HW a0 Z) (ws : List Jvm.Cond) (p0 p1 p2 : Int32) (a3 : Addr) (h0 : Heap) (n0 : Nat) (Z0 : n0 ≤ h0.size) (hq1 : ¬ ((p2 ||| p0) ||| p1) < (0 : Int32)) (hq2 : ¬ (p2 - p0) < p1) :
    Con l mn37 (Jvm.Cond.code mn37 jdk_41_method_13_code 4 (some .int)) ws (⟨0, 0, 0, 0⟩ : Jvm.Room) #[(.int p0), (.int p1), (.int p2), (.ref a3)] Z h0 (QCfR Z p0 p1 p2 a3 h0 n0) := by
  refine own_of (plainFor_of_name pn_1) hisR dl_jdk_41_13 ?_
  intro p e s m below meth c s₁ hx D hlk hret hml hZ hown hnm X0 e0
  replace hown : s.vm.findClass cE = some m.cls := hown
  have N0 := Fr.nil n0
  rw [efCfR]
  refine OFin.of (S' := s₁.setTop (mkF m 24 #[.val (.int p0), .val (.int p1), .val (.int p2), .val (.ref a3)] [(.int p0)])) (fun t ht => iN X0 hx rfl (D 0 rfl) rfl (iN X0 hx rfl (D 1 rfl) rfl (XS.ior X0.here hx rfl (D 2 rfl) rfl (iN X0 hx rfl (D 3 rfl) rfl (XS.ior X0.here hx rfl (D 4 rfl) rfl (fN X0 hx rfl (D 5 rfl) rfl ((if0 _ _).trans (flt (hq1 : ¬ (((p2 ||| p0) ||| p1) < (0 : Int32)))).1) (iN X0 hx rfl (D 6 rfl) rfl (iN X0 hx rfl (D 7 rfl) rfl (iN X0 hx rfl (D 8 rfl) rfl (XS.isub X0.here hx rfl (D 9 rfl) rfl (cY X0 hx rfl 12 23 rfl (D 10 rfl) rfl (flt (hq2 : ¬ ((p2 - p0) < p1))).2.2.2 (by decide) (iN X0 hx rfl (D 11 rfl) rfl ht)))))))))))) ?_
  exact OFin.retI X0 hx hlk hret (D 12 rfl) (by decide) (by decide) (by rw [e0]; exact ⟨rfl, N0, rfl⟩)
theorem rmCf (l : Launch) (Z : State) (a0 : Array Value) (hw : ∀ d ∈ tables_1, d.before a0 Z = true) (p0 p1 p2 : Int32) (fm : Value) (hfm : fm.isRef = true) (h0 : Heap) (n0 : Nat) (Z0 : n0 ≤ h0.size) (hq1 : ¬ ((p2 ||| p0) ||| p1) < (0 : Int32)) (hq2 : ¬ (p2 - p0) < p1) :
    MetFree l mn37 (head1 [Jvm.Cond.code mn37 jdk_41_method_13_code 4 (some .int)] ({ frames := 0, cells := 0, slots := 0, locals := 0 } : Room)) (fun a U => a = #[(.int p0), (.int p1), (.int p2), fm] ∧ Z.Warmed39 U.vm ∧ U.heap = h0) (fun _ _ _ _ _ => True) (fun _ U o U' => ∃ v L, o = .returned v ∧ OwnMet p0 h0 n0 v U'.heap L ∧ FrameEnd U o U' L ({ frames := 0, cells := 0, slots := 0, locals := 0 } : Room).cells ({ frames := 0, cells := 0, slots := 0, locals := 0 } : Room).slots) := by
  rcases ref_cases hfm with rfl | ⟨f, rfl⟩
  · exact rmCfN l Z _ hw [] p0 p1 p2 h0 n0 Z0 hq1 hq2
  · exact rmCfR l Z _ hw [] p0 p1 p2 f h0 n0 Z0 hq1 hq2
theorem efCbo {m : MethodId} {p0 p1 p2 : Int32} : entryFrame m #[(.int p0), (.int p1), (.int p2)] 3 = mkF m 0 #[.val (.int p0), .val (.int p1), .val (.int p2)] [] := by first | (simp [entryFrame, mkF, argsToLocals, Value.category]; done) | rfl
def QCbo (Z : State) (p0 p1 p2 : Int32) (fm : Value) (h0 : Heap) (n0 : Nat) (v : Option Value) (h : Heap) (L : List Loc) : Prop := v = some (.int p0) ∧ Fr n0 L ∧ h = h0
theorem rmCbo (l : Launch) (Z : State) (a0 : Array Value) (hw : HW a0 Z) (ws : List Jvm.Cond) (p0 p1 p2 : Int32) (fm : Value) (h0 : Heap) (n0 : Nat) (Z0 : n0 ≤ h0.size) (Sfm : Sta Z h0 cE "SIOOBE_FORMATTER" cF fm) (hfm : fm.isRef = true) (hq1 : ¬ ((p2 ||| p0) ||| p1) < (0 : Int32)) (hq2 : ¬ (p2 - p0) < p1) :
    Con l mn38 (Jvm.Cond.code mn38 jdk_42_method_157_code 3 (some .int)) ws (⟨1, 0, 0, 15⟩ : Jvm.Room) #[(.int p0), (.int p1), (.int p2)] Z h0 (QCbo Z p0 p1 p2 fm h0 n0) := by
  refine own_of (plainFor_of_name pn_2) hisR dl_jdk_42_157 ?_
  intro p e s m below meth c s₁ hx D hlk hret hml hZ hown hnm X0 e0
  replace hown : s.vm.findClass cB = some m.cls := hown
  have N0 := Fr.nil n0
  rw [efCbo]
  obtain ⟨T1, X1, e1, st1⟩ := getS (host := "") X0 hx hZ hown (wt hw 148 rfl) Via.refl e0 Sfm (g := (mkF m 3 #[.val (.int p0), .val (.int p1), .val (.int p2)] [(.int p2), (.int p1), (.int p0)])) rfl (D 3 rfl)
  refine OFin.of (fun t ht => iN X0 hx rfl (D 0 rfl) rfl (iN X0 hx rfl (D 1 rfl) rfl (iN X0 hx rfl (D 2 rfl) rfl (st1 t ht)))) ?_
  obtain ⟨_, T2, Lc2, X2, hQ2, st2⟩ := own_cS X1 hx hw hZ hown 193 194 149 195 rfl rfl rfl rfl (by decide) (rmCf l Z _ hw p0 p1 p2 fm hfm h0 n0 Z0 hq1 hq2) (by decide) (by decide) (g := (mkF m 6 #[.val (.int p0), .val (.int p1), .val (.int p2)] [fm, (.int p2), (.int p1), (.int p0)])) rfl hml rfl (argsL := [(.int p0), (.int p1), (.int p2), fm]) (rest := []) pd_19 rfl rfl rfl (W := 0) (Nat.le_of_eq rfl) (D 4 rfl) rfl e1 (by decide) (by decide)
  obtain ⟨rfl, Nq2, hs2⟩ := hQ2
  have N3 := Fr.app N0 Nq2
  refine OFin.to st2 ?_
  exact OFin.retI X2 hx hlk hret (D 5 rfl) (by decide) (by decide) (by rw [hs2]; exact ⟨rfl, N3, rfl⟩)
theorem efIb1 {m : MethodId} {a0 a1 a4 : Addr} {oo : Nat} : entryFrame m #[(.ref a0), (.ref a1), (.int (Int32.ofNat oo)), (.int (1 : Int32)), (.ref a4)] 5 = mkF m 0 #[.val (.ref a0), .val (.ref a1), .val (.int (Int32.ofNat oo)), .val (.int (1 : Int32)), .val (.ref a4)] [] := by first | (simp [entryFrame, mkF, argsToLocals, Value.category]; done) | rfl
def QIb1 (Z : State) (a0 a1 a4 : Addr) (kt : ClassId) (nt : Int32) (pre : List Int32) (oo : Nat) (cs : Int32) (fm : Value) (h0 : Heap) (n0 : Nat) (v : Option Value) (h : Heap) (L : List Loc) : Prop := v = none ∧ Fr n0 L ∧ Keep h0 h [a0] ∧ Fld Z h a0 cB "coder" "B" (.int (0 : Int32)) ∧ ∃ (t : Addr) (kb : ClassId), Fld Z h a0 cB "value" "[B" (.ref t) ∧ Arv Z h t kb .byte (1 : Int32) [(.int (pre.getD oo 0))] (.int (0 : Int32))
theorem rmIb1 (l : Launch) (Z : State) (a0 : Array Value) (hw : HW a0 Z) (ws : List Jvm.Cond) (a0 a1 a4 : Addr) (kt : ClassId) (nt : Int32) (pre : List Int32) (oo : Nat) (cs : Int32) (fm : Value) (h0 : Heap) (n0 : Nat) (Z0 : n0 ≤ h0.size) (EA : Exa Z h0 a0 cB) (Fc : Fld Z h0 a0 cB "coder" "B" (.int (0 : Int32))) (Fv : Fld Z h0 a0 cB "value" "[B" .null) (EC : Exa Z h0 a4 "sun/nio/cs/UTF_8") (Tx : Txt Z h0 a1 kt nt pre) (Scs : Sta Z h0 cB "COMPACT_STRINGS" "Z" (.int cs)) (hcs : ¬ cs = (0 : Int32)) (Su8 : Sta Z h0 "sun/nio/cs/UTF_8" "INSTANCE" c10 (.ref a4)) (Sfm : Sta Z h0 cE "SIOOBE_FORMATTER" cF fm) (hfm : fm.isRef = true) (g0 : n0 ≤ a0) (hne : a1 ≠ a0) (hon : oo + 1 ≤ pre.length) (ho : 0 < oo) (hb0 : ¬ pre.getD (oo) 0 < (0 : Int32)) :
    Con l mn39 (Jvm.Cond.code mn39 jdk_42_method_10_code 5 none) ws (⟨4, 1, 1, 93⟩ : Jvm.Room) #[(.ref a0), (.ref a1), (.int (Int32.ofNat oo)), (.int (1 : Int32)), (.ref a4)] Z h0 (QIb1 Z a0 a1 a4 kt nt pre oo cs fm h0 n0) := by
  refine own_of (plainFor_of_name pn_2) hisR dl_jdk_42_10 ?_
  intro p e s m below meth c s₁ hx D hlk hret hml hZ hown hnm X0 e0
  replace hown : s.vm.findClass cB = some m.cls := hown
  have N0 := Fr.nil n0
  rw [efIb1]
  have K0 : Keep h0 h0 [a0] := Keep.refl _ _
  obtain ⟨_, T1, Lc1, X1, hQ1, st1⟩ := own_cS X0 hx hw hZ hown 184 185 186 187 rfl rfl rfl rfl (by decide) (rmRnn l Z _ hw [] a4 h0 n0 Z0 ) (by decide) (by decide) (g := (mkF m 3 #[.val (.ref a0), .val (.ref a1), .val (.int (Int32.ofNat oo)), .val (.int (1 : Int32)), .val (.ref a4)] [(.ref a4), (.ref a0)])) rfl hml rfl (argsL := [(.ref a4)]) (rest := [(.ref a0)]) pd_20 rfl rfl rfl (W := 1) (Nat.le_of_eq rfl) (D 2 rfl) rfl e0 (by decide) (by decide)
  obtain ⟨rfl, Nq1, hs1⟩ := hQ1
  have N2 := Fr.app N0 Nq1
  refine OFin.of (fun t ht => aN X0 hx rfl (D 0 rfl) rfl rfl (aW X0 hx rfl (D 1 rfl) rfl rfl (st1.trans ht))) ?_
  obtain ⟨T3, X3, e3, st3⟩ := castY X1 hx hZ hown (wt hw 188 rfl) hs1 (Ins.of_exa EC (wt hw 189 rfl)) (g := (mkF m 6 #[.val (.ref a0), .val (.ref a1), .val (.int (Int32.ofNat oo)), .val (.int (1 : Int32)), .val (.ref a4)] [(.ref a4), (.ref a0)])) rfl rfl (D 3 rfl)
  refine OFin.of st3 ?_
  obtain ⟨bs4, ⟨cl4, Ar4, q4, S4, Ng4, H4, G4⟩, -⟩ := id Tx
  refine OFin.of (fun t ht => aN X3 hx rfl (D 4 rfl) rfl rfl (iN X3 hx rfl (D 5 rfl) rfl (iN X3 hx rfl (D 6 rfl) rfl (aN X3 hx rfl (D 7 rfl) rfl rfl (own_alen X3 hx hZ e3 Ar4 S4 Ng4 (g := (mkF m 13 #[.val (.ref a0), .val (.ref a1), .val (.int (Int32.ofNat oo)), .val (.int (1 : Int32)), .val (.ref a4)] [(.ref a1), (.int (1 : Int32)), (.int (Int32.ofNat oo)), (.ref a1), (.ref a4), (.ref a0)])) rfl rfl (D 8 rfl) ht))))) ?_
  obtain ⟨_, T5, Lc5, X5, hQ5, st5⟩ := own_cS X3 hx hw hZ hown 190 191 104 192 rfl rfl rfl rfl (by decide) (rmCbo l Z _ hw [] (Int32.ofNat oo) (1 : Int32) nt fm h0 n0 Z0 Sfm hfm (own_cf1 Tx hon) (own_cf2 Tx hon)) (by decide) (by decide) (g := (mkF m 14 #[.val (.ref a0), .val (.ref a1), .val (.int (Int32.ofNat oo)), .val (.int (1 : Int32)), .val (.ref a4)] [(.int nt), (.int (1 : Int32)), (.int (Int32.ofNat oo)), (.ref a1), (.ref a4), (.ref a0)])) rfl hml rfl (argsL := [(.int (Int32.ofNat oo)), (.int (1 : Int32)), (.int nt)]) (rest := [(.ref a1), (.ref a4), (.ref a0)]) pd_21 rfl rfl rfl (W := 3) (Nat.le_of_eq rfl) (D 9 rfl) rfl e3 (by decide) (by decide)
  obtain ⟨rfl, Nq5, hs5⟩ := hQ5
  have N6 := Fr.app N2 Nq5
  refine OFin.to st5 ?_
  obtain ⟨_, _, ⟨T7, L7, k7, n7⟩, -, X7, ⟨Lc7, hQ7, l7, y7, z7⟩, st7⟩ := X5.specialBackH hx (y := mn36) rfl hown (mvT hZ (wt hw 196 rfl)) (mvT hZ (wt hw 197 rfl)) (mvT hZ (wt hw 199 rfl)) (by decide) (backOfWith (W := 0) (rmIu1 l Z _ hw [] a0 a4 a1 kt nt pre oo cs h0 n0 Z0 EA Fc Fv Tx Scs hcs Su8 g0 hne hon ho hb0) hZ (wt hw 199 rfl) (wt hw 104 rfl) (by decide) (by decide)) (g := (mkF m 18 #[.val (.ref a0), .val (.ref a1), .val (.int (Int32.ofNat oo)), .val (.int (1 : Int32)), .val (.ref a4)] [(.int (1 : Int32)), (.int (Int32.ofNat oo)), (.ref a1), (.ref a4), (.ref a0)])) rfl (by rw [hml]; rfl) (Steps.refl _) (a := a0) (argsL := [(.ref a4), (.ref a1), (.int (Int32.ofNat oo)), (.int (1 : Int32))]) (rest := []) (lenOf pd_22 rfl) rfl (by show 2 * 0 + _ ≤ _; exact Nat.le_of_eq rfl) (D 11 rfl) (fun _ _ => ⟨rfl, hs5, (by decide : 0 + 1 ≤ _), (by decide : 0 + 1 ≤ _)⟩)
  dsimp only [Pt.U, Pt.locs, Pt.cells, Pt.slots] at X7 l7 y7 z7 st7 hQ7
  subst l7 y7 z7
  obtain ⟨rfl, Nq7, Kq7, f7a, t7, kb7, f7b, f7c⟩ := hQ7
  have N8 := Fr.app N6 Nq7
  have f9 := (EA.keep Kq7)
  have f10 := (EC.keep Kq7)
  have f11 := (Tx.keep Kq7 (ninS hne nin0))
  have f12 := (own_staKeep Scs Kq7 (own_snS EA own_sn0))
  have f13 := (own_staKeep Su8 Kq7 (own_snS EA own_sn0))
  have f14 := (own_staKeep Sfm Kq7 (own_snS EA own_sn0))
  have Z15 := Nat.le_trans Z0 Kq7.1
  have K16 := K0.trans Kq7 (allS (Or.inl (List.mem_of_getElem? (i := 0) rfl)) all0)
  refine OFin.of (fun t ht => iN X5 hx rfl (D 10 rfl) rfl (st7.trans ht)) ?_
  exact OFin.retV X7 hx hlk hret (D 12 rfl) (by decide) (by decide) (by exact ⟨rfl, N8, K16, f7a, t7, kb7, f7b, f7c⟩)
theorem efIb2 {m : MethodId} {a0 a1 a4 : Addr} {oo : Nat} : entryFrame m #[(.ref a0), (.ref a1), (.int (Int32.ofNat oo)), (.int (2 : Int32)), (.ref a4)] 5 = mkF m 0 #[.val (.ref a0), .val (.ref a1), .val (.int (Int32.ofNat oo)), .val (.int (2 : Int32)), .val (.ref a4)] [] := by first | (simp [entryFrame, mkF, argsToLocals, Value.category]; done) | rfl
def QIb2 (Z : State) (a0 a1 a4 : Addr) (kt : ClassId) (nt : Int32) (pre : List Int32) (oo : Nat) (cs : Int32) (fm : Value) (h0 : Heap) (n0 : Nat) (v : Option Value) (h : Heap) (L : List Loc) : Prop := v = none ∧ Fr n0 L ∧ Keep h0 h [a0] ∧ Fld Z h a0 cB "coder" "B" (.int (0 : Int32)) ∧ ∃ (t : Addr) (kb : ClassId), Fld Z h a0 cB "value" "[B" (.ref t) ∧ Arv Z h t kb .byte (2 : Int32) [(.int (pre.getD oo 0)), (.int (pre.getD (oo + 1) 0))] (.int (0 : Int32))
theorem rmIb2 (l : Launch) (Z : State) (a0 : Array Value) (hw : HW a0 Z) (ws : List Jvm.Cond) (a0 a1 a4 : Addr) (kt : ClassId) (nt : Int32) (pre : List Int32) (oo : Nat) (cs : Int32) (fm : Value) (h0 : Heap) (n0 : Nat) (Z0 : n0 ≤ h0.size) (EA : Exa Z h0 a0 cB) (Fc : Fld Z h0 a0 cB "coder" "B" (.int (0 : Int32))) (Fv : Fld Z h0 a0 cB "value" "[B" .null) (EC : Exa Z h0 a4 "sun/nio/cs/UTF_8") (Tx : Txt Z h0 a1 kt nt pre) (Scs : Sta Z h0 cB "COMPACT_STRINGS" "Z" (.int cs)) (hcs : ¬ cs = (0 : Int32)) (Su8 : Sta Z h0 "sun/nio/cs/UTF_8" "INSTANCE" c10 (.ref a4)) (Sfm : Sta Z h0 cE "SIOOBE_FORMATTER" cF fm) (hfm : fm.isRef = true) (g0 : n0 ≤ a0) (hne : a1 ≠ a0) (hon : oo + 2 ≤ pre.length) (ho : 0 < oo) (hb0 : ¬ pre.getD (oo) 0 < (0 : Int32)) (hb1 : ¬ pre.getD (oo + 1) 0 < (0 : Int32)) :
    Con l mn39 (Jvm.Cond.code mn39 jdk_42_method_10_code 5 none) ws (⟨4, 1, 2, 93⟩ : Jvm.Room) #[(.ref a0), (.ref a1), (.int (Int32.ofNat oo)), (.int (2 : Int32)), (.ref a4)] Z h0 (QIb2 Z a0 a1 a4 kt nt pre oo cs fm h0 n0) := by
  refine own_of (plainFor_of_name pn_2) hisR dl_jdk_42_10 ?_
  intro p e s m below meth c s₁ hx D hlk hret hml hZ hown hnm X0 e0
  replace hown : s.vm.findClass cB = some m.cls := hown
  have N0 := Fr.nil n0
  rw [efIb2]
  have K0 : Keep h0 h0 [a0] := Keep.refl _ _
  obtain ⟨_, T1, Lc1, X1, hQ1, st1⟩ := own_cS X0 hx hw hZ hown 184 185 186 187 rfl rfl rfl rfl (by decide) (rmRnn l Z _ hw [] a4 h0 n0 Z0 ) (by decide) (by decide) (g := (mkF m 3 #[.val (.ref a0), .val (.ref a1), .val (.int (Int32.ofNat oo)), .val (.int (2 : Int32)), .val (.ref a4)] [(.ref a4), (.ref a0)])) rfl hml rfl (argsL := [(.ref a4)]) (rest := [(.ref a0)]) pd_20 rfl rfl rfl (W := 1) (Nat.le_of_eq rfl) (D 2 rfl) rfl e0 (by decide) (by decide)
  obtain ⟨rfl, Nq1, hs1⟩ := hQ1
  have N2 := Fr.app N0 Nq1
  refine OFin.of (fun t ht => aN X0 hx rfl (D 0 rfl) rfl rfl (aW X0 hx rfl (D 1 rfl) rfl rfl (st1.trans ht))) ?_
  obtain ⟨T3, X3, e3, st3⟩ := castY X1 hx hZ hown (wt hw 188 rfl) hs1 (Ins.of_exa EC (wt hw 189 rfl)) (g := (mkF m 6 #[.val (.ref a0), .val (.ref a1), .val (.int (Int32.ofNat oo)), .val (.int (2 : Int32)), .val (.ref a4)] [(.ref a4), (.ref a0)])) rfl rfl (D 3 rfl)
  refine OFin.of st3 ?_
  obtain ⟨bs4, ⟨cl4, Ar4, q4, S4, Ng4, H4, G4⟩, -⟩ := id Tx
  refine OFin.of (fun t ht => aN X3 hx rfl (D 4 rfl) rfl rfl (iN X3 hx rfl (D 5 rfl) rfl (iN X3 hx rfl (D 6 rfl) rfl (aN X3 hx rfl (D 7 rfl) rfl rfl (own_alen X3 hx hZ e3 Ar4 S4 Ng4 (g := (mkF m 13 #[.val (.ref a0), .val (.ref a1), .val (.int (Int32.ofNat oo)), .val (.int (2 : Int32)), .val (.ref a4)] [(.ref a1), (.int (2 : Int32)), (.int (Int32.ofNat oo)), (.ref a1), (.ref a4), (.ref a0)])) rfl rfl (D 8 rfl) ht))))) ?_
  obtain ⟨_, T5, Lc5, X5, hQ5, st5⟩ := own_cS X3 hx hw hZ hown 190 191 104 192 rfl rfl rfl rfl (by decide) (rmCbo l Z _ hw [] (Int32.ofNat oo) (2 : Int32) nt fm h0 n0 Z0 Sfm hfm (own_cf1 Tx hon) (own_cf2 Tx hon)) (by decide) (by decide) (g := (mkF m 14 #[.val (.ref a0), .val (.ref a1), .val (.int (Int32.ofNat oo)), .val (.int (2 : Int32)), .val (.ref a4)] [(.int nt), (.int (2 : Int32)), (.int (Int32.ofNat oo)), (.ref a1), (.ref a4), (.ref a0)])) rfl hml rfl (argsL := [(.int (Int32.ofNat oo)), (.int (2 : Int32)), (.int nt)]) (rest := [(.ref a1), (.ref a4), (.ref a0)]) pd_21 rfl rfl rfl (W := 3) (Nat.le_of_eq rfl) (D 9 rfl) rfl e3 (by decide) (by decide)
  obtain ⟨rfl, Nq5, hs5⟩ := hQ5
  have N6 := Fr.app N2 Nq5
  refine OFin.to st5 ?_
  obtain ⟨_, _, ⟨T7, L7, k7, n7⟩, -, X7, ⟨Lc7, hQ7, l7, y7, z7⟩, st7⟩ := X5.specialBackH hx (y := mn36) rfl hown (mvT hZ (wt hw 196 rfl)) (mvT hZ (wt hw 197 rfl)) (mvT hZ (wt hw 199 rfl)) (by decide) (backOfWith (W := 0) (rmIu2 l Z _ hw [] a0 a4 a1 kt nt pre oo cs h0 n0 Z0 EA Fc Fv Tx Scs hcs Su8 g0 hne hon ho hb0 hb1) hZ (wt hw 199 rfl) (wt hw 104 rfl) (by decide) (by decide)) (g := (mkF m 18 #[.val (.ref a0), .val (.ref a1), .val (.int (Int32.ofNat oo)), .val (.int (2 : Int32)), .val (.ref a4)] [(.int (2 : Int32)), (.int (Int32.ofNat oo)), (.ref a1), (.ref a4), (.ref a0)])) rfl (by rw [hml]; rfl) (Steps.refl _) (a := a0) (argsL := [(.ref a4), (.ref a1), (.int (Int32.ofNat oo)), (.int (2 : Int32))]) (rest := []) (lenOf pd_22 rfl) rfl (by show 2 * 0 + _ ≤ _; exact Nat.le_of_eq rfl) (D 11 rfl) (fun _ _ => ⟨rfl, hs5, (by decide : 0 + 1 ≤ _), (by decide : 0 + 2 ≤ _)⟩)
  dsimp only [Pt.U, Pt.locs, Pt.cells, Pt.slots] at X7 l7 y7 z7 st7 hQ7
  subst l7 y7 z7
  obtain ⟨rfl, Nq7, Kq7, f7a, t7, kb7, f7b, f7c⟩ := hQ7
  have N8 := Fr.app N6 Nq7
  have f9 := (EA.keep Kq7)
  have f10 := (EC.keep Kq7)
  have f11 := (Tx.keep Kq7 (ninS hne nin0))
  have f12 := (own_staKeep Scs Kq7 (own_snS EA own_sn0))
  have f13 := (own_staKeep Su8 Kq7 (own_snS EA own_sn0))
  have f14 := (own_staKeep Sfm Kq7 (own_snS EA own_sn0))
  have Z15 := Nat.le_trans Z0 Kq7.1
  have K16 := K0.trans Kq7 (allS (Or.inl (List.mem_of_getElem? (i := 0) rfl)) all0)
  refine OFin.of (fun t ht => iN X5 hx rfl (D 10 rfl) rfl (st7.trans ht)) ?_
  exact OFin.retV X7 hx hlk hret (D 12 rfl) (by decide) (by decide) (by exact ⟨rfl, N8, K16, f7a, t7, kb7, f7b, f7c⟩)
theorem efBkr {m : MethodId} {p0 : Int32} : entryFrame m #[(.int p0)] 3 = mkF m 0 #[.val (.int p0), .unset, .unset] [] := by first | (simp [entryFrame, mkF, argsToLocals, Value.category]; done) | rfl
def QBkr (Z : State) (p0 : Int32) (h0 : Heap) (n0 : Nat) (v : Option Value) (h : Heap) (L : List Loc) : Prop := v = some (.int (own_bb p0)) ∧ Fr n0 L ∧ h = h0
theorem rmBkr (l : Launch) (Z : State) (a0 : Array Value) (hw : HW a0 Z) (ws : List Jvm.Cond) (p0 : Int32) (h0 : Heap) (n0 : Nat) (Z0 : n0 ≤ h0.size)  :
    Con l mn40 (Jvm.Cond.code mn40 method_7_code 3 (some .byte)) ws (⟨0, 0, 0, 0⟩ : Jvm.Room) #[(.int p0)] Z h0 (QBkr Z p0 h0 n0) := by
  refine own_of (plainFor_of_name pn_6) hisR dl_method_7 ?_
  intro p e s m below meth c s₁ hx D hlk hret hml hZ hown hnm X0 e0
  replace hown : s.vm.findClass cC = some m.cls := hown
  have N0 := Fr.nil n0
  rw [efBkr]
  refine OFin.of (S' := s₁.setTop (mkF m 6 #[.val (.int p0), .val (.int (p0.toInt8.toInt32)), .unset] [(.int (32 : Int32)), (.int (p0.toInt8.toInt32))])) (fun t ht => iN X0 hx rfl (D 0 rfl) rfl (XS.i2b X0.here hx rfl (D 1 rfl) rfl (XS.istoreN X0.here hx rfl (D 2 rfl) rfl (l' := #[.val (.int p0), .val (.int (p0.toInt8.toInt32)), .unset]) rfl (iN X0 hx rfl (D 3 rfl) rfl (bP X0 hx rfl (D 4 rfl) ht))))) ?_
  by_cases hc1 : (p0.toInt8.toInt32) = (32 : Int32)
  · refine OFin.of (S' := s₁.setTop (mkF m 55 #[.val (.int p0), .val (.int (p0.toInt8.toInt32)), .val (.int (1 : Int32))] [(.int (120 : Int32))])) (fun t ht => cY X0 hx rfl 6 39 rfl (D 5 rfl) rfl (teq hc1).1 (by decide) (iC X0 hx rfl (D 6 rfl) (gO X0 hx rfl 40 44 rfl (D 7 rfl) (by decide) (XS.istoreN X0.here hx rfl (D 8 rfl) rfl (l' := #[.val (.int p0), .val (.int (p0.toInt8.toInt32)), .val (.int (1 : Int32))]) rfl (iN X0 hx rfl (D 9 rfl) rfl (fN X0 hx rfl (D 10 rfl) rfl ((if0 _ _).trans (feq (by decide : ¬ ((1 : Int32) = (0 : Int32)))).1) (bP X0 hx rfl (D 11 rfl) (gO X0 hx rfl 51 55 rfl (D 12 rfl) (by decide) ht)))))))) ?_
    exact OFin.retB X0 hx hlk (t := .byte) (by simp) hret (D 13 rfl) (by decide) (by decide) (by rw [e0]; exact ⟨(by show some (Value.int (120 : Int32)) = _; rw [own_bb_t (by simp [own_bad, hc1])]), N0, rfl⟩)
  · refine OFin.of (S' := s₁.setTop (mkF m 12 #[.val (.int p0), .val (.int (p0.toInt8.toInt32)), .unset] [(.int (9 : Int32)), (.int (p0.toInt8.toInt32))])) (fun t ht => cN X0 hx rfl (D 5 rfl) rfl (feq hc1).1 (iN X0 hx rfl (D 14 rfl) rfl (bP X0 hx rfl (D 15 rfl) ht))) ?_
    by_cases hc2 : (p0.toInt8.toInt32) = (9 : Int32)
    · refine OFin.of (S' := s₁.setTop (mkF m 55 #[.val (.int p0), .val (.int (p0.toInt8.toInt32)), .val (.int (1 : Int32))] [(.int (120 : Int32))])) (fun t ht => cY X0 hx rfl 12 39 rfl (D 16 rfl) rfl (teq hc2).1 (by decide) (iC X0 hx rfl (D 6 rfl) (gO X0 hx rfl 40 44 rfl (D 7 rfl) (by decide) (XS.istoreN X0.here hx rfl (D 8 rfl) rfl (l' := #[.val (.int p0), .val (.int (p0.toInt8.toInt32)), .val (.int (1 : Int32))]) rfl (iN X0 hx rfl (D 9 rfl) rfl (fN X0 hx rfl (D 10 rfl) rfl ((if0 _ _).trans (feq (by decide : ¬ ((1 : Int32) = (0 : Int32)))).1) (bP X0 hx rfl (D 11 rfl) (gO X0 hx rfl 51 55 rfl (D 12 rfl) (by decide) ht)))))))) ?_
      exact OFin.retB X0 hx hlk (t := .byte) (by simp) hret (D 13 rfl) (by decide) (by decide) (by rw [e0]; exact ⟨(by show some (Value.int (120 : Int32)) = _; rw [own_bb_t (by simp [own_bad, hc1, hc2])]), N0, rfl⟩)
    · refine OFin.of (S' := s₁.setTop (mkF m 18 #[.val (.int p0), .val (.int (p0.toInt8.toInt32)), .unset] [(.int (10 : Int32)), (.int (p0.toInt8.toInt32))])) (fun t ht => cN X0 hx rfl (D 16 rfl) rfl (feq hc2).1 (iN X0 hx rfl (D 17 rfl) rfl (bP X0 hx rfl (D 18 rfl) ht))) ?_
      by_cases hc3 : (p0.toInt8.toInt32) = (10 : Int32)
      · refine OFin.of (S' := s₁.setTop (mkF m 55 #[.val (.int p0), .val (.int (p0.toInt8.toInt32)), .val (.int (1 : Int32))] [(.int (120 : Int32))])) (fun t ht => cY X0 hx rfl 18 39 rfl (D 19 rfl) rfl (teq hc3).1 (by decide) (iC X0 hx rfl (D 6 rfl) (gO X0 hx rfl 40 44 rfl (D 7 rfl) (by decide) (XS.istoreN X0.here hx rfl (D 8 rfl) rfl (l' := #[.val (.int p0), .val (.int (p0.toInt8.toInt32)), .val (.int (1 : Int32))]) rfl (iN X0 hx rfl (D 9 rfl) rfl (fN X0 hx rfl (D 10 rfl) rfl ((if0 _ _).trans (feq (by decide : ¬ ((1 : Int32) = (0 : Int32)))).1) (bP X0 hx rfl (D 11 rfl) (gO X0 hx rfl 51 55 rfl (D 12 rfl) (by decide) ht)))))))) ?_
        exact OFin.retB X0 hx hlk (t := .byte) (by simp) hret (D 13 rfl) (by decide) (by decide) (by rw [e0]; exact ⟨(by show some (Value.int (120 : Int32)) = _; rw [own_bb_t (by simp [own_bad, hc1, hc2, hc3])]), N0, rfl⟩)
      · refine OFin.of (S' := s₁.setTop (mkF m 24 #[.val (.int p0), .val (.int (p0.toInt8.toInt32)), .unset] [(.int (13 : Int32)), (.int (p0.toInt8.toInt32))])) (fun t ht => cN X0 hx rfl (D 19 rfl) rfl (feq hc3).1 (iN X0 hx rfl (D 20 rfl) rfl (bP X0 hx rfl (D 21 rfl) ht))) ?_
        by_cases hc4 : (p0.toInt8.toInt32) = (13 : Int32)
        · refine OFin.of (S' := s₁.setTop (mkF m 55 #[.val (.int p0), .val (.int (p0.toInt8.toInt32)), .val (.int (1 : Int32))] [(.int (120 : Int32))])) (fun t ht => cY X0 hx rfl 24 39 rfl (D 22 rfl) rfl (teq hc4).1 (by decide) (iC X0 hx rfl (D 6 rfl) (gO X0 hx rfl 40 44 rfl (D 7 rfl) (by decide) (XS.istoreN X0.here hx rfl (D 8 rfl) rfl (l' := #[.val (.int p0), .val (.int (p0.toInt8.toInt32)), .val (.int (1 : Int32))]) rfl (iN X0 hx rfl (D 9 rfl) rfl (fN X0 hx rfl (D 10 rfl) rfl ((if0 _ _).trans (feq (by decide : ¬ ((1 : Int32) = (0 : Int32)))).1) (bP X0 hx rfl (D 11 rfl) (gO X0 hx rfl 51 55 rfl (D 12 rfl) (by decide) ht)))))))) ?_
          exact OFin.retB X0 hx hlk (t := .byte) (by simp) hret (D 13 rfl) (by decide) (by decide) (by rw [e0]; exact ⟨(by show some (Value.int (120 : Int32)) = _; rw [own_bb_t (by simp [own_bad, hc1, hc2, hc3, hc4])]), N0, rfl⟩)
        · refine OFin.of (S' := s₁.setTop (mkF m 30 #[.val (.int p0), .val (.int (p0.toInt8.toInt32)), .unset] [(.int (34 : Int32)), (.int (p0.toInt8.toInt32))])) (fun t ht => cN X0 hx rfl (D 22 rfl) rfl (feq hc4).1 (iN X0 hx rfl (D 23 rfl) rfl (bP X0 hx rfl (D 24 rfl) ht))) ?_
          by_cases hc5 : (p0.toInt8.toInt32) = (34 : Int32)
          · refine OFin.of (S' := s₁.setTop (mkF m 55 #[.val (.int p0), .val (.int (p0.toInt8.toInt32)), .val (.int (1 : Int32))] [(.int (120 : Int32))])) (fun t ht => cY X0 hx rfl 30 39 rfl (D 25 rfl) rfl (teq hc5).1 (by decide) (iC X0 hx rfl (D 6 rfl) (gO X0 hx rfl 40 44 rfl (D 7 rfl) (by decide) (XS.istoreN X0.here hx rfl (D 8 rfl) rfl (l' := #[.val (.int p0), .val (.int (p0.toInt8.toInt32)), .val (.int (1 : Int32))]) rfl (iN X0 hx rfl (D 9 rfl) rfl (fN X0 hx rfl (D 10 rfl) rfl ((if0 _ _).trans (feq (by decide : ¬ ((1 : Int32) = (0 : Int32)))).1) (bP X0 hx rfl (D 11 rfl) (gO X0 hx rfl 51 55 rfl (D 12 rfl) (by decide) ht)))))))) ?_
            exact OFin.retB X0 hx hlk (t := .byte) (by simp) hret (D 13 rfl) (by decide) (by decide) (by rw [e0]; exact ⟨(by show some (Value.int (120 : Int32)) = _; rw [own_bb_t (by simp [own_bad, hc1, hc2, hc3, hc4, hc5])]), N0, rfl⟩)
          · refine OFin.of (S' := s₁.setTop (mkF m 36 #[.val (.int p0), .val (.int (p0.toInt8.toInt32)), .unset] [(.int (39 : Int32)), (.int (p0.toInt8.toInt32))])) (fun t ht => cN X0 hx rfl (D 25 rfl) rfl (feq hc5).1 (iN X0 hx rfl (D 26 rfl) rfl (bP X0 hx rfl (D 27 rfl) ht))) ?_
            by_cases hc6 : (p0.toInt8.toInt32) = (39 : Int32)
            · refine OFin.of (S' := s₁.setTop (mkF m 55 #[.val (.int p0), .val (.int (p0.toInt8.toInt32)), .val (.int (1 : Int32))] [(.int (120 : Int32))])) (fun t ht => cN X0 hx rfl (D 28 rfl) rfl (teq hc6).2 (iC X0 hx rfl (D 6 rfl) (gO X0 hx rfl 40 44 rfl (D 7 rfl) (by decide) (XS.istoreN X0.here hx rfl (D 8 rfl) rfl (l' := #[.val (.int p0), .val (.int (p0.toInt8.toInt32)), .val (.int (1 : Int32))]) rfl (iN X0 hx rfl (D 9 rfl) rfl (fN X0 hx rfl (D 10 rfl) rfl ((if0 _ _).trans (feq (by decide : ¬ ((1 : Int32) = (0 : Int32)))).1) (bP X0 hx rfl (D 11 rfl) (gO X0 hx rfl 51 55 rfl (D 12 rfl) (by decide) ht)))))))) ?_
              exact OFin.retB X0 hx hlk (t := .byte) (by simp) hret (D 13 rfl) (by decide) (by decide) (by rw [e0]; exact ⟨(by show some (Value.int (120 : Int32)) = _; rw [own_bb_t (by simp [own_bad, hc1, hc2, hc3, hc4, hc5, hc6])]), N0, rfl⟩)
            · refine OFin.of (S' := s₁.setTop (mkF m 55 #[.val (.int p0), .val (.int (p0.toInt8.toInt32)), .val (.int (0 : Int32))] [(.int (p0.toInt8.toInt32))])) (fun t ht => cY X0 hx rfl 36 43 rfl (D 28 rfl) rfl (feq hc6).2 (by decide) (iC X0 hx rfl (D 29 rfl) (XS.istoreN X0.here hx rfl (D 8 rfl) rfl (l' := #[.val (.int p0), .val (.int (p0.toInt8.toInt32)), .val (.int (0 : Int32))]) rfl (iN X0 hx rfl (D 9 rfl) rfl (fY X0 hx rfl 46 54 rfl (D 10 rfl) rfl ((if0 _ _).trans (teq (by decide : (0 : Int32) = (0 : Int32))).1) (by decide) (iN X0 hx rfl (D 30 rfl) rfl ht)))))) ?_
              exact OFin.retB X0 hx hlk (t := .byte) (by simp) hret (D 13 rfl) (by decide) (by decide) (by rw [e0]; exact ⟨(by show some (Value.int (nar .byte (p0.toInt8.toInt32))) = _; rw [own_bb_f (by simp [own_bad, hc1, hc2, hc3, hc4, hc5, hc6])]), N0, rfl⟩)
theorem efIu0 {m : MethodId} {a0 a1 a2 : Addr} {p3 : Int32} : entryFrame m #[(.ref a0), (.ref a1), (.ref a2), (.int p3), (.int (0 : Int32))] 11 = mkF m 0 #[.val (.ref a0), .val (.ref a1), .val (.ref a2), .val (.int p3), .val (.int (0 : Int32)), .unset, .unset, .unset, .unset, .unset, .unset] [] := by first | (simp [entryFrame, mkF, argsToLocals, Value.category]; done) | rfl
def QIu0 (Z : State) (a0 a1 a2 : Addr) (p3 : Int32) (h0 : Heap) (n0 : Nat) (v : Option Value) (h : Heap) (L : List Loc) : Prop := v = none ∧ Fr n0 L ∧ Keep h0 h [a0] ∧ ∃ (t : Addr) (kb : ClassId), Fld Z h a0 cB "coder" "B" (.int (0 : Int32)) ∧ Fld Z h a0 cB "value" "[B" (.ref t) ∧ Arv Z h t kb .byte (0 : Int32) [] (.int (0 : Int32))
theorem rmIu0 (l : Launch) (Z : State) (a0 : Array Value) (hw : HW a0 Z) (ws : List Jvm.Cond) (a0 a1 a2 : Addr) (p3 : Int32) (h0 : Heap) (n0 : Nat) (Z0 : n0 ≤ h0.size) (E0 : Exa Z h0 a0 cB) (Fc : Fld Z h0 a0 cB "coder" "B" (.int (0 : Int32))) (Fv : Fld Z h0 a0 cB "value" "[B" .null) (g0 : n0 ≤ a0) :
    ConH consts_1 l mn36 (Jvm.Cond.codeWith mn36 jdk_42_method_11_code 11 none [((800 : Nat), (813 : Nat), (816 : Nat), (202 : Nat))]) ws (⟨1, 4, 8, 12⟩ : Jvm.Room) #[(.ref a0), (.ref a1), (.ref a2), (.int p3), (.int (0 : Int32))] Z h0 (QIu0 Z a0 a1 a2 p3 h0 n0) := by
  refine own_ofH (plainFor_of_name pn_2) hisWith dl_jdk_42_11 ?_
  intro p e s m below meth c s₁ hx D hlk hret hml hZ hown hnm X0 e0 hh hC0
  replace hown : s.vm.findClass cB = some m.cls := hown
  have N0 := Fr.nil n0
  have hR0 : CHr Z consts_1 s.vm h0 s.vm h0 := CHr.refl hC0
  have hEL := own_EW hw
  rw [efIu0]
  have K0 : Keep h0 h0 [a0] := Keep.refl _ _
  obtain ⟨T1, X1, e1, st1⟩ := initO X0 hx hZ hown (wt hw 200 rfl) (wt hw 25 rfl) (wt hw 26 rfl) e0 (g := (mkF m 1 #[.val (.ref a0), .val (.ref a1), .val (.ref a2), .val (.int p3), .val (.int (0 : Int32)), .unset, .unset, .unset, .unset, .unset, .unset] [(.ref a0)])) rfl (by rw [hml]; rfl) rfl (D 1 rfl) (by decide) (W := 0) (by show 2 * 0 + _ ≤ _; exact Nat.le_of_eq rfl) (by decide)
  refine OFin.of (fun t ht => aN X0 hx rfl (D 0 rfl) rfl rfl (st1 t ht)) ?_
  obtain ⟨al2, T2, h2, k2, lv2, c2, X2, e2, E2, S2, K2, hZ2, hown2, Ax2, Fc2, Fv2, Va2, -, -, CH2, -, nx2, st2⟩ := ldcCH (s := s) (vm0 := s.vm) X1 hx hZ hown (wt hw 201 rfl) (own_strAtoms hw) e1 ((State.WarmedH.refl s).since h0.size) (Nat.le_refl _) hEL (List.mem_of_getElem? (i := 1) rfl) hR0.1 (vs := []) (z := (0 : Int32)) ⟨by decide, rfl⟩ (by decide) (by decide) (g := (mkF m 10 #[.val (.ref a0), .val (.ref a1), .val (.ref a2), .val (.int p3), .val (.int (0 : Int32)), .unset, .unset, .unset, .unset, .unset, .unset] [(.ref a0)])) rfl (D 30 rfl) (n := 0) (by decide) (by decide) (by decide) (by decide)
  have hA3 := CH2
  have sf4 := hA3.safe E0.lt (own_safeNull hZ.alike E0 Fv)
  have hR5 := hR0.trans hA3
  have f6 := E0.ext E2
  have f7 := Fc.ext E2
  have f8 := Fv.ext E2
  have Z9 := Nat.le_trans Z0 E2.1
  have K10 := K0.ext E2
  have ns11 := nx2 a0 sf4
  refine OFin.of (fun t ht => iW X1 hx rfl (D 2 rfl) rfl (fN X1 hx rfl (D 3 rfl) rfl ((if0 _ _).trans (teq (by decide : (0 : Int32) = (0 : Int32))).2) (aN X1 hx rfl (D 29 rfl) rfl rfl (st2 t ht)))) ?_
  obtain ⟨T12, X12, e12, st12⟩ := getF X2 hx hZ2 hown2 (host := "") (Or.inl (wt hw 123 rfl)) Via.refl e2 Fv2 (g := (mkF m 12 #[.val (.ref a0), .val (.ref a1), .val (.ref a2), .val (.int p3), .val (.int (0 : Int32)), .unset, .unset, .unset, .unset, .unset, .unset] [(.ref al2), (.ref a0)])) rfl rfl (D 31 rfl)
  refine OFin.of st12 ?_
  obtain ⟨T13, h13, X13, e13, W13, st13⟩ := putF X12 hx hZ2 hown2 (host := "") (Or.inl (wt hw 123 rfl)) Via.refl e12 f8 f6 (Or.inr ⟨(wt hw 106 rfl), rfl, hnm⟩) (wt hw 105 rfl) (ty := (.array .byte)) (by decide) rfl rfl (g := (mkF m 15 #[.val (.ref a0), .val (.ref a1), .val (.ref a2), .val (.int p3), .val (.int (0 : Int32)), .unset, .unset, .unset, .unset, .unset, .unset] [(.ref lv2), (.ref a0)])) rfl rfl (D 32 rfl)
  have hA14 := CHr.wr W13 sf4 hR5.1
  have sf15 := hA14.safe f6.lt sf4
  have hR16 := hR5.trans hA14
  have f17 := (f6.wr W13)
  have f18 := (f7.other W13 (Or.inr (sn0 hw)))
  have f19 := (Ax2.wr W13)
  have f20 := (Fc2.other W13 (Or.inl (Ne.symm ns11.1)))
  have f21 := (Fv2.other W13 (Or.inl (Ne.symm ns11.1)))
  have f22 := (Va2.other W13 (Ne.symm ns11.2))
  have Z23 := Nat.le_trans Z9 (Keep.of_wr W13).1
  have K24 := K10.wr W13 (Or.inl (List.mem_of_getElem? (i := 0) rfl))
  have N25 := Fr.snoc X13 N0 g0
  have kk26 : k2 ≤ h13.size := (Nat.le_trans K2 (Keep.of_wr W13).1)
  have f27 : Fld Z h13 a0 cB "value" "[B" (.ref lv2) := (f8.same W13)
  refine OFin.of st13 ?_
  obtain ⟨al28, T28, h28, k28, lv28, c28, X28, e28, E28, S28, K28, hZ28, hown28, Ax28, Fc28, Fv28, Va28, -, -, CH28, -, nx28, st28⟩ := ldcCH (s := s) (vm0 := T2.vm) X13 hx hZ2 hown2 (wt hw 201 rfl) (own_strAtoms hw) e13 S2 kk26 hEL (List.mem_of_getElem? (i := 1) rfl) hR16.1 (vs := []) (z := (0 : Int32)) ⟨by decide, rfl⟩ (by decide) (by decide) (g := (mkF m 19 #[.val (.ref a0), .val (.ref a1), .val (.ref a2), .val (.int p3), .val (.int (0 : Int32)), .unset, .unset, .unset, .unset, .unset, .unset] [(.ref a0)])) rfl (D 34 rfl) (n := 0) (by decide) (by decide) (by decide) (by decide)
  have hA29 := CH28
  have sf30 := hA29.safe f17.lt sf15
  have hR31 := hR16.trans hA29
  have f32 := f17.ext E28
  have f33 := f18.ext E28
  have f34 := f19.ext E28
  have f35 := f20.ext E28
  have f36 := f21.ext E28
  have f37 := f22.ext E28
  have f38 := f27.ext E28
  have Z39 := Nat.le_trans Z23 E28.1
  have K40 := K24.ext E28
  have ns41 := nx28 a0 sf30
  refine OFin.of (fun t ht => aN X13 hx rfl (D 33 rfl) rfl rfl (st28 t ht)) ?_
  obtain ⟨T42, X42, e42, st42⟩ := getF X28 hx hZ28 hown28 (host := "") (Or.inl (wt hw 130 rfl)) Via.refl e28 Fc28 (g := (mkF m 21 #[.val (.ref a0), .val (.ref a1), .val (.ref a2), .val (.int p3), .val (.int (0 : Int32)), .unset, .unset, .unset, .unset, .unset, .unset] [(.ref al28), (.ref a0)])) rfl rfl (D 35 rfl)
  refine OFin.of st42 ?_
  obtain ⟨T43, h43, X43, e43, W43, st43⟩ := putFN X42 hx hZ28 hown28 (wt hw 130 rfl) Via.refl e42 f33 f32 (Or.inr ⟨(wt hw 107 rfl), rfl, hnm⟩) (wt hw 105 rfl) (ty := .byte) (v' := (.int (0 : Int32))) (by decide) rfl rfl (g := (mkF m 24 #[.val (.ref a0), .val (.ref a1), .val (.ref a2), .val (.int p3), .val (.int (0 : Int32)), .unset, .unset, .unset, .unset, .unset, .unset] [(.int (0 : Int32)), (.ref a0)])) rfl rfl (D 36 rfl)
  have hA44 := CHr.wr W43 sf30 hR31.1
  have sf45 := hA44.safe f32.lt sf30
  have hR46 := hR31.trans hA44
  have f47 := (f32.wr W43)
  have f48 := (f34.wr W43)
  have f49 := (f35.other W43 (Or.inl (Ne.symm ns11.1)))
  have f50 := (f36.other W43 (Or.inl (Ne.symm ns11.1)))
  have f51 := (f37.other W43 (Ne.symm ns11.2))
  have f52 := (f38.other W43 (Or.inr (sn1 hw)))
  have f53 := (Ax28.wr W43)
  have f54 := (Fc28.other W43 (Or.inl (Ne.symm ns41.1)))
  have f55 := (Fv28.other W43 (Or.inl (Ne.symm ns41.1)))
  have f56 := (Va28.other W43 (Ne.symm ns41.2))
  have Z57 := Nat.le_trans Z39 (Keep.of_wr W43).1
  have K58 := K40.wr W43 (Or.inl (List.mem_of_getElem? (i := 0) rfl))
  have N59 := Fr.snoc X43 N25 g0
  have kk60 : k28 ≤ h43.size := (Nat.le_trans K28 (Keep.of_wr W43).1)
  have f61 : Fld Z h43 a0 cB "coder" "B" (.int (0 : Int32)) := (f33.same W43)
  refine OFin.of st43 ?_
  refine OFin.of (S' := T43.setTop (mkF m 879 #[.val (.ref a0), .val (.ref a1), .val (.ref a2), .val (.int p3), .val (.int (0 : Int32)), .unset, .unset, .unset, .unset, .unset, .unset] [])) (fun t ht => gO X43 hx rfl 27 879 rfl (D 37 rfl) (by decide) ht) ?_
  have rH62 : CHr Z consts_1 s.vm s.heap T43.vm T43.heap := by rw [hh, e43]; exact hR46.trans (CHv.at (s := s) (vm0 := T28.vm) X43 hZ28 hEL hR46.1)
  exact own_retVH (s := s) (vm₁ := T28.vm) X43 S28 (by rw [e43]; exact kk60) rH62 hx hlk hret (D 38 rfl) (by decide) (by decide) (by rw [e43]; exact ⟨rfl, N59, K58, lv2, c2, f61, f52, f51⟩)
theorem efIb0 {m : MethodId} {a0 a1 a4 : Addr} {oo : Nat} : entryFrame m #[(.ref a0), (.ref a1), (.int (Int32.ofNat oo)), (.int (0 : Int32)), (.ref a4)] 5 = mkF m 0 #[.val (.ref a0), .val (.ref a1), .val (.int (Int32.ofNat oo)), .val (.int (0 : Int32)), .val (.ref a4)] [] := by first | (simp [entryFrame, mkF, argsToLocals, Value.category]; done) | rfl
def QIb0 (Z : State) (a0 a1 a4 : Addr) (kt : ClassId) (nt : Int32) (pre : List Int32) (oo : Nat) (fm : Value) (h0 : Heap) (n0 : Nat) (v : Option Value) (h : Heap) (L : List Loc) : Prop := v = none ∧ Fr n0 L ∧ Keep h0 h [a0] ∧ ∃ (t : Addr) (kb : ClassId), Fld Z h a0 cB "coder" "B" (.int (0 : Int32)) ∧ Fld Z h a0 cB "value" "[B" (.ref t) ∧ Arv Z h t kb .byte (0 : Int32) [] (.int (0 : Int32))
theorem rmIb0 (l : Launch) (Z : State) (a0 : Array Value) (hw : HW a0 Z) (ws : List Jvm.Cond) (a0 a1 a4 : Addr) (kt : ClassId) (nt : Int32) (pre : List Int32) (oo : Nat) (fm : Value) (h0 : Heap) (n0 : Nat) (Z0 : n0 ≤ h0.size) (E0 : Exa Z h0 a0 cB) (Fc : Fld Z h0 a0 cB "coder" "B" (.int (0 : Int32))) (Fv : Fld Z h0 a0 cB "value" "[B" .null) (EC : Exa Z h0 a4 "sun/nio/cs/UTF_8") (Tx : Txt Z h0 a1 kt nt pre) (Sfm : Sta Z h0 cE "SIOOBE_FORMATTER" cF fm) (hfm : fm.isRef = true) (g0 : n0 ≤ a0) (hne : a1 ≠ a0) (hon : oo + 0 ≤ pre.length) :
    ConH consts_1 l mn39 (Jvm.Cond.code mn39 jdk_42_method_10_code 5 none) ws (⟨2, 4, 8, 34⟩ : Jvm.Room) #[(.ref a0), (.ref a1), (.int (Int32.ofNat oo)), (.int (0 : Int32)), (.ref a4)] Z h0 (QIb0 Z a0 a1 a4 kt nt pre oo fm h0 n0) := by
  refine own_ofH (plainFor_of_name pn_2) hisR dl_jdk_42_10 ?_
  intro p e s m below meth c s₁ hx D hlk hret hml hZ hown hnm X0 e0 hh hC0
  replace hown : s.vm.findClass cB = some m.cls := hown
  have N0 := Fr.nil n0
  have hR0 : CHr Z consts_1 s.vm h0 s.vm h0 := CHr.refl hC0
  have hEL := own_EW hw
  rw [efIb0]
  have K0 : Keep h0 h0 [a0] := Keep.refl _ _
  obtain ⟨_, T1, Lc1, X1, hQ1, st1⟩ := own_cS X0 hx hw hZ hown 184 185 186 187 rfl rfl rfl rfl (by decide) (rmRnn l Z _ hw [] a4 h0 n0 Z0 ) (by decide) (by decide) (g := (mkF m 3 #[.val (.ref a0), .val (.ref a1), .val (.int (Int32.ofNat oo)), .val (.int (0 : Int32)), .val (.ref a4)] [(.ref a4), (.ref a0)])) rfl hml rfl (argsL := [(.ref a4)]) (rest := [(.ref a0)]) pd_20 rfl rfl rfl (W := 1) (Nat.le_of_eq rfl) (D 2 rfl) rfl e0 (by decide) (by decide)
  obtain ⟨rfl, Nq1, hs1⟩ := hQ1
  have N2 := Fr.app N0 Nq1
  refine OFin.of (fun t ht => aN X0 hx rfl (D 0 rfl) rfl rfl (aW X0 hx rfl (D 1 rfl) rfl rfl (st1.trans ht))) ?_
  obtain ⟨T3, X3, e3, st3⟩ := castY X1 hx hZ hown (wt hw 188 rfl) hs1 (Ins.of_exa EC (wt hw 189 rfl)) (g := (mkF m 6 #[.val (.ref a0), .val (.ref a1), .val (.int (Int32.ofNat oo)), .val (.int (0 : Int32)), .val (.ref a4)] [(.ref a4), (.ref a0)])) rfl rfl (D 3 rfl)
  refine OFin.of st3 ?_
  obtain ⟨bs4, ⟨cl4, Ar4, q4, S4, Ng4, H4, G4⟩, -⟩ := id Tx
  refine OFin.of (fun t ht => aN X3 hx rfl (D 4 rfl) rfl rfl (iN X3 hx rfl (D 5 rfl) rfl (iN X3 hx rfl (D 6 rfl) rfl (aN X3 hx rfl (D 7 rfl) rfl rfl (own_alen X3 hx hZ e3 Ar4 S4 Ng4 (g := (mkF m 13 #[.val (.ref a0), .val (.ref a1), .val (.int (Int32.ofNat oo)), .val (.int (0 : Int32)), .val (.ref a4)] [(.ref a1), (.int (0 : Int32)), (.int (Int32.ofNat oo)), (.ref a1), (.ref a4), (.ref a0)])) rfl rfl (D 8 rfl) ht))))) ?_
  obtain ⟨_, T5, Lc5, X5, hQ5, st5⟩ := own_cS X3 hx hw hZ hown 190 191 104 192 rfl rfl rfl rfl (by decide) (rmCbo l Z _ hw [] (Int32.ofNat oo) (0 : Int32) nt fm h0 n0 Z0 Sfm hfm (own_cf1 Tx hon) (own_cf2 Tx hon)) (by decide) (by decide) (g := (mkF m 14 #[.val (.ref a0), .val (.ref a1), .val (.int (Int32.ofNat oo)), .val (.int (0 : Int32)), .val (.ref a4)] [(.int nt), (.int (0 : Int32)), (.int (Int32.ofNat oo)), (.ref a1), (.ref a4), (.ref a0)])) rfl hml rfl (argsL := [(.int (Int32.ofNat oo)), (.int (0 : Int32)), (.int nt)]) (rest := [(.ref a1), (.ref a4), (.ref a0)]) pd_21 rfl rfl rfl (W := 3) (Nat.le_of_eq rfl) (D 9 rfl) rfl e3 (by decide) (by decide)
  obtain ⟨rfl, Nq5, hs5⟩ := hQ5
  have N6 := Fr.app N2 Nq5
  refine OFin.to st5 ?_
  obtain ⟨_, T7, Lc7, X7, Sq7, gr7, hQ7, CH7, st7⟩ := own_specialSH (s := s) (vm0 := s.vm) (W := 0) X5 hx (y := mn36) rfl hown (mvT hZ (wt hw 196 rfl)) (mvT hZ (wt hw 197 rfl)) (mvT hZ (wt hw 199 rfl)) (by decide) (rmIu0 l Z _ hw [] a0 a4 a1 (Int32.ofNat oo) h0 n0 Z0 E0 Fc Fv g0) hZ (wt hw 199 rfl) (wt hw 104 rfl) (by decide) (by decide) hEL hR0.1 (g := (mkF m 18 #[.val (.ref a0), .val (.ref a1), .val (.int (Int32.ofNat oo)), .val (.int (0 : Int32)), .val (.ref a4)] [(.int (0 : Int32)), (.int (Int32.ofNat oo)), (.ref a1), (.ref a4), (.ref a0)])) rfl (by rw [hml]; rfl) (a := a0) (argsL := [(.ref a4), (.ref a1), (.int (Int32.ofNat oo)), (.int (0 : Int32))]) (rest := []) (lenOf pd_22 rfl) rfl (by show 2 * 0 + _ ≤ _; exact Nat.le_of_eq rfl) (D 11 rfl) rfl hs5 (by decide : 0 + 4 ≤ _) (by decide : 0 + 8 ≤ _)
  have hZ7 : Z.Warmed39 (s.setVm T7.vm).vm := State.Warmed39.trans (t := s.setVm s.vm) hZ Sq7.1
  have hown7 : (s.setVm T7.vm).vm.findClass cB = some m.cls := by rw [show (s.setVm T7.vm).vm = T7.vm from rfl, Sq7.1.alike.findClass]; exact hown
  have S7 : s.Since T7.vm T7.heap.size := State.Since.trans (s := s) (vm₁ := s.vm) ((State.WarmedH.refl s).since h0.size) Sq7 (Nat.le_trans (Nat.le_refl _) (by rw [← hs5]; exact gr7))
  obtain ⟨rfl, Nq7, Kq7, t7, kb7, f7a, f7b, f7c⟩ := hQ7
  have N8 := Fr.app N6 Nq7
  have hA9 := CH7
  have hR10 := hR0.trans hA9
  have f11 := (E0.keep Kq7)
  have f12 := (EC.keep Kq7)
  have f13 := (Tx.keep Kq7 (ninS hne nin0))
  have f14 := (own_staKeep Sfm Kq7 (own_snS E0 own_sn0))
  have Z15 := Nat.le_trans Z0 Kq7.1
  have K16 := K0.trans Kq7 (allS (Or.inl (List.mem_of_getElem? (i := 0) rfl)) all0)
  refine OFin.of (fun t ht => iN X5 hx rfl (D 10 rfl) rfl (st7.trans ht)) ?_
  have rH17 : CHr Z consts_1 s.vm s.heap T7.vm T7.heap := by rw [hh]; exact hR10.trans (CHv.at (s := s) (vm0 := T7.vm) X7 hZ7 hEL hR10.1)
  exact own_retVH (s := s) (vm₁ := T7.vm) X7 S7 (Nat.le_refl _) rH17 hx hlk hret (D 12 rfl) (by decide) (by decide) (by exact ⟨rfl, N8, K16, t7, kb7, f7a, f7b, f7c⟩)
theorem efVl0 {m : MethodId} {a0 : Addr} : entryFrame m #[(.ref a0)] 1 = mkF m 0 #[.val (.ref a0)] [] := by first | (simp [entryFrame, mkF, argsToLocals, Value.category]; done) | rfl
def QVl0 (Z : State) (a0 tx : Addr) (kt : ClassId) (nt : Int32) (pre : List Int32) (oo : Nat) (u8 : Addr) (fm : Value) (h0 : Heap) (n0 : Nat) (v : Option Value) (h : Heap) (L : List Loc) : Prop := v = some (.ref h0.size) ∧ Fr n0 L ∧ Keep h0 h [] ∧ Exa Z h h0.size cB ∧ ∃ (t : Addr) (kb : ClassId), Fld Z h h0.size cB "coder" "B" (.int (0 : Int32)) ∧ Fld Z h h0.size cB "value" "[B" (.ref t) ∧ Arv Z h t kb .byte (0 : Int32) [] (.int (0 : Int32))
theorem rmVl0 (l : Launch) (Z : State) (a0 : Array Value) (hw : HW a0 Z) (ws : List Jvm.Cond) (a0 tx : Addr) (kt : ClassId) (nt : Int32) (pre : List Int32) (oo : Nat) (u8 : Addr) (fm : Value) (h0 : Heap) (n0 : Nat) (Z0 : n0 ≤ h0.size) (EO : Exa Z h0 a0 cA) (Ft : Fld Z h0 a0 cA "text" "[B" (.ref tx)) (Fvs : Fld Z h0 a0 cA "valueStart" "I" (.int (Int32.ofNat oo))) (Fve : Fld Z h0 a0 cA "valueEnd" "I" (.int (Int32.ofNat (oo + 0)))) (Tx : Txt Z h0 tx kt nt pre) (EC : Exa Z h0 u8 "sun/nio/cs/UTF_8") (Sc8 : Sta Z h0 "java/nio/charset/StandardCharsets" "UTF_8" c12 (.ref u8)) (Sfm : Sta Z h0 cE "SIOOBE_FORMATTER" cF fm) (hfm : fm.isRef = true) (hon : oo + 0 ≤ pre.length) :
    ConH consts_1 l mn41 (Jvm.Cond.code mn41 prog_7_method_13_code 1 (some (.object cB))) ws (⟨3, 5, 12, 51⟩ : Jvm.Room) #[(.ref a0)] Z h0 (QVl0 Z a0 tx kt nt pre oo u8 fm h0 n0) := by
  refine own_ofH (plainFor_of_name pn_0) hisR dl_prog_7_13 ?_
  intro p e s m below meth c s₁ hx D hlk hret hml hZ hown hnm X0 e0 hh hC0
  replace hown : s.vm.findClass cA = some m.cls := hown
  have N0 := Fr.nil n0
  have hR0 : CHr Z consts_1 s.vm h0 s.vm h0 := CHr.refl hC0
  have hEL := own_EW hw
  rw [efVl0]
  have K0 : Keep h0 h0 [] := Keep.refl _ _
  obtain ⟨T1, h1, X1, e1, E1, A1, D1, -, st1⟩ := newO X0 hx hZ hown (wt hw 178 rfl) (wt hw 105 rfl) (wt hw 104 rfl) e0 (g := (mkF m 0 #[.val (.ref a0)] [])) rfl (D 0 rfl) (by decide) (by decide)
  obtain ⟨b1, gq1⟩ : ∃ z, z = h0.size := ⟨_, rfl⟩
  rw [← gq1] at A1 D1 st1
  have g2 : n0 ≤ b1 := (Nat.le_trans Z0 (Nat.le_of_eq gq1.symm))
  have sz3 : h0.size ≤ b1 := (Nat.le_trans K0.1 (Nat.le_of_eq gq1.symm))
  have ne4 : a0 ≠ b1 := (Nat.ne_of_lt (Nat.lt_of_lt_of_le EO.lt (Nat.le_of_eq gq1.symm)))
  have ne5 : tx ≠ b1 := (Nat.ne_of_lt (Nat.lt_of_lt_of_le Tx.lt (Nat.le_of_eq gq1.symm)))
  have ne6 : u8 ≠ b1 := (Nat.ne_of_lt (Nat.lt_of_lt_of_le EC.lt (Nat.le_of_eq gq1.symm)))
  have hA7 := CHr.ext E1 hR0.1
  have hR8 := hR0.trans hA7
  have f9 := EO.ext E1
  have f10 := Ft.ext E1
  have f11 := Fvs.ext E1
  have f12 := Fve.ext E1
  have f13 := Tx.ext E1
  have f14 := EC.ext E1
  have f15 := Sc8.ext E1
  have f16 := Sfm.ext E1
  have Z17 := Nat.le_trans Z0 E1.1
  have K18 := K0.ext E1
  have f19 : Fld Z h1 b1 cB "value" "[B" .null := D1 (Or.inr (wt hw 106 rfl)) (ty := (.array .byte)) (by decide)
  have f20 : Fld Z h1 b1 cB "coder" "B" (.int (0 : Int32)) := D1 (Or.inr (wt hw 107 rfl)) (ty := .byte) (by decide)
  refine OFin.of st1 ?_
  obtain ⟨T21, X21, e21, st21⟩ := getF X1 hx hZ hown (host := "") (Or.inl (wt hw 27 rfl)) Via.refl e1 f10 (g := (mkF m 5 #[.val (.ref a0)] [(.ref a0), (.ref b1), (.ref b1)])) rfl rfl (D 3 rfl)
  refine OFin.of (fun t ht => XS.dup X1.here hx rfl (D 1 rfl) rfl rfl (aN X1 hx rfl (D 2 rfl) rfl rfl (st21 t ht))) ?_
  obtain ⟨T22, X22, e22, st22⟩ := getF X21 hx hZ hown (host := "") (Or.inl (wt hw 153 rfl)) Via.refl e21 f11 (g := (mkF m 9 #[.val (.ref a0)] [(.ref a0), (.ref tx), (.ref b1), (.ref b1)])) rfl rfl (D 5 rfl)
  refine OFin.of (fun t ht => aN X21 hx rfl (D 4 rfl) rfl rfl (st22 t ht)) ?_
  obtain ⟨T23, X23, e23, st23⟩ := getF X22 hx hZ hown (host := "") (Or.inl (wt hw 155 rfl)) Via.refl e22 f12 (g := (mkF m 13 #[.val (.ref a0)] [(.ref a0), (.int (Int32.ofNat oo)), (.ref tx), (.ref b1), (.ref b1)])) rfl rfl (D 7 rfl)
  refine OFin.of (fun t ht => aN X22 hx rfl (D 6 rfl) rfl rfl (st23 t ht)) ?_
  obtain ⟨T24, X24, e24, st24⟩ := getF X23 hx hZ hown (host := "") (Or.inl (wt hw 153 rfl)) Via.refl e23 f11 (g := (mkF m 17 #[.val (.ref a0)] [(.ref a0), (.int (Int32.ofNat (oo + 0))), (.int (Int32.ofNat oo)), (.ref tx), (.ref b1), (.ref b1)])) rfl rfl (D 9 rfl)
  refine OFin.of (fun t ht => aN X23 hx rfl (D 8 rfl) rfl rfl (st24 t ht)) ?_
  refine OFin.of (S' := T24.setTop (mkF m 21 #[.val (.ref a0)] [(.int ((Int32.ofNat (oo + 0)) - (Int32.ofNat oo))), (.int (Int32.ofNat oo)), (.ref tx), (.ref b1), (.ref b1)])) (fun t ht => XS.isub X24.here hx rfl (D 10 rfl) rfl ht) ?_
  rw [own_subn oo 0]
  rw [show Int32.ofNat 0 = (0 : Int32) from rfl]
  obtain ⟨T25, X25, e25, st25⟩ := getS (host := "") X24 hx hZ hown (wt hw 179 rfl) Via.refl e24 f15 (g := (mkF m 21 #[.val (.ref a0)] [(.int (0 : Int32)), (.int (Int32.ofNat oo)), (.ref tx), (.ref b1), (.ref b1)])) rfl (D 11 rfl)
  refine OFin.of st25 ?_
  obtain ⟨_, _, ⟨T26, L26, k26, n26⟩, -, X26, Sq26, gr26, ⟨Lc26, hQ26, l26, y26, z26, CH26⟩, st26⟩ := X25.specialBackS hx (y := mn39) rfl hown (mvT hZ (wt hw 181 rfl)) (mvT hZ (wt hw 182 rfl)) (mvT hZ (wt hw 183 rfl)) (by decide) (backOfSH (s := s) (vm0 := s.vm) (W := 1) (rmIb0 l Z _ hw [] b1 tx u8 kt nt pre oo fm h1 n0 Z17 A1 f20 f19 f14 f13 f16 hfm g2 ne5 hon) hZ (wt hw 183 rfl) (wt hw 104 rfl) (by decide) (by decide) hEL hR8.1) (g := (mkF m 24 #[.val (.ref a0)] [(.ref u8), (.int (0 : Int32)), (.int (Int32.ofNat oo)), (.ref tx), (.ref b1), (.ref b1)])) rfl (by rw [hml]; rfl) (Steps.refl _) (a := b1) (argsL := [(.ref tx), (.int (Int32.ofNat oo)), (.int (0 : Int32)), (.ref u8)]) (rest := [(.ref b1)]) (lenOf pd_23 rfl) rfl (by show 2 * 0 + _ ≤ _; exact Nat.le_of_eq rfl) (D 12 rfl) (fun _ _ => ⟨rfl, e25, (by decide : 1 + 4 ≤ _), (by decide : 4 + 8 ≤ _)⟩)
  dsimp only [Pt.U, Pt.locs, Pt.cells, Pt.slots] at X26 l26 y26 z26 st26 hQ26 Sq26 gr26 CH26
  subst l26 y26 z26
  have hZ26 : Z.Warmed39 (s.setVm T26.vm).vm := State.Warmed39.trans (t := s.setVm s.vm) hZ Sq26.1
  have hown26 : (s.setVm T26.vm).vm.findClass cA = some m.cls := by rw [show (s.setVm T26.vm).vm = T26.vm from rfl, Sq26.1.alike.findClass]; exact hown
  have S26 : s.Since T26.vm T26.heap.size := State.Since.trans (s := s) (vm₁ := s.vm) ((State.WarmedH.refl s).since h1.size) Sq26 (Nat.le_trans (Nat.le_refl _) (by rw [← e25]; exact gr26))
  obtain ⟨rfl, Nq26, Kq26, t26, kb26, f26a, f26b, f26c⟩ := hQ26
  have N27 := Fr.app N0 Nq26
  have hA28 := CH26
  have hR29 := hR8.trans hA28
  have f30 := (f9.keep Kq26)
  have f31 := (f10.keep Kq26 (ninS ne4 nin0))
  have f32 := (f11.keep Kq26 (ninS ne4 nin0))
  have f33 := (f12.keep Kq26 (ninS ne4 nin0))
  have f34 := (f13.keep Kq26 (ninS ne5 nin0))
  have f35 := (f14.keep Kq26)
  have f36 := (own_staKeep f15 Kq26 (own_snS A1 own_sn0))
  have f37 := (own_staKeep f16 Kq26 (own_snS A1 own_sn0))
  have f38 := (A1.keep Kq26)
  have Z39 := Nat.le_trans Z17 Kq26.1
  have K40 := K18.trans Kq26 (allS (Or.inr sz3) all0)
  refine OFin.to st26 ?_
  have rH41 : CHr Z consts_1 s.vm s.heap T26.vm T26.heap := by rw [hh]; exact hR29.trans (CHv.at (s := s) (vm0 := T26.vm) X26 hZ26 hEL hR29.1)
  exact own_retAH (s := s) (vm₁ := T26.vm) X26 S26 (Nat.le_refl _) rH41 hx hlk (t := (.object cB)) rfl rfl hret (D 13 rfl) (by decide) (by decide) (by exact ⟨by rw [← gq1], N27, K40, by rw [← gq1]; exact f38, t26, kb26, by rw [← gq1]; exact f26a, by rw [← gq1]; exact f26b, f26c⟩)
theorem efVl1 {m : MethodId} {a0 : Addr} : entryFrame m #[(.ref a0)] 1 = mkF m 0 #[.val (.ref a0)] [] := by first | (simp [entryFrame, mkF, argsToLocals, Value.category]; done) | rfl
def QVl1 (Z : State) (a0 tx : Addr) (kt : ClassId) (nt : Int32) (pre : List Int32) (oo : Nat) (u8 : Addr) (fm : Value) (cs x0 : Int32) (h0 : Heap) (n0 : Nat) (v : Option Value) (h : Heap) (L : List Loc) : Prop := v = some (.ref h0.size) ∧ Fr n0 L ∧ Keep h0 h [] ∧ Exa Z h h0.size cB ∧ ∃ (t : Addr) (kb : ClassId), Fld Z h h0.size cB "coder" "B" (.int (0 : Int32)) ∧ Fld Z h h0.size cB "value" "[B" (.ref t) ∧ Arv Z h t kb .byte (1 : Int32) [(.int x0)] (.int (0 : Int32))
theorem rmVl1 (l : Launch) (Z : State) (a0 : Array Value) (hw : HW a0 Z) (ws : List Jvm.Cond) (a0 tx : Addr) (kt : ClassId) (nt : Int32) (pre : List Int32) (oo : Nat) (u8 : Addr) (fm : Value) (cs x0 : Int32) (h0 : Heap) (n0 : Nat) (Z0 : n0 ≤ h0.size) (EO : Exa Z h0 a0 cA) (Ft : Fld Z h0 a0 cA "text" "[B" (.ref tx)) (Fvs : Fld Z h0 a0 cA "valueStart" "I" (.int (Int32.ofNat oo))) (Fve : Fld Z h0 a0 cA "valueEnd" "I" (.int (Int32.ofNat (oo + 1)))) (Tx : Txt Z h0 tx kt nt pre) (EC : Exa Z h0 u8 "sun/nio/cs/UTF_8") (Sc8 : Sta Z h0 "java/nio/charset/StandardCharsets" "UTF_8" c12 (.ref u8)) (Sfm : Sta Z h0 cE "SIOOBE_FORMATTER" cF fm) (hfm : fm.isRef = true) (hon : oo + 1 ≤ pre.length) (Scs : Sta Z h0 cB "COMPACT_STRINGS" "Z" (.int cs)) (hcs : ¬ cs = (0 : Int32)) (Su8 : Sta Z h0 "sun/nio/cs/UTF_8" "INSTANCE" c10 (.ref u8)) (ho : 0 < oo) (hx0 : pre.getD (oo) 0 = x0) (hb0 : ¬ x0 < (0 : Int32)) :
    Con l mn41 (Jvm.Cond.code mn41 prog_7_method_13_code 1 (some (.object cB))) ws (⟨5, 2, 5, 110⟩ : Jvm.Room) #[(.ref a0)] Z h0 (QVl1 Z a0 tx kt nt pre oo u8 fm cs x0 h0 n0) := by
  refine own_of (plainFor_of_name pn_0) hisR dl_prog_7_13 ?_
  intro p e s m below meth c s₁ hx D hlk hret hml hZ hown hnm X0 e0
  replace hown : s.vm.findClass cA = some m.cls := hown
  have N0 := Fr.nil n0
  rw [efVl1]
  have K0 : Keep h0 h0 [] := Keep.refl _ _
  subst hx0
  obtain ⟨T1, h1, X1, e1, E1, A1, D1, -, st1⟩ := newO X0 hx hZ hown (wt hw 178 rfl) (wt hw 105 rfl) (wt hw 104 rfl) e0 (g := (mkF m 0 #[.val (.ref a0)] [])) rfl (D 0 rfl) (by decide) (by decide)
  obtain ⟨b1, gq1⟩ : ∃ z, z = h0.size := ⟨_, rfl⟩
  rw [← gq1] at A1 D1 st1
  have g2 : n0 ≤ b1 := (Nat.le_trans Z0 (Nat.le_of_eq gq1.symm))
  have sz3 : h0.size ≤ b1 := (Nat.le_trans K0.1 (Nat.le_of_eq gq1.symm))
  have ne4 : a0 ≠ b1 := (Nat.ne_of_lt (Nat.lt_of_lt_of_le EO.lt (Nat.le_of_eq gq1.symm)))
  have ne5 : tx ≠ b1 := (Nat.ne_of_lt (Nat.lt_of_lt_of_le Tx.lt (Nat.le_of_eq gq1.symm)))
  have ne6 : u8 ≠ b1 := (Nat.ne_of_lt (Nat.lt_of_lt_of_le EC.lt (Nat.le_of_eq gq1.symm)))
  have f7 := EO.ext E1
  have f8 := Ft.ext E1
  have f9 := Fvs.ext E1
  have f10 := Fve.ext E1
  have f11 := Tx.ext E1
  have f12 := EC.ext E1
  have f13 := Sc8.ext E1
  have f14 := Sfm.ext E1
  have f15 := Scs.ext E1
  have f16 := Su8.ext E1
  have Z17 := Nat.le_trans Z0 E1.1
  have K18 := K0.ext E1
  have f19 : Fld Z h1 b1 cB "value" "[B" .null := D1 (Or.inr (wt hw 106 rfl)) (ty := (.array .byte)) (by decide)
  have f20 : Fld Z h1 b1 cB "coder" "B" (.int (0 : Int32)) := D1 (Or.inr (wt hw 107 rfl)) (ty := .byte) (by decide)
  refine OFin.of st1 ?_
  obtain ⟨T21, X21, e21, st21⟩ := getF X1 hx hZ hown (host := "") (Or.inl (wt hw 27 rfl)) Via.refl e1 f8 (g := (mkF m 5 #[.val (.ref a0)] [(.ref a0), (.ref b1), (.ref b1)])) rfl rfl (D 3 rfl)
  refine OFin.of (fun t ht => XS.dup X1.here hx rfl (D 1 rfl) rfl rfl (aN X1 hx rfl (D 2 rfl) rfl rfl (st21 t ht))) ?_
  obtain ⟨T22, X22, e22, st22⟩ := getF X21 hx hZ hown (host := "") (Or.inl (wt hw 153 rfl)) Via.refl e21 f9 (g := (mkF m 9 #[.val (.ref a0)] [(.ref a0), (.ref tx), (.ref b1), (.ref b1)])) rfl rfl (D 5 rfl)
  refine OFin.of (fun t ht => aN X21 hx rfl (D 4 rfl) rfl rfl (st22 t ht)) ?_
  obtain ⟨T23, X23, e23, st23⟩ := getF X22 hx hZ hown (host := "") (Or.inl (wt hw 155 rfl)) Via.refl e22 f10 (g := (mkF m 13 #[.val (.ref a0)] [(.ref a0), (.int (Int32.ofNat oo)), (.ref tx), (.ref b1), (.ref b1)])) rfl rfl (D 7 rfl)
  refine OFin.of (fun t ht => aN X22 hx rfl (D 6 rfl) rfl rfl (st23 t ht)) ?_
  obtain ⟨T24, X24, e24, st24⟩ := getF X23 hx hZ hown (host := "") (Or.inl (wt hw 153 rfl)) Via.refl e23 f9 (g := (mkF m 17 #[.val (.ref a0)] [(.ref a0), (.int (Int32.ofNat (oo + 1))), (.int (Int32.ofNat oo)), (.ref tx), (.ref b1), (.ref b1)])) rfl rfl (D 9 rfl)
  refine OFin.of (fun t ht => aN X23 hx rfl (D 8 rfl) rfl rfl (st24 t ht)) ?_
  refine OFin.of (S' := T24.setTop (mkF m 21 #[.val (.ref a0)] [(.int ((Int32.ofNat (oo + 1)) - (Int32.ofNat oo))), (.int (Int32.ofNat oo)), (.ref tx), (.ref b1), (.ref b1)])) (fun t ht => XS.isub X24.here hx rfl (D 10 rfl) rfl ht) ?_
  rw [own_subn oo 1]
  rw [show Int32.ofNat 1 = (1 : Int32) from rfl]
  obtain ⟨T25, X25, e25, st25⟩ := getS (host := "") X24 hx hZ hown (wt hw 179 rfl) Via.refl e24 f13 (g := (mkF m 21 #[.val (.ref a0)] [(.int (1 : Int32)), (.int (Int32.ofNat oo)), (.ref tx), (.ref b1), (.ref b1)])) rfl (D 11 rfl)
  refine OFin.of st25 ?_
  obtain ⟨_, T26, Lc26, X26, hQ26, st26⟩ := own_cN X25 hx hw hZ hown 181 182 104 183 rfl rfl rfl rfl (by decide) rfl (rmIb1 l Z _ hw [] b1 tx u8 kt nt pre oo cs fm h1 n0 Z17 A1 f20 f19 f12 f11 f15 hcs f16 f14 hfm g2 ne5 hon ho hb0) (by decide) (by decide) (g := (mkF m 24 #[.val (.ref a0)] [(.ref u8), (.int (1 : Int32)), (.int (Int32.ofNat oo)), (.ref tx), (.ref b1), (.ref b1)])) rfl hml rfl (argsL := [(.ref tx), (.int (Int32.ofNat oo)), (.int (1 : Int32)), (.ref u8)]) (rest := [(.ref b1)]) pd_23 rfl rfl rfl (W := 1) (Nat.le_of_eq rfl) (D 12 rfl) rfl e25 (by decide) (by decide)
  obtain ⟨rfl, Nq26, Kq26, f26a, t26, kb26, f26b, f26c⟩ := hQ26
  have N27 := Fr.app N0 Nq26
  have f28 := (f7.keep Kq26)
  have f29 := (f8.keep Kq26 (ninS ne4 nin0))
  have f30 := (f9.keep Kq26 (ninS ne4 nin0))
  have f31 := (f10.keep Kq26 (ninS ne4 nin0))
  have f32 := (f11.keep Kq26 (ninS ne5 nin0))
  have f33 := (f12.keep Kq26)
  have f34 := (own_staKeep f13 Kq26 (own_snS A1 own_sn0))
  have f35 := (own_staKeep f14 Kq26 (own_snS A1 own_sn0))
  have f36 := (own_staKeep f15 Kq26 (own_snS A1 own_sn0))
  have f37 := (own_staKeep f16 Kq26 (own_snS A1 own_sn0))
  have f38 := (A1.keep Kq26)
  have Z39 := Nat.le_trans Z17 Kq26.1
  have K40 := K18.trans Kq26 (allS (Or.inr sz3) all0)
  refine OFin.to st26 ?_
  exact OFin.retA X26 hx hlk (t := (.object cB)) rfl rfl hret (D 13 rfl) (by decide) (by decide) (by exact ⟨by rw [← gq1], N27, K40, by rw [← gq1]; exact f38, t26, kb26, by rw [← gq1]; exact f26a, by rw [← gq1]; exact f26b, f26c⟩)
theorem efVl2 {m : MethodId} {a0 : Addr} : entryFrame m #[(.ref a0)] 1 = mkF m 0 #[.val (.ref a0)] [] := by first | (simp [entryFrame, mkF, argsToLocals, Value.category]; done) | rfl
def QVl2 (Z : State) (a0 tx : Addr) (kt : ClassId) (nt : Int32) (pre : List Int32) (oo : Nat) (u8 : Addr) (fm : Value) (cs x0 x1 : Int32) (h0 : Heap) (n0 : Nat) (v : Option Value) (h : Heap) (L : List Loc) : Prop := v = some (.ref h0.size) ∧ Fr n0 L ∧ Keep h0 h [] ∧ Exa Z h h0.size cB ∧ ∃ (t : Addr) (kb : ClassId), Fld Z h h0.size cB "coder" "B" (.int (0 : Int32)) ∧ Fld Z h h0.size cB "value" "[B" (.ref t) ∧ Arv Z h t kb .byte (2 : Int32) [(.int x0), (.int x1)] (.int (0 : Int32))
theorem rmVl2 (l : Launch) (Z : State) (a0 : Array Value) (hw : HW a0 Z) (ws : List Jvm.Cond) (a0 tx : Addr) (kt : ClassId) (nt : Int32) (pre : List Int32) (oo : Nat) (u8 : Addr) (fm : Value) (cs x0 x1 : Int32) (h0 : Heap) (n0 : Nat) (Z0 : n0 ≤ h0.size) (EO : Exa Z h0 a0 cA) (Ft : Fld Z h0 a0 cA "text" "[B" (.ref tx)) (Fvs : Fld Z h0 a0 cA "valueStart" "I" (.int (Int32.ofNat oo))) (Fve : Fld Z h0 a0 cA "valueEnd" "I" (.int (Int32.ofNat (oo + 2)))) (Tx : Txt Z h0 tx kt nt pre) (EC : Exa Z h0 u8 "sun/nio/cs/UTF_8") (Sc8 : Sta Z h0 "java/nio/charset/StandardCharsets" "UTF_8" c12 (.ref u8)) (Sfm : Sta Z h0 cE "SIOOBE_FORMATTER" cF fm) (hfm : fm.isRef = true) (hon : oo + 2 ≤ pre.length) (Scs : Sta Z h0 cB "COMPACT_STRINGS" "Z" (.int cs)) (hcs : ¬ cs = (0 : Int32)) (Su8 : Sta Z h0 "sun/nio/cs/UTF_8" "INSTANCE" c10 (.ref u8)) (ho : 0 < oo) (hx0 : pre.getD (oo) 0 = x0) (hx1 : pre.getD (oo + 1) 0 = x1) (hb0 : ¬ x0 < (0 : Int32)) (hb1 : ¬ x1 < (0 : Int32)) :
    Con l mn41 (Jvm.Cond.code mn41 prog_7_method_13_code 1 (some (.object cB))) ws (⟨5, 2, 6, 110⟩ : Jvm.Room) #[(.ref a0)] Z h0 (QVl2 Z a0 tx kt nt pre oo u8 fm cs x0 x1 h0 n0) := by
  refine own_of (plainFor_of_name pn_0) hisR dl_prog_7_13 ?_
  intro p e s m below meth c s₁ hx D hlk hret hml hZ hown hnm X0 e0
  replace hown : s.vm.findClass cA = some m.cls := hown
  have N0 := Fr.nil n0
  rw [efVl2]
  have K0 : Keep h0 h0 [] := Keep.refl _ _
  subst hx0 hx1
  obtain ⟨T1, h1, X1, e1, E1, A1, D1, -, st1⟩ := newO X0 hx hZ hown (wt hw 178 rfl) (wt hw 105 rfl) (wt hw 104 rfl) e0 (g := (mkF m 0 #[.val (.ref a0)] [])) rfl (D 0 rfl) (by decide) (by decide)
  obtain ⟨b1, gq1⟩ : ∃ z, z = h0.size := ⟨_, rfl⟩
  rw [← gq1] at A1 D1 st1
  have g2 : n0 ≤ b1 := (Nat.le_trans Z0 (Nat.le_of_eq gq1.symm))
  have sz3 : h0.size ≤ b1 := (Nat.le_trans K0.1 (Nat.le_of_eq gq1.symm))
  have ne4 : a0 ≠ b1 := (Nat.ne_of_lt (Nat.lt_of_lt_of_le EO.lt (Nat.le_of_eq gq1.symm)))
  have ne5 : tx ≠ b1 := (Nat.ne_of_lt (Nat.lt_of_lt_of_le Tx.lt (Nat.le_of_eq gq1.symm)))
  have ne6 : u8 ≠ b1 := (Nat.ne_of_lt (Nat.lt_of_lt_of_le EC.lt (Nat.le_of_eq gq1.symm)))
  have f7 := EO.ext E1
  have f8 := Ft.ext E1
  have f9 := Fvs.ext E1
  have f10 := Fve.ext E1
  have f11 := Tx.ext E1
  have f12 := EC.ext E1
  have f13 := Sc8.ext E1
  have f14 := Sfm.ext E1
  have f15 := Scs.ext E1
  have f16 := Su8.ext E1
  have Z17 := Nat.le_trans Z0 E1.1
  have K18 := K0.ext E1
  have f19 : Fld Z h1 b1 cB "value" "[B" .null := D1 (Or.inr (wt hw 106 rfl)) (ty := (.array .byte)) (by decide)
  have f20 : Fld Z h1 b1 cB "coder" "B" (.int (0 : Int32)) := D1 (Or.inr (wt hw 107 rfl)) (ty := .byte) (by decide)
  refine OFin.of st1 ?_
  obtain ⟨T21, X21, e21, st21⟩ := getF X1 hx hZ hown (host := "") (Or.inl (wt hw 27 rfl)) Via.refl e1 f8 (g := (mkF m 5 #[.val (.ref a0)] [(.ref a0), (.ref b1), (.ref b1)])) rfl rfl (D 3 rfl)
  refine OFin.of (fun t ht => XS.dup X1.here hx rfl (D 1 rfl) rfl rfl (aN X1 hx rfl (D 2 rfl) rfl rfl (st21 t ht))) ?_
  obtain ⟨T22, X22, e22, st22⟩ := getF X21 hx hZ hown (host := "") (Or.inl (wt hw 153 rfl)) Via.refl e21 f9 (g := (mkF m 9 #[.val (.ref a0)] [(.ref a0), (.ref tx), (.ref b1), (.ref b1)])) rfl rfl (D 5 rfl)
  refine OFin.of (fun t ht => aN X21 hx rfl (D 4 rfl) rfl rfl (st22 t ht)) ?_
  obtain ⟨T23, X23, e23, st23⟩ := getF X22 hx hZ hown (host := "") (Or.inl (wt hw 155 rfl)) Via.refl e22 f10 (g := (mkF m 13 #[.val (.ref a0)] [(.ref a0), (.int (Int32.ofNat oo)), (.ref tx), (.ref b1), (.ref b1)])) rfl rfl (D 7 rfl)
  refine OFin.of (fun t ht => aN X22 hx rfl (D 6 rfl) rfl rfl (st23 t ht)) ?_
  obtain ⟨T24, X24, e24, st24⟩ := getF X23 hx hZ hown (host := "") (Or.inl (wt hw 153 rfl)) Via.refl e23 f9 (g := (mkF m 17 #[.val (.ref a0)] [(.ref a0), (.int (Int32.ofNat (oo + 2))), (.int (Int32.ofNat oo)), (.ref tx), (.ref b1), (.ref b1)])) rfl rfl (D 9 rfl)
  refine OFin.of (fun t ht => aN X23 hx rfl (D 8 rfl) rfl rfl (st24 t ht)) ?_
  refine OFin.of (S' := T24.setTop (mkF m 21 #[.val (.ref a0)] [(.int ((Int32.ofNat (oo + 2)) - (Int32.ofNat oo))), (.int (Int32.ofNat oo)), (.ref tx), (.ref b1), (.ref b1)])) (fun t ht => XS.isub X24.here hx rfl (D 10 rfl) rfl ht) ?_
  rw [own_subn oo 2]
  rw [show Int32.ofNat 2 = (2 : Int32) from rfl]
  obtain ⟨T25, X25, e25, st25⟩ := getS (host := "") X24 hx hZ hown (wt hw 179 rfl) Via.refl e24 f13 (g := (mkF m 21 #[.val (.ref a0)] [(.int (2 : Int32)), (.int (Int32.ofNat oo)), (.ref tx), (.ref b1), (.ref b1)])) rfl (D 11 rfl)
  refine OFin.of st25 ?_
  obtain ⟨_, T26, Lc26, X26, hQ26, st26⟩ := own_cN X25 hx hw hZ hown 181 182 104 183 rfl rfl rfl rfl (by decide) rfl (rmIb2 l Z _ hw [] b1 tx u8 kt nt pre oo cs fm h1 n0 Z17 A1 f20 f19 f12 f11 f15 hcs f16 f14 hfm g2 ne5 hon ho hb0 hb1) (by decide) (by decide) (g := (mkF m 24 #[.val (.ref a0)] [(.ref u8), (.int (2 : Int32)), (.int (Int32.ofNat oo)), (.ref tx), (.ref b1), (.ref b1)])) rfl hml rfl (argsL := [(.ref tx), (.int (Int32.ofNat oo)), (.int (2 : Int32)), (.ref u8)]) (rest := [(.ref b1)]) pd_23 rfl rfl rfl (W := 1) (Nat.le_of_eq rfl) (D 12 rfl) rfl e25 (by decide) (by decide)
  obtain ⟨rfl, Nq26, Kq26, f26a, t26, kb26, f26b, f26c⟩ := hQ26
  have N27 := Fr.app N0 Nq26
  have f28 := (f7.keep Kq26)
  have f29 := (f8.keep Kq26 (ninS ne4 nin0))
  have f30 := (f9.keep Kq26 (ninS ne4 nin0))
  have f31 := (f10.keep Kq26 (ninS ne4 nin0))
  have f32 := (f11.keep Kq26 (ninS ne5 nin0))
  have f33 := (f12.keep Kq26)
  have f34 := (own_staKeep f13 Kq26 (own_snS A1 own_sn0))
  have f35 := (own_staKeep f14 Kq26 (own_snS A1 own_sn0))
  have f36 := (own_staKeep f15 Kq26 (own_snS A1 own_sn0))
  have f37 := (own_staKeep f16 Kq26 (own_snS A1 own_sn0))
  have f38 := (A1.keep Kq26)
  have Z39 := Nat.le_trans Z17 Kq26.1
  have K40 := K18.trans Kq26 (allS (Or.inr sz3) all0)
  refine OFin.to st26 ?_
  exact OFin.retA X26 hx hlk (t := (.object cB)) rfl rfl hret (D 13 rfl) (by decide) (by decide) (by exact ⟨by rw [← gq1], N27, K40, by rw [← gq1]; exact f38, t26, kb26, by rw [← gq1]; exact f26a, by rw [← gq1]; exact f26b, f26c⟩)
theorem efZ4 {m : MethodId} {a0 a1 : Addr} : entryFrame m #[(.ref a0), (.ref a1), (.int (0 : Int32)), (.int (0 : Int32)), .null] 6 = mkF m 0 #[.val (.ref a0), .val (.ref a1), .val (.int (0 : Int32)), .val (.int (0 : Int32)), .val .null, .unset] [] := by first | (simp [entryFrame, mkF, argsToLocals, Value.category]; done) | rfl
def QZ4 (Z : State) (a0 a1 : Addr) (h0 : Heap) (n0 : Nat) (v : Option Value) (h : Heap) (L : List Loc) : Prop := v = none ∧ Fr n0 L ∧ Keep h0 h [a0] ∧ ∃ (t : Addr) (kb : ClassId), Fld Z h a0 cB "coder" "B" (.int (0 : Int32)) ∧ Fld Z h a0 cB "value" "[B" (.ref t) ∧ Arv Z h t kb .byte (0 : Int32) [] (.int (0 : Int32))
theorem rmZ4 (l : Launch) (Z : State) (a0 : Array Value) (hw : HW a0 Z) (ws : List Jvm.Cond) (a0 a1 : Addr) (h0 : Heap) (n0 : Nat) (Z0 : n0 ≤ h0.size) (E0 : Exa Z h0 a0 cB) (Fc : Fld Z h0 a0 cB "coder" "B" (.int (0 : Int32))) (Fv : Fld Z h0 a0 cB "value" "[B" .null) (g0 : n0 ≤ a0) :
    ConH consts_1 l mn42 (Jvm.Cond.code mn42 jdk_42_method_149_code 6 none) ws (⟨1, 4, 8, 12⟩ : Jvm.Room) #[(.ref a0), (.ref a1), (.int (0 : Int32)), (.int (0 : Int32)), .null] Z h0 (QZ4 Z a0 a1 h0 n0) := by
  refine own_ofH (plainFor_of_name pn_2) hisR dl_jdk_42_149 ?_
  intro p e s m below meth c s₁ hx D hlk hret hml hZ hown hnm X0 e0 hh hC0
  replace hown : s.vm.findClass cB = some m.cls := hown
  have N0 := Fr.nil n0
  have hR0 : CHr Z consts_1 s.vm h0 s.vm h0 := CHr.refl hC0
  have hEL := own_EW hw
  rw [efZ4]
  have K0 : Keep h0 h0 [a0] := Keep.refl _ _
  obtain ⟨T1, X1, e1, st1⟩ := initO X0 hx hZ hown (wt hw 200 rfl) (wt hw 25 rfl) (wt hw 26 rfl) e0 (g := (mkF m 1 #[.val (.ref a0), .val (.ref a1), .val (.int (0 : Int32)), .val (.int (0 : Int32)), .val .null, .unset] [(.ref a0)])) rfl (by rw [hml]; rfl) rfl (D 1 rfl) (by decide) (W := 0) (by show 2 * 0 + _ ≤ _; exact Nat.le_of_eq rfl) (by decide)
  refine OFin.of (fun t ht => aN X0 hx rfl (D 0 rfl) rfl rfl (st1 t ht)) ?_
  obtain ⟨al2, T2, h2, k2, lv2, c2, X2, e2, E2, S2, K2, hZ2, hown2, Ax2, Fc2, Fv2, Va2, -, -, CH2, -, nx2, st2⟩ := ldcCH (s := s) (vm0 := s.vm) X1 hx hZ hown (wt hw 201 rfl) (own_strAtoms hw) e1 ((State.WarmedH.refl s).since h0.size) (Nat.le_refl _) hEL (List.mem_of_getElem? (i := 1) rfl) hR0.1 (vs := []) (z := (0 : Int32)) ⟨by decide, rfl⟩ (by decide) (by decide) (g := (mkF m 9 #[.val (.ref a0), .val (.ref a1), .val (.int (0 : Int32)), .val (.int (0 : Int32)), .val .null, .unset] [(.ref a0)])) rfl (D 5 rfl) (n := 0) (by decide) (by decide) (by decide) (by decide)
  have hA3 := CH2
  have sf4 := hA3.safe E0.lt (own_safeNull hZ.alike E0 Fv)
  have hR5 := hR0.trans hA3
  have f6 := E0.ext E2
  have f7 := Fc.ext E2
  have f8 := Fv.ext E2
  have Z9 := Nat.le_trans Z0 E2.1
  have K10 := K0.ext E2
  have ns11 := nx2 a0 sf4
  refine OFin.of (fun t ht => iN X1 hx rfl (D 2 rfl) rfl (fN X1 hx rfl (D 3 rfl) rfl ((if0 _ _).trans (teq (by decide : (0 : Int32) = (0 : Int32))).2) (aN X1 hx rfl (D 4 rfl) rfl rfl (st2 t ht)))) ?_
  obtain ⟨T12, X12, e12, st12⟩ := getF X2 hx hZ2 hown2 (host := "") (Or.inl (wt hw 123 rfl)) Via.refl e2 Fv2 (g := (mkF m 11 #[.val (.ref a0), .val (.ref a1), .val (.int (0 : Int32)), .val (.int (0 : Int32)), .val .null, .unset] [(.ref al2), (.ref a0)])) rfl rfl (D 6 rfl)
  refine OFin.of st12 ?_
  obtain ⟨T13, h13, X13, e13, W13, st13⟩ := putF X12 hx hZ2 hown2 (host := "") (Or.inl (wt hw 123 rfl)) Via.refl e12 f8 f6 (Or.inr ⟨(wt hw 106 rfl), rfl, hnm⟩) (wt hw 105 rfl) (ty := (.array .byte)) (by decide) rfl rfl (g := (mkF m 14 #[.val (.ref a0), .val (.ref a1), .val (.int (0 : Int32)), .val (.int (0 : Int32)), .val .null, .unset] [(.ref lv2), (.ref a0)])) rfl rfl (D 7 rfl)
  have hA14 := CHr.wr W13 sf4 hR5.1
  have sf15 := hA14.safe f6.lt sf4
  have hR16 := hR5.trans hA14
  have f17 := (f6.wr W13)
  have f18 := (f7.other W13 (Or.inr (sn0 hw)))
  have f19 := (Ax2.wr W13)
  have f20 := (Fc2.other W13 (Or.inl (Ne.symm ns11.1)))
  have f21 := (Fv2.other W13 (Or.inl (Ne.symm ns11.1)))
  have f22 := (Va2.other W13 (Ne.symm ns11.2))
  have Z23 := Nat.le_trans Z9 (Keep.of_wr W13).1
  have K24 := K10.wr W13 (Or.inl (List.mem_of_getElem? (i := 0) rfl))
  have N25 := Fr.snoc X13 N0 g0
  have kk26 : k2 ≤ h13.size := (Nat.le_trans K2 (Keep.of_wr W13).1)
  have f27 : Fld Z h13 a0 cB "value" "[B" (.ref lv2) := (f8.same W13)
  refine OFin.of st13 ?_
  obtain ⟨al28, T28, h28, k28, lv28, c28, X28, e28, E28, S28, K28, hZ28, hown28, Ax28, Fc28, Fv28, Va28, -, -, CH28, -, nx28, st28⟩ := ldcCH (s := s) (vm0 := T2.vm) X13 hx hZ2 hown2 (wt hw 201 rfl) (own_strAtoms hw) e13 S2 kk26 hEL (List.mem_of_getElem? (i := 1) rfl) hR16.1 (vs := []) (z := (0 : Int32)) ⟨by decide, rfl⟩ (by decide) (by decide) (g := (mkF m 18 #[.val (.ref a0), .val (.ref a1), .val (.int (0 : Int32)), .val (.int (0 : Int32)), .val .null, .unset] [(.ref a0)])) rfl (D 9 rfl) (n := 0) (by decide) (by decide) (by decide) (by decide)
  have hA29 := CH28
  have sf30 := hA29.safe f17.lt sf15
  have hR31 := hR16.trans hA29
  have f32 := f17.ext E28
  have f33 := f18.ext E28
  have f34 := f19.ext E28
  have f35 := f20.ext E28
  have f36 := f21.ext E28
  have f37 := f22.ext E28
  have f38 := f27.ext E28
  have Z39 := Nat.le_trans Z23 E28.1
  have K40 := K24.ext E28
  have ns41 := nx28 a0 sf30
  refine OFin.of (fun t ht => aN X13 hx rfl (D 8 rfl) rfl rfl (st28 t ht)) ?_
  obtain ⟨T42, X42, e42, st42⟩ := getF X28 hx hZ28 hown28 (host := "") (Or.inl (wt hw 130 rfl)) Via.refl e28 Fc28 (g := (mkF m 20 #[.val (.ref a0), .val (.ref a1), .val (.int (0 : Int32)), .val (.int (0 : Int32)), .val .null, .unset] [(.ref al28), (.ref a0)])) rfl rfl (D 10 rfl)
  refine OFin.of st42 ?_
  obtain ⟨T43, h43, X43, e43, W43, st43⟩ := putFN X42 hx hZ28 hown28 (wt hw 130 rfl) Via.refl e42 f33 f32 (Or.inr ⟨(wt hw 107 rfl), rfl, hnm⟩) (wt hw 105 rfl) (ty := .byte) (v' := (.int (0 : Int32))) (by decide) rfl rfl (g := (mkF m 23 #[.val (.ref a0), .val (.ref a1), .val (.int (0 : Int32)), .val (.int (0 : Int32)), .val .null, .unset] [(.int (0 : Int32)), (.ref a0)])) rfl rfl (D 11 rfl)
  have hA44 := CHr.wr W43 sf30 hR31.1
  have sf45 := hA44.safe f32.lt sf30
  have hR46 := hR31.trans hA44
  have f47 := (f32.wr W43)
  have f48 := (f34.wr W43)
  have f49 := (f35.other W43 (Or.inl (Ne.symm ns11.1)))
  have f50 := (f36.other W43 (Or.inl (Ne.symm ns11.1)))
  have f51 := (f37.other W43 (Ne.symm ns11.2))
  have f52 := (f38.other W43 (Or.inr (sn1 hw)))
  have f53 := (Ax28.wr W43)
  have f54 := (Fc28.other W43 (Or.inl (Ne.symm ns41.1)))
  have f55 := (Fv28.other W43 (Or.inl (Ne.symm ns41.1)))
  have f56 := (Va28.other W43 (Ne.symm ns41.2))
  have Z57 := Nat.le_trans Z39 (Keep.of_wr W43).1
  have K58 := K40.wr W43 (Or.inl (List.mem_of_getElem? (i := 0) rfl))
  have N59 := Fr.snoc X43 N25 g0
  have kk60 : k28 ≤ h43.size := (Nat.le_trans K28 (Keep.of_wr W43).1)
  have f61 : Fld Z h43 a0 cB "coder" "B" (.int (0 : Int32)) := (f33.same W43)
  refine OFin.of st43 ?_
  have rH62 : CHr Z consts_1 s.vm s.heap T43.vm T43.heap := by rw [hh, e43]; exact hR46.trans (CHv.at (s := s) (vm0 := T28.vm) X43 hZ28 hEL hR46.1)
  exact own_retVH (s := s) (vm₁ := T28.vm) X43 S28 (by rw [e43]; exact kk60) rH62 hx hlk hret (D 12 rfl) (by decide) (by decide) (by rw [e43]; exact ⟨rfl, N59, K58, lv2, c2, f61, f52, f51⟩)
theorem efZ1 {m : MethodId} {a0 a1 : Addr} : entryFrame m #[(.ref a0), (.ref a1)] 2 = mkF m 0 #[.val (.ref a0), .val (.ref a1)] [] := by first | (simp [entryFrame, mkF, argsToLocals, Value.category]; done) | rfl
def QZ1 (Z : State) (a0 a1 : Addr) (kc : ClassId) (h0 : Heap) (n0 : Nat) (v : Option Value) (h : Heap) (L : List Loc) : Prop := v = none ∧ Fr n0 L ∧ Keep h0 h [a0] ∧ ∃ (t : Addr) (kb : ClassId), Fld Z h a0 cB "coder" "B" (.int (0 : Int32)) ∧ Fld Z h a0 cB "value" "[B" (.ref t) ∧ Arv Z h t kb .byte (0 : Int32) [] (.int (0 : Int32))
theorem rmZ1 (l : Launch) (Z : State) (a0 : Array Value) (hw : HW a0 Z) (ws : List Jvm.Cond) (a0 a1 : Addr) (kc : ClassId) (h0 : Heap) (n0 : Nat) (Z0 : n0 ≤ h0.size) (E0 : Exa Z h0 a0 cB) (Fc : Fld Z h0 a0 cB "coder" "B" (.int (0 : Int32))) (Fv : Fld Z h0 a0 cB "value" "[B" .null) (V1 : Arv Z h0 a1 kc .char (0 : Int32) [] (.int (0 : Int32))) (g0 : n0 ≤ a0) (hne : a1 ≠ a0) :
    ConH consts_1 l mn43 (Jvm.Cond.code mn43 jdk_42_method_3_code 2 none) ws (⟨2, 4, 8, 29⟩ : Jvm.Room) #[(.ref a0), (.ref a1)] Z h0 (QZ1 Z a0 a1 kc h0 n0) := by
  refine own_ofH (plainFor_of_name pn_2) hisR dl_jdk_42_3 ?_
  intro p e s m below meth c s₁ hx D hlk hret hml hZ hown hnm X0 e0 hh hC0
  replace hown : s.vm.findClass cB = some m.cls := hown
  have N0 := Fr.nil n0
  have hR0 : CHr Z consts_1 s.vm h0 s.vm h0 := CHr.refl hC0
  have hEL := own_EW hw
  rw [efZ1]
  have K0 : Keep h0 h0 [a0] := Keep.refl _ _
  obtain ⟨cl1, Ar1, q1, S1, Ng1, H1, G1⟩ := id V1
  refine OFin.of (fun t ht => aN X0 hx rfl (D 0 rfl) rfl rfl (aN X0 hx rfl (D 1 rfl) rfl rfl (iC X0 hx rfl (D 2 rfl) (aN X0 hx rfl (D 3 rfl) rfl rfl (own_alen X0 hx hZ e0 Ar1 S1 Ng1 (g := (mkF m 4 #[.val (.ref a0), .val (.ref a1)] [(.ref a1), (.int (0 : Int32)), (.ref a1), (.ref a0)])) rfl rfl (D 4 rfl) ht))))) ?_
  obtain ⟨_, _, ⟨T2, L2, k2, n2⟩, -, X2, Sq2, gr2, ⟨Lc2, hQ2, l2, y2, z2, CH2⟩, st2⟩ := X0.specialBackS hx (y := mn42) rfl hown (mvT hZ (wt hw 206 rfl)) (mvT hZ (wt hw 207 rfl)) (mvT hZ (wt hw 208 rfl)) (by decide) (backOfSH (s := s) (vm0 := s.vm) (W := 0) (rmZ4 l Z _ hw [] a0 a1 h0 n0 Z0 E0 Fc Fv g0) hZ (wt hw 208 rfl) (wt hw 104 rfl) (by decide) (by decide) hEL hR0.1) (g := (mkF m 6 #[.val (.ref a0), .val (.ref a1)] [.null, (.int (0 : Int32)), (.int (0 : Int32)), (.ref a1), (.ref a0)])) rfl (by rw [hml]; rfl) (Steps.refl _) (a := a0) (argsL := [(.ref a1), (.int (0 : Int32)), (.int (0 : Int32)), .null]) (rest := []) (lenOf pd_24 rfl) rfl (by show 2 * 0 + _ ≤ _; exact Nat.le_of_eq rfl) (D 6 rfl) (fun _ _ => ⟨rfl, e0, (by decide : 0 + 4 ≤ _), (by decide : 0 + 8 ≤ _)⟩)
  dsimp only [Pt.U, Pt.locs, Pt.cells, Pt.slots] at X2 l2 y2 z2 st2 hQ2 Sq2 gr2 CH2
  subst l2 y2 z2
  have hZ2 : Z.Warmed39 (s.setVm T2.vm).vm := State.Warmed39.trans (t := s.setVm s.vm) hZ Sq2.1
  have hown2 : (s.setVm T2.vm).vm.findClass cB = some m.cls := by rw [show (s.setVm T2.vm).vm = T2.vm from rfl, Sq2.1.alike.findClass]; exact hown
  have S2 : s.Since T2.vm T2.heap.size := State.Since.trans (s := s) (vm₁ := s.vm) ((State.WarmedH.refl s).since h0.size) Sq2 (Nat.le_trans (Nat.le_refl _) (by rw [← e0]; exact gr2))
  obtain ⟨rfl, Nq2, Kq2, t2, kb2, f2a, f2b, f2c⟩ := hQ2
  have N3 := Fr.app N0 Nq2
  have hA4 := CH2
  have hR5 := hR0.trans hA4
  have f6 := (E0.keep Kq2)
  have f7 := (V1.keep Kq2 (ninS hne nin0))
  have Z8 := Nat.le_trans Z0 Kq2.1
  have K9 := K0.trans Kq2 (allS (Or.inl (List.mem_of_getElem? (i := 0) rfl)) all0)
  refine OFin.of (fun t ht => XS.aconstNull X0.here hx rfl (D 5 rfl) (st2.trans ht)) ?_
  have rH10 : CHr Z consts_1 s.vm s.heap T2.vm T2.heap := by rw [hh]; exact hR5.trans (CHv.at (s := s) (vm0 := T2.vm) X2 hZ2 hEL hR5.1)
  exact own_retVH (s := s) (vm₁ := T2.vm) X2 S2 (Nat.le_refl _) rH10 hx hlk hret (D 7 rfl) (by decide) (by decide) (by exact ⟨rfl, N3, K9, t2, kb2, f2a, f2b, f2c⟩)
theorem pn_9 : plainName cI = true := by first | (simp [plainName, overriddenIn]; done) | decide +kernel
theorem efCf1 {m : MethodId} {a0 a2 : Addr} : entryFrame m #[(.ref a0), (.int (0 : Int32)), (.ref a2), (.int (0 : Int32)), (.int (1 : Int32))] 7 = mkF m 0 #[.val (.ref a0), .val (.int (0 : Int32)), .val (.ref a2), .val (.int (0 : Int32)), .val (.int (1 : Int32)), .unset, .unset] [] := by first | (simp [entryFrame, mkF, argsToLocals, Value.category]; done) | rfl
def QCf1 (Z : State) (a0 a2 : Addr) (kc kb : ClassId) (c0 : Int32) (h0 : Heap) (n0 : Nat) (v : Option Value) (h : Heap) (L : List Loc) : Prop := v = some (.int (1 : Int32)) ∧ Fr n0 L ∧ Keep h0 h [a2] ∧ Arv Z h a2 kb .byte (1 : Int32) [(.int ((c0.toInt8.toInt32).toInt8.toInt32))] (.int (0 : Int32))
theorem rmCf1 (l : Launch) (Z : State) (a0 : Array Value) (hw : HW a0 Z) (ws : List Jvm.Cond) (a0 a2 : Addr) (kc kb : ClassId) (c0 : Int32) (h0 : Heap) (n0 : Nat) (Z0 : n0 ≤ h0.size) (V1 : Arv Z h0 a0 kc .char (1 : Int32) [(.int c0)] (.int (0 : Int32))) (V2 : Arv Z h0 a2 kb .byte (1 : Int32) [(.int (0 : Int32))] (.int (0 : Int32))) (g2 : n0 ≤ a2) (hne : a0 ≠ a2) (hp0 : ¬ (255 : Int32) < c0) :
    Con l mn44 (Jvm.Cond.code mn44 jdk_52_method_21_code 7 (some .int)) ws (⟨0, 0, 0, 0⟩ : Jvm.Room) #[(.ref a0), (.int (0 : Int32)), (.ref a2), (.int (0 : Int32)), (.int (1 : Int32))] Z h0 (QCf1 Z a0 a2 kc kb c0 h0 n0) := by
  refine own_of (plainFor_of_name pn_9) hisR dl_jdk_52_21 ?_
  intro p e s m below meth c s₁ hx D hlk hret hml hZ hown hnm X0 e0
  replace hown : s.vm.findClass cI = some m.cls := hown
  have N0 := Fr.nil n0
  rw [efCf1]
  have K0 : Keep h0 h0 [a2] := Keep.refl _ _
  obtain ⟨cl1, Ar1, q1, S1, Ng1, H1, G1⟩ := id V1
  have hin1 := inb_of (j := (0 : Int32)) S1 ⟨by decide, by decide⟩
  have hat1 : cl1.slots[((0 : Int32)).toNatClampNeg]? = some (.int c0) := Has.at H1 hin1 rfl
  refine OFin.of (fun t ht => iC X0 hx rfl (D 0 rfl) (sW X0 hx rfl (D 1 rfl) rfl (l' := #[.val (.ref a0), .val (.int (0 : Int32)), .val (.ref a2), .val (.int (0 : Int32)), .val (.int (1 : Int32)), .val (.int (0 : Int32)), .unset]) rfl (iW X0 hx rfl (D 2 rfl) rfl (iW X0 hx rfl (D 3 rfl) rfl (cN X0 hx rfl (D 4 rfl) rfl (tlt (by decide : (0 : Int32) < (1 : Int32))).2.1 (aN X0 hx rfl (D 5 rfl) rfl rfl (iN X0 hx rfl (D 6 rfl) rfl (X0.caload hx (j := (0 : Int32)) (v := (.int c0)) (by rw [e0]; exact Ar1.1) (State.isArrayOf_alike hZ.alike Ar1.2.1) Ar1.2.2 hin1 hat1 (g := (mkF m 12 #[.val (.ref a0), .val (.int (0 : Int32)), .val (.ref a2), .val (.int (0 : Int32)), .val (.int (1 : Int32)), .val (.int (0 : Int32)), .unset] [(.int (0 : Int32)), (.ref a0)])) rfl rfl (D 7 rfl) _ ht)))))))) ?_
  obtain ⟨cl2, Ar2, q2, S2, Ng2, H2, G2⟩ := id V2
  have hin2 := inb_of (j := (0 : Int32)) S2 ⟨by decide, by decide⟩
  obtain ⟨T2, h2, X2, e2, W2, st2⟩ := stB X0 hx hZ e0 Ar2 (j := (0 : Int32)) hin2 (g := (mkF m 31 #[.val (.ref a0), .val (.int (0 : Int32)), .val (.ref a2), .val (.int (0 : Int32)), .val (.int (1 : Int32)), .val (.int (0 : Int32)), .val (.int c0)] [(.int (c0.toInt8.toInt32)), (.int (0 : Int32)), (.ref a2)])) rfl rfl (D 16 rfl)
  have f3 := (V1.other W2 hne)
  have Z4 := Nat.le_trans Z0 (Keep.of_wr W2).1
  have K5 := K0.wr W2 (Or.inl (List.mem_of_getElem? (i := 0) rfl))
  have N6 := Fr.snoc X2 N0 g2
  have f7 : Arv Z h2 a2 kb .byte (1 : Int32) [(.int ((c0.toInt8.toInt32).toInt8.toInt32))] (.int (0 : Int32)) := Arv.set Ar2 q2 S2 Ng2 H2 G2 (fits_nar_byte _) W2 0 rfl (Nat.le_of_ble_eq_true rfl)
  refine OFin.of (fun t ht => sW X0 hx rfl (D 8 rfl) rfl (l' := #[.val (.ref a0), .val (.int (0 : Int32)), .val (.ref a2), .val (.int (0 : Int32)), .val (.int (1 : Int32)), .val (.int (0 : Int32)), .val (.int c0)]) rfl (iW X0 hx rfl (D 9 rfl) rfl (XS.sipush X0.here hx rfl (D 10 rfl) (cY X0 hx rfl 20 26 rfl (D 11 rfl) rfl (flt (hp0 : ¬ ((255 : Int32) < c0))).2.2.2 (by decide) (aN X0 hx rfl (D 12 rfl) rfl rfl (iN X0 hx rfl (D 13 rfl) rfl (iW X0 hx rfl (D 14 rfl) rfl (XS.i2b X0.here hx rfl (D 15 rfl) rfl (st2 t ht))))))))) ?_
  refine OFin.of (S' := T2.setTop (mkF m 46 #[.val (.ref a0), .val (.int (1 : Int32)), .val (.ref a2), .val (.int (1 : Int32)), .val (.int (1 : Int32)), .val (.int (1 : Int32)), .val (.int c0)] [(.int (1 : Int32))])) (fun t ht => iI X2 hx rfl (D 17 rfl) rfl (l' := #[.val (.ref a0), .val (.int (1 : Int32)), .val (.ref a2), .val (.int (0 : Int32)), .val (.int (1 : Int32)), .val (.int (0 : Int32)), .val (.int c0)]) rfl (iI X2 hx rfl (D 18 rfl) rfl (l' := #[.val (.ref a0), .val (.int (1 : Int32)), .val (.ref a2), .val (.int (1 : Int32)), .val (.int (1 : Int32)), .val (.int (0 : Int32)), .val (.int c0)]) rfl (iI X2 hx rfl (D 19 rfl) rfl (l' := #[.val (.ref a0), .val (.int (1 : Int32)), .val (.ref a2), .val (.int (1 : Int32)), .val (.int (1 : Int32)), .val (.int (1 : Int32)), .val (.int c0)]) rfl (gO X2 hx rfl 41 3 rfl (D 20 rfl) (by decide) (iW X2 hx rfl (D 2 rfl) rfl (iW X2 hx rfl (D 3 rfl) rfl (cY X2 hx rfl 7 44 rfl (D 4 rfl) rfl (flt (by decide : ¬ ((1 : Int32) < (1 : Int32)))).2.1 (by decide) (iW X2 hx rfl (D 21 rfl) rfl ht)))))))) ?_
  exact OFin.retI X2 hx hlk hret (D 22 rfl) (by decide) (by decide) (by rw [e2]; exact ⟨rfl, N6, K5, f7⟩)
theorem efCt1 {m : MethodId} {a0 : Addr} : entryFrame m #[(.ref a0), (.int (0 : Int32)), (.int (1 : Int32))] 6 = mkF m 0 #[.val (.ref a0), .val (.int (0 : Int32)), .val (.int (1 : Int32)), .unset, .unset, .unset] [] := by first | (simp [entryFrame, mkF, argsToLocals, Value.category]; done) | rfl
def QCt1 (Z : State) (a0 : Addr) (kc : ClassId) (c0 : Int32) (h0 : Heap) (n0 : Nat) (v : Option Value) (h : Heap) (L : List Loc) : Prop := v = some (.ref h0.size) ∧ Fr n0 L ∧ Keep h0 h [] ∧ ∃ kb, Arv Z h h0.size kb .byte (1 : Int32) [(.int ((c0.toInt8.toInt32).toInt8.toInt32))] (.int (0 : Int32))
theorem rmCt1 (l : Launch) (Z : State) (a0 : Array Value) (hw : HW a0 Z) (ws : List Jvm.Cond) (a0 : Addr) (kc : ClassId) (c0 : Int32) (h0 : Heap) (n0 : Nat) (Z0 : n0 ≤ h0.size) (V1 : Arv Z h0 a0 kc .char (1 : Int32) [(.int c0)] (.int (0 : Int32))) (hp0 : ¬ (255 : Int32) < c0) :
    Con l mn45 (Jvm.Cond.code mn45 jdk_52_method_16_code 6 (some (.array .byte))) ws (⟨1, 1, 1, 18⟩ : Jvm.Room) #[(.ref a0), (.int (0 : Int32)), (.int (1 : Int32))] Z h0 (QCt1 Z a0 kc c0 h0 n0) := by
  refine own_of (plainFor_of_name pn_9) hisR dl_jdk_52_16 ?_
  intro p e s m below meth c s₁ hx D hlk hret hml hZ hown hnm X0 e0
  replace hown : s.vm.findClass cI = some m.cls := hown
  have N0 := Fr.nil n0
  rw [efCt1]
  have K0 : Keep h0 h0 [] := Keep.refl _ _
  obtain ⟨T1, h1, k1, X1, e1, E1, A1, st1⟩ := newP X0 hx hZ (wt hw 0 rfl) e0 (g := (mkF m 1 #[.val (.ref a0), .val (.int (0 : Int32)), .val (.int (1 : Int32)), .unset, .unset, .unset] [(.int (1 : Int32))])) rfl (D 1 rfl) rfl (by decide) (cap := 1) (by decide) (by decide) (by decide) (by decide)
  obtain ⟨b1, gq1⟩ : ∃ z, z = h0.size := ⟨_, rfl⟩
  rw [← gq1] at A1 st1
  have g2 : n0 ≤ b1 := (Nat.le_trans Z0 (Nat.le_of_eq gq1.symm))
  have sz3 : h0.size ≤ b1 := (Nat.le_trans K0.1 (Nat.le_of_eq gq1.symm))
  have ne4 : a0 ≠ b1 := (Nat.ne_of_lt (Nat.lt_of_lt_of_le V1.lt (Nat.le_of_eq gq1.symm)))
  have f5 := V1.ext E1
  have Z6 := Nat.le_trans Z0 E1.1
  have K7 := K0.ext E1
  have f8 : Arv Z h1 b1 k1 .byte (1 : Int32) [(.int (0 : Int32))] (.int (0 : Int32)) := ((Arv.new A1 (by decide)).pad (pad_rep [] (.int (0 : Int32)) 1))
  refine OFin.of (fun t ht => iN X0 hx rfl (D 0 rfl) rfl (st1 t ht)) ?_
  obtain ⟨_, T9, Lc9, X9, hQ9, st9⟩ := own_cS X1 hx hw hZ hown 245 246 243 247 rfl rfl rfl rfl (by decide) (rmCf1 l Z _ hw [] a0 b1 kc k1 c0 h1 n0 Z6 f5 f8 g2 ne4 hp0) (by decide) (by decide) (g := (mkF m 9 #[.val (.ref a0), .val (.int (0 : Int32)), .val (.int (1 : Int32)), .val (.ref b1), .unset, .unset] [(.int (1 : Int32)), (.int (0 : Int32)), (.ref b1), (.int (0 : Int32)), (.ref a0)])) rfl hml rfl (argsL := [(.ref a0), (.int (0 : Int32)), (.ref b1), (.int (0 : Int32)), (.int (1 : Int32))]) (rest := []) pd_25 rfl rfl rfl (W := 0) (Nat.le_of_eq rfl) (D 8 rfl) rfl e1 (by decide) (by decide)
  obtain ⟨rfl, Nq9, Kq9, f10⟩ := hQ9
  have N11 := Fr.app N0 Nq9
  have f12 := (f5.keep Kq9 (ninS ne4 nin0))
  have Z13 := Nat.le_trans Z6 Kq9.1
  have K14 := K7.trans Kq9 (allS (Or.inr sz3) all0)
  refine OFin.of (fun t ht => XS.astoreN X1.here hx rfl (D 2 rfl) rfl rfl (l' := #[.val (.ref a0), .val (.int (0 : Int32)), .val (.int (1 : Int32)), .val (.ref b1), .unset, .unset]) rfl (aN X1 hx rfl (D 3 rfl) rfl rfl (iN X1 hx rfl (D 4 rfl) rfl (aN X1 hx rfl (D 5 rfl) rfl rfl (iC X1 hx rfl (D 6 rfl) (iN X1 hx rfl (D 7 rfl) rfl (st9.trans ht))))))) ?_
  refine OFin.of (S' := T9.setTop (mkF m 58 #[.val (.ref a0), .val (.int (0 : Int32)), .val (.int (1 : Int32)), .val (.ref b1), .val (.int (1 : Int32)), .unset] [(.ref b1)])) (fun t ht => sW X9 hx rfl (D 9 rfl) rfl (l' := #[.val (.ref a0), .val (.int (0 : Int32)), .val (.int (1 : Int32)), .val (.ref b1), .val (.int (1 : Int32)), .unset]) rfl (iW X9 hx rfl (D 10 rfl) rfl (iN X9 hx rfl (D 11 rfl) rfl (cY X9 hx rfl 17 57 rfl (D 12 rfl) rfl (teq (by decide : (1 : Int32) = (1 : Int32))).1 (by decide) (aN X9 hx rfl (D 13 rfl) rfl rfl ht))))) ?_
  exact OFin.retA X9 hx hlk (t := (.array .byte)) rfl rfl hret (D 14 rfl) (by decide) (by decide) (by exact ⟨by rw [← gq1], N11, K14, k1, by rw [← gq1]; exact f10⟩)
theorem efCd1 {m : MethodId} {a0 : Addr} : entryFrame m #[(.ref a0), (.int (1 : Int32))] 2 = mkF m 0 #[.val (.ref a0), .val (.int (1 : Int32))] [] := by first | (simp [entryFrame, mkF, argsToLocals, Value.category]; done) | rfl
def QCd1 (Z : State) (a0 : Addr) (k : ClassId) (x0 : Int32) (h0 : Heap) (n0 : Nat) (v : Option Value) (h : Heap) (L : List Loc) : Prop := v = some (.int (0 : Int32)) ∧ Fr n0 L ∧ h = h0
theorem rmCd1 (l : Launch) (Z : State) (a0 : Array Value) (hw : HW a0 Z) (ws : List Jvm.Cond) (a0 : Addr) (k : ClassId) (x0 : Int32) (h0 : Heap) (n0 : Nat) (Z0 : n0 ≤ h0.size) (V1 : Arv Z h0 a0 k .byte (1 : Int32) [(.int x0)] (.int (0 : Int32))) :
    Con l mn46 (Jvm.Cond.code mn46 jdk_52_method_15_code 2 (some .byte)) ws (⟨0, 0, 0, 0⟩ : Jvm.Room) #[(.ref a0), (.int (1 : Int32))] Z h0 (QCd1 Z a0 k x0 h0 n0) := by
  refine own_of (plainFor_of_name pn_9) hisR dl_jdk_52_15 ?_
  intro p e s m below meth c s₁ hx D hlk hret hml hZ hown hnm X0 e0
  replace hown : s.vm.findClass cI = some m.cls := hown
  have N0 := Fr.nil n0
  rw [efCd1]
  obtain ⟨cl1, Ar1, q1, S1, Ng1, H1, G1⟩ := id V1
  refine OFin.of (fun t ht => iN X0 hx rfl (D 0 rfl) rfl (aN X0 hx rfl (D 1 rfl) rfl rfl (own_alen X0 hx hZ e0 Ar1 S1 Ng1 (g := (mkF m 2 #[.val (.ref a0), .val (.int (1 : Int32))] [(.ref a0), (.int (1 : Int32))])) rfl rfl (D 2 rfl) ht))) ?_
  refine OFin.of (S' := s₁.setTop (mkF m 8 #[.val (.ref a0), .val (.int (1 : Int32))] [(.int ((((0 : Int32).toUInt32 >>> ((31 : Int32) &&& 31).toUInt32).toInt32).toInt8.toInt32))])) (fun t ht => XS.isub X0.here hx rfl (D 3 rfl) rfl (bP X0 hx rfl (D 4 rfl) (XS.iushr X0.here hx rfl (D 5 rfl) rfl (XS.i2b X0.here hx rfl (D 6 rfl) rfl ht)))) ?_
  exact OFin.retB X0 hx hlk (t := .byte) (by simp) hret (D 7 rfl) (by decide) (by decide) (by rw [e0]; exact ⟨(by show some (Value.int (nar .byte ((((0 : Int32).toUInt32 >>> ((31 : Int32) &&& 31).toUInt32).toInt32).toInt8.toInt32))) = _; rfl), N0, rfl⟩)
theorem efSf1 {m : MethodId} {a0 a1 : Addr} : entryFrame m #[(.ref a0), (.ref a1), (.int (0 : Int32)), (.int (1 : Int32)), .null] 6 = mkF m 0 #[.val (.ref a0), .val (.ref a1), .val (.int (0 : Int32)), .val (.int (1 : Int32)), .val .null, .unset] [] := by first | (simp [entryFrame, mkF, argsToLocals, Value.category]; done) | rfl
def QSf1 (Z : State) (a0 a1 : Addr) (kc : ClassId) (cs c0 : Int32) (h0 : Heap) (n0 : Nat) (v : Option Value) (h : Heap) (L : List Loc) : Prop := v = none ∧ Fr n0 L ∧ Keep h0 h [a0] ∧ Fld Z h a0 cB "coder" "B" (.int (0 : Int32)) ∧ Fld Z h a0 cB "value" "[B" (.ref h0.size) ∧ ∃ kb, Arv Z h h0.size kb .byte (1 : Int32) [(.int ((c0.toInt8.toInt32).toInt8.toInt32))] (.int (0 : Int32))
theorem rmSf1 (l : Launch) (Z : State) (a0 : Array Value) (hw : HW a0 Z) (ws : List Jvm.Cond) (a0 a1 : Addr) (kc : ClassId) (cs c0 : Int32) (h0 : Heap) (n0 : Nat) (Z0 : n0 ≤ h0.size) (E0 : Exa Z h0 a0 cB) (Fc : Fld Z h0 a0 cB "coder" "B" (.int (0 : Int32))) (Fv : Fld Z h0 a0 cB "value" "[B" .null) (V1 : Arv Z h0 a1 kc .char (1 : Int32) [(.int c0)] (.int (0 : Int32))) (g0 : n0 ≤ a0) (hne : a1 ≠ a0) (Scs : Sta Z h0 cB "COMPACT_STRINGS" "Z" (.int cs)) (hcs : ¬ cs = (0 : Int32)) (hp0 : ¬ (255 : Int32) < c0) :
    Con l mn42 (Jvm.Cond.code mn42 jdk_42_method_149_code 6 none) ws (⟨2, 1, 1, 35⟩ : Jvm.Room) #[(.ref a0), (.ref a1), (.int (0 : Int32)), (.int (1 : Int32)), .null] Z h0 (QSf1 Z a0 a1 kc cs c0 h0 n0) := by
  refine own_of (plainFor_of_name pn_2) hisR dl_jdk_42_149 ?_
  intro p e s m below meth c s₁ hx D hlk hret hml hZ hown hnm X0 e0
  replace hown : s.vm.findClass cB = some m.cls := hown
  have N0 := Fr.nil n0
  rw [efSf1]
  have K0 : Keep h0 h0 [a0] := Keep.refl _ _
  obtain ⟨T1, X1, e1, st1⟩ := initO X0 hx hZ hown (wt hw 200 rfl) (wt hw 25 rfl) (wt hw 26 rfl) e0 (g := (mkF m 1 #[.val (.ref a0), .val (.ref a1), .val (.int (0 : Int32)), .val (.int (1 : Int32)), .val .null, .unset] [(.ref a0)])) rfl (by rw [hml]; rfl) rfl (D 1 rfl) (by decide) (W := 0) (by show 2 * 0 + _ ≤ _; exact Nat.le_of_eq rfl) (by decide)
  refine OFin.of (fun t ht => aN X0 hx rfl (D 0 rfl) rfl rfl (st1 t ht)) ?_
  obtain ⟨T2, X2, e2, st2⟩ := getS (host := "") X1 hx hZ hown (wt hw 129 rfl) Via.refl e1 Scs (g := (mkF m 27 #[.val (.ref a0), .val (.ref a1), .val (.int (0 : Int32)), .val (.int (1 : Int32)), .val .null, .unset] [])) rfl (D 13 rfl)
  refine OFin.of (fun t ht => iN X1 hx rfl (D 2 rfl) rfl (fY X1 hx rfl 5 27 rfl (D 3 rfl) rfl ((if0 _ _).trans (feq (by decide : ¬ ((1 : Int32) = (0 : Int32)))).2) (by decide) (st2 t ht))) ?_
  obtain ⟨_, T3, Lc3, X3, hQ3, st3⟩ := own_cS X2 hx hw hZ hown 241 242 243 244 rfl rfl rfl rfl (by decide) (rmCt1 l Z _ hw [] a1 kc c0 h0 n0 Z0 V1 hp0) (by decide) (by decide) (g := (mkF m 36 #[.val (.ref a0), .val (.ref a1), .val (.int (0 : Int32)), .val (.int (1 : Int32)), .val .null, .unset] [(.int (1 : Int32)), (.int (0 : Int32)), (.ref a1)])) rfl hml rfl (argsL := [(.ref a1), (.int (0 : Int32)), (.int (1 : Int32))]) (rest := []) pd_26 rfl rfl rfl (W := 0) (Nat.le_of_eq rfl) (D 18 rfl) rfl e2 (by decide) (by decide)
  obtain ⟨rfl, Nq3, Kq3, ⟨kb_3, f4⟩⟩ := hQ3
  have N5 := Fr.app N0 Nq3
  obtain ⟨b3, gq3⟩ : ∃ z, z = h0.size := ⟨_, rfl⟩
  rw [← gq3] at f4 st3
  have g6 : n0 ≤ b3 := (Nat.le_trans Z0 (Nat.le_of_eq gq3.symm))
  have sz7 : h0.size ≤ b3 := (Nat.le_trans K0.1 (Nat.le_of_eq gq3.symm))
  have ne8 : a0 ≠ b3 := (Nat.ne_of_lt (Nat.lt_of_lt_of_le E0.lt (Nat.le_of_eq gq3.symm)))
  have ne9 : a1 ≠ b3 := (Nat.ne_of_lt (Nat.lt_of_lt_of_le V1.lt (Nat.le_of_eq gq3.symm)))
  have f10 := (E0.keep Kq3)
  have f11 := (Fc.keep Kq3 nin0)
  have f12 := (Fv.keep Kq3 nin0)
  have f13 := (V1.keep Kq3 nin0)
  have f14 := (own_staKeep Scs Kq3 own_sn0)
  have Z15 := Nat.le_trans Z0 Kq3.1
  have K16 := K0.trans Kq3 all0
  refine OFin.of (fun t ht => fN X2 hx rfl (D 14 rfl) rfl ((if0 _ _).trans (feq (hcs : ¬ (cs = (0 : Int32)))).1) (aN X2 hx rfl (D 15 rfl) rfl rfl (iN X2 hx rfl (D 16 rfl) rfl (iN X2 hx rfl (D 17 rfl) rfl (st3.trans ht))))) ?_
  obtain ⟨_, T17, Lc17, X17, hQ17, st17⟩ := own_cS X3 hx hw hZ hown 248 249 243 250 rfl rfl rfl rfl (by decide) (rmCd1 l Z _ hw [] b3 kb_3 ((c0.toInt8.toInt32).toInt8.toInt32) T3.heap n0 Z15 f4) (by decide) (by decide) (g := (mkF m 45 #[.val (.ref a0), .val (.ref a1), .val (.int (0 : Int32)), .val (.int (1 : Int32)), .val .null, .val (.ref b3)] [(.int (1 : Int32)), (.ref b3), (.ref a0)])) rfl hml rfl (argsL := [(.ref b3), (.int (1 : Int32))]) (rest := [(.ref a0)]) pd_27 rfl rfl rfl (W := 1) (Nat.le_of_eq rfl) (D 23 rfl) rfl (rfl : T3.heap = T3.heap) (by decide) (by decide)
  obtain ⟨rfl, Nq17, hs17⟩ := hQ17
  have N18 := Fr.app N5 Nq17
  refine OFin.of (fun t ht => XS.astore X3.here hx rfl (D 19 rfl) rfl rfl (l' := #[.val (.ref a0), .val (.ref a1), .val (.int (0 : Int32)), .val (.int (1 : Int32)), .val .null, .val (.ref b3)]) rfl (aN X3 hx rfl (D 20 rfl) rfl rfl (aW X3 hx rfl (D 21 rfl) rfl rfl (iN X3 hx rfl (D 22 rfl) rfl (st17.trans ht))))) ?_
  obtain ⟨T19, h19, X19, e19, W19, st19⟩ := putFN X17 hx hZ hown (wt hw 130 rfl) Via.refl hs17 f11 f10 (Or.inr ⟨(wt hw 107 rfl), rfl, hnm⟩) (wt hw 105 rfl) (ty := .byte) (v' := (.int (0 : Int32))) (by decide) rfl rfl (g := (mkF m 48 #[.val (.ref a0), .val (.ref a1), .val (.int (0 : Int32)), .val (.int (1 : Int32)), .val .null, .val (.ref b3)] [(.int (0 : Int32)), (.ref a0)])) rfl rfl (D 24 rfl)
  have f20 := (f10.wr W19)
  have f21 := (f12.other W19 (Or.inr (sn1 hw)))
  have f22 := (f13.other W19 hne)
  have f23 := (f14.wr W19)
  have f24 := (f4.other W19 (Ne.symm ne8))
  have Z25 := Nat.le_trans Z15 (Keep.of_wr W19).1
  have K26 := K16.wr W19 (Or.inl (List.mem_of_getElem? (i := 0) rfl))
  have N27 := Fr.snoc X19 N18 g0
  have f28 : Fld Z h19 a0 cB "coder" "B" (.int (0 : Int32)) := (f11.same W19)
  refine OFin.of st19 ?_
  obtain ⟨T29, h29, X29, e29, W29, st29⟩ := putF X19 hx hZ hown (host := "") (Or.inl (wt hw 123 rfl)) Via.refl e19 f21 f20 (Or.inr ⟨(wt hw 106 rfl), rfl, hnm⟩) (wt hw 105 rfl) (ty := (.array .byte)) (by decide) rfl rfl (g := (mkF m 54 #[.val (.ref a0), .val (.ref a1), .val (.int (0 : Int32)), .val (.int (1 : Int32)), .val .null, .val (.ref b3)] [(.ref b3), (.ref a0)])) rfl rfl (D 27 rfl)
  have f30 := (f20.wr W29)
  have f31 := (f22.other W29 hne)
  have f32 := (f23.wr W29)
  have f33 := (f24.other W29 (Ne.symm ne8))
  have f34 := (f28.other W29 (Or.inr (sn0 hw)))
  have Z35 := Nat.le_trans Z25 (Keep.of_wr W29).1
  have K36 := K26.wr W29 (Or.inl (List.mem_of_getElem? (i := 0) rfl))
  have N37 := Fr.snoc X29 N27 g0
  have f38 : Fld Z h29 a0 cB "value" "[B" (.ref b3) := (f21.same W29)
  refine OFin.of (fun t ht => aN X19 hx rfl (D 25 rfl) rfl rfl (aW X19 hx rfl (D 26 rfl) rfl rfl (st29 t ht))) ?_
  exact OFin.retV X29 hx hlk hret (D 28 rfl) (by decide) (by decide) (by rw [e29]; exact ⟨rfl, N37, K36, f34, by rw [← gq3]; exact f38, kb_3, by rw [← gq3]; exact f33⟩)
theorem efSi1 {m : MethodId} {a0 a1 : Addr} : entryFrame m #[(.ref a0), (.ref a1)] 2 = mkF m 0 #[.val (.ref a0), .val (.ref a1)] [] := by first | (simp [entryFrame, mkF, argsToLocals, Value.category]; done) | rfl
def QSi1 (Z : State) (a0 a1 : Addr) (kc : ClassId) (cs c0 : Int32) (h0 : Heap) (n0 : Nat) (v : Option Value) (h : Heap) (L : List Loc) : Prop := v = none ∧ Fr n0 L ∧ Keep h0 h [a0] ∧ Fld Z h a0 cB "coder" "B" (.int (0 : Int32)) ∧ Fld Z h a0 cB "value" "[B" (.ref h0.size) ∧ ∃ kb, Arv Z h h0.size kb .byte (1 : Int32) [(.int ((c0.toInt8.toInt32).toInt8.toInt32))] (.int (0 : Int32))
theorem rmSi1 (l : Launch) (Z : State) (a0 : Array Value) (hw : HW a0 Z) (ws : List Jvm.Cond) (a0 a1 : Addr) (kc : ClassId) (cs c0 : Int32) (h0 : Heap) (n0 : Nat) (Z0 : n0 ≤ h0.size) (E0 : Exa Z h0 a0 cB) (Fc : Fld Z h0 a0 cB "coder" "B" (.int (0 : Int32))) (Fv : Fld Z h0 a0 cB "value" "[B" .null) (V1 : Arv Z h0 a1 kc .char (1 : Int32) [(.int c0)] (.int (0 : Int32))) (g0 : n0 ≤ a0) (hne : a1 ≠ a0) (Scs : Sta Z h0 cB "COMPACT_STRINGS" "Z" (.int cs)) (hcs : ¬ cs = (0 : Int32)) (hp0 : ¬ (255 : Int32) < c0) :
    Con l mn43 (Jvm.Cond.code mn43 jdk_42_method_3_code 2 none) ws (⟨3, 1, 1, 52⟩ : Jvm.Room) #[(.ref a0), (.ref a1)] Z h0 (QSi1 Z a0 a1 kc cs c0 h0 n0) := by
  refine own_of (plainFor_of_name pn_2) hisR dl_jdk_42_3 ?_
  intro p e s m below meth c s₁ hx D hlk hret hml hZ hown hnm X0 e0
  replace hown : s.vm.findClass cB = some m.cls := hown
  have N0 := Fr.nil n0
  rw [efSi1]
  have K0 : Keep h0 h0 [a0] := Keep.refl _ _
  obtain ⟨cl1, Ar1, q1, S1, Ng1, H1, G1⟩ := id V1
  refine OFin.of (fun t ht => aN X0 hx rfl (D 0 rfl) rfl rfl (aN X0 hx rfl (D 1 rfl) rfl rfl (iC X0 hx rfl (D 2 rfl) (aN X0 hx rfl (D 3 rfl) rfl rfl (own_alen X0 hx hZ e0 Ar1 S1 Ng1 (g := (mkF m 4 #[.val (.ref a0), .val (.ref a1)] [(.ref a1), (.int (0 : Int32)), (.ref a1), (.ref a0)])) rfl rfl (D 4 rfl) ht))))) ?_
  obtain ⟨_, T2, Lc2, X2, hQ2, st2⟩ := own_cN X0 hx hw hZ hown 206 207 104 208 rfl rfl rfl rfl (by decide) rfl (rmSf1 l Z _ hw [] a0 a1 kc cs c0 h0 n0 Z0 E0 Fc Fv V1 g0 hne Scs hcs hp0) (by decide) (by decide) (g := (mkF m 6 #[.val (.ref a0), .val (.ref a1)] [.null, (.int (1 : Int32)), (.int (0 : Int32)), (.ref a1), (.ref a0)])) rfl hml rfl (argsL := [(.ref a1), (.int (0 : Int32)), (.int (1 : Int32)), .null]) (rest := []) pd_24 rfl rfl rfl (W := 0) (Nat.le_of_eq rfl) (D 6 rfl) rfl e0 (by decide) (by decide)
  obtain ⟨rfl, Nq2, Kq2, f3, f4, ⟨kb_2, f5⟩⟩ := hQ2
  have N6 := Fr.app N0 Nq2
  obtain ⟨b2, gq2⟩ : ∃ z, z = h0.size := ⟨_, rfl⟩
  rw [← gq2] at f4 f5
  have g7 : n0 ≤ b2 := (Nat.le_trans Z0 (Nat.le_of_eq gq2.symm))
  have sz8 : h0.size ≤ b2 := (Nat.le_trans K0.1 (Nat.le_of_eq gq2.symm))
  have ne9 : a0 ≠ b2 := (Nat.ne_of_lt (Nat.lt_of_lt_of_le E0.lt (Nat.le_of_eq gq2.symm)))
  have ne10 : a1 ≠ b2 := (Nat.ne_of_lt (Nat.lt_of_lt_of_le V1.lt (Nat.le_of_eq gq2.symm)))
  have f11 := (E0.keep Kq2)
  have f12 := (V1.keep Kq2 (ninS hne nin0))
  have f13 := (own_staKeep Scs Kq2 (own_snS E0 own_sn0))
  have Z14 := Nat.le_trans Z0 Kq2.1
  have K15 := K0.trans Kq2 (allS (Or.inl (List.mem_of_getElem? (i := 0) rfl)) all0)
  refine OFin.of (fun t ht => XS.aconstNull X0.here hx rfl (D 5 rfl) (st2.trans ht)) ?_
  exact OFin.retV X2 hx hlk hret (D 7 rfl) (by decide) (by decide) (by exact ⟨rfl, N6, K15, f3, by rw [← gq2]; exact f4, kb_2, by rw [← gq2]; exact f5⟩)
theorem efCf2 {m : MethodId} {a0 a2 : Addr} : entryFrame m #[(.ref a0), (.int (0 : Int32)), (.ref a2), (.int (0 : Int32)), (.int (2 : Int32))] 7 = mkF m 0 #[.val (.ref a0), .val (.int (0 : Int32)), .val (.ref a2), .val (.int (0 : Int32)), .val (.int (2 : Int32)), .unset, .unset] [] := by first | (simp [entryFrame, mkF, argsToLocals, Value.category]; done) | rfl
def QCf2 (Z : State) (a0 a2 : Addr) (kc kb : ClassId) (c0 c1 : Int32) (h0 : Heap) (n0 : Nat) (v : Option Value) (h : Heap) (L : List Loc) : Prop := v = some (.int (2 : Int32)) ∧ Fr n0 L ∧ Keep h0 h [a2] ∧ Arv Z h a2 kb .byte (2 : Int32) [(.int ((c0.toInt8.toInt32).toInt8.toInt32)), (.int ((c1.toInt8.toInt32).toInt8.toInt32))] (.int (0 : Int32))
theorem rmCf2 (l : Launch) (Z : State) (a0 : Array Value) (hw : HW a0 Z) (ws : List Jvm.Cond) (a0 a2 : Addr) (kc kb : ClassId) (c0 c1 : Int32) (h0 : Heap) (n0 : Nat) (Z0 : n0 ≤ h0.size) (V1 : Arv Z h0 a0 kc .char (2 : Int32) [(.int c0), (.int c1)] (.int (0 : Int32))) (V2 : Arv Z h0 a2 kb .byte (2 : Int32) [(.int (0 : Int32)), (.int (0 : Int32))] (.int (0 : Int32))) (g2 : n0 ≤ a2) (hne : a0 ≠ a2) (hp0 : ¬ (255 : Int32) < c0) (hp1 : ¬ (255 : Int32) < c1) :
    Con l mn44 (Jvm.Cond.code mn44 jdk_52_method_21_code 7 (some .int)) ws (⟨0, 0, 0, 0⟩ : Jvm.Room) #[(.ref a0), (.int (0 : Int32)), (.ref a2), (.int (0 : Int32)), (.int (2 : Int32))] Z h0 (QCf2 Z a0 a2 kc kb c0 c1 h0 n0) := by
  refine own_of (plainFor_of_name pn_9) hisR dl_jdk_52_21 ?_
  intro p e s m below meth c s₁ hx D hlk hret hml hZ hown hnm X0 e0
  replace hown : s.vm.findClass cI = some m.cls := hown
  have N0 := Fr.nil n0
  rw [efCf2]
  have K0 : Keep h0 h0 [a2] := Keep.refl _ _
  obtain ⟨cl1, Ar1, q1, S1, Ng1, H1, G1⟩ := id V1
  have hin1 := inb_of (j := (0 : Int32)) S1 ⟨by decide, by decide⟩
  have hat1 : cl1.slots[((0 : Int32)).toNatClampNeg]? = some (.int c0) := Has.at H1 hin1 rfl
  refine OFin.of (fun t ht => iC X0 hx rfl (D 0 rfl) (sW X0 hx rfl (D 1 rfl) rfl (l' := #[.val (.ref a0), .val (.int (0 : Int32)), .val (.ref a2), .val (.int (0 : Int32)), .val (.int (2 : Int32)), .val (.int (0 : Int32)), .unset]) rfl (iW X0 hx rfl (D 2 rfl) rfl (iW X0 hx rfl (D 3 rfl) rfl (cN X0 hx rfl (D 4 rfl) rfl (tlt (by decide : (0 : Int32) < (2 : Int32))).2.1 (aN X0 hx rfl (D 5 rfl) rfl rfl (iN X0 hx rfl (D 6 rfl) rfl (X0.caload hx (j := (0 : Int32)) (v := (.int c0)) (by rw [e0]; exact Ar1.1) (State.isArrayOf_alike hZ.alike Ar1.2.1) Ar1.2.2 hin1 hat1 (g := (mkF m 12 #[.val (.ref a0), .val (.int (0 : Int32)), .val (.ref a2), .val (.int (0 : Int32)), .val (.int (2 : Int32)), .val (.int (0 : Int32)), .unset] [(.int (0 : Int32)), (.ref a0)])) rfl rfl (D 7 rfl) _ ht)))))))) ?_
  obtain ⟨cl2, Ar2, q2, S2, Ng2, H2, G2⟩ := id V2
  have hin2 := inb_of (j := (0 : Int32)) S2 ⟨by decide, by decide⟩
  obtain ⟨T2, h2, X2, e2, W2, st2⟩ := stB X0 hx hZ e0 Ar2 (j := (0 : Int32)) hin2 (g := (mkF m 31 #[.val (.ref a0), .val (.int (0 : Int32)), .val (.ref a2), .val (.int (0 : Int32)), .val (.int (2 : Int32)), .val (.int (0 : Int32)), .val (.int c0)] [(.int (c0.toInt8.toInt32)), (.int (0 : Int32)), (.ref a2)])) rfl rfl (D 16 rfl)
  have f3 := (V1.other W2 hne)
  have Z4 := Nat.le_trans Z0 (Keep.of_wr W2).1
  have K5 := K0.wr W2 (Or.inl (List.mem_of_getElem? (i := 0) rfl))
  have N6 := Fr.snoc X2 N0 g2
  have f7 : Arv Z h2 a2 kb .byte (2 : Int32) [(.int ((c0.toInt8.toInt32).toInt8.toInt32)), (.int (0 : Int32))] (.int (0 : Int32)) := Arv.set Ar2 q2 S2 Ng2 H2 G2 (fits_nar_byte _) W2 0 rfl (Nat.le_of_ble_eq_true rfl)
  refine OFin.of (fun t ht => sW X0 hx rfl (D 8 rfl) rfl (l' := #[.val (.ref a0), .val (.int (0 : Int32)), .val (.ref a2), .val (.int (0 : Int32)), .val (.int (2 : Int32)), .val (.int (0 : Int32)), .val (.int c0)]) rfl (iW X0 hx rfl (D 9 rfl) rfl (XS.sipush X0.here hx rfl (D 10 rfl) (cY X0 hx rfl 20 26 rfl (D 11 rfl) rfl (flt (hp0 : ¬ ((255 : Int32) < c0))).2.2.2 (by decide) (aN X0 hx rfl (D 12 rfl) rfl rfl (iN X0 hx rfl (D 13 rfl) rfl (iW X0 hx rfl (D 14 rfl) rfl (XS.i2b X0.here hx rfl (D 15 rfl) rfl (st2 t ht))))))))) ?_
  obtain ⟨cl8, Ar8, q8, S8, Ng8, H8, G8⟩ := id f3
  have hin8 := inb_of (j := (1 : Int32)) S8 ⟨by decide, by decide⟩
  have hat8 : cl8.slots[((1 : Int32)).toNatClampNeg]? = some (.int c1) := Has.at H8 hin8 rfl
  refine OFin.of (fun t ht => iI X2 hx rfl (D 17 rfl) rfl (l' := #[.val (.ref a0), .val (.int (1 : Int32)), .val (.ref a2), .val (.int (0 : Int32)), .val (.int (2 : Int32)), .val (.int (0 : Int32)), .val (.int c0)]) rfl (iI X2 hx rfl (D 18 rfl) rfl (l' := #[.val (.ref a0), .val (.int (1 : Int32)), .val (.ref a2), .val (.int (1 : Int32)), .val (.int (2 : Int32)), .val (.int (0 : Int32)), .val (.int c0)]) rfl (iI X2 hx rfl (D 19 rfl) rfl (l' := #[.val (.ref a0), .val (.int (1 : Int32)), .val (.ref a2), .val (.int (1 : Int32)), .val (.int (2 : Int32)), .val (.int (1 : Int32)), .val (.int c0)]) rfl (gO X2 hx rfl 41 3 rfl (D 20 rfl) (by decide) (iW X2 hx rfl (D 2 rfl) rfl (iW X2 hx rfl (D 3 rfl) rfl (cN X2 hx rfl (D 4 rfl) rfl (tlt (by decide : (1 : Int32) < (2 : Int32))).2.1 (aN X2 hx rfl (D 5 rfl) rfl rfl (iN X2 hx rfl (D 6 rfl) rfl (X2.caload hx (j := (1 : Int32)) (v := (.int c1)) (by rw [e2]; exact Ar8.1) (State.isArrayOf_alike hZ.alike Ar8.2.1) Ar8.2.2 hin8 hat8 (g := (mkF m 12 #[.val (.ref a0), .val (.int (1 : Int32)), .val (.ref a2), .val (.int (1 : Int32)), .val (.int (2 : Int32)), .val (.int (1 : Int32)), .val (.int c0)] [(.int (1 : Int32)), (.ref a0)])) rfl rfl (D 7 rfl) _ ht)))))))))) ?_
  obtain ⟨cl9, Ar9, q9, S9, Ng9, H9, G9⟩ := id f7
  have hin9 := inb_of (j := (1 : Int32)) S9 ⟨by decide, by decide⟩
  obtain ⟨T9, h9, X9, e9, W9, st9⟩ := stB X2 hx hZ e2 Ar9 (j := (1 : Int32)) hin9 (g := (mkF m 31 #[.val (.ref a0), .val (.int (1 : Int32)), .val (.ref a2), .val (.int (1 : Int32)), .val (.int (2 : Int32)), .val (.int (1 : Int32)), .val (.int c1)] [(.int (c1.toInt8.toInt32)), (.int (1 : Int32)), (.ref a2)])) rfl rfl (D 16 rfl)
  have f10 := (f3.other W9 hne)
  have Z11 := Nat.le_trans Z4 (Keep.of_wr W9).1
  have K12 := K5.wr W9 (Or.inl (List.mem_of_getElem? (i := 0) rfl))
  have N13 := Fr.snoc X9 N6 g2
  have f14 : Arv Z h9 a2 kb .byte (2 : Int32) [(.int ((c0.toInt8.toInt32).toInt8.toInt32)), (.int ((c1.toInt8.toInt32).toInt8.toInt32))] (.int (0 : Int32)) := Arv.set Ar9 q9 S9 Ng9 H9 G9 (fits_nar_byte _) W9 1 rfl (Nat.le_of_ble_eq_true rfl)
  refine OFin.of (fun t ht => sW X2 hx rfl (D 8 rfl) rfl (l' := #[.val (.ref a0), .val (.int (1 : Int32)), .val (.ref a2), .val (.int (1 : Int32)), .val (.int (2 : Int32)), .val (.int (1 : Int32)), .val (.int c1)]) rfl (iW X2 hx rfl (D 9 rfl) rfl (XS.sipush X2.here hx rfl (D 10 rfl) (cY X2 hx rfl 20 26 rfl (D 11 rfl) rfl (flt (hp1 : ¬ ((255 : Int32) < c1))).2.2.2 (by decide) (aN X2 hx rfl (D 12 rfl) rfl rfl (iN X2 hx rfl (D 13 rfl) rfl (iW X2 hx rfl (D 14 rfl) rfl (XS.i2b X2.here hx rfl (D 15 rfl) rfl (st9 t ht))))))))) ?_
  refine OFin.of (S' := T9.setTop (mkF m 46 #[.val (.ref a0), .val (.int (2 : Int32)), .val (.ref a2), .val (.int (2 : Int32)), .val (.int (2 : Int32)), .val (.int (2 : Int32)), .val (.int c1)] [(.int (2 : Int32))])) (fun t ht => iI X9 hx rfl (D 17 rfl) rfl (l' := #[.val (.ref a0), .val (.int (2 : Int32)), .val (.ref a2), .val (.int (1 : Int32)), .val (.int (2 : Int32)), .val (.int (1 : Int32)), .val (.int c1)]) rfl (iI X9 hx rfl (D 18 rfl) rfl (l' := #[.val (.ref a0), .val (.int (2 : Int32)), .val (.ref a2), .val (.int (2 : Int32)), .val (.int (2 : Int32)), .val (.int (1 : Int32)), .val (.int c1)]) rfl (iI X9 hx rfl (D 19 rfl) rfl (l' := #[.val (.ref a0), .val (.int (2 : Int32)), .val (.ref a2), .val (.int (2 : Int32)), .val (.int (2 : Int32)), .val (.int (2 : Int32)), .val (.int c1)]) rfl (gO X9 hx rfl 41 3 rfl (D 20 rfl) (by decide) (iW X9 hx rfl (D 2 rfl) rfl (iW X9 hx rfl (D 3 rfl) rfl (cY X9 hx rfl 7 44 rfl (D 4 rfl) rfl (flt (by decide : ¬ ((2 : Int32) < (2 : Int32)))).2.1 (by decide) (iW X9 hx rfl (D 21 rfl) rfl ht)))))))) ?_
  exact OFin.retI X9 hx hlk hret (D 22 rfl) (by decide) (by decide) (by rw [e9]; exact ⟨rfl, N13, K12, f14⟩)
theorem efCt2 {m : MethodId} {a0 : Addr} : entryFrame m #[(.ref a0), (.int (0 : Int32)), (.int (2 : Int32))] 6 = mkF m 0 #[.val (.ref a0), .val (.int (0 : Int32)), .val (.int (2 : Int32)), .unset, .unset, .unset] [] := by first | (simp [entryFrame, mkF, argsToLocals, Value.category]; done) | rfl
def QCt2 (Z : State) (a0 : Addr) (kc : ClassId) (c0 c1 : Int32) (h0 : Heap) (n0 : Nat) (v : Option Value) (h : Heap) (L : List Loc) : Prop := v = some (.ref h0.size) ∧ Fr n0 L ∧ Keep h0 h [] ∧ ∃ kb, Arv Z h h0.size kb .byte (2 : Int32) [(.int ((c0.toInt8.toInt32).toInt8.toInt32)), (.int ((c1.toInt8.toInt32).toInt8.toInt32))] (.int (0 : Int32))
theorem rmCt2 (l : Launch) (Z : State) (a0 : Array Value) (hw : HW a0 Z) (ws : List Jvm.Cond) (a0 : Addr) (kc : ClassId) (c0 c1 : Int32) (h0 : Heap) (n0 : Nat) (Z0 : n0 ≤ h0.size) (V1 : Arv Z h0 a0 kc .char (2 : Int32) [(.int c0), (.int c1)] (.int (0 : Int32))) (hp0 : ¬ (255 : Int32) < c0) (hp1 : ¬ (255 : Int32) < c1) :
    Con l mn45 (Jvm.Cond.code mn45 jdk_52_method_16_code 6 (some (.array .byte))) ws (⟨1, 1, 2, 18⟩ : Jvm.Room) #[(.ref a0), (.int (0 : Int32)), (.int (2 : Int32))] Z h0 (QCt2 Z a0 kc c0 c1 h0 n0) := by
  refine own_of (plainFor_of_name pn_9) hisR dl_jdk_52_16 ?_
  intro p e s m below meth c s₁ hx D hlk hret hml hZ hown hnm X0 e0
  replace hown : s.vm.findClass cI = some m.cls := hown
  have N0 := Fr.nil n0
  rw [efCt2]
  have K0 : Keep h0 h0 [] := Keep.refl _ _
  obtain ⟨T1, h1, k1, X1, e1, E1, A1, st1⟩ := newP X0 hx hZ (wt hw 0 rfl) e0 (g := (mkF m 1 #[.val (.ref a0), .val (.int (0 : Int32)), .val (.int (2 : Int32)), .unset, .unset, .unset] [(.int (2 : Int32))])) rfl (D 1 rfl) rfl (by decide) (cap := 2) (by decide) (by decide) (by decide) (by decide)
  obtain ⟨b1, gq1⟩ : ∃ z, z = h0.size := ⟨_, rfl⟩
  rw [← gq1] at A1 st1
  have g2 : n0 ≤ b1 := (Nat.le_trans Z0 (Nat.le_of_eq gq1.symm))
  have sz3 : h0.size ≤ b1 := (Nat.le_trans K0.1 (Nat.le_of_eq gq1.symm))
  have ne4 : a0 ≠ b1 := (Nat.ne_of_lt (Nat.lt_of_lt_of_le V1.lt (Nat.le_of_eq gq1.symm)))
  have f5 := V1.ext E1
  have Z6 := Nat.le_trans Z0 E1.1
  have K7 := K0.ext E1
  have f8 : Arv Z h1 b1 k1 .byte (2 : Int32) [(.int (0 : Int32)), (.int (0 : Int32))] (.int (0 : Int32)) := ((Arv.new A1 (by decide)).pad (pad_rep [] (.int (0 : Int32)) 2))
  refine OFin.of (fun t ht => iN X0 hx rfl (D 0 rfl) rfl (st1 t ht)) ?_
  obtain ⟨_, T9, Lc9, X9, hQ9, st9⟩ := own_cS X1 hx hw hZ hown 245 246 243 247 rfl rfl rfl rfl (by decide) (rmCf2 l Z _ hw [] a0 b1 kc k1 c0 c1 h1 n0 Z6 f5 f8 g2 ne4 hp0 hp1) (by decide) (by decide) (g := (mkF m 9 #[.val (.ref a0), .val (.int (0 : Int32)), .val (.int (2 : Int32)), .val (.ref b1), .unset, .unset] [(.int (2 : Int32)), (.int (0 : Int32)), (.ref b1), (.int (0 : Int32)), (.ref a0)])) rfl hml rfl (argsL := [(.ref a0), (.int (0 : Int32)), (.ref b1), (.int (0 : Int32)), (.int (2 : Int32))]) (rest := []) pd_25 rfl rfl rfl (W := 0) (Nat.le_of_eq rfl) (D 8 rfl) rfl e1 (by decide) (by decide)
  obtain ⟨rfl, Nq9, Kq9, f10⟩ := hQ9
  have N11 := Fr.app N0 Nq9
  have f12 := (f5.keep Kq9 (ninS ne4 nin0))
  have Z13 := Nat.le_trans Z6 Kq9.1
  have K14 := K7.trans Kq9 (allS (Or.inr sz3) all0)
  refine OFin.of (fun t ht => XS.astoreN X1.here hx rfl (D 2 rfl) rfl rfl (l' := #[.val (.ref a0), .val (.int (0 : Int32)), .val (.int (2 : Int32)), .val (.ref b1), .unset, .unset]) rfl (aN X1 hx rfl (D 3 rfl) rfl rfl (iN X1 hx rfl (D 4 rfl) rfl (aN X1 hx rfl (D 5 rfl) rfl rfl (iC X1 hx rfl (D 6 rfl) (iN X1 hx rfl (D 7 rfl) rfl (st9.trans ht))))))) ?_
  refine OFin.of (S' := T9.setTop (mkF m 58 #[.val (.ref a0), .val (.int (0 : Int32)), .val (.int (2 : Int32)), .val (.ref b1), .val (.int (2 : Int32)), .unset] [(.ref b1)])) (fun t ht => sW X9 hx rfl (D 9 rfl) rfl (l' := #[.val (.ref a0), .val (.int (0 : Int32)), .val (.int (2 : Int32)), .val (.ref b1), .val (.int (2 : Int32)), .unset]) rfl (iW X9 hx rfl (D 10 rfl) rfl (iN X9 hx rfl (D 11 rfl) rfl (cY X9 hx rfl 17 57 rfl (D 12 rfl) rfl (teq (by decide : (2 : Int32) = (2 : Int32))).1 (by decide) (aN X9 hx rfl (D 13 rfl) rfl rfl ht))))) ?_
  exact OFin.retA X9 hx hlk (t := (.array .byte)) rfl rfl hret (D 14 rfl) (by decide) (by decide) (by exact ⟨by rw [← gq1], N11, K14, k1, by rw [← gq1]; exact f10⟩)
theorem efCd2 {m : MethodId} {a0 : Addr} : entryFrame m #[(.ref a0), (.int (2 : Int32))] 2 = mkF m 0 #[.val (.ref a0), .val (.int (2 : Int32))] [] := by first | (simp [entryFrame, mkF, argsToLocals, Value.category]; done) | rfl
def QCd2 (Z : State) (a0 : Addr) (k : ClassId) (x0 x1 : Int32) (h0 : Heap) (n0 : Nat) (v : Option Value) (h : Heap) (L : List Loc) : Prop := v = some (.int (0 : Int32)) ∧ Fr n0 L ∧ h = h0
theorem rmCd2 (l : Launch) (Z : State) (a0 : Array Value) (hw : HW a0 Z) (ws : List Jvm.Cond) (a0 : Addr) (k : ClassId) (x0 x1 : Int32) (h0 : Heap) (n0 : Nat) (Z0 : n0 ≤ h0.size) (V1 : Arv Z h0 a0 k .byte (2 : Int32) [(.int x0), (.int x1)] (.int (0 : Int32))) :
    Con l mn46 (Jvm.Cond.code mn46 jdk_52_method_15_code 2 (some .byte)) ws (⟨0, 0, 0, 0⟩ : Jvm.Room) #[(.ref a0), (.int (2 : Int32))] Z h0 (QCd2 Z a0 k x0 x1 h0 n0) := by
  refine own_of (plainFor_of_name pn_9) hisR dl_jdk_52_15 ?_
  intro p e s m below meth c s₁ hx D hlk hret hml hZ hown hnm X0 e0
  replace hown : s.vm.findClass cI = some m.cls := hown
  have N0 := Fr.nil n0
  rw [efCd2]
  obtain ⟨cl1, Ar1, q1, S1, Ng1, H1, G1⟩ := id V1
  refine OFin.of (fun t ht => iN X0 hx rfl (D 0 rfl) rfl (aN X0 hx rfl (D 1 rfl) rfl rfl (own_alen X0 hx hZ e0 Ar1 S1 Ng1 (g := (mkF m 2 #[.val (.ref a0), .val (.int (2 : Int32))] [(.ref a0), (.int (2 : Int32))])) rfl rfl (D 2 rfl) ht))) ?_
  refine OFin.of (S' := s₁.setTop (mkF m 8 #[.val (.ref a0), .val (.int (2 : Int32))] [(.int ((((0 : Int32).toUInt32 >>> ((31 : Int32) &&& 31).toUInt32).toInt32).toInt8.toInt32))])) (fun t ht => XS.isub X0.here hx rfl (D 3 rfl) rfl (bP X0 hx rfl (D 4 rfl) (XS.iushr X0.here hx rfl (D 5 rfl) rfl (XS.i2b X0.here hx rfl (D 6 rfl) rfl ht)))) ?_
  exact OFin.retB X0 hx hlk (t := .byte) (by simp) hret (D 7 rfl) (by decide) (by decide) (by rw [e0]; exact ⟨(by show some (Value.int (nar .byte ((((0 : Int32).toUInt32 >>> ((31 : Int32) &&& 31).toUInt32).toInt32).toInt8.toInt32))) = _; rfl), N0, rfl⟩)
theorem efSf2 {m : MethodId} {a0 a1 : Addr} : entryFrame m #[(.ref a0), (.ref a1), (.int (0 : Int32)), (.int (2 : Int32)), .null] 6 = mkF m 0 #[.val (.ref a0), .val (.ref a1), .val (.int (0 : Int32)), .val (.int (2 : Int32)), .val .null, .unset] [] := by first | (simp [entryFrame, mkF, argsToLocals, Value.category]; done) | rfl
def QSf2 (Z : State) (a0 a1 : Addr) (kc : ClassId) (cs c0 c1 : Int32) (h0 : Heap) (n0 : Nat) (v : Option Value) (h : Heap) (L : List Loc) : Prop := v = none ∧ Fr n0 L ∧ Keep h0 h [a0] ∧ Fld Z h a0 cB "coder" "B" (.int (0 : Int32)) ∧ Fld Z h a0 cB "value" "[B" (.ref h0.size) ∧ ∃ kb, Arv Z h h0.size kb .byte (2 : Int32) [(.int ((c0.toInt8.toInt32).toInt8.toInt32)), (.int ((c1.toInt8.toInt32).toInt8.toInt32))] (.int (0 : Int32))
theorem rmSf2 (l : Launch) (Z : State) (a0 : Array Value) (hw : HW a0 Z) (ws : List Jvm.Cond) (a0 a1 : Addr) (kc : ClassId) (cs c0 c1 : Int32) (h0 : Heap) (n0 : Nat) (Z0 : n0 ≤ h0.size) (E0 : Exa Z h0 a0 cB) (Fc : Fld Z h0 a0 cB "coder" "B" (.int (0 : Int32))) (Fv : Fld Z h0 a0 cB "value" "[B" .null) (V1 : Arv Z h0 a1 kc .char (2 : Int32) [(.int c0), (.int c1)] (.int (0 : Int32))) (g0 : n0 ≤ a0) (hne : a1 ≠ a0) (Scs : Sta Z h0 cB "COMPACT_STRINGS" "Z" (.int cs)) (hcs : ¬ cs = (0 : Int32)) (hp0 : ¬ (255 : Int32) < c0) (hp1 : ¬ (255 : Int32) < c1) :
    Con l mn42 (Jvm.Cond.code mn42 jdk_42_method_149_code 6 none) ws (⟨2, 1, 2, 35⟩ : Jvm.Room) #[(.ref a0), (.ref a1), (.int (0 : Int32)), (.int (2 : Int32)), .null] Z h0 (QSf2 Z a0 a1 kc cs c0 c1 h0 n0) := by
  refine own_of (plainFor_of_name pn_2) hisR dl_jdk_42_149 ?_
  intro p e s m below meth c s₁ hx D hlk hret hml hZ hown hnm X0 e0
  replace hown : s.vm.findClass cB = some m.cls := hown
  have N0 := Fr.nil n0
  rw [efSf2]
  have K0 : Keep h0 h0 [a0] := Keep.refl _ _
  obtain ⟨T1, X1, e1, st1⟩ := initO X0 hx hZ hown (wt hw 200 rfl) (wt hw 25 rfl) (wt hw 26 rfl) e0 (g := (mkF m 1 #[.val (.ref a0), .val (.ref a1), .val (.int (0 : Int32)), .val (.int (2 : Int32)), .val .null, .unset] [(.ref a0)])) rfl (by rw [hml]; rfl) rfl (D 1 rfl) (by decide) (W := 0) (by show 2 * 0 + _ ≤ _; exact Nat.le_of_eq rfl) (by decide)
  refine OFin.of (fun t ht => aN X0 hx rfl (D 0 rfl) rfl rfl (st1 t ht)) ?_
  obtain ⟨T2, X2, e2, st2⟩ := getS (host := "") X1 hx hZ hown (wt hw 129 rfl) Via.refl e1 Scs (g := (mkF m 27 #[.val (.ref a0), .val (.ref a1), .val (.int (0 : Int32)), .val (.int (2 : Int32)), .val .null, .unset] [])) rfl (D 13 rfl)
  refine OFin.of (fun t ht => iN X1 hx rfl (D 2 rfl) rfl (fY X1 hx rfl 5 27 rfl (D 3 rfl) rfl ((if0 _ _).trans (feq (by decide : ¬ ((2 : Int32) = (0 : Int32)))).2) (by decide) (st2 t ht))) ?_
  obtain ⟨_, T3, Lc3, X3, hQ3, st3⟩ := own_cS X2 hx hw hZ hown 241 242 243 244 rfl rfl rfl rfl (by decide) (rmCt2 l Z _ hw [] a1 kc c0 c1 h0 n0 Z0 V1 hp0 hp1) (by decide) (by decide) (g := (mkF m 36 #[.val (.ref a0), .val (.ref a1), .val (.int (0 : Int32)), .val (.int (2 : Int32)), .val .null, .unset] [(.int (2 : Int32)), (.int (0 : Int32)), (.ref a1)])) rfl hml rfl (argsL := [(.ref a1), (.int (0 : Int32)), (.int (2 : Int32))]) (rest := []) pd_26 rfl rfl rfl (W := 0) (Nat.le_of_eq rfl) (D 18 rfl) rfl e2 (by decide) (by decide)
  obtain ⟨rfl, Nq3, Kq3, ⟨kb_3, f4⟩⟩ := hQ3
  have N5 := Fr.app N0 Nq3
  obtain ⟨b3, gq3⟩ : ∃ z, z = h0.size := ⟨_, rfl⟩
  rw [← gq3] at f4 st3
  have g6 : n0 ≤ b3 := (Nat.le_trans Z0 (Nat.le_of_eq gq3.symm))
  have sz7 : h0.size ≤ b3 := (Nat.le_trans K0.1 (Nat.le_of_eq gq3.symm))
  have ne8 : a0 ≠ b3 := (Nat.ne_of_lt (Nat.lt_of_lt_of_le E0.lt (Nat.le_of_eq gq3.symm)))
  have ne9 : a1 ≠ b3 := (Nat.ne_of_lt (Nat.lt_of_lt_of_le V1.lt (Nat.le_of_eq gq3.symm)))
  have f10 := (E0.keep Kq3)
  have f11 := (Fc.keep Kq3 nin0)
  have f12 := (Fv.keep Kq3 nin0)
  have f13 := (V1.keep Kq3 nin0)
  have f14 := (own_staKeep Scs Kq3 own_sn0)
  have Z15 := Nat.le_trans Z0 Kq3.1
  have K16 := K0.trans Kq3 all0
  refine OFin.of (fun t ht => fN X2 hx rfl (D 14 rfl) rfl ((if0 _ _).trans (feq (hcs : ¬ (cs = (0 : Int32)))).1) (aN X2 hx rfl (D 15 rfl) rfl rfl (iN X2 hx rfl (D 16 rfl) rfl (iN X2 hx rfl (D 17 rfl) rfl (st3.trans ht))))) ?_
  obtain ⟨_, T17, Lc17, X17, hQ17, st17⟩ := own_cS X3 hx hw hZ hown 248 249 243 250 rfl rfl rfl rfl (by decide) (rmCd2 l Z _ hw [] b3 kb_3 ((c0.toInt8.toInt32).toInt8.toInt32) ((c1.toInt8.toInt32).toInt8.toInt32) T3.heap n0 Z15 f4) (by decide) (by decide) (g := (mkF m 45 #[.val (.ref a0), .val (.ref a1), .val (.int (0 : Int32)), .val (.int (2 : Int32)), .val .null, .val (.ref b3)] [(.int (2 : Int32)), (.ref b3), (.ref a0)])) rfl hml rfl (argsL := [(.ref b3), (.int (2 : Int32))]) (rest := [(.ref a0)]) pd_27 rfl rfl rfl (W := 1) (Nat.le_of_eq rfl) (D 23 rfl) rfl (rfl : T3.heap = T3.heap) (by decide) (by decide)
  obtain ⟨rfl, Nq17, hs17⟩ := hQ17
  have N18 := Fr.app N5 Nq17
  refine OFin.of (fun t ht => XS.astore X3.here hx rfl (D 19 rfl) rfl rfl (l' := #[.val (.ref a0), .val (.ref a1), .val (.int (0 : Int32)), .val (.int (2 : Int32)), .val .null, .val (.ref b3)]) rfl (aN X3 hx rfl (D 20 rfl) rfl rfl (aW X3 hx rfl (D 21 rfl) rfl rfl (iN X3 hx rfl (D 22 rfl) rfl (st17.trans ht))))) ?_
  obtain ⟨T19, h19, X19, e19, W19, st19⟩ := putFN X17 hx hZ hown (wt hw 130 rfl) Via.refl hs17 f11 f10 (Or.inr ⟨(wt hw 107 rfl), rfl, hnm⟩) (wt hw 105 rfl) (ty := .byte) (v' := (.int (0 : Int32))) (by decide) rfl rfl (g := (mkF m 48 #[.val (.ref a0), .val (.ref a1), .val (.int (0 : Int32)), .val (.int (2 : Int32)), .val .null, .val (.ref b3)] [(.int (0 : Int32)), (.ref a0)])) rfl rfl (D 24 rfl)
  have f20 := (f10.wr W19)
  have f21 := (f12.other W19 (Or.inr (sn1 hw)))
  have f22 := (f13.other W19 hne)
  have f23 := (f14.wr W19)
  have f24 := (f4.other W19 (Ne.symm ne8))
  have Z25 := Nat.le_trans Z15 (Keep.of_wr W19).1
  have K26 := K16.wr W19 (Or.inl (List.mem_of_getElem? (i := 0) rfl))
  have N27 := Fr.snoc X19 N18 g0
  have f28 : Fld Z h19 a0 cB "coder" "B" (.int (0 : Int32)) := (f11.same W19)
  refine OFin.of st19 ?_
  obtain ⟨T29, h29, X29, e29, W29, st29⟩ := putF X19 hx hZ hown (host := "") (Or.inl (wt hw 123 rfl)) Via.refl e19 f21 f20 (Or.inr ⟨(wt hw 106 rfl), rfl, hnm⟩) (wt hw 105 rfl) (ty := (.array .byte)) (by decide) rfl rfl (g := (mkF m 54 #[.val (.ref a0), .val (.ref a1), .val (.int (0 : Int32)), .val (.int (2 : Int32)), .val .null, .val (.ref b3)] [(.ref b3), (.ref a0)])) rfl rfl (D 27 rfl)
  have f30 := (f20.wr W29)
  have f31 := (f22.other W29 hne)
  have f32 := (f23.wr W29)
  have f33 := (f24.other W29 (Ne.symm ne8))
  have f34 := (f28.other W29 (Or.inr (sn0 hw)))
  have Z35 := Nat.le_trans Z25 (Keep.of_wr W29).1
  have K36 := K26.wr W29 (Or.inl (List.mem_of_getElem? (i := 0) rfl))
  have N37 := Fr.snoc X29 N27 g0
  have f38 : Fld Z h29 a0 cB "value" "[B" (.ref b3) := (f21.same W29)
  refine OFin.of (fun t ht => aN X19 hx rfl (D 25 rfl) rfl rfl (aW X19 hx rfl (D 26 rfl) rfl rfl (st29 t ht))) ?_
  exact OFin.retV X29 hx hlk hret (D 28 rfl) (by decide) (by decide) (by rw [e29]; exact ⟨rfl, N37, K36, f34, by rw [← gq3]; exact f38, kb_3, by rw [← gq3]; exact f33⟩)
theorem efSi2 {m : MethodId} {a0 a1 : Addr} : entryFrame m #[(.ref a0), (.ref a1)] 2 = mkF m 0 #[.val (.ref a0), .val (.ref a1)] [] := by first | (simp [entryFrame, mkF, argsToLocals, Value.category]; done) | rfl
def QSi2 (Z : State) (a0 a1 : Addr) (kc : ClassId) (cs c0 c1 : Int32) (h0 : Heap) (n0 : Nat) (v : Option Value) (h : Heap) (L : List Loc) : Prop := v = none ∧ Fr n0 L ∧ Keep h0 h [a0] ∧ Fld Z h a0 cB "coder" "B" (.int (0 : Int32)) ∧ Fld Z h a0 cB "value" "[B" (.ref h0.size) ∧ ∃ kb, Arv Z h h0.size kb .byte (2 : Int32) [(.int ((c0.toInt8.toInt32).toInt8.toInt32)), (.int ((c1.toInt8.toInt32).toInt8.toInt32))] (.int (0 : Int32))
theorem rmSi2 (l : Launch) (Z : State) (a0 : Array Value) (hw : HW a0 Z) (ws : List Jvm.Cond) (a0 a1 : Addr) (kc : ClassId) (cs c0 c1 : Int32) (h0 : Heap) (n0 : Nat) (Z0 : n0 ≤ h0.size) (E0 : Exa Z h0 a0 cB) (Fc : Fld Z h0 a0 cB "coder" "B" (.int (0 : Int32))) (Fv : Fld Z h0 a0 cB "value" "[B" .null) (V1 : Arv Z h0 a1 kc .char (2 : Int32) [(.int c0), (.int c1)] (.int (0 : Int32))) (g0 : n0 ≤ a0) (hne : a1 ≠ a0) (Scs : Sta Z h0 cB "COMPACT_STRINGS" "Z" (.int cs)) (hcs : ¬ cs = (0 : Int32)) (hp0 : ¬ (255 : Int32) < c0) (hp1 : ¬ (255 : Int32) < c1) :
    Con l mn43 (Jvm.Cond.code mn43 jdk_42_method_3_code 2 none) ws (⟨3, 1, 2, 52⟩ : Jvm.Room) #[(.ref a0), (.ref a1)] Z h0 (QSi2 Z a0 a1 kc cs c0 c1 h0 n0) := by
  refine own_of (plainFor_of_name pn_2) hisR dl_jdk_42_3 ?_
  intro p e s m below meth c s₁ hx D hlk hret hml hZ hown hnm X0 e0
  replace hown : s.vm.findClass cB = some m.cls := hown
  have N0 := Fr.nil n0
  rw [efSi2]
  have K0 : Keep h0 h0 [a0] := Keep.refl _ _
  obtain ⟨cl1, Ar1, q1, S1, Ng1, H1, G1⟩ := id V1
  refine OFin.of (fun t ht => aN X0 hx rfl (D 0 rfl) rfl rfl (aN X0 hx rfl (D 1 rfl) rfl rfl (iC X0 hx rfl (D 2 rfl) (aN X0 hx rfl (D 3 rfl) rfl rfl (own_alen X0 hx hZ e0 Ar1 S1 Ng1 (g := (mkF m 4 #[.val (.ref a0), .val (.ref a1)] [(.ref a1), (.int (0 : Int32)), (.ref a1), (.ref a0)])) rfl rfl (D 4 rfl) ht))))) ?_
  obtain ⟨_, T2, Lc2, X2, hQ2, st2⟩ := own_cN X0 hx hw hZ hown 206 207 104 208 rfl rfl rfl rfl (by decide) rfl (rmSf2 l Z _ hw [] a0 a1 kc cs c0 c1 h0 n0 Z0 E0 Fc Fv V1 g0 hne Scs hcs hp0 hp1) (by decide) (by decide) (g := (mkF m 6 #[.val (.ref a0), .val (.ref a1)] [.null, (.int (2 : Int32)), (.int (0 : Int32)), (.ref a1), (.ref a0)])) rfl hml rfl (argsL := [(.ref a1), (.int (0 : Int32)), (.int (2 : Int32)), .null]) (rest := []) pd_24 rfl rfl rfl (W := 0) (Nat.le_of_eq rfl) (D 6 rfl) rfl e0 (by decide) (by decide)
  obtain ⟨rfl, Nq2, Kq2, f3, f4, ⟨kb_2, f5⟩⟩ := hQ2
  have N6 := Fr.app N0 Nq2
  obtain ⟨b2, gq2⟩ : ∃ z, z = h0.size := ⟨_, rfl⟩
  rw [← gq2] at f4 f5
  have g7 : n0 ≤ b2 := (Nat.le_trans Z0 (Nat.le_of_eq gq2.symm))
  have sz8 : h0.size ≤ b2 := (Nat.le_trans K0.1 (Nat.le_of_eq gq2.symm))
  have ne9 : a0 ≠ b2 := (Nat.ne_of_lt (Nat.lt_of_lt_of_le E0.lt (Nat.le_of_eq gq2.symm)))
  have ne10 : a1 ≠ b2 := (Nat.ne_of_lt (Nat.lt_of_lt_of_le V1.lt (Nat.le_of_eq gq2.symm)))
  have f11 := (E0.keep Kq2)
  have f12 := (V1.keep Kq2 (ninS hne nin0))
  have f13 := (own_staKeep Scs Kq2 (own_snS E0 own_sn0))
  have Z14 := Nat.le_trans Z0 Kq2.1
  have K15 := K0.trans Kq2 (allS (Or.inl (List.mem_of_getElem? (i := 0) rfl)) all0)
  refine OFin.of (fun t ht => XS.aconstNull X0.here hx rfl (D 5 rfl) (st2.trans ht)) ?_
  exact OFin.retV X2 hx hlk hret (D 7 rfl) (by decide) (by decide) (by exact ⟨rfl, N6, K15, f3, by rw [← gq2]; exact f4, kb_2, by rw [← gq2]; exact f5⟩)
theorem efLe0 {m : MethodId} {a0 a1 : Addr} : entryFrame m #[(.ref a0), (.ref a1)] 3 = mkF m 0 #[.val (.ref a0), .val (.ref a1), .unset] [] := by first | (simp [entryFrame, mkF, argsToLocals, Value.category]; done) | rfl
def QLe0 (Z : State) (a0 a1 : Addr) (k0 k1 : ClassId) (h0 : Heap) (n0 : Nat) (v : Option Value) (h : Heap) (L : List Loc) : Prop := v = some (.int (1 : Int32)) ∧ Fr n0 L ∧ h = h0
theorem rmLe0 (l : Launch) (Z : State) (a0 : Array Value) (hw : HW a0 Z) (ws : List Jvm.Cond) (a0 a1 : Addr) (k0 k1 : ClassId) (h0 : Heap) (n0 : Nat) (Z0 : n0 ≤ h0.size) (V1 : Arv Z h0 a0 k0 .byte (0 : Int32) [] (.int (0 : Int32))) (V2 : Arv Z h0 a1 k1 .byte (0 : Int32) [] (.int (0 : Int32))) :
    Con l mn47 (Jvm.Cond.code mn47 jdk_43_method_13_code 3 (some .boolean)) ws (⟨0, 0, 0, 0⟩ : Jvm.Room) #[(.ref a0), (.ref a1)] Z h0 (QLe0 Z a0 a1 k0 k1 h0 n0) := by
  refine own_of (plainFor_of_name pn_3) hisR dl_jdk_43_13 ?_
  intro p e s m below meth c s₁ hx D hlk hret hml hZ hown hnm X0 e0
  replace hown : s.vm.findClass cJ = some m.cls := hown
  have N0 := Fr.nil n0
  rw [efLe0]
  obtain ⟨cl1, Ar1, q1, S1, Ng1, H1, G1⟩ := id V1
  refine OFin.of (fun t ht => aN X0 hx rfl (D 0 rfl) rfl rfl (own_alen X0 hx hZ e0 Ar1 S1 Ng1 (g := (mkF m 1 #[.val (.ref a0), .val (.ref a1), .unset] [(.ref a0)])) rfl rfl (D 1 rfl) ht)) ?_
  obtain ⟨cl2, Ar2, q2, S2, Ng2, H2, G2⟩ := id V2
  refine OFin.of (fun t ht => aN X0 hx rfl (D 2 rfl) rfl rfl (own_alen X0 hx hZ e0 Ar2 S2 Ng2 (g := (mkF m 3 #[.val (.ref a0), .val (.ref a1), .unset] [(.ref a1), (.int (0 : Int32))])) rfl rfl (D 3 rfl) ht)) ?_
  obtain ⟨cl3, Ar3, q3, S3, Ng3, H3, G3⟩ := id V1
  refine OFin.of (fun t ht => cN X0 hx rfl (D 4 rfl) rfl (teq (by decide : (0 : Int32) = (0 : Int32))).2 (iC X0 hx rfl (D 5 rfl) (XS.istoreN X0.here hx rfl (D 6 rfl) rfl (l' := #[.val (.ref a0), .val (.ref a1), .val (.int (0 : Int32))]) rfl (iN X0 hx rfl (D 7 rfl) rfl (aN X0 hx rfl (D 8 rfl) rfl rfl (own_alen X0 hx hZ e0 Ar3 S3 Ng3 (g := (mkF m 11 #[.val (.ref a0), .val (.ref a1), .val (.int (0 : Int32))] [(.ref a0), (.int (0 : Int32))])) rfl rfl (D 9 rfl) ht)))))) ?_
  refine OFin.of (S' := s₁.setTop (mkF m 33 #[.val (.ref a0), .val (.ref a1), .val (.int (0 : Int32))] [(.int (1 : Int32))])) (fun t ht => cY X0 hx rfl 12 32 rfl (D 10 rfl) rfl (flt (by decide : ¬ ((0 : Int32) < (0 : Int32)))).2.1 (by decide) (iC X0 hx rfl (D 11 rfl) ht)) ?_
  exact OFin.retB X0 hx hlk (t := .boolean) (by simp) hret (D 12 rfl) (by decide) (by decide) (by rw [e0]; exact ⟨(by show some (Value.int (nar .boolean (1 : Int32))) = _; rfl), N0, rfl⟩)
theorem efEq0 {m : MethodId} {a0 a1 : Addr} : entryFrame m #[(.ref a0), (.ref a1)] 3 = mkF m 0 #[.val (.ref a0), .val (.ref a1), .unset] [] := by first | (simp [entryFrame, mkF, argsToLocals, Value.category]; done) | rfl
def QEq0 (Z : State) (a0 a1 t0 t1 : Addr) (k0 k1 : ClassId) (cs : Int32) (h0 : Heap) (n0 : Nat) (v : Option Value) (h : Heap) (L : List Loc) : Prop := v = some (.int (1 : Int32)) ∧ Fr n0 L ∧ h = h0
theorem rmEq0 (l : Launch) (Z : State) (a0 : Array Value) (hw : HW a0 Z) (ws : List Jvm.Cond) (a0 a1 t0 t1 : Addr) (k0 k1 : ClassId) (cs : Int32) (h0 : Heap) (n0 : Nat) (Z0 : n0 ≤ h0.size) (E1 : Exa Z h0 a1 cB) (Fc0 : Fld Z h0 a0 cB "coder" "B" (.int (0 : Int32))) (Fc1 : Fld Z h0 a1 cB "coder" "B" (.int (0 : Int32))) (Fv0 : Fld Z h0 a0 cB "value" "[B" (.ref t0)) (Fv1 : Fld Z h0 a1 cB "value" "[B" (.ref t1)) (V1 : Arv Z h0 t0 k0 .byte (0 : Int32) [] (.int (0 : Int32))) (V2 : Arv Z h0 t1 k1 .byte (0 : Int32) [] (.int (0 : Int32))) (Scs : Sta Z h0 cB "COMPACT_STRINGS" "Z" (.int cs)) (hcs : ¬ cs = (0 : Int32)) (hne : a0 ≠ a1) :
    Con l mn48 (Jvm.Cond.code mn48 jdk_42_method_66_code 3 (some .boolean)) ws (⟨1, 0, 0, 14⟩ : Jvm.Room) #[(.ref a0), (.ref a1)] Z h0 (QEq0 Z a0 a1 t0 t1 k0 k1 cs h0 n0) := by
  refine own_of (plainFor_of_name pn_2) hisR dl_jdk_42_66 ?_
  intro p e s m below meth c s₁ hx D hlk hret hml hZ hown hnm X0 e0
  replace hown : s.vm.findClass cB = some m.cls := hown
  have N0 := Fr.nil n0
  rw [efEq0]
  obtain ⟨T1, X1, e1, st1⟩ := instY X0 hx hZ hown (wt hw 214 rfl) e0 (Ins.self E1) (g := (mkF m 8 #[.val (.ref a0), .val (.ref a1), .unset] [(.ref a1)])) rfl rfl (D 4 rfl)
  refine OFin.of (fun t ht => aN X0 hx rfl (D 0 rfl) rfl rfl (aN X0 hx rfl (D 1 rfl) rfl rfl (acmp X0 hx rfl (cd := .ne) (x := (.ref a0)) (y := (.ref a1)) rfl rfl (pc0 := 2) (pc' := 7) (same := false) rfl (D 2 rfl) rfl (decide_eq_false (fun q => hne (Value.ref.inj q))) (by decide) (by decide) (aN X0 hx rfl (D 3 rfl) rfl rfl (st1 t ht))))) ?_
  obtain ⟨T2, X2, e2, st2⟩ := castY X1 hx hZ hown (wt hw 214 rfl) e1 (Ins.self E1) (g := (mkF m 15 #[.val (.ref a0), .val (.ref a1), .unset] [(.ref a1)])) rfl rfl (D 7 rfl)
  refine OFin.of (fun t ht => fN X1 hx rfl (D 5 rfl) rfl ((if0 _ _).trans (feq (by decide : ¬ ((1 : Int32) = (0 : Int32)))).1) (aN X1 hx rfl (D 6 rfl) rfl rfl (st2 t ht))) ?_
  obtain ⟨T3, X3, e3, st3⟩ := getS (host := "") X2 hx hZ hown (wt hw 129 rfl) Via.refl e2 Scs (g := (mkF m 19 #[.val (.ref a0), .val (.ref a1), .val (.ref a1)] [])) rfl (D 9 rfl)
  refine OFin.of (fun t ht => XS.astoreN X2.here hx rfl (D 8 rfl) rfl rfl (l' := #[.val (.ref a0), .val (.ref a1), .val (.ref a1)]) rfl (st3 t ht)) ?_
  obtain ⟨T4, X4, e4, st4⟩ := getF X3 hx hZ hown (host := "") (Or.inl (wt hw 130 rfl)) Via.refl e3 Fc0 (g := (mkF m 26 #[.val (.ref a0), .val (.ref a1), .val (.ref a1)] [(.ref a0)])) rfl rfl (D 12 rfl)
  refine OFin.of (fun t ht => fN X3 hx rfl (D 10 rfl) rfl ((if0 _ _).trans (feq (hcs : ¬ (cs = (0 : Int32)))).1) (aN X3 hx rfl (D 11 rfl) rfl rfl (st4 t ht))) ?_
  obtain ⟨T5, X5, e5, st5⟩ := getF X4 hx hZ hown (host := "") (Or.inl (wt hw 130 rfl)) Via.refl e4 Fc1 (g := (mkF m 30 #[.val (.ref a0), .val (.ref a1), .val (.ref a1)] [(.ref a1), (.int (0 : Int32))])) rfl rfl (D 14 rfl)
  refine OFin.of (fun t ht => aN X4 hx rfl (D 13 rfl) rfl rfl (st5 t ht)) ?_
  obtain ⟨T6, X6, e6, st6⟩ := getF X5 hx hZ hown (host := "") (Or.inl (wt hw 123 rfl)) Via.refl e5 Fv0 (g := (mkF m 37 #[.val (.ref a0), .val (.ref a1), .val (.ref a1)] [(.ref a0)])) rfl rfl (D 17 rfl)
  refine OFin.of (fun t ht => cN X5 hx rfl (D 15 rfl) rfl (teq (by decide : (0 : Int32) = (0 : Int32))).2 (aN X5 hx rfl (D 16 rfl) rfl rfl (st6 t ht))) ?_
  obtain ⟨T7, X7, e7, st7⟩ := getF X6 hx hZ hown (host := "") (Or.inl (wt hw 123 rfl)) Via.refl e6 Fv1 (g := (mkF m 41 #[.val (.ref a0), .val (.ref a1), .val (.ref a1)] [(.ref a1), (.ref t0)])) rfl rfl (D 19 rfl)
  refine OFin.of (fun t ht => aN X6 hx rfl (D 18 rfl) rfl rfl (st7 t ht)) ?_
  obtain ⟨_, T8, Lc8, X8, hQ8, st8⟩ := own_cS X7 hx hw hZ hown 215 216 143 217 rfl rfl rfl rfl (by decide) (rmLe0 l Z _ hw [] t0 t1 k0 k1 h0 n0 Z0 V1 V2) (by decide) (by decide) (g := (mkF m 44 #[.val (.ref a0), .val (.ref a1), .val (.ref a1)] [(.ref t1), (.ref t0)])) rfl hml rfl (argsL := [(.ref t0), (.ref t1)]) (rest := []) pd_28 rfl rfl rfl (W := 0) (Nat.le_of_eq rfl) (D 20 rfl) rfl e7 (by decide) (by decide)
  obtain ⟨rfl, Nq8, hs8⟩ := hQ8
  have N9 := Fr.app N0 Nq8
  refine OFin.to st8 ?_
  refine OFin.of (S' := T8.setTop (mkF m 55 #[.val (.ref a0), .val (.ref a1), .val (.ref a1)] [(.int (1 : Int32))])) (fun t ht => fN X8 hx rfl (D 21 rfl) rfl ((if0 _ _).trans (feq (by decide : ¬ ((1 : Int32) = (0 : Int32)))).1) (iC X8 hx rfl (D 22 rfl) (gO X8 hx rfl 51 55 rfl (D 23 rfl) (by decide) ht))) ?_
  exact OFin.retB X8 hx hlk (t := .boolean) (by simp) hret (D 24 rfl) (by decide) (by decide) (by rw [hs8]; exact ⟨(by show some (Value.int (nar .boolean (1 : Int32))) = _; rfl), N9, rfl⟩)
theorem efLe1 {m : MethodId} {a0 a1 : Addr} : entryFrame m #[(.ref a0), (.ref a1)] 3 = mkF m 0 #[.val (.ref a0), .val (.ref a1), .unset] [] := by first | (simp [entryFrame, mkF, argsToLocals, Value.category]; done) | rfl
def QLe1 (Z : State) (a0 a1 : Addr) (k0 k1 : ClassId) (x0 : Int32) (h0 : Heap) (n0 : Nat) (v : Option Value) (h : Heap) (L : List Loc) : Prop := v = some (.int (1 : Int32)) ∧ Fr n0 L ∧ h = h0
theorem rmLe1 (l : Launch) (Z : State) (a0 : Array Value) (hw : HW a0 Z) (ws : List Jvm.Cond) (a0 a1 : Addr) (k0 k1 : ClassId) (x0 : Int32) (h0 : Heap) (n0 : Nat) (Z0 : n0 ≤ h0.size) (V1 : Arv Z h0 a0 k0 .byte (1 : Int32) [(.int x0)] (.int (0 : Int32))) (V2 : Arv Z h0 a1 k1 .byte (1 : Int32) [(.int x0)] (.int (0 : Int32))) :
    Con l mn47 (Jvm.Cond.code mn47 jdk_43_method_13_code 3 (some .boolean)) ws (⟨0, 0, 0, 0⟩ : Jvm.Room) #[(.ref a0), (.ref a1)] Z h0 (QLe1 Z a0 a1 k0 k1 x0 h0 n0) := by
  refine own_of (plainFor_of_name pn_3) hisR dl_jdk_43_13 ?_
  intro p e s m below meth c s₁ hx D hlk hret hml hZ hown hnm X0 e0
  replace hown : s.vm.findClass cJ = some m.cls := hown
  have N0 := Fr.nil n0
  rw [efLe1]
  obtain ⟨cl1, Ar1, q1, S1, Ng1, H1, G1⟩ := id V1
  refine OFin.of (fun t ht => aN X0 hx rfl (D 0 rfl) rfl rfl (own_alen X0 hx hZ e0 Ar1 S1 Ng1 (g := (mkF m 1 #[.val (.ref a0), .val (.ref a1), .unset] [(.ref a0)])) rfl rfl (D 1 rfl) ht)) ?_
  obtain ⟨cl2, Ar2, q2, S2, Ng2, H2, G2⟩ := id V2
  refine OFin.of (fun t ht => aN X0 hx rfl (D 2 rfl) rfl rfl (own_alen X0 hx hZ e0 Ar2 S2 Ng2 (g := (mkF m 3 #[.val (.ref a0), .val (.ref a1), .unset] [(.ref a1), (.int (1 : Int32))])) rfl rfl (D 3 rfl) ht)) ?_
  obtain ⟨cl3, Ar3, q3, S3, Ng3, H3, G3⟩ := id V1
  refine OFin.of (fun t ht => cN X0 hx rfl (D 4 rfl) rfl (teq (by decide : (1 : Int32) = (1 : Int32))).2 (iC X0 hx rfl (D 5 rfl) (XS.istoreN X0.here hx rfl (D 6 rfl) rfl (l' := #[.val (.ref a0), .val (.ref a1), .val (.int (0 : Int32))]) rfl (iN X0 hx rfl (D 7 rfl) rfl (aN X0 hx rfl (D 8 rfl) rfl rfl (own_alen X0 hx hZ e0 Ar3 S3 Ng3 (g := (mkF m 11 #[.val (.ref a0), .val (.ref a1), .val (.int (0 : Int32))] [(.ref a0), (.int (0 : Int32))])) rfl rfl (D 9 rfl) ht)))))) ?_
  obtain ⟨cl4, Ar4, q4, S4, Ng4, H4, G4⟩ := id V1
  have hin4 := inb_of (j := (0 : Int32)) S4 ⟨by decide, by decide⟩
  have hat4 : cl4.slots[((0 : Int32)).toNatClampNeg]? = some (.int x0) := Has.at H4 hin4 rfl
  refine OFin.of (fun t ht => cN X0 hx rfl (D 10 rfl) rfl (tlt (by decide : (0 : Int32) < (1 : Int32))).2.1 (aN X0 hx rfl (D 13 rfl) rfl rfl (iN X0 hx rfl (D 14 rfl) rfl (X0.baloadBytes hx (j := (0 : Int32)) (v := (.int x0)) (by rw [e0]; exact Ar4.1) (State.isArrayOf_alike hZ.alike Ar4.2.1) Ar4.2.2 hin4 hat4 (g := (mkF m 17 #[.val (.ref a0), .val (.ref a1), .val (.int (0 : Int32))] [(.int (0 : Int32)), (.ref a0)])) rfl rfl (D 15 rfl) _ ht)))) ?_
  obtain ⟨cl5, Ar5, q5, S5, Ng5, H5, G5⟩ := id V2
  have hin5 := inb_of (j := (0 : Int32)) S5 ⟨by decide, by decide⟩
  have hat5 : cl5.slots[((0 : Int32)).toNatClampNeg]? = some (.int x0) := Has.at H5 hin5 rfl
  refine OFin.of (fun t ht => aN X0 hx rfl (D 16 rfl) rfl rfl (iN X0 hx rfl (D 17 rfl) rfl (X0.baloadBytes hx (j := (0 : Int32)) (v := (.int x0)) (by rw [e0]; exact Ar5.1) (State.isArrayOf_alike hZ.alike Ar5.2.1) Ar5.2.2 hin5 hat5 (g := (mkF m 20 #[.val (.ref a0), .val (.ref a1), .val (.int (0 : Int32))] [(.int (0 : Int32)), (.ref a1), (.int x0)])) rfl rfl (D 18 rfl) _ ht))) ?_
  obtain ⟨cl6, Ar6, q6, S6, Ng6, H6, G6⟩ := id V1
  refine OFin.of (fun t ht => cY X0 hx rfl 21 26 rfl (D 19 rfl) rfl (teq (rfl : x0 = x0)).1 (by decide) (iI X0 hx rfl (D 20 rfl) rfl (l' := #[.val (.ref a0), .val (.ref a1), .val (.int (1 : Int32))]) rfl (gO X0 hx rfl 29 9 rfl (D 21 rfl) (by decide) (iN X0 hx rfl (D 7 rfl) rfl (aN X0 hx rfl (D 8 rfl) rfl rfl (own_alen X0 hx hZ e0 Ar6 S6 Ng6 (g := (mkF m 11 #[.val (.ref a0), .val (.ref a1), .val (.int (1 : Int32))] [(.ref a0), (.int (1 : Int32))])) rfl rfl (D 9 rfl) ht)))))) ?_
  refine OFin.of (S' := s₁.setTop (mkF m 33 #[.val (.ref a0), .val (.ref a1), .val (.int (1 : Int32))] [(.int (1 : Int32))])) (fun t ht => cY X0 hx rfl 12 32 rfl (D 10 rfl) rfl (flt (by decide : ¬ ((1 : Int32) < (1 : Int32)))).2.1 (by decide) (iC X0 hx rfl (D 11 rfl) ht)) ?_
  exact OFin.retB X0 hx hlk (t := .boolean) (by simp) hret (D 12 rfl) (by decide) (by decide) (by rw [e0]; exact ⟨(by show some (Value.int (nar .boolean (1 : Int32))) = _; rfl), N0, rfl⟩)
theorem efEq1 {m : MethodId} {a0 a1 : Addr} : entryFrame m #[(.ref a0), (.ref a1)] 3 = mkF m 0 #[.val (.ref a0), .val (.ref a1), .unset] [] := by first | (simp [entryFrame, mkF, argsToLocals, Value.category]; done) | rfl
def QEq1 (Z : State) (a0 a1 t0 t1 : Addr) (k0 k1 : ClassId) (cs x0 : Int32) (h0 : Heap) (n0 : Nat) (v : Option Value) (h : Heap) (L : List Loc) : Prop := v = some (.int (1 : Int32)) ∧ Fr n0 L ∧ h = h0
theorem rmEq1 (l : Launch) (Z : State) (a0 : Array Value) (hw : HW a0 Z) (ws : List Jvm.Cond) (a0 a1 t0 t1 : Addr) (k0 k1 : ClassId) (cs x0 : Int32) (h0 : Heap) (n0 : Nat) (Z0 : n0 ≤ h0.size) (E1 : Exa Z h0 a1 cB) (Fc0 : Fld Z h0 a0 cB "coder" "B" (.int (0 : Int32))) (Fc1 : Fld Z h0 a1 cB "coder" "B" (.int (0 : Int32))) (Fv0 : Fld Z h0 a0 cB "value" "[B" (.ref t0)) (Fv1 : Fld Z h0 a1 cB "value" "[B" (.ref t1)) (V1 : Arv Z h0 t0 k0 .byte (1 : Int32) [(.int x0)] (.int (0 : Int32))) (V2 : Arv Z h0 t1 k1 .byte (1 : Int32) [(.int x0)] (.int (0 : Int32))) (Scs : Sta Z h0 cB "COMPACT_STRINGS" "Z" (.int cs)) (hcs : ¬ cs = (0 : Int32)) (hne : a0 ≠ a1) :
    Con l mn48 (Jvm.Cond.code mn48 jdk_42_method_66_code 3 (some .boolean)) ws (⟨1, 0, 0, 14⟩ : Jvm.Room) #[(.ref a0), (.ref a1)] Z h0 (QEq1 Z a0 a1 t0 t1 k0 k1 cs x0 h0 n0) := by
  refine own_of (plainFor_of_name pn_2) hisR dl_jdk_42_66 ?_
  intro p e s m below meth c s₁ hx D hlk hret hml hZ hown hnm X0 e0
  replace hown : s.vm.findClass cB = some m.cls := hown
  have N0 := Fr.nil n0
  rw [efEq1]
  obtain ⟨T1, X1, e1, st1⟩ := instY X0 hx hZ hown (wt hw 214 rfl) e0 (Ins.self E1) (g := (mkF m 8 #[.val (.ref a0), .val (.ref a1), .unset] [(.ref a1)])) rfl rfl (D 4 rfl)
  refine OFin.of (fun t ht => aN X0 hx rfl (D 0 rfl) rfl rfl (aN X0 hx rfl (D 1 rfl) rfl rfl (acmp X0 hx rfl (cd := .ne) (x := (.ref a0)) (y := (.ref a1)) rfl rfl (pc0 := 2) (pc' := 7) (same := false) rfl (D 2 rfl) rfl (decide_eq_false (fun q => hne (Value.ref.inj q))) (by decide) (by decide) (aN X0 hx rfl (D 3 rfl) rfl rfl (st1 t ht))))) ?_
  obtain ⟨T2, X2, e2, st2⟩ := castY X1 hx hZ hown (wt hw 214 rfl) e1 (Ins.self E1) (g := (mkF m 15 #[.val (.ref a0), .val (.ref a1), .unset] [(.ref a1)])) rfl rfl (D 7 rfl)
  refine OFin.of (fun t ht => fN X1 hx rfl (D 5 rfl) rfl ((if0 _ _).trans (feq (by decide : ¬ ((1 : Int32) = (0 : Int32)))).1) (aN X1 hx rfl (D 6 rfl) rfl rfl (st2 t ht))) ?_
  obtain ⟨T3, X3, e3, st3⟩ := getS (host := "") X2 hx hZ hown (wt hw 129 rfl) Via.refl e2 Scs (g := (mkF m 19 #[.val (.ref a0), .val (.ref a1), .val (.ref a1)] [])) rfl (D 9 rfl)
  refine OFin.of (fun t ht => XS.astoreN X2.here hx rfl (D 8 rfl) rfl rfl (l' := #[.val (.ref a0), .val (.ref a1), .val (.ref a1)]) rfl (st3 t ht)) ?_
  obtain ⟨T4, X4, e4, st4⟩ := getF X3 hx hZ hown (host := "") (Or.inl (wt hw 130 rfl)) Via.refl e3 Fc0 (g := (mkF m 26 #[.val (.ref a0), .val (.ref a1), .val (.ref a1)] [(.ref a0)])) rfl rfl (D 12 rfl)
  refine OFin.of (fun t ht => fN X3 hx rfl (D 10 rfl) rfl ((if0 _ _).trans (feq (hcs : ¬ (cs = (0 : Int32)))).1) (aN X3 hx rfl (D 11 rfl) rfl rfl (st4 t ht))) ?_
  obtain ⟨T5, X5, e5, st5⟩ := getF X4 hx hZ hown (host := "") (Or.inl (wt hw 130 rfl)) Via.refl e4 Fc1 (g := (mkF m 30 #[.val (.ref a0), .val (.ref a1), .val (.ref a1)] [(.ref a1), (.int (0 : Int32))])) rfl rfl (D 14 rfl)
  refine OFin.of (fun t ht => aN X4 hx rfl (D 13 rfl) rfl rfl (st5 t ht)) ?_
  obtain ⟨T6, X6, e6, st6⟩ := getF X5 hx hZ hown (host := "") (Or.inl (wt hw 123 rfl)) Via.refl e5 Fv0 (g := (mkF m 37 #[.val (.ref a0), .val (.ref a1), .val (.ref a1)] [(.ref a0)])) rfl rfl (D 17 rfl)
  refine OFin.of (fun t ht => cN X5 hx rfl (D 15 rfl) rfl (teq (by decide : (0 : Int32) = (0 : Int32))).2 (aN X5 hx rfl (D 16 rfl) rfl rfl (st6 t ht))) ?_
  obtain ⟨T7, X7, e7, st7⟩ := getF X6 hx hZ hown (host := "") (Or.inl (wt hw 123 rfl)) Via.refl e6 Fv1 (g := (mkF m 41 #[.val (.ref a0), .val (.ref a1), .val (.ref a1)] [(.ref a1), (.ref t0)])) rfl rfl (D 19 rfl)
  refine OFin.of (fun t ht => aN X6 hx rfl (D 18 rfl) rfl rfl (st7 t ht)) ?_
  obtain ⟨_, T8, Lc8, X8, hQ8, st8⟩ := own_cS X7 hx hw hZ hown 215 216 143 217 rfl rfl rfl rfl (by decide) (rmLe1 l Z _ hw [] t0 t1 k0 k1 x0 h0 n0 Z0 V1 V2) (by decide) (by decide) (g := (mkF m 44 #[.val (.ref a0), .val (.ref a1), .val (.ref a1)] [(.ref t1), (.ref t0)])) rfl hml rfl (argsL := [(.ref t0), (.ref t1)]) (rest := []) pd_28 rfl rfl rfl (W := 0) (Nat.le_of_eq rfl) (D 20 rfl) rfl e7 (by decide) (by decide)
  obtain ⟨rfl, Nq8, hs8⟩ := hQ8
  have N9 := Fr.app N0 Nq8
  refine OFin.to st8 ?_
  refine OFin.of (S' := T8.setTop (mkF m 55 #[.val (.ref a0), .val (.ref a1), .val (.ref a1)] [(.int (1 : Int32))])) (fun t ht => fN X8 hx rfl (D 21 rfl) rfl ((if0 _ _).trans (feq (by decide : ¬ ((1 : Int32) = (0 : Int32)))).1) (iC X8 hx rfl (D 22 rfl) (gO X8 hx rfl 51 55 rfl (D 23 rfl) (by decide) ht))) ?_
  exact OFin.retB X8 hx hlk (t := .boolean) (by simp) hret (D 24 rfl) (by decide) (by decide) (by rw [hs8]; exact ⟨(by show some (Value.int (nar .boolean (1 : Int32))) = _; rfl), N9, rfl⟩)
theorem efLe2 {m : MethodId} {a0 a1 : Addr} : entryFrame m #[(.ref a0), (.ref a1)] 3 = mkF m 0 #[.val (.ref a0), .val (.ref a1), .unset] [] := by first | (simp [entryFrame, mkF, argsToLocals, Value.category]; done) | rfl
def QLe2 (Z : State) (a0 a1 : Addr) (k0 k1 : ClassId) (x0 x1 : Int32) (h0 : Heap) (n0 : Nat) (v : Option Value) (h : Heap) (L : List Loc) : Prop := v = some (.int (1 : Int32)) ∧ Fr n0 L ∧ h = h0
theorem rmLe2 (l : Launch) (Z : State) (a0 : Array Value) (hw : HW a0 Z) (ws : List Jvm.Cond) (a0 a1 : Addr) (k0 k1 : ClassId) (x0 x1 : Int32) (h0 : Heap) (n0 : Nat) (Z0 : n0 ≤ h0.size) (V1 : Arv Z h0 a0 k0 .byte (2 : Int32) [(.int x0), (.int x1)] (.int (0 : Int32))) (V2 : Arv Z h0 a1 k1 .byte (2 : Int32) [(.int x0), (.int x1)] (.int (0 : Int32))) :
    Con l mn47 (Jvm.Cond.code mn47 jdk_43_method_13_code 3 (some .boolean)) ws (⟨0, 0, 0, 0⟩ : Jvm.Room) #[(.ref a0), (.ref a1)] Z h0 (QLe2 Z a0 a1 k0 k1 x0 x1 h0 n0) := by
  refine own_of (plainFor_of_name pn_3) hisR dl_jdk_43_13 ?_
  intro p e s m below meth c s₁ hx D hlk hret hml hZ hown hnm X0 e0
  replace hown : s.vm.findClass cJ = some m.cls := hown
  have N0 := Fr.nil n0
  rw [efLe2]
  obtain ⟨cl1, Ar1, q1, S1, Ng1, H1, G1⟩ := id V1
  refine OFin.of (fun t ht => aN X0 hx rfl (D 0 rfl) rfl rfl (own_alen X0 hx hZ e0 Ar1 S1 Ng1 (g := (mkF m 1 #[.val (.ref a0), .val (.ref a1), .unset] [(.ref a0)])) rfl rfl (D 1 rfl) ht)) ?_
  obtain ⟨cl2, Ar2, q2, S2, Ng2, H2, G2⟩ := id V2
  refine OFin.of (fun t ht => aN X0 hx rfl (D 2 rfl) rfl rfl (own_alen X0 hx hZ e0 Ar2 S2 Ng2 (g := (mkF m 3 #[.val (.ref a0), .val (.ref a1), .unset] [(.ref a1), (.int (2 : Int32))])) rfl rfl (D 3 rfl) ht)) ?_
  obtain ⟨cl3, Ar3, q3, S3, Ng3, H3, G3⟩ := id V1
  refine OFin.of (fun t ht => cN X0 hx rfl (D 4 rfl) rfl (teq (by decide : (2 : Int32) = (2 : Int32))).2 (iC X0 hx rfl (D 5 rfl) (XS.istoreN X0.here hx rfl (D 6 rfl) rfl (l' := #[.val (.ref a0), .val (.ref a1), .val (.int (0 : Int32))]) rfl (iN X0 hx rfl (D 7 rfl) rfl (aN X0 hx rfl (D 8 rfl) rfl rfl (own_alen X0 hx hZ e0 Ar3 S3 Ng3 (g := (mkF m 11 #[.val (.ref a0), .val (.ref a1), .val (.int (0 : Int32))] [(.ref a0), (.int (0 : Int32))])) rfl rfl (D 9 rfl) ht)))))) ?_
  obtain ⟨cl4, Ar4, q4, S4, Ng4, H4, G4⟩ := id V1
  have hin4 := inb_of (j := (0 : Int32)) S4 ⟨by decide, by decide⟩
  have hat4 : cl4.slots[((0 : Int32)).toNatClampNeg]? = some (.int x0) := Has.at H4 hin4 rfl
  refine OFin.of (fun t ht => cN X0 hx rfl (D 10 rfl) rfl (tlt (by decide : (0 : Int32) < (2 : Int32))).2.1 (aN X0 hx rfl (D 13 rfl) rfl rfl (iN X0 hx rfl (D 14 rfl) rfl (X0.baloadBytes hx (j := (0 : Int32)) (v := (.int x0)) (by rw [e0]; exact Ar4.1) (State.isArrayOf_alike hZ.alike Ar4.2.1) Ar4.2.2 hin4 hat4 (g := (mkF m 17 #[.val (.ref a0), .val (.ref a1), .val (.int (0 : Int32))] [(.int (0 : Int32)), (.ref a0)])) rfl rfl (D 15 rfl) _ ht)))) ?_
  obtain ⟨cl5, Ar5, q5, S5, Ng5, H5, G5⟩ := id V2
  have hin5 := inb_of (j := (0 : Int32)) S5 ⟨by decide, by decide⟩
  have hat5 : cl5.slots[((0 : Int32)).toNatClampNeg]? = some (.int x0) := Has.at H5 hin5 rfl
  refine OFin.of (fun t ht => aN X0 hx rfl (D 16 rfl) rfl rfl (iN X0 hx rfl (D 17 rfl) rfl (X0.baloadBytes hx (j := (0 : Int32)) (v := (.int x0)) (by rw [e0]; exact Ar5.1) (State.isArrayOf_alike hZ.alike Ar5.2.1) Ar5.2.2 hin5 hat5 (g := (mkF m 20 #[.val (.ref a0), .val (.ref a1), .val (.int (0 : Int32))] [(.int (0 : Int32)), (.ref a1), (.int x0)])) rfl rfl (D 18 rfl) _ ht))) ?_
  obtain ⟨cl6, Ar6, q6, S6, Ng6, H6, G6⟩ := id V1
  refine OFin.of (fun t ht => cY X0 hx rfl 21 26 rfl (D 19 rfl) rfl (teq (rfl : x0 = x0)).1 (by decide) (iI X0 hx rfl (D 20 rfl) rfl (l' := #[.val (.ref a0), .val (.ref a1), .val (.int (1 : Int32))]) rfl (gO X0 hx rfl 29 9 rfl (D 21 rfl) (by decide) (iN X0 hx rfl (D 7 rfl) rfl (aN X0 hx rfl (D 8 rfl) rfl rfl (own_alen X0 hx hZ e0 Ar6 S6 Ng6 (g := (mkF m 11 #[.val (.ref a0), .val (.ref a1), .val (.int (1 : Int32))] [(.ref a0), (.int (1 : Int32))])) rfl rfl (D 9 rfl) ht)))))) ?_
  obtain ⟨cl7, Ar7, q7, S7, Ng7, H7, G7⟩ := id V1
  have hin7 := inb_of (j := (1 : Int32)) S7 ⟨by decide, by decide⟩
  have hat7 : cl7.slots[((1 : Int32)).toNatClampNeg]? = some (.int x1) := Has.at H7 hin7 rfl
  refine OFin.of (fun t ht => cN X0 hx rfl (D 10 rfl) rfl (tlt (by decide : (1 : Int32) < (2 : Int32))).2.1 (aN X0 hx rfl (D 13 rfl) rfl rfl (iN X0 hx rfl (D 14 rfl) rfl (X0.baloadBytes hx (j := (1 : Int32)) (v := (.int x1)) (by rw [e0]; exact Ar7.1) (State.isArrayOf_alike hZ.alike Ar7.2.1) Ar7.2.2 hin7 hat7 (g := (mkF m 17 #[.val (.ref a0), .val (.ref a1), .val (.int (1 : Int32))] [(.int (1 : Int32)), (.ref a0)])) rfl rfl (D 15 rfl) _ ht)))) ?_
  obtain ⟨cl8, Ar8, q8, S8, Ng8, H8, G8⟩ := id V2
  have hin8 := inb_of (j := (1 : Int32)) S8 ⟨by decide, by decide⟩
  have hat8 : cl8.slots[((1 : Int32)).toNatClampNeg]? = some (.int x1) := Has.at H8 hin8 rfl
  refine OFin.of (fun t ht => aN X0 hx rfl (D 16 rfl) rfl rfl (iN X0 hx rfl (D 17 rfl) rfl (X0.baloadBytes hx (j := (1 : Int32)) (v := (.int x1)) (by rw [e0]; exact Ar8.1) (State.isArrayOf_alike hZ.alike Ar8.2.1) Ar8.2.2 hin8 hat8 (g := (mkF m 20 #[.val (.ref a0), .val (.ref a1), .val (.int (1 : Int32))] [(.int (1 : Int32)), (.ref a1), (.int x1)])) rfl rfl (D 18 rfl) _ ht))) ?_
  obtain ⟨cl9, Ar9, q9, S9, Ng9, H9, G9⟩ := id V1
  refine OFin.of (fun t ht => cY X0 hx rfl 21 26 rfl (D 19 rfl) rfl (teq (rfl : x1 = x1)).1 (by decide) (iI X0 hx rfl (D 20 rfl) rfl (l' := #[.val (.ref a0), .val (.ref a1), .val (.int (2 : Int32))]) rfl (gO X0 hx rfl 29 9 rfl (D 21 rfl) (by decide) (iN X0 hx rfl (D 7 rfl) rfl (aN X0 hx rfl (D 8 rfl) rfl rfl (own_alen X0 hx hZ e0 Ar9 S9 Ng9 (g := (mkF m 11 #[.val (.ref a0), .val (.ref a1), .val (.int (2 : Int32))] [(.ref a0), (.int (2 : Int32))])) rfl rfl (D 9 rfl) ht)))))) ?_
  refine OFin.of (S' := s₁.setTop (mkF m 33 #[.val (.ref a0), .val (.ref a1), .val (.int (2 : Int32))] [(.int (1 : Int32))])) (fun t ht => cY X0 hx rfl 12 32 rfl (D 10 rfl) rfl (flt (by decide : ¬ ((2 : Int32) < (2 : Int32)))).2.1 (by decide) (iC X0 hx rfl (D 11 rfl) ht)) ?_
  exact OFin.retB X0 hx hlk (t := .boolean) (by simp) hret (D 12 rfl) (by decide) (by decide) (by rw [e0]; exact ⟨(by show some (Value.int (nar .boolean (1 : Int32))) = _; rfl), N0, rfl⟩)
theorem efEq2 {m : MethodId} {a0 a1 : Addr} : entryFrame m #[(.ref a0), (.ref a1)] 3 = mkF m 0 #[.val (.ref a0), .val (.ref a1), .unset] [] := by first | (simp [entryFrame, mkF, argsToLocals, Value.category]; done) | rfl
def QEq2 (Z : State) (a0 a1 t0 t1 : Addr) (k0 k1 : ClassId) (cs x0 x1 : Int32) (h0 : Heap) (n0 : Nat) (v : Option Value) (h : Heap) (L : List Loc) : Prop := v = some (.int (1 : Int32)) ∧ Fr n0 L ∧ h = h0
theorem rmEq2 (l : Launch) (Z : State) (a0 : Array Value) (hw : HW a0 Z) (ws : List Jvm.Cond) (a0 a1 t0 t1 : Addr) (k0 k1 : ClassId) (cs x0 x1 : Int32) (h0 : Heap) (n0 : Nat) (Z0 : n0 ≤ h0.size) (E1 : Exa Z h0 a1 cB) (Fc0 : Fld Z h0 a0 cB "coder" "B" (.int (0 : Int32))) (Fc1 : Fld Z h0 a1 cB "coder" "B" (.int (0 : Int32))) (Fv0 : Fld Z h0 a0 cB "value" "[B" (.ref t0)) (Fv1 : Fld Z h0 a1 cB "value" "[B" (.ref t1)) (V1 : Arv Z h0 t0 k0 .byte (2 : Int32) [(.int x0), (.int x1)] (.int (0 : Int32))) (V2 : Arv Z h0 t1 k1 .byte (2 : Int32) [(.int x0), (.int x1)] (.int (0 : Int32))) (Scs : Sta Z h0 cB "COMPACT_STRINGS" "Z" (.int cs)) (hcs : ¬ cs = (0 : Int32)) (hne : a0 ≠ a1) :
    Con l mn48 (Jvm.Cond.code mn48 jdk_42_method_66_code 3 (some .boolean)) ws (⟨1, 0, 0, 14⟩ : Jvm.Room) #[(.ref a0), (.ref a1)] Z h0 (QEq2 Z a0 a1 t0 t1 k0 k1 cs x0 x1 h0 n0) := by
  refine own_of (plainFor_of_name pn_2) hisR dl_jdk_42_66 ?_
  intro p e s m below meth c s₁ hx D hlk hret hml hZ hown hnm X0 e0
  replace hown : s.vm.findClass cB = some m.cls := hown
  have N0 := Fr.nil n0
  rw [efEq2]
  obtain ⟨T1, X1, e1, st1⟩ := instY X0 hx hZ hown (wt hw 214 rfl) e0 (Ins.self E1) (g := (mkF m 8 #[.val (.ref a0), .val (.ref a1), .unset] [(.ref a1)])) rfl rfl (D 4 rfl)
  refine OFin.of (fun t ht => aN X0 hx rfl (D 0 rfl) rfl rfl (aN X0 hx rfl (D 1 rfl) rfl rfl (acmp X0 hx rfl (cd := .ne) (x := (.ref a0)) (y := (.ref a1)) rfl rfl (pc0 := 2) (pc' := 7) (same := false) rfl (D 2 rfl) rfl (decide_eq_false (fun q => hne (Value.ref.inj q))) (by decide) (by decide) (aN X0 hx rfl (D 3 rfl) rfl rfl (st1 t ht))))) ?_
  obtain ⟨T2, X2, e2, st2⟩ := castY X1 hx hZ hown (wt hw 214 rfl) e1 (Ins.self E1) (g := (mkF m 15 #[.val (.ref a0), .val (.ref a1), .unset] [(.ref a1)])) rfl rfl (D 7 rfl)
  refine OFin.of (fun t ht => fN X1 hx rfl (D 5 rfl) rfl ((if0 _ _).trans (feq (by decide : ¬ ((1 : Int32) = (0 : Int32)))).1) (aN X1 hx rfl (D 6 rfl) rfl rfl (st2 t ht))) ?_
  obtain ⟨T3, X3, e3, st3⟩ := getS (host := "") X2 hx hZ hown (wt hw 129 rfl) Via.refl e2 Scs (g := (mkF m 19 #[.val (.ref a0), .val (.ref a1), .val (.ref a1)] [])) rfl (D 9 rfl)
  refine OFin.of (fun t ht => XS.astoreN X2.here hx rfl (D 8 rfl) rfl rfl (l' := #[.val (.ref a0), .val (.ref a1), .val (.ref a1)]) rfl (st3 t ht)) ?_
  obtain ⟨T4, X4, e4, st4⟩ := getF X3 hx hZ hown (host := "") (Or.inl (wt hw 130 rfl)) Via.refl e3 Fc0 (g := (mkF m 26 #[.val (.ref a0), .val (.ref a1), .val (.ref a1)] [(.ref a0)])) rfl rfl (D 12 rfl)
  refine OFin.of (fun t ht => fN X3 hx rfl (D 10 rfl) rfl ((if0 _ _).trans (feq (hcs : ¬ (cs = (0 : Int32)))).1) (aN X3 hx rfl (D 11 rfl) rfl rfl (st4 t ht))) ?_
  obtain ⟨T5, X5, e5, st5⟩ := getF X4 hx hZ hown (host := "") (Or.inl (wt hw 130 rfl)) Via.refl e4 Fc1 (g := (mkF m 30 #[.val (.ref a0), .val (.ref a1), .val (.ref a1)] [(.ref a1), (.int (0 : Int32))])) rfl rfl (D 14 rfl)
  refine OFin.of (fun t ht => aN X4 hx rfl (D 13 rfl) rfl rfl (st5 t ht)) ?_
  obtain ⟨T6, X6, e6, st6⟩ := getF X5 hx hZ hown (host := "") (Or.inl (wt hw 123 rfl)) Via.refl e5 Fv0 (g := (mkF m 37 #[.val (.ref a0), .val (.ref a1), .val (.ref a1)] [(.ref a0)])) rfl rfl (D 17 rfl)
  refine OFin.of (fun t ht => cN X5 hx rfl (D 15 rfl) rfl (teq (by decide : (0 : Int32) = (0 : Int32))).2 (aN X5 hx rfl (D 16 rfl) rfl rfl (st6 t ht))) ?_
  obtain ⟨T7, X7, e7, st7⟩ := getF X6 hx hZ hown (host := "") (Or.inl (wt hw 123 rfl)) Via.refl e6 Fv1 (g := (mkF m 41 #[.val (.ref a0), .val (.ref a1), .val (.ref a1)] [(.ref a1), (.ref t0)])) rfl rfl (D 19 rfl)
  refine OFin.of (fun t ht => aN X6 hx rfl (D 18 rfl) rfl rfl (st7 t ht)) ?_
  obtain ⟨_, T8, Lc8, X8, hQ8, st8⟩ := own_cS X7 hx hw hZ hown 215 216 143 217 rfl rfl rfl rfl (by decide) (rmLe2 l Z _ hw [] t0 t1 k0 k1 x0 x1 h0 n0 Z0 V1 V2) (by decide) (by decide) (g := (mkF m 44 #[.val (.ref a0), .val (.ref a1), .val (.ref a1)] [(.ref t1), (.ref t0)])) rfl hml rfl (argsL := [(.ref t0), (.ref t1)]) (rest := []) pd_28 rfl rfl rfl (W := 0) (Nat.le_of_eq rfl) (D 20 rfl) rfl e7 (by decide) (by decide)
  obtain ⟨rfl, Nq8, hs8⟩ := hQ8
  have N9 := Fr.app N0 Nq8
  refine OFin.to st8 ?_
  refine OFin.of (S' := T8.setTop (mkF m 55 #[.val (.ref a0), .val (.ref a1), .val (.ref a1)] [(.int (1 : Int32))])) (fun t ht => fN X8 hx rfl (D 21 rfl) rfl ((if0 _ _).trans (feq (by decide : ¬ ((1 : Int32) = (0 : Int32)))).1) (iC X8 hx rfl (D 22 rfl) (gO X8 hx rfl 51 55 rfl (D 23 rfl) (by decide) ht))) ?_
  exact OFin.retB X8 hx hlk (t := .boolean) (by simp) hret (D 24 rfl) (by decide) (by decide) (by rw [hs8]; exact ⟨(by show some (Value.int (nar .boolean (1 : Int32))) = _; rfl), N9, rfl⟩)
section OwnLst
variable {ty : FieldType} {Z : State} {h h' : Heap} {a b : Addr} {k : ClassId} {xs : List Int32}
def Lst (ty : FieldType) (Z : State) (h : Heap) (a : Addr) (k : ClassId) (xs : List Int32) : Prop := Arv Z h a k ty (Int32.ofNat xs.length) (xs.map Value.int) (.int (0 : Int32))
theorem Lst.lt (F : Lst ty Z h a k xs) : a < h.size := Arv.lt F
theorem Lst.ext (F : Lst ty Z h a k xs) (E : Ext h h') : Lst ty Z h' a k xs := Arv.ext F E
theorem Lst.other {sl : Nat} {v : Value} (F : Lst ty Z h b k xs) (W : Wr h h' a sl v) (q : b ≠ a) : Lst ty Z h' b k xs := Arv.other F W q
theorem Lst.keep {ws : List Addr} (F : Lst ty Z h a k xs) (K : Keep h h' ws) (q : a ∉ ws) : Lst ty Z h' a k xs := Arv.keep F K q
end OwnLst
section OwnSts
variable {Z : State} {h h' : Heap} {kS kE kI u8 : Addr} {cs : Int32} {fm : Value}
def Sts (Z : State) (h : Heap) (kS kE kI : Addr) (cs : Int32) (fm : Value) (u8 : Addr) : Prop :=
  Sta Z h cG "START" cD (.ref kS) ∧ Sta Z h cG "END" cD (.ref kE) ∧ Sta Z h cG "INSTRUCTION" cD (.ref kI) ∧ Sta Z h cB "COMPACT_STRINGS" "Z" (.int cs) ∧ Sta Z h cE "SIOOBE_FORMATTER" cF fm ∧ Sta Z h "sun/nio/cs/UTF_8" "INSTANCE" c10 (.ref u8) ∧ Sta Z h "java/nio/charset/StandardCharsets" "UTF_8" c12 (.ref u8) ∧ Exa Z h u8 "sun/nio/cs/UTF_8"
theorem Sts.ext (F : Sts Z h kS kE kI cs fm u8) (E : Ext h h') : Sts Z h' kS kE kI cs fm u8 := by
  obtain ⟨a, b, c, d, e, f, g, i⟩ := F; exact ⟨a.ext E, b.ext E, c.ext E, d.ext E, e.ext E, f.ext E, g.ext E, i.ext E⟩
theorem Sts.wr {x : Addr} {sl : Nat} {v : Value} (F : Sts Z h kS kE kI cs fm u8) (W : Wr h h' x sl v) : Sts Z h' kS kE kI cs fm u8 := by
  obtain ⟨a, b, c, d, e, f, g, i⟩ := F; exact ⟨a.wr W, b.wr W, c.wr W, d.wr W, e.wr W, f.wr W, g.wr W, i.wr W⟩
theorem Sts.keep {ws : List Addr} (F : Sts Z h kS kE kI cs fm u8) (K : Keep h h' ws) (q : OwnNoSta h ws) : Sts Z h' kS kE kI cs fm u8 := by
  obtain ⟨a, b, c, d, e, f, g, i⟩ := F; exact ⟨own_staKeep a K q, own_staKeep b K q, own_staKeep c K q, own_staKeep d K q, own_staKeep e K q, own_staKeep f K q, own_staKeep g K q, i.keep K⟩
def OwnSt (kS kE kI : Addr) (cs : Int32) (fm : Value) : Prop := (¬ cs = (0 : Int32)) ∧ fm.isRef = true ∧ kE ≠ kS ∧ kI ≠ kS
end OwnSts
theorem own_tx {Z : State} {h : Heap} {a : Addr} {k : ClassId} {n : Int32} {pre : List Int32} {x y : Int32} (F : Txt Z h a k n (pre ++ [x])) (e : x = y) : Txt Z h a k n (pre ++ [y]) := e ▸ F
theorem own_la {pre : List Int32} {x : Int32} {k : Nat} (h : pre.length ≤ k) : (pre ++ [x]).length ≤ k + 1 := by rw [List.length_append, List.length_singleton]; omega
theorem own_l24 {pre : List Int32} {k : Nat} (h : pre.length ≤ k) (hk : k < 24) : pre.length < (24 : Int32).toNatClampNeg := by rw [show (24 : Int32).toNatClampNeg = 24 from rfl]; omega
def OwnH0 (kd : Int32) (pre : List Int32) : Prop := (kd = 0 ∧ pre = [60]) ∨ (kd = 1 ∧ pre = [60, 47]) ∨ (kd = 2 ∧ pre = [60, 63])
def OwnHead (kd : Int32) (pre D : List Int32) : Prop := (kd = 0 ∧ pre = 60 :: 97 :: D) ∨ (kd = 1 ∧ pre = 60 :: 47 :: 97 :: D) ∨ (kd = 2 ∧ pre = 60 :: 63 :: 97 :: D)
section OwnShape
variable {kd x n0 n1 nL q v0 v1 vL b te ee : Int32} {pre D xs vs : List Int32}
theorem own_h0 (h : OwnH0 kd pre) : OwnHead kd (pre ++ [97]) [] := by
  rcases h with ⟨a, rfl⟩ | ⟨a, rfl⟩ | ⟨a, rfl⟩
  · exact Or.inl ⟨a, rfl⟩
  · exact Or.inr (Or.inl ⟨a, rfl⟩)
  · exact Or.inr (Or.inr ⟨a, rfl⟩)
theorem own_ha (h : OwnHead kd pre D) : OwnHead kd (pre ++ [x]) (D ++ [x]) := by
  rcases h with ⟨a, rfl⟩ | ⟨a, rfl⟩ | ⟨a, rfl⟩
  · exact Or.inl ⟨a, rfl⟩
  · exact Or.inr (Or.inl ⟨a, rfl⟩)
  · exact Or.inr (Or.inr ⟨a, rfl⟩)
theorem own_kd (h : OwnHead kd pre D) : kd = 0 ∨ kd = 1 ∨ kd = 2 := by
  rcases h with ⟨a, -⟩ | ⟨a, -⟩ | ⟨a, -⟩
  · exact Or.inl a
  · exact Or.inr (Or.inl a)
  · exact Or.inr (Or.inr a)
theorem own_hz (h : OwnHead kd pre D) (k : kd = 0) : pre = 60 :: 97 :: D := by
  rcases h with ⟨a, e⟩ | ⟨a, -⟩ | ⟨a, -⟩
  · exact e
  · exact absurd (k.symm.trans a) (by decide)
  · exact absurd (k.symm.trans a) (by decide)
theorem own_h1 (h : OwnHead kd pre D) (k : kd = 1) : pre = 60 :: 47 :: 97 :: D := by
  rcases h with ⟨a, e⟩ | ⟨a, e⟩ | ⟨a, -⟩
  · exact absurd (k.symm.trans a) (by decide)
  · exact e
  · exact absurd (k.symm.trans a) (by decide)
theorem own_h2 (h : OwnHead kd pre D) (k : kd = 2) : pre = 60 :: 63 :: 97 :: D := by
  rcases h with ⟨a, e⟩ | ⟨a, e⟩ | ⟨a, e⟩
  · exact absurd (k.symm.trans a) (by decide)
  · exact absurd (k.symm.trans a) (by decide)
  · exact e
def own_sps (s : List Int32) : Prop := ∀ x ∈ s, own_isp x = true
theorem own_sps0 : own_sps [] := fun _ q => nomatch q
theorem own_sps1 (h : own_sps D) (hx : own_isp x = true) : own_sps (D ++ [x]) := fun y q => by
  rcases List.mem_append.mp q with q | q
  · exact h y q
  · rw [List.mem_singleton.mp q]; exact hx
def own_vok (q c : Int32) : Prop := ¬ c < (0 : Int32) ∧ c < (128 : Int32) ∧ c ≠ q
def OwnNm (nL n0 n1 : Int32) (xs : List Int32) : Prop := own_en n0 = false ∧ own_en n1 = false ∧ n0.toInt8.toInt32 = n0 ∧ n1.toInt8.toInt32 = n1 ∧ ((¬ nL = 2 ∧ xs = [n0]) ∨ (nL = 2 ∧ xs = [n0, n1]))
def OwnVs (vL v0 v1 q : Int32) (vs : List Int32) : Prop := own_vok q v0 ∧ own_vok q v1 ∧ ((vL < 1 ∧ vs = []) ∨ (¬ vL < 1 ∧ vL < 2 ∧ vs = [v0]) ∨ (¬ vL < 2 ∧ vs = [v0, v1]))
def OwnB (xs D : List Int32) : Prop := ∃ s1, own_sps s1 ∧ s1 ≠ [] ∧ D = s1 ++ xs
def OwnC (xs D : List Int32) : Prop := ∃ s1 s2, own_sps s1 ∧ s1 ≠ [] ∧ own_sps s2 ∧ D = s1 ++ (xs ++ s2)
def OwnE (xs D : List Int32) : Prop := ∃ s1 s2 s3, own_sps s1 ∧ s1 ≠ [] ∧ own_sps s2 ∧ own_sps s3 ∧ D = s1 ++ (xs ++ (s2 ++ 61 :: s3))
def OwnV (xs : List Int32) (q : Int32) (vs D : List Int32) : Prop := ∃ s1 s2 s3, own_sps s1 ∧ s1 ≠ [] ∧ own_sps s2 ∧ own_sps s3 ∧ D = s1 ++ (xs ++ (s2 ++ 61 :: (s3 ++ q :: vs)))
def OwnQ (xs : List Int32) (q : Int32) (vs D : List Int32) : Prop := ∃ s1 s2 s3 s4, own_sps s1 ∧ s1 ≠ [] ∧ own_sps s2 ∧ own_sps s3 ∧ own_sps s4 ∧ D = s1 ++ (xs ++ (s2 ++ 61 :: (s3 ++ q :: (vs ++ q :: s4))))
theorem own_B1 (hD : own_sps D) (hn : D ≠ []) (hx : OwnNm nL n0 n1 xs) (h : ¬ nL = 2) : OwnB xs (D ++ [n0]) := by
  rcases hx.2.2.2.2 with ⟨-, rfl⟩ | ⟨a, -⟩
  · exact ⟨D, hD, hn, rfl⟩
  · exact absurd a h
theorem own_B2 (hD : own_sps D) (hn : D ≠ []) (hx : OwnNm nL n0 n1 xs) (h : nL = 2) : OwnB xs (D ++ [n0] ++ [n1]) := by
  rcases hx.2.2.2.2 with ⟨a, -⟩ | ⟨-, rfl⟩
  · exact absurd h a
  · exact ⟨D, hD, hn, by rw [List.append_assoc]; rfl⟩
theorem own_C0 (h : OwnB xs D) : OwnC xs D := by
  obtain ⟨s1, a, b, rfl⟩ := h; exact ⟨s1, [], a, b, own_sps0, by rw [List.append_nil]⟩
theorem own_C1 (h : OwnC xs D) (hx : own_isp x = true) : OwnC xs (D ++ [x]) := by
  obtain ⟨s1, s2, a, b, c, rfl⟩ := h; exact ⟨s1, s2 ++ [x], a, b, own_sps1 c hx, by simp only [List.append_assoc]⟩
theorem own_E0 (h : OwnC xs D) : OwnE xs (D ++ [61]) := by
  obtain ⟨s1, s2, a, b, c, rfl⟩ := h; exact ⟨s1, s2, [], a, b, c, own_sps0, by simp only [List.append_assoc]⟩
theorem own_E1 (h : OwnE xs D) (hx : own_isp x = true) : OwnE xs (D ++ [x]) := by
  obtain ⟨s1, s2, s3, a, b, c, d, rfl⟩ := h; exact ⟨s1, s2, s3 ++ [x], a, b, c, own_sps1 d hx, by simp only [List.append_assoc, List.cons_append]⟩
theorem own_V0 (h : OwnE xs D) (hv : OwnVs vL v0 v1 q vs) (k : vL < 1) : OwnV xs q vs (D ++ [q]) := by
  rcases hv.2.2 with ⟨-, rfl⟩ | ⟨z, -⟩ | ⟨z, -⟩
  · obtain ⟨s1, s2, s3, a, b, c, d, rfl⟩ := h; exact ⟨s1, s2, s3, a, b, c, d, by simp only [List.append_assoc, List.cons_append]⟩
  · exact absurd k z
  · refine absurd ?_ z
    rw [Int32.lt_iff_toInt_lt] at k ⊢
    have e1 : (1 : Int32).toInt = 1 := by decide
    have e2 : (2 : Int32).toInt = 2 := by decide
    omega
theorem own_lt12 (k : vL < 1) : vL < (2 : Int32) := by
  rw [Int32.lt_iff_toInt_lt] at k ⊢
  have e1 : (1 : Int32).toInt = 1 := by decide
  have e2 : (2 : Int32).toInt = 2 := by decide
  omega
theorem own_V1 (h : OwnE xs D) (hv : OwnVs vL v0 v1 q vs) (k1 : ¬ vL < 1) (k2 : vL < 2) : OwnV xs q vs (D ++ [q] ++ [v0]) := by
  rcases hv.2.2 with ⟨z, -⟩ | ⟨-, -, rfl⟩ | ⟨z, -⟩
  · exact absurd z k1
  · obtain ⟨s1, s2, s3, a, b, c, d, rfl⟩ := h; exact ⟨s1, s2, s3, a, b, c, d, by simp only [List.append_assoc, List.cons_append, List.nil_append]⟩
  · exact absurd k2 z
theorem own_V2 (h : OwnE xs D) (hv : OwnVs vL v0 v1 q vs) (k2 : ¬ vL < 2) : OwnV xs q vs (D ++ [q] ++ [v0] ++ [v1]) := by
  rcases hv.2.2 with ⟨z, -⟩ | ⟨-, z, -⟩ | ⟨-, rfl⟩
  · exact absurd (own_lt12 z) k2
  · exact absurd z k2
  · obtain ⟨s1, s2, s3, a, b, c, d, rfl⟩ := h; exact ⟨s1, s2, s3, a, b, c, d, by simp only [List.append_assoc, List.cons_append, List.nil_append]⟩
theorem own_Q0 (h : OwnV xs q vs D) : OwnQ xs q vs (D ++ [q]) := by
  obtain ⟨s1, s2, s3, a, b, c, d, rfl⟩ := h; exact ⟨s1, s2, s3, [], a, b, c, d, own_sps0, by simp only [List.append_assoc, List.cons_append]⟩
theorem own_Q1 (h : OwnV xs q vs D) (hx : own_isp x = true) : OwnQ xs q vs (D ++ [q] ++ [x]) := by
  obtain ⟨s1, s2, s3, a, b, c, d, rfl⟩ := h; exact ⟨s1, s2, s3, [x], a, b, c, d, fun y m => by rw [List.mem_singleton.mp m]; exact hx, by simp only [List.append_assoc, List.cons_append, List.nil_append]⟩
end OwnShape
def FinF (pre : List Int32) (te ee : Int32) : Prop := own_find own_en pre 1 = 2 ∧ ∃ ja, own_raF pre 2 = some ja ∧ own_te pre ja = te ∧ own_em pre ja = ee
def FinT (pre xs vs : List Int32) (te ee : Int32) : Prop := own_find own_en pre 1 = 2 ∧ own_raF pre 2 = none ∧ own_j2 pre 2 = own_j1 pre 2 + xs.length ∧ (∀ i, i < xs.length → pre.getD (own_j1 pre 2 + i) 0 = xs.getD i 0) ∧ own_j2 pre 2 ≤ pre.length ∧ own_r1 pre 2 = own_j4 pre 2 + 1 + vs.length ∧ (∀ i, i < vs.length → pre.getD (own_j4 pre 2 + 1 + i) 0 = vs.getD i 0) ∧ own_r1 pre 2 + 1 ≤ pre.length ∧ ∃ ja, own_raF pre (own_r1 pre 2 + 1) = some ja ∧ own_te pre ja = te ∧ own_em pre ja = ee
section OwnFin
variable {P : Int32 → Bool} {pre s t u X Y xs vs D : List Int32} {x q b te ee n0 n1 nL v0 v1 vL : Int32} {i j : Nat}
def OwnHd (P : Int32 → Bool) (t : List Int32) : Prop := t = [] ∨ ∃ x t', t = x :: t' ∧ P x = true
theorem own_hdn : OwnHd P [] := Or.inl rfl
theorem own_hdc (h : P x = true) : OwnHd P (x :: t) := Or.inr ⟨x, t, rfl, h⟩
theorem own_fd (hd : pre.drop i = s ++ t) (hs : ∀ x ∈ s, P x = false) (ht : OwnHd P t) : own_find P pre i = i + s.length ∧ pre.drop (i + s.length) = t := by
  have e1 : s.findIdx P = s.length := List.findIdx_eq_length_of_false hs
  have e2 : t.findIdx P = 0 := by
    rcases ht with rfl | ⟨x, t', rfl, h⟩
    · rfl
    · rw [List.findIdx_cons, h]; rfl
  refine ⟨?_, ?_⟩
  · unfold own_find
    rw [hd, List.findIdx_append, e1, if_neg (Nat.lt_irrefl _), e2]; omega
  · rw [← List.drop_drop, hd, List.drop_left]
theorem own_dc (hd : pre.drop i = x :: t) : i < pre.length ∧ pre.getD i 0 = x ∧ pre.drop (i + 1) = t := by
  have hl : i < pre.length := by
    refine Nat.lt_of_not_le fun h => ?_
    rw [List.drop_eq_nil_of_le h] at hd; cases hd
  rw [List.drop_eq_getElem_cons hl] at hd
  injection hd with h1 h2
  refine ⟨hl, ?_, h2⟩
  rw [List.getD_eq_getElem?_getD, List.getElem?_eq_getElem hl, ← h1]; rfl
theorem own_dlen (hd : pre.drop i = t) (hi : i ≤ pre.length) : pre.length = i + t.length := by
  have := congrArg List.length hd
  rw [List.length_drop] at this; omega
theorem own_spf (h : own_sps s) : ∀ x ∈ s, own_nsp x = false := fun x m => by show (!own_isp x) = false; rw [h x m]; rfl
theorem own_ispen (h : own_isp x = true) : own_en x = true := by
  unfold own_isp at h
  unfold own_en
  simp only [Bool.or_eq_true, decide_eq_true_eq] at h ⊢
  rcases h with ((h | h) | h) | h <;> simp [h]
theorem own_enisp (h : own_en x = false) : own_nsp x = true := by
  show (!own_isp x) = true
  cases e : own_isp x
  · rfl
  · rw [own_ispen e] at h; cases h
theorem own_en_ne (h : own_en x = false) : x ≠ 62 ∧ x ≠ 47 ∧ x ≠ 61 := by
  refine ⟨?_, ?_, ?_⟩ <;> (rintro rfl; revert h; decide)
theorem own_isp_ne (h : own_isp x = true) : x ≠ 62 ∧ x ≠ 47 ∧ x ≠ 61 := by
  refine ⟨?_, ?_, ?_⟩ <;> (rintro rfl; revert h; decide)
/-- the pieces of a text behind the tag's name, one behind the other -/
theorem own_st1 (hd : pre.drop i = s ++ t) (hs : own_sps s) (ht : OwnHd own_nsp t) : own_find own_nsp pre i = i + s.length ∧ pre.drop (i + s.length) = t := own_fd hd (own_spf hs) ht
theorem own_stop1n (hd : pre.drop j = []) (hj : j ≤ pre.length) : own_stop1 pre j := Or.inl (by have := own_dlen hd hj; rw [this]; rfl)
theorem own_stop2n (hd : pre.drop j = []) (hj : j ≤ pre.length) : own_stop2 pre j := Or.inl (by have := own_dlen hd hj; rw [this]; rfl)
theorem own_stop3n (hd : pre.drop j = []) (hj : j ≤ pre.length) : own_stop3 pre j := Or.inl (by have := own_dlen hd hj; rw [this]; rfl)
theorem own_neN (hl : j < pre.length) (h24 : pre.length ≤ 24) : ¬ Int32.ofNat j = Int32.ofNat pre.length := fun q => by
  have e := congrArg Int32.toInt q
  rw [own_ofNat (by omega), own_ofNat (by omega)] at e; omega
/-- '>' at the text's end, none between -/
theorem own_tel (hd : pre.drop j = t ++ [62]) (hj : j ≤ pre.length) (ht : ∀ x ∈ t, x ≠ 62) (h24 : pre.length ≤ 24) : own_ix pre 62 j = Int32.ofNat (pre.length - 1) ∧ own_find (fun x => decide (x = 62)) pre j = pre.length - 1 := by
  have hl := own_dlen hd hj
  rw [List.length_append, List.length_singleton] at hl
  obtain ⟨e, -⟩ := own_fd (P := fun x => decide (x = 62)) hd (fun x m => decide_eq_false (ht x m)) (own_hdc (by decide))
  have e' : own_find (fun x => decide (x = 62)) pre j = pre.length - 1 := by omega
  refine ⟨?_, e'⟩
  unfold own_ix
  rw [e', if_pos (by omega)]
theorem own_te0 (h : own_ix pre 62 j = Int32.ofNat (pre.length - 1)) (h1 : 1 ≤ pre.length) (h24 : pre.length ≤ 24) : own_te pre j = Int32.ofNat pre.length := by
  have hn : ¬ Int32.ofNat (pre.length - 1) < (0 : Int32) := by
    rw [Int32.lt_iff_toInt_lt, own_ofNat (by omega)]
    have : (0 : Int32).toInt = 0 := by decide
    omega
  rw [own_te_y h hn, own_succ, Nat.sub_add_cancel h1]
theorem own_ng24 (h24 : pre.length ≤ 24) : ¬ Int32.ofNat (pre.length - 1) < (0 : Int32) := by
  rw [Int32.lt_iff_toInt_lt, own_ofNat (by omega)]
  have : (0 : Int32).toInt = 0 := by decide
  omega
theorem own_getap (n : Nat) (hn : n < X.length) : (X ++ Y).getD n 0 = X.getD n 0 := by
  simp only [List.getD_eq_getElem?_getD, List.getElem?_append_left hn]
theorem own_getlast (hY : Y ≠ []) (h : ∀ y ∈ Y, y ≠ 47) : (X ++ Y ++ [62]).getD ((X ++ Y ++ [62]).length - 1 - 1) 0 ≠ 47 := by
  have h1 : 0 < Y.length := List.length_pos_iff.mpr hY
  have e : (X ++ Y ++ [62]).length - 1 - 1 = X.length + (Y.length - 1) := by simp only [List.length_append, List.length_singleton]; omega
  rw [e, own_getap _ (by rw [List.length_append]; omega)]
  have e2 : (X ++ Y).getD (X.length + (Y.length - 1)) 0 = Y.getD (Y.length - 1) 0 := by
    simp only [List.getD_eq_getElem?_getD]
    rw [List.getElem?_append_right (by omega), show X.length + (Y.length - 1) - X.length = Y.length - 1 by omega]
  rw [e2, List.getD_eq_getElem?_getD, List.getElem?_eq_getElem (by omega)]
  exact h _ (List.getElem_mem _)
/-- tagEnd and emptyElement: the '>' is the last byte, and ahead of it no '/' -/
theorem own_end0 (e : pre = X ++ Y ++ [62]) (hY : Y ≠ []) (h : ∀ y ∈ Y, y ≠ 47) (hd : pre.drop j = t ++ [62]) (hj : j ≤ pre.length) (ht : ∀ x ∈ t, x ≠ 62) (h24 : pre.length ≤ 24) : own_te pre j = Int32.ofNat pre.length ∧ own_em pre j = 0 := by
  obtain ⟨a, b⟩ := own_tel hd hj ht h24
  have h1 : 1 ≤ pre.length := by rw [e, List.length_append, List.length_singleton]; omega
  refine ⟨own_te0 a h1 h24, own_em_f b a (own_ng24 h24) ?_⟩
  have := own_getlast (X := X) hY h
  rw [← e] at this; exact this
/-- the same with a '/' ahead of it -/
theorem own_end1 (e : pre = X ++ [47] ++ [62]) (hX : 1 ≤ X.length) (hd : pre.drop j = t ++ [62]) (hj : j ≤ pre.length) (ht : ∀ x ∈ t, x ≠ 62) (h24 : pre.length ≤ 24) : own_te pre j = Int32.ofNat pre.length ∧ own_em pre j = 1 := by
  obtain ⟨a, b⟩ := own_tel hd hj ht h24
  have hl : pre.length = X.length + 2 := by rw [e]; simp only [List.length_append, List.length_singleton]
  refine ⟨own_te0 a (by omega) h24, own_em_t b a (own_ng24 h24) ?_ ?_⟩
  · rw [show (1 : Int32) = Int32.ofNat 1 from rfl, own_natlt (by omega) (by omega)]; omega
  · rw [hl, show X.length + 2 - 1 - 1 = X.length by omega, e, own_getap _ (by rw [List.length_append, List.length_singleton]; omega), List.getD_eq_getElem?_getD, List.getElem?_append_right (by omega), Nat.sub_self]; rfl
/-- no '>' from j on -/
theorem own_endn (hd : pre.drop j = t) (ht : ∀ x ∈ t, x ≠ 62) (hj : j ≤ pre.length) : own_te pre j = -1 ∧ own_em pre j = 0 := by
  have hl := own_dlen hd hj
  obtain ⟨e, -⟩ := own_fd (P := fun x => decide (x = 62)) (s := t) (t := []) (by rw [List.append_nil]; exact hd) (fun x m => decide_eq_false (ht x m)) own_hdn
  have e2 : own_ix pre 62 j = -1 := by unfold own_ix; rw [e, if_neg (by omega)]
  exact ⟨own_te_n e2 (by decide), own_em_n e2 (by decide)⟩
/-- the tag's name ends at 2 -/
theorem own_nm2 (e : pre = 60 :: 97 :: D) (h : OwnHd own_en D) : own_find own_en pre 1 = 2 := (own_fd (P := own_en) (pre := pre) (i := 1) (s := [97]) (t := D) (by rw [e]; rfl) (fun x m => by rw [List.mem_singleton.mp m]; rfl) h).1
theorem own_d2 (e : pre = 60 :: 97 :: D) : pre.drop 2 = D := by rw [e]; rfl
theorem own_ne62 (h : own_sps s) : ∀ x ∈ s, x ≠ 62 := fun x m => (own_isp_ne (h x m)).1
theorem own_ne47 (h : own_sps s) : ∀ x ∈ s, x ≠ 47 := fun x m => (own_isp_ne (h x m)).2.1
theorem own_hden (h : own_sps s) (ht : OwnHd own_en t) : OwnHd own_en (s ++ t) := by
  cases s with
  | nil => exact ht
  | cons y r => exact own_hdc (own_ispen (h y (List.mem_cons_self ..)))
theorem own_F00 (e : pre = 60 :: 97 :: (D ++ [62])) (hD : own_sps D) (h24 : pre.length ≤ 24) : FinF pre (Int32.ofNat pre.length) 0 := by
  obtain ⟨a, b⟩ := own_st1 (own_d2 e) hD (own_hdc (by decide))
  obtain ⟨c1, c2, -⟩ := own_dc b
  have f := own_end0 (pre := pre) (X := [60]) (Y := 97 :: D) (by rw [e]; rfl) (by simp) (List.forall_mem_cons.mpr ⟨by decide, own_ne47 hD⟩) (t := []) b (Nat.le_of_lt c1) (fun _ q => nomatch q) h24
  exact ⟨own_nm2 e (own_hden hD (own_hdc (by decide))), _, own_ra1 a (Or.inr (Or.inl c2)), f⟩
theorem own_F01 (e : pre = 60 :: 97 :: (D ++ [47] ++ [62])) (hD : own_sps D) (h24 : pre.length ≤ 24) : FinF pre (Int32.ofNat pre.length) 1 := by
  obtain ⟨a, b⟩ := own_st1 (s := D) (t := [47] ++ [62]) (by rw [own_d2 e, List.append_assoc]) hD (own_hdc (by decide))
  obtain ⟨c1, c2, -⟩ := own_dc b
  have f := own_end1 (pre := pre) (X := 60 :: 97 :: D) (by rw [e]; rfl) (by simp) (t := [47]) b (Nat.le_of_lt c1) (fun x m => by rw [List.mem_singleton.mp m]; decide) h24
  exact ⟨own_nm2 e (by rw [List.append_assoc]; exact own_hden hD (own_hdc (by decide))), _, own_ra1 a (Or.inr (Or.inr c2)), f⟩
theorem own_F02 (e : pre = 60 :: 97 :: D) (hD : own_sps D) (h24 : pre.length ≤ 24) : FinF pre (-1) 0 := by
  obtain ⟨a, b⟩ := own_st1 (s := D) (t := []) (by rw [own_d2 e, List.append_nil]) hD own_hdn
  have hj : 2 + D.length ≤ pre.length := by rw [e]; simp only [List.length_cons]; omega
  exact ⟨own_nm2 e (by have := own_hden hD (own_hdn (P := own_en)); rw [List.append_nil] at this; exact this), _, own_ra1 a (own_stop1n b hj), own_endn b (fun _ q => nomatch q) hj⟩
/-- name and spaces behind it -/
theorem own_name (hx : OwnNm nL n0 n1 xs) : xs ≠ [] ∧ (∀ x ∈ xs, own_en x = false) ∧ ∃ r, xs = n0 :: r := by
  obtain ⟨a, b, -, -, ⟨-, rfl⟩ | ⟨-, rfl⟩⟩ := hx
  · exact ⟨by simp, fun x m => by rw [List.mem_singleton.mp m]; exact a, [], rfl⟩
  · exact ⟨by simp, List.forall_mem_cons.mpr ⟨a, fun x m => by rw [List.mem_singleton.mp m]; exact b⟩, [n1], rfl⟩
/-- the first three finds, for a text  s1 xs s2 t -/
theorem own_two {s1 s2 : List Int32} (hd : pre.drop i = s1 ++ (xs ++ (s2 ++ t))) (h1 : own_sps s1) (hx : OwnNm nL n0 n1 xs) (h2 : own_sps s2) (ht : OwnHd own_en t) (ht' : OwnHd own_nsp t) (h24 : pre.length ≤ 24) :
    own_find own_nsp pre i = i + s1.length ∧ own_find own_en pre (i + s1.length) = i + s1.length + xs.length ∧ own_find own_nsp pre (i + s1.length + xs.length) = i + s1.length + xs.length + s2.length ∧ pre.drop (i + s1.length + xs.length + s2.length) = t ∧ ¬ own_stop1 pre (i + s1.length) ∧ pre.drop (i + s1.length) = xs ++ (s2 ++ t) ∧ i + s1.length < pre.length := by
  obtain ⟨hne, hen, r, hr⟩ := own_name hx
  have hn0 := hen n0 (by rw [hr]; exact List.mem_cons_self ..)
  obtain ⟨a, b⟩ := own_st1 (s := s1) (t := xs ++ (s2 ++ t)) hd h1 (by rw [hr]; exact own_hdc (own_enisp hn0))
  obtain ⟨c, d⟩ := own_fd (P := own_en) b hen (own_hden h2 ht)
  obtain ⟨f, g⟩ := own_st1 d h2 ht'
  have b' : pre.drop (i + s1.length) = n0 :: (r ++ (s2 ++ t)) := by rw [b, hr]; rfl
  obtain ⟨k1, k2, -⟩ := own_dc b'
  obtain ⟨m1, m2, -⟩ := own_en_ne hn0
  exact ⟨a, c, f, g, own_no3 (own_neN k1 h24) (by rw [k2]; exact m1) (by rw [k2]; exact m2), b, k1⟩
theorem own_lenD {k : Nat} (e : pre = 60 :: 97 :: D) (h : k ≤ D.length) : 2 + k ≤ pre.length := by rw [e]; simp only [List.length_cons]; omega
theorem own_allC {s1 s2 : List Int32} (h1 : own_sps s1) (hx : OwnNm nL n0 n1 xs) (h2 : own_sps s2) : ∀ y ∈ s1 ++ (xs ++ s2), y ≠ 47 ∧ y ≠ 62 := fun y m => by
  rcases List.mem_append.mp m with m | m
  · exact ⟨own_ne47 h1 y m, own_ne62 h1 y m⟩
  rcases List.mem_append.mp m with m | m
  · have := own_en_ne ((own_name hx).2.1 y m); exact ⟨this.2.1, this.1⟩
  · exact ⟨own_ne47 h2 y m, own_ne62 h2 y m⟩
theorem own_hd1 {s1 : List Int32} (h1 : own_sps s1) (n1 : s1 ≠ []) : OwnHd own_en (s1 ++ t) := by
  cases s1 with
  | nil => exact absurd rfl n1
  | cons y r => exact own_hdc (own_ispen (h1 y (List.mem_cons_self ..)))
theorem own_F1 (e : pre = 60 :: 97 :: (D ++ [62])) (hC : OwnC xs D) (hx : OwnNm nL n0 n1 xs) (h24 : pre.length ≤ 24) : FinF pre (Int32.ofNat pre.length) 0 := by
  obtain ⟨s1, s2, h1, n1, h2, rfl⟩ := hC
  have eD : s1 ++ (xs ++ s2) ++ [62] = s1 ++ (xs ++ (s2 ++ [62])) := by simp only [List.append_assoc]
  obtain ⟨a, b, c, d, ns, -, -⟩ := own_two (by rw [own_d2 e, eD]) h1 hx h2 (own_hdc (by decide)) (own_hdc (by decide)) h24
  obtain ⟨k1, k2, -⟩ := own_dc d
  have f := own_end0 (pre := pre) (X := [60]) (Y := 97 :: (s1 ++ (xs ++ s2))) (by rw [e]; rfl) (by simp) (List.forall_mem_cons.mpr ⟨by decide, fun y m => (own_allC h1 hx h2 y m).1⟩) (t := []) d (Nat.le_of_lt k1) (fun _ q => nomatch q) h24
  exact ⟨own_nm2 e (by rw [eD]; exact own_hd1 h1 n1), _, own_ra2 a b c ns (Or.inr (by rw [k2]; decide)), f⟩
theorem own_F2 (e : pre = 60 :: 97 :: (D ++ [47] ++ [62])) (hC : OwnC xs D) (hx : OwnNm nL n0 n1 xs) (h24 : pre.length ≤ 24) : FinF pre (Int32.ofNat pre.length) 1 := by
  obtain ⟨s1, s2, h1, n1, h2, rfl⟩ := hC
  have eD : s1 ++ (xs ++ s2) ++ [47] ++ [62] = s1 ++ (xs ++ (s2 ++ ([47] ++ [62]))) := by simp only [List.append_assoc]
  obtain ⟨a, b, c, d, ns, -, -⟩ := own_two (t := [47] ++ [62]) (by rw [own_d2 e, eD]) h1 hx h2 (own_hdc (by decide)) (own_hdc (by decide)) h24
  obtain ⟨k1, k2, -⟩ := own_dc d
  have f := own_end1 (pre := pre) (X := 60 :: 97 :: (s1 ++ (xs ++ s2))) (by rw [e]; rfl) (by simp) (t := [47]) d (Nat.le_of_lt k1) (fun x m => by rw [List.mem_singleton.mp m]; decide) h24
  exact ⟨own_nm2 e (by rw [eD]; exact own_hd1 h1 n1), _, own_ra2 a b c ns (Or.inr (by rw [k2]; decide)), f⟩
theorem own_F3 (e : pre = 60 :: 97 :: D) (hC : OwnC xs D) (hx : OwnNm nL n0 n1 xs) (h24 : pre.length ≤ 24) : FinF pre (-1) 0 := by
  obtain ⟨s1, s2, h1, n1, h2, rfl⟩ := hC
  have eD : s1 ++ (xs ++ s2) = s1 ++ (xs ++ (s2 ++ [])) := by simp only [List.append_nil]
  obtain ⟨a, b, c, d, ns, -, -⟩ := own_two (by rw [own_d2 e, eD]) h1 hx h2 own_hdn own_hdn h24
  have hj : 2 + s1.length + xs.length + s2.length ≤ pre.length := by rw [e]; simp only [List.length_cons, List.length_append]; omega
  exact ⟨own_nm2 e (own_hd1 h1 n1), _, own_ra2 a b c ns (own_stop2n d hj), own_endn d (fun _ q => nomatch q) hj⟩
/-- and up to the place behind '=' and spaces -/
theorem own_three {s1 s2 s3 : List Int32} (hd : pre.drop i = s1 ++ (xs ++ (s2 ++ 61 :: (s3 ++ t)))) (h1 : own_sps s1) (hx : OwnNm nL n0 n1 xs) (h2 : own_sps s2) (h3 : own_sps s3) (ht : OwnHd own_nsp t) (h24 : pre.length ≤ 24) :
    ∃ j1 j2 j3 j4, own_find own_nsp pre i = j1 ∧ own_find own_en pre j1 = j2 ∧ own_find own_nsp pre j2 = j3 ∧ own_find own_nsp pre (j3 + 1) = j4 ∧ ¬ own_stop1 pre j1 ∧ ¬ own_stop2 pre j3 ∧ pre.drop j4 = t ∧ pre.drop j1 = xs ++ (s2 ++ 61 :: (s3 ++ t)) ∧ j2 = j1 + xs.length ∧ j2 ≤ pre.length ∧ j4 ≤ pre.length := by
  obtain ⟨a, b, c, d, ns, f, g⟩ := own_two hd h1 hx h2 (own_hdc (by decide)) (own_hdc (by decide)) h24
  obtain ⟨k1, k2, k3⟩ := own_dc d
  obtain ⟨l1, l2⟩ := own_st1 k3 h3 ht
  refine ⟨_, _, _, _, a, b, c, l1, ns, own_no2 (own_neN k1 h24) k2, l2, f, rfl, by omega, ?_⟩
  rw [← l1]; exact own_find_le _ k1
theorem own_Eeq {s1 s2 s3 : List Int32} : s1 ++ (xs ++ (s2 ++ 61 :: s3)) ++ t = s1 ++ (xs ++ (s2 ++ 61 :: (s3 ++ t))) := by simp only [List.append_assoc, List.cons_append]
theorem own_Fo (e : pre = 60 :: 97 :: D) (hE : OwnE xs D) (hx : OwnNm nL n0 n1 xs) (h24 : pre.length ≤ 24) : FinF pre (-1) 0 := by
  obtain ⟨s1, s2, s3, h1, n1, h2, h3, rfl⟩ := hE
  obtain ⟨j1, j2, j3, j4, a, b, c, d, p1, p2, f, -, -, -, hj⟩ := own_three (t := []) (by rw [own_d2 e, List.append_nil]) h1 hx h2 h3 own_hdn h24
  exact ⟨own_nm2 e (own_hd1 h1 n1), _, own_ra3 a b c d p1 p2 (own_stop3n f hj), own_endn f (fun _ q => nomatch q) hj⟩
theorem own_bb_ne (p : Int32) : own_bad (own_bb p) = false := by
  unfold own_bb
  cases h : own_bad (p.toInt8.toInt32)
  · exact h
  · rfl
theorem own_bbq (h : own_bad b = false) : own_nsp b = true ∧ ¬ b = 39 ∧ ¬ b = 34 := by
  refine ⟨?_, ?_, ?_⟩
  · show (!own_isp b) = true
    cases e : own_isp b
    · rfl
    · unfold own_isp at e
      unfold own_bad at h
      simp only [Bool.or_eq_true, Bool.or_eq_false_iff, decide_eq_true_eq, decide_eq_false_iff_not] at e h
      rcases e with ((e | e) | e) | e <;> simp [e] at h
  · rintro rfl; revert h; decide
  · rintro rfl; revert h; decide
theorem own_Fb (e : pre = 60 :: 97 :: (D ++ [b])) (hE : OwnE xs D) (hx : OwnNm nL n0 n1 xs) (hb : b = 62) (h24 : pre.length ≤ 24) : FinF pre (Int32.ofNat pre.length) 0 := by
  obtain ⟨s1, s2, s3, h1, n1, h2, h3, rfl⟩ := hE
  subst hb
  obtain ⟨j1, j2, j3, j4, a, b, c, d, p1, p2, f, -, -, -, hj⟩ := own_three (t := [62]) (by rw [own_d2 e, own_Eeq]) h1 hx h2 h3 (own_hdc (by decide)) h24
  obtain ⟨k1, k2, -⟩ := own_dc f
  have g := own_end0 (pre := pre) (X := 60 :: 97 :: (s1 ++ (xs ++ s2))) (Y := 61 :: s3) (by rw [e]; simp only [List.append_assoc, List.cons_append]) (by simp) (List.forall_mem_cons.mpr ⟨by decide, own_ne47 h3⟩) (t := []) f hj (fun _ q => nomatch q) h24
  exact ⟨own_nm2 e (by rw [List.append_assoc]; exact own_hd1 h1 n1), _, own_ra3 a b c d p1 p2 (Or.inr ⟨by rw [k2]; decide, by rw [k2]; decide⟩), g⟩
theorem own_Fb0 (e : pre = 60 :: 97 :: (D ++ [b] ++ [62])) (hE : OwnE xs D) (hx : OwnNm nL n0 n1 xs) (hb : own_bad b = false) (h62 : ¬ b = 62) (h47 : ¬ b = 47) (h24 : pre.length ≤ 24) : FinF pre (Int32.ofNat pre.length) 0 := by
  obtain ⟨s1, s2, s3, h1, n1, h2, h3, rfl⟩ := hE
  obtain ⟨q1, q2, q3⟩ := own_bbq hb
  obtain ⟨j1, j2, j3, j4, a, b', c, d, p1, p2, f, -, -, -, hj⟩ := own_three (t := [b] ++ [62]) (by rw [own_d2 e, List.append_assoc, own_Eeq]) h1 hx h2 h3 (own_hdc q1) h24
  obtain ⟨k1, k2, -⟩ := own_dc f
  have g := own_end0 (pre := pre) (X := 60 :: 97 :: (s1 ++ (xs ++ (s2 ++ 61 :: s3)))) (Y := [b]) (by rw [e]; rfl) (by simp) (fun y m => by rw [List.mem_singleton.mp m]; exact h47) (t := [b]) f hj (fun x m => by rw [List.mem_singleton.mp m]; exact h62) h24
  exact ⟨own_nm2 e (by simp only [List.append_assoc]; exact own_hd1 h1 n1), _, own_ra3 a b' c d p1 p2 (Or.inr ⟨by rw [k2]; exact q2, by rw [k2]; exact q3⟩), g⟩
theorem own_Fb1 (e : pre = 60 :: 97 :: (D ++ [b] ++ [62])) (hE : OwnE xs D) (hx : OwnNm nL n0 n1 xs) (h47 : b = 47) (h24 : pre.length ≤ 24) : FinF pre (Int32.ofNat pre.length) 1 := by
  obtain ⟨s1, s2, s3, h1, n1, h2, h3, rfl⟩ := hE
  subst h47
  obtain ⟨j1, j2, j3, j4, a, b', c, d, p1, p2, f, -, -, -, hj⟩ := own_three (t := [47] ++ [62]) (by rw [own_d2 e, List.append_assoc, own_Eeq]) h1 hx h2 h3 (own_hdc (by decide)) h24
  obtain ⟨k1, k2, -⟩ := own_dc f
  have g := own_end1 (pre := pre) (X := 60 :: 97 :: (s1 ++ (xs ++ (s2 ++ 61 :: s3)))) (by rw [e]; rfl) (by simp) (t := [47]) f hj (fun x m => by rw [List.mem_singleton.mp m]; decide) h24
  exact ⟨own_nm2 e (by simp only [List.append_assoc]; exact own_hd1 h1 n1), _, own_ra3 a b' c d p1 p2 (Or.inr ⟨by rw [k2]; decide, by rw [k2]; decide⟩), g⟩
theorem own_vsq (hv : OwnVs vL v0 v1 q vs) : ∀ x ∈ vs, x ≠ q := by
  obtain ⟨⟨-, -, a⟩, ⟨-, -, b⟩, ⟨-, rfl⟩ | ⟨-, -, rfl⟩ | ⟨-, rfl⟩⟩ := hv
  · exact fun _ m => nomatch m
  · exact fun x m => by rw [List.mem_singleton.mp m]; exact a
  · exact List.forall_mem_cons.mpr ⟨a, fun x m => by rw [List.mem_singleton.mp m]; exact b⟩
theorem own_qn (hq : q = 34 ∨ q = 39) : own_nsp q = true ∧ q ≠ 62 ∧ q ≠ 47 ∧ (q = 39 ∨ q = 34) := by
  rcases hq with rfl | rfl
  · exact ⟨rfl, by decide, by decide, Or.inr rfl⟩
  · exact ⟨rfl, by decide, by decide, Or.inl rfl⟩
theorem own_Fu (e : pre = 60 :: 97 :: (D ++ [62])) (hV : OwnV xs q vs D) (hx : OwnNm nL n0 n1 xs) (hv : OwnVs vL v0 v1 q vs) (hq : q = 34 ∨ q = 39) (h24 : pre.length ≤ 24) : FinF pre (-1) 0 := by
  obtain ⟨s1, s2, s3, h1, n1, h2, h3, rfl⟩ := hV
  obtain ⟨q1, q2, q3, q4⟩ := own_qn hq
  have eD : s1 ++ (xs ++ (s2 ++ 61 :: (s3 ++ q :: vs))) ++ [62] = s1 ++ (xs ++ (s2 ++ 61 :: (s3 ++ (q :: (vs ++ [62]))))) := by simp only [List.append_assoc, List.cons_append]
  obtain ⟨j1, j2, j3, j4, a, b, c, d, p1, p2, f, -, -, -, hj⟩ := own_three (by rw [own_d2 e, eD]) h1 hx h2 h3 (own_hdc q1) h24
  obtain ⟨k1, k2, k3⟩ := own_dc f
  obtain ⟨g, -⟩ := own_fd (P := fun x => decide (x = q)) (s := vs ++ [62]) (t := []) (by rw [List.append_nil]; exact k3) (fun x m => by
    rcases List.mem_append.mp m with m | m
    · exact decide_eq_false (own_vsq hv x m)
    · rw [List.mem_singleton.mp m]; exact decide_eq_false (Ne.symm q2)) own_hdn
  have hl := own_dlen k3 k1
  have ix : own_ix pre (pre.getD j4 0) (j4 + 1) = -1 := by rw [k2]; unfold own_ix; rw [g, if_neg (by omega)]
  exact ⟨own_nm2 e (by rw [eD]; exact own_hd1 h1 n1), _, own_ra4 a b c d ix p1 p2 (own_no2q (own_neN k1 h24) (by rw [k2]; exact q4)) (by decide), own_endn (t := []) (List.drop_eq_nil_of_le (Nat.le_refl _)) (fun _ q => nomatch q) (Nat.le_refl _)⟩
/-- the pair is read: where its pieces lie -/
theorem own_four {s1 s2 s3 w : List Int32} (e : pre = 60 :: 97 :: (s1 ++ (xs ++ (s2 ++ 61 :: (s3 ++ q :: (vs ++ q :: w)))))) (h1 : own_sps s1) (n1' : s1 ≠ []) (h2 : own_sps s2) (h3 : own_sps s3) (hx : OwnNm nL n0 n1 xs) (hv : OwnVs vL v0 v1 q vs) (hq : q = 34 ∨ q = 39) (h24 : pre.length ≤ 24)
    (hF : ∀ i, i ≤ pre.length → pre.drop i = w → ∃ ja, own_raF pre i = some ja ∧ own_te pre ja = te ∧ own_em pre ja = ee) : FinT pre xs vs te ee := by
  obtain ⟨q1, q2, q3, q4⟩ := own_qn hq
  obtain ⟨j1, j2, j3, j4, a, b, c, d, p1, p2, f, g, m2, m3, hj⟩ := own_three (own_d2 e) h1 hx h2 h3 (own_hdc q1) h24
  obtain ⟨k1, k2, k3⟩ := own_dc f
  obtain ⟨r, r2⟩ := own_fd (P := fun x => decide (x = q)) (s := vs) (t := q :: w) k3 (fun x m => decide_eq_false (own_vsq hv x m)) (own_hdc (by simp))
  obtain ⟨l1, l2, l3⟩ := own_dc r2
  have ix : own_ix pre (pre.getD j4 0) (j4 + 1) = Int32.ofNat (j4 + 1 + vs.length) := by rw [k2]; unfold own_ix; rw [r, if_pos l1]
  have e1 : own_j1 pre 2 = j1 := a
  have e2 : own_j2 pre 2 = j2 := by show own_find own_en pre (own_j1 pre 2) = j2; rw [e1]; exact b
  have e3 : own_j3 pre 2 = j3 := by show own_find own_nsp pre (own_j2 pre 2) = j3; rw [e2]; exact c
  have e4 : own_j4 pre 2 = j4 := by show own_find own_nsp pre (own_j3 pre 2 + 1) = j4; rw [e3]; exact d
  have e5 : own_r1 pre 2 = j4 + 1 + vs.length := by show own_find (fun x => decide (x = pre.getD (own_j4 pre 2) 0)) pre (own_j4 pre 2 + 1) = _; rw [e4, k2]; exact r
  have hg : ∀ (j : Nat) (A B : List Int32), pre.drop j = A ++ B → ∀ i, i < A.length → pre.getD (j + i) 0 = A.getD i 0 := fun j A B h i hi => by
    have z : (pre.drop j)[i]? = A[i]? := by rw [h, List.getElem?_append_left hi]
    rw [List.getElem?_drop] at z
    simp only [List.getD_eq_getElem?_getD, z]
  refine ⟨own_nm2 e (own_hd1 h1 n1'), own_raN a b c d ix p1 p2 (own_no2q (own_neN k1 h24) (by rw [k2]; exact q4)) ?_, ?_, ?_, ?_, ?_, ?_, ?_, ?_⟩
  · rw [Int32.lt_iff_toInt_lt, own_ofNat (by omega)]
    have : (0 : Int32).toInt = 0 := by decide
    omega
  · rw [e2, e1]; exact m2
  · rw [e1]; exact hg _ _ _ g
  · rw [e2]; exact m3
  · rw [e5, e4]
  · rw [e4]; exact hg _ _ _ k3
  · rw [e5]; exact l1
  · rw [e5]; exact hF _ l1 l3
theorem own_Qeq {s1 s2 s3 s4 w : List Int32} : s1 ++ (xs ++ (s2 ++ 61 :: (s3 ++ q :: (vs ++ q :: s4)))) ++ w = s1 ++ (xs ++ (s2 ++ 61 :: (s3 ++ q :: (vs ++ q :: (s4 ++ w))))) := by simp only [List.append_assoc, List.cons_append]
theorem own_Yq {s4 : List Int32} (h4 : own_sps s4) (hq : q = 34 ∨ q = 39) : ∀ y ∈ q :: s4, y ≠ 47 := fun y m => by
  rcases List.mem_cons.mp m with rfl | m
  · exact (own_qn hq).2.2.1
  · exact own_ne47 h4 y m
theorem own_T0 (e : pre = 60 :: 97 :: (D ++ [62])) (hQ : OwnQ xs q vs D) (hx : OwnNm nL n0 n1 xs) (hv : OwnVs vL v0 v1 q vs) (hq : q = 34 ∨ q = 39) (h24 : pre.length ≤ 24) : FinT pre xs vs (Int32.ofNat pre.length) 0 := by
  obtain ⟨s1, s2, s3, s4, h1, n1, h2, h3, h4, rfl⟩ := hQ
  refine own_four (w := s4 ++ [62]) (by rw [e, own_Qeq]) h1 n1 h2 h3 hx hv hq h24 fun i hi hd => ?_
  obtain ⟨a, b⟩ := own_st1 hd h4 (own_hdc (by decide))
  obtain ⟨c1, c2, -⟩ := own_dc b
  exact ⟨_, own_ra1 a (Or.inr (Or.inl c2)), own_end0 (X := 60 :: 97 :: (s1 ++ (xs ++ (s2 ++ 61 :: (s3 ++ q :: vs))))) (Y := q :: s4) (by rw [e]; simp only [List.append_assoc, List.cons_append]) (by simp) (own_Yq h4 hq) (t := []) b (Nat.le_of_lt c1) (fun _ q => nomatch q) h24⟩
theorem own_T1 (e : pre = 60 :: 97 :: (D ++ [47] ++ [62])) (hQ : OwnQ xs q vs D) (hx : OwnNm nL n0 n1 xs) (hv : OwnVs vL v0 v1 q vs) (hq : q = 34 ∨ q = 39) (h24 : pre.length ≤ 24) : FinT pre xs vs (Int32.ofNat pre.length) 1 := by
  obtain ⟨s1, s2, s3, s4, h1, n1, h2, h3, h4, rfl⟩ := hQ
  refine own_four (w := s4 ++ ([47] ++ [62])) (by rw [e, List.append_assoc, own_Qeq]) h1 n1 h2 h3 hx hv hq h24 fun i hi hd => ?_
  obtain ⟨a, b⟩ := own_st1 hd h4 (own_hdc (by decide))
  obtain ⟨c1, c2, -⟩ := own_dc b
  exact ⟨_, own_ra1 a (Or.inr (Or.inr c2)), own_end1 (X := 60 :: 97 :: (s1 ++ (xs ++ (s2 ++ 61 :: (s3 ++ q :: (vs ++ q :: s4)))))) (by rw [e]; rfl) (by simp) (t := [47]) b (Nat.le_of_lt c1) (fun x m => by rw [List.mem_singleton.mp m]; decide) h24⟩
theorem own_T2 (e : pre = 60 :: 97 :: D) (hQ : OwnQ xs q vs D) (hx : OwnNm nL n0 n1 xs) (hv : OwnVs vL v0 v1 q vs) (hq : q = 34 ∨ q = 39) (h24 : pre.length ≤ 24) : FinT pre xs vs (-1) 0 := by
  obtain ⟨s1, s2, s3, s4, h1, n1, h2, h3, h4, rfl⟩ := hQ
  refine own_four (w := s4) e h1 n1 h2 h3 hx hv hq h24 fun i hi hd => ?_
  obtain ⟨a, b⟩ := own_st1 (t := []) (by rw [List.append_nil]; exact hd) h4 own_hdn
  have hj : i + s4.length ≤ pre.length := by have := own_dlen hd hi; omega
  exact ⟨_, own_ra1 a (own_stop1n b hj), own_endn b (fun _ q => nomatch q) hj⟩
theorem own_T3 (e : pre = 60 :: 97 :: (D ++ [n0] ++ [62])) (hQ : OwnQ xs q vs D) (hx : OwnNm nL n0 n1 xs) (hv : OwnVs vL v0 v1 q vs) (hq : q = 34 ∨ q = 39) (h24 : pre.length ≤ 24) : FinT pre xs vs (Int32.ofNat pre.length) 0 := by
  obtain ⟨s1, s2, s3, s4, h1, n1', h2, h3, h4, rfl⟩ := hQ
  refine own_four (w := s4 ++ ([n0] ++ [62])) (by rw [e, List.append_assoc, own_Qeq]) h1 n1' h2 h3 hx hv hq h24 fun i hi hd => ?_
  have hx1 : OwnNm 1 n0 n0 [n0] := ⟨hx.1, hx.1, hx.2.2.1, hx.2.2.1, Or.inl ⟨by decide, rfl⟩⟩
  obtain ⟨a, b, c, d, ns, -, -⟩ := own_two (s2 := []) (t := [62]) hd h4 hx1 own_sps0 (own_hdc (by decide)) (own_hdc (by decide)) h24
  obtain ⟨k1, k2, -⟩ := own_dc d
  exact ⟨_, own_ra2 a b c ns (Or.inr (by rw [k2]; decide)), own_end0 (X := 60 :: 97 :: (s1 ++ (xs ++ (s2 ++ 61 :: (s3 ++ q :: (vs ++ q :: s4)))))) (Y := [n0]) (by rw [e]; rfl) (by simp) (fun y m => by rw [List.mem_singleton.mp m]; exact (own_en_ne hx.1).2.1) (t := []) d (Nat.le_of_lt k1) (fun _ q => nomatch q) h24⟩
end OwnFin
/-- a local that is unset or holds an int -/
def OwnJk (x : Slot) : Prop := x = .unset ∨ ∃ a : Int32, x = .val (.int a)
theorem own_st {l l' : Array Slot} {i : Nat} {x : Slot} {v : Value} (h : OwnJk x) (hx : l[i]? = some x) (hv : v.category = 1) (e : l.setIfInBounds i (.val v) = l') : storeLocals l i v = some l' := by
  rw [← e]
  refine storeLocals_cat1 hx hv ?_
  rcases h with rfl | ⟨a, rfl⟩
  · trivial
  · rfl
section OwnLaw
variable {p q c na nb nL va vb vL : Int32} {xs vs pre : List Int32} {te ee : Int32}
theorem own_bit (x : Int32) : x &&& (1 : Int32) = 0 ∨ x &&& (1 : Int32) = 1 := by
  have h1 := c_mask x 1 1 (by decide) (by decide)
  have e0 : (0 : Int32).toInt = 0 := by decide
  have e1 : (1 : Int32).toInt = 1 := by decide
  rw [← Int32.toInt_inj, ← Int32.toInt_inj]; omega
theorem own_c012 (p : Int32) : own_count p = 0 ∨ own_count p = 1 ∨ own_count p = 2 := by
  unfold own_count
  rcases own_bit p with a | a <;> rcases own_bit ((p.toUInt32 >>> ((1 : Int32) &&& 31).toUInt32).toInt32) with b | b <;> rw [a, b]
  · exact Or.inl rfl
  · exact Or.inr (Or.inl rfl)
  · exact Or.inr (Or.inl rfl)
  · exact Or.inr (Or.inr rfl)
theorem own_cnt1 (h : ¬ own_count p = 0) : ¬ own_count p < (1 : Int32) := by
  rcases own_c012 p with e | e | e
  · exact absurd e h
  · rw [e]; decide
  · rw [e]; decide
theorem own_nL (x : Int32) : (1 : Int32) + (x &&& (1 : Int32)) = 1 ∨ (1 : Int32) + (x &&& (1 : Int32)) = 2 := by
  rcases own_bit x with a | a <;> rw [a]
  · exact Or.inl rfl
  · exact Or.inr rfl
theorem own_qb (h : q = 34 ∨ q = 39) : q.toInt8.toInt32 = q := by rcases h with rfl | rfl <;> rfl
theorem own_c128 : ∀ i : Fin 128, (Int32.ofNat i.1).toInt8.toInt32 = Int32.ofNat i.1 ∧ nar .char (Int32.ofNat i.1) = Int32.ofNat i.1 ∧ ¬ (255 : Int32) < Int32.ofNat i.1 ∧ (Int32.ofNat i.1).toUInt32.toUInt16.toUInt32.toInt32 = Int32.ofNat i.1 := by decide +kernel
theorem own_cf128 (h0 : ¬ c < (0 : Int32)) (h1 : c < (128 : Int32)) : c.toInt8.toInt32 = c ∧ nar .char c = c ∧ ¬ (255 : Int32) < c ∧ c.toUInt32.toUInt16.toUInt32.toInt32 = c := by
  rw [Int32.lt_iff_toInt_lt] at h0 h1
  have e0 : (0 : Int32).toInt = 0 := by decide
  have e1 : (128 : Int32).toInt = 128 := by decide
  have e : c = Int32.ofNat c.toInt.toNat := Int32.toInt_inj.mp (by rw [own_ofNat (by omega)]; omega)
  have := own_c128 ⟨c.toInt.toNat, by omega⟩
  rw [← e] at this; exact this
theorem own_vb1 (h : own_vok q c) : c.toInt8.toInt32 = c := (own_cf128 h.1 h.2.1).1
theorem own_vb (h : own_vok q c) : c.toInt8.toInt32.toInt8.toInt32 = c := by rw [own_vb1 h, own_vb1 h]
theorem own_vc1 (h : own_vok q c) : nar .char c = c := (own_cf128 h.1 h.2.1).2.1
theorem own_v255 (h : own_vok q c) : ¬ (255 : Int32) < c := (own_cf128 h.1 h.2.1).2.2.1
theorem own_m127 (p : Int32) : ¬ (p &&& (127 : Int32)) < (0 : Int32) ∧ (p &&& (127 : Int32)) < (128 : Int32) := by
  have h1 := c_mask p 127 7 (by decide) (by decide)
  rw [Int32.lt_iff_toInt_lt, Int32.lt_iff_toInt_lt]
  have e0 : (0 : Int32).toInt = 0 := by decide
  have e1 : (128 : Int32).toInt = 128 := by decide
  omega
theorem own_vcok (h : q = 34 ∨ q = 39) (p : Int32) : own_vok q (own_vc p q) := by
  obtain ⟨a, b⟩ := own_m127 p
  obtain ⟨-, k2, -, k4⟩ := own_cf128 a b
  unfold own_vc
  rw [k4]
  split
  · rcases h with rfl | rfl <;> exact ⟨by decide, by decide, by decide⟩
  · rw [k2]; exact ⟨a, b, by assumption⟩
theorem own_nm1 (e1 : na = own_nb p) (e2 : nb = own_nb c) (h : nL = 1) : OwnNm nL na nb [na] := by subst e1 e2 h; exact ⟨own_nb_en _, own_nb_en _, own_nb_b _, own_nb_b _, Or.inl ⟨by decide, rfl⟩⟩
theorem own_nm2' {x : Int32} (e1 : na = own_nb p) (e2 : nb = own_nb c) (e : nL = (1 : Int32) + (x &&& (1 : Int32))) (h : ¬ nL = 1) : OwnNm nL na nb [na, nb] := by
  subst e1 e2
  refine ⟨own_nb_en _, own_nb_en _, own_nb_b _, own_nb_b _, Or.inr ⟨?_, rfl⟩⟩
  rcases own_nL x with a | a
  · exact absurd (e.trans a) h
  · exact e.trans a
theorem own_vs0 (a : own_vok q va) (b : own_vok q vb) (h : vL = 0) : OwnVs vL va vb q [] := by subst h; exact ⟨a, b, Or.inl ⟨by decide, rfl⟩⟩
theorem own_vs1 (a : own_vok q va) (b : own_vok q vb) (h : vL = 1) : OwnVs vL va vb q [va] := by subst h; exact ⟨a, b, Or.inr (Or.inl ⟨by decide, by decide, rfl⟩)⟩
theorem own_vs2 (a : own_vok q va) (b : own_vok q vb) (e : vL = own_count p) (h0 : ¬ vL = 0) (h1 : ¬ vL = 1) : OwnVs vL va vb q [va, vb] := by
  refine ⟨a, b, Or.inr (Or.inr ⟨?_, rfl⟩)⟩
  rcases own_c012 p with k | k | k
  · exact absurd (e.trans k) h0
  · exact absurd (e.trans k) h1
  · rw [e, k]; decide
theorem own_emb (pre : List Int32) (j : Nat) : nar .boolean (own_em pre j) = own_em pre j := by unfold own_em; (repeat' split) <;> rfl
theorem own_bb_b (p : Int32) : (own_bb p).toInt8.toInt32 = own_bb p := by
  unfold own_bb
  split
  · rfl
  · exact own_88 p
theorem FinT.ex (h : FinT pre xs vs te ee) : ∃ j1 j4 ja, own_find own_en pre 1 = 2 ∧ own_raF pre 2 = none ∧ own_j1 pre 2 = j1 ∧ own_j2 pre 2 = j1 + xs.length ∧ own_j4 pre 2 = j4 ∧ own_r1 pre 2 = j4 + 1 + vs.length ∧ (∀ i, i < xs.length → pre.getD (j1 + i) 0 = xs.getD i 0) ∧ j1 + xs.length ≤ pre.length ∧ (∀ i, i < vs.length → pre.getD (j4 + 1 + i) 0 = vs.getD i 0) ∧ j4 + 1 + vs.length + 1 ≤ pre.length ∧ own_raF pre (j4 + 1 + vs.length + 1) = some ja ∧ own_te pre ja = te ∧ own_em pre ja = ee := by
  obtain ⟨a, b, c, d, e, f, g, i, ja, j, k, l⟩ := h
  rw [c] at e; rw [f] at i j
  exact ⟨_, _, ja, a, b, rfl, c, rfl, f, d, e, g, i, j, k, l⟩
variable {Z : State} {h : Heap} {a : Addr} {k : ClassId}
theorem own_l1 (F : Arv Z h a k .byte (1 : Int32) [.int (na.toInt8.toInt32)] (.int (0 : Int32))) (e : na.toInt8.toInt32 = na) : Lst .byte Z h a k [na] := by rw [e] at F; exact F
theorem own_l2 (F : Arv Z h a k .byte (2 : Int32) [.int (na.toInt8.toInt32), .int (nb.toInt8.toInt32)] (.int (0 : Int32))) (e : na.toInt8.toInt32 = na) (e' : nb.toInt8.toInt32 = nb) : Lst .byte Z h a k [na, nb] := by rw [e, e'] at F; exact F
theorem own_k0 (F : Arv Z h a k .char (0 : Int32) [] (.int (0 : Int32))) : Lst .char Z h a k [] := F
theorem own_k1 (F : Arv Z h a k .char (1 : Int32) [.int (nar .char va)] (.int (0 : Int32))) (e : own_vok q va) : Lst .char Z h a k [va] := by rw [own_vc1 e] at F; exact F
theorem own_k2 (F : Arv Z h a k .char (2 : Int32) [.int (nar .char va), .int (nar .char vb)] (.int (0 : Int32))) (e : own_vok q va) (e' : own_vok q vb) : Lst .char Z h a k [va, vb] := by rw [own_vc1 e, own_vc1 e'] at F; exact F
end OwnLaw
theorem rmNmG (l : Launch) (Z : State) (a0 : Array Value) (hw : HW a0 Z) (a1 wn tx : Addr) (kt : ClassId) (nt : Int32) (pre : List Int32) (ns : Nat) (kn : ClassId) (nL na nb : Int32) (xs : List Int32) (h0 : Heap) (n0 : Nat) (Z0 : n0 ≤ h0.size) (Ft : Fld Z h0 a1 cA "text" "[B" (.ref tx)) (Fns : Fld Z h0 a1 cA "nameStart" "I" (.int (Int32.ofNat ns))) (Fne : Fld Z h0 a1 cA "nameEnd" "I" (.int (Int32.ofNat (ns + xs.length)))) (Tx : Txt Z h0 tx kt nt pre) (Vn : Lst .byte Z h0 wn kn xs) (hnl : ns + xs.length ≤ pre.length) (hv : ∀ i, i < xs.length → pre.getD (ns + i) 0 = xs.getD i 0) (hNm : OwnNm nL na nb xs) :
    Con l mn24 (Jvm.Cond.code mn24 prog_7_method_10_code 2 (some .boolean)) [] (⟨2, 0, 0, 38⟩ : Jvm.Room) #[(.ref a1), (.ref wn)] Z h0 (OwnMet (1 : Int32) h0 n0) := by
  obtain ⟨-, -, -, -, ⟨-, rfl⟩ | ⟨-, rfl⟩⟩ := hNm
  · exact rmNm1 l Z _ hw [] a1 wn tx kt nt pre ns kn na h0 n0 Z0 Ft Fns Fne Tx Vn hnl (hv 0 (by simp))
  · exact rmNm2 l Z _ hw [] a1 wn tx kt nt pre ns kn na nb h0 n0 Z0 Ft Fns Fne Tx Vn hnl (hv 0 (by simp)) (hv 1 (by simp))
theorem own_fldEq {args : Array Value} {Z : State} {t : Term} {C n d : String} {x : Addr} {k : Int32} (ev : t.eval args Z none [] Z = some (.ref x)) (h : (Jvm.Cond.eq (Term.field t C n d) (Term.int k)).value args Z none Z [] = some true) : Fld Z Z.heap x C n d (.int k) := by
  obtain ⟨u, w, e1, e2, -, -⟩ := cmp_v (Or.inl h)
  have e3 : w = .int k := (Option.some.inj e2).symm
  subst e3
  have e4 : u = .int k := by
    cases u <;> simp [Jvm.Cond.value, e1, e2] at h ⊢
    exact h
  subst e4
  exact Fld.start ((fld_at ev).symm.trans e1)
theorem own_refEq {args : Array Value} {Z : State} {t t' : Term} {x y : Addr} (e1 : t.eval args Z none [] Z = some (.ref x)) (e2 : t'.eval args Z none [] Z = some (.ref y)) (h : (Jvm.Cond.eq t t').value args Z none Z [] = some true) : x = y := by
  simp [Jvm.Cond.value, e1, e2] at h; exact h
theorem segE {p : Program} {l : Launch} {e : Env} {s : State} {m : MethodId} {args : Array Value} {below : List Frame} {meth : Method} {c : Code} {vm1 : Vm} (Z : State) (a0 : Array Value) (hw : ∀ d ∈ tables_1, d.before a0 Z = true) (hx : p.tables.exec = Jvm.exec) (hby : c.code = code) (hlk : meth.locks = false) (hret : meth.sig.returnType = some .boolean) (hml : c.maxLocals = 36) (hown : (s.setVm vm1).vm.findClass cC = some m.cls) (hZ : Z.Warmed39 (s.setVm vm1).vm) {Q : Option Value → Heap → List Loc → Prop} (n0 : Nat) {kS kE kI : Addr} {cs : Int32} {fm : Value} {u8 : Addr} {p0 p1 p2 p3 p4 p5 : Int32} {z6 : Slot} {kd : Int32} {z8 z9 z10 z11 z12 z13 z14 z15 z16 z17 z18 z19 z20 z21 z22 z23 z24 z25 : Slot} {mk : Addr} {z27 z28 z29 : Slot} {te : Int32} {o1 o2 o3 o4 o5 o6 o7 o8 o9 oa : Value} {T0 : State} {locs : List Loc} {h0 : Heap} (X0 : Stand p l e room_1 (s.setVm vm1) m args below meth c T0 locs 22 400) (e0 : T0.heap = h0) (Z0 : n0 ≤ h0.size) (N0 : Fr n0 locs) (fa0 : Sts Z h0 kS kE kI cs fm u8) (fa1 : Exa Z h0 mk cA) (fa2 : Mk Z h0 mk o1 o3 o4 o2 o5 (.int te) (.int (0 : Int32)) o6 o7 o8 o9 oa (.int (0 : Int32))) (ga0 : n0 ≤ mk) (hst : OwnSt kS kE kI cs fm) (hk0 : ¬ kd = (0 : Int32)) (jz27 : OwnJk z27) (jz28 : OwnJk z28) (jz29 : OwnJk z29) {k1 : Nat} (hS1 : s.Since vm1 k1) (hk1 : k1 ≤ h0.size) (hQ : ∀ (h' : Heap) (L : List Loc), Fr n0 L → Q (some (.int (1 : Int32))) h' L) :
    OFin p e below (KPostW s Q room_1.cells room_1.slots) (T0.setTop (mkF m 1020 (la7 p0 p1 p2 p3 p4 p5 z6 kd z8 z9 z10 z11 z12 z13 z14 z15 z16 z17 z18 z19 z20 z21 z22 z23 z24 z25 mk z27 z28 z29) [])) := by
  obtain ⟨_, T1, Lc1, X1, hQ1, st1⟩ := own_cV X0 hx hw hZ hown 73 74 76 75 20 77 rfl rfl rfl rfl rfl rfl (by decide) fa1 (rmTe l Z _ hw [] mk te h0 n0 Z0 fa2.g_tagEnd) (by decide) (by decide) (g := (mkF m 1022 (la7 p0 p1 p2 p3 p4 p5 z6 kd z8 z9 z10 z11 z12 z13 z14 z15 z16 z17 z18 z19 z20 z21 z22 z23 z24 z25 mk z27 z28 z29) [(.ref mk)])) rfl hml rfl (argsL := []) (rest := []) pd_9 rfl rfl rfl (W := 0) (Nat.le_of_eq rfl) (hb hby at_1022) rfl e0 (by decide) (by decide)
  obtain ⟨rfl, Nq1, hs1⟩ := hQ1
  have N2 := Fr.app N0 Nq1
  refine OFin.of (fun t ht => aW X0 hx rfl (hb hby at_1020) rfl rfl (st1.trans ht)) ?_
  obtain ⟨_, T3, Lc3, X3, hQ3, st3⟩ := own_cV X1 hx hw hZ hown 78 79 81 80 20 82 rfl rfl rfl rfl rfl rfl (by decide) fa1 (rmNa0 l Z _ hw [] mk h0 n0 Z0 fa2.g_attributesLeft) (by decide) (by decide) (g := (mkF m 1029 (la8 p0 p1 p2 p3 p4 p5 z6 kd z8 z9 z10 z11 z12 z13 z14 z15 z16 z17 z18 z19 z20 z21 z22 z23 z24 z25 mk te z28 z29) [(.ref mk)])) rfl hml rfl (argsL := []) (rest := []) pd_4 rfl rfl rfl (W := 0) (Nat.le_of_eq rfl) (hb hby at_1029) rfl hs1 (by decide) (by decide)
  obtain ⟨rfl, Nq3, hs3⟩ := hQ3
  have N4 := Fr.app N2 Nq3
  refine OFin.of (fun t ht => sW X1 hx rfl (hb hby at_1025) rfl (l' := (la8 p0 p1 p2 p3 p4 p5 z6 kd z8 z9 z10 z11 z12 z13 z14 z15 z16 z17 z18 z19 z20 z21 z22 z23 z24 z25 mk te z28 z29)) (own_st jz27 rfl rfl rfl) (aW X1 hx rfl (hb hby at_1027) rfl rfl (st3.trans ht))) ?_
  obtain ⟨_, T5, Lc5, X5, hQ5, st5⟩ := own_cV X3 hx hw hZ hown 73 74 76 75 20 77 rfl rfl rfl rfl rfl rfl (by decide) fa1 (rmTe l Z _ hw [] mk te h0 n0 Z0 fa2.g_tagEnd) (by decide) (by decide) (g := (mkF m 1036 (la9 p0 p1 p2 p3 p4 p5 z6 kd z8 z9 z10 z11 z12 z13 z14 z15 z16 z17 z18 z19 z20 z21 z22 z23 z24 z25 mk te 0 z29) [(.ref mk)])) rfl hml rfl (argsL := []) (rest := []) pd_9 rfl rfl rfl (W := 0) (Nat.le_of_eq rfl) (hb hby at_1036) rfl hs3 (by decide) (by decide)
  obtain ⟨rfl, Nq5, hs5⟩ := hQ5
  have N6 := Fr.app N4 Nq5
  refine OFin.of (fun t ht => sW X3 hx rfl (hb hby at_1032) rfl (l' := (la9 p0 p1 p2 p3 p4 p5 z6 kd z8 z9 z10 z11 z12 z13 z14 z15 z16 z17 z18 z19 z20 z21 z22 z23 z24 z25 mk te 0 z29)) (own_st jz28 rfl rfl rfl) (aW X3 hx rfl (hb hby at_1034) rfl rfl (st5.trans ht))) ?_
  obtain ⟨_, T7, Lc7, X7, hQ7, st7⟩ := own_cV X5 hx hw hZ hown 94 95 97 96 20 98 rfl rfl rfl rfl rfl rfl (by decide) fa1 (rmEm l Z _ hw [] mk (0 : Int32) h0 n0 Z0 fa2.g_emptyElement rfl) (by decide) (by decide) (g := (mkF m 1043 (la10 p0 p1 p2 p3 p4 p5 z6 kd z8 z9 z10 z11 z12 z13 z14 z15 z16 z17 z18 z19 z20 z21 z22 z23 z24 z25 mk te 0 te) [(.ref mk)])) rfl hml rfl (argsL := []) (rest := []) pd_4 rfl rfl rfl (W := 0) (Nat.le_of_eq rfl) (hb hby at_1043) rfl hs5 (by decide) (by decide)
  obtain ⟨rfl, Nq7, hs7⟩ := hQ7
  have N8 := Fr.app N6 Nq7
  refine OFin.of (fun t ht => sW X5 hx rfl (hb hby at_1039) rfl (l' := (la10 p0 p1 p2 p3 p4 p5 z6 kd z8 z9 z10 z11 z12 z13 z14 z15 z16 z17 z18 z19 z20 z21 z22 z23 z24 z25 mk te 0 te)) (own_st jz29 rfl rfl rfl) (aW X5 hx rfl (hb hby at_1041) rfl rfl (st7.trans ht))) ?_
  obtain ⟨_, T9, Lc9, X9, hQ9, st9⟩ := own_cV X7 hx hw hZ hown 78 79 81 80 20 82 rfl rfl rfl rfl rfl rfl (by decide) fa1 (rmNa0 l Z _ hw [] mk h0 n0 Z0 fa2.g_attributesLeft) (by decide) (by decide) (g := (mkF m 1094 (la13 p0 p1 p2 p3 p4 p5 z6 kd z8 z9 z10 z11 z12 z13 z14 z15 z16 z17 z18 z19 z20 z21 z22 z23 z24 z25 mk te 0 te 0 1 1) [(.ref mk)])) rfl hml rfl (argsL := []) (rest := []) pd_4 rfl rfl rfl (W := 0) (Nat.le_of_eq rfl) (hb hby at_1094) rfl hs7 (by decide) (by decide)
  obtain ⟨rfl, Nq9, hs9⟩ := hQ9
  have N10 := Fr.app N8 Nq9
  refine OFin.of (fun t ht => sW X7 hx rfl (hb hby at_1046) rfl (l' := (la11 p0 p1 p2 p3 p4 p5 z6 kd z8 z9 z10 z11 z12 z13 z14 z15 z16 z17 z18 z19 z20 z21 z22 z23 z24 z25 mk te 0 te 0)) rfl (iC X7 hx rfl (hb hby at_1048) (sW X7 hx rfl (hb hby at_1049) rfl (l' := (la12 p0 p1 p2 p3 p4 p5 z6 kd z8 z9 z10 z11 z12 z13 z14 z15 z16 z17 z18 z19 z20 z21 z22 z23 z24 z25 mk te 0 te 0 1)) rfl (iC X7 hx rfl (hb hby at_1051) (sW X7 hx rfl (hb hby at_1052) rfl (l' := (la13 p0 p1 p2 p3 p4 p5 z6 kd z8 z9 z10 z11 z12 z13 z14 z15 z16 z17 z18 z19 z20 z21 z22 z23 z24 z25 mk te 0 te 0 1 1)) rfl (iW X7 hx rfl (hb hby at_1054) rfl (fY X7 hx rfl 1056 1092 rfl (hb hby at_1056) rfl ((if0 _ _).trans (feq (hk0 : ¬ (kd = (0 : Int32)))).2) (by decide) (aW X7 hx rfl (hb hby at_1092) rfl rfl (st9.trans ht))))))))) ?_
  obtain ⟨_, T11, Lc11, X11, hQ11, st11⟩ := own_cV X9 hx hw hZ hown 73 74 76 75 20 77 rfl rfl rfl rfl rfl rfl (by decide) fa1 (rmTe l Z _ hw [] mk te h0 n0 Z0 fa2.g_tagEnd) (by decide) (by decide) (g := (mkF m 1101 (la14 p0 p1 p2 p3 p4 p5 z6 kd z8 z9 z10 z11 z12 z13 z14 z15 z16 z17 z18 z19 z20 z21 z22 z23 z24 z25 mk te 0 te 0 1 1 0) [(.ref mk)])) rfl hml rfl (argsL := []) (rest := []) pd_9 rfl rfl rfl (W := 0) (Nat.le_of_eq rfl) (hb hby at_1101) rfl hs9 (by decide) (by decide)
  obtain ⟨rfl, Nq11, hs11⟩ := hQ11
  have N12 := Fr.app N10 Nq11
  refine OFin.of (fun t ht => sW X9 hx rfl (hb hby at_1097) rfl (l' := (la14 p0 p1 p2 p3 p4 p5 z6 kd z8 z9 z10 z11 z12 z13 z14 z15 z16 z17 z18 z19 z20 z21 z22 z23 z24 z25 mk te 0 te 0 1 1 0)) rfl (aW X9 hx rfl (hb hby at_1099) rfl rfl (st11.trans ht))) ?_
  obtain ⟨_, T13, Lc13, X13, hQ13, st13⟩ := own_cV X11 hx hw hZ hown 94 95 97 96 20 98 rfl rfl rfl rfl rfl rfl (by decide) fa1 (rmEm l Z _ hw [] mk (0 : Int32) h0 n0 Z0 fa2.g_emptyElement rfl) (by decide) (by decide) (g := (mkF m 1108 (la15 p0 p1 p2 p3 p4 p5 z6 kd z8 z9 z10 z11 z12 z13 z14 z15 z16 z17 z18 z19 z20 z21 z22 z23 z24 z25 mk te 0 te 0 1 1 0 te) [(.ref mk)])) rfl hml rfl (argsL := []) (rest := []) pd_4 rfl rfl rfl (W := 0) (Nat.le_of_eq rfl) (hb hby at_1108) rfl hs11 (by decide) (by decide)
  obtain ⟨rfl, Nq13, hs13⟩ := hQ13
  have N14 := Fr.app N12 Nq13
  refine OFin.of (fun t ht => sW X11 hx rfl (hb hby at_1104) rfl (l' := (la15 p0 p1 p2 p3 p4 p5 z6 kd z8 z9 z10 z11 z12 z13 z14 z15 z16 z17 z18 z19 z20 z21 z22 z23 z24 z25 mk te 0 te 0 1 1 0 te)) rfl (aW X11 hx rfl (hb hby at_1106) rfl rfl (st13.trans ht))) ?_
  refine OFin.of (S' := T13.setTop (mkF m 1157 (la16 p0 p1 p2 p3 p4 p5 z6 kd z8 z9 z10 z11 z12 z13 z14 z15 z16 z17 z18 z19 z20 z21 z22 z23 z24 z25 mk te 0 te 0 1 1 0 te 0) [(.int (1 : Int32))])) (fun t ht => sW X13 hx rfl (hb hby at_1111) rfl (l' := (la16 p0 p1 p2 p3 p4 p5 z6 kd z8 z9 z10 z11 z12 z13 z14 z15 z16 z17 z18 z19 z20 z21 z22 z23 z24 z25 mk te 0 te 0 1 1 0 te 0)) rfl (iW X13 hx rfl (hb hby at_1113) rfl (fN X13 hx rfl (hb hby at_1115) rfl ((if0 _ _).trans (feq (hk0 : ¬ (kd = (0 : Int32)))).1) (iW X13 hx rfl (hb hby at_1118) rfl (fN X13 hx rfl (hb hby at_1120) rfl ((if0 _ _).trans (teq (by decide : (0 : Int32) = (0 : Int32))).2) (iW X13 hx rfl (hb hby at_1123) rfl (fN X13 hx rfl (hb hby at_1125) rfl ((if0 _ _).trans (teq (by decide : (0 : Int32) = (0 : Int32))).2) (iW X13 hx rfl (hb hby at_1128) rfl (iW X13 hx rfl (hb hby at_1130) rfl (cN X13 hx rfl (hb hby at_1132) rfl (teq (rfl : te = te)).2 (iW X13 hx rfl (hb hby at_1135) rfl (iW X13 hx rfl (hb hby at_1137) rfl (cN X13 hx rfl (hb hby at_1139) rfl (teq (rfl : te = te)).2 (iW X13 hx rfl (hb hby at_1142) rfl (fN X13 hx rfl (hb hby at_1144) rfl ((if0 _ _).trans (teq (by decide : (0 : Int32) = (0 : Int32))).2) (iW X13 hx rfl (hb hby at_1147) rfl (fN X13 hx rfl (hb hby at_1149) rfl ((if0 _ _).trans (teq (by decide : (0 : Int32) = (0 : Int32))).2) (iC X13 hx rfl (hb hby at_1152) (gO X13 hx rfl 1153 1157 rfl (hb hby at_1153) (by decide) ht))))))))))))))))))) ?_
  exact OFin.retBW (s := s) (vm₁ := vm1) X13 hS1 (by rw [hs13]; exact hk1) hx hlk (t := .boolean) (by simp) hret (hb hby at_1157) (by decide) (by decide) (by rw [hs13]; exact hQ _ _ N14)
theorem segU {p : Program} {l : Launch} {e : Env} {s : State} {m : MethodId} {args : Array Value} {below : List Frame} {meth : Method} {c : Code} {vm1 : Vm} (Z : State) (a0 : Array Value) (hw : ∀ d ∈ tables_1, d.before a0 Z = true) (hx : p.tables.exec = Jvm.exec) (hby : c.code = code) (hlk : meth.locks = false) (hret : meth.sig.returnType = some .boolean) (hml : c.maxLocals = 36) (hown : (s.setVm vm1).vm.findClass cC = some m.cls) (hZ : Z.Warmed39 (s.setVm vm1).vm) {Q : Option Value → Heap → List Loc → Prop} (n0 : Nat) {kS kE kI : Addr} {cs : Int32} {fm : Value} {u8 : Addr} {p0 p1 p2 p3 p4 p5 : Int32} {tx : Addr} {z8 z9 z10 z11 z12 z13 z14 z15 z16 z17 z18 z19 : Slot} {te ee : Int32} {z25 : Slot} {mk : Addr} {kt : ClassId} {pre : List Int32} {i0 ja : Nat} {o2 : Value} {u1 u2 u3 u4 u5 : Int32} {T0 : State} {locs : List Loc} {h0 : Heap} (X0 : Stand p l e room_1 (s.setVm vm1) m args below meth c T0 locs 26 600) (e0 : T0.heap = h0) (Z0 : n0 ≤ h0.size) (N0 : Fr n0 locs) (fa0 : Sts Z h0 kS kE kI cs fm u8) (fa1 : Txt Z h0 tx kt (24 : Int32) pre) (fa2 : Exa Z h0 mk cA) (fa3 : Mk Z h0 mk (.ref tx) (.int (Int32.ofNat i0)) (.int (Int32.ofNat pre.length)) o2 (.int (0 : Int32)) (.int (-1 : Int32)) (.int (0 : Int32)) (.int u1) (.int u2) (.int u3) (.int u4) (.int u5) (.int (1 : Int32))) (na0 : tx ≠ mk) (ga0 : n0 ≤ tx) (ga1 : n0 ≤ mk) (hst : OwnSt kS kE kI cs fm) (hi0 : i0 ≤ pre.length) (hra : own_raF pre i0 = some ja) (hte : own_te pre ja = te) (hee : own_em pre ja = ee) {k1 : Nat} (hS1 : s.Since vm1 k1) (hk1 : k1 ≤ h0.size) (hQ : ∀ (h' : Heap) (L : List Loc), Fr n0 L → Q (some (.int (1 : Int32))) h' L) :
    OFin p e below (KPostW s Q room_1.cells room_1.slots) (T0.setTop (mkF m 1092 (la17 p0 p1 p2 p3 p4 p5 tx 0 z8 z9 z10 z11 z12 z13 z14 z15 z16 z17 z18 z19 1 (-1) 0 te ee z25 mk (-1) 1 (-1) 0 1 1) [])) := by
  obtain ⟨_, T15, Lc15, X15, hQ15, st15⟩ := own_cV X0 hx hw hZ hown 78 79 81 80 20 82 rfl rfl rfl rfl rfl rfl (by decide) fa2 (rmNb l Z _ hw [] mk tx kt (24 : Int32) pre o2 (-1 : Int32) (0 : Int32) u1 u2 u3 u4 u5 i0 h0 n0 Z0 fa2 fa3 fa1 ga1 na0 hi0) (by decide) (by decide) (g := (mkF m 1094 (la17 p0 p1 p2 p3 p4 p5 tx 0 z8 z9 z10 z11 z12 z13 z14 z15 z16 z17 z18 z19 1 (-1) 0 te ee z25 mk (-1) 1 (-1) 0 1 1) [(.ref mk)])) rfl hml rfl (argsL := []) (rest := []) pd_4 rfl rfl rfl (W := 0) (Nat.le_of_eq rfl) (hb hby at_1094) rfl e0 (by decide) (by decide)
  rcases hQ15 with ⟨ja_15, ns1_15, ne1_15, nh1_15, hF_15, rfl, Nq15, Kq15, M15⟩ | ⟨hF_15, nh1_15, rfl, Nq15, Kq15, M15⟩
  · have N16 := Fr.app N0 Nq15
    have f17 := (fa0.keep Kq15 (own_snS fa2 own_sn0))
    have f18 := (fa1.keep Kq15 (ninS na0 nin0))
    have f19 := (fa2.keep Kq15)
    have Z20 := Nat.le_trans Z0 Kq15.1
    have kk21 : k1 ≤ T15.heap.size := (Nat.le_trans hk1 Kq15.1)
    rw [Option.some.inj (hF_15.symm.trans hra), hte, hee] at M15
    refine OFin.of (fun t ht => aW X0 hx rfl (hb hby at_1092) rfl rfl (st15.trans ht)) ?_
    obtain ⟨_, T22, Lc22, X22, hQ22, st22⟩ := own_cV X15 hx hw hZ hown 73 74 76 75 20 77 rfl rfl rfl rfl rfl rfl (by decide) f19 (rmTe l Z _ hw [] mk te T15.heap n0 Z20 M15.g_tagEnd) (by decide) (by decide) (g := (mkF m 1101 (la18 p0 p1 p2 p3 p4 p5 tx 0 z8 z9 z10 z11 z12 z13 z14 z15 z16 z17 z18 z19 1 (-1) 0 te ee z25 mk (-1) 1 (-1) 0 1 1 0) [(.ref mk)])) rfl hml rfl (argsL := []) (rest := []) pd_9 rfl rfl rfl (W := 0) (Nat.le_of_eq rfl) (hb hby at_1101) rfl (rfl : T15.heap = T15.heap) (by decide) (by decide)
    obtain ⟨rfl, Nq22, hs22⟩ := hQ22
    have N23 := Fr.app N16 Nq22
    refine OFin.of (fun t ht => sW X15 hx rfl (hb hby at_1097) rfl (l' := (la18 p0 p1 p2 p3 p4 p5 tx 0 z8 z9 z10 z11 z12 z13 z14 z15 z16 z17 z18 z19 1 (-1) 0 te ee z25 mk (-1) 1 (-1) 0 1 1 0)) rfl (aW X15 hx rfl (hb hby at_1099) rfl rfl (st22.trans ht))) ?_
    obtain ⟨_, T24, Lc24, X24, hQ24, st24⟩ := own_cV X22 hx hw hZ hown 94 95 97 96 20 98 rfl rfl rfl rfl rfl rfl (by decide) f19 (rmEm l Z _ hw [] mk ee T15.heap n0 Z20 M15.g_emptyElement (hee ▸ own_emb _ _)) (by decide) (by decide) (g := (mkF m 1108 (la19 p0 p1 p2 p3 p4 p5 tx 0 z8 z9 z10 z11 z12 z13 z14 z15 z16 z17 z18 z19 1 (-1) 0 te ee z25 mk (-1) 1 (-1) 0 1 1 0 te) [(.ref mk)])) rfl hml rfl (argsL := []) (rest := []) pd_4 rfl rfl rfl (W := 0) (Nat.le_of_eq rfl) (hb hby at_1108) rfl hs22 (by decide) (by decide)
    obtain ⟨rfl, Nq24, hs24⟩ := hQ24
    have N25 := Fr.app N23 Nq24
    refine OFin.of (fun t ht => sW X22 hx rfl (hb hby at_1104) rfl (l' := (la19 p0 p1 p2 p3 p4 p5 tx 0 z8 z9 z10 z11 z12 z13 z14 z15 z16 z17 z18 z19 1 (-1) 0 te ee z25 mk (-1) 1 (-1) 0 1 1 0 te)) rfl (aW X22 hx rfl (hb hby at_1106) rfl rfl (st24.trans ht))) ?_
    refine OFin.of (S' := T24.setTop (mkF m 1219 (la20 p0 p1 p2 p3 p4 p5 tx 0 z8 z9 z10 z11 z12 z13 z14 z15 z16 z17 z18 z19 1 (-1) 0 te ee z25 mk (-1) 1 (-1) 0 1 1 0 te ee) [(.int (1 : Int32))])) (fun t ht => sW X24 hx rfl (hb hby at_1111) rfl (l' := (la20 p0 p1 p2 p3 p4 p5 tx 0 z8 z9 z10 z11 z12 z13 z14 z15 z16 z17 z18 z19 1 (-1) 0 te ee z25 mk (-1) 1 (-1) 0 1 1 0 te ee)) rfl (iW X24 hx rfl (hb hby at_1113) rfl (fY X24 hx rfl 1115 1158 rfl (hb hby at_1115) rfl ((if0 _ _).trans (teq (by decide : (0 : Int32) = (0 : Int32))).1) (by decide) (iW X24 hx rfl (hb hby at_1158) rfl (iC X24 hx rfl (hb hby at_1160) (cN X24 hx rfl (hb hby at_1161) rfl (teq (by decide : (-1 : Int32) = (-1 : Int32))).2 (iW X24 hx rfl (hb hby at_1164) rfl (iW X24 hx rfl (hb hby at_1166) rfl (cN X24 hx rfl (hb hby at_1168) rfl (teq (by decide : (1 : Int32) = (1 : Int32))).2 (iW X24 hx rfl (hb hby at_1171) rfl (iW X24 hx rfl (hb hby at_1173) rfl (cN X24 hx rfl (hb hby at_1175) rfl (teq (by decide : (-1 : Int32) = (-1 : Int32))).2 (iW X24 hx rfl (hb hby at_1178) rfl (iW X24 hx rfl (hb hby at_1180) rfl (cN X24 hx rfl (hb hby at_1182) rfl (teq (by decide : (0 : Int32) = (0 : Int32))).2 (iW X24 hx rfl (hb hby at_1185) rfl (fN X24 hx rfl (hb hby at_1187) rfl ((if0 _ _).trans (feq (by decide : ¬ ((1 : Int32) = (0 : Int32)))).1) (iW X24 hx rfl (hb hby at_1190) rfl (fN X24 hx rfl (hb hby at_1192) rfl ((if0 _ _).trans (feq (by decide : ¬ ((1 : Int32) = (0 : Int32)))).1) (iW X24 hx rfl (hb hby at_1195) rfl (fN X24 hx rfl (hb hby at_1197) rfl ((if0 _ _).trans (teq (by decide : (0 : Int32) = (0 : Int32))).2) (iW X24 hx rfl (hb hby at_1200) rfl (iW X24 hx rfl (hb hby at_1202) rfl (cN X24 hx rfl (hb hby at_1204) rfl (teq (rfl : te = te)).2 (iW X24 hx rfl (hb hby at_1207) rfl (iW X24 hx rfl (hb hby at_1209) rfl (cN X24 hx rfl (hb hby at_1211) rfl (teq (rfl : ee = ee)).2 (iC X24 hx rfl (hb hby at_1214) (gO X24 hx rfl 1215 1219 rfl (hb hby at_1215) (by decide) ht))))))))))))))))))))))))))))) ?_
    exact OFin.retBW (s := s) (vm₁ := vm1) X24 hS1 (by rw [hs24]; exact kk21) hx hlk (t := .boolean) (by simp) hret (hb hby at_1219) (by decide) (by decide) (by rw [hs24]; exact hQ _ _ N25)
  · cases hF_15.symm.trans hra
theorem segK {p : Program} {l : Launch} {e : Env} {s : State} {m : MethodId} {args : Array Value} {below : List Frame} {meth : Method} {c : Code} (Z : State) (a0 : Array Value) (hw : ∀ d ∈ tables_1, d.before a0 Z = true) (hx : p.tables.exec = Jvm.exec) (hby : c.code = code) (hlk : meth.locks = false) (hret : meth.sig.returnType = some .boolean) (hml : c.maxLocals = 36) (hown : s.vm.findClass cC = some m.cls) (hZ : Z.Warmed39 s.vm) {Q : Option Value → Heap → List Loc → Prop} (n0 : Nat) {hS : Heap} {kS kE kI : Addr} {cs : Int32} {fm : Value} {u8 : Addr} {p0 p1 p2 p3 p4 p5 : Int32} {tx : Addr} {kd : Int32} {z9 z10 z11 z12 z13 z14 z15 z16 z17 z18 z19 z20 z21 z22 z23 z24 z26 z27 z28 z29 : Slot} {kt : ClassId} {pre D : List Int32} {T0 : State} {locs : List Loc} {h0 : Heap} (X0 : Stand p l e room_1 s m args below meth c T0 locs 3 28) (e0 : T0.heap = h0) (Z0 : n0 ≤ h0.size) (N0 : Fr n0 locs) (fa0 : Sts Z h0 kS kE kI cs fm u8) (fa1 : Txt Z h0 tx kt (24 : Int32) pre) (ga0 : n0 ≤ tx) (sztx : hS.size ≤ tx) (hst : OwnSt kS kE kI cs fm) (hl : pre.length ≤ 19) (hh : OwnHead kd pre D) (hk : kd = 1 ∨ kd = 2) (jz26 : OwnJk z26) (jz27 : OwnJk z27) (jz28 : OwnJk z28) (jz29 : OwnJk z29) (K0 : Keep hS h0 []) (hC0 : CHv Z consts_1 s.vm hS) (hQ : ∀ (h' : Heap) (L : List Loc), Fr n0 L → Q (some (.int (1 : Int32))) h' L) :
    OFin p e below (KPostW s Q room_1.cells room_1.slots) (T0.setTop (mkF m 996 (la21 p0 p1 p2 p3 p4 p5 tx kd (Int32.ofNat pre.length) z9 z10 z11 z12 z13 z14 z15 z16 z17 z18 z19 z20 z21 z22 z23 z24 (Int32.ofNat pre.length) z26 z27 z28 z29) [])) := by
  have hEL := own_EW hw
  obtain ⟨T26, h26, X26, e26, E26, A26, D26, -, st26⟩ := newO X0 hx hZ hown (wt hw 18 rfl) (wt hw 19 rfl) (wt hw 20 rfl) e0 (g := (mkF m 996 (la21 p0 p1 p2 p3 p4 p5 tx kd (Int32.ofNat pre.length) z9 z10 z11 z12 z13 z14 z15 z16 z17 z18 z19 z20 z21 z22 z23 z24 (Int32.ofNat pre.length) z26 z27 z28 z29) [])) rfl (hb hby at_996) (by decide) (by decide)
  obtain ⟨b26, gq26⟩ : ∃ z, z = h0.size := ⟨_, rfl⟩
  rw [← gq26] at A26 D26 st26
  have g27 : n0 ≤ b26 := (Nat.le_trans Z0 (Nat.le_of_eq gq26.symm))
  have sz28 : hS.size ≤ b26 := (Nat.le_trans K0.1 (Nat.le_of_eq gq26.symm))
  have ne29 : tx ≠ b26 := (Nat.ne_of_lt (Nat.lt_of_lt_of_le fa1.lt (Nat.le_of_eq gq26.symm)))
  have f30 := fa0.ext E26
  have f31 := fa1.ext E26
  have Z32 := Nat.le_trans Z0 E26.1
  have K33 := K0.ext E26
  have f34 : Fld Z h26 b26 cA "text" "[B" .null := D26 (Or.inr (wt hw 28 rfl)) (ty := (.array .byte)) (by decide)
  have f35 : Fld Z h26 b26 cA "at" "I" (.int (0 : Int32)) := D26 (Or.inl (wt hw 30 rfl)) (ty := .int) (by decide)
  have f36 : Fld Z h26 b26 cA "end" "I" (.int (0 : Int32)) := D26 (Or.inr (wt hw 32 rfl)) (ty := .int) (by decide)
  have f37 : Fld Z h26 b26 cA "tagStart" "I" (.int (0 : Int32)) := D26 (Or.inl (wt hw 47 rfl)) (ty := .int) (by decide)
  have f38 : Fld Z h26 b26 cA "emptyElement" "Z" (.int (0 : Int32)) := D26 (Or.inl (wt hw 49 rfl)) (ty := .boolean) (by decide)
  have f39 : Fld Z h26 b26 cA "kind" cD .null := D26 (Or.inl (wt hw 54 rfl)) (ty := (.object cG)) (by decide)
  have f40 : Fld Z h26 b26 cA "tagEnd" "I" (.int (0 : Int32)) := D26 (Or.inl (wt hw 56 rfl)) (ty := .int) (by decide)
  have f41 : Fld Z h26 b26 cA "nameStart" "I" (.int (0 : Int32)) := D26 (Or.inl (wt hw 66 rfl)) (ty := .int) (by decide)
  have f42 : Fld Z h26 b26 cA "nameEnd" "I" (.int (0 : Int32)) := D26 (Or.inl (wt hw 68 rfl)) (ty := .int) (by decide)
  have f43 : Fld Z h26 b26 cA "nameHash" "I" (.int (0 : Int32)) := D26 (Or.inl (wt hw 70 rfl)) (ty := .int) (by decide)
  have f44 : Fld Z h26 b26 cA "attributesLeft" "Z" (.int (0 : Int32)) := D26 (Or.inl (wt hw 72 rfl)) (ty := .boolean) (by decide)
  have f45 : Fld Z h26 b26 cA "valueStart" "I" (.int (0 : Int32)) := D26 (Or.inl (wt hw 154 rfl)) (ty := .int) (by decide)
  have f46 : Fld Z h26 b26 cA "valueEnd" "I" (.int (0 : Int32)) := D26 (Or.inl (wt hw 156 rfl)) (ty := .int) (by decide)
  have M47 : Mk Z h26 b26 .null (.int (0 : Int32)) (.int (0 : Int32)) .null (.int (0 : Int32)) (.int (0 : Int32)) (.int (0 : Int32)) (.int (0 : Int32)) (.int (0 : Int32)) (.int (0 : Int32)) (.int (0 : Int32)) (.int (0 : Int32)) (.int (0 : Int32)) := ⟨f34, f35, f36, f39, f37, f40, f38, f41, f42, f43, f45, f46, f44⟩
  refine OFin.of st26 ?_
  obtain ⟨_, T48, Lc48, X48, hQ48, st48⟩ := own_cN X26 hx hw hZ hown 21 22 20 23 rfl rfl rfl rfl (by decide) rfl (rmIni l Z _ hw [] b26 tx (0 : Int32) (Int32.ofNat pre.length) h26 n0 Z32 A26 M47 g27) (by decide) (by decide) (g := (mkF m 1005 (la21 p0 p1 p2 p3 p4 p5 tx kd (Int32.ofNat pre.length) z9 z10 z11 z12 z13 z14 z15 z16 z17 z18 z19 z20 z21 z22 z23 z24 (Int32.ofNat pre.length) z26 z27 z28 z29) [(.int (Int32.ofNat pre.length)), (.int (0 : Int32)), (.ref tx), (.ref b26), (.ref b26)])) rfl hml rfl (argsL := [(.ref tx), (.int (0 : Int32)), (.int (Int32.ofNat pre.length))]) (rest := [(.ref b26)]) pd_29 rfl rfl rfl (W := 1) (Nat.le_of_eq rfl) (hb hby at_1005) rfl e26 (by decide) (by decide)
  obtain ⟨rfl, Nq48, Kq48, M48⟩ := hQ48
  have N49 := Fr.app N0 Nq48
  have f50 := (f30.keep Kq48 (own_snS A26 own_sn0))
  have f51 := (f31.keep Kq48 (ninS ne29 nin0))
  have f52 := (A26.keep Kq48)
  have Z53 := Nat.le_trans Z32 Kq48.1
  have K54 := K33.trans Kq48 (allS (Or.inr sz28) all0)
  refine OFin.of (fun t ht => XS.dup X26.here hx rfl (hb hby at_999) rfl rfl (aW X26 hx rfl (hb hby at_1000) rfl rfl (iC X26 hx rfl (hb hby at_1002) (iW X26 hx rfl (hb hby at_1003) rfl (st48.trans ht))))) ?_
  refine OFin.of (S' := T48.setTop (mkF m 1010 (la22 p0 p1 p2 p3 p4 p5 tx kd (Int32.ofNat pre.length) z9 z10 z11 z12 z13 z14 z15 z16 z17 z18 z19 z20 z21 z22 z23 z24 (Int32.ofNat pre.length) b26 z27 z28 z29) [])) (fun t ht => XS.astore X48.here hx rfl (hb hby at_1008) rfl rfl (l' := (la22 p0 p1 p2 p3 p4 p5 tx kd (Int32.ofNat pre.length) z9 z10 z11 z12 z13 z14 z15 z16 z17 z18 z19 z20 z21 z22 z23 z24 (Int32.ofNat pre.length) b26 z27 z28 z29)) (own_st jz26 rfl rfl rfl) ht) ?_
  rcases hk with hk | hk
  · have hpe := own_h1 hh hk
    subst hk
    obtain ⟨_, T55, Lc55, X55, hQ55, st55⟩ := own_cV X48 hx hw hZ hown 33 34 36 35 20 37 rfl rfl rfl rfl rfl rfl (by decide) f52 (rmNtE l Z _ hw [] b26 tx kt (24 : Int32) pre .null (0 : Int32) (0 : Int32) (0 : Int32) (0 : Int32) (0 : Int32) (0 : Int32) (0 : Int32) (0 : Int32) (0 : Int32) kS kE kI _ _ T48.heap n0 Z53 f52 M48 f51 g27 ne29 f50.1 f50.2.1 f50.2.2.1 hst.2.2.1 (by rw [hpe]; rfl) (by rw [hpe]; simp) (by rw [hpe]; rfl) (by rw [hpe]; simp) rfl rfl) (by decide) (by decide) (g := (mkF m 1012 (la22 p0 p1 p2 p3 p4 p5 tx 1 (Int32.ofNat pre.length) z9 z10 z11 z12 z13 z14 z15 z16 z17 z18 z19 z20 z21 z22 z23 z24 (Int32.ofNat pre.length) b26 z27 z28 z29) [(.ref b26)])) rfl hml rfl (argsL := []) (rest := []) pd_4 rfl rfl rfl (W := 0) (Nat.le_of_eq rfl) (hb hby at_1012) rfl (rfl : T48.heap = T48.heap) (by decide) (by decide)
    obtain ⟨hv_55, at1_55, te1_55, rfl, Nq55, Kq55, M55⟩ := hQ55
    have N56 := Fr.app N49 Nq55
    have f57 := (f50.keep Kq55 (own_snS f52 own_sn0))
    have f58 := (f51.keep Kq55 (ninS ne29 nin0))
    have f59 := (f52.keep Kq55)
    have Z60 := Nat.le_trans Z53 Kq55.1
    have K61 := K54.trans Kq55 (allS (Or.inr sz28) all0)
    refine OFin.of (fun t ht => aW X48 hx rfl (hb hby at_1010) rfl rfl (st55.trans ht)) ?_
    refine OFin.of (S' := T55.setTop (mkF m 1020 (la22 p0 p1 p2 p3 p4 p5 tx 1 (Int32.ofNat pre.length) z9 z10 z11 z12 z13 z14 z15 z16 z17 z18 z19 z20 z21 z22 z23 z24 (Int32.ofNat pre.length) b26 z27 z28 z29) [])) (fun t ht => fY X55 hx rfl 1015 1020 rfl (hb hby at_1015) rfl ((if0 _ _).trans (feq (by decide : ¬ ((1 : Int32) = (0 : Int32)))).2) (by decide) ht) ?_
    exact segE (s := s) (vm1 := s.vm) Z _ hw hx hby hlk hret hml hown hZ n0  (X55.more (by decide) (by decide)) (rfl : T55.heap = T55.heap) Z60 N56 f57 f59 M55 g27 hst (by decide) jz27 jz28 jz29 ((State.WarmedH.refl s).since T55.heap.size) (Nat.le_refl _) hQ
  · have hpe := own_h2 hh hk
    subst hk
    have hR63 := CHr.keep K54 sf0 hC0
    obtain ⟨cq64, kq64, q64a, q64b, q64c⟩ := isOf hZ (rfl : T48.heap = T48.heap) f52
    obtain ⟨_, _, ⟨T62, L62, k62, n62⟩, -, X62, Sq62, gr62, ⟨Lc62, hQ62, l62, y62, z62, CH62⟩, st62⟩ := X48.virtualBackS hx (y := mn9) (z := mn9) hown (mvT hZ (wt hw 33 rfl)) (mvT hZ (wt hw 34 rfl)) (notFace_of_selects (args := #[]) (mvT hZ (wt hw 36 rfl))) (mvT hZ (wt hw 36 rfl)) (mvT hZ (wt hw 35 rfl)) (by decide) (backOfSH (s := s) (vm0 := s.vm) (W := 0) (rmNtI l Z _ hw [] b26 tx kt (24 : Int32) pre .null (0 : Int32) (0 : Int32) (0 : Int32) (0 : Int32) (0 : Int32) (0 : Int32) (0 : Int32) (0 : Int32) (0 : Int32) kS kE kI _ cs fm T48.heap n0 Z53 f52 M48 f51 g27 ne29 f50.1 f50.2.1 f50.2.2.1 hst.2.2.2 (by rw [hpe]; rfl) (by rw [hpe]; simp) (by rw [hpe]; rfl) (by rw [hpe]; simp) rfl f50.2.2.2.1 hst.1 f50.2.2.2.2.1 hst.2.1 (by decide)) hZ (wt hw 37 rfl) (wt hw 20 rfl) (by decide) (by decide) hEL hR63.1) q64a q64c (g := (mkF m 1012 (la22 p0 p1 p2 p3 p4 p5 tx 2 (Int32.ofNat pre.length) z9 z10 z11 z12 z13 z14 z15 z16 z17 z18 z19 z20 z21 z22 z23 z24 (Int32.ofNat pre.length) b26 z27 z28 z29) [(.ref b26)])) rfl (by rw [hml]; rfl) (Steps.refl _) (argsL := []) (rest := []) (lenOf pd_4 rfl) rfl (by show 2 * 0 + _ ≤ _; exact Nat.le_of_eq rfl) (hb hby at_1012) (fun _ _ => ⟨rfl, (rfl : T48.heap = T48.heap), (by decide : 4 + 2 ≤ _), (by decide : 41 + 12 ≤ _)⟩)
    dsimp only [Pt.U, Pt.locs, Pt.cells, Pt.slots] at X62 l62 y62 z62 st62 hQ62 Sq62 gr62 CH62
    subst l62 y62 z62
    have hZ62 : Z.Warmed39 (s.setVm T62.vm).vm := State.Warmed39.trans (t := s.setVm s.vm) hZ Sq62.1
    have hown62 : (s.setVm T62.vm).vm.findClass cC = some m.cls := by rw [show (s.setVm T62.vm).vm = T62.vm from rfl, Sq62.1.alike.findClass]; exact hown
    have S62 : s.Since T62.vm T62.heap.size := ((State.WarmedH.refl s).since T48.heap.size).trans Sq62 (Nat.le_trans (Nat.le_refl _) gr62)
    obtain ⟨hv_62, at1_62, te1_62, rfl, Nq62, Kq62, M62⟩ := hQ62
    have N65 := Fr.app N49 Nq62
    have hA66 := CH62
    have hR67 := hR63.trans hA66
    have f68 := (f50.keep Kq62 (own_snS f52 own_sn0))
    have f69 := (f51.keep Kq62 (ninS ne29 nin0))
    have f70 := (f52.keep Kq62)
    have Z71 := Nat.le_trans Z53 Kq62.1
    have K72 := K54.trans Kq62 (allS (Or.inr sz28) all0)
    refine OFin.of (fun t ht => aW X48 hx rfl (hb hby at_1010) rfl rfl (st62.trans ht)) ?_
    refine OFin.of (S' := T62.setTop (mkF m 1020 (la22 p0 p1 p2 p3 p4 p5 tx 2 (Int32.ofNat pre.length) z9 z10 z11 z12 z13 z14 z15 z16 z17 z18 z19 z20 z21 z22 z23 z24 (Int32.ofNat pre.length) b26 z27 z28 z29) [])) (fun t ht => fY X62 hx rfl 1015 1020 rfl (hb hby at_1015) rfl ((if0 _ _).trans (feq (by decide : ¬ ((1 : Int32) = (0 : Int32)))).2) (by decide) ht) ?_
    exact segE (s := s) (vm1 := T62.vm) Z _ hw hx hby hlk hret hml hown62 hZ62 n0  (X62.more (by decide) (by decide)) (rfl : T62.heap = T62.heap) Z71 N65 f68 f70 M62 g27 hst (by decide) jz27 jz28 jz29 S62 (Nat.le_refl _) hQ
theorem segF {p : Program} {l : Launch} {e : Env} {s : State} {m : MethodId} {args : Array Value} {below : List Frame} {meth : Method} {c : Code} (Z : State) (a0 : Array Value) (hw : ∀ d ∈ tables_1, d.before a0 Z = true) (hx : p.tables.exec = Jvm.exec) (hby : c.code = code) (hlk : meth.locks = false) (hret : meth.sig.returnType = some .boolean) (hml : c.maxLocals = 36) (hown : s.vm.findClass cC = some m.cls) (hZ : Z.Warmed39 s.vm) {Q : Option Value → Heap → List Loc → Prop} (n0 : Nat) {hS : Heap} {kS kE kI : Addr} {cs : Int32} {fm : Value} {u8 : Addr} {p0 p1 p2 p3 p4 p5 : Int32} {tx : Addr} {kd : Int32} {z9 z10 z11 z12 z13 z14 z15 z16 z17 z18 z19 : Slot} {te ee : Int32} {z25 z26 z27 z28 z29 : Slot} {kt : ClassId} {pre D : List Int32} {T0 : State} {locs : List Loc} {h0 : Heap} (X0 : Stand p l e room_1 s m args below meth c T0 locs 3 28) (e0 : T0.heap = h0) (Z0 : n0 ≤ h0.size) (N0 : Fr n0 locs) (fa0 : Sts Z h0 kS kE kI cs fm u8) (fa1 : Txt Z h0 tx kt (24 : Int32) pre) (ga0 : n0 ≤ tx) (sztx : hS.size ≤ tx) (hst : OwnSt kS kE kI cs fm) (hl : pre.length ≤ 19) (hh : OwnHead kd pre D) (hF : kd = 0 → FinF pre te ee) (jz25 : OwnJk z25) (jz26 : OwnJk z26) (jz27 : OwnJk z27) (jz28 : OwnJk z28) (jz29 : OwnJk z29) (K0 : Keep hS h0 []) (hC0 : CHv Z consts_1 s.vm hS) (hQ : ∀ (h' : Heap) (L : List Loc), Fr n0 L → Q (some (.int (1 : Int32))) h' L) :
    OFin p e below (KPostW s Q room_1.cells room_1.slots) (T0.setTop (mkF m 979 (la23 p0 p1 p2 p3 p4 p5 tx kd (Int32.ofNat pre.length) z9 z10 z11 z12 z13 z14 z15 z16 z17 z18 z19 0 te ee (-1) 0 z25 z26 z27 z28 z29) [])) := by
  have hEL := own_EW hw
  refine OFin.of (S' := T0.setTop (mkF m 996 (la24 p0 p1 p2 p3 p4 p5 tx kd (Int32.ofNat pre.length) z9 z10 z11 z12 z13 z14 z15 z16 z17 z18 z19 0 te ee te ee (Int32.ofNat pre.length) z26 z27 z28 z29) [])) (fun t ht => iW X0 hx rfl (hb hby at_979) rfl (fN X0 hx rfl (hb hby at_981) rfl ((if0 _ _).trans (teq (by decide : (0 : Int32) = (0 : Int32))).2) (iW X0 hx rfl (hb hby at_984) rfl (sW X0 hx rfl (hb hby at_986) rfl (l' := (la23 p0 p1 p2 p3 p4 p5 tx kd (Int32.ofNat pre.length) z9 z10 z11 z12 z13 z14 z15 z16 z17 z18 z19 0 te ee te 0 z25 z26 z27 z28 z29)) rfl (iW X0 hx rfl (hb hby at_988) rfl (sW X0 hx rfl (hb hby at_990) rfl (l' := (la23 p0 p1 p2 p3 p4 p5 tx kd (Int32.ofNat pre.length) z9 z10 z11 z12 z13 z14 z15 z16 z17 z18 z19 0 te ee te ee z25 z26 z27 z28 z29)) rfl (iW X0 hx rfl (hb hby at_992) rfl (sW X0 hx rfl (hb hby at_994) rfl (l' := (la24 p0 p1 p2 p3 p4 p5 tx kd (Int32.ofNat pre.length) z9 z10 z11 z12 z13 z14 z15 z16 z17 z18 z19 0 te ee te ee (Int32.ofNat pre.length) z26 z27 z28 z29)) (own_st jz25 rfl rfl rfl) ht)))))))) ?_
  rcases own_kd hh with hk | hk
  · have hpe := own_hz hh hk
    subst hk
    obtain ⟨hj0, ja, hra, hte, hee⟩ := hF rfl
    obtain ⟨T73, h73, X73, e73, E73, A73, D73, -, st73⟩ := newO X0 hx hZ hown (wt hw 18 rfl) (wt hw 19 rfl) (wt hw 20 rfl) e0 (g := (mkF m 996 (la24 p0 p1 p2 p3 p4 p5 tx 0 (Int32.ofNat pre.length) z9 z10 z11 z12 z13 z14 z15 z16 z17 z18 z19 0 te ee te ee (Int32.ofNat pre.length) z26 z27 z28 z29) [])) rfl (hb hby at_996) (by decide) (by decide)
    obtain ⟨b73, gq73⟩ : ∃ z, z = h0.size := ⟨_, rfl⟩
    rw [← gq73] at A73 D73 st73
    have g74 : n0 ≤ b73 := (Nat.le_trans Z0 (Nat.le_of_eq gq73.symm))
    have sz75 : hS.size ≤ b73 := (Nat.le_trans K0.1 (Nat.le_of_eq gq73.symm))
    have ne76 : tx ≠ b73 := (Nat.ne_of_lt (Nat.lt_of_lt_of_le fa1.lt (Nat.le_of_eq gq73.symm)))
    have f77 := fa0.ext E73
    have f78 := fa1.ext E73
    have Z79 := Nat.le_trans Z0 E73.1
    have K80 := K0.ext E73
    have f81 : Fld Z h73 b73 cA "text" "[B" .null := D73 (Or.inr (wt hw 28 rfl)) (ty := (.array .byte)) (by decide)
    have f82 : Fld Z h73 b73 cA "at" "I" (.int (0 : Int32)) := D73 (Or.inl (wt hw 30 rfl)) (ty := .int) (by decide)
    have f83 : Fld Z h73 b73 cA "end" "I" (.int (0 : Int32)) := D73 (Or.inr (wt hw 32 rfl)) (ty := .int) (by decide)
    have f84 : Fld Z h73 b73 cA "tagStart" "I" (.int (0 : Int32)) := D73 (Or.inl (wt hw 47 rfl)) (ty := .int) (by decide)
    have f85 : Fld Z h73 b73 cA "emptyElement" "Z" (.int (0 : Int32)) := D73 (Or.inl (wt hw 49 rfl)) (ty := .boolean) (by decide)
    have f86 : Fld Z h73 b73 cA "kind" cD .null := D73 (Or.inl (wt hw 54 rfl)) (ty := (.object cG)) (by decide)
    have f87 : Fld Z h73 b73 cA "tagEnd" "I" (.int (0 : Int32)) := D73 (Or.inl (wt hw 56 rfl)) (ty := .int) (by decide)
    have f88 : Fld Z h73 b73 cA "nameStart" "I" (.int (0 : Int32)) := D73 (Or.inl (wt hw 66 rfl)) (ty := .int) (by decide)
    have f89 : Fld Z h73 b73 cA "nameEnd" "I" (.int (0 : Int32)) := D73 (Or.inl (wt hw 68 rfl)) (ty := .int) (by decide)
    have f90 : Fld Z h73 b73 cA "nameHash" "I" (.int (0 : Int32)) := D73 (Or.inl (wt hw 70 rfl)) (ty := .int) (by decide)
    have f91 : Fld Z h73 b73 cA "attributesLeft" "Z" (.int (0 : Int32)) := D73 (Or.inl (wt hw 72 rfl)) (ty := .boolean) (by decide)
    have f92 : Fld Z h73 b73 cA "valueStart" "I" (.int (0 : Int32)) := D73 (Or.inl (wt hw 154 rfl)) (ty := .int) (by decide)
    have f93 : Fld Z h73 b73 cA "valueEnd" "I" (.int (0 : Int32)) := D73 (Or.inl (wt hw 156 rfl)) (ty := .int) (by decide)
    have M94 : Mk Z h73 b73 .null (.int (0 : Int32)) (.int (0 : Int32)) .null (.int (0 : Int32)) (.int (0 : Int32)) (.int (0 : Int32)) (.int (0 : Int32)) (.int (0 : Int32)) (.int (0 : Int32)) (.int (0 : Int32)) (.int (0 : Int32)) (.int (0 : Int32)) := ⟨f81, f82, f83, f86, f84, f87, f85, f88, f89, f90, f92, f93, f91⟩
    refine OFin.of st73 ?_
    obtain ⟨_, T95, Lc95, X95, hQ95, st95⟩ := own_cN X73 hx hw hZ hown 21 22 20 23 rfl rfl rfl rfl (by decide) rfl (rmIni l Z _ hw [] b73 tx (0 : Int32) (Int32.ofNat pre.length) h73 n0 Z79 A73 M94 g74) (by decide) (by decide) (g := (mkF m 1005 (la24 p0 p1 p2 p3 p4 p5 tx 0 (Int32.ofNat pre.length) z9 z10 z11 z12 z13 z14 z15 z16 z17 z18 z19 0 te ee te ee (Int32.ofNat pre.length) z26 z27 z28 z29) [(.int (Int32.ofNat pre.length)), (.int (0 : Int32)), (.ref tx), (.ref b73), (.ref b73)])) rfl hml rfl (argsL := [(.ref tx), (.int (0 : Int32)), (.int (Int32.ofNat pre.length))]) (rest := [(.ref b73)]) pd_29 rfl rfl rfl (W := 1) (Nat.le_of_eq rfl) (hb hby at_1005) rfl e73 (by decide) (by decide)
    obtain ⟨rfl, Nq95, Kq95, M95⟩ := hQ95
    have N96 := Fr.app N0 Nq95
    have f97 := (f77.keep Kq95 (own_snS A73 own_sn0))
    have f98 := (f78.keep Kq95 (ninS ne76 nin0))
    have f99 := (A73.keep Kq95)
    have Z100 := Nat.le_trans Z79 Kq95.1
    have K101 := K80.trans Kq95 (allS (Or.inr sz75) all0)
    refine OFin.of (fun t ht => XS.dup X73.here hx rfl (hb hby at_999) rfl rfl (aW X73 hx rfl (hb hby at_1000) rfl rfl (iC X73 hx rfl (hb hby at_1002) (iW X73 hx rfl (hb hby at_1003) rfl (st95.trans ht))))) ?_
    obtain ⟨_, T102, Lc102, X102, hQ102, st102⟩ := own_cV X95 hx hw hZ hown 33 34 36 35 20 37 rfl rfl rfl rfl rfl rfl (by decide) f99 (rmNtS l Z _ hw [] b73 tx kt (24 : Int32) pre .null (0 : Int32) (0 : Int32) (0 : Int32) (0 : Int32) (0 : Int32) (0 : Int32) (0 : Int32) (0 : Int32) (0 : Int32) kS kE kI 2 T95.heap n0 Z100 f99 M95 f98 g74 ne76 f97.1 f97.2.1 f97.2.2.1 (by rw [hpe]; rfl) (by rw [hpe]; simp) (by rw [hpe]; rfl) (by rw [hpe]; simp) hj0) (by decide) (by decide) (g := (mkF m 1012 (la25 p0 p1 p2 p3 p4 p5 tx 0 (Int32.ofNat pre.length) z9 z10 z11 z12 z13 z14 z15 z16 z17 z18 z19 0 te ee te ee (Int32.ofNat pre.length) b73 z27 z28 z29) [(.ref b73)])) rfl hml rfl (argsL := []) (rest := []) pd_4 rfl rfl rfl (W := 0) (Nat.le_of_eq rfl) (hb hby at_1012) rfl (rfl : T95.heap = T95.heap) (by decide) (by decide)
    obtain ⟨hv_102, rfl, Nq102, Kq102, M102⟩ := hQ102
    have N103 := Fr.app N96 Nq102
    have f104 := (f97.keep Kq102 (own_snS f99 own_sn0))
    have f105 := (f98.keep Kq102 (ninS ne76 nin0))
    have f106 := (f99.keep Kq102)
    have Z107 := Nat.le_trans Z100 Kq102.1
    have K108 := K101.trans Kq102 (allS (Or.inr sz75) all0)
    refine OFin.of (fun t ht => XS.astore X95.here hx rfl (hb hby at_1008) rfl rfl (l' := (la25 p0 p1 p2 p3 p4 p5 tx 0 (Int32.ofNat pre.length) z9 z10 z11 z12 z13 z14 z15 z16 z17 z18 z19 0 te ee te ee (Int32.ofNat pre.length) b73 z27 z28 z29)) (own_st jz26 rfl rfl rfl) (aW X95 hx rfl (hb hby at_1010) rfl rfl (st102.trans ht))) ?_
    obtain ⟨_, T109, Lc109, X109, hQ109, st109⟩ := own_cV X102 hx hw hZ hown 73 74 76 75 20 77 rfl rfl rfl rfl rfl rfl (by decide) f106 (rmTe l Z _ hw [] b73 (-1 : Int32) T102.heap n0 Z107 M102.g_tagEnd) (by decide) (by decide) (g := (mkF m 1022 (la25 p0 p1 p2 p3 p4 p5 tx 0 (Int32.ofNat pre.length) z9 z10 z11 z12 z13 z14 z15 z16 z17 z18 z19 0 te ee te ee (Int32.ofNat pre.length) b73 z27 z28 z29) [(.ref b73)])) rfl hml rfl (argsL := []) (rest := []) pd_9 rfl rfl rfl (W := 0) (Nat.le_of_eq rfl) (hb hby at_1022) rfl (rfl : T102.heap = T102.heap) (by decide) (by decide)
    obtain ⟨rfl, Nq109, hs109⟩ := hQ109
    have N110 := Fr.app N103 Nq109
    refine OFin.of (fun t ht => fY X102 hx rfl 1015 1020 rfl (hb hby at_1015) rfl ((if0 _ _).trans (feq (by decide : ¬ ((1 : Int32) = (0 : Int32)))).2) (by decide) (aW X102 hx rfl (hb hby at_1020) rfl rfl (st109.trans ht))) ?_
    obtain ⟨_, T111, Lc111, X111, hQ111, st111⟩ := own_cV X109 hx hw hZ hown 78 79 81 80 20 82 rfl rfl rfl rfl rfl rfl (by decide) f106 (rmNb l Z _ hw [] b73 tx kt (24 : Int32) pre (.ref kS) (-1 : Int32) (0 : Int32) (Int32.ofNat 1) (Int32.ofNat 2) hv_102 (0 : Int32) (0 : Int32) 2 T102.heap n0 Z107 f106 M102 f105 g74 ne76 (by rw [hpe]; simp)) (by decide) (by decide) (g := (mkF m 1029 (la26 p0 p1 p2 p3 p4 p5 tx 0 (Int32.ofNat pre.length) z9 z10 z11 z12 z13 z14 z15 z16 z17 z18 z19 0 te ee te ee (Int32.ofNat pre.length) b73 (-1) z28 z29) [(.ref b73)])) rfl hml rfl (argsL := []) (rest := []) pd_4 rfl rfl rfl (W := 0) (Nat.le_of_eq rfl) (hb hby at_1029) rfl hs109 (by decide) (by decide)
    rcases hQ111 with ⟨ja_111, ns1_111, ne1_111, nh1_111, hF_111, rfl, Nq111, Kq111, M111⟩ | ⟨hF_111, nh1_111, rfl, Nq111, Kq111, M111⟩
    · have N112 := Fr.app N110 Nq111
      have f113 := (f104.keep Kq111 (own_snS f106 own_sn0))
      have f114 := (f105.keep Kq111 (ninS ne76 nin0))
      have f115 := (f106.keep Kq111)
      have Z116 := Nat.le_trans Z107 Kq111.1
      have K117 := K108.trans Kq111 (allS (Or.inr sz75) all0)
      rw [Option.some.inj (hF_111.symm.trans hra), hte, hee] at M111
      refine OFin.of (fun t ht => sW X109 hx rfl (hb hby at_1025) rfl (l' := (la26 p0 p1 p2 p3 p4 p5 tx 0 (Int32.ofNat pre.length) z9 z10 z11 z12 z13 z14 z15 z16 z17 z18 z19 0 te ee te ee (Int32.ofNat pre.length) b73 (-1) z28 z29)) (own_st jz27 rfl rfl rfl) (aW X109 hx rfl (hb hby at_1027) rfl rfl (st111.trans ht))) ?_
      obtain ⟨_, T118, Lc118, X118, hQ118, st118⟩ := own_cV X111 hx hw hZ hown 73 74 76 75 20 77 rfl rfl rfl rfl rfl rfl (by decide) f115 (rmTe l Z _ hw [] b73 te T111.heap n0 Z116 M111.g_tagEnd) (by decide) (by decide) (g := (mkF m 1036 (la27 p0 p1 p2 p3 p4 p5 tx 0 (Int32.ofNat pre.length) z9 z10 z11 z12 z13 z14 z15 z16 z17 z18 z19 0 te ee te ee (Int32.ofNat pre.length) b73 (-1) 0 z29) [(.ref b73)])) rfl hml rfl (argsL := []) (rest := []) pd_9 rfl rfl rfl (W := 0) (Nat.le_of_eq rfl) (hb hby at_1036) rfl (rfl : T111.heap = T111.heap) (by decide) (by decide)
      obtain ⟨rfl, Nq118, hs118⟩ := hQ118
      have N119 := Fr.app N112 Nq118
      refine OFin.of (fun t ht => sW X111 hx rfl (hb hby at_1032) rfl (l' := (la27 p0 p1 p2 p3 p4 p5 tx 0 (Int32.ofNat pre.length) z9 z10 z11 z12 z13 z14 z15 z16 z17 z18 z19 0 te ee te ee (Int32.ofNat pre.length) b73 (-1) 0 z29)) (own_st jz28 rfl rfl rfl) (aW X111 hx rfl (hb hby at_1034) rfl rfl (st118.trans ht))) ?_
      obtain ⟨_, T120, Lc120, X120, hQ120, st120⟩ := own_cV X118 hx hw hZ hown 94 95 97 96 20 98 rfl rfl rfl rfl rfl rfl (by decide) f115 (rmEm l Z _ hw [] b73 ee T111.heap n0 Z116 M111.g_emptyElement (hee ▸ own_emb _ _)) (by decide) (by decide) (g := (mkF m 1043 (la28 p0 p1 p2 p3 p4 p5 tx 0 (Int32.ofNat pre.length) z9 z10 z11 z12 z13 z14 z15 z16 z17 z18 z19 0 te ee te ee (Int32.ofNat pre.length) b73 (-1) 0 te) [(.ref b73)])) rfl hml rfl (argsL := []) (rest := []) pd_4 rfl rfl rfl (W := 0) (Nat.le_of_eq rfl) (hb hby at_1043) rfl hs118 (by decide) (by decide)
      obtain ⟨rfl, Nq120, hs120⟩ := hQ120
      have N121 := Fr.app N119 Nq120
      refine OFin.of (fun t ht => sW X118 hx rfl (hb hby at_1039) rfl (l' := (la28 p0 p1 p2 p3 p4 p5 tx 0 (Int32.ofNat pre.length) z9 z10 z11 z12 z13 z14 z15 z16 z17 z18 z19 0 te ee te ee (Int32.ofNat pre.length) b73 (-1) 0 te)) (own_st jz29 rfl rfl rfl) (aW X118 hx rfl (hb hby at_1041) rfl rfl (st120.trans ht))) ?_
      obtain ⟨_, T122, Lc122, X122, hQ122, st122⟩ := own_cV X120 hx hw hZ hown 78 79 81 80 20 82 rfl rfl rfl rfl rfl rfl (by decide) f115 (rmNa0 l Z _ hw [] b73 T111.heap n0 Z116 M111.g_attributesLeft) (by decide) (by decide) (g := (mkF m 1094 (la31 p0 p1 p2 p3 p4 p5 tx 0 (Int32.ofNat pre.length) z9 z10 z11 z12 z13 z14 z15 z16 z17 z18 z19 0 te ee te ee (Int32.ofNat pre.length) b73 (-1) 0 te ee 1 1) [(.ref b73)])) rfl hml rfl (argsL := []) (rest := []) pd_4 rfl rfl rfl (W := 0) (Nat.le_of_eq rfl) (hb hby at_1094) rfl hs120 (by decide) (by decide)
      obtain ⟨rfl, Nq122, hs122⟩ := hQ122
      have N123 := Fr.app N121 Nq122
      refine OFin.of (fun t ht => sW X120 hx rfl (hb hby at_1046) rfl (l' := (la29 p0 p1 p2 p3 p4 p5 tx 0 (Int32.ofNat pre.length) z9 z10 z11 z12 z13 z14 z15 z16 z17 z18 z19 0 te ee te ee (Int32.ofNat pre.length) b73 (-1) 0 te ee)) rfl (iC X120 hx rfl (hb hby at_1048) (sW X120 hx rfl (hb hby at_1049) rfl (l' := (la30 p0 p1 p2 p3 p4 p5 tx 0 (Int32.ofNat pre.length) z9 z10 z11 z12 z13 z14 z15 z16 z17 z18 z19 0 te ee te ee (Int32.ofNat pre.length) b73 (-1) 0 te ee 1)) rfl (iC X120 hx rfl (hb hby at_1051) (sW X120 hx rfl (hb hby at_1052) rfl (l' := (la31 p0 p1 p2 p3 p4 p5 tx 0 (Int32.ofNat pre.length) z9 z10 z11 z12 z13 z14 z15 z16 z17 z18 z19 0 te ee te ee (Int32.ofNat pre.length) b73 (-1) 0 te ee 1 1)) rfl (iW X120 hx rfl (hb hby at_1054) rfl (fN X120 hx rfl (hb hby at_1056) rfl ((if0 _ _).trans (teq (by decide : (0 : Int32) = (0 : Int32))).2) (iW X120 hx rfl (hb hby at_1059) rfl (fY X120 hx rfl 1061 1092 rfl (hb hby at_1061) rfl ((if0 _ _).trans (teq (by decide : (0 : Int32) = (0 : Int32))).1) (by decide) (aW X120 hx rfl (hb hby at_1092) rfl rfl (st122.trans ht))))))))))) ?_
      obtain ⟨_, T124, Lc124, X124, hQ124, st124⟩ := own_cV X122 hx hw hZ hown 73 74 76 75 20 77 rfl rfl rfl rfl rfl rfl (by decide) f115 (rmTe l Z _ hw [] b73 te T111.heap n0 Z116 M111.g_tagEnd) (by decide) (by decide) (g := (mkF m 1101 (la32 p0 p1 p2 p3 p4 p5 tx 0 (Int32.ofNat pre.length) z9 z10 z11 z12 z13 z14 z15 z16 z17 z18 z19 0 te ee te ee (Int32.ofNat pre.length) b73 (-1) 0 te ee 1 1 0) [(.ref b73)])) rfl hml rfl (argsL := []) (rest := []) pd_9 rfl rfl rfl (W := 0) (Nat.le_of_eq rfl) (hb hby at_1101) rfl hs122 (by decide) (by decide)
      obtain ⟨rfl, Nq124, hs124⟩ := hQ124
      have N125 := Fr.app N123 Nq124
      refine OFin.of (fun t ht => sW X122 hx rfl (hb hby at_1097) rfl (l' := (la32 p0 p1 p2 p3 p4 p5 tx 0 (Int32.ofNat pre.length) z9 z10 z11 z12 z13 z14 z15 z16 z17 z18 z19 0 te ee te ee (Int32.ofNat pre.length) b73 (-1) 0 te ee 1 1 0)) rfl (aW X122 hx rfl (hb hby at_1099) rfl rfl (st124.trans ht))) ?_
      obtain ⟨_, T126, Lc126, X126, hQ126, st126⟩ := own_cV X124 hx hw hZ hown 94 95 97 96 20 98 rfl rfl rfl rfl rfl rfl (by decide) f115 (rmEm l Z _ hw [] b73 ee T111.heap n0 Z116 M111.g_emptyElement (hee ▸ own_emb _ _)) (by decide) (by decide) (g := (mkF m 1108 (la33 p0 p1 p2 p3 p4 p5 tx 0 (Int32.ofNat pre.length) z9 z10 z11 z12 z13 z14 z15 z16 z17 z18 z19 0 te ee te ee (Int32.ofNat pre.length) b73 (-1) 0 te ee 1 1 0 te) [(.ref b73)])) rfl hml rfl (argsL := []) (rest := []) pd_4 rfl rfl rfl (W := 0) (Nat.le_of_eq rfl) (hb hby at_1108) rfl hs124 (by decide) (by decide)
      obtain ⟨rfl, Nq126, hs126⟩ := hQ126
      have N127 := Fr.app N125 Nq126
      refine OFin.of (fun t ht => sW X124 hx rfl (hb hby at_1104) rfl (l' := (la33 p0 p1 p2 p3 p4 p5 tx 0 (Int32.ofNat pre.length) z9 z10 z11 z12 z13 z14 z15 z16 z17 z18 z19 0 te ee te ee (Int32.ofNat pre.length) b73 (-1) 0 te ee 1 1 0 te)) rfl (aW X124 hx rfl (hb hby at_1106) rfl rfl (st126.trans ht))) ?_
      refine OFin.of (S' := T126.setTop (mkF m 1219 (la34 p0 p1 p2 p3 p4 p5 tx 0 (Int32.ofNat pre.length) z9 z10 z11 z12 z13 z14 z15 z16 z17 z18 z19 0 te ee te ee (Int32.ofNat pre.length) b73 (-1) 0 te ee 1 1 0 te ee) [(.int (1 : Int32))])) (fun t ht => sW X126 hx rfl (hb hby at_1111) rfl (l' := (la34 p0 p1 p2 p3 p4 p5 tx 0 (Int32.ofNat pre.length) z9 z10 z11 z12 z13 z14 z15 z16 z17 z18 z19 0 te ee te ee (Int32.ofNat pre.length) b73 (-1) 0 te ee 1 1 0 te ee)) rfl (iW X126 hx rfl (hb hby at_1113) rfl (fY X126 hx rfl 1115 1158 rfl (hb hby at_1115) rfl ((if0 _ _).trans (teq (by decide : (0 : Int32) = (0 : Int32))).1) (by decide) (iW X126 hx rfl (hb hby at_1158) rfl (iC X126 hx rfl (hb hby at_1160) (cN X126 hx rfl (hb hby at_1161) rfl (teq (by decide : (-1 : Int32) = (-1 : Int32))).2 (iW X126 hx rfl (hb hby at_1164) rfl (iW X126 hx rfl (hb hby at_1166) rfl (cN X126 hx rfl (hb hby at_1168) rfl (teq (by decide : (0 : Int32) = (0 : Int32))).2 (iW X126 hx rfl (hb hby at_1171) rfl (iW X126 hx rfl (hb hby at_1173) rfl (cN X126 hx rfl (hb hby at_1175) rfl (teq (rfl : te = te)).2 (iW X126 hx rfl (hb hby at_1178) rfl (iW X126 hx rfl (hb hby at_1180) rfl (cN X126 hx rfl (hb hby at_1182) rfl (teq (rfl : ee = ee)).2 (iW X126 hx rfl (hb hby at_1185) rfl (fN X126 hx rfl (hb hby at_1187) rfl ((if0 _ _).trans (feq (by decide : ¬ ((1 : Int32) = (0 : Int32)))).1) (iW X126 hx rfl (hb hby at_1190) rfl (fN X126 hx rfl (hb hby at_1192) rfl ((if0 _ _).trans (feq (by decide : ¬ ((1 : Int32) = (0 : Int32)))).1) (iW X126 hx rfl (hb hby at_1195) rfl (fN X126 hx rfl (hb hby at_1197) rfl ((if0 _ _).trans (teq (by decide : (0 : Int32) = (0 : Int32))).2) (iW X126 hx rfl (hb hby at_1200) rfl (iW X126 hx rfl (hb hby at_1202) rfl (cN X126 hx rfl (hb hby at_1204) rfl (teq (rfl : te = te)).2 (iW X126 hx rfl (hb hby at_1207) rfl (iW X126 hx rfl (hb hby at_1209) rfl (cN X126 hx rfl (hb hby at_1211) rfl (teq (rfl : ee = ee)).2 (iC X126 hx rfl (hb hby at_1214) (gO X126 hx rfl 1215 1219 rfl (hb hby at_1215) (by decide) ht))))))))))))))))))))))))))))) ?_
      exact OFin.retBW (s := s) (vm₁ := s.vm) X126 ((State.WarmedH.refl s).since 0) (Nat.zero_le _) hx hlk (t := .boolean) (by simp) hret (hb hby at_1219) (by decide) (by decide) (by rw [hs126]; exact hQ _ _ N127)
    · cases hF_111.symm.trans hra
  · exact segK Z _ hw hx hby hlk hret hml hown hZ n0  (X0.more (by decide) (by decide)) e0 Z0 N0 fa0 fa1 ga0 sztx hst (Nat.le_trans hl (by decide)) hh hk jz26 jz27 jz28 jz29 K0 hC0 hQ
theorem segT {p : Program} {l : Launch} {e : Env} {s : State} {m : MethodId} {args : Array Value} {below : List Frame} {meth : Method} {c : Code} (Z : State) (a0 : Array Value) (hw : ∀ d ∈ tables_1, d.before a0 Z = true) (hx : p.tables.exec = Jvm.exec) (hby : c.code = code) (hlk : meth.locks = false) (hret : meth.sig.returnType = some .boolean) (hml : c.maxLocals = 36) (hown : s.vm.findClass cC = some m.cls) (hZ : Z.Warmed39 s.vm) {Q : Option Value → Heap → List Loc → Prop} (n0 : Nat) {hS : Heap} {kS kE kI : Addr} {cs : Int32} {fm : Value} {u8 : Addr} {p0 p1 p2 p3 p4 p5 : Int32} {tx : Addr} {kd : Int32} {z9 z10 z11 z12 z13 z14 z15 z16 z17 : Slot} {wn wv : Addr} {te ee z25 z26 z27 z28 z29 : Int32} {kt : ClassId} {pre D : List Int32} {kw : ClassId} {xs : List Int32} {kc : ClassId} {vs : List Int32} {nL na nb vL va vb q : Int32} {T0 : State} {locs : List Loc} {h0 : Heap} (X0 : Stand p l e room_1 s m args below meth c T0 locs 3 28) (e0 : T0.heap = h0) (Z0 : n0 ≤ h0.size) (N0 : Fr n0 locs) (fa0 : Sts Z h0 kS kE kI cs fm u8) (fa1 : Txt Z h0 tx kt (24 : Int32) pre) (fa2 : Lst .byte Z h0 wn kw xs) (fa3 : Lst .char Z h0 wv kc vs) (ga0 : n0 ≤ tx) (sztx : hS.size ≤ tx) (hst : OwnSt kS kE kI cs fm) (hl : pre.length ≤ 19) (hh : OwnHead kd pre D) (hT : kd = 0 → FinT pre xs vs te ee) (hNm : OwnNm nL na nb xs) (hVs : OwnVs vL va vb q vs) (K0 : Keep hS h0 []) (hC0 : CHv Z consts_1 s.vm hS) (hQ : ∀ (h' : Heap) (L : List Loc), Fr n0 L → Q (some (.int (1 : Int32))) h' L) :
    OFin p e below (KPostW s Q room_1.cells room_1.slots) (T0.setTop (mkF m 979 (la35 p0 p1 p2 p3 p4 p5 tx kd (Int32.ofNat pre.length) z9 z10 z11 z12 z13 z14 z15 z16 z17 wn wv 1 (-1) 0 te ee z25 z26 z27 z28 z29) [])) := by
  have hEL := own_EW hw
  refine OFin.of (S' := T0.setTop (mkF m 996 (la35 p0 p1 p2 p3 p4 p5 tx kd (Int32.ofNat pre.length) z9 z10 z11 z12 z13 z14 z15 z16 z17 wn wv 1 (-1) 0 te ee (Int32.ofNat pre.length) z26 z27 z28 z29) [])) (fun t ht => iW X0 hx rfl (hb hby at_979) rfl (fY X0 hx rfl 981 992 rfl (hb hby at_981) rfl ((if0 _ _).trans (feq (by decide : ¬ ((1 : Int32) = (0 : Int32)))).2) (by decide) (iW X0 hx rfl (hb hby at_992) rfl (sW X0 hx rfl (hb hby at_994) rfl (l' := (la35 p0 p1 p2 p3 p4 p5 tx kd (Int32.ofNat pre.length) z9 z10 z11 z12 z13 z14 z15 z16 z17 wn wv 1 (-1) 0 te ee (Int32.ofNat pre.length) z26 z27 z28 z29)) rfl ht)))) ?_
  rcases own_kd hh with hk | hk
  · have hpe := own_hz hh hk
    subst hk
    obtain ⟨j1, j4, ja, hj0, hN, g1, g2, g4, g5, hxv, hxl, hvv, hvl, hra, hte, hee⟩ := (hT rfl).ex
    obtain ⟨T128, h128, X128, e128, E128, A128, D128, -, st128⟩ := newO X0 hx hZ hown (wt hw 18 rfl) (wt hw 19 rfl) (wt hw 20 rfl) e0 (g := (mkF m 996 (la35 p0 p1 p2 p3 p4 p5 tx 0 (Int32.ofNat pre.length) z9 z10 z11 z12 z13 z14 z15 z16 z17 wn wv 1 (-1) 0 te ee (Int32.ofNat pre.length) z26 z27 z28 z29) [])) rfl (hb hby at_996) (by decide) (by decide)
    obtain ⟨b128, gq128⟩ : ∃ z, z = h0.size := ⟨_, rfl⟩
    rw [← gq128] at A128 D128 st128
    have g129 : n0 ≤ b128 := (Nat.le_trans Z0 (Nat.le_of_eq gq128.symm))
    have sz130 : hS.size ≤ b128 := (Nat.le_trans K0.1 (Nat.le_of_eq gq128.symm))
    have ne131 : tx ≠ b128 := (Nat.ne_of_lt (Nat.lt_of_lt_of_le fa1.lt (Nat.le_of_eq gq128.symm)))
    have ne132 : wn ≠ b128 := (Nat.ne_of_lt (Nat.lt_of_lt_of_le fa2.lt (Nat.le_of_eq gq128.symm)))
    have ne133 : wv ≠ b128 := (Nat.ne_of_lt (Nat.lt_of_lt_of_le fa3.lt (Nat.le_of_eq gq128.symm)))
    have f134 := fa0.ext E128
    have f135 := fa1.ext E128
    have f136 := fa2.ext E128
    have f137 := fa3.ext E128
    have Z138 := Nat.le_trans Z0 E128.1
    have K139 := K0.ext E128
    have f140 : Fld Z h128 b128 cA "text" "[B" .null := D128 (Or.inr (wt hw 28 rfl)) (ty := (.array .byte)) (by decide)
    have f141 : Fld Z h128 b128 cA "at" "I" (.int (0 : Int32)) := D128 (Or.inl (wt hw 30 rfl)) (ty := .int) (by decide)
    have f142 : Fld Z h128 b128 cA "end" "I" (.int (0 : Int32)) := D128 (Or.inr (wt hw 32 rfl)) (ty := .int) (by decide)
    have f143 : Fld Z h128 b128 cA "tagStart" "I" (.int (0 : Int32)) := D128 (Or.inl (wt hw 47 rfl)) (ty := .int) (by decide)
    have f144 : Fld Z h128 b128 cA "emptyElement" "Z" (.int (0 : Int32)) := D128 (Or.inl (wt hw 49 rfl)) (ty := .boolean) (by decide)
    have f145 : Fld Z h128 b128 cA "kind" cD .null := D128 (Or.inl (wt hw 54 rfl)) (ty := (.object cG)) (by decide)
    have f146 : Fld Z h128 b128 cA "tagEnd" "I" (.int (0 : Int32)) := D128 (Or.inl (wt hw 56 rfl)) (ty := .int) (by decide)
    have f147 : Fld Z h128 b128 cA "nameStart" "I" (.int (0 : Int32)) := D128 (Or.inl (wt hw 66 rfl)) (ty := .int) (by decide)
    have f148 : Fld Z h128 b128 cA "nameEnd" "I" (.int (0 : Int32)) := D128 (Or.inl (wt hw 68 rfl)) (ty := .int) (by decide)
    have f149 : Fld Z h128 b128 cA "nameHash" "I" (.int (0 : Int32)) := D128 (Or.inl (wt hw 70 rfl)) (ty := .int) (by decide)
    have f150 : Fld Z h128 b128 cA "attributesLeft" "Z" (.int (0 : Int32)) := D128 (Or.inl (wt hw 72 rfl)) (ty := .boolean) (by decide)
    have f151 : Fld Z h128 b128 cA "valueStart" "I" (.int (0 : Int32)) := D128 (Or.inl (wt hw 154 rfl)) (ty := .int) (by decide)
    have f152 : Fld Z h128 b128 cA "valueEnd" "I" (.int (0 : Int32)) := D128 (Or.inl (wt hw 156 rfl)) (ty := .int) (by decide)
    have M153 : Mk Z h128 b128 .null (.int (0 : Int32)) (.int (0 : Int32)) .null (.int (0 : Int32)) (.int (0 : Int32)) (.int (0 : Int32)) (.int (0 : Int32)) (.int (0 : Int32)) (.int (0 : Int32)) (.int (0 : Int32)) (.int (0 : Int32)) (.int (0 : Int32)) := ⟨f140, f141, f142, f145, f143, f146, f144, f147, f148, f149, f151, f152, f150⟩
    refine OFin.of st128 ?_
    obtain ⟨_, T154, Lc154, X154, hQ154, st154⟩ := own_cN X128 hx hw hZ hown 21 22 20 23 rfl rfl rfl rfl (by decide) rfl (rmIni l Z _ hw [] b128 tx (0 : Int32) (Int32.ofNat pre.length) h128 n0 Z138 A128 M153 g129) (by decide) (by decide) (g := (mkF m 1005 (la35 p0 p1 p2 p3 p4 p5 tx 0 (Int32.ofNat pre.length) z9 z10 z11 z12 z13 z14 z15 z16 z17 wn wv 1 (-1) 0 te ee (Int32.ofNat pre.length) z26 z27 z28 z29) [(.int (Int32.ofNat pre.length)), (.int (0 : Int32)), (.ref tx), (.ref b128), (.ref b128)])) rfl hml rfl (argsL := [(.ref tx), (.int (0 : Int32)), (.int (Int32.ofNat pre.length))]) (rest := [(.ref b128)]) pd_29 rfl rfl rfl (W := 1) (Nat.le_of_eq rfl) (hb hby at_1005) rfl e128 (by decide) (by decide)
    obtain ⟨rfl, Nq154, Kq154, M154⟩ := hQ154
    have N155 := Fr.app N0 Nq154
    have f156 := (f134.keep Kq154 (own_snS A128 own_sn0))
    have f157 := (f135.keep Kq154 (ninS ne131 nin0))
    have f158 := (f136.keep Kq154 (ninS ne132 nin0))
    have f159 := (f137.keep Kq154 (ninS ne133 nin0))
    have f160 := (A128.keep Kq154)
    have Z161 := Nat.le_trans Z138 Kq154.1
    have K162 := K139.trans Kq154 (allS (Or.inr sz130) all0)
    refine OFin.of (fun t ht => XS.dup X128.here hx rfl (hb hby at_999) rfl rfl (aW X128 hx rfl (hb hby at_1000) rfl rfl (iC X128 hx rfl (hb hby at_1002) (iW X128 hx rfl (hb hby at_1003) rfl (st154.trans ht))))) ?_
    obtain ⟨_, T163, Lc163, X163, hQ163, st163⟩ := own_cV X154 hx hw hZ hown 33 34 36 35 20 37 rfl rfl rfl rfl rfl rfl (by decide) f160 (rmNtS l Z _ hw [] b128 tx kt (24 : Int32) pre .null (0 : Int32) (0 : Int32) (0 : Int32) (0 : Int32) (0 : Int32) (0 : Int32) (0 : Int32) (0 : Int32) (0 : Int32) kS kE kI 2 T154.heap n0 Z161 f160 M154 f157 g129 ne131 f156.1 f156.2.1 f156.2.2.1 (by rw [hpe]; rfl) (by rw [hpe]; simp) (by rw [hpe]; rfl) (by rw [hpe]; simp) hj0) (by decide) (by decide) (g := (mkF m 1012 (la36 p0 p1 p2 p3 p4 p5 tx 0 (Int32.ofNat pre.length) z9 z10 z11 z12 z13 z14 z15 z16 z17 wn wv 1 (-1) 0 te ee (Int32.ofNat pre.length) b128 z27 z28 z29) [(.ref b128)])) rfl hml rfl (argsL := []) (rest := []) pd_4 rfl rfl rfl (W := 0) (Nat.le_of_eq rfl) (hb hby at_1012) rfl (rfl : T154.heap = T154.heap) (by decide) (by decide)
    obtain ⟨hv_163, rfl, Nq163, Kq163, M163⟩ := hQ163
    have N164 := Fr.app N155 Nq163
    have f165 := (f156.keep Kq163 (own_snS f160 own_sn0))
    have f166 := (f157.keep Kq163 (ninS ne131 nin0))
    have f167 := (f158.keep Kq163 (ninS ne132 nin0))
    have f168 := (f159.keep Kq163 (ninS ne133 nin0))
    have f169 := (f160.keep Kq163)
    have Z170 := Nat.le_trans Z161 Kq163.1
    have K171 := K162.trans Kq163 (allS (Or.inr sz130) all0)
    refine OFin.of (fun t ht => XS.astore X154.here hx rfl (hb hby at_1008) rfl rfl (l' := (la36 p0 p1 p2 p3 p4 p5 tx 0 (Int32.ofNat pre.length) z9 z10 z11 z12 z13 z14 z15 z16 z17 wn wv 1 (-1) 0 te ee (Int32.ofNat pre.length) b128 z27 z28 z29)) rfl (aW X154 hx rfl (hb hby at_1010) rfl rfl (st163.trans ht))) ?_
    obtain ⟨_, T172, Lc172, X172, hQ172, st172⟩ := own_cV X163 hx hw hZ hown 73 74 76 75 20 77 rfl rfl rfl rfl rfl rfl (by decide) f169 (rmTe l Z _ hw [] b128 (-1 : Int32) T163.heap n0 Z170 M163.g_tagEnd) (by decide) (by decide) (g := (mkF m 1022 (la36 p0 p1 p2 p3 p4 p5 tx 0 (Int32.ofNat pre.length) z9 z10 z11 z12 z13 z14 z15 z16 z17 wn wv 1 (-1) 0 te ee (Int32.ofNat pre.length) b128 z27 z28 z29) [(.ref b128)])) rfl hml rfl (argsL := []) (rest := []) pd_9 rfl rfl rfl (W := 0) (Nat.le_of_eq rfl) (hb hby at_1022) rfl (rfl : T163.heap = T163.heap) (by decide) (by decide)
    obtain ⟨rfl, Nq172, hs172⟩ := hQ172
    have N173 := Fr.app N164 Nq172
    refine OFin.of (fun t ht => fY X163 hx rfl 1015 1020 rfl (hb hby at_1015) rfl ((if0 _ _).trans (feq (by decide : ¬ ((1 : Int32) = (0 : Int32)))).2) (by decide) (aW X163 hx rfl (hb hby at_1020) rfl rfl (st172.trans ht))) ?_
    obtain ⟨_, T174, Lc174, X174, hQ174, st174⟩ := own_cV X172 hx hw hZ hown 78 79 81 80 20 82 rfl rfl rfl rfl rfl rfl (by decide) f169 (rmNb l Z _ hw [] b128 tx kt (24 : Int32) pre (.ref kS) (-1 : Int32) (0 : Int32) (Int32.ofNat 1) (Int32.ofNat 2) hv_163 (0 : Int32) (0 : Int32) 2 T163.heap n0 Z170 f169 M163 f166 g129 ne131 (by rw [hpe]; simp)) (by decide) (by decide) (g := (mkF m 1029 (la36 p0 p1 p2 p3 p4 p5 tx 0 (Int32.ofNat pre.length) z9 z10 z11 z12 z13 z14 z15 z16 z17 wn wv 1 (-1) 0 te ee (Int32.ofNat pre.length) b128 (-1) z28 z29) [(.ref b128)])) rfl hml rfl (argsL := []) (rest := []) pd_4 rfl rfl rfl (W := 0) (Nat.le_of_eq rfl) (hb hby at_1029) rfl hs172 (by decide) (by decide)
    rcases hQ174 with ⟨ja_174, ns1_174, ne1_174, nh1_174, hF_174, rfl, Nq174, Kq174, M174⟩ | ⟨hF_174, nh1_174, rfl, Nq174, Kq174, M174⟩
    · cases hF_174.symm.trans hN
    · have N175 := Fr.app N173 Nq174
      have f176 := (f165.keep Kq174 (own_snS f169 own_sn0))
      have f177 := (f166.keep Kq174 (ninS ne131 nin0))
      have f178 := (f167.keep Kq174 (ninS ne132 nin0))
      have f179 := (f168.keep Kq174 (ninS ne133 nin0))
      have f180 := (f169.keep Kq174)
      have Z181 := Nat.le_trans Z170 Kq174.1
      have K182 := K171.trans Kq174 (allS (Or.inr sz130) all0)
      rw [g1, g2, g4, g5, own_succ] at M174
      refine OFin.of (fun t ht => sW X172 hx rfl (hb hby at_1025) rfl (l' := (la36 p0 p1 p2 p3 p4 p5 tx 0 (Int32.ofNat pre.length) z9 z10 z11 z12 z13 z14 z15 z16 z17 wn wv 1 (-1) 0 te ee (Int32.ofNat pre.length) b128 (-1) z28 z29)) rfl (aW X172 hx rfl (hb hby at_1027) rfl rfl (st174.trans ht))) ?_
      obtain ⟨_, T183, Lc183, X183, hQ183, st183⟩ := own_cV X174 hx hw hZ hown 73 74 76 75 20 77 rfl rfl rfl rfl rfl rfl (by decide) f180 (rmTe l Z _ hw [] b128 (-1 : Int32) T174.heap n0 Z181 M174.g_tagEnd) (by decide) (by decide) (g := (mkF m 1036 (la36 p0 p1 p2 p3 p4 p5 tx 0 (Int32.ofNat pre.length) z9 z10 z11 z12 z13 z14 z15 z16 z17 wn wv 1 (-1) 0 te ee (Int32.ofNat pre.length) b128 (-1) 1 z29) [(.ref b128)])) rfl hml rfl (argsL := []) (rest := []) pd_9 rfl rfl rfl (W := 0) (Nat.le_of_eq rfl) (hb hby at_1036) rfl (rfl : T174.heap = T174.heap) (by decide) (by decide)
      obtain ⟨rfl, Nq183, hs183⟩ := hQ183
      have N184 := Fr.app N175 Nq183
      refine OFin.of (fun t ht => sW X174 hx rfl (hb hby at_1032) rfl (l' := (la36 p0 p1 p2 p3 p4 p5 tx 0 (Int32.ofNat pre.length) z9 z10 z11 z12 z13 z14 z15 z16 z17 wn wv 1 (-1) 0 te ee (Int32.ofNat pre.length) b128 (-1) 1 z29)) rfl (aW X174 hx rfl (hb hby at_1034) rfl rfl (st183.trans ht))) ?_
      obtain ⟨_, T185, Lc185, X185, hQ185, st185⟩ := own_cV X183 hx hw hZ hown 94 95 97 96 20 98 rfl rfl rfl rfl rfl rfl (by decide) f180 (rmEm l Z _ hw [] b128 (0 : Int32) T174.heap n0 Z181 M174.g_emptyElement rfl) (by decide) (by decide) (g := (mkF m 1043 (la36 p0 p1 p2 p3 p4 p5 tx 0 (Int32.ofNat pre.length) z9 z10 z11 z12 z13 z14 z15 z16 z17 wn wv 1 (-1) 0 te ee (Int32.ofNat pre.length) b128 (-1) 1 (-1)) [(.ref b128)])) rfl hml rfl (argsL := []) (rest := []) pd_4 rfl rfl rfl (W := 0) (Nat.le_of_eq rfl) (hb hby at_1043) rfl hs183 (by decide) (by decide)
      obtain ⟨rfl, Nq185, hs185⟩ := hQ185
      have N186 := Fr.app N184 Nq185
      refine OFin.of (fun t ht => sW X183 hx rfl (hb hby at_1039) rfl (l' := (la36 p0 p1 p2 p3 p4 p5 tx 0 (Int32.ofNat pre.length) z9 z10 z11 z12 z13 z14 z15 z16 z17 wn wv 1 (-1) 0 te ee (Int32.ofNat pre.length) b128 (-1) 1 (-1))) rfl (aW X183 hx rfl (hb hby at_1041) rfl rfl (st185.trans ht))) ?_
      obtain ⟨_, T187, Lc187, X187, hQ187, st187⟩ := own_cV X185 hx hw hZ hown 157 158 160 159 20 161 rfl rfl rfl rfl rfl rfl (by decide) f180 (rmNmG l Z _ hw b128 wn tx kt (24 : Int32) pre j1 kw nL na nb xs T174.heap n0 Z181 M174.g_text M174.g_nameStart M174.g_nameEnd f177 f178 hxl hxv hNm) (by decide) (by decide) (g := (mkF m 1068 (la39 p0 p1 p2 p3 p4 p5 tx 0 (Int32.ofNat pre.length) z9 z10 z11 z12 z13 z14 z15 z16 z17 wn wv 1 (-1) 0 te ee (Int32.ofNat pre.length) b128 (-1) 1 (-1) 0 1 1) [(.ref wn), (.ref b128)])) rfl hml rfl (argsL := [(.ref wn)]) (rest := []) pd_30 rfl rfl rfl (W := 0) (Nat.le_of_eq rfl) (hb hby at_1068) rfl hs185 (by decide) (by decide)
      obtain ⟨rfl, Nq187, hs187⟩ := hQ187
      have N188 := Fr.app N186 Nq187
      refine OFin.of (fun t ht => sW X185 hx rfl (hb hby at_1046) rfl (l' := (la37 p0 p1 p2 p3 p4 p5 tx 0 (Int32.ofNat pre.length) z9 z10 z11 z12 z13 z14 z15 z16 z17 wn wv 1 (-1) 0 te ee (Int32.ofNat pre.length) b128 (-1) 1 (-1) 0)) rfl (iC X185 hx rfl (hb hby at_1048) (sW X185 hx rfl (hb hby at_1049) rfl (l' := (la38 p0 p1 p2 p3 p4 p5 tx 0 (Int32.ofNat pre.length) z9 z10 z11 z12 z13 z14 z15 z16 z17 wn wv 1 (-1) 0 te ee (Int32.ofNat pre.length) b128 (-1) 1 (-1) 0 1)) rfl (iC X185 hx rfl (hb hby at_1051) (sW X185 hx rfl (hb hby at_1052) rfl (l' := (la39 p0 p1 p2 p3 p4 p5 tx 0 (Int32.ofNat pre.length) z9 z10 z11 z12 z13 z14 z15 z16 z17 wn wv 1 (-1) 0 te ee (Int32.ofNat pre.length) b128 (-1) 1 (-1) 0 1 1)) rfl (iW X185 hx rfl (hb hby at_1054) rfl (fN X185 hx rfl (hb hby at_1056) rfl ((if0 _ _).trans (teq (by decide : (0 : Int32) = (0 : Int32))).2) (iW X185 hx rfl (hb hby at_1059) rfl (fN X185 hx rfl (hb hby at_1061) rfl ((if0 _ _).trans (feq (by decide : ¬ ((1 : Int32) = (0 : Int32)))).1) (aW X185 hx rfl (hb hby at_1064) rfl rfl (aW X185 hx rfl (hb hby at_1066) rfl rfl (st187.trans ht)))))))))))) ?_
      refine OFin.of (S' := T187.setTop (mkF m 1073 (la39 p0 p1 p2 p3 p4 p5 tx 0 (Int32.ofNat pre.length) z9 z10 z11 z12 z13 z14 z15 z16 z17 wn wv 1 (-1) 0 te ee (Int32.ofNat pre.length) b128 (-1) 1 (-1) 0 1 1) [])) (fun t ht => sW X187 hx rfl (hb hby at_1071) rfl (l' := (la39 p0 p1 p2 p3 p4 p5 tx 0 (Int32.ofNat pre.length) z9 z10 z11 z12 z13 z14 z15 z16 z17 wn wv 1 (-1) 0 te ee (Int32.ofNat pre.length) b128 (-1) 1 (-1) 0 1 1)) rfl ht) ?_
      obtain ⟨hva, hvb, hvc⟩ := hVs
      rcases hvc with ⟨-, rfl⟩ | ⟨-, -, rfl⟩ | ⟨-, rfl⟩
      · have hR190 := CHr.keep K182 sf0 hC0
        obtain ⟨cq191, kq191, q191a, q191b, q191c⟩ := isOf hZ hs187 f180
        obtain ⟨_, _, ⟨T189, L189, k189, n189⟩, -, X189, Sq189, gr189, ⟨Lc189, hQ189, l189, y189, z189, CH189⟩, st189⟩ := X187.virtualBackS hx (y := mn41) (z := mn41) hown (mvT hZ (wt hw 173 rfl)) (mvT hZ (wt hw 174 rfl)) (notFace_of_selects (args := #[]) (mvT hZ (wt hw 176 rfl))) (mvT hZ (wt hw 176 rfl)) (mvT hZ (wt hw 175 rfl)) (by decide) (backOfSH (s := s) (vm0 := s.vm) (W := 0) (rmVl0 l Z _ hw [] b128 tx kt (24 : Int32) pre (j4 + 1) u8 fm T174.heap n0 Z181 f180 M174.g_text M174.g_valueStart M174.g_valueEnd f177 f176.2.2.2.2.2.2.2 f176.2.2.2.2.2.2.1 f176.2.2.2.2.1 hst.2.1 (Nat.le_of_succ_le hvl)) hZ (wt hw 177 rfl) (wt hw 20 rfl) (by decide) (by decide) hEL hR190.1) q191a q191c (g := (mkF m 1075 (la39 p0 p1 p2 p3 p4 p5 tx 0 (Int32.ofNat pre.length) z9 z10 z11 z12 z13 z14 z15 z16 z17 wn wv 1 (-1) 0 te ee (Int32.ofNat pre.length) b128 (-1) 1 (-1) 0 1 1) [(.ref b128)])) rfl (by rw [hml]; rfl) (Steps.refl _) (argsL := []) (rest := []) (lenOf pd_31 rfl) rfl (by show 2 * 0 + _ ≤ _; exact Nat.le_of_eq rfl) (hb hby at_1075) (fun _ _ => ⟨rfl, hs187, (by decide : 4 + 5 ≤ _), (by decide : 41 + 12 ≤ _)⟩)
        dsimp only [Pt.U, Pt.locs, Pt.cells, Pt.slots] at X189 l189 y189 z189 st189 hQ189 Sq189 gr189 CH189
        subst l189 y189 z189
        have hZ189 : Z.Warmed39 (s.setVm T189.vm).vm := State.Warmed39.trans (t := s.setVm s.vm) hZ Sq189.1
        have hown189 : (s.setVm T189.vm).vm.findClass cC = some m.cls := by rw [show (s.setVm T189.vm).vm = T189.vm from rfl, Sq189.1.alike.findClass]; exact hown
        have S189 : s.Since T189.vm T189.heap.size := State.Since.trans (s := s) (vm₁ := s.vm) ((State.WarmedH.refl s).since T174.heap.size) Sq189 (Nat.le_trans (Nat.le_refl _) (by rw [← hs187]; exact gr189))
        obtain ⟨rfl, Nq189, Kq189, Es189, t189, kb189, f189a, f189b, f189c⟩ := hQ189
        have N192 := Fr.app N188 Nq189
        obtain ⟨b189, gq189⟩ : ∃ z, z = T174.heap.size := ⟨_, rfl⟩
        rw [← gq189] at Es189 f189a f189b st189
        have g193 : n0 ≤ b189 := (Nat.le_trans Z181 (Nat.le_of_eq gq189.symm))
        have sz194 : hS.size ≤ b189 := (Nat.le_trans K182.1 (Nat.le_of_eq gq189.symm))
        have ne195 : tx ≠ b189 := (Nat.ne_of_lt (Nat.lt_of_lt_of_le f177.lt (Nat.le_of_eq gq189.symm)))
        have ne196 : wn ≠ b189 := (Nat.ne_of_lt (Nat.lt_of_lt_of_le f178.lt (Nat.le_of_eq gq189.symm)))
        have ne197 : b128 ≠ b189 := (Nat.ne_of_lt (Nat.lt_of_lt_of_le f180.lt (Nat.le_of_eq gq189.symm)))
        have ne198 : wv ≠ b189 := (Nat.ne_of_lt (Nat.lt_of_lt_of_le f179.lt (Nat.le_of_eq gq189.symm)))
        have hA199 := CH189
        have hR200 := hR190.trans hA199
        have f201 := (f176.keep Kq189 own_sn0)
        have f202 := (f177.keep Kq189 nin0)
        have f203 := (f178.keep Kq189 nin0)
        have f204 := (f180.keep Kq189)
        have f205 := (M174.keep Kq189 nin0)
        have f206 := (f179.keep Kq189 nin0)
        have Z207 := Nat.le_trans Z181 Kq189.1
        have K208 := K182.trans Kq189 all0
        refine OFin.of (fun t ht => aW X187 hx rfl (hb hby at_1073) rfl rfl (st189.trans ht)) ?_
        obtain ⟨T209, h209, X209, e209, E209, A209, D209, -, st209⟩ := newO X189 hx hZ189 hown189 (wt hw 202 rfl) (wt hw 105 rfl) (wt hw 104 rfl) (rfl : T189.heap = T189.heap) (g := (mkF m 1078 (la39 p0 p1 p2 p3 p4 p5 tx 0 (Int32.ofNat pre.length) z9 z10 z11 z12 z13 z14 z15 z16 z17 wn wv 1 (-1) 0 te ee (Int32.ofNat pre.length) b128 (-1) 1 (-1) 0 1 1) [(.ref b189)])) rfl (hb hby at_1078) (by decide) (by decide)
        obtain ⟨b209, gq209⟩ : ∃ z, z = T189.heap.size := ⟨_, rfl⟩
        rw [← gq209] at A209 D209 st209
        have g210 : n0 ≤ b209 := (Nat.le_trans Z207 (Nat.le_of_eq gq209.symm))
        have sz211 : hS.size ≤ b209 := (Nat.le_trans K208.1 (Nat.le_of_eq gq209.symm))
        have ne212 : tx ≠ b209 := (Nat.ne_of_lt (Nat.lt_of_lt_of_le f202.lt (Nat.le_of_eq gq209.symm)))
        have ne213 : wn ≠ b209 := (Nat.ne_of_lt (Nat.lt_of_lt_of_le f203.lt (Nat.le_of_eq gq209.symm)))
        have ne214 : b128 ≠ b209 := (Nat.ne_of_lt (Nat.lt_of_lt_of_le f204.lt (Nat.le_of_eq gq209.symm)))
        have ne215 : wv ≠ b209 := (Nat.ne_of_lt (Nat.lt_of_lt_of_le f206.lt (Nat.le_of_eq gq209.symm)))
        have ne216 : b189 ≠ b209 := (Nat.ne_of_lt (Nat.lt_of_lt_of_le Es189.lt (Nat.le_of_eq gq209.symm)))
        have ne217 : t189 ≠ b209 := (Nat.ne_of_lt (Nat.lt_of_lt_of_le f189c.lt (Nat.le_of_eq gq209.symm)))
        have hA218 := CHr.ext E209 hR200.1
        have hR219 := hR200.trans hA218
        have f220 := f201.ext E209
        have f221 := f202.ext E209
        have f222 := f203.ext E209
        have f223 := f204.ext E209
        have f224 := f205.ext E209
        have f225 := f206.ext E209
        have f226 := Es189.ext E209
        have f227 := f189a.ext E209
        have f228 := f189b.ext E209
        have f229 := f189c.ext E209
        have Z230 := Nat.le_trans Z207 E209.1
        have K231 := K208.ext E209
        have kk232 : T189.heap.size ≤ h209.size := (Nat.le_trans (Nat.le_refl _) E209.1)
        have f233 : Fld Z h209 b209 cB "value" "[B" .null := D209 (Or.inr (wt hw 106 rfl)) (ty := (.array .byte)) (by decide)
        have f234 : Fld Z h209 b209 cB "coder" "B" (.int (0 : Int32)) := D209 (Or.inr (wt hw 107 rfl)) (ty := .byte) (by decide)
        refine OFin.of st209 ?_
        obtain ⟨_, _, ⟨T235, L235, k235, n235⟩, -, X235, Sq235, gr235, ⟨Lc235, hQ235, l235, y235, z235, CH235⟩, st235⟩ := X209.specialBackS hx (y := mn43) rfl hown189 (mvT hZ189 (wt hw 203 rfl)) (mvT hZ189 (wt hw 204 rfl)) (mvT hZ189 (wt hw 205 rfl)) (by decide) (backOfSH (s := s) (vm0 := T189.vm) (W := 2) (rmZ1 l Z _ hw [] b209 wv kc h209 n0 Z230 A209 f234 f233 f225 g210 ne215) hZ189 (wt hw 205 rfl) (wt hw 104 rfl) (by decide) (by decide) hEL hR219.1) (g := (mkF m 1084 (la39 p0 p1 p2 p3 p4 p5 tx 0 (Int32.ofNat pre.length) z9 z10 z11 z12 z13 z14 z15 z16 z17 wn wv 1 (-1) 0 te ee (Int32.ofNat pre.length) b128 (-1) 1 (-1) 0 1 1) [(.ref wv), (.ref b209), (.ref b209), (.ref b189)])) rfl (by rw [hml]; rfl) (Steps.refl _) (a := b209) (argsL := [(.ref wv)]) (rest := [(.ref b209), (.ref b189)]) (lenOf pd_32 rfl) rfl (by show 2 * 0 + _ ≤ _; exact Nat.le_of_eq rfl) (hb hby at_1084) (fun _ _ => ⟨rfl, e209, (by decide : 10 + 4 ≤ _), (by decide : 57 + 8 ≤ _)⟩)
        dsimp only [Pt.U, Pt.locs, Pt.cells, Pt.slots] at X235 l235 y235 z235 st235 hQ235 Sq235 gr235 CH235
        subst l235 y235 z235
        have hZ235 : Z.Warmed39 (s.setVm T235.vm).vm := State.Warmed39.trans (t := s.setVm T189.vm) hZ189 Sq235.1
        have hown235 : (s.setVm T235.vm).vm.findClass cC = some m.cls := by rw [show (s.setVm T235.vm).vm = T235.vm from rfl, Sq235.1.alike.findClass]; exact hown189
        have S235 : s.Since T235.vm T235.heap.size := State.Since.trans (s := s) (vm₁ := T189.vm) S189 Sq235 (Nat.le_trans kk232 (by rw [← e209]; exact gr235))
        obtain ⟨rfl, Nq235, Kq235, t235, kb235, f235a, f235b, f235c⟩ := hQ235
        have N236 := Fr.app N192 Nq235
        have hA237 := CH235
        have hR238 := hR219.trans hA237
        have f239 := (f220.keep Kq235 (own_snS A209 own_sn0))
        have f240 := (f221.keep Kq235 (ninS ne212 nin0))
        have f241 := (f222.keep Kq235 (ninS ne213 nin0))
        have f242 := (f223.keep Kq235)
        have f243 := (f224.keep Kq235 (ninS ne214 nin0))
        have f244 := (f225.keep Kq235 (ninS ne215 nin0))
        have f245 := (f226.keep Kq235)
        have f246 := (f227.keep Kq235 (ninS ne216 nin0))
        have f247 := (f228.keep Kq235 (ninS ne216 nin0))
        have f248 := (f229.keep Kq235 (ninS ne217 nin0))
        have f249 := (A209.keep Kq235)
        have Z250 := Nat.le_trans Z230 Kq235.1
        have K251 := K231.trans Kq235 (allS (Or.inr sz211) all0)
        refine OFin.of (fun t ht => XS.dup X209.here hx rfl (hb hby at_1081) rfl rfl (aW X209 hx rfl (hb hby at_1082) rfl rfl (st235.trans ht))) ?_
        obtain ⟨_, T252, Lc252, X252, hQ252, st252⟩ := own_cV X235 hx hw hZ235 hown235 209 210 212 211 104 213 rfl rfl rfl rfl rfl rfl (by decide) f245 (rmEq0 l Z _ hw [] b189 b209 t189 t235 kb189 kb235 cs T235.heap n0 Z250 f249 f246 f235a f247 f235b f248 f235c f239.2.2.2.1 hst.1 ne216) (by decide) (by decide) (g := (mkF m 1087 (la39 p0 p1 p2 p3 p4 p5 tx 0 (Int32.ofNat pre.length) z9 z10 z11 z12 z13 z14 z15 z16 z17 wn wv 1 (-1) 0 te ee (Int32.ofNat pre.length) b128 (-1) 1 (-1) 0 1 1) [(.ref b209), (.ref b189)])) rfl hml rfl (argsL := [(.ref b209)]) (rest := []) pd_33 rfl rfl rfl (W := 0) (Nat.le_of_eq rfl) (hb hby at_1087) rfl (rfl : T235.heap = T235.heap) (by decide) (by decide)
        obtain ⟨rfl, Nq252, hs252⟩ := hQ252
        have N253 := Fr.app N236 Nq252
        refine OFin.to st252 ?_
        refine OFin.of (S' := T252.setTop (mkF m 1092 (la39 p0 p1 p2 p3 p4 p5 tx 0 (Int32.ofNat pre.length) z9 z10 z11 z12 z13 z14 z15 z16 z17 wn wv 1 (-1) 0 te ee (Int32.ofNat pre.length) b128 (-1) 1 (-1) 0 1 1) [])) (fun t ht => sW X252 hx rfl (hb hby at_1090) rfl (l' := (la39 p0 p1 p2 p3 p4 p5 tx 0 (Int32.ofNat pre.length) z9 z10 z11 z12 z13 z14 z15 z16 z17 wn wv 1 (-1) 0 te ee (Int32.ofNat pre.length) b128 (-1) 1 (-1) 0 1 1)) rfl ht) ?_
        exact segU (s := s) (vm1 := T235.vm) Z _ hw hx hby hlk hret hml hown235 hZ235 n0  (X252.more (by decide) (by decide)) hs252 Z250 N253 f239 f240 f242 f243 ne131 ga0 g129 hst hvl hra hte hee S235 (Nat.le_refl _) hQ
      · obtain ⟨_, T254, Lc254, X254, hQ254, st254⟩ := own_cV X187 hx hw hZ hown 173 174 176 175 20 177 rfl rfl rfl rfl rfl rfl (by decide) f180 (rmVl1 l Z _ hw [] b128 tx kt (24 : Int32) pre (j4 + 1) u8 fm cs va T174.heap n0 Z181 f180 M174.g_text M174.g_valueStart M174.g_valueEnd f177 f176.2.2.2.2.2.2.2 f176.2.2.2.2.2.2.1 f176.2.2.2.2.1 hst.2.1 (Nat.le_of_succ_le hvl) f176.2.2.2.1 hst.1 f176.2.2.2.2.2.1 (Nat.succ_pos _) (hvv 0 (by simp)) hva.1) (by decide) (by decide) (g := (mkF m 1075 (la39 p0 p1 p2 p3 p4 p5 tx 0 (Int32.ofNat pre.length) z9 z10 z11 z12 z13 z14 z15 z16 z17 wn wv 1 (-1) 0 te ee (Int32.ofNat pre.length) b128 (-1) 1 (-1) 0 1 1) [(.ref b128)])) rfl hml rfl (argsL := []) (rest := []) pd_31 rfl rfl rfl (W := 0) (Nat.le_of_eq rfl) (hb hby at_1075) rfl hs187 (by decide) (by decide)
        obtain ⟨rfl, Nq254, Kq254, Es254, t254, kb254, f254a, f254b, f254c⟩ := hQ254
        have N255 := Fr.app N188 Nq254
        obtain ⟨b254, gq254⟩ : ∃ z, z = T174.heap.size := ⟨_, rfl⟩
        rw [← gq254] at Es254 f254a f254b st254
        have g256 : n0 ≤ b254 := (Nat.le_trans Z181 (Nat.le_of_eq gq254.symm))
        have sz257 : hS.size ≤ b254 := (Nat.le_trans K182.1 (Nat.le_of_eq gq254.symm))
        have ne258 : tx ≠ b254 := (Nat.ne_of_lt (Nat.lt_of_lt_of_le f177.lt (Nat.le_of_eq gq254.symm)))
        have ne259 : wn ≠ b254 := (Nat.ne_of_lt (Nat.lt_of_lt_of_le f178.lt (Nat.le_of_eq gq254.symm)))
        have ne260 : b128 ≠ b254 := (Nat.ne_of_lt (Nat.lt_of_lt_of_le f180.lt (Nat.le_of_eq gq254.symm)))
        have ne261 : wv ≠ b254 := (Nat.ne_of_lt (Nat.lt_of_lt_of_le f179.lt (Nat.le_of_eq gq254.symm)))
        have f262 := (f176.keep Kq254 own_sn0)
        have f263 := (f177.keep Kq254 nin0)
        have f264 := (f178.keep Kq254 nin0)
        have f265 := (f180.keep Kq254)
        have f266 := (M174.keep Kq254 nin0)
        have f267 := (f179.keep Kq254 nin0)
        have Z268 := Nat.le_trans Z181 Kq254.1
        have K269 := K182.trans Kq254 all0
        refine OFin.of (fun t ht => aW X187 hx rfl (hb hby at_1073) rfl rfl (st254.trans ht)) ?_
        obtain ⟨T270, h270, X270, e270, E270, A270, D270, -, st270⟩ := newO X254 hx hZ hown (wt hw 202 rfl) (wt hw 105 rfl) (wt hw 104 rfl) (rfl : T254.heap = T254.heap) (g := (mkF m 1078 (la39 p0 p1 p2 p3 p4 p5 tx 0 (Int32.ofNat pre.length) z9 z10 z11 z12 z13 z14 z15 z16 z17 wn wv 1 (-1) 0 te ee (Int32.ofNat pre.length) b128 (-1) 1 (-1) 0 1 1) [(.ref b254)])) rfl (hb hby at_1078) (by decide) (by decide)
        obtain ⟨b270, gq270⟩ : ∃ z, z = T254.heap.size := ⟨_, rfl⟩
        rw [← gq270] at A270 D270 st270
        have g271 : n0 ≤ b270 := (Nat.le_trans Z268 (Nat.le_of_eq gq270.symm))
        have sz272 : hS.size ≤ b270 := (Nat.le_trans K269.1 (Nat.le_of_eq gq270.symm))
        have ne273 : tx ≠ b270 := (Nat.ne_of_lt (Nat.lt_of_lt_of_le f263.lt (Nat.le_of_eq gq270.symm)))
        have ne274 : wn ≠ b270 := (Nat.ne_of_lt (Nat.lt_of_lt_of_le f264.lt (Nat.le_of_eq gq270.symm)))
        have ne275 : b128 ≠ b270 := (Nat.ne_of_lt (Nat.lt_of_lt_of_le f265.lt (Nat.le_of_eq gq270.symm)))
        have ne276 : wv ≠ b270 := (Nat.ne_of_lt (Nat.lt_of_lt_of_le f267.lt (Nat.le_of_eq gq270.symm)))
        have ne277 : b254 ≠ b270 := (Nat.ne_of_lt (Nat.lt_of_lt_of_le Es254.lt (Nat.le_of_eq gq270.symm)))
        have ne278 : t254 ≠ b270 := (Nat.ne_of_lt (Nat.lt_of_lt_of_le f254c.lt (Nat.le_of_eq gq270.symm)))
        have f279 := f262.ext E270
        have f280 := f263.ext E270
        have f281 := f264.ext E270
        have f282 := f265.ext E270
        have f283 := f266.ext E270
        have f284 := f267.ext E270
        have f285 := Es254.ext E270
        have f286 := f254a.ext E270
        have f287 := f254b.ext E270
        have f288 := f254c.ext E270
        have Z289 := Nat.le_trans Z268 E270.1
        have K290 := K269.ext E270
        have f291 : Fld Z h270 b270 cB "value" "[B" .null := D270 (Or.inr (wt hw 106 rfl)) (ty := (.array .byte)) (by decide)
        have f292 : Fld Z h270 b270 cB "coder" "B" (.int (0 : Int32)) := D270 (Or.inr (wt hw 107 rfl)) (ty := .byte) (by decide)
        refine OFin.of st270 ?_
        obtain ⟨_, T293, Lc293, X293, hQ293, st293⟩ := own_cN X270 hx hw hZ hown 203 204 104 205 rfl rfl rfl rfl (by decide) rfl (rmSi1 l Z _ hw [] b270 wv kc cs va h270 n0 Z289 A270 f292 f291 f284 g271 ne276 f279.2.2.2.1 hst.1 (own_v255 hva)) (by decide) (by decide) (g := (mkF m 1084 (la39 p0 p1 p2 p3 p4 p5 tx 0 (Int32.ofNat pre.length) z9 z10 z11 z12 z13 z14 z15 z16 z17 wn wv 1 (-1) 0 te ee (Int32.ofNat pre.length) b128 (-1) 1 (-1) 0 1 1) [(.ref wv), (.ref b270), (.ref b270), (.ref b254)])) rfl hml rfl (argsL := [(.ref wv)]) (rest := [(.ref b270), (.ref b254)]) pd_32 rfl rfl rfl (W := 2) (Nat.le_of_eq rfl) (hb hby at_1084) rfl e270 (by decide) (by decide)
        obtain ⟨rfl, Nq293, Kq293, f294, f295, ⟨kb_293, f296⟩⟩ := hQ293
        have N297 := Fr.app N255 Nq293
        obtain ⟨b293, gq293⟩ : ∃ z, z = h270.size := ⟨_, rfl⟩
        rw [← gq293] at f295 f296
        have g298 : n0 ≤ b293 := (Nat.le_trans Z289 (Nat.le_of_eq gq293.symm))
        have sz299 : hS.size ≤ b293 := (Nat.le_trans K290.1 (Nat.le_of_eq gq293.symm))
        have ne300 : tx ≠ b293 := (Nat.ne_of_lt (Nat.lt_of_lt_of_le f280.lt (Nat.le_of_eq gq293.symm)))
        have ne301 : wn ≠ b293 := (Nat.ne_of_lt (Nat.lt_of_lt_of_le f281.lt (Nat.le_of_eq gq293.symm)))
        have ne302 : b128 ≠ b293 := (Nat.ne_of_lt (Nat.lt_of_lt_of_le f282.lt (Nat.le_of_eq gq293.symm)))
        have ne303 : wv ≠ b293 := (Nat.ne_of_lt (Nat.lt_of_lt_of_le f284.lt (Nat.le_of_eq gq293.symm)))
        have ne304 : b254 ≠ b293 := (Nat.ne_of_lt (Nat.lt_of_lt_of_le f285.lt (Nat.le_of_eq gq293.symm)))
        have ne305 : t254 ≠ b293 := (Nat.ne_of_lt (Nat.lt_of_lt_of_le f288.lt (Nat.le_of_eq gq293.symm)))
        have ne306 : b270 ≠ b293 := (Nat.ne_of_lt (Nat.lt_of_lt_of_le A270.lt (Nat.le_of_eq gq293.symm)))
        have f307 := (f279.keep Kq293 (own_snS A270 own_sn0))
        have f308 := (f280.keep Kq293 (ninS ne273 nin0))
        have f309 := (f281.keep Kq293 (ninS ne274 nin0))
        have f310 := (f282.keep Kq293)
        have f311 := (f283.keep Kq293 (ninS ne275 nin0))
        have f312 := (f284.keep Kq293 (ninS ne276 nin0))
        have f313 := (f285.keep Kq293)
        have f314 := (f286.keep Kq293 (ninS ne277 nin0))
        have f315 := (f287.keep Kq293 (ninS ne277 nin0))
        have f316 := (f288.keep Kq293 (ninS ne278 nin0))
        have f317 := (A270.keep Kq293)
        have Z318 := Nat.le_trans Z289 Kq293.1
        have K319 := K290.trans Kq293 (allS (Or.inr sz272) all0)
        refine OFin.of (fun t ht => XS.dup X270.here hx rfl (hb hby at_1081) rfl rfl (aW X270 hx rfl (hb hby at_1082) rfl rfl (st293.trans ht))) ?_
        have fe321 : Arv Z T293.heap b293 kb_293 .byte (1 : Int32) [(.int va)] (.int (0 : Int32)) := (by have z := f296; rw [own_vb hva] at z; exact z)
        obtain ⟨_, T320, Lc320, X320, hQ320, st320⟩ := own_cV X293 hx hw hZ hown 209 210 212 211 104 213 rfl rfl rfl rfl rfl rfl (by decide) f313 (rmEq1 l Z _ hw [] b254 b270 t254 b293 kb254 kb_293 cs va T293.heap n0 Z318 f317 f314 f294 f315 f295 f316 fe321 f307.2.2.2.1 hst.1 ne277) (by decide) (by decide) (g := (mkF m 1087 (la39 p0 p1 p2 p3 p4 p5 tx 0 (Int32.ofNat pre.length) z9 z10 z11 z12 z13 z14 z15 z16 z17 wn wv 1 (-1) 0 te ee (Int32.ofNat pre.length) b128 (-1) 1 (-1) 0 1 1) [(.ref b270), (.ref b254)])) rfl hml rfl (argsL := [(.ref b270)]) (rest := []) pd_33 rfl rfl rfl (W := 0) (Nat.le_of_eq rfl) (hb hby at_1087) rfl (rfl : T293.heap = T293.heap) (by decide) (by decide)
        obtain ⟨rfl, Nq320, hs320⟩ := hQ320
        have N322 := Fr.app N297 Nq320
        refine OFin.to st320 ?_
        refine OFin.of (S' := T320.setTop (mkF m 1092 (la39 p0 p1 p2 p3 p4 p5 tx 0 (Int32.ofNat pre.length) z9 z10 z11 z12 z13 z14 z15 z16 z17 wn wv 1 (-1) 0 te ee (Int32.ofNat pre.length) b128 (-1) 1 (-1) 0 1 1) [])) (fun t ht => sW X320 hx rfl (hb hby at_1090) rfl (l' := (la39 p0 p1 p2 p3 p4 p5 tx 0 (Int32.ofNat pre.length) z9 z10 z11 z12 z13 z14 z15 z16 z17 wn wv 1 (-1) 0 te ee (Int32.ofNat pre.length) b128 (-1) 1 (-1) 0 1 1)) rfl ht) ?_
        exact segU (s := s) (vm1 := s.vm) Z _ hw hx hby hlk hret hml hown hZ n0  (X320.more (by decide) (by decide)) hs320 Z318 N322 f307 f308 f310 f311 ne131 ga0 g129 hst hvl hra hte hee ((State.WarmedH.refl s).since T293.heap.size) (Nat.le_refl _) hQ
      · obtain ⟨_, T323, Lc323, X323, hQ323, st323⟩ := own_cV X187 hx hw hZ hown 173 174 176 175 20 177 rfl rfl rfl rfl rfl rfl (by decide) f180 (rmVl2 l Z _ hw [] b128 tx kt (24 : Int32) pre (j4 + 1) u8 fm cs va vb T174.heap n0 Z181 f180 M174.g_text M174.g_valueStart M174.g_valueEnd f177 f176.2.2.2.2.2.2.2 f176.2.2.2.2.2.2.1 f176.2.2.2.2.1 hst.2.1 (Nat.le_of_succ_le hvl) f176.2.2.2.1 hst.1 f176.2.2.2.2.2.1 (Nat.succ_pos _) (hvv 0 (by simp)) (hvv 1 (by simp)) hva.1 hvb.1) (by decide) (by decide) (g := (mkF m 1075 (la39 p0 p1 p2 p3 p4 p5 tx 0 (Int32.ofNat pre.length) z9 z10 z11 z12 z13 z14 z15 z16 z17 wn wv 1 (-1) 0 te ee (Int32.ofNat pre.length) b128 (-1) 1 (-1) 0 1 1) [(.ref b128)])) rfl hml rfl (argsL := []) (rest := []) pd_31 rfl rfl rfl (W := 0) (Nat.le_of_eq rfl) (hb hby at_1075) rfl hs187 (by decide) (by decide)
        obtain ⟨rfl, Nq323, Kq323, Es323, t323, kb323, f323a, f323b, f323c⟩ := hQ323
        have N324 := Fr.app N188 Nq323
        obtain ⟨b323, gq323⟩ : ∃ z, z = T174.heap.size := ⟨_, rfl⟩
        rw [← gq323] at Es323 f323a f323b st323
        have g325 : n0 ≤ b323 := (Nat.le_trans Z181 (Nat.le_of_eq gq323.symm))
        have sz326 : hS.size ≤ b323 := (Nat.le_trans K182.1 (Nat.le_of_eq gq323.symm))
        have ne327 : tx ≠ b323 := (Nat.ne_of_lt (Nat.lt_of_lt_of_le f177.lt (Nat.le_of_eq gq323.symm)))
        have ne328 : wn ≠ b323 := (Nat.ne_of_lt (Nat.lt_of_lt_of_le f178.lt (Nat.le_of_eq gq323.symm)))
        have ne329 : b128 ≠ b323 := (Nat.ne_of_lt (Nat.lt_of_lt_of_le f180.lt (Nat.le_of_eq gq323.symm)))
        have ne330 : wv ≠ b323 := (Nat.ne_of_lt (Nat.lt_of_lt_of_le f179.lt (Nat.le_of_eq gq323.symm)))
        have f331 := (f176.keep Kq323 own_sn0)
        have f332 := (f177.keep Kq323 nin0)
        have f333 := (f178.keep Kq323 nin0)
        have f334 := (f180.keep Kq323)
        have f335 := (M174.keep Kq323 nin0)
        have f336 := (f179.keep Kq323 nin0)
        have Z337 := Nat.le_trans Z181 Kq323.1
        have K338 := K182.trans Kq323 all0
        refine OFin.of (fun t ht => aW X187 hx rfl (hb hby at_1073) rfl rfl (st323.trans ht)) ?_
        obtain ⟨T339, h339, X339, e339, E339, A339, D339, -, st339⟩ := newO X323 hx hZ hown (wt hw 202 rfl) (wt hw 105 rfl) (wt hw 104 rfl) (rfl : T323.heap = T323.heap) (g := (mkF m 1078 (la39 p0 p1 p2 p3 p4 p5 tx 0 (Int32.ofNat pre.length) z9 z10 z11 z12 z13 z14 z15 z16 z17 wn wv 1 (-1) 0 te ee (Int32.ofNat pre.length) b128 (-1) 1 (-1) 0 1 1) [(.ref b323)])) rfl (hb hby at_1078) (by decide) (by decide)
        obtain ⟨b339, gq339⟩ : ∃ z, z = T323.heap.size := ⟨_, rfl⟩
        rw [← gq339] at A339 D339 st339
        have g340 : n0 ≤ b339 := (Nat.le_trans Z337 (Nat.le_of_eq gq339.symm))
        have sz341 : hS.size ≤ b339 := (Nat.le_trans K338.1 (Nat.le_of_eq gq339.symm))
        have ne342 : tx ≠ b339 := (Nat.ne_of_lt (Nat.lt_of_lt_of_le f332.lt (Nat.le_of_eq gq339.symm)))
        have ne343 : wn ≠ b339 := (Nat.ne_of_lt (Nat.lt_of_lt_of_le f333.lt (Nat.le_of_eq gq339.symm)))
        have ne344 : b128 ≠ b339 := (Nat.ne_of_lt (Nat.lt_of_lt_of_le f334.lt (Nat.le_of_eq gq339.symm)))
        have ne345 : wv ≠ b339 := (Nat.ne_of_lt (Nat.lt_of_lt_of_le f336.lt (Nat.le_of_eq gq339.symm)))
        have ne346 : b323 ≠ b339 := (Nat.ne_of_lt (Nat.lt_of_lt_of_le Es323.lt (Nat.le_of_eq gq339.symm)))
        have ne347 : t323 ≠ b339 := (Nat.ne_of_lt (Nat.lt_of_lt_of_le f323c.lt (Nat.le_of_eq gq339.symm)))
        have f348 := f331.ext E339
        have f349 := f332.ext E339
        have f350 := f333.ext E339
        have f351 := f334.ext E339
        have f352 := f335.ext E339
        have f353 := f336.ext E339
        have f354 := Es323.ext E339
        have f355 := f323a.ext E339
        have f356 := f323b.ext E339
        have f357 := f323c.ext E339
        have Z358 := Nat.le_trans Z337 E339.1
        have K359 := K338.ext E339
        have f360 : Fld Z h339 b339 cB "value" "[B" .null := D339 (Or.inr (wt hw 106 rfl)) (ty := (.array .byte)) (by decide)
        have f361 : Fld Z h339 b339 cB "coder" "B" (.int (0 : Int32)) := D339 (Or.inr (wt hw 107 rfl)) (ty := .byte) (by decide)
        refine OFin.of st339 ?_
        obtain ⟨_, T362, Lc362, X362, hQ362, st362⟩ := own_cN X339 hx hw hZ hown 203 204 104 205 rfl rfl rfl rfl (by decide) rfl (rmSi2 l Z _ hw [] b339 wv kc cs va vb h339 n0 Z358 A339 f361 f360 f353 g340 ne345 f348.2.2.2.1 hst.1 (own_v255 hva) (own_v255 hvb)) (by decide) (by decide) (g := (mkF m 1084 (la39 p0 p1 p2 p3 p4 p5 tx 0 (Int32.ofNat pre.length) z9 z10 z11 z12 z13 z14 z15 z16 z17 wn wv 1 (-1) 0 te ee (Int32.ofNat pre.length) b128 (-1) 1 (-1) 0 1 1) [(.ref wv), (.ref b339), (.ref b339), (.ref b323)])) rfl hml rfl (argsL := [(.ref wv)]) (rest := [(.ref b339), (.ref b323)]) pd_32 rfl rfl rfl (W := 2) (Nat.le_of_eq rfl) (hb hby at_1084) rfl e339 (by decide) (by decide)
        obtain ⟨rfl, Nq362, Kq362, f363, f364, ⟨kb_362, f365⟩⟩ := hQ362
        have N366 := Fr.app N324 Nq362
        obtain ⟨b362, gq362⟩ : ∃ z, z = h339.size := ⟨_, rfl⟩
        rw [← gq362] at f364 f365
        have g367 : n0 ≤ b362 := (Nat.le_trans Z358 (Nat.le_of_eq gq362.symm))
        have sz368 : hS.size ≤ b362 := (Nat.le_trans K359.1 (Nat.le_of_eq gq362.symm))
        have ne369 : tx ≠ b362 := (Nat.ne_of_lt (Nat.lt_of_lt_of_le f349.lt (Nat.le_of_eq gq362.symm)))
        have ne370 : wn ≠ b362 := (Nat.ne_of_lt (Nat.lt_of_lt_of_le f350.lt (Nat.le_of_eq gq362.symm)))
        have ne371 : b128 ≠ b362 := (Nat.ne_of_lt (Nat.lt_of_lt_of_le f351.lt (Nat.le_of_eq gq362.symm)))
        have ne372 : wv ≠ b362 := (Nat.ne_of_lt (Nat.lt_of_lt_of_le f353.lt (Nat.le_of_eq gq362.symm)))
        have ne373 : b323 ≠ b362 := (Nat.ne_of_lt (Nat.lt_of_lt_of_le f354.lt (Nat.le_of_eq gq362.symm)))
        have ne374 : t323 ≠ b362 := (Nat.ne_of_lt (Nat.lt_of_lt_of_le f357.lt (Nat.le_of_eq gq362.symm)))
        have ne375 : b339 ≠ b362 := (Nat.ne_of_lt (Nat.lt_of_lt_of_le A339.lt (Nat.le_of_eq gq362.symm)))
        have f376 := (f348.keep Kq362 (own_snS A339 own_sn0))
        have f377 := (f349.keep Kq362 (ninS ne342 nin0))
        have f378 := (f350.keep Kq362 (ninS ne343 nin0))
        have f379 := (f351.keep Kq362)
        have f380 := (f352.keep Kq362 (ninS ne344 nin0))
        have f381 := (f353.keep Kq362 (ninS ne345 nin0))
        have f382 := (f354.keep Kq362)
        have f383 := (f355.keep Kq362 (ninS ne346 nin0))
        have f384 := (f356.keep Kq362 (ninS ne346 nin0))
        have f385 := (f357.keep Kq362 (ninS ne347 nin0))
        have f386 := (A339.keep Kq362)
        have Z387 := Nat.le_trans Z358 Kq362.1
        have K388 := K359.trans Kq362 (allS (Or.inr sz341) all0)
        refine OFin.of (fun t ht => XS.dup X339.here hx rfl (hb hby at_1081) rfl rfl (aW X339 hx rfl (hb hby at_1082) rfl rfl (st362.trans ht))) ?_
        have fe390 : Arv Z T362.heap b362 kb_362 .byte (2 : Int32) [(.int va), (.int vb)] (.int (0 : Int32)) := (by have z := f365; rw [own_vb hva, own_vb hvb] at z; exact z)
        obtain ⟨_, T389, Lc389, X389, hQ389, st389⟩ := own_cV X362 hx hw hZ hown 209 210 212 211 104 213 rfl rfl rfl rfl rfl rfl (by decide) f382 (rmEq2 l Z _ hw [] b323 b339 t323 b362 kb323 kb_362 cs va vb T362.heap n0 Z387 f386 f383 f363 f384 f364 f385 fe390 f376.2.2.2.1 hst.1 ne346) (by decide) (by decide) (g := (mkF m 1087 (la39 p0 p1 p2 p3 p4 p5 tx 0 (Int32.ofNat pre.length) z9 z10 z11 z12 z13 z14 z15 z16 z17 wn wv 1 (-1) 0 te ee (Int32.ofNat pre.length) b128 (-1) 1 (-1) 0 1 1) [(.ref b339), (.ref b323)])) rfl hml rfl (argsL := [(.ref b339)]) (rest := []) pd_33 rfl rfl rfl (W := 0) (Nat.le_of_eq rfl) (hb hby at_1087) rfl (rfl : T362.heap = T362.heap) (by decide) (by decide)
        obtain ⟨rfl, Nq389, hs389⟩ := hQ389
        have N391 := Fr.app N366 Nq389
        refine OFin.to st389 ?_
        refine OFin.of (S' := T389.setTop (mkF m 1092 (la39 p0 p1 p2 p3 p4 p5 tx 0 (Int32.ofNat pre.length) z9 z10 z11 z12 z13 z14 z15 z16 z17 wn wv 1 (-1) 0 te ee (Int32.ofNat pre.length) b128 (-1) 1 (-1) 0 1 1) [])) (fun t ht => sW X389 hx rfl (hb hby at_1090) rfl (l' := (la39 p0 p1 p2 p3 p4 p5 tx 0 (Int32.ofNat pre.length) z9 z10 z11 z12 z13 z14 z15 z16 z17 wn wv 1 (-1) 0 te ee (Int32.ofNat pre.length) b128 (-1) 1 (-1) 0 1 1)) rfl ht) ?_
        exact segU (s := s) (vm1 := s.vm) Z _ hw hx hby hlk hret hml hown hZ n0  (X389.more (by decide) (by decide)) hs389 Z387 N391 f376 f377 f379 f380 ne131 ga0 g129 hst hvl hra hte hee ((State.WarmedH.refl s).since T362.heap.size) (Nat.le_refl _) hQ
  · exact segK Z _ hw hx hby hlk hret hml hown hZ n0  (X0.more (by decide) (by decide)) e0 Z0 N0 fa0 fa1 ga0 sztx hst (Nat.le_trans hl (by decide)) hh hk (Or.inr ⟨_, rfl⟩) (Or.inr ⟨_, rfl⟩) (Or.inr ⟨_, rfl⟩) (Or.inr ⟨_, rfl⟩) K0 hC0 hQ
theorem seg885 {p : Program} {l : Launch} {e : Env} {s : State} {m : MethodId} {args : Array Value} {below : List Frame} {meth : Method} {c : Code} (Z : State) (a0 : Array Value) (hw : ∀ d ∈ tables_1, d.before a0 Z = true) (hx : p.tables.exec = Jvm.exec) (hby : c.code = code) (hlk : meth.locks = false) (hret : meth.sig.returnType = some .boolean) (hml : c.maxLocals = 36) (hown : s.vm.findClass cC = some m.cls) (hZ : Z.Warmed39 s.vm) {Q : Option Value → Heap → List Loc → Prop} (n0 : Nat) {hS : Heap} {kS kE kI : Addr} {cs : Int32} {fm : Value} {u8 : Addr} {p0 p1 p2 p3 p4 p5 : Int32} {tx : Addr} {kd fi : Int32} {z10 : Slot} {na nb nL q va vb vL : Int32} {wn wv : Addr} {z25 z26 z27 z28 : Int32} {kt : ClassId} {pre D : List Int32} {kw : ClassId} {xs : List Int32} {kc : ClassId} {vs : List Int32} {T0 : State} {locs : List Loc} {h0 : Heap} (X0 : Stand p l e room_1 s m args below meth c T0 locs 3 28) (e0 : T0.heap = h0) (Z0 : n0 ≤ h0.size) (N0 : Fr n0 locs) (fa0 : Sts Z h0 kS kE kI cs fm u8) (fa1 : Txt Z h0 tx kt (24 : Int32) pre) (fa2 : Lst .byte Z h0 wn kw xs) (fa3 : Lst .char Z h0 wv kc vs) (na0 : wn ≠ tx) (na1 : wv ≠ tx) (ga0 : n0 ≤ tx) (sztx : hS.size ≤ tx) (hst : OwnSt kS kE kI cs fm) (hl : pre.length ≤ 17) (hh : OwnHead kd pre D) (hSh : OwnQ xs q vs D) (hNm : OwnNm nL na nb xs) (hVs : OwnVs vL va vb q vs) (hQt : q = 34 ∨ q = 39) (K0 : Keep hS h0 []) (hC0 : CHv Z consts_1 s.vm hS) (hQ : ∀ (h' : Heap) (L : List Loc), Fr n0 L → Q (some (.int (1 : Int32))) h' L) :
    OFin p e below (KPostW s Q room_1.cells room_1.slots) (T0.setTop (mkF m 885 (la40 p0 p1 p2 p3 p4 p5 tx kd (Int32.ofNat pre.length) fi z10 na nb nL q va vb vL wn wv 1 (-1) 0 (-1) 0 z25 z26 z27 z28) [])) := by
  have hEL := own_EW hw
  refine OFin.of (S' := T0.setTop (mkF m 889 (la40 p0 p1 p2 p3 p4 p5 tx kd (Int32.ofNat pre.length) fi z10 na nb nL q va vb vL wn wv 1 (-1) 0 (-1) 0 z25 z26 z27 z28) [(.int (p5 &&& (3 : Int32)))])) (fun t ht => iW X0 hx rfl (hb hby at_885) rfl (iC X0 hx rfl (hb hby at_887) (XS.iand X0.here hx rfl (hb hby at_888) rfl ht))) ?_
  obtain ⟨tl, h_tl⟩ : ∃ z : Int32, z = (p5 &&& (3 : Int32)) := ⟨_, rfl⟩
  rw [← h_tl]
  refine OFin.of (S' := T0.setTop (mkF m 893 (la41 p0 p1 p2 p3 p4 p5 tx kd (Int32.ofNat pre.length) fi z10 na nb nL q va vb vL wn wv 1 (-1) 0 (-1) 0 z25 z26 z27 z28 tl) [(.int tl)])) (fun t ht => sW X0 hx rfl (hb hby at_889) rfl (l' := (la41 p0 p1 p2 p3 p4 p5 tx kd (Int32.ofNat pre.length) fi z10 na nb nL q va vb vL wn wv 1 (-1) 0 (-1) 0 z25 z26 z27 z28 tl)) rfl (iW X0 hx rfl (hb hby at_891) rfl ht)) ?_
  by_cases hc392 : tl = (0 : Int32)
  · obtain ⟨T393, h393, X393, e393, W393, G393, st393⟩ := own_stT X0 hx hZ e0 fa1 (j := (Int32.ofNat pre.length)) rfl (own_l24 hl (by decide)) (g := (mkF m 905 (la41 p0 p1 p2 p3 p4 p5 tx kd ((Int32.ofNat pre.length) + (1 : Int32)) fi z10 na nb nL q va vb vL wn wv 1 (-1) 0 (-1) 0 z25 z26 z27 z28 tl) [(.int (62 : Int32)), (.int (Int32.ofNat pre.length)), (.ref tx)])) rfl rfl (hb hby at_905)
    have f394 := (fa0.wr W393)
    have f395 := (fa2.other W393 na0)
    have f396 := (fa3.other W393 na1)
    have Z397 := Nat.le_trans Z0 (Keep.of_wr W393).1
    have K398 := K0.wr W393 (Or.inr sztx)
    have N399 := Fr.snoc X393 N0 ga0
    have f400 : Txt Z h393 tx kt (24 : Int32) (pre ++ [(62 : Int32)]) := G393
    refine OFin.of (fun t ht => fN X0 hx rfl (hb hby at_893) rfl ((if0 _ _).trans (teq hc392).2) (aW X0 hx rfl (hb hby at_896) rfl rfl (iW X0 hx rfl (hb hby at_898) rfl (iI X0 hx rfl (hb hby at_900) rfl (l' := (la41 p0 p1 p2 p3 p4 p5 tx kd ((Int32.ofNat pre.length) + (1 : Int32)) fi z10 na nb nL q va vb vL wn wv 1 (-1) 0 (-1) 0 z25 z26 z27 z28 tl)) rfl (bP X0 hx rfl (hb hby at_903) (st393 t ht)))))) ?_
    rw [own_pos pre (62 : Int32)]
    refine OFin.of (S' := T393.setTop (mkF m 979 (la41 p0 p1 p2 p3 p4 p5 tx kd (Int32.ofNat (pre ++ [(62 : Int32)]).length) fi z10 na nb nL q va vb vL wn wv 1 (-1) 0 (Int32.ofNat (pre ++ [(62 : Int32)]).length) 0 z25 z26 z27 z28 tl) [])) (fun t ht => iW X393 hx rfl (hb hby at_906) rfl (sW X393 hx rfl (hb hby at_908) rfl (l' := (la41 p0 p1 p2 p3 p4 p5 tx kd (Int32.ofNat (pre ++ [(62 : Int32)]).length) fi z10 na nb nL q va vb vL wn wv 1 (-1) 0 (Int32.ofNat (pre ++ [(62 : Int32)]).length) 0 z25 z26 z27 z28 tl)) rfl (gO X393 hx rfl 910 979 rfl (hb hby at_910) (by decide) ht))) ?_
    exact segT Z _ hw hx hby hlk hret hml hown hZ n0  (X393.more (by decide) (by decide)) e393 Z397 N399 f394 f400 f395 f396 ga0 sztx hst (Nat.le_trans (own_la hl) (by decide)) (own_ha hh) (fun hk_ => own_T0 (own_hz (own_ha hh) hk_) hSh hNm hVs hQt (Nat.le_trans (own_la hl) (by decide))) hNm hVs K398 hC0 hQ
  · refine OFin.of (S' := T0.setTop (mkF m 916 (la41 p0 p1 p2 p3 p4 p5 tx kd (Int32.ofNat pre.length) fi z10 na nb nL q va vb vL wn wv 1 (-1) 0 (-1) 0 z25 z26 z27 z28 tl) [(.int (1 : Int32)), (.int tl)])) (fun t ht => fY X0 hx rfl 893 913 rfl (hb hby at_893) rfl ((if0 _ _).trans (feq hc392).2) (by decide) (iW X0 hx rfl (hb hby at_913) rfl (iC X0 hx rfl (hb hby at_915) ht))) ?_
    by_cases hc401 : tl = (1 : Int32)
    · obtain ⟨T402, h402, X402, e402, W402, G402, st402⟩ := own_stT X0 hx hZ e0 fa1 (j := (Int32.ofNat pre.length)) rfl (own_l24 hl (by decide)) (g := (mkF m 928 (la41 p0 p1 p2 p3 p4 p5 tx kd ((Int32.ofNat pre.length) + (1 : Int32)) fi z10 na nb nL q va vb vL wn wv 1 (-1) 0 (-1) 0 z25 z26 z27 z28 tl) [(.int (47 : Int32)), (.int (Int32.ofNat pre.length)), (.ref tx)])) rfl rfl (hb hby at_928)
      have f403 := (fa0.wr W402)
      have f404 := (fa2.other W402 na0)
      have f405 := (fa3.other W402 na1)
      have Z406 := Nat.le_trans Z0 (Keep.of_wr W402).1
      have K407 := K0.wr W402 (Or.inr sztx)
      have N408 := Fr.snoc X402 N0 ga0
      have f409 : Txt Z h402 tx kt (24 : Int32) (pre ++ [(47 : Int32)]) := G402
      refine OFin.of (fun t ht => cN X0 hx rfl (hb hby at_916) rfl (teq hc401).2 (aW X0 hx rfl (hb hby at_919) rfl rfl (iW X0 hx rfl (hb hby at_921) rfl (iI X0 hx rfl (hb hby at_923) rfl (l' := (la41 p0 p1 p2 p3 p4 p5 tx kd ((Int32.ofNat pre.length) + (1 : Int32)) fi z10 na nb nL q va vb vL wn wv 1 (-1) 0 (-1) 0 z25 z26 z27 z28 tl)) rfl (bP X0 hx rfl (hb hby at_926) (st402 t ht)))))) ?_
      rw [own_pos pre (47 : Int32)]
      obtain ⟨T410, h410, X410, e410, W410, G410, st410⟩ := own_stT X402 hx hZ e402 f409 (j := (Int32.ofNat (pre ++ [(47 : Int32)]).length)) rfl (own_l24 (own_la hl) (by decide)) (g := (mkF m 938 (la41 p0 p1 p2 p3 p4 p5 tx kd ((Int32.ofNat (pre ++ [(47 : Int32)]).length) + (1 : Int32)) fi z10 na nb nL q va vb vL wn wv 1 (-1) 0 (-1) 0 z25 z26 z27 z28 tl) [(.int (62 : Int32)), (.int (Int32.ofNat (pre ++ [(47 : Int32)]).length)), (.ref tx)])) rfl rfl (hb hby at_938)
      have f411 := (f403.wr W410)
      have f412 := (f404.other W410 na0)
      have f413 := (f405.other W410 na1)
      have Z414 := Nat.le_trans Z406 (Keep.of_wr W410).1
      have K415 := K407.wr W410 (Or.inr sztx)
      have N416 := Fr.snoc X410 N408 ga0
      have f417 : Txt Z h410 tx kt (24 : Int32) ((pre ++ [(47 : Int32)]) ++ [(62 : Int32)]) := G410
      refine OFin.of (fun t ht => aW X402 hx rfl (hb hby at_929) rfl rfl (iW X402 hx rfl (hb hby at_931) rfl (iI X402 hx rfl (hb hby at_933) rfl (l' := (la41 p0 p1 p2 p3 p4 p5 tx kd ((Int32.ofNat (pre ++ [(47 : Int32)]).length) + (1 : Int32)) fi z10 na nb nL q va vb vL wn wv 1 (-1) 0 (-1) 0 z25 z26 z27 z28 tl)) rfl (bP X402 hx rfl (hb hby at_936) (st410 t ht))))) ?_
      rw [own_pos (pre ++ [(47 : Int32)]) (62 : Int32)]
      refine OFin.of (S' := T410.setTop (mkF m 979 (la41 p0 p1 p2 p3 p4 p5 tx kd (Int32.ofNat ((pre ++ [(47 : Int32)]) ++ [(62 : Int32)]).length) fi z10 na nb nL q va vb vL wn wv 1 (-1) 0 (Int32.ofNat ((pre ++ [(47 : Int32)]) ++ [(62 : Int32)]).length) 1 z25 z26 z27 z28 tl) [])) (fun t ht => iW X410 hx rfl (hb hby at_939) rfl (sW X410 hx rfl (hb hby at_941) rfl (l' := (la41 p0 p1 p2 p3 p4 p5 tx kd (Int32.ofNat ((pre ++ [(47 : Int32)]) ++ [(62 : Int32)]).length) fi z10 na nb nL q va vb vL wn wv 1 (-1) 0 (Int32.ofNat ((pre ++ [(47 : Int32)]) ++ [(62 : Int32)]).length) 0 z25 z26 z27 z28 tl)) rfl (iC X410 hx rfl (hb hby at_943) (sW X410 hx rfl (hb hby at_944) rfl (l' := (la41 p0 p1 p2 p3 p4 p5 tx kd (Int32.ofNat ((pre ++ [(47 : Int32)]) ++ [(62 : Int32)]).length) fi z10 na nb nL q va vb vL wn wv 1 (-1) 0 (Int32.ofNat ((pre ++ [(47 : Int32)]) ++ [(62 : Int32)]).length) 1 z25 z26 z27 z28 tl)) rfl (gO X410 hx rfl 946 979 rfl (hb hby at_946) (by decide) ht))))) ?_
      exact segT Z _ hw hx hby hlk hret hml hown hZ n0  (X410.more (by decide) (by decide)) e410 Z414 N416 f411 f417 f412 f413 ga0 sztx hst (Nat.le_trans (own_la (own_la hl)) (by decide)) (own_ha (own_ha hh)) (fun hk_ => own_T1 (own_hz (own_ha (own_ha hh)) hk_) hSh hNm hVs hQt (Nat.le_trans (own_la (own_la hl)) (by decide))) hNm hVs K415 hC0 hQ
    · refine OFin.of (S' := T0.setTop (mkF m 952 (la41 p0 p1 p2 p3 p4 p5 tx kd (Int32.ofNat pre.length) fi z10 na nb nL q va vb vL wn wv 1 (-1) 0 (-1) 0 z25 z26 z27 z28 tl) [(.int (3 : Int32)), (.int tl)])) (fun t ht => cY X0 hx rfl 916 949 rfl (hb hby at_916) rfl (feq hc401).2 (by decide) (iW X0 hx rfl (hb hby at_949) rfl (iC X0 hx rfl (hb hby at_951) ht))) ?_
      by_cases hc418 : tl = (3 : Int32)
      · obtain ⟨T419, h419, X419, e419, W419, G419, st419⟩ := own_stT X0 hx hZ e0 fa1 (j := (Int32.ofNat pre.length)) rfl (own_l24 hl (by decide)) (g := (mkF m 964 (la41 p0 p1 p2 p3 p4 p5 tx kd ((Int32.ofNat pre.length) + (1 : Int32)) fi z10 na nb nL q va vb vL wn wv 1 (-1) 0 (-1) 0 z25 z26 z27 z28 tl) [(.int na), (.int (Int32.ofNat pre.length)), (.ref tx)])) rfl rfl (hb hby at_964)
        have f420 := (fa0.wr W419)
        have f421 := (fa2.other W419 na0)
        have f422 := (fa3.other W419 na1)
        have Z423 := Nat.le_trans Z0 (Keep.of_wr W419).1
        have K424 := K0.wr W419 (Or.inr sztx)
        have N425 := Fr.snoc X419 N0 ga0
        have f426 : Txt Z h419 tx kt (24 : Int32) (pre ++ [na]) := (own_tx G419 hNm.2.2.1)
        refine OFin.of (fun t ht => cN X0 hx rfl (hb hby at_952) rfl (teq hc418).2 (aW X0 hx rfl (hb hby at_955) rfl rfl (iW X0 hx rfl (hb hby at_957) rfl (iI X0 hx rfl (hb hby at_959) rfl (l' := (la41 p0 p1 p2 p3 p4 p5 tx kd ((Int32.ofNat pre.length) + (1 : Int32)) fi z10 na nb nL q va vb vL wn wv 1 (-1) 0 (-1) 0 z25 z26 z27 z28 tl)) rfl (iW X0 hx rfl (hb hby at_962) rfl (st419 t ht)))))) ?_
        rw [own_pos pre na]
        obtain ⟨T427, h427, X427, e427, W427, G427, st427⟩ := own_stT X419 hx hZ e419 f426 (j := (Int32.ofNat (pre ++ [na]).length)) rfl (own_l24 (own_la hl) (by decide)) (g := (mkF m 974 (la41 p0 p1 p2 p3 p4 p5 tx kd ((Int32.ofNat (pre ++ [na]).length) + (1 : Int32)) fi z10 na nb nL q va vb vL wn wv 1 (-1) 0 (-1) 0 z25 z26 z27 z28 tl) [(.int (62 : Int32)), (.int (Int32.ofNat (pre ++ [na]).length)), (.ref tx)])) rfl rfl (hb hby at_974)
        have f428 := (f420.wr W427)
        have f429 := (f421.other W427 na0)
        have f430 := (f422.other W427 na1)
        have Z431 := Nat.le_trans Z423 (Keep.of_wr W427).1
        have K432 := K424.wr W427 (Or.inr sztx)
        have N433 := Fr.snoc X427 N425 ga0
        have f434 : Txt Z h427 tx kt (24 : Int32) ((pre ++ [na]) ++ [(62 : Int32)]) := G427
        refine OFin.of (fun t ht => aW X419 hx rfl (hb hby at_965) rfl rfl (iW X419 hx rfl (hb hby at_967) rfl (iI X419 hx rfl (hb hby at_969) rfl (l' := (la41 p0 p1 p2 p3 p4 p5 tx kd ((Int32.ofNat (pre ++ [na]).length) + (1 : Int32)) fi z10 na nb nL q va vb vL wn wv 1 (-1) 0 (-1) 0 z25 z26 z27 z28 tl)) rfl (bP X419 hx rfl (hb hby at_972) (st427 t ht))))) ?_
        rw [own_pos (pre ++ [na]) (62 : Int32)]
        refine OFin.of (S' := T427.setTop (mkF m 979 (la41 p0 p1 p2 p3 p4 p5 tx kd (Int32.ofNat ((pre ++ [na]) ++ [(62 : Int32)]).length) fi z10 na nb nL q va vb vL wn wv 1 (-1) 0 (Int32.ofNat ((pre ++ [na]) ++ [(62 : Int32)]).length) 0 z25 z26 z27 z28 tl) [])) (fun t ht => iW X427 hx rfl (hb hby at_975) rfl (sW X427 hx rfl (hb hby at_977) rfl (l' := (la41 p0 p1 p2 p3 p4 p5 tx kd (Int32.ofNat ((pre ++ [na]) ++ [(62 : Int32)]).length) fi z10 na nb nL q va vb vL wn wv 1 (-1) 0 (Int32.ofNat ((pre ++ [na]) ++ [(62 : Int32)]).length) 0 z25 z26 z27 z28 tl)) rfl ht)) ?_
        exact segT Z _ hw hx hby hlk hret hml hown hZ n0  (X427.more (by decide) (by decide)) e427 Z431 N433 f428 f434 f429 f430 ga0 sztx hst (Nat.le_trans (own_la (own_la hl)) (by decide)) (own_ha (own_ha hh)) (fun hk_ => own_T3 (own_hz (own_ha (own_ha hh)) hk_) hSh hNm hVs hQt (Nat.le_trans (own_la (own_la hl)) (by decide))) hNm hVs K432 hC0 hQ
      · refine OFin.of (S' := T0.setTop (mkF m 979 (la41 p0 p1 p2 p3 p4 p5 tx kd (Int32.ofNat pre.length) fi z10 na nb nL q va vb vL wn wv 1 (-1) 0 (-1) 0 z25 z26 z27 z28 tl) [])) (fun t ht => cY X0 hx rfl 952 979 rfl (hb hby at_952) rfl (feq hc418).2 (by decide) ht) ?_
        exact segT Z _ hw hx hby hlk hret hml hown hZ n0  (X0.more (by decide) (by decide)) e0 Z0 N0 fa0 fa1 fa2 fa3 ga0 sztx hst (Nat.le_trans hl (by decide)) hh (fun hk_ => own_T2 (own_hz hh hk_) hSh hNm hVs hQt (Nat.le_trans hl (by decide))) hNm hVs K0 hC0 hQ
theorem seg828 {p : Program} {l : Launch} {e : Env} {s : State} {m : MethodId} {args : Array Value} {below : List Frame} {meth : Method} {c : Code} (Z : State) (a0 : Array Value) (hw : ∀ d ∈ tables_1, d.before a0 Z = true) (hx : p.tables.exec = Jvm.exec) (hby : c.code = code) (hlk : meth.locks = false) (hret : meth.sig.returnType = some .boolean) (hml : c.maxLocals = 36) (hown : s.vm.findClass cC = some m.cls) (hZ : Z.Warmed39 s.vm) {Q : Option Value → Heap → List Loc → Prop} (n0 : Nat) {hS : Heap} {kS kE kI : Addr} {cs : Int32} {fm : Value} {u8 : Addr} {p0 p1 p2 p3 p4 p5 : Int32} {tx : Addr} {kd fi : Int32} {z10 : Slot} {na nb nL q va vb vL : Int32} {wn wv : Addr} {z25 z26 z27 z28 : Int32} {kt : ClassId} {pre D : List Int32} {kw : ClassId} {xs : List Int32} {kc : ClassId} {vs : List Int32} {T0 : State} {locs : List Loc} {h0 : Heap} (X0 : Stand p l e room_1 s m args below meth c T0 locs 3 28) (e0 : T0.heap = h0) (Z0 : n0 ≤ h0.size) (N0 : Fr n0 locs) (fa0 : Sts Z h0 kS kE kI cs fm u8) (fa1 : Txt Z h0 tx kt (24 : Int32) pre) (fa2 : Lst .byte Z h0 wn kw xs) (fa3 : Lst .char Z h0 wv kc vs) (na0 : wn ≠ tx) (na1 : wv ≠ tx) (ga0 : n0 ≤ tx) (sztx : hS.size ≤ tx) (hst : OwnSt kS kE kI cs fm) (hl : pre.length ≤ 15) (hh : OwnHead kd pre D) (hSh : OwnV xs q vs D) (hNm : OwnNm nL na nb xs) (hVs : OwnVs vL va vb q vs) (hQt : q = 34 ∨ q = 39) (K0 : Keep hS h0 []) (hC0 : CHv Z consts_1 s.vm hS) (hQ : ∀ (h' : Heap) (L : List Loc), Fr n0 L → Q (some (.int (1 : Int32))) h' L) :
    OFin p e below (KPostW s Q room_1.cells room_1.slots) (T0.setTop (mkF m 828 (la40 p0 p1 p2 p3 p4 p5 tx kd (Int32.ofNat pre.length) fi z10 na nb nL q va vb vL wn wv 0 (-1) 0 (-1) 0 z25 z26 z27 z28) [])) := by
  have hEL := own_EW hw
  refine OFin.of (S' := T0.setTop (mkF m 834 (la40 p0 p1 p2 p3 p4 p5 tx kd (Int32.ofNat pre.length) fi z10 na nb nL q va vb vL wn wv 0 (-1) 0 (-1) 0 z25 z26 z27 z28) [(.int (((p0.toUInt32 >>> ((8 : Int32) &&& 31).toUInt32).toInt32) &&& (1 : Int32)))])) (fun t ht => iN X0 hx rfl (hb hby at_828) rfl (bP X0 hx rfl (hb hby at_829) (XS.iushr X0.here hx rfl (hb hby at_831) rfl (iC X0 hx rfl (hb hby at_832) (XS.iand X0.here hx rfl (hb hby at_833) rfl ht))))) ?_
  by_cases hc435 : (((p0.toUInt32 >>> ((8 : Int32) &&& 31).toUInt32).toInt32) &&& (1 : Int32)) = (0 : Int32)
  · obtain ⟨T436, h436, X436, e436, W436, G436, st436⟩ := own_stT X0 hx hZ e0 fa1 (j := (Int32.ofNat pre.length)) rfl (own_l24 hl (by decide)) (g := (mkF m 859 (la40 p0 p1 p2 p3 p4 p5 tx kd ((Int32.ofNat pre.length) + (1 : Int32)) fi z10 na nb nL q va vb vL wn wv 0 (-1) 0 (-1) 0 z25 z26 z27 z28) [(.int q), (.int (Int32.ofNat pre.length)), (.ref tx)])) rfl rfl (hb hby at_859)
    have f437 := (fa0.wr W436)
    have f438 := (fa2.other W436 na0)
    have f439 := (fa3.other W436 na1)
    have Z440 := Nat.le_trans Z0 (Keep.of_wr W436).1
    have K441 := K0.wr W436 (Or.inr sztx)
    have N442 := Fr.snoc X436 N0 ga0
    have f443 : Txt Z h436 tx kt (24 : Int32) (pre ++ [q]) := (own_tx G436 (own_qb hQt))
    refine OFin.of (fun t ht => fY X0 hx rfl 834 850 rfl (hb hby at_834) rfl ((if0 _ _).trans (teq hc435).1) (by decide) (aW X0 hx rfl (hb hby at_850) rfl rfl (iW X0 hx rfl (hb hby at_852) rfl (iI X0 hx rfl (hb hby at_854) rfl (l' := (la40 p0 p1 p2 p3 p4 p5 tx kd ((Int32.ofNat pre.length) + (1 : Int32)) fi z10 na nb nL q va vb vL wn wv 0 (-1) 0 (-1) 0 z25 z26 z27 z28)) rfl (iW X0 hx rfl (hb hby at_857) rfl (st436 t ht)))))) ?_
    rw [own_pos pre q]
    refine OFin.of (S' := T436.setTop (mkF m 867 (la40 p0 p1 p2 p3 p4 p5 tx kd (Int32.ofNat (pre ++ [q]).length) fi z10 na nb nL q va vb vL wn wv 1 (-1) 0 (-1) 0 z25 z26 z27 z28) [(.int (p5 &&& (4 : Int32)))])) (fun t ht => iC X436 hx rfl (hb hby at_860) (sW X436 hx rfl (hb hby at_861) rfl (l' := (la40 p0 p1 p2 p3 p4 p5 tx kd (Int32.ofNat (pre ++ [q]).length) fi z10 na nb nL q va vb vL wn wv 1 (-1) 0 (-1) 0 z25 z26 z27 z28)) rfl (iW X436 hx rfl (hb hby at_863) rfl (iC X436 hx rfl (hb hby at_865) (XS.iand X436.here hx rfl (hb hby at_866) rfl ht))))) ?_
    by_cases hc444 : (p5 &&& (4 : Int32)) = (0 : Int32)
    · refine OFin.of (S' := T436.setTop (mkF m 885 (la40 p0 p1 p2 p3 p4 p5 tx kd (Int32.ofNat (pre ++ [q]).length) fi z10 na nb nL q va vb vL wn wv 1 (-1) 0 (-1) 0 z25 z26 z27 z28) [])) (fun t ht => fY X436 hx rfl 867 885 rfl (hb hby at_867) rfl ((if0 _ _).trans (teq hc444).1) (by decide) ht) ?_
      exact seg885 Z _ hw hx hby hlk hret hml hown hZ n0  (X436.more (by decide) (by decide)) e436 Z440 N442 f437 f443 f438 f439 na0 na1 ga0 sztx hst (Nat.le_trans (own_la hl) (by decide)) (own_ha hh) (own_Q0 hSh) hNm hVs hQt K441 hC0 hQ
    · obtain ⟨_, T445, Lc445, X445, hQ445, st445⟩ := own_cS X436 hx hw hZ hown 5 6 3 7 rfl rfl rfl rfl (by decide) (rmSpc l Z _ hw [] ((p5.toUInt32 >>> ((3 : Int32) &&& 31).toUInt32).toInt32) h436 n0 Z440 ) (by decide) (by decide) (g := (mkF m 881 (la40 p0 p1 p2 p3 p4 p5 tx kd ((Int32.ofNat (pre ++ [q]).length) + (1 : Int32)) fi z10 na nb nL q va vb vL wn wv 1 (-1) 0 (-1) 0 z25 z26 z27 z28) [(.int ((p5.toUInt32 >>> ((3 : Int32) &&& 31).toUInt32).toInt32)), (.int (Int32.ofNat (pre ++ [q]).length)), (.ref tx)])) rfl hml rfl (argsL := [(.int ((p5.toUInt32 >>> ((3 : Int32) &&& 31).toUInt32).toInt32))]) (rest := [(.int (Int32.ofNat (pre ++ [q]).length)), (.ref tx)]) pd_2 rfl rfl rfl (W := 2) (Nat.le_of_eq rfl) (hb hby at_881) rfl e436 (by decide) (by decide)
      obtain ⟨rfl, Nq445, hs445⟩ := hQ445
      have N446 := Fr.app N442 Nq445
      refine OFin.of (fun t ht => fN X436 hx rfl (hb hby at_867) rfl ((if0 _ _).trans (feq hc444).1) (aW X436 hx rfl (hb hby at_870) rfl rfl (iW X436 hx rfl (hb hby at_872) rfl (iI X436 hx rfl (hb hby at_874) rfl (l' := (la40 p0 p1 p2 p3 p4 p5 tx kd ((Int32.ofNat (pre ++ [q]).length) + (1 : Int32)) fi z10 na nb nL q va vb vL wn wv 1 (-1) 0 (-1) 0 z25 z26 z27 z28)) rfl (iW X436 hx rfl (hb hby at_877) rfl (iC X436 hx rfl (hb hby at_879) (XS.iushr X436.here hx rfl (hb hby at_880) rfl (st445.trans ht)))))))) ?_
      obtain ⟨T447, h447, X447, e447, W447, G447, st447⟩ := own_stT X445 hx hZ hs445 f443 (j := (Int32.ofNat (pre ++ [q]).length)) rfl (own_l24 (own_la hl) (by decide)) (g := (mkF m 884 (la40 p0 p1 p2 p3 p4 p5 tx kd ((Int32.ofNat (pre ++ [q]).length) + (1 : Int32)) fi z10 na nb nL q va vb vL wn wv 1 (-1) 0 (-1) 0 z25 z26 z27 z28) [(.int (own_space ((p5.toUInt32 >>> ((3 : Int32) &&& 31).toUInt32).toInt32))), (.int (Int32.ofNat (pre ++ [q]).length)), (.ref tx)])) rfl rfl (hb hby at_884)
      have f448 := (f437.wr W447)
      have f449 := (f438.other W447 na0)
      have f450 := (f439.other W447 na1)
      have Z451 := Nat.le_trans Z440 (Keep.of_wr W447).1
      have K452 := K441.wr W447 (Or.inr sztx)
      have N453 := Fr.snoc X447 N446 ga0
      have f454 : Txt Z h447 tx kt (24 : Int32) ((pre ++ [q]) ++ [(own_space ((p5.toUInt32 >>> ((3 : Int32) &&& 31).toUInt32).toInt32))]) := (own_tx G447 (own_space_b _))
      refine OFin.of st447 ?_
      rw [own_pos (pre ++ [q]) (own_space ((p5.toUInt32 >>> ((3 : Int32) &&& 31).toUInt32).toInt32))]
      exact seg885 Z _ hw hx hby hlk hret hml hown hZ n0  (X447.more (by decide) (by decide)) e447 Z451 N453 f448 f454 f449 f450 na0 na1 ga0 sztx hst (Nat.le_trans (own_la (own_la hl)) (by decide)) (own_ha (own_ha hh)) (own_Q1 hSh (own_space_isp _)) hNm hVs hQt K452 hC0 hQ
  · obtain ⟨T455, h455, X455, e455, W455, G455, st455⟩ := own_stT X0 hx hZ e0 fa1 (j := (Int32.ofNat pre.length)) rfl (own_l24 hl (by decide)) (g := (mkF m 846 (la40 p0 p1 p2 p3 p4 p5 tx kd ((Int32.ofNat pre.length) + (1 : Int32)) fi z10 na nb nL q va vb vL wn wv 0 (-1) 0 (-1) 0 z25 z26 z27 z28) [(.int (62 : Int32)), (.int (Int32.ofNat pre.length)), (.ref tx)])) rfl rfl (hb hby at_846)
    have f456 := (fa0.wr W455)
    have f457 := (fa2.other W455 na0)
    have f458 := (fa3.other W455 na1)
    have Z459 := Nat.le_trans Z0 (Keep.of_wr W455).1
    have K460 := K0.wr W455 (Or.inr sztx)
    have N461 := Fr.snoc X455 N0 ga0
    have f462 : Txt Z h455 tx kt (24 : Int32) (pre ++ [(62 : Int32)]) := G455
    refine OFin.of (fun t ht => fN X0 hx rfl (hb hby at_834) rfl ((if0 _ _).trans (feq hc435).1) (aW X0 hx rfl (hb hby at_837) rfl rfl (iW X0 hx rfl (hb hby at_839) rfl (iI X0 hx rfl (hb hby at_841) rfl (l' := (la40 p0 p1 p2 p3 p4 p5 tx kd ((Int32.ofNat pre.length) + (1 : Int32)) fi z10 na nb nL q va vb vL wn wv 0 (-1) 0 (-1) 0 z25 z26 z27 z28)) rfl (bP X0 hx rfl (hb hby at_844) (st455 t ht)))))) ?_
    rw [own_pos pre (62 : Int32)]
    refine OFin.of (S' := T455.setTop (mkF m 979 (la40 p0 p1 p2 p3 p4 p5 tx kd (Int32.ofNat (pre ++ [(62 : Int32)]).length) fi z10 na nb nL q va vb vL wn wv 0 (-1) 0 (-1) 0 z25 z26 z27 z28) [])) (fun t ht => gO X455 hx rfl 847 979 rfl (hb hby at_847) (by decide) ht) ?_
    exact segF Z _ hw hx hby hlk hret hml hown hZ n0  (X455.more (by decide) (by decide)) e455 Z459 N461 f456 f462 ga0 sztx hst (Nat.le_trans (own_la hl) (by decide)) (own_ha hh) (fun hk_ => own_Fu (own_hz (own_ha hh) hk_) hSh hNm hVs hQt (Nat.le_trans (own_la hl) (by decide))) (Or.inr ⟨_, rfl⟩) (Or.inr ⟨_, rfl⟩) (Or.inr ⟨_, rfl⟩) (Or.inr ⟨_, rfl⟩) (Or.inl rfl) K460 hC0 hQ
theorem seg709 {p : Program} {l : Launch} {e : Env} {s : State} {m : MethodId} {args : Array Value} {below : List Frame} {meth : Method} {c : Code} (Z : State) (a0 : Array Value) (hw : ∀ d ∈ tables_1, d.before a0 Z = true) (hx : p.tables.exec = Jvm.exec) (hby : c.code = code) (hlk : meth.locks = false) (hret : meth.sig.returnType = some .boolean) (hml : c.maxLocals = 36) (hown : s.vm.findClass cC = some m.cls) (hZ : Z.Warmed39 s.vm) {Q : Option Value → Heap → List Loc → Prop} (n0 : Nat) {hS : Heap} {kS kE kI : Addr} {cs : Int32} {fm : Value} {u8 : Addr} {p0 p1 p2 p3 p4 p5 : Int32} {tx : Addr} {kd fi : Int32} {z10 : Slot} {na nb nL q va vb vL : Int32} {wn wv : Addr} {z25 z26 z27 : Int32} {kt : ClassId} {pre D : List Int32} {kw : ClassId} {xs : List Int32} {kc : ClassId} {vs : List Int32} {T0 : State} {locs : List Loc} {h0 : Heap} (X0 : Stand p l e room_1 s m args below meth c T0 locs 3 28) (e0 : T0.heap = h0) (Z0 : n0 ≤ h0.size) (N0 : Fr n0 locs) (fa0 : Sts Z h0 kS kE kI cs fm u8) (fa1 : Txt Z h0 tx kt (24 : Int32) pre) (fa2 : Lst .byte Z h0 wn kw xs) (fa3 : Lst .char Z h0 wv kc vs) (na0 : wn ≠ tx) (na1 : wv ≠ tx) (ga0 : n0 ≤ tx) (sztx : hS.size ≤ tx) (hst : OwnSt kS kE kI cs fm) (hl : pre.length ≤ 12) (hh : OwnHead kd pre D) (hSh : OwnE xs D) (hNm : OwnNm nL na nb xs) (hVs : OwnVs vL va vb q vs) (hQt : q = 34 ∨ q = 39) (K0 : Keep hS h0 []) (hC0 : CHv Z consts_1 s.vm hS) (hQ : ∀ (h' : Heap) (L : List Loc), Fr n0 L → Q (some (.int (1 : Int32))) h' L) :
    OFin p e below (KPostW s Q room_1.cells room_1.slots) (T0.setTop (mkF m 709 (la42 p0 p1 p2 p3 p4 p5 tx kd (Int32.ofNat pre.length) fi z10 na nb nL q va vb vL wn wv 0 (-1) 0 (-1) 0 z25 z26 z27) [])) := by
  have hEL := own_EW hw
  refine OFin.of (S' := T0.setTop (mkF m 715 (la42 p0 p1 p2 p3 p4 p5 tx kd (Int32.ofNat pre.length) fi z10 na nb nL q va vb vL wn wv 0 (-1) 0 (-1) 0 z25 z26 z27) [(.int (((p0.toUInt32 >>> ((6 : Int32) &&& 31).toUInt32).toInt32) &&& (3 : Int32)))])) (fun t ht => iN X0 hx rfl (hb hby at_709) rfl (bP X0 hx rfl (hb hby at_710) (XS.iushr X0.here hx rfl (hb hby at_712) rfl (iC X0 hx rfl (hb hby at_713) (XS.iand X0.here hx rfl (hb hby at_714) rfl ht))))) ?_
  obtain ⟨op, h_op⟩ : ∃ z : Int32, z = (((p0.toUInt32 >>> ((6 : Int32) &&& 31).toUInt32).toInt32) &&& (3 : Int32)) := ⟨_, rfl⟩
  rw [← h_op]
  refine OFin.of (S' := T0.setTop (mkF m 720 (la40 p0 p1 p2 p3 p4 p5 tx kd (Int32.ofNat pre.length) fi z10 na nb nL q va vb vL wn wv 0 (-1) 0 (-1) 0 z25 z26 z27 op) [(.int (2 : Int32)), (.int op)])) (fun t ht => sW X0 hx rfl (hb hby at_715) rfl (l' := (la40 p0 p1 p2 p3 p4 p5 tx kd (Int32.ofNat pre.length) fi z10 na nb nL q va vb vL wn wv 0 (-1) 0 (-1) 0 z25 z26 z27 op)) rfl (iW X0 hx rfl (hb hby at_717) rfl (iC X0 hx rfl (hb hby at_719) ht))) ?_
  by_cases hc463 : op = (2 : Int32)
  · obtain ⟨_, T464, Lc464, X464, hQ464, st464⟩ := own_cS X0 hx hw hZ hown 251 252 3 253 rfl rfl rfl rfl (by decide) (rmBkr l Z _ hw [] p4 h0 n0 Z0 ) (by decide) (by decide) (g := (mkF m 725 (la40 p0 p1 p2 p3 p4 p5 tx kd (Int32.ofNat pre.length) fi z10 na nb nL q va vb vL wn wv 0 (-1) 0 (-1) 0 z25 z26 z27 op) [(.int p4)])) rfl hml rfl (argsL := [(.int p4)]) (rest := []) pd_2 rfl rfl rfl (W := 0) (Nat.le_of_eq rfl) (hb hby at_725) rfl e0 (by decide) (by decide)
    obtain ⟨rfl, Nq464, hs464⟩ := hQ464
    have N465 := Fr.app N0 Nq464
    refine OFin.of (fun t ht => cN X0 hx rfl (hb hby at_720) rfl (teq hc463).2 (iW X0 hx rfl (hb hby at_723) rfl (st464.trans ht))) ?_
    obtain ⟨bb, h_bb⟩ : ∃ z : Int32, z = (own_bb p4) := ⟨_, rfl⟩
    rw [← h_bb]
    obtain ⟨T466, h466, X466, e466, W466, G466, st466⟩ := own_stT X464 hx hZ hs464 fa1 (j := (Int32.ofNat pre.length)) rfl (own_l24 hl (by decide)) (g := (mkF m 739 (la41 p0 p1 p2 p3 p4 p5 tx kd ((Int32.ofNat pre.length) + (1 : Int32)) fi z10 na nb nL q va vb vL wn wv 0 (-1) 0 (-1) 0 z25 z26 z27 op bb) [(.int bb), (.int (Int32.ofNat pre.length)), (.ref tx)])) rfl rfl (hb hby at_739)
    have f467 := (fa0.wr W466)
    have f468 := (fa2.other W466 na0)
    have f469 := (fa3.other W466 na1)
    have Z470 := Nat.le_trans Z0 (Keep.of_wr W466).1
    have K471 := K0.wr W466 (Or.inr sztx)
    have N472 := Fr.snoc X466 N465 ga0
    have f473 : Txt Z h466 tx kt (24 : Int32) (pre ++ [bb]) := (own_tx G466 (h_bb ▸ own_bb_b _))
    refine OFin.of (fun t ht => sW X464 hx rfl (hb hby at_728) rfl (l' := (la41 p0 p1 p2 p3 p4 p5 tx kd (Int32.ofNat pre.length) fi z10 na nb nL q va vb vL wn wv 0 (-1) 0 (-1) 0 z25 z26 z27 op bb)) rfl (aW X464 hx rfl (hb hby at_730) rfl rfl (iW X464 hx rfl (hb hby at_732) rfl (iI X464 hx rfl (hb hby at_734) rfl (l' := (la41 p0 p1 p2 p3 p4 p5 tx kd ((Int32.ofNat pre.length) + (1 : Int32)) fi z10 na nb nL q va vb vL wn wv 0 (-1) 0 (-1) 0 z25 z26 z27 op bb)) rfl (iW X464 hx rfl (hb hby at_737) rfl (st466 t ht)))))) ?_
    rw [own_pos pre bb]
    refine OFin.of (S' := T466.setTop (mkF m 744 (la41 p0 p1 p2 p3 p4 p5 tx kd (Int32.ofNat (pre ++ [bb]).length) fi z10 na nb nL q va vb vL wn wv 0 (-1) 0 (-1) 0 z25 z26 z27 op bb) [(.int (62 : Int32)), (.int bb)])) (fun t ht => iW X466 hx rfl (hb hby at_740) rfl (bP X466 hx rfl (hb hby at_742) ht)) ?_
    by_cases hc474 : bb = (62 : Int32)
    · refine OFin.of (S' := T466.setTop (mkF m 979 (la41 p0 p1 p2 p3 p4 p5 tx kd (Int32.ofNat (pre ++ [bb]).length) fi z10 na nb nL q va vb vL wn wv 0 (Int32.ofNat (pre ++ [bb]).length) 0 (-1) 0 z25 z26 z27 op bb) [])) (fun t ht => cY X466 hx rfl 744 771 rfl (hb hby at_744) rfl (teq hc474).1 (by decide) (iW X466 hx rfl (hb hby at_771) rfl (sW X466 hx rfl (hb hby at_773) rfl (l' := (la41 p0 p1 p2 p3 p4 p5 tx kd (Int32.ofNat (pre ++ [bb]).length) fi z10 na nb nL q va vb vL wn wv 0 (Int32.ofNat (pre ++ [bb]).length) 0 (-1) 0 z25 z26 z27 op bb)) rfl (gO X466 hx rfl 775 979 rfl (hb hby at_775) (by decide) ht)))) ?_
      exact segF Z _ hw hx hby hlk hret hml hown hZ n0  (X466.more (by decide) (by decide)) e466 Z470 N472 f467 f473 ga0 sztx hst (Nat.le_trans (own_la hl) (by decide)) (own_ha hh) (fun hk_ => own_Fb (own_hz (own_ha hh) hk_) hSh hNm hc474 (Nat.le_trans (own_la hl) (by decide))) (Or.inr ⟨_, rfl⟩) (Or.inr ⟨_, rfl⟩) (Or.inr ⟨_, rfl⟩) (Or.inr ⟨_, rfl⟩) (Or.inr ⟨_, rfl⟩) K471 hC0 hQ
    · obtain ⟨T475, h475, X475, e475, W475, G475, st475⟩ := own_stT X466 hx hZ e466 f473 (j := (Int32.ofNat (pre ++ [bb]).length)) rfl (own_l24 (own_la hl) (by decide)) (g := (mkF m 756 (la41 p0 p1 p2 p3 p4 p5 tx kd ((Int32.ofNat (pre ++ [bb]).length) + (1 : Int32)) fi z10 na nb nL q va vb vL wn wv 0 (-1) 0 (-1) 0 z25 z26 z27 op bb) [(.int (62 : Int32)), (.int (Int32.ofNat (pre ++ [bb]).length)), (.ref tx)])) rfl rfl (hb hby at_756)
      have f476 := (f467.wr W475)
      have f477 := (f468.other W475 na0)
      have f478 := (f469.other W475 na1)
      have Z479 := Nat.le_trans Z470 (Keep.of_wr W475).1
      have K480 := K471.wr W475 (Or.inr sztx)
      have N481 := Fr.snoc X475 N472 ga0
      have f482 : Txt Z h475 tx kt (24 : Int32) ((pre ++ [bb]) ++ [(62 : Int32)]) := G475
      refine OFin.of (fun t ht => cN X466 hx rfl (hb hby at_744) rfl (feq hc474).1 (aW X466 hx rfl (hb hby at_747) rfl rfl (iW X466 hx rfl (hb hby at_749) rfl (iI X466 hx rfl (hb hby at_751) rfl (l' := (la41 p0 p1 p2 p3 p4 p5 tx kd ((Int32.ofNat (pre ++ [bb]).length) + (1 : Int32)) fi z10 na nb nL q va vb vL wn wv 0 (-1) 0 (-1) 0 z25 z26 z27 op bb)) rfl (bP X466 hx rfl (hb hby at_754) (st475 t ht)))))) ?_
      rw [own_pos (pre ++ [bb]) (62 : Int32)]
      refine OFin.of (S' := T475.setTop (mkF m 761 (la41 p0 p1 p2 p3 p4 p5 tx kd (Int32.ofNat ((pre ++ [bb]) ++ [(62 : Int32)]).length) fi z10 na nb nL q va vb vL wn wv 0 (-1) 0 (-1) 0 z25 z26 z27 op bb) [(.int (47 : Int32)), (.int bb)])) (fun t ht => iW X475 hx rfl (hb hby at_757) rfl (bP X475 hx rfl (hb hby at_759) ht)) ?_
      by_cases hc483 : bb = (47 : Int32)
      · refine OFin.of (S' := T475.setTop (mkF m 979 (la41 p0 p1 p2 p3 p4 p5 tx kd (Int32.ofNat ((pre ++ [bb]) ++ [(62 : Int32)]).length) fi z10 na nb nL q va vb vL wn wv 0 (Int32.ofNat ((pre ++ [bb]) ++ [(62 : Int32)]).length) 1 (-1) 0 z25 z26 z27 op bb) [])) (fun t ht => cN X475 hx rfl (hb hby at_761) rfl (teq hc483).2 (iC X475 hx rfl (hb hby at_764) (gO X475 hx rfl 765 769 rfl (hb hby at_765) (by decide) (sW X475 hx rfl (hb hby at_769) rfl (l' := (la41 p0 p1 p2 p3 p4 p5 tx kd (Int32.ofNat ((pre ++ [bb]) ++ [(62 : Int32)]).length) fi z10 na nb nL q va vb vL wn wv 0 (-1) 1 (-1) 0 z25 z26 z27 op bb)) rfl (iW X475 hx rfl (hb hby at_771) rfl (sW X475 hx rfl (hb hby at_773) rfl (l' := (la41 p0 p1 p2 p3 p4 p5 tx kd (Int32.ofNat ((pre ++ [bb]) ++ [(62 : Int32)]).length) fi z10 na nb nL q va vb vL wn wv 0 (Int32.ofNat ((pre ++ [bb]) ++ [(62 : Int32)]).length) 1 (-1) 0 z25 z26 z27 op bb)) rfl (gO X475 hx rfl 775 979 rfl (hb hby at_775) (by decide) ht))))))) ?_
        exact segF Z _ hw hx hby hlk hret hml hown hZ n0  (X475.more (by decide) (by decide)) e475 Z479 N481 f476 f482 ga0 sztx hst (Nat.le_trans (own_la (own_la hl)) (by decide)) (own_ha (own_ha hh)) (fun hk_ => own_Fb1 (own_hz (own_ha (own_ha hh)) hk_) hSh hNm hc483 (Nat.le_trans (own_la (own_la hl)) (by decide))) (Or.inr ⟨_, rfl⟩) (Or.inr ⟨_, rfl⟩) (Or.inr ⟨_, rfl⟩) (Or.inr ⟨_, rfl⟩) (Or.inr ⟨_, rfl⟩) K480 hC0 hQ
      · refine OFin.of (S' := T475.setTop (mkF m 979 (la41 p0 p1 p2 p3 p4 p5 tx kd (Int32.ofNat ((pre ++ [bb]) ++ [(62 : Int32)]).length) fi z10 na nb nL q va vb vL wn wv 0 (Int32.ofNat ((pre ++ [bb]) ++ [(62 : Int32)]).length) 0 (-1) 0 z25 z26 z27 op bb) [])) (fun t ht => cY X475 hx rfl 761 768 rfl (hb hby at_761) rfl (feq hc483).2 (by decide) (iC X475 hx rfl (hb hby at_768) (sW X475 hx rfl (hb hby at_769) rfl (l' := (la41 p0 p1 p2 p3 p4 p5 tx kd (Int32.ofNat ((pre ++ [bb]) ++ [(62 : Int32)]).length) fi z10 na nb nL q va vb vL wn wv 0 (-1) 0 (-1) 0 z25 z26 z27 op bb)) rfl (iW X475 hx rfl (hb hby at_771) rfl (sW X475 hx rfl (hb hby at_773) rfl (l' := (la41 p0 p1 p2 p3 p4 p5 tx kd (Int32.ofNat ((pre ++ [bb]) ++ [(62 : Int32)]).length) fi z10 na nb nL q va vb vL wn wv 0 (Int32.ofNat ((pre ++ [bb]) ++ [(62 : Int32)]).length) 0 (-1) 0 z25 z26 z27 op bb)) rfl (gO X475 hx rfl 775 979 rfl (hb hby at_775) (by decide) ht)))))) ?_
        exact segF Z _ hw hx hby hlk hret hml hown hZ n0  (X475.more (by decide) (by decide)) e475 Z479 N481 f476 f482 ga0 sztx hst (Nat.le_trans (own_la (own_la hl)) (by decide)) (own_ha (own_ha hh)) (fun hk_ => own_Fb0 (own_hz (own_ha (own_ha hh)) hk_) hSh hNm (h_bb ▸ own_bb_ne _) hc474 hc483 (Nat.le_trans (own_la (own_la hl)) (by decide))) (Or.inr ⟨_, rfl⟩) (Or.inr ⟨_, rfl⟩) (Or.inr ⟨_, rfl⟩) (Or.inr ⟨_, rfl⟩) (Or.inr ⟨_, rfl⟩) K480 hC0 hQ
  · refine OFin.of (S' := T0.setTop (mkF m 781 (la40 p0 p1 p2 p3 p4 p5 tx kd (Int32.ofNat pre.length) fi z10 na nb nL q va vb vL wn wv 0 (-1) 0 (-1) 0 z25 z26 z27 op) [(.int (2 : Int32)), (.int op)])) (fun t ht => cY X0 hx rfl 720 778 rfl (hb hby at_720) rfl (feq hc463).2 (by decide) (iW X0 hx rfl (hb hby at_778) rfl (iC X0 hx rfl (hb hby at_780) ht))) ?_
    by_cases hc484 : op < (2 : Int32)
    · obtain ⟨T485, h485, X485, e485, W485, G485, st485⟩ := own_stT X0 hx hZ e0 fa1 (j := (Int32.ofNat pre.length)) rfl (own_l24 hl (by decide)) (g := (mkF m 793 (la40 p0 p1 p2 p3 p4 p5 tx kd ((Int32.ofNat pre.length) + (1 : Int32)) fi z10 na nb nL q va vb vL wn wv 0 (-1) 0 (-1) 0 z25 z26 z27 op) [(.int q), (.int (Int32.ofNat pre.length)), (.ref tx)])) rfl rfl (hb hby at_793)
      have f486 := (fa0.wr W485)
      have f487 := (fa2.other W485 na0)
      have f488 := (fa3.other W485 na1)
      have Z489 := Nat.le_trans Z0 (Keep.of_wr W485).1
      have K490 := K0.wr W485 (Or.inr sztx)
      have N491 := Fr.snoc X485 N0 ga0
      have f492 : Txt Z h485 tx kt (24 : Int32) (pre ++ [q]) := (own_tx G485 (own_qb hQt))
      refine OFin.of (fun t ht => cN X0 hx rfl (hb hby at_781) rfl (tlt hc484).2.1 (aW X0 hx rfl (hb hby at_784) rfl rfl (iW X0 hx rfl (hb hby at_786) rfl (iI X0 hx rfl (hb hby at_788) rfl (l' := (la40 p0 p1 p2 p3 p4 p5 tx kd ((Int32.ofNat pre.length) + (1 : Int32)) fi z10 na nb nL q va vb vL wn wv 0 (-1) 0 (-1) 0 z25 z26 z27 op)) rfl (iW X0 hx rfl (hb hby at_791) rfl (st485 t ht)))))) ?_
      rw [own_pos pre q]
      refine OFin.of (S' := T485.setTop (mkF m 797 (la40 p0 p1 p2 p3 p4 p5 tx kd (Int32.ofNat (pre ++ [q]).length) fi z10 na nb nL q va vb vL wn wv 0 (-1) 0 (-1) 0 z25 z26 z27 op) [(.int (1 : Int32)), (.int vL)])) (fun t ht => iW X485 hx rfl (hb hby at_794) rfl (iC X485 hx rfl (hb hby at_796) ht)) ?_
      by_cases hc493 : vL < (1 : Int32)
      · refine OFin.of (S' := T485.setTop (mkF m 828 (la40 p0 p1 p2 p3 p4 p5 tx kd (Int32.ofNat (pre ++ [q]).length) fi z10 na nb nL q va vb vL wn wv 0 (-1) 0 (-1) 0 z25 z26 z27 op) [])) (fun t ht => cY X485 hx rfl 797 811 rfl (hb hby at_797) rfl (tlt hc493).1 (by decide) (iW X485 hx rfl (hb hby at_811) rfl (iC X485 hx rfl (hb hby at_813) (cY X485 hx rfl 814 828 rfl (hb hby at_814) rfl (tlt (own_lt12 hc493 : vL < (2 : Int32))).1 (by decide) ht)))) ?_
        exact seg828 Z _ hw hx hby hlk hret hml hown hZ n0  (X485.more (by decide) (by decide)) e485 Z489 N491 f486 f492 f487 f488 na0 na1 ga0 sztx hst (Nat.le_trans (own_la hl) (by decide)) (own_ha hh) (own_V0 hSh hVs hc493) hNm hVs hQt K490 hC0 hQ
      · obtain ⟨T494, h494, X494, e494, W494, G494, st494⟩ := own_stT X485 hx hZ e485 f492 (j := (Int32.ofNat (pre ++ [q]).length)) rfl (own_l24 (own_la hl) (by decide)) (g := (mkF m 810 (la40 p0 p1 p2 p3 p4 p5 tx kd ((Int32.ofNat (pre ++ [q]).length) + (1 : Int32)) fi z10 na nb nL q va vb vL wn wv 0 (-1) 0 (-1) 0 z25 z26 z27 op) [(.int (va.toInt8.toInt32)), (.int (Int32.ofNat (pre ++ [q]).length)), (.ref tx)])) rfl rfl (hb hby at_810)
        have f495 := (f486.wr W494)
        have f496 := (f487.other W494 na0)
        have f497 := (f488.other W494 na1)
        have Z498 := Nat.le_trans Z489 (Keep.of_wr W494).1
        have K499 := K490.wr W494 (Or.inr sztx)
        have N500 := Fr.snoc X494 N491 ga0
        have f501 : Txt Z h494 tx kt (24 : Int32) ((pre ++ [q]) ++ [va]) := (own_tx G494 (own_vb hVs.1))
        refine OFin.of (fun t ht => cN X485 hx rfl (hb hby at_797) rfl (flt hc493).1 (aW X485 hx rfl (hb hby at_800) rfl rfl (iW X485 hx rfl (hb hby at_802) rfl (iI X485 hx rfl (hb hby at_804) rfl (l' := (la40 p0 p1 p2 p3 p4 p5 tx kd ((Int32.ofNat (pre ++ [q]).length) + (1 : Int32)) fi z10 na nb nL q va vb vL wn wv 0 (-1) 0 (-1) 0 z25 z26 z27 op)) rfl (iW X485 hx rfl (hb hby at_807) rfl (XS.i2b X485.here hx rfl (hb hby at_809) rfl (st494 t ht))))))) ?_
        rw [own_pos (pre ++ [q]) va]
        refine OFin.of (S' := T494.setTop (mkF m 814 (la40 p0 p1 p2 p3 p4 p5 tx kd (Int32.ofNat ((pre ++ [q]) ++ [va]).length) fi z10 na nb nL q va vb vL wn wv 0 (-1) 0 (-1) 0 z25 z26 z27 op) [(.int (2 : Int32)), (.int vL)])) (fun t ht => iW X494 hx rfl (hb hby at_811) rfl (iC X494 hx rfl (hb hby at_813) ht)) ?_
        by_cases hc502 : vL < (2 : Int32)
        · refine OFin.of (S' := T494.setTop (mkF m 828 (la40 p0 p1 p2 p3 p4 p5 tx kd (Int32.ofNat ((pre ++ [q]) ++ [va]).length) fi z10 na nb nL q va vb vL wn wv 0 (-1) 0 (-1) 0 z25 z26 z27 op) [])) (fun t ht => cY X494 hx rfl 814 828 rfl (hb hby at_814) rfl (tlt hc502).1 (by decide) ht) ?_
          exact seg828 Z _ hw hx hby hlk hret hml hown hZ n0  (X494.more (by decide) (by decide)) e494 Z498 N500 f495 f501 f496 f497 na0 na1 ga0 sztx hst (Nat.le_trans (own_la (own_la hl)) (by decide)) (own_ha (own_ha hh)) (own_V1 hSh hVs hc493 hc502) hNm hVs hQt K499 hC0 hQ
        · obtain ⟨T503, h503, X503, e503, W503, G503, st503⟩ := own_stT X494 hx hZ e494 f501 (j := (Int32.ofNat ((pre ++ [q]) ++ [va]).length)) rfl (own_l24 (own_la (own_la hl)) (by decide)) (g := (mkF m 827 (la40 p0 p1 p2 p3 p4 p5 tx kd ((Int32.ofNat ((pre ++ [q]) ++ [va]).length) + (1 : Int32)) fi z10 na nb nL q va vb vL wn wv 0 (-1) 0 (-1) 0 z25 z26 z27 op) [(.int (vb.toInt8.toInt32)), (.int (Int32.ofNat ((pre ++ [q]) ++ [va]).length)), (.ref tx)])) rfl rfl (hb hby at_827)
          have f504 := (f495.wr W503)
          have f505 := (f496.other W503 na0)
          have f506 := (f497.other W503 na1)
          have Z507 := Nat.le_trans Z498 (Keep.of_wr W503).1
          have K508 := K499.wr W503 (Or.inr sztx)
          have N509 := Fr.snoc X503 N500 ga0
          have f510 : Txt Z h503 tx kt (24 : Int32) (((pre ++ [q]) ++ [va]) ++ [vb]) := (own_tx G503 (own_vb hVs.2.1))
          refine OFin.of (fun t ht => cN X494 hx rfl (hb hby at_814) rfl (flt hc502).1 (aW X494 hx rfl (hb hby at_817) rfl rfl (iW X494 hx rfl (hb hby at_819) rfl (iI X494 hx rfl (hb hby at_821) rfl (l' := (la40 p0 p1 p2 p3 p4 p5 tx kd ((Int32.ofNat ((pre ++ [q]) ++ [va]).length) + (1 : Int32)) fi z10 na nb nL q va vb vL wn wv 0 (-1) 0 (-1) 0 z25 z26 z27 op)) rfl (iW X494 hx rfl (hb hby at_824) rfl (XS.i2b X494.here hx rfl (hb hby at_826) rfl (st503 t ht))))))) ?_
          rw [own_pos ((pre ++ [q]) ++ [va]) vb]
          exact seg828 Z _ hw hx hby hlk hret hml hown hZ n0  (X503.more (by decide) (by decide)) e503 Z507 N509 f504 f510 f505 f506 na0 na1 ga0 sztx hst (Nat.le_trans (own_la (own_la (own_la hl))) (by decide)) (own_ha (own_ha (own_ha hh))) (own_V2 hSh hVs hc502) hNm hVs hQt K508 hC0 hQ
    · refine OFin.of (S' := T0.setTop (mkF m 979 (la40 p0 p1 p2 p3 p4 p5 tx kd (Int32.ofNat pre.length) fi z10 na nb nL q va vb vL wn wv 0 (-1) 0 (-1) 0 z25 z26 z27 op) [])) (fun t ht => cY X0 hx rfl 781 979 rfl (hb hby at_781) rfl (flt hc484).2.1 (by decide) ht) ?_
      exact segF Z _ hw hx hby hlk hret hml hown hZ n0  (X0.more (by decide) (by decide)) e0 Z0 N0 fa0 fa1 ga0 sztx hst (Nat.le_trans hl (by decide)) hh (fun hk_ => own_Fo (own_hz hh hk_) hSh hNm (Nat.le_trans hl (by decide))) (Or.inr ⟨_, rfl⟩) (Or.inr ⟨_, rfl⟩) (Or.inr ⟨_, rfl⟩) (Or.inr ⟨_, rfl⟩) (Or.inl rfl) K0 hC0 hQ
theorem seg577 {p : Program} {l : Launch} {e : Env} {s : State} {m : MethodId} {args : Array Value} {below : List Frame} {meth : Method} {c : Code} (Z : State) (a0 : Array Value) (hw : ∀ d ∈ tables_1, d.before a0 Z = true) (hx : p.tables.exec = Jvm.exec) (hby : c.code = code) (hlk : meth.locks = false) (hret : meth.sig.returnType = some .boolean) (hml : c.maxLocals = 36) (hown : s.vm.findClass cC = some m.cls) (hZ : Z.Warmed39 s.vm) {Q : Option Value → Heap → List Loc → Prop} (n0 : Nat) {hS : Heap} {kS kE kI : Addr} {cs : Int32} {fm : Value} {u8 : Addr} {p0 p1 p2 p3 p4 p5 : Int32} {tx : Addr} {kd fi : Int32} {z10 : Slot} {na nb nL q va vb vL : Int32} {wn wv : Addr} {z25 : Int32} {kt : ClassId} {pre D : List Int32} {kw : ClassId} {xs : List Int32} {kc : ClassId} {vs : List Int32} {T0 : State} {locs : List Loc} {h0 : Heap} (X0 : Stand p l e room_1 s m args below meth c T0 locs 3 28) (e0 : T0.heap = h0) (Z0 : n0 ≤ h0.size) (N0 : Fr n0 locs) (fa0 : Sts Z h0 kS kE kI cs fm u8) (fa1 : Txt Z h0 tx kt (24 : Int32) pre) (fa2 : Lst .byte Z h0 wn kw xs) (fa3 : Lst .char Z h0 wv kc vs) (na0 : wn ≠ tx) (na1 : wv ≠ tx) (ga0 : n0 ≤ tx) (sztx : hS.size ≤ tx) (hst : OwnSt kS kE kI cs fm) (hl : pre.length ≤ 9) (hh : OwnHead kd pre D) (hSh : OwnC xs D) (hNm : OwnNm nL na nb xs) (hVs : OwnVs vL va vb q vs) (hQt : q = 34 ∨ q = 39) (K0 : Keep hS h0 []) (hC0 : CHv Z consts_1 s.vm hS) (hQ : ∀ (h' : Heap) (L : List Loc), Fr n0 L → Q (some (.int (1 : Int32))) h' L) :
    OFin p e below (KPostW s Q room_1.cells room_1.slots) (T0.setTop (mkF m 577 (la43 p0 p1 p2 p3 p4 p5 tx kd (Int32.ofNat pre.length) fi z10 na nb nL q va vb vL wn wv 0 (-1) 0 (-1) 0 z25) [])) := by
  have hEL := own_EW hw
  refine OFin.of (S' := T0.setTop (mkF m 582 (la43 p0 p1 p2 p3 p4 p5 tx kd (Int32.ofNat pre.length) fi z10 na nb nL q va vb vL wn wv 0 (-1) 0 (-1) 0 z25) [(.int (((p0.toUInt32 >>> ((4 : Int32) &&& 31).toUInt32).toInt32) &&& (3 : Int32)))])) (fun t ht => iN X0 hx rfl (hb hby at_577) rfl (iC X0 hx rfl (hb hby at_578) (XS.iushr X0.here hx rfl (hb hby at_579) rfl (iC X0 hx rfl (hb hby at_580) (XS.iand X0.here hx rfl (hb hby at_581) rfl ht))))) ?_
  obtain ⟨ek, h_ek⟩ : ∃ z : Int32, z = (((p0.toUInt32 >>> ((4 : Int32) &&& 31).toUInt32).toInt32) &&& (3 : Int32)) := ⟨_, rfl⟩
  rw [← h_ek]
  refine OFin.of (S' := T0.setTop (mkF m 587 (la44 p0 p1 p2 p3 p4 p5 tx kd (Int32.ofNat pre.length) fi z10 na nb nL q va vb vL wn wv 0 (-1) 0 (-1) 0 z25 ek) [(.int (1 : Int32)), (.int ek)])) (fun t ht => sW X0 hx rfl (hb hby at_582) rfl (l' := (la44 p0 p1 p2 p3 p4 p5 tx kd (Int32.ofNat pre.length) fi z10 na nb nL q va vb vL wn wv 0 (-1) 0 (-1) 0 z25 ek)) rfl (iW X0 hx rfl (hb hby at_584) rfl (iC X0 hx rfl (hb hby at_586) ht))) ?_
  by_cases hc511 : ek = (1 : Int32)
  · obtain ⟨T512, h512, X512, e512, W512, G512, st512⟩ := own_stT X0 hx hZ e0 fa1 (j := (Int32.ofNat pre.length)) rfl (own_l24 hl (by decide)) (g := (mkF m 599 (la44 p0 p1 p2 p3 p4 p5 tx kd ((Int32.ofNat pre.length) + (1 : Int32)) fi z10 na nb nL q va vb vL wn wv 0 (-1) 0 (-1) 0 z25 ek) [(.int (62 : Int32)), (.int (Int32.ofNat pre.length)), (.ref tx)])) rfl rfl (hb hby at_599)
    have f513 := (fa0.wr W512)
    have f514 := (fa2.other W512 na0)
    have f515 := (fa3.other W512 na1)
    have Z516 := Nat.le_trans Z0 (Keep.of_wr W512).1
    have K517 := K0.wr W512 (Or.inr sztx)
    have N518 := Fr.snoc X512 N0 ga0
    have f519 : Txt Z h512 tx kt (24 : Int32) (pre ++ [(62 : Int32)]) := G512
    refine OFin.of (fun t ht => cN X0 hx rfl (hb hby at_587) rfl (teq hc511).2 (aW X0 hx rfl (hb hby at_590) rfl rfl (iW X0 hx rfl (hb hby at_592) rfl (iI X0 hx rfl (hb hby at_594) rfl (l' := (la44 p0 p1 p2 p3 p4 p5 tx kd ((Int32.ofNat pre.length) + (1 : Int32)) fi z10 na nb nL q va vb vL wn wv 0 (-1) 0 (-1) 0 z25 ek)) rfl (bP X0 hx rfl (hb hby at_597) (st512 t ht)))))) ?_
    rw [own_pos pre (62 : Int32)]
    refine OFin.of (S' := T512.setTop (mkF m 979 (la44 p0 p1 p2 p3 p4 p5 tx kd (Int32.ofNat (pre ++ [(62 : Int32)]).length) fi z10 na nb nL q va vb vL wn wv 0 (Int32.ofNat (pre ++ [(62 : Int32)]).length) 0 (-1) 0 z25 ek) [])) (fun t ht => iW X512 hx rfl (hb hby at_600) rfl (sW X512 hx rfl (hb hby at_602) rfl (l' := (la44 p0 p1 p2 p3 p4 p5 tx kd (Int32.ofNat (pre ++ [(62 : Int32)]).length) fi z10 na nb nL q va vb vL wn wv 0 (Int32.ofNat (pre ++ [(62 : Int32)]).length) 0 (-1) 0 z25 ek)) rfl (gO X512 hx rfl 604 979 rfl (hb hby at_604) (by decide) ht))) ?_
    exact segF Z _ hw hx hby hlk hret hml hown hZ n0  (X512.more (by decide) (by decide)) e512 Z516 N518 f513 f519 ga0 sztx hst (Nat.le_trans (own_la hl) (by decide)) (own_ha hh) (fun hk_ => own_F1 (own_hz (own_ha hh) hk_) hSh hNm (Nat.le_trans (own_la hl) (by decide))) (Or.inr ⟨_, rfl⟩) (Or.inr ⟨_, rfl⟩) (Or.inl rfl) (Or.inl rfl) (Or.inl rfl) K517 hC0 hQ
  · refine OFin.of (S' := T0.setTop (mkF m 610 (la44 p0 p1 p2 p3 p4 p5 tx kd (Int32.ofNat pre.length) fi z10 na nb nL q va vb vL wn wv 0 (-1) 0 (-1) 0 z25 ek) [(.int (2 : Int32)), (.int ek)])) (fun t ht => cY X0 hx rfl 587 607 rfl (hb hby at_587) rfl (feq hc511).2 (by decide) (iW X0 hx rfl (hb hby at_607) rfl (iC X0 hx rfl (hb hby at_609) ht))) ?_
    by_cases hc520 : ek = (2 : Int32)
    · obtain ⟨T521, h521, X521, e521, W521, G521, st521⟩ := own_stT X0 hx hZ e0 fa1 (j := (Int32.ofNat pre.length)) rfl (own_l24 hl (by decide)) (g := (mkF m 622 (la44 p0 p1 p2 p3 p4 p5 tx kd ((Int32.ofNat pre.length) + (1 : Int32)) fi z10 na nb nL q va vb vL wn wv 0 (-1) 0 (-1) 0 z25 ek) [(.int (47 : Int32)), (.int (Int32.ofNat pre.length)), (.ref tx)])) rfl rfl (hb hby at_622)
      have f522 := (fa0.wr W521)
      have f523 := (fa2.other W521 na0)
      have f524 := (fa3.other W521 na1)
      have Z525 := Nat.le_trans Z0 (Keep.of_wr W521).1
      have K526 := K0.wr W521 (Or.inr sztx)
      have N527 := Fr.snoc X521 N0 ga0
      have f528 : Txt Z h521 tx kt (24 : Int32) (pre ++ [(47 : Int32)]) := G521
      refine OFin.of (fun t ht => cN X0 hx rfl (hb hby at_610) rfl (teq hc520).2 (aW X0 hx rfl (hb hby at_613) rfl rfl (iW X0 hx rfl (hb hby at_615) rfl (iI X0 hx rfl (hb hby at_617) rfl (l' := (la44 p0 p1 p2 p3 p4 p5 tx kd ((Int32.ofNat pre.length) + (1 : Int32)) fi z10 na nb nL q va vb vL wn wv 0 (-1) 0 (-1) 0 z25 ek)) rfl (bP X0 hx rfl (hb hby at_620) (st521 t ht)))))) ?_
      rw [own_pos pre (47 : Int32)]
      obtain ⟨T529, h529, X529, e529, W529, G529, st529⟩ := own_stT X521 hx hZ e521 f528 (j := (Int32.ofNat (pre ++ [(47 : Int32)]).length)) rfl (own_l24 (own_la hl) (by decide)) (g := (mkF m 632 (la44 p0 p1 p2 p3 p4 p5 tx kd ((Int32.ofNat (pre ++ [(47 : Int32)]).length) + (1 : Int32)) fi z10 na nb nL q va vb vL wn wv 0 (-1) 0 (-1) 0 z25 ek) [(.int (62 : Int32)), (.int (Int32.ofNat (pre ++ [(47 : Int32)]).length)), (.ref tx)])) rfl rfl (hb hby at_632)
      have f530 := (f522.wr W529)
      have f531 := (f523.other W529 na0)
      have f532 := (f524.other W529 na1)
      have Z533 := Nat.le_trans Z525 (Keep.of_wr W529).1
      have K534 := K526.wr W529 (Or.inr sztx)
      have N535 := Fr.snoc X529 N527 ga0
      have f536 : Txt Z h529 tx kt (24 : Int32) ((pre ++ [(47 : Int32)]) ++ [(62 : Int32)]) := G529
      refine OFin.of (fun t ht => aW X521 hx rfl (hb hby at_623) rfl rfl (iW X521 hx rfl (hb hby at_625) rfl (iI X521 hx rfl (hb hby at_627) rfl (l' := (la44 p0 p1 p2 p3 p4 p5 tx kd ((Int32.ofNat (pre ++ [(47 : Int32)]).length) + (1 : Int32)) fi z10 na nb nL q va vb vL wn wv 0 (-1) 0 (-1) 0 z25 ek)) rfl (bP X521 hx rfl (hb hby at_630) (st529 t ht))))) ?_
      rw [own_pos (pre ++ [(47 : Int32)]) (62 : Int32)]
      refine OFin.of (S' := T529.setTop (mkF m 979 (la44 p0 p1 p2 p3 p4 p5 tx kd (Int32.ofNat ((pre ++ [(47 : Int32)]) ++ [(62 : Int32)]).length) fi z10 na nb nL q va vb vL wn wv 0 (Int32.ofNat ((pre ++ [(47 : Int32)]) ++ [(62 : Int32)]).length) 1 (-1) 0 z25 ek) [])) (fun t ht => iW X529 hx rfl (hb hby at_633) rfl (sW X529 hx rfl (hb hby at_635) rfl (l' := (la44 p0 p1 p2 p3 p4 p5 tx kd (Int32.ofNat ((pre ++ [(47 : Int32)]) ++ [(62 : Int32)]).length) fi z10 na nb nL q va vb vL wn wv 0 (Int32.ofNat ((pre ++ [(47 : Int32)]) ++ [(62 : Int32)]).length) 0 (-1) 0 z25 ek)) rfl (iC X529 hx rfl (hb hby at_637) (sW X529 hx rfl (hb hby at_638) rfl (l' := (la44 p0 p1 p2 p3 p4 p5 tx kd (Int32.ofNat ((pre ++ [(47 : Int32)]) ++ [(62 : Int32)]).length) fi z10 na nb nL q va vb vL wn wv 0 (Int32.ofNat ((pre ++ [(47 : Int32)]) ++ [(62 : Int32)]).length) 1 (-1) 0 z25 ek)) rfl (gO X529 hx rfl 640 979 rfl (hb hby at_640) (by decide) ht))))) ?_
      exact segF Z _ hw hx hby hlk hret hml hown hZ n0  (X529.more (by decide) (by decide)) e529 Z533 N535 f530 f536 ga0 sztx hst (Nat.le_trans (own_la (own_la hl)) (by decide)) (own_ha (own_ha hh)) (fun hk_ => own_F2 (own_hz (own_ha (own_ha hh)) hk_) hSh hNm (Nat.le_trans (own_la (own_la hl)) (by decide))) (Or.inr ⟨_, rfl⟩) (Or.inr ⟨_, rfl⟩) (Or.inl rfl) (Or.inl rfl) (Or.inl rfl) K534 hC0 hQ
    · refine OFin.of (S' := T0.setTop (mkF m 645 (la44 p0 p1 p2 p3 p4 p5 tx kd (Int32.ofNat pre.length) fi z10 na nb nL q va vb vL wn wv 0 (-1) 0 (-1) 0 z25 ek) [(.int ek)])) (fun t ht => cY X0 hx rfl 610 643 rfl (hb hby at_610) rfl (feq hc520).2 (by decide) (iW X0 hx rfl (hb hby at_643) rfl ht)) ?_
      by_cases hc537 : ek = (0 : Int32)
      · obtain ⟨T538, h538, X538, e538, W538, G538, st538⟩ := own_stT X0 hx hZ e0 fa1 (j := (Int32.ofNat pre.length)) rfl (own_l24 hl (by decide)) (g := (mkF m 657 (la44 p0 p1 p2 p3 p4 p5 tx kd ((Int32.ofNat pre.length) + (1 : Int32)) fi z10 na nb nL q va vb vL wn wv 0 (-1) 0 (-1) 0 z25 ek) [(.int (61 : Int32)), (.int (Int32.ofNat pre.length)), (.ref tx)])) rfl rfl (hb hby at_657)
        have f539 := (fa0.wr W538)
        have f540 := (fa2.other W538 na0)
        have f541 := (fa3.other W538 na1)
        have Z542 := Nat.le_trans Z0 (Keep.of_wr W538).1
        have K543 := K0.wr W538 (Or.inr sztx)
        have N544 := Fr.snoc X538 N0 ga0
        have f545 : Txt Z h538 tx kt (24 : Int32) (pre ++ [(61 : Int32)]) := G538
        refine OFin.of (fun t ht => fN X0 hx rfl (hb hby at_645) rfl ((if0 _ _).trans (teq hc537).2) (aW X0 hx rfl (hb hby at_648) rfl rfl (iW X0 hx rfl (hb hby at_650) rfl (iI X0 hx rfl (hb hby at_652) rfl (l' := (la44 p0 p1 p2 p3 p4 p5 tx kd ((Int32.ofNat pre.length) + (1 : Int32)) fi z10 na nb nL q va vb vL wn wv 0 (-1) 0 (-1) 0 z25 ek)) rfl (bP X0 hx rfl (hb hby at_655) (st538 t ht)))))) ?_
        rw [own_pos pre (61 : Int32)]
        obtain ⟨_, T546, Lc546, X546, hQ546, st546⟩ := own_cS X538 hx hw hZ hown 1 2 3 4 rfl rfl rfl rfl (by decide) (rmCnt l Z _ hw [] ((p1.toUInt32 >>> ((12 : Int32) &&& 31).toUInt32).toInt32) h538 n0 Z542 ) (by decide) (by decide) (g := (mkF m 662 (la44 p0 p1 p2 p3 p4 p5 tx kd (Int32.ofNat (pre ++ [(61 : Int32)]).length) fi z10 na nb nL q va vb vL wn wv 0 (-1) 0 (-1) 0 z25 ek) [(.int ((p1.toUInt32 >>> ((12 : Int32) &&& 31).toUInt32).toInt32))])) rfl hml rfl (argsL := [(.int ((p1.toUInt32 >>> ((12 : Int32) &&& 31).toUInt32).toInt32))]) (rest := []) pd_3 rfl rfl rfl (W := 0) (Nat.le_of_eq rfl) (hb hby at_662) rfl e538 (by decide) (by decide)
        obtain ⟨rfl, Nq546, hs546⟩ := hQ546
        have N547 := Fr.app N544 Nq546
        refine OFin.of (fun t ht => iN X538 hx rfl (hb hby at_658) rfl (bP X538 hx rfl (hb hby at_659) (XS.iushr X538.here hx rfl (hb hby at_661) rfl (st546.trans ht)))) ?_
        obtain ⟨sC, h_sC⟩ : ∃ z : Int32, z = (own_count ((p1.toUInt32 >>> ((12 : Int32) &&& 31).toUInt32).toInt32)) := ⟨_, rfl⟩
        rw [← h_sC]
        refine OFin.of (S' := T546.setTop (mkF m 670 (la42 p0 p1 p2 p3 p4 p5 tx kd (Int32.ofNat (pre ++ [(61 : Int32)]).length) fi z10 na nb nL q va vb vL wn wv 0 (-1) 0 (-1) 0 z25 ek sC) [(.int (1 : Int32)), (.int sC)])) (fun t ht => sW X546 hx rfl (hb hby at_665) rfl (l' := (la42 p0 p1 p2 p3 p4 p5 tx kd (Int32.ofNat (pre ++ [(61 : Int32)]).length) fi z10 na nb nL q va vb vL wn wv 0 (-1) 0 (-1) 0 z25 ek sC)) rfl (iW X546 hx rfl (hb hby at_667) rfl (iC X546 hx rfl (hb hby at_669) ht))) ?_
        by_cases hc548 : sC < (1 : Int32)
        · refine OFin.of (S' := T546.setTop (mkF m 691 (la42 p0 p1 p2 p3 p4 p5 tx kd (Int32.ofNat (pre ++ [(61 : Int32)]).length) fi z10 na nb nL q va vb vL wn wv 0 (-1) 0 (-1) 0 z25 ek sC) [(.int (2 : Int32)), (.int sC)])) (fun t ht => cY X546 hx rfl 670 688 rfl (hb hby at_670) rfl (tlt hc548).1 (by decide) (iW X546 hx rfl (hb hby at_688) rfl (iC X546 hx rfl (hb hby at_690) ht))) ?_
          by_cases hc549 : sC < (2 : Int32)
          · refine OFin.of (S' := T546.setTop (mkF m 709 (la42 p0 p1 p2 p3 p4 p5 tx kd (Int32.ofNat (pre ++ [(61 : Int32)]).length) fi z10 na nb nL q va vb vL wn wv 0 (-1) 0 (-1) 0 z25 ek sC) [])) (fun t ht => cY X546 hx rfl 691 709 rfl (hb hby at_691) rfl (tlt hc549).1 (by decide) ht) ?_
            exact seg709 Z _ hw hx hby hlk hret hml hown hZ n0  (X546.more (by decide) (by decide)) hs546 Z542 N547 f539 f545 f540 f541 na0 na1 ga0 sztx hst (Nat.le_trans (own_la hl) (by decide)) (own_ha hh) (own_E0 hSh) hNm hVs hQt K543 hC0 hQ
          · obtain ⟨_, T550, Lc550, X550, hQ550, st550⟩ := own_cS X546 hx hw hZ hown 5 6 3 7 rfl rfl rfl rfl (by decide) (rmSpc l Z _ hw [] ((p1.toUInt32 >>> ((16 : Int32) &&& 31).toUInt32).toInt32) h538 n0 Z542 ) (by decide) (by decide) (g := (mkF m 705 (la42 p0 p1 p2 p3 p4 p5 tx kd ((Int32.ofNat (pre ++ [(61 : Int32)]).length) + (1 : Int32)) fi z10 na nb nL q va vb vL wn wv 0 (-1) 0 (-1) 0 z25 ek sC) [(.int ((p1.toUInt32 >>> ((16 : Int32) &&& 31).toUInt32).toInt32)), (.int (Int32.ofNat (pre ++ [(61 : Int32)]).length)), (.ref tx)])) rfl hml rfl (argsL := [(.int ((p1.toUInt32 >>> ((16 : Int32) &&& 31).toUInt32).toInt32))]) (rest := [(.int (Int32.ofNat (pre ++ [(61 : Int32)]).length)), (.ref tx)]) pd_2 rfl rfl rfl (W := 2) (Nat.le_of_eq rfl) (hb hby at_705) rfl hs546 (by decide) (by decide)
            obtain ⟨rfl, Nq550, hs550⟩ := hQ550
            have N551 := Fr.app N547 Nq550
            refine OFin.of (fun t ht => cN X546 hx rfl (hb hby at_691) rfl (flt hc549).1 (aW X546 hx rfl (hb hby at_694) rfl rfl (iW X546 hx rfl (hb hby at_696) rfl (iI X546 hx rfl (hb hby at_698) rfl (l' := (la42 p0 p1 p2 p3 p4 p5 tx kd ((Int32.ofNat (pre ++ [(61 : Int32)]).length) + (1 : Int32)) fi z10 na nb nL q va vb vL wn wv 0 (-1) 0 (-1) 0 z25 ek sC)) rfl (iN X546 hx rfl (hb hby at_701) rfl (bP X546 hx rfl (hb hby at_702) (XS.iushr X546.here hx rfl (hb hby at_704) rfl (st550.trans ht)))))))) ?_
            obtain ⟨T552, h552, X552, e552, W552, G552, st552⟩ := own_stT X550 hx hZ hs550 f545 (j := (Int32.ofNat (pre ++ [(61 : Int32)]).length)) rfl (own_l24 (own_la hl) (by decide)) (g := (mkF m 708 (la42 p0 p1 p2 p3 p4 p5 tx kd ((Int32.ofNat (pre ++ [(61 : Int32)]).length) + (1 : Int32)) fi z10 na nb nL q va vb vL wn wv 0 (-1) 0 (-1) 0 z25 ek sC) [(.int (own_space ((p1.toUInt32 >>> ((16 : Int32) &&& 31).toUInt32).toInt32))), (.int (Int32.ofNat (pre ++ [(61 : Int32)]).length)), (.ref tx)])) rfl rfl (hb hby at_708)
            have f553 := (f539.wr W552)
            have f554 := (f540.other W552 na0)
            have f555 := (f541.other W552 na1)
            have Z556 := Nat.le_trans Z542 (Keep.of_wr W552).1
            have K557 := K543.wr W552 (Or.inr sztx)
            have N558 := Fr.snoc X552 N551 ga0
            have f559 : Txt Z h552 tx kt (24 : Int32) ((pre ++ [(61 : Int32)]) ++ [(own_space ((p1.toUInt32 >>> ((16 : Int32) &&& 31).toUInt32).toInt32))]) := (own_tx G552 (own_space_b _))
            refine OFin.of st552 ?_
            rw [own_pos (pre ++ [(61 : Int32)]) (own_space ((p1.toUInt32 >>> ((16 : Int32) &&& 31).toUInt32).toInt32))]
            exact seg709 Z _ hw hx hby hlk hret hml hown hZ n0  (X552.more (by decide) (by decide)) e552 Z556 N558 f553 f559 f554 f555 na0 na1 ga0 sztx hst (Nat.le_trans (own_la (own_la hl)) (by decide)) (own_ha (own_ha hh)) (own_E1 (own_E0 hSh) (own_space_isp _)) hNm hVs hQt K557 hC0 hQ
        · obtain ⟨_, T560, Lc560, X560, hQ560, st560⟩ := own_cS X546 hx hw hZ hown 5 6 3 7 rfl rfl rfl rfl (by decide) (rmSpc l Z _ hw [] ((p1.toUInt32 >>> ((14 : Int32) &&& 31).toUInt32).toInt32) h538 n0 Z542 ) (by decide) (by decide) (g := (mkF m 684 (la42 p0 p1 p2 p3 p4 p5 tx kd ((Int32.ofNat (pre ++ [(61 : Int32)]).length) + (1 : Int32)) fi z10 na nb nL q va vb vL wn wv 0 (-1) 0 (-1) 0 z25 ek sC) [(.int ((p1.toUInt32 >>> ((14 : Int32) &&& 31).toUInt32).toInt32)), (.int (Int32.ofNat (pre ++ [(61 : Int32)]).length)), (.ref tx)])) rfl hml rfl (argsL := [(.int ((p1.toUInt32 >>> ((14 : Int32) &&& 31).toUInt32).toInt32))]) (rest := [(.int (Int32.ofNat (pre ++ [(61 : Int32)]).length)), (.ref tx)]) pd_2 rfl rfl rfl (W := 2) (Nat.le_of_eq rfl) (hb hby at_684) rfl hs546 (by decide) (by decide)
          obtain ⟨rfl, Nq560, hs560⟩ := hQ560
          have N561 := Fr.app N547 Nq560
          refine OFin.of (fun t ht => cN X546 hx rfl (hb hby at_670) rfl (flt hc548).1 (aW X546 hx rfl (hb hby at_673) rfl rfl (iW X546 hx rfl (hb hby at_675) rfl (iI X546 hx rfl (hb hby at_677) rfl (l' := (la42 p0 p1 p2 p3 p4 p5 tx kd ((Int32.ofNat (pre ++ [(61 : Int32)]).length) + (1 : Int32)) fi z10 na nb nL q va vb vL wn wv 0 (-1) 0 (-1) 0 z25 ek sC)) rfl (iN X546 hx rfl (hb hby at_680) rfl (bP X546 hx rfl (hb hby at_681) (XS.iushr X546.here hx rfl (hb hby at_683) rfl (st560.trans ht)))))))) ?_
          obtain ⟨T562, h562, X562, e562, W562, G562, st562⟩ := own_stT X560 hx hZ hs560 f545 (j := (Int32.ofNat (pre ++ [(61 : Int32)]).length)) rfl (own_l24 (own_la hl) (by decide)) (g := (mkF m 687 (la42 p0 p1 p2 p3 p4 p5 tx kd ((Int32.ofNat (pre ++ [(61 : Int32)]).length) + (1 : Int32)) fi z10 na nb nL q va vb vL wn wv 0 (-1) 0 (-1) 0 z25 ek sC) [(.int (own_space ((p1.toUInt32 >>> ((14 : Int32) &&& 31).toUInt32).toInt32))), (.int (Int32.ofNat (pre ++ [(61 : Int32)]).length)), (.ref tx)])) rfl rfl (hb hby at_687)
          have f563 := (f539.wr W562)
          have f564 := (f540.other W562 na0)
          have f565 := (f541.other W562 na1)
          have Z566 := Nat.le_trans Z542 (Keep.of_wr W562).1
          have K567 := K543.wr W562 (Or.inr sztx)
          have N568 := Fr.snoc X562 N561 ga0
          have f569 : Txt Z h562 tx kt (24 : Int32) ((pre ++ [(61 : Int32)]) ++ [(own_space ((p1.toUInt32 >>> ((14 : Int32) &&& 31).toUInt32).toInt32))]) := (own_tx G562 (own_space_b _))
          refine OFin.of st562 ?_
          rw [own_pos (pre ++ [(61 : Int32)]) (own_space ((p1.toUInt32 >>> ((14 : Int32) &&& 31).toUInt32).toInt32))]
          refine OFin.of (S' := T562.setTop (mkF m 691 (la42 p0 p1 p2 p3 p4 p5 tx kd (Int32.ofNat ((pre ++ [(61 : Int32)]) ++ [(own_space ((p1.toUInt32 >>> ((14 : Int32) &&& 31).toUInt32).toInt32))]).length) fi z10 na nb nL q va vb vL wn wv 0 (-1) 0 (-1) 0 z25 ek sC) [(.int (2 : Int32)), (.int sC)])) (fun t ht => iW X562 hx rfl (hb hby at_688) rfl (iC X562 hx rfl (hb hby at_690) ht)) ?_
          by_cases hc570 : sC < (2 : Int32)
          · refine OFin.of (S' := T562.setTop (mkF m 709 (la42 p0 p1 p2 p3 p4 p5 tx kd (Int32.ofNat ((pre ++ [(61 : Int32)]) ++ [(own_space ((p1.toUInt32 >>> ((14 : Int32) &&& 31).toUInt32).toInt32))]).length) fi z10 na nb nL q va vb vL wn wv 0 (-1) 0 (-1) 0 z25 ek sC) [])) (fun t ht => cY X562 hx rfl 691 709 rfl (hb hby at_691) rfl (tlt hc570).1 (by decide) ht) ?_
            exact seg709 Z _ hw hx hby hlk hret hml hown hZ n0  (X562.more (by decide) (by decide)) e562 Z566 N568 f563 f569 f564 f565 na0 na1 ga0 sztx hst (Nat.le_trans (own_la (own_la hl)) (by decide)) (own_ha (own_ha hh)) (own_E1 (own_E0 hSh) (own_space_isp _)) hNm hVs hQt K567 hC0 hQ
          · obtain ⟨_, T571, Lc571, X571, hQ571, st571⟩ := own_cS X562 hx hw hZ hown 5 6 3 7 rfl rfl rfl rfl (by decide) (rmSpc l Z _ hw [] ((p1.toUInt32 >>> ((16 : Int32) &&& 31).toUInt32).toInt32) h562 n0 Z566 ) (by decide) (by decide) (g := (mkF m 705 (la42 p0 p1 p2 p3 p4 p5 tx kd ((Int32.ofNat ((pre ++ [(61 : Int32)]) ++ [(own_space ((p1.toUInt32 >>> ((14 : Int32) &&& 31).toUInt32).toInt32))]).length) + (1 : Int32)) fi z10 na nb nL q va vb vL wn wv 0 (-1) 0 (-1) 0 z25 ek sC) [(.int ((p1.toUInt32 >>> ((16 : Int32) &&& 31).toUInt32).toInt32)), (.int (Int32.ofNat ((pre ++ [(61 : Int32)]) ++ [(own_space ((p1.toUInt32 >>> ((14 : Int32) &&& 31).toUInt32).toInt32))]).length)), (.ref tx)])) rfl hml rfl (argsL := [(.int ((p1.toUInt32 >>> ((16 : Int32) &&& 31).toUInt32).toInt32))]) (rest := [(.int (Int32.ofNat ((pre ++ [(61 : Int32)]) ++ [(own_space ((p1.toUInt32 >>> ((14 : Int32) &&& 31).toUInt32).toInt32))]).length)), (.ref tx)]) pd_2 rfl rfl rfl (W := 2) (Nat.le_of_eq rfl) (hb hby at_705) rfl e562 (by decide) (by decide)
            obtain ⟨rfl, Nq571, hs571⟩ := hQ571
            have N572 := Fr.app N568 Nq571
            refine OFin.of (fun t ht => cN X562 hx rfl (hb hby at_691) rfl (flt hc570).1 (aW X562 hx rfl (hb hby at_694) rfl rfl (iW X562 hx rfl (hb hby at_696) rfl (iI X562 hx rfl (hb hby at_698) rfl (l' := (la42 p0 p1 p2 p3 p4 p5 tx kd ((Int32.ofNat ((pre ++ [(61 : Int32)]) ++ [(own_space ((p1.toUInt32 >>> ((14 : Int32) &&& 31).toUInt32).toInt32))]).length) + (1 : Int32)) fi z10 na nb nL q va vb vL wn wv 0 (-1) 0 (-1) 0 z25 ek sC)) rfl (iN X562 hx rfl (hb hby at_701) rfl (bP X562 hx rfl (hb hby at_702) (XS.iushr X562.here hx rfl (hb hby at_704) rfl (st571.trans ht)))))))) ?_
            obtain ⟨T573, h573, X573, e573, W573, G573, st573⟩ := own_stT X571 hx hZ hs571 f569 (j := (Int32.ofNat ((pre ++ [(61 : Int32)]) ++ [(own_space ((p1.toUInt32 >>> ((14 : Int32) &&& 31).toUInt32).toInt32))]).length)) rfl (own_l24 (own_la (own_la hl)) (by decide)) (g := (mkF m 708 (la42 p0 p1 p2 p3 p4 p5 tx kd ((Int32.ofNat ((pre ++ [(61 : Int32)]) ++ [(own_space ((p1.toUInt32 >>> ((14 : Int32) &&& 31).toUInt32).toInt32))]).length) + (1 : Int32)) fi z10 na nb nL q va vb vL wn wv 0 (-1) 0 (-1) 0 z25 ek sC) [(.int (own_space ((p1.toUInt32 >>> ((16 : Int32) &&& 31).toUInt32).toInt32))), (.int (Int32.ofNat ((pre ++ [(61 : Int32)]) ++ [(own_space ((p1.toUInt32 >>> ((14 : Int32) &&& 31).toUInt32).toInt32))]).length)), (.ref tx)])) rfl rfl (hb hby at_708)
            have f574 := (f563.wr W573)
            have f575 := (f564.other W573 na0)
            have f576 := (f565.other W573 na1)
            have Z577 := Nat.le_trans Z566 (Keep.of_wr W573).1
            have K578 := K567.wr W573 (Or.inr sztx)
            have N579 := Fr.snoc X573 N572 ga0
            have f580 : Txt Z h573 tx kt (24 : Int32) (((pre ++ [(61 : Int32)]) ++ [(own_space ((p1.toUInt32 >>> ((14 : Int32) &&& 31).toUInt32).toInt32))]) ++ [(own_space ((p1.toUInt32 >>> ((16 : Int32) &&& 31).toUInt32).toInt32))]) := (own_tx G573 (own_space_b _))
            refine OFin.of st573 ?_
            rw [own_pos ((pre ++ [(61 : Int32)]) ++ [(own_space ((p1.toUInt32 >>> ((14 : Int32) &&& 31).toUInt32).toInt32))]) (own_space ((p1.toUInt32 >>> ((16 : Int32) &&& 31).toUInt32).toInt32))]
            exact seg709 Z _ hw hx hby hlk hret hml hown hZ n0  (X573.more (by decide) (by decide)) e573 Z577 N579 f574 f580 f575 f576 na0 na1 ga0 sztx hst (Nat.le_trans (own_la (own_la (own_la hl))) (by decide)) (own_ha (own_ha (own_ha hh))) (own_E1 (own_E1 (own_E0 hSh) (own_space_isp _)) (own_space_isp _)) hNm hVs hQt K578 hC0 hQ
      · refine OFin.of (S' := T0.setTop (mkF m 979 (la44 p0 p1 p2 p3 p4 p5 tx kd (Int32.ofNat pre.length) fi z10 na nb nL q va vb vL wn wv 0 (-1) 0 (-1) 0 z25 ek) [])) (fun t ht => fY X0 hx rfl 645 979 rfl (hb hby at_645) rfl ((if0 _ _).trans (feq hc537).2) (by decide) ht) ?_
        exact segF Z _ hw hx hby hlk hret hml hown hZ n0  (X0.more (by decide) (by decide)) e0 Z0 N0 fa0 fa1 ga0 sztx hst (Nat.le_trans hl (by decide)) hh (fun hk_ => own_F3 (own_hz hh hk_) hSh hNm (Nat.le_trans hl (by decide))) (Or.inr ⟨_, rfl⟩) (Or.inr ⟨_, rfl⟩) (Or.inl rfl) (Or.inl rfl) (Or.inl rfl) K0 hC0 hQ
theorem seg526 {p : Program} {l : Launch} {e : Env} {s : State} {m : MethodId} {args : Array Value} {below : List Frame} {meth : Method} {c : Code} (Z : State) (a0 : Array Value) (hw : ∀ d ∈ tables_1, d.before a0 Z = true) (hx : p.tables.exec = Jvm.exec) (hby : c.code = code) (hlk : meth.locks = false) (hret : meth.sig.returnType = some .boolean) (hml : c.maxLocals = 36) (hown : s.vm.findClass cC = some m.cls) (hZ : Z.Warmed39 s.vm) {Q : Option Value → Heap → List Loc → Prop} (n0 : Nat) {hS : Heap} {kS kE kI : Addr} {cs : Int32} {fm : Value} {u8 : Addr} {p0 p1 p2 p3 p4 p5 : Int32} {tx : Addr} {kd fi : Int32} {z10 : Slot} {na nb nL q va vb vL : Int32} {wn wv : Addr} {kt : ClassId} {pre D : List Int32} {kw : ClassId} {xs : List Int32} {kc : ClassId} {vs : List Int32} {T0 : State} {locs : List Loc} {h0 : Heap} (X0 : Stand p l e room_1 s m args below meth c T0 locs 3 28) (e0 : T0.heap = h0) (Z0 : n0 ≤ h0.size) (N0 : Fr n0 locs) (fa0 : Sts Z h0 kS kE kI cs fm u8) (fa1 : Txt Z h0 tx kt (24 : Int32) pre) (fa2 : Lst .byte Z h0 wn kw xs) (fa3 : Lst .char Z h0 wv kc vs) (na0 : wn ≠ tx) (na1 : wv ≠ tx) (ga0 : n0 ≤ tx) (sztx : hS.size ≤ tx) (hst : OwnSt kS kE kI cs fm) (hl : pre.length ≤ 7) (hh : OwnHead kd pre D) (hSh : OwnB xs D) (hNm : OwnNm nL na nb xs) (hVs : OwnVs vL va vb q vs) (hQt : q = 34 ∨ q = 39) (K0 : Keep hS h0 []) (hC0 : CHv Z consts_1 s.vm hS) (hQ : ∀ (h' : Heap) (L : List Loc), Fr n0 L → Q (some (.int (1 : Int32))) h' L) :
    OFin p e below (KPostW s Q room_1.cells room_1.slots) (T0.setTop (mkF m 526 (la45 p0 p1 p2 p3 p4 p5 tx kd (Int32.ofNat pre.length) fi z10 na nb nL q va vb vL wn wv 0 (-1) 0 (-1) 0) [])) := by
  have hEL := own_EW hw
  obtain ⟨_, T581, Lc581, X581, hQ581, st581⟩ := own_cS X0 hx hw hZ hown 1 2 3 4 rfl rfl rfl rfl (by decide) (rmCnt l Z _ hw [] ((p1.toUInt32 >>> ((6 : Int32) &&& 31).toUInt32).toInt32) h0 n0 Z0 ) (by decide) (by decide) (g := (mkF m 530 (la45 p0 p1 p2 p3 p4 p5 tx kd (Int32.ofNat pre.length) fi z10 na nb nL q va vb vL wn wv 0 (-1) 0 (-1) 0) [(.int ((p1.toUInt32 >>> ((6 : Int32) &&& 31).toUInt32).toInt32))])) rfl hml rfl (argsL := [(.int ((p1.toUInt32 >>> ((6 : Int32) &&& 31).toUInt32).toInt32))]) (rest := []) pd_3 rfl rfl rfl (W := 0) (Nat.le_of_eq rfl) (hb hby at_530) rfl e0 (by decide) (by decide)
  obtain ⟨rfl, Nq581, hs581⟩ := hQ581
  have N582 := Fr.app N0 Nq581
  refine OFin.of (fun t ht => iN X0 hx rfl (hb hby at_526) rfl (bP X0 hx rfl (hb hby at_527) (XS.iushr X0.here hx rfl (hb hby at_529) rfl (st581.trans ht)))) ?_
  obtain ⟨sB, h_sB⟩ : ∃ z : Int32, z = (own_count ((p1.toUInt32 >>> ((6 : Int32) &&& 31).toUInt32).toInt32)) := ⟨_, rfl⟩
  rw [← h_sB]
  refine OFin.of (S' := T581.setTop (mkF m 538 (la43 p0 p1 p2 p3 p4 p5 tx kd (Int32.ofNat pre.length) fi z10 na nb nL q va vb vL wn wv 0 (-1) 0 (-1) 0 sB) [(.int (1 : Int32)), (.int sB)])) (fun t ht => sW X581 hx rfl (hb hby at_533) rfl (l' := (la43 p0 p1 p2 p3 p4 p5 tx kd (Int32.ofNat pre.length) fi z10 na nb nL q va vb vL wn wv 0 (-1) 0 (-1) 0 sB)) rfl (iW X581 hx rfl (hb hby at_535) rfl (iC X581 hx rfl (hb hby at_537) ht))) ?_
  by_cases hc583 : sB < (1 : Int32)
  · refine OFin.of (S' := T581.setTop (mkF m 559 (la43 p0 p1 p2 p3 p4 p5 tx kd (Int32.ofNat pre.length) fi z10 na nb nL q va vb vL wn wv 0 (-1) 0 (-1) 0 sB) [(.int (2 : Int32)), (.int sB)])) (fun t ht => cY X581 hx rfl 538 556 rfl (hb hby at_538) rfl (tlt hc583).1 (by decide) (iW X581 hx rfl (hb hby at_556) rfl (iC X581 hx rfl (hb hby at_558) ht))) ?_
    by_cases hc584 : sB < (2 : Int32)
    · refine OFin.of (S' := T581.setTop (mkF m 577 (la43 p0 p1 p2 p3 p4 p5 tx kd (Int32.ofNat pre.length) fi z10 na nb nL q va vb vL wn wv 0 (-1) 0 (-1) 0 sB) [])) (fun t ht => cY X581 hx rfl 559 577 rfl (hb hby at_559) rfl (tlt hc584).1 (by decide) ht) ?_
      exact seg577 Z _ hw hx hby hlk hret hml hown hZ n0  (X581.more (by decide) (by decide)) hs581 Z0 N582 fa0 fa1 fa2 fa3 na0 na1 ga0 sztx hst (Nat.le_trans hl (by decide)) hh (own_C0 hSh) hNm hVs hQt K0 hC0 hQ
    · obtain ⟨_, T585, Lc585, X585, hQ585, st585⟩ := own_cS X581 hx hw hZ hown 5 6 3 7 rfl rfl rfl rfl (by decide) (rmSpc l Z _ hw [] ((p1.toUInt32 >>> ((10 : Int32) &&& 31).toUInt32).toInt32) h0 n0 Z0 ) (by decide) (by decide) (g := (mkF m 573 (la43 p0 p1 p2 p3 p4 p5 tx kd ((Int32.ofNat pre.length) + (1 : Int32)) fi z10 na nb nL q va vb vL wn wv 0 (-1) 0 (-1) 0 sB) [(.int ((p1.toUInt32 >>> ((10 : Int32) &&& 31).toUInt32).toInt32)), (.int (Int32.ofNat pre.length)), (.ref tx)])) rfl hml rfl (argsL := [(.int ((p1.toUInt32 >>> ((10 : Int32) &&& 31).toUInt32).toInt32))]) (rest := [(.int (Int32.ofNat pre.length)), (.ref tx)]) pd_2 rfl rfl rfl (W := 2) (Nat.le_of_eq rfl) (hb hby at_573) rfl hs581 (by decide) (by decide)
      obtain ⟨rfl, Nq585, hs585⟩ := hQ585
      have N586 := Fr.app N582 Nq585
      refine OFin.of (fun t ht => cN X581 hx rfl (hb hby at_559) rfl (flt hc584).1 (aW X581 hx rfl (hb hby at_562) rfl rfl (iW X581 hx rfl (hb hby at_564) rfl (iI X581 hx rfl (hb hby at_566) rfl (l' := (la43 p0 p1 p2 p3 p4 p5 tx kd ((Int32.ofNat pre.length) + (1 : Int32)) fi z10 na nb nL q va vb vL wn wv 0 (-1) 0 (-1) 0 sB)) rfl (iN X581 hx rfl (hb hby at_569) rfl (bP X581 hx rfl (hb hby at_570) (XS.iushr X581.here hx rfl (hb hby at_572) rfl (st585.trans ht)))))))) ?_
      obtain ⟨T587, h587, X587, e587, W587, G587, st587⟩ := own_stT X585 hx hZ hs585 fa1 (j := (Int32.ofNat pre.length)) rfl (own_l24 hl (by decide)) (g := (mkF m 576 (la43 p0 p1 p2 p3 p4 p5 tx kd ((Int32.ofNat pre.length) + (1 : Int32)) fi z10 na nb nL q va vb vL wn wv 0 (-1) 0 (-1) 0 sB) [(.int (own_space ((p1.toUInt32 >>> ((10 : Int32) &&& 31).toUInt32).toInt32))), (.int (Int32.ofNat pre.length)), (.ref tx)])) rfl rfl (hb hby at_576)
      have f588 := (fa0.wr W587)
      have f589 := (fa2.other W587 na0)
      have f590 := (fa3.other W587 na1)
      have Z591 := Nat.le_trans Z0 (Keep.of_wr W587).1
      have K592 := K0.wr W587 (Or.inr sztx)
      have N593 := Fr.snoc X587 N586 ga0
      have f594 : Txt Z h587 tx kt (24 : Int32) (pre ++ [(own_space ((p1.toUInt32 >>> ((10 : Int32) &&& 31).toUInt32).toInt32))]) := (own_tx G587 (own_space_b _))
      refine OFin.of st587 ?_
      rw [own_pos pre (own_space ((p1.toUInt32 >>> ((10 : Int32) &&& 31).toUInt32).toInt32))]
      exact seg577 Z _ hw hx hby hlk hret hml hown hZ n0  (X587.more (by decide) (by decide)) e587 Z591 N593 f588 f594 f589 f590 na0 na1 ga0 sztx hst (Nat.le_trans (own_la hl) (by decide)) (own_ha hh) (own_C1 (own_C0 hSh) (own_space_isp _)) hNm hVs hQt K592 hC0 hQ
  · obtain ⟨_, T595, Lc595, X595, hQ595, st595⟩ := own_cS X581 hx hw hZ hown 5 6 3 7 rfl rfl rfl rfl (by decide) (rmSpc l Z _ hw [] ((p1.toUInt32 >>> ((8 : Int32) &&& 31).toUInt32).toInt32) h0 n0 Z0 ) (by decide) (by decide) (g := (mkF m 552 (la43 p0 p1 p2 p3 p4 p5 tx kd ((Int32.ofNat pre.length) + (1 : Int32)) fi z10 na nb nL q va vb vL wn wv 0 (-1) 0 (-1) 0 sB) [(.int ((p1.toUInt32 >>> ((8 : Int32) &&& 31).toUInt32).toInt32)), (.int (Int32.ofNat pre.length)), (.ref tx)])) rfl hml rfl (argsL := [(.int ((p1.toUInt32 >>> ((8 : Int32) &&& 31).toUInt32).toInt32))]) (rest := [(.int (Int32.ofNat pre.length)), (.ref tx)]) pd_2 rfl rfl rfl (W := 2) (Nat.le_of_eq rfl) (hb hby at_552) rfl hs581 (by decide) (by decide)
    obtain ⟨rfl, Nq595, hs595⟩ := hQ595
    have N596 := Fr.app N582 Nq595
    refine OFin.of (fun t ht => cN X581 hx rfl (hb hby at_538) rfl (flt hc583).1 (aW X581 hx rfl (hb hby at_541) rfl rfl (iW X581 hx rfl (hb hby at_543) rfl (iI X581 hx rfl (hb hby at_545) rfl (l' := (la43 p0 p1 p2 p3 p4 p5 tx kd ((Int32.ofNat pre.length) + (1 : Int32)) fi z10 na nb nL q va vb vL wn wv 0 (-1) 0 (-1) 0 sB)) rfl (iN X581 hx rfl (hb hby at_548) rfl (bP X581 hx rfl (hb hby at_549) (XS.iushr X581.here hx rfl (hb hby at_551) rfl (st595.trans ht)))))))) ?_
    obtain ⟨T597, h597, X597, e597, W597, G597, st597⟩ := own_stT X595 hx hZ hs595 fa1 (j := (Int32.ofNat pre.length)) rfl (own_l24 hl (by decide)) (g := (mkF m 555 (la43 p0 p1 p2 p3 p4 p5 tx kd ((Int32.ofNat pre.length) + (1 : Int32)) fi z10 na nb nL q va vb vL wn wv 0 (-1) 0 (-1) 0 sB) [(.int (own_space ((p1.toUInt32 >>> ((8 : Int32) &&& 31).toUInt32).toInt32))), (.int (Int32.ofNat pre.length)), (.ref tx)])) rfl rfl (hb hby at_555)
    have f598 := (fa0.wr W597)
    have f599 := (fa2.other W597 na0)
    have f600 := (fa3.other W597 na1)
    have Z601 := Nat.le_trans Z0 (Keep.of_wr W597).1
    have K602 := K0.wr W597 (Or.inr sztx)
    have N603 := Fr.snoc X597 N596 ga0
    have f604 : Txt Z h597 tx kt (24 : Int32) (pre ++ [(own_space ((p1.toUInt32 >>> ((8 : Int32) &&& 31).toUInt32).toInt32))]) := (own_tx G597 (own_space_b _))
    refine OFin.of st597 ?_
    rw [own_pos pre (own_space ((p1.toUInt32 >>> ((8 : Int32) &&& 31).toUInt32).toInt32))]
    refine OFin.of (S' := T597.setTop (mkF m 559 (la43 p0 p1 p2 p3 p4 p5 tx kd (Int32.ofNat (pre ++ [(own_space ((p1.toUInt32 >>> ((8 : Int32) &&& 31).toUInt32).toInt32))]).length) fi z10 na nb nL q va vb vL wn wv 0 (-1) 0 (-1) 0 sB) [(.int (2 : Int32)), (.int sB)])) (fun t ht => iW X597 hx rfl (hb hby at_556) rfl (iC X597 hx rfl (hb hby at_558) ht)) ?_
    by_cases hc605 : sB < (2 : Int32)
    · refine OFin.of (S' := T597.setTop (mkF m 577 (la43 p0 p1 p2 p3 p4 p5 tx kd (Int32.ofNat (pre ++ [(own_space ((p1.toUInt32 >>> ((8 : Int32) &&& 31).toUInt32).toInt32))]).length) fi z10 na nb nL q va vb vL wn wv 0 (-1) 0 (-1) 0 sB) [])) (fun t ht => cY X597 hx rfl 559 577 rfl (hb hby at_559) rfl (tlt hc605).1 (by decide) ht) ?_
      exact seg577 Z _ hw hx hby hlk hret hml hown hZ n0  (X597.more (by decide) (by decide)) e597 Z601 N603 f598 f604 f599 f600 na0 na1 ga0 sztx hst (Nat.le_trans (own_la hl) (by decide)) (own_ha hh) (own_C1 (own_C0 hSh) (own_space_isp _)) hNm hVs hQt K602 hC0 hQ
    · obtain ⟨_, T606, Lc606, X606, hQ606, st606⟩ := own_cS X597 hx hw hZ hown 5 6 3 7 rfl rfl rfl rfl (by decide) (rmSpc l Z _ hw [] ((p1.toUInt32 >>> ((10 : Int32) &&& 31).toUInt32).toInt32) h597 n0 Z601 ) (by decide) (by decide) (g := (mkF m 573 (la43 p0 p1 p2 p3 p4 p5 tx kd ((Int32.ofNat (pre ++ [(own_space ((p1.toUInt32 >>> ((8 : Int32) &&& 31).toUInt32).toInt32))]).length) + (1 : Int32)) fi z10 na nb nL q va vb vL wn wv 0 (-1) 0 (-1) 0 sB) [(.int ((p1.toUInt32 >>> ((10 : Int32) &&& 31).toUInt32).toInt32)), (.int (Int32.ofNat (pre ++ [(own_space ((p1.toUInt32 >>> ((8 : Int32) &&& 31).toUInt32).toInt32))]).length)), (.ref tx)])) rfl hml rfl (argsL := [(.int ((p1.toUInt32 >>> ((10 : Int32) &&& 31).toUInt32).toInt32))]) (rest := [(.int (Int32.ofNat (pre ++ [(own_space ((p1.toUInt32 >>> ((8 : Int32) &&& 31).toUInt32).toInt32))]).length)), (.ref tx)]) pd_2 rfl rfl rfl (W := 2) (Nat.le_of_eq rfl) (hb hby at_573) rfl e597 (by decide) (by decide)
      obtain ⟨rfl, Nq606, hs606⟩ := hQ606
      have N607 := Fr.app N603 Nq606
      refine OFin.of (fun t ht => cN X597 hx rfl (hb hby at_559) rfl (flt hc605).1 (aW X597 hx rfl (hb hby at_562) rfl rfl (iW X597 hx rfl (hb hby at_564) rfl (iI X597 hx rfl (hb hby at_566) rfl (l' := (la43 p0 p1 p2 p3 p4 p5 tx kd ((Int32.ofNat (pre ++ [(own_space ((p1.toUInt32 >>> ((8 : Int32) &&& 31).toUInt32).toInt32))]).length) + (1 : Int32)) fi z10 na nb nL q va vb vL wn wv 0 (-1) 0 (-1) 0 sB)) rfl (iN X597 hx rfl (hb hby at_569) rfl (bP X597 hx rfl (hb hby at_570) (XS.iushr X597.here hx rfl (hb hby at_572) rfl (st606.trans ht)))))))) ?_
      obtain ⟨T608, h608, X608, e608, W608, G608, st608⟩ := own_stT X606 hx hZ hs606 f604 (j := (Int32.ofNat (pre ++ [(own_space ((p1.toUInt32 >>> ((8 : Int32) &&& 31).toUInt32).toInt32))]).length)) rfl (own_l24 (own_la hl) (by decide)) (g := (mkF m 576 (la43 p0 p1 p2 p3 p4 p5 tx kd ((Int32.ofNat (pre ++ [(own_space ((p1.toUInt32 >>> ((8 : Int32) &&& 31).toUInt32).toInt32))]).length) + (1 : Int32)) fi z10 na nb nL q va vb vL wn wv 0 (-1) 0 (-1) 0 sB) [(.int (own_space ((p1.toUInt32 >>> ((10 : Int32) &&& 31).toUInt32).toInt32))), (.int (Int32.ofNat (pre ++ [(own_space ((p1.toUInt32 >>> ((8 : Int32) &&& 31).toUInt32).toInt32))]).length)), (.ref tx)])) rfl rfl (hb hby at_576)
      have f609 := (f598.wr W608)
      have f610 := (f599.other W608 na0)
      have f611 := (f600.other W608 na1)
      have Z612 := Nat.le_trans Z601 (Keep.of_wr W608).1
      have K613 := K602.wr W608 (Or.inr sztx)
      have N614 := Fr.snoc X608 N607 ga0
      have f615 : Txt Z h608 tx kt (24 : Int32) ((pre ++ [(own_space ((p1.toUInt32 >>> ((8 : Int32) &&& 31).toUInt32).toInt32))]) ++ [(own_space ((p1.toUInt32 >>> ((10 : Int32) &&& 31).toUInt32).toInt32))]) := (own_tx G608 (own_space_b _))
      refine OFin.of st608 ?_
      rw [own_pos (pre ++ [(own_space ((p1.toUInt32 >>> ((8 : Int32) &&& 31).toUInt32).toInt32))]) (own_space ((p1.toUInt32 >>> ((10 : Int32) &&& 31).toUInt32).toInt32))]
      exact seg577 Z _ hw hx hby hlk hret hml hown hZ n0  (X608.more (by decide) (by decide)) e608 Z612 N614 f609 f615 f610 f611 na0 na1 ga0 sztx hst (Nat.le_trans (own_la (own_la hl)) (by decide)) (own_ha (own_ha hh)) (own_C1 (own_C1 (own_C0 hSh) (own_space_isp _)) (own_space_isp _)) hNm hVs hQt K613 hC0 hQ
theorem seg436 {p : Program} {l : Launch} {e : Env} {s : State} {m : MethodId} {args : Array Value} {below : List Frame} {meth : Method} {c : Code} (Z : State) (a0 : Array Value) (hw : ∀ d ∈ tables_1, d.before a0 Z = true) (hx : p.tables.exec = Jvm.exec) (hby : c.code = code) (hlk : meth.locks = false) (hret : meth.sig.returnType = some .boolean) (hml : c.maxLocals = 36) (hown : s.vm.findClass cC = some m.cls) (hZ : Z.Warmed39 s.vm) {Q : Option Value → Heap → List Loc → Prop} (n0 : Nat) {hS : Heap} {kS kE kI : Addr} {cs : Int32} {fm : Value} {u8 : Addr} {p0 p1 p2 p3 p4 p5 : Int32} {tx : Addr} {kd fi : Int32} {z10 : Slot} {na nb nL q va vb vL : Int32} {wn wv : Addr} {kt : ClassId} {pre D : List Int32} {kw : ClassId} {xs : List Int32} {kc : ClassId} {vs : List Int32} {T0 : State} {locs : List Loc} {h0 : Heap} (X0 : Stand p l e room_1 s m args below meth c T0 locs 3 28) (e0 : T0.heap = h0) (Z0 : n0 ≤ h0.size) (N0 : Fr n0 locs) (fa0 : Sts Z h0 kS kE kI cs fm u8) (fa1 : Txt Z h0 tx kt (24 : Int32) pre) (fa2 : Lst .byte Z h0 wn kw xs) (fa3 : Lst .char Z h0 wv kc vs) (na0 : wn ≠ tx) (na1 : wv ≠ tx) (ga0 : n0 ≤ tx) (sztx : hS.size ≤ tx) (hst : OwnSt kS kE kI cs fm) (hl : pre.length ≤ 5) (hh : OwnHead kd pre D) (hSp : own_sps D) (hfi : fi = (3 : Int32) → D ≠ []) (hNm : OwnNm nL na nb xs) (hVs : OwnVs vL va vb q vs) (hQt : q = 34 ∨ q = 39) (K0 : Keep hS h0 []) (hC0 : CHv Z consts_1 s.vm hS) (hQ : ∀ (h' : Heap) (L : List Loc), Fr n0 L → Q (some (.int (1 : Int32))) h' L) :
    OFin p e below (KPostW s Q room_1.cells room_1.slots) (T0.setTop (mkF m 436 (la45 p0 p1 p2 p3 p4 p5 tx kd (Int32.ofNat pre.length) fi z10 na nb nL q va vb vL wn wv 0 (-1) 0 (-1) 0) [])) := by
  have hEL := own_EW hw
  refine OFin.of (S' := T0.setTop (mkF m 438 (la45 p0 p1 p2 p3 p4 p5 tx kd (Int32.ofNat pre.length) fi z10 na nb nL q va vb vL wn wv 0 (-1) 0 (-1) 0) [(.int fi)])) (fun t ht => iW X0 hx rfl (hb hby at_436) rfl ht) ?_
  by_cases hc616 : fi = (0 : Int32)
  · obtain ⟨T617, h617, X617, e617, W617, G617, st617⟩ := own_stT X0 hx hZ e0 fa1 (j := (Int32.ofNat pre.length)) rfl (own_l24 hl (by decide)) (g := (mkF m 450 (la45 p0 p1 p2 p3 p4 p5 tx kd ((Int32.ofNat pre.length) + (1 : Int32)) fi z10 na nb nL q va vb vL wn wv 0 (-1) 0 (-1) 0) [(.int (62 : Int32)), (.int (Int32.ofNat pre.length)), (.ref tx)])) rfl rfl (hb hby at_450)
    have f618 := (fa0.wr W617)
    have f619 := (fa2.other W617 na0)
    have f620 := (fa3.other W617 na1)
    have Z621 := Nat.le_trans Z0 (Keep.of_wr W617).1
    have K622 := K0.wr W617 (Or.inr sztx)
    have N623 := Fr.snoc X617 N0 ga0
    have f624 : Txt Z h617 tx kt (24 : Int32) (pre ++ [(62 : Int32)]) := G617
    refine OFin.of (fun t ht => fN X0 hx rfl (hb hby at_438) rfl ((if0 _ _).trans (teq hc616).2) (aW X0 hx rfl (hb hby at_441) rfl rfl (iW X0 hx rfl (hb hby at_443) rfl (iI X0 hx rfl (hb hby at_445) rfl (l' := (la45 p0 p1 p2 p3 p4 p5 tx kd ((Int32.ofNat pre.length) + (1 : Int32)) fi z10 na nb nL q va vb vL wn wv 0 (-1) 0 (-1) 0)) rfl (bP X0 hx rfl (hb hby at_448) (st617 t ht)))))) ?_
    rw [own_pos pre (62 : Int32)]
    refine OFin.of (S' := T617.setTop (mkF m 979 (la45 p0 p1 p2 p3 p4 p5 tx kd (Int32.ofNat (pre ++ [(62 : Int32)]).length) fi z10 na nb nL q va vb vL wn wv 0 (Int32.ofNat (pre ++ [(62 : Int32)]).length) 0 (-1) 0) [])) (fun t ht => iW X617 hx rfl (hb hby at_451) rfl (sW X617 hx rfl (hb hby at_453) rfl (l' := (la45 p0 p1 p2 p3 p4 p5 tx kd (Int32.ofNat (pre ++ [(62 : Int32)]).length) fi z10 na nb nL q va vb vL wn wv 0 (Int32.ofNat (pre ++ [(62 : Int32)]).length) 0 (-1) 0)) rfl (gO X617 hx rfl 455 979 rfl (hb hby at_455) (by decide) ht))) ?_
    exact segF Z _ hw hx hby hlk hret hml hown hZ n0  (X617.more (by decide) (by decide)) e617 Z621 N623 f618 f624 ga0 sztx hst (Nat.le_trans (own_la hl) (by decide)) (own_ha hh) (fun hk_ => own_F00 (own_hz (own_ha hh) hk_) hSp (Nat.le_trans (own_la hl) (by decide))) (Or.inl rfl) (Or.inl rfl) (Or.inl rfl) (Or.inl rfl) (Or.inl rfl) K622 hC0 hQ
  · refine OFin.of (S' := T0.setTop (mkF m 461 (la45 p0 p1 p2 p3 p4 p5 tx kd (Int32.ofNat pre.length) fi z10 na nb nL q va vb vL wn wv 0 (-1) 0 (-1) 0) [(.int (1 : Int32)), (.int fi)])) (fun t ht => fY X0 hx rfl 438 458 rfl (hb hby at_438) rfl ((if0 _ _).trans (feq hc616).2) (by decide) (iW X0 hx rfl (hb hby at_458) rfl (iC X0 hx rfl (hb hby at_460) ht))) ?_
    by_cases hc625 : fi = (1 : Int32)
    · obtain ⟨T626, h626, X626, e626, W626, G626, st626⟩ := own_stT X0 hx hZ e0 fa1 (j := (Int32.ofNat pre.length)) rfl (own_l24 hl (by decide)) (g := (mkF m 473 (la45 p0 p1 p2 p3 p4 p5 tx kd ((Int32.ofNat pre.length) + (1 : Int32)) fi z10 na nb nL q va vb vL wn wv 0 (-1) 0 (-1) 0) [(.int (47 : Int32)), (.int (Int32.ofNat pre.length)), (.ref tx)])) rfl rfl (hb hby at_473)
      have f627 := (fa0.wr W626)
      have f628 := (fa2.other W626 na0)
      have f629 := (fa3.other W626 na1)
      have Z630 := Nat.le_trans Z0 (Keep.of_wr W626).1
      have K631 := K0.wr W626 (Or.inr sztx)
      have N632 := Fr.snoc X626 N0 ga0
      have f633 : Txt Z h626 tx kt (24 : Int32) (pre ++ [(47 : Int32)]) := G626
      refine OFin.of (fun t ht => cN X0 hx rfl (hb hby at_461) rfl (teq hc625).2 (aW X0 hx rfl (hb hby at_464) rfl rfl (iW X0 hx rfl (hb hby at_466) rfl (iI X0 hx rfl (hb hby at_468) rfl (l' := (la45 p0 p1 p2 p3 p4 p5 tx kd ((Int32.ofNat pre.length) + (1 : Int32)) fi z10 na nb nL q va vb vL wn wv 0 (-1) 0 (-1) 0)) rfl (bP X0 hx rfl (hb hby at_471) (st626 t ht)))))) ?_
      rw [own_pos pre (47 : Int32)]
      obtain ⟨T634, h634, X634, e634, W634, G634, st634⟩ := own_stT X626 hx hZ e626 f633 (j := (Int32.ofNat (pre ++ [(47 : Int32)]).length)) rfl (own_l24 (own_la hl) (by decide)) (g := (mkF m 483 (la45 p0 p1 p2 p3 p4 p5 tx kd ((Int32.ofNat (pre ++ [(47 : Int32)]).length) + (1 : Int32)) fi z10 na nb nL q va vb vL wn wv 0 (-1) 0 (-1) 0) [(.int (62 : Int32)), (.int (Int32.ofNat (pre ++ [(47 : Int32)]).length)), (.ref tx)])) rfl rfl (hb hby at_483)
      have f635 := (f627.wr W634)
      have f636 := (f628.other W634 na0)
      have f637 := (f629.other W634 na1)
      have Z638 := Nat.le_trans Z630 (Keep.of_wr W634).1
      have K639 := K631.wr W634 (Or.inr sztx)
      have N640 := Fr.snoc X634 N632 ga0
      have f641 : Txt Z h634 tx kt (24 : Int32) ((pre ++ [(47 : Int32)]) ++ [(62 : Int32)]) := G634
      refine OFin.of (fun t ht => aW X626 hx rfl (hb hby at_474) rfl rfl (iW X626 hx rfl (hb hby at_476) rfl (iI X626 hx rfl (hb hby at_478) rfl (l' := (la45 p0 p1 p2 p3 p4 p5 tx kd ((Int32.ofNat (pre ++ [(47 : Int32)]).length) + (1 : Int32)) fi z10 na nb nL q va vb vL wn wv 0 (-1) 0 (-1) 0)) rfl (bP X626 hx rfl (hb hby at_481) (st634 t ht))))) ?_
      rw [own_pos (pre ++ [(47 : Int32)]) (62 : Int32)]
      refine OFin.of (S' := T634.setTop (mkF m 979 (la45 p0 p1 p2 p3 p4 p5 tx kd (Int32.ofNat ((pre ++ [(47 : Int32)]) ++ [(62 : Int32)]).length) fi z10 na nb nL q va vb vL wn wv 0 (Int32.ofNat ((pre ++ [(47 : Int32)]) ++ [(62 : Int32)]).length) 1 (-1) 0) [])) (fun t ht => iW X634 hx rfl (hb hby at_484) rfl (sW X634 hx rfl (hb hby at_486) rfl (l' := (la45 p0 p1 p2 p3 p4 p5 tx kd (Int32.ofNat ((pre ++ [(47 : Int32)]) ++ [(62 : Int32)]).length) fi z10 na nb nL q va vb vL wn wv 0 (Int32.ofNat ((pre ++ [(47 : Int32)]) ++ [(62 : Int32)]).length) 0 (-1) 0)) rfl (iC X634 hx rfl (hb hby at_488) (sW X634 hx rfl (hb hby at_489) rfl (l' := (la45 p0 p1 p2 p3 p4 p5 tx kd (Int32.ofNat ((pre ++ [(47 : Int32)]) ++ [(62 : Int32)]).length) fi z10 na nb nL q va vb vL wn wv 0 (Int32.ofNat ((pre ++ [(47 : Int32)]) ++ [(62 : Int32)]).length) 1 (-1) 0)) rfl (gO X634 hx rfl 491 979 rfl (hb hby at_491) (by decide) ht))))) ?_
      exact segF Z _ hw hx hby hlk hret hml hown hZ n0  (X634.more (by decide) (by decide)) e634 Z638 N640 f635 f641 ga0 sztx hst (Nat.le_trans (own_la (own_la hl)) (by decide)) (own_ha (own_ha hh)) (fun hk_ => own_F01 (own_hz (own_ha (own_ha hh)) hk_) hSp (Nat.le_trans (own_la (own_la hl)) (by decide))) (Or.inl rfl) (Or.inl rfl) (Or.inl rfl) (Or.inl rfl) (Or.inl rfl) K639 hC0 hQ
    · refine OFin.of (S' := T0.setTop (mkF m 497 (la45 p0 p1 p2 p3 p4 p5 tx kd (Int32.ofNat pre.length) fi z10 na nb nL q va vb vL wn wv 0 (-1) 0 (-1) 0) [(.int (3 : Int32)), (.int fi)])) (fun t ht => cY X0 hx rfl 461 494 rfl (hb hby at_461) rfl (feq hc625).2 (by decide) (iW X0 hx rfl (hb hby at_494) rfl (iC X0 hx rfl (hb hby at_496) ht))) ?_
      by_cases hc642 : fi = (3 : Int32)
      · obtain ⟨T643, h643, X643, e643, W643, G643, st643⟩ := own_stT X0 hx hZ e0 fa1 (j := (Int32.ofNat pre.length)) rfl (own_l24 hl (by decide)) (g := (mkF m 509 (la45 p0 p1 p2 p3 p4 p5 tx kd ((Int32.ofNat pre.length) + (1 : Int32)) fi z10 na nb nL q va vb vL wn wv 0 (-1) 0 (-1) 0) [(.int na), (.int (Int32.ofNat pre.length)), (.ref tx)])) rfl rfl (hb hby at_509)
        have f644 := (fa0.wr W643)
        have f645 := (fa2.other W643 na0)
        have f646 := (fa3.other W643 na1)
        have Z647 := Nat.le_trans Z0 (Keep.of_wr W643).1
        have K648 := K0.wr W643 (Or.inr sztx)
        have N649 := Fr.snoc X643 N0 ga0
        have f650 : Txt Z h643 tx kt (24 : Int32) (pre ++ [na]) := (own_tx G643 hNm.2.2.1)
        refine OFin.of (fun t ht => cN X0 hx rfl (hb hby at_497) rfl (teq hc642).2 (aW X0 hx rfl (hb hby at_500) rfl rfl (iW X0 hx rfl (hb hby at_502) rfl (iI X0 hx rfl (hb hby at_504) rfl (l' := (la45 p0 p1 p2 p3 p4 p5 tx kd ((Int32.ofNat pre.length) + (1 : Int32)) fi z10 na nb nL q va vb vL wn wv 0 (-1) 0 (-1) 0)) rfl (iW X0 hx rfl (hb hby at_507) rfl (st643 t ht)))))) ?_
        rw [own_pos pre na]
        refine OFin.of (S' := T643.setTop (mkF m 513 (la45 p0 p1 p2 p3 p4 p5 tx kd (Int32.ofNat (pre ++ [na]).length) fi z10 na nb nL q va vb vL wn wv 0 (-1) 0 (-1) 0) [(.int (2 : Int32)), (.int nL)])) (fun t ht => iW X643 hx rfl (hb hby at_510) rfl (iC X643 hx rfl (hb hby at_512) ht)) ?_
        by_cases hc651 : nL = (2 : Int32)
        · obtain ⟨T652, h652, X652, e652, W652, G652, st652⟩ := own_stT X643 hx hZ e643 f650 (j := (Int32.ofNat (pre ++ [na]).length)) rfl (own_l24 (own_la hl) (by decide)) (g := (mkF m 525 (la45 p0 p1 p2 p3 p4 p5 tx kd ((Int32.ofNat (pre ++ [na]).length) + (1 : Int32)) fi z10 na nb nL q va vb vL wn wv 0 (-1) 0 (-1) 0) [(.int nb), (.int (Int32.ofNat (pre ++ [na]).length)), (.ref tx)])) rfl rfl (hb hby at_525)
          have f653 := (f644.wr W652)
          have f654 := (f645.other W652 na0)
          have f655 := (f646.other W652 na1)
          have Z656 := Nat.le_trans Z647 (Keep.of_wr W652).1
          have K657 := K648.wr W652 (Or.inr sztx)
          have N658 := Fr.snoc X652 N649 ga0
          have f659 : Txt Z h652 tx kt (24 : Int32) ((pre ++ [na]) ++ [nb]) := (own_tx G652 hNm.2.2.2.1)
          refine OFin.of (fun t ht => cN X643 hx rfl (hb hby at_513) rfl (teq hc651).2 (aW X643 hx rfl (hb hby at_516) rfl rfl (iW X643 hx rfl (hb hby at_518) rfl (iI X643 hx rfl (hb hby at_520) rfl (l' := (la45 p0 p1 p2 p3 p4 p5 tx kd ((Int32.ofNat (pre ++ [na]).length) + (1 : Int32)) fi z10 na nb nL q va vb vL wn wv 0 (-1) 0 (-1) 0)) rfl (iW X643 hx rfl (hb hby at_523) rfl (st652 t ht)))))) ?_
          rw [own_pos (pre ++ [na]) nb]
          exact seg526 Z _ hw hx hby hlk hret hml hown hZ n0  (X652.more (by decide) (by decide)) e652 Z656 N658 f653 f659 f654 f655 na0 na1 ga0 sztx hst (Nat.le_trans (own_la (own_la hl)) (by decide)) (own_ha (own_ha hh)) (own_B2 hSp (hfi hc642) hNm hc651) hNm hVs hQt K657 hC0 hQ
        · refine OFin.of (S' := T643.setTop (mkF m 526 (la45 p0 p1 p2 p3 p4 p5 tx kd (Int32.ofNat (pre ++ [na]).length) fi z10 na nb nL q va vb vL wn wv 0 (-1) 0 (-1) 0) [])) (fun t ht => cY X643 hx rfl 513 526 rfl (hb hby at_513) rfl (feq hc651).2 (by decide) ht) ?_
          exact seg526 Z _ hw hx hby hlk hret hml hown hZ n0  (X643.more (by decide) (by decide)) e643 Z647 N649 f644 f650 f645 f646 na0 na1 ga0 sztx hst (Nat.le_trans (own_la hl) (by decide)) (own_ha hh) (own_B1 hSp (hfi hc642) hNm hc651) hNm hVs hQt K648 hC0 hQ
      · refine OFin.of (S' := T0.setTop (mkF m 979 (la45 p0 p1 p2 p3 p4 p5 tx kd (Int32.ofNat pre.length) fi z10 na nb nL q va vb vL wn wv 0 (-1) 0 (-1) 0) [])) (fun t ht => cY X0 hx rfl 497 979 rfl (hb hby at_497) rfl (feq hc642).2 (by decide) ht) ?_
        exact segF Z _ hw hx hby hlk hret hml hown hZ n0  (X0.more (by decide) (by decide)) e0 Z0 N0 fa0 fa1 ga0 sztx hst (Nat.le_trans hl (by decide)) hh (fun hk_ => own_F02 (own_hz hh hk_) hSp (Nat.le_trans hl (by decide))) (Or.inl rfl) (Or.inl rfl) (Or.inl rfl) (Or.inl rfl) (Or.inl rfl) K0 hC0 hQ
theorem seg378 {p : Program} {l : Launch} {e : Env} {s : State} {m : MethodId} {args : Array Value} {below : List Frame} {meth : Method} {c : Code} (Z : State) (a0 : Array Value) (hw : ∀ d ∈ tables_1, d.before a0 Z = true) (hx : p.tables.exec = Jvm.exec) (hby : c.code = code) (hlk : meth.locks = false) (hret : meth.sig.returnType = some .boolean) (hml : c.maxLocals = 36) (hown : s.vm.findClass cC = some m.cls) (hZ : Z.Warmed39 s.vm) {Q : Option Value → Heap → List Loc → Prop} (n0 : Nat) {hS : Heap} {kS kE kI : Addr} {cs : Int32} {fm : Value} {u8 : Addr} {p0 p1 p2 p3 p4 p5 : Int32} {tx : Addr} {kd fi : Int32} {z10 : Slot} {na nb nL q va vb vL : Int32} {wn : Addr} {kt : ClassId} {pre D : List Int32} {kw : ClassId} {xs : List Int32} {pv : Int32} {T0 : State} {locs : List Loc} {h0 : Heap} (X0 : Stand p l e room_1 s m args below meth c T0 locs 2 26) (e0 : T0.heap = h0) (Z0 : n0 ≤ h0.size) (N0 : Fr n0 locs) (fa0 : Sts Z h0 kS kE kI cs fm u8) (fa1 : Txt Z h0 tx kt (24 : Int32) pre) (fa2 : Lst .byte Z h0 wn kw xs) (na0 : wn ≠ tx) (ga0 : n0 ≤ tx) (sztx : hS.size ≤ tx) (hst : OwnSt kS kE kI cs fm) (hl : pre.length ≤ 5) (hh : OwnHead kd pre D) (hSp : own_sps D) (hfi : fi = (3 : Int32) → D ≠ []) (hNm : OwnNm nL na nb xs) (hQt : q = 34 ∨ q = 39) (hva : own_vok q va) (hvb : own_vok q vb) (hvL : vL = own_count pv) (K0 : Keep hS h0 []) (hC0 : CHv Z consts_1 s.vm hS) (hQ : ∀ (h' : Heap) (L : List Loc), Fr n0 L → Q (some (.int (1 : Int32))) h' L) :
    OFin p e below (KPostW s Q room_1.cells room_1.slots) (T0.setTop (mkF m 378 (la46 p0 p1 p2 p3 p4 p5 tx kd (Int32.ofNat pre.length) fi z10 na nb nL q va vb vL wn) [])) := by
  have hEL := own_EW hw
  refine OFin.of (S' := T0.setTop (mkF m 380 (la46 p0 p1 p2 p3 p4 p5 tx kd (Int32.ofNat pre.length) fi z10 na nb nL q va vb vL wn) [(.int vL)])) (fun t ht => iW X0 hx rfl (hb hby at_378) rfl ht) ?_
  by_cases hc660 : vL = (0 : Int32)
  · obtain ⟨T661, h661, k661, X661, e661, E661, A661, st661⟩ := newP X0 hx hZ (wt hw 17 rfl) e0 (g := (mkF m 384 (la46 p0 p1 p2 p3 p4 p5 tx kd (Int32.ofNat pre.length) fi z10 na nb nL q va vb vL wn) [(.int (0 : Int32))])) rfl (hb hby at_384) rfl (by decide) (cap := 0) (by decide) (by decide) (by decide) (by decide)
    obtain ⟨b661, gq661⟩ : ∃ z, z = h0.size := ⟨_, rfl⟩
    rw [← gq661] at A661 st661
    have g662 : n0 ≤ b661 := (Nat.le_trans Z0 (Nat.le_of_eq gq661.symm))
    have sz663 : hS.size ≤ b661 := (Nat.le_trans K0.1 (Nat.le_of_eq gq661.symm))
    have ne664 : tx ≠ b661 := (Nat.ne_of_lt (Nat.lt_of_lt_of_le fa1.lt (Nat.le_of_eq gq661.symm)))
    have ne665 : wn ≠ b661 := (Nat.ne_of_lt (Nat.lt_of_lt_of_le fa2.lt (Nat.le_of_eq gq661.symm)))
    have f666 := fa0.ext E661
    have f667 := fa1.ext E661
    have f668 := fa2.ext E661
    have Z669 := Nat.le_trans Z0 E661.1
    have K670 := K0.ext E661
    have f671 : Arv Z h661 b661 k661 .char (0 : Int32) [] (.int (0 : Int32)) := ((Arv.new A661 (by decide)).pad (pad_rep [] (.int (0 : Int32)) 0))
    refine OFin.of (fun t ht => fN X0 hx rfl (hb hby at_380) rfl ((if0 _ _).trans (teq hc660).2) (iC X0 hx rfl (hb hby at_383) (st661 t ht))) ?_
    have f672 : Lst .char Z h661 b661 k661 [] := (own_k0 f671)
    refine OFin.of (S' := T661.setTop (mkF m 436 (la45 p0 p1 p2 p3 p4 p5 tx kd (Int32.ofNat pre.length) fi z10 na nb nL q va vb vL wn b661 0 (-1) 0 (-1) 0) [])) (fun t ht => gO X661 hx rfl 386 419 rfl (hb hby at_386) (by decide) (XS.astore X661.here hx rfl (hb hby at_419) rfl rfl (l' := (la47 p0 p1 p2 p3 p4 p5 tx kd (Int32.ofNat pre.length) fi z10 na nb nL q va vb vL wn b661)) rfl (iC X661 hx rfl (hb hby at_421) (sW X661 hx rfl (hb hby at_422) rfl (l' := (la48 p0 p1 p2 p3 p4 p5 tx kd (Int32.ofNat pre.length) fi z10 na nb nL q va vb vL wn b661 0)) rfl (iC X661 hx rfl (hb hby at_424) (sW X661 hx rfl (hb hby at_425) rfl (l' := (la49 p0 p1 p2 p3 p4 p5 tx kd (Int32.ofNat pre.length) fi z10 na nb nL q va vb vL wn b661 0 (-1))) rfl (iC X661 hx rfl (hb hby at_427) (sW X661 hx rfl (hb hby at_428) rfl (l' := (la50 p0 p1 p2 p3 p4 p5 tx kd (Int32.ofNat pre.length) fi z10 na nb nL q va vb vL wn b661 0 (-1) 0)) rfl (iC X661 hx rfl (hb hby at_430) (sW X661 hx rfl (hb hby at_431) rfl (l' := (la51 p0 p1 p2 p3 p4 p5 tx kd (Int32.ofNat pre.length) fi z10 na nb nL q va vb vL wn b661 0 (-1) 0 (-1))) rfl (iC X661 hx rfl (hb hby at_433) (sW X661 hx rfl (hb hby at_434) rfl (l' := (la45 p0 p1 p2 p3 p4 p5 tx kd (Int32.ofNat pre.length) fi z10 na nb nL q va vb vL wn b661 0 (-1) 0 (-1) 0)) rfl ht)))))))))))) ?_
    exact seg436 Z _ hw hx hby hlk hret hml hown hZ n0  (X661.more (by decide) (by decide)) e661 Z669 N0 f666 f667 f668 f672 na0 (Ne.symm ne664) ga0 sztx hst (Nat.le_trans hl (by decide)) hh hSp hfi hNm (own_vs0 hva hvb hc660) hQt K670 hC0 hQ
  · refine OFin.of (S' := T0.setTop (mkF m 392 (la46 p0 p1 p2 p3 p4 p5 tx kd (Int32.ofNat pre.length) fi z10 na nb nL q va vb vL wn) [(.int (1 : Int32)), (.int vL)])) (fun t ht => fY X0 hx rfl 380 389 rfl (hb hby at_380) rfl ((if0 _ _).trans (feq hc660).2) (by decide) (iW X0 hx rfl (hb hby at_389) rfl (iC X0 hx rfl (hb hby at_391) ht))) ?_
    by_cases hc673 : vL = (1 : Int32)
    · obtain ⟨T674, h674, k674, X674, e674, E674, A674, st674⟩ := newP X0 hx hZ (wt hw 17 rfl) e0 (g := (mkF m 396 (la46 p0 p1 p2 p3 p4 p5 tx kd (Int32.ofNat pre.length) fi z10 na nb nL q va vb vL wn) [(.int (1 : Int32))])) rfl (hb hby at_396) rfl (by decide) (cap := 1) (by decide) (by decide) (by decide) (by decide)
      obtain ⟨b674, gq674⟩ : ∃ z, z = h0.size := ⟨_, rfl⟩
      rw [← gq674] at A674 st674
      have g675 : n0 ≤ b674 := (Nat.le_trans Z0 (Nat.le_of_eq gq674.symm))
      have sz676 : hS.size ≤ b674 := (Nat.le_trans K0.1 (Nat.le_of_eq gq674.symm))
      have ne677 : tx ≠ b674 := (Nat.ne_of_lt (Nat.lt_of_lt_of_le fa1.lt (Nat.le_of_eq gq674.symm)))
      have ne678 : wn ≠ b674 := (Nat.ne_of_lt (Nat.lt_of_lt_of_le fa2.lt (Nat.le_of_eq gq674.symm)))
      have f679 := fa0.ext E674
      have f680 := fa1.ext E674
      have f681 := fa2.ext E674
      have Z682 := Nat.le_trans Z0 E674.1
      have K683 := K0.ext E674
      have f684 : Arv Z h674 b674 k674 .char (1 : Int32) [(.int (0 : Int32))] (.int (0 : Int32)) := ((Arv.new A674 (by decide)).pad (pad_rep [] (.int (0 : Int32)) 1))
      refine OFin.of (fun t ht => cN X0 hx rfl (hb hby at_392) rfl (teq hc673).2 (iC X0 hx rfl (hb hby at_395) (st674 t ht))) ?_
      obtain ⟨cl685, Ar685, q685, S685, Ng685, H685, G685⟩ := id f684
      have hin685 := inb_of (j := (0 : Int32)) S685 ⟨by decide, by decide⟩
      obtain ⟨T685, h685, X685, e685, W685, st685⟩ := stC X674 hx hZ e674 Ar685 (j := (0 : Int32)) hin685 (g := (mkF m 402 (la46 p0 p1 p2 p3 p4 p5 tx kd (Int32.ofNat pre.length) fi z10 na nb nL q va vb vL wn) [(.int va), (.int (0 : Int32)), (.ref b674), (.ref b674)])) rfl rfl (hb hby at_402)
      have f686 := (f679.wr W685)
      have f687 := (f680.other W685 ne677)
      have f688 := (f681.other W685 ne678)
      have Z689 := Nat.le_trans Z682 (Keep.of_wr W685).1
      have K690 := K683.wr W685 (Or.inr sz676)
      have N691 := Fr.snoc X685 N0 g675
      have f692 : Arv Z h685 b674 k674 .char (1 : Int32) [(.int (nar .char va))] (.int (0 : Int32)) := Arv.set Ar685 q685 S685 Ng685 H685 G685 (fits_nar_char _) W685 0 rfl (Nat.le_of_ble_eq_true rfl)
      refine OFin.of (fun t ht => XS.dup X674.here hx rfl (hb hby at_398) rfl rfl (iC X674 hx rfl (hb hby at_399) (iW X674 hx rfl (hb hby at_400) rfl (st685 t ht)))) ?_
      have f693 : Lst .char Z h685 b674 k674 [va] := (own_k1 f692 hva)
      refine OFin.of (S' := T685.setTop (mkF m 436 (la45 p0 p1 p2 p3 p4 p5 tx kd (Int32.ofNat pre.length) fi z10 na nb nL q va vb vL wn b674 0 (-1) 0 (-1) 0) [])) (fun t ht => gO X685 hx rfl 403 419 rfl (hb hby at_403) (by decide) (XS.astore X685.here hx rfl (hb hby at_419) rfl rfl (l' := (la47 p0 p1 p2 p3 p4 p5 tx kd (Int32.ofNat pre.length) fi z10 na nb nL q va vb vL wn b674)) rfl (iC X685 hx rfl (hb hby at_421) (sW X685 hx rfl (hb hby at_422) rfl (l' := (la48 p0 p1 p2 p3 p4 p5 tx kd (Int32.ofNat pre.length) fi z10 na nb nL q va vb vL wn b674 0)) rfl (iC X685 hx rfl (hb hby at_424) (sW X685 hx rfl (hb hby at_425) rfl (l' := (la49 p0 p1 p2 p3 p4 p5 tx kd (Int32.ofNat pre.length) fi z10 na nb nL q va vb vL wn b674 0 (-1))) rfl (iC X685 hx rfl (hb hby at_427) (sW X685 hx rfl (hb hby at_428) rfl (l' := (la50 p0 p1 p2 p3 p4 p5 tx kd (Int32.ofNat pre.length) fi z10 na nb nL q va vb vL wn b674 0 (-1) 0)) rfl (iC X685 hx rfl (hb hby at_430) (sW X685 hx rfl (hb hby at_431) rfl (l' := (la51 p0 p1 p2 p3 p4 p5 tx kd (Int32.ofNat pre.length) fi z10 na nb nL q va vb vL wn b674 0 (-1) 0 (-1))) rfl (iC X685 hx rfl (hb hby at_433) (sW X685 hx rfl (hb hby at_434) rfl (l' := (la45 p0 p1 p2 p3 p4 p5 tx kd (Int32.ofNat pre.length) fi z10 na nb nL q va vb vL wn b674 0 (-1) 0 (-1) 0)) rfl ht)))))))))))) ?_
      exact seg436 Z _ hw hx hby hlk hret hml hown hZ n0  (X685.more (by decide) (by decide)) e685 Z689 N691 f686 f687 f688 f693 na0 (Ne.symm ne677) ga0 sztx hst (Nat.le_trans hl (by decide)) hh hSp hfi hNm (own_vs1 hva hvb hc673) hQt K690 hC0 hQ
    · obtain ⟨T694, h694, k694, X694, e694, E694, A694, st694⟩ := newP X0 hx hZ (wt hw 17 rfl) e0 (g := (mkF m 407 (la46 p0 p1 p2 p3 p4 p5 tx kd (Int32.ofNat pre.length) fi z10 na nb nL q va vb vL wn) [(.int (2 : Int32))])) rfl (hb hby at_407) rfl (by decide) (cap := 2) (by decide) (by decide) (by decide) (by decide)
      obtain ⟨b694, gq694⟩ : ∃ z, z = h0.size := ⟨_, rfl⟩
      rw [← gq694] at A694 st694
      have g695 : n0 ≤ b694 := (Nat.le_trans Z0 (Nat.le_of_eq gq694.symm))
      have sz696 : hS.size ≤ b694 := (Nat.le_trans K0.1 (Nat.le_of_eq gq694.symm))
      have ne697 : tx ≠ b694 := (Nat.ne_of_lt (Nat.lt_of_lt_of_le fa1.lt (Nat.le_of_eq gq694.symm)))
      have ne698 : wn ≠ b694 := (Nat.ne_of_lt (Nat.lt_of_lt_of_le fa2.lt (Nat.le_of_eq gq694.symm)))
      have f699 := fa0.ext E694
      have f700 := fa1.ext E694
      have f701 := fa2.ext E694
      have Z702 := Nat.le_trans Z0 E694.1
      have K703 := K0.ext E694
      have f704 : Arv Z h694 b694 k694 .char (2 : Int32) [(.int (0 : Int32)), (.int (0 : Int32))] (.int (0 : Int32)) := ((Arv.new A694 (by decide)).pad (pad_rep [] (.int (0 : Int32)) 2))
      refine OFin.of (fun t ht => cY X0 hx rfl 392 406 rfl (hb hby at_392) rfl (feq hc673).2 (by decide) (iC X0 hx rfl (hb hby at_406) (st694 t ht))) ?_
      obtain ⟨cl705, Ar705, q705, S705, Ng705, H705, G705⟩ := id f704
      have hin705 := inb_of (j := (0 : Int32)) S705 ⟨by decide, by decide⟩
      obtain ⟨T705, h705, X705, e705, W705, st705⟩ := stC X694 hx hZ e694 Ar705 (j := (0 : Int32)) hin705 (g := (mkF m 413 (la46 p0 p1 p2 p3 p4 p5 tx kd (Int32.ofNat pre.length) fi z10 na nb nL q va vb vL wn) [(.int va), (.int (0 : Int32)), (.ref b694), (.ref b694)])) rfl rfl (hb hby at_413)
      have f706 := (f699.wr W705)
      have f707 := (f700.other W705 ne697)
      have f708 := (f701.other W705 ne698)
      have Z709 := Nat.le_trans Z702 (Keep.of_wr W705).1
      have K710 := K703.wr W705 (Or.inr sz696)
      have N711 := Fr.snoc X705 N0 g695
      have f712 : Arv Z h705 b694 k694 .char (2 : Int32) [(.int (nar .char va)), (.int (0 : Int32))] (.int (0 : Int32)) := Arv.set Ar705 q705 S705 Ng705 H705 G705 (fits_nar_char _) W705 0 rfl (Nat.le_of_ble_eq_true rfl)
      refine OFin.of (fun t ht => XS.dup X694.here hx rfl (hb hby at_409) rfl rfl (iC X694 hx rfl (hb hby at_410) (iW X694 hx rfl (hb hby at_411) rfl (st705 t ht)))) ?_
      obtain ⟨cl713, Ar713, q713, S713, Ng713, H713, G713⟩ := id f712
      have hin713 := inb_of (j := (1 : Int32)) S713 ⟨by decide, by decide⟩
      obtain ⟨T713, h713, X713, e713, W713, st713⟩ := stC X705 hx hZ e705 Ar713 (j := (1 : Int32)) hin713 (g := (mkF m 418 (la46 p0 p1 p2 p3 p4 p5 tx kd (Int32.ofNat pre.length) fi z10 na nb nL q va vb vL wn) [(.int vb), (.int (1 : Int32)), (.ref b694), (.ref b694)])) rfl rfl (hb hby at_418)
      have f714 := (f706.wr W713)
      have f715 := (f707.other W713 ne697)
      have f716 := (f708.other W713 ne698)
      have Z717 := Nat.le_trans Z709 (Keep.of_wr W713).1
      have K718 := K710.wr W713 (Or.inr sz696)
      have N719 := Fr.snoc X713 N711 g695
      have f720 : Arv Z h713 b694 k694 .char (2 : Int32) [(.int (nar .char va)), (.int (nar .char vb))] (.int (0 : Int32)) := Arv.set Ar713 q713 S713 Ng713 H713 G713 (fits_nar_char _) W713 1 rfl (Nat.le_of_ble_eq_true rfl)
      refine OFin.of (fun t ht => XS.dup X705.here hx rfl (hb hby at_414) rfl rfl (iC X705 hx rfl (hb hby at_415) (iW X705 hx rfl (hb hby at_416) rfl (st713 t ht)))) ?_
      have f721 : Lst .char Z h713 b694 k694 [va, vb] := (own_k2 f720 hva hvb)
      refine OFin.of (S' := T713.setTop (mkF m 436 (la45 p0 p1 p2 p3 p4 p5 tx kd (Int32.ofNat pre.length) fi z10 na nb nL q va vb vL wn b694 0 (-1) 0 (-1) 0) [])) (fun t ht => XS.astore X713.here hx rfl (hb hby at_419) rfl rfl (l' := (la47 p0 p1 p2 p3 p4 p5 tx kd (Int32.ofNat pre.length) fi z10 na nb nL q va vb vL wn b694)) rfl (iC X713 hx rfl (hb hby at_421) (sW X713 hx rfl (hb hby at_422) rfl (l' := (la48 p0 p1 p2 p3 p4 p5 tx kd (Int32.ofNat pre.length) fi z10 na nb nL q va vb vL wn b694 0)) rfl (iC X713 hx rfl (hb hby at_424) (sW X713 hx rfl (hb hby at_425) rfl (l' := (la49 p0 p1 p2 p3 p4 p5 tx kd (Int32.ofNat pre.length) fi z10 na nb nL q va vb vL wn b694 0 (-1))) rfl (iC X713 hx rfl (hb hby at_427) (sW X713 hx rfl (hb hby at_428) rfl (l' := (la50 p0 p1 p2 p3 p4 p5 tx kd (Int32.ofNat pre.length) fi z10 na nb nL q va vb vL wn b694 0 (-1) 0)) rfl (iC X713 hx rfl (hb hby at_430) (sW X713 hx rfl (hb hby at_431) rfl (l' := (la51 p0 p1 p2 p3 p4 p5 tx kd (Int32.ofNat pre.length) fi z10 na nb nL q va vb vL wn b694 0 (-1) 0 (-1))) rfl (iC X713 hx rfl (hb hby at_433) (sW X713 hx rfl (hb hby at_434) rfl (l' := (la45 p0 p1 p2 p3 p4 p5 tx kd (Int32.ofNat pre.length) fi z10 na nb nL q va vb vL wn b694 0 (-1) 0 (-1) 0)) rfl ht))))))))))) ?_
      exact seg436 Z _ hw hx hby hlk hret hml hown hZ n0  (X713.more (by decide) (by decide)) e713 Z717 N719 f714 f715 f716 f721 na0 (Ne.symm ne697) ga0 sztx hst (Nat.le_trans hl (by decide)) hh hSp hfi hNm (own_vs2 hva hvb hvL hc660 hc673) hQt K718 hC0 hQ
theorem seg316 {p : Program} {l : Launch} {e : Env} {s : State} {m : MethodId} {args : Array Value} {below : List Frame} {meth : Method} {c : Code} (Z : State) (a0 : Array Value) (hw : ∀ d ∈ tables_1, d.before a0 Z = true) (hx : p.tables.exec = Jvm.exec) (hby : c.code = code) (hlk : meth.locks = false) (hret : meth.sig.returnType = some .boolean) (hml : c.maxLocals = 36) (hown : s.vm.findClass cC = some m.cls) (hZ : Z.Warmed39 s.vm) {Q : Option Value → Heap → List Loc → Prop} (n0 : Nat) {hS : Heap} {kS kE kI : Addr} {cs : Int32} {fm : Value} {u8 : Addr} {p0 p1 p2 p3 p4 p5 : Int32} {tx : Addr} {kd fi : Int32} {z10 : Slot} {na nb nL q : Int32} {kt : ClassId} {pre D : List Int32} {px py pz : Int32} {T0 : State} {locs : List Loc} {h0 : Heap} (X0 : Stand p l e room_1 s m args below meth c T0 locs 1 24) (e0 : T0.heap = h0) (Z0 : n0 ≤ h0.size) (N0 : Fr n0 locs) (fa0 : Sts Z h0 kS kE kI cs fm u8) (fa1 : Txt Z h0 tx kt (24 : Int32) pre) (ga0 : n0 ≤ tx) (sztx : hS.size ≤ tx) (hst : OwnSt kS kE kI cs fm) (hl : pre.length ≤ 5) (hh : OwnHead kd pre D) (hSp : own_sps D) (hfi : fi = (3 : Int32) → D ≠ []) (hna : na = own_nb px) (hnb : nb = own_nb py) (hnL : nL = (1 : Int32) + (pz &&& (1 : Int32))) (hQt : q = 34 ∨ q = 39) (K0 : Keep hS h0 []) (hC0 : CHv Z consts_1 s.vm hS) (hQ : ∀ (h' : Heap) (L : List Loc), Fr n0 L → Q (some (.int (1 : Int32))) h' L) :
    OFin p e below (KPostW s Q room_1.cells room_1.slots) (T0.setTop (mkF m 316 (la52 p0 p1 p2 p3 p4 p5 tx kd (Int32.ofNat pre.length) fi z10 na nb nL q) [])) := by
  have hEL := own_EW hw
  obtain ⟨_, T722, Lc722, X722, hQ722, st722⟩ := own_cS X0 hx hw hZ hown 14 15 3 16 rfl rfl rfl rfl (by decide) (rmVch l Z _ hw [] ((p3.toUInt32 >>> ((1 : Int32) &&& 31).toUInt32).toInt32) q h0 n0 Z0 ) (by decide) (by decide) (g := (mkF m 321 (la52 p0 p1 p2 p3 p4 p5 tx kd (Int32.ofNat pre.length) fi z10 na nb nL q) [(.int q), (.int ((p3.toUInt32 >>> ((1 : Int32) &&& 31).toUInt32).toInt32))])) rfl hml rfl (argsL := [(.int ((p3.toUInt32 >>> ((1 : Int32) &&& 31).toUInt32).toInt32)), (.int q)]) (rest := []) pd_34 rfl rfl rfl (W := 0) (Nat.le_of_eq rfl) (hb hby at_321) rfl e0 (by decide) (by decide)
  obtain ⟨rfl, Nq722, hs722⟩ := hQ722
  have N723 := Fr.app N0 Nq722
  refine OFin.of (fun t ht => iN X0 hx rfl (hb hby at_316) rfl (iC X0 hx rfl (hb hby at_317) (XS.iushr X0.here hx rfl (hb hby at_318) rfl (iW X0 hx rfl (hb hby at_319) rfl (st722.trans ht))))) ?_
  obtain ⟨va, h_va⟩ : ∃ z : Int32, z = (own_vc ((p3.toUInt32 >>> ((1 : Int32) &&& 31).toUInt32).toInt32) q) := ⟨_, rfl⟩
  rw [← h_va]
  obtain ⟨_, T724, Lc724, X724, hQ724, st724⟩ := own_cS X722 hx hw hZ hown 14 15 3 16 rfl rfl rfl rfl (by decide) (rmVch l Z _ hw [] ((p3.toUInt32 >>> ((8 : Int32) &&& 31).toUInt32).toInt32) q h0 n0 Z0 ) (by decide) (by decide) (g := (mkF m 332 (la53 p0 p1 p2 p3 p4 p5 tx kd (Int32.ofNat pre.length) fi z10 na nb nL q va) [(.int q), (.int ((p3.toUInt32 >>> ((8 : Int32) &&& 31).toUInt32).toInt32))])) rfl hml rfl (argsL := [(.int ((p3.toUInt32 >>> ((8 : Int32) &&& 31).toUInt32).toInt32)), (.int q)]) (rest := []) pd_34 rfl rfl rfl (W := 0) (Nat.le_of_eq rfl) (hb hby at_332) rfl hs722 (by decide) (by decide)
  obtain ⟨rfl, Nq724, hs724⟩ := hQ724
  have N725 := Fr.app N723 Nq724
  refine OFin.of (fun t ht => sW X722 hx rfl (hb hby at_324) rfl (l' := (la53 p0 p1 p2 p3 p4 p5 tx kd (Int32.ofNat pre.length) fi z10 na nb nL q va)) rfl (iN X722 hx rfl (hb hby at_326) rfl (bP X722 hx rfl (hb hby at_327) (XS.iushr X722.here hx rfl (hb hby at_329) rfl (iW X722 hx rfl (hb hby at_330) rfl (st724.trans ht)))))) ?_
  obtain ⟨vb, h_vb⟩ : ∃ z : Int32, z = (own_vc ((p3.toUInt32 >>> ((8 : Int32) &&& 31).toUInt32).toInt32) q) := ⟨_, rfl⟩
  rw [← h_vb]
  obtain ⟨_, T726, Lc726, X726, hQ726, st726⟩ := own_cS X724 hx hw hZ hown 1 2 3 4 rfl rfl rfl rfl (by decide) (rmCnt l Z _ hw [] ((p3.toUInt32 >>> ((15 : Int32) &&& 31).toUInt32).toInt32) h0 n0 Z0 ) (by decide) (by decide) (g := (mkF m 341 (la54 p0 p1 p2 p3 p4 p5 tx kd (Int32.ofNat pre.length) fi z10 na nb nL q va vb) [(.int ((p3.toUInt32 >>> ((15 : Int32) &&& 31).toUInt32).toInt32))])) rfl hml rfl (argsL := [(.int ((p3.toUInt32 >>> ((15 : Int32) &&& 31).toUInt32).toInt32))]) (rest := []) pd_3 rfl rfl rfl (W := 0) (Nat.le_of_eq rfl) (hb hby at_341) rfl hs724 (by decide) (by decide)
  obtain ⟨rfl, Nq726, hs726⟩ := hQ726
  have N727 := Fr.app N725 Nq726
  refine OFin.of (fun t ht => sW X724 hx rfl (hb hby at_335) rfl (l' := (la54 p0 p1 p2 p3 p4 p5 tx kd (Int32.ofNat pre.length) fi z10 na nb nL q va vb)) rfl (iN X724 hx rfl (hb hby at_337) rfl (bP X724 hx rfl (hb hby at_338) (XS.iushr X724.here hx rfl (hb hby at_340) rfl (st726.trans ht))))) ?_
  obtain ⟨vL, h_vL⟩ : ∃ z : Int32, z = (own_count ((p3.toUInt32 >>> ((15 : Int32) &&& 31).toUInt32).toInt32)) := ⟨_, rfl⟩
  rw [← h_vL]
  refine OFin.of (S' := T726.setTop (mkF m 349 (la55 p0 p1 p2 p3 p4 p5 tx kd (Int32.ofNat pre.length) fi z10 na nb nL q va vb vL) [(.int (1 : Int32)), (.int nL)])) (fun t ht => sW X726 hx rfl (hb hby at_344) rfl (l' := (la55 p0 p1 p2 p3 p4 p5 tx kd (Int32.ofNat pre.length) fi z10 na nb nL q va vb vL)) rfl (iW X726 hx rfl (hb hby at_346) rfl (iC X726 hx rfl (hb hby at_348) ht))) ?_
  by_cases hc728 : nL = (1 : Int32)
  · obtain ⟨T729, h729, k729, X729, e729, E729, A729, st729⟩ := newP X726 hx hZ (wt hw 0 rfl) hs726 (g := (mkF m 353 (la55 p0 p1 p2 p3 p4 p5 tx kd (Int32.ofNat pre.length) fi z10 na nb nL q va vb vL) [(.int (1 : Int32))])) rfl (hb hby at_353) rfl (by decide) (cap := 1) (by decide) (by decide) (by decide) (by decide)
    obtain ⟨b729, gq729⟩ : ∃ z, z = h0.size := ⟨_, rfl⟩
    rw [← gq729] at A729 st729
    have g730 : n0 ≤ b729 := (Nat.le_trans Z0 (Nat.le_of_eq gq729.symm))
    have sz731 : hS.size ≤ b729 := (Nat.le_trans K0.1 (Nat.le_of_eq gq729.symm))
    have ne732 : tx ≠ b729 := (Nat.ne_of_lt (Nat.lt_of_lt_of_le fa1.lt (Nat.le_of_eq gq729.symm)))
    have f733 := fa0.ext E729
    have f734 := fa1.ext E729
    have Z735 := Nat.le_trans Z0 E729.1
    have K736 := K0.ext E729
    have f737 : Arv Z h729 b729 k729 .byte (1 : Int32) [(.int (0 : Int32))] (.int (0 : Int32)) := ((Arv.new A729 (by decide)).pad (pad_rep [] (.int (0 : Int32)) 1))
    refine OFin.of (fun t ht => cN X726 hx rfl (hb hby at_349) rfl (teq hc728).2 (iC X726 hx rfl (hb hby at_352) (st729 t ht))) ?_
    obtain ⟨cl738, Ar738, q738, S738, Ng738, H738, G738⟩ := id f737
    have hin738 := inb_of (j := (0 : Int32)) S738 ⟨by decide, by decide⟩
    obtain ⟨T738, h738, X738, e738, W738, st738⟩ := stB X729 hx hZ e729 Ar738 (j := (0 : Int32)) hin738 (g := (mkF m 359 (la55 p0 p1 p2 p3 p4 p5 tx kd (Int32.ofNat pre.length) fi z10 na nb nL q va vb vL) [(.int na), (.int (0 : Int32)), (.ref b729), (.ref b729)])) rfl rfl (hb hby at_359)
    have f739 := (f733.wr W738)
    have f740 := (f734.other W738 ne732)
    have Z741 := Nat.le_trans Z735 (Keep.of_wr W738).1
    have K742 := K736.wr W738 (Or.inr sz731)
    have N743 := Fr.snoc X738 N727 g730
    have f744 : Arv Z h738 b729 k729 .byte (1 : Int32) [(.int (na.toInt8.toInt32))] (.int (0 : Int32)) := Arv.set Ar738 q738 S738 Ng738 H738 G738 (fits_nar_byte _) W738 0 rfl (Nat.le_of_ble_eq_true rfl)
    refine OFin.of (fun t ht => XS.dup X729.here hx rfl (hb hby at_355) rfl rfl (iC X729 hx rfl (hb hby at_356) (iW X729 hx rfl (hb hby at_357) rfl (st738 t ht)))) ?_
    have f745 : Lst .byte Z h738 b729 k729 [na] := (own_l1 f744 (own_nm1 hna hnb hc728).2.2.1)
    refine OFin.of (S' := T738.setTop (mkF m 378 (la46 p0 p1 p2 p3 p4 p5 tx kd (Int32.ofNat pre.length) fi z10 na nb nL q va vb vL b729) [])) (fun t ht => gO X738 hx rfl 360 376 rfl (hb hby at_360) (by decide) (XS.astore X738.here hx rfl (hb hby at_376) rfl rfl (l' := (la46 p0 p1 p2 p3 p4 p5 tx kd (Int32.ofNat pre.length) fi z10 na nb nL q va vb vL b729)) rfl ht)) ?_
    exact seg378 Z _ hw hx hby hlk hret hml hown hZ n0  (X738.more (by decide) (by decide)) e738 Z741 N743 f739 f740 f745 (Ne.symm ne732) ga0 sztx hst (Nat.le_trans hl (by decide)) hh hSp hfi (own_nm1 hna hnb hc728) hQt (h_va ▸ own_vcok hQt _) (h_vb ▸ own_vcok hQt _) h_vL K742 hC0 hQ
  · obtain ⟨T746, h746, k746, X746, e746, E746, A746, st746⟩ := newP X726 hx hZ (wt hw 0 rfl) hs726 (g := (mkF m 364 (la55 p0 p1 p2 p3 p4 p5 tx kd (Int32.ofNat pre.length) fi z10 na nb nL q va vb vL) [(.int (2 : Int32))])) rfl (hb hby at_364) rfl (by decide) (cap := 2) (by decide) (by decide) (by decide) (by decide)
    obtain ⟨b746, gq746⟩ : ∃ z, z = h0.size := ⟨_, rfl⟩
    rw [← gq746] at A746 st746
    have g747 : n0 ≤ b746 := (Nat.le_trans Z0 (Nat.le_of_eq gq746.symm))
    have sz748 : hS.size ≤ b746 := (Nat.le_trans K0.1 (Nat.le_of_eq gq746.symm))
    have ne749 : tx ≠ b746 := (Nat.ne_of_lt (Nat.lt_of_lt_of_le fa1.lt (Nat.le_of_eq gq746.symm)))
    have f750 := fa0.ext E746
    have f751 := fa1.ext E746
    have Z752 := Nat.le_trans Z0 E746.1
    have K753 := K0.ext E746
    have f754 : Arv Z h746 b746 k746 .byte (2 : Int32) [(.int (0 : Int32)), (.int (0 : Int32))] (.int (0 : Int32)) := ((Arv.new A746 (by decide)).pad (pad_rep [] (.int (0 : Int32)) 2))
    refine OFin.of (fun t ht => cY X726 hx rfl 349 363 rfl (hb hby at_349) rfl (feq hc728).2 (by decide) (iC X726 hx rfl (hb hby at_363) (st746 t ht))) ?_
    obtain ⟨cl755, Ar755, q755, S755, Ng755, H755, G755⟩ := id f754
    have hin755 := inb_of (j := (0 : Int32)) S755 ⟨by decide, by decide⟩
    obtain ⟨T755, h755, X755, e755, W755, st755⟩ := stB X746 hx hZ e746 Ar755 (j := (0 : Int32)) hin755 (g := (mkF m 370 (la55 p0 p1 p2 p3 p4 p5 tx kd (Int32.ofNat pre.length) fi z10 na nb nL q va vb vL) [(.int na), (.int (0 : Int32)), (.ref b746), (.ref b746)])) rfl rfl (hb hby at_370)
    have f756 := (f750.wr W755)
    have f757 := (f751.other W755 ne749)
    have Z758 := Nat.le_trans Z752 (Keep.of_wr W755).1
    have K759 := K753.wr W755 (Or.inr sz748)
    have N760 := Fr.snoc X755 N727 g747
    have f761 : Arv Z h755 b746 k746 .byte (2 : Int32) [(.int (na.toInt8.toInt32)), (.int (0 : Int32))] (.int (0 : Int32)) := Arv.set Ar755 q755 S755 Ng755 H755 G755 (fits_nar_byte _) W755 0 rfl (Nat.le_of_ble_eq_true rfl)
    refine OFin.of (fun t ht => XS.dup X746.here hx rfl (hb hby at_366) rfl rfl (iC X746 hx rfl (hb hby at_367) (iW X746 hx rfl (hb hby at_368) rfl (st755 t ht)))) ?_
    obtain ⟨cl762, Ar762, q762, S762, Ng762, H762, G762⟩ := id f761
    have hin762 := inb_of (j := (1 : Int32)) S762 ⟨by decide, by decide⟩
    obtain ⟨T762, h762, X762, e762, W762, st762⟩ := stB X755 hx hZ e755 Ar762 (j := (1 : Int32)) hin762 (g := (mkF m 375 (la55 p0 p1 p2 p3 p4 p5 tx kd (Int32.ofNat pre.length) fi z10 na nb nL q va vb vL) [(.int nb), (.int (1 : Int32)), (.ref b746), (.ref b746)])) rfl rfl (hb hby at_375)
    have f763 := (f756.wr W762)
    have f764 := (f757.other W762 ne749)
    have Z765 := Nat.le_trans Z758 (Keep.of_wr W762).1
    have K766 := K759.wr W762 (Or.inr sz748)
    have N767 := Fr.snoc X762 N760 g747
    have f768 : Arv Z h762 b746 k746 .byte (2 : Int32) [(.int (na.toInt8.toInt32)), (.int (nb.toInt8.toInt32))] (.int (0 : Int32)) := Arv.set Ar762 q762 S762 Ng762 H762 G762 (fits_nar_byte _) W762 1 rfl (Nat.le_of_ble_eq_true rfl)
    refine OFin.of (fun t ht => XS.dup X755.here hx rfl (hb hby at_371) rfl rfl (iC X755 hx rfl (hb hby at_372) (iW X755 hx rfl (hb hby at_373) rfl (st762 t ht)))) ?_
    have f769 : Lst .byte Z h762 b746 k746 [na, nb] := (own_l2 f768 (own_nm2' hna hnb hnL hc728).2.2.1 (own_nm2' hna hnb hnL hc728).2.2.2.1)
    refine OFin.of (S' := T762.setTop (mkF m 378 (la46 p0 p1 p2 p3 p4 p5 tx kd (Int32.ofNat pre.length) fi z10 na nb nL q va vb vL b746) [])) (fun t ht => XS.astore X762.here hx rfl (hb hby at_376) rfl rfl (l' := (la46 p0 p1 p2 p3 p4 p5 tx kd (Int32.ofNat pre.length) fi z10 na nb nL q va vb vL b746)) rfl ht) ?_
    exact seg378 Z _ hw hx hby hlk hret hml hown hZ n0  (X762.more (by decide) (by decide)) e762 Z765 N767 f763 f764 f769 (Ne.symm ne749) ga0 sztx hst (Nat.le_trans hl (by decide)) hh hSp hfi (own_nm2' hna hnb hnL hc728) hQt (h_va ▸ own_vcok hQt _) (h_vb ▸ own_vcok hQt _) h_vL K766 hC0 hQ
theorem seg276 {p : Program} {l : Launch} {e : Env} {s : State} {m : MethodId} {args : Array Value} {below : List Frame} {meth : Method} {c : Code} (Z : State) (a0 : Array Value) (hw : ∀ d ∈ tables_1, d.before a0 Z = true) (hx : p.tables.exec = Jvm.exec) (hby : c.code = code) (hlk : meth.locks = false) (hret : meth.sig.returnType = some .boolean) (hml : c.maxLocals = 36) (hown : s.vm.findClass cC = some m.cls) (hZ : Z.Warmed39 s.vm) {Q : Option Value → Heap → List Loc → Prop} (n0 : Nat) {hS : Heap} {kS kE kI : Addr} {cs : Int32} {fm : Value} {u8 : Addr} {p0 p1 p2 p3 p4 p5 : Int32} {tx : Addr} {kd fi : Int32} {z10 : Slot} {kt : ClassId} {pre D : List Int32} {T0 : State} {locs : List Loc} {h0 : Heap} (X0 : Stand p l e room_1 s m args below meth c T0 locs 1 24) (e0 : T0.heap = h0) (Z0 : n0 ≤ h0.size) (N0 : Fr n0 locs) (fa0 : Sts Z h0 kS kE kI cs fm u8) (fa1 : Txt Z h0 tx kt (24 : Int32) pre) (ga0 : n0 ≤ tx) (sztx : hS.size ≤ tx) (hst : OwnSt kS kE kI cs fm) (hl : pre.length ≤ 5) (hh : OwnHead kd pre D) (hSp : own_sps D) (hfi : fi = (3 : Int32) → D ≠ []) (K0 : Keep hS h0 []) (hC0 : CHv Z consts_1 s.vm hS) (hQ : ∀ (h' : Heap) (L : List Loc), Fr n0 L → Q (some (.int (1 : Int32))) h' L) :
    OFin p e below (KPostW s Q room_1.cells room_1.slots) (T0.setTop (mkF m 276 (la56 p0 p1 p2 p3 p4 p5 tx kd (Int32.ofNat pre.length) fi z10) [])) := by
  have hEL := own_EW hw
  obtain ⟨_, T770, Lc770, X770, hQ770, st770⟩ := own_cS X0 hx hw hZ hown 8 9 3 10 rfl rfl rfl rfl (by decide) (rmNby l Z _ hw [] p2 h0 n0 Z0 ) (by decide) (by decide) (g := (mkF m 277 (la56 p0 p1 p2 p3 p4 p5 tx kd (Int32.ofNat pre.length) fi z10) [(.int p2)])) rfl hml rfl (argsL := [(.int p2)]) (rest := []) pd_2 rfl rfl rfl (W := 0) (Nat.le_of_eq rfl) (hb hby at_277) rfl e0 (by decide) (by decide)
  obtain ⟨rfl, Nq770, hs770⟩ := hQ770
  have N771 := Fr.app N0 Nq770
  refine OFin.of (fun t ht => iN X0 hx rfl (hb hby at_276) rfl (st770.trans ht)) ?_
  obtain ⟨na, h_na⟩ : ∃ z : Int32, z = (own_nb p2) := ⟨_, rfl⟩
  rw [← h_na]
  obtain ⟨_, T772, Lc772, X772, hQ772, st772⟩ := own_cS X770 hx hw hZ hown 8 9 3 10 rfl rfl rfl rfl (by decide) (rmNby l Z _ hw [] ((p2.toUInt32 >>> ((8 : Int32) &&& 31).toUInt32).toInt32) h0 n0 Z0 ) (by decide) (by decide) (g := (mkF m 286 (la57 p0 p1 p2 p3 p4 p5 tx kd (Int32.ofNat pre.length) fi z10 na) [(.int ((p2.toUInt32 >>> ((8 : Int32) &&& 31).toUInt32).toInt32))])) rfl hml rfl (argsL := [(.int ((p2.toUInt32 >>> ((8 : Int32) &&& 31).toUInt32).toInt32))]) (rest := []) pd_2 rfl rfl rfl (W := 0) (Nat.le_of_eq rfl) (hb hby at_286) rfl hs770 (by decide) (by decide)
  obtain ⟨rfl, Nq772, hs772⟩ := hQ772
  have N773 := Fr.app N771 Nq772
  refine OFin.of (fun t ht => sW X770 hx rfl (hb hby at_280) rfl (l' := (la57 p0 p1 p2 p3 p4 p5 tx kd (Int32.ofNat pre.length) fi z10 na)) rfl (iN X770 hx rfl (hb hby at_282) rfl (bP X770 hx rfl (hb hby at_283) (XS.iushr X770.here hx rfl (hb hby at_285) rfl (st772.trans ht))))) ?_
  obtain ⟨nb, h_nb⟩ : ∃ z : Int32, z = (own_nb ((p2.toUInt32 >>> ((8 : Int32) &&& 31).toUInt32).toInt32)) := ⟨_, rfl⟩
  rw [← h_nb]
  refine OFin.of (S' := T772.setTop (mkF m 299 (la58 p0 p1 p2 p3 p4 p5 tx kd (Int32.ofNat pre.length) fi z10 na nb) [(.int ((1 : Int32) + (((p2.toUInt32 >>> ((16 : Int32) &&& 31).toUInt32).toInt32) &&& (1 : Int32))))])) (fun t ht => sW X772 hx rfl (hb hby at_289) rfl (l' := (la58 p0 p1 p2 p3 p4 p5 tx kd (Int32.ofNat pre.length) fi z10 na nb)) rfl (iC X772 hx rfl (hb hby at_291) (iN X772 hx rfl (hb hby at_292) rfl (bP X772 hx rfl (hb hby at_293) (XS.iushr X772.here hx rfl (hb hby at_295) rfl (iC X772 hx rfl (hb hby at_296) (XS.iand X772.here hx rfl (hb hby at_297) rfl (XS.iadd X772.here hx rfl (hb hby at_298) rfl ht)))))))) ?_
  obtain ⟨nL, h_nL⟩ : ∃ z : Int32, z = ((1 : Int32) + (((p2.toUInt32 >>> ((16 : Int32) &&& 31).toUInt32).toInt32) &&& (1 : Int32))) := ⟨_, rfl⟩
  rw [← h_nL]
  refine OFin.of (S' := T772.setTop (mkF m 304 (la59 p0 p1 p2 p3 p4 p5 tx kd (Int32.ofNat pre.length) fi z10 na nb nL) [(.int (p3 &&& (1 : Int32)))])) (fun t ht => sW X772 hx rfl (hb hby at_299) rfl (l' := (la59 p0 p1 p2 p3 p4 p5 tx kd (Int32.ofNat pre.length) fi z10 na nb nL)) rfl (iN X772 hx rfl (hb hby at_301) rfl (iC X772 hx rfl (hb hby at_302) (XS.iand X772.here hx rfl (hb hby at_303) rfl ht)))) ?_
  by_cases hc774 : (p3 &&& (1 : Int32)) = (0 : Int32)
  · refine OFin.of (S' := T772.setTop (mkF m 316 (la52 p0 p1 p2 p3 p4 p5 tx kd (Int32.ofNat pre.length) fi z10 na nb nL 34) [])) (fun t ht => fN X772 hx rfl (hb hby at_304) rfl ((if0 _ _).trans (teq hc774).2) (bP X772 hx rfl (hb hby at_307) (gO X772 hx rfl 309 314 rfl (hb hby at_309) (by decide) (sW X772 hx rfl (hb hby at_314) rfl (l' := (la52 p0 p1 p2 p3 p4 p5 tx kd (Int32.ofNat pre.length) fi z10 na nb nL 34)) rfl ht)))) ?_
    exact seg316 Z _ hw hx hby hlk hret hml hown hZ n0  (X772.more (by decide) (by decide)) hs772 Z0 N773 fa0 fa1 ga0 sztx hst (Nat.le_trans hl (by decide)) hh hSp hfi h_na h_nb h_nL (Or.inl rfl) K0 hC0 hQ
  · refine OFin.of (S' := T772.setTop (mkF m 316 (la52 p0 p1 p2 p3 p4 p5 tx kd (Int32.ofNat pre.length) fi z10 na nb nL 39) [])) (fun t ht => fY X772 hx rfl 304 312 rfl (hb hby at_304) rfl ((if0 _ _).trans (feq hc774).2) (by decide) (bP X772 hx rfl (hb hby at_312) (sW X772 hx rfl (hb hby at_314) rfl (l' := (la52 p0 p1 p2 p3 p4 p5 tx kd (Int32.ofNat pre.length) fi z10 na nb nL 39)) rfl ht))) ?_
    exact seg316 Z _ hw hx hby hlk hret hml hown hZ n0  (X772.more (by decide) (by decide)) hs772 Z0 N773 fa0 fa1 ga0 sztx hst (Nat.le_trans hl (by decide)) hh hSp hfi h_na h_nb h_nL (Or.inr rfl) K0 hC0 hQ
theorem seg236 {p : Program} {l : Launch} {e : Env} {s : State} {m : MethodId} {args : Array Value} {below : List Frame} {meth : Method} {c : Code} (Z : State) (a0 : Array Value) (hw : ∀ d ∈ tables_1, d.before a0 Z = true) (hx : p.tables.exec = Jvm.exec) (hby : c.code = code) (hlk : meth.locks = false) (hret : meth.sig.returnType = some .boolean) (hml : c.maxLocals = 36) (hown : s.vm.findClass cC = some m.cls) (hZ : Z.Warmed39 s.vm) {Q : Option Value → Heap → List Loc → Prop} (n0 : Nat) {hS : Heap} {kS kE kI : Addr} {cs : Int32} {fm : Value} {u8 : Addr} {p0 p1 p2 p3 p4 p5 : Int32} {tx : Addr} {kd fi sA : Int32} {kt : ClassId} {pre : List Int32} {T0 : State} {locs : List Loc} {h0 : Heap} (X0 : Stand p l e room_1 s m args below meth c T0 locs 1 24) (e0 : T0.heap = h0) (Z0 : n0 ≤ h0.size) (N0 : Fr n0 locs) (fa0 : Sts Z h0 kS kE kI cs fm u8) (fa1 : Txt Z h0 tx kt (24 : Int32) pre) (ga0 : n0 ≤ tx) (sztx : hS.size ≤ tx) (hst : OwnSt kS kE kI cs fm) (hl : pre.length ≤ 3) (hh : OwnHead kd pre []) (hfs : fi = (3 : Int32) → ¬ sA < (1 : Int32)) (K0 : Keep hS h0 []) (hC0 : CHv Z consts_1 s.vm hS) (hQ : ∀ (h' : Heap) (L : List Loc), Fr n0 L → Q (some (.int (1 : Int32))) h' L) :
    OFin p e below (KPostW s Q room_1.cells room_1.slots) (T0.setTop (mkF m 236 (la60 p0 p1 p2 p3 p4 p5 tx kd (Int32.ofNat pre.length) fi sA) [])) := by
  have hEL := own_EW hw
  refine OFin.of (S' := T0.setTop (mkF m 239 (la60 p0 p1 p2 p3 p4 p5 tx kd (Int32.ofNat pre.length) fi sA) [(.int (1 : Int32)), (.int sA)])) (fun t ht => iW X0 hx rfl (hb hby at_236) rfl (iC X0 hx rfl (hb hby at_238) ht)) ?_
  by_cases hc775 : sA < (1 : Int32)
  · refine OFin.of (S' := T0.setTop (mkF m 259 (la60 p0 p1 p2 p3 p4 p5 tx kd (Int32.ofNat pre.length) fi sA) [(.int (2 : Int32)), (.int sA)])) (fun t ht => cY X0 hx rfl 239 256 rfl (hb hby at_239) rfl (tlt hc775).1 (by decide) (iW X0 hx rfl (hb hby at_256) rfl (iC X0 hx rfl (hb hby at_258) ht))) ?_
    by_cases hc776 : sA < (2 : Int32)
    · refine OFin.of (S' := T0.setTop (mkF m 276 (la60 p0 p1 p2 p3 p4 p5 tx kd (Int32.ofNat pre.length) fi sA) [])) (fun t ht => cY X0 hx rfl 259 276 rfl (hb hby at_259) rfl (tlt hc776).1 (by decide) ht) ?_
      exact seg276 Z _ hw hx hby hlk hret hml hown hZ n0  (X0.more (by decide) (by decide)) e0 Z0 N0 fa0 fa1 ga0 sztx hst (Nat.le_trans hl (by decide)) hh own_sps0 (fun z => absurd hc775 (hfs z)) K0 hC0 hQ
    · obtain ⟨_, T777, Lc777, X777, hQ777, st777⟩ := own_cS X0 hx hw hZ hown 5 6 3 7 rfl rfl rfl rfl (by decide) (rmSpc l Z _ hw [] ((p1.toUInt32 >>> ((4 : Int32) &&& 31).toUInt32).toInt32) h0 n0 Z0 ) (by decide) (by decide) (g := (mkF m 272 (la60 p0 p1 p2 p3 p4 p5 tx kd ((Int32.ofNat pre.length) + (1 : Int32)) fi sA) [(.int ((p1.toUInt32 >>> ((4 : Int32) &&& 31).toUInt32).toInt32)), (.int (Int32.ofNat pre.length)), (.ref tx)])) rfl hml rfl (argsL := [(.int ((p1.toUInt32 >>> ((4 : Int32) &&& 31).toUInt32).toInt32))]) (rest := [(.int (Int32.ofNat pre.length)), (.ref tx)]) pd_2 rfl rfl rfl (W := 2) (Nat.le_of_eq rfl) (hb hby at_272) rfl e0 (by decide) (by decide)
      obtain ⟨rfl, Nq777, hs777⟩ := hQ777
      have N778 := Fr.app N0 Nq777
      refine OFin.of (fun t ht => cN X0 hx rfl (hb hby at_259) rfl (flt hc776).1 (aW X0 hx rfl (hb hby at_262) rfl rfl (iW X0 hx rfl (hb hby at_264) rfl (iI X0 hx rfl (hb hby at_266) rfl (l' := (la60 p0 p1 p2 p3 p4 p5 tx kd ((Int32.ofNat pre.length) + (1 : Int32)) fi sA)) rfl (iN X0 hx rfl (hb hby at_269) rfl (iC X0 hx rfl (hb hby at_270) (XS.iushr X0.here hx rfl (hb hby at_271) rfl (st777.trans ht)))))))) ?_
      obtain ⟨T779, h779, X779, e779, W779, G779, st779⟩ := own_stT X777 hx hZ hs777 fa1 (j := (Int32.ofNat pre.length)) rfl (own_l24 hl (by decide)) (g := (mkF m 275 (la60 p0 p1 p2 p3 p4 p5 tx kd ((Int32.ofNat pre.length) + (1 : Int32)) fi sA) [(.int (own_space ((p1.toUInt32 >>> ((4 : Int32) &&& 31).toUInt32).toInt32))), (.int (Int32.ofNat pre.length)), (.ref tx)])) rfl rfl (hb hby at_275)
      have f780 := (fa0.wr W779)
      have Z781 := Nat.le_trans Z0 (Keep.of_wr W779).1
      have K782 := K0.wr W779 (Or.inr sztx)
      have N783 := Fr.snoc X779 N778 ga0
      have f784 : Txt Z h779 tx kt (24 : Int32) (pre ++ [(own_space ((p1.toUInt32 >>> ((4 : Int32) &&& 31).toUInt32).toInt32))]) := (own_tx G779 (own_space_b _))
      refine OFin.of st779 ?_
      rw [own_pos pre (own_space ((p1.toUInt32 >>> ((4 : Int32) &&& 31).toUInt32).toInt32))]
      exact seg276 Z _ hw hx hby hlk hret hml hown hZ n0  (X779.more (by decide) (by decide)) e779 Z781 N783 f780 f784 ga0 sztx hst (Nat.le_trans (own_la hl) (by decide)) (own_ha hh) (own_sps1 own_sps0 (own_space_isp _)) (fun _ => by simp) K782 hC0 hQ
  · obtain ⟨_, T785, Lc785, X785, hQ785, st785⟩ := own_cS X0 hx hw hZ hown 5 6 3 7 rfl rfl rfl rfl (by decide) (rmSpc l Z _ hw [] ((p1.toUInt32 >>> ((2 : Int32) &&& 31).toUInt32).toInt32) h0 n0 Z0 ) (by decide) (by decide) (g := (mkF m 252 (la60 p0 p1 p2 p3 p4 p5 tx kd ((Int32.ofNat pre.length) + (1 : Int32)) fi sA) [(.int ((p1.toUInt32 >>> ((2 : Int32) &&& 31).toUInt32).toInt32)), (.int (Int32.ofNat pre.length)), (.ref tx)])) rfl hml rfl (argsL := [(.int ((p1.toUInt32 >>> ((2 : Int32) &&& 31).toUInt32).toInt32))]) (rest := [(.int (Int32.ofNat pre.length)), (.ref tx)]) pd_2 rfl rfl rfl (W := 2) (Nat.le_of_eq rfl) (hb hby at_252) rfl e0 (by decide) (by decide)
    obtain ⟨rfl, Nq785, hs785⟩ := hQ785
    have N786 := Fr.app N0 Nq785
    refine OFin.of (fun t ht => cN X0 hx rfl (hb hby at_239) rfl (flt hc775).1 (aW X0 hx rfl (hb hby at_242) rfl rfl (iW X0 hx rfl (hb hby at_244) rfl (iI X0 hx rfl (hb hby at_246) rfl (l' := (la60 p0 p1 p2 p3 p4 p5 tx kd ((Int32.ofNat pre.length) + (1 : Int32)) fi sA)) rfl (iN X0 hx rfl (hb hby at_249) rfl (iC X0 hx rfl (hb hby at_250) (XS.iushr X0.here hx rfl (hb hby at_251) rfl (st785.trans ht)))))))) ?_
    obtain ⟨T787, h787, X787, e787, W787, G787, st787⟩ := own_stT X785 hx hZ hs785 fa1 (j := (Int32.ofNat pre.length)) rfl (own_l24 hl (by decide)) (g := (mkF m 255 (la60 p0 p1 p2 p3 p4 p5 tx kd ((Int32.ofNat pre.length) + (1 : Int32)) fi sA) [(.int (own_space ((p1.toUInt32 >>> ((2 : Int32) &&& 31).toUInt32).toInt32))), (.int (Int32.ofNat pre.length)), (.ref tx)])) rfl rfl (hb hby at_255)
    have f788 := (fa0.wr W787)
    have Z789 := Nat.le_trans Z0 (Keep.of_wr W787).1
    have K790 := K0.wr W787 (Or.inr sztx)
    have N791 := Fr.snoc X787 N786 ga0
    have f792 : Txt Z h787 tx kt (24 : Int32) (pre ++ [(own_space ((p1.toUInt32 >>> ((2 : Int32) &&& 31).toUInt32).toInt32))]) := (own_tx G787 (own_space_b _))
    refine OFin.of st787 ?_
    rw [own_pos pre (own_space ((p1.toUInt32 >>> ((2 : Int32) &&& 31).toUInt32).toInt32))]
    refine OFin.of (S' := T787.setTop (mkF m 259 (la60 p0 p1 p2 p3 p4 p5 tx kd (Int32.ofNat (pre ++ [(own_space ((p1.toUInt32 >>> ((2 : Int32) &&& 31).toUInt32).toInt32))]).length) fi sA) [(.int (2 : Int32)), (.int sA)])) (fun t ht => iW X787 hx rfl (hb hby at_256) rfl (iC X787 hx rfl (hb hby at_258) ht)) ?_
    by_cases hc793 : sA < (2 : Int32)
    · refine OFin.of (S' := T787.setTop (mkF m 276 (la60 p0 p1 p2 p3 p4 p5 tx kd (Int32.ofNat (pre ++ [(own_space ((p1.toUInt32 >>> ((2 : Int32) &&& 31).toUInt32).toInt32))]).length) fi sA) [])) (fun t ht => cY X787 hx rfl 259 276 rfl (hb hby at_259) rfl (tlt hc793).1 (by decide) ht) ?_
      exact seg276 Z _ hw hx hby hlk hret hml hown hZ n0  (X787.more (by decide) (by decide)) e787 Z789 N791 f788 f792 ga0 sztx hst (Nat.le_trans (own_la hl) (by decide)) (own_ha hh) (own_sps1 own_sps0 (own_space_isp _)) (fun _ => by simp) K790 hC0 hQ
    · obtain ⟨_, T794, Lc794, X794, hQ794, st794⟩ := own_cS X787 hx hw hZ hown 5 6 3 7 rfl rfl rfl rfl (by decide) (rmSpc l Z _ hw [] ((p1.toUInt32 >>> ((4 : Int32) &&& 31).toUInt32).toInt32) h787 n0 Z789 ) (by decide) (by decide) (g := (mkF m 272 (la60 p0 p1 p2 p3 p4 p5 tx kd ((Int32.ofNat (pre ++ [(own_space ((p1.toUInt32 >>> ((2 : Int32) &&& 31).toUInt32).toInt32))]).length) + (1 : Int32)) fi sA) [(.int ((p1.toUInt32 >>> ((4 : Int32) &&& 31).toUInt32).toInt32)), (.int (Int32.ofNat (pre ++ [(own_space ((p1.toUInt32 >>> ((2 : Int32) &&& 31).toUInt32).toInt32))]).length)), (.ref tx)])) rfl hml rfl (argsL := [(.int ((p1.toUInt32 >>> ((4 : Int32) &&& 31).toUInt32).toInt32))]) (rest := [(.int (Int32.ofNat (pre ++ [(own_space ((p1.toUInt32 >>> ((2 : Int32) &&& 31).toUInt32).toInt32))]).length)), (.ref tx)]) pd_2 rfl rfl rfl (W := 2) (Nat.le_of_eq rfl) (hb hby at_272) rfl e787 (by decide) (by decide)
      obtain ⟨rfl, Nq794, hs794⟩ := hQ794
      have N795 := Fr.app N791 Nq794
      refine OFin.of (fun t ht => cN X787 hx rfl (hb hby at_259) rfl (flt hc793).1 (aW X787 hx rfl (hb hby at_262) rfl rfl (iW X787 hx rfl (hb hby at_264) rfl (iI X787 hx rfl (hb hby at_266) rfl (l' := (la60 p0 p1 p2 p3 p4 p5 tx kd ((Int32.ofNat (pre ++ [(own_space ((p1.toUInt32 >>> ((2 : Int32) &&& 31).toUInt32).toInt32))]).length) + (1 : Int32)) fi sA)) rfl (iN X787 hx rfl (hb hby at_269) rfl (iC X787 hx rfl (hb hby at_270) (XS.iushr X787.here hx rfl (hb hby at_271) rfl (st794.trans ht)))))))) ?_
      obtain ⟨T796, h796, X796, e796, W796, G796, st796⟩ := own_stT X794 hx hZ hs794 f792 (j := (Int32.ofNat (pre ++ [(own_space ((p1.toUInt32 >>> ((2 : Int32) &&& 31).toUInt32).toInt32))]).length)) rfl (own_l24 (own_la hl) (by decide)) (g := (mkF m 275 (la60 p0 p1 p2 p3 p4 p5 tx kd ((Int32.ofNat (pre ++ [(own_space ((p1.toUInt32 >>> ((2 : Int32) &&& 31).toUInt32).toInt32))]).length) + (1 : Int32)) fi sA) [(.int (own_space ((p1.toUInt32 >>> ((4 : Int32) &&& 31).toUInt32).toInt32))), (.int (Int32.ofNat (pre ++ [(own_space ((p1.toUInt32 >>> ((2 : Int32) &&& 31).toUInt32).toInt32))]).length)), (.ref tx)])) rfl rfl (hb hby at_275)
      have f797 := (f788.wr W796)
      have Z798 := Nat.le_trans Z789 (Keep.of_wr W796).1
      have K799 := K790.wr W796 (Or.inr sztx)
      have N800 := Fr.snoc X796 N795 ga0
      have f801 : Txt Z h796 tx kt (24 : Int32) ((pre ++ [(own_space ((p1.toUInt32 >>> ((2 : Int32) &&& 31).toUInt32).toInt32))]) ++ [(own_space ((p1.toUInt32 >>> ((4 : Int32) &&& 31).toUInt32).toInt32))]) := (own_tx G796 (own_space_b _))
      refine OFin.of st796 ?_
      rw [own_pos (pre ++ [(own_space ((p1.toUInt32 >>> ((2 : Int32) &&& 31).toUInt32).toInt32))]) (own_space ((p1.toUInt32 >>> ((4 : Int32) &&& 31).toUInt32).toInt32))]
      exact seg276 Z _ hw hx hby hlk hret hml hown hZ n0  (X796.more (by decide) (by decide)) e796 Z798 N800 f797 f801 ga0 sztx hst (Nat.le_trans (own_la (own_la hl)) (by decide)) (own_ha (own_ha hh)) (own_sps1 (own_sps1 own_sps0 (own_space_isp _)) (own_space_isp _)) (fun _ => by simp) K799 hC0 hQ
theorem seg199 {p : Program} {l : Launch} {e : Env} {s : State} {m : MethodId} {args : Array Value} {below : List Frame} {meth : Method} {c : Code} (Z : State) (a0 : Array Value) (hw : ∀ d ∈ tables_1, d.before a0 Z = true) (hx : p.tables.exec = Jvm.exec) (hby : c.code = code) (hlk : meth.locks = false) (hret : meth.sig.returnType = some .boolean) (hml : c.maxLocals = 36) (hown : s.vm.findClass cC = some m.cls) (hZ : Z.Warmed39 s.vm) {Q : Option Value → Heap → List Loc → Prop} (n0 : Nat) {hS : Heap} {kS kE kI : Addr} {cs : Int32} {fm : Value} {u8 : Addr} {p0 p1 p2 p3 p4 p5 : Int32} {tx : Addr} {kd : Int32} {kt : ClassId} {pre : List Int32} {T0 : State} {locs : List Loc} {h0 : Heap} (X0 : Stand p l e room_1 s m args below meth c T0 locs 1 24) (e0 : T0.heap = h0) (Z0 : n0 ≤ h0.size) (N0 : Fr n0 locs) (fa0 : Sts Z h0 kS kE kI cs fm u8) (fa1 : Txt Z h0 tx kt (24 : Int32) pre) (ga0 : n0 ≤ tx) (sztx : hS.size ≤ tx) (hst : OwnSt kS kE kI cs fm) (hl : pre.length ≤ 2) (hH0 : OwnH0 kd pre) (K0 : Keep hS h0 []) (hC0 : CHv Z consts_1 s.vm hS) (hQ : ∀ (h' : Heap) (L : List Loc), Fr n0 L → Q (some (.int (1 : Int32))) h' L) :
    OFin p e below (KPostW s Q room_1.cells room_1.slots) (T0.setTop (mkF m 199 (la61 p0 p1 p2 p3 p4 p5 tx kd (Int32.ofNat pre.length)) [])) := by
  have hEL := own_EW hw
  obtain ⟨T802, h802, X802, e802, W802, G802, st802⟩ := own_stT X0 hx hZ e0 fa1 (j := (Int32.ofNat pre.length)) rfl (own_l24 hl (by decide)) (g := (mkF m 208 (la61 p0 p1 p2 p3 p4 p5 tx kd ((Int32.ofNat pre.length) + (1 : Int32))) [(.int (97 : Int32)), (.int (Int32.ofNat pre.length)), (.ref tx)])) rfl rfl (hb hby at_208)
  have f803 := (fa0.wr W802)
  have Z804 := Nat.le_trans Z0 (Keep.of_wr W802).1
  have K805 := K0.wr W802 (Or.inr sztx)
  have N806 := Fr.snoc X802 N0 ga0
  have f807 : Txt Z h802 tx kt (24 : Int32) (pre ++ [(97 : Int32)]) := G802
  refine OFin.of (fun t ht => aW X0 hx rfl (hb hby at_199) rfl rfl (iW X0 hx rfl (hb hby at_201) rfl (iI X0 hx rfl (hb hby at_203) rfl (l' := (la61 p0 p1 p2 p3 p4 p5 tx kd ((Int32.ofNat pre.length) + (1 : Int32)))) rfl (bP X0 hx rfl (hb hby at_206) (st802 t ht))))) ?_
  rw [own_pos pre (97 : Int32)]
  refine OFin.of (S' := T802.setTop (mkF m 214 (la61 p0 p1 p2 p3 p4 p5 tx kd (Int32.ofNat (pre ++ [(97 : Int32)]).length)) [(.int (((p0.toUInt32 >>> ((2 : Int32) &&& 31).toUInt32).toInt32) &&& (3 : Int32)))])) (fun t ht => iN X802 hx rfl (hb hby at_209) rfl (iC X802 hx rfl (hb hby at_210) (XS.iushr X802.here hx rfl (hb hby at_211) rfl (iC X802 hx rfl (hb hby at_212) (XS.iand X802.here hx rfl (hb hby at_213) rfl ht))))) ?_
  obtain ⟨fi, h_fi⟩ : ∃ z : Int32, z = (((p0.toUInt32 >>> ((2 : Int32) &&& 31).toUInt32).toInt32) &&& (3 : Int32)) := ⟨_, rfl⟩
  rw [← h_fi]
  obtain ⟨_, T808, Lc808, X808, hQ808, st808⟩ := own_cS X802 hx hw hZ hown 1 2 3 4 rfl rfl rfl rfl (by decide) (rmCnt l Z _ hw [] p1 h802 n0 Z804 ) (by decide) (by decide) (g := (mkF m 217 (la62 p0 p1 p2 p3 p4 p5 tx kd (Int32.ofNat (pre ++ [(97 : Int32)]).length) fi) [(.int p1)])) rfl hml rfl (argsL := [(.int p1)]) (rest := []) pd_3 rfl rfl rfl (W := 0) (Nat.le_of_eq rfl) (hb hby at_217) rfl e802 (by decide) (by decide)
  obtain ⟨rfl, Nq808, hs808⟩ := hQ808
  have N809 := Fr.app N806 Nq808
  refine OFin.of (fun t ht => sW X802 hx rfl (hb hby at_214) rfl (l' := (la62 p0 p1 p2 p3 p4 p5 tx kd (Int32.ofNat (pre ++ [(97 : Int32)]).length) fi)) rfl (iN X802 hx rfl (hb hby at_216) rfl (st808.trans ht))) ?_
  refine OFin.of (S' := T808.setTop (mkF m 225 (la60 p0 p1 p2 p3 p4 p5 tx kd (Int32.ofNat (pre ++ [(97 : Int32)]).length) fi (own_count p1)) [(.int (3 : Int32)), (.int fi)])) (fun t ht => sW X808 hx rfl (hb hby at_220) rfl (l' := (la60 p0 p1 p2 p3 p4 p5 tx kd (Int32.ofNat (pre ++ [(97 : Int32)]).length) fi (own_count p1))) rfl (iW X808 hx rfl (hb hby at_222) rfl (iC X808 hx rfl (hb hby at_224) ht))) ?_
  by_cases hc810 : fi = (3 : Int32)
  · refine OFin.of (S' := T808.setTop (mkF m 230 (la60 p0 p1 p2 p3 p4 p5 tx kd (Int32.ofNat (pre ++ [(97 : Int32)]).length) fi (own_count p1)) [(.int (own_count p1))])) (fun t ht => cN X808 hx rfl (hb hby at_225) rfl (teq hc810).2 (iW X808 hx rfl (hb hby at_228) rfl ht)) ?_
    by_cases hc811 : (own_count p1) = (0 : Int32)
    · refine OFin.of (S' := T808.setTop (mkF m 236 (la60 p0 p1 p2 p3 p4 p5 tx kd (Int32.ofNat (pre ++ [(97 : Int32)]).length) fi 1) [])) (fun t ht => fN X808 hx rfl (hb hby at_230) rfl ((if0 _ _).trans (teq hc811).2) (iC X808 hx rfl (hb hby at_233) (sW X808 hx rfl (hb hby at_234) rfl (l' := (la60 p0 p1 p2 p3 p4 p5 tx kd (Int32.ofNat (pre ++ [(97 : Int32)]).length) fi 1)) rfl ht))) ?_
      exact seg236 Z _ hw hx hby hlk hret hml hown hZ n0  (X808.more (by decide) (by decide)) hs808 Z804 N809 f803 f807 ga0 sztx hst (Nat.le_trans (own_la hl) (by decide)) (own_h0 hH0) (fun _ => by decide) K805 hC0 hQ
    · refine OFin.of (S' := T808.setTop (mkF m 236 (la60 p0 p1 p2 p3 p4 p5 tx kd (Int32.ofNat (pre ++ [(97 : Int32)]).length) fi (own_count p1)) [])) (fun t ht => fY X808 hx rfl 230 236 rfl (hb hby at_230) rfl ((if0 _ _).trans (feq hc811).2) (by decide) ht) ?_
      exact seg236 Z _ hw hx hby hlk hret hml hown hZ n0  (X808.more (by decide) (by decide)) hs808 Z804 N809 f803 f807 ga0 sztx hst (Nat.le_trans (own_la hl) (by decide)) (own_h0 hH0) (fun _ => own_cnt1 hc811) K805 hC0 hQ
  · refine OFin.of (S' := T808.setTop (mkF m 236 (la60 p0 p1 p2 p3 p4 p5 tx kd (Int32.ofNat (pre ++ [(97 : Int32)]).length) fi (own_count p1)) [])) (fun t ht => cY X808 hx rfl 225 236 rfl (hb hby at_225) rfl (feq hc810).2 (by decide) ht) ?_
    exact seg236 Z _ hw hx hby hlk hret hml hown hZ n0  (X808.more (by decide) (by decide)) hs808 Z804 N809 f803 f807 ga0 sztx hst (Nat.le_trans (own_la hl) (by decide)) (own_h0 hH0) (fun z => absurd z hc810) K805 hC0 hQ
theorem ef0 (m : MethodId) (p0 : Int32) (p1 : Int32) (p2 : Int32) (p3 : Int32) (p4 : Int32) (p5 : Int32) : entryFrame m #[(.int p0), (.int p1), (.int p2), (.int p3), (.int p4), (.int p5)] maxLocals = mkF m 0 (la63 p0 p1 p2 p3 p4 p5) [] := by first | (simp [entryFrame, mkF, argsToLocals, Value.category, maxLocals]; done) | rfl
def Q0 (Z : State) (p0 : Int32) (p1 : Int32) (p2 : Int32) (p3 : Int32) (p4 : Int32) (p5 : Int32) (kS : Addr) (kE : Addr) (kI : Addr) (cs : Int32) (fm : Value) (u8 : Addr) (h0 : Heap) (n0 : Nat) (v : Option Value) (h : Heap) (L : List Loc) : Prop := v = some (.int (1 : Int32)) ∧ Fr n0 L
theorem rm0 (l : Launch) (Z : State) (a0 : Array Value) (hw : ∀ d ∈ tables_1, d.before a0 Z = true) (ws : List Jvm.Cond) (p0 : Int32) (p1 : Int32) (p2 : Int32) (p3 : Int32) (p4 : Int32) (p5 : Int32) (kS : Addr) (kE : Addr) (kI : Addr) (cs : Int32) (fm : Value) (u8 : Addr) (h0 : Heap) (n0 : Nat) (Z0 : n0 ≤ h0.size) (SB : Sts Z h0 kS kE kI cs fm u8) (hst : OwnSt kS kE kI cs fm) :
    MetFree l x (head1 (Jvm.Cond.code x code maxLocals ret :: ws) room_1) (fun a U => a = #[(.int p0), (.int p1), (.int p2), (.int p3), (.int p4), (.int p5)] ∧ Z.Warmed39 U.vm ∧ U.heap = h0 ∧ CHv Z consts_1 U.vm h0) (fun _ _ _ _ _ => True) (fun _ U o U' => ∃ v L, o = .returned v ∧ Q0 Z p0 p1 p2 p3 p4 p5 kS kE kI cs fm u8 h0 n0 v U'.heap L ∧ ReturnedEndW U o U' L room_1.cells room_1.slots) := by
  refine MetFree.of_bodySF (plainFor_of_name pn_6) hisR ?_
  intro p e s m args below meth c s₁ Bd hml0 hP hK
  obtain ⟨rfl, hZ, hh, hC0⟩ := hP
  have hx := Bd.exec
  have hby := Bd.bytes
  have hlk := BodyLoose.notSynchronized Bd
  have hret := Bd.returns
  have hml : c.maxLocals = 36 := hml0
  have hown : s.vm.findClass cC = some m.cls := findClass_of_methodNamed Bd.named
  have hnm := (name_of_methodNamed Bd.named Bd.method).1
  have X0 : Stand p l e room_1 s m #[(.int p0), (.int p1), (.int p2), (.int p3), (.int p4), (.int p5)] below meth c s₁ [] 0 0 := Stand.of_body Bd
  have e0 : s₁.heap = h0 := by rw [← hh, Bd.state]; rfl
  have N0 := Fr.nil n0
  show OFin p e below (KPostW s (Q0 Z p0 p1 p2 p3 p4 p5 kS kE kI cs fm u8 h0 n0) room_1.cells room_1.slots) _
  have hEL := own_EW hw
  rw [ef0 m p0 p1 p2 p3 p4 p5]
  have K0 : Keep h0 h0 [] := Keep.refl _ _
  obtain ⟨T812, h812, k812, X812, e812, E812, A812, st812⟩ := newP X0 hx hZ (wt hw 0 rfl) e0 (g := (mkF m 2 (la63 p0 p1 p2 p3 p4 p5) [(.int (24 : Int32))])) rfl (hb hby at_2) rfl (by decide) (cap := 24) (by decide) (by decide) (by decide) (by decide)
  obtain ⟨b812, gq812⟩ : ∃ z, z = h0.size := ⟨_, rfl⟩
  rw [← gq812] at A812 st812
  have g813 : n0 ≤ b812 := (Nat.le_trans Z0 (Nat.le_of_eq gq812.symm))
  have sz814 : h0.size ≤ b812 := (Nat.le_trans K0.1 (Nat.le_of_eq gq812.symm))
  have f815 := SB.ext E812
  have Z816 := Nat.le_trans Z0 E812.1
  have K817 := K0.ext E812
  have f818 : Arv Z h812 b812 k812 .byte (24 : Int32) [(.int (0 : Int32)), (.int (0 : Int32)), (.int (0 : Int32)), (.int (0 : Int32)), (.int (0 : Int32)), (.int (0 : Int32)), (.int (0 : Int32)), (.int (0 : Int32)), (.int (0 : Int32)), (.int (0 : Int32)), (.int (0 : Int32)), (.int (0 : Int32)), (.int (0 : Int32)), (.int (0 : Int32)), (.int (0 : Int32)), (.int (0 : Int32)), (.int (0 : Int32)), (.int (0 : Int32)), (.int (0 : Int32)), (.int (0 : Int32)), (.int (0 : Int32)), (.int (0 : Int32)), (.int (0 : Int32)), (.int (0 : Int32))] (.int (0 : Int32)) := ((Arv.new A812 (by decide)).pad (pad_rep [] (.int (0 : Int32)) 24))
  have f819 : Txt Z h812 b812 k812 (24 : Int32) ([] : List Int32) := ⟨[(0 : Int32), (0 : Int32), (0 : Int32), (0 : Int32), (0 : Int32), (0 : Int32), (0 : Int32), (0 : Int32), (0 : Int32), (0 : Int32), (0 : Int32), (0 : Int32), (0 : Int32), (0 : Int32), (0 : Int32), (0 : Int32), (0 : Int32), (0 : Int32), (0 : Int32), (0 : Int32), (0 : Int32), (0 : Int32), (0 : Int32), (0 : Int32)], f818, rfl, rfl⟩
  refine OFin.of (fun t ht => bP X0 hx rfl (hb hby at_0) (st812 t ht)) ?_
  obtain ⟨T820, h820, X820, e820, W820, G820, st820⟩ := own_stA X812 hx hZ e812 f819 (j := (0 : Int32)) ⟨by decide, by decide⟩ (g := (mkF m 8 (la63 p0 p1 p2 p3 p4 p5) [(.int (34 : Int32)), (.int (0 : Int32)), (.ref b812), (.ref b812)])) rfl rfl (hb hby at_8)
  have f821 := (f815.wr W820)
  have Z822 := Nat.le_trans Z816 (Keep.of_wr W820).1
  have K823 := K817.wr W820 (Or.inr sz814)
  have N824 := Fr.snoc X820 N0 g813
  have f825 : Txt Z h820 b812 k812 (24 : Int32) ([] : List Int32) := G820
  refine OFin.of (fun t ht => XS.dup X812.here hx rfl (hb hby at_4) rfl rfl (iC X812 hx rfl (hb hby at_5) (bP X812 hx rfl (hb hby at_6) (st820 t ht)))) ?_
  obtain ⟨T826, h826, X826, e826, W826, G826, st826⟩ := own_stA X820 hx hZ e820 f825 (j := (1 : Int32)) ⟨by decide, by decide⟩ (g := (mkF m 13 (la63 p0 p1 p2 p3 p4 p5) [(.int (39 : Int32)), (.int (1 : Int32)), (.ref b812), (.ref b812)])) rfl rfl (hb hby at_13)
  have f827 := (f821.wr W826)
  have Z828 := Nat.le_trans Z822 (Keep.of_wr W826).1
  have K829 := K823.wr W826 (Or.inr sz814)
  have N830 := Fr.snoc X826 N824 g813
  have f831 : Txt Z h826 b812 k812 (24 : Int32) ([] : List Int32) := G826
  refine OFin.of (fun t ht => XS.dup X820.here hx rfl (hb hby at_9) rfl rfl (iC X820 hx rfl (hb hby at_10) (bP X820 hx rfl (hb hby at_11) (st826 t ht)))) ?_
  obtain ⟨T832, h832, X832, e832, W832, G832, st832⟩ := own_stA X826 hx hZ e826 f831 (j := (2 : Int32)) ⟨by decide, by decide⟩ (g := (mkF m 18 (la63 p0 p1 p2 p3 p4 p5) [(.int (62 : Int32)), (.int (2 : Int32)), (.ref b812), (.ref b812)])) rfl rfl (hb hby at_18)
  have f833 := (f827.wr W832)
  have Z834 := Nat.le_trans Z828 (Keep.of_wr W832).1
  have K835 := K829.wr W832 (Or.inr sz814)
  have N836 := Fr.snoc X832 N830 g813
  have f837 : Txt Z h832 b812 k812 (24 : Int32) ([] : List Int32) := G832
  refine OFin.of (fun t ht => XS.dup X826.here hx rfl (hb hby at_14) rfl rfl (iC X826 hx rfl (hb hby at_15) (bP X826 hx rfl (hb hby at_16) (st832 t ht)))) ?_
  obtain ⟨T838, h838, X838, e838, W838, G838, st838⟩ := own_stA X832 hx hZ e832 f837 (j := (3 : Int32)) ⟨by decide, by decide⟩ (g := (mkF m 23 (la63 p0 p1 p2 p3 p4 p5) [(.int (34 : Int32)), (.int (3 : Int32)), (.ref b812), (.ref b812)])) rfl rfl (hb hby at_23)
  have f839 := (f833.wr W838)
  have Z840 := Nat.le_trans Z834 (Keep.of_wr W838).1
  have K841 := K835.wr W838 (Or.inr sz814)
  have N842 := Fr.snoc X838 N836 g813
  have f843 : Txt Z h838 b812 k812 (24 : Int32) ([] : List Int32) := G838
  refine OFin.of (fun t ht => XS.dup X832.here hx rfl (hb hby at_19) rfl rfl (iC X832 hx rfl (hb hby at_20) (bP X832 hx rfl (hb hby at_21) (st838 t ht)))) ?_
  obtain ⟨T844, h844, X844, e844, W844, G844, st844⟩ := own_stA X838 hx hZ e838 f843 (j := (4 : Int32)) ⟨by decide, by decide⟩ (g := (mkF m 28 (la63 p0 p1 p2 p3 p4 p5) [(.int (39 : Int32)), (.int (4 : Int32)), (.ref b812), (.ref b812)])) rfl rfl (hb hby at_28)
  have f845 := (f839.wr W844)
  have Z846 := Nat.le_trans Z840 (Keep.of_wr W844).1
  have K847 := K841.wr W844 (Or.inr sz814)
  have N848 := Fr.snoc X844 N842 g813
  have f849 : Txt Z h844 b812 k812 (24 : Int32) ([] : List Int32) := G844
  refine OFin.of (fun t ht => XS.dup X838.here hx rfl (hb hby at_24) rfl rfl (iC X838 hx rfl (hb hby at_25) (bP X838 hx rfl (hb hby at_26) (st844 t ht)))) ?_
  obtain ⟨T850, h850, X850, e850, W850, G850, st850⟩ := own_stA X844 hx hZ e844 f849 (j := (5 : Int32)) ⟨by decide, by decide⟩ (g := (mkF m 33 (la63 p0 p1 p2 p3 p4 p5) [(.int (62 : Int32)), (.int (5 : Int32)), (.ref b812), (.ref b812)])) rfl rfl (hb hby at_33)
  have f851 := (f845.wr W850)
  have Z852 := Nat.le_trans Z846 (Keep.of_wr W850).1
  have K853 := K847.wr W850 (Or.inr sz814)
  have N854 := Fr.snoc X850 N848 g813
  have f855 : Txt Z h850 b812 k812 (24 : Int32) ([] : List Int32) := G850
  refine OFin.of (fun t ht => XS.dup X844.here hx rfl (hb hby at_29) rfl rfl (iC X844 hx rfl (hb hby at_30) (bP X844 hx rfl (hb hby at_31) (st850 t ht)))) ?_
  obtain ⟨T856, h856, X856, e856, W856, G856, st856⟩ := own_stA X850 hx hZ e850 f855 (j := (6 : Int32)) ⟨by decide, by decide⟩ (g := (mkF m 39 (la63 p0 p1 p2 p3 p4 p5) [(.int (34 : Int32)), (.int (6 : Int32)), (.ref b812), (.ref b812)])) rfl rfl (hb hby at_39)
  have f857 := (f851.wr W856)
  have Z858 := Nat.le_trans Z852 (Keep.of_wr W856).1
  have K859 := K853.wr W856 (Or.inr sz814)
  have N860 := Fr.snoc X856 N854 g813
  have f861 : Txt Z h856 b812 k812 (24 : Int32) ([] : List Int32) := G856
  refine OFin.of (fun t ht => XS.dup X850.here hx rfl (hb hby at_34) rfl rfl (bP X850 hx rfl (hb hby at_35) (bP X850 hx rfl (hb hby at_37) (st856 t ht)))) ?_
  obtain ⟨T862, h862, X862, e862, W862, G862, st862⟩ := own_stA X856 hx hZ e856 f861 (j := (7 : Int32)) ⟨by decide, by decide⟩ (g := (mkF m 45 (la63 p0 p1 p2 p3 p4 p5) [(.int (39 : Int32)), (.int (7 : Int32)), (.ref b812), (.ref b812)])) rfl rfl (hb hby at_45)
  have f863 := (f857.wr W862)
  have Z864 := Nat.le_trans Z858 (Keep.of_wr W862).1
  have K865 := K859.wr W862 (Or.inr sz814)
  have N866 := Fr.snoc X862 N860 g813
  have f867 : Txt Z h862 b812 k812 (24 : Int32) ([] : List Int32) := G862
  refine OFin.of (fun t ht => XS.dup X856.here hx rfl (hb hby at_40) rfl rfl (bP X856 hx rfl (hb hby at_41) (bP X856 hx rfl (hb hby at_43) (st862 t ht)))) ?_
  obtain ⟨T868, h868, X868, e868, W868, G868, st868⟩ := own_stA X862 hx hZ e862 f867 (j := (8 : Int32)) ⟨by decide, by decide⟩ (g := (mkF m 51 (la63 p0 p1 p2 p3 p4 p5) [(.int (62 : Int32)), (.int (8 : Int32)), (.ref b812), (.ref b812)])) rfl rfl (hb hby at_51)
  have f869 := (f863.wr W868)
  have Z870 := Nat.le_trans Z864 (Keep.of_wr W868).1
  have K871 := K865.wr W868 (Or.inr sz814)
  have N872 := Fr.snoc X868 N866 g813
  have f873 : Txt Z h868 b812 k812 (24 : Int32) ([] : List Int32) := G868
  refine OFin.of (fun t ht => XS.dup X862.here hx rfl (hb hby at_46) rfl rfl (bP X862 hx rfl (hb hby at_47) (bP X862 hx rfl (hb hby at_49) (st868 t ht)))) ?_
  obtain ⟨T874, h874, X874, e874, W874, G874, st874⟩ := own_stA X868 hx hZ e868 f873 (j := (9 : Int32)) ⟨by decide, by decide⟩ (g := (mkF m 57 (la63 p0 p1 p2 p3 p4 p5) [(.int (34 : Int32)), (.int (9 : Int32)), (.ref b812), (.ref b812)])) rfl rfl (hb hby at_57)
  have f875 := (f869.wr W874)
  have Z876 := Nat.le_trans Z870 (Keep.of_wr W874).1
  have K877 := K871.wr W874 (Or.inr sz814)
  have N878 := Fr.snoc X874 N872 g813
  have f879 : Txt Z h874 b812 k812 (24 : Int32) ([] : List Int32) := G874
  refine OFin.of (fun t ht => XS.dup X868.here hx rfl (hb hby at_52) rfl rfl (bP X868 hx rfl (hb hby at_53) (bP X868 hx rfl (hb hby at_55) (st874 t ht)))) ?_
  obtain ⟨T880, h880, X880, e880, W880, G880, st880⟩ := own_stA X874 hx hZ e874 f879 (j := (10 : Int32)) ⟨by decide, by decide⟩ (g := (mkF m 63 (la63 p0 p1 p2 p3 p4 p5) [(.int (39 : Int32)), (.int (10 : Int32)), (.ref b812), (.ref b812)])) rfl rfl (hb hby at_63)
  have f881 := (f875.wr W880)
  have Z882 := Nat.le_trans Z876 (Keep.of_wr W880).1
  have K883 := K877.wr W880 (Or.inr sz814)
  have N884 := Fr.snoc X880 N878 g813
  have f885 : Txt Z h880 b812 k812 (24 : Int32) ([] : List Int32) := G880
  refine OFin.of (fun t ht => XS.dup X874.here hx rfl (hb hby at_58) rfl rfl (bP X874 hx rfl (hb hby at_59) (bP X874 hx rfl (hb hby at_61) (st880 t ht)))) ?_
  obtain ⟨T886, h886, X886, e886, W886, G886, st886⟩ := own_stA X880 hx hZ e880 f885 (j := (11 : Int32)) ⟨by decide, by decide⟩ (g := (mkF m 69 (la63 p0 p1 p2 p3 p4 p5) [(.int (62 : Int32)), (.int (11 : Int32)), (.ref b812), (.ref b812)])) rfl rfl (hb hby at_69)
  have f887 := (f881.wr W886)
  have Z888 := Nat.le_trans Z882 (Keep.of_wr W886).1
  have K889 := K883.wr W886 (Or.inr sz814)
  have N890 := Fr.snoc X886 N884 g813
  have f891 : Txt Z h886 b812 k812 (24 : Int32) ([] : List Int32) := G886
  refine OFin.of (fun t ht => XS.dup X880.here hx rfl (hb hby at_64) rfl rfl (bP X880 hx rfl (hb hby at_65) (bP X880 hx rfl (hb hby at_67) (st886 t ht)))) ?_
  obtain ⟨T892, h892, X892, e892, W892, G892, st892⟩ := own_stA X886 hx hZ e886 f891 (j := (12 : Int32)) ⟨by decide, by decide⟩ (g := (mkF m 75 (la63 p0 p1 p2 p3 p4 p5) [(.int (34 : Int32)), (.int (12 : Int32)), (.ref b812), (.ref b812)])) rfl rfl (hb hby at_75)
  have f893 := (f887.wr W892)
  have Z894 := Nat.le_trans Z888 (Keep.of_wr W892).1
  have K895 := K889.wr W892 (Or.inr sz814)
  have N896 := Fr.snoc X892 N890 g813
  have f897 : Txt Z h892 b812 k812 (24 : Int32) ([] : List Int32) := G892
  refine OFin.of (fun t ht => XS.dup X886.here hx rfl (hb hby at_70) rfl rfl (bP X886 hx rfl (hb hby at_71) (bP X886 hx rfl (hb hby at_73) (st892 t ht)))) ?_
  obtain ⟨T898, h898, X898, e898, W898, G898, st898⟩ := own_stA X892 hx hZ e892 f897 (j := (13 : Int32)) ⟨by decide, by decide⟩ (g := (mkF m 81 (la63 p0 p1 p2 p3 p4 p5) [(.int (39 : Int32)), (.int (13 : Int32)), (.ref b812), (.ref b812)])) rfl rfl (hb hby at_81)
  have f899 := (f893.wr W898)
  have Z900 := Nat.le_trans Z894 (Keep.of_wr W898).1
  have K901 := K895.wr W898 (Or.inr sz814)
  have N902 := Fr.snoc X898 N896 g813
  have f903 : Txt Z h898 b812 k812 (24 : Int32) ([] : List Int32) := G898
  refine OFin.of (fun t ht => XS.dup X892.here hx rfl (hb hby at_76) rfl rfl (bP X892 hx rfl (hb hby at_77) (bP X892 hx rfl (hb hby at_79) (st898 t ht)))) ?_
  obtain ⟨T904, h904, X904, e904, W904, G904, st904⟩ := own_stA X898 hx hZ e898 f903 (j := (14 : Int32)) ⟨by decide, by decide⟩ (g := (mkF m 87 (la63 p0 p1 p2 p3 p4 p5) [(.int (62 : Int32)), (.int (14 : Int32)), (.ref b812), (.ref b812)])) rfl rfl (hb hby at_87)
  have f905 := (f899.wr W904)
  have Z906 := Nat.le_trans Z900 (Keep.of_wr W904).1
  have K907 := K901.wr W904 (Or.inr sz814)
  have N908 := Fr.snoc X904 N902 g813
  have f909 : Txt Z h904 b812 k812 (24 : Int32) ([] : List Int32) := G904
  refine OFin.of (fun t ht => XS.dup X898.here hx rfl (hb hby at_82) rfl rfl (bP X898 hx rfl (hb hby at_83) (bP X898 hx rfl (hb hby at_85) (st904 t ht)))) ?_
  obtain ⟨T910, h910, X910, e910, W910, G910, st910⟩ := own_stA X904 hx hZ e904 f909 (j := (15 : Int32)) ⟨by decide, by decide⟩ (g := (mkF m 93 (la63 p0 p1 p2 p3 p4 p5) [(.int (34 : Int32)), (.int (15 : Int32)), (.ref b812), (.ref b812)])) rfl rfl (hb hby at_93)
  have f911 := (f905.wr W910)
  have Z912 := Nat.le_trans Z906 (Keep.of_wr W910).1
  have K913 := K907.wr W910 (Or.inr sz814)
  have N914 := Fr.snoc X910 N908 g813
  have f915 : Txt Z h910 b812 k812 (24 : Int32) ([] : List Int32) := G910
  refine OFin.of (fun t ht => XS.dup X904.here hx rfl (hb hby at_88) rfl rfl (bP X904 hx rfl (hb hby at_89) (bP X904 hx rfl (hb hby at_91) (st910 t ht)))) ?_
  obtain ⟨T916, h916, X916, e916, W916, G916, st916⟩ := own_stA X910 hx hZ e910 f915 (j := (16 : Int32)) ⟨by decide, by decide⟩ (g := (mkF m 99 (la63 p0 p1 p2 p3 p4 p5) [(.int (39 : Int32)), (.int (16 : Int32)), (.ref b812), (.ref b812)])) rfl rfl (hb hby at_99)
  have f917 := (f911.wr W916)
  have Z918 := Nat.le_trans Z912 (Keep.of_wr W916).1
  have K919 := K913.wr W916 (Or.inr sz814)
  have N920 := Fr.snoc X916 N914 g813
  have f921 : Txt Z h916 b812 k812 (24 : Int32) ([] : List Int32) := G916
  refine OFin.of (fun t ht => XS.dup X910.here hx rfl (hb hby at_94) rfl rfl (bP X910 hx rfl (hb hby at_95) (bP X910 hx rfl (hb hby at_97) (st916 t ht)))) ?_
  obtain ⟨T922, h922, X922, e922, W922, G922, st922⟩ := own_stA X916 hx hZ e916 f921 (j := (17 : Int32)) ⟨by decide, by decide⟩ (g := (mkF m 105 (la63 p0 p1 p2 p3 p4 p5) [(.int (62 : Int32)), (.int (17 : Int32)), (.ref b812), (.ref b812)])) rfl rfl (hb hby at_105)
  have f923 := (f917.wr W922)
  have Z924 := Nat.le_trans Z918 (Keep.of_wr W922).1
  have K925 := K919.wr W922 (Or.inr sz814)
  have N926 := Fr.snoc X922 N920 g813
  have f927 : Txt Z h922 b812 k812 (24 : Int32) ([] : List Int32) := G922
  refine OFin.of (fun t ht => XS.dup X916.here hx rfl (hb hby at_100) rfl rfl (bP X916 hx rfl (hb hby at_101) (bP X916 hx rfl (hb hby at_103) (st922 t ht)))) ?_
  obtain ⟨T928, h928, X928, e928, W928, G928, st928⟩ := own_stA X922 hx hZ e922 f927 (j := (18 : Int32)) ⟨by decide, by decide⟩ (g := (mkF m 111 (la63 p0 p1 p2 p3 p4 p5) [(.int (34 : Int32)), (.int (18 : Int32)), (.ref b812), (.ref b812)])) rfl rfl (hb hby at_111)
  have f929 := (f923.wr W928)
  have Z930 := Nat.le_trans Z924 (Keep.of_wr W928).1
  have K931 := K925.wr W928 (Or.inr sz814)
  have N932 := Fr.snoc X928 N926 g813
  have f933 : Txt Z h928 b812 k812 (24 : Int32) ([] : List Int32) := G928
  refine OFin.of (fun t ht => XS.dup X922.here hx rfl (hb hby at_106) rfl rfl (bP X922 hx rfl (hb hby at_107) (bP X922 hx rfl (hb hby at_109) (st928 t ht)))) ?_
  obtain ⟨T934, h934, X934, e934, W934, G934, st934⟩ := own_stA X928 hx hZ e928 f933 (j := (19 : Int32)) ⟨by decide, by decide⟩ (g := (mkF m 117 (la63 p0 p1 p2 p3 p4 p5) [(.int (39 : Int32)), (.int (19 : Int32)), (.ref b812), (.ref b812)])) rfl rfl (hb hby at_117)
  have f935 := (f929.wr W934)
  have Z936 := Nat.le_trans Z930 (Keep.of_wr W934).1
  have K937 := K931.wr W934 (Or.inr sz814)
  have N938 := Fr.snoc X934 N932 g813
  have f939 : Txt Z h934 b812 k812 (24 : Int32) ([] : List Int32) := G934
  refine OFin.of (fun t ht => XS.dup X928.here hx rfl (hb hby at_112) rfl rfl (bP X928 hx rfl (hb hby at_113) (bP X928 hx rfl (hb hby at_115) (st934 t ht)))) ?_
  obtain ⟨T940, h940, X940, e940, W940, G940, st940⟩ := own_stA X934 hx hZ e934 f939 (j := (20 : Int32)) ⟨by decide, by decide⟩ (g := (mkF m 123 (la63 p0 p1 p2 p3 p4 p5) [(.int (62 : Int32)), (.int (20 : Int32)), (.ref b812), (.ref b812)])) rfl rfl (hb hby at_123)
  have f941 := (f935.wr W940)
  have Z942 := Nat.le_trans Z936 (Keep.of_wr W940).1
  have K943 := K937.wr W940 (Or.inr sz814)
  have N944 := Fr.snoc X940 N938 g813
  have f945 : Txt Z h940 b812 k812 (24 : Int32) ([] : List Int32) := G940
  refine OFin.of (fun t ht => XS.dup X934.here hx rfl (hb hby at_118) rfl rfl (bP X934 hx rfl (hb hby at_119) (bP X934 hx rfl (hb hby at_121) (st940 t ht)))) ?_
  obtain ⟨T946, h946, X946, e946, W946, G946, st946⟩ := own_stA X940 hx hZ e940 f945 (j := (21 : Int32)) ⟨by decide, by decide⟩ (g := (mkF m 129 (la63 p0 p1 p2 p3 p4 p5) [(.int (34 : Int32)), (.int (21 : Int32)), (.ref b812), (.ref b812)])) rfl rfl (hb hby at_129)
  have f947 := (f941.wr W946)
  have Z948 := Nat.le_trans Z942 (Keep.of_wr W946).1
  have K949 := K943.wr W946 (Or.inr sz814)
  have N950 := Fr.snoc X946 N944 g813
  have f951 : Txt Z h946 b812 k812 (24 : Int32) ([] : List Int32) := G946
  refine OFin.of (fun t ht => XS.dup X940.here hx rfl (hb hby at_124) rfl rfl (bP X940 hx rfl (hb hby at_125) (bP X940 hx rfl (hb hby at_127) (st946 t ht)))) ?_
  obtain ⟨T952, h952, X952, e952, W952, G952, st952⟩ := own_stA X946 hx hZ e946 f951 (j := (22 : Int32)) ⟨by decide, by decide⟩ (g := (mkF m 135 (la63 p0 p1 p2 p3 p4 p5) [(.int (39 : Int32)), (.int (22 : Int32)), (.ref b812), (.ref b812)])) rfl rfl (hb hby at_135)
  have f953 := (f947.wr W952)
  have Z954 := Nat.le_trans Z948 (Keep.of_wr W952).1
  have K955 := K949.wr W952 (Or.inr sz814)
  have N956 := Fr.snoc X952 N950 g813
  have f957 : Txt Z h952 b812 k812 (24 : Int32) ([] : List Int32) := G952
  refine OFin.of (fun t ht => XS.dup X946.here hx rfl (hb hby at_130) rfl rfl (bP X946 hx rfl (hb hby at_131) (bP X946 hx rfl (hb hby at_133) (st952 t ht)))) ?_
  obtain ⟨T958, h958, X958, e958, W958, G958, st958⟩ := own_stA X952 hx hZ e952 f957 (j := (23 : Int32)) ⟨by decide, by decide⟩ (g := (mkF m 141 (la63 p0 p1 p2 p3 p4 p5) [(.int (62 : Int32)), (.int (23 : Int32)), (.ref b812), (.ref b812)])) rfl rfl (hb hby at_141)
  have f959 := (f953.wr W958)
  have Z960 := Nat.le_trans Z954 (Keep.of_wr W958).1
  have K961 := K955.wr W958 (Or.inr sz814)
  have N962 := Fr.snoc X958 N956 g813
  have f963 : Txt Z h958 b812 k812 (24 : Int32) ([] : List Int32) := G958
  refine OFin.of (fun t ht => XS.dup X952.here hx rfl (hb hby at_136) rfl rfl (bP X952 hx rfl (hb hby at_137) (bP X952 hx rfl (hb hby at_139) (st958 t ht)))) ?_
  refine OFin.of (S' := T958.setTop (mkF m 149 (la64 p0 p1 p2 p3 p4 p5 b812) [(.int ((p0 &&& (3 : Int32)) % (3 : Int32)))])) (fun t ht => XS.astore X958.here hx rfl (hb hby at_142) rfl rfl (l' := (la64 p0 p1 p2 p3 p4 p5 b812)) rfl (iN X958 hx rfl (hb hby at_144) rfl (iC X958 hx rfl (hb hby at_145) (XS.iand X958.here hx rfl (hb hby at_146) rfl (iC X958 hx rfl (hb hby at_147) (iremM X958 hx rfl (hb hby at_148) rfl (by decide) ht)))))) ?_
  rcases (own_m3 p0 : ((p0 &&& (3 : Int32)) % (3 : Int32)) = (0 : Int32) ∨ ((p0 &&& (3 : Int32)) % (3 : Int32)) = (1 : Int32) ∨ ((p0 &&& (3 : Int32)) % (3 : Int32)) = (2 : Int32)) with hq964 | hq964 | hq964
  · rw [hq964]
    refine OFin.of (S' := T958.setTop (mkF m 154 (la61 p0 p1 p2 p3 p4 p5 b812 0 0) [])) (fun t ht => sW X958 hx rfl (hb hby at_149) rfl (l' := (la65 p0 p1 p2 p3 p4 p5 b812 0)) rfl (iC X958 hx rfl (hb hby at_151) (sW X958 hx rfl (hb hby at_152) rfl (l' := (la61 p0 p1 p2 p3 p4 p5 b812 0 0)) rfl ht))) ?_
    show OFin p e below _ (T958.setTop (mkF m 154 (la61 p0 p1 p2 p3 p4 p5 b812 0 (Int32.ofNat ([] : List Int32).length)) []))
    obtain ⟨T965, h965, X965, e965, W965, G965, st965⟩ := own_stT X958 hx hZ e958 f963 (j := (Int32.ofNat ([] : List Int32).length)) rfl (own_l24 (Nat.le_refl 0 : ([] : List Int32).length ≤ 0) (by decide)) (g := (mkF m 163 (la61 p0 p1 p2 p3 p4 p5 b812 0 ((Int32.ofNat ([] : List Int32).length) + (1 : Int32))) [(.int (60 : Int32)), (.int (Int32.ofNat ([] : List Int32).length)), (.ref b812)])) rfl rfl (hb hby at_163)
    have f966 := (f959.wr W965)
    have Z967 := Nat.le_trans Z960 (Keep.of_wr W965).1
    have K968 := K961.wr W965 (Or.inr sz814)
    have N969 := Fr.snoc X965 N962 g813
    have f970 : Txt Z h965 b812 k812 (24 : Int32) (([] : List Int32) ++ [(60 : Int32)]) := G965
    refine OFin.of (fun t ht => aW X958 hx rfl (hb hby at_154) rfl rfl (iW X958 hx rfl (hb hby at_156) rfl (iI X958 hx rfl (hb hby at_158) rfl (l' := (la61 p0 p1 p2 p3 p4 p5 b812 0 ((Int32.ofNat ([] : List Int32).length) + (1 : Int32)))) rfl (bP X958 hx rfl (hb hby at_161) (st965 t ht))))) ?_
    rw [own_pos ([] : List Int32) (60 : Int32)]
    refine OFin.of (S' := T965.setTop (mkF m 199 (la61 p0 p1 p2 p3 p4 p5 b812 0 (Int32.ofNat (([] : List Int32) ++ [(60 : Int32)]).length)) [])) (fun t ht => iW X965 hx rfl (hb hby at_164) rfl (iC X965 hx rfl (hb hby at_166) (cY X965 hx rfl 167 183 rfl (hb hby at_167) rfl (feq (by decide : ¬ ((0 : Int32) = (1 : Int32)))).2 (by decide) (iW X965 hx rfl (hb hby at_183) rfl (iC X965 hx rfl (hb hby at_185) (cY X965 hx rfl 186 199 rfl (hb hby at_186) rfl (feq (by decide : ¬ ((0 : Int32) = (2 : Int32)))).2 (by decide) ht)))))) ?_
    exact seg199 Z _ hw hx hby hlk hret hml hown hZ n0  (X965.more (by decide) (by decide)) e965 Z967 N969 f966 f970 g813 sz814 hst (Nat.le_trans (own_la (Nat.le_refl 0 : ([] : List Int32).length ≤ 0)) (by decide)) (Or.inl ⟨rfl, rfl⟩) K968 hC0 (fun _ _ q => ⟨rfl, q⟩)
  · rw [hq964]
    refine OFin.of (S' := T958.setTop (mkF m 154 (la61 p0 p1 p2 p3 p4 p5 b812 1 0) [])) (fun t ht => sW X958 hx rfl (hb hby at_149) rfl (l' := (la65 p0 p1 p2 p3 p4 p5 b812 1)) rfl (iC X958 hx rfl (hb hby at_151) (sW X958 hx rfl (hb hby at_152) rfl (l' := (la61 p0 p1 p2 p3 p4 p5 b812 1 0)) rfl ht))) ?_
    show OFin p e below _ (T958.setTop (mkF m 154 (la61 p0 p1 p2 p3 p4 p5 b812 1 (Int32.ofNat ([] : List Int32).length)) []))
    obtain ⟨T971, h971, X971, e971, W971, G971, st971⟩ := own_stT X958 hx hZ e958 f963 (j := (Int32.ofNat ([] : List Int32).length)) rfl (own_l24 (Nat.le_refl 0 : ([] : List Int32).length ≤ 0) (by decide)) (g := (mkF m 163 (la61 p0 p1 p2 p3 p4 p5 b812 1 ((Int32.ofNat ([] : List Int32).length) + (1 : Int32))) [(.int (60 : Int32)), (.int (Int32.ofNat ([] : List Int32).length)), (.ref b812)])) rfl rfl (hb hby at_163)
    have f972 := (f959.wr W971)
    have Z973 := Nat.le_trans Z960 (Keep.of_wr W971).1
    have K974 := K961.wr W971 (Or.inr sz814)
    have N975 := Fr.snoc X971 N962 g813
    have f976 : Txt Z h971 b812 k812 (24 : Int32) (([] : List Int32) ++ [(60 : Int32)]) := G971
    refine OFin.of (fun t ht => aW X958 hx rfl (hb hby at_154) rfl rfl (iW X958 hx rfl (hb hby at_156) rfl (iI X958 hx rfl (hb hby at_158) rfl (l' := (la61 p0 p1 p2 p3 p4 p5 b812 1 ((Int32.ofNat ([] : List Int32).length) + (1 : Int32)))) rfl (bP X958 hx rfl (hb hby at_161) (st971 t ht))))) ?_
    rw [own_pos ([] : List Int32) (60 : Int32)]
    obtain ⟨T977, h977, X977, e977, W977, G977, st977⟩ := own_stT X971 hx hZ e971 f976 (j := (Int32.ofNat (([] : List Int32) ++ [(60 : Int32)]).length)) rfl (own_l24 (own_la (Nat.le_refl 0 : ([] : List Int32).length ≤ 0)) (by decide)) (g := (mkF m 179 (la61 p0 p1 p2 p3 p4 p5 b812 1 ((Int32.ofNat (([] : List Int32) ++ [(60 : Int32)]).length) + (1 : Int32))) [(.int (47 : Int32)), (.int (Int32.ofNat (([] : List Int32) ++ [(60 : Int32)]).length)), (.ref b812)])) rfl rfl (hb hby at_179)
    have f978 := (f972.wr W977)
    have Z979 := Nat.le_trans Z973 (Keep.of_wr W977).1
    have K980 := K974.wr W977 (Or.inr sz814)
    have N981 := Fr.snoc X977 N975 g813
    have f982 : Txt Z h977 b812 k812 (24 : Int32) ((([] : List Int32) ++ [(60 : Int32)]) ++ [(47 : Int32)]) := G977
    refine OFin.of (fun t ht => iW X971 hx rfl (hb hby at_164) rfl (iC X971 hx rfl (hb hby at_166) (cN X971 hx rfl (hb hby at_167) rfl (teq (by decide : (1 : Int32) = (1 : Int32))).2 (aW X971 hx rfl (hb hby at_170) rfl rfl (iW X971 hx rfl (hb hby at_172) rfl (iI X971 hx rfl (hb hby at_174) rfl (l' := (la61 p0 p1 p2 p3 p4 p5 b812 1 ((Int32.ofNat (([] : List Int32) ++ [(60 : Int32)]).length) + (1 : Int32)))) rfl (bP X971 hx rfl (hb hby at_177) (st977 t ht)))))))) ?_
    rw [own_pos (([] : List Int32) ++ [(60 : Int32)]) (47 : Int32)]
    refine OFin.of (S' := T977.setTop (mkF m 199 (la61 p0 p1 p2 p3 p4 p5 b812 1 (Int32.ofNat ((([] : List Int32) ++ [(60 : Int32)]) ++ [(47 : Int32)]).length)) [])) (fun t ht => gO X977 hx rfl 180 199 rfl (hb hby at_180) (by decide) ht) ?_
    exact seg199 Z _ hw hx hby hlk hret hml hown hZ n0  (X977.more (by decide) (by decide)) e977 Z979 N981 f978 f982 g813 sz814 hst (Nat.le_trans (own_la (own_la (Nat.le_refl 0 : ([] : List Int32).length ≤ 0))) (by decide)) (Or.inr (Or.inl ⟨rfl, rfl⟩)) K980 hC0 (fun _ _ q => ⟨rfl, q⟩)
  · rw [hq964]
    refine OFin.of (S' := T958.setTop (mkF m 154 (la61 p0 p1 p2 p3 p4 p5 b812 2 0) [])) (fun t ht => sW X958 hx rfl (hb hby at_149) rfl (l' := (la65 p0 p1 p2 p3 p4 p5 b812 2)) rfl (iC X958 hx rfl (hb hby at_151) (sW X958 hx rfl (hb hby at_152) rfl (l' := (la61 p0 p1 p2 p3 p4 p5 b812 2 0)) rfl ht))) ?_
    show OFin p e below _ (T958.setTop (mkF m 154 (la61 p0 p1 p2 p3 p4 p5 b812 2 (Int32.ofNat ([] : List Int32).length)) []))
    obtain ⟨T983, h983, X983, e983, W983, G983, st983⟩ := own_stT X958 hx hZ e958 f963 (j := (Int32.ofNat ([] : List Int32).length)) rfl (own_l24 (Nat.le_refl 0 : ([] : List Int32).length ≤ 0) (by decide)) (g := (mkF m 163 (la61 p0 p1 p2 p3 p4 p5 b812 2 ((Int32.ofNat ([] : List Int32).length) + (1 : Int32))) [(.int (60 : Int32)), (.int (Int32.ofNat ([] : List Int32).length)), (.ref b812)])) rfl rfl (hb hby at_163)
    have f984 := (f959.wr W983)
    have Z985 := Nat.le_trans Z960 (Keep.of_wr W983).1
    have K986 := K961.wr W983 (Or.inr sz814)
    have N987 := Fr.snoc X983 N962 g813
    have f988 : Txt Z h983 b812 k812 (24 : Int32) (([] : List Int32) ++ [(60 : Int32)]) := G983
    refine OFin.of (fun t ht => aW X958 hx rfl (hb hby at_154) rfl rfl (iW X958 hx rfl (hb hby at_156) rfl (iI X958 hx rfl (hb hby at_158) rfl (l' := (la61 p0 p1 p2 p3 p4 p5 b812 2 ((Int32.ofNat ([] : List Int32).length) + (1 : Int32)))) rfl (bP X958 hx rfl (hb hby at_161) (st983 t ht))))) ?_
    rw [own_pos ([] : List Int32) (60 : Int32)]
    obtain ⟨T989, h989, X989, e989, W989, G989, st989⟩ := own_stT X983 hx hZ e983 f988 (j := (Int32.ofNat (([] : List Int32) ++ [(60 : Int32)]).length)) rfl (own_l24 (own_la (Nat.le_refl 0 : ([] : List Int32).length ≤ 0)) (by decide)) (g := (mkF m 198 (la61 p0 p1 p2 p3 p4 p5 b812 2 ((Int32.ofNat (([] : List Int32) ++ [(60 : Int32)]).length) + (1 : Int32))) [(.int (63 : Int32)), (.int (Int32.ofNat (([] : List Int32) ++ [(60 : Int32)]).length)), (.ref b812)])) rfl rfl (hb hby at_198)
    have f990 := (f984.wr W989)
    have Z991 := Nat.le_trans Z985 (Keep.of_wr W989).1
    have K992 := K986.wr W989 (Or.inr sz814)
    have N993 := Fr.snoc X989 N987 g813
    have f994 : Txt Z h989 b812 k812 (24 : Int32) ((([] : List Int32) ++ [(60 : Int32)]) ++ [(63 : Int32)]) := G989
    refine OFin.of (fun t ht => iW X983 hx rfl (hb hby at_164) rfl (iC X983 hx rfl (hb hby at_166) (cY X983 hx rfl 167 183 rfl (hb hby at_167) rfl (feq (by decide : ¬ ((2 : Int32) = (1 : Int32)))).2 (by decide) (iW X983 hx rfl (hb hby at_183) rfl (iC X983 hx rfl (hb hby at_185) (cN X983 hx rfl (hb hby at_186) rfl (teq (by decide : (2 : Int32) = (2 : Int32))).2 (aW X983 hx rfl (hb hby at_189) rfl rfl (iW X983 hx rfl (hb hby at_191) rfl (iI X983 hx rfl (hb hby at_193) rfl (l' := (la61 p0 p1 p2 p3 p4 p5 b812 2 ((Int32.ofNat (([] : List Int32) ++ [(60 : Int32)]).length) + (1 : Int32)))) rfl (bP X983 hx rfl (hb hby at_196) (st989 t ht))))))))))) ?_
    rw [own_pos (([] : List Int32) ++ [(60 : Int32)]) (63 : Int32)]
    exact seg199 Z _ hw hx hby hlk hret hml hown hZ n0  (X989.more (by decide) (by decide)) e989 Z991 N993 f990 f994 g813 sz814 hst (Nat.le_trans (own_la (own_la (Nat.le_refl 0 : ([] : List Int32).length ≤ 0))) (by decide)) (Or.inr (Or.inr ⟨rfl, rfl⟩)) K992 hC0 (fun _ _ q => ⟨rfl, q⟩)
theorem comes_1 {Post : Tables → Env → Array Value → State → Outcome → State → Prop} (hpost : ∀ tb e args s v u, (limb_1_1.after args s (.returned v) u = true ∧ limb_1_2.after args s (.returned v) u = true ∧ True) → FramedW s (.returned v) u (Jvm.fieldLocs frame_1_writes args s ++ Jvm.arrayLocs frame_1_arrays args s ++ Jvm.staticLocs frame_1_statics s) 32 2240 → Post tb e args s (.returned v) u) :
    ArmFor flags0 classFile x code maxLocals ret World_1 tables_1 room_1 Calls_1 rest_1 Pre_1 Post := by
  intro l hfl _ _ p e ha hc hk s m args below hf hA hF happ hP
  obtain ⟨hcalls, hrest, hpre⟩ := hP
  obtain ⟨-, -, -, hnamed, -, -, -, hat⟩ := (Spec.applies_iff hf).mp happ
  obtain ⟨hg, hn⟩ := and_e (Cond.before_iff.mp (show (Jvm.Cond.and given_1 narrow_1).before args s = true from hpre))
  obtain ⟨gg0, hg0⟩ := and_e hg
  obtain ⟨gg1, hg1⟩ := and_e hg0
  obtain ⟨gg2, hg2⟩ := and_e hg1
  obtain ⟨gg3, hg3⟩ := and_e hg2
  obtain ⟨gg4, hg4⟩ := and_e hg3
  obtain ⟨gg5, hg5⟩ := and_e hg4
  obtain ⟨w0, w1, w2, w3, w4, w5, rfl⟩ : ∃ w0 w1 w2 w3 w4 w5 : Value, args = #[w0, w1, w2, w3, w4, w5] := by
    have hs : args.size = 6 := by simpa [Cond.value, given_1] using gg0
    obtain ⟨L⟩ := args
    match L, hs with
    | [w0, w1, w2, w3, w4, w5], _ => exact ⟨w0, w1, w2, w3, w4, w5, rfl⟩
  have hw := fun d (hd : d ∈ tables_1) => atoms_spec (ws := Jvm.Cond.code x code maxLocals ret :: tables_1) hat d (List.mem_cons_of_mem _ hd)
  have hfit : Fit s := fun {y c} hc i hi => by
    obtain ⟨ha, rfl⟩ := Array.getElem?_eq_some_iff.mp hc
    have q := List.all_eq_true.mp ((Array.all_eq_true_iff_forall_mem.mp hF) _ (Array.getElem_mem ha)) i (List.mem_range.mpr hi)
    simpa [Array.getElem?_eq_getElem hi] using q
  obtain ⟨i0, ei0⟩ := is_v gg1
  obtain rfl : w0 = (.int i0) := Option.some.inj ei0
  obtain ⟨i1, ei1⟩ := is_v gg2
  obtain rfl : w1 = (.int i1) := Option.some.inj ei1
  obtain ⟨i2, ei2⟩ := is_v gg3
  obtain rfl : w2 = (.int i2) := Option.some.inj ei2
  obtain ⟨i3, ei3⟩ := is_v gg4
  obtain rfl : w3 = (.int i3) := Option.some.inj ei3
  obtain ⟨i4, ei4⟩ := is_v gg5
  obtain rfl : w4 = (.int i4) := Option.some.inj ei4
  obtain ⟨i5, ei5⟩ := is_v hg5
  obtain rfl : w5 = (.int i5) := Option.some.inj ei5
  obtain ⟨hsets, hown0⟩ := atoms_of _ (rest_1_c_eq ▸ (show rest_1_c.before _ s = true from hrest))
  have nz := not_v (Cond.before_iff.mp (hsets _ (List.mem_of_getElem? (i := 2) rfl)))
  obtain ⟨cs, ecs⟩ := is_v (Cond.before_iff.mp (hsets _ (List.mem_of_getElem? (i := 1) rfl)))
  have Scs : Sta s s.heap cB "COMPACT_STRINGS" "Z" (.int cs) := Sta.start ecs (Or.inl (hsets _ (List.mem_of_getElem? (i := 0) rfl)))
  have hcs : ¬ (cs = (0 : Int32)) := gotF (Cond.eq_ints ecs (Term.int_eval (0))) nz
  obtain ⟨fm, efm, hfm⟩ := isR_v (Cond.before_iff.mp (hsets _ (List.mem_of_getElem? (i := 8) rfl)))
  have Sfm : Sta s s.heap cE "SIOOBE_FORMATTER" cF fm := Sta.start efm (Or.inl (hsets _ (List.mem_of_getElem? (i := 7) rfl)))
  obtain ⟨u8, eu8⟩ := exa_v (Cond.before_iff.mp (hsets _ (List.mem_of_getElem? (i := 14) rfl)))
  have EU := Exa.start eu8 (Cond.before_iff.mp (hsets _ (List.mem_of_getElem? (i := 14) rfl)))
  have SU := Sta.start eu8 (Or.inl (hsets _ (List.mem_of_getElem? (i := 10) rfl)))
  obtain ⟨u9, eu9⟩ := exa_v (Cond.before_iff.mp (hsets _ (List.mem_of_getElem? (i := 17) rfl)))
  have e89 : u8 = u9 := own_refEq eu8 eu9 (Cond.before_iff.mp (hsets _ (List.mem_of_getElem? (i := 13) rfl)))
  subst e89
  have SI := Sta.start eu9 (Or.inl (hsets _ (List.mem_of_getElem? (i := 12) rfl)))
  have hC0 : CHv s consts_1 s.vm s.heap := CHv.start (own_EW hw) (fun p hp => hcalls.1 p hp) (hsets _ (List.mem_of_getElem? (i := 2) rfl)) (wt hw 0 rfl) (wt hw 105 rfl)
  obtain ⟨na0, hn0⟩ := and_e hn
  obtain ⟨na1, hn1⟩ := and_e hn0
  obtain ⟨na2, hn2⟩ := and_e hn1
  obtain ⟨na3, hn3⟩ := and_e hn2
  obtain ⟨na4, hn4⟩ := and_e hn3
  obtain ⟨x_START, ev_START⟩ := exa_v na0
  have E_START := Exa.start ev_START na0
  have S_START := Sta.start ev_START (Or.inr ⟨(wt hw 51 rfl), (wt hw 52 rfl)⟩)
  obtain ⟨x_END, ev_END⟩ := exa_v na1
  have E_END := Exa.start ev_END na1
  have S_END := Sta.start ev_END (Or.inr ⟨(wt hw 51 rfl), (wt hw 100 rfl)⟩)
  obtain ⟨x_INSTRUCTION, ev_INSTRUCTION⟩ := exa_v na4
  have E_INSTRUCTION := Exa.start ev_INSTRUCTION na4
  have S_INSTRUCTION := Sta.start ev_INSTRUCTION (Or.inr ⟨(wt hw 51 rfl), (wt hw 102 rfl)⟩)
  have O_END := own_fldEq ev_END na2
  have O_START := own_fldEq ev_START na3
  have O_INSTRUCTION := own_fldEq ev_INSTRUCTION hn4
  have hne1 : x_END ≠ x_START := Fld.ne O_END O_START (by decide)
  have hne2 : x_INSTRUCTION ≠ x_START := Fld.ne O_INSTRUCTION O_START (by decide)
  obtain ⟨n, o, h1, h2, h3, _, L, rfl, ⟨rfl, N⟩, hq⟩ := rm0 l s _ hw tables_1 i0 i1 i2 i3 i4 i5 x_START x_END x_INSTRUCTION cs fm u8 s.heap s.heap.size (Nat.le_refl _) ⟨S_START, S_END, S_INSTRUCTION, Scs, Sfm, SI, SU, EU⟩ ⟨hcs, hfm, hne1, hne2⟩ p e ha hc hk s m _ below hf ((Spec.applies_iff_loose hf).mp happ).1 ⟨rfl, State.Warmed39.refl s, rfl, hC0⟩ trivial
  refine ⟨n, _, h1, h2, h3, hpost _ _ _ _ _ _ ⟨Cond.after_iff.mpr rfl, Cond.after_iff.mpr (eq_i res_at (Term.int_eval (1)) rfl), trivial⟩ ⟨hq.1, hq.2.1, hq.2.2.1, (hq.2.2.2.sift fun y hy => Or.inr (N y hy)).mono (by decide) (by decide)⟩⟩
theorem main_1_1 : Claimed_1_1 := comes_1 fun _ _ _ _ _ _ h hF => ⟨h.1, hF⟩
theorem main_1_2 : Claimed_1_2 := comes_1 fun _ _ _ _ _ _ h hF => ⟨h.2.1, hF⟩
end Jvm.Pilot.@@N@@
