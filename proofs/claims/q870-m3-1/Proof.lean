import JvmDerived
import JvmDerived.Pilot.@@N@@Statement
import JvmDerived.Pilot.@@N@@Code
set_option linter.unusedVariables false
set_option linter.unusedSimpArgs false
open Int32 renaming ofNat → oN
open Nat renaming le_trans → nT, le_of_eq → nE
open List renaming mem_of_getElem? → mG
namespace Jvm.RoadKit
open Sem ClassFile Op Lib Jvm.Stand Jvm.Free Jvm.LawKit
section OwnNew
variable {p : Program} {l : Launch} {e : Env} {R : Room} {s : State} {m : MethodId} {args : Array Value} {below : List Frame} {meth : Method} {c : Code} {T : State} {locs : List Loc} {cells slots : Nat}
theorem retI (X : Stand p l e R s m args below meth c T locs cells slots) (hx : p.tables.exec = Jvm.exec) {pc : Nat} {Ls : Array Slot} {z : Int32} {rest : List Value} (hret : meth.sig.returnType = some .int) (hd : decode c.code pc = .ok (.ireturn, 1)) {fs : List Frame}
    (hl : ∀ (f : JFrame) (acts : List Action), f.method = m → f.locked = none → f.entered = [] → (doReturn e (T.setTop f) acts (some (.int z))).1 = T.setFrames fs) : Steps p.tables e below (T.setTop (mkF m pc Ls (.int z :: rest))) (T.setFrames fs) := by
  have hm' : T.vm.method? m = some meth := X.method'
  have hn : narrow .int (.int z) = .int z := rfl
  show Steps p.tables e below (T.setTop { method := m, pc := pc, locals := Ls, stack := _ :: rest, locked := none }) _
  jvm_step X.here [X.here.top, hx, hd, hm', hret, hn]
  first | (intro acts; rw [hl _ acts rfl rfl rfl]) | rw [hl _ _ rfl rfl rfl]
  exact Steps.refl _
def OFin (p : Program) (e : Env) (below : List Frame) (K : Outcome → State → Prop) (S : State) : Prop := ∃ s₂ o, Steps p.tables e below S s₂ ∧ s₂.status = .running ∧ Ended s₂ below o ∧ K o s₂
theorem OFin.of {K : Outcome → State → Prop} {S S' : State} (h : ∀ t, Steps p.tables e below S' t → Steps p.tables e below S t) (k : OFin p e below K S') : OFin p e below K S := by
  obtain ⟨t, o, a, b⟩ := k; exact ⟨t, o, h t a, b⟩
theorem OFin.to {K : Outcome → State → Prop} {S S' : State} (h : Steps p.tables e below S S') (k : OFin p e below K S') : OFin p e below K S := by
  obtain ⟨t, o, a, b⟩ := k; exact ⟨t, o, h.trans a, b⟩
abbrev KPost (s : State) (Q : Option Value → Heap → List Loc → Prop) (C D : Nat) : Outcome → State → Prop := fun o U' => ∃ v L, o = .returned v ∧ Q v U'.heap L ∧ FrameEnd s o U' L C D
theorem OFin.retI (X : Stand p l e R s m args below meth c T locs cells slots) (hx : p.tables.exec = Jvm.exec) (hlk : meth.locks = false) {pc : Nat} {Ls : Array Slot} {z : Int32} {rest : List Value} {Q : Option Value → Heap → List Loc → Prop} {C D : Nat} (hret : meth.sig.returnType = some .int) (hd : decode c.code pc = .ok (.ireturn, 1)) (hC : cells ≤ C) (hD : slots ≤ D) (hQ : Q (some (.int z)) T.heap locs) :
    OFin p e below (KPost s Q C D) (T.setTop (mkF m pc Ls (.int z :: rest))) := by
  obtain ⟨fs, hr, hrun, hended, hW, hsame⟩ := X.leave (v := some (.int z)) (fun h => by rw [hret] at h; cases h) hlk
  exact ⟨_, _, Jvm.RoadKit.retI X hx hret hd hr, hrun, hended, _, _, rfl, hQ, ⟨_, rfl⟩, hW, hsame.mono hC hD⟩
theorem OFin.retB (X : Stand p l e R s m args below meth c T locs cells slots) (hx : p.tables.exec = Jvm.exec) (hlk : meth.locks = false) {pc : Nat} {Ls : Array Slot} {z : Int32} {rest : List Value} {Q : Option Value → Heap → List Loc → Prop} {C D : Nat} {t : FieldType} (ht : t = .boolean ∨ t = .byte ∨ t = .char ∨ t = .short) (hret : meth.sig.returnType = some t) (hd : decode c.code pc = .ok (.ireturn, 1)) (hC : cells ≤ C) (hD : slots ≤ D) (hQ : Q (some (.int (nar t z))) T.heap locs) :
    OFin p e below (KPost s Q C D) (T.setTop (mkF m pc Ls (.int z :: rest))) := by
  obtain ⟨fs, hr, hrun, hended, hW, hsame⟩ := X.leave (v := some (.int (nar t z))) (fun h => by rw [hret] at h; cases h) hlk
  exact ⟨_, _, retN X hx hret ht hd hr, hrun, hended, _, _, rfl, hQ, ⟨_, rfl⟩, hW, hsame.mono hC hD⟩
theorem OFin.retA (X : Stand p l e R s m args below meth c T locs cells slots) (hx : p.tables.exec = Jvm.exec) (hlk : meth.locks = false) {pc : Nat} {Ls : Array Slot} {z : Value} {Q : Option Value → Heap → List Loc → Prop} {C D : Nat} {t : FieldType} (ht : t.isReference = true) (hz : z.isRef = true) (hret : meth.sig.returnType = some t) (hd : decode c.code pc = .ok (.areturn, 1)) (hC : cells ≤ C) (hD : slots ≤ D) (hQ : Q (some z) T.heap locs) :
    OFin p e below (KPost s Q C D) (T.setTop (mkF m pc Ls [z])) := by
  obtain ⟨fs, hr, hrun, hended, hW, hsame⟩ := X.leave (v := some z) (fun h => by rw [hret] at h; cases h) hlk
  exact ⟨_, _, X.areturnOut hx hz hret ht hd hr, hrun, hended, _, _, rfl, hQ, ⟨_, rfl⟩, hW, hsame.mono hC hD⟩
theorem OFin.retV (X : Stand p l e R s m args below meth c T locs cells slots) (hx : p.tables.exec = Jvm.exec) (hlk : meth.locks = false) {pc : Nat} {Ls : Array Slot} {Q : Option Value → Heap → List Loc → Prop} {C D : Nat} (hret : meth.sig.returnType = none) (hd : decode c.code pc = .ok (.return_, 1)) (hC : cells ≤ C) (hD : slots ≤ D) (hQ : Q none T.heap locs) :
    OFin p e below (KPost s Q C D) (T.setTop (mkF m pc Ls [])) := by
  obtain ⟨fs, hr, hrun, hended, hW, hsame⟩ := X.leave (v := none) (fun _ => rfl) hlk
  exact ⟨_, _, X.returnOut hx hret hd hr, hrun, hended, _, _, rfl, hQ, ⟨_, rfl⟩, hW, hsame.mono hC hD⟩
abbrev KPostW (s : State) (Q : Option Value → Heap → List Loc → Prop) (C D : Nat) : Outcome → State → Prop := fun o U' => ∃ v L, o = .returned v ∧ Q v U'.heap L ∧ ReturnedEndW s o U' L C D
theorem OFin.retBW {vm₁ : Vm} {k : Nat} (X : Stand p l e R (s.setVm vm₁) m args below meth c T locs cells slots) (hS : s.Since vm₁ k) (hk : k ≤ T.heap.size) (hx : p.tables.exec = Jvm.exec) (hlk : meth.locks = false) {pc : Nat} {Ls : Array Slot} {z : Int32} {rest : List Value} {Q : Option Value → Heap → List Loc → Prop} {C D : Nat} {t : FieldType} (ht : t = .boolean ∨ t = .byte ∨ t = .char ∨ t = .short) (hret : meth.sig.returnType = some t) (hd : decode c.code pc = .ok (.ireturn, 1)) (hC : cells ≤ C) (hD : slots ≤ D) (hQ : Q (some (.int (nar t z))) T.heap locs) :
    OFin p e below (KPostW s Q C D) (T.setTop (mkF m pc Ls (.int z :: rest))) := by
  obtain ⟨fs, hr, hrun, hended, h1, h2, h3, h4⟩ := X.leaveW hS hk (v := some (.int (nar t z))) (fun h => by rw [hret] at h; cases h) hlk
  exact ⟨_, _, retN X hx hret ht hd hr, hrun, hended, _, _, rfl, hQ, ⟨_, rfl⟩, h2, h3, h4.mono hC hD⟩
theorem own_alen {Z : State} {h : Heap} {a : Addr} {cl : Cell} {ty : FieldType} {z : Int32} {g : JFrame} {rest : List Value} {target : State} (X : Stand p l e R s m args below meth c T locs cells slots) (hx : p.tables.exec = Jvm.exec) (hZ : Z.Warmed39 s.vm) (eT : T.heap = h) (A : Arr Z h a cl ty) (S : cl.slots.size = z.toNatClampNeg) (q : ¬ z < 0) (hg : g.method = m) (hs : g.stack = .ref a :: rest) (hd : decode c.code g.pc = .ok (.arraylength, 1))
    (hr : Steps p.tables e below (T.setTop { g with pc := g.pc + 1, stack := .int z :: rest }) target) : Steps p.tables e below (T.setTop g) target := by
  refine X.arraylength hx (by rw [eT]; exact A.1) (State.isArrayOf_alike hZ.alike A.2.1) hg hs hd _ ?_
  rw [len_of S q]; exact hr
def OwnNoSta (h : Heap) (ws : List Addr) : Prop := ∀ x ∈ ws, ∀ cell : Cell, h[x]? = some cell → cell.vm.isStatics = false
theorem own_sn0 {h : Heap} : OwnNoSta h [] := fun _ q => nomatch q
theorem own_snS {Z : State} {h : Heap} {a : Addr} {C : String} {ws : List Addr} (E : Exa Z h a C) (r : OwnNoSta h ws) : OwnNoSta h (a :: ws) := fun x q cell hc => by
  rcases List.mem_cons.mp q with rfl | q
  · obtain ⟨c', _, h1, -, -, h4, -⟩ := E; cases h1.symm.trans hc; exact h4
  · exact r x q cell hc
theorem own_snV {Z : State} {h : Heap} {a : Addr} {k : ClassId} {ty : FieldType} {z : Int32} {vs : List Value} {dv : Value} {ws : List Addr} (F : Arv Z h a k ty z vs dv) (r : OwnNoSta h ws) : OwnNoSta h (a :: ws) := fun x q cell hc => by
  rcases List.mem_cons.mp q with rfl | q
  · obtain ⟨c', A, -⟩ := F; cases A.1.symm.trans hc; exact A.plain
  · exact r x q cell hc
theorem own_staKeep {Z : State} {h h' : Heap} {C n d : String} {v : Value} {ws : List Addr} (F : Sta Z h C n d v) (K : Keep h h' ws) (q : OwnNoSta h ws) : Sta Z h' C n d v := by
  obtain ⟨cf, i, k, f, st, cell, h1, h2, h3, h4, h5, h6, h7⟩ := F
  refine ⟨cf, i, k, f, st, cell, h1, h2, h3, h4, K.2.1 st cell h5 (fun z => ?_), h6, h7⟩
  have := q st z cell h5
  rw [this] at h6; cases h6
def OwnMet (E : Int32) (h0 : Heap) (n0 : Nat) (v : Option Value) (h : Heap) (L : List Loc) : Prop := v = some (.int E) ∧ Fr n0 L ∧ h = h0
end OwnNew
end Jvm.RoadKit
namespace Jvm.Pilot.@@N@@
open Jvm Jvm.ClassFile Sem Op Lib Jvm.Free Jvm.Stand Jvm.LawKit Jvm.RoadKit Bundle Jvm.Pilot.@@N@@.Jvm.D
abbrev cA : String := "com/example/holdfast/holdfast/xml/Markup"
abbrev cB : String := "java/lang/String"
abbrev cC : String := "com/example/holdfast/holdfast/xml/MarkupNextTagPinLaw"
abbrev cD : String := "java/lang/StringUTF16"
abbrev cE : String := "Ljava/util/function/BiFunction;"
abbrev cF : String := "Lcom/example/holdfast/holdfast/xml/Markup$Kind;"
abbrev cG : String := "jdk/internal/util/Preconditions"
abbrev cH : String := "com/example/holdfast/holdfast/xml/Markup$Kind"
abbrev cI : String := "java/util/Arrays"
abbrev cJ : String := "java/lang/StringLatin1"
abbrev mn0 : MethodName := (⟨cA, "endsName", "(B)Z"⟩ : MethodName)
abbrev mn1 : MethodName := (⟨cA, "indexOf", "(BI)I"⟩ : MethodName)
abbrev mn2 : MethodName := (⟨cA, "readName", "(I)I"⟩ : MethodName)
abbrev mn3 : MethodName := (⟨cA, "byteAfter", "(I)B"⟩ : MethodName)
abbrev mn4 : MethodName := (⟨cA, "tagEnd", "()I"⟩ : MethodName)
abbrev mn5 : MethodName := (⟨cA, "tagStart", "()I"⟩ : MethodName)
abbrev mn6 : MethodName := (⟨cA, "<init>", "([BII)V"⟩ : MethodName)
abbrev mn7 : MethodName := (⟨cG, "checkIndex", "(IILjava/util/function/BiFunction;)I"⟩ : MethodName)
abbrev mn8 : MethodName := (⟨cB, "checkIndex", "(II)V"⟩ : MethodName)
abbrev mn9 : MethodName := (⟨cB, "coder", "()B"⟩ : MethodName)
abbrev mn10 : MethodName := (⟨cB, "isLatin1", "()Z"⟩ : MethodName)
abbrev mn11 : MethodName := (⟨cB, "length", "()I"⟩ : MethodName)
abbrev mn12 : MethodName := (⟨cJ, "charAt", "([BI)C"⟩ : MethodName)
abbrev mn13 : MethodName := (⟨cB, "charAt", "(I)C"⟩ : MethodName)
abbrev mn14 : MethodName := (⟨cA, "startsWith", "(ILjava/lang/String;)Z"⟩ : MethodName)
abbrev mn15 : MethodName := (⟨cA, "past", "(ILjava/lang/String;)I"⟩ : MethodName)
abbrev mn16 : MethodName := (⟨cA, "pastDeclaration", "(I)I"⟩ : MethodName)
abbrev mn17 : MethodName := (⟨cA, "pastMarkup", "(I)I"⟩ : MethodName)
abbrev mn18 : MethodName := (⟨cA, "nextTag", "()Z"⟩ : MethodName)
abbrev mn19 : MethodName := (⟨cC, "filler", "(I)B"⟩ : MethodName)
abbrev mn20 : MethodName := (⟨cC, "nameByte", "(I)B"⟩ : MethodName)
abbrev mn21 : MethodName := (⟨cC, "nameChar", "(I)C"⟩ : MethodName)
abbrev mn22 : MethodName := (⟨cC, "termByte", "(I)B"⟩ : MethodName)
abbrev mn23 : MethodName := (⟨cA, "kind", "()Lcom/example/holdfast/holdfast/xml/Markup$Kind;"⟩ : MethodName)
abbrev mn24 : MethodName := (⟨cC, "put", "([BILjava/lang/String;I)V"⟩ : MethodName)
abbrev mn25 : MethodName := (⟨cC, "putAll", "([BILjava/lang/String;)I"⟩ : MethodName)
abbrev mn26 : MethodName := (⟨cC, "prefix", "(I)Ljava/lang/String;"⟩ : MethodName)
abbrev mn27 : MethodName := (⟨cC, "unfinished", "(I)Ljava/lang/String;"⟩ : MethodName)
abbrev mn28 : MethodName := (⟨"java/lang/StringCoding", "countPositives", "([BII)I"⟩ : MethodName)
abbrev mn29 : MethodName := (⟨cD, "putChar", "([BII)V"⟩ : MethodName)
abbrev mn30 : MethodName := (⟨"java/lang/Math", "min", "(II)I"⟩ : MethodName)
abbrev mn31 : MethodName := (⟨cI, "checkLength", "(II)V"⟩ : MethodName)
abbrev mn32 : MethodName := (⟨"java/util/Objects", "requireNonNull", "(Ljava/lang/Object;)Ljava/lang/Object;"⟩ : MethodName)
abbrev mn33 : MethodName := (⟨cI, "copyOfRangeByte", "([BII)[B"⟩ : MethodName)
abbrev mn34 : MethodName := (⟨cI, "copyOfRange", "([BII)[B"⟩ : MethodName)
abbrev mn35 : MethodName := (⟨cD, "newBytesLength", "(I)I"⟩ : MethodName)
abbrev mn36 : MethodName := (⟨cD, "newBytesFor", "(I)[B"⟩ : MethodName)
abbrev mn37 : MethodName := (⟨cD, "length", "([B)I"⟩ : MethodName)
abbrev mn38 : MethodName := (⟨cG, "checkFromIndexSize", "(IIILjava/util/function/BiFunction;)I"⟩ : MethodName)
abbrev mn39 : MethodName := (⟨cB, "checkBoundsOffCount", "(III)I"⟩ : MethodName)
abbrev mn40 : MethodName := (⟨cD, "checkBoundsOffCount", "(II[B)V"⟩ : MethodName)
abbrev mn41 : MethodName := (⟨cD, "inflate", "([BI[BII)V"⟩ : MethodName)
abbrev mn42 : MethodName := (⟨cJ, "inflate", "([BI[BII)V"⟩ : MethodName)
abbrev mn43 : MethodName := (⟨cB, "decodeUTF8_UTF16", "([BII[BIZ)I"⟩ : MethodName)
abbrev mn44 : MethodName := (⟨cB, "<init>", "(Ljava/nio/charset/Charset;[BII)V"⟩ : MethodName)
abbrev mn45 : MethodName := (⟨cB, "<init>", "([BIILjava/nio/charset/Charset;)V"⟩ : MethodName)
abbrev mn46 : MethodName := (⟨cA, "name", "()Ljava/lang/String;"⟩ : MethodName)
abbrev mn47 : MethodName := (⟨cD, "checkIndex", "(I[B)V"⟩ : MethodName)
abbrev mn48 : MethodName := (⟨cD, "getChar", "([BI)C"⟩ : MethodName)
abbrev mn49 : MethodName := (⟨cD, "charAt", "([BI)C"⟩ : MethodName)
abbrev mn50 : MethodName := (⟨cC, "charIs", "(Ljava/lang/String;IC)Z"⟩ : MethodName)
end Jvm.Pilot.@@N@@
namespace Jvm.Pilot.@@N@@
open Jvm Jvm.ClassFile Sem Op Lib Jvm.Free Jvm.Stand Jvm.Pilot.@@N@@.Jvm.D
/-! MADE BY PROGRAM (witnessworld.py) out of the Statement's table words and the real class files: 30 classes; the members and pool entries that the words name. The judged class is class 1, her method 1. -/
set_option maxRecDepth 65536
set_option maxHeartbeats 40000000
namespace start1
open Jvm.ClassFile
set_option maxRecDepth 65536
abbrev mt (n d : String) (ps : List FieldType) (r : Option FieldType) (f : Nat) (c : Option Code) : Method := { name := n, desc := d, sig := { parameters := ps, returnType := r }, accessFlags := f, code := c }
def u (s : String) : CpInfo := .utf8 (stringToUtf16 s)
/-- a pool by its gaps: so many unusable entries, then the entry; so many at the end -/
def gap : Nat → List CpInfo → List CpInfo
  | 0, r => r
  | n + 1, r => .unusable :: gap n r
def poolList (es : List (Nat × CpInfo)) (last : Nat) : List CpInfo := es.foldr (fun e r => gap e.1 (e.2 :: r)) (gap last [])
def pool (es : List (Nat × CpInfo)) (last : Nat) : Array CpInfo := ⟨poolList es last⟩
def fileOf (pool : Array CpInfo) (this : Nat) (attrs : Array Attribute := #[]) (ms : Array MethodInfo := #[]) (fl : Nat := 33) (sup : Nat := 0) (ifs : Array Nat := #[]) (fds : Array FieldInfo := #[]) : ClassFile where
  minorVersion := 0
  majorVersion := 65
  constantPool := pool
  accessFlags := fl
  thisClass := this
  superClass := sup
  interfaces := ifs
  fields := fds
  methods := ms
  attributes := attrs
def plain (name : String) (sup : Option ClassId) : Class where
  name := name
  kind := .ordinary
  loader := none
  accessFlags := 33
  super := sup
  interfaces := #[]
  cf := none
  fields := #[]
  methods := #[]
  instanceTypes := #[]
  staticTypes := #[]
  resolved := #[]
  callSites := []
  init := .initialized
  statics := none
  mirror := none

def pool0 : Array CpInfo := pool [(5, u "<init>"), (0, u "()V"), (1, .class_ 10), (1, u "java/lang/Object")] 113

def k0c0 : Code := { maxStack := 0, maxLocals := 1, code := object_method_1_code, exceptionTable := #[], attributes := #[] }
def k0m0 : Method := mt "<init>" "()V" [] (none) 1 (some k0c0)
/-- java/lang/Object -/
def k0 : Class := { plain "java/lang/Object" none with
  accessFlags := 33
  interfaces := #[]
  cf := some (fileOf pool0 8 #[] #[⟨1, 5, 6, #[]⟩] 33 0 #[] #[])
  fields := #[]
  methods := #[k0m0]
  instanceTypes := #[]
  staticTypes := #[]
  resolved := Array.replicate 124 none
  statics := none }

def pool1 : Array CpInfo := pool [(2, .class_ 4), (1, u "java/lang/Object"), (0, u "<init>"), (0, u "()V"), (0, .methodref 8 9), (0, .class_ 10), (0, .nameAndType 11 12), (0, u "com/example/holdfast/holdfast/xml/MarkupNextTagPinLaw"), (0, u "filler"), (0, u "(I)B"), (0, .methodref 8 14), (0, .nameAndType 15 16), (0, u "prefix"), (0, u "(I)Ljava/lang/String;"), (0, .methodref 8 18), (0, .nameAndType 19 20), (0, u "putAll"), (0, u "([BILjava/lang/String;)I"), (0, .methodref 8 22), (0, .nameAndType 23 16), (0, u "unfinished"), (0, .methodref 8 25), (0, .nameAndType 26 12), (0, u "nameByte"), (0, .methodref 8 28), (0, .nameAndType 29 12), (0, u "termByte"), (0, .class_ 31), (0, u "com/example/holdfast/holdfast/xml/Markup"), (0, .methodref 30 33), (0, .nameAndType 5 34), (0, u "([BII)V"), (0, .methodref 30 36), (0, .nameAndType 37 38), (0, u "nextTag"), (0, u "()Z"), (0, .methodref 30 40), (0, .nameAndType 41 42), (0, u "kind"), (0, u "()Lcom/example/holdfast/holdfast/xml/Markup$Kind;"), (0, .methodref 30 44), (0, .nameAndType 45 46), (0, u "tagStart"), (0, u "()I"), (0, .methodref 30 48), (0, .nameAndType 49 46), (0, u "tagEnd"), (0, .methodref 30 51), (0, .nameAndType 52 53), (0, u "name"), (0, u "()Ljava/lang/String;"), (0, .fieldref 55 56), (0, .class_ 57), (0, .nameAndType 58 59), (0, u "com/example/holdfast/holdfast/xml/Markup$Kind"), (0, u "START"), (0, u "Lcom/example/holdfast/holdfast/xml/Markup$Kind;"), (0, .fieldref 55 61), (0, .nameAndType 62 59), (0, u "END"), (0, .fieldref 55 64), (0, .nameAndType 65 59), (0, u "INSTRUCTION"), (0, .methodref 8 67), (0, .nameAndType 68 69), (0, u "nameChar"), (0, u "(I)C"), (0, .methodref 71 72), (0, .class_ 73), (0, .nameAndType 74 46), (0, u "java/lang/String"), (0, u "length"), (0, .methodref 8 76), (0, .nameAndType 77 78), (0, u "charIs"), (0, u "(Ljava/lang/String;IC)Z"), (0, .methodref 71 80), (0, .nameAndType 81 69), (0, u "charAt"), (0, .integer 65533), (0, .string 84), (0, u "<!--><-->"), (0, .string 86), (0, u "<![CDATA[><]]>"), (0, .string 88), (0, u "<!a'><'>"), (0, .string 90), (0, u "<!a\"><\">"), (0, .string 92), (0, u "<![><]>"), (0, .string 94), (0, u "<![<!--]><-->]>"), (0, .string 96), (0, u "<![<?]><?>]>"), (0, .string 98), (0, u "<!a][><]>"), (0, .string 100), (0, u "<![']><']>"), (0, .string 102), (0, u "<![CDAT><]>"), (0, .string 104), (0, u ""), (0, .string 106), (0, u "<!--<a>"), (0, .string 108), (0, u "<![CDATA[<a>"), (0, .string 110), (0, u "<!a'<a>"), (0, .string 112), (0, u "<![<a>"), (0, .methodref 8 114), (0, .nameAndType 115 116), (0, u "put"), (0, u "([BILjava/lang/String;I)V"), (2, u "law"), (0, u "(IIII)Z")] 7

def k1m0 : Method := mt "<init>" "()V" [] (none) 2 (none)
def k1c1 : Code := { maxStack := 5, maxLocals := 39, code := code, exceptionTable := #[], attributes := #[] }
def k1m1 : Method := mt "law" "(IIII)Z" [.int, .int, .int, .int] (some .boolean) 9 (some k1c1)
def k1c2 : Code := { maxStack := 2, maxLocals := 3, code := method_3_code, exceptionTable := #[], attributes := #[] }
def k1m2 : Method := mt "charIs" "(Ljava/lang/String;IC)Z" [(.object "java/lang/String"), .int, .char] (some .boolean) 10 (some k1c2)
def k1c3 : Code := { maxStack := 2, maxLocals := 2, code := method_4_code, exceptionTable := #[], attributes := #[] }
def k1m3 : Method := mt "filler" "(I)B" [.int] (some .byte) 10 (some k1c3)
def k1c4 : Code := { maxStack := 2, maxLocals := 2, code := method_5_code, exceptionTable := #[], attributes := #[] }
def k1m4 : Method := mt "nameByte" "(I)B" [.int] (some .byte) 10 (some k1c4)
def k1c5 : Code := { maxStack := 2, maxLocals := 2, code := method_6_code, exceptionTable := #[], attributes := #[] }
def k1m5 : Method := mt "nameChar" "(I)C" [.int] (some .char) 10 (some k1c5)
def k1c6 : Code := { maxStack := 2, maxLocals := 1, code := method_7_code, exceptionTable := #[], attributes := #[] }
def k1m6 : Method := mt "termByte" "(I)B" [.int] (some .byte) 10 (some k1c6)
def k1c7 : Code := { maxStack := 2, maxLocals := 1, code := method_8_code, exceptionTable := #[], attributes := #[] }
def k1m7 : Method := mt "prefix" "(I)Ljava/lang/String;" [.int] (some (.object "java/lang/String")) 10 (some k1c7)
def k1c8 : Code := { maxStack := 2, maxLocals := 1, code := method_9_code, exceptionTable := #[], attributes := #[] }
def k1m8 : Method := mt "unfinished" "(I)Ljava/lang/String;" [.int] (some (.object "java/lang/String")) 10 (some k1c8)
def k1c9 : Code := { maxStack := 4, maxLocals := 3, code := method_10_code, exceptionTable := #[], attributes := #[] }
def k1m9 : Method := mt "putAll" "([BILjava/lang/String;)I" [(.array .byte), .int, (.object "java/lang/String")] (some .int) 10 (some k1c9)
def k1c10 : Code := { maxStack := 4, maxLocals := 4, code := method_11_code, exceptionTable := #[], attributes := #[] }
def k1m10 : Method := mt "put" "([BILjava/lang/String;I)V" [(.array .byte), .int, (.object "java/lang/String"), .int] (none) 10 (some k1c10)
/-- com/example/holdfast/holdfast/xml/MarkupNextTagPinLaw -/
def k1 : Class := { plain "com/example/holdfast/holdfast/xml/MarkupNextTagPinLaw" (some 0) with
  accessFlags := 49
  interfaces := #[]
  cf := some (fileOf pool1 8 #[] #[⟨2, 5, 6, #[]⟩, ⟨9, 119, 120, #[]⟩, ⟨10, 77, 78, #[]⟩, ⟨10, 11, 12, #[]⟩, ⟨10, 26, 12, #[]⟩, ⟨10, 68, 69, #[]⟩, ⟨10, 29, 12, #[]⟩, ⟨10, 15, 16, #[]⟩, ⟨10, 23, 16, #[]⟩, ⟨10, 19, 20, #[]⟩, ⟨10, 115, 116, #[]⟩] 49 2 #[] #[])
  fields := #[]
  methods := #[k1m0, k1m1, k1m2, k1m3, k1m4, k1m5, k1m6, k1m7, k1m8, k1m9, k1m10]
  instanceTypes := #[]
  staticTypes := #[]
  resolved := Array.replicate 128 none
  statics := none }

def pool2 : Array CpInfo := pool [(1, .class_ 2), (0, u "java/io/Serializable"), (0, .class_ 4), (0, u "java/lang/Object")] 2

/-- java/io/Serializable -/
def k2 : Class := { plain "java/io/Serializable" (some 0) with
  accessFlags := 1537
  interfaces := #[]
  cf := some (fileOf pool2 1 #[] #[] 1537 3 #[] #[])
  fields := #[]
  methods := #[]
  instanceTypes := #[]
  staticTypes := #[]
  resolved := Array.replicate 7 none
  statics := none }

def pool3 : Array CpInfo := pool [(1, .class_ 2), (0, u "java/lang/Comparable"), (0, .class_ 4), (0, u "java/lang/Object")] 7

/-- java/lang/Comparable -/
def k3 : Class := { plain "java/lang/Comparable" (some 0) with
  accessFlags := 1537
  interfaces := #[]
  cf := some (fileOf pool3 1 #[] #[] 1537 3 #[] #[])
  fields := #[]
  methods := #[]
  instanceTypes := #[]
  staticTypes := #[]
  resolved := Array.replicate 12 none
  statics := none }

def pool4 : Array CpInfo := pool [(2, .class_ 4), (1, u "java/lang/CharSequence"), (42, .class_ 48), (0, u "java/lang/CharSequence$1CodePointIterator"), (10, .class_ 60), (0, u "java/lang/CharSequence$1CharIterator"), (5, .class_ 67), (0, u "java/lang/Object")] 63

/-- java/lang/CharSequence -/
def k4 : Class := { plain "java/lang/CharSequence" (some 0) with
  accessFlags := 1537
  interfaces := #[]
  cf := some (fileOf pool4 2 #[.nestMembers #[47, 59]] #[] 1537 66 #[] #[])
  fields := #[]
  methods := #[]
  instanceTypes := #[]
  staticTypes := #[]
  resolved := Array.replicate 131 none
  statics := none }

def pool5 : Array CpInfo := pool [(1, .class_ 2), (0, u "java/lang/constant/Constable"), (0, .class_ 4), (0, u "java/lang/Object")] 6

/-- java/lang/constant/Constable -/
def k5 : Class := { plain "java/lang/constant/Constable" (some 0) with
  accessFlags := 1537
  interfaces := #[]
  cf := some (fileOf pool5 1 #[] #[] 1537 3 #[] #[])
  fields := #[]
  methods := #[]
  instanceTypes := #[]
  staticTypes := #[]
  resolved := Array.replicate 11 none
  statics := none }

def pool6 : Array CpInfo := pool [(1, .class_ 2), (0, u "java/lang/constant/ConstantDesc"), (0, .class_ 4), (0, u "java/lang/Object")] 32

/-- java/lang/constant/ConstantDesc -/
def k6 : Class := { plain "java/lang/constant/ConstantDesc" (some 0) with
  accessFlags := 1537
  interfaces := #[]
  cf := some (fileOf pool6 1 #[] #[] 1537 3 #[] #[])
  fields := #[]
  methods := #[]
  instanceTypes := #[]
  staticTypes := #[]
  resolved := Array.replicate 37 none
  statics := none }

def pool7 : Array CpInfo := pool [(1, .methodref 2 3), (0, .class_ 4), (0, .nameAndType 5 6), (0, u "java/lang/Object"), (0, u "<init>"), (0, u "()V"), (0, .string 8), (0, u ""), (0, .fieldref 10 11), (0, .class_ 12), (0, .nameAndType 13 14), (0, u "java/lang/String"), (0, u "value"), (0, u "[B"), (0, .fieldref 10 16), (0, .nameAndType 17 18), (0, u "coder"), (0, u "B"), (2, u "hash"), (0, u "I"), (2, u "hashIsZero"), (0, u "Z"), (7, .methodref 10 35), (0, .nameAndType 36 37), (0, u "checkBoundsOffCount"), (0, u "(III)I"), (0, .fieldref 10 39), (0, .nameAndType 40 26), (0, u "COMPACT_STRINGS"), (1, .class_ 44), (1, u "java/lang/StringUTF16"), (9, .methodref 55 56), (0, .class_ 57), (0, .nameAndType 58 59), (0, u "java/util/Arrays"), (0, u "copyOfRange"), (0, u "([BII)[B"), (0, .methodref 42 61), (0, .nameAndType 62 63), (0, u "newBytesFor"), (0, u "(I)[B"), (0, .methodref 42 65), (0, .nameAndType 66 67), (0, u "putChar"), (0, u "([BII)V"), (7, .methodref 10 76), (0, .nameAndType 5 77), (0, u "(Ljava/nio/charset/Charset;[BII)V"), (0, .methodref 79 80), (0, .class_ 81), (0, .nameAndType 82 83), (0, u "java/util/Objects"), (0, u "requireNonNull"), (0, u "(Ljava/lang/Object;)Ljava/lang/Object;"), (0, .class_ 85), (0, u "java/nio/charset/Charset"), (0, .fieldref 87 88), (0, .class_ 89), (0, .nameAndType 90 91), (0, u "sun/nio/cs/UTF_8"), (0, u "INSTANCE"), (0, u "Lsun/nio/cs/UTF_8;"), (0, .methodref 93 94), (0, .class_ 95), (0, .nameAndType 96 97), (0, u "java/lang/StringCoding"), (0, u "countPositives"), (0, u "([BII)I"), (8, .methodref 107 108), (0, .class_ 109), (0, .nameAndType 110 111), (0, u "java/lang/StringLatin1"), (0, u "inflate"), (0, u "([BI[BII)V"), (0, .methodref 10 113), (0, .nameAndType 114 115), (0, u "decodeUTF8_UTF16"), (0, u "([BII[BIZ)I"), (16, .integer 65533), (9, u "()Z"), (95, u "([BIILjava/nio/charset/Charset;)V"), (95, u "()I"), (0, .methodref 10 336), (0, .nameAndType 17 337), (0, u "()B"), (25, u "([BI)C"), (27, u "(II)V"), (35, u "(I)C"), (64, .methodref 10 493), (0, .nameAndType 494 142), (0, u "isLatin1"), (0, .methodref 107 496), (0, .nameAndType 497 363), (0, u "charAt"), (0, .methodref 42 496), (2, u "checkIndex"), (5, u "length"), (67, .class_ 576), (0, u "java/lang/CharSequence"), (22, u "CASE_INSENSITIVE_ORDER"), (0, u "Ljava/util/Comparator;"), (452, .fieldref 1054 1055), (0, .class_ 1056), (0, .nameAndType 1057 1058), (0, u "jdk/internal/util/Preconditions"), (0, u "SIOOBE_FORMATTER"), (0, u "Ljava/util/function/BiFunction;"), (0, .methodref 1054 1060), (0, .nameAndType 501 1061), (0, u "(IILjava/util/function/BiFunction;)I"), (2, u "(IIILjava/util/function/BiFunction;)I"), (0, .methodref 1054 1066), (0, .nameAndType 1067 1064), (0, u "checkFromIndexSize"), (33, u "serialPersistentFields"), (0, u "[Ljava/io/ObjectStreamField;"), (0, .class_ 1104), (0, u "java/lang/String$CaseInsensitiveComparator"), (1, .class_ 1107), (0, u "java/io/Serializable"), (0, .class_ 1109), (0, u "java/lang/Comparable"), (0, .class_ 1111), (0, u "java/lang/constant/Constable"), (0, .class_ 1113), (0, u "java/lang/constant/ConstantDesc"), (2, u "serialVersionUID"), (0, u "J"), (3, u "REPL"), (0, u "C"), (2, u "LATIN1"), (1, u "UTF16")] 323

def k7m0 : Method := mt "<init>" "()V" [] (none) 1 (none)
def k7c1 : Code := { maxStack := 6, maxLocals := 5, code := jdk_42_method_10_code, exceptionTable := #[], attributes := #[] }
def k7m1 : Method := mt "<init>" "([BIILjava/nio/charset/Charset;)V" [(.array .byte), .int, .int, (.object "java/nio/charset/Charset")] (none) 1 (some k7c1)
def k7c2 : Code := { maxStack := 6, maxLocals := 11, code := jdk_42_method_11_code, exceptionTable := #[{ startPc := 800, endPc := 813, handlerPc := 816, catchType := 202 }], attributes := #[] }
def k7m2 : Method := mt "<init>" "(Ljava/nio/charset/Charset;[BII)V" [(.object "java/nio/charset/Charset"), (.array .byte), .int, .int] (none) 2 (some k7c2)
def k7c3 : Code := { maxStack := 4, maxLocals := 11, code := jdk_42_method_38_code, exceptionTable := #[], attributes := #[] }
def k7m3 : Method := mt "decodeUTF8_UTF16" "([BII[BIZ)I" [(.array .byte), .int, .int, (.array .byte), .int, .boolean] (some .int) 10 (some k7c3)
def k7c4 : Code := { maxStack := 2, maxLocals := 1, code := jdk_42_method_54_code, exceptionTable := #[], attributes := #[] }
def k7m4 : Method := mt "length" "()I" [] (some .int) 1 (some k7c4)
def k7c5 : Code := { maxStack := 2, maxLocals := 2, code := jdk_42_method_56_code, exceptionTable := #[], attributes := #[] }
def k7m5 : Method := mt "charAt" "(I)C" [.int] (some .char) 1 (some k7c5)
def k7c6 : Code := { maxStack := 1, maxLocals := 1, code := jdk_42_method_152_code, exceptionTable := #[], attributes := #[] }
def k7m6 : Method := mt "coder" "()B" [] (some .byte) 0 (some k7c6)
def k7c7 : Code := { maxStack := 1, maxLocals := 1, code := jdk_42_method_154_code, exceptionTable := #[], attributes := #[] }
def k7m7 : Method := mt "isLatin1" "()Z" [] (some .boolean) 0 (some k7c7)
def k7c8 : Code := { maxStack := 3, maxLocals := 2, code := jdk_42_method_155_code, exceptionTable := #[], attributes := #[] }
def k7m8 : Method := mt "checkIndex" "(II)V" [.int, .int] (none) 8 (some k7c8)
def k7c9 : Code := { maxStack := 4, maxLocals := 3, code := jdk_42_method_157_code, exceptionTable := #[], attributes := #[] }
def k7m9 : Method := mt "checkBoundsOffCount" "(III)I" [.int, .int, .int] (some .int) 8 (some k7c9)
/-- java/lang/String -/
def k7 : Class := { plain "java/lang/String" (some 0) with
  accessFlags := 49
  interfaces := #[2, 3, 4, 5, 6]
  cf := some (fileOf pool7 10 #[.nestMembers #[1103]] #[⟨1, 5, 6, #[]⟩, ⟨1, 5, 238, #[]⟩, ⟨2, 5, 77, #[]⟩, ⟨10, 114, 115, #[]⟩, ⟨1, 507, 334, #[]⟩, ⟨1, 497, 427, #[]⟩, ⟨0, 17, 337, #[]⟩, ⟨0, 494, 142, #[]⟩, ⟨8, 501, 391, #[]⟩, ⟨8, 36, 37, #[]⟩] 49 2 #[1106, 1108, 575, 1110, 1112] #[⟨18, 13, 14, #[]⟩, ⟨18, 17, 18, #[]⟩, ⟨2, 21, 22, #[]⟩, ⟨2, 25, 26, #[]⟩, ⟨26, 1116, 1117, #[]⟩, ⟨24, 40, 26, #[]⟩, ⟨26, 1101, 1102, #[]⟩, ⟨26, 1121, 1122, #[]⟩, ⟨25, 599, 600, #[]⟩, ⟨24, 1125, 18, #[]⟩, ⟨24, 1127, 18, #[]⟩])
  fields := #[⟨"value", (.array .byte), 18, 0, 0⟩, ⟨"coder", .byte, 18, 1, 0⟩, ⟨"hash", .int, 2, 2, 0⟩, ⟨"hashIsZero", .boolean, 2, 3, 0⟩, ⟨"serialVersionUID", .long, 26, 0, 0⟩, ⟨"COMPACT_STRINGS", .boolean, 24, 1, 0⟩, ⟨"serialPersistentFields", (.array (.object "java/io/ObjectStreamField")), 26, 2, 0⟩, ⟨"REPL", .char, 26, 3, 0⟩, ⟨"CASE_INSENSITIVE_ORDER", (.object "java/util/Comparator"), 25, 4, 0⟩, ⟨"LATIN1", .byte, 24, 5, 0⟩, ⟨"UTF16", .byte, 24, 6, 0⟩]
  methods := #[k7m0, k7m1, k7m2, k7m3, k7m4, k7m5, k7m6, k7m7, k7m8, k7m9]
  instanceTypes := #[(.array .byte), .byte, .int, .boolean]
  staticTypes := #[.long, .boolean, (.array (.object "java/io/ObjectStreamField")), .char, (.object "java/util/Comparator"), .byte, .byte]
  resolved := Array.replicate 1451 none
  statics := some 0 }

def pool8 : Array CpInfo := pool [(1, .methodref 2 3), (0, .class_ 4), (0, .nameAndType 5 6), (0, u "java/lang/Object"), (0, u "<init>"), (0, u "()V"), (0, .fieldref 8 9), (0, .class_ 10), (0, .nameAndType 11 12), (0, u "com/example/holdfast/holdfast/xml/Markup"), (0, u "text"), (0, u "[B"), (0, .fieldref 8 14), (0, .nameAndType 15 16), (0, u "at"), (0, u "I"), (0, .fieldref 8 18), (0, .nameAndType 19 16), (0, u "end"), (9, u "([BII)V"), (3, u "()I"), (2, u "nextTag"), (0, u "()Z"), (2, u "kind"), (0, u "()Lcom/example/holdfast/holdfast/xml/Markup$Kind;"), (0, .fieldref 43 44), (0, .class_ 45), (0, .nameAndType 46 47), (0, u "com/example/holdfast/holdfast/xml/Markup$Kind"), (0, u "END"), (0, u "Lcom/example/holdfast/holdfast/xml/Markup$Kind;"), (7, .methodref 8 56), (0, .nameAndType 57 58), (0, u "indexOf"), (0, u "(BI)I"), (0, .methodref 8 60), (0, .nameAndType 61 62), (0, u "byteAfter"), (0, u "(I)B"), (0, .methodref 8 64), (0, .nameAndType 65 66), (0, u "pastMarkup"), (0, u "(I)I"), (0, .fieldref 8 68), (0, .nameAndType 40 47), (0, .fieldref 8 70), (0, .nameAndType 71 16), (0, u "tagStart"), (0, .fieldref 8 73), (0, .nameAndType 74 75), (0, u "emptyElement"), (0, u "Z"), (0, .fieldref 43 77), (0, .nameAndType 78 47), (0, u "INSTRUCTION"), (0, .methodref 8 80), (0, .nameAndType 81 66), (0, u "readName"), (0, .string 83), (0, u "?>"), (0, .methodref 8 85), (0, .nameAndType 86 87), (0, u "past"), (0, u "(ILjava/lang/String;)I"), (0, .fieldref 8 89), (0, .nameAndType 90 16), (0, u "tagEnd"), (0, .fieldref 8 92), (0, .nameAndType 93 16), (0, u "nameEnd"), (0, .fieldref 43 95), (0, .nameAndType 96 47), (0, u "START"), (0, .fieldref 8 98), (0, .nameAndType 99 75), (0, u "attributesLeft"), (8, u "valueStart"), (2, u "valueEnd"), (0, .fieldref 8 113), (0, .nameAndType 114 16), (0, u "nameStart"), (6, .class_ 122), (0, u "java/lang/String"), (0, .fieldref 124 125), (0, .class_ 126), (0, .nameAndType 127 128), (0, u "java/nio/charset/StandardCharsets"), (0, u "UTF_8"), (0, u "Ljava/nio/charset/Charset;"), (0, .methodref 121 130), (0, .nameAndType 5 131), (0, u "([BIILjava/nio/charset/Charset;)V"), (0, .fieldref 8 133), (0, .nameAndType 134 16), (0, u "nameHash"), (4, .methodref 8 140), (0, .nameAndType 141 142), (0, u "endsName"), (0, u "(B)Z"), (0, .string 144), (0, u "<!--"), (0, .methodref 8 146), (0, .nameAndType 147 148), (0, u "startsWith"), (0, u "(ILjava/lang/String;)Z"), (0, .string 150), (0, u "-->"), (0, .string 152), (0, u "<![CDATA["), (0, .string 154), (0, u "]]>"), (0, .methodref 8 156), (0, .nameAndType 157 66), (0, u "pastDeclaration"), (0, .string 159), (0, u "<?"), (2, .long 6917669769424414208), (4, .methodref 121 168), (0, .nameAndType 169 33), (0, u "length"), (0, .methodref 121 171), (0, .nameAndType 172 173), (0, u "charAt"), (0, u "(I)C"), (8, u "ENDS_NAME"), (0, u "J"), (8, u "name"), (0, u "()Ljava/lang/String;")] 7

def k8c0 : Code := { maxStack := 2, maxLocals := 4, code := prog_7_method_1_code, exceptionTable := #[], attributes := #[] }
def k8m0 : Method := mt "<init>" "([BII)V" [(.array .byte), .int, .int] (none) 0 (some k8c0)
def k8c1 : Code := { maxStack := 4, maxLocals := 5, code := prog_7_method_3_code, exceptionTable := #[], attributes := #[] }
def k8m1 : Method := mt "nextTag" "()Z" [] (some .boolean) 0 (some k8c1)
def k8c2 : Code := { maxStack := 1, maxLocals := 1, code := prog_7_method_4_code, exceptionTable := #[], attributes := #[] }
def k8m2 : Method := mt "kind" "()Lcom/example/holdfast/holdfast/xml/Markup$Kind;" [] (some (.object "com/example/holdfast/holdfast/xml/Markup$Kind")) 0 (some k8c2)
def k8c3 : Code := { maxStack := 1, maxLocals := 1, code := prog_7_method_5_code, exceptionTable := #[], attributes := #[] }
def k8m3 : Method := mt "tagStart" "()I" [] (some .int) 0 (some k8c3)
def k8c4 : Code := { maxStack := 1, maxLocals := 1, code := prog_7_method_6_code, exceptionTable := #[], attributes := #[] }
def k8m4 : Method := mt "tagEnd" "()I" [] (some .int) 0 (some k8c4)
def k8c5 : Code := { maxStack := 6, maxLocals := 1, code := prog_7_method_11_code, exceptionTable := #[], attributes := #[] }
def k8m5 : Method := mt "name" "()Ljava/lang/String;" [] (some (.object "java/lang/String")) 0 (some k8c5)
def k8c6 : Code := { maxStack := 3, maxLocals := 4, code := prog_7_method_15_code, exceptionTable := #[], attributes := #[] }
def k8m6 : Method := mt "readName" "(I)I" [.int] (some .int) 2 (some k8c6)
def k8c7 : Code := { maxStack := 3, maxLocals := 2, code := prog_7_method_16_code, exceptionTable := #[], attributes := #[] }
def k8m7 : Method := mt "byteAfter" "(I)B" [.int] (some .byte) 2 (some k8c7)
def k8c8 : Code := { maxStack := 3, maxLocals := 3, code := prog_7_method_17_code, exceptionTable := #[], attributes := #[] }
def k8m8 : Method := mt "pastMarkup" "(I)I" [.int] (some .int) 2 (some k8c8)
def k8c9 : Code := { maxStack := 4, maxLocals := 5, code := prog_7_method_18_code, exceptionTable := #[], attributes := #[] }
def k8m9 : Method := mt "pastDeclaration" "(I)I" [.int] (some .int) 2 (some k8c9)
def k8c10 : Code := { maxStack := 4, maxLocals := 1, code := prog_7_method_19_code, exceptionTable := #[], attributes := #[] }
def k8m10 : Method := mt "endsName" "(B)Z" [.byte] (some .boolean) 10 (some k8c10)
def k8c11 : Code := { maxStack := 3, maxLocals := 4, code := prog_7_method_22_code, exceptionTable := #[], attributes := #[] }
def k8m11 : Method := mt "past" "(ILjava/lang/String;)I" [.int, (.object "java/lang/String")] (some .int) 2 (some k8c11)
def k8c12 : Code := { maxStack := 3, maxLocals := 4, code := prog_7_method_23_code, exceptionTable := #[], attributes := #[] }
def k8m12 : Method := mt "startsWith" "(ILjava/lang/String;)Z" [.int, (.object "java/lang/String")] (some .boolean) 2 (some k8c12)
def k8c13 : Code := { maxStack := 2, maxLocals := 4, code := prog_7_method_25_code, exceptionTable := #[], attributes := #[] }
def k8m13 : Method := mt "indexOf" "(BI)I" [.byte, .int] (some .int) 2 (some k8c13)
/-- com/example/holdfast/holdfast/xml/Markup -/
def k8 : Class := { plain "com/example/holdfast/holdfast/xml/Markup" (some 0) with
  accessFlags := 48
  interfaces := #[]
  cf := some (fileOf pool8 8 #[.nestMembers #[43]] #[⟨0, 5, 29, #[]⟩, ⟨0, 36, 37, #[]⟩, ⟨0, 40, 41, #[]⟩, ⟨0, 71, 33, #[]⟩, ⟨0, 90, 33, #[]⟩, ⟨0, 192, 193, #[]⟩, ⟨2, 81, 66, #[]⟩, ⟨2, 61, 62, #[]⟩, ⟨2, 65, 66, #[]⟩, ⟨2, 157, 66, #[]⟩, ⟨10, 141, 142, #[]⟩, ⟨2, 86, 87, #[]⟩, ⟨2, 147, 148, #[]⟩, ⟨2, 57, 58, #[]⟩] 48 2 #[] #[⟨26, 182, 183, #[]⟩, ⟨18, 11, 12, #[]⟩, ⟨18, 19, 16, #[]⟩, ⟨2, 15, 16, #[]⟩, ⟨2, 40, 47, #[]⟩, ⟨2, 71, 16, #[]⟩, ⟨2, 90, 16, #[]⟩, ⟨2, 74, 75, #[]⟩, ⟨2, 99, 75, #[]⟩, ⟨2, 114, 16, #[]⟩, ⟨2, 93, 16, #[]⟩, ⟨2, 134, 16, #[]⟩, ⟨2, 108, 16, #[]⟩, ⟨2, 111, 16, #[]⟩])
  fields := #[⟨"ENDS_NAME", .long, 26, 0, 0⟩, ⟨"text", (.array .byte), 18, 0, 0⟩, ⟨"end", .int, 18, 1, 0⟩, ⟨"at", .int, 2, 2, 0⟩, ⟨"kind", (.object "com/example/holdfast/holdfast/xml/Markup$Kind"), 2, 3, 0⟩, ⟨"tagStart", .int, 2, 4, 0⟩, ⟨"tagEnd", .int, 2, 5, 0⟩, ⟨"emptyElement", .boolean, 2, 6, 0⟩, ⟨"attributesLeft", .boolean, 2, 7, 0⟩, ⟨"nameStart", .int, 2, 8, 0⟩, ⟨"nameEnd", .int, 2, 9, 0⟩, ⟨"nameHash", .int, 2, 10, 0⟩, ⟨"valueStart", .int, 2, 11, 0⟩, ⟨"valueEnd", .int, 2, 12, 0⟩]
  methods := #[k8m0, k8m1, k8m2, k8m3, k8m4, k8m5, k8m6, k8m7, k8m8, k8m9, k8m10, k8m11, k8m12, k8m13]
  instanceTypes := #[(.array .byte), .int, .int, (.object "com/example/holdfast/holdfast/xml/Markup$Kind"), .int, .int, .boolean, .boolean, .int, .int, .int, .int, .int]
  staticTypes := #[.long]
  resolved := Array.replicate 201 none
  statics := none }

def pool9 : Array CpInfo := pool [(2, .class_ 4), (1, u "java/lang/Enum"), (0, u "name"), (0, u "Ljava/lang/String;"), (2, u "ordinal"), (0, u "I"), (1, .class_ 14), (1, u "java/lang/Object"), (4, u "hash"), (86, .class_ 108), (1, u "java/lang/Enum$EnumDesc"), (2, .class_ 112), (0, u "java/lang/constant/Constable"), (0, .class_ 114), (0, u "java/lang/Comparable"), (0, .class_ 116), (0, u "java/io/Serializable")] 87

/-- java/lang/Enum -/
def k9 : Class := { plain "java/lang/Enum" (some 0) with
  accessFlags := 1057
  interfaces := #[5, 3, 2]
  cf := some (fileOf pool9 2 #[.nestMembers #[106]] #[] 1057 12 #[111, 113, 115] #[⟨18, 5, 6, #[]⟩, ⟨18, 9, 10, #[]⟩, ⟨2, 19, 10, #[]⟩])
  fields := #[⟨"name", (.object "java/lang/String"), 18, 0, 0⟩, ⟨"ordinal", .int, 18, 1, 0⟩, ⟨"hash", .int, 2, 2, 0⟩]
  methods := #[]
  instanceTypes := #[(.object "java/lang/String"), .int, .int]
  staticTypes := #[]
  resolved := Array.replicate 204 none
  statics := none }

def pool10 : Array CpInfo := pool [(1, .class_ 2), (0, u "com/example/holdfast/holdfast/xml/Markup$Kind"), (2, u "START"), (0, u "Lcom/example/holdfast/holdfast/xml/Markup$Kind;"), (2, u "END"), (2, u "INSTRUCTION"), (2, u "$VALUES"), (0, u "[Lcom/example/holdfast/holdfast/xml/Markup$Kind;"), (6, .class_ 25), (1, u "java/lang/Enum"), (26, .class_ 53), (0, u "com/example/holdfast/holdfast/xml/Markup")] 2

/-- com/example/holdfast/holdfast/xml/Markup$Kind -/
def k10 : Class := { plain "com/example/holdfast/holdfast/xml/Markup$Kind" (some 9) with
  accessFlags := 16432
  interfaces := #[]
  cf := some (fileOf pool10 1 #[.nestHost 52] #[] 16432 23 #[] #[⟨16409, 5, 6, #[]⟩, ⟨16409, 9, 6, #[]⟩, ⟨16409, 12, 6, #[]⟩, ⟨4122, 15, 16, #[]⟩])
  fields := #[⟨"START", (.object "com/example/holdfast/holdfast/xml/Markup$Kind"), 16409, 0, 0⟩, ⟨"END", (.object "com/example/holdfast/holdfast/xml/Markup$Kind"), 16409, 1, 0⟩, ⟨"INSTRUCTION", (.object "com/example/holdfast/holdfast/xml/Markup$Kind"), 16409, 2, 0⟩, ⟨"$VALUES", (.array (.object "com/example/holdfast/holdfast/xml/Markup$Kind")), 4122, 3, 0⟩]
  methods := #[]
  instanceTypes := #[(.object "java/lang/String"), .int, .int]
  staticTypes := #[(.object "com/example/holdfast/holdfast/xml/Markup$Kind"), (.object "com/example/holdfast/holdfast/xml/Markup$Kind"), (.object "com/example/holdfast/holdfast/xml/Markup$Kind"), (.array (.object "com/example/holdfast/holdfast/xml/Markup$Kind"))]
  resolved := Array.replicate 56 none
  statics := some 1 }

def pool11 : Array CpInfo := pool [(2, .class_ 4), (1, u "java/lang/Object"), (0, u "<init>"), (0, u "()V"), (14, .class_ 23), (1, u "java/nio/charset/StandardCharsets"), (0, u "US_ASCII"), (0, u "Ljava/nio/charset/Charset;"), (7, u "ISO_8859_1"), (7, u "UTF_8"), (5, u "UTF_16BE"), (5, u "UTF_16LE"), (5, u "UTF_16")] 8

def k11m0 : Method := mt "<init>" "()V" [] (none) 2 (none)
/-- java/nio/charset/StandardCharsets -/
def k11 : Class := { plain "java/nio/charset/StandardCharsets" (some 0) with
  accessFlags := 49
  interfaces := #[]
  cf := some (fileOf pool11 21 #[] #[⟨2, 5, 6, #[]⟩] 49 2 #[] #[⟨25, 24, 25, #[]⟩, ⟨25, 33, 25, #[]⟩, ⟨25, 41, 25, #[]⟩, ⟨25, 47, 25, #[]⟩, ⟨25, 53, 25, #[]⟩, ⟨25, 59, 25, #[]⟩])
  fields := #[⟨"US_ASCII", (.object "java/nio/charset/Charset"), 25, 0, 0⟩, ⟨"ISO_8859_1", (.object "java/nio/charset/Charset"), 25, 1, 0⟩, ⟨"UTF_8", (.object "java/nio/charset/Charset"), 25, 2, 0⟩, ⟨"UTF_16BE", (.object "java/nio/charset/Charset"), 25, 3, 0⟩, ⟨"UTF_16LE", (.object "java/nio/charset/Charset"), 25, 4, 0⟩, ⟨"UTF_16", (.object "java/nio/charset/Charset"), 25, 5, 0⟩]
  methods := #[k11m0]
  instanceTypes := #[]
  staticTypes := #[(.object "java/nio/charset/Charset"), (.object "java/nio/charset/Charset"), (.object "java/nio/charset/Charset"), (.object "java/nio/charset/Charset"), (.object "java/nio/charset/Charset"), (.object "java/nio/charset/Charset")]
  resolved := Array.replicate 68 none
  statics := some 2 }

def pool12 : Array CpInfo := pool [(2, .class_ 4), (1, u "java/lang/Object"), (0, u "<init>"), (0, u "()V"), (35, .class_ 44), (1, u "java/util/Objects"), (0, u "requireNonNull"), (0, u "(Ljava/lang/Object;)Ljava/lang/Object;")] 137

def k12m0 : Method := mt "<init>" "()V" [] (none) 2 (none)
def k12c1 : Code := { maxStack := 2, maxLocals := 1, code := jdk_31_method_10_code, exceptionTable := #[], attributes := #[] }
def k12m1 : Method := mt "requireNonNull" "(Ljava/lang/Object;)Ljava/lang/Object;" [(.object "java/lang/Object")] (some (.object "java/lang/Object")) 9 (some k12c1)
/-- java/util/Objects -/
def k12 : Class := { plain "java/util/Objects" (some 0) with
  accessFlags := 49
  interfaces := #[]
  cf := some (fileOf pool12 42 #[] #[⟨2, 5, 6, #[]⟩, ⟨9, 45, 46, #[]⟩] 49 2 #[] #[])
  fields := #[]
  methods := #[k12m0, k12m1]
  instanceTypes := #[]
  staticTypes := #[]
  resolved := Array.replicate 184 none
  statics := none }

def pool13 : Array CpInfo := pool [(18, .class_ 20), (1, u "java/nio/charset/Charset"), (0, u "cache1"), (0, u "[Ljava/lang/Object;"), (2, u "cache2"), (0, .class_ 27), (0, u "java/lang/Object"), (0, .class_ 29), (0, u "java/nio/charset/Charset$1"), (4, .class_ 36), (1, u "java/nio/charset/Charset$ThreadTrackHolder"), (21, .class_ 59), (0, u "java/nio/charset/Charset$2"), (11, .class_ 73), (1, u "java/nio/charset/Charset$ExtendedProviderHolder"), (22, u "standardProvider"), (0, u "Ljava/nio/charset/spi/CharsetProvider;"), (29, u "name"), (7, .class_ 136), (0, u "java/nio/charset/Charset$3"), (5, u "defaultCharset"), (0, u "Ljava/nio/charset/Charset;"), (14, u "zeroAliases"), (0, u "[Ljava/lang/String;"), (29, u "Ljava/lang/String;"), (2, u "aliases"), (2, u "aliasSet"), (0, u "Ljava/util/Set;"), (82, .class_ 280), (0, u "java/lang/Comparable"), (84, .class_ 366), (0, u "java/nio/charset/Charset$ExtendedProviderHolder$1")] 3

/-- java/nio/charset/Charset -/
def k13 : Class := { plain "java/nio/charset/Charset" (some 0) with
  accessFlags := 1057
  interfaces := #[3]
  cf := some (fileOf pool13 18 #[.nestMembers #[71, 365, 34, 135, 58, 28]] #[] 1057 26 #[279] #[⟨26, 96, 97, #[]⟩, ⟨26, 158, 159, #[]⟩, ⟨74, 21, 22, #[]⟩, ⟨74, 25, 22, #[]⟩, ⟨10, 142, 143, #[]⟩, ⟨18, 127, 189, #[]⟩, ⟨18, 192, 159, #[]⟩, ⟨2, 195, 196, #[]⟩])
  fields := #[⟨"standardProvider", (.object "java/nio/charset/spi/CharsetProvider"), 26, 0, 0⟩, ⟨"zeroAliases", (.array (.object "java/lang/String")), 26, 1, 0⟩, ⟨"cache1", (.array (.object "java/lang/Object")), 74, 2, 0⟩, ⟨"cache2", (.array (.object "java/lang/Object")), 74, 3, 0⟩, ⟨"defaultCharset", (.object "java/nio/charset/Charset"), 10, 4, 0⟩, ⟨"name", (.object "java/lang/String"), 18, 0, 0⟩, ⟨"aliases", (.array (.object "java/lang/String")), 18, 1, 0⟩, ⟨"aliasSet", (.object "java/util/Set"), 2, 2, 0⟩]
  methods := #[]
  instanceTypes := #[(.object "java/lang/String"), (.array (.object "java/lang/String")), (.object "java/util/Set")]
  staticTypes := #[(.object "java/nio/charset/spi/CharsetProvider"), (.array (.object "java/lang/String")), (.array (.object "java/lang/Object")), (.array (.object "java/lang/Object")), (.object "java/nio/charset/Charset")]
  resolved := Array.replicate 370 none
  statics := none }

def pool14 : Array CpInfo := pool [(1, .class_ 2), (0, u "sun/nio/cs/HistoricallyNamedCharset"), (0, .class_ 4), (0, u "java/lang/Object")] 4

/-- sun/nio/cs/HistoricallyNamedCharset -/
def k14 : Class := { plain "sun/nio/cs/HistoricallyNamedCharset" (some 0) with
  accessFlags := 1537
  interfaces := #[]
  cf := some (fileOf pool14 1 #[] #[] 1537 3 #[] #[])
  fields := #[]
  methods := #[]
  instanceTypes := #[]
  staticTypes := #[]
  resolved := Array.replicate 9 none
  statics := none }

def pool15 : Array CpInfo := pool [(2, .class_ 4), (1, u "java/nio/charset/Charset"), (130, .class_ 136), (0, u "sun/nio/cs/Unicode"), (0, .class_ 138), (0, u "sun/nio/cs/HistoricallyNamedCharset")] 15

/-- sun/nio/cs/Unicode -/
def k15 : Class := { plain "sun/nio/cs/Unicode" (some 13) with
  accessFlags := 1056
  interfaces := #[14]
  cf := some (fileOf pool15 135 #[] #[] 1056 2 #[137] #[])
  fields := #[]
  methods := #[]
  instanceTypes := #[(.object "java/lang/String"), (.array (.object "java/lang/String")), (.object "java/util/Set")]
  staticTypes := #[]
  resolved := Array.replicate 154 none
  statics := none }

def pool16 : Array CpInfo := pool [(10, .class_ 12), (1, u "sun/nio/cs/Unicode"), (0, u "<init>"), (3, .class_ 18), (0, u "sun/nio/cs/UTF_8$Decoder"), (3, .class_ 23), (0, u "sun/nio/cs/UTF_8$Encoder"), (15, .class_ 40), (0, u "sun/nio/cs/UTF_8"), (2, u "()V"), (2, u "INSTANCE"), (0, u "Lsun/nio/cs/UTF_8;"), (8, u "JLA"), (0, u "Ljdk/internal/access/JavaLangAccess;")] 26

def k16m0 : Method := mt "<init>" "()V" [] (none) 1 (none)
/-- sun/nio/cs/UTF_8 -/
def k16 : Class := { plain "sun/nio/cs/UTF_8" (some 15) with
  accessFlags := 49
  interfaces := #[]
  cf := some (fileOf pool16 39 #[.nestMembers #[22, 17]] #[⟨1, 13, 43, #[]⟩] 49 10 #[] #[⟨25, 46, 47, #[]⟩, ⟨26, 56, 57, #[]⟩])
  fields := #[⟨"INSTANCE", (.object "sun/nio/cs/UTF_8"), 25, 0, 0⟩, ⟨"JLA", (.object "jdk/internal/access/JavaLangAccess"), 26, 1, 0⟩]
  methods := #[k16m0]
  instanceTypes := #[(.object "java/lang/String"), (.array (.object "java/lang/String")), (.object "java/util/Set")]
  staticTypes := #[(.object "sun/nio/cs/UTF_8"), (.object "jdk/internal/access/JavaLangAccess")]
  resolved := Array.replicate 84 none
  statics := some 3 }

def pool17 : Array CpInfo := pool [(2, .class_ 4), (1, u "java/lang/Object"), (0, u "<init>"), (0, u "()V"), (17, .class_ 26), (1, u "jdk/internal/util/Preconditions"), (6, u "checkIndex"), (15, u "checkFromIndexSize"), (5, .class_ 56), (0, u "jdk/internal/util/Preconditions$4"), (57, .class_ 115), (0, u "jdk/internal/util/Preconditions$1"), (7, u "SIOOBE_FORMATTER"), (0, u "Ljava/util/function/BiFunction;"), (0, .class_ 126), (0, u "jdk/internal/util/Preconditions$2"), (3, u "AIOOBE_FORMATTER"), (0, .class_ 132), (0, u "jdk/internal/util/Preconditions$3"), (3, u "IOOBE_FORMATTER"), (41, u "(IILjava/util/function/BiFunction;)I"), (4, u "(IIILjava/util/function/BiFunction;)I")] 10

def k17m0 : Method := mt "<init>" "()V" [] (none) 1 (none)
def k17c1 : Code := { maxStack := 3, maxLocals := 3, code := jdk_41_method_11_code, exceptionTable := #[], attributes := #[] }
def k17m1 : Method := mt "checkIndex" "(IILjava/util/function/BiFunction;)I" [.int, .int, (.object "java/util/function/BiFunction")] (some .int) 9 (some k17c1)
def k17c2 : Code := { maxStack := 4, maxLocals := 4, code := jdk_41_method_13_code, exceptionTable := #[], attributes := #[] }
def k17m2 : Method := mt "checkFromIndexSize" "(IIILjava/util/function/BiFunction;)I" [.int, .int, .int, (.object "java/util/function/BiFunction")] (some .int) 9 (some k17c2)
/-- jdk/internal/util/Preconditions -/
def k17 : Class := { plain "jdk/internal/util/Preconditions" (some 0) with
  accessFlags := 33
  interfaces := #[]
  cf := some (fileOf pool17 24 #[.nestMembers #[55, 131, 125, 114]] #[⟨1, 5, 6, #[]⟩, ⟨9, 33, 178, #[]⟩, ⟨9, 49, 183, #[]⟩] 33 2 #[] #[⟨25, 123, 124, #[]⟩, ⟨25, 130, 124, #[]⟩, ⟨25, 136, 124, #[]⟩])
  fields := #[⟨"SIOOBE_FORMATTER", (.object "java/util/function/BiFunction"), 25, 0, 0⟩, ⟨"AIOOBE_FORMATTER", (.object "java/util/function/BiFunction"), 25, 1, 0⟩, ⟨"IOOBE_FORMATTER", (.object "java/util/function/BiFunction"), 25, 2, 0⟩]
  methods := #[k17m0, k17m1, k17m2]
  instanceTypes := #[]
  staticTypes := #[(.object "java/util/function/BiFunction"), (.object "java/util/function/BiFunction"), (.object "java/util/function/BiFunction")]
  resolved := Array.replicate 194 none
  statics := some 4 }

def pool18 : Array CpInfo := pool [(1, .class_ 2), (0, u "java/lang/String"), (1, .class_ 6), (1, u "java/lang/Object"), (0, u "<init>"), (0, u "()V"), (0, .methodref 1 10), (0, .nameAndType 11 12), (0, u "checkIndex"), (0, u "(II)V"), (1, .class_ 16), (1, u "java/lang/StringLatin1"), (0, u "inflate"), (2, .class_ 22), (1, u "java/lang/StringUTF16"), (3, .nameAndType 17 27), (0, u "([BI[BII)V"), (25, u "([BI)C"), (67, u "$assertionsDisabled"), (0, u "Z"), (98, .class_ 223), (1, u "java/lang/StringLatin1$LinesSpliterator"), (16, .methodref 20 26), (11, u "charAt"), (137, .class_ 391), (0, u "java/lang/StringLatin1$CharsSpliterator")] 3

def k18m0 : Method := mt "<init>" "()V" [] (none) 0 (none)
def k18c1 : Code := { maxStack := 2, maxLocals := 2, code := jdk_43_method_2_code, exceptionTable := #[], attributes := #[] }
def k18m1 : Method := mt "charAt" "([BI)C" [(.array .byte), .int] (some .char) 9 (some k18c1)
def k18c2 : Code := { maxStack := 5, maxLocals := 5, code := jdk_43_method_50_code, exceptionTable := #[], attributes := #[] }
def k18m2 : Method := mt "inflate" "([BI[BII)V" [(.array .byte), .int, (.array .byte), .int, .int] (none) 9 (some k18c2)
/-- java/lang/StringLatin1 -/
def k18 : Class := { plain "java/lang/StringLatin1" (some 0) with
  accessFlags := 48
  interfaces := #[]
  cf := some (fileOf pool18 14 #[.nestMembers #[390, 221]] #[⟨0, 7, 8, #[]⟩, ⟨9, 252, 53, #[]⟩, ⟨9, 17, 27, #[]⟩] 48 4 #[] #[⟨4120, 121, 122, #[]⟩])
  fields := #[⟨"$assertionsDisabled", .boolean, 4120, 0, 0⟩]
  methods := #[k18m0, k18m1, k18m2]
  instanceTypes := #[]
  staticTypes := #[.boolean]
  resolved := Array.replicate 395 none
  statics := none }

def pool19 : Array CpInfo := pool [(2, .class_ 4), (1, u "java/lang/Object"), (0, u "<init>"), (0, u "()V"), (1, .class_ 10), (1, u "java/lang/StringCoding"), (0, u "countPositives"), (0, u "([BII)I")] 36

def k19m0 : Method := mt "<init>" "()V" [] (none) 2 (none)
def k19c1 : Code := { maxStack := 2, maxLocals := 5, code := jdk_123_method_3_code, exceptionTable := #[], attributes := #[] }
def k19m1 : Method := mt "countPositives" "([BII)I" [(.array .byte), .int, .int] (some .int) 9 (some k19c1)
/-- java/lang/StringCoding -/
def k19 : Class := { plain "java/lang/StringCoding" (some 0) with
  accessFlags := 32
  interfaces := #[]
  cf := some (fileOf pool19 8 #[] #[⟨2, 5, 6, #[]⟩, ⟨9, 11, 12, #[]⟩] 32 2 #[] #[])
  fields := #[]
  methods := #[k19m0, k19m1]
  instanceTypes := #[]
  staticTypes := #[]
  resolved := Array.replicate 49 none
  statics := none }

def pool20 : Array CpInfo := pool [(2, .class_ 4), (1, u "java/lang/Object"), (0, u "<init>"), (0, u "()V"), (7, .class_ 16), (1, u "java/util/Arrays"), (57, .class_ 76), (1, u "java/util/Arrays$NaturalOrder"), (36, .class_ 115), (1, u "java/util/Arrays$LegacyMergeSort"), (1, u "Z"), (21, u "copyOfRange"), (10, .methodref 151 152), (0, .class_ 153), (0, .nameAndType 154 155), (0, u "java/lang/System"), (0, u "arraycopy"), (0, u "(Ljava/lang/Object;ILjava/lang/Object;II)V"), (148, .methodref 305 306), (0, .class_ 307), (0, .nameAndType 308 309), (0, u "java/lang/Math"), (0, u "min"), (0, u "(II)I"), (29, .methodref 14 340), (0, .nameAndType 341 342), (0, u "copyOfRangeByte"), (0, u "([BII)[B"), (0, .methodref 14 344), (0, .nameAndType 345 346), (0, u "checkLength"), (0, u "(II)V"), (28, .class_ 376), (0, u "java/util/Arrays$ArrayList"), (68, u "$assertionsDisabled"), (269, u "MIN_ARRAY_SORT_GRAN"), (0, u "I"), (2, u "INSERTIONSORT_THRESHOLD"), (255, .class_ 976), (0, u "java/util/Arrays$ArrayItr")] 52

def k20m0 : Method := mt "<init>" "()V" [] (none) 2 (none)
def k20c1 : Code := { maxStack := 4, maxLocals := 2, code := jdk_65_method_131_code, exceptionTable := #[], attributes := #[] }
def k20m1 : Method := mt "checkLength" "(II)V" [.int, .int] (none) 10 (some k20c1)
def k20c2 : Code := { maxStack := 3, maxLocals := 3, code := jdk_65_method_132_code, exceptionTable := #[], attributes := #[] }
def k20m2 : Method := mt "copyOfRange" "([BII)[B" [(.array .byte), .int, .int] (some (.array .byte)) 9 (some k20c2)
def k20c3 : Code := { maxStack := 6, maxLocals := 5, code := jdk_65_method_133_code, exceptionTable := #[], attributes := #[] }
def k20m3 : Method := mt "copyOfRangeByte" "([BII)[B" [(.array .byte), .int, .int] (some (.array .byte)) 10 (some k20c3)
/-- java/util/Arrays -/
def k20 : Class := { plain "java/util/Arrays" (some 0) with
  accessFlags := 49
  interfaces := #[]
  cf := some (fileOf pool20 14 #[.nestMembers #[975, 375, 113, 74]] #[⟨2, 5, 6, #[]⟩, ⟨10, 345, 346, #[]⟩, ⟨9, 139, 342, #[]⟩, ⟨10, 341, 342, #[]⟩] 49 2 #[] #[⟨26, 715, 716, #[]⟩, ⟨26, 719, 716, #[]⟩, ⟨4120, 445, 117, #[]⟩])
  fields := #[⟨"MIN_ARRAY_SORT_GRAN", .int, 26, 0, 0⟩, ⟨"INSERTIONSORT_THRESHOLD", .int, 26, 1, 0⟩, ⟨"$assertionsDisabled", .boolean, 4120, 2, 0⟩]
  methods := #[k20m0, k20m1, k20m2, k20m3]
  instanceTypes := #[]
  staticTypes := #[.int, .int, .boolean]
  resolved := Array.replicate 1029 none
  statics := none }

def pool21 : Array CpInfo := pool [(1, .class_ 2), (0, u "java/lang/Math"), (1, .class_ 6), (1, u "java/lang/Object"), (0, u "<init>"), (0, u "()V"), (89, .class_ 100), (1, u "java/lang/Math$RandomNumberGeneratorHolder"), (71, u "negativeZeroFloatBits"), (0, u "J"), (2, u "negativeZeroDoubleBits"), (24, u "min"), (43, u "$assertionsDisabled"), (0, u "Z"), (88, u "(II)I"), (2, u "twoToTheDoubleScaleDown"), (0, u "D"), (4, u "twoToTheDoubleScaleUp"), (9, u "E"), (3, u "PI"), (2, u "TAU"), (2, u "DEGREES_TO_RADIANS"), (0, u "RADIANS_TO_DEGREES")] 94

def k21m0 : Method := mt "<init>" "()V" [] (none) 2 (none)
def k21c1 : Code := { maxStack := 2, maxLocals := 2, code := jdk_29_method_69_code, exceptionTable := #[], attributes := #[] }
def k21m1 : Method := mt "min" "(II)I" [.int, .int] (some .int) 9 (some k21c1)
/-- java/lang/Math -/
def k21 : Class := { plain "java/lang/Math" (some 0) with
  accessFlags := 49
  interfaces := #[]
  cf := some (fileOf pool21 1 #[.nestMembers #[98]] #[⟨2, 7, 8, #[]⟩, ⟨9, 201, 335, #[]⟩] 49 4 #[] #[⟨25, 354, 339, #[]⟩, ⟨25, 358, 339, #[]⟩, ⟨25, 361, 339, #[]⟩, ⟨26, 364, 339, #[]⟩, ⟨26, 365, 339, #[]⟩, ⟨26, 172, 173, #[]⟩, ⟨26, 176, 173, #[]⟩, ⟨8, 344, 339, #[]⟩, ⟨8, 338, 339, #[]⟩, ⟨4120, 245, 246, #[]⟩])
  fields := #[⟨"E", .double, 25, 0, 0⟩, ⟨"PI", .double, 25, 1, 0⟩, ⟨"TAU", .double, 25, 2, 0⟩, ⟨"DEGREES_TO_RADIANS", .double, 26, 3, 0⟩, ⟨"RADIANS_TO_DEGREES", .double, 26, 4, 0⟩, ⟨"negativeZeroFloatBits", .long, 26, 5, 0⟩, ⟨"negativeZeroDoubleBits", .long, 26, 6, 0⟩, ⟨"twoToTheDoubleScaleUp", .double, 8, 7, 0⟩, ⟨"twoToTheDoubleScaleDown", .double, 8, 8, 0⟩, ⟨"$assertionsDisabled", .boolean, 4120, 9, 0⟩]
  methods := #[k21m0, k21m1]
  instanceTypes := #[]
  staticTypes := #[.double, .double, .double, .double, .double, .long, .long, .double, .double, .boolean]
  resolved := Array.replicate 460 none
  statics := none }

def pool22 : Array CpInfo := pool [(2, .class_ 4), (1, u "java/lang/Object"), (0, u "<init>"), (0, u "()V"), (1, .class_ 10), (1, u "java/lang/System"), (0, u "allowSecurityManager"), (0, u "I"), (16, u "cons"), (0, u "Ljava/io/Console;"), (77, .class_ 110), (1, u "java/lang/System$CallersHolder"), (43, u "initialErrStream"), (0, u "Ljava/io/PrintStream;"), (19, u "security"), (0, u "Ljava/lang/SecurityManager;"), (31, .class_ 209), (0, u "java/lang/System$1"), (7, u "props"), (0, u "Ljava/util/Properties;"), (2, u "lineSeparator"), (0, u "Ljava/lang/String;"), (96, .class_ 321), (1, u "java/lang/System$LoggerFinder"), (5, .class_ 328), (0, u "java/lang/System$Logger"), (67, u "err"), (2, u "out"), (91, u "notSupportedJnuEncoding"), (15, u "in"), (17, u "initialIn"), (0, u "Ljava/io/InputStream;"), (35, u "bootLayer"), (0, u "Ljava/lang/ModuleLayer;"), (99, .class_ 664), (0, u "java/lang/System$2"), (9, u "NEVER"), (2, u "MAYBE"), (49, u "arraycopy"), (0, u "(Ljava/lang/Object;ILjava/lang/Object;II)V"), (72, .class_ 802), (0, u "java/lang/System$Logger$Level")] 31

def k22m0 : Method := mt "<init>" "()V" [] (none) 2 (none)
def k22m1 : Method := mt "arraycopy" "(Ljava/lang/Object;ILjava/lang/Object;II)V" [(.object "java/lang/Object"), .int, (.object "java/lang/Object"), .int, .int] (none) 265 (none)
/-- java/lang/System -/
def k22 : Class := { plain "java/lang/System" (some 0) with
  accessFlags := 49
  interfaces := #[]
  cf := some (fileOf pool22 8 #[.nestMembers #[319, 327, 801, 108, 663, 208]] #[⟨2, 5, 6, #[]⟩, ⟨265, 727, 728, #[]⟩] 49 2 #[] #[⟨25, 507, 526, #[]⟩, ⟨25, 399, 155, #[]⟩, ⟨25, 396, 155, #[]⟩, ⟨10, 525, 526, #[]⟩, ⟨26, 674, 12, #[]⟩, ⟨26, 677, 12, #[]⟩, ⟨10, 11, 12, #[]⟩, ⟨74, 175, 176, #[]⟩, ⟨10, 491, 222, #[]⟩, ⟨74, 29, 30, #[]⟩, ⟨74, 154, 155, #[]⟩, ⟨10, 217, 218, #[]⟩, ⟨10, 221, 222, #[]⟩, ⟨8, 562, 563, #[]⟩])
  fields := #[⟨"in", (.object "java/io/InputStream"), 25, 0, 0⟩, ⟨"out", (.object "java/io/PrintStream"), 25, 1, 0⟩, ⟨"err", (.object "java/io/PrintStream"), 25, 2, 0⟩, ⟨"initialIn", (.object "java/io/InputStream"), 10, 3, 0⟩, ⟨"NEVER", .int, 26, 4, 0⟩, ⟨"MAYBE", .int, 26, 5, 0⟩, ⟨"allowSecurityManager", .int, 10, 6, 0⟩, ⟨"security", (.object "java/lang/SecurityManager"), 74, 7, 0⟩, ⟨"notSupportedJnuEncoding", (.object "java/lang/String"), 10, 8, 0⟩, ⟨"cons", (.object "java/io/Console"), 74, 9, 0⟩, ⟨"initialErrStream", (.object "java/io/PrintStream"), 74, 10, 0⟩, ⟨"props", (.object "java/util/Properties"), 10, 11, 0⟩, ⟨"lineSeparator", (.object "java/lang/String"), 10, 12, 0⟩, ⟨"bootLayer", (.object "java/lang/ModuleLayer"), 8, 13, 0⟩]
  methods := #[k22m0, k22m1]
  instanceTypes := #[]
  staticTypes := #[(.object "java/io/InputStream"), (.object "java/io/PrintStream"), (.object "java/io/PrintStream"), (.object "java/io/InputStream"), .int, .int, .int, (.object "java/lang/SecurityManager"), (.object "java/lang/String"), (.object "java/io/Console"), (.object "java/io/PrintStream"), (.object "java/util/Properties"), (.object "java/lang/String"), (.object "java/lang/ModuleLayer")]
  resolved := Array.replicate 834 none
  statics := none }

def pool23 : Array CpInfo := pool [(3, .class_ 4), (0, u "java/lang/String"), (1, .class_ 8), (1, u "java/lang/Object"), (0, u "<init>"), (0, u "()V"), (0, .methodref 12 13), (0, .class_ 14), (0, .nameAndType 15 16), (0, u "java/lang/StringUTF16"), (0, u "newBytesLength"), (0, u "(I)I"), (3, .integer 1073741823), (23, .fieldref 12 45), (0, .nameAndType 46 47), (0, u "$assertionsDisabled"), (0, u "Z"), (0, .methodref 12 49), (0, .nameAndType 50 51), (0, u "length"), (0, u "([B)I"), (7, .fieldref 12 60), (0, .nameAndType 61 62), (0, u "HI_BYTE_SHIFT"), (0, u "I"), (0, .fieldref 12 64), (0, .nameAndType 65 62), (0, u "LO_BYTE_SHIFT"), (1, .methodref 12 68), (0, .nameAndType 69 70), (0, u "checkIndex"), (0, u "(I[B)V"), (0, .methodref 12 72), (0, .nameAndType 73 74), (0, u "getChar"), (0, u "([BI)C"), (24, u "(II[B)V"), (9, u "newBytesFor"), (0, u "(I)[B"), (0, .methodref 12 112), (0, .nameAndType 113 114), (0, u "putChar"), (0, u "([BII)V"), (25, u "inflate"), (0, u "([BI[BII)V"), (31, .methodref 12 174), (0, .nameAndType 175 99), (0, u "checkBoundsOffCount"), (105, u "(III)I"), (87, .class_ 371), (1, u "java/lang/StringUTF16$LinesSpliterator"), (20, u "charAt"), (21, .methodref 3 415), (0, .nameAndType 69 416), (0, u "(II)V"), (2, .methodref 3 420), (0, .nameAndType 175 281), (9, u "MAX_LENGTH"), (196, .class_ 628), (0, u "java/lang/StringUTF16$CodePointsSpliterator"), (0, .class_ 630), (0, u "java/lang/StringUTF16$CharsSpliterator")] 4

def k23m0 : Method := mt "<init>" "()V" [] (none) 0 (none)
def k23c1 : Code := { maxStack := 1, maxLocals := 1, code := jdk_52_method_2_code, exceptionTable := #[], attributes := #[] }
def k23m1 : Method := mt "newBytesFor" "(I)[B" [.int] (some (.array .byte)) 9 (some k23c1)
def k23c2 : Code := { maxStack := 4, maxLocals := 1, code := jdk_52_method_3_code, exceptionTable := #[], attributes := #[] }
def k23m2 : Method := mt "newBytesLength" "(I)I" [.int] (some .int) 9 (some k23c2)
def k23c3 : Code := { maxStack := 4, maxLocals := 3, code := jdk_52_method_4_code, exceptionTable := #[], attributes := #[] }
def k23m3 : Method := mt "putChar" "([BII)V" [(.array .byte), .int, .int] (none) 8 (some k23c3)
def k23c4 : Code := { maxStack := 3, maxLocals := 2, code := jdk_52_method_5_code, exceptionTable := #[], attributes := #[] }
def k23m4 : Method := mt "getChar" "([BI)C" [(.array .byte), .int] (some .char) 8 (some k23c4)
def k23c5 : Code := { maxStack := 2, maxLocals := 1, code := jdk_52_method_6_code, exceptionTable := #[], attributes := #[] }
def k23m5 : Method := mt "length" "([B)I" [(.array .byte)] (some .int) 9 (some k23c5)
def k23c6 : Code := { maxStack := 2, maxLocals := 2, code := jdk_52_method_83_code, exceptionTable := #[], attributes := #[] }
def k23m6 : Method := mt "charAt" "([BI)C" [(.array .byte), .int] (some .char) 9 (some k23c6)
def k23c7 : Code := { maxStack := 4, maxLocals := 6, code := jdk_52_method_86_code, exceptionTable := #[], attributes := #[] }
def k23m7 : Method := mt "inflate" "([BI[BII)V" [(.array .byte), .int, (.array .byte), .int, .int] (none) 9 (some k23c7)
def k23c8 : Code := { maxStack := 2, maxLocals := 2, code := jdk_52_method_91_code, exceptionTable := #[], attributes := #[] }
def k23m8 : Method := mt "checkIndex" "(I[B)V" [.int, (.array .byte)] (none) 9 (some k23c8)
def k23c9 : Code := { maxStack := 3, maxLocals := 3, code := jdk_52_method_94_code, exceptionTable := #[], attributes := #[] }
def k23m9 : Method := mt "checkBoundsOffCount" "(II[B)V" [.int, .int, (.array .byte)] (none) 9 (some k23c9)
/-- java/lang/StringUTF16 -/
def k23 : Class := { plain "java/lang/StringUTF16" (some 0) with
  accessFlags := 48
  interfaces := #[]
  cf := some (fileOf pool23 12 #[.nestMembers #[627, 629, 369]] #[⟨0, 9, 10, #[]⟩, ⟨9, 109, 110, #[]⟩, ⟨9, 15, 16, #[]⟩, ⟨8, 113, 114, #[]⟩, ⟨8, 73, 74, #[]⟩, ⟨9, 50, 51, #[]⟩, ⟨9, 392, 74, #[]⟩, ⟨9, 140, 141, #[]⟩, ⟨9, 69, 70, #[]⟩, ⟨9, 175, 99, #[]⟩] 48 6 #[] #[⟨26, 61, 62, #[]⟩, ⟨26, 65, 62, #[]⟩, ⟨24, 430, 62, #[]⟩, ⟨4120, 46, 47, #[]⟩])
  fields := #[⟨"HI_BYTE_SHIFT", .int, 26, 0, 0⟩, ⟨"LO_BYTE_SHIFT", .int, 26, 1, 0⟩, ⟨"MAX_LENGTH", .int, 24, 2, 0⟩, ⟨"$assertionsDisabled", .boolean, 4120, 3, 0⟩]
  methods := #[k23m0, k23m1, k23m2, k23m3, k23m4, k23m5, k23m6, k23m7, k23m8, k23m9]
  instanceTypes := #[]
  staticTypes := #[.int, .int, .int, .boolean]
  resolved := Array.replicate 635 none
  statics := some 5 }

def pool24 : Array CpInfo := pool [(9, u "<init>"), (6, .class_ 18), (1, u "java/lang/Object"), (0, u "()V"), (1, .class_ 23), (1, u "jdk/internal/util/ArraysSupport"), (0, u "LOG2_ARRAY_LONG_INDEX_SCALE"), (0, u "I"), (2, u "U"), (0, u "Ljdk/internal/misc/Unsafe;"), (8, u "BIG_ENDIAN"), (0, u "Z"), (8, u "LOG2_BYTE_BIT_SIZE"), (4, u "LOG2_ARRAY_INT_INDEX_SCALE"), (54, u "JLA"), (0, u "Ljdk/internal/access/JavaLangAccess;"), (11, u "LOG2_ARRAY_BOOLEAN_INDEX_SCALE"), (9, u "LOG2_ARRAY_BYTE_INDEX_SCALE"), (5, u "LOG2_ARRAY_CHAR_INDEX_SCALE"), (5, u "LOG2_ARRAY_SHORT_INDEX_SCALE"), (18, u "LOG2_ARRAY_FLOAT_INDEX_SCALE"), (24, u "LOG2_ARRAY_DOUBLE_INDEX_SCALE"), (89, u "T_BOOLEAN"), (2, u "T_CHAR"), (1, u "T_FLOAT"), (1, u "T_DOUBLE"), (1, u "T_BYTE"), (1, u "T_SHORT"), (1, u "T_INT"), (1, u "T_LONG"), (1, u "SOFT_MAX_ARRAY_LENGTH")] 83

def k24m0 : Method := mt "<init>" "()V" [] (none) 2 (none)
/-- jdk/internal/util/ArraysSupport -/
def k24 : Class := { plain "jdk/internal/util/ArraysSupport" (some 0) with
  accessFlags := 33
  interfaces := #[]
  cf := some (fileOf pool24 21 #[] #[⟨2, 9, 19, #[]⟩] 33 16 #[] #[⟨24, 28, 29, #[]⟩, ⟨26, 38, 39, #[]⟩, ⟨25, 121, 25, #[]⟩, ⟨25, 131, 25, #[]⟩, ⟨25, 137, 25, #[]⟩, ⟨25, 143, 25, #[]⟩, ⟨25, 53, 25, #[]⟩, ⟨25, 24, 25, #[]⟩, ⟨25, 162, 25, #[]⟩, ⟨25, 187, 25, #[]⟩, ⟨26, 48, 25, #[]⟩, ⟨25, 277, 25, #[]⟩, ⟨25, 280, 25, #[]⟩, ⟨25, 282, 25, #[]⟩, ⟨25, 284, 25, #[]⟩, ⟨25, 286, 25, #[]⟩, ⟨25, 288, 25, #[]⟩, ⟨25, 290, 25, #[]⟩, ⟨25, 292, 25, #[]⟩, ⟨26, 108, 109, #[]⟩, ⟨25, 294, 25, #[]⟩])
  fields := #[⟨"U", (.object "jdk/internal/misc/Unsafe"), 24, 0, 0⟩, ⟨"BIG_ENDIAN", .boolean, 26, 1, 0⟩, ⟨"LOG2_ARRAY_BOOLEAN_INDEX_SCALE", .int, 25, 2, 0⟩, ⟨"LOG2_ARRAY_BYTE_INDEX_SCALE", .int, 25, 3, 0⟩, ⟨"LOG2_ARRAY_CHAR_INDEX_SCALE", .int, 25, 4, 0⟩, ⟨"LOG2_ARRAY_SHORT_INDEX_SCALE", .int, 25, 5, 0⟩, ⟨"LOG2_ARRAY_INT_INDEX_SCALE", .int, 25, 6, 0⟩, ⟨"LOG2_ARRAY_LONG_INDEX_SCALE", .int, 25, 7, 0⟩, ⟨"LOG2_ARRAY_FLOAT_INDEX_SCALE", .int, 25, 8, 0⟩, ⟨"LOG2_ARRAY_DOUBLE_INDEX_SCALE", .int, 25, 9, 0⟩, ⟨"LOG2_BYTE_BIT_SIZE", .int, 26, 10, 0⟩, ⟨"T_BOOLEAN", .int, 25, 11, 0⟩, ⟨"T_CHAR", .int, 25, 12, 0⟩, ⟨"T_FLOAT", .int, 25, 13, 0⟩, ⟨"T_DOUBLE", .int, 25, 14, 0⟩, ⟨"T_BYTE", .int, 25, 15, 0⟩, ⟨"T_SHORT", .int, 25, 16, 0⟩, ⟨"T_INT", .int, 25, 17, 0⟩, ⟨"T_LONG", .int, 25, 18, 0⟩, ⟨"JLA", (.object "jdk/internal/access/JavaLangAccess"), 26, 19, 0⟩, ⟨"SOFT_MAX_ARRAY_LENGTH", .int, 25, 20, 0⟩]
  methods := #[k24m0]
  instanceTypes := #[]
  staticTypes := #[(.object "jdk/internal/misc/Unsafe"), .boolean, .int, .int, .int, .int, .int, .int, .int, .int, .int, .int, .int, .int, .int, .int, .int, .int, .int, (.object "jdk/internal/access/JavaLangAccess"), .int]
  resolved := Array.replicate 378 none
  statics := none }

def pool25 : Array CpInfo := pool [(1, u "java/lang/Cloneable"), (0, .class_ 1), (0, u "java/lang/Object"), (0, .class_ 3)] 3

/-- java/lang/Cloneable -/
def k25 : Class := { plain "java/lang/Cloneable" (some 0) with
  accessFlags := 1537
  interfaces := #[]
  cf := some (fileOf pool25 2 #[] #[] 1537 4 #[] #[])
  fields := #[]
  methods := #[]
  instanceTypes := #[]
  staticTypes := #[]
  resolved := Array.replicate 8 none
  statics := none }

/-- the primitive byte -/
def k26 : Class := { plain "byte" none with kind := .primitive 'B', accessFlags := 0x411 }
/-- [B -/
def k27 : Class := { plain "[B" (some 0) with kind := .array 26 .byte, interfaces := #[25, 2], accessFlags := 1041 }

/-- the primitive int -/
def k28 : Class := { plain "int" none with kind := .primitive 'I', accessFlags := 0x411 }
/-- [I -/
def k29 : Class := { plain "[I" (some 0) with kind := .array 28 .int, interfaces := #[25, 2], accessFlags := 1041 }

def heap : Heap := #[{ cls := 7, slots := #[.long 0, .int 1, .null, .int 0, .null, .int 0, .int 0], vm := .statics 7 },
  { cls := 10, slots := #[.ref 7, .ref 6, .ref 8, .null], vm := .statics 10 },
  { cls := 11, slots := #[.null, .null, .ref 9, .null, .null, .null], vm := .statics 11 },
  { cls := 16, slots := #[.ref 9, .null], vm := .statics 16 },
  { cls := 17, slots := #[.null, .null, .null], vm := .statics 17 },
  { cls := 23, slots := #[.int 0, .int 8, .int 0, .int 1], vm := .statics 23 },
  { cls := 10, slots := #[.null, .int 1, .int 0], vm := .none },
  { cls := 10, slots := #[.null, .int 0, .int 0], vm := .none },
  { cls := 10, slots := #[.null, .int 2, .int 0], vm := .none },
  { cls := 16, slots := #[.null, .null, .null], vm := .none }]
def classes : Array Class := #[k0, k1, k2, k3, k4, k5, k6, k7, k8, k9, k10, k11, k12, k13, k14, k15, k16, k17, k18, k19, k20, k21, k22, k23, k24, k25, k26, k27, k28, k29]
def interned : List (Array UInt16 × Addr) := []
def slotsUsed : Nat := 38
def theMethod : MethodId := ⟨1, 1⟩
def args0 : Array Value := #[.int 5, .int 5, .int 5, .int 5]
def aboutOver (below : List Frame) : State where
  vm := { classes := classes, interned := interned.toArray }
  heap := heap
  slotsUsed := slotsUsed
  threads := #[{ frames := .invoking theMethod args0 :: below }]
def below0 : List Frame := [.native { method := ⟨0, 0⟩, args := #[] }]
def about1 : State := aboutOver below0
def p0 : Program := .bare "" "" ""
def e0 : Env := launch0.env 0 0 0
theorem w_frames : about1.frames = Frame.invoking theMethod args0 :: below0 := rfl
theorem w_args : argsFit about1.vm theMethod args0 = true := by decide +kernel
theorem w_heap : heapFits about1 = true := by decide +kernel
theorem w_runnable : about1.curStatus? = some .runnable := by decide +kernel
theorem w_alone : about1.alone = true := by decide +kernel
theorem w_named : about1.methodNamed? x = some theMethod := by decide +kernel
theorem w_hears : about1.hears theMethod below0 = true := by decide +kernel
theorem w_ripe : about1.ripe theMethod args0 below0 = true := by decide +kernel
theorem w_running : about1.status = .running := rfl
theorem w_room : about1.hasRoom e0.platform room_1 = true :=
  launch0.hasRoom_least _ room_1 (by decide +kernel) (by decide +kernel) (by decide +kernel) (by decide +kernel) (by decide +kernel) (by decide +kernel)
theorem allAtoms_all (ts : List Jvm.Cond) (a : Array Jvm.Value) (st : Jvm.State) : (allAtoms ts).before a st = ts.all (fun c => c.before a st) := by
  induction ts with
  | nil => rfl
  | cons c t ih =>
    show (Jvm.Cond.and c (allAtoms t)).before a st = _
    rw [Jvm.Cond.before_and, ih, List.all_cons]
def words1 : List Jvm.Cond := Jvm.Cond.code x code maxLocals ret :: tables_1
/-- a 'code' word, met by the world's own term for the bytes: nothing is compared byte by byte -/
theorem code_word {y : MethodName} {bytes : ByteArray} {mx : Nat} {rt : Option FieldType} {a : Array Value} {s : State} {m : MethodId} {meth : Method} {c : Code} (h1 : s.methodNamed? y = some m) (h2 : s.vm.method? m = some meth) (h3 : meth.code = some c) (h4 : c.code = bytes)
    (h5 : (c.maxLocals == mx && c.exceptionTable.isEmpty && decide (c.maxStack ≤ mostOperands) && decide (meth.sig.returnType = rt) && !meth.locks && decide (parseMethodDescriptor y.desc = some meth.sig)) = true) : (Jvm.Cond.code y bytes mx rt).before a s = true := by
  simp only [Bool.and_eq_true, beq_iff_eq, Bool.not_eq_true', decide_eq_true_eq] at h5
  obtain ⟨⟨⟨⟨⟨g1, g2⟩, g3⟩, g4⟩, g5⟩, g6⟩ := h5
  simp [Cond.before, Cond.holds, Cond.value, h1, h2, h3, h4, g1, g2, g3, g4, g5, g6]
theorem codeW_word {y : MethodName} {bytes : ByteArray} {mx : Nat} {rt : Option FieldType} {hs : List (Nat × Nat × Nat × Nat)} {a : Array Value} {s : State} {m : MethodId} {meth : Method} {c : Code} (h1 : s.methodNamed? y = some m) (h2 : s.vm.method? m = some meth) (h3 : meth.code = some c) (h4 : c.code = bytes)
    (h5 : (c.maxLocals == mx && decide (c.exceptionTable.toList.map (fun h => (h.startPc, h.endPc, h.handlerPc, h.catchType)) = hs) && decide (c.maxStack ≤ mostOperands) && decide (meth.sig.returnType = rt) && !meth.locks && decide (parseMethodDescriptor y.desc = some meth.sig)) = true) : (Jvm.Cond.codeWith y bytes mx rt hs).before a s = true := by
  simp only [Bool.and_eq_true, beq_iff_eq, Bool.not_eq_true', decide_eq_true_eq] at h5
  obtain ⟨⟨⟨⟨⟨g1, g2⟩, g3⟩, g4⟩, g5⟩, g6⟩ := h5
  simp only [Cond.before, Cond.holds, Cond.value, h1, h2, h3, h4, g1, g2, g3, g4, g5, g6, Option.bind_some, Option.map_some, Option.any_some, decide_true, beq_self_eq_true, Bool.and_true, Bool.not_false]
def isCode : Jvm.Cond → Bool
  | .code _ _ _ _ => true
  | .codeWith _ _ _ _ _ => true
  | _ => false
theorem all_split {L : List Jvm.Cond} {P : Jvm.Cond → Bool} (h1 : L.all (fun c => isCode c || P c) = true) (h2 : ∀ c ∈ L.filter isCode, P c = true) : L.all P = true := by
  refine List.all_eq_true.mpr fun c hc => ?_
  have h := List.all_eq_true.mp h1 c hc
  rcases Bool.eq_false_or_eq_true (isCode c) with hi | hi
  · exact h2 c (List.mem_filter.mpr ⟨hc, hi⟩)
  · simpa [hi] using h
theorem w_c0 : (Jvm.Cond.code x code maxLocals ret).before args0 about1 = true := code_word (m := ⟨1, 1⟩) (meth := k1m1) (c := k1c1) (by decide +kernel) rfl rfl rfl (by decide +kernel)
theorem w_c1 : (Jvm.Cond.code mn26 method_8_code (1 : Nat) (Option.some (Jvm.ClassFile.FieldType.object "java/lang/String"))).before args0 about1 = true := code_word (m := ⟨1, 7⟩) (meth := k1m7) (c := k1c7) (by decide +kernel) rfl rfl rfl (by decide +kernel)
theorem w_c2 : (Jvm.Cond.code mn25 method_10_code (3 : Nat) (Option.some .int)).before args0 about1 = true := code_word (m := ⟨1, 9⟩) (meth := k1m9) (c := k1c9) (by decide +kernel) rfl rfl rfl (by decide +kernel)
theorem w_c3 : (Jvm.Cond.code mn24 method_11_code (4 : Nat) (Option.none : Option Jvm.ClassFile.FieldType)).before args0 about1 = true := code_word (m := ⟨1, 10⟩) (meth := k1m10) (c := k1c10) (by decide +kernel) rfl rfl rfl (by decide +kernel)
theorem w_c4 : (Jvm.Cond.code mn11 jdk_42_method_54_code (1 : Nat) (Option.some .int)).before args0 about1 = true := code_word (m := ⟨7, 4⟩) (meth := k7m4) (c := k7c4) (by decide +kernel) rfl rfl rfl (by decide +kernel)
theorem w_c5 : (Jvm.Cond.code mn9 jdk_42_method_152_code (1 : Nat) (Option.some .byte)).before args0 about1 = true := code_word (m := ⟨7, 6⟩) (meth := k7m6) (c := k7c6) (by decide +kernel) rfl rfl rfl (by decide +kernel)
theorem w_c6 : (Jvm.Cond.code mn22 method_7_code (1 : Nat) (Option.some .byte)).before args0 about1 = true := code_word (m := ⟨1, 6⟩) (meth := k1m6) (c := k1c6) (by decide +kernel) rfl rfl rfl (by decide +kernel)
theorem w_c7 : (Jvm.Cond.code mn6 prog_7_method_1_code (4 : Nat) (Option.none : Option Jvm.ClassFile.FieldType)).before args0 about1 = true := code_word (m := ⟨8, 0⟩) (meth := k8m0) (c := k8c0) (by decide +kernel) rfl rfl rfl (by decide +kernel)
theorem w_c8 : (Jvm.Cond.code ({ cls := "java/lang/Object", name := "<init>", desc := "()V" } : Jvm.MethodName) object_method_1_code (1 : Nat) (Option.none : Option Jvm.ClassFile.FieldType)).before args0 about1 = true := code_word (m := ⟨0, 0⟩) (meth := k0m0) (c := k0c0) (by decide +kernel) rfl rfl rfl (by decide +kernel)
theorem w_c9 : (Jvm.Cond.code mn18 prog_7_method_3_code (5 : Nat) (Option.some .boolean)).before args0 about1 = true := code_word (m := ⟨8, 1⟩) (meth := k8m1) (c := k8c1) (by decide +kernel) rfl rfl rfl (by decide +kernel)
theorem w_c10 : (Jvm.Cond.code mn1 prog_7_method_25_code (4 : Nat) (Option.some .int)).before args0 about1 = true := code_word (m := ⟨8, 13⟩) (meth := k8m13) (c := k8c13) (by decide +kernel) rfl rfl rfl (by decide +kernel)
theorem w_c11 : (Jvm.Cond.code mn3 prog_7_method_16_code (2 : Nat) (Option.some .byte)).before args0 about1 = true := code_word (m := ⟨8, 7⟩) (meth := k8m7) (c := k8c7) (by decide +kernel) rfl rfl rfl (by decide +kernel)
theorem w_c12 : (Jvm.Cond.code mn2 prog_7_method_15_code (4 : Nat) (Option.some .int)).before args0 about1 = true := code_word (m := ⟨8, 6⟩) (meth := k8m6) (c := k8c6) (by decide +kernel) rfl rfl rfl (by decide +kernel)
theorem w_c13 : (Jvm.Cond.code mn0 prog_7_method_19_code (1 : Nat) (Option.some .boolean)).before args0 about1 = true := code_word (m := ⟨8, 10⟩) (meth := k8m10) (c := k8c10) (by decide +kernel) rfl rfl rfl (by decide +kernel)
theorem w_c14 : (Jvm.Cond.code mn23 prog_7_method_4_code (1 : Nat) (Option.some (Jvm.ClassFile.FieldType.object "com/example/holdfast/holdfast/xml/Markup$Kind"))).before args0 about1 = true := code_word (m := ⟨8, 2⟩) (meth := k8m2) (c := k8c2) (by decide +kernel) rfl rfl rfl (by decide +kernel)
theorem w_c15 : (Jvm.Cond.code mn5 prog_7_method_5_code (1 : Nat) (Option.some .int)).before args0 about1 = true := code_word (m := ⟨8, 3⟩) (meth := k8m3) (c := k8c3) (by decide +kernel) rfl rfl rfl (by decide +kernel)
theorem w_c16 : (Jvm.Cond.code mn4 prog_7_method_6_code (1 : Nat) (Option.some .int)).before args0 about1 = true := code_word (m := ⟨8, 4⟩) (meth := k8m4) (c := k8c4) (by decide +kernel) rfl rfl rfl (by decide +kernel)
theorem w_c17 : (Jvm.Cond.code mn46 prog_7_method_11_code (1 : Nat) (Option.some (Jvm.ClassFile.FieldType.object "java/lang/String"))).before args0 about1 = true := code_word (m := ⟨8, 5⟩) (meth := k8m5) (c := k8c5) (by decide +kernel) rfl rfl rfl (by decide +kernel)
theorem w_c18 : (Jvm.Cond.code mn45 jdk_42_method_10_code (5 : Nat) (Option.none : Option Jvm.ClassFile.FieldType)).before args0 about1 = true := code_word (m := ⟨7, 1⟩) (meth := k7m1) (c := k7c1) (by decide +kernel) rfl rfl rfl (by decide +kernel)
theorem w_c19 : (Jvm.Cond.code mn32 jdk_31_method_10_code (1 : Nat) (Option.some (Jvm.ClassFile.FieldType.object "java/lang/Object"))).before args0 about1 = true := code_word (m := ⟨12, 1⟩) (meth := k12m1) (c := k12c1) (by decide +kernel) rfl rfl rfl (by decide +kernel)
theorem w_c20 : (Jvm.Cond.code mn39 jdk_42_method_157_code (3 : Nat) (Option.some .int)).before args0 about1 = true := code_word (m := ⟨7, 9⟩) (meth := k7m9) (c := k7c9) (by decide +kernel) rfl rfl rfl (by decide +kernel)
theorem w_c21 : (Jvm.Cond.code mn38 jdk_41_method_13_code (4 : Nat) (Option.some .int)).before args0 about1 = true := code_word (m := ⟨17, 2⟩) (meth := k17m2) (c := k17c2) (by decide +kernel) rfl rfl rfl (by decide +kernel)
theorem w_cW : (Jvm.Cond.codeWith mn44 jdk_42_method_11_code (11 : Nat) (Option.none : Option Jvm.ClassFile.FieldType) [((800 : Nat), (813 : Nat), (816 : Nat), (202 : Nat))]).before args0 about1 = true := codeW_word (m := ⟨7, 2⟩) (meth := k7m2) (c := k7c2) (by decide +kernel) rfl rfl rfl (by decide +kernel)
theorem w_c22 : (Jvm.Cond.code mn50 method_3_code (3 : Nat) (Option.some .boolean)).before args0 about1 = true := code_word (m := ⟨1, 2⟩) (meth := k1m2) (c := k1c2) (by decide +kernel) rfl rfl rfl (by decide +kernel)
theorem w_c23 : (Jvm.Cond.code mn13 jdk_42_method_56_code (2 : Nat) (Option.some .char)).before args0 about1 = true := code_word (m := ⟨7, 5⟩) (meth := k7m5) (c := k7c5) (by decide +kernel) rfl rfl rfl (by decide +kernel)
theorem w_c24 : (Jvm.Cond.code mn10 jdk_42_method_154_code (1 : Nat) (Option.some .boolean)).before args0 about1 = true := code_word (m := ⟨7, 7⟩) (meth := k7m7) (c := k7c7) (by decide +kernel) rfl rfl rfl (by decide +kernel)
theorem w_c25 : (Jvm.Cond.code mn12 jdk_43_method_2_code (2 : Nat) (Option.some .char)).before args0 about1 = true := code_word (m := ⟨18, 1⟩) (meth := k18m1) (c := k18c1) (by decide +kernel) rfl rfl rfl (by decide +kernel)
theorem w_c26 : (Jvm.Cond.code mn8 jdk_42_method_155_code (2 : Nat) (Option.none : Option Jvm.ClassFile.FieldType)).before args0 about1 = true := code_word (m := ⟨7, 8⟩) (meth := k7m8) (c := k7c8) (by decide +kernel) rfl rfl rfl (by decide +kernel)
theorem w_c27 : (Jvm.Cond.code mn7 jdk_41_method_11_code (3 : Nat) (Option.some .int)).before args0 about1 = true := code_word (m := ⟨17, 1⟩) (meth := k17m1) (c := k17c1) (by decide +kernel) rfl rfl rfl (by decide +kernel)
theorem w_c28 : (Jvm.Cond.code mn27 method_9_code (1 : Nat) (Option.some (Jvm.ClassFile.FieldType.object "java/lang/String"))).before args0 about1 = true := code_word (m := ⟨1, 8⟩) (meth := k1m8) (c := k1c8) (by decide +kernel) rfl rfl rfl (by decide +kernel)
theorem w_c29 : (Jvm.Cond.code mn17 prog_7_method_17_code (3 : Nat) (Option.some .int)).before args0 about1 = true := code_word (m := ⟨8, 8⟩) (meth := k8m8) (c := k8c8) (by decide +kernel) rfl rfl rfl (by decide +kernel)
theorem w_c30 : (Jvm.Cond.code mn14 prog_7_method_23_code (4 : Nat) (Option.some .boolean)).before args0 about1 = true := code_word (m := ⟨8, 12⟩) (meth := k8m12) (c := k8c12) (by decide +kernel) rfl rfl rfl (by decide +kernel)
theorem w_c31 : (Jvm.Cond.code mn16 prog_7_method_18_code (5 : Nat) (Option.some .int)).before args0 about1 = true := code_word (m := ⟨8, 9⟩) (meth := k8m9) (c := k8c9) (by decide +kernel) rfl rfl rfl (by decide +kernel)
theorem w_c32 : (Jvm.Cond.code mn15 prog_7_method_22_code (4 : Nat) (Option.some .int)).before args0 about1 = true := code_word (m := ⟨8, 11⟩) (meth := k8m11) (c := k8c11) (by decide +kernel) rfl rfl rfl (by decide +kernel)
theorem w_c33 : (Jvm.Cond.code mn20 method_5_code (2 : Nat) (Option.some .byte)).before args0 about1 = true := code_word (m := ⟨1, 4⟩) (meth := k1m4) (c := k1c4) (by decide +kernel) rfl rfl rfl (by decide +kernel)
theorem w_c34 : (Jvm.Cond.code mn28 jdk_123_method_3_code (5 : Nat) (Option.some .int)).before args0 about1 = true := code_word (m := ⟨19, 1⟩) (meth := k19m1) (c := k19c1) (by decide +kernel) rfl rfl rfl (by decide +kernel)
theorem w_c35 : (Jvm.Cond.code mn34 jdk_65_method_132_code (3 : Nat) (Option.some (Jvm.ClassFile.FieldType.array Jvm.ClassFile.FieldType.byte))).before args0 about1 = true := code_word (m := ⟨20, 2⟩) (meth := k20m2) (c := k20c2) (by decide +kernel) rfl rfl rfl (by decide +kernel)
theorem w_c36 : (Jvm.Cond.code mn33 jdk_65_method_133_code (5 : Nat) (Option.some (Jvm.ClassFile.FieldType.array Jvm.ClassFile.FieldType.byte))).before args0 about1 = true := code_word (m := ⟨20, 3⟩) (meth := k20m3) (c := k20c3) (by decide +kernel) rfl rfl rfl (by decide +kernel)
theorem w_c37 : (Jvm.Cond.code mn31 jdk_65_method_131_code (2 : Nat) (Option.none : Option Jvm.ClassFile.FieldType)).before args0 about1 = true := code_word (m := ⟨20, 1⟩) (meth := k20m1) (c := k20c1) (by decide +kernel) rfl rfl rfl (by decide +kernel)
theorem w_c38 : (Jvm.Cond.code mn30 jdk_29_method_69_code (2 : Nat) (Option.some .int)).before args0 about1 = true := code_word (m := ⟨21, 1⟩) (meth := k21m1) (c := k21c1) (by decide +kernel) rfl rfl rfl (by decide +kernel)
theorem w_c39 : (Jvm.Cond.code mn36 jdk_52_method_2_code (1 : Nat) (Option.some (Jvm.ClassFile.FieldType.array Jvm.ClassFile.FieldType.byte))).before args0 about1 = true := code_word (m := ⟨23, 1⟩) (meth := k23m1) (c := k23c1) (by decide +kernel) rfl rfl rfl (by decide +kernel)
theorem w_c40 : (Jvm.Cond.code mn35 jdk_52_method_3_code (1 : Nat) (Option.some .int)).before args0 about1 = true := code_word (m := ⟨23, 2⟩) (meth := k23m2) (c := k23c2) (by decide +kernel) rfl rfl rfl (by decide +kernel)
theorem w_c41 : (Jvm.Cond.code mn42 jdk_43_method_50_code (5 : Nat) (Option.none : Option Jvm.ClassFile.FieldType)).before args0 about1 = true := code_word (m := ⟨18, 2⟩) (meth := k18m2) (c := k18c2) (by decide +kernel) rfl rfl rfl (by decide +kernel)
theorem w_c42 : (Jvm.Cond.code mn41 jdk_52_method_86_code (6 : Nat) (Option.none : Option Jvm.ClassFile.FieldType)).before args0 about1 = true := code_word (m := ⟨23, 7⟩) (meth := k23m7) (c := k23c7) (by decide +kernel) rfl rfl rfl (by decide +kernel)
theorem w_c43 : (Jvm.Cond.code mn40 jdk_52_method_94_code (3 : Nat) (Option.none : Option Jvm.ClassFile.FieldType)).before args0 about1 = true := code_word (m := ⟨23, 9⟩) (meth := k23m9) (c := k23c9) (by decide +kernel) rfl rfl rfl (by decide +kernel)
theorem w_c44 : (Jvm.Cond.code mn37 jdk_52_method_6_code (1 : Nat) (Option.some .int)).before args0 about1 = true := code_word (m := ⟨23, 5⟩) (meth := k23m5) (c := k23c5) (by decide +kernel) rfl rfl rfl (by decide +kernel)
theorem w_c45 : (Jvm.Cond.code mn29 jdk_52_method_4_code (3 : Nat) (Option.none : Option Jvm.ClassFile.FieldType)).before args0 about1 = true := code_word (m := ⟨23, 3⟩) (meth := k23m3) (c := k23c3) (by decide +kernel) rfl rfl rfl (by decide +kernel)
theorem w_c46 : (Jvm.Cond.code mn43 jdk_42_method_38_code (11 : Nat) (Option.some .int)).before args0 about1 = true := code_word (m := ⟨7, 3⟩) (meth := k7m3) (c := k7c3) (by decide +kernel) rfl rfl rfl (by decide +kernel)
theorem w_c47 : (Jvm.Cond.code mn21 method_6_code (2 : Nat) (Option.some .char)).before args0 about1 = true := code_word (m := ⟨1, 5⟩) (meth := k1m5) (c := k1c5) (by decide +kernel) rfl rfl rfl (by decide +kernel)
theorem w_c48 : (Jvm.Cond.code mn49 jdk_52_method_83_code (2 : Nat) (Option.some .char)).before args0 about1 = true := code_word (m := ⟨23, 6⟩) (meth := k23m6) (c := k23c6) (by decide +kernel) rfl rfl rfl (by decide +kernel)
theorem w_c49 : (Jvm.Cond.code mn47 jdk_52_method_91_code (2 : Nat) (Option.none : Option Jvm.ClassFile.FieldType)).before args0 about1 = true := code_word (m := ⟨23, 8⟩) (meth := k23m8) (c := k23c8) (by decide +kernel) rfl rfl rfl (by decide +kernel)
theorem w_c50 : (Jvm.Cond.code mn48 jdk_52_method_5_code (2 : Nat) (Option.some .char)).before args0 about1 = true := code_word (m := ⟨23, 4⟩) (meth := k23m4) (c := k23c4) (by decide +kernel) rfl rfl rfl (by decide +kernel)
theorem w_c51 : (Jvm.Cond.code mn19 method_4_code (2 : Nat) (Option.some .byte)).before args0 about1 = true := code_word (m := ⟨1, 3⟩) (meth := k1m3) (c := k1c3) (by decide +kernel) rfl rfl rfl (by decide +kernel)
def codes1 : List Jvm.Cond := [Jvm.Cond.code x code maxLocals ret, Jvm.Cond.code mn26 method_8_code (1 : Nat) (Option.some (Jvm.ClassFile.FieldType.object "java/lang/String")), Jvm.Cond.code mn25 method_10_code (3 : Nat) (Option.some .int), Jvm.Cond.code mn24 method_11_code (4 : Nat) (Option.none : Option Jvm.ClassFile.FieldType), Jvm.Cond.code mn11 jdk_42_method_54_code (1 : Nat) (Option.some .int), Jvm.Cond.code mn9 jdk_42_method_152_code (1 : Nat) (Option.some .byte), Jvm.Cond.code mn22 method_7_code (1 : Nat) (Option.some .byte), Jvm.Cond.code mn6 prog_7_method_1_code (4 : Nat) (Option.none : Option Jvm.ClassFile.FieldType), Jvm.Cond.code ({ cls := "java/lang/Object", name := "<init>", desc := "()V" } : Jvm.MethodName) object_method_1_code (1 : Nat) (Option.none : Option Jvm.ClassFile.FieldType), Jvm.Cond.code mn18 prog_7_method_3_code (5 : Nat) (Option.some .boolean), Jvm.Cond.code mn1 prog_7_method_25_code (4 : Nat) (Option.some .int), Jvm.Cond.code mn3 prog_7_method_16_code (2 : Nat) (Option.some .byte), Jvm.Cond.code mn2 prog_7_method_15_code (4 : Nat) (Option.some .int), Jvm.Cond.code mn0 prog_7_method_19_code (1 : Nat) (Option.some .boolean), Jvm.Cond.code mn23 prog_7_method_4_code (1 : Nat) (Option.some (Jvm.ClassFile.FieldType.object "com/example/holdfast/holdfast/xml/Markup$Kind")), Jvm.Cond.code mn5 prog_7_method_5_code (1 : Nat) (Option.some .int), Jvm.Cond.code mn4 prog_7_method_6_code (1 : Nat) (Option.some .int), Jvm.Cond.code mn46 prog_7_method_11_code (1 : Nat) (Option.some (Jvm.ClassFile.FieldType.object "java/lang/String")), Jvm.Cond.code mn45 jdk_42_method_10_code (5 : Nat) (Option.none : Option Jvm.ClassFile.FieldType), Jvm.Cond.code mn32 jdk_31_method_10_code (1 : Nat) (Option.some (Jvm.ClassFile.FieldType.object "java/lang/Object")), Jvm.Cond.code mn39 jdk_42_method_157_code (3 : Nat) (Option.some .int), Jvm.Cond.code mn38 jdk_41_method_13_code (4 : Nat) (Option.some .int), Jvm.Cond.codeWith mn44 jdk_42_method_11_code (11 : Nat) (Option.none : Option Jvm.ClassFile.FieldType) [((800 : Nat), (813 : Nat), (816 : Nat), (202 : Nat))], Jvm.Cond.code mn50 method_3_code (3 : Nat) (Option.some .boolean), Jvm.Cond.code mn13 jdk_42_method_56_code (2 : Nat) (Option.some .char), Jvm.Cond.code mn10 jdk_42_method_154_code (1 : Nat) (Option.some .boolean), Jvm.Cond.code mn12 jdk_43_method_2_code (2 : Nat) (Option.some .char), Jvm.Cond.code mn8 jdk_42_method_155_code (2 : Nat) (Option.none : Option Jvm.ClassFile.FieldType), Jvm.Cond.code mn7 jdk_41_method_11_code (3 : Nat) (Option.some .int), Jvm.Cond.code mn27 method_9_code (1 : Nat) (Option.some (Jvm.ClassFile.FieldType.object "java/lang/String")), Jvm.Cond.code mn17 prog_7_method_17_code (3 : Nat) (Option.some .int), Jvm.Cond.code mn14 prog_7_method_23_code (4 : Nat) (Option.some .boolean), Jvm.Cond.code mn16 prog_7_method_18_code (5 : Nat) (Option.some .int), Jvm.Cond.code mn15 prog_7_method_22_code (4 : Nat) (Option.some .int), Jvm.Cond.code mn20 method_5_code (2 : Nat) (Option.some .byte), Jvm.Cond.code mn28 jdk_123_method_3_code (5 : Nat) (Option.some .int), Jvm.Cond.code mn34 jdk_65_method_132_code (3 : Nat) (Option.some (Jvm.ClassFile.FieldType.array Jvm.ClassFile.FieldType.byte)), Jvm.Cond.code mn33 jdk_65_method_133_code (5 : Nat) (Option.some (Jvm.ClassFile.FieldType.array Jvm.ClassFile.FieldType.byte)), Jvm.Cond.code mn31 jdk_65_method_131_code (2 : Nat) (Option.none : Option Jvm.ClassFile.FieldType), Jvm.Cond.code mn30 jdk_29_method_69_code (2 : Nat) (Option.some .int), Jvm.Cond.code mn36 jdk_52_method_2_code (1 : Nat) (Option.some (Jvm.ClassFile.FieldType.array Jvm.ClassFile.FieldType.byte)), Jvm.Cond.code mn35 jdk_52_method_3_code (1 : Nat) (Option.some .int), Jvm.Cond.code mn42 jdk_43_method_50_code (5 : Nat) (Option.none : Option Jvm.ClassFile.FieldType), Jvm.Cond.code mn41 jdk_52_method_86_code (6 : Nat) (Option.none : Option Jvm.ClassFile.FieldType), Jvm.Cond.code mn40 jdk_52_method_94_code (3 : Nat) (Option.none : Option Jvm.ClassFile.FieldType), Jvm.Cond.code mn37 jdk_52_method_6_code (1 : Nat) (Option.some .int), Jvm.Cond.code mn29 jdk_52_method_4_code (3 : Nat) (Option.none : Option Jvm.ClassFile.FieldType), Jvm.Cond.code mn43 jdk_42_method_38_code (11 : Nat) (Option.some .int), Jvm.Cond.code mn21 method_6_code (2 : Nat) (Option.some .char), Jvm.Cond.code mn49 jdk_52_method_83_code (2 : Nat) (Option.some .char), Jvm.Cond.code mn47 jdk_52_method_91_code (2 : Nat) (Option.none : Option Jvm.ClassFile.FieldType), Jvm.Cond.code mn48 jdk_52_method_5_code (2 : Nat) (Option.some .char), Jvm.Cond.code mn19 method_4_code (2 : Nat) (Option.some .byte)]
theorem codes_eq : words1.filter isCode = codes1 := rfl
theorem w_codes : ∀ c ∈ words1.filter isCode, c.before args0 about1 = true := by
  rw [codes_eq]
  intro c hc
  simp only [codes1, List.mem_cons, List.not_mem_nil, or_false] at hc
  rcases hc with rfl | rfl | rfl | rfl | rfl | rfl | rfl | rfl | rfl | rfl | rfl | rfl | rfl | rfl | rfl | rfl | rfl | rfl | rfl | rfl | rfl | rfl | rfl | rfl | rfl | rfl | rfl | rfl | rfl | rfl | rfl | rfl | rfl | rfl | rfl | rfl | rfl | rfl | rfl | rfl | rfl | rfl | rfl | rfl | rfl | rfl | rfl | rfl | rfl | rfl | rfl | rfl | rfl
  · exact w_c0
  · exact w_c1
  · exact w_c2
  · exact w_c3
  · exact w_c4
  · exact w_c5
  · exact w_c6
  · exact w_c7
  · exact w_c8
  · exact w_c9
  · exact w_c10
  · exact w_c11
  · exact w_c12
  · exact w_c13
  · exact w_c14
  · exact w_c15
  · exact w_c16
  · exact w_c17
  · exact w_c18
  · exact w_c19
  · exact w_c20
  · exact w_c21
  · exact w_cW
  · exact w_c22
  · exact w_c23
  · exact w_c24
  · exact w_c25
  · exact w_c26
  · exact w_c27
  · exact w_c28
  · exact w_c29
  · exact w_c30
  · exact w_c31
  · exact w_c32
  · exact w_c33
  · exact w_c34
  · exact w_c35
  · exact w_c36
  · exact w_c37
  · exact w_c38
  · exact w_c39
  · exact w_c40
  · exact w_c41
  · exact w_c42
  · exact w_c43
  · exact w_c44
  · exact w_c45
  · exact w_c46
  · exact w_c47
  · exact w_c48
  · exact w_c49
  · exact w_c50
  · exact w_c51
theorem w_t1 : (words1.take 24).all (fun c => isCode c || c.before args0 about1) = true := by decide +kernel
theorem w_t2 : ((words1.drop 24).take 24).all (fun c => isCode c || c.before args0 about1) = true := by decide +kernel
theorem w_t3 : (((words1.drop 24).drop 24).take 24).all (fun c => isCode c || c.before args0 about1) = true := by decide +kernel
theorem w_t4 : ((((words1.drop 24).drop 24).drop 24).take 24).all (fun c => isCode c || c.before args0 about1) = true := by decide +kernel
theorem w_t5 : (((((words1.drop 24).drop 24).drop 24).drop 24).take 24).all (fun c => isCode c || c.before args0 about1) = true := by decide +kernel
theorem w_t6 : ((((((words1.drop 24).drop 24).drop 24).drop 24).drop 24).take 24).all (fun c => isCode c || c.before args0 about1) = true := by decide +kernel
theorem w_t7 : (((((((words1.drop 24).drop 24).drop 24).drop 24).drop 24).drop 24).take 24).all (fun c => isCode c || c.before args0 about1) = true := by decide +kernel
theorem w_t8 : ((((((((words1.drop 24).drop 24).drop 24).drop 24).drop 24).drop 24).drop 24).take 24).all (fun c => isCode c || c.before args0 about1) = true := by decide +kernel
theorem w_t9 : (((((((((words1.drop 24).drop 24).drop 24).drop 24).drop 24).drop 24).drop 24).drop 24).take 24).all (fun c => isCode c || c.before args0 about1) = true := by decide +kernel
theorem w_t10 : ((((((((((words1.drop 24).drop 24).drop 24).drop 24).drop 24).drop 24).drop 24).drop 24).drop 24).take 24).all (fun c => isCode c || c.before args0 about1) = true := by decide +kernel
theorem w_t11 : (((((((((((words1.drop 24).drop 24).drop 24).drop 24).drop 24).drop 24).drop 24).drop 24).drop 24).drop 24).take 24).all (fun c => isCode c || c.before args0 about1) = true := by decide +kernel
theorem w_t12 : (((((((((((words1.drop 24).drop 24).drop 24).drop 24).drop 24).drop 24).drop 24).drop 24).drop 24).drop 24).drop 24).all (fun c => isCode c || c.before args0 about1) = true := by decide +kernel
theorem w_tables : (allAtoms (Jvm.Cond.code x code maxLocals ret :: tables_1)).before args0 about1 = true := by
  rw [allAtoms_all]
  show words1.all (fun c => c.before args0 about1) = true
  refine all_split ?_ w_codes
  rw [← List.take_append_drop 24 words1, List.all_append, w_t1, ← List.take_append_drop 24 (words1.drop 24), List.all_append, w_t2, ← List.take_append_drop 24 ((words1.drop 24).drop 24), List.all_append, w_t3, ← List.take_append_drop 24 (((words1.drop 24).drop 24).drop 24), List.all_append, w_t4, ← List.take_append_drop 24 ((((words1.drop 24).drop 24).drop 24).drop 24), List.all_append, w_t5, ← List.take_append_drop 24 (((((words1.drop 24).drop 24).drop 24).drop 24).drop 24), List.all_append, w_t6, ← List.take_append_drop 24 ((((((words1.drop 24).drop 24).drop 24).drop 24).drop 24).drop 24), List.all_append, w_t7, ← List.take_append_drop 24 (((((((words1.drop 24).drop 24).drop 24).drop 24).drop 24).drop 24).drop 24), List.all_append, w_t8, ← List.take_append_drop 24 ((((((((words1.drop 24).drop 24).drop 24).drop 24).drop 24).drop 24).drop 24).drop 24), List.all_append, w_t9, ← List.take_append_drop 24 (((((((((words1.drop 24).drop 24).drop 24).drop 24).drop 24).drop 24).drop 24).drop 24).drop 24), List.all_append, w_t10, ← List.take_append_drop 24 ((((((((((words1.drop 24).drop 24).drop 24).drop 24).drop 24).drop 24).drop 24).drop 24).drop 24).drop 24), List.all_append, w_t11, w_t12]
  rfl
theorem w_rest : rest_1_c.before args0 about1 = true := by decide +kernel
theorem w_case : (Jvm.Cond.and given_1 narrow_1).before args0 about1 = true := by decide +kernel
theorem w_consts : constsHeld consts_1 about1 := Jvm.Lit.constsHeldB_iff.mp (by decide +kernel)
theorem w_applies : (headSpec (Jvm.Cond.code x code maxLocals ret :: tables_1) room_1).applies x e0.platform about1 = true :=
  (Spec.applies_iff w_frames).mpr ⟨w_running, w_runnable, w_alone, w_named, w_hears, w_ripe, w_room, w_tables⟩
theorem atStart : AtStart classFile x code maxLocals ret World_1 tables_1 room_1 Calls_1 rest_1 Pre_1 launch0 p0 e0 about1 theMethod args0 below0 :=
  ⟨lists_1, trivial, launch0.admits_env _ _ _, launch0.least_env, fairChoices_fair.cas, fairChoices_fair.clock, w_frames, w_args, w_heap, w_applies, ⟨w_consts, trivial⟩, w_rest, w_case⟩
end start1
theorem witness_1 : WitnessClaimed_1 := ⟨start1.p0, start1.e0, start1.about1, start1.theMethod, start1.args0, start1.below0, start1.atStart⟩
end Jvm.Pilot.@@N@@
namespace Jvm.Pilot.@@N@@
open Jvm Jvm.ClassFile Sem Op Lib Jvm.Free Jvm.Stand Jvm.LawKit Jvm.RoadKit Bundle Jvm.Pilot.@@N@@.Jvm.D
theorem pd_0 : parseMethodDescriptor "(B)Z" = some ⟨[.byte], some .boolean⟩ := by decide +kernel
theorem pd_1 : parseMethodDescriptor "(IILjava/util/function/BiFunction;)I" = some ⟨[.int, .int, (.object "java/util/function/BiFunction")], some .int⟩ := by decide +kernel
theorem pd_2 : parseMethodDescriptor "()B" = some ⟨[], some .byte⟩ := by decide +kernel
theorem pd_3 : parseMethodDescriptor "(II)V" = some ⟨[.int, .int], none⟩ := by decide +kernel
theorem pd_4 : parseMethodDescriptor "()Z" = some ⟨[], some .boolean⟩ := by decide +kernel
theorem pd_5 : parseMethodDescriptor "([BI)C" = some ⟨[(.array .byte), .int], some .char⟩ := by decide +kernel
theorem pd_6 : parseMethodDescriptor "()I" = some ⟨[], some .int⟩ := by decide +kernel
theorem pd_7 : parseMethodDescriptor "(I)C" = some ⟨[.int], some .char⟩ := by decide +kernel
theorem pd_8 : parseMethodDescriptor "(ILjava/lang/String;)Z" = some ⟨[.int, (.object "java/lang/String")], some .boolean⟩ := by decide +kernel
theorem pd_9 : parseMethodDescriptor "(BI)I" = some ⟨[.byte, .int], some .int⟩ := by decide +kernel
theorem pd_10 : parseMethodDescriptor "(ILjava/lang/String;)I" = some ⟨[.int, (.object "java/lang/String")], some .int⟩ := by decide +kernel
theorem pd_11 : parseMethodDescriptor "(I)I" = some ⟨[.int], some .int⟩ := by decide +kernel
theorem pd_12 : parseMethodDescriptor "(I)B" = some ⟨[.int], some .byte⟩ := by decide +kernel
theorem pd_13 : parseMethodDescriptor "([BILjava/lang/String;I)V" = some ⟨[(.array .byte), .int, (.object "java/lang/String"), .int], none⟩ := by decide +kernel
theorem pd_14 : parseMethodDescriptor "(II)I" = some ⟨[.int, .int], some .int⟩ := by decide +kernel
theorem pd_15 : parseMethodDescriptor "([BII)[B" = some ⟨[(.array .byte), .int, .int], some (.array .byte)⟩ := by decide +kernel
theorem pd_16 : parseMethodDescriptor "(IIILjava/util/function/BiFunction;)I" = some ⟨[.int, .int, .int, (.object "java/util/function/BiFunction")], some .int⟩ := by decide +kernel
theorem pd_17 : parseMethodDescriptor "([B)I" = some ⟨[(.array .byte)], some .int⟩ := by decide +kernel
theorem pd_18 : parseMethodDescriptor "(III)I" = some ⟨[.int, .int, .int], some .int⟩ := by decide +kernel
theorem pd_19 : parseMethodDescriptor "(II[B)V" = some ⟨[.int, .int, (.array .byte)], none⟩ := by decide +kernel
theorem pd_20 : parseMethodDescriptor "([BII)V" = some ⟨[(.array .byte), .int, .int], none⟩ := by decide +kernel
theorem pd_21 : parseMethodDescriptor "([BI[BII)V" = some ⟨[(.array .byte), .int, (.array .byte), .int, .int], none⟩ := by decide +kernel
theorem pd_22 : parseMethodDescriptor "([BII)I" = some ⟨[(.array .byte), .int, .int], some .int⟩ := by decide +kernel
theorem pd_23 : parseMethodDescriptor "(I)[B" = some ⟨[.int], some (.array .byte)⟩ := by decide +kernel
theorem pd_24 : parseMethodDescriptor "([BII[BIZ)I" = some ⟨[(.array .byte), .int, .int, (.array .byte), .int, .boolean], some .int⟩ := by decide +kernel
theorem pd_25 : parseMethodDescriptor "(Ljava/lang/Object;)Ljava/lang/Object;" = some ⟨[(.object "java/lang/Object")], some (.object "java/lang/Object")⟩ := by decide +kernel
theorem pd_26 : parseMethodDescriptor "(Ljava/nio/charset/Charset;[BII)V" = some ⟨[(.object "java/nio/charset/Charset"), (.array .byte), .int, .int], none⟩ := by decide +kernel
theorem pd_27 : parseMethodDescriptor "([BIILjava/nio/charset/Charset;)V" = some ⟨[(.array .byte), .int, .int, (.object "java/nio/charset/Charset")], none⟩ := by decide +kernel
theorem pd_28 : parseMethodDescriptor "(I[B)V" = some ⟨[.int, (.array .byte)], none⟩ := by decide +kernel
theorem pd_29 : parseMethodDescriptor "(Ljava/lang/String;IC)Z" = some ⟨[(.object "java/lang/String"), .int, .char], some .boolean⟩ := by decide +kernel
theorem pd_30 : parseMethodDescriptor "()Lcom/example/holdfast/holdfast/xml/Markup$Kind;" = some ⟨[], some (.object "com/example/holdfast/holdfast/xml/Markup$Kind")⟩ := by decide +kernel
theorem pd_31 : parseMethodDescriptor "()Ljava/lang/String;" = some ⟨[], some (.object "java/lang/String")⟩ := by decide +kernel
theorem pd_32 : parseMethodDescriptor "(I)Ljava/lang/String;" = some ⟨[.int], some (.object "java/lang/String")⟩ := by decide +kernel
theorem pd_33 : parseMethodDescriptor "([BILjava/lang/String;)I" = some ⟨[(.array .byte), .int, (.object "java/lang/String")], some .int⟩ := by decide +kernel
set_option maxRecDepth 65536
set_option maxHeartbeats 40000000
section OwnHeld
open Jvm.Free.SB Jvm.Free.SBG
variable {p : Program} {l : Launch} {e : Env} {R : Room} {s : State} {m : MethodId} {args : Array Value} {below : List Frame} {meth : Method} {c : Code} {T : State} {locs : List Loc} {cells slots : Nat} {Z : State} {EL : List (String × Nat)}
abbrev KPostH (Z : State) (EL : List (String × Nat)) (s : State) (Q : Option Value → Heap → List Loc → Prop) (C D : Nat) : Outcome → State → Prop := fun o U' => ∃ v L, o = .returned v ∧ Q v U'.heap L ∧ CHr Z EL s.vm s.heap U'.vm U'.heap ∧ ReturnedEndW s o U' L C D
theorem own_retAH {vm₁ : Vm} {k : Nat} (X : Stand p l e R (s.setVm vm₁) m args below meth c T locs cells slots) (hS : s.Since vm₁ k) (hk : k ≤ T.heap.size) (hR : CHr Z EL s.vm s.heap T.vm T.heap) (hx : p.tables.exec = Jvm.exec) (hlk : meth.locks = false) {pc : Nat} {Ls : Array Slot} {z : Value} {Q : Option Value → Heap → List Loc → Prop} {C D : Nat} {t : FieldType} (ht : t.isReference = true) (hz : z.isRef = true) (hret : meth.sig.returnType = some t) (hd : decode c.code pc = .ok (.areturn, 1)) (hC : cells ≤ C) (hD : slots ≤ D) (hQ : Q (some z) T.heap locs) :
  OFin p e below (KPostH Z EL s Q C D) (T.setTop (mkF m pc Ls [z])) := by
 obtain ⟨fs, hr, hrun, hended, h1, h2, h3, h4⟩ := X.leaveW hS hk (v := some z) (fun h => by rw [hret] at h; cases h) hlk
 exact ⟨_, _, X.areturnOut hx hz hret ht hd hr, hrun, hended, _, _, rfl, hQ, hR, ⟨_, rfl⟩, h2, h3, h4.mono hC hD⟩
theorem own_retBH {vm₁ : Vm} {k : Nat} (X : Stand p l e R (s.setVm vm₁) m args below meth c T locs cells slots) (hS : s.Since vm₁ k) (hk : k ≤ T.heap.size) (hR : CHr Z EL s.vm s.heap T.vm T.heap) (hx : p.tables.exec = Jvm.exec) (hlk : meth.locks = false) {pc : Nat} {Ls : Array Slot} {z : Int32} {rest : List Value} {Q : Option Value → Heap → List Loc → Prop} {C D : Nat} {t : FieldType} (ht : t = .boolean ∨ t = .byte ∨ t = .char ∨ t = .short) (hret : meth.sig.returnType = some t) (hd : decode c.code pc = .ok (.ireturn, 1)) (hC : cells ≤ C) (hD : slots ≤ D) (hQ : Q (some (.int (nar t z))) T.heap locs) :
  OFin p e below (KPostH Z EL s Q C D) (T.setTop (mkF m pc Ls (.int z :: rest))) := by
 obtain ⟨fs, hr, hrun, hended, h1, h2, h3, h4⟩ := X.leaveW hS hk (v := some (.int (nar t z))) (fun h => by rw [hret] at h; cases h) hlk
 exact ⟨_, _, retN X hx hret ht hd hr, hrun, hended, _, _, rfl, hQ, hR, ⟨_, rfl⟩, h2, h3, h4.mono hC hD⟩
theorem own_retIH {vm₁ : Vm} {k : Nat} (X : Stand p l e R (s.setVm vm₁) m args below meth c T locs cells slots) (hS : s.Since vm₁ k) (hk : k ≤ T.heap.size) (hR : CHr Z EL s.vm s.heap T.vm T.heap) (hx : p.tables.exec = Jvm.exec) (hlk : meth.locks = false) {pc : Nat} {Ls : Array Slot} {z : Int32} {rest : List Value} {Q : Option Value → Heap → List Loc → Prop} {C D : Nat} (hret : meth.sig.returnType = some .int) (hd : decode c.code pc = .ok (.ireturn, 1)) (hC : cells ≤ C) (hD : slots ≤ D) (hQ : Q (some (.int z)) T.heap locs) :
  OFin p e below (KPostH Z EL s Q C D) (T.setTop (mkF m pc Ls (.int z :: rest))) := by
 obtain ⟨fs, hr, hrun, hended, h1, h2, h3, h4⟩ := X.leaveW hS hk (v := some (.int z)) (fun h => by rw [hret] at h; cases h) hlk
 exact ⟨_, _, Jvm.RoadKit.retI X hx hret hd hr, hrun, hended, _, _, rfl, hQ, hR, ⟨_, rfl⟩, h2, h3, h4.mono hC hD⟩
theorem own_retVH {vm₁ : Vm} {k : Nat} (X : Stand p l e R (s.setVm vm₁) m args below meth c T locs cells slots) (hS : s.Since vm₁ k) (hk : k ≤ T.heap.size) (hR : CHr Z EL s.vm s.heap T.vm T.heap) (hx : p.tables.exec = Jvm.exec) (hlk : meth.locks = false) {pc : Nat} {Ls : Array Slot} {Q : Option Value → Heap → List Loc → Prop} {C D : Nat} (hret : meth.sig.returnType = none) (hd : decode c.code pc = .ok (.return_, 1)) (hC : cells ≤ C) (hD : slots ≤ D) (hQ : Q none T.heap locs) :
  OFin p e below (KPostH Z EL s Q C D) (T.setTop (mkF m pc Ls [])) := by
 obtain ⟨fs, hr, hrun, hended, h1, h2, h3, h4⟩ := X.leaveW hS hk (v := none) (fun _ => rfl) hlk
 exact ⟨_, _, X.returnOut hx hret hd hr, hrun, hended, _, _, rfl, hQ, hR, ⟨_, rfl⟩, h2, h3, h4.mono hC hD⟩
theorem own_safeNull {vm : Vm} {h : Heap} {x : Addr} (hal : Z.vm.Alike vm) (E : Exa Z h x cB) (F : Fld Z h x cB "value" "[B" .null) : Safe Z EL vm h x := fun B => by
 obtain ⟨cell, k, e1, e2, -, -, -⟩ := E
 obtain ⟨p, -, u, a, -, q, -, F', rfl | rfl⟩ := B
 ·obtain ⟨cell', cf, k', i, f, h1, h2, h3, h4, h5, h6, h7⟩ := F
  obtain ⟨cS, ⟨⟨s1, -, -, ⟨c1, k1, i1, f1, -⟩, -, -, -, v1, -⟩, -⟩, -⟩ := F'
  cases (show h[q.sa]? = some q.sC from s1).symm.trans h1
  obtain ⟨k3, e3, -⟩ := State.fieldFound?_setVm (s := ({ Z with heap := h } : State)) hal (show ({ Z with heap := h } : State).fieldFound? _ _ _ = _ from h2)
  have e4 := (show (Wst Z vm h).fieldFound? _ _ _ = _ from e3).symm.trans f1
  simp only [Option.some.injEq, Prod.mk.injEq] at e4
  rw [← e4.2.2.2, h7] at v1
  cases v1
 ·cases (show h[q.sd]? = some q.SA from F'.hd).symm.trans e1
  obtain ⟨cS, -, -, f, -⟩ := F'
  have f2 : vm.findClass "[B" = some q.SA.cls := f
  rw [hal.findClass] at f2
  exact ids_ne (Z := Z) f2 e2 (by decide) rfl
end OwnHeld
abbrev HW (a0 : Array Value) (Z : State) : Prop := ∀ d ∈ tables_1, d.before a0 Z = true
abbrev Dec (c : ByteArray) (L : List (Nat × Instr × Nat)) : Prop := ∀ x ∈ L, decode c x.1 = .ok (x.2.1, x.2.2)
abbrev Con (l : Launch) (y : MethodName) (cw : Jvm.Cond) (ws : List Jvm.Cond) (R : Jvm.Room) (av : Array Value) (Z : State) (h0 : Heap) (Q : Option Value → Heap → List Loc → Prop) : Prop :=
 MetFree l y (head1 (cw :: ws) R) (fun a U => a = av ∧ Z.Warmed39 U.vm ∧ U.heap = h0) (fun _ _ _ _ _ => True) (fun _ U o U' => ∃ v L, o = .returned v ∧ Q v U'.heap L ∧ FrameEnd U o U' L R.cells R.slots)
abbrev ConH (EL : List (String × Nat)) (l : Launch) (y : MethodName) (cw : Jvm.Cond) (ws : List Jvm.Cond) (R : Jvm.Room) (av : Array Value) (Z : State) (h0 : Heap) (Q : Option Value → Heap → List Loc → Prop) : Prop :=
 MetFree l y (head1 (cw :: ws) R) (fun a U => a = av ∧ Z.Warmed39 U.vm ∧ U.heap = h0 ∧ CHv Z EL U.vm h0) (fun _ _ _ _ _ => True) (fun _ U o U' => ∃ v L, o = .returned v ∧ Q v U'.heap L ∧ CHr Z EL U.vm U.heap U'.vm U'.heap ∧ ReturnedEndW U o U' L R.cells R.slots)
section OwnOf
variable {l : Launch} {y : MethodName} {cw : Jvm.Cond} {ws : List Jvm.Cond} {R : Jvm.Room} {av : Array Value} {Z : State} {h0 : Heap} {Q : Option Value → Heap → List Loc → Prop} {cd : ByteArray} {ml : Nat} {rt : Option FieldType} {LL : List (Nat × Instr × Nat)} {EL : List (String × Nat)}
abbrev OwnHis (y : MethodName) (cw : Jvm.Cond) (ws : List Jvm.Cond) (R : Jvm.Room) (cd : ByteArray) (ml : Nat) (rt : Option FieldType) : Prop := ∀ args (s : State) m, (head1 (cw :: ws) R).pre.before args s = true → s.methodNamed? y = some m → ∃ meth c, s.vm.method? m = some meth ∧ meth.code = some c ∧ c.code = cd ∧ c.maxLocals = ml ∧ meth.sig.returnType = rt ∧ meth.locks = false
abbrev DecAt (c : Code) (L : List (Nat × Instr × Nat)) : Prop := ∀ (i : Nat) {a b : Nat} {ins : Instr}, L[i]? = some (a, ins, b) → decode c.code a = .ok (ins, b)
theorem own_of (pf : plainFor y = true) (his : OwnHis y cw ws R cd ml rt) (dl : Dec cd LL)
  (F : ∀ {p : Program} {e : Env} {s : State} {m : MethodId} {below : List Frame} {meth : Method} {c : Code} {s₁ : State}, p.tables.exec = Jvm.exec → DecAt c LL → meth.locks = false → meth.sig.returnType = rt → c.maxLocals = ml → Z.Warmed39 s.vm → s.vm.findClass y.cls = some m.cls → meth.name = y.name → Stand p l e R s m av below meth c s₁ [] 0 0 → s₁.heap = h0 → OFin p e below (KPost s Q R.cells R.slots) (s₁.setTop (entryFrame m av ml))) : Con l y cw ws R av Z h0 Q := by
 refine MetFree.of_bodySF pf his ?_
 intro p e s m args below meth c s₁ Bd hml0 hP hK
 obtain ⟨rfl, hZ, hh⟩ := hP
 exact F Bd.exec (fun i {a b ins} q => by rw [Bd.bytes]; exact dl (a, ins, b) (mG q)) (BodyLoose.notSynchronized Bd) Bd.returns hml0 hZ (findClass_of_methodNamed Bd.named) (name_of_methodNamed Bd.named Bd.method).1 (Stand.of_body Bd) (by rw [← hh, Bd.state]; rfl)
theorem own_ofH (pf : plainFor y = true) (his : OwnHis y cw ws R cd ml rt) (dl : Dec cd LL)
  (F : ∀ {p : Program} {e : Env} {s : State} {m : MethodId} {below : List Frame} {meth : Method} {c : Code} {s₁ : State}, p.tables.exec = Jvm.exec → DecAt c LL → meth.locks = false → meth.sig.returnType = rt → c.maxLocals = ml → Z.Warmed39 s.vm → s.vm.findClass y.cls = some m.cls → meth.name = y.name → Stand p l e R s m av below meth c s₁ [] 0 0 → s₁.heap = h0 → s.heap = h0 → CHv Z EL s.vm h0 → OFin p e below (KPostH Z EL s Q R.cells R.slots) (s₁.setTop (entryFrame m av ml))) : ConH EL l y cw ws R av Z h0 Q := by
 refine MetFree.of_bodySF pf his ?_
 intro p e s m args below meth c s₁ Bd hml0 hP hK
 obtain ⟨rfl, hZ, hh, hC⟩ := hP
 exact F Bd.exec (fun i {a b ins} q => by rw [Bd.bytes]; exact dl (a, ins, b) (mG q)) (BodyLoose.notSynchronized Bd) Bd.returns hml0 hZ (findClass_of_methodNamed Bd.named) (name_of_methodNamed Bd.named Bd.method).1 (Stand.of_body Bd) (by rw [← hh, Bd.state]; rfl) hh hC
end OwnOf
abbrev vi (x : Int32) : Slot := .val (.int x)
abbrev vr (x : Addr) : Slot := .val (.ref x)
section OwnCold
open Jvm.Free.SB Jvm.Free.SBG
variable {p : Program} {l : Launch} {e : Env} {R : Jvm.Room} {s : State} {m : MethodId} {args : Array Value} {below : List Frame} {meth : Method} {c : Code} {T : State} {locs : List Loc} {cells slots : Nat} {Z : State} {a0 : Array Value} {EL : List (String × Nat)} {h : Heap} {vm0 : Vm} {y : MethodName} {bytes : ByteArray} {maxL len W : Nat} {ret : Option FieldType} {hs : List (Nat × Nat × Nat × Nat)} {rm : Jvm.Room} {as' : Array Value} {Q : Option Value → Heap → List Loc → Prop}
abbrev OwnBk (U t : State) : State := ({ U with heap := t.heap, slotsUsed := t.slotsUsed } : State).setVm t.vm
theorem own_frame {U t : State} {g : JFrame} {mk : MethodId} {a : Array Value} {v : Option Value} {L : List Loc} {k n : Nat} {ig : Instr} (hA : At U g.method c below) (hd : decode c.code g.pc = .ok (ig, len)) (hE : Ended t (.java g :: U.frames.tail) (.returned v)) (hR : ReturnedEndW (U.calling g mk a) (.returned v) t L k n) :
  t = (OwnBk U t).setTop { g with pc := g.pc + len, stack := v.toList ++ g.stack } ∧ U.sameButNew ({ U with heap := t.heap, slotsUsed := t.slotsUsed } : State) L k n := by
 obtain ⟨-, hW, -, e0, r1, r2, r3, r4, r5⟩ := hR
 obtain ⟨j, hj⟩ := Option.isSome_iff_exists.mp hA.top
 obtain ⟨fs, hfs⟩ := State.topJava?_eq_some.mp hj
 obtain ⟨th, hth, -⟩ := State.frames_cons hfs
 refine ⟨?_, ?_, r1, r2, r3, r4, r5⟩
 ·obtain ⟨c', i', len', q1, q2, q3⟩ := hE
  have ec : t.code? g.method = U.code? g.method := by rw [State.code?_eq, State.code?_eq, (show U.Warmed39 t.vm from hW).alike.method?]
  cases (hA.code.symm.trans ec.symm).trans q1
  rw [hd] at q2
  cases q2
  have e1 : t = ({ (U.calling g mk a).setFrames t.frames with heap := t.heap, slotsUsed := t.slotsUsed } : State).setVm t.vm := by
   have z : t = ({ t with vm := (U.calling g mk a).vm } : State).setVm t.vm := rfl
   rw [e0] at z; exact z
  have e2 : (OwnBk U t).frames = .java j :: fs := hfs
  rw [State.setTop_of_frames _ e2]
  refine e1.trans ?_
  rw [q3, State.calling_eq hA.top, State.setFrames_setFrames, hfs]
  rfl
 ·show ({ U with heap := t.heap, slotsUsed := t.slotsUsed } : State) = { U.setFrames U.frames with heap := t.heap, slotsUsed := t.slotsUsed }
  rw [State.setFrames_self hth]
theorem own_specialSH (X : Stand p l e R (s.setVm vm0) m args below meth c T locs cells slots) (hx : p.tables.exec = Jvm.exec) {own : String} {index : Nat} (hy1 : y.name = "<init>") (hown : (s.setVm vm0).vm.findClass own = some m.cls)
  (hlink : (Cond.methodLink own index y).before args (s.setVm vm0) = true) (hinst : (Cond.instanceMethod y).before args (s.setVm vm0) = true) (hcode : (Cond.codeWith y bytes maxL none hs).before args (s.setVm vm0) = true)
  (hy : y.cls ≠ "java/lang/invoke/MethodHandle" ∧ y.cls ≠ "java/lang/invoke/VarHandle")
  (hM : ConH EL l y (Cond.codeWith y bytes maxL none hs) [] rm as' Z h Q) (hZ : Z.Warmed39 vm0) (wc : (Cond.codeWith y bytes maxL none hs).before a0 Z = true) (wz : (Cond.initialized y.cls).before a0 Z = true) (hf : rm.frames + 1 ≤ R.frames) (hl : W + (maxL + 11) + rm.locals ≤ R.locals) (hEL : EW Z a0 EL) (H : CHv Z EL vm0 h)
  {g : JFrame} (hg : g.method = m) (hsize : g.locals.size = c.maxLocals) {a : Addr} {argsL rest : List Value} (hlen : ∀ sig, parseMethodDescriptor y.desc = some sig → argsL.length = sig.parameters.length) (hst : g.stack = argsL.reverse ++ .ref a :: rest) (hW : 2 * g.monitorRoom + (rest.map fun v => v.category).sum ≤ W)
  (hd : decode c.code g.pc = .ok (.invokespecial index, 3)) (ha : (.ref a :: argsL).toArray = as') (hh : T.heap = h) (hc : cells + rm.cells ≤ R.cells) (hs' : slots + rm.slots ≤ R.slots) :
  ∃ (v : Option Value) (T' : State) (L : List Loc), Stand p l e R (s.setVm T'.vm) m args below meth c T' (locs ++ L) (cells + rm.cells) (slots + rm.slots) ∧ (s.setVm vm0).Since T'.vm T'.heap.size ∧ T.heap.size ≤ T'.heap.size ∧ Q v T'.heap L ∧ CHr Z EL vm0 h T'.vm T'.heap ∧ Steps p.tables e below (T.setTop g) (T'.setTop { g with pc := g.pc + 3, stack := v.toList ++ rest }) := by
 have hpl : e.platform.magicAccessors = ({} : Platform).magicAccessors := by rw [X.admits.platform]
 obtain ⟨mk, -, -, -, vm1, hn, -, -, -, -, -, -, -, hW1, go⟩ := Steps.initColdArgsH (e := e) X.here hx X.warmed hpl hown hy1 hy hlink hinst hcode (f := g) hg hlen hst hd
 have X1 := X.noted hW1
 have hZ1 : Z.Warmed39 (T.setVm vm1).vm := wtrans (s := s.setVm vm0) hZ X1.warmed
 subst hg
 have hn1 := X1.named hn
 obtain ⟨mY, methY, cY, n2, b1, b2, -, b4, -, -, -, -⟩ := Cond.codeWith_spec (args := #[]) (mv hZ1 wc)
 cases hn1.symm.trans n2
 obtain ⟨kY, hkY, -⟩ := className_of_methodNamed hn1
 have hA : At (T.setVm vm1) ({ g with stack := rest } : JFrame).method c below := X1.here
 have happ : (head1 [Cond.codeWith y bytes maxL none hs] rm).appliesLoose y e.platform ((T.setVm vm1).calling { g with stack := rest } mk (.ref a :: argsL).toArray) = true :=
  Spec.appliesLoose_calling (g := { g with stack := rest }) hA hd hn1 hkY (Cond.initialized_spec (args := #[]) (findClass_of_methodNamed hn1) hkY (mv hZ1 wz))
   (X1.room_calling (g := { g with stack := rest }) (R' := rm) hsize b1 b2 hf (by rw [b4]; exact nT (Nat.add_le_add_right (Nat.add_le_add_right hW _) _) hl) hc hs')
   (by show (Cond.and _ .tt).before _ _ = true; rw [Cond.before_and, mv hZ1 wc]; rfl)
 obtain ⟨fs, hfs⟩ := hA.above
 have hfr : ((T.setVm vm1).setTop { g with stack := rest }).frames = (.java { g with stack := rest } :: fs) ++ below := by rw [State.frames_setTop' _ hA.top, hfs]; rfl
 obtain ⟨o, t, hsteps, -, hend, v, L, rfl, hQ, hCH, hR⟩ := Steps.callFree hM p X.admits X.cas X.clock (acts := []) hfr happ ⟨ha, hZ1, hh, (CHv.at X1 hZ hEL H).1⟩ trivial
 rw [State.frames_setTop' _ hA.top] at hend
 obtain ⟨ht, hsame⟩ := own_frame (U := T.setVm vm1) hA hd hend hR
 obtain ⟨-, w1, w2, -⟩ := id hR
 obtain ⟨X2, hS⟩ := X1.movedW (T₂ := OwnBk (T.setVm vm1) t) ((X1.here.setHeapUsed t.heap t.slotsUsed).setVm (show (T.setVm vm1).Warmed39 t.vm from w1).alike) X1.tail rfl rfl w1 w2 hsame
 refine ⟨v, OwnBk (T.setVm vm1) t, L, X2, hS, hsame.2.1, hQ, (CHv.at X1 hZ hEL H).trans ?_, (go _ fun acts => by rw [doInvoke_state]; exact Steps.refl _).trans ?_⟩
 ·subst hh; exact hCH
 ·have q := hsteps
  rw [ht] at q
  exact q
end OwnCold
theorem own_selP {Z : State} {a0 : Array Value} {y : MethodName} {n : Nat} (wi : (Cond.instantiable y.cls n).before a0 Z = true) (wp : (Cond.privateMethod y).before a0 Z = true) (wm : (Cond.instanceMethod y).before a0 Z = true) (hy : y.cls ≠ "java/lang/invoke/MethodHandle" ∧ y.cls ≠ "java/lang/invoke/VarHandle") : (Cond.selects y.cls y y).before a0 Z = true := by
 obtain ⟨c, k, h1, h2, -, h4, -⟩ := Cond.instantiable_spec wi
 have h5 : k.isInterface = false := by simp at h4; exact h4.1
 exact selects_self_of_private h1 h2 h5 (Cond.privateMethod_at wp) wm hy
section OwnCall
variable {p : Program} {l : Launch} {e : Env} {R rm : Jvm.Room} {s : State} {m : MethodId} {args as' : Array Value} {below : List Frame} {meth : Method} {c : Code} {T : State} {locs : List Loc} {cells slots : Nat} {Z : State} {a0 : Array Value} {h : Heap} {own C : String} {y z : MethodName} {bytes : ByteArray} {maxL W index ml n : Nat} {ret : Option FieldType} {Q : Option Value → Heap → List Loc → Prop} {g : JFrame} {argsL rest : List Value} {ps : List FieldType} {r : Option FieldType} {a : Addr}
theorem wt (hw : HW a0 Z) (i : Nat) {d : Jvm.Cond} (h : tables_1[i]? = some d) : d.before a0 Z = true := hw _ (mG h)
abbrev OwnGo (p : Program) (l : Launch) (e : Env) (R : Jvm.Room) (s : State) (m : MethodId) (args : Array Value) (below : List Frame) (meth : Method) (c : Code) (T : State) (locs : List Loc) (cells slots : Nat) (rm : Jvm.Room) (Q : Option Value → Heap → List Loc → Prop) (g : JFrame) (rest : List Value) : Prop :=
 ∃ (v : Option Value) (T' : State) (L : List Loc), Stand p l e R s m args below meth c T' (locs ++ L) (cells + rm.cells) (slots + rm.slots) ∧ Q v T'.heap L ∧ Steps p.tables e below (T.setTop g) (T'.setTop { g with pc := g.pc + 3, stack := v.toList ++ rest })
abbrev OwnMH (y : MethodName) : Prop := y.cls ≠ "java/lang/invoke/MethodHandle" ∧ y.cls ≠ "java/lang/invoke/VarHandle"
theorem own_hW (hm : g.monitorRoom = 0) (hW : (rest.map fun v => v.category).sum ≤ W) : 2 * g.monitorRoom + (rest.map fun v => v.category).sum ≤ W := by rw [hm]; omega
theorem own_cS (X : Stand p l e R s m args below meth c T locs cells slots) (hx : p.tables.exec = Jvm.exec) (hw : HW a0 Z) (hZ : Z.Warmed39 s.vm) (hown : s.vm.findClass own = some m.cls) (i1 i2 i3 i4 : Nat) (w1 : tables_1[i1]? = some (.methodLink own index y)) (w2 : tables_1[i2]? = some (.static y)) (w3 : tables_1[i3]? = some (.initialized y.cls)) (w4 : tables_1[i4]? = some (.code y bytes maxL ret)) (hy : OwnMH y)
  (hM : Con l y (.code y bytes maxL ret) [] rm as' Z h Q) (hf : rm.frames + 1 ≤ R.frames) (hl : W + (maxL + 11) + rm.locals ≤ R.locals) (hg : g.method = m) (hml : c.maxLocals = ml) (hs : g.locals.size = ml) (hp : parseMethodDescriptor y.desc = some ⟨ps, r⟩) (hk : argsL.length = ps.length) (hst : g.stack = argsL.reverse ++ rest) (hm : g.monitorRoom = 0) (hW : (rest.map fun v => v.category).sum ≤ W)
  (hd : decode c.code g.pc = .ok (.invokestatic index, 3)) (ha : argsL.toArray = as') (eT : T.heap = h) (hc : cells + rm.cells ≤ R.cells) (hsl : slots + rm.slots ≤ R.slots) : OwnGo p l e R s m args below meth c T locs cells slots rm Q g rest := by
 obtain ⟨v, _, ⟨T1, L1, k1, n1⟩, -, X1, ⟨Lc, hQ, l1, y1, z1⟩, st⟩ := Jvm.LawKit.callS X hx (y := y) hown (mvT hZ (wt hw i1 w1)) (mvT hZ (wt hw i2 w2)) (mvT hZ (wt hw i3 w3)) (mvT hZ (wt hw i4 w4)) hy (backOf (W := W) hM hZ (wt hw i4 w4) (wt hw i3 w3) hf hl) (g := g) hg (hs.trans hml.symm) (argsL := argsL) (rest := rest) (lenOf hp hk) hst (own_hW hm hW) hd (fun _ _ => ⟨ha, eT, hc, hsl⟩)
 dsimp only [Pt.U, Pt.locs, Pt.cells, Pt.slots] at X1 l1 y1 z1 st hQ
 subst l1 y1 z1
 exact ⟨v, T1, Lc, X1, hQ, st _ (Steps.refl _)⟩
theorem own_cP (X : Stand p l e R s m args below meth c T locs cells slots) (hx : p.tables.exec = Jvm.exec) (hw : HW a0 Z) (hZ : Z.Warmed39 s.vm) (hown : s.vm.findClass own = some m.cls) (i1 i2 i3 i4 i5 i6 : Nat) (w1 : tables_1[i1]? = some (.methodLink own index y)) (w2 : tables_1[i2]? = some (.instanceMethod y)) (w3 : tables_1[i3]? = some (.instantiable y.cls n)) (w4 : tables_1[i4]? = some (.privateMethod y)) (w5 : tables_1[i5]? = some (.initialized y.cls)) (w6 : tables_1[i6]? = some (.code y bytes maxL ret)) (hy : OwnMH y) (E : Exa Z h a C)
  (hM : Con l y (.code y bytes maxL ret) [] rm as' Z h Q) (hf : rm.frames + 1 ≤ R.frames) (hl : W + (maxL + 11) + rm.locals ≤ R.locals) (hg : g.method = m) (hml : c.maxLocals = ml) (hs : g.locals.size = ml) (hp : parseMethodDescriptor y.desc = some ⟨ps, r⟩) (hk : argsL.length = ps.length) (hst : g.stack = argsL.reverse ++ .ref a :: rest) (hm : g.monitorRoom = 0) (hW : (rest.map fun v => v.category).sum ≤ W)
  (hd : decode c.code g.pc = .ok (.invokevirtual index, 3)) (ha : (.ref a :: argsL).toArray = as') (eT : T.heap = h) (hc : cells + rm.cells ≤ R.cells) (hsl : slots + rm.slots ≤ R.slots) : OwnGo p l e R s m args below meth c T locs cells slots rm Q g rest := by
 obtain ⟨cq, hcq, hsq⟩ := Exa.cell E
 obtain ⟨v, _, ⟨T1, L1, k1, n1⟩, -, X1, ⟨Lc, hQ, l1, y1, z1⟩, st⟩ := X.privateBack hx (y := y) hown (mvT hZ (wt hw i1 w1)) (mvT hZ (wt hw i2 w2)) (mvT hZ (own_selP (y := y) (wt hw i3 w3) (wt hw i4 w4) (wt hw i2 w2) hy)) (Cond.privateMethod_at (mvP (args := #[]) hZ (wt hw i4 w4))) (mvT hZ (wt hw i6 w6)) hy (backOf (W := W) hM hZ (wt hw i6 w6) (wt hw i5 w5) hf hl) (g := g) hg (hs.trans hml.symm) (Steps.refl _) (a := a) (by rw [eT]; exact hcq) hsq (argsL := argsL) (rest := rest) (lenOf hp hk) hst (own_hW hm hW) hd (fun _ _ => ⟨ha, eT, hc, hsl⟩)
 dsimp only [Pt.U, Pt.locs, Pt.cells, Pt.slots] at X1 l1 y1 z1 st hQ
 subst l1 y1 z1
 exact ⟨v, T1, Lc, X1, hQ, st⟩
theorem own_cV (X : Stand p l e R s m args below meth c T locs cells slots) (hx : p.tables.exec = Jvm.exec) (hw : HW a0 Z) (hZ : Z.Warmed39 s.vm) (hown : s.vm.findClass own = some m.cls) (i1 i2 i3 i4 i5 i6 : Nat) (w1 : tables_1[i1]? = some (.methodLink own index y)) (w2 : tables_1[i2]? = some (.declares y)) (w3 : tables_1[i3]? = some (.selects C y y)) (w4 : tables_1[i4]? = some (.instanceMethod y)) (w5 : tables_1[i5]? = some (.initialized y.cls)) (w6 : tables_1[i6]? = some (.code y bytes maxL ret)) (hy : OwnMH y) (E : Exa Z h a C)
  (hM : Con l y (.code y bytes maxL ret) [] rm as' Z h Q) (hf : rm.frames + 1 ≤ R.frames) (hl : W + (maxL + 11) + rm.locals ≤ R.locals) (hg : g.method = m) (hml : c.maxLocals = ml) (hs : g.locals.size = ml) (hp : parseMethodDescriptor y.desc = some ⟨ps, r⟩) (hk : argsL.length = ps.length) (hst : g.stack = argsL.reverse ++ .ref a :: rest) (hm : g.monitorRoom = 0) (hW : (rest.map fun v => v.category).sum ≤ W)
  (hd : decode c.code g.pc = .ok (.invokevirtual index, 3)) (ha : (.ref a :: argsL).toArray = as') (eT : T.heap = h) (hc : cells + rm.cells ≤ R.cells) (hsl : slots + rm.slots ≤ R.slots) : OwnGo p l e R s m args below meth c T locs cells slots rm Q g rest := by
 obtain ⟨cq, kq, qa, qb, qc⟩ := isOf hZ eT E
 obtain ⟨v, _, ⟨T1, L1, k1, n1⟩, -, X1, ⟨Lc, hQ, l1, y1, z1⟩, st⟩ := X.virtualBack hx (y := y) (z := y) hown (mvT hZ (wt hw i1 w1)) (mvT hZ (wt hw i2 w2)) (notFace_of_selects (args := #[]) (mvT hZ (wt hw i3 w3))) (mvT hZ (wt hw i3 w3)) (mvT hZ (wt hw i4 w4)) hy (backOf (W := W) hM hZ (wt hw i6 w6) (wt hw i5 w5) hf hl) qa qc (g := g) hg (hs.trans hml.symm) (Steps.refl _) (argsL := argsL) (rest := rest) (lenOf hp hk) hst (own_hW hm hW) hd (fun _ _ => ⟨ha, eT, hc, hsl⟩)
 dsimp only [Pt.U, Pt.locs, Pt.cells, Pt.slots] at X1 l1 y1 z1 st hQ
 subst l1 y1 z1
 exact ⟨v, T1, Lc, X1, hQ, st⟩
theorem own_cN (X : Stand p l e R s m args below meth c T locs cells slots) (hx : p.tables.exec = Jvm.exec) (hw : HW a0 Z) (hZ : Z.Warmed39 s.vm) (hown : s.vm.findClass own = some m.cls) (i1 i2 i3 i4 : Nat) (w1 : tables_1[i1]? = some (.methodLink own index y)) (w2 : tables_1[i2]? = some (.instanceMethod y)) (w3 : tables_1[i3]? = some (.initialized y.cls)) (w4 : tables_1[i4]? = some (.code y bytes maxL none)) (hy : OwnMH y) (hi : y.name = "<init>")
  (hM : Con l y (.code y bytes maxL none) [] rm as' Z h Q) (hf : rm.frames + 1 ≤ R.frames) (hl : W + (maxL + 11) + rm.locals ≤ R.locals) (hg : g.method = m) (hml : c.maxLocals = ml) (hs : g.locals.size = ml) (hp : parseMethodDescriptor y.desc = some ⟨ps, r⟩) (hk : argsL.length = ps.length) (hst : g.stack = argsL.reverse ++ .ref a :: rest) (hm : g.monitorRoom = 0) (hW : (rest.map fun v => v.category).sum ≤ W)
  (hd : decode c.code g.pc = .ok (.invokespecial index, 3)) (ha : (.ref a :: argsL).toArray = as') (eT : T.heap = h) (hc : cells + rm.cells ≤ R.cells) (hsl : slots + rm.slots ≤ R.slots) : OwnGo p l e R s m args below meth c T locs cells slots rm Q g rest := by
 obtain ⟨v, _, ⟨T1, L1, k1, n1⟩, -, X1, ⟨Lc, hQ, l1, y1, z1⟩, st⟩ := X.specialBack hx (y := y) hi hown (mvT hZ (wt hw i1 w1)) (mvT hZ (wt hw i2 w2)) (mvT hZ (wt hw i4 w4)) hy (backOf (W := W) hM hZ (wt hw i4 w4) (wt hw i3 w3) hf hl) (g := g) hg (hs.trans hml.symm) (Steps.refl _) (a := a) (argsL := argsL) (rest := rest) (lenOf hp hk) hst (own_hW hm hW) hd (fun _ _ => ⟨ha, eT, hc, hsl⟩)
 dsimp only [Pt.U, Pt.locs, Pt.cells, Pt.slots] at X1 l1 y1 z1 st hQ
 subst l1 y1 z1
 exact ⟨v, T1, Lc, X1, hQ, st⟩
end OwnCall
section OwnStep
variable {p : Program} {l : Launch} {e : Env} {R : Jvm.Room} {s : State} {m : MethodId} {args : Array Value} {below : List Frame} {meth : Method} {c : Code} {T target : State} {locs : List Loc} {cells slots : Nat} {g : JFrame} {rest : List Value} {x y z : Int32} {v : Value} {i o : Int} {k : Nat} {kf : Fin 4} {l' : Array Slot} {cd : ClassFile.Cond}
theorem aN (X : Stand p l e R s g.method args below meth c T locs cells slots) (hx : p.tables.exec = Jvm.exec) (hd : decode c.code g.pc = .ok (.aload_n kf, 1)) (hl : g.locals[kf.val]? = some (.val v)) (hv : v.isRef = true) (hr : Steps p.tables e below (T.setTop { g with pc := g.pc + 1, stack := v :: g.stack }) target) : Steps p.tables e below (T.setTop g) target := XS.aloadN X.here hx rfl hd hl hv hr
theorem aW (X : Stand p l e R s g.method args below meth c T locs cells slots) (hx : p.tables.exec = Jvm.exec) (hd : decode c.code g.pc = .ok (.aload k, 2)) (hl : g.locals[k]? = some (.val v)) (hv : v.isRef = true) (hr : Steps p.tables e below (T.setTop { g with pc := g.pc + 2, stack := v :: g.stack }) target) : Steps p.tables e below (T.setTop g) target := XS.aload X.here hx rfl hd hl hv hr
theorem iN (X : Stand p l e R s g.method args below meth c T locs cells slots) (hx : p.tables.exec = Jvm.exec) (hd : decode c.code g.pc = .ok (.iload_n kf, 1)) (hl : g.locals[kf.val]? = some (.val (.int x))) (hr : Steps p.tables e below (T.setTop { g with pc := g.pc + 1, stack := .int x :: g.stack }) target) : Steps p.tables e below (T.setTop g) target := XS.iloadN X.here hx rfl hd hl hr
theorem iW (X : Stand p l e R s g.method args below meth c T locs cells slots) (hx : p.tables.exec = Jvm.exec) (hd : decode c.code g.pc = .ok (.iload k, 2)) (hl : g.locals[k]? = some (.val (.int x))) (hr : Steps p.tables e below (T.setTop { g with pc := g.pc + 2, stack := .int x :: g.stack }) target) : Steps p.tables e below (T.setTop g) target := XS.iload X.here hx rfl hd hl hr
theorem iC (X : Stand p l e R s g.method args below meth c T locs cells slots) (hx : p.tables.exec = Jvm.exec) (hd : decode c.code g.pc = .ok (.iconst i, 1)) (hr : Steps p.tables e below (T.setTop { g with pc := g.pc + 1, stack := .int (Int32.ofInt i) :: g.stack }) target) : Steps p.tables e below (T.setTop g) target := XS.iconst X.here hx rfl hd hr
theorem bP (X : Stand p l e R s g.method args below meth c T locs cells slots) (hx : p.tables.exec = Jvm.exec) (hd : decode c.code g.pc = .ok (.bipush i, 2)) (hr : Steps p.tables e below (T.setTop { g with pc := g.pc + 2, stack := .int (Int8.ofInt i).toInt32 :: g.stack }) target) : Steps p.tables e below (T.setTop g) target := XS.bipush X.here hx rfl hd hr
theorem sW (X : Stand p l e R s g.method args below meth c T locs cells slots) (hx : p.tables.exec = Jvm.exec) (hd : decode c.code g.pc = .ok (.istore k, 2)) (hs : g.stack = .int x :: rest) (hl : storeLocals g.locals k (.int x) = some l') (hr : Steps p.tables e below (T.setTop { g with pc := g.pc + 2, stack := rest, locals := l' }) target) : Steps p.tables e below (T.setTop g) target := XS.istore X.here hx rfl hd hs hl hr
theorem iI (X : Stand p l e R s g.method args below meth c T locs cells slots) (hx : p.tables.exec = Jvm.exec) (hd : decode c.code g.pc = .ok (.iinc k i, 3)) (hl : g.locals[k]? = some (.val (.int x))) (hl' : storeLocals g.locals k (.int (x + Int32.ofInt i)) = some l') (hr : Steps p.tables e below (T.setTop { g with pc := g.pc + 3, locals := l' }) target) : Steps p.tables e below (T.setTop g) target := XS.iinc X.here hx rfl hd hl hl' hr
theorem own_jmp {a b : Nat} {o : Int} (h : (a : Int) + o = (b : Int)) : 0 ≤ (a : Int) + o ∧ ((a : Int) + o).toNat = b := by rw [h]; exact ⟨Int.natCast_nonneg b, Int.toNat_natCast b⟩
theorem gO (X : Stand p l e R s g.method args below meth c T locs cells slots) (hx : p.tables.exec = Jvm.exec) (a b : Nat) (ha : g.pc = a) (hd : decode c.code g.pc = .ok (.goto o, 3)) (h : (a : Int) + o = (b : Int)) (hr : Steps p.tables e below (T.setTop { g with pc := b }) target) : Steps p.tables e below (T.setTop g) target := XS.goto X.here hx rfl ha hd (own_jmp h).1 (own_jmp h).2 hr
theorem fY (X : Stand p l e R s g.method args below meth c T locs cells slots) (hx : p.tables.exec = Jvm.exec) (a b : Nat) (ha : g.pc = a) (hd : decode c.code g.pc = .ok (.ifCond cd o, 3)) (hs : g.stack = .int x :: rest) (hc : ifCond.holds cd x = true) (h : (a : Int) + o = (b : Int)) (hr : Steps p.tables e below (T.setTop { g with pc := b, stack := rest }) target) : Steps p.tables e below (T.setTop g) target := XS.ifYes X.here hx rfl ha hd hs hc (own_jmp h).1 (own_jmp h).2 hr
theorem fN (X : Stand p l e R s g.method args below meth c T locs cells slots) (hx : p.tables.exec = Jvm.exec) (hd : decode c.code g.pc = .ok (.ifCond cd o, 3)) (hs : g.stack = .int x :: rest) (hc : ifCond.holds cd x = false) (hr : Steps p.tables e below (T.setTop { g with pc := g.pc + 3, stack := rest }) target) : Steps p.tables e below (T.setTop g) target := XS.ifNo X.here hx rfl hd hs hc hr
theorem cY (X : Stand p l e R s g.method args below meth c T locs cells slots) (hx : p.tables.exec = Jvm.exec) (a b : Nat) (ha : g.pc = a) (hd : decode c.code g.pc = .ok (.if_icmp cd o, 3)) (hs : g.stack = .int y :: .int x :: rest) (hc : if_icmp.holds cd x y = true) (h : (a : Int) + o = (b : Int)) (hr : Steps p.tables e below (T.setTop { g with pc := b, stack := rest }) target) : Steps p.tables e below (T.setTop g) target := XS.icmpYes X.here hx rfl ha hd hs hc (own_jmp h).1 (own_jmp h).2 hr
theorem cN (X : Stand p l e R s g.method args below meth c T locs cells slots) (hx : p.tables.exec = Jvm.exec) (hd : decode c.code g.pc = .ok (.if_icmp cd o, 3)) (hs : g.stack = .int y :: .int x :: rest) (hc : if_icmp.holds cd x y = false) (hr : Steps p.tables e below (T.setTop { g with pc := g.pc + 3, stack := rest }) target) : Steps p.tables e below (T.setTop g) target := XS.icmpNo X.here hx rfl hd hs hc hr
end OwnStep
theorem dl_prog_7_19 : Dec prog_7_method_19_code [(0, .iload_n 0, 1), (1, .ifCond .lt 25, 3), (26, .iconst 0, 1), (27, .ireturn, 1), (4, .iload_n 0, 1), (5, .bipush 64, 2), (7, .if_icmp .ge 19, 3), (10, .ldc2_w 162, 3), (13, .iload_n 0, 1), (14, .lushr, 1), (15, .lconst 1, 1), (16, .land, 1), (17, .lconst 0, 1), (18, .lcmp, 1), (19, .ifCond .eq 7, 3), (22, .iconst 1, 1), (23, .goto 4, 3)] := by decide +kernel
theorem dl_prog_7_25 : Dec prog_7_method_25_code [(0, .iload_n 2, 1), (1, .istore_n 3, 1), (2, .iload_n 3, 1), (3, .aload_n 0, 1), (4, .getfield 17, 3), (7, .if_icmp .ge 21, 3), (28, .iconst (-1), 1), (29, .ireturn, 1), (10, .aload_n 0, 1), (11, .getfield 7, 3), (14, .iload_n 3, 1), (15, .baload, 1), (16, .iload_n 1, 1), (17, .if_icmp .ne 5, 3), (20, .iload_n 3, 1), (21, .ireturn, 1), (22, .iinc 3 1, 3), (25, .goto (-23), 3)] := by decide +kernel
theorem dl_prog_7_15 : Dec prog_7_method_15_code [(0, .iload_n 1, 1), (1, .istore_n 2, 1), (2, .iconst 0, 1), (3, .istore_n 3, 1), (4, .iload_n 2, 1), (5, .aload_n 0, 1), (6, .getfield 17, 3), (9, .if_icmp .ge 33, 3), (42, .aload_n 0, 1), (43, .iload_n 1, 1), (44, .putfield 112, 3), (47, .aload_n 0, 1), (48, .iload_n 2, 1), (49, .putfield 91, 3), (52, .aload_n 0, 1), (53, .iload_n 3, 1), (54, .putfield 132, 3), (57, .iload_n 2, 1), (58, .ireturn, 1), (12, .aload_n 0, 1), (13, .getfield 7, 3), (16, .iload_n 2, 1), (17, .baload, 1), (18, .invokestatic 139, 3), (21, .ifCond .ne 21, 3), (24, .bipush 31, 2), (26, .iload_n 3, 1), (27, .imul, 1), (28, .aload_n 0, 1), (29, .getfield 7, 3), (32, .iload_n 2, 1), (33, .baload, 1), (34, .iadd, 1), (35, .istore_n 3, 1), (36, .iinc 2 1, 3), (39, .goto (-35), 3)] := by decide +kernel
theorem dl_prog_7_16 : Dec prog_7_method_16_code [(0, .iload_n 1, 1), (1, .iconst 1, 1), (2, .iadd, 1), (3, .aload_n 0, 1), (4, .getfield 17, 3), (7, .if_icmp .ge 14, 3), (10, .aload_n 0, 1), (11, .getfield 7, 3), (14, .iload_n 1, 1), (15, .iconst 1, 1), (16, .iadd, 1), (17, .baload, 1), (18, .goto 4, 3), (22, .ireturn, 1), (21, .iconst 0, 1)] := by decide +kernel
theorem dl_prog_7_6 : Dec prog_7_method_6_code [(0, .aload_n 0, 1), (1, .getfield 88, 3), (4, .ireturn, 1)] := by decide +kernel
theorem dl_prog_7_5 : Dec prog_7_method_5_code [(0, .aload_n 0, 1), (1, .getfield 69, 3), (4, .ireturn, 1)] := by decide +kernel
theorem dl_prog_7_1 : Dec prog_7_method_1_code [(0, .aload_n 0, 1), (1, .invokespecial 1, 3), (4, .aload_n 0, 1), (5, .aload_n 1, 1), (6, .putfield 7, 3), (9, .aload_n 0, 1), (10, .iload_n 2, 1), (11, .putfield 13, 3), (14, .aload_n 0, 1), (15, .iload_n 3, 1), (16, .putfield 17, 3), (19, .return_, 1)] := by decide +kernel
theorem dl_jdk_41_11 : Dec jdk_41_method_11_code [(0, .iload_n 0, 1), (1, .ifCond .lt 8, 3), (4, .iload_n 0, 1), (5, .iload_n 1, 1), (6, .if_icmp .lt 10, 3), (16, .iload_n 0, 1), (17, .ireturn, 1)] := by decide +kernel
theorem dl_jdk_42_155 : Dec jdk_42_method_155_code [(0, .iload_n 0, 1), (1, .iload_n 1, 1), (2, .getstatic 1053, 3), (5, .invokestatic 1059, 3), (8, .pop, 1), (9, .return_, 1)] := by decide +kernel
theorem dl_jdk_42_152 : Dec jdk_42_method_152_code [(0, .getstatic 38, 3), (3, .ifCond .eq 10, 3), (6, .aload_n 0, 1), (7, .getfield 15, 3), (10, .goto 4, 3), (14, .ireturn, 1)] := by decide +kernel
theorem dl_jdk_42_154 : Dec jdk_42_method_154_code [(0, .getstatic 38, 3), (3, .ifCond .eq 14, 3), (6, .aload_n 0, 1), (7, .getfield 15, 3), (10, .ifCond .ne 7, 3), (13, .iconst 1, 1), (14, .goto 4, 3), (18, .ireturn, 1), (17, .iconst 0, 1)] := by decide +kernel
theorem dl_jdk_42_54 : Dec jdk_42_method_54_code [(0, .aload_n 0, 1), (1, .getfield 9, 3), (4, .arraylength, 1), (5, .aload_n 0, 1), (6, .invokevirtual 335, 3), (9, .ishr, 1), (10, .ireturn, 1)] := by decide +kernel
theorem dl_jdk_43_2 : Dec jdk_43_method_2_code [(0, .iload_n 1, 1), (1, .aload_n 0, 1), (2, .arraylength, 1), (3, .invokestatic 9, 3), (6, .aload_n 0, 1), (7, .iload_n 1, 1), (8, .baload, 1), (9, .sipush 255, 3), (12, .iand, 1), (13, .i2c, 1), (14, .ireturn, 1)] := by decide +kernel
theorem dl_jdk_42_56 : Dec jdk_42_method_56_code [(0, .aload_n 0, 1), (1, .invokevirtual 492, 3), (4, .ifCond .eq 12, 3), (7, .aload_n 0, 1), (8, .getfield 9, 3), (11, .iload_n 1, 1), (12, .invokestatic 495, 3), (15, .ireturn, 1), (16, .aload_n 0, 1), (17, .getfield 9, 3), (20, .iload_n 1, 1), (21, .invokestatic 498, 3), (24, .ireturn, 1)] := by decide +kernel
theorem dl_prog_7_23 : Dec prog_7_method_23_code [(0, .iload_n 1, 1), (1, .aload_n 2, 1), (2, .invokevirtual 167, 3), (5, .iadd, 1), (6, .aload_n 0, 1), (7, .getfield 17, 3), (10, .if_icmp .le 5, 3), (13, .iconst 0, 1), (14, .ireturn, 1), (15, .iconst 0, 1), (16, .istore_n 3, 1), (17, .iload_n 3, 1), (18, .aload_n 2, 1), (19, .invokevirtual 167, 3), (22, .if_icmp .ge 27, 3), (49, .iconst 1, 1), (50, .ireturn, 1), (25, .aload_n 0, 1), (26, .getfield 7, 3), (29, .iload_n 1, 1), (30, .iload_n 3, 1), (31, .iadd, 1), (32, .baload, 1), (33, .aload_n 2, 1), (34, .iload_n 3, 1), (35, .invokevirtual 170, 3), (38, .if_icmp .eq 5, 3), (43, .iinc 3 1, 3), (46, .goto (-29), 3), (41, .iconst 0, 1), (42, .ireturn, 1)] := by decide +kernel
theorem dl_prog_7_22 : Dec prog_7_method_22_code [(0, .iload_n 1, 1), (1, .istore_n 3, 1), (2, .iload_n 3, 1), (3, .aload_n 0, 1), (4, .getfield 17, 3), (7, .if_icmp .ge 18, 3), (25, .iload_n 3, 1), (26, .aload_n 0, 1), (27, .getfield 17, 3), (30, .if_icmp .ge 12, 3), (42, .iconst (-1), 1), (43, .ireturn, 1), (10, .aload_n 0, 1), (11, .iload_n 3, 1), (12, .aload_n 2, 1), (13, .invokevirtual 145, 3), (16, .ifCond .ne 9, 3), (19, .iinc 3 1, 3), (22, .goto (-20), 3), (33, .iload_n 3, 1), (34, .aload_n 2, 1), (35, .invokevirtual 167, 3), (38, .iadd, 1), (39, .goto 4, 3)] := by decide +kernel
theorem dl_prog_7_18 : Dec prog_7_method_18_code [(0, .iconst 0, 1), (1, .istore_n 2, 1), (2, .iload_n 1, 1), (3, .ifCond .lt 157, 3), (6, .iload_n 1, 1), (7, .aload_n 0, 1), (8, .getfield 17, 3), (11, .if_icmp .ge 149, 3), (14, .aload_n 0, 1), (15, .getfield 7, 3), (18, .iload_n 1, 1), (19, .baload, 1), (20, .bipush 62, 2), (22, .if_icmp .ne 7, 3), (25, .iload_n 2, 1), (26, .ifCond .le 134, 3), (29, .aload_n 0, 1), (30, .getfield 7, 3), (33, .iload_n 1, 1), (34, .baload, 1), (35, .istore_n 3, 1), (48, .aload_n 0, 1), (49, .iload_n 3, 1), (50, .iload_n 1, 1), (51, .iconst 1, 1), (52, .iadd, 1), (53, .invokevirtual 55, 3), (56, .istore 4, 2), (58, .iload 4, 2), (60, .ifCond .ge 7, 3), (63, .iconst (-1), 1), (64, .goto 7, 3), (71, .istore_n 1, 1), (72, .goto 85, 3), (157, .goto (-155), 3), (160, .iload_n 1, 1), (161, .ifCond .lt 17, 3), (178, .iconst (-1), 1), (179, .ireturn, 1), (67, .iload 4, 2), (69, .iconst 1, 1), (70, .iadd, 1), (36, .iload_n 3, 1), (37, .bipush 39, 2), (39, .if_icmp .eq 9, 3), (42, .iload_n 3, 1), (43, .bipush 34, 2), (45, .if_icmp .ne 30, 3), (75, .iload_n 2, 1), (76, .ifCond .le 26, 3), (79, .aload_n 0, 1), (80, .iload_n 1, 1), (81, .ldc 143, 2), (83, .invokevirtual 145, 3), (86, .ifCond .eq 16, 3), (102, .iload_n 2, 1), (103, .ifCond .le 26, 3), (106, .aload_n 0, 1), (107, .iload_n 1, 1), (108, .ldc 158, 2), (110, .invokevirtual 145, 3), (113, .ifCond .eq 16, 3), (129, .iload_n 3, 1), (130, .bipush 91, 2), (132, .if_icmp .ne 9, 3), (135, .iinc 2 1, 3), (138, .goto 16, 3), (154, .iinc 1 1, 3), (141, .iload_n 3, 1), (142, .bipush 93, 2), (144, .if_icmp .ne 10, 3), (147, .iload_n 2, 1), (148, .ifCond .le 6, 3), (151, .iinc 2 (-1), 3), (116, .aload_n 0, 1), (117, .iload_n 1, 1), (118, .iconst 2, 1), (119, .iadd, 1), (120, .ldc 82, 2), (122, .invokevirtual 84, 3), (125, .istore_n 1, 1), (126, .goto 31, 3), (89, .aload_n 0, 1), (90, .iload_n 1, 1), (91, .iconst 4, 1), (92, .iadd, 1), (93, .ldc 149, 2), (95, .invokevirtual 84, 3), (98, .istore_n 1, 1), (99, .goto 58, 3), (164, .iload_n 1, 1), (165, .aload_n 0, 1), (166, .getfield 17, 3), (169, .if_icmp .ge 9, 3), (172, .iload_n 1, 1), (173, .iconst 1, 1), (174, .iadd, 1), (175, .goto 4, 3)] := by decide +kernel
theorem dl_prog_7_17 : Dec prog_7_method_17_code [(0, .aload_n 0, 1), (1, .iload_n 1, 1), (2, .ldc 143, 2), (4, .invokevirtual 145, 3), (7, .ifCond .eq 16, 3), (23, .aload_n 0, 1), (24, .iload_n 1, 1), (25, .ldc 151, 2), (27, .invokevirtual 145, 3), (30, .ifCond .eq 17, 3), (47, .aload_n 0, 1), (48, .iload_n 1, 1), (49, .iconst 2, 1), (50, .iadd, 1), (51, .invokevirtual 155, 3), (54, .istore_n 2, 1), (55, .iload_n 2, 1), (56, .ireturn, 1), (33, .aload_n 0, 1), (34, .iload_n 1, 1), (35, .bipush 9, 2), (37, .iadd, 1), (38, .ldc 153, 2), (40, .invokevirtual 84, 3), (43, .istore_n 2, 1), (44, .goto 11, 3), (10, .aload_n 0, 1), (11, .iload_n 1, 1), (12, .iconst 4, 1), (13, .iadd, 1), (14, .ldc 149, 2), (16, .invokevirtual 84, 3), (19, .istore_n 2, 1), (20, .goto 35, 3)] := by decide +kernel
theorem dl_prog_7_3 : Dec prog_7_method_3_code [(0, .aload_n 0, 1), (1, .bipush 60, 2), (3, .aload_n 0, 1), (4, .getfield 13, 3), (7, .invokevirtual 55, 3), (10, .istore_n 1, 1), (11, .aload_n 0, 1), (12, .getfield 17, 3), (15, .istore_n 2, 1), (16, .iload_n 1, 1), (17, .ifCond .lt 44, 3), (61, .iload_n 1, 1), (62, .ifCond .ge 23, 3), (65, .aload_n 0, 1), (66, .aconst_null, 1), (67, .putfield 67, 3), (70, .aload_n 0, 1), (71, .iload_n 2, 1), (72, .putfield 69, 3), (75, .aload_n 0, 1), (76, .aload_n 0, 1), (77, .getfield 17, 3), (80, .putfield 13, 3), (83, .iconst 0, 1), (84, .ireturn, 1), (20, .aload_n 0, 1), (21, .iload_n 1, 1), (22, .invokevirtual 59, 3), (25, .bipush 33, 2), (27, .if_icmp .ne 34, 3), (30, .aload_n 0, 1), (31, .iload_n 1, 1), (32, .invokevirtual 63, 3), (35, .istore_n 3, 1), (36, .iload_n 3, 1), (37, .ifCond .ge 5, 3), (40, .iload_n 1, 1), (41, .istore_n 2, 1), (42, .iload_n 3, 1), (43, .ifCond .ge 7, 3), (46, .iconst (-1), 1), (47, .goto 10, 3), (57, .istore_n 1, 1), (58, .goto (-42), 3), (50, .aload_n 0, 1), (51, .bipush 60, 2), (53, .iload_n 3, 1), (54, .invokevirtual 55, 3), (85, .aload_n 0, 1), (86, .iload_n 1, 1), (87, .putfield 69, 3), (90, .aload_n 0, 1), (91, .iconst 0, 1), (92, .putfield 72, 3), (95, .aload_n 0, 1), (96, .iload_n 1, 1), (97, .invokevirtual 59, 3), (100, .istore_n 3, 1), (101, .iload_n 3, 1), (102, .bipush 63, 2), (104, .if_icmp .ne 56, 3), (107, .aload_n 0, 1), (108, .getstatic 76, 3), (111, .putfield 67, 3), (114, .aload_n 0, 1), (115, .iload_n 1, 1), (116, .iconst 2, 1), (117, .iadd, 1), (118, .invokevirtual 79, 3), (121, .pop, 1), (122, .aload_n 0, 1), (123, .aload_n 0, 1), (124, .iload_n 1, 1), (125, .iconst 2, 1), (126, .iadd, 1), (127, .ldc 82, 2), (129, .invokevirtual 84, 3), (132, .putfield 88, 3), (135, .aload_n 0, 1), (136, .aload_n 0, 1), (137, .getfield 88, 3), (140, .ifCond .ge 10, 3), (143, .aload_n 0, 1), (144, .getfield 17, 3), (147, .goto 7, 3), (154, .putfield 13, 3), (157, .goto 99, 3), (256, .aload_n 0, 1), (257, .aload_n 0, 1), (258, .getfield 67, 3), (261, .getstatic 94, 3), (264, .if_acmp .ne 7, 3), (271, .iconst 0, 1), (272, .putfield 97, 3), (275, .iconst 1, 1), (276, .ireturn, 1), (150, .aload_n 0, 1), (151, .getfield 88, 3), (160, .iload_n 3, 1), (161, .bipush 47, 2), (163, .if_icmp .ne 70, 3), (166, .aload_n 0, 1), (167, .getstatic 42, 3), (170, .putfield 67, 3), (173, .aload_n 0, 1), (174, .iload_n 1, 1), (175, .iconst 2, 1), (176, .iadd, 1), (177, .invokevirtual 79, 3), (180, .pop, 1), (181, .aload_n 0, 1), (182, .bipush 62, 2), (184, .aload_n 0, 1), (185, .getfield 91, 3), (188, .invokevirtual 55, 3), (191, .istore 4, 2), (193, .aload_n 0, 1), (194, .iload 4, 2), (196, .ifCond .ge 7, 3), (199, .iconst (-1), 1), (200, .goto 7, 3), (207, .putfield 88, 3), (210, .aload_n 0, 1), (211, .iload 4, 2), (213, .ifCond .ge 10, 3), (216, .aload_n 0, 1), (217, .getfield 17, 3), (220, .goto 7, 3), (227, .putfield 13, 3), (230, .goto 26, 3), (203, .iload 4, 2), (205, .iconst 1, 1), (206, .iadd, 1), (223, .iload 4, 2), (225, .iconst 1, 1), (226, .iadd, 1), (233, .aload_n 0, 1), (234, .getstatic 94, 3), (237, .putfield 67, 3), (240, .aload_n 0, 1), (241, .iconst (-1), 1), (242, .putfield 88, 3), (245, .aload_n 0, 1), (246, .aload_n 0, 1), (247, .iload_n 1, 1), (248, .iconst 1, 1), (249, .iadd, 1), (250, .invokevirtual 79, 3), (253, .putfield 13, 3), (267, .iconst 1, 1), (268, .goto 4, 3)] := by decide +kernel
theorem dl_method_4 : Dec method_4_code [(0, .iload_n 0, 1), (1, .i2b, 1), (2, .istore_n 1, 1), (3, .iload_n 1, 1), (4, .bipush 60, 2), (6, .if_icmp .ne 8, 3), (9, .bipush 120, 2), (11, .goto 4, 3), (15, .ireturn, 1), (14, .iload_n 1, 1)] := by decide +kernel
theorem dl_method_5 : Dec method_5_code [(0, .iload_n 0, 1), (1, .bipush 127, 2), (3, .iand, 1), (4, .istore_n 1, 1), (5, .iload_n 1, 1), (6, .bipush 64, 2), (8, .if_icmp .ge 12, 3), (11, .sipush 128, 3), (14, .iload_n 1, 1), (15, .iadd, 1), (16, .i2b, 1), (17, .goto 5, 3), (22, .ireturn, 1), (20, .iload_n 1, 1), (21, .i2b, 1)] := by decide +kernel
theorem dl_method_6 : Dec method_6_code [(0, .iload_n 0, 1), (1, .bipush 127, 2), (3, .iand, 1), (4, .istore_n 1, 1), (5, .iload_n 1, 1), (6, .bipush 64, 2), (8, .if_icmp .ge 8, 3), (11, .ldc 82, 2), (13, .goto 5, 3), (18, .ireturn, 1), (16, .iload_n 1, 1), (17, .i2c, 1)] := by decide +kernel
theorem dl_method_7 : Dec method_7_code [(0, .iload_n 0, 1), (1, .ifCond .ne 6, 3), (4, .bipush 32, 2), (6, .ireturn, 1), (7, .iload_n 0, 1), (8, .iconst 1, 1), (9, .if_icmp .ne 6, 3), (12, .bipush 9, 2), (14, .ireturn, 1), (15, .iload_n 0, 1), (16, .iconst 2, 1), (17, .if_icmp .ne 6, 3), (20, .bipush 10, 2), (22, .ireturn, 1), (23, .iload_n 0, 1), (24, .iconst 3, 1), (25, .if_icmp .ne 6, 3), (28, .bipush 13, 2), (30, .ireturn, 1), (31, .iload_n 0, 1), (32, .iconst 4, 1), (33, .if_icmp .ne 6, 3), (36, .bipush 61, 2), (38, .ireturn, 1), (39, .iload_n 0, 1), (40, .iconst 5, 1), (41, .if_icmp .ne 6, 3), (44, .bipush 47, 2), (46, .ireturn, 1), (47, .bipush 62, 2), (49, .ireturn, 1)] := by decide +kernel
theorem dl_prog_7_4 : Dec prog_7_method_4_code [(0, .aload_n 0, 1), (1, .getfield 67, 3), (4, .areturn, 1)] := by decide +kernel
theorem dl_method_11 : Dec method_11_code [(0, .iload_n 3, 1), (1, .aload_n 2, 1), (2, .invokevirtual 70, 3), (5, .if_icmp .ge 14, 3), (8, .aload_n 0, 1), (9, .iload_n 1, 1), (10, .iload_n 3, 1), (11, .iadd, 1), (12, .aload_n 2, 1), (13, .iload_n 3, 1), (14, .invokevirtual 79, 3), (17, .i2b, 1), (18, .bastore, 1), (19, .return_, 1)] := by decide +kernel
theorem dl_method_10 : Dec method_10_code [(0, .aload_n 0, 1), (1, .iload_n 1, 1), (2, .aload_n 2, 1), (3, .iconst 0, 1), (4, .invokestatic 113, 3), (7, .aload_n 0, 1), (8, .iload_n 1, 1), (9, .aload_n 2, 1), (10, .iconst 1, 1), (11, .invokestatic 113, 3), (14, .aload_n 0, 1), (15, .iload_n 1, 1), (16, .aload_n 2, 1), (17, .iconst 2, 1), (18, .invokestatic 113, 3), (21, .aload_n 0, 1), (22, .iload_n 1, 1), (23, .aload_n 2, 1), (24, .iconst 3, 1), (25, .invokestatic 113, 3), (28, .aload_n 0, 1), (29, .iload_n 1, 1), (30, .aload_n 2, 1), (31, .iconst 4, 1), (32, .invokestatic 113, 3), (35, .aload_n 0, 1), (36, .iload_n 1, 1), (37, .aload_n 2, 1), (38, .iconst 5, 1), (39, .invokestatic 113, 3), (42, .aload_n 0, 1), (43, .iload_n 1, 1), (44, .aload_n 2, 1), (45, .bipush 6, 2), (47, .invokestatic 113, 3), (50, .aload_n 0, 1), (51, .iload_n 1, 1), (52, .aload_n 2, 1), (53, .bipush 7, 2), (55, .invokestatic 113, 3), (58, .aload_n 0, 1), (59, .iload_n 1, 1), (60, .aload_n 2, 1), (61, .bipush 8, 2), (63, .invokestatic 113, 3), (66, .aload_n 0, 1), (67, .iload_n 1, 1), (68, .aload_n 2, 1), (69, .bipush 9, 2), (71, .invokestatic 113, 3), (74, .aload_n 0, 1), (75, .iload_n 1, 1), (76, .aload_n 2, 1), (77, .bipush 10, 2), (79, .invokestatic 113, 3), (82, .aload_n 0, 1), (83, .iload_n 1, 1), (84, .aload_n 2, 1), (85, .bipush 11, 2), (87, .invokestatic 113, 3), (90, .aload_n 0, 1), (91, .iload_n 1, 1), (92, .aload_n 2, 1), (93, .bipush 12, 2), (95, .invokestatic 113, 3), (98, .aload_n 0, 1), (99, .iload_n 1, 1), (100, .aload_n 2, 1), (101, .bipush 13, 2), (103, .invokestatic 113, 3), (106, .aload_n 0, 1), (107, .iload_n 1, 1), (108, .aload_n 2, 1), (109, .bipush 14, 2), (111, .invokestatic 113, 3), (114, .iload_n 1, 1), (115, .aload_n 2, 1), (116, .invokevirtual 70, 3), (119, .iadd, 1), (120, .ireturn, 1)] := by decide +kernel
theorem dl_method_8 : Dec method_8_code [(0, .iload_n 0, 1), (1, .iconst 2, 1), (2, .if_icmp .ne 6, 3), (5, .ldc 83, 2), (7, .areturn, 1), (8, .iload_n 0, 1), (9, .iconst 3, 1), (10, .if_icmp .ne 6, 3), (13, .ldc 85, 2), (15, .areturn, 1), (16, .iload_n 0, 1), (17, .iconst 4, 1), (18, .if_icmp .ne 6, 3), (21, .ldc 87, 2), (23, .areturn, 1), (24, .iload_n 0, 1), (25, .iconst 5, 1), (26, .if_icmp .ne 6, 3), (29, .ldc 89, 2), (31, .areturn, 1), (32, .iload_n 0, 1), (33, .bipush 6, 2), (35, .if_icmp .ne 6, 3), (38, .ldc 91, 2), (40, .areturn, 1), (41, .iload_n 0, 1), (42, .bipush 7, 2), (44, .if_icmp .ne 6, 3), (47, .ldc 93, 2), (49, .areturn, 1), (50, .iload_n 0, 1), (51, .bipush 8, 2), (53, .if_icmp .ne 6, 3), (56, .ldc 95, 2), (58, .areturn, 1), (59, .iload_n 0, 1), (60, .bipush 9, 2), (62, .if_icmp .ne 6, 3), (65, .ldc 97, 2), (67, .areturn, 1), (68, .iload_n 0, 1), (69, .bipush 10, 2), (71, .if_icmp .ne 6, 3), (74, .ldc 99, 2), (76, .areturn, 1), (77, .iload_n 0, 1), (78, .bipush 11, 2), (80, .if_icmp .ne 6, 3), (83, .ldc 101, 2), (85, .areturn, 1), (86, .ldc 103, 2), (88, .areturn, 1)] := by decide +kernel
theorem dl_method_9 : Dec method_9_code [(0, .iload_n 0, 1), (1, .ifCond .ne 6, 3), (4, .ldc 105, 2), (6, .areturn, 1), (7, .iload_n 0, 1), (8, .iconst 1, 1), (9, .if_icmp .ne 6, 3), (12, .ldc 107, 2), (14, .areturn, 1), (15, .iload_n 0, 1), (16, .iconst 2, 1), (17, .if_icmp .ne 6, 3), (20, .ldc 109, 2), (22, .areturn, 1), (23, .ldc 111, 2), (25, .areturn, 1)] := by decide +kernel
theorem dl_jdk_123_3 : Dec jdk_123_method_3_code [(0, .iload_n 1, 1), (1, .iload_n 2, 1), (2, .iadd, 1), (3, .istore_n 3, 1), (4, .iload_n 1, 1), (5, .istore 4, 2), (7, .iload 4, 2), (9, .iload_n 3, 1), (10, .if_icmp .ge 21, 3), (31, .iload_n 2, 1), (32, .ireturn, 1), (13, .aload_n 0, 1), (14, .iload 4, 2), (16, .baload, 1), (17, .ifCond .ge 8, 3), (20, .iload 4, 2), (22, .iload_n 1, 1), (23, .isub, 1), (24, .ireturn, 1), (25, .iinc 4 1, 3), (28, .goto (-21), 3)] := by decide +kernel
theorem dl_jdk_52_4 : Dec jdk_52_method_4_code [(0, .getstatic 44, 3), (3, .ifCond .ne 25, 3), (28, .iload_n 1, 1), (29, .iconst 1, 1), (30, .ishl, 1), (31, .istore_n 1, 1), (32, .aload_n 0, 1), (33, .iload_n 1, 1), (34, .iinc 1 1, 3), (37, .iload_n 2, 1), (38, .getstatic 59, 3), (41, .ishr, 1), (42, .i2b, 1), (43, .bastore, 1), (44, .aload_n 0, 1), (45, .iload_n 1, 1), (46, .iload_n 2, 1), (47, .getstatic 63, 3), (50, .ishr, 1), (51, .i2b, 1), (52, .bastore, 1), (53, .return_, 1)] := by decide +kernel
theorem dl_jdk_29_69 : Dec jdk_29_method_69_code [(0, .iload_n 0, 1), (1, .iload_n 1, 1), (2, .if_icmp .gt 7, 3), (9, .iload_n 1, 1), (10, .ireturn, 1), (5, .iload_n 0, 1), (6, .goto 4, 3)] := by decide +kernel
theorem dl_jdk_65_131 : Dec jdk_65_method_131_code [(0, .iload_n 1, 1), (1, .iload_n 0, 1), (2, .if_icmp .ge 35, 3), (37, .return_, 1)] := by decide +kernel
theorem dl_jdk_31_10 : Dec jdk_31_method_10_code [(0, .aload_n 0, 1), (1, .ifnonnull 11, 3), (12, .aload_n 0, 1), (13, .areturn, 1)] := by decide +kernel
theorem dl_jdk_65_133 : Dec jdk_65_method_133_code [(0, .iload_n 1, 1), (1, .iload_n 2, 1), (2, .invokestatic 343, 3), (5, .iload_n 2, 1), (6, .iload_n 1, 1), (7, .isub, 1), (8, .istore_n 3, 1), (9, .iload_n 3, 1), (10, .newarray .byte, 2), (12, .astore 4, 2), (14, .aload_n 0, 1), (15, .iload_n 1, 1), (16, .aload 4, 2), (18, .iconst 0, 1), (19, .aload_n 0, 1), (20, .arraylength, 1), (21, .iload_n 1, 1), (22, .isub, 1), (23, .iload_n 3, 1), (24, .invokestatic 304, 3), (27, .invokestatic 150, 3), (30, .aload 4, 2), (32, .areturn, 1)] := by decide +kernel
theorem dl_jdk_65_132 : Dec jdk_65_method_132_code [(0, .iload_n 1, 1), (1, .ifCond .ne 9, 3), (10, .aload_n 0, 1), (11, .iload_n 1, 1), (12, .iload_n 2, 1), (13, .invokestatic 339, 3), (16, .areturn, 1)] := by decide +kernel
theorem dl_jdk_52_3 : Dec jdk_52_method_3_code [(0, .iload_n 0, 1), (1, .ifCond .ge 11, 3), (12, .iload_n 0, 1), (13, .ldc 20, 2), (15, .if_icmp .lt 40, 3), (55, .iload_n 0, 1), (56, .iconst 1, 1), (57, .ishl, 1), (58, .ireturn, 1)] := by decide +kernel
theorem dl_jdk_52_2 : Dec jdk_52_method_2_code [(0, .iload_n 0, 1), (1, .invokestatic 11, 3), (4, .newarray .byte, 2), (6, .areturn, 1)] := by decide +kernel
theorem dl_jdk_52_6 : Dec jdk_52_method_6_code [(0, .aload_n 0, 1), (1, .arraylength, 1), (2, .iconst 1, 1), (3, .ishr, 1), (4, .ireturn, 1)] := by decide +kernel
theorem dl_jdk_41_13 : Dec jdk_41_method_13_code [(0, .iload_n 2, 1), (1, .iload_n 0, 1), (2, .ior, 1), (3, .iload_n 1, 1), (4, .ior, 1), (5, .ifCond .lt 10, 3), (8, .iload_n 1, 1), (9, .iload_n 2, 1), (10, .iload_n 0, 1), (11, .isub, 1), (12, .if_icmp .le 11, 3), (23, .iload_n 0, 1), (24, .ireturn, 1)] := by decide +kernel
theorem dl_jdk_42_157 : Dec jdk_42_method_157_code [(0, .iload_n 0, 1), (1, .iload_n 1, 1), (2, .iload_n 2, 1), (3, .getstatic 1053, 3), (6, .invokestatic 1065, 3), (9, .ireturn, 1)] := by decide +kernel
theorem dl_jdk_52_94 : Dec jdk_52_method_94_code [(0, .iload_n 0, 1), (1, .iload_n 1, 1), (2, .aload_n 2, 1), (3, .invokestatic 48, 3), (6, .invokestatic 419, 3), (9, .pop, 1), (10, .return_, 1)] := by decide +kernel
theorem dl_jdk_52_86 : Dec jdk_52_method_86_code [(0, .iload_n 3, 1), (1, .iload 4, 2), (3, .aload_n 2, 1), (4, .invokestatic 173, 3), (7, .iconst 0, 1), (8, .istore 5, 2), (10, .iload 5, 2), (12, .iload 4, 2), (14, .if_icmp .ge 27, 3), (41, .return_, 1), (17, .aload_n 2, 1), (18, .iload_n 3, 1), (19, .iinc 3 1, 3), (22, .aload_n 0, 1), (23, .iload_n 1, 1), (24, .iinc 1 1, 3), (27, .baload, 1), (28, .sipush 255, 3), (31, .iand, 1), (32, .invokestatic 111, 3), (35, .iinc 5 1, 3), (38, .goto (-28), 3)] := by decide +kernel
theorem dl_jdk_43_50 : Dec jdk_43_method_50_code [(0, .aload_n 0, 1), (1, .iload_n 1, 1), (2, .aload_n 2, 1), (3, .iload_n 3, 1), (4, .iload 4, 2), (6, .invokestatic 240, 3), (9, .return_, 1)] := by decide +kernel
theorem dl_jdk_42_38 : Dec jdk_42_method_38_code [(0, .iload_n 1, 1), (1, .iload_n 2, 1), (2, .if_icmp .ge 619, 3), (621, .iload 4, 2), (623, .ireturn, 1), (5, .aload_n 0, 1), (6, .iload_n 1, 1), (7, .iinc 1 1, 3), (10, .baload, 1), (11, .istore 6, 2), (13, .iload 6, 2), (15, .ifCond .lt 18, 3), (33, .iload 6, 2), (35, .iconst 5, 1), (36, .ishr, 1), (37, .bipush (-2), 2), (39, .if_icmp .ne 104, 3), (143, .iload 6, 2), (145, .iconst 4, 1), (146, .ishr, 1), (147, .bipush (-2), 2), (149, .if_icmp .ne 200, 3), (349, .iload 6, 2), (351, .iconst 3, 1), (352, .ishr, 1), (353, .bipush (-2), 2), (355, .if_icmp .ne 240, 3), (595, .iload 5, 2), (597, .ifCond .ne 10, 3), (607, .aload_n 3, 1), (608, .iload 4, 2), (610, .iinc 4 1, 3), (613, .ldc 132, 2), (615, .invokestatic 64, 3), (618, .goto (-618), 3), (18, .aload_n 3, 1), (19, .iload 4, 2), (21, .iinc 4 1, 3), (24, .iload 6, 2), (26, .i2c, 1), (27, .invokestatic 64, 3), (30, .goto 588, 3)] := by decide +kernel
theorem dl_jdk_42_11 : Dec jdk_42_method_11_code [(0, .aload_n 0, 1), (1, .invokespecial 1, 3), (4, .iload 4, 2), (6, .ifCond .ne 24, 3), (30, .aload_n 1, 1), (31, .getstatic 86, 3), (34, .if_acmp .ne 312, 3), (37, .getstatic 38, 3), (40, .ifCond .eq 252, 3), (43, .aload_n 2, 1), (44, .iload_n 3, 1), (45, .iload 4, 2), (47, .invokestatic 92, 3), (50, .istore 5, 2), (52, .iload 5, 2), (54, .iload 4, 2), (56, .if_icmp .ne 22, 3), (59, .aload_n 0, 1), (60, .aload_n 2, 1), (61, .iload_n 3, 1), (62, .iload_n 3, 1), (63, .iload 4, 2), (65, .iadd, 1), (66, .invokestatic 54, 3), (69, .putfield 9, 3), (72, .aload_n 0, 1), (73, .iconst 0, 1), (74, .putfield 15, 3), (77, .return_, 1), (78, .aload_n 2, 1), (79, .iload_n 3, 1), (80, .iload_n 3, 1), (81, .iload 4, 2), (83, .iadd, 1), (84, .invokestatic 54, 3), (87, .astore 6, 2), (89, .iload 5, 2), (91, .istore 7, 2), (93, .iload 7, 2), (95, .iload 4, 2), (97, .if_icmp .ge 93, 3), (100, .aload 6, 2), (102, .iload 7, 2), (104, .iinc 7 1, 3), (107, .baload, 1), (108, .istore 8, 2), (110, .iload 8, 2), (112, .ifCond .lt 17, 3), (129, .iload 8, 2), (131, .sipush 254, 3), (134, .iand, 1), (135, .sipush 194, 3), (138, .if_icmp .ne 46, 3), (184, .iinc 7 (-1), 3), (187, .goto 3, 3), (190, .iload 7, 2), (192, .iload 4, 2), (194, .if_icmp .ne 32, 3), (226, .iload 4, 2), (228, .invokestatic 60, 3), (231, .astore 8, 2), (233, .aload 6, 2), (235, .iconst 0, 1), (236, .aload 8, 2), (238, .iconst 0, 1), (239, .iload 5, 2), (241, .invokestatic 106, 3), (244, .aload 6, 2), (246, .iload 7, 2), (248, .iload 4, 2), (250, .aload 8, 2), (252, .iload 5, 2), (254, .iconst 1, 1), (255, .invokestatic 112, 3), (258, .istore 5, 2), (260, .iload 5, 2), (262, .iload 4, 2), (264, .if_icmp .eq 14, 3), (278, .aload_n 0, 1), (279, .aload 8, 2), (281, .putfield 9, 3), (284, .aload_n 0, 1), (285, .iconst 1, 1), (286, .putfield 15, 3), (289, .goto 590, 3), (879, .return_, 1), (9, .aload_n 0, 1), (10, .ldc 7, 2), (12, .getfield 9, 3), (15, .putfield 9, 3), (18, .aload_n 0, 1), (19, .ldc 7, 2), (21, .getfield 15, 3), (24, .putfield 15, 3), (27, .goto 852, 3)] := by decide +kernel
theorem dl_jdk_42_10 : Dec jdk_42_method_10_code [(0, .aload_n 0, 1), (1, .aload 4, 2), (3, .invokestatic 78, 3), (6, .checkcast 84, 3), (9, .aload_n 1, 1), (10, .iload_n 2, 1), (11, .iload_n 3, 1), (12, .aload_n 1, 1), (13, .arraylength, 1), (14, .invokestatic 34, 3), (17, .iload_n 3, 1), (18, .invokespecial 75, 3), (21, .return_, 1)] := by decide +kernel
theorem dl_prog_7_11 : Dec prog_7_method_11_code [(0, .new 121, 3), (3, .dup, 1), (4, .aload_n 0, 1), (5, .getfield 7, 3), (8, .aload_n 0, 1), (9, .getfield 112, 3), (12, .aload_n 0, 1), (13, .getfield 91, 3), (16, .aload_n 0, 1), (17, .getfield 112, 3), (20, .isub, 1), (21, .getstatic 123, 3), (24, .invokespecial 129, 3), (27, .areturn, 1)] := by decide +kernel
theorem dl_jdk_52_91 : Dec jdk_52_method_91_code [(0, .iload_n 0, 1), (1, .aload_n 1, 1), (2, .invokestatic 48, 3), (5, .invokestatic 414, 3), (8, .return_, 1)] := by decide +kernel
theorem dl_jdk_52_5 : Dec jdk_52_method_5_code [(0, .getstatic 44, 3), (3, .ifCond .ne 25, 3), (28, .iload_n 1, 1), (29, .iconst 1, 1), (30, .ishl, 1), (31, .istore_n 1, 1), (32, .aload_n 0, 1), (33, .iload_n 1, 1), (34, .iinc 1 1, 3), (37, .baload, 1), (38, .sipush 255, 3), (41, .iand, 1), (42, .getstatic 59, 3), (45, .ishl, 1), (46, .aload_n 0, 1), (47, .iload_n 1, 1), (48, .baload, 1), (49, .sipush 255, 3), (52, .iand, 1), (53, .getstatic 63, 3), (56, .ishl, 1), (57, .ior, 1), (58, .i2c, 1), (59, .ireturn, 1)] := by decide +kernel
theorem dl_jdk_52_83 : Dec jdk_52_method_83_code [(0, .iload_n 1, 1), (1, .aload_n 0, 1), (2, .invokestatic 67, 3), (5, .aload_n 0, 1), (6, .iload_n 1, 1), (7, .invokestatic 71, 3), (10, .ireturn, 1)] := by decide +kernel
theorem dl_method_3 : Dec method_3_code [(0, .iload_n 1, 1), (1, .aload_n 0, 1), (2, .invokevirtual 70, 3), (5, .if_icmp .ge 12, 3), (8, .aload_n 0, 1), (9, .iload_n 1, 1), (10, .invokevirtual 79, 3), (13, .iload_n 2, 1), (14, .if_icmp .ne 7, 3), (17, .iconst 1, 1), (18, .goto 4, 3), (22, .ireturn, 1), (21, .iconst 0, 1)] := by decide +kernel
theorem sn0 {Z : State} {a0 : Array Value} (hw : ∀ d ∈ tables_1, d.before a0 Z = true) : Jvm.RoadKit.slotOf Z cB "coder" "B" ≠ Jvm.RoadKit.slotOf Z cB "value" "[B" := slot_ne (Or.inr (wt hw 9 rfl)) (Or.inr (wt hw 8 rfl)) (by decide) (t := .byte) (t' := (.array .byte)) (by decide) (by decide)
theorem sn1 {Z : State} {a0 : Array Value} (hw : ∀ d ∈ tables_1, d.before a0 Z = true) : Jvm.RoadKit.slotOf Z cB "value" "[B" ≠ Jvm.RoadKit.slotOf Z cB "coder" "B" := slot_ne (Or.inr (wt hw 8 rfl)) (Or.inr (wt hw 9 rfl)) (by decide) (t := (.array .byte)) (t' := .byte) (by decide) (by decide)
abbrev la0 (v0 : Addr) (v1 v2 v3 : Int32) (v4 : Slot) : Array Slot := #[vr v0, vi v1, vi v2, vi v3, v4]
abbrev la1 (v0 : Addr) (v1 v2 v3 v4 : Int32) : Array Slot := #[vr v0, vi v1, vi v2, vi v3, vi v4]
abbrev la2 (v0 : Addr) (v1 : Int32) (v2 : Addr) (v3 v4 v5 : Int32) : Array Slot := #[vr v0, vi v1, vr v2, vi v3, vi v4, vi v5]
abbrev la3 (v0 : Addr) (v1 v2 : Int32) (v3 : Addr) (v4 v5 : Int32) (v6 : Slot) : Array Slot := #[vr v0, vi v1, vi v2, vr v3, vi v4, vi v5, v6, .unset, .unset, .unset, .unset]
abbrev la4 (v0 : Addr) (v1 v2 : Int32) (v3 : Addr) (v4 v5 v6 : Int32) : Array Slot := #[vr v0, vi v1, vi v2, vr v3, vi v4, vi v5, vi v6, .unset, .unset, .unset, .unset]
abbrev la5 (v0 : Addr) (v1 v2 : Int32) (v3 : Addr) (v4 v5 : Int32) : Array Slot := #[vr v0, vi v1, vi v2, vr v3, vi v4, vi v5, .unset, .unset, .unset, .unset, .unset]
abbrev la6 (v0 v1 v2 : Addr) (v3 v4 : Int32) : Array Slot := #[vr v0, vr v1, vr v2, vi v3, vi v4, .unset, .unset, .unset, .unset, .unset, .unset]
abbrev la7 (v0 v1 v2 : Addr) (v3 v4 v5 : Int32) : Array Slot := #[vr v0, vr v1, vr v2, vi v3, vi v4, vi v5, .unset, .unset, .unset, .unset, .unset]
abbrev la8 (v0 v1 v2 : Addr) (v3 v4 v5 : Int32) (v6 : Addr) : Array Slot := #[vr v0, vr v1, vr v2, vi v3, vi v4, vi v5, vr v6, .unset, .unset, .unset, .unset]
abbrev la9 (v0 v1 v2 : Addr) (v3 v4 v5 : Int32) (v6 : Addr) (v7 : Int32) : Array Slot := #[vr v0, vr v1, vr v2, vi v3, vi v4, vi v5, vr v6, vi v7, .unset, .unset, .unset]
abbrev la10 (v0 v1 v2 : Addr) (v3 v4 v5 : Int32) (v6 : Addr) (v7 v8 : Int32) : Array Slot := #[vr v0, vr v1, vr v2, vi v3, vi v4, vi v5, vr v6, vi v7, vi v8, .unset, .unset]
abbrev la11 (v0 v1 v2 : Addr) (v3 v4 v5 : Int32) (v6 : Addr) (v7 : Int32) (v8 : Addr) : Array Slot := #[vr v0, vr v1, vr v2, vi v3, vi v4, vi v5, vr v6, vi v7, vr v8, .unset, .unset]
abbrev la12 (v0 v1 v2 v3 : Int32) (v4 v5 v6 v7 : Slot) (v8 v9 : Int32) (v10 : Slot) (v11 v12 v13 : Int32) (v14 : Slot) (v15 : Int32) (v16 v17 : Slot) (v18 : Int32) (v19 : Slot) (v20 : Int32) (v21 : Addr) (v22 v23 : Int32) (v24 : Slot) (v25 : Int32) (v26 : Value) (v27 : Int32) (v28 : Addr) (v29 v30 v31 v32 v33 v34 : Slot) (v35 v36 v37 : Int32) : Array Slot := #[vi v0, vi v1, vi v2, vi v3, v4, v5, v6, v7, vi v8, vi v9, v10, vi v11, vi v12, vi v13, v14, vi v15, v16, v17, vi v18, v19, vi v20, vr v21, vi v22, vi v23, v24, vi v25, .val v26, vi v27, vr v28, v29, v30, v31, v32, v33, v34, vi v35, vi v36, vi v37, .unset]
abbrev la13 (v0 v1 v2 v3 : Int32) (v4 v5 v6 v7 : Slot) (v8 v9 : Int32) (v10 : Slot) (v11 v12 v13 : Int32) (v14 : Slot) (v15 : Int32) (v16 v17 : Slot) (v18 : Int32) (v19 : Slot) (v20 : Int32) (v21 : Addr) (v22 v23 : Int32) (v24 : Slot) (v25 : Int32) (v26 : Addr) (v27 : Int32) (v28 : Addr) (v29 v30 v31 v32 v33 v34 : Slot) (v35 v36 v37 : Int32) : Array Slot := #[vi v0, vi v1, vi v2, vi v3, v4, v5, v6, v7, vi v8, vi v9, v10, vi v11, vi v12, vi v13, v14, vi v15, v16, v17, vi v18, v19, vi v20, vr v21, vi v22, vi v23, v24, vi v25, vr v26, vi v27, vr v28, v29, v30, v31, v32, v33, v34, vi v35, vi v36, vi v37, .unset]
abbrev la14 (v0 v1 v2 v3 : Int32) (v4 v5 v6 v7 : Slot) (v8 v9 : Int32) (v10 : Slot) (v11 v12 v13 : Int32) (v14 : Slot) (v15 : Int32) (v16 v17 : Slot) (v18 : Int32) (v19 : Slot) (v20 : Int32) (v21 : Addr) (v22 v23 : Int32) (v24 : Slot) (v25 : Int32) (v26 : Addr) (v27 : Int32) (v28 : Addr) (v29 v30 v31 v32 v33 v34 : Slot) (v35 v36 v37 v38 : Int32) : Array Slot := #[vi v0, vi v1, vi v2, vi v3, v4, v5, v6, v7, vi v8, vi v9, v10, vi v11, vi v12, vi v13, v14, vi v15, v16, v17, vi v18, v19, vi v20, vr v21, vi v22, vi v23, v24, vi v25, vr v26, vi v27, vr v28, v29, v30, v31, v32, v33, v34, vi v35, vi v36, vi v37, vi v38]
abbrev la16 (v0 v1 v2 v3 : Int32) (v4 v5 v6 v7 : Slot) (v8 v9 : Int32) (v10 : Slot) (v11 v12 v13 : Int32) (v14 : Slot) (v15 : Int32) (v16 v17 : Slot) (v18 : Int32) (v19 : Slot) (v20 : Int32) (v21 : Addr) (v22 v23 : Int32) (v24 : Slot) (v25 v26 : Int32) (v27 : Addr) (v28 v29 v30 v31 v32 v33 : Slot) (v34 v35 v36 v37 : Int32) : Array Slot := #[vi v0, vi v1, vi v2, vi v3, v4, v5, v6, v7, vi v8, vi v9, v10, vi v11, vi v12, vi v13, v14, vi v15, v16, v17, vi v18, v19, vi v20, vr v21, vi v22, vi v23, v24, vi v25, .val .null, vi v26, vr v27, v28, v29, v30, v31, v32, v33, vi v34, vi v35, vi v36, vi v37]
abbrev la17 (v0 v1 v2 v3 : Int32) (v4 v5 v6 v7 : Slot) (v8 v9 : Int32) (v10 : Slot) (v11 v12 v13 : Int32) (v14 : Slot) (v15 : Int32) (v16 v17 : Slot) (v18 : Int32) (v19 : Slot) (v20 : Int32) (v21 : Addr) (v22 v23 : Int32) (v24 : Slot) (v25 : Int32) (v26 : Value) (v27 : Int32) (v28 : Addr) (v29 v30 v31 v32 v33 v34 : Slot) (v35 v36 : Int32) : Array Slot := #[vi v0, vi v1, vi v2, vi v3, v4, v5, v6, v7, vi v8, vi v9, v10, vi v11, vi v12, vi v13, v14, vi v15, v16, v17, vi v18, v19, vi v20, vr v21, vi v22, vi v23, v24, vi v25, .val v26, vi v27, vr v28, v29, v30, v31, v32, v33, v34, vi v35, vi v36, .unset, .unset]
abbrev la18 (v0 v1 v2 v3 : Int32) (v4 v5 v6 v7 : Slot) (v8 v9 : Int32) (v10 : Slot) (v11 v12 v13 : Int32) (v14 : Slot) (v15 v16 v17 v18 : Int32) (v19 : Slot) (v20 : Int32) (v21 : Addr) (v22 v23 : Int32) (v24 : Addr) (v25 : Int32) (v26 : Value) (v27 : Int32) (v28 : Addr) (v29 : Slot) (v30 v31 v32 v33 v34 : Int32) : Array Slot := #[vi v0, vi v1, vi v2, vi v3, v4, v5, v6, v7, vi v8, vi v9, v10, vi v11, vi v12, vi v13, v14, vi v15, vi v16, vi v17, vi v18, v19, vi v20, vr v21, vi v22, vi v23, vr v24, vi v25, .val v26, vi v27, vr v28, v29, vi v30, vi v31, vi v32, vi v33, vi v34, .unset, .unset, .unset, .unset]
abbrev la19 (v0 v1 v2 v3 : Int32) (v4 v5 v6 v7 : Slot) (v8 v9 : Int32) (v10 : Slot) (v11 v12 v13 : Int32) (v14 : Slot) (v15 v16 v17 v18 : Int32) (v19 : Slot) (v20 : Int32) (v21 : Addr) (v22 v23 : Int32) (v24 : Addr) (v25 : Int32) (v26 : Value) (v27 : Int32) (v28 : Addr) (v29 : Slot) (v30 v31 v32 v33 v34 v35 : Int32) : Array Slot := #[vi v0, vi v1, vi v2, vi v3, v4, v5, v6, v7, vi v8, vi v9, v10, vi v11, vi v12, vi v13, v14, vi v15, vi v16, vi v17, vi v18, v19, vi v20, vr v21, vi v22, vi v23, vr v24, vi v25, .val v26, vi v27, vr v28, v29, vi v30, vi v31, vi v32, vi v33, vi v34, vi v35, .unset, .unset, .unset]
abbrev la20 (v0 v1 v2 v3 : Int32) (v4 v5 v6 v7 : Slot) (v8 v9 : Int32) (v10 : Slot) (v11 v12 v13 : Int32) (v14 : Slot) (v15 v16 v17 v18 : Int32) (v19 : Slot) (v20 : Int32) (v21 : Addr) (v22 v23 : Int32) (v24 : Addr) (v25 : Int32) (v26 : Value) (v27 : Int32) (v28 : Addr) (v29 : Slot) (v30 v31 v32 v33 v34 v35 v36 : Int32) : Array Slot := #[vi v0, vi v1, vi v2, vi v3, v4, v5, v6, v7, vi v8, vi v9, v10, vi v11, vi v12, vi v13, v14, vi v15, vi v16, vi v17, vi v18, v19, vi v20, vr v21, vi v22, vi v23, vr v24, vi v25, .val v26, vi v27, vr v28, v29, vi v30, vi v31, vi v32, vi v33, vi v34, vi v35, vi v36, .unset, .unset]
abbrev la21 (v0 v1 v2 v3 : Int32) (v4 v5 v6 v7 : Slot) (v8 v9 v10 v11 v12 v13 : Int32) (v14 : Slot) (v15 v16 v17 v18 : Int32) (v19 : Slot) (v20 : Int32) (v21 : Addr) (v22 v23 : Int32) (v24 : Addr) (v25 : Int32) (v26 : Value) (v27 : Int32) (v28 : Addr) (v29 : Slot) (v30 v31 : Int32) : Array Slot := #[vi v0, vi v1, vi v2, vi v3, v4, v5, v6, v7, vi v8, vi v9, vi v10, vi v11, vi v12, vi v13, v14, vi v15, vi v16, vi v17, vi v18, v19, vi v20, vr v21, vi v22, vi v23, vr v24, vi v25, .val v26, vi v27, vr v28, v29, vi v30, vi v31, .unset, .unset, .unset, .unset, .unset, .unset, .unset]
abbrev la22 (v0 v1 v2 v3 : Int32) (v4 v5 v6 v7 : Slot) (v8 v9 v10 v11 v12 v13 : Int32) (v14 : Slot) (v15 v16 v17 v18 : Int32) (v19 : Slot) (v20 : Int32) (v21 : Addr) (v22 v23 : Int32) (v24 : Addr) (v25 : Int32) (v26 : Value) (v27 : Int32) (v28 : Addr) (v29 : Slot) (v30 v31 v32 : Int32) : Array Slot := #[vi v0, vi v1, vi v2, vi v3, v4, v5, v6, v7, vi v8, vi v9, vi v10, vi v11, vi v12, vi v13, v14, vi v15, vi v16, vi v17, vi v18, v19, vi v20, vr v21, vi v22, vi v23, vr v24, vi v25, .val v26, vi v27, vr v28, v29, vi v30, vi v31, vi v32, .unset, .unset, .unset, .unset, .unset, .unset]
abbrev la23 (v0 v1 v2 v3 : Int32) (v4 v5 v6 v7 : Slot) (v8 v9 v10 v11 v12 v13 : Int32) (v14 : Slot) (v15 v16 v17 v18 : Int32) (v19 : Slot) (v20 : Int32) (v21 : Addr) (v22 v23 : Int32) (v24 : Addr) (v25 : Int32) (v26 : Value) (v27 : Int32) (v28 : Addr) (v29 : Slot) (v30 v31 v32 v33 : Int32) : Array Slot := #[vi v0, vi v1, vi v2, vi v3, v4, v5, v6, v7, vi v8, vi v9, vi v10, vi v11, vi v12, vi v13, v14, vi v15, vi v16, vi v17, vi v18, v19, vi v20, vr v21, vi v22, vi v23, vr v24, vi v25, .val v26, vi v27, vr v28, v29, vi v30, vi v31, vi v32, vi v33, .unset, .unset, .unset, .unset, .unset]
abbrev la24 (v0 v1 v2 v3 : Int32) (v4 v5 v6 v7 : Slot) (v8 v9 v10 v11 v12 v13 : Int32) (v14 : Slot) (v15 v16 v17 v18 : Int32) (v19 : Slot) (v20 : Int32) (v21 : Addr) (v22 v23 : Int32) (v24 : Addr) (v25 : Int32) (v26 : Value) (v27 : Int32) (v28 : Addr) (v29 : Slot) (v30 v31 v32 v33 v34 : Int32) : Array Slot := #[vi v0, vi v1, vi v2, vi v3, v4, v5, v6, v7, vi v8, vi v9, vi v10, vi v11, vi v12, vi v13, v14, vi v15, vi v16, vi v17, vi v18, v19, vi v20, vr v21, vi v22, vi v23, vr v24, vi v25, .val v26, vi v27, vr v28, v29, vi v30, vi v31, vi v32, vi v33, vi v34, .unset, .unset, .unset, .unset]
abbrev la25 (v0 v1 v2 v3 : Int32) (v4 v5 v6 v7 : Slot) (v8 v9 v10 v11 v12 v13 : Int32) (v14 : Slot) (v15 v16 v17 v18 : Int32) (v19 : Slot) (v20 : Int32) (v21 : Addr) (v22 v23 : Int32) (v24 : Addr) (v25 : Int32) (v26 : Value) (v27 : Int32) (v28 : Addr) (v29 v30 : Int32) : Array Slot := #[vi v0, vi v1, vi v2, vi v3, v4, v5, v6, v7, vi v8, vi v9, vi v10, vi v11, vi v12, vi v13, v14, vi v15, vi v16, vi v17, vi v18, v19, vi v20, vr v21, vi v22, vi v23, vr v24, vi v25, .val v26, vi v27, vr v28, vi v29, vi v30, .unset, .unset, .unset, .unset, .unset, .unset, .unset, .unset]
abbrev la26 (v0 v1 v2 v3 : Int32) (v4 v5 v6 v7 : Slot) (v8 v9 v10 v11 v12 v13 : Int32) (v14 : Slot) (v15 v16 v17 v18 : Int32) (v19 : Slot) (v20 : Int32) (v21 : Addr) (v22 v23 : Int32) (v24 : Addr) (v25 : Int32) (v26 : Value) (v27 : Int32) (v28 : Addr) (v29 v30 v31 : Int32) : Array Slot := #[vi v0, vi v1, vi v2, vi v3, v4, v5, v6, v7, vi v8, vi v9, vi v10, vi v11, vi v12, vi v13, v14, vi v15, vi v16, vi v17, vi v18, v19, vi v20, vr v21, vi v22, vi v23, vr v24, vi v25, .val v26, vi v27, vr v28, vi v29, vi v30, vi v31, .unset, .unset, .unset, .unset, .unset, .unset, .unset]
abbrev la27 (v0 v1 v2 v3 : Int32) (v4 v5 v6 v7 : Slot) (v8 v9 v10 v11 v12 v13 : Int32) (v14 : Slot) (v15 v16 v17 v18 : Int32) (v19 : Slot) (v20 : Int32) (v21 : Addr) (v22 v23 : Int32) (v24 : Addr) (v25 : Int32) (v26 : Value) (v27 : Int32) (v28 : Addr) : Array Slot := #[vi v0, vi v1, vi v2, vi v3, v4, v5, v6, v7, vi v8, vi v9, vi v10, vi v11, vi v12, vi v13, v14, vi v15, vi v16, vi v17, vi v18, v19, vi v20, vr v21, vi v22, vi v23, vr v24, vi v25, .val v26, vi v27, vr v28, .unset, .unset, .unset, .unset, .unset, .unset, .unset, .unset, .unset, .unset]
abbrev la28 (v0 v1 v2 v3 : Int32) (v4 v5 v6 v7 : Slot) (v8 v9 v10 v11 v12 v13 : Int32) (v14 : Slot) (v15 v16 v17 v18 : Int32) (v19 : Slot) (v20 : Int32) (v21 : Addr) (v22 v23 : Int32) (v24 : Addr) (v25 : Int32) (v26 : Value) (v27 : Int32) (v28 : Addr) (v29 : Int32) : Array Slot := #[vi v0, vi v1, vi v2, vi v3, v4, v5, v6, v7, vi v8, vi v9, vi v10, vi v11, vi v12, vi v13, v14, vi v15, vi v16, vi v17, vi v18, v19, vi v20, vr v21, vi v22, vi v23, vr v24, vi v25, .val v26, vi v27, vr v28, vi v29, .unset, .unset, .unset, .unset, .unset, .unset, .unset, .unset, .unset]
abbrev la29 (v0 v1 v2 v3 : Int32) (v4 v5 v6 v7 : Slot) (v8 v9 v10 v11 v12 v13 : Int32) (v14 : Slot) (v15 v16 v17 v18 : Int32) (v19 : Slot) (v20 : Int32) (v21 : Addr) (v22 v23 : Int32) (v24 : Addr) (v25 : Int32) (v26 : Value) (v27 : Int32) : Array Slot := #[vi v0, vi v1, vi v2, vi v3, v4, v5, v6, v7, vi v8, vi v9, vi v10, vi v11, vi v12, vi v13, v14, vi v15, vi v16, vi v17, vi v18, v19, vi v20, vr v21, vi v22, vi v23, vr v24, vi v25, .val v26, vi v27, .unset, .unset, .unset, .unset, .unset, .unset, .unset, .unset, .unset, .unset, .unset]
abbrev la30 (v0 v1 v2 v3 : Int32) (v4 : Addr) (v5 v6 v7 : Slot) (v8 v9 v10 v11 v12 v13 : Int32) (v14 : Slot) (v15 v16 v17 v18 : Int32) (v19 : Addr) (v20 : Int32) (v21 : Addr) (v22 v23 : Int32) (v24 : Addr) : Array Slot := #[vi v0, vi v1, vi v2, vi v3, vr v4, v5, v6, v7, vi v8, vi v9, vi v10, vi v11, vi v12, vi v13, v14, vi v15, vi v16, vi v17, vi v18, vr v19, vi v20, vr v21, vi v22, vi v23, vr v24, .unset, .unset, .unset, .unset, .unset, .unset, .unset, .unset, .unset, .unset, .unset, .unset, .unset, .unset]
abbrev la31 (v0 v1 v2 v3 : Int32) (v4 : Addr) (v5 v6 v7 : Slot) (v8 v9 v10 v11 v12 v13 : Int32) (v14 : Slot) (v15 v16 v17 v18 : Int32) (v19 : Addr) (v20 : Int32) (v21 : Addr) (v22 v23 : Int32) (v24 : Addr) (v25 : Int32) : Array Slot := #[vi v0, vi v1, vi v2, vi v3, vr v4, v5, v6, v7, vi v8, vi v9, vi v10, vi v11, vi v12, vi v13, v14, vi v15, vi v16, vi v17, vi v18, vr v19, vi v20, vr v21, vi v22, vi v23, vr v24, vi v25, .unset, .unset, .unset, .unset, .unset, .unset, .unset, .unset, .unset, .unset, .unset, .unset, .unset]
abbrev la32 (v0 v1 v2 v3 : Int32) (v4 : Addr) (v5 v6 v7 : Slot) (v8 v9 v10 v11 v12 v13 : Int32) (v14 : Slot) (v15 v16 v17 v18 : Int32) (v19 : Addr) (v20 : Int32) (v21 : Addr) (v22 v23 : Int32) (v24 : Addr) (v25 : Int32) (v26 : Addr) : Array Slot := #[vi v0, vi v1, vi v2, vi v3, vr v4, v5, v6, v7, vi v8, vi v9, vi v10, vi v11, vi v12, vi v13, v14, vi v15, vi v16, vi v17, vi v18, vr v19, vi v20, vr v21, vi v22, vi v23, vr v24, vi v25, vr v26, .unset, .unset, .unset, .unset, .unset, .unset, .unset, .unset, .unset, .unset, .unset, .unset]
abbrev la33 (v0 v1 v2 v3 : Int32) (v4 : Addr) (v5 v6 v7 : Slot) (v8 v9 v10 v11 v12 v13 : Int32) (v14 : Slot) (v15 v16 v17 v18 : Int32) (v19 : Addr) (v20 : Int32) (v21 : Addr) (v22 v23 : Int32) (v24 : Addr) (v25 : Int32) (v26 : Addr) (v27 : Int32) : Array Slot := #[vi v0, vi v1, vi v2, vi v3, vr v4, v5, v6, v7, vi v8, vi v9, vi v10, vi v11, vi v12, vi v13, v14, vi v15, vi v16, vi v17, vi v18, vr v19, vi v20, vr v21, vi v22, vi v23, vr v24, vi v25, vr v26, vi v27, .unset, .unset, .unset, .unset, .unset, .unset, .unset, .unset, .unset, .unset, .unset]
abbrev la34 (v0 v1 v2 v3 : Int32) (v4 : Addr) (v5 v6 v7 : Slot) (v8 v9 v10 v11 v12 v13 : Int32) (v14 : Slot) (v15 v16 v17 v18 : Int32) (v19 : Addr) (v20 : Int32) (v21 : Addr) (v22 v23 : Int32) (v24 : Addr) (v25 : Int32) : Array Slot := #[vi v0, vi v1, vi v2, vi v3, vr v4, v5, v6, v7, vi v8, vi v9, vi v10, vi v11, vi v12, vi v13, v14, vi v15, vi v16, vi v17, vi v18, vr v19, vi v20, vr v21, vi v22, vi v23, vr v24, vi v25, .val .null, .unset, .unset, .unset, .unset, .unset, .unset, .unset, .unset, .unset, .unset, .unset, .unset]
abbrev la35 (v0 v1 v2 v3 : Int32) (v4 : Addr) (v5 v6 v7 : Slot) (v8 v9 v10 v11 v12 v13 : Int32) (v14 : Slot) (v15 v16 v17 v18 : Int32) (v19 : Addr) (v20 : Int32) (v21 : Addr) (v22 v23 : Int32) (v24 : Addr) (v25 v26 : Int32) : Array Slot := #[vi v0, vi v1, vi v2, vi v3, vr v4, v5, v6, v7, vi v8, vi v9, vi v10, vi v11, vi v12, vi v13, v14, vi v15, vi v16, vi v17, vi v18, vr v19, vi v20, vr v21, vi v22, vi v23, vr v24, vi v25, .val .null, vi v26, .unset, .unset, .unset, .unset, .unset, .unset, .unset, .unset, .unset, .unset, .unset]
abbrev la36 (v0 v1 v2 v3 : Int32) (v4 : Addr) (v5 : Int32) (v6 : Slot) (v7 v8 v9 v10 v11 v12 v13 : Int32) (v14 : Slot) (v15 v16 v17 : Int32) : Array Slot := #[vi v0, vi v1, vi v2, vi v3, vr v4, vi v5, v6, vi v7, vi v8, vi v9, vi v10, vi v11, vi v12, vi v13, v14, vi v15, vi v16, vi v17, .unset, .unset, .unset, .unset, .unset, .unset, .unset, .unset, .unset, .unset, .unset, .unset, .unset, .unset, .unset, .unset, .unset, .unset, .unset, .unset, .unset]
abbrev la37 (v0 v1 v2 v3 : Int32) (v4 : Addr) (v5 : Int32) (v6 : Slot) (v7 v8 v9 v10 v11 v12 v13 : Int32) (v14 : Slot) (v15 v16 v17 v18 : Int32) : Array Slot := #[vi v0, vi v1, vi v2, vi v3, vr v4, vi v5, v6, vi v7, vi v8, vi v9, vi v10, vi v11, vi v12, vi v13, v14, vi v15, vi v16, vi v17, vi v18, .unset, .unset, .unset, .unset, .unset, .unset, .unset, .unset, .unset, .unset, .unset, .unset, .unset, .unset, .unset, .unset, .unset, .unset, .unset, .unset]
abbrev la38 (v0 v1 v2 v3 : Int32) (v4 : Addr) (v5 : Int32) (v6 : Slot) (v7 v8 v9 v10 v11 v12 v13 : Int32) (v14 : Slot) (v15 v16 v17 v18 : Int32) (v19 : Addr) : Array Slot := #[vi v0, vi v1, vi v2, vi v3, vr v4, vi v5, v6, vi v7, vi v8, vi v9, vi v10, vi v11, vi v12, vi v13, v14, vi v15, vi v16, vi v17, vi v18, vr v19, .unset, .unset, .unset, .unset, .unset, .unset, .unset, .unset, .unset, .unset, .unset, .unset, .unset, .unset, .unset, .unset, .unset, .unset, .unset]
abbrev la39 (v0 v1 v2 v3 : Int32) (v4 : Addr) (v5 : Int32) (v6 : Slot) (v7 v8 v9 v10 v11 v12 v13 : Int32) (v14 : Slot) (v15 v16 v17 v18 : Int32) (v19 : Addr) (v20 : Int32) : Array Slot := #[vi v0, vi v1, vi v2, vi v3, vr v4, vi v5, v6, vi v7, vi v8, vi v9, vi v10, vi v11, vi v12, vi v13, v14, vi v15, vi v16, vi v17, vi v18, vr v19, vi v20, .unset, .unset, .unset, .unset, .unset, .unset, .unset, .unset, .unset, .unset, .unset, .unset, .unset, .unset, .unset, .unset, .unset, .unset]
abbrev la40 (v0 v1 v2 v3 : Int32) (v4 : Addr) (v5 : Int32) (v6 : Slot) (v7 v8 v9 v10 v11 v12 v13 : Int32) (v14 : Slot) (v15 v16 v17 v18 : Int32) (v19 : Addr) (v20 : Int32) (v21 : Addr) : Array Slot := #[vi v0, vi v1, vi v2, vi v3, vr v4, vi v5, v6, vi v7, vi v8, vi v9, vi v10, vi v11, vi v12, vi v13, v14, vi v15, vi v16, vi v17, vi v18, vr v19, vi v20, vr v21, .unset, .unset, .unset, .unset, .unset, .unset, .unset, .unset, .unset, .unset, .unset, .unset, .unset, .unset, .unset, .unset, .unset]
abbrev la41 (v0 v1 v2 v3 : Int32) (v4 : Addr) (v5 : Int32) (v6 : Slot) (v7 v8 v9 v10 v11 v12 v13 : Int32) (v14 : Slot) (v15 v16 v17 v18 : Int32) (v19 : Addr) (v20 : Int32) (v21 : Addr) (v22 : Int32) : Array Slot := #[vi v0, vi v1, vi v2, vi v3, vr v4, vi v5, v6, vi v7, vi v8, vi v9, vi v10, vi v11, vi v12, vi v13, v14, vi v15, vi v16, vi v17, vi v18, vr v19, vi v20, vr v21, vi v22, .unset, .unset, .unset, .unset, .unset, .unset, .unset, .unset, .unset, .unset, .unset, .unset, .unset, .unset, .unset, .unset]
abbrev la42 (v0 v1 v2 v3 : Int32) (v4 : Addr) (v5 : Int32) (v6 : Slot) (v7 v8 v9 v10 v11 v12 v13 : Int32) (v14 : Slot) (v15 v16 v17 v18 : Int32) (v19 : Addr) (v20 : Int32) (v21 : Addr) (v22 v23 : Int32) : Array Slot := #[vi v0, vi v1, vi v2, vi v3, vr v4, vi v5, v6, vi v7, vi v8, vi v9, vi v10, vi v11, vi v12, vi v13, v14, vi v15, vi v16, vi v17, vi v18, vr v19, vi v20, vr v21, vi v22, vi v23, .unset, .unset, .unset, .unset, .unset, .unset, .unset, .unset, .unset, .unset, .unset, .unset, .unset, .unset, .unset]
abbrev la43 (v0 v1 v2 v3 : Int32) (v4 : Addr) (v5 : Int32) (v6 : Slot) (v7 v8 v9 v10 v11 v12 v13 : Int32) (v14 : Slot) (v15 v16 v17 v18 : Int32) (v19 : Addr) (v20 : Int32) (v21 : Addr) (v22 v23 : Int32) (v24 : Addr) : Array Slot := #[vi v0, vi v1, vi v2, vi v3, vr v4, vi v5, v6, vi v7, vi v8, vi v9, vi v10, vi v11, vi v12, vi v13, v14, vi v15, vi v16, vi v17, vi v18, vr v19, vi v20, vr v21, vi v22, vi v23, vr v24, .unset, .unset, .unset, .unset, .unset, .unset, .unset, .unset, .unset, .unset, .unset, .unset, .unset, .unset]
abbrev la44 (v0 v1 v2 v3 : Int32) (v4 : Addr) (v5 : Int32) (v6 : Slot) (v7 v8 v9 : Int32) (v10 v11 v12 v13 v14 v15 : Slot) (v16 v17 : Int32) : Array Slot := #[vi v0, vi v1, vi v2, vi v3, vr v4, vi v5, v6, vi v7, vi v8, vi v9, v10, v11, v12, v13, v14, v15, vi v16, vi v17, .unset, .unset, .unset, .unset, .unset, .unset, .unset, .unset, .unset, .unset, .unset, .unset, .unset, .unset, .unset, .unset, .unset, .unset, .unset, .unset, .unset]
abbrev la45 (v0 v1 v2 v3 : Int32) (v4 : Addr) (v5 : Int32) (v6 : Slot) (v7 v8 v9 : Int32) (v10 v11 v12 v13 v14 v15 : Slot) (v16 v17 v18 : Int32) : Array Slot := #[vi v0, vi v1, vi v2, vi v3, vr v4, vi v5, v6, vi v7, vi v8, vi v9, v10, v11, v12, v13, v14, v15, vi v16, vi v17, vi v18, .unset, .unset, .unset, .unset, .unset, .unset, .unset, .unset, .unset, .unset, .unset, .unset, .unset, .unset, .unset, .unset, .unset, .unset, .unset, .unset]
abbrev la46 (v0 v1 v2 v3 : Int32) (v4 : Addr) (v5 : Int32) (v6 : Slot) (v7 v8 v9 : Int32) (v10 v11 v12 v13 v14 v15 : Slot) (v16 v17 v18 : Int32) (v19 : Addr) : Array Slot := #[vi v0, vi v1, vi v2, vi v3, vr v4, vi v5, v6, vi v7, vi v8, vi v9, v10, v11, v12, v13, v14, v15, vi v16, vi v17, vi v18, vr v19, .unset, .unset, .unset, .unset, .unset, .unset, .unset, .unset, .unset, .unset, .unset, .unset, .unset, .unset, .unset, .unset, .unset, .unset, .unset]
abbrev la47 (v0 v1 v2 v3 : Int32) (v4 : Addr) (v5 : Int32) (v6 : Slot) (v7 v8 v9 : Int32) (v10 v11 v12 v13 v14 v15 : Slot) (v16 v17 v18 : Int32) (v19 : Addr) (v20 : Int32) : Array Slot := #[vi v0, vi v1, vi v2, vi v3, vr v4, vi v5, v6, vi v7, vi v8, vi v9, v10, v11, v12, v13, v14, v15, vi v16, vi v17, vi v18, vr v19, vi v20, .unset, .unset, .unset, .unset, .unset, .unset, .unset, .unset, .unset, .unset, .unset, .unset, .unset, .unset, .unset, .unset, .unset, .unset]
abbrev la48 (v0 v1 v2 v3 : Int32) (v4 : Addr) (v5 : Int32) (v6 : Slot) (v7 v8 v9 : Int32) (v10 v11 v12 v13 v14 v15 : Slot) (v16 v17 v18 : Int32) (v19 : Addr) (v20 : Int32) : Array Slot := #[vi v0, vi v1, vi v2, vi v3, vr v4, vi v5, v6, vi v7, vi v8, vi v9, v10, v11, v12, v13, v14, v15, vi v16, vi v17, vi v18, vr v19, vi v20, .val .null, .unset, .unset, .unset, .unset, .unset, .unset, .unset, .unset, .unset, .unset, .unset, .unset, .unset, .unset, .unset, .unset, .unset]
abbrev la49 (v0 v1 v2 v3 : Int32) (v4 : Addr) (v5 : Int32) (v6 : Slot) (v7 v8 v9 : Int32) (v10 v11 v12 v13 v14 v15 : Slot) (v16 v17 v18 : Int32) (v19 : Addr) (v20 v21 : Int32) : Array Slot := #[vi v0, vi v1, vi v2, vi v3, vr v4, vi v5, v6, vi v7, vi v8, vi v9, v10, v11, v12, v13, v14, v15, vi v16, vi v17, vi v18, vr v19, vi v20, .val .null, vi v21, .unset, .unset, .unset, .unset, .unset, .unset, .unset, .unset, .unset, .unset, .unset, .unset, .unset, .unset, .unset, .unset]
abbrev la50 (v0 v1 v2 v3 : Int32) (v4 : Addr) (v5 : Int32) (v6 : Slot) (v7 v8 v9 : Int32) (v10 v11 v12 v13 v14 v15 : Slot) (v16 v17 v18 : Int32) (v19 : Addr) (v20 v21 v22 : Int32) : Array Slot := #[vi v0, vi v1, vi v2, vi v3, vr v4, vi v5, v6, vi v7, vi v8, vi v9, v10, v11, v12, v13, v14, v15, vi v16, vi v17, vi v18, vr v19, vi v20, .val .null, vi v21, vi v22, .unset, .unset, .unset, .unset, .unset, .unset, .unset, .unset, .unset, .unset, .unset, .unset, .unset, .unset, .unset]
abbrev la51 (v0 v1 v2 v3 : Int32) (v4 : Addr) (v5 : Int32) (v6 : Slot) (v7 v8 v9 : Int32) (v10 v11 v12 v13 v14 v15 : Slot) (v16 v17 v18 : Int32) (v19 : Addr) (v20 v21 v22 : Int32) (v23 : Addr) : Array Slot := #[vi v0, vi v1, vi v2, vi v3, vr v4, vi v5, v6, vi v7, vi v8, vi v9, v10, v11, v12, v13, v14, v15, vi v16, vi v17, vi v18, vr v19, vi v20, .val .null, vi v21, vi v22, vr v23, .unset, .unset, .unset, .unset, .unset, .unset, .unset, .unset, .unset, .unset, .unset, .unset, .unset, .unset]
abbrev la52 (v0 v1 v2 v3 : Int32) (v4 : Addr) (v5 : Int32) (v6 : Slot) (v7 v8 v9 : Int32) (v10 v11 v12 v13 v14 v15 : Slot) (v16 v17 v18 : Int32) (v19 : Addr) (v20 v21 v22 : Int32) (v23 : Addr) (v24 : Int32) : Array Slot := #[vi v0, vi v1, vi v2, vi v3, vr v4, vi v5, v6, vi v7, vi v8, vi v9, v10, v11, v12, v13, v14, v15, vi v16, vi v17, vi v18, vr v19, vi v20, .val .null, vi v21, vi v22, vr v23, vi v24, .unset, .unset, .unset, .unset, .unset, .unset, .unset, .unset, .unset, .unset, .unset, .unset, .unset]
abbrev la53 (v0 v1 v2 v3 : Int32) (v4 : Addr) (v5 : Int32) (v6 : Slot) (v7 v8 v9 : Int32) (v10 v11 v12 v13 v14 v15 : Slot) (v16 v17 v18 : Int32) (v19 : Addr) (v20 v21 v22 : Int32) (v23 : Addr) (v24 : Int32) : Array Slot := #[vi v0, vi v1, vi v2, vi v3, vr v4, vi v5, v6, vi v7, vi v8, vi v9, v10, v11, v12, v13, v14, v15, vi v16, vi v17, vi v18, vr v19, vi v20, .val .null, vi v21, vi v22, vr v23, vi v24, .val .null, .unset, .unset, .unset, .unset, .unset, .unset, .unset, .unset, .unset, .unset, .unset, .unset]
abbrev la54 (v0 v1 v2 v3 : Int32) (v4 : Addr) (v5 : Int32) (v6 : Slot) (v7 v8 v9 : Int32) (v10 v11 v12 v13 v14 v15 : Slot) (v16 v17 v18 : Int32) (v19 : Addr) (v20 v21 v22 : Int32) (v23 : Addr) (v24 v25 : Int32) : Array Slot := #[vi v0, vi v1, vi v2, vi v3, vr v4, vi v5, v6, vi v7, vi v8, vi v9, v10, v11, v12, v13, v14, v15, vi v16, vi v17, vi v18, vr v19, vi v20, .val .null, vi v21, vi v22, vr v23, vi v24, .val .null, vi v25, .unset, .unset, .unset, .unset, .unset, .unset, .unset, .unset, .unset, .unset, .unset]
abbrev la55 (v0 v1 v2 v3 : Int32) (v4 : Addr) (v5 : Int32) (v6 : Slot) (v7 v8 v9 : Int32) (v10 v11 v12 v13 v14 v15 : Slot) (v16 v17 v18 : Int32) (v19 : Addr) (v20 v21 v22 : Int32) (v23 : Addr) (v24 v25 v26 : Int32) : Array Slot := #[vi v0, vi v1, vi v2, vi v3, vr v4, vi v5, v6, vi v7, vi v8, vi v9, v10, v11, v12, v13, v14, v15, vi v16, vi v17, vi v18, vr v19, vi v20, .val .null, vi v21, vi v22, vr v23, vi v24, .val .null, vi v25, vi v26, .unset, .unset, .unset, .unset, .unset, .unset, .unset, .unset, .unset, .unset]
abbrev la56 (v0 v1 v2 v3 : Int32) (v4 : Addr) (v5 : Int32) (v6 : Slot) (v7 v8 v9 v10 v11 v12 v13 v14 v15 : Int32) : Array Slot := #[vi v0, vi v1, vi v2, vi v3, vr v4, vi v5, v6, vi v7, vi v8, vi v9, vi v10, vi v11, vi v12, vi v13, vi v14, vi v15, .unset, .unset, .unset, .unset, .unset, .unset, .unset, .unset, .unset, .unset, .unset, .unset, .unset, .unset, .unset, .unset, .unset, .unset, .unset, .unset, .unset, .unset, .unset]
abbrev la57 (v0 v1 v2 v3 : Int32) (v4 : Addr) (v5 : Int32) (v6 : Slot) (v7 v8 v9 v10 v11 v12 v13 v14 v15 v16 : Int32) : Array Slot := #[vi v0, vi v1, vi v2, vi v3, vr v4, vi v5, v6, vi v7, vi v8, vi v9, vi v10, vi v11, vi v12, vi v13, vi v14, vi v15, vi v16, .unset, .unset, .unset, .unset, .unset, .unset, .unset, .unset, .unset, .unset, .unset, .unset, .unset, .unset, .unset, .unset, .unset, .unset, .unset, .unset, .unset, .unset]
abbrev la58 (v0 v1 v2 v3 : Int32) (v4 : Addr) (v5 : Int32) (v6 : Slot) (v7 v8 v9 v10 v11 v12 v13 v14 v15 v16 v17 : Int32) : Array Slot := #[vi v0, vi v1, vi v2, vi v3, vr v4, vi v5, v6, vi v7, vi v8, vi v9, vi v10, vi v11, vi v12, vi v13, vi v14, vi v15, vi v16, vi v17, .unset, .unset, .unset, .unset, .unset, .unset, .unset, .unset, .unset, .unset, .unset, .unset, .unset, .unset, .unset, .unset, .unset, .unset, .unset, .unset, .unset]
abbrev la59 (v0 v1 v2 v3 : Int32) (v4 : Addr) (v5 : Int32) (v6 : Slot) (v7 v8 v9 v10 v11 v12 v13 v14 : Int32) : Array Slot := #[vi v0, vi v1, vi v2, vi v3, vr v4, vi v5, v6, vi v7, vi v8, vi v9, vi v10, vi v11, vi v12, vi v13, vi v14, .unset, .unset, .unset, .unset, .unset, .unset, .unset, .unset, .unset, .unset, .unset, .unset, .unset, .unset, .unset, .unset, .unset, .unset, .unset, .unset, .unset, .unset, .unset, .unset]
abbrev la60 (v0 v1 v2 v3 : Int32) (v4 : Addr) (v5 : Int32) (v6 : Slot) (v7 v8 v9 v10 v11 v12 v13 : Int32) : Array Slot := #[vi v0, vi v1, vi v2, vi v3, vr v4, vi v5, v6, vi v7, vi v8, vi v9, vi v10, vi v11, vi v12, vi v13, .unset, .unset, .unset, .unset, .unset, .unset, .unset, .unset, .unset, .unset, .unset, .unset, .unset, .unset, .unset, .unset, .unset, .unset, .unset, .unset, .unset, .unset, .unset, .unset, .unset]
abbrev la61 (v0 v1 v2 v3 : Int32) (v4 : Addr) (v5 : Int32) (v6 : Slot) (v7 v8 v9 v10 v11 v12 : Int32) : Array Slot := #[vi v0, vi v1, vi v2, vi v3, vr v4, vi v5, v6, vi v7, vi v8, vi v9, vi v10, vi v11, vi v12, .unset, .unset, .unset, .unset, .unset, .unset, .unset, .unset, .unset, .unset, .unset, .unset, .unset, .unset, .unset, .unset, .unset, .unset, .unset, .unset, .unset, .unset, .unset, .unset, .unset, .unset]
abbrev la62 (v0 v1 v2 v3 : Int32) (v4 : Addr) (v5 : Int32) (v6 : Slot) (v7 : Int32) : Array Slot := #[vi v0, vi v1, vi v2, vi v3, vr v4, vi v5, v6, vi v7, .unset, .unset, .unset, .unset, .unset, .unset, .unset, .unset, .unset, .unset, .unset, .unset, .unset, .unset, .unset, .unset, .unset, .unset, .unset, .unset, .unset, .unset, .unset, .unset, .unset, .unset, .unset, .unset, .unset, .unset, .unset]
abbrev la63 (v0 v1 v2 v3 : Int32) (v4 : Addr) (v5 : Int32) (v6 : Slot) (v7 v8 : Int32) : Array Slot := #[vi v0, vi v1, vi v2, vi v3, vr v4, vi v5, v6, vi v7, vi v8, .unset, .unset, .unset, .unset, .unset, .unset, .unset, .unset, .unset, .unset, .unset, .unset, .unset, .unset, .unset, .unset, .unset, .unset, .unset, .unset, .unset, .unset, .unset, .unset, .unset, .unset, .unset, .unset, .unset, .unset]
abbrev la64 (v0 v1 v2 v3 : Int32) (v4 : Addr) (v5 : Int32) (v6 : Slot) (v7 v8 v9 : Int32) : Array Slot := #[vi v0, vi v1, vi v2, vi v3, vr v4, vi v5, v6, vi v7, vi v8, vi v9, .unset, .unset, .unset, .unset, .unset, .unset, .unset, .unset, .unset, .unset, .unset, .unset, .unset, .unset, .unset, .unset, .unset, .unset, .unset, .unset, .unset, .unset, .unset, .unset, .unset, .unset, .unset, .unset, .unset]
abbrev la65 (v0 v1 v2 v3 : Int32) (v4 : Addr) (v5 : Int32) (v6 : Slot) (v7 v8 v9 v10 : Int32) : Array Slot := #[vi v0, vi v1, vi v2, vi v3, vr v4, vi v5, v6, vi v7, vi v8, vi v9, vi v10, .unset, .unset, .unset, .unset, .unset, .unset, .unset, .unset, .unset, .unset, .unset, .unset, .unset, .unset, .unset, .unset, .unset, .unset, .unset, .unset, .unset, .unset, .unset, .unset, .unset, .unset, .unset, .unset]
abbrev la66 (v0 v1 v2 v3 : Int32) (v4 : Addr) (v5 : Int32) (v6 : Slot) (v7 v8 v9 v10 v11 : Int32) : Array Slot := #[vi v0, vi v1, vi v2, vi v3, vr v4, vi v5, v6, vi v7, vi v8, vi v9, vi v10, vi v11, .unset, .unset, .unset, .unset, .unset, .unset, .unset, .unset, .unset, .unset, .unset, .unset, .unset, .unset, .unset, .unset, .unset, .unset, .unset, .unset, .unset, .unset, .unset, .unset, .unset, .unset, .unset]
abbrev la67 (v0 v1 v2 v3 : Int32) : Array Slot := #[vi v0, vi v1, vi v2, vi v3, .unset, .unset, .unset, .unset, .unset, .unset, .unset, .unset, .unset, .unset, .unset, .unset, .unset, .unset, .unset, .unset, .unset, .unset, .unset, .unset, .unset, .unset, .unset, .unset, .unset, .unset, .unset, .unset, .unset, .unset, .unset, .unset, .unset, .unset, .unset]
abbrev la68 (v0 v1 v2 v3 : Int32) (v4 : Addr) : Array Slot := #[vi v0, vi v1, vi v2, vi v3, vr v4, .unset, .unset, .unset, .unset, .unset, .unset, .unset, .unset, .unset, .unset, .unset, .unset, .unset, .unset, .unset, .unset, .unset, .unset, .unset, .unset, .unset, .unset, .unset, .unset, .unset, .unset, .unset, .unset, .unset, .unset, .unset, .unset, .unset, .unset]
abbrev la69 (v0 v1 v2 v3 : Int32) (v4 : Addr) (v5 : Int32) : Array Slot := #[vi v0, vi v1, vi v2, vi v3, vr v4, vi v5, .unset, .unset, .unset, .unset, .unset, .unset, .unset, .unset, .unset, .unset, .unset, .unset, .unset, .unset, .unset, .unset, .unset, .unset, .unset, .unset, .unset, .unset, .unset, .unset, .unset, .unset, .unset, .unset, .unset, .unset, .unset, .unset, .unset]
abbrev la70 (v0 v1 v2 v3 : Int32) (v4 : Addr) (v5 v6 : Int32) : Array Slot := #[vi v0, vi v1, vi v2, vi v3, vr v4, vi v5, vi v6, .unset, .unset, .unset, .unset, .unset, .unset, .unset, .unset, .unset, .unset, .unset, .unset, .unset, .unset, .unset, .unset, .unset, .unset, .unset, .unset, .unset, .unset, .unset, .unset, .unset, .unset, .unset, .unset, .unset, .unset, .unset, .unset]
abbrev la71 (v0 v1 v2 v3 : Int32) (v4 : Addr) (v5 v6 v7 : Int32) : Array Slot := #[vi v0, vi v1, vi v2, vi v3, vr v4, vi v5, vi v6, vi v7, .unset, .unset, .unset, .unset, .unset, .unset, .unset, .unset, .unset, .unset, .unset, .unset, .unset, .unset, .unset, .unset, .unset, .unset, .unset, .unset, .unset, .unset, .unset, .unset, .unset, .unset, .unset, .unset, .unset, .unset, .unset]
section OwnTxt
variable {Z : State} {h h' : Heap} {a b : Addr} {k : ClassId} {n : Int32} {pre : List Int32}
def Txt (Z : State) (h : Heap) (a : Addr) (k : ClassId) (n : Int32) (pre : List Int32) : Prop := ∃ bs : List Int32, Arv Z h a k .byte n (bs.map Value.int) (.int 0) ∧ n.toNatClampNeg = bs.length ∧ bs.take pre.length = pre
theorem Txt.lt (F : Txt Z h a k n pre) : a < h.size := by obtain ⟨bs, A, -⟩ := F; exact A.lt
theorem Txt.ext (F : Txt Z h a k n pre) (E : Ext h h') : Txt Z h' a k n pre := by obtain ⟨bs, A, r⟩ := F; exact ⟨bs, A.ext E, r⟩
theorem Txt.other {sl : Nat} {v : Value} (F : Txt Z h b k n pre) (W : Wr h h' a sl v) (q : b ≠ a) : Txt Z h' b k n pre := by obtain ⟨bs, A, r⟩ := F; exact ⟨bs, A.other W q, r⟩
theorem Txt.keep {ws : List Addr} (F : Txt Z h a k n pre) (K : Keep h h' ws) (q : a ∉ ws) : Txt Z h' a k n pre := by obtain ⟨bs, A, r⟩ := F; exact ⟨bs, A.keep K q, r⟩
theorem own_mapget (bs : List Int32) (i : Nat) : (bs.map Value.int).getD i (.int 0) = .int (bs.getD i 0) := by
 simp only [List.getD_eq_getElem?_getD, List.getElem?_map]
 cases bs[i]? <;> rfl
theorem own_ofNat {i : Nat} (h : i < 2147483648) : (oN i).toInt = i := Int32.toInt_ofNat_of_lt h
theorem own_clamp {i : Nat} (h : i < 2147483648) : (oN i).toNatClampNeg = i := by
 unfold Int32.toNatClampNeg; rw [own_ofNat h]; rfl
theorem own_n31 (x : Int32) : x.toNatClampNeg < 2147483648 := by
 unfold Int32.toNatClampNeg; have := rng32 x; omega
theorem own_takeget {bs pre : List Int32} {i : Nat} (h : bs.take pre.length = pre) (hi : i < pre.length) : bs.getD i 0 = pre.getD i 0 := by
 have e : pre[i]? = bs[i]? := by rw [← h, List.getElem?_take_of_lt hi]
 simp only [List.getD_eq_getElem?_getD, e]
theorem Txt.len (F : Txt Z h a k n pre) : pre.length ≤ n.toNatClampNeg := by
 obtain ⟨bs, -, e, t⟩ := F
 have := congrArg List.length t
 rw [List.length_take] at this
 omega
theorem Txt.at (F : Txt Z h a k n pre) {j : Int32} {i : Nat} (hj : j = oN i) (hi : i < pre.length) : ∃ cl : Cell, Arr Z h a cl .byte ∧ ¬ (j < 0 ∨ cl.slots.size ≤ j.toNatClampNeg) ∧ cl.slots[j.toNatClampNeg]? = some (.int (pre.getD i 0)) := by
 have hl := F.len
 have h31 := own_n31 n
 obtain ⟨bs, ⟨cl, A, q, S, N, H, G⟩, e, t⟩ := F
 have hj' : j.toNatClampNeg = i := by rw [hj]; exact own_clamp (by omega)
 have hin : ¬ (j < 0 ∨ cl.slots.size ≤ j.toNatClampNeg) := by
  rw [hj', S]
  rintro (q | q)
  ·rw [Int32.lt_iff_toInt_lt, hj, own_ofNat (by omega)] at q
   have : (0 : Int32).toInt = 0 := by decide
   omega
  ·omega
 refine ⟨cl, A, hin, Has.at H hin ?_⟩
 rw [hj', own_mapget, own_takeget t hi]
theorem own_settake {bs pre : List Int32} {x : Int32} (h : bs.take pre.length = pre) (hl : pre.length < bs.length) : (bs.set pre.length x).take (pre ++ [x]).length = pre ++ [x] := by
 have e : (bs.set pre.length x) = bs.take pre.length ++ x :: bs.drop (pre.length + 1) := List.set_eq_take_append_cons_drop ▸ (if_pos hl)
 rw [e, h, List.length_append, List.length_singleton]
 rw [List.take_append, List.take_of_length_le (Nat.le_succ _)]
 simp
theorem Txt.store (F : Txt Z h a k n pre) {j x : Int32} (hj : j = oN pre.length) (hi : pre.length < n.toNatClampNeg) : ∃ cl : Cell, Arr Z h a cl .byte ∧ ¬ (j < 0 ∨ cl.slots.size ≤ j.toNatClampNeg) ∧ ∀ {h' : Heap}, Wr h h' a j.toNatClampNeg (.int x.toInt8.toInt32) → Txt Z h' a k n (pre ++ [x.toInt8.toInt32]) := by
 have h31 := own_n31 n
 obtain ⟨bs, ⟨cl, A, q, S, N, H, G⟩, e, t⟩ := F
 have hj' : j.toNatClampNeg = pre.length := by rw [hj]; exact own_clamp (by omega)
 refine ⟨cl, A, ?_, fun {h'} W => ⟨bs.set pre.length x.toInt8.toInt32, ?_, by rw [List.length_set]; exact e, own_settake t (by omega)⟩⟩
 ·rw [hj', S]
  rintro (q | q)
  ·rw [Int32.lt_iff_toInt_lt, hj, own_ofNat (by omega)] at q
   have : (0 : Int32).toInt = 0 := by decide
   omega
  ·omega
 ·rw [List.map_set]
  exact Arv.set A q S N H G (fits_nar_byte _) W pre.length hj' (by rw [List.length_map]; omega)
theorem own_pos (pre : List Int32) (x : Int32) : oN pre.length + (1 : Int32) = oN (pre ++ [x]).length := by
 rw [List.length_append, List.length_singleton, show (1 : Int32) = oN 1 from rfl, Int32.ofNat_add]
def own_find (P : Int32 → Bool) (pre : List Int32) (i : Nat) : Nat := i + (pre.drop i).findIdx P
theorem own_find_end (P : Int32 → Bool) (pre : List Int32) : own_find P pre pre.length = pre.length := by unfold own_find; simp
theorem own_find_yes {P : Int32 → Bool} {pre : List Int32} {i : Nat} (hi : i < pre.length) (h : P (pre.getD i 0) = true) : own_find P pre i = i := by
 unfold own_find
 rw [List.drop_eq_getElem_cons hi, List.findIdx_cons]
 have e : pre.getD i 0 = pre[i] := by simp [List.getD_eq_getElem?_getD, hi]
 rw [← e, h]; simp
theorem own_find_no {P : Int32 → Bool} {pre : List Int32} {i : Nat} (hi : i < pre.length) (h : P (pre.getD i 0) = false) : own_find P pre i = own_find P pre (i + 1) := by
 unfold own_find
 rw [List.drop_eq_getElem_cons hi, List.findIdx_cons]
 have e : pre.getD i 0 = pre[i] := by simp [List.getD_eq_getElem?_getD, hi]
 rw [← e, h]; simp; omega
theorem own_find_le (P : Int32 → Bool) {pre : List Int32} {i : Nat} (hi : i ≤ pre.length) : own_find P pre i ≤ pre.length := by
 unfold own_find
 have := List.findIdx_le_length (p := P) (xs := pre.drop i)
 rw [List.length_drop] at this; omega
theorem own_find_ge (P : Int32 → Bool) (pre : List Int32) (i : Nat) : i ≤ own_find P pre i := Nat.le_add_right _ _
theorem own_succ (i : Nat) : oN i + (1 : Int32) = oN (i + 1) := by
 rw [show (1 : Int32) = oN 1 from rfl, Int32.ofNat_add]
theorem own_natlt {i j : Nat} (hi : i < 2147483648) (hj : j < 2147483648) : oN i < oN j ↔ i < j := by
 rw [Int32.lt_iff_toInt_lt, own_ofNat hi, own_ofNat hj]; omega
end OwnTxt
theorem own_snT {Z : State} {h : Heap} {a : Addr} {k : ClassId} {n : Int32} {pre : List Int32} {ws : List Addr} (F : Txt Z h a k n pre) (r : OwnNoSta h ws) : OwnNoSta h (a :: ws) := by obtain ⟨bs, A, -⟩ := F; exact own_snV A r
section OwnStT
variable {p : Program} {l : Launch} {e : Env} {R : Jvm.Room} {s : State} {m : MethodId} {args : Array Value} {below : List Frame} {meth : Method} {c : Code} {T : State} {locs : List Loc} {cells slots : Nat} {Z : State} {h : Heap} {a : Addr} {k : ClassId} {n j x : Int32} {pre : List Int32} {g : JFrame} {rest : List Value}
theorem own_stT (X : Stand p l e R s m args below meth c T locs cells slots) (hx : p.tables.exec = Jvm.exec) (hZ : Z.Warmed39 s.vm) (eT : T.heap = h) (F : Txt Z h a k n pre) (hj : j = oN pre.length) (hi : pre.length < n.toNatClampNeg) (hg : g.method = m) (hs : g.stack = .int x :: .int j :: .ref a :: rest) (hd : decode c.code g.pc = .ok (.bastore, 1)) :
  ∃ T' h', Stand p l e R s m args below meth c T' (locs ++ [⟨a, j.toNatClampNeg⟩]) cells slots ∧ T'.heap = h' ∧ Wr h h' a j.toNatClampNeg (.int (nar .byte x)) ∧ Txt Z h' a k n (pre ++ [x.toInt8.toInt32]) ∧ ∀ t, Steps p.tables e below (T'.setTop { g with pc := g.pc + 1, stack := rest }) t → Steps p.tables e below (T.setTop g) t := by
 obtain ⟨cl, A, hin, G⟩ := Txt.store F (x := x) (j := j) hj hi
 obtain ⟨T', h', X', e', W, st⟩ := stB X hx hZ eT A hin hg hs hd
 exact ⟨T', h', X', e', W, G W, st⟩
end OwnStT
section OwnCopy
variable {p : Program} {l : Launch} {e : Env} {R : Room} {s : State} {m : MethodId} {args : Array Value} {below : List Frame} {meth : Method} {c : Code} {T : State} {locs : List Loc} {cells slots : Nat} {Z : State} {h : Heap}
theorem own_acopy (X : Stand p l e R s m args below meth c T locs cells slots) (hx : p.tables.exec = Jvm.exec) (hZ : Z.Warmed39 s.vm) {a0 : Array Value} {own : String} {index : Nat} (hown : s.vm.findClass own = some m.cls) (w1 : (Cond.methodLink own index acN).before a0 Z = true) (w2 : (Cond.native acN).before a0 Z = true) (w3 : (Cond.static acN).before a0 Z = true) (w4 : (Cond.initialized "java/lang/System").before a0 Z = true)
  (eT : T.heap = h) {src dst : Addr} {ks kd : ClassId} {ns : Int32} {pre : List Int32} {vs0 : List Value} {o n : Nat} (Fs : Txt Z h src ks ns pre) (Fd : Arv Z h dst kd .byte (oN n) vs0 (.int 0)) (hne : src ≠ dst) (hon : o + n ≤ pre.length)
  {g : JFrame} (hg : g.method = m) (hsize : g.locals.size = c.maxLocals) {rest : List Value} (hstack : g.stack = .int (oN n) :: .int 0 :: .ref dst :: .int (oN o) :: .ref src :: rest) (hdg : decode c.code g.pc = .ok (.invokestatic index, 3))
  (hframes : 1 ≤ R.frames) (hlocals : 2 * g.monitorRoom + (rest.map fun v => v.category).sum + (nativeFrameWords "java/lang/System" "arraycopy" 5 + 11) ≤ R.locals) :
  ∃ (T' : State) (h' : Heap), Stand p l e R s m args below meth c T' (locs ++ copyLocs dst 0 n) cells slots ∧ T'.heap = h' ∧ Keep h h' [dst] ∧ Arv Z h' dst kd .byte (oN n) (((pre.drop o).take n).map Value.int) (.int 0) ∧
   ∀ target, Steps p.tables e below (T'.setTop { g with pc := g.pc + 3, stack := rest }) target → Steps p.tables e below (T.setTop g) target := by
 have hl := Fs.len
 have h31 := own_n31 ns
 obtain ⟨bs, ⟨cs, As, qs, Ss, Ns, Hs, Gs⟩, es, ts⟩ := Fs
 obtain ⟨cd, Ad, qd, Sd, Nd, Hd, Gd⟩ := Fd
 obtain ⟨hs1, kS, hkS, cS, kindS⟩ := As.2.1
 obtain ⟨hd1, kD, hkD, cD, kindD⟩ := Ad.2.1
 obtain ⟨kS', hkS', eS⟩ := hZ.alike.2.2 _ _ hkS
 obtain ⟨kD', hkD', eD⟩ := hZ.alike.2.2 _ _ hkD
 have on : (oN n).toNatClampNeg = n := own_clamp (by omega)
 have oo : (oN o).toNatClampNeg = o := own_clamp (by omega)
 have tn : (oN n).toInt = n := own_ofNat (by omega)
 have to' : (oN o).toInt = o := own_ofNat (by omega)
 have e0 : (0 : Int32).toInt = 0 := by decide
 have c0 : (0 : Int32).toNatClampNeg = 0 := by decide
 have hsz : cs.slots.size = bs.length := by rw [Ss, es]
 have hdz : cd.slots.size = n := by rw [Sd, on]
 have hbl : pre.length ≤ bs.length := by rw [← es]; exact hl
 have val : ∀ i, i < n → cs.slots.getD (o + i) .null = .int (pre.getD (o + i) 0) := fun i hi => by
  have q := Hs (o + i) (by omega)
  rw [own_mapget, own_takeget ts (by omega)] at q
  have hlt : o + i < cs.slots.size := by omega
  simp only [Array.getD_eq_getD_getElem?, q, Option.getD_some]
 have fit : ∀ i, i < n → fits .byte (.int (pre.getD (o + i) 0)) = true := fun i hi => by
  have q := Gs (o + i) (by omega)
  rw [own_mapget, own_takeget ts (by omega)] at q
  exact q
 obtain ⟨vm₁, hW, X', st⟩ := X.arraycopyK hx hown (mvT hZ w1) (mvT hZ w2) (mvT hZ w3) (mvT hZ w4) (src := src) (dst := dst) (srcPos := oN o) (destPos := (0 : Int32)) (n := oN n) (cs := cs) (cd := cd) (sType := .byte) (dType := .byte) (by rw [eT]; exact As.1) (by rw [eT]; exact Ad.1) hs1 hd1 As.2.2 Ad.2.2 hkS' hkD' (by rw [eS]; exact kindS) (by rw [eD]; exact kindD) rfl
  (by rw [Int32.lt_iff_toInt_lt, to', e0]; omega) (by decide) (by rw [Int32.lt_iff_toInt_lt, tn, e0]; omega) (by rw [to', tn]; omega) (by rw [e0, tn]; omega)
  (fun vm1 _ i hi => by rw [on] at hi; rw [oo, val i hi]; exact ⟨fit i hi, trivial⟩) (g := g) hg hsize hstack hdg hframes hlocals
 rw [c0, on] at X'
 have hin : (0 : Nat) + (cs.stretch o n).length ≤ cd.slots.size := by simp [Cell.stretch]; omega
 have hf := Cell.storeRun_facts cd 0 (cs.stretch o n)
 have hce : copied cs cd (oN o) 0 (oN n) = cd.storeRun 0 (cs.stretch o n) := by show cd.storeRun _ (cs.stretch _ _) = _; rw [c0, oo, on]
 have hh : ((T.setVm vm₁).setCell dst (copied cs cd (oN o) 0 (oN n))).heap = h.setIfInBounds dst (cd.storeRun 0 (cs.stretch o n)) := by rw [hce, ← eT]; rfl
 have hdl : dst < h.size := Ad.lt
 have hget : (h.setIfInBounds dst (cd.storeRun 0 (cs.stretch o n)))[dst]? = some (cd.storeRun 0 (cs.stretch o n)) := by rw [Array.getElem?_setIfInBounds_self_of_lt hdl]
 have sval : ∀ i, i < n → (cd.storeRun 0 (cs.stretch o n)).slots[i]? = some (.int (pre.getD (o + i) 0)) := fun i hi => by
  rw [Cell.storeRun_get cd 0 (cs.stretch o n) i hin, if_pos (by simp [Cell.stretch]; omega)]
  have q := val i hi
  simp only [Array.getD_eq_getD_getElem?, List.getD_eq_getElem?_getD] at q
  simp [Cell.stretch, hi, q]
 have lval : ∀ i, i < n → (((pre.drop o).take n).map Value.int).getD i (.int 0) = .int (pre.getD (o + i) 0) := fun i hi => by
  rw [own_mapget]
  simp only [List.getD_eq_getElem?_getD, List.getElem?_take_of_lt hi, List.getElem?_drop]
 refine ⟨_, _, X', hh, ⟨by simp, fun x cx hcx hnx => ?_, fun x cx hcx => ?_⟩, ⟨cd.storeRun 0 (cs.stretch o n), ⟨hget, ?_, ?_⟩, hf.1.trans qd, by rw [hf.2.2.1, hdz, on], Nd, fun i hi => ?_, fun i hi => ?_⟩, st⟩
 ·rw [Array.getElem?_setIfInBounds_ne (fun q => hnx (by rw [← q]; exact List.mem_singleton.mpr rfl))]; exact hcx
 ·by_cases q : dst = x
  ·subst q
   cases Ad.1.symm.trans hcx
   exact ⟨_, hget, hf.1, hf.2.1, hf.2.2.1⟩
  ·exact ⟨cx, by rw [Array.getElem?_setIfInBounds_ne q]; exact hcx, rfl, rfl, rfl⟩
 ·exact ⟨fun k => by rw [hf.2.1]; exact hd1 k, kD, by rw [hf.1]; exact hkD, cD, kindD⟩
 ·rw [hf.2.1]; exact Ad.2.2
 ·rw [hf.2.2.1, hdz] at hi
  rw [sval i hi, lval i hi]
 ·rw [hf.2.2.1, hdz] at hi
  rw [lval i hi]; exact fit i hi
end OwnCopy
def own_b (b : Bool) : Int32 := if b then 1 else 0
def own_isp (x : Int32) : Bool := decide (x = 32) || decide (x = 9) || decide (x = 10) || decide (x = 13)
def own_en (x : Int32) : Bool := decide (x = 9) || decide (x = 10) || decide (x = 13) || decide (x = 32) || decide (x = 47) || decide (x = 61) || decide (x = 62)
theorem own_p31 {Z : State} {h : Heap} {a : Addr} {k : ClassId} {n : Int32} {pre : List Int32} (F : Txt Z h a k n pre) : pre.length < 2147483648 := Nat.lt_of_le_of_lt F.len (own_n31 n)
theorem own_z7 {Z : State} {h : Heap} {a : Addr} {k : ClassId} {n : Int32} {pre : List Int32} (F : Txt Z h a k n pre) {i : Nat} (hk : i + 0 = pre.length) : ¬ oN i < oN pre.length := by
 have := own_p31 F
 rw [own_natlt (by omega) (by omega)]; omega
theorem own_s7 {Z : State} {h : Heap} {a : Addr} {k : ClassId} {n : Int32} {pre : List Int32} (F : Txt Z h a k n pre) {i kk : Nat} (hk : i + (kk + 1) = pre.length) : oN i < oN pre.length := by
 have := own_p31 F
 rw [own_natlt (by omega) (by omega)]; omega
def own_ix (pre : List Int32) (b : Int32) (i : Nat) : Int32 := if own_find (fun x => decide (x = b)) pre i < pre.length then oN (own_find (fun x => decide (x = b)) pre i) else -1
theorem own_ixz {pre : List Int32} {b : Int32} {i i0 : Nat} (hk : i + 0 = pre.length) (hf : own_find (fun x => decide (x = b)) pre i = own_find (fun x => decide (x = b)) pre i0) : own_ix pre b i0 = -1 := by
 unfold own_ix
 rw [← hf, show i = pre.length by omega, own_find_end, if_neg (Nat.lt_irrefl _)]
theorem own_ixs {pre : List Int32} {b : Int32} {i i0 : Nat} (hi : i < pre.length) (h : decide (pre.getD i 0 = b) = true) (hf : own_find (fun x => decide (x = b)) pre i = own_find (fun x => decide (x = b)) pre i0) : own_ix pre b i0 = oN i := by
 unfold own_ix
 rw [← hf, own_find_yes (P := fun x => decide (x = b)) hi h, if_pos hi]
theorem own_en_neg {x : Int32} (h : x < 0) : own_en x = false := by
 rw [Int32.lt_iff_toInt_lt] at h
 unfold own_en
 simp only [Bool.or_eq_false_iff, decide_eq_false_iff_not]
 have e0 : (0 : Int32).toInt = 0 := by decide
 refine ⟨⟨⟨⟨⟨⟨?_, ?_⟩, ?_⟩, ?_⟩, ?_⟩, ?_⟩, ?_⟩ <;> (rintro rfl; revert h; decide)
theorem own_en_big {x : Int32} (h : ¬ x < 64) : own_en x = false := by
 unfold own_en
 simp only [Bool.or_eq_false_iff, decide_eq_false_iff_not]
 refine ⟨⟨⟨⟨⟨⟨?_, ?_⟩, ?_⟩, ?_⟩, ?_⟩, ?_⟩, ?_⟩ <;> (rintro rfl; revert h; decide)
abbrev own_enm (x : Int32) : Int32 := lcmpW ((((6917669769424414208 : Int64).toUInt64 >>> (x &&& 0x3f).toInt64.toUInt64).toInt64) &&& (1 : Int64)) (0 : Int64)
theorem own_en64 : ∀ i : Fin 64, own_en (oN i.1) = !decide (own_enm (oN i.1) = 0) := by decide +kernel
theorem own_en_all {x : Int32} (h0 : ¬ x < 0) (h1 : x < 64) : own_en x = !decide (own_enm x = 0) := by
 rw [Int32.lt_iff_toInt_lt] at h0 h1
 have e0 : (0 : Int32).toInt = 0 := by decide
 have e1 : (64 : Int32).toInt = 64 := by decide
 have e : x = oN x.toInt.toNat := Int32.toInt_inj.mp (by rw [own_ofNat (by omega)]; omega)
 have := own_en64 ⟨x.toInt.toNat, by omega⟩
 rw [← e] at this; exact this
theorem own_en_f {x : Int32} (h0 : ¬ x < 0) (h1 : x < 64) (h2 : own_enm x = 0) : own_en x = false := by rw [own_en_all h0 h1, h2]; rfl
theorem own_en_t {x : Int32} (h0 : ¬ x < 0) (h1 : x < 64) (h2 : ¬ own_enm x = 0) : own_en x = true := by rw [own_en_all h0 h1, decide_eq_false h2]; rfl
theorem own_b0 {b : Bool} (h : own_b b = 0) : b = false := by cases b <;> first | rfl | (revert h; decide)
theorem own_b1 {b : Bool} (h : ¬ own_b b = 0) : b = true := by cases b <;> first | rfl | (exact absurd rfl h)
theorem own_fz {P : Int32 → Bool} {pre : List Int32} {i : Nat} (hk : i + 0 = pre.length) : own_find P pre i = i := by rw [show i = pre.length by omega, own_find_end]
theorem own_nn31 {Z : State} {h : Heap} {a : Addr} {k : ClassId} {n : Int32} {pre : List Int32} (F : Txt Z h a k n pre) {i : Nat} (hi : i ≤ pre.length) : ¬ oN i < 0 := by
 have := own_p31 F
 rw [Int32.lt_iff_toInt_lt, own_ofNat (by omega)]
 have : (0 : Int32).toInt = 0 := by decide
 omega
theorem own_pred {g : Nat} (h : 1 ≤ g) : oN g - (1 : Int32) = oN (g - 1) := by
 have e := own_succ (g - 1)
 rw [show g - 1 + 1 = g by omega] at e
 rw [← e, Int32.add_sub_cancel]
theorem own_subn (a n : Nat) : oN (a + n) - oN a = oN n := by
 rw [Int32.ofNat_add, Int32.add_comm, Int32.add_sub_cancel]
theorem own_rc1 {Z : State} {h : Heap} {a : Addr} {k : ClassId} {n : Int32} {pre : List Int32} (F : Txt Z h a k n pre) {i d : Nat} (hl : i + d ≤ pre.length) : ¬ oN (i + d) < oN i := by
 have := own_p31 F
 rw [own_natlt (by omega) (by omega)]; omega
theorem own_88 (p : Int32) : p.toInt8.toInt32.toInt8.toInt32 = p.toInt8.toInt32 := by rw [Int8.toInt8_toInt32]
def own_imin (x y : Int32) : Int32 := if y < x then y else x
theorem own_minn {Z : State} {h : Heap} {a : Addr} {k : ClassId} {n : Int32} {pre : List Int32} (F : Txt Z h a k n pre) {o d : Nat} (hl : o + d ≤ pre.length) : own_imin (n - oN o) (oN d) = oN d := by
 have h1 := own_p31 F
 have h2 := F.len
 obtain ⟨bs, ⟨cl, A, q, S, N, H, G⟩, e, t⟩ := F
 rw [Int32.lt_iff_toInt_lt] at N
 have e0 : (0 : Int32).toInt = 0 := by decide
 have r := rng32 n
 unfold Int32.toNatClampNeg at h2
 have e1 := own_ofNat (i := o) (by omega)
 have e2 := own_ofNat (i := d) (by omega)
 have c1 := c_isub n (oN o)
 have r2 := rng32 (n - oN o)
 unfold own_imin
 split
 ·rfl
 ·rename_i hq
  rw [Int32.lt_iff_toInt_lt] at hq
  exact Int32.toInt_inj.mp (by omega)
theorem own_o0 {Z : State} {h : Heap} {a : Addr} {k : ClassId} {n : Int32} {pre : List Int32} (F : Txt Z h a k n pre) {o d : Nat} (hl : o + d ≤ pre.length) (ho : 0 < o) : ¬ oN o = 0 := fun q => by
 have h1 := own_p31 F
 have e := congrArg Int32.toInt q
 rw [own_ofNat (by omega)] at e
 have e0 : (0 : Int32).toInt = 0 := by decide
 omega
theorem own_orn {x y : Int32} (hx : ¬ x < 0) (hy : ¬ y < 0) : ¬ (x ||| y) < 0 := by
 have e : ∀ z : Int32, z < 0 ↔ z.toBitVec.msb = true := fun z => by
  rw [Int32.lt_iff_toInt_lt, BitVec.msb_eq_toInt, decide_eq_true_iff]; exact Iff.rfl
 rw [e] at *
 have h : (x ||| y).toBitVec.msb = (x.toBitVec.msb || y.toBitVec.msb) := by
  show (x.toBitVec ||| y.toBitVec).msb = _
  exact BitVec.msb_or
 rw [h]
 simp only [Bool.or_eq_true, not_or]
 exact ⟨hx, hy⟩
theorem own_ntn {Z : State} {h : Heap} {a : Addr} {k : ClassId} {n : Int32} {pre : List Int32} (F : Txt Z h a k n pre) : ¬ n < 0 := by obtain ⟨bs, ⟨cl, A, q, S, N, H, G⟩, e, t⟩ := F; exact N
theorem own_cf {Z : State} {h : Heap} {a : Addr} {k : ClassId} {n : Int32} {pre : List Int32} (F : Txt Z h a k n pre) {o d : Nat} (hl : o + d ≤ pre.length) : ¬ ((n ||| oN o) ||| oN d) < 0 := own_orn (own_orn (own_ntn F) (own_nn31 F (by omega))) (own_nn31 F (by omega))
theorem own_cf1 {Z : State} {h : Heap} {a : Addr} {k : ClassId} {n : Int32} {pre : List Int32} (F : Txt Z h a k n pre) {o d : Nat} (hl : o + d ≤ pre.length) : ¬ ((n ||| oN o) ||| oN d) < 0 := own_cf F hl
theorem own_cf2 {Z : State} {h : Heap} {a : Addr} {k : ClassId} {n : Int32} {pre : List Int32} (F : Txt Z h a k n pre) {o d : Nat} (hl : o + d ≤ pre.length) : ¬ (n - oN o) < oN d := by
 have h1 := own_p31 F
 have h2 := F.len
 have N := own_ntn F
 rw [Int32.lt_iff_toInt_lt] at N ⊢
 have e0 : (0 : Int32).toInt = 0 := by decide
 have r := rng32 n
 unfold Int32.toNatClampNeg at h2
 have e1 := own_ofNat (i := o) (by omega)
 have e2 := own_ofNat (i := d) (by omega)
 have c1 := c_isub n (oN o)
 have r2 := rng32 (n - oN o)
 omega
abbrev own_nsp : Int32 → Bool := fun x => !own_isp x
section OwnRa
variable {pre : List Int32} {i j1 j2 j3 j4 r1 : Nat} {rr : Int32} (hy1 : own_find own_nsp pre i = j1) (hy2 : own_find own_en pre j1 = j2) (hy3 : own_find own_nsp pre j2 = j3) (hy4 : own_find own_nsp pre (j3 + 1) = j4) (hrr : own_ix pre (pre.getD j4 0) (j4 + 1) = rr)
end OwnRa
theorem own_ixn {pre : List Int32} {b : Int32} {i r1 : Nat} {rr : Int32} (hy : own_find (fun x => decide (x = b)) pre i = r1) (hrr : own_ix pre b i = rr) (h : ¬ rr < 0) : rr = oN r1 := by
 subst hrr hy
 unfold own_ix at *
 split
 ·rfl
 ·rename_i q; rw [if_neg q] at h; exact absurd (by decide) h
theorem own_ixl {pre : List Int32} {b : Int32} {i r1 : Nat} (hy : own_find (fun x => decide (x = b)) pre i = r1) (h : ¬ own_ix pre b i < 0) : r1 < pre.length := by
 subst hy
 unfold own_ix at h
 split at h
 ·assumption
 ·exact absurd (by decide) h
def own_te (pre : List Int32) (j : Nat) : Int32 := if own_ix pre 62 j < 0 then -1 else own_ix pre 62 j + (1 : Int32)
section OwnTe
variable {pre : List Int32} {j g : Nat} {rr : Int32}
theorem own_te_n (hr : own_ix pre 62 j = rr) (h : rr < 0) : own_te pre j = (-1 : Int32) := by subst hr; exact if_pos h
theorem own_te_y (hr : own_ix pre 62 j = rr) (h : ¬ rr < 0) : own_te pre j = rr + (1 : Int32) := by subst hr; exact if_neg h
end OwnTe
section OwnM3
def own_sw (pre : List Int32) (i : Nat) (ls : List Int32) : Bool := decide (i + ls.length ≤ pre.length) && decide ((pre.drop i).take ls.length = ls)
theorem own_shr0 (x : Int32) : x >>> ((0 : Int32) &&& 31) = x := by
 have : ((0 : Int32) &&& 31) = 0 := by decide
 rw [this]; exact Int32.shiftRight_zero
def OwnLit (ls : List Int32) : Prop := ls.length < 100 ∧ ∀ x ∈ ls, ¬ x < 0 ∧ x < 128
theorem own_lget {ls : List Int32} (h : OwnLit ls) {i : Nat} (hi : i < ls.length) : ¬ ls.getD i 0 < 0 ∧ ls.getD i 0 < 128 := by
 have e : ls.getD i 0 = ls[i] := by rw [List.getD_eq_getElem?_getD, List.getElem?_eq_getElem hi]; rfl
 rw [e]; exact h.2 _ (List.getElem_mem hi)
theorem own_c255 : ∀ i : Fin 128, nar .char ((oN i.1) &&& (255 : Int32)) = oN i.1 ∧ (oN i.1).toInt8.toInt32 = oN i.1 ∧ ((oN i.1) &&& (255 : Int32)).toUInt32.toUInt16.toUInt32.toInt32 = oN i.1 := by decide +kernel
theorem own_ch {c : Int32} (h0 : ¬ c < 0) (h1 : c < 128) : nar .char (c &&& (255 : Int32)) = c ∧ c.toInt8.toInt32 = c ∧ (c &&& (255 : Int32)).toUInt32.toUInt16.toUInt32.toInt32 = c := by
 rw [Int32.lt_iff_toInt_lt] at h0 h1
 have e0 : (0 : Int32).toInt = 0 := by decide
 have e1 : (128 : Int32).toInt = 128 := by decide
 have e : c = oN c.toInt.toNat := Int32.toInt_inj.mp (by rw [own_ofNat (by omega)]; omega)
 have := own_c255 ⟨c.toInt.toNat, by omega⟩
 rw [← e] at this; exact this
theorem own_nz (i : Nat) (h : i < 2147483648) : ¬ oN i < 0 := by
 rw [Int32.lt_iff_toInt_lt, own_ofNat h]
 have : (0 : Int32).toInt = 0 := by decide
 omega
theorem own_sw_t {pre ls : List Int32} {i : Nat} (hl : i + ls.length ≤ pre.length) (h : ∀ k, k < ls.length → pre.getD (i + k) 0 = ls.getD k 0) : own_sw pre i ls = true := by
 unfold own_sw
 rw [decide_eq_true hl, Bool.true_and, decide_eq_true_eq]
 refine List.ext_getElem ?_ fun k h1 h2 => ?_
 ·rw [List.length_take, List.length_drop]; omega
 ·have := h k h2
  rw [List.getD_eq_getElem?_getD, List.getElem?_eq_getElem (by omega), List.getD_eq_getElem?_getD, List.getElem?_eq_getElem h2] at this
  rw [List.getElem_take, List.getElem_drop]; exact this
theorem own_sw_f {pre ls : List Int32} {i k : Nat} (hk : k < ls.length) (h : ¬ pre.getD (i + k) 0 = ls.getD k 0) : own_sw pre i ls = false := by
 unfold own_sw
 rw [Bool.and_eq_false_iff]
 by_cases hl : i + ls.length ≤ pre.length
 ·refine Or.inr (decide_eq_false fun e => h ?_)
  have e1 : ((pre.drop i).take ls.length)[k]? = ls[k]? := by rw [e]
  rw [List.getElem?_take_of_lt hk, List.getElem?_drop] at e1
  simp only [List.getD_eq_getElem?_getD, e1]
 ·exact Or.inl (decide_eq_false hl)
theorem own_sw_l {pre ls : List Int32} {i : Nat} (h : ¬ i + ls.length ≤ pre.length) : own_sw pre i ls = false := by
 unfold own_sw; rw [decide_eq_false h]; rfl
def own_fs (pre ls : List Int32) : Nat → Nat → Nat
 | 0, i => i
 | k + 1, i => if own_sw pre i ls then i else own_fs pre ls k (i + 1)
def own_past (pre ls : List Int32) (i : Nat) : Int32 := if own_fs pre ls (pre.length - i) i < pre.length then oN (own_fs pre ls (pre.length - i) i + ls.length) else -1
end OwnM3
section OwnM3b
variable {Z : State} {h : Heap} {a : Addr} {k : ClassId} {n : Int32} {pre ls : List Int32} {i i0 kk : Nat}
def own_ba2 (pre : List Int32) (i : Nat) : Int32 := if i + 1 < pre.length then nar .byte (pre.getD (i + 1) 0) else 0
theorem own_ba3 (F : Txt Z h a k n pre) (hi : i < pre.length) (hc : oN i + (1 : Int32) < oN pre.length) : i + 1 < pre.length := by
 have := own_p31 F
 rw [own_succ, own_natlt (by omega) (by omega)] at hc; exact hc
theorem own_bat (F : Txt Z h a k n pre) (hi : i < pre.length) (hc : oN i + (1 : Int32) < oN pre.length) : own_ba2 pre i = nar .byte (pre.getD (i + 1) 0) := if_pos (own_ba3 F hi hc)
theorem own_baf (F : Txt Z h a k n pre) (hi : i < pre.length) (hc : ¬ oN i + (1 : Int32) < oN pre.length) : own_ba2 pre i = 0 := by
 have := own_p31 F
 rw [own_succ, own_natlt (by omega) (by omega)] at hc
 exact if_neg hc
theorem own_cf128x {c : Int32} (h0 : ¬ c < 0) (h1 : c < 128) : nar .char c = c := by
 have e := (own_ch h0 h1).1
 have e2 := (own_ch h0 h1).2.2
 have : nar .char (c &&& (255 : Int32)) = (c &&& (255 : Int32)).toUInt32.toUInt16.toUInt32.toInt32 := rfl
 show c.toUInt32.toUInt16.toUInt32.toInt32 = c
 have e3 : c.toUInt32.toUInt16.toUInt32.toInt32 = c := by
  rw [Int32.lt_iff_toInt_lt] at h0 h1
  have z0 : (0 : Int32).toInt = 0 := by decide
  have z1 : (128 : Int32).toInt = 128 := by decide
  have z : c = oN c.toInt.toNat := Int32.toInt_inj.mp (by rw [own_ofNat (by omega)]; omega)
  have all : ∀ i : Fin 128, (oN i.1).toUInt32.toUInt16.toUInt32.toInt32 = oN i.1 := by decide +kernel
  have := all ⟨c.toInt.toNat, by omega⟩
  rw [← z] at this; exact this
 exact e3
theorem own_addn (i j : Nat) : oN i + oN j = oN (i + j) := (Int32.ofNat_add i j).symm
theorem own_swl (F : Txt Z h a k n pre) (hn : n.toNatClampNeg < 1000) (hl : ls.length < 100) (hi : i ≤ pre.length) (hc : ¬ oN pre.length < oN i + oN ls.length) : i + ls.length ≤ pre.length := by
 have := F.len
 rw [own_addn, own_natlt (by omega) (by omega)] at hc; omega
theorem own_swn (F : Txt Z h a k n pre) (hn : n.toNatClampNeg < 1000) (hl : ls.length < 100) (hi : i ≤ pre.length) (hc : oN pre.length < oN i + oN ls.length) : ¬ i + ls.length ≤ pre.length := by
 have := F.len
 rw [own_addn, own_natlt (by omega) (by omega)] at hc; omega
theorem own_z8 (hl : ls.length < 100) (hk : i + 0 = ls.length) : ¬ oN i < oN ls.length := by rw [own_natlt (by omega) (by omega)]; omega
theorem own_s8 (hl : ls.length < 100) (hk : i + (kk + 1) = ls.length) : oN i < oN ls.length := by rw [own_natlt (by omega) (by omega)]; omega
theorem own_fs_no (hk : i + (kk + 1) = pre.length) (h : own_sw pre i ls = false) : own_fs pre ls (pre.length - (i + 1)) (i + 1) = own_fs pre ls (pre.length - i) i := by
 rw [show pre.length - i = (pre.length - (i + 1)) + 1 by omega]
 show _ = (if own_sw pre i ls = true then i else _)
 rw [h]; rfl
theorem own_past_z (hk : i + 0 = pre.length) (hf : own_fs pre ls (pre.length - i) i = own_fs pre ls (pre.length - i0) i0) : own_past pre ls i0 = -1 := by
 unfold own_past
 rw [← hf, show pre.length - i = 0 by omega]
 exact if_neg (by show ¬ i < _; omega)
theorem own_past_s (hk : i + (kk + 1) = pre.length) (h : own_sw pre i ls = true) (hf : own_fs pre ls (pre.length - i) i = own_fs pre ls (pre.length - i0) i0) : own_past pre ls i0 = oN (i + ls.length) := by
 have e : own_fs pre ls (pre.length - i) i = i := by
  rw [show pre.length - i = (pre.length - (i + 1)) + 1 by omega]
  exact if_pos h
 unfold own_past
 rw [← hf, e, if_pos (by omega)]
end OwnM3b
abbrev own_C1 : List Int32 := [60, 33, 45, 45]
abbrev own_C2 : List Int32 := [45, 45, 62]
abbrev own_Q1 : List Int32 := [60, 63]
abbrev own_Q2 : List Int32 := [63, 62]
abbrev own_D1 : List Int32 := [60, 33, 91, 67, 68, 65, 84, 65, 91]
abbrev own_D2 : List Int32 := [93, 93, 62]
theorem own_lC1 : OwnLit own_C1 := ⟨by decide, by decide⟩
theorem own_lC2 : OwnLit own_C2 := ⟨by decide, by decide⟩
theorem own_lQ1 : OwnLit own_Q1 := ⟨by decide, by decide⟩
theorem own_lQ2 : OwnLit own_Q2 := ⟨by decide, by decide⟩
theorem own_lD1 : OwnLit own_D1 := ⟨by decide, by decide⟩
theorem own_lD2 : OwnLit own_D2 := ⟨by decide, by decide⟩
def own_dep (c : Int32) (d : Nat) : Nat := if c = 91 then d + 1 else if c = 93 then d - 1 else d
def own_pd (pre : List Int32) : Nat → Nat → Nat → Int32 × Nat
 | 0, _, _ => (-1, 0)
 | f + 1, i, d =>
  if i < pre.length then
   if pre.getD i 0 = 62 ∧ d = 0 then (oN (i + 1), 0)
   else if pre.getD i 0 = 39 ∨ pre.getD i 0 = 34 then
    (if own_ix pre (pre.getD i 0) (i + 1) < 0 then (-1, 0) else own_pd pre f (own_find (fun x => decide (x = pre.getD i 0)) pre (i + 1) + 1) d)
   else if 0 < d then
    (if own_sw pre i own_C1 = true then
     (if own_past pre own_C2 (i + 4) < 0 then (-1, 4) else ((own_pd pre f (own_fs pre own_C2 (pre.length - (i + 4)) (i + 4) + 3) d).1, (own_pd pre f (own_fs pre own_C2 (pre.length - (i + 4)) (i + 4) + 3) d).2 + 4))
    else if own_sw pre i own_Q1 = true then
     (if own_past pre own_Q2 (i + 2) < 0 then (-1, 6) else ((own_pd pre f (own_fs pre own_Q2 (pre.length - (i + 2)) (i + 2) + 2) d).1, (own_pd pre f (own_fs pre own_Q2 (pre.length - (i + 2)) (i + 2) + 2) d).2 + 6))
    else ((own_pd pre f (i + 1) (own_dep (pre.getD i 0) d)).1, (own_pd pre f (i + 1) (own_dep (pre.getD i 0) d)).2 + 4))
   else own_pd pre f (i + 1) (own_dep (pre.getD i 0) d)
  else (-1, 0)
section OwnPd
variable {pre : List Int32} {f i d kl : Nat} {r : Int32}
theorem own_pd_end (hp : own_pd pre (f + 1) i d = (r, kl)) (h : ¬ i < pre.length) : r = -1 := by
 unfold own_pd at hp; rw [if_neg h] at hp; exact (congrArg Prod.fst hp).symm
theorem own_pd_gt (hp : own_pd pre (f + 1) i d = (r, kl)) (h : i < pre.length) (h1 : pre.getD i 0 = 62) (h2 : d = 0) : r = oN (i + 1) := by
 unfold own_pd at hp; rw [if_pos h, if_pos ⟨h1, h2⟩] at hp; exact (congrArg Prod.fst hp).symm
theorem own_pd_qn (hp : own_pd pre (f + 1) i d = (r, kl)) (h : i < pre.length) (h1 : pre.getD i 0 = 39 ∨ pre.getD i 0 = 34) (hx : own_ix pre (pre.getD i 0) (i + 1) < 0) : r = -1 := by
 have n1 : ¬ (pre.getD i 0 = 62 ∧ d = 0) := fun q => by rcases h1 with e | e <;> (rw [e] at q; exact absurd q.1 (by decide))
 unfold own_pd at hp; rw [if_pos h, if_neg n1, if_pos h1, if_pos hx] at hp; exact (congrArg Prod.fst hp).symm
theorem own_pd_qy {g : Nat} (hp : own_pd pre (f + 1) i d = (r, kl)) (h : i < pre.length) (h1 : pre.getD i 0 = 39 ∨ pre.getD i 0 = 34) (hx : ¬ own_ix pre (pre.getD i 0) (i + 1) < 0) (hg : own_find (fun x => decide (x = pre.getD i 0)) pre (i + 1) = g) : own_pd pre f (g + 1) d = (r, kl) := by
 have n1 : ¬ (pre.getD i 0 = 62 ∧ d = 0) := fun q => by rcases h1 with e | e <;> (rw [e] at q; exact absurd q.1 (by decide))
 unfold own_pd at hp; rw [if_pos h, if_neg n1, if_pos h1, if_neg hx] at hp; rw [← hg]; exact hp
theorem own_pd_c (hp : own_pd pre (f + 1) i d = (r, kl)) (h : i < pre.length) (n0 : ¬ (pre.getD i 0 = 62 ∧ d = 0)) (n1 : ¬ pre.getD i 0 = 39) (n2 : ¬ pre.getD i 0 = 34) (hd : 0 < d) (hs : own_sw pre i own_C1 = true) :
  4 ≤ kl ∧ (own_past pre own_C2 (i + 4) < 0 → r = -1) ∧ (¬ own_past pre own_C2 (i + 4) < 0 → ∃ k', kl = k' + 4 ∧ own_pd pre f (own_fs pre own_C2 (pre.length - (i + 4)) (i + 4) + 3) d = (r, k')) := by
 unfold own_pd at hp; rw [if_pos h, if_neg n0, if_neg (fun q => q.elim n1 n2), if_pos hd, if_pos hs] at hp
 by_cases hx : own_past pre own_C2 (i + 4) < 0
 ·rw [if_pos hx] at hp; cases hp; exact ⟨Nat.le_refl _, fun _ => rfl, fun q => absurd hx q⟩
 ·rw [if_neg hx] at hp; cases hp; exact ⟨by omega, fun q => absurd q hx, fun _ => ⟨_, rfl, rfl⟩⟩
theorem own_pd_q (hp : own_pd pre (f + 1) i d = (r, kl)) (h : i < pre.length) (n0 : ¬ (pre.getD i 0 = 62 ∧ d = 0)) (n1 : ¬ pre.getD i 0 = 39) (n2 : ¬ pre.getD i 0 = 34) (hd : 0 < d) (hs : own_sw pre i own_C1 = false) (hq : own_sw pre i own_Q1 = true) :
  6 ≤ kl ∧ (own_past pre own_Q2 (i + 2) < 0 → r = -1) ∧ (¬ own_past pre own_Q2 (i + 2) < 0 → ∃ k', kl = k' + 6 ∧ own_pd pre f (own_fs pre own_Q2 (pre.length - (i + 2)) (i + 2) + 2) d = (r, k')) := by
 unfold own_pd at hp; rw [if_pos h, if_neg n0, if_neg (fun q => q.elim n1 n2), if_pos hd, hs, if_neg (by decide), if_pos hq] at hp
 by_cases hx : own_past pre own_Q2 (i + 2) < 0
 ·rw [if_pos hx] at hp; cases hp; exact ⟨Nat.le_refl _, fun _ => rfl, fun q => absurd hx q⟩
 ·rw [if_neg hx] at hp; cases hp; exact ⟨by omega, fun q => absurd q hx, fun _ => ⟨_, rfl, rfl⟩⟩
theorem own_pd_s (hp : own_pd pre (f + 1) i d = (r, kl)) (h : i < pre.length) (n0 : ¬ (pre.getD i 0 = 62 ∧ d = 0)) (n1 : ¬ pre.getD i 0 = 39) (n2 : ¬ pre.getD i 0 = 34) (hd : 0 < d) (hs : own_sw pre i own_C1 = false) (hq : own_sw pre i own_Q1 = false) : ∃ k', kl = k' + 4 ∧ own_pd pre f (i + 1) (own_dep (pre.getD i 0) d) = (r, k') := by
 unfold own_pd at hp; rw [if_pos h, if_neg n0, if_neg (fun q => q.elim n1 n2), if_pos hd, hs, if_neg (by decide), hq, if_neg (by decide)] at hp
 cases hp; exact ⟨_, rfl, rfl⟩
theorem own_pd_z (hp : own_pd pre (f + 1) i d = (r, kl)) (h : i < pre.length) (n0 : ¬ (pre.getD i 0 = 62 ∧ d = 0)) (n1 : ¬ pre.getD i 0 = 39) (n2 : ¬ pre.getD i 0 = 34) (hd : ¬ 0 < d) : own_pd pre f (i + 1) (own_dep (pre.getD i 0) d) = (r, kl) := by
 unfold own_pd at hp; rw [if_pos h, if_neg n0, if_neg (fun q => q.elim n1 n2), if_neg hd] at hp; exact hp
theorem own_dpos (hl : d ≤ i) (hi : i < 2147483648) : (0 : Int32) < oN d ↔ 0 < d := by
 rw [show (0 : Int32) = oN 0 from rfl, own_natlt (by omega) (by omega)]
theorem own_past_eq {ls : List Int32} (h : ¬ own_past pre ls i < 0) : own_past pre ls i = oN (own_fs pre ls (pre.length - i) i + ls.length) ∧ own_fs pre ls (pre.length - i) i < pre.length := by
 unfold own_past at *
 split
 ·exact ⟨rfl, by assumption⟩
 ·rename_i q; rw [if_neg q] at h; exact absurd (by decide) h
theorem own_past_neg {ls : List Int32} {i : Nat} (hl : pre.length + ls.length < 2147483648) (h : own_past pre ls i < 0) : own_past pre ls i = -1 := by
 unfold own_past at *
 split
 ·rename_i q; rw [if_pos q] at h; exact absurd h (own_nz _ (by omega))
 ·rfl
theorem own_fs_sw {ls : List Int32} : ∀ (k i : Nat), own_fs pre ls k i < i + k → own_sw pre (own_fs pre ls k i) ls = true
 | 0, i, h => absurd h (by show ¬ i < i + 0; omega)
 | k + 1, i, h => by
  show own_sw pre (if own_sw pre i ls = true then i else own_fs pre ls k (i + 1)) ls = true
  by_cases e : own_sw pre i ls = true
  ·rw [if_pos e]; exact e
  ·rw [if_neg e]
   have h' : (if own_sw pre i ls = true then i else own_fs pre ls k (i + 1)) < i + (k + 1) := h
   rw [if_neg e] at h'
   exact own_fs_sw k (i + 1) (by omega)
theorem own_fs_ge {ls : List Int32} : ∀ (k i : Nat), i ≤ own_fs pre ls k i
 | 0, i => Nat.le_refl _
 | k + 1, i => by
  show i ≤ (if own_sw pre i ls = true then i else own_fs pre ls k (i + 1))
  split
  ·exact Nat.le_refl _
  ·exact nT (Nat.le_succ i) (own_fs_ge k (i + 1))
theorem own_sw_le {ls : List Int32} (h : own_sw pre i ls = true) : i + ls.length ≤ pre.length := by
 unfold own_sw at h; rw [Bool.and_eq_true, decide_eq_true_eq] at h; exact h.1
theorem own_past_le {ls : List Int32} (hi : i ≤ pre.length) (h : ¬ own_past pre ls i < 0) : own_fs pre ls (pre.length - i) i + ls.length ≤ pre.length ∧ i ≤ own_fs pre ls (pre.length - i) i := by
 have e := (own_past_eq h).2
 exact ⟨own_sw_le (own_fs_sw _ _ (by omega)), own_fs_ge _ _⟩
theorem own_predn (h : 0 < d) : oN d + (-1 : Int32) = oN (d - 1) := by
 have e := own_pred h
 rw [← e, Int32.sub_eq_add_neg]
end OwnPd
theorem own_6239 {x : Int32} (h : x = 62) : ¬ x = 39 ∧ ¬ x = 34 := by subst h; exact ⟨by decide, by decide⟩
theorem own_pd_k {pre : List Int32} {f i d kl : Nat} {r : Int32} (hp : own_pd pre (f + 1) i d = (r, kl)) (h : i < pre.length) (n0 : ¬ (pre.getD i 0 = 62 ∧ d = 0)) (n1 : ¬ pre.getD i 0 = 39) (n2 : ¬ pre.getD i 0 = 34) (hd : 0 < d) : 4 ≤ kl := by
 cases hs : own_sw pre i own_C1
 ·cases hq : own_sw pre i own_Q1
  ·obtain ⟨k', e, -⟩ := own_pd_s hp h n0 n1 n2 hd hs hq; omega
  ·have := (own_pd_q hp h n0 n1 n2 hd hs hq).1; omega
 ·exact (own_pd_c hp h n0 n1 n2 hd hs).1
def own_pm (pre : List Int32) (i : Nat) : Int32 × Nat :=
 if own_sw pre i own_C1 = true then (own_past pre own_C2 (i + 4), 4) else if own_sw pre i own_D1 = true then (own_past pre own_D2 (i + 9), 6) else ((own_pd pre (pre.length + 1 - (i + 2)) (i + 2) 0).1, (own_pd pre (pre.length + 1 - (i + 2)) (i + 2) 0).2 + 4)
section OwnPm
variable {pre : List Int32} {i k : Nat} {r : Int32}
theorem own_pm_c (hp : own_pm pre i = (r, k)) (h : own_sw pre i own_C1 = true) : own_past pre own_C2 (i + 4) = r ∧ k = 4 := by
 unfold own_pm at hp; rw [if_pos h] at hp; cases hp; exact ⟨rfl, rfl⟩
theorem own_pm_d (hp : own_pm pre i = (r, k)) (h : own_sw pre i own_C1 = false) (h2 : own_sw pre i own_D1 = true) : own_past pre own_D2 (i + 9) = r ∧ k = 6 := by
 unfold own_pm at hp; rw [h, if_neg (by decide), if_pos h2] at hp; cases hp; exact ⟨rfl, rfl⟩
theorem own_pm_p (hp : own_pm pre i = (r, k)) (h : own_sw pre i own_C1 = false) (h2 : own_sw pre i own_D1 = false) : ∃ k', k = k' + 4 ∧ own_pd pre (pre.length + 1 - (i + 2)) (i + 2) 0 = (r, k') := by
 unfold own_pm at hp; rw [h, if_neg (by decide), h2, if_neg (by decide)] at hp; cases hp; exact ⟨_, rfl, rfl⟩
theorem own_pm_4 (hp : own_pm pre i = (r, k)) : 4 ≤ k := by
 cases h : own_sw pre i own_C1
 ·cases h2 : own_sw pre i own_D1
  ·obtain ⟨k', e, -⟩ := own_pm_p hp h h2; omega
  ·have := (own_pm_d hp h h2).2; omega
 ·have := (own_pm_c hp h).2; omega
end OwnPm
def OwnTo (pre : List Int32) (i : Nat) (r : Int32) : Prop := ∃ p, r = oN p ∧ i < p ∧ p ≤ pre.length
theorem own_past_to {pre ls : List Int32} {i : Nat} (hl : 0 < ls.length) (hi : i ≤ pre.length) (h : ¬ own_past pre ls i < 0) : OwnTo pre i (own_past pre ls i) := by
 obtain ⟨a, b⟩ := own_past_le hi h
 exact ⟨_, (own_past_eq h).1, by omega, a⟩
theorem own_pd_to {pre : List Int32} : ∀ (f i d : Nat), i ≤ pre.length → ¬ (own_pd pre f i d).1 < 0 → OwnTo pre i (own_pd pre f i d).1
 | 0, i, d, _, h => absurd (show (-1 : Int32) < 0 by decide) h
 | f + 1, i, d, hi, h => by
  have up : ∀ {j e : Nat}, i < j → j ≤ pre.length → ¬ (own_pd pre f j e).1 < 0 → OwnTo pre i (own_pd pre f j e).1 := fun hj hl hh => by
   obtain ⟨p, a, b, c⟩ := own_pd_to f _ _ hl hh; exact ⟨p, a, by omega, c⟩
  unfold own_pd at h ⊢
  by_cases h1 : i < pre.length
  ·rw [if_pos h1] at h ⊢
   by_cases h2 : pre.getD i 0 = 62 ∧ d = 0
   ·rw [if_pos h2]; exact ⟨i + 1, rfl, by omega, h1⟩
   ·rw [if_neg h2] at h ⊢
    by_cases h3 : pre.getD i 0 = 39 ∨ pre.getD i 0 = 34
    ·rw [if_pos h3] at h ⊢
     by_cases h4 : own_ix pre (pre.getD i 0) (i + 1) < 0
     ·rw [if_pos h4] at h; exact absurd (by decide) h
     ·rw [if_neg h4] at h ⊢
      have g1 := own_ixl rfl h4
      have g2 := own_find_ge (fun x => decide (x = pre.getD i 0)) pre (i + 1)
      exact up (by omega) (by omega) h
    ·rw [if_neg h3] at h ⊢
     by_cases h5 : 0 < d
     ·rw [if_pos h5] at h ⊢
      by_cases h6 : own_sw pre i own_C1 = true
      ·rw [if_pos h6] at h ⊢
       by_cases h7 : own_past pre own_C2 (i + 4) < 0
       ·rw [if_pos h7] at h; exact absurd (by decide) h
       ·rw [if_neg h7] at h ⊢
        have g1 : i + 4 ≤ pre.length := own_sw_le h6
        have g2 : own_fs pre own_C2 (pre.length - (i + 4)) (i + 4) + 3 ≤ pre.length ∧ i + 4 ≤ own_fs pre own_C2 (pre.length - (i + 4)) (i + 4) := own_past_le g1 h7
        exact up (by omega) (by omega) h
      ·rw [if_neg h6] at h ⊢
       by_cases h8 : own_sw pre i own_Q1 = true
       ·rw [if_pos h8] at h ⊢
        by_cases h7 : own_past pre own_Q2 (i + 2) < 0
        ·rw [if_pos h7] at h; exact absurd (by decide) h
        ·rw [if_neg h7] at h ⊢
         have g1 : i + 2 ≤ pre.length := own_sw_le h8
         have g2 : own_fs pre own_Q2 (pre.length - (i + 2)) (i + 2) + 2 ≤ pre.length ∧ i + 2 ≤ own_fs pre own_Q2 (pre.length - (i + 2)) (i + 2) := own_past_le g1 h7
         exact up (by omega) (by omega) h
       ·rw [if_neg h8] at h ⊢; exact up (by omega) (by omega) h
     ·rw [if_neg h5] at h ⊢; exact up (by omega) (by omega) h
  ·rw [if_neg h1] at h; exact absurd (by decide) h
theorem own_pm_to {pre : List Int32} {i : Nat} (hi : i + 2 ≤ pre.length) (h : ¬ (own_pm pre i).1 < 0) : OwnTo pre i (own_pm pre i).1 := by
 have up : ∀ {j : Nat} {r : Int32}, i ≤ j → OwnTo pre j r → OwnTo pre i r := fun hj ⟨p, a, b, c⟩ => ⟨p, a, by omega, c⟩
 unfold own_pm at h ⊢
 by_cases h1 : own_sw pre i own_C1 = true
 ·rw [if_pos h1] at h ⊢; exact up (by omega) (own_past_to (by decide) (own_sw_le h1) h)
 ·rw [if_neg h1] at h ⊢
  by_cases h2 : own_sw pre i own_D1 = true
  ·rw [if_pos h2] at h ⊢; exact up (by omega) (own_past_to (by decide) (own_sw_le h2) h)
  ·rw [if_neg h2] at h ⊢; exact up (by omega) (own_pd_to _ _ _ hi h)
def own_nl (pre : List Int32) : Nat → Nat → Option Nat × Nat × Nat
 | 0, _ => (none, pre.length, 0)
 | f + 1, j =>
  if own_ix pre 60 j < 0 then (none, pre.length, 0)
  else if own_ba2 pre (own_find (fun x => decide (x = 60)) pre j) = 33 then
   (if (own_pm pre (own_find (fun x => decide (x = 60)) pre j)).1 < 0 then (none, own_find (fun x => decide (x = 60)) pre j, (own_pm pre (own_find (fun x => decide (x = 60)) pre j)).2)
   else ((own_nl pre f (own_pm pre (own_find (fun x => decide (x = 60)) pre j)).1.toNatClampNeg).1, (own_nl pre f (own_pm pre (own_find (fun x => decide (x = 60)) pre j)).1.toNatClampNeg).2.1, (own_nl pre f (own_pm pre (own_find (fun x => decide (x = 60)) pre j)).1.toNatClampNeg).2.2 + (own_pm pre (own_find (fun x => decide (x = 60)) pre j)).2))
  else (some (own_find (fun x => decide (x = 60)) pre j), pre.length, 0)
section OwnNl
variable {pre : List Int32} {f j i kl stp k2 p : Nat} {o : Option Nat} {r : Int32}
theorem own_nl_n (hp : own_nl pre (f + 1) j = (o, stp, kl)) (h : own_ix pre 60 j < 0) : o = none ∧ stp = pre.length := by
 unfold own_nl at hp; rw [if_pos h] at hp; cases hp; exact ⟨rfl, rfl⟩
theorem own_nl_t (hp : own_nl pre (f + 1) j = (o, stp, kl)) (h : ¬ own_ix pre 60 j < 0) (hi : own_find (fun x => decide (x = 60)) pre j = i) (h3 : ¬ own_ba2 pre i = 33) : o = some i := by
 subst hi; unfold own_nl at hp; rw [if_neg h, if_neg h3] at hp; cases hp; rfl
theorem own_nl_s (hp : own_nl pre (f + 1) j = (o, stp, kl)) (h : ¬ own_ix pre 60 j < 0) (hi : own_find (fun x => decide (x = 60)) pre j = i) (h3 : own_ba2 pre i = 33) (hm : own_pm pre i = (r, k2)) (hr : r < 0) : o = none ∧ stp = i ∧ kl = k2 := by
 subst hi; unfold own_nl at hp; rw [if_neg h, if_pos h3, hm, if_pos hr] at hp; cases hp; exact ⟨rfl, rfl, rfl⟩
theorem own_nl_y (hp : own_nl pre (f + 1) j = (o, stp, kl)) (h : ¬ own_ix pre 60 j < 0) (hi : own_find (fun x => decide (x = 60)) pre j = i) (h3 : own_ba2 pre i = 33) (hm : own_pm pre i = (r, k2)) (hr : ¬ r < 0) (hq : r.toNatClampNeg = p) : ∃ k', kl = k' + k2 ∧ own_nl pre f p = (o, stp, k') := by
 subst hi; unfold own_nl at hp; rw [if_neg h, if_pos h3, hm, if_neg hr] at hp; cases hp; subst hq; exact ⟨_, rfl, rfl⟩
theorem own_nl_k (hp : own_nl pre (f + 1) j = (o, stp, kl)) (h : ¬ own_ix pre 60 j < 0) (hi : own_find (fun x => decide (x = 60)) pre j = i) (h3 : own_ba2 pre i = 33) (hm : own_pm pre i = (r, k2)) : k2 ≤ kl := by
 by_cases hr : r < 0
 ·have := (own_nl_s hp h hi h3 hm hr).2.2; omega
 ·obtain ⟨k', e, -⟩ := own_nl_y hp h hi h3 hm hr rfl; omega
theorem own_ba33 (h : own_ba2 pre i = 33) : i + 2 ≤ pre.length := by
 unfold own_ba2 at h
 split at h
 ·omega
 ·exact absurd h (by decide)
theorem own_ba2n {b : Int32} (hb : ¬ b = 0) (h : own_ba2 pre i = b) : i + 2 ≤ pre.length := by
 unfold own_ba2 at h
 split at h
 ·omega
 ·exact absurd h.symm hb
end OwnNl
def own_at (pre : List Int32) (te : Int32) : Int32 := if te < 0 then oN pre.length else te
theorem own_at_n {pre : List Int32} : own_at pre (-1) = oN pre.length := if_pos (by decide)
theorem own_at_y {pre : List Int32} {j : Nat} (h31 : pre.length < 2147483648) (h : ¬ own_ix pre 62 j < 0) : own_at pre (own_ix pre 62 j + (1 : Int32)) = own_ix pre 62 j + (1 : Int32) := by
 refine if_neg ?_
 have e := own_ixn rfl rfl h
 have l := own_ixl rfl h
 rw [e, own_succ, Int32.lt_iff_toInt_lt]
 by_cases hb : own_find (fun x => decide (x = 62)) pre j + 1 < 2147483648
 ·rw [own_ofNat hb]
  have : (0 : Int32).toInt = 0 := by decide
  omega
 ·omega
def own_fi (p : Int32) : Int32 := if p.toInt8.toInt32 = 60 then 120 else p.toInt8.toInt32
theorem own_fi_t {p : Int32} (h : p.toInt8.toInt32 = 60) : own_fi p = 120 := if_pos h
theorem own_fi_f {p : Int32} (h : ¬ p.toInt8.toInt32 = 60) : own_fi p = nar .byte (p.toInt8.toInt32) := (if_neg h).trans (own_88 p).symm
def own_nby (p : Int32) : Int32 := if (p &&& (127 : Int32)) < 64 then ((128 : Int32) + (p &&& (127 : Int32))).toInt8.toInt32 else (p &&& (127 : Int32)).toInt8.toInt32
theorem own_nby_t {p : Int32} (h : (p &&& (127 : Int32)) < 64) : own_nby p = nar .byte (((128 : Int32) + (p &&& (127 : Int32))).toInt8.toInt32) := (if_pos h).trans (own_88 _).symm
theorem own_nby_f {p : Int32} (h : ¬ (p &&& (127 : Int32)) < 64) : own_nby p = nar .byte ((p &&& (127 : Int32)).toInt8.toInt32) := (if_neg h).trans (own_88 _).symm
def own_nch (p : Int32) : Int32 := if (p &&& (127 : Int32)) < 64 then 65533 else nar .char ((p &&& (127 : Int32)).toUInt32.toUInt16.toUInt32.toInt32)
def own_tb (p : Int32) : Int32 := if p = 0 then 32 else if p = 1 then 9 else if p = 2 then 10 else if p = 3 then 13 else if p = 4 then 61 else if p = 5 then 47 else 62
section OwnPut
variable {P0 ls : List Int32} {i : Nat} {Z : State} {h : Heap} {a : Addr} {k : ClassId} {n x : Int32}
theorem own_putl (hi : i ≤ ls.length) : (P0 ++ ls.take i).length = P0.length + i := by rw [List.length_append, List.length_take]; omega
theorem own_putj (hi : i < ls.length) : oN P0.length + oN i = oN (P0 ++ ls.take i).length := by rw [own_putl (Nat.le_of_lt hi), own_addn]
theorem own_putp (hi : i < ls.length) (F : Txt Z h a k n ((P0 ++ ls.take i) ++ [x])) (e : x = ls.getD i 0) : Txt Z h a k n (P0 ++ ls.take (i + 1)) := by
 have z : ls.take (i + 1) = ls.take i ++ [ls.getD i 0] := by
  rw [List.take_add_one, List.getElem?_eq_getElem hi, List.getD_eq_getElem?_getD, List.getElem?_eq_getElem hi]; rfl
 rw [z, ← e, ← List.append_assoc]; exact F
theorem own_putn (hi : ¬ i < ls.length) (F : Txt Z h a k n (P0 ++ ls.take i)) : Txt Z h a k n (P0 ++ ls.take (i + 1)) := by
 rw [List.take_of_length_le (by omega)] at F ⊢; exact F
end OwnPut
theorem own_eqT {Z : State} {h : Heap} {a : Addr} {k : ClassId} {A B : List Int32} (e : A = B) (F : Txt Z h a k (oN B.length) B) : Txt Z h a k (oN A.length) A := by rw [e]; exact F
def own_cp (pre : List Int32) : Nat → Nat → Nat
 | 0, i => i
 | k + 1, i => if pre.getD i 0 < 0 then i else own_cp pre k (i + 1)
section OwnCp
variable {pre : List Int32} {i oo n_ kk : Nat}
theorem own_cp_no (hk : i + (kk + 1) = oo + n_) (h : ¬ pre.getD i 0 < 0) : own_cp pre (oo + n_ - (i + 1)) (i + 1) = own_cp pre (oo + n_ - i) i := by
 rw [show oo + n_ - i = (oo + n_ - (i + 1)) + 1 by omega]; exact (if_neg h).symm
theorem own_cp_z (hk : i + 0 = oo + n_) (hf : own_cp pre (oo + n_ - i) i = own_cp pre n_ oo) : oN (own_cp pre n_ oo - oo) = oN n_ := by
 rw [← hf, show oo + n_ - i = 0 by omega]; show oN (i - oo) = _; rw [show i - oo = n_ by omega]
theorem own_cp_s (hk : i + (kk + 1) = oo + n_) (h : pre.getD i 0 < 0) (hf : own_cp pre (oo + n_ - i) i = own_cp pre n_ oo) : oN (own_cp pre n_ oo - oo) = oN (i - oo) := by
 have e : own_cp pre (oo + n_ - i) i = i := by rw [show oo + n_ - i = (oo + n_ - (i + 1)) + 1 by omega]; exact if_pos h
 rw [← hf, e]
theorem own_subn' (h : oo ≤ i) : oN i - oN oo = oN (i - oo) := by
 have := own_subn oo (i - oo)
 rw [show oo + (i - oo) = i by omega] at this; exact this
end OwnCp
def own_lo (c : Int32) : Int32 := c.toInt8.toInt32
def own_hi (c : Int32) : Int32 := (c >>> ((8 : Int32) &&& 31)).toInt8.toInt32
theorem own_lo_e (c : Int32) : ((c >>> ((0 : Int32) &&& 31)).toInt8.toInt32).toInt8.toInt32 = own_lo c := by rw [own_88, own_shr0]; rfl
theorem own_hi_e (c : Int32) : ((c >>> ((8 : Int32) &&& 31)).toInt8.toInt32).toInt8.toInt32 = own_hi c := by rw [own_88]; rfl
theorem own_shl1 (i : Nat) : oN i <<< ((1 : Int32) &&& 31) = oN (2 * i) := by
 have e : ((1 : Int32) &&& 31) = 1 := by decide
 rw [e]
 have : oN i <<< 1 = oN i + oN i := by
  apply Int32.toBitVec_inj.mp
  show (oN i).toBitVec <<< ((1 : Int32).toBitVec.smod 32) = _
  rw [show (1 : Int32).toBitVec.smod 32 = 1#32 by decide]
  rw [Int32.toBitVec_add]
  rw [BitVec.shiftLeft_eq']
  rw [show (1#32).toNat = 1 from rfl, BitVec.shiftLeft_eq_mul_twoPow]
  rw [show BitVec.twoPow 32 1 = 2#32 by decide, BitVec.mul_two]
 rw [this, own_addn, Nat.two_mul]
theorem own_tx {Z : State} {h : Heap} {a : Addr} {k : ClassId} {n : Int32} {pre : List Int32} {x y : Int32} (F : Txt Z h a k n (pre ++ [x])) (e : x = y) : Txt Z h a k n (pre ++ [y]) := e ▸ F
theorem own_newT {Z : State} {h : Heap} {a : Addr} {k : ClassId} {z : Int32} (A : Arr Z h a (newA k .byte z) .byte) (q : ¬ z < 0) : Txt Z h a k z [] := by
 refine ⟨List.replicate z.toNatClampNeg 0, ?_, by rw [List.length_replicate], rfl⟩
 rw [List.map_replicate]
 exact (Arv.new A q).pad (pad_rep [] (.int 0) z.toNatClampNeg)
theorem own_toT {Z : State} {h h' : Heap} {a b : Addr} {k kd : ClassId} {n : Int32} {pre : List Int32} {o d : Nat} (F : Txt Z h a k n pre) (hon : o + d ≤ pre.length) (G : Arv Z h' b kd .byte (oN d) (((pre.drop o).take d).map Value.int) (.int 0)) : Txt Z h' b kd (oN d) ((pre.drop o).take d) := by
 have h31 := own_p31 F
 have hl : ((pre.drop o).take d).length = d := by rw [List.length_take, List.length_drop]; omega
 exact ⟨_, G, by rw [own_clamp (by omega), hl], by rw [List.take_length]⟩
def own_enc (l : List Int32) : List Int32 := l.flatMap fun c => [own_lo c, own_hi c]
theorem own_enc_len : ∀ l : List Int32, (own_enc l).length = 2 * l.length
 | [] => rfl
 | c :: l => by
  show (own_lo c :: own_hi c :: own_enc l).length = _
  rw [List.length_cons, List.length_cons, own_enc_len l, List.length_cons]; omega
theorem own_enc_app (l : List Int32) (c : Int32) : own_enc (l ++ [c]) = own_enc l ++ [own_lo c] ++ [own_hi c] := by
 unfold own_enc; rw [List.flatMap_append]; simp
def own_dc (b : Int32) : Int32 := if b < 0 then 65533 else b
def OwnNb (l : List Int32) : Prop := ∀ x ∈ l, (¬ x < 0 ∧ x < 128) ∨ (x < 0 ∧ ¬ x < (-128 : Int32) ∧ x < (-64 : Int32))
theorem own_enc_s {cb : List Int32} {i : Nat} (hi : i < cb.length) {c : Int32} (e : c = own_dc (cb.getD i 0)) : own_enc ((cb.take i).map own_dc) ++ [own_lo c] ++ [own_hi c] = own_enc ((cb.take (i + 1)).map own_dc) := by
 rw [← own_enc_app, e, List.getD_eq_getElem?_getD, List.take_add_one, List.getElem?_eq_getElem hi, List.map_append]; rfl
theorem own_enc_l {cb : List Int32} {i : Nat} (hi : i ≤ cb.length) : (own_enc ((cb.take i).map own_dc)).length = 2 * i := by
 rw [own_enc_len, List.length_map, List.length_take]; omega
theorem own_nbg {l : List Int32} (h : OwnNb l) {i : Nat} (hi : i < l.length) : (¬ l.getD i 0 < 0 ∧ l.getD i 0 < 128) ∨ (l.getD i 0 < 0 ∧ ¬ l.getD i 0 < (-128 : Int32) ∧ l.getD i 0 < (-64 : Int32)) := by
 have e : l.getD i 0 = l[i] := by rw [List.getD_eq_getElem?_getD, List.getElem?_eq_getElem hi]; rfl
 rw [e]; exact h _ (List.getElem_mem hi)
theorem own_neg64 : ∀ i : Fin 64, ¬ (Int32.ofInt ((i.1 : Int) - 128) >>> ((5 : Int32) &&& 31) = (-2 : Int32)) ∧ ¬ (Int32.ofInt ((i.1 : Int) - 128) >>> ((4 : Int32) &&& 31) = (-2 : Int32)) ∧ ¬ (Int32.ofInt ((i.1 : Int) - 128) >>> ((3 : Int32) &&& 31) = (-2 : Int32)) ∧ ¬ (Int32.ofInt ((i.1 : Int) - 128) &&& (254 : Int32) = 194) := by decide +kernel
theorem own_negb {b : Int32} (h0 : ¬ b < (-128 : Int32)) (h1 : b < (-64 : Int32)) : ¬ (b >>> ((5 : Int32) &&& 31) = (-2 : Int32)) ∧ ¬ (b >>> ((4 : Int32) &&& 31) = (-2 : Int32)) ∧ ¬ (b >>> ((3 : Int32) &&& 31) = (-2 : Int32)) ∧ ¬ (b &&& (254 : Int32) = 194) := by
 rw [Int32.lt_iff_toInt_lt] at h0 h1
 have e0 : (-128 : Int32).toInt = -128 := by decide
 have e1 : (-64 : Int32).toInt = -64 := by decide
 have e : b = Int32.ofInt (((b.toInt + 128).toNat : Int) - 128) := by rw [show (((b.toInt + 128).toNat : Int) - 128) = b.toInt by omega, Int32.ofInt_toInt]
 have := own_neg64 ⟨(b.toInt + 128).toNat, by omega⟩
 rw [← e] at this; exact this
theorem own_shr1 {n : Nat} (h : n < 1000) : oN (2 * n) >>> ((1 : Int32) &&& 31) = oN n := by
 have all : ∀ i : Fin 1000, oN (2 * i.1) >>> ((1 : Int32) &&& 31) = oN i.1 := by decide +kernel
 exact all ⟨n, h⟩
theorem own_and255 {b : Int32} (h0 : ¬ b < 0) (h1 : b < 128) : b &&& (255 : Int32) = b ∧ b.toUInt32.toUInt16.toUInt32.toInt32 = b := by
 rw [Int32.lt_iff_toInt_lt] at h0 h1
 have e0 : (0 : Int32).toInt = 0 := by decide
 have e1 : (128 : Int32).toInt = 128 := by decide
 have e : b = oN b.toInt.toNat := Int32.toInt_inj.mp (by rw [own_ofNat (by omega)]; omega)
 have all : ∀ i : Fin 128, (oN i.1) &&& (255 : Int32) = oN i.1 ∧ (oN i.1).toUInt32.toUInt16.toUInt32.toInt32 = oN i.1 := by decide +kernel
 have := all ⟨b.toInt.toNat, by omega⟩
 rw [← e] at this; exact this
theorem own_dcp {b : Int32} (h : ¬ b < 0) : own_dc b = b := if_neg h
theorem own_dcn {b : Int32} (h : b < 0) : own_dc b = 65533 := if_pos h
theorem own_orz {n d : Nat} (hn : n ≤ 4) (hd : d ≤ n) : ¬ ((oN n ||| (0 : Int32)) ||| oN d) < 0 ∧ ¬ (oN n - (0 : Int32)) < oN d := by
 have all : ∀ i : Fin 5, ∀ j : Fin 5, j.1 ≤ i.1 → ¬ ((oN i.1 ||| (0 : Int32)) ||| oN j.1) < 0 ∧ ¬ (oN i.1 - (0 : Int32)) < oN j.1 := by decide +kernel
 exact all ⟨n, by omega⟩ ⟨d, by omega⟩ hd
section OwnNb2
variable {pre : List Int32} {oo n_ dp : Nat}
theorem own_cp_spec : ∀ (k i : Nat), i ≤ own_cp pre k i ∧ own_cp pre k i ≤ i + k ∧ (∀ j, i ≤ j → j < own_cp pre k i → ¬ pre.getD j 0 < 0) ∧ (own_cp pre k i < i + k → pre.getD (own_cp pre k i) 0 < 0)
 | 0, i => ⟨Nat.le_refl _, Nat.le_refl _, fun j h1 h2 => absurd h2 (by show ¬ j < i; omega), fun h => absurd h (by show ¬ i < i + 0; omega)⟩
 | k + 1, i => by
  have e : own_cp pre (k + 1) i = if pre.getD i 0 < 0 then i else own_cp pre k (i + 1) := rfl
  by_cases h : pre.getD i 0 < 0
  ·rw [e, if_pos h]; exact ⟨Nat.le_refl _, by omega, fun j h1 h2 => by omega, fun _ => h⟩
  ·rw [e, if_neg h]
   obtain ⟨a, b, c, d⟩ := own_cp_spec k (i + 1)
   refine ⟨by omega, by omega, fun j h1 h2 => ?_, fun q => d (by omega)⟩
   rcases Nat.eq_or_lt_of_le h1 with rfl | h1
   ·exact h
   ·exact c j h1 h2
theorem own_nbl (hon : oo + n_ ≤ pre.length) : ((pre.drop oo).take n_).length = n_ := by rw [List.length_take, List.length_drop]; omega
theorem own_nbget {j : Nat} (hj : j < n_) : ((pre.drop oo).take n_).getD j 0 = pre.getD (oo + j) 0 := by
 simp only [List.getD_eq_getElem?_getD, List.getElem?_take_of_lt hj, List.getElem?_drop]
theorem own_dpl (hdp : own_cp pre n_ oo - oo = dp) : dp ≤ n_ := by have := (own_cp_spec (pre := pre) n_ oo).2.1; omega
theorem own_dpp (hdp : own_cp pre n_ oo - oo = dp) {j : Nat} (hj : j < dp) : ¬ ((pre.drop oo).take n_).getD j 0 < 0 := by
 have hl := own_dpl hdp
 obtain ⟨a, b, c, -⟩ := own_cp_spec (pre := pre) n_ oo
 rw [own_nbget (by omega)]; exact c (oo + j) (by omega) (by omega)
theorem own_dpn (hdp : own_cp pre n_ oo - oo = dp) (h : dp < n_) : ((pre.drop oo).take n_).getD dp 0 < 0 := by
 obtain ⟨a, b, -, d⟩ := own_cp_spec (pre := pre) n_ oo
 rw [own_nbget h, show oo + dp = own_cp pre n_ oo by omega]; exact d (by omega)
theorem own_oinj {a b : Nat} (ha : a ≤ 4) (hb : b ≤ 4) (h : oN a = oN b) : a = b := by
 have := congrArg Int32.toInt h
 rw [own_ofNat (by omega), own_ofNat (by omega)] at this; omega
theorem own_pm1 (d : Nat) : oN d + (1 : Int32) + (-1 : Int32) = oN d := by rw [Int32.add_assoc, show (1 : Int32) + (-1 : Int32) = 0 by decide, Int32.add_zero]
theorem own_n0 (hn : 1 ≤ n_) (h4 : n_ ≤ 4) : ¬ oN n_ = 0 := fun q => by
 have := own_oinj h4 (by omega) (q.trans (show (0 : Int32) = oN 0 from rfl)); omega
end OwnNb2
section OwnSnm
variable {Z : State} {h h' : Heap} {a b : Addr} {nb : List Int32}
def Snm (Z : State) (h : Heap) (a : Addr) (nb : List Int32) : Prop := Exa Z h a cB ∧ ∃ (t : Addr) (kb : ClassId), Fld Z h a cB "value" "[B" (.ref t) ∧ ((Fld Z h a cB "coder" "B" (.int 0) ∧ Txt Z h t kb (oN nb.length) nb ∧ ∀ j, j < nb.length → ¬ nb.getD j 0 < 0) ∨ (Fld Z h a cB "coder" "B" (.int 1) ∧ Txt Z h t kb (oN (2 * nb.length)) (own_enc (nb.map own_dc))))
theorem Txt.neExa {k : ClassId} {n : Int32} {pre : List Int32} {m : Nat} {C : String} {a0 : Array Value} (F : Txt Z h b k n pre) (E : Exa Z h a C) (w : (Cond.instantiable C m).before a0 Z = true) : b ≠ a := by
 obtain ⟨bs, A, -⟩ := F; exact Ne.symm (Exa.neArv E A w)
theorem Snm.keep1 {m : Nat} {C : String} {a0 : Array Value} (F : Snm Z h a nb) (K : Keep h h' [b]) (E : Exa Z h b C) (w : (Cond.instantiable C m).before a0 Z = true) (hC : cB ≠ C) : Snm Z h' a nb := by
 obtain ⟨e, t, kb, fv, r⟩ := F
 have q : a ∉ [b] := fun z => Exa.ne e E hC (List.mem_singleton.mp z)
 refine ⟨e.keep K, t, kb, fv.keep K q, ?_⟩
 rcases r with ⟨c, x, y⟩ | ⟨c, x⟩
 ·exact Or.inl ⟨c.keep K q, x.keep K (fun z => x.neExa E w (List.mem_singleton.mp z)), y⟩
 ·exact Or.inr ⟨c.keep K q, x.keep K (fun z => x.neExa E w (List.mem_singleton.mp z))⟩
theorem Snm.ext (F : Snm Z h a nb) (K : Ext h h') : Snm Z h' a nb := by
 obtain ⟨e, t, kb, fv, r⟩ := F
 refine ⟨e.ext K, t, kb, fv.ext K, ?_⟩
 rcases r with ⟨c, x, y⟩ | ⟨c, x⟩
 ·exact Or.inl ⟨c.ext K, x.ext K, y⟩
 ·exact Or.inr ⟨c.ext K, x.ext K⟩
theorem Snm.lt (F : Snm Z h a nb) : a < h.size := F.1.lt
end OwnSnm
theorem own_snm {Z : State} {h : Heap} {a : Addr} {nb : List Int32} {n : Nat} (hn : nb.length = n) (E : Exa Z h a cB) (F : ∃ (t : Addr) (kb : ClassId), Fld Z h a cB "value" "[B" (.ref t) ∧ ((Fld Z h a cB "coder" "B" (.int 0) ∧ Txt Z h t kb (oN n) nb ∧ ∀ j, j < n → ¬ nb.getD j 0 < 0) ∨ (Fld Z h a cB "coder" "B" (.int 1) ∧ Txt Z h t kb (oN (2 * n)) (own_enc (nb.map own_dc))))) : Snm Z h a nb := by
 subst hn; exact ⟨E, F⟩
theorem own_enc_get : ∀ (l : List Int32) (i : Nat), i < l.length → (own_enc l).getD (2 * i) 0 = own_lo (l.getD i 0) ∧ (own_enc l).getD (2 * i + 1) 0 = own_hi (l.getD i 0)
 | [], i, h => absurd h (Nat.not_lt_zero i)
 | c :: l, 0, _ => ⟨rfl, rfl⟩
 | c :: l, i + 1, h => by
  have q := own_enc_get l i (by simp only [List.length_cons] at h; omega)
  have e : own_enc (c :: l) = own_lo c :: own_hi c :: own_enc l := rfl
  rw [e, show 2 * (i + 1) = 2 * i + 1 + 1 by omega]
  exact q
def OwnCh (l : List Int32) : Prop := ∀ x ∈ l, (¬ x < 0 ∧ x < 128) ∨ x = 65533
theorem own_16a : ∀ i : Fin 128, ((((own_lo (oN i.1)) &&& (255 : Int32)) <<< ((0 : Int32) &&& 31)) ||| (((own_hi (oN i.1)) &&& (255 : Int32)) <<< ((8 : Int32) &&& 31))).toUInt32.toUInt16.toUInt32.toInt32 = oN i.1 ∧ nar .char (oN i.1) = oN i.1 := by decide +kernel
theorem own_16 {c : Int32} (h : (¬ c < 0 ∧ c < 128) ∨ c = 65533) : ((((own_lo c) &&& (255 : Int32)) <<< ((0 : Int32) &&& 31)) ||| (((own_hi c) &&& (255 : Int32)) <<< ((8 : Int32) &&& 31))).toUInt32.toUInt16.toUInt32.toInt32 = c ∧ nar .char c = c := by
 rcases h with ⟨h0, h1⟩ | rfl
 ·rw [Int32.lt_iff_toInt_lt] at h0 h1
  have e0 : (0 : Int32).toInt = 0 := by decide
  have e1 : (128 : Int32).toInt = 128 := by decide
  have e : c = oN c.toInt.toNat := Int32.toInt_inj.mp (by rw [own_ofNat (by omega)]; omega)
  have := own_16a ⟨c.toInt.toNat, by omega⟩
  rw [← e] at this; exact this
 ·exact ⟨by decide, by decide⟩
theorem own_chg {l : List Int32} (h : OwnCh l) {i : Nat} (hi : i < l.length) : (¬ l.getD i 0 < 0 ∧ l.getD i 0 < 128) ∨ l.getD i 0 = 65533 := by
 have e : l.getD i 0 = l[i] := by rw [List.getD_eq_getElem?_getD, List.getElem?_eq_getElem hi]; rfl
 rw [e]; exact h _ (List.getElem_mem hi)
theorem own_dcch {nb : List Int32} (h : OwnNb nb) : OwnCh (nb.map own_dc) := fun x m => by
 obtain ⟨b, hb, rfl⟩ := List.mem_map.mp m
 by_cases z : b < 0
 ·exact Or.inr (own_dcn z)
 ·rw [own_dcp z]; exact Or.inl ((h b hb).resolve_right fun q => z q.1)
def own_ci (l : List Int32) (i : Nat) (c : Int32) : Bool := decide (l.length ≤ i) || decide (l.getD i 0 = c)
theorem own_ci_l {l : List Int32} {i : Nat} {c : Int32} (h : ¬ i < l.length) : own_ci l i c = true := by unfold own_ci; rw [decide_eq_true (by omega)]; rfl
theorem own_ci_y {l : List Int32} {i : Nat} {c : Int32} (h : l.getD i 0 = c) : own_ci l i c = true := by unfold own_ci; rw [decide_eq_true h, Bool.or_true]
theorem own_ci_n {l : List Int32} {i : Nat} {c : Int32} (hi : i < l.length) (h : ¬ l.getD i 0 = c) : own_ci l i c = false := by unfold own_ci; rw [decide_eq_false (by omega), decide_eq_false h]; rfl
theorem own_ci_map {nb : List Int32} {i : Nat} {c : Int32} (h : ∀ j, j < nb.length → ¬ nb.getD j 0 < 0) : own_ci nb i c = own_ci (nb.map own_dc) i c := by
 have e : nb.map own_dc = nb := by
  refine List.ext_getElem (by rw [List.length_map]) fun k h1 h2 => ?_
  rw [List.getElem_map]
  have := h k h2
  rw [List.getD_eq_getElem?_getD, List.getElem?_eq_getElem h2] at this
  exact own_dcp this
 rw [e]
def OwnJk (x : Slot) : Prop := x = .unset ∨ ∃ a : Int32, x = .val (.int a)
theorem own_st {l l' : Array Slot} {i : Nat} {x : Slot} {v : Value} (h : OwnJk x) (hx : l[i]? = some x) (hv : v.category = 1) (e : l.setIfInBounds i (.val v) = l') : storeLocals l i v = some l' := by
 rw [← e]
 refine storeLocals_cat1 hx hv ?_
 rcases h with rfl | ⟨a, rfl⟩
 ·trivial
 ·rfl
section
variable {Z : State} {a0 : Array Value} {h h' : Heap} {a b : Addr} {v0 v1 v2 v3 v4 v5 v6 v7 v8 v9 v10 w : Value}
def Mk (Z : State) (h : Heap) (a : Addr) (v0 v1 v2 v3 v4 v5 v6 v7 v8 v9 v10 : Value) : Prop := Fld Z h a cA "text" "[B" v0 ∧ Fld Z h a cA "at" "I" v1 ∧ Fld Z h a cA "end" "I" v2 ∧ Fld Z h a cA "kind" cF v3 ∧ Fld Z h a cA "tagStart" "I" v4 ∧ Fld Z h a cA "tagEnd" "I" v5 ∧ Fld Z h a cA "emptyElement" "Z" v6 ∧ Fld Z h a cA "nameStart" "I" v7 ∧ Fld Z h a cA "nameEnd" "I" v8 ∧ Fld Z h a cA "nameHash" "I" v9 ∧ Fld Z h a cA "attributesLeft" "Z" v10
theorem Mk.g_text (M : Mk Z h a v0 v1 v2 v3 v4 v5 v6 v7 v8 v9 v10) : Fld Z h a cA "text" "[B" v0 := M.1
theorem Mk.g_at (M : Mk Z h a v0 v1 v2 v3 v4 v5 v6 v7 v8 v9 v10) : Fld Z h a cA "at" "I" v1 := M.2.1
theorem Mk.g_end (M : Mk Z h a v0 v1 v2 v3 v4 v5 v6 v7 v8 v9 v10) : Fld Z h a cA "end" "I" v2 := M.2.2.1
theorem Mk.g_kind (M : Mk Z h a v0 v1 v2 v3 v4 v5 v6 v7 v8 v9 v10) : Fld Z h a cA "kind" cF v3 := M.2.2.2.1
theorem Mk.g_tagStart (M : Mk Z h a v0 v1 v2 v3 v4 v5 v6 v7 v8 v9 v10) : Fld Z h a cA "tagStart" "I" v4 := M.2.2.2.2.1
theorem Mk.g_tagEnd (M : Mk Z h a v0 v1 v2 v3 v4 v5 v6 v7 v8 v9 v10) : Fld Z h a cA "tagEnd" "I" v5 := M.2.2.2.2.2.1
theorem Mk.g_emptyElement (M : Mk Z h a v0 v1 v2 v3 v4 v5 v6 v7 v8 v9 v10) : Fld Z h a cA "emptyElement" "Z" v6 := M.2.2.2.2.2.2.1
theorem Mk.g_nameStart (M : Mk Z h a v0 v1 v2 v3 v4 v5 v6 v7 v8 v9 v10) : Fld Z h a cA "nameStart" "I" v7 := M.2.2.2.2.2.2.2.1
theorem Mk.g_nameEnd (M : Mk Z h a v0 v1 v2 v3 v4 v5 v6 v7 v8 v9 v10) : Fld Z h a cA "nameEnd" "I" v8 := M.2.2.2.2.2.2.2.2.1
theorem Mk.g_nameHash (M : Mk Z h a v0 v1 v2 v3 v4 v5 v6 v7 v8 v9 v10) : Fld Z h a cA "nameHash" "I" v9 := M.2.2.2.2.2.2.2.2.2.1
theorem Mk.g_attributesLeft (M : Mk Z h a v0 v1 v2 v3 v4 v5 v6 v7 v8 v9 v10) : Fld Z h a cA "attributesLeft" "Z" v10 := M.2.2.2.2.2.2.2.2.2.2
theorem Mk.lt (M : Mk Z h a v0 v1 v2 v3 v4 v5 v6 v7 v8 v9 v10) : a < h.size := M.1.lt
theorem Mk.ext (M : Mk Z h a v0 v1 v2 v3 v4 v5 v6 v7 v8 v9 v10) (E : Ext h h') : Mk Z h' a v0 v1 v2 v3 v4 v5 v6 v7 v8 v9 v10 := ⟨(M.1).ext E, (M.2.1).ext E, (M.2.2.1).ext E, (M.2.2.2.1).ext E, (M.2.2.2.2.1).ext E, (M.2.2.2.2.2.1).ext E, (M.2.2.2.2.2.2.1).ext E, (M.2.2.2.2.2.2.2.1).ext E, (M.2.2.2.2.2.2.2.2.1).ext E, (M.2.2.2.2.2.2.2.2.2.1).ext E, (M.2.2.2.2.2.2.2.2.2.2).ext E⟩
theorem Mk.other {sl : Nat} (M : Mk Z h a v0 v1 v2 v3 v4 v5 v6 v7 v8 v9 v10) (W : Wr h h' b sl w) (q : a ≠ b) : Mk Z h' a v0 v1 v2 v3 v4 v5 v6 v7 v8 v9 v10 := ⟨(M.1).other W (Or.inl q), (M.2.1).other W (Or.inl q), (M.2.2.1).other W (Or.inl q), (M.2.2.2.1).other W (Or.inl q), (M.2.2.2.2.1).other W (Or.inl q), (M.2.2.2.2.2.1).other W (Or.inl q), (M.2.2.2.2.2.2.1).other W (Or.inl q), (M.2.2.2.2.2.2.2.1).other W (Or.inl q), (M.2.2.2.2.2.2.2.2.1).other W (Or.inl q), (M.2.2.2.2.2.2.2.2.2.1).other W (Or.inl q), (M.2.2.2.2.2.2.2.2.2.2).other W (Or.inl q)⟩
theorem Mk.keep {ws : List Addr} (M : Mk Z h a v0 v1 v2 v3 v4 v5 v6 v7 v8 v9 v10) (K : Keep h h' ws) (q : a ∉ ws) : Mk Z h' a v0 v1 v2 v3 v4 v5 v6 v7 v8 v9 v10 := ⟨(M.1).keep K q, (M.2.1).keep K q, (M.2.2.1).keep K q, (M.2.2.2.1).keep K q, (M.2.2.2.2.1).keep K q, (M.2.2.2.2.2.1).keep K q, (M.2.2.2.2.2.2.1).keep K q, (M.2.2.2.2.2.2.2.1).keep K q, (M.2.2.2.2.2.2.2.2.1).keep K q, (M.2.2.2.2.2.2.2.2.2.1).keep K q, (M.2.2.2.2.2.2.2.2.2.2).keep K q⟩
theorem ly_Mk_0 (hw : ∀ d ∈ tables_1, d.before a0 Z = true) : Laid Z a0 cA cA "text" "[B" := (Or.inr (wt hw 44 rfl))
theorem ly_Mk_1 (hw : ∀ d ∈ tables_1, d.before a0 Z = true) : Laid Z a0 cA cA "at" "I" := (Or.inl (wt hw 46 rfl))
theorem ly_Mk_2 (hw : ∀ d ∈ tables_1, d.before a0 Z = true) : Laid Z a0 cA cA "end" "I" := (Or.inr (wt hw 48 rfl))
theorem ly_Mk_3 (hw : ∀ d ∈ tables_1, d.before a0 Z = true) : Laid Z a0 cA cA "kind" cF := (Or.inl (wt hw 70 rfl))
theorem ly_Mk_4 (hw : ∀ d ∈ tables_1, d.before a0 Z = true) : Laid Z a0 cA cA "tagStart" "I" := (Or.inl (wt hw 63 rfl))
theorem ly_Mk_5 (hw : ∀ d ∈ tables_1, d.before a0 Z = true) : Laid Z a0 cA cA "tagEnd" "I" := (Or.inl (wt hw 86 rfl))
theorem ly_Mk_6 (hw : ∀ d ∈ tables_1, d.before a0 Z = true) : Laid Z a0 cA cA "emptyElement" "Z" := (Or.inl (wt hw 65 rfl))
theorem ly_Mk_7 (hw : ∀ d ∈ tables_1, d.before a0 Z = true) : Laid Z a0 cA cA "nameStart" "I" := (Or.inl (wt hw 80 rfl))
theorem ly_Mk_8 (hw : ∀ d ∈ tables_1, d.before a0 Z = true) : Laid Z a0 cA cA "nameEnd" "I" := (Or.inl (wt hw 82 rfl))
theorem ly_Mk_9 (hw : ∀ d ∈ tables_1, d.before a0 Z = true) : Laid Z a0 cA cA "nameHash" "I" := (Or.inl (wt hw 84 rfl))
theorem ly_Mk_10 (hw : ∀ d ∈ tables_1, d.before a0 Z = true) : Laid Z a0 cA cA "attributesLeft" "Z" := (Or.inl (wt hw 90 rfl))
theorem Mk.ne {f d f2 d2 : String} {t t2 : FieldType} {b : Addr} {x : Value} (F : Fld Z h b cA f d x) (W : Wr h h' a (Jvm.RoadKit.slotOf Z cA f2 d2) w) (L : Laid Z a0 cA cA f d ∧ parseFieldDescriptor d = some t) (L2 : Laid Z a0 cA cA f2 d2 ∧ parseFieldDescriptor d2 = some t2) (hn : f ≠ f2) : Fld Z h' b cA f d x := F.other W (Or.inr (slot_ne L.1 L2.1 hn L.2 L2.2))
theorem Mk.l0 (hw : ∀ d ∈ tables_1, d.before a0 Z = true) : Laid Z a0 cA cA "text" "[B" ∧ parseFieldDescriptor "[B" = some (.array .byte) := ⟨ly_Mk_0 hw, by decide⟩
theorem Mk.l1 (hw : ∀ d ∈ tables_1, d.before a0 Z = true) : Laid Z a0 cA cA "at" "I" ∧ parseFieldDescriptor "I" = some .int := ⟨ly_Mk_1 hw, by decide⟩
theorem Mk.l2 (hw : ∀ d ∈ tables_1, d.before a0 Z = true) : Laid Z a0 cA cA "end" "I" ∧ parseFieldDescriptor "I" = some .int := ⟨ly_Mk_2 hw, by decide⟩
theorem Mk.l3 (hw : ∀ d ∈ tables_1, d.before a0 Z = true) : Laid Z a0 cA cA "kind" cF ∧ parseFieldDescriptor cF = some (.object cH) := ⟨ly_Mk_3 hw, by decide⟩
theorem Mk.l4 (hw : ∀ d ∈ tables_1, d.before a0 Z = true) : Laid Z a0 cA cA "tagStart" "I" ∧ parseFieldDescriptor "I" = some .int := ⟨ly_Mk_4 hw, by decide⟩
theorem Mk.l5 (hw : ∀ d ∈ tables_1, d.before a0 Z = true) : Laid Z a0 cA cA "tagEnd" "I" ∧ parseFieldDescriptor "I" = some .int := ⟨ly_Mk_5 hw, by decide⟩
theorem Mk.l6 (hw : ∀ d ∈ tables_1, d.before a0 Z = true) : Laid Z a0 cA cA "emptyElement" "Z" ∧ parseFieldDescriptor "Z" = some .boolean := ⟨ly_Mk_6 hw, by decide⟩
theorem Mk.l7 (hw : ∀ d ∈ tables_1, d.before a0 Z = true) : Laid Z a0 cA cA "nameStart" "I" ∧ parseFieldDescriptor "I" = some .int := ⟨ly_Mk_7 hw, by decide⟩
theorem Mk.l8 (hw : ∀ d ∈ tables_1, d.before a0 Z = true) : Laid Z a0 cA cA "nameEnd" "I" ∧ parseFieldDescriptor "I" = some .int := ⟨ly_Mk_8 hw, by decide⟩
theorem Mk.l9 (hw : ∀ d ∈ tables_1, d.before a0 Z = true) : Laid Z a0 cA cA "nameHash" "I" ∧ parseFieldDescriptor "I" = some .int := ⟨ly_Mk_9 hw, by decide⟩
theorem Mk.l10 (hw : ∀ d ∈ tables_1, d.before a0 Z = true) : Laid Z a0 cA cA "attributesLeft" "Z" ∧ parseFieldDescriptor "Z" = some .boolean := ⟨ly_Mk_10 hw, by decide⟩
theorem Mk.put_text (hw : ∀ d ∈ tables_1, d.before a0 Z = true) (M : Mk Z h a v0 v1 v2 v3 v4 v5 v6 v7 v8 v9 v10) (W : Wr h h' a (Jvm.RoadKit.slotOf Z cA "text" "[B") w) : Mk Z h' a w v1 v2 v3 v4 v5 v6 v7 v8 v9 v10 := ⟨(M.1).same W, Mk.ne (M.2.1) W (Mk.l1 hw) (Mk.l0 hw) (by decide), Mk.ne (M.2.2.1) W (Mk.l2 hw) (Mk.l0 hw) (by decide), Mk.ne (M.2.2.2.1) W (Mk.l3 hw) (Mk.l0 hw) (by decide), Mk.ne (M.2.2.2.2.1) W (Mk.l4 hw) (Mk.l0 hw) (by decide), Mk.ne (M.2.2.2.2.2.1) W (Mk.l5 hw) (Mk.l0 hw) (by decide), Mk.ne (M.2.2.2.2.2.2.1) W (Mk.l6 hw) (Mk.l0 hw) (by decide), Mk.ne (M.2.2.2.2.2.2.2.1) W (Mk.l7 hw) (Mk.l0 hw) (by decide), Mk.ne (M.2.2.2.2.2.2.2.2.1) W (Mk.l8 hw) (Mk.l0 hw) (by decide), Mk.ne (M.2.2.2.2.2.2.2.2.2.1) W (Mk.l9 hw) (Mk.l0 hw) (by decide), Mk.ne (M.2.2.2.2.2.2.2.2.2.2) W (Mk.l10 hw) (Mk.l0 hw) (by decide)⟩
theorem Mk.put_at (hw : ∀ d ∈ tables_1, d.before a0 Z = true) (M : Mk Z h a v0 v1 v2 v3 v4 v5 v6 v7 v8 v9 v10) (W : Wr h h' a (Jvm.RoadKit.slotOf Z cA "at" "I") w) : Mk Z h' a v0 w v2 v3 v4 v5 v6 v7 v8 v9 v10 := ⟨Mk.ne (M.1) W (Mk.l0 hw) (Mk.l1 hw) (by decide), (M.2.1).same W, Mk.ne (M.2.2.1) W (Mk.l2 hw) (Mk.l1 hw) (by decide), Mk.ne (M.2.2.2.1) W (Mk.l3 hw) (Mk.l1 hw) (by decide), Mk.ne (M.2.2.2.2.1) W (Mk.l4 hw) (Mk.l1 hw) (by decide), Mk.ne (M.2.2.2.2.2.1) W (Mk.l5 hw) (Mk.l1 hw) (by decide), Mk.ne (M.2.2.2.2.2.2.1) W (Mk.l6 hw) (Mk.l1 hw) (by decide), Mk.ne (M.2.2.2.2.2.2.2.1) W (Mk.l7 hw) (Mk.l1 hw) (by decide), Mk.ne (M.2.2.2.2.2.2.2.2.1) W (Mk.l8 hw) (Mk.l1 hw) (by decide), Mk.ne (M.2.2.2.2.2.2.2.2.2.1) W (Mk.l9 hw) (Mk.l1 hw) (by decide), Mk.ne (M.2.2.2.2.2.2.2.2.2.2) W (Mk.l10 hw) (Mk.l1 hw) (by decide)⟩
theorem Mk.put_end (hw : ∀ d ∈ tables_1, d.before a0 Z = true) (M : Mk Z h a v0 v1 v2 v3 v4 v5 v6 v7 v8 v9 v10) (W : Wr h h' a (Jvm.RoadKit.slotOf Z cA "end" "I") w) : Mk Z h' a v0 v1 w v3 v4 v5 v6 v7 v8 v9 v10 := ⟨Mk.ne (M.1) W (Mk.l0 hw) (Mk.l2 hw) (by decide), Mk.ne (M.2.1) W (Mk.l1 hw) (Mk.l2 hw) (by decide), (M.2.2.1).same W, Mk.ne (M.2.2.2.1) W (Mk.l3 hw) (Mk.l2 hw) (by decide), Mk.ne (M.2.2.2.2.1) W (Mk.l4 hw) (Mk.l2 hw) (by decide), Mk.ne (M.2.2.2.2.2.1) W (Mk.l5 hw) (Mk.l2 hw) (by decide), Mk.ne (M.2.2.2.2.2.2.1) W (Mk.l6 hw) (Mk.l2 hw) (by decide), Mk.ne (M.2.2.2.2.2.2.2.1) W (Mk.l7 hw) (Mk.l2 hw) (by decide), Mk.ne (M.2.2.2.2.2.2.2.2.1) W (Mk.l8 hw) (Mk.l2 hw) (by decide), Mk.ne (M.2.2.2.2.2.2.2.2.2.1) W (Mk.l9 hw) (Mk.l2 hw) (by decide), Mk.ne (M.2.2.2.2.2.2.2.2.2.2) W (Mk.l10 hw) (Mk.l2 hw) (by decide)⟩
theorem Mk.put_kind (hw : ∀ d ∈ tables_1, d.before a0 Z = true) (M : Mk Z h a v0 v1 v2 v3 v4 v5 v6 v7 v8 v9 v10) (W : Wr h h' a (Jvm.RoadKit.slotOf Z cA "kind" cF) w) : Mk Z h' a v0 v1 v2 w v4 v5 v6 v7 v8 v9 v10 := ⟨Mk.ne (M.1) W (Mk.l0 hw) (Mk.l3 hw) (by decide), Mk.ne (M.2.1) W (Mk.l1 hw) (Mk.l3 hw) (by decide), Mk.ne (M.2.2.1) W (Mk.l2 hw) (Mk.l3 hw) (by decide), (M.2.2.2.1).same W, Mk.ne (M.2.2.2.2.1) W (Mk.l4 hw) (Mk.l3 hw) (by decide), Mk.ne (M.2.2.2.2.2.1) W (Mk.l5 hw) (Mk.l3 hw) (by decide), Mk.ne (M.2.2.2.2.2.2.1) W (Mk.l6 hw) (Mk.l3 hw) (by decide), Mk.ne (M.2.2.2.2.2.2.2.1) W (Mk.l7 hw) (Mk.l3 hw) (by decide), Mk.ne (M.2.2.2.2.2.2.2.2.1) W (Mk.l8 hw) (Mk.l3 hw) (by decide), Mk.ne (M.2.2.2.2.2.2.2.2.2.1) W (Mk.l9 hw) (Mk.l3 hw) (by decide), Mk.ne (M.2.2.2.2.2.2.2.2.2.2) W (Mk.l10 hw) (Mk.l3 hw) (by decide)⟩
theorem Mk.put_tagStart (hw : ∀ d ∈ tables_1, d.before a0 Z = true) (M : Mk Z h a v0 v1 v2 v3 v4 v5 v6 v7 v8 v9 v10) (W : Wr h h' a (Jvm.RoadKit.slotOf Z cA "tagStart" "I") w) : Mk Z h' a v0 v1 v2 v3 w v5 v6 v7 v8 v9 v10 := ⟨Mk.ne (M.1) W (Mk.l0 hw) (Mk.l4 hw) (by decide), Mk.ne (M.2.1) W (Mk.l1 hw) (Mk.l4 hw) (by decide), Mk.ne (M.2.2.1) W (Mk.l2 hw) (Mk.l4 hw) (by decide), Mk.ne (M.2.2.2.1) W (Mk.l3 hw) (Mk.l4 hw) (by decide), (M.2.2.2.2.1).same W, Mk.ne (M.2.2.2.2.2.1) W (Mk.l5 hw) (Mk.l4 hw) (by decide), Mk.ne (M.2.2.2.2.2.2.1) W (Mk.l6 hw) (Mk.l4 hw) (by decide), Mk.ne (M.2.2.2.2.2.2.2.1) W (Mk.l7 hw) (Mk.l4 hw) (by decide), Mk.ne (M.2.2.2.2.2.2.2.2.1) W (Mk.l8 hw) (Mk.l4 hw) (by decide), Mk.ne (M.2.2.2.2.2.2.2.2.2.1) W (Mk.l9 hw) (Mk.l4 hw) (by decide), Mk.ne (M.2.2.2.2.2.2.2.2.2.2) W (Mk.l10 hw) (Mk.l4 hw) (by decide)⟩
theorem Mk.put_tagEnd (hw : ∀ d ∈ tables_1, d.before a0 Z = true) (M : Mk Z h a v0 v1 v2 v3 v4 v5 v6 v7 v8 v9 v10) (W : Wr h h' a (Jvm.RoadKit.slotOf Z cA "tagEnd" "I") w) : Mk Z h' a v0 v1 v2 v3 v4 w v6 v7 v8 v9 v10 := ⟨Mk.ne (M.1) W (Mk.l0 hw) (Mk.l5 hw) (by decide), Mk.ne (M.2.1) W (Mk.l1 hw) (Mk.l5 hw) (by decide), Mk.ne (M.2.2.1) W (Mk.l2 hw) (Mk.l5 hw) (by decide), Mk.ne (M.2.2.2.1) W (Mk.l3 hw) (Mk.l5 hw) (by decide), Mk.ne (M.2.2.2.2.1) W (Mk.l4 hw) (Mk.l5 hw) (by decide), (M.2.2.2.2.2.1).same W, Mk.ne (M.2.2.2.2.2.2.1) W (Mk.l6 hw) (Mk.l5 hw) (by decide), Mk.ne (M.2.2.2.2.2.2.2.1) W (Mk.l7 hw) (Mk.l5 hw) (by decide), Mk.ne (M.2.2.2.2.2.2.2.2.1) W (Mk.l8 hw) (Mk.l5 hw) (by decide), Mk.ne (M.2.2.2.2.2.2.2.2.2.1) W (Mk.l9 hw) (Mk.l5 hw) (by decide), Mk.ne (M.2.2.2.2.2.2.2.2.2.2) W (Mk.l10 hw) (Mk.l5 hw) (by decide)⟩
theorem Mk.put_emptyElement (hw : ∀ d ∈ tables_1, d.before a0 Z = true) (M : Mk Z h a v0 v1 v2 v3 v4 v5 v6 v7 v8 v9 v10) (W : Wr h h' a (Jvm.RoadKit.slotOf Z cA "emptyElement" "Z") w) : Mk Z h' a v0 v1 v2 v3 v4 v5 w v7 v8 v9 v10 := ⟨Mk.ne (M.1) W (Mk.l0 hw) (Mk.l6 hw) (by decide), Mk.ne (M.2.1) W (Mk.l1 hw) (Mk.l6 hw) (by decide), Mk.ne (M.2.2.1) W (Mk.l2 hw) (Mk.l6 hw) (by decide), Mk.ne (M.2.2.2.1) W (Mk.l3 hw) (Mk.l6 hw) (by decide), Mk.ne (M.2.2.2.2.1) W (Mk.l4 hw) (Mk.l6 hw) (by decide), Mk.ne (M.2.2.2.2.2.1) W (Mk.l5 hw) (Mk.l6 hw) (by decide), (M.2.2.2.2.2.2.1).same W, Mk.ne (M.2.2.2.2.2.2.2.1) W (Mk.l7 hw) (Mk.l6 hw) (by decide), Mk.ne (M.2.2.2.2.2.2.2.2.1) W (Mk.l8 hw) (Mk.l6 hw) (by decide), Mk.ne (M.2.2.2.2.2.2.2.2.2.1) W (Mk.l9 hw) (Mk.l6 hw) (by decide), Mk.ne (M.2.2.2.2.2.2.2.2.2.2) W (Mk.l10 hw) (Mk.l6 hw) (by decide)⟩
theorem Mk.put_nameStart (hw : ∀ d ∈ tables_1, d.before a0 Z = true) (M : Mk Z h a v0 v1 v2 v3 v4 v5 v6 v7 v8 v9 v10) (W : Wr h h' a (Jvm.RoadKit.slotOf Z cA "nameStart" "I") w) : Mk Z h' a v0 v1 v2 v3 v4 v5 v6 w v8 v9 v10 := ⟨Mk.ne (M.1) W (Mk.l0 hw) (Mk.l7 hw) (by decide), Mk.ne (M.2.1) W (Mk.l1 hw) (Mk.l7 hw) (by decide), Mk.ne (M.2.2.1) W (Mk.l2 hw) (Mk.l7 hw) (by decide), Mk.ne (M.2.2.2.1) W (Mk.l3 hw) (Mk.l7 hw) (by decide), Mk.ne (M.2.2.2.2.1) W (Mk.l4 hw) (Mk.l7 hw) (by decide), Mk.ne (M.2.2.2.2.2.1) W (Mk.l5 hw) (Mk.l7 hw) (by decide), Mk.ne (M.2.2.2.2.2.2.1) W (Mk.l6 hw) (Mk.l7 hw) (by decide), (M.2.2.2.2.2.2.2.1).same W, Mk.ne (M.2.2.2.2.2.2.2.2.1) W (Mk.l8 hw) (Mk.l7 hw) (by decide), Mk.ne (M.2.2.2.2.2.2.2.2.2.1) W (Mk.l9 hw) (Mk.l7 hw) (by decide), Mk.ne (M.2.2.2.2.2.2.2.2.2.2) W (Mk.l10 hw) (Mk.l7 hw) (by decide)⟩
theorem Mk.put_nameEnd (hw : ∀ d ∈ tables_1, d.before a0 Z = true) (M : Mk Z h a v0 v1 v2 v3 v4 v5 v6 v7 v8 v9 v10) (W : Wr h h' a (Jvm.RoadKit.slotOf Z cA "nameEnd" "I") w) : Mk Z h' a v0 v1 v2 v3 v4 v5 v6 v7 w v9 v10 := ⟨Mk.ne (M.1) W (Mk.l0 hw) (Mk.l8 hw) (by decide), Mk.ne (M.2.1) W (Mk.l1 hw) (Mk.l8 hw) (by decide), Mk.ne (M.2.2.1) W (Mk.l2 hw) (Mk.l8 hw) (by decide), Mk.ne (M.2.2.2.1) W (Mk.l3 hw) (Mk.l8 hw) (by decide), Mk.ne (M.2.2.2.2.1) W (Mk.l4 hw) (Mk.l8 hw) (by decide), Mk.ne (M.2.2.2.2.2.1) W (Mk.l5 hw) (Mk.l8 hw) (by decide), Mk.ne (M.2.2.2.2.2.2.1) W (Mk.l6 hw) (Mk.l8 hw) (by decide), Mk.ne (M.2.2.2.2.2.2.2.1) W (Mk.l7 hw) (Mk.l8 hw) (by decide), (M.2.2.2.2.2.2.2.2.1).same W, Mk.ne (M.2.2.2.2.2.2.2.2.2.1) W (Mk.l9 hw) (Mk.l8 hw) (by decide), Mk.ne (M.2.2.2.2.2.2.2.2.2.2) W (Mk.l10 hw) (Mk.l8 hw) (by decide)⟩
theorem Mk.put_nameHash (hw : ∀ d ∈ tables_1, d.before a0 Z = true) (M : Mk Z h a v0 v1 v2 v3 v4 v5 v6 v7 v8 v9 v10) (W : Wr h h' a (Jvm.RoadKit.slotOf Z cA "nameHash" "I") w) : Mk Z h' a v0 v1 v2 v3 v4 v5 v6 v7 v8 w v10 := ⟨Mk.ne (M.1) W (Mk.l0 hw) (Mk.l9 hw) (by decide), Mk.ne (M.2.1) W (Mk.l1 hw) (Mk.l9 hw) (by decide), Mk.ne (M.2.2.1) W (Mk.l2 hw) (Mk.l9 hw) (by decide), Mk.ne (M.2.2.2.1) W (Mk.l3 hw) (Mk.l9 hw) (by decide), Mk.ne (M.2.2.2.2.1) W (Mk.l4 hw) (Mk.l9 hw) (by decide), Mk.ne (M.2.2.2.2.2.1) W (Mk.l5 hw) (Mk.l9 hw) (by decide), Mk.ne (M.2.2.2.2.2.2.1) W (Mk.l6 hw) (Mk.l9 hw) (by decide), Mk.ne (M.2.2.2.2.2.2.2.1) W (Mk.l7 hw) (Mk.l9 hw) (by decide), Mk.ne (M.2.2.2.2.2.2.2.2.1) W (Mk.l8 hw) (Mk.l9 hw) (by decide), (M.2.2.2.2.2.2.2.2.2.1).same W, Mk.ne (M.2.2.2.2.2.2.2.2.2.2) W (Mk.l10 hw) (Mk.l9 hw) (by decide)⟩
theorem Mk.put_attributesLeft (hw : ∀ d ∈ tables_1, d.before a0 Z = true) (M : Mk Z h a v0 v1 v2 v3 v4 v5 v6 v7 v8 v9 v10) (W : Wr h h' a (Jvm.RoadKit.slotOf Z cA "attributesLeft" "Z") w) : Mk Z h' a v0 v1 v2 v3 v4 v5 v6 v7 v8 v9 w := ⟨Mk.ne (M.1) W (Mk.l0 hw) (Mk.l10 hw) (by decide), Mk.ne (M.2.1) W (Mk.l1 hw) (Mk.l10 hw) (by decide), Mk.ne (M.2.2.1) W (Mk.l2 hw) (Mk.l10 hw) (by decide), Mk.ne (M.2.2.2.1) W (Mk.l3 hw) (Mk.l10 hw) (by decide), Mk.ne (M.2.2.2.2.1) W (Mk.l4 hw) (Mk.l10 hw) (by decide), Mk.ne (M.2.2.2.2.2.1) W (Mk.l5 hw) (Mk.l10 hw) (by decide), Mk.ne (M.2.2.2.2.2.2.1) W (Mk.l6 hw) (Mk.l10 hw) (by decide), Mk.ne (M.2.2.2.2.2.2.2.1) W (Mk.l7 hw) (Mk.l10 hw) (by decide), Mk.ne (M.2.2.2.2.2.2.2.2.1) W (Mk.l8 hw) (Mk.l10 hw) (by decide), Mk.ne (M.2.2.2.2.2.2.2.2.2.1) W (Mk.l9 hw) (Mk.l10 hw) (by decide), (M.2.2.2.2.2.2.2.2.2.2).same W⟩
end
theorem pn_0 : plainName cA = true := by first | (simp [plainName, overriddenIn]; done) | decide +kernel
theorem efEns {m : MethodId} {p0 : Int32} : entryFrame m #[(.int p0)] 1 = mkF m 0 #[.val (.int p0)] [] := by first | (simp [entryFrame, mkF, argsToLocals, Value.category]; done) | rfl
def QEns (Z : State) (p0 : Int32) (h0 : Heap) (n0 : Nat) (v : Option Value) (h : Heap) (L : List Loc) : Prop := v = some (.int (own_b (own_en p0))) ∧ Fr n0 L ∧ h = h0
theorem rmEns (l : Launch) (Z : State) (a0 : Array Value) (hw : HW a0 Z) (ws : List Jvm.Cond) (p0 : Int32) (h0 : Heap) (n0 : Nat) (Z0 : n0 ≤ h0.size)  :
  Con l mn0 (Jvm.Cond.code mn0 prog_7_method_19_code 1 (some .boolean)) ws (⟨0, 0, 0, 0⟩ : Jvm.Room) #[(.int p0)] Z h0 (QEns Z p0 h0 n0) := by
 refine own_of (plainFor_of_name pn_0) hisR dl_prog_7_19 ?_
 intro p e s m below meth c s₁ hx D hlk hret hml hZ hown hnm X0 e0
 replace hown : s.vm.findClass cA = some m.cls := hown
 have N0 := Fr.nil n0
 rw [efEns]
 refine OFin.of (S' := s₁.setTop (mkF m 1 #[.val (.int p0)] [(.int p0)])) (fun t ht => iN X0 hx (D 0 rfl) rfl ht) ?_
 by_cases hc1 : p0 < 0
 ·refine OFin.of (S' := s₁.setTop (mkF m 27 #[.val (.int p0)] [(.int 0)])) (fun t ht => fY X0 hx 1 26 rfl (D 1 rfl) rfl ((if0 _ _).trans (tlt hc1).1) (by decide) (iC X0 hx (D 2 rfl) ht)) ?_
  exact OFin.retB X0 hx hlk (t := .boolean) (by simp) hret (D 3 rfl) (by decide) (by decide) (by rw [e0]; exact ⟨(by show some (Value.int 0) = _; rw [own_en_neg hc1]; rfl), N0, rfl⟩)
 ·refine OFin.of (S' := s₁.setTop (mkF m 7 #[.val (.int p0)] [(.int 64), (.int p0)])) (fun t ht => fN X0 hx (D 1 rfl) rfl ((if0 _ _).trans (flt hc1).1) (iN X0 hx (D 4 rfl) rfl (bP X0 hx (D 5 rfl) ht))) ?_
  by_cases hc2 : p0 < 64
  ·refine OFin.of (S' := s₁.setTop (mkF m 19 #[.val (.int p0)] [(.int (lcmpW ((((6917669769424414208 : Int64).toUInt64 >>> (p0 &&& 0x3f).toInt64.toUInt64).toInt64) &&& (1 : Int64)) (0 : Int64)))])) (fun t ht => cN X0 hx (D 6 rfl) rfl (tlt hc2).2.1 (X0.ldc2Long hx hown (mvT hZ (wt hw 78 rfl)) (g := (mkF m 10 #[.val (.int p0)] [])) rfl (D 7 rfl) _ (iN X0 hx (D 8 rfl) rfl (XS.lushr X0.here hx rfl (D 9 rfl) rfl (XS.lconst X0.here hx rfl (D 10 rfl) (XS.land X0.here hx rfl (D 11 rfl) rfl (XS.lconst X0.here hx rfl (D 12 rfl) (XS.lcmp X0.here hx rfl (D 13 rfl) rfl ht)))))))) ?_
   by_cases hc3 : (lcmpW ((((6917669769424414208 : Int64).toUInt64 >>> (p0 &&& 0x3f).toInt64.toUInt64).toInt64) &&& (1 : Int64)) (0 : Int64)) = 0
   ·refine OFin.of (S' := s₁.setTop (mkF m 27 #[.val (.int p0)] [(.int 0)])) (fun t ht => fY X0 hx 19 26 rfl (D 14 rfl) rfl ((if0 _ _).trans (teq hc3).1) (by decide) (iC X0 hx (D 2 rfl) ht)) ?_
    exact OFin.retB X0 hx hlk (t := .boolean) (by simp) hret (D 3 rfl) (by decide) (by decide) (by rw [e0]; exact ⟨(by show some (Value.int 0) = _; rw [own_en_f hc1 hc2 hc3]; rfl), N0, rfl⟩)
   ·refine OFin.of (S' := s₁.setTop (mkF m 27 #[.val (.int p0)] [(.int 1)])) (fun t ht => fN X0 hx (D 14 rfl) rfl ((if0 _ _).trans (feq hc3).1) (iC X0 hx (D 15 rfl) (gO X0 hx 23 27 rfl (D 16 rfl) (by decide) ht))) ?_
    exact OFin.retB X0 hx hlk (t := .boolean) (by simp) hret (D 3 rfl) (by decide) (by decide) (by rw [e0]; exact ⟨(by show some (Value.int 1) = _; rw [own_en_t hc1 hc2 hc3]; rfl), N0, rfl⟩)
  ·refine OFin.of (S' := s₁.setTop (mkF m 27 #[.val (.int p0)] [(.int 0)])) (fun t ht => cY X0 hx 7 26 rfl (D 6 rfl) rfl (flt hc2).2.1 (by decide) (iC X0 hx (D 2 rfl) ht)) ?_
   exact OFin.retB X0 hx hlk (t := .boolean) (by simp) hret (D 3 rfl) (by decide) (by decide) (by rw [e0]; exact ⟨(by show some (Value.int 0) = _; rw [own_en_big hc2]; rfl), N0, rfl⟩)
theorem efIx {m : MethodId} {a0 : Addr} {p1 : Int32} {i0 : Nat} : entryFrame m #[(.ref a0), (.int p1), (.int (oN i0))] 4 = mkF m 0 #[.val (.ref a0), .val (.int p1), .val (.int (oN i0)), .unset] [] := by first | (simp [entryFrame, mkF, argsToLocals, Value.category]; done) | rfl
def QIx (Z : State) (a0 : Addr) (p1 : Int32) (tx : Addr) (kt : ClassId) (nt : Int32) (pre : List Int32) (i0 : Nat) (r : Int32) (h0 : Heap) (n0 : Nat) (v : Option Value) (h : Heap) (L : List Loc) : Prop := v = some (.int r) ∧ Fr n0 L ∧ h = h0
theorem rmIx (l : Launch) (Z : State) (a0 : Array Value) (hw : HW a0 Z) (ws : List Jvm.Cond) (a0 : Addr) (p1 : Int32) (tx : Addr) (kt : ClassId) (nt : Int32) (pre : List Int32) (i0 : Nat) (r : Int32) (h0 : Heap) (n0 : Nat) (Z0 : n0 ≤ h0.size) (Ft : Fld Z h0 a0 cA "text" "[B" (.ref tx)) (Fe : Fld Z h0 a0 cA "end" "I" (.int (oN pre.length))) (Tx : Txt Z h0 tx kt nt pre) (hi0 : i0 ≤ pre.length) (hr : own_ix pre p1 i0 = r) :
  Con l mn1 (Jvm.Cond.code mn1 prog_7_method_25_code 4 (some .int)) ws (⟨0, 0, 0, 0⟩ : Jvm.Room) #[(.ref a0), (.int p1), (.int (oN i0))] Z h0 (QIx Z a0 p1 tx kt nt pre i0 r h0 n0) := by
 refine own_of (plainFor_of_name pn_0) hisR dl_prog_7_25 ?_
 intro p e s m below meth c s₁ hx D hlk hret hml hZ hown hnm X0 e0
 replace hown : s.vm.findClass cA = some m.cls := hown
 have N0 := Fr.nil n0
 rw [efIx]
 refine OFin.of (S' := s₁.setTop (mkF m 2 #[.val (.ref a0), .val (.int p1), .val (.int (oN i0)), .val (.int (oN i0))] [])) (fun t ht => iN X0 hx (D 0 rfl) rfl (XS.istoreN X0.here hx rfl (D 1 rfl) rfl (l' := #[.val (.ref a0), .val (.int p1), .val (.int (oN i0)), .val (.int (oN i0))]) rfl ht)) ?_
 have lp1 : ∀ (kk i : Nat) (hk : i + kk = pre.length) (hf : own_find (fun x => decide (x = p1)) pre i = own_find (fun x => decide (x = p1)) pre i0) {Tl : State} {locs : List Loc} (Xl : Stand p l e (⟨0, 0, 0, 0⟩ : Jvm.Room) s m #[(.ref a0), (.int p1), (.int (oN i0))] below meth c Tl locs 0 0) (el : Tl.heap = h0) (Nl : Fr n0 locs), OFin p e below (KPost s (QIx Z a0 p1 tx kt nt pre i0 r h0 n0) (⟨0, 0, 0, 0⟩ : Jvm.Room).cells (⟨0, 0, 0, 0⟩ : Jvm.Room).slots) (Tl.setTop (mkF m 2 #[.val (.ref a0), .val (.int p1), .val (.int (oN i0)), .val (.int (oN i))] [])) := by
  intro kk
  induction kk with
  | zero => 
   intro i hk hf Tl locs Xl el Nl
   obtain ⟨T2, X2, e2, st2⟩ := getF Xl hx hZ hown (host := "") (Or.inl (wt hw 47 rfl)) Via.refl el Fe (g := (mkF m 4 #[.val (.ref a0), .val (.int p1), .val (.int (oN i0)), .val (.int (oN i))] [(.ref a0), (.int (oN i))])) rfl rfl (D 4 rfl)
   refine OFin.of (fun t ht => iN Xl hx (D 2 rfl) rfl (aN Xl hx (D 3 rfl) rfl rfl (st2 t ht))) ?_
   refine OFin.of (S' := T2.setTop (mkF m 29 #[.val (.ref a0), .val (.int p1), .val (.int (oN i0)), .val (.int (oN i))] [(.int (-1))])) (fun t ht => cY X2 hx 7 28 rfl (D 5 rfl) rfl (flt (own_z7 Tx hk : ¬ ((oN i) < (oN pre.length)))).2.1 (by decide) (iC X2 hx (D 6 rfl) ht)) ?_
   exact OFin.retI X2 hx hlk hret (D 7 rfl) (by decide) (by decide) (by rw [e2]; exact ⟨(by rw [← hr, own_ixz hk hf]), Nl, rfl⟩)
  | succ kk ih => 
   intro i hk hf Tl locs Xl el Nl
   obtain ⟨T3, X3, e3, st3⟩ := getF Xl hx hZ hown (host := "") (Or.inl (wt hw 47 rfl)) Via.refl el Fe (g := (mkF m 4 #[.val (.ref a0), .val (.int p1), .val (.int (oN i0)), .val (.int (oN i))] [(.ref a0), (.int (oN i))])) rfl rfl (D 4 rfl)
   refine OFin.of (fun t ht => iN Xl hx (D 2 rfl) rfl (aN Xl hx (D 3 rfl) rfl rfl (st3 t ht))) ?_
   obtain ⟨T4, X4, e4, st4⟩ := getF X3 hx hZ hown (host := "") (Or.inl (wt hw 43 rfl)) Via.refl e3 Ft (g := (mkF m 11 #[.val (.ref a0), .val (.int p1), .val (.int (oN i0)), .val (.int (oN i))] [(.ref a0)])) rfl rfl (D 9 rfl)
   refine OFin.of (fun t ht => cN X3 hx (D 5 rfl) rfl (tlt (own_s7 Tx hk : (oN i) < (oN pre.length))).2.1 (aN X3 hx (D 8 rfl) rfl rfl (st4 t ht))) ?_
   obtain ⟨cl5, Ar5, hin5, hat5⟩ := Txt.at Tx (j := (oN i)) (i := i) rfl (by omega)
   refine OFin.of (fun t ht => iN X4 hx (D 10 rfl) rfl (X4.baloadBytes hx (j := (oN i)) (v := (.int (pre.getD i 0))) (by rw [e4]; exact Ar5.1) (State.isArrayOf_alike hZ.alike Ar5.2.1) Ar5.2.2 hin5 hat5 (g := (mkF m 15 #[.val (.ref a0), .val (.int p1), .val (.int (oN i0)), .val (.int (oN i))] [(.int (oN i)), (.ref tx)])) rfl rfl (D 11 rfl) _ ht)) ?_
   refine OFin.of (S' := T4.setTop (mkF m 17 #[.val (.ref a0), .val (.int p1), .val (.int (oN i0)), .val (.int (oN i))] [(.int p1), (.int (pre.getD i 0))])) (fun t ht => iN X4 hx (D 12 rfl) rfl ht) ?_
   by_cases hc6 : (pre.getD i 0) = p1
   ·refine OFin.of (S' := T4.setTop (mkF m 21 #[.val (.ref a0), .val (.int p1), .val (.int (oN i0)), .val (.int (oN i))] [(.int (oN i))])) (fun t ht => cN X4 hx (D 13 rfl) rfl (teq hc6).2 (iN X4 hx (D 14 rfl) rfl ht)) ?_
    exact OFin.retI X4 hx hlk hret (D 15 rfl) (by decide) (by decide) (by rw [e4]; exact ⟨(by rw [← hr, own_ixs (by omega) (decide_eq_true hc6) hf]), Nl, rfl⟩)
   ·refine OFin.of (S' := T4.setTop (mkF m 2 #[.val (.ref a0), .val (.int p1), .val (.int (oN i0)), .val (.int ((oN i) + (1 : Int32)))] [])) (fun t ht => cY X4 hx 17 22 rfl (D 13 rfl) rfl (feq hc6).2 (by decide) (iI X4 hx (D 16 rfl) rfl (l' := #[.val (.ref a0), .val (.int p1), .val (.int (oN i0)), .val (.int ((oN i) + (1 : Int32)))]) rfl (gO X4 hx 25 2 rfl (D 17 rfl) (by decide) ht))) ?_
    rw [own_succ]
    exact ih (i + 1) (by omega) ((own_find_no (by omega) (decide_eq_false hc6)).symm.trans hf) X4 e4 Nl
 exact lp1 _ i0 (Nat.add_sub_cancel' hi0) rfl X0 e0 N0
theorem efRn {m : MethodId} {a0 : Addr} {i0 : Nat} : entryFrame m #[(.ref a0), (.int (oN i0))] 4 = mkF m 0 #[.val (.ref a0), .val (.int (oN i0)), .unset, .unset] [] := by first | (simp [entryFrame, mkF, argsToLocals, Value.category]; done) | rfl
def QRn (Z : State) (a0 tx : Addr) (kt : ClassId) (nt : Int32) (pre : List Int32) (vat : Int32) (vkd : Value) (vts vte vem vns vne vnh val : Int32) (i0 j0 : Nat) (h0 : Heap) (n0 : Nat) (v : Option Value) (h : Heap) (L : List Loc) : Prop := ∃ hv : Int32, v = some (.int (oN j0)) ∧ Fr n0 L ∧ Keep h0 h [a0] ∧ Mk Z h a0 (.ref tx) (.int vat) (.int (oN pre.length)) vkd (.int vts) (.int vte) (.int vem) (.int (oN i0)) (.int (oN j0)) (.int hv) (.int val)
theorem rmRn (l : Launch) (Z : State) (a0 : Array Value) (hw : HW a0 Z) (ws : List Jvm.Cond) (a0 tx : Addr) (kt : ClassId) (nt : Int32) (pre : List Int32) (vat : Int32) (vkd : Value) (vts vte vem vns vne vnh val : Int32) (i0 j0 : Nat) (h0 : Heap) (n0 : Nat) (Z0 : n0 ≤ h0.size) (EO : Exa Z h0 a0 cA) (M0 : Mk Z h0 a0 (.ref tx) (.int vat) (.int (oN pre.length)) vkd (.int vts) (.int vte) (.int vem) (.int vns) (.int vne) (.int vnh) (.int val)) (Tx : Txt Z h0 tx kt nt pre) (g0 : n0 ≤ a0) (hnt : tx ≠ a0) (hi0 : i0 ≤ pre.length) (hj0 : own_find own_en pre i0 = j0) :
  Con l mn2 (Jvm.Cond.code mn2 prog_7_method_15_code 4 (some .int)) ws (⟨1, 0, 0, 12⟩ : Jvm.Room) #[(.ref a0), (.int (oN i0))] Z h0 (QRn Z a0 tx kt nt pre vat vkd vts vte vem vns vne vnh val i0 j0 h0 n0) := by
 refine own_of (plainFor_of_name pn_0) hisR dl_prog_7_15 ?_
 intro p e s m below meth c s₁ hx D hlk hret hml hZ hown hnm X0 e0
 replace hown : s.vm.findClass cA = some m.cls := hown
 have N0 := Fr.nil n0
 rw [efRn]
 have K0 : Keep h0 h0 [a0] := Keep.refl _ _
 refine OFin.of (S' := s₁.setTop (mkF m 4 #[.val (.ref a0), .val (.int (oN i0)), .val (.int (oN i0)), .val (.int 0)] [])) (fun t ht => iN X0 hx (D 0 rfl) rfl (XS.istoreN X0.here hx rfl (D 1 rfl) rfl (l' := #[.val (.ref a0), .val (.int (oN i0)), .val (.int (oN i0)), .unset]) rfl (iC X0 hx (D 2 rfl) (XS.istoreN X0.here hx rfl (D 3 rfl) rfl (l' := #[.val (.ref a0), .val (.int (oN i0)), .val (.int (oN i0)), .val (.int 0)]) rfl ht)))) ?_
 have lp1 : ∀ (kk i : Nat) (hk : i + kk = pre.length) (hf : own_find own_en pre i = own_find own_en pre i0) (hs : Int32) {Tl : State} {locs : List Loc} (Xl : Stand p l e (⟨1, 0, 0, 12⟩ : Jvm.Room) s m #[(.ref a0), (.int (oN i0))] below meth c Tl locs 0 0) (el : Tl.heap = h0) (Nl : Fr n0 locs), OFin p e below (KPost s (QRn Z a0 tx kt nt pre vat vkd vts vte vem vns vne vnh val i0 j0 h0 n0) (⟨1, 0, 0, 12⟩ : Jvm.Room).cells (⟨1, 0, 0, 12⟩ : Jvm.Room).slots) (Tl.setTop (mkF m 4 #[.val (.ref a0), .val (.int (oN i0)), .val (.int (oN i)), .val (.int hs)] [])) := by
  intro kk
  induction kk with
  | zero => 
   intro i hk hf hs Tl locs Xl el Nl
   obtain ⟨T2, X2, e2, st2⟩ := getF Xl hx hZ hown (host := "") (Or.inl (wt hw 47 rfl)) Via.refl el M0.g_end (g := (mkF m 6 #[.val (.ref a0), .val (.int (oN i0)), .val (.int (oN i)), .val (.int hs)] [(.ref a0), (.int (oN i))])) rfl rfl (D 6 rfl)
   refine OFin.of (fun t ht => iN Xl hx (D 4 rfl) rfl (aN Xl hx (D 5 rfl) rfl rfl (st2 t ht))) ?_
   obtain ⟨T3, h3, X3, e3, W3, st3⟩ := putF X2 hx hZ hown (host := "") (Or.inl (wt hw 79 rfl)) Via.refl e2 M0.g_nameStart EO (Or.inl (wt hw 80 rfl)) (wt hw 35 rfl) (ty := .int) (by decide) rfl rfl (g := (mkF m 44 #[.val (.ref a0), .val (.int (oN i0)), .val (.int (oN i)), .val (.int hs)] [(.int (oN i0)), (.ref a0)])) rfl rfl (D 10 rfl)
   have f4 := (EO.wr W3)
   have f5 := (Tx.other W3 hnt)
   have Z6 := nT Z0 (Keep.of_wr W3).1
   have K7 := K0.wr W3 (Or.inl (mG (i := 0) rfl))
   have N8 := Fr.snoc X3 Nl g0
   have M9 := M0.put_nameStart hw W3
   refine OFin.of (fun t ht => cY X2 hx 9 42 rfl (D 7 rfl) rfl (flt (own_z7 Tx hk : ¬ ((oN i) < (oN pre.length)))).2.1 (by decide) (aN X2 hx (D 8 rfl) rfl rfl (iN X2 hx (D 9 rfl) rfl (st3 t ht)))) ?_
   obtain ⟨T10, h10, X10, e10, W10, st10⟩ := putF X3 hx hZ hown (host := "") (Or.inl (wt hw 81 rfl)) Via.refl e3 M9.g_nameEnd f4 (Or.inl (wt hw 82 rfl)) (wt hw 35 rfl) (ty := .int) (by decide) rfl rfl (g := (mkF m 49 #[.val (.ref a0), .val (.int (oN i0)), .val (.int (oN i)), .val (.int hs)] [(.int (oN i)), (.ref a0)])) rfl rfl (D 13 rfl)
   have f11 := (f4.wr W10)
   have f12 := (f5.other W10 hnt)
   have Z13 := nT Z6 (Keep.of_wr W10).1
   have K14 := K7.wr W10 (Or.inl (mG (i := 0) rfl))
   have N15 := Fr.snoc X10 N8 g0
   have M16 := M9.put_nameEnd hw W10
   refine OFin.of (fun t ht => aN X3 hx (D 11 rfl) rfl rfl (iN X3 hx (D 12 rfl) rfl (st10 t ht))) ?_
   obtain ⟨T17, h17, X17, e17, W17, st17⟩ := putF X10 hx hZ hown (host := "") (Or.inl (wt hw 83 rfl)) Via.refl e10 M16.g_nameHash f11 (Or.inl (wt hw 84 rfl)) (wt hw 35 rfl) (ty := .int) (by decide) rfl rfl (g := (mkF m 54 #[.val (.ref a0), .val (.int (oN i0)), .val (.int (oN i)), .val (.int hs)] [(.int hs), (.ref a0)])) rfl rfl (D 16 rfl)
   have f18 := (f11.wr W17)
   have f19 := (f12.other W17 hnt)
   have Z20 := nT Z13 (Keep.of_wr W17).1
   have K21 := K14.wr W17 (Or.inl (mG (i := 0) rfl))
   have N22 := Fr.snoc X17 N15 g0
   have M23 := M16.put_nameHash hw W17
   refine OFin.of (fun t ht => aN X10 hx (D 14 rfl) rfl rfl (iN X10 hx (D 15 rfl) rfl (st17 t ht))) ?_
   refine OFin.of (S' := T17.setTop (mkF m 58 #[.val (.ref a0), .val (.int (oN i0)), .val (.int (oN i)), .val (.int hs)] [(.int (oN i))])) (fun t ht => iN X17 hx (D 17 rfl) rfl ht) ?_
   exact OFin.retI X17 hx hlk hret (D 18 rfl) (by decide) (by decide) (by rw [e17]; exact ⟨hs, by rw [(hj0.symm.trans (hf.symm.trans (own_fz hk)))], N22, K21, by rw [(hj0.symm.trans (hf.symm.trans (own_fz hk)))]; exact M23⟩)
  | succ kk ih => 
   intro i hk hf hs Tl locs Xl el Nl
   obtain ⟨T24, X24, e24, st24⟩ := getF Xl hx hZ hown (host := "") (Or.inl (wt hw 47 rfl)) Via.refl el M0.g_end (g := (mkF m 6 #[.val (.ref a0), .val (.int (oN i0)), .val (.int (oN i)), .val (.int hs)] [(.ref a0), (.int (oN i))])) rfl rfl (D 6 rfl)
   refine OFin.of (fun t ht => iN Xl hx (D 4 rfl) rfl (aN Xl hx (D 5 rfl) rfl rfl (st24 t ht))) ?_
   obtain ⟨T25, X25, e25, st25⟩ := getF X24 hx hZ hown (host := "") (Or.inl (wt hw 43 rfl)) Via.refl e24 M0.g_text (g := (mkF m 13 #[.val (.ref a0), .val (.int (oN i0)), .val (.int (oN i)), .val (.int hs)] [(.ref a0)])) rfl rfl (D 20 rfl)
   refine OFin.of (fun t ht => cN X24 hx (D 7 rfl) rfl (tlt (own_s7 Tx hk : (oN i) < (oN pre.length))).2.1 (aN X24 hx (D 19 rfl) rfl rfl (st25 t ht))) ?_
   obtain ⟨cl26, Ar26, hin26, hat26⟩ := Txt.at Tx (j := (oN i)) (i := i) rfl (by omega)
   refine OFin.of (fun t ht => iN X25 hx (D 21 rfl) rfl (X25.baloadBytes hx (j := (oN i)) (v := (.int (pre.getD i 0))) (by rw [e25]; exact Ar26.1) (State.isArrayOf_alike hZ.alike Ar26.2.1) Ar26.2.2 hin26 hat26 (g := (mkF m 17 #[.val (.ref a0), .val (.int (oN i0)), .val (.int (oN i)), .val (.int hs)] [(.int (oN i)), (.ref tx)])) rfl rfl (D 22 rfl) _ ht)) ?_
   obtain ⟨_, T27, Lc27, X27, hQ27, st27⟩ := own_cS X25 hx hw hZ hown 75 76 36 77 rfl rfl rfl rfl (by decide) (rmEns l Z _ hw [] (pre.getD i 0) h0 n0 Z0 ) (by decide) (by decide) (g := (mkF m 18 #[.val (.ref a0), .val (.int (oN i0)), .val (.int (oN i)), .val (.int hs)] [(.int (pre.getD i 0))])) rfl hml rfl (argsL := [(.int (pre.getD i 0))]) (rest := []) pd_0 rfl rfl rfl (W := 0) (nE rfl) (D 23 rfl) rfl e25 (by decide) (by decide)
   obtain ⟨rfl, Nq27, hs27⟩ := hQ27
   have N28 := Fr.app Nl Nq27
   refine OFin.to st27 ?_
   by_cases hc29 : (own_b (own_en (pre.getD i 0))) = 0
   ·obtain ⟨T30, X30, e30, st30⟩ := getF X27 hx hZ hown (host := "") (Or.inl (wt hw 43 rfl)) Via.refl hs27 M0.g_text (g := (mkF m 29 #[.val (.ref a0), .val (.int (oN i0)), .val (.int (oN i)), .val (.int hs)] [(.ref a0), (.int ((31 : Int32) * hs))])) rfl rfl (D 29 rfl)
    refine OFin.of (fun t ht => fN X27 hx (D 24 rfl) rfl ((if0 _ _).trans (teq hc29).2) (bP X27 hx (D 25 rfl) (iN X27 hx (D 26 rfl) rfl (XS.imul X27.here hx rfl (D 27 rfl) rfl (aN X27 hx (D 28 rfl) rfl rfl (st30 t ht)))))) ?_
    obtain ⟨cl31, Ar31, hin31, hat31⟩ := Txt.at Tx (j := (oN i)) (i := i) rfl (by omega)
    refine OFin.of (fun t ht => iN X30 hx (D 30 rfl) rfl (X30.baloadBytes hx (j := (oN i)) (v := (.int (pre.getD i 0))) (by rw [e30]; exact Ar31.1) (State.isArrayOf_alike hZ.alike Ar31.2.1) Ar31.2.2 hin31 hat31 (g := (mkF m 33 #[.val (.ref a0), .val (.int (oN i0)), .val (.int (oN i)), .val (.int hs)] [(.int (oN i)), (.ref tx), (.int ((31 : Int32) * hs))])) rfl rfl (D 31 rfl) _ ht)) ?_
    refine OFin.of (S' := T30.setTop (mkF m 4 #[.val (.ref a0), .val (.int (oN i0)), .val (.int ((oN i) + (1 : Int32))), .val (.int (((31 : Int32) * hs) + (pre.getD i 0)))] [])) (fun t ht => XS.iadd X30.here hx rfl (D 32 rfl) rfl (XS.istoreN X30.here hx rfl (D 33 rfl) rfl (l' := #[.val (.ref a0), .val (.int (oN i0)), .val (.int (oN i)), .val (.int (((31 : Int32) * hs) + (pre.getD i 0)))]) rfl (iI X30 hx (D 34 rfl) rfl (l' := #[.val (.ref a0), .val (.int (oN i0)), .val (.int ((oN i) + (1 : Int32))), .val (.int (((31 : Int32) * hs) + (pre.getD i 0)))]) rfl (gO X30 hx 39 4 rfl (D 35 rfl) (by decide) ht)))) ?_
    rw [own_succ]
    exact ih (i + 1) (by omega) ((own_find_no (by omega) (own_b0 hc29)).symm.trans hf) _ X30 e30 N28
   ·obtain ⟨T32, h32, X32, e32, W32, st32⟩ := putF X27 hx hZ hown (host := "") (Or.inl (wt hw 79 rfl)) Via.refl hs27 M0.g_nameStart EO (Or.inl (wt hw 80 rfl)) (wt hw 35 rfl) (ty := .int) (by decide) rfl rfl (g := (mkF m 44 #[.val (.ref a0), .val (.int (oN i0)), .val (.int (oN i)), .val (.int hs)] [(.int (oN i0)), (.ref a0)])) rfl rfl (D 10 rfl)
    have f33 := (EO.wr W32)
    have f34 := (Tx.other W32 hnt)
    have Z35 := nT Z0 (Keep.of_wr W32).1
    have K36 := K0.wr W32 (Or.inl (mG (i := 0) rfl))
    have N37 := Fr.snoc X32 N28 g0
    have M38 := M0.put_nameStart hw W32
    refine OFin.of (fun t ht => fY X27 hx 21 42 rfl (D 24 rfl) rfl ((if0 _ _).trans (feq hc29).2) (by decide) (aN X27 hx (D 8 rfl) rfl rfl (iN X27 hx (D 9 rfl) rfl (st32 t ht)))) ?_
    obtain ⟨T39, h39, X39, e39, W39, st39⟩ := putF X32 hx hZ hown (host := "") (Or.inl (wt hw 81 rfl)) Via.refl e32 M38.g_nameEnd f33 (Or.inl (wt hw 82 rfl)) (wt hw 35 rfl) (ty := .int) (by decide) rfl rfl (g := (mkF m 49 #[.val (.ref a0), .val (.int (oN i0)), .val (.int (oN i)), .val (.int hs)] [(.int (oN i)), (.ref a0)])) rfl rfl (D 13 rfl)
    have f40 := (f33.wr W39)
    have f41 := (f34.other W39 hnt)
    have Z42 := nT Z35 (Keep.of_wr W39).1
    have K43 := K36.wr W39 (Or.inl (mG (i := 0) rfl))
    have N44 := Fr.snoc X39 N37 g0
    have M45 := M38.put_nameEnd hw W39
    refine OFin.of (fun t ht => aN X32 hx (D 11 rfl) rfl rfl (iN X32 hx (D 12 rfl) rfl (st39 t ht))) ?_
    obtain ⟨T46, h46, X46, e46, W46, st46⟩ := putF X39 hx hZ hown (host := "") (Or.inl (wt hw 83 rfl)) Via.refl e39 M45.g_nameHash f40 (Or.inl (wt hw 84 rfl)) (wt hw 35 rfl) (ty := .int) (by decide) rfl rfl (g := (mkF m 54 #[.val (.ref a0), .val (.int (oN i0)), .val (.int (oN i)), .val (.int hs)] [(.int hs), (.ref a0)])) rfl rfl (D 16 rfl)
    have f47 := (f40.wr W46)
    have f48 := (f41.other W46 hnt)
    have Z49 := nT Z42 (Keep.of_wr W46).1
    have K50 := K43.wr W46 (Or.inl (mG (i := 0) rfl))
    have N51 := Fr.snoc X46 N44 g0
    have M52 := M45.put_nameHash hw W46
    refine OFin.of (fun t ht => aN X39 hx (D 14 rfl) rfl rfl (iN X39 hx (D 15 rfl) rfl (st46 t ht))) ?_
    refine OFin.of (S' := T46.setTop (mkF m 58 #[.val (.ref a0), .val (.int (oN i0)), .val (.int (oN i)), .val (.int hs)] [(.int (oN i))])) (fun t ht => iN X46 hx (D 17 rfl) rfl ht) ?_
    exact OFin.retI X46 hx hlk hret (D 18 rfl) (by decide) (by decide) (by rw [e46]; exact ⟨hs, by rw [(hj0.symm.trans (hf.symm.trans (own_find_yes (by omega) (own_b1 hc29))))], N51, K50, by rw [(hj0.symm.trans (hf.symm.trans (own_find_yes (by omega) (own_b1 hc29))))]; exact M52⟩)
 exact lp1 _ i0 (Nat.add_sub_cancel' hi0) rfl (0 : Int32) X0 e0 N0
theorem efBa {m : MethodId} {a0 : Addr} {i0 : Nat} : entryFrame m #[(.ref a0), (.int (oN i0))] 2 = mkF m 0 #[.val (.ref a0), .val (.int (oN i0))] [] := by first | (simp [entryFrame, mkF, argsToLocals, Value.category]; done) | rfl
def QBa (Z : State) (a0 tx : Addr) (kt : ClassId) (nt : Int32) (pre : List Int32) (i0 : Nat) (bv : Int32) (h0 : Heap) (n0 : Nat) (v : Option Value) (h : Heap) (L : List Loc) : Prop := v = some (.int bv) ∧ Fr n0 L ∧ h = h0
theorem rmBa (l : Launch) (Z : State) (a0 : Array Value) (hw : HW a0 Z) (ws : List Jvm.Cond) (a0 tx : Addr) (kt : ClassId) (nt : Int32) (pre : List Int32) (i0 : Nat) (bv : Int32) (h0 : Heap) (n0 : Nat) (Z0 : n0 ≤ h0.size) (Ft : Fld Z h0 a0 cA "text" "[B" (.ref tx)) (Fe : Fld Z h0 a0 cA "end" "I" (.int (oN pre.length))) (Tx : Txt Z h0 tx kt nt pre) (hi0 : i0 < pre.length) (hbv : own_ba2 pre i0 = bv) :
  Con l mn3 (Jvm.Cond.code mn3 prog_7_method_16_code 2 (some .byte)) ws (⟨0, 0, 0, 0⟩ : Jvm.Room) #[(.ref a0), (.int (oN i0))] Z h0 (QBa Z a0 tx kt nt pre i0 bv h0 n0) := by
 refine own_of (plainFor_of_name pn_0) hisR dl_prog_7_16 ?_
 intro p e s m below meth c s₁ hx D hlk hret hml hZ hown hnm X0 e0
 replace hown : s.vm.findClass cA = some m.cls := hown
 have N0 := Fr.nil n0
 rw [efBa]
 obtain ⟨T1, X1, e1, st1⟩ := getF X0 hx hZ hown (host := "") (Or.inl (wt hw 47 rfl)) Via.refl e0 Fe (g := (mkF m 4 #[.val (.ref a0), .val (.int (oN i0))] [(.ref a0), (.int ((oN i0) + (1 : Int32)))])) rfl rfl (D 4 rfl)
 refine OFin.of (fun t ht => iN X0 hx (D 0 rfl) rfl (iC X0 hx (D 1 rfl) (XS.iadd X0.here hx rfl (D 2 rfl) rfl (aN X0 hx (D 3 rfl) rfl rfl (st1 t ht))))) ?_
 by_cases hc2 : ((oN i0) + (1 : Int32)) < (oN pre.length)
 ·obtain ⟨T3, X3, e3, st3⟩ := getF X1 hx hZ hown (host := "") (Or.inl (wt hw 43 rfl)) Via.refl e1 Ft (g := (mkF m 11 #[.val (.ref a0), .val (.int (oN i0))] [(.ref a0)])) rfl rfl (D 7 rfl)
  refine OFin.of (fun t ht => cN X1 hx (D 5 rfl) rfl (tlt hc2).2.1 (aN X1 hx (D 6 rfl) rfl rfl (st3 t ht))) ?_
  obtain ⟨cl4, Ar4, hin4, hat4⟩ := Txt.at Tx (j := ((oN i0) + (1 : Int32))) (i := (i0 + 1)) (own_succ i0) (own_ba3 Tx hi0 hc2)
  refine OFin.of (fun t ht => iN X3 hx (D 8 rfl) rfl (iC X3 hx (D 9 rfl) (XS.iadd X3.here hx rfl (D 10 rfl) rfl (X3.baloadBytes hx (j := ((oN i0) + (1 : Int32))) (v := (.int (pre.getD (i0 + 1) 0))) (by rw [e3]; exact Ar4.1) (State.isArrayOf_alike hZ.alike Ar4.2.1) Ar4.2.2 hin4 hat4 (g := (mkF m 17 #[.val (.ref a0), .val (.int (oN i0))] [(.int ((oN i0) + (1 : Int32))), (.ref tx)])) rfl rfl (D 11 rfl) _ ht)))) ?_
  refine OFin.of (S' := T3.setTop (mkF m 22 #[.val (.ref a0), .val (.int (oN i0))] [(.int (pre.getD (i0 + 1) 0))])) (fun t ht => gO X3 hx 18 22 rfl (D 12 rfl) (by decide) ht) ?_
  exact OFin.retB X3 hx hlk (t := .byte) (by simp) hret (D 13 rfl) (by decide) (by decide) (by rw [e3]; exact ⟨(by rw [← hbv, own_bat Tx hi0 hc2]), N0, rfl⟩)
 ·refine OFin.of (S' := T1.setTop (mkF m 22 #[.val (.ref a0), .val (.int (oN i0))] [(.int 0)])) (fun t ht => cY X1 hx 7 21 rfl (D 5 rfl) rfl (flt hc2).2.1 (by decide) (iC X1 hx (D 14 rfl) ht)) ?_
  exact OFin.retB X1 hx hlk (t := .byte) (by simp) hret (D 13 rfl) (by decide) (by decide) (by rw [e1]; exact ⟨(by rw [← hbv, own_baf Tx hi0 hc2]; rfl), N0, rfl⟩)
theorem efTe {m : MethodId} {a0 : Addr} : entryFrame m #[(.ref a0)] 1 = mkF m 0 #[.val (.ref a0)] [] := by first | (simp [entryFrame, mkF, argsToLocals, Value.category]; done) | rfl
def QTe (Z : State) (a0 : Addr) (vg : Int32) (h0 : Heap) (n0 : Nat) (v : Option Value) (h : Heap) (L : List Loc) : Prop := v = some (.int vg) ∧ Fr n0 L ∧ h = h0
theorem rmTe (l : Launch) (Z : State) (a0 : Array Value) (hw : HW a0 Z) (ws : List Jvm.Cond) (a0 : Addr) (vg : Int32) (h0 : Heap) (n0 : Nat) (Z0 : n0 ≤ h0.size) (Fg : Fld Z h0 a0 cA "tagEnd" "I" (.int vg)) :
  Con l mn4 (Jvm.Cond.code mn4 prog_7_method_6_code 1 (some .int)) ws (⟨0, 0, 0, 0⟩ : Jvm.Room) #[(.ref a0)] Z h0 (QTe Z a0 vg h0 n0) := by
 refine own_of (plainFor_of_name pn_0) hisR dl_prog_7_6 ?_
 intro p e s m below meth c s₁ hx D hlk hret hml hZ hown hnm X0 e0
 replace hown : s.vm.findClass cA = some m.cls := hown
 have N0 := Fr.nil n0
 rw [efTe]
 obtain ⟨T1, X1, e1, st1⟩ := getF X0 hx hZ hown (host := "") (Or.inl (wt hw 85 rfl)) Via.refl e0 Fg (g := (mkF m 1 #[.val (.ref a0)] [(.ref a0)])) rfl rfl (D 1 rfl)
 refine OFin.of (fun t ht => aN X0 hx (D 0 rfl) rfl rfl (st1 t ht)) ?_
 exact OFin.retI X1 hx hlk hret (D 2 rfl) (by decide) (by decide) (by rw [e1]; exact ⟨rfl, N0, rfl⟩)
theorem efTs {m : MethodId} {a0 : Addr} : entryFrame m #[(.ref a0)] 1 = mkF m 0 #[.val (.ref a0)] [] := by first | (simp [entryFrame, mkF, argsToLocals, Value.category]; done) | rfl
def QTs (Z : State) (a0 : Addr) (vg : Int32) (h0 : Heap) (n0 : Nat) (v : Option Value) (h : Heap) (L : List Loc) : Prop := v = some (.int vg) ∧ Fr n0 L ∧ h = h0
theorem rmTs (l : Launch) (Z : State) (a0 : Array Value) (hw : HW a0 Z) (ws : List Jvm.Cond) (a0 : Addr) (vg : Int32) (h0 : Heap) (n0 : Nat) (Z0 : n0 ≤ h0.size) (Fg : Fld Z h0 a0 cA "tagStart" "I" (.int vg)) :
  Con l mn5 (Jvm.Cond.code mn5 prog_7_method_5_code 1 (some .int)) ws (⟨0, 0, 0, 0⟩ : Jvm.Room) #[(.ref a0)] Z h0 (QTs Z a0 vg h0 n0) := by
 refine own_of (plainFor_of_name pn_0) hisR dl_prog_7_5 ?_
 intro p e s m below meth c s₁ hx D hlk hret hml hZ hown hnm X0 e0
 replace hown : s.vm.findClass cA = some m.cls := hown
 have N0 := Fr.nil n0
 rw [efTs]
 obtain ⟨T1, X1, e1, st1⟩ := getF X0 hx hZ hown (host := "") (Or.inl (wt hw 62 rfl)) Via.refl e0 Fg (g := (mkF m 1 #[.val (.ref a0)] [(.ref a0)])) rfl rfl (D 1 rfl)
 refine OFin.of (fun t ht => aN X0 hx (D 0 rfl) rfl rfl (st1 t ht)) ?_
 exact OFin.retI X1 hx hlk hret (D 2 rfl) (by decide) (by decide) (by rw [e1]; exact ⟨rfl, N0, rfl⟩)
theorem efIni {m : MethodId} {a0 a1 : Addr} {p2 p3 : Int32} : entryFrame m #[(.ref a0), (.ref a1), (.int p2), (.int p3)] 4 = mkF m 0 #[.val (.ref a0), .val (.ref a1), .val (.int p2), .val (.int p3)] [] := by first | (simp [entryFrame, mkF, argsToLocals, Value.category]; done) | rfl
def QIni (Z : State) (a0 a1 : Addr) (p2 p3 : Int32) (h0 : Heap) (n0 : Nat) (v : Option Value) (h : Heap) (L : List Loc) : Prop := v = none ∧ Fr n0 L ∧ Keep h0 h [a0] ∧ Mk Z h a0 (.ref a1) (.int p2) (.int p3) .null (.int 0) (.int 0) (.int 0) (.int 0) (.int 0) (.int 0) (.int 0)
theorem rmIni (l : Launch) (Z : State) (a0 : Array Value) (hw : HW a0 Z) (ws : List Jvm.Cond) (a0 a1 : Addr) (p2 p3 : Int32) (h0 : Heap) (n0 : Nat) (Z0 : n0 ≤ h0.size) (EO : Exa Z h0 a0 cA) (M0 : Mk Z h0 a0 .null (.int 0) (.int 0) .null (.int 0) (.int 0) (.int 0) (.int 0) (.int 0) (.int 0) (.int 0)) (g0 : n0 ≤ a0) :
  Con l mn6 (Jvm.Cond.code mn6 prog_7_method_1_code 4 none) ws (⟨1, 0, 0, 12⟩ : Jvm.Room) #[(.ref a0), (.ref a1), (.int p2), (.int p3)] Z h0 (QIni Z a0 a1 p2 p3 h0 n0) := by
 refine own_of (plainFor_of_name pn_0) hisR dl_prog_7_1 ?_
 intro p e s m below meth c s₁ hx D hlk hret hml hZ hown hnm X0 e0
 replace hown : s.vm.findClass cA = some m.cls := hown
 have N0 := Fr.nil n0
 rw [efIni]
 have K0 : Keep h0 h0 [a0] := Keep.refl _ _
 obtain ⟨T1, X1, e1, st1⟩ := initO X0 hx hZ hown (wt hw 40 rfl) (wt hw 41 rfl) (wt hw 42 rfl) e0 (g := (mkF m 1 #[.val (.ref a0), .val (.ref a1), .val (.int p2), .val (.int p3)] [(.ref a0)])) rfl (by rw [hml]; rfl) rfl (D 1 rfl) (by decide) (W := 0) (by show 2 * 0 + _ ≤ _; exact nE rfl) (by decide)
 refine OFin.of (fun t ht => aN X0 hx (D 0 rfl) rfl rfl (st1 t ht)) ?_
 obtain ⟨T2, h2, X2, e2, W2, st2⟩ := putF X1 hx hZ hown (host := "") (Or.inl (wt hw 43 rfl)) Via.refl e1 M0.g_text EO (Or.inr ⟨(wt hw 44 rfl), rfl, hnm⟩) (wt hw 35 rfl) (ty := (.array .byte)) (by decide) rfl rfl (g := (mkF m 6 #[.val (.ref a0), .val (.ref a1), .val (.int p2), .val (.int p3)] [(.ref a1), (.ref a0)])) rfl rfl (D 4 rfl)
 have f3 := (EO.wr W2)
 have Z4 := nT Z0 (Keep.of_wr W2).1
 have K5 := K0.wr W2 (Or.inl (mG (i := 0) rfl))
 have N6 := Fr.snoc X2 N0 g0
 have M7 := M0.put_text hw W2
 refine OFin.of (fun t ht => aN X1 hx (D 2 rfl) rfl rfl (aN X1 hx (D 3 rfl) rfl rfl (st2 t ht))) ?_
 obtain ⟨T8, h8, X8, e8, W8, st8⟩ := putF X2 hx hZ hown (host := "") (Or.inl (wt hw 45 rfl)) Via.refl e2 M7.g_at f3 (Or.inl (wt hw 46 rfl)) (wt hw 35 rfl) (ty := .int) (by decide) rfl rfl (g := (mkF m 11 #[.val (.ref a0), .val (.ref a1), .val (.int p2), .val (.int p3)] [(.int p2), (.ref a0)])) rfl rfl (D 7 rfl)
 have f9 := (f3.wr W8)
 have Z10 := nT Z4 (Keep.of_wr W8).1
 have K11 := K5.wr W8 (Or.inl (mG (i := 0) rfl))
 have N12 := Fr.snoc X8 N6 g0
 have M13 := M7.put_at hw W8
 refine OFin.of (fun t ht => aN X2 hx (D 5 rfl) rfl rfl (iN X2 hx (D 6 rfl) rfl (st8 t ht))) ?_
 obtain ⟨T14, h14, X14, e14, W14, st14⟩ := putF X8 hx hZ hown (host := "") (Or.inl (wt hw 47 rfl)) Via.refl e8 M13.g_end f9 (Or.inr ⟨(wt hw 48 rfl), rfl, hnm⟩) (wt hw 35 rfl) (ty := .int) (by decide) rfl rfl (g := (mkF m 16 #[.val (.ref a0), .val (.ref a1), .val (.int p2), .val (.int p3)] [(.int p3), (.ref a0)])) rfl rfl (D 10 rfl)
 have f15 := (f9.wr W14)
 have Z16 := nT Z10 (Keep.of_wr W14).1
 have K17 := K11.wr W14 (Or.inl (mG (i := 0) rfl))
 have N18 := Fr.snoc X14 N12 g0
 have M19 := M13.put_end hw W14
 refine OFin.of (fun t ht => aN X8 hx (D 8 rfl) rfl rfl (iN X8 hx (D 9 rfl) rfl (st14 t ht))) ?_
 exact OFin.retV X14 hx hlk hret (D 11 rfl) (by decide) (by decide) (by rw [e14]; exact ⟨rfl, N18, K17, M19⟩)
theorem pn_1 : plainName cG = true := by first | (simp [plainName, overriddenIn]; done) | decide +kernel
theorem efCkN {m : MethodId} {p0 p1 : Int32} : entryFrame m #[(.int p0), (.int p1), .null] 3 = mkF m 0 #[.val (.int p0), .val (.int p1), .val .null] [] := by first | (simp [entryFrame, mkF, argsToLocals, Value.category]; done) | rfl
def QCkN (Z : State) (p0 p1 : Int32) (h0 : Heap) (n0 : Nat) (v : Option Value) (h : Heap) (L : List Loc) : Prop := v = some (.int p0) ∧ Fr n0 L ∧ h = h0
theorem rmCkN (l : Launch) (Z : State) (a0 : Array Value) (hw : HW a0 Z) (ws : List Jvm.Cond) (p0 p1 : Int32) (h0 : Heap) (n0 : Nat) (Z0 : n0 ≤ h0.size) (hc0 : ¬ p0 < 0) (hc1 : p0 < p1) :
  Con l mn7 (Jvm.Cond.code mn7 jdk_41_method_11_code 3 (some .int)) ws (⟨0, 0, 0, 0⟩ : Jvm.Room) #[(.int p0), (.int p1), .null] Z h0 (QCkN Z p0 p1 h0 n0) := by
 refine own_of (plainFor_of_name pn_1) hisR dl_jdk_41_11 ?_
 intro p e s m below meth c s₁ hx D hlk hret hml hZ hown hnm X0 e0
 replace hown : s.vm.findClass cG = some m.cls := hown
 have N0 := Fr.nil n0
 rw [efCkN]
 refine OFin.of (S' := s₁.setTop (mkF m 17 #[.val (.int p0), .val (.int p1), .val .null] [(.int p0)])) (fun t ht => iN X0 hx (D 0 rfl) rfl (fN X0 hx (D 1 rfl) rfl ((if0 _ _).trans (flt hc0).1) (iN X0 hx (D 2 rfl) rfl (iN X0 hx (D 3 rfl) rfl (cY X0 hx 6 16 rfl (D 4 rfl) rfl (tlt hc1).1 (by decide) (iN X0 hx (D 5 rfl) rfl ht)))))) ?_
 exact OFin.retI X0 hx hlk hret (D 6 rfl) (by decide) (by decide) (by rw [e0]; exact ⟨rfl, N0, rfl⟩)
theorem efCkR {m : MethodId} {p0 p1 : Int32} {a2 : Addr} : entryFrame m #[(.int p0), (.int p1), (.ref a2)] 3 = mkF m 0 #[.val (.int p0), .val (.int p1), .val (.ref a2)] [] := by first | (simp [entryFrame, mkF, argsToLocals, Value.category]; done) | rfl
def QCkR (Z : State) (p0 p1 : Int32) (a2 : Addr) (h0 : Heap) (n0 : Nat) (v : Option Value) (h : Heap) (L : List Loc) : Prop := v = some (.int p0) ∧ Fr n0 L ∧ h = h0
theorem rmCkR (l : Launch) (Z : State) (a0 : Array Value) (hw : HW a0 Z) (ws : List Jvm.Cond) (p0 p1 : Int32) (a2 : Addr) (h0 : Heap) (n0 : Nat) (Z0 : n0 ≤ h0.size) (hc0 : ¬ p0 < 0) (hc1 : p0 < p1) :
  Con l mn7 (Jvm.Cond.code mn7 jdk_41_method_11_code 3 (some .int)) ws (⟨0, 0, 0, 0⟩ : Jvm.Room) #[(.int p0), (.int p1), (.ref a2)] Z h0 (QCkR Z p0 p1 a2 h0 n0) := by
 refine own_of (plainFor_of_name pn_1) hisR dl_jdk_41_11 ?_
 intro p e s m below meth c s₁ hx D hlk hret hml hZ hown hnm X0 e0
 replace hown : s.vm.findClass cG = some m.cls := hown
 have N0 := Fr.nil n0
 rw [efCkR]
 refine OFin.of (S' := s₁.setTop (mkF m 17 #[.val (.int p0), .val (.int p1), .val (.ref a2)] [(.int p0)])) (fun t ht => iN X0 hx (D 0 rfl) rfl (fN X0 hx (D 1 rfl) rfl ((if0 _ _).trans (flt hc0).1) (iN X0 hx (D 2 rfl) rfl (iN X0 hx (D 3 rfl) rfl (cY X0 hx 6 16 rfl (D 4 rfl) rfl (tlt hc1).1 (by decide) (iN X0 hx (D 5 rfl) rfl ht)))))) ?_
 exact OFin.retI X0 hx hlk hret (D 6 rfl) (by decide) (by decide) (by rw [e0]; exact ⟨rfl, N0, rfl⟩)
theorem rmCk (l : Launch) (Z : State) (a0 : Array Value) (hw : HW a0 Z) (p0 p1 : Int32) (fm : Value) (hfm : fm.isRef = true) (h0 : Heap) (n0 : Nat) (Z0 : n0 ≤ h0.size) (hc0 : ¬ p0 < 0) (hc1 : p0 < p1) :
  Con l mn7 (Jvm.Cond.code mn7 jdk_41_method_11_code 3 (some .int)) [] (⟨0, 0, 0, 0⟩ : Jvm.Room) #[(.int p0), (.int p1), fm] Z h0 (OwnMet p0 h0 n0) := by
 rcases ref_cases hfm with rfl | ⟨f, rfl⟩
 ·exact rmCkN l Z _ hw [] p0 p1 h0 n0 Z0 hc0 hc1
 ·exact rmCkR l Z _ hw [] p0 p1 f h0 n0 Z0 hc0 hc1
theorem pn_2 : plainName cB = true := by first | (simp [plainName, overriddenIn]; done) | decide +kernel
theorem efCkS {m : MethodId} {p0 p1 : Int32} : entryFrame m #[(.int p0), (.int p1)] 2 = mkF m 0 #[.val (.int p0), .val (.int p1)] [] := by first | (simp [entryFrame, mkF, argsToLocals, Value.category]; done) | rfl
def QCkS (Z : State) (p0 p1 : Int32) (fm : Value) (h0 : Heap) (n0 : Nat) (v : Option Value) (h : Heap) (L : List Loc) : Prop := v = none ∧ Fr n0 L ∧ h = h0
theorem rmCkS (l : Launch) (Z : State) (a0 : Array Value) (hw : HW a0 Z) (ws : List Jvm.Cond) (p0 p1 : Int32) (fm : Value) (h0 : Heap) (n0 : Nat) (Z0 : n0 ≤ h0.size) (Sfm : Sta Z h0 cG "SIOOBE_FORMATTER" cE fm) (hfm : fm.isRef = true) (hc0 : ¬ p0 < 0) (hc1 : p0 < p1) :
  Con l mn8 (Jvm.Cond.code mn8 jdk_42_method_155_code 2 none) ws (⟨1, 0, 0, 14⟩ : Jvm.Room) #[(.int p0), (.int p1)] Z h0 (QCkS Z p0 p1 fm h0 n0) := by
 refine own_of (plainFor_of_name pn_2) hisR dl_jdk_42_155 ?_
 intro p e s m below meth c s₁ hx D hlk hret hml hZ hown hnm X0 e0
 replace hown : s.vm.findClass cB = some m.cls := hown
 have N0 := Fr.nil n0
 rw [efCkS]
 obtain ⟨T1, X1, e1, st1⟩ := getS (host := "") X0 hx hZ hown (wt hw 126 rfl) Via.refl e0 Sfm (g := (mkF m 2 #[.val (.int p0), .val (.int p1)] [(.int p1), (.int p0)])) rfl (D 2 rfl)
 refine OFin.of (fun t ht => iN X0 hx (D 0 rfl) rfl (iN X0 hx (D 1 rfl) rfl (st1 t ht))) ?_
 obtain ⟨_, T2, Lc2, X2, hQ2, st2⟩ := own_cS X1 hx hw hZ hown 159 160 127 161 rfl rfl rfl rfl (by decide) (rmCk l Z _ hw p0 p1 fm hfm h0 n0 Z0 hc0 hc1) (by decide) (by decide) (g := (mkF m 5 #[.val (.int p0), .val (.int p1)] [fm, (.int p1), (.int p0)])) rfl hml rfl (argsL := [(.int p0), (.int p1), fm]) (rest := []) pd_1 rfl rfl rfl (W := 0) (nE rfl) (D 3 rfl) rfl e1 (by decide) (by decide)
 obtain ⟨rfl, Nq2, hs2⟩ := hQ2
 have N3 := Fr.app N0 Nq2
 refine OFin.to st2 ?_
 refine OFin.of (S' := T2.setTop (mkF m 9 #[.val (.int p0), .val (.int p1)] [])) (fun t ht => XS.pop X2.here hx rfl (D 4 rfl) rfl rfl ht) ?_
 exact OFin.retV X2 hx hlk hret (D 5 rfl) (by decide) (by decide) (by rw [hs2]; exact ⟨rfl, N3, rfl⟩)
theorem efCod0 {m : MethodId} {a0 : Addr} : entryFrame m #[(.ref a0)] 1 = mkF m 0 #[.val (.ref a0)] [] := by first | (simp [entryFrame, mkF, argsToLocals, Value.category]; done) | rfl
def QCod0 (Z : State) (a0 : Addr) (cs : Int32) (h0 : Heap) (n0 : Nat) (v : Option Value) (h : Heap) (L : List Loc) : Prop := v = some (.int 0) ∧ Fr n0 L ∧ h = h0
theorem rmCod0 (l : Launch) (Z : State) (a0 : Array Value) (hw : HW a0 Z) (ws : List Jvm.Cond) (a0 : Addr) (cs : Int32) (h0 : Heap) (n0 : Nat) (Z0 : n0 ≤ h0.size) (Fc : Fld Z h0 a0 cB "coder" "B" (.int 0)) (Scs : Sta Z h0 cB "COMPACT_STRINGS" "Z" (.int cs)) (hcs : ¬ cs = 0) :
  Con l mn9 (Jvm.Cond.code mn9 jdk_42_method_152_code 1 (some .byte)) ws (⟨0, 0, 0, 0⟩ : Jvm.Room) #[(.ref a0)] Z h0 (QCod0 Z a0 cs h0 n0) := by
 refine own_of (plainFor_of_name pn_2) hisR dl_jdk_42_152 ?_
 intro p e s m below meth c s₁ hx D hlk hret hml hZ hown hnm X0 e0
 replace hown : s.vm.findClass cB = some m.cls := hown
 have N0 := Fr.nil n0
 rw [efCod0]
 obtain ⟨T1, X1, e1, st1⟩ := getS (host := "") X0 hx hZ hown (wt hw 29 rfl) Via.refl e0 Scs (g := (mkF m 0 #[.val (.ref a0)] [])) rfl (D 0 rfl)
 refine OFin.of st1 ?_
 obtain ⟨T2, X2, e2, st2⟩ := getF X1 hx hZ hown (host := "") (Or.inl (wt hw 30 rfl)) Via.refl e1 Fc (g := (mkF m 7 #[.val (.ref a0)] [(.ref a0)])) rfl rfl (D 3 rfl)
 refine OFin.of (fun t ht => fN X1 hx (D 1 rfl) rfl ((if0 _ _).trans (feq (hcs : ¬ (cs = 0))).1) (aN X1 hx (D 2 rfl) rfl rfl (st2 t ht))) ?_
 refine OFin.of (S' := T2.setTop (mkF m 14 #[.val (.ref a0)] [(.int 0)])) (fun t ht => gO X2 hx 10 14 rfl (D 4 rfl) (by decide) ht) ?_
 exact OFin.retB X2 hx hlk (t := .byte) (by simp) hret (D 5 rfl) (by decide) (by decide) (by rw [e2]; exact ⟨(by show some (Value.int (nar .byte (0 : Int32))) = _; rfl), N0, rfl⟩)
theorem efIsL0 {m : MethodId} {a0 : Addr} : entryFrame m #[(.ref a0)] 1 = mkF m 0 #[.val (.ref a0)] [] := by first | (simp [entryFrame, mkF, argsToLocals, Value.category]; done) | rfl
def QIsL0 (Z : State) (a0 : Addr) (cs : Int32) (h0 : Heap) (n0 : Nat) (v : Option Value) (h : Heap) (L : List Loc) : Prop := v = some (.int 1) ∧ Fr n0 L ∧ h = h0
theorem rmIsL0 (l : Launch) (Z : State) (a0 : Array Value) (hw : HW a0 Z) (ws : List Jvm.Cond) (a0 : Addr) (cs : Int32) (h0 : Heap) (n0 : Nat) (Z0 : n0 ≤ h0.size) (Fc : Fld Z h0 a0 cB "coder" "B" (.int 0)) (Scs : Sta Z h0 cB "COMPACT_STRINGS" "Z" (.int cs)) (hcs : ¬ cs = 0) :
  Con l mn10 (Jvm.Cond.code mn10 jdk_42_method_154_code 1 (some .boolean)) ws (⟨0, 0, 0, 0⟩ : Jvm.Room) #[(.ref a0)] Z h0 (QIsL0 Z a0 cs h0 n0) := by
 refine own_of (plainFor_of_name pn_2) hisR dl_jdk_42_154 ?_
 intro p e s m below meth c s₁ hx D hlk hret hml hZ hown hnm X0 e0
 replace hown : s.vm.findClass cB = some m.cls := hown
 have N0 := Fr.nil n0
 rw [efIsL0]
 obtain ⟨T1, X1, e1, st1⟩ := getS (host := "") X0 hx hZ hown (wt hw 29 rfl) Via.refl e0 Scs (g := (mkF m 0 #[.val (.ref a0)] [])) rfl (D 0 rfl)
 refine OFin.of st1 ?_
 obtain ⟨T2, X2, e2, st2⟩ := getF X1 hx hZ hown (host := "") (Or.inl (wt hw 30 rfl)) Via.refl e1 Fc (g := (mkF m 7 #[.val (.ref a0)] [(.ref a0)])) rfl rfl (D 3 rfl)
 refine OFin.of (fun t ht => fN X1 hx (D 1 rfl) rfl ((if0 _ _).trans (feq (hcs : ¬ (cs = 0))).1) (aN X1 hx (D 2 rfl) rfl rfl (st2 t ht))) ?_
 refine OFin.of (S' := T2.setTop (mkF m 18 #[.val (.ref a0)] [(.int 1)])) (fun t ht => fN X2 hx (D 4 rfl) rfl ((if0 _ _).trans (teq (by decide : (0 : Int32) = 0)).2) (iC X2 hx (D 5 rfl) (gO X2 hx 14 18 rfl (D 6 rfl) (by decide) ht))) ?_
 exact OFin.retB X2 hx hlk (t := .boolean) (by simp) hret (D 7 rfl) (by decide) (by decide) (by rw [e2]; exact ⟨(by show some (Value.int (nar .boolean (1 : Int32))) = _; rfl), N0, rfl⟩)
theorem efCod1 {m : MethodId} {a0 : Addr} : entryFrame m #[(.ref a0)] 1 = mkF m 0 #[.val (.ref a0)] [] := by first | (simp [entryFrame, mkF, argsToLocals, Value.category]; done) | rfl
def QCod1 (Z : State) (a0 : Addr) (cs : Int32) (h0 : Heap) (n0 : Nat) (v : Option Value) (h : Heap) (L : List Loc) : Prop := v = some (.int 1) ∧ Fr n0 L ∧ h = h0
theorem rmCod1 (l : Launch) (Z : State) (a0 : Array Value) (hw : HW a0 Z) (ws : List Jvm.Cond) (a0 : Addr) (cs : Int32) (h0 : Heap) (n0 : Nat) (Z0 : n0 ≤ h0.size) (Fc : Fld Z h0 a0 cB "coder" "B" (.int 1)) (Scs : Sta Z h0 cB "COMPACT_STRINGS" "Z" (.int cs)) (hcs : ¬ cs = 0) :
  Con l mn9 (Jvm.Cond.code mn9 jdk_42_method_152_code 1 (some .byte)) ws (⟨0, 0, 0, 0⟩ : Jvm.Room) #[(.ref a0)] Z h0 (QCod1 Z a0 cs h0 n0) := by
 refine own_of (plainFor_of_name pn_2) hisR dl_jdk_42_152 ?_
 intro p e s m below meth c s₁ hx D hlk hret hml hZ hown hnm X0 e0
 replace hown : s.vm.findClass cB = some m.cls := hown
 have N0 := Fr.nil n0
 rw [efCod1]
 obtain ⟨T1, X1, e1, st1⟩ := getS (host := "") X0 hx hZ hown (wt hw 29 rfl) Via.refl e0 Scs (g := (mkF m 0 #[.val (.ref a0)] [])) rfl (D 0 rfl)
 refine OFin.of st1 ?_
 obtain ⟨T2, X2, e2, st2⟩ := getF X1 hx hZ hown (host := "") (Or.inl (wt hw 30 rfl)) Via.refl e1 Fc (g := (mkF m 7 #[.val (.ref a0)] [(.ref a0)])) rfl rfl (D 3 rfl)
 refine OFin.of (fun t ht => fN X1 hx (D 1 rfl) rfl ((if0 _ _).trans (feq (hcs : ¬ (cs = 0))).1) (aN X1 hx (D 2 rfl) rfl rfl (st2 t ht))) ?_
 refine OFin.of (S' := T2.setTop (mkF m 14 #[.val (.ref a0)] [(.int 1)])) (fun t ht => gO X2 hx 10 14 rfl (D 4 rfl) (by decide) ht) ?_
 exact OFin.retB X2 hx hlk (t := .byte) (by simp) hret (D 5 rfl) (by decide) (by decide) (by rw [e2]; exact ⟨(by show some (Value.int (nar .byte (1 : Int32))) = _; rfl), N0, rfl⟩)
theorem efIsL1 {m : MethodId} {a0 : Addr} : entryFrame m #[(.ref a0)] 1 = mkF m 0 #[.val (.ref a0)] [] := by first | (simp [entryFrame, mkF, argsToLocals, Value.category]; done) | rfl
def QIsL1 (Z : State) (a0 : Addr) (cs : Int32) (h0 : Heap) (n0 : Nat) (v : Option Value) (h : Heap) (L : List Loc) : Prop := v = some (.int 0) ∧ Fr n0 L ∧ h = h0
theorem rmIsL1 (l : Launch) (Z : State) (a0 : Array Value) (hw : HW a0 Z) (ws : List Jvm.Cond) (a0 : Addr) (cs : Int32) (h0 : Heap) (n0 : Nat) (Z0 : n0 ≤ h0.size) (Fc : Fld Z h0 a0 cB "coder" "B" (.int 1)) (Scs : Sta Z h0 cB "COMPACT_STRINGS" "Z" (.int cs)) (hcs : ¬ cs = 0) :
  Con l mn10 (Jvm.Cond.code mn10 jdk_42_method_154_code 1 (some .boolean)) ws (⟨0, 0, 0, 0⟩ : Jvm.Room) #[(.ref a0)] Z h0 (QIsL1 Z a0 cs h0 n0) := by
 refine own_of (plainFor_of_name pn_2) hisR dl_jdk_42_154 ?_
 intro p e s m below meth c s₁ hx D hlk hret hml hZ hown hnm X0 e0
 replace hown : s.vm.findClass cB = some m.cls := hown
 have N0 := Fr.nil n0
 rw [efIsL1]
 obtain ⟨T1, X1, e1, st1⟩ := getS (host := "") X0 hx hZ hown (wt hw 29 rfl) Via.refl e0 Scs (g := (mkF m 0 #[.val (.ref a0)] [])) rfl (D 0 rfl)
 refine OFin.of st1 ?_
 obtain ⟨T2, X2, e2, st2⟩ := getF X1 hx hZ hown (host := "") (Or.inl (wt hw 30 rfl)) Via.refl e1 Fc (g := (mkF m 7 #[.val (.ref a0)] [(.ref a0)])) rfl rfl (D 3 rfl)
 refine OFin.of (fun t ht => fN X1 hx (D 1 rfl) rfl ((if0 _ _).trans (feq (hcs : ¬ (cs = 0))).1) (aN X1 hx (D 2 rfl) rfl rfl (st2 t ht))) ?_
 refine OFin.of (S' := T2.setTop (mkF m 18 #[.val (.ref a0)] [(.int 0)])) (fun t ht => fY X2 hx 10 17 rfl (D 4 rfl) rfl ((if0 _ _).trans (feq (by decide : ¬ ((1 : Int32) = 0))).2) (by decide) (iC X2 hx (D 8 rfl) ht)) ?_
 exact OFin.retB X2 hx hlk (t := .boolean) (by simp) hret (D 7 rfl) (by decide) (by decide) (by rw [e2]; exact ⟨(by show some (Value.int (nar .boolean (0 : Int32))) = _; rfl), N0, rfl⟩)
theorem efLen {m : MethodId} {a0 : Addr} : entryFrame m #[(.ref a0)] 1 = mkF m 0 #[.val (.ref a0)] [] := by first | (simp [entryFrame, mkF, argsToLocals, Value.category]; done) | rfl
def QLen (Z : State) (a0 tv : Addr) (kv : ClassId) (ls : List Int32) (cs : Int32) (h0 : Heap) (n0 : Nat) (v : Option Value) (h : Heap) (L : List Loc) : Prop := v = some (.int (oN ls.length)) ∧ Fr n0 L ∧ h = h0
theorem rmLen (l : Launch) (Z : State) (a0 : Array Value) (hw : HW a0 Z) (ws : List Jvm.Cond) (a0 tv : Addr) (kv : ClassId) (ls : List Int32) (cs : Int32) (h0 : Heap) (n0 : Nat) (Z0 : n0 ≤ h0.size) (ES : Exa Z h0 a0 cB) (Fc : Fld Z h0 a0 cB "coder" "B" (.int 0)) (Fv : Fld Z h0 a0 cB "value" "[B" (.ref tv)) (Tv : Txt Z h0 tv kv (oN ls.length) ls) (Scs : Sta Z h0 cB "COMPACT_STRINGS" "Z" (.int cs)) (hcs : ¬ cs = 0) :
  Con l mn11 (Jvm.Cond.code mn11 jdk_42_method_54_code 1 (some .int)) ws (⟨1, 0, 0, 13⟩ : Jvm.Room) #[(.ref a0)] Z h0 (QLen Z a0 tv kv ls cs h0 n0) := by
 refine own_of (plainFor_of_name pn_2) hisR dl_jdk_42_54 ?_
 intro p e s m below meth c s₁ hx D hlk hret hml hZ hown hnm X0 e0
 replace hown : s.vm.findClass cB = some m.cls := hown
 have N0 := Fr.nil n0
 rw [efLen]
 obtain ⟨T1, X1, e1, st1⟩ := getF X0 hx hZ hown (host := "") (Or.inl (wt hw 23 rfl)) Via.refl e0 Fv (g := (mkF m 1 #[.val (.ref a0)] [(.ref a0)])) rfl rfl (D 1 rfl)
 refine OFin.of (fun t ht => aN X0 hx (D 0 rfl) rfl rfl (st1 t ht)) ?_
 obtain ⟨bs2, ⟨cl2, Ar2, q2, S2, Ng2, H2, G2⟩, -⟩ := id Tv
 refine OFin.of (fun t ht => own_alen X1 hx hZ e1 Ar2 S2 Ng2 (g := (mkF m 4 #[.val (.ref a0)] [(.ref tv)])) rfl rfl (D 2 rfl) ht) ?_
 obtain ⟨_, T3, Lc3, X3, hQ3, st3⟩ := own_cV X1 hx hw hZ hown 24 25 27 26 6 28 rfl rfl rfl rfl rfl rfl (by decide) ES (rmCod0 l Z _ hw [] a0 cs h0 n0 Z0 Fc Scs hcs) (by decide) (by decide) (g := (mkF m 6 #[.val (.ref a0)] [(.ref a0), (.int (oN ls.length))])) rfl hml rfl (argsL := []) (rest := [(.int (oN ls.length))]) pd_2 rfl rfl rfl (W := 1) (nE rfl) (D 4 rfl) rfl e1 (by decide) (by decide)
 obtain ⟨rfl, Nq3, hs3⟩ := hQ3
 have N4 := Fr.app N0 Nq3
 refine OFin.of (fun t ht => aN X1 hx (D 3 rfl) rfl rfl (st3.trans ht)) ?_
 refine OFin.of (S' := T3.setTop (mkF m 10 #[.val (.ref a0)] [(.int ((oN ls.length) >>> ((0 : Int32) &&& 31)))])) (fun t ht => XS.ishr X3.here hx rfl (D 5 rfl) rfl ht) ?_
 exact OFin.retI X3 hx hlk hret (D 6 rfl) (by decide) (by decide) (by rw [hs3]; exact ⟨(by show some (Value.int ((oN ls.length) >>> ((0 : Int32) &&& 31))) = _; rw [own_shr0]), N4, rfl⟩)
theorem pn_3 : plainName cJ = true := by first | (simp [plainName, overriddenIn]; done) | decide +kernel
theorem efL1c {m : MethodId} {a0 : Addr} {ix : Nat} : entryFrame m #[(.ref a0), (.int (oN ix))] 2 = mkF m 0 #[.val (.ref a0), .val (.int (oN ix))] [] := by first | (simp [entryFrame, mkF, argsToLocals, Value.category]; done) | rfl
def QL1c (Z : State) (a0 : Addr) (kv : ClassId) (ls : List Int32) (ix : Nat) (fm : Value) (h0 : Heap) (n0 : Nat) (v : Option Value) (h : Heap) (L : List Loc) : Prop := v = some (.int (ls.getD ix 0)) ∧ Fr n0 L ∧ h = h0
theorem rmL1c (l : Launch) (Z : State) (a0 : Array Value) (hw : HW a0 Z) (ws : List Jvm.Cond) (a0 : Addr) (kv : ClassId) (ls : List Int32) (ix : Nat) (fm : Value) (h0 : Heap) (n0 : Nat) (Z0 : n0 ≤ h0.size) (Tv : Txt Z h0 a0 kv (oN ls.length) ls) (Sfm : Sta Z h0 cG "SIOOBE_FORMATTER" cE fm) (hfm : fm.isRef = true) (hli : OwnLit ls) (hix : ix < ls.length) :
  Con l mn12 (Jvm.Cond.code mn12 jdk_43_method_2_code 2 (some .char)) ws (⟨2, 0, 0, 27⟩ : Jvm.Room) #[(.ref a0), (.int (oN ix))] Z h0 (QL1c Z a0 kv ls ix fm h0 n0) := by
 refine own_of (plainFor_of_name pn_3) hisR dl_jdk_43_2 ?_
 intro p e s m below meth c s₁ hx D hlk hret hml hZ hown hnm X0 e0
 replace hown : s.vm.findClass cJ = some m.cls := hown
 have N0 := Fr.nil n0
 rw [efL1c]
 obtain ⟨bs1, ⟨cl1, Ar1, q1, S1, Ng1, H1, G1⟩, -⟩ := id Tv
 refine OFin.of (fun t ht => iN X0 hx (D 0 rfl) rfl (aN X0 hx (D 1 rfl) rfl rfl (own_alen X0 hx hZ e0 Ar1 S1 Ng1 (g := (mkF m 2 #[.val (.ref a0), .val (.int (oN ix))] [(.ref a0), (.int (oN ix))])) rfl rfl (D 2 rfl) ht))) ?_
 obtain ⟨_, T2, Lc2, X2, hQ2, st2⟩ := own_cS X0 hx hw hZ hown 156 157 6 158 rfl rfl rfl rfl (by decide) (rmCkS l Z _ hw [] (oN ix) (oN ls.length) fm h0 n0 Z0 Sfm hfm (own_nz _ (by have := hli.1; omega)) ((own_natlt (by have := hli.1; omega) (by have := hli.1; omega)).mpr hix)) (by decide) (by decide) (g := (mkF m 3 #[.val (.ref a0), .val (.int (oN ix))] [(.int (oN ls.length)), (.int (oN ix))])) rfl hml rfl (argsL := [(.int (oN ix)), (.int (oN ls.length))]) (rest := []) pd_3 rfl rfl rfl (W := 0) (nE rfl) (D 3 rfl) rfl e0 (by decide) (by decide)
 obtain ⟨rfl, Nq2, hs2⟩ := hQ2
 have N3 := Fr.app N0 Nq2
 refine OFin.to st2 ?_
 obtain ⟨cl4, Ar4, hin4, hat4⟩ := Txt.at Tv (j := (oN ix)) (i := ix) rfl hix
 refine OFin.of (fun t ht => aN X2 hx (D 4 rfl) rfl rfl (iN X2 hx (D 5 rfl) rfl (X2.baloadBytes hx (j := (oN ix)) (v := (.int (ls.getD ix 0))) (by rw [hs2]; exact Ar4.1) (State.isArrayOf_alike hZ.alike Ar4.2.1) Ar4.2.2 hin4 hat4 (g := (mkF m 8 #[.val (.ref a0), .val (.int (oN ix))] [(.int (oN ix)), (.ref a0)])) rfl rfl (D 6 rfl) _ ht))) ?_
 refine OFin.of (S' := T2.setTop (mkF m 14 #[.val (.ref a0), .val (.int (oN ix))] [(.int (((ls.getD ix 0) &&& (255 : Int32)).toUInt32.toUInt16.toUInt32.toInt32))])) (fun t ht => XS.sipush X2.here hx rfl (D 7 rfl) (XS.iand X2.here hx rfl (D 8 rfl) rfl (XS.i2c X2.here hx rfl (D 9 rfl) rfl ht))) ?_
 exact OFin.retB X2 hx hlk (t := .char) (by simp) hret (D 10 rfl) (by decide) (by decide) (by rw [hs2]; exact ⟨(by show some (Value.int (nar .char (((ls.getD ix 0) &&& (255 : Int32)).toUInt32.toUInt16.toUInt32.toInt32))) = _; have z := own_lget hli hix; rw [(own_ch z.1 z.2).2.2]; rw [(own_cf128x z.1 z.2)]), N3, rfl⟩)
theorem efChA {m : MethodId} {a0 : Addr} {ix : Nat} : entryFrame m #[(.ref a0), (.int (oN ix))] 2 = mkF m 0 #[.val (.ref a0), .val (.int (oN ix))] [] := by first | (simp [entryFrame, mkF, argsToLocals, Value.category]; done) | rfl
def QChA (Z : State) (a0 tv : Addr) (kv : ClassId) (ls : List Int32) (cs : Int32) (fm : Value) (ix : Nat) (h0 : Heap) (n0 : Nat) (v : Option Value) (h : Heap) (L : List Loc) : Prop := v = some (.int (ls.getD ix 0)) ∧ Fr n0 L ∧ h = h0
theorem rmChA (l : Launch) (Z : State) (a0 : Array Value) (hw : HW a0 Z) (ws : List Jvm.Cond) (a0 tv : Addr) (kv : ClassId) (ls : List Int32) (cs : Int32) (fm : Value) (ix : Nat) (h0 : Heap) (n0 : Nat) (Z0 : n0 ≤ h0.size) (ES : Exa Z h0 a0 cB) (Fc : Fld Z h0 a0 cB "coder" "B" (.int 0)) (Fv : Fld Z h0 a0 cB "value" "[B" (.ref tv)) (Tv : Txt Z h0 tv kv (oN ls.length) ls) (Scs : Sta Z h0 cB "COMPACT_STRINGS" "Z" (.int cs)) (hcs : ¬ cs = 0) (Sfm : Sta Z h0 cG "SIOOBE_FORMATTER" cE fm) (hfm : fm.isRef = true) (hli : OwnLit ls) (hix : ix < ls.length) :
  Con l mn13 (Jvm.Cond.code mn13 jdk_42_method_56_code 2 (some .char)) ws (⟨3, 0, 0, 40⟩ : Jvm.Room) #[(.ref a0), (.int (oN ix))] Z h0 (QChA Z a0 tv kv ls cs fm ix h0 n0) := by
 refine own_of (plainFor_of_name pn_2) hisR dl_jdk_42_56 ?_
 intro p e s m below meth c s₁ hx D hlk hret hml hZ hown hnm X0 e0
 replace hown : s.vm.findClass cB = some m.cls := hown
 have N0 := Fr.nil n0
 rw [efChA]
 obtain ⟨_, T1, Lc1, X1, hQ1, st1⟩ := own_cV X0 hx hw hZ hown 147 148 150 149 6 151 rfl rfl rfl rfl rfl rfl (by decide) ES (rmIsL0 l Z _ hw [] a0 cs h0 n0 Z0 Fc Scs hcs) (by decide) (by decide) (g := (mkF m 1 #[.val (.ref a0), .val (.int (oN ix))] [(.ref a0)])) rfl hml rfl (argsL := []) (rest := []) pd_4 rfl rfl rfl (W := 0) (nE rfl) (D 1 rfl) rfl e0 (by decide) (by decide)
 obtain ⟨rfl, Nq1, hs1⟩ := hQ1
 have N2 := Fr.app N0 Nq1
 refine OFin.of (fun t ht => aN X0 hx (D 0 rfl) rfl rfl (st1.trans ht)) ?_
 obtain ⟨T3, X3, e3, st3⟩ := getF X1 hx hZ hown (host := "") (Or.inl (wt hw 23 rfl)) Via.refl hs1 Fv (g := (mkF m 8 #[.val (.ref a0), .val (.int (oN ix))] [(.ref a0)])) rfl rfl (D 4 rfl)
 refine OFin.of (fun t ht => fN X1 hx (D 2 rfl) rfl ((if0 _ _).trans (feq (by decide : ¬ ((1 : Int32) = 0))).1) (aN X1 hx (D 3 rfl) rfl rfl (st3 t ht))) ?_
 obtain ⟨_, T4, Lc4, X4, hQ4, st4⟩ := own_cS X3 hx hw hZ hown 152 153 154 155 rfl rfl rfl rfl (by decide) (rmL1c l Z _ hw [] tv kv ls ix fm h0 n0 Z0 Tv Sfm hfm hli hix) (by decide) (by decide) (g := (mkF m 12 #[.val (.ref a0), .val (.int (oN ix))] [(.int (oN ix)), (.ref tv)])) rfl hml rfl (argsL := [(.ref tv), (.int (oN ix))]) (rest := []) pd_5 rfl rfl rfl (W := 0) (nE rfl) (D 6 rfl) rfl e3 (by decide) (by decide)
 obtain ⟨rfl, Nq4, hs4⟩ := hQ4
 have N5 := Fr.app N2 Nq4
 refine OFin.of (fun t ht => iN X3 hx (D 5 rfl) rfl (st4.trans ht)) ?_
 exact OFin.retB X4 hx hlk (t := .char) (by simp) hret (D 7 rfl) (by decide) (by decide) (by rw [hs4]; exact ⟨(by show some (Value.int (nar .char (ls.getD ix 0))) = _; have z := own_lget hli hix; rw [(own_cf128x z.1 z.2)]), N5, rfl⟩)
theorem efSw {m : MethodId} {a0 a2 : Addr} {i0 : Nat} : entryFrame m #[(.ref a0), (.int (oN i0)), (.ref a2)] 4 = mkF m 0 #[.val (.ref a0), .val (.int (oN i0)), .val (.ref a2), .unset] [] := by first | (simp [entryFrame, mkF, argsToLocals, Value.category]; done) | rfl
def QSw (Z : State) (a0 a2 tx : Addr) (kt : ClassId) (nt : Int32) (pre : List Int32) (tv : Addr) (kv : ClassId) (ls : List Int32) (cs : Int32) (fm : Value) (i0 : Nat) (r : Int32) (h0 : Heap) (n0 : Nat) (v : Option Value) (h : Heap) (L : List Loc) : Prop := v = some (.int r) ∧ Fr n0 L ∧ h = h0
theorem rmSw (l : Launch) (Z : State) (a0 : Array Value) (hw : HW a0 Z) (ws : List Jvm.Cond) (a0 a2 tx : Addr) (kt : ClassId) (nt : Int32) (pre : List Int32) (tv : Addr) (kv : ClassId) (ls : List Int32) (cs : Int32) (fm : Value) (i0 : Nat) (r : Int32) (h0 : Heap) (n0 : Nat) (Z0 : n0 ≤ h0.size) (EO : Exa Z h0 a0 cA) (Ft : Fld Z h0 a0 cA "text" "[B" (.ref tx)) (Fe : Fld Z h0 a0 cA "end" "I" (.int (oN pre.length))) (Tx : Txt Z h0 tx kt nt pre) (ES : Exa Z h0 a2 cB) (Fc : Fld Z h0 a2 cB "coder" "B" (.int 0)) (Fv : Fld Z h0 a2 cB "value" "[B" (.ref tv)) (Tv : Txt Z h0 tv kv (oN ls.length) ls) (Scs : Sta Z h0 cB "COMPACT_STRINGS" "Z" (.int cs)) (hcs : ¬ cs = 0) (Sfm : Sta Z h0 cG "SIOOBE_FORMATTER" cE fm) (hfm : fm.isRef = true) (hli : OwnLit ls) (hi0 : i0 ≤ pre.length) (hn3 : nt.toNatClampNeg < 1000) (hr : own_b (own_sw pre i0 ls) = r) :
  Con l mn14 (Jvm.Cond.code mn14 prog_7_method_23_code 4 (some .boolean)) ws (⟨4, 0, 0, 54⟩ : Jvm.Room) #[(.ref a0), (.int (oN i0)), (.ref a2)] Z h0 (QSw Z a0 a2 tx kt nt pre tv kv ls cs fm i0 r h0 n0) := by
 refine own_of (plainFor_of_name pn_0) hisR dl_prog_7_23 ?_
 intro p e s m below meth c s₁ hx D hlk hret hml hZ hown hnm X0 e0
 replace hown : s.vm.findClass cA = some m.cls := hown
 have N0 := Fr.nil n0
 rw [efSw]
 obtain ⟨_, T1, Lc1, X1, hQ1, st1⟩ := own_cV X0 hx hw hZ hown 175 19 21 20 6 22 rfl rfl rfl rfl rfl rfl (by decide) ES (rmLen l Z _ hw [] a2 tv kv ls cs h0 n0 Z0 ES Fc Fv Tv Scs hcs) (by decide) (by decide) (g := (mkF m 2 #[.val (.ref a0), .val (.int (oN i0)), .val (.ref a2), .unset] [(.ref a2), (.int (oN i0))])) rfl hml rfl (argsL := []) (rest := [(.int (oN i0))]) pd_6 rfl rfl rfl (W := 1) (nE rfl) (D 2 rfl) rfl e0 (by decide) (by decide)
 obtain ⟨rfl, Nq1, hs1⟩ := hQ1
 have N2 := Fr.app N0 Nq1
 refine OFin.of (fun t ht => iN X0 hx (D 0 rfl) rfl (aN X0 hx (D 1 rfl) rfl rfl (st1.trans ht))) ?_
 obtain ⟨T3, X3, e3, st3⟩ := getF X1 hx hZ hown (host := "") (Or.inl (wt hw 47 rfl)) Via.refl hs1 Fe (g := (mkF m 7 #[.val (.ref a0), .val (.int (oN i0)), .val (.ref a2), .unset] [(.ref a0), (.int ((oN i0) + (oN ls.length)))])) rfl rfl (D 5 rfl)
 refine OFin.of (fun t ht => XS.iadd X1.here hx rfl (D 3 rfl) rfl (aN X1 hx (D 4 rfl) rfl rfl (st3 t ht))) ?_
 by_cases hc4 : (oN pre.length) < ((oN i0) + (oN ls.length))
 ·refine OFin.of (S' := T3.setTop (mkF m 14 #[.val (.ref a0), .val (.int (oN i0)), .val (.ref a2), .unset] [(.int 0)])) (fun t ht => cN X3 hx (D 6 rfl) rfl (tlt hc4).2.2.2 (iC X3 hx (D 7 rfl) ht)) ?_
  exact OFin.retB X3 hx hlk (t := .boolean) (by simp) hret (D 8 rfl) (by decide) (by decide) (by rw [e3]; exact ⟨(by rw [← hr, own_sw_l (own_swn Tx hn3 hli.1 hi0 hc4)]; rfl), N2, rfl⟩)
 ·refine OFin.of (S' := T3.setTop (mkF m 17 #[.val (.ref a0), .val (.int (oN i0)), .val (.ref a2), .val (.int 0)] [])) (fun t ht => cY X3 hx 10 15 rfl (D 6 rfl) rfl (flt hc4).2.2.2 (by decide) (iC X3 hx (D 9 rfl) (XS.istoreN X3.here hx rfl (D 10 rfl) rfl (l' := #[.val (.ref a0), .val (.int (oN i0)), .val (.ref a2), .val (.int 0)]) rfl ht))) ?_
  have hle := own_swl Tx hn3 hli.1 hi0 hc4
  have lp5 : ∀ (kk i : Nat) (hk : i + kk = ls.length) (hf : ∀ k, k < i → pre.getD (i0 + k) 0 = ls.getD k 0) {Tl : State} {locs : List Loc} (Xl : Stand p l e (⟨4, 0, 0, 54⟩ : Jvm.Room) s m #[(.ref a0), (.int (oN i0)), (.ref a2)] below meth c Tl locs 0 0) (el : Tl.heap = h0) (Nl : Fr n0 locs), OFin p e below (KPost s (QSw Z a0 a2 tx kt nt pre tv kv ls cs fm i0 r h0 n0) (⟨4, 0, 0, 54⟩ : Jvm.Room).cells (⟨4, 0, 0, 54⟩ : Jvm.Room).slots) (Tl.setTop (mkF m 17 #[.val (.ref a0), .val (.int (oN i0)), .val (.ref a2), .val (.int (oN i))] [])) := by
   intro kk
   induction kk with
   | zero => 
    intro i hk hf Tl locs Xl el Nl
    obtain ⟨_, T6, Lc6, X6, hQ6, st6⟩ := own_cV Xl hx hw hZ hown 175 19 21 20 6 22 rfl rfl rfl rfl rfl rfl (by decide) ES (rmLen l Z _ hw [] a2 tv kv ls cs h0 n0 Z0 ES Fc Fv Tv Scs hcs) (by decide) (by decide) (g := (mkF m 19 #[.val (.ref a0), .val (.int (oN i0)), .val (.ref a2), .val (.int (oN i))] [(.ref a2), (.int (oN i))])) rfl hml rfl (argsL := []) (rest := [(.int (oN i))]) pd_6 rfl rfl rfl (W := 1) (nE rfl) (D 13 rfl) rfl el (by decide) (by decide)
    obtain ⟨rfl, Nq6, hs6⟩ := hQ6
    have N7 := Fr.app Nl Nq6
    refine OFin.of (fun t ht => iN Xl hx (D 11 rfl) rfl (aN Xl hx (D 12 rfl) rfl rfl (st6.trans ht))) ?_
    refine OFin.of (S' := T6.setTop (mkF m 50 #[.val (.ref a0), .val (.int (oN i0)), .val (.ref a2), .val (.int (oN i))] [(.int 1)])) (fun t ht => cY X6 hx 22 49 rfl (D 14 rfl) rfl (flt (own_z8 hli.1 hk : ¬ ((oN i) < (oN ls.length)))).2.1 (by decide) (iC X6 hx (D 15 rfl) ht)) ?_
    exact OFin.retB X6 hx hlk (t := .boolean) (by simp) hret (D 16 rfl) (by decide) (by decide) (by rw [hs6]; exact ⟨(by rw [← hr, own_sw_t hle (fun k z => hf k (by omega))]; rfl), N7, rfl⟩)
   | succ kk ih => 
    intro i hk hf Tl locs Xl el Nl
    obtain ⟨_, T8, Lc8, X8, hQ8, st8⟩ := own_cV Xl hx hw hZ hown 175 19 21 20 6 22 rfl rfl rfl rfl rfl rfl (by decide) ES (rmLen l Z _ hw [] a2 tv kv ls cs h0 n0 Z0 ES Fc Fv Tv Scs hcs) (by decide) (by decide) (g := (mkF m 19 #[.val (.ref a0), .val (.int (oN i0)), .val (.ref a2), .val (.int (oN i))] [(.ref a2), (.int (oN i))])) rfl hml rfl (argsL := []) (rest := [(.int (oN i))]) pd_6 rfl rfl rfl (W := 1) (nE rfl) (D 13 rfl) rfl el (by decide) (by decide)
    obtain ⟨rfl, Nq8, hs8⟩ := hQ8
    have N9 := Fr.app Nl Nq8
    refine OFin.of (fun t ht => iN Xl hx (D 11 rfl) rfl (aN Xl hx (D 12 rfl) rfl rfl (st8.trans ht))) ?_
    obtain ⟨T10, X10, e10, st10⟩ := getF X8 hx hZ hown (host := "") (Or.inl (wt hw 43 rfl)) Via.refl hs8 Ft (g := (mkF m 26 #[.val (.ref a0), .val (.int (oN i0)), .val (.ref a2), .val (.int (oN i))] [(.ref a0)])) rfl rfl (D 18 rfl)
    refine OFin.of (fun t ht => cN X8 hx (D 14 rfl) rfl (tlt (own_s8 hli.1 hk : (oN i) < (oN ls.length))).2.1 (aN X8 hx (D 17 rfl) rfl rfl (st10 t ht))) ?_
    obtain ⟨cl11, Ar11, hin11, hat11⟩ := Txt.at Tx (j := ((oN i0) + (oN i))) (i := (i0 + i)) (own_addn i0 i) (by omega)
    refine OFin.of (fun t ht => iN X10 hx (D 19 rfl) rfl (iN X10 hx (D 20 rfl) rfl (XS.iadd X10.here hx rfl (D 21 rfl) rfl (X10.baloadBytes hx (j := ((oN i0) + (oN i))) (v := (.int (pre.getD (i0 + i) 0))) (by rw [e10]; exact Ar11.1) (State.isArrayOf_alike hZ.alike Ar11.2.1) Ar11.2.2 hin11 hat11 (g := (mkF m 32 #[.val (.ref a0), .val (.int (oN i0)), .val (.ref a2), .val (.int (oN i))] [(.int ((oN i0) + (oN i))), (.ref tx)])) rfl rfl (D 22 rfl) _ ht)))) ?_
    obtain ⟨_, T12, Lc12, X12, hQ12, st12⟩ := own_cV X10 hx hw hZ hown 176 143 145 144 6 146 rfl rfl rfl rfl rfl rfl (by decide) ES (rmChA l Z _ hw [] a2 tv kv ls cs fm i h0 n0 Z0 ES Fc Fv Tv Scs hcs Sfm hfm hli (by omega)) (by decide) (by decide) (g := (mkF m 35 #[.val (.ref a0), .val (.int (oN i0)), .val (.ref a2), .val (.int (oN i))] [(.int (oN i)), (.ref a2), (.int (pre.getD (i0 + i) 0))])) rfl hml rfl (argsL := [(.int (oN i))]) (rest := [(.int (pre.getD (i0 + i) 0))]) pd_7 rfl rfl rfl (W := 1) (nE rfl) (D 25 rfl) rfl e10 (by decide) (by decide)
    obtain ⟨rfl, Nq12, hs12⟩ := hQ12
    have N13 := Fr.app N9 Nq12
    refine OFin.of (fun t ht => aN X10 hx (D 23 rfl) rfl rfl (iN X10 hx (D 24 rfl) rfl (st12.trans ht))) ?_
    by_cases hc14 : (pre.getD (i0 + i) 0) = (ls.getD i 0)
    ·refine OFin.of (S' := T12.setTop (mkF m 17 #[.val (.ref a0), .val (.int (oN i0)), .val (.ref a2), .val (.int ((oN i) + (1 : Int32)))] [])) (fun t ht => cY X12 hx 38 43 rfl (D 26 rfl) rfl (teq hc14).1 (by decide) (iI X12 hx (D 27 rfl) rfl (l' := #[.val (.ref a0), .val (.int (oN i0)), .val (.ref a2), .val (.int ((oN i) + (1 : Int32)))]) rfl (gO X12 hx 46 17 rfl (D 28 rfl) (by decide) ht))) ?_
     rw [own_succ]
     exact ih (i + 1) (by omega) (fun k z => by rcases Nat.lt_succ_iff_lt_or_eq.mp z with z | rfl; exact hf k z; exact hc14) X12 hs12 N13
    ·refine OFin.of (S' := T12.setTop (mkF m 42 #[.val (.ref a0), .val (.int (oN i0)), .val (.ref a2), .val (.int (oN i))] [(.int 0)])) (fun t ht => cN X12 hx (D 26 rfl) rfl (feq hc14).1 (iC X12 hx (D 29 rfl) ht)) ?_
     exact OFin.retB X12 hx hlk (t := .boolean) (by simp) hret (D 30 rfl) (by decide) (by decide) (by rw [hs12]; exact ⟨(by rw [← hr, own_sw_f (k := i) (by omega) hc14]; rfl), N13, rfl⟩)
  exact lp5 _ 0 (Nat.zero_add _) (fun k z => absurd z (Nat.not_lt_zero k)) X3 e3 N2
theorem efPa {m : MethodId} {a0 a2 : Addr} {i0 : Nat} : entryFrame m #[(.ref a0), (.int (oN i0)), (.ref a2)] 4 = mkF m 0 #[.val (.ref a0), .val (.int (oN i0)), .val (.ref a2), .unset] [] := by first | (simp [entryFrame, mkF, argsToLocals, Value.category]; done) | rfl
def QPa (Z : State) (a0 a2 tx : Addr) (kt : ClassId) (nt : Int32) (pre : List Int32) (tv : Addr) (kv : ClassId) (ls : List Int32) (cs : Int32) (fm : Value) (i0 : Nat) (r : Int32) (h0 : Heap) (n0 : Nat) (v : Option Value) (h : Heap) (L : List Loc) : Prop := v = some (.int r) ∧ Fr n0 L ∧ h = h0
theorem rmPa (l : Launch) (Z : State) (a0 : Array Value) (hw : HW a0 Z) (ws : List Jvm.Cond) (a0 a2 tx : Addr) (kt : ClassId) (nt : Int32) (pre : List Int32) (tv : Addr) (kv : ClassId) (ls : List Int32) (cs : Int32) (fm : Value) (i0 : Nat) (r : Int32) (h0 : Heap) (n0 : Nat) (Z0 : n0 ≤ h0.size) (EO : Exa Z h0 a0 cA) (Ft : Fld Z h0 a0 cA "text" "[B" (.ref tx)) (Fe : Fld Z h0 a0 cA "end" "I" (.int (oN pre.length))) (Tx : Txt Z h0 tx kt nt pre) (ES : Exa Z h0 a2 cB) (Fc : Fld Z h0 a2 cB "coder" "B" (.int 0)) (Fv : Fld Z h0 a2 cB "value" "[B" (.ref tv)) (Tv : Txt Z h0 tv kv (oN ls.length) ls) (Scs : Sta Z h0 cB "COMPACT_STRINGS" "Z" (.int cs)) (hcs : ¬ cs = 0) (Sfm : Sta Z h0 cG "SIOOBE_FORMATTER" cE fm) (hfm : fm.isRef = true) (hli : OwnLit ls) (hi0 : i0 ≤ pre.length) (hn3 : nt.toNatClampNeg < 1000) (hr : own_past pre ls i0 = r) :
  Con l mn15 (Jvm.Cond.code mn15 prog_7_method_22_code 4 (some .int)) ws (⟨5, 0, 0, 69⟩ : Jvm.Room) #[(.ref a0), (.int (oN i0)), (.ref a2)] Z h0 (QPa Z a0 a2 tx kt nt pre tv kv ls cs fm i0 r h0 n0) := by
 refine own_of (plainFor_of_name pn_0) hisR dl_prog_7_22 ?_
 intro p e s m below meth c s₁ hx D hlk hret hml hZ hown hnm X0 e0
 replace hown : s.vm.findClass cA = some m.cls := hown
 have N0 := Fr.nil n0
 rw [efPa]
 refine OFin.of (S' := s₁.setTop (mkF m 2 #[.val (.ref a0), .val (.int (oN i0)), .val (.ref a2), .val (.int (oN i0))] [])) (fun t ht => iN X0 hx (D 0 rfl) rfl (XS.istoreN X0.here hx rfl (D 1 rfl) rfl (l' := #[.val (.ref a0), .val (.int (oN i0)), .val (.ref a2), .val (.int (oN i0))]) rfl ht)) ?_
 have lp1 : ∀ (kk i : Nat) (hk : i + kk = pre.length) (hf : own_fs pre ls (pre.length - i) i = own_fs pre ls (pre.length - i0) i0) {Tl : State} {locs : List Loc} (Xl : Stand p l e (⟨5, 0, 0, 69⟩ : Jvm.Room) s m #[(.ref a0), (.int (oN i0)), (.ref a2)] below meth c Tl locs 0 0) (el : Tl.heap = h0) (Nl : Fr n0 locs), OFin p e below (KPost s (QPa Z a0 a2 tx kt nt pre tv kv ls cs fm i0 r h0 n0) (⟨5, 0, 0, 69⟩ : Jvm.Room).cells (⟨5, 0, 0, 69⟩ : Jvm.Room).slots) (Tl.setTop (mkF m 2 #[.val (.ref a0), .val (.int (oN i0)), .val (.ref a2), .val (.int (oN i))] [])) := by
  intro kk
  induction kk with
  | zero => 
   intro i hk hf Tl locs Xl el Nl
   obtain ⟨T2, X2, e2, st2⟩ := getF Xl hx hZ hown (host := "") (Or.inl (wt hw 47 rfl)) Via.refl el Fe (g := (mkF m 4 #[.val (.ref a0), .val (.int (oN i0)), .val (.ref a2), .val (.int (oN i))] [(.ref a0), (.int (oN i))])) rfl rfl (D 4 rfl)
   refine OFin.of (fun t ht => iN Xl hx (D 2 rfl) rfl (aN Xl hx (D 3 rfl) rfl rfl (st2 t ht))) ?_
   obtain ⟨T3, X3, e3, st3⟩ := getF X2 hx hZ hown (host := "") (Or.inl (wt hw 47 rfl)) Via.refl e2 Fe (g := (mkF m 27 #[.val (.ref a0), .val (.int (oN i0)), .val (.ref a2), .val (.int (oN i))] [(.ref a0), (.int (oN i))])) rfl rfl (D 8 rfl)
   refine OFin.of (fun t ht => cY X2 hx 7 25 rfl (D 5 rfl) rfl (flt (own_z7 Tx hk : ¬ ((oN i) < (oN pre.length)))).2.1 (by decide) (iN X2 hx (D 6 rfl) rfl (aN X2 hx (D 7 rfl) rfl rfl (st3 t ht)))) ?_
   refine OFin.of (S' := T3.setTop (mkF m 43 #[.val (.ref a0), .val (.int (oN i0)), .val (.ref a2), .val (.int (oN i))] [(.int (-1))])) (fun t ht => cY X3 hx 30 42 rfl (D 9 rfl) rfl (flt (own_z7 Tx hk : ¬ ((oN i) < (oN pre.length)))).2.1 (by decide) (iC X3 hx (D 10 rfl) ht)) ?_
   exact OFin.retI X3 hx hlk hret (D 11 rfl) (by decide) (by decide) (by rw [e3]; exact ⟨(by rw [← hr, own_past_z hk hf]), Nl, rfl⟩)
  | succ kk ih => 
   intro i hk hf Tl locs Xl el Nl
   obtain ⟨T4, X4, e4, st4⟩ := getF Xl hx hZ hown (host := "") (Or.inl (wt hw 47 rfl)) Via.refl el Fe (g := (mkF m 4 #[.val (.ref a0), .val (.int (oN i0)), .val (.ref a2), .val (.int (oN i))] [(.ref a0), (.int (oN i))])) rfl rfl (D 4 rfl)
   refine OFin.of (fun t ht => iN Xl hx (D 2 rfl) rfl (aN Xl hx (D 3 rfl) rfl rfl (st4 t ht))) ?_
   obtain ⟨_, T5, Lc5, X5, hQ5, st5⟩ := own_cP X4 hx hw hZ hown 171 172 35 173 36 174 rfl rfl rfl rfl rfl rfl (by decide) EO (rmSw l Z _ hw [] a0 a2 tx kt nt pre tv kv ls cs fm i (own_b (own_sw pre i ls)) h0 n0 Z0 EO Ft Fe Tx ES Fc Fv Tv Scs hcs Sfm hfm hli (by omega) hn3 rfl) (by decide) (by decide) (g := (mkF m 13 #[.val (.ref a0), .val (.int (oN i0)), .val (.ref a2), .val (.int (oN i))] [(.ref a2), (.int (oN i)), (.ref a0)])) rfl hml rfl (argsL := [(.int (oN i)), (.ref a2)]) (rest := []) pd_8 rfl rfl rfl (W := 0) (nE rfl) (D 15 rfl) rfl e4 (by decide) (by decide)
   obtain ⟨rfl, Nq5, hs5⟩ := hQ5
   have N6 := Fr.app Nl Nq5
   refine OFin.of (fun t ht => cN X4 hx (D 5 rfl) rfl (tlt (own_s7 Tx hk : (oN i) < (oN pre.length))).2.1 (aN X4 hx (D 12 rfl) rfl rfl (iN X4 hx (D 13 rfl) rfl (aN X4 hx (D 14 rfl) rfl rfl (st5.trans ht))))) ?_
   by_cases hc7 : (own_b (own_sw pre i ls)) = 0
   ·refine OFin.of (S' := T5.setTop (mkF m 2 #[.val (.ref a0), .val (.int (oN i0)), .val (.ref a2), .val (.int ((oN i) + (1 : Int32)))] [])) (fun t ht => fN X5 hx (D 16 rfl) rfl ((if0 _ _).trans (teq hc7).2) (iI X5 hx (D 17 rfl) rfl (l' := #[.val (.ref a0), .val (.int (oN i0)), .val (.ref a2), .val (.int ((oN i) + (1 : Int32)))]) rfl (gO X5 hx 22 2 rfl (D 18 rfl) (by decide) ht))) ?_
    rw [own_succ]
    exact ih (i + 1) (by omega) ((own_fs_no hk (own_b0 hc7)).trans hf) X5 hs5 N6
   ·obtain ⟨T8, X8, e8, st8⟩ := getF X5 hx hZ hown (host := "") (Or.inl (wt hw 47 rfl)) Via.refl hs5 Fe (g := (mkF m 27 #[.val (.ref a0), .val (.int (oN i0)), .val (.ref a2), .val (.int (oN i))] [(.ref a0), (.int (oN i))])) rfl rfl (D 8 rfl)
    refine OFin.of (fun t ht => fY X5 hx 16 25 rfl (D 16 rfl) rfl ((if0 _ _).trans (feq hc7).2) (by decide) (iN X5 hx (D 6 rfl) rfl (aN X5 hx (D 7 rfl) rfl rfl (st8 t ht)))) ?_
    obtain ⟨_, T9, Lc9, X9, hQ9, st9⟩ := own_cV X8 hx hw hZ hown 175 19 21 20 6 22 rfl rfl rfl rfl rfl rfl (by decide) ES (rmLen l Z _ hw [] a2 tv kv ls cs h0 n0 Z0 ES Fc Fv Tv Scs hcs) (by decide) (by decide) (g := (mkF m 35 #[.val (.ref a0), .val (.int (oN i0)), .val (.ref a2), .val (.int (oN i))] [(.ref a2), (.int (oN i))])) rfl hml rfl (argsL := []) (rest := [(.int (oN i))]) pd_6 rfl rfl rfl (W := 1) (nE rfl) (D 21 rfl) rfl e8 (by decide) (by decide)
    obtain ⟨rfl, Nq9, hs9⟩ := hQ9
    have N10 := Fr.app N6 Nq9
    refine OFin.of (fun t ht => cN X8 hx (D 9 rfl) rfl (tlt (own_s7 Tx hk : (oN i) < (oN pre.length))).2.1 (iN X8 hx (D 19 rfl) rfl (aN X8 hx (D 20 rfl) rfl rfl (st9.trans ht)))) ?_
    refine OFin.of (S' := T9.setTop (mkF m 43 #[.val (.ref a0), .val (.int (oN i0)), .val (.ref a2), .val (.int (oN i))] [(.int ((oN i) + (oN ls.length)))])) (fun t ht => XS.iadd X9.here hx rfl (D 22 rfl) rfl (gO X9 hx 39 43 rfl (D 23 rfl) (by decide) ht)) ?_
    exact OFin.retI X9 hx hlk hret (D 11 rfl) (by decide) (by decide) (by rw [hs9]; exact ⟨(by rw [← hr, own_past_s hk (own_b1 hc7) hf]; exact congrArg (fun x => some (Value.int x)) (own_addn i ls.length)), N10, rfl⟩)
 exact lp1 _ i0 (Nat.add_sub_cancel' hi0) rfl X0 e0 N0
theorem own_strAtoms {Z : State} {a0 : Array Value} (hw : ∀ d ∈ tables_1, d.before a0 Z = true) : ∀ a ∈ Bundle.stringAtoms, a.before a0 Z = true := fun a ha => by
 simp only [Bundle.stringAtoms, List.mem_cons, List.not_mem_nil, or_false] at ha
 rcases ha with rfl | rfl | rfl | rfl | rfl | rfl | rfl
 ·exact (wt hw 6 rfl)
 ·exact (wt hw 7 rfl)
 ·exact (wt hw 0 rfl)
 ·exact (wt hw 8 rfl)
 ·exact (wt hw 9 rfl)
 ·exact (wt hw 10 rfl)
 ·exact (wt hw 11 rfl)
theorem own_EW {Z : State} {a0 : Array Value} (hw : HW a0 Z) : EW Z a0 consts_1 := (EW.cons (text := "?>") (wt hw 196 rfl) (by decide) (EW.cons (text := "<!--") (wt hw 170 rfl) (by decide) (EW.cons (text := "-->") (wt hw 183 rfl) (by decide) (EW.cons (text := "<![CDATA[") (wt hw 177 rfl) (by decide) (EW.cons (text := "]]>") (wt hw 189 rfl) (by decide) (EW.cons (text := "<?") (wt hw 182 rfl) (by decide) (EW.cons (text := "<!--><-->") (wt hw 275 rfl) (by decide) (EW.cons (text := "<![CDATA[><]]>") (wt hw 188 rfl) (by decide) (EW.cons (text := "<!a'><'>") (wt hw 272 rfl) (by decide) (EW.cons (text := "<!a\"><\">") (wt hw 190 rfl) (by decide) (EW.cons (text := "<![><]>") (wt hw 141 rfl) (by decide) (EW.cons (text := "<![<!--]><-->]>") (wt hw 276 rfl) (by decide) (EW.cons (text := "<![<?]><?>]>") (wt hw 273 rfl) (by decide) (EW.cons (text := "<!a][><]>") (wt hw 279 rfl) (by decide) (EW.cons (text := "<![']><']>") (wt hw 274 rfl) (by decide) (EW.cons (text := "<![CDAT><]>") (wt hw 278 rfl) (by decide) (EW.cons (text := "") (wt hw 5 rfl) (by decide) (EW.cons (text := "<!--<a>") (wt hw 165 rfl) (by decide) (EW.cons (text := "<![CDATA[<a>") (wt hw 280 rfl) (by decide) (EW.cons (text := "<!a'<a>") (wt hw 281 rfl) (by decide) (EW.cons (text := "<![<a>") (wt hw 277 rfl) (by decide) (EW.cons (text := "") (wt hw 136 rfl) (by decide) EW.nil))))))))))))))))))))))
theorem efPd {m : MethodId} {a0 : Addr} {i0 : Nat} : entryFrame m #[(.ref a0), (.int (oN i0))] 5 = mkF m 0 #[.val (.ref a0), .val (.int (oN i0)), .unset, .unset, .unset] [] := by first | (simp [entryFrame, mkF, argsToLocals, Value.category]; done) | rfl
def QPd (Z : State) (a0 tx : Addr) (kt : ClassId) (nt : Int32) (pre : List Int32) (cs : Int32) (fm : Value) (i0 : Nat) (r : Int32) (k : Nat) (h0 : Heap) (n0 : Nat) (v : Option Value) (h : Heap) (L : List Loc) : Prop := v = some (.int r) ∧ Fr n0 L ∧ Keep h0 h []
theorem rmPd (l : Launch) (Z : State) (a0 : Array Value) (hw : HW a0 Z) (ws : List Jvm.Cond) (a0 tx : Addr) (kt : ClassId) (nt : Int32) (pre : List Int32) (cs : Int32) (fm : Value) (i0 : Nat) (r : Int32) (k : Nat) (h0 : Heap) (n0 : Nat) (Z0 : n0 ≤ h0.size) (EO : Exa Z h0 a0 cA) (Ft : Fld Z h0 a0 cA "text" "[B" (.ref tx)) (Fe : Fld Z h0 a0 cA "end" "I" (.int (oN pre.length))) (Tx : Txt Z h0 tx kt nt pre) (Scs : Sta Z h0 cB "COMPACT_STRINGS" "Z" (.int cs)) (hcs : ¬ cs = 0) (Sfm : Sta Z h0 cG "SIOOBE_FORMATTER" cE fm) (hfm : fm.isRef = true) (hi0 : i0 ≤ pre.length) (hn3 : nt.toNatClampNeg < 1000) (hp : own_pd pre (pre.length + 1 - i0) i0 0 = (r, k)) :
  ConH consts_1 l mn16 (Jvm.Cond.code mn16 prog_7_method_18_code 5 (some .int)) ws (⟨6, k, 10 * k, 109⟩ : Jvm.Room) #[(.ref a0), (.int (oN i0))] Z h0 (QPd Z a0 tx kt nt pre cs fm i0 r k h0 n0) := by
 refine own_ofH (plainFor_of_name pn_0) hisR dl_prog_7_18 ?_
 intro p e s m below meth c s₁ hx D hlk hret hml hZ hown hnm X0 e0 hh hC0
 replace hown : s.vm.findClass cA = some m.cls := hown
 have N0 := Fr.nil n0
 have hR0 : CHr Z consts_1 s.vm h0 s.vm h0 := CHr.refl hC0
 have hEL := own_EW hw
 rw [efPd]
 have K0 : Keep h0 h0 [] := Keep.refl _ _
 refine OFin.of (S' := s₁.setTop (mkF m 2 #[.val (.ref a0), .val (.int (oN i0)), .val (.int 0), .unset, .unset] [])) (fun t ht => iC X0 hx (D 0 rfl) (XS.istoreN X0.here hx rfl (D 1 rfl) rfl (l' := #[.val (.ref a0), .val (.int (oN i0)), .val (.int 0), .unset, .unset]) rfl ht)) ?_
 rw [show (0 : Int32) = oN 0 from rfl]
 have lp1 : ∀ (kk cl sl : Nat) (i d kl : Nat) (z3 z4 : Slot) (hk : pre.length < i + kk) (hi : i ≤ pre.length) (hd : d ≤ i) (hp : own_pd pre kk i d = (r, kl)) (hcl : cl + kl ≤ k) (hsl : sl + 10 * kl ≤ 10 * k) (jz3 : OwnJk z3) (jz4 : OwnJk z4) {vm1 : Vm} {k1 : Nat} {Tl : State} {hl : Heap} {locs : List Loc} (Xl : Stand p l e (⟨6, k, 10 * k, 109⟩ : Jvm.Room) (s.setVm vm1) m #[(.ref a0), (.int (oN i0))] below meth c Tl locs cl sl) (el : Tl.heap = hl) (Sl : s.Since vm1 k1) (kl1 : k1 ≤ hl.size) (hZl : Z.Warmed39 (s.setVm vm1).vm) (hownl : (s.setVm vm1).vm.findClass cA = some m.cls) (hRl : CHr Z consts_1 s.vm h0 vm1 hl) (Zl : n0 ≤ hl.size) (Kl : Keep h0 hl []) (Nl : Fr n0 locs) (fa0 : Exa Z hl a0 cA) (fa1 : Fld Z hl a0 cA "text" "[B" (.ref tx)) (fa2 : Fld Z hl a0 cA "end" "I" (.int (oN pre.length))) (fa3 : Txt Z hl tx kt nt pre) (fa4 : Sta Z hl cB "COMPACT_STRINGS" "Z" (.int cs)) (fa5 : Sta Z hl cG "SIOOBE_FORMATTER" cE fm), OFin p e below (KPostH Z consts_1 s (QPd Z a0 tx kt nt pre cs fm i0 r k h0 n0) (⟨6, k, 10 * k, 109⟩ : Jvm.Room).cells (⟨6, k, 10 * k, 109⟩ : Jvm.Room).slots) (Tl.setTop (mkF m 2 #[.val (.ref a0), .val (.int (oN i)), .val (.int (oN d)), z3, z4] [])) := by
  intro kk
  induction kk with
  | zero => 
   intro cl sl i d kl z3 z4 hk hi hd hp hcl hsl jz3 jz4 vm1 k1 Tl hl locs Xl el Sl kl1 hZl hownl hRl Zl Kl Nl fa0 fa1 fa2 fa3 fa4 fa5
   exact absurd hi (by omega)
  | succ kk ih => 
   intro cl sl i d kl z3 z4 hk hi hd hp hcl hsl jz3 jz4 vm1 k1 Tl hl locs Xl el Sl kl1 hZl hownl hRl Zl Kl Nl fa0 fa1 fa2 fa3 fa4 fa5
   refine OFin.of (S' := Tl.setTop (mkF m 6 #[.val (.ref a0), .val (.int (oN i)), .val (.int (oN d)), z3, z4] [])) (fun t ht => iN Xl hx (D 2 rfl) rfl (fN Xl hx (D 3 rfl) rfl ((if0 _ _).trans (flt (own_nn31 fa3 hi : ¬ ((oN i) < 0))).1) ht)) ?_
   have h31 := own_p31 fa3
   obtain ⟨T2, X2, e2, st2⟩ := getF Xl hx hZl hownl (host := "") (Or.inl (wt hw 47 rfl)) Via.refl el fa2 (g := (mkF m 8 #[.val (.ref a0), .val (.int (oN i)), .val (.int (oN d)), z3, z4] [(.ref a0), (.int (oN i))])) rfl rfl (D 6 rfl)
   refine OFin.of (fun t ht => iN Xl hx (D 4 rfl) rfl (aN Xl hx (D 5 rfl) rfl rfl (st2 t ht))) ?_
   by_cases hc3 : (oN i) < (oN pre.length)
   ·refine OFin.of (S' := T2.setTop (mkF m 14 #[.val (.ref a0), .val (.int (oN i)), .val (.int (oN d)), z3, z4] [])) (fun t ht => cN X2 hx (D 7 rfl) rfl (tlt hc3).2.1 ht) ?_
    have hlt := (own_natlt (by omega) (by omega)).mp hc3
    obtain ⟨T4, X4, e4, st4⟩ := getF X2 hx hZl hownl (host := "") (Or.inl (wt hw 43 rfl)) Via.refl e2 fa1 (g := (mkF m 15 #[.val (.ref a0), .val (.int (oN i)), .val (.int (oN d)), z3, z4] [(.ref a0)])) rfl rfl (D 9 rfl)
    refine OFin.of (fun t ht => aN X2 hx (D 8 rfl) rfl rfl (st4 t ht)) ?_
    obtain ⟨cl5, Ar5, hin5, hat5⟩ := Txt.at fa3 (j := (oN i)) (i := i) rfl hlt
    refine OFin.of (fun t ht => iN X4 hx (D 10 rfl) rfl (X4.baloadBytes hx (j := (oN i)) (v := (.int (pre.getD i 0))) (by rw [e4]; exact Ar5.1) (State.isArrayOf_alike hZl.alike Ar5.2.1) Ar5.2.2 hin5 hat5 (g := (mkF m 19 #[.val (.ref a0), .val (.int (oN i)), .val (.int (oN d)), z3, z4] [(.int (oN i)), (.ref tx)])) rfl rfl (D 11 rfl) _ ht)) ?_
    refine OFin.of (S' := T4.setTop (mkF m 22 #[.val (.ref a0), .val (.int (oN i)), .val (.int (oN d)), z3, z4] [(.int 62), (.int (pre.getD i 0))])) (fun t ht => bP X4 hx (D 12 rfl) ht) ?_
    by_cases hc6 : (pre.getD i 0) = 62
    ·refine OFin.of (S' := T4.setTop (mkF m 26 #[.val (.ref a0), .val (.int (oN i)), .val (.int (oN d)), z3, z4] [(.int (oN d))])) (fun t ht => cN X4 hx (D 13 rfl) rfl (teq hc6).2 (iN X4 hx (D 14 rfl) rfl ht)) ?_
     by_cases hc7 : (0 : Int32) < (oN d)
     ·obtain ⟨T8, X8, e8, st8⟩ := getF X4 hx hZl hownl (host := "") (Or.inl (wt hw 43 rfl)) Via.refl e4 fa1 (g := (mkF m 30 #[.val (.ref a0), .val (.int (oN i)), .val (.int (oN d)), z3, z4] [(.ref a0)])) rfl rfl (D 17 rfl)
      refine OFin.of (fun t ht => fN X4 hx (D 15 rfl) rfl ((if0 _ _).trans (tlt hc7).2.2.2) (aN X4 hx (D 16 rfl) rfl rfl (st8 t ht))) ?_
      obtain ⟨cl9, Ar9, hin9, hat9⟩ := Txt.at fa3 (j := (oN i)) (i := i) rfl hlt
      refine OFin.of (fun t ht => iN X8 hx (D 18 rfl) rfl (X8.baloadBytes hx (j := (oN i)) (v := (.int (pre.getD i 0))) (by rw [e8]; exact Ar9.1) (State.isArrayOf_alike hZl.alike Ar9.2.1) Ar9.2.2 hin9 hat9 (g := (mkF m 34 #[.val (.ref a0), .val (.int (oN i)), .val (.int (oN d)), z3, z4] [(.int (oN i)), (.ref tx)])) rfl rfl (D 19 rfl) _ ht)) ?_
      refine OFin.of (S' := T8.setTop (mkF m 36 #[.val (.ref a0), .val (.int (oN i)), .val (.int (oN d)), .val (.int (pre.getD i 0)), z4] [])) (fun t ht => XS.istoreN X8.here hx rfl (D 20 rfl) rfl (l' := #[.val (.ref a0), .val (.int (oN i)), .val (.int (oN d)), .val (.int (pre.getD i 0)), z4]) (own_st jz3 rfl rfl rfl) ht) ?_
      have jn10 : ∀ (hqq : pre.getD i 0 = 39 ∨ pre.getD i 0 = 34) {Tj : State} {lj : List Loc} (Xj : Stand p l e (⟨6, k, 10 * k, 109⟩ : Jvm.Room) (s.setVm vm1) m #[(.ref a0), (.int (oN i0))] below meth c Tj lj (cl) (sl)) (ej : Tj.heap = hl) (Nj : Fr n0 lj), OFin p e below (KPostH Z consts_1 s (QPd Z a0 tx kt nt pre cs fm i0 r k h0 n0) (⟨6, k, 10 * k, 109⟩ : Jvm.Room).cells (⟨6, k, 10 * k, 109⟩ : Jvm.Room).slots) (Tj.setTop (mkF m 48 #[.val (.ref a0), .val (.int (oN i)), .val (.int (oN d)), .val (.int (pre.getD i 0)), z4] [])) := by
       intro hqq Tj lj Xj ej Nj
       refine OFin.of (S' := Tj.setTop (mkF m 53 #[.val (.ref a0), .val (.int (oN i)), .val (.int (oN d)), .val (.int (pre.getD i 0)), z4] [(.int ((oN i) + (1 : Int32))), (.int (pre.getD i 0)), (.ref a0)])) (fun t ht => aN Xj hx (D 21 rfl) rfl rfl (iN Xj hx (D 22 rfl) rfl (iN Xj hx (D 23 rfl) rfl (iC Xj hx (D 24 rfl) (XS.iadd Xj.here hx rfl (D 25 rfl) rfl ht))))) ?_
       rw [own_succ i]
       obtain ⟨rx, hrx⟩ : ∃ z, own_ix pre (pre.getD i 0) (i + 1) = z := ⟨_, rfl⟩
       obtain ⟨g, hg⟩ : ∃ z, own_find (fun x => decide (x = pre.getD i 0)) pre (i + 1) = z := ⟨_, rfl⟩
       obtain ⟨_, T11, Lc11, X11, hQ11, st11⟩ := own_cP Xj hx hw hZl hownl 54 55 35 56 36 57 rfl rfl rfl rfl rfl rfl (by decide) fa0 (rmIx l Z _ hw [] a0 (pre.getD i 0) tx kt nt pre (i + 1) rx hl n0 Zl fa1 fa2 fa3 hlt hrx) (by show 0 + 1 ≤ 6; decide) (by show 0 + (4 + 11) + 0 ≤ 109; decide) (g := (mkF m 53 #[.val (.ref a0), .val (.int (oN i)), .val (.int (oN d)), .val (.int (pre.getD i 0)), z4] [(.int (oN (i + 1))), (.int (pre.getD i 0)), (.ref a0)])) rfl hml rfl (argsL := [(.int (pre.getD i 0)), (.int (oN (i + 1)))]) (rest := []) pd_9 rfl rfl rfl (W := 0) (nE rfl) (D 26 rfl) rfl ej (by show cl + 0 ≤ k; omega) (by show sl + 0 ≤ 10 * k; omega)
       obtain ⟨rfl, Nq11, hs11⟩ := hQ11
       have N12 := Fr.app Nj Nq11
       refine OFin.to st11 ?_
       refine OFin.of (S' := T11.setTop (mkF m 60 #[.val (.ref a0), .val (.int (oN i)), .val (.int (oN d)), .val (.int (pre.getD i 0)), .val (.int rx)] [(.int rx)])) (fun t ht => sW X11 hx (D 27 rfl) rfl (l' := #[.val (.ref a0), .val (.int (oN i)), .val (.int (oN d)), .val (.int (pre.getD i 0)), .val (.int rx)]) (own_st jz4 rfl rfl rfl) (iW X11 hx (D 28 rfl) rfl ht)) ?_
       by_cases hc13 : rx < 0
       ·refine OFin.of (S' := T11.setTop (mkF m 179 #[.val (.ref a0), .val (.int (-1)), .val (.int (oN d)), .val (.int (pre.getD i 0)), .val (.int rx)] [(.int (-1))])) (fun t ht => fN X11 hx (D 29 rfl) rfl ((if0 _ _).trans (tlt hc13).2.1) (iC X11 hx (D 30 rfl) (gO X11 hx 64 71 rfl (D 31 rfl) (by decide) (XS.istoreN X11.here hx rfl (D 32 rfl) rfl (l' := #[.val (.ref a0), .val (.int (-1)), .val (.int (oN d)), .val (.int (pre.getD i 0)), .val (.int rx)]) rfl (gO X11 hx 72 157 rfl (D 33 rfl) (by decide) (gO X11 hx 157 2 rfl (D 34 rfl) (by decide) (iN X11 hx (D 2 rfl) rfl (fY X11 hx 3 160 rfl (D 3 rfl) rfl ((if0 _ _).trans (tlt (by decide : (-1 : Int32) < 0)).1) (by decide) (iN X11 hx (D 35 rfl) rfl (fY X11 hx 161 178 rfl (D 36 rfl) rfl ((if0 _ _).trans (tlt (by decide : (-1 : Int32) < 0)).1) (by decide) (iC X11 hx (D 37 rfl) ht))))))))))) ?_
        have rH14 : CHr Z consts_1 s.vm s.heap T11.vm T11.heap := by rw [hh, hs11]; exact hRl.trans (CHv.at (s := s) (vm0 := vm1) X11 hZl hEL hRl.1)
        exact own_retIH (s := s) (vm₁ := vm1) X11 Sl (by rw [hs11]; exact kl1) rH14 hx hlk hret (D 38 rfl) (by show cl ≤ k; omega) (by show sl ≤ 10 * k; omega) (by rw [hs11]; exact ⟨(by rw [own_pd_qn hp hlt hqq (hrx.symm ▸ hc13)]), N12, Kl⟩)
       ·refine OFin.of (S' := T11.setTop (mkF m 67 #[.val (.ref a0), .val (.int (oN i)), .val (.int (oN d)), .val (.int (pre.getD i 0)), .val (.int rx)] [])) (fun t ht => fY X11 hx 60 67 rfl (D 29 rfl) rfl ((if0 _ _).trans (flt hc13).2.1) (by decide) ht) ?_
        have hgl := own_ixl hg (hrx.symm ▸ hc13)
        have hgg : i + 1 ≤ g := hg ▸ own_find_ge _ _ _
        obtain rfl := own_ixn hg hrx hc13
        refine OFin.of (S' := T11.setTop (mkF m 71 #[.val (.ref a0), .val (.int (oN i)), .val (.int (oN d)), .val (.int (pre.getD i 0)), .val (.int (oN g))] [(.int ((oN g) + (1 : Int32)))])) (fun t ht => iW X11 hx (D 39 rfl) rfl (iC X11 hx (D 40 rfl) (XS.iadd X11.here hx rfl (D 41 rfl) rfl ht))) ?_
        rw [own_succ g]
        refine OFin.of (S' := T11.setTop (mkF m 2 #[.val (.ref a0), .val (.int (oN (g + 1))), .val (.int (oN d)), .val (.int (pre.getD i 0)), .val (.int (oN g))] [])) (fun t ht => XS.istoreN X11.here hx rfl (D 32 rfl) rfl (l' := #[.val (.ref a0), .val (.int (oN (g + 1))), .val (.int (oN d)), .val (.int (pre.getD i 0)), .val (.int (oN g))]) rfl (gO X11 hx 72 157 rfl (D 33 rfl) (by decide) (gO X11 hx 157 2 rfl (D 34 rfl) (by decide) ht))) ?_
        exact ih (cl) (sl) (g + 1) d kl _ _ (by omega) (by omega) (by omega) (own_pd_qy hp hlt hqq (hrx.symm ▸ hc13) hg) (by omega) (by omega) (Or.inr ⟨_, rfl⟩) (Or.inr ⟨_, rfl⟩) (vm1 := vm1) X11 hs11 Sl kl1 hZl hownl hRl Zl Kl N12 fa0 fa1 fa2 fa3 fa4 fa5
      refine OFin.of (S' := T8.setTop (mkF m 79 #[.val (.ref a0), .val (.int (oN i)), .val (.int (oN d)), .val (.int (pre.getD i 0)), z4] [])) (fun t ht => iN X8 hx (D 42 rfl) rfl (bP X8 hx (D 43 rfl) (cN X8 hx (D 44 rfl) rfl (feq ((own_6239 hc6).1 : ¬ ((pre.getD i 0) = 39))).1 (iN X8 hx (D 45 rfl) rfl (bP X8 hx (D 46 rfl) (cY X8 hx 45 75 rfl (D 47 rfl) rfl (feq ((own_6239 hc6).2 : ¬ ((pre.getD i 0) = 34))).2 (by decide) (iN X8 hx (D 48 rfl) rfl (fN X8 hx (D 49 rfl) rfl ((if0 _ _).trans (tlt hc7).2.2.2) ht)))))))) ?_
      have hb4 := own_pd_k hp hlt (fun z => absurd z.2 (Nat.ne_of_gt ((own_dpos hd (by omega)).mp hc7))) (own_6239 hc6).1 (own_6239 hc6).2 ((own_dpos hd (by omega)).mp hc7)
      obtain ⟨al15, T15, h15, k15, lv15, c15, X15, e15, E15, S15, K15, hZ15, hown15, Ax15, Fc15, Fv15, Va15, -, -, CH15, -, nx15, st15⟩ := ldcCH (s := s) (vm0 := vm1) X8 hx hZl hownl (wt hw 170 rfl) (own_strAtoms hw) e8 Sl kl1 hEL (mG (i := 1) rfl) hRl.1 (vs := [(.int 60), (.int 33), (.int 45), (.int 45)]) (z := (4 : Int32)) ⟨by decide, rfl⟩ (by decide) (by decide) (g := (mkF m 81 #[.val (.ref a0), .val (.int (oN i)), .val (.int (oN d)), .val (.int (pre.getD i 0)), z4] [(.int (oN i)), (.ref a0)])) rfl (D 52 rfl) (n := 16) (by decide) (by decide) (by show cl + 2 ≤ k; omega) (by show sl + 20 ≤ 10 * k; omega)
      have hA16 := CH15
      have hR17 := hRl.trans hA16
      have f18 := fa0.ext E15
      have f19 := fa1.ext E15
      have f20 := fa2.ext E15
      have f21 := fa3.ext E15
      have f22 := fa4.ext E15
      have f23 := fa5.ext E15
      have Z24 := nT Zl E15.1
      have K25 := Kl.ext E15
      have ns26 := nx15 a0 (Safe.exa hZ15.alike f18 (by decide) (by decide))
      refine OFin.of (fun t ht => aN X8 hx (D 50 rfl) rfl rfl (iN X8 hx (D 51 rfl) rfl (st15 t ht))) ?_
      obtain ⟨_, T27, Lc27, X27, hQ27, st27⟩ := own_cP X15 hx hw hZ15 hown15 171 172 35 173 36 174 rfl rfl rfl rfl rfl rfl (by decide) f18 (rmSw l Z _ hw [] a0 al15 tx kt nt pre lv15 c15 own_C1 cs fm i (own_b (own_sw pre i own_C1)) h15 n0 Z24 f18 f19 f20 f21 Ax15 Fc15 Fv15 ⟨own_C1, Va15, rfl, rfl⟩ f22 hcs f23 hfm own_lC1 hi hn3 rfl) (by show 4 + 1 ≤ 6; decide) (by show 0 + (4 + 11) + 54 ≤ 109; decide) (g := (mkF m 83 #[.val (.ref a0), .val (.int (oN i)), .val (.int (oN d)), .val (.int (pre.getD i 0)), z4] [(.ref al15), (.int (oN i)), (.ref a0)])) rfl hml rfl (argsL := [(.int (oN i)), (.ref al15)]) (rest := []) pd_8 rfl rfl rfl (W := 0) (nE rfl) (D 53 rfl) rfl e15 (by show cl + 2 + 0 ≤ k; omega) (by show sl + 20 + 0 ≤ 10 * k; omega)
      obtain ⟨rfl, Nq27, hs27⟩ := hQ27
      have N28 := Fr.app Nl Nq27
      refine OFin.to st27 ?_
      by_cases hc29 : (own_b (own_sw pre i own_C1)) = 0
      ·obtain ⟨al30, T30, h30, k30, lv30, c30, X30, e30, E30, S30, K30, hZ30, hown30, Ax30, Fc30, Fv30, Va30, -, -, CH30, -, nx30, st30⟩ := ldcCH (s := s) (vm0 := T15.vm) X27 hx hZ15 hown15 (wt hw 182 rfl) (own_strAtoms hw) hs27 S15 K15 hEL (mG (i := 5) rfl) hR17.1 (vs := [(.int 60), (.int 63)]) (z := (2 : Int32)) ⟨by decide, rfl⟩ (by decide) (by decide) (g := (mkF m 108 #[.val (.ref a0), .val (.int (oN i)), .val (.int (oN d)), .val (.int (pre.getD i 0)), z4] [(.int (oN i)), (.ref a0)])) rfl (D 59 rfl) (n := 8) (by decide) (by decide) (by show cl + 2 + 2 ≤ k; omega) (by show sl + 20 + 12 ≤ 10 * k; omega)
       have hA31 := CH30
       have hR32 := hR17.trans hA31
       have f33 := f18.ext E30
       have f34 := f19.ext E30
       have f35 := f20.ext E30
       have f36 := f21.ext E30
       have f37 := f22.ext E30
       have f38 := f23.ext E30
       have f39 := Ax15.ext E30
       have f40 := Fc15.ext E30
       have f41 := Fv15.ext E30
       have f42 := Va15.ext E30
       have Z43 := nT Z24 E30.1
       have K44 := K25.ext E30
       have ns45 := nx30 a0 (Safe.exa hZ30.alike f33 (by decide) (by decide))
       refine OFin.of (fun t ht => fY X27 hx 86 102 rfl (D 54 rfl) rfl ((if0 _ _).trans (teq hc29).1) (by decide) (iN X27 hx (D 55 rfl) rfl (fN X27 hx (D 56 rfl) rfl ((if0 _ _).trans (tlt hc7).2.2.2) (aN X27 hx (D 57 rfl) rfl rfl (iN X27 hx (D 58 rfl) rfl (st30 t ht)))))) ?_
       obtain ⟨_, T46, Lc46, X46, hQ46, st46⟩ := own_cP X30 hx hw hZ30 hown30 171 172 35 173 36 174 rfl rfl rfl rfl rfl rfl (by decide) f33 (rmSw l Z _ hw [] a0 al30 tx kt nt pre lv30 c30 own_Q1 cs fm i (own_b (own_sw pre i own_Q1)) h30 n0 Z43 f33 f34 f35 f36 Ax30 Fc30 Fv30 ⟨own_Q1, Va30, rfl, rfl⟩ f37 hcs f38 hfm own_lQ1 hi hn3 rfl) (by show 4 + 1 ≤ 6; decide) (by show 0 + (4 + 11) + 54 ≤ 109; decide) (g := (mkF m 110 #[.val (.ref a0), .val (.int (oN i)), .val (.int (oN d)), .val (.int (pre.getD i 0)), z4] [(.ref al30), (.int (oN i)), (.ref a0)])) rfl hml rfl (argsL := [(.int (oN i)), (.ref al30)]) (rest := []) pd_8 rfl rfl rfl (W := 0) (nE rfl) (D 60 rfl) rfl e30 (by show cl + 4 + 0 ≤ k; omega) (by show sl + 32 + 0 ≤ 10 * k; omega)
       obtain ⟨rfl, Nq46, hs46⟩ := hQ46
       have N47 := Fr.app N28 Nq46
       refine OFin.to st46 ?_
       by_cases hc48 : (own_b (own_sw pre i own_Q1)) = 0
       ·refine OFin.of (S' := T46.setTop (mkF m 132 #[.val (.ref a0), .val (.int (oN i)), .val (.int (oN d)), .val (.int (pre.getD i 0)), z4] [(.int 91), (.int (pre.getD i 0))])) (fun t ht => fY X46 hx 113 129 rfl (D 61 rfl) rfl ((if0 _ _).trans (teq hc48).1) (by decide) (iN X46 hx (D 62 rfl) rfl (bP X46 hx (D 63 rfl) ht))) ?_
        by_cases hc49 : (pre.getD i 0) = 91
        ·refine OFin.of (S' := T46.setTop (mkF m 138 #[.val (.ref a0), .val (.int (oN i)), .val (.int ((oN d) + (1 : Int32))), .val (.int (pre.getD i 0)), z4] [])) (fun t ht => cN X46 hx (D 64 rfl) rfl (teq hc49).2 (iI X46 hx (D 65 rfl) rfl (l' := #[.val (.ref a0), .val (.int (oN i)), .val (.int ((oN d) + (1 : Int32))), .val (.int (pre.getD i 0)), z4]) rfl ht)) ?_
         rw [own_succ d]
         refine OFin.of (S' := T46.setTop (mkF m 157 #[.val (.ref a0), .val (.int ((oN i) + (1 : Int32))), .val (.int (oN (d + 1))), .val (.int (pre.getD i 0)), z4] [])) (fun t ht => gO X46 hx 138 154 rfl (D 66 rfl) (by decide) (iI X46 hx (D 67 rfl) rfl (l' := #[.val (.ref a0), .val (.int ((oN i) + (1 : Int32))), .val (.int (oN (d + 1))), .val (.int (pre.getD i 0)), z4]) rfl ht)) ?_
         rw [own_succ i]
         refine OFin.of (S' := T46.setTop (mkF m 2 #[.val (.ref a0), .val (.int (oN (i + 1))), .val (.int (oN (d + 1))), .val (.int (pre.getD i 0)), z4] [])) (fun t ht => gO X46 hx 157 2 rfl (D 34 rfl) (by decide) ht) ?_
         obtain ⟨k', hkl, hp'⟩ := own_pd_s hp hlt (fun z => absurd z.2 (Nat.ne_of_gt ((own_dpos hd (by omega)).mp hc7))) (own_6239 hc6).1 (own_6239 hc6).2 ((own_dpos hd (by omega)).mp hc7) (own_b0 hc29) (own_b0 hc48)
         rw [show own_dep (pre.getD i 0) d = (d + 1) from if_pos hc49] at hp'
         exact ih (cl + 4) (sl + 32) (i + 1) (d + 1) k' _ _ (by omega) (by omega) (by omega) hp' (by omega) (by omega) (Or.inr ⟨_, rfl⟩) jz4 (vm1 := T30.vm) X46 hs46 S30 K30 hZ30 hown30 hR32 Z43 K44 N47 f33 f34 f35 f36 f37 f38
        ·refine OFin.of (S' := T46.setTop (mkF m 144 #[.val (.ref a0), .val (.int (oN i)), .val (.int (oN d)), .val (.int (pre.getD i 0)), z4] [(.int 93), (.int (pre.getD i 0))])) (fun t ht => cY X46 hx 132 141 rfl (D 64 rfl) rfl (feq hc49).2 (by decide) (iN X46 hx (D 68 rfl) rfl (bP X46 hx (D 69 rfl) ht))) ?_
         by_cases hc50 : (pre.getD i 0) = 93
         ·refine OFin.of (S' := T46.setTop (mkF m 154 #[.val (.ref a0), .val (.int (oN i)), .val (.int ((oN d) + (-1 : Int32))), .val (.int (pre.getD i 0)), z4] [])) (fun t ht => cN X46 hx (D 70 rfl) rfl (teq hc50).2 (iN X46 hx (D 71 rfl) rfl (fN X46 hx (D 72 rfl) rfl ((if0 _ _).trans (tlt hc7).2.2.2) (iI X46 hx (D 73 rfl) rfl (l' := #[.val (.ref a0), .val (.int (oN i)), .val (.int ((oN d) + (-1 : Int32))), .val (.int (pre.getD i 0)), z4]) rfl ht)))) ?_
          rw [own_predn ((own_dpos hd (by omega)).mp hc7)]
          refine OFin.of (S' := T46.setTop (mkF m 157 #[.val (.ref a0), .val (.int ((oN i) + (1 : Int32))), .val (.int (oN (d - 1))), .val (.int (pre.getD i 0)), z4] [])) (fun t ht => iI X46 hx (D 67 rfl) rfl (l' := #[.val (.ref a0), .val (.int ((oN i) + (1 : Int32))), .val (.int (oN (d - 1))), .val (.int (pre.getD i 0)), z4]) rfl ht) ?_
          rw [own_succ i]
          refine OFin.of (S' := T46.setTop (mkF m 2 #[.val (.ref a0), .val (.int (oN (i + 1))), .val (.int (oN (d - 1))), .val (.int (pre.getD i 0)), z4] [])) (fun t ht => gO X46 hx 157 2 rfl (D 34 rfl) (by decide) ht) ?_
          obtain ⟨k', hkl, hp'⟩ := own_pd_s hp hlt (fun z => absurd z.2 (Nat.ne_of_gt ((own_dpos hd (by omega)).mp hc7))) (own_6239 hc6).1 (own_6239 hc6).2 ((own_dpos hd (by omega)).mp hc7) (own_b0 hc29) (own_b0 hc48)
          rw [show own_dep (pre.getD i 0) d = (d - 1) from (if_neg hc49).trans (if_pos hc50)] at hp'
          exact ih (cl + 4) (sl + 32) (i + 1) (d - 1) k' _ _ (by omega) (by omega) (by omega) hp' (by omega) (by omega) (Or.inr ⟨_, rfl⟩) jz4 (vm1 := T30.vm) X46 hs46 S30 K30 hZ30 hown30 hR32 Z43 K44 N47 f33 f34 f35 f36 f37 f38
         ·refine OFin.of (S' := T46.setTop (mkF m 157 #[.val (.ref a0), .val (.int ((oN i) + (1 : Int32))), .val (.int (oN d)), .val (.int (pre.getD i 0)), z4] [])) (fun t ht => cY X46 hx 144 154 rfl (D 70 rfl) rfl (feq hc50).2 (by decide) (iI X46 hx (D 67 rfl) rfl (l' := #[.val (.ref a0), .val (.int ((oN i) + (1 : Int32))), .val (.int (oN d)), .val (.int (pre.getD i 0)), z4]) rfl ht)) ?_
          rw [own_succ i]
          refine OFin.of (S' := T46.setTop (mkF m 2 #[.val (.ref a0), .val (.int (oN (i + 1))), .val (.int (oN d)), .val (.int (pre.getD i 0)), z4] [])) (fun t ht => gO X46 hx 157 2 rfl (D 34 rfl) (by decide) ht) ?_
          obtain ⟨k', hkl, hp'⟩ := own_pd_s hp hlt (fun z => absurd z.2 (Nat.ne_of_gt ((own_dpos hd (by omega)).mp hc7))) (own_6239 hc6).1 (own_6239 hc6).2 ((own_dpos hd (by omega)).mp hc7) (own_b0 hc29) (own_b0 hc48)
          rw [show own_dep (pre.getD i 0) d = d from (if_neg hc49).trans (if_neg hc50)] at hp'
          exact ih (cl + 4) (sl + 32) (i + 1) d k' _ _ (by omega) (by omega) (by omega) hp' (by omega) (by omega) (Or.inr ⟨_, rfl⟩) jz4 (vm1 := T30.vm) X46 hs46 S30 K30 hZ30 hown30 hR32 Z43 K44 N47 f33 f34 f35 f36 f37 f38
       ·refine OFin.of (S' := T46.setTop (mkF m 116 #[.val (.ref a0), .val (.int (oN i)), .val (.int (oN d)), .val (.int (pre.getD i 0)), z4] [])) (fun t ht => fN X46 hx (D 61 rfl) rfl ((if0 _ _).trans (feq hc48).1) ht) ?_
        have hb6 := (own_pd_q hp hlt (fun z => absurd z.2 (Nat.ne_of_gt ((own_dpos hd (by omega)).mp hc7))) (own_6239 hc6).1 (own_6239 hc6).2 ((own_dpos hd (by omega)).mp hc7) (own_b0 hc29) (own_b1 hc48)).1
        obtain ⟨al51, T51, h51, k51, lv51, c51, X51, e51, E51, S51, K51, hZ51, hown51, Ax51, Fc51, Fv51, Va51, -, -, CH51, -, nx51, st51⟩ := ldcCH (s := s) (vm0 := T30.vm) X46 hx hZ30 hown30 (wt hw 196 rfl) (own_strAtoms hw) hs46 S30 K30 hEL (mG (i := 0) rfl) hR32.1 (vs := [(.int 63), (.int 62)]) (z := (2 : Int32)) ⟨by decide, rfl⟩ (by decide) (by decide) (g := (mkF m 120 #[.val (.ref a0), .val (.int (oN i)), .val (.int (oN d)), .val (.int (pre.getD i 0)), z4] [(.int ((oN i) + (2 : Int32))), (.ref a0)])) rfl (D 78 rfl) (n := 8) (by decide) (by decide) (by show cl + 4 + 2 ≤ k; omega) (by show sl + 32 + 12 ≤ 10 * k; omega)
        have hA52 := CH51
        have hR53 := hR32.trans hA52
        have f54 := f33.ext E51
        have f55 := f34.ext E51
        have f56 := f35.ext E51
        have f57 := f36.ext E51
        have f58 := f37.ext E51
        have f59 := f38.ext E51
        have f60 := f39.ext E51
        have f61 := f40.ext E51
        have f62 := f41.ext E51
        have f63 := f42.ext E51
        have f64 := Ax30.ext E51
        have f65 := Fc30.ext E51
        have f66 := Fv30.ext E51
        have f67 := Va30.ext E51
        have Z68 := nT Z43 E51.1
        have K69 := K44.ext E51
        have ns70 := nx51 a0 (Safe.exa hZ51.alike f54 (by decide) (by decide))
        refine OFin.of (fun t ht => aN X46 hx (D 74 rfl) rfl rfl (iN X46 hx (D 75 rfl) rfl (iC X46 hx (D 76 rfl) (XS.iadd X46.here hx rfl (D 77 rfl) rfl (st51 t ht))))) ?_
        rw [show oN i + (2 : Int32) = oN (i + 2) from own_addn i 2]
        obtain ⟨_, T71, Lc71, X71, hQ71, st71⟩ := own_cP X51 hx hw hZ51 hown51 184 185 35 186 36 187 rfl rfl rfl rfl rfl rfl (by decide) f54 (rmPa l Z _ hw [] a0 al51 tx kt nt pre lv51 c51 own_Q2 cs fm (i + 2) (own_past pre own_Q2 (i + 2)) h51 n0 Z68 f54 f55 f56 f57 Ax51 Fc51 Fv51 ⟨own_Q2, Va51, rfl, rfl⟩ f58 hcs f59 hfm own_lQ2 (own_sw_le (own_b1 hc48)) hn3 rfl) (by show 5 + 1 ≤ 6; decide) (by show 0 + (4 + 11) + 69 ≤ 109; decide) (g := (mkF m 122 #[.val (.ref a0), .val (.int (oN i)), .val (.int (oN d)), .val (.int (pre.getD i 0)), z4] [(.ref al51), (.int (oN (i + 2))), (.ref a0)])) rfl hml rfl (argsL := [(.int (oN (i + 2))), (.ref al51)]) (rest := []) pd_10 rfl rfl rfl (W := 0) (nE rfl) (D 79 rfl) rfl e51 (by show cl + 6 + 0 ≤ k; omega) (by show sl + 44 + 0 ≤ 10 * k; omega)
        obtain ⟨rfl, Nq71, hs71⟩ := hQ71
        have N72 := Fr.app N47 Nq71
        refine OFin.to st71 ?_
        refine OFin.of (S' := T71.setTop (mkF m 157 #[.val (.ref a0), .val (.int (own_past pre own_Q2 (i + 2))), .val (.int (oN d)), .val (.int (pre.getD i 0)), z4] [])) (fun t ht => XS.istoreN X71.here hx rfl (D 80 rfl) rfl (l' := #[.val (.ref a0), .val (.int (own_past pre own_Q2 (i + 2))), .val (.int (oN d)), .val (.int (pre.getD i 0)), z4]) rfl (gO X71 hx 126 157 rfl (D 81 rfl) (by decide) ht)) ?_
        obtain ⟨hk4, hpn, hpy⟩ := own_pd_q hp hlt (fun z => absurd z.2 (Nat.ne_of_gt ((own_dpos hd (by omega)).mp hc7))) (own_6239 hc6).1 (own_6239 hc6).2 ((own_dpos hd (by omega)).mp hc7) (own_b0 hc29) (own_b1 hc48)
        by_cases hc73 : (own_past pre own_Q2 (i + 2)) < 0
        ·rw [own_past_neg (by have := hn3; have := f57.len; simp only [List.length_cons, List.length_nil]; omega) hc73]
         refine OFin.of (S' := T71.setTop (mkF m 179 #[.val (.ref a0), .val (.int (-1)), .val (.int (oN d)), .val (.int (pre.getD i 0)), z4] [(.int (-1))])) (fun t ht => gO X71 hx 157 2 rfl (D 34 rfl) (by decide) (iN X71 hx (D 2 rfl) rfl (fY X71 hx 3 160 rfl (D 3 rfl) rfl ((if0 _ _).trans (tlt (by decide : (-1 : Int32) < 0)).1) (by decide) (iN X71 hx (D 35 rfl) rfl (fY X71 hx 161 178 rfl (D 36 rfl) rfl ((if0 _ _).trans (tlt (by decide : (-1 : Int32) < 0)).1) (by decide) (iC X71 hx (D 37 rfl) ht)))))) ?_
         have rH74 : CHr Z consts_1 s.vm s.heap T71.vm T71.heap := by rw [hh, hs71]; exact hR53.trans (CHv.at (s := s) (vm0 := T51.vm) X71 hZ51 hEL hR53.1)
         exact own_retIH (s := s) (vm₁ := T51.vm) X71 S51 (by rw [hs71]; exact K51) rH74 hx hlk hret (D 38 rfl) (by show cl + 6 ≤ k; omega) (by show sl + 44 ≤ 10 * k; omega) (by rw [hs71]; exact ⟨(by rw [hpn hc73]), N72, K69⟩)
        ·obtain ⟨k', hkl, hp'⟩ := hpy hc73
         have hle : own_fs pre own_Q2 (pre.length - (i + 2)) (i + 2) + 2 ≤ pre.length ∧ i + 2 ≤ own_fs pre own_Q2 (pre.length - (i + 2)) (i + 2) := own_past_le (i := i + 2) (own_sw_le (own_b1 hc48)) hc73
         rw [(own_past_eq hc73).1]
         refine OFin.of (S' := T71.setTop (mkF m 2 (la0 a0 (oN (own_fs pre own_Q2 (pre.length - (i + 2)) (i + 2) + own_Q2.length)) (oN d) (pre.getD i 0) z4) [])) (fun t ht => gO X71 hx 157 2 rfl (D 34 rfl) (by decide) ht) ?_
         exact ih (cl + 6) (sl + 44) (own_fs pre own_Q2 (pre.length - (i + 2)) (i + 2) + 2) d k' _ _ (by omega) (by omega) (by omega) hp' (by omega) (by omega) (Or.inr ⟨_, rfl⟩) jz4 (vm1 := T51.vm) X71 hs71 S51 K51 hZ51 hown51 hR53 Z68 K69 N72 f54 f55 f56 f57 f58 f59
      ·obtain ⟨al75, T75, h75, k75, lv75, c75, X75, e75, E75, S75, K75, hZ75, hown75, Ax75, Fc75, Fv75, Va75, -, -, CH75, -, nx75, st75⟩ := ldcCH (s := s) (vm0 := T15.vm) X27 hx hZ15 hown15 (wt hw 183 rfl) (own_strAtoms hw) hs27 S15 K15 hEL (mG (i := 2) rfl) hR17.1 (vs := [(.int 45), (.int 45), (.int 62)]) (z := (3 : Int32)) ⟨by decide, rfl⟩ (by decide) (by decide) (g := (mkF m 93 #[.val (.ref a0), .val (.int (oN i)), .val (.int (oN d)), .val (.int (pre.getD i 0)), z4] [(.int ((oN i) + (4 : Int32))), (.ref a0)])) rfl (D 86 rfl) (n := 12) (by decide) (by decide) (by show cl + 2 + 2 ≤ k; omega) (by show sl + 20 + 16 ≤ 10 * k; omega)
       have hA76 := CH75
       have hR77 := hR17.trans hA76
       have f78 := f18.ext E75
       have f79 := f19.ext E75
       have f80 := f20.ext E75
       have f81 := f21.ext E75
       have f82 := f22.ext E75
       have f83 := f23.ext E75
       have f84 := Ax15.ext E75
       have f85 := Fc15.ext E75
       have f86 := Fv15.ext E75
       have f87 := Va15.ext E75
       have Z88 := nT Z24 E75.1
       have K89 := K25.ext E75
       have ns90 := nx75 a0 (Safe.exa hZ75.alike f78 (by decide) (by decide))
       refine OFin.of (fun t ht => fN X27 hx (D 54 rfl) rfl ((if0 _ _).trans (feq hc29).1) (aN X27 hx (D 82 rfl) rfl rfl (iN X27 hx (D 83 rfl) rfl (iC X27 hx (D 84 rfl) (XS.iadd X27.here hx rfl (D 85 rfl) rfl (st75 t ht)))))) ?_
       rw [show oN i + (4 : Int32) = oN (i + 4) from own_addn i 4]
       obtain ⟨_, T91, Lc91, X91, hQ91, st91⟩ := own_cP X75 hx hw hZ75 hown75 184 185 35 186 36 187 rfl rfl rfl rfl rfl rfl (by decide) f78 (rmPa l Z _ hw [] a0 al75 tx kt nt pre lv75 c75 own_C2 cs fm (i + 4) (own_past pre own_C2 (i + 4)) h75 n0 Z88 f78 f79 f80 f81 Ax75 Fc75 Fv75 ⟨own_C2, Va75, rfl, rfl⟩ f82 hcs f83 hfm own_lC2 (own_sw_le (own_b1 hc29)) hn3 rfl) (by show 5 + 1 ≤ 6; decide) (by show 0 + (4 + 11) + 69 ≤ 109; decide) (g := (mkF m 95 #[.val (.ref a0), .val (.int (oN i)), .val (.int (oN d)), .val (.int (pre.getD i 0)), z4] [(.ref al75), (.int (oN (i + 4))), (.ref a0)])) rfl hml rfl (argsL := [(.int (oN (i + 4))), (.ref al75)]) (rest := []) pd_10 rfl rfl rfl (W := 0) (nE rfl) (D 87 rfl) rfl e75 (by show cl + 4 + 0 ≤ k; omega) (by show sl + 36 + 0 ≤ 10 * k; omega)
       obtain ⟨rfl, Nq91, hs91⟩ := hQ91
       have N92 := Fr.app N28 Nq91
       refine OFin.to st91 ?_
       refine OFin.of (S' := T91.setTop (mkF m 157 #[.val (.ref a0), .val (.int (own_past pre own_C2 (i + 4))), .val (.int (oN d)), .val (.int (pre.getD i 0)), z4] [])) (fun t ht => XS.istoreN X91.here hx rfl (D 88 rfl) rfl (l' := #[.val (.ref a0), .val (.int (own_past pre own_C2 (i + 4))), .val (.int (oN d)), .val (.int (pre.getD i 0)), z4]) rfl (gO X91 hx 99 157 rfl (D 89 rfl) (by decide) ht)) ?_
       obtain ⟨hk4, hpn, hpy⟩ := own_pd_c hp hlt (fun z => absurd z.2 (Nat.ne_of_gt ((own_dpos hd (by omega)).mp hc7))) (own_6239 hc6).1 (own_6239 hc6).2 ((own_dpos hd (by omega)).mp hc7) (own_b1 hc29)
       by_cases hc93 : (own_past pre own_C2 (i + 4)) < 0
       ·rw [own_past_neg (by have := hn3; have := f81.len; simp only [List.length_cons, List.length_nil]; omega) hc93]
        refine OFin.of (S' := T91.setTop (mkF m 179 #[.val (.ref a0), .val (.int (-1)), .val (.int (oN d)), .val (.int (pre.getD i 0)), z4] [(.int (-1))])) (fun t ht => gO X91 hx 157 2 rfl (D 34 rfl) (by decide) (iN X91 hx (D 2 rfl) rfl (fY X91 hx 3 160 rfl (D 3 rfl) rfl ((if0 _ _).trans (tlt (by decide : (-1 : Int32) < 0)).1) (by decide) (iN X91 hx (D 35 rfl) rfl (fY X91 hx 161 178 rfl (D 36 rfl) rfl ((if0 _ _).trans (tlt (by decide : (-1 : Int32) < 0)).1) (by decide) (iC X91 hx (D 37 rfl) ht)))))) ?_
        have rH94 : CHr Z consts_1 s.vm s.heap T91.vm T91.heap := by rw [hh, hs91]; exact hR77.trans (CHv.at (s := s) (vm0 := T75.vm) X91 hZ75 hEL hR77.1)
        exact own_retIH (s := s) (vm₁ := T75.vm) X91 S75 (by rw [hs91]; exact K75) rH94 hx hlk hret (D 38 rfl) (by show cl + 4 ≤ k; omega) (by show sl + 36 ≤ 10 * k; omega) (by rw [hs91]; exact ⟨(by rw [hpn hc93]), N92, K89⟩)
       ·obtain ⟨k', hkl, hp'⟩ := hpy hc93
        have hle : own_fs pre own_C2 (pre.length - (i + 4)) (i + 4) + 3 ≤ pre.length ∧ i + 4 ≤ own_fs pre own_C2 (pre.length - (i + 4)) (i + 4) := own_past_le (i := i + 4) (own_sw_le (own_b1 hc29)) hc93
        rw [(own_past_eq hc93).1]
        refine OFin.of (S' := T91.setTop (mkF m 2 (la0 a0 (oN (own_fs pre own_C2 (pre.length - (i + 4)) (i + 4) + own_C2.length)) (oN d) (pre.getD i 0) z4) [])) (fun t ht => gO X91 hx 157 2 rfl (D 34 rfl) (by decide) ht) ?_
        exact ih (cl + 4) (sl + 36) (own_fs pre own_C2 (pre.length - (i + 4)) (i + 4) + 3) d k' _ _ (by omega) (by omega) (by omega) hp' (by omega) (by omega) (Or.inr ⟨_, rfl⟩) jz4 (vm1 := T75.vm) X91 hs91 S75 K75 hZ75 hown75 hR77 Z88 K89 N92 f78 f79 f80 f81 f82 f83
     ·obtain ⟨T95, X95, e95, st95⟩ := getF X4 hx hZl hownl (host := "") (Or.inl (wt hw 47 rfl)) Via.refl e4 fa2 (g := (mkF m 166 #[.val (.ref a0), .val (.int (oN i)), .val (.int (oN d)), z3, z4] [(.ref a0), (.int (oN i))])) rfl rfl (D 92 rfl)
      refine OFin.of (fun t ht => fY X4 hx 26 160 rfl (D 15 rfl) rfl ((if0 _ _).trans (flt hc7).2.2.2) (by decide) (iN X4 hx (D 35 rfl) rfl (fN X4 hx (D 36 rfl) rfl ((if0 _ _).trans (flt (own_nn31 fa3 hi : ¬ ((oN i) < 0))).1) (iN X4 hx (D 90 rfl) rfl (aN X4 hx (D 91 rfl) rfl rfl (st95 t ht)))))) ?_
      refine OFin.of (S' := T95.setTop (mkF m 179 #[.val (.ref a0), .val (.int (oN i)), .val (.int (oN d)), z3, z4] [(.int ((oN i) + (1 : Int32)))])) (fun t ht => cN X95 hx (D 93 rfl) rfl (tlt hc3).2.1 (iN X95 hx (D 94 rfl) rfl (iC X95 hx (D 95 rfl) (XS.iadd X95.here hx rfl (D 96 rfl) rfl (gO X95 hx 175 179 rfl (D 97 rfl) (by decide) ht))))) ?_
      have rH96 : CHr Z consts_1 s.vm s.heap T95.vm T95.heap := by rw [hh, e95]; exact hRl.trans (CHv.at (s := s) (vm0 := vm1) X95 hZl hEL hRl.1)
      exact own_retIH (s := s) (vm₁ := vm1) X95 Sl (by rw [e95]; exact kl1) rH96 hx hlk hret (D 38 rfl) (by show cl ≤ k; omega) (by show sl ≤ 10 * k; omega) (by rw [e95]; exact ⟨(by rw [own_pd_gt hp hlt hc6 (Nat.le_zero.mp (Nat.le_of_not_lt fun z => hc7 ((own_dpos hd (by omega)).mpr z)))]; exact congrArg (fun x => some (Value.int x)) (own_succ i)), Nl, Kl⟩)
    ·obtain ⟨T97, X97, e97, st97⟩ := getF X4 hx hZl hownl (host := "") (Or.inl (wt hw 43 rfl)) Via.refl e4 fa1 (g := (mkF m 30 #[.val (.ref a0), .val (.int (oN i)), .val (.int (oN d)), z3, z4] [(.ref a0)])) rfl rfl (D 17 rfl)
     refine OFin.of (fun t ht => cY X4 hx 22 29 rfl (D 13 rfl) rfl (feq hc6).2 (by decide) (aN X4 hx (D 16 rfl) rfl rfl (st97 t ht))) ?_
     obtain ⟨cl98, Ar98, hin98, hat98⟩ := Txt.at fa3 (j := (oN i)) (i := i) rfl hlt
     refine OFin.of (fun t ht => iN X97 hx (D 18 rfl) rfl (X97.baloadBytes hx (j := (oN i)) (v := (.int (pre.getD i 0))) (by rw [e97]; exact Ar98.1) (State.isArrayOf_alike hZl.alike Ar98.2.1) Ar98.2.2 hin98 hat98 (g := (mkF m 34 #[.val (.ref a0), .val (.int (oN i)), .val (.int (oN d)), z3, z4] [(.int (oN i)), (.ref tx)])) rfl rfl (D 19 rfl) _ ht)) ?_
     refine OFin.of (S' := T97.setTop (mkF m 36 #[.val (.ref a0), .val (.int (oN i)), .val (.int (oN d)), .val (.int (pre.getD i 0)), z4] [])) (fun t ht => XS.istoreN X97.here hx rfl (D 20 rfl) rfl (l' := #[.val (.ref a0), .val (.int (oN i)), .val (.int (oN d)), .val (.int (pre.getD i 0)), z4]) (own_st jz3 rfl rfl rfl) ht) ?_
     have jn99 : ∀ (hqq : pre.getD i 0 = 39 ∨ pre.getD i 0 = 34) {Tj : State} {lj : List Loc} (Xj : Stand p l e (⟨6, k, 10 * k, 109⟩ : Jvm.Room) (s.setVm vm1) m #[(.ref a0), (.int (oN i0))] below meth c Tj lj (cl) (sl)) (ej : Tj.heap = hl) (Nj : Fr n0 lj), OFin p e below (KPostH Z consts_1 s (QPd Z a0 tx kt nt pre cs fm i0 r k h0 n0) (⟨6, k, 10 * k, 109⟩ : Jvm.Room).cells (⟨6, k, 10 * k, 109⟩ : Jvm.Room).slots) (Tj.setTop (mkF m 48 #[.val (.ref a0), .val (.int (oN i)), .val (.int (oN d)), .val (.int (pre.getD i 0)), z4] [])) := by
      intro hqq Tj lj Xj ej Nj
      refine OFin.of (S' := Tj.setTop (mkF m 53 #[.val (.ref a0), .val (.int (oN i)), .val (.int (oN d)), .val (.int (pre.getD i 0)), z4] [(.int ((oN i) + (1 : Int32))), (.int (pre.getD i 0)), (.ref a0)])) (fun t ht => aN Xj hx (D 21 rfl) rfl rfl (iN Xj hx (D 22 rfl) rfl (iN Xj hx (D 23 rfl) rfl (iC Xj hx (D 24 rfl) (XS.iadd Xj.here hx rfl (D 25 rfl) rfl ht))))) ?_
      rw [own_succ i]
      obtain ⟨rx, hrx⟩ : ∃ z, own_ix pre (pre.getD i 0) (i + 1) = z := ⟨_, rfl⟩
      obtain ⟨g, hg⟩ : ∃ z, own_find (fun x => decide (x = pre.getD i 0)) pre (i + 1) = z := ⟨_, rfl⟩
      obtain ⟨_, T100, Lc100, X100, hQ100, st100⟩ := own_cP Xj hx hw hZl hownl 54 55 35 56 36 57 rfl rfl rfl rfl rfl rfl (by decide) fa0 (rmIx l Z _ hw [] a0 (pre.getD i 0) tx kt nt pre (i + 1) rx hl n0 Zl fa1 fa2 fa3 hlt hrx) (by show 0 + 1 ≤ 6; decide) (by show 0 + (4 + 11) + 0 ≤ 109; decide) (g := (mkF m 53 #[.val (.ref a0), .val (.int (oN i)), .val (.int (oN d)), .val (.int (pre.getD i 0)), z4] [(.int (oN (i + 1))), (.int (pre.getD i 0)), (.ref a0)])) rfl hml rfl (argsL := [(.int (pre.getD i 0)), (.int (oN (i + 1)))]) (rest := []) pd_9 rfl rfl rfl (W := 0) (nE rfl) (D 26 rfl) rfl ej (by show cl + 0 ≤ k; omega) (by show sl + 0 ≤ 10 * k; omega)
      obtain ⟨rfl, Nq100, hs100⟩ := hQ100
      have N101 := Fr.app Nj Nq100
      refine OFin.to st100 ?_
      refine OFin.of (S' := T100.setTop (mkF m 60 #[.val (.ref a0), .val (.int (oN i)), .val (.int (oN d)), .val (.int (pre.getD i 0)), .val (.int rx)] [(.int rx)])) (fun t ht => sW X100 hx (D 27 rfl) rfl (l' := #[.val (.ref a0), .val (.int (oN i)), .val (.int (oN d)), .val (.int (pre.getD i 0)), .val (.int rx)]) (own_st jz4 rfl rfl rfl) (iW X100 hx (D 28 rfl) rfl ht)) ?_
      by_cases hc102 : rx < 0
      ·refine OFin.of (S' := T100.setTop (mkF m 179 #[.val (.ref a0), .val (.int (-1)), .val (.int (oN d)), .val (.int (pre.getD i 0)), .val (.int rx)] [(.int (-1))])) (fun t ht => fN X100 hx (D 29 rfl) rfl ((if0 _ _).trans (tlt hc102).2.1) (iC X100 hx (D 30 rfl) (gO X100 hx 64 71 rfl (D 31 rfl) (by decide) (XS.istoreN X100.here hx rfl (D 32 rfl) rfl (l' := #[.val (.ref a0), .val (.int (-1)), .val (.int (oN d)), .val (.int (pre.getD i 0)), .val (.int rx)]) rfl (gO X100 hx 72 157 rfl (D 33 rfl) (by decide) (gO X100 hx 157 2 rfl (D 34 rfl) (by decide) (iN X100 hx (D 2 rfl) rfl (fY X100 hx 3 160 rfl (D 3 rfl) rfl ((if0 _ _).trans (tlt (by decide : (-1 : Int32) < 0)).1) (by decide) (iN X100 hx (D 35 rfl) rfl (fY X100 hx 161 178 rfl (D 36 rfl) rfl ((if0 _ _).trans (tlt (by decide : (-1 : Int32) < 0)).1) (by decide) (iC X100 hx (D 37 rfl) ht))))))))))) ?_
       have rH103 : CHr Z consts_1 s.vm s.heap T100.vm T100.heap := by rw [hh, hs100]; exact hRl.trans (CHv.at (s := s) (vm0 := vm1) X100 hZl hEL hRl.1)
       exact own_retIH (s := s) (vm₁ := vm1) X100 Sl (by rw [hs100]; exact kl1) rH103 hx hlk hret (D 38 rfl) (by show cl ≤ k; omega) (by show sl ≤ 10 * k; omega) (by rw [hs100]; exact ⟨(by rw [own_pd_qn hp hlt hqq (hrx.symm ▸ hc102)]), N101, Kl⟩)
      ·refine OFin.of (S' := T100.setTop (mkF m 67 #[.val (.ref a0), .val (.int (oN i)), .val (.int (oN d)), .val (.int (pre.getD i 0)), .val (.int rx)] [])) (fun t ht => fY X100 hx 60 67 rfl (D 29 rfl) rfl ((if0 _ _).trans (flt hc102).2.1) (by decide) ht) ?_
       have hgl := own_ixl hg (hrx.symm ▸ hc102)
       have hgg : i + 1 ≤ g := hg ▸ own_find_ge _ _ _
       obtain rfl := own_ixn hg hrx hc102
       refine OFin.of (S' := T100.setTop (mkF m 71 #[.val (.ref a0), .val (.int (oN i)), .val (.int (oN d)), .val (.int (pre.getD i 0)), .val (.int (oN g))] [(.int ((oN g) + (1 : Int32)))])) (fun t ht => iW X100 hx (D 39 rfl) rfl (iC X100 hx (D 40 rfl) (XS.iadd X100.here hx rfl (D 41 rfl) rfl ht))) ?_
       rw [own_succ g]
       refine OFin.of (S' := T100.setTop (mkF m 2 #[.val (.ref a0), .val (.int (oN (g + 1))), .val (.int (oN d)), .val (.int (pre.getD i 0)), .val (.int (oN g))] [])) (fun t ht => XS.istoreN X100.here hx rfl (D 32 rfl) rfl (l' := #[.val (.ref a0), .val (.int (oN (g + 1))), .val (.int (oN d)), .val (.int (pre.getD i 0)), .val (.int (oN g))]) rfl (gO X100 hx 72 157 rfl (D 33 rfl) (by decide) (gO X100 hx 157 2 rfl (D 34 rfl) (by decide) ht))) ?_
       exact ih (cl) (sl) (g + 1) d kl _ _ (by omega) (by omega) (by omega) (own_pd_qy hp hlt hqq (hrx.symm ▸ hc102) hg) (by omega) (by omega) (Or.inr ⟨_, rfl⟩) (Or.inr ⟨_, rfl⟩) (vm1 := vm1) X100 hs100 Sl kl1 hZl hownl hRl Zl Kl N101 fa0 fa1 fa2 fa3 fa4 fa5
     refine OFin.of (S' := T97.setTop (mkF m 39 #[.val (.ref a0), .val (.int (oN i)), .val (.int (oN d)), .val (.int (pre.getD i 0)), z4] [(.int 39), (.int (pre.getD i 0))])) (fun t ht => iN X97 hx (D 42 rfl) rfl (bP X97 hx (D 43 rfl) ht)) ?_
     by_cases hc104 : (pre.getD i 0) = 39
     ·refine OFin.of (S' := T97.setTop (mkF m 48 #[.val (.ref a0), .val (.int (oN i)), .val (.int (oN d)), .val (.int (pre.getD i 0)), z4] [])) (fun t ht => cY X97 hx 39 48 rfl (D 44 rfl) rfl (teq hc104).1 (by decide) ht) ?_
      exact jn99 (Or.inl hc104) X97 e97 Nl
     ·refine OFin.of (S' := T97.setTop (mkF m 45 #[.val (.ref a0), .val (.int (oN i)), .val (.int (oN d)), .val (.int (pre.getD i 0)), z4] [(.int 34), (.int (pre.getD i 0))])) (fun t ht => cN X97 hx (D 44 rfl) rfl (feq hc104).1 (iN X97 hx (D 45 rfl) rfl (bP X97 hx (D 46 rfl) ht))) ?_
      by_cases hc105 : (pre.getD i 0) = 34
      ·refine OFin.of (S' := T97.setTop (mkF m 48 #[.val (.ref a0), .val (.int (oN i)), .val (.int (oN d)), .val (.int (pre.getD i 0)), z4] [])) (fun t ht => cN X97 hx (D 47 rfl) rfl (teq hc105).2 ht) ?_
       exact jn99 (Or.inr hc105) X97 e97 Nl
      ·refine OFin.of (S' := T97.setTop (mkF m 76 #[.val (.ref a0), .val (.int (oN i)), .val (.int (oN d)), .val (.int (pre.getD i 0)), z4] [(.int (oN d))])) (fun t ht => cY X97 hx 45 75 rfl (D 47 rfl) rfl (feq hc105).2 (by decide) (iN X97 hx (D 48 rfl) rfl ht)) ?_
       by_cases hc106 : (0 : Int32) < (oN d)
       ·refine OFin.of (S' := T97.setTop (mkF m 79 #[.val (.ref a0), .val (.int (oN i)), .val (.int (oN d)), .val (.int (pre.getD i 0)), z4] [])) (fun t ht => fN X97 hx (D 49 rfl) rfl ((if0 _ _).trans (tlt hc106).2.2.2) ht) ?_
        have hb4 := own_pd_k hp hlt (fun z => hc6 z.1) hc104 hc105 ((own_dpos hd (by omega)).mp hc106)
        obtain ⟨al107, T107, h107, k107, lv107, c107, X107, e107, E107, S107, K107, hZ107, hown107, Ax107, Fc107, Fv107, Va107, -, -, CH107, -, nx107, st107⟩ := ldcCH (s := s) (vm0 := vm1) X97 hx hZl hownl (wt hw 170 rfl) (own_strAtoms hw) e97 Sl kl1 hEL (mG (i := 1) rfl) hRl.1 (vs := [(.int 60), (.int 33), (.int 45), (.int 45)]) (z := (4 : Int32)) ⟨by decide, rfl⟩ (by decide) (by decide) (g := (mkF m 81 #[.val (.ref a0), .val (.int (oN i)), .val (.int (oN d)), .val (.int (pre.getD i 0)), z4] [(.int (oN i)), (.ref a0)])) rfl (D 52 rfl) (n := 16) (by decide) (by decide) (by show cl + 2 ≤ k; omega) (by show sl + 20 ≤ 10 * k; omega)
        have hA108 := CH107
        have hR109 := hRl.trans hA108
        have f110 := fa0.ext E107
        have f111 := fa1.ext E107
        have f112 := fa2.ext E107
        have f113 := fa3.ext E107
        have f114 := fa4.ext E107
        have f115 := fa5.ext E107
        have Z116 := nT Zl E107.1
        have K117 := Kl.ext E107
        have ns118 := nx107 a0 (Safe.exa hZ107.alike f110 (by decide) (by decide))
        refine OFin.of (fun t ht => aN X97 hx (D 50 rfl) rfl rfl (iN X97 hx (D 51 rfl) rfl (st107 t ht))) ?_
        obtain ⟨_, T119, Lc119, X119, hQ119, st119⟩ := own_cP X107 hx hw hZ107 hown107 171 172 35 173 36 174 rfl rfl rfl rfl rfl rfl (by decide) f110 (rmSw l Z _ hw [] a0 al107 tx kt nt pre lv107 c107 own_C1 cs fm i (own_b (own_sw pre i own_C1)) h107 n0 Z116 f110 f111 f112 f113 Ax107 Fc107 Fv107 ⟨own_C1, Va107, rfl, rfl⟩ f114 hcs f115 hfm own_lC1 hi hn3 rfl) (by show 4 + 1 ≤ 6; decide) (by show 0 + (4 + 11) + 54 ≤ 109; decide) (g := (mkF m 83 #[.val (.ref a0), .val (.int (oN i)), .val (.int (oN d)), .val (.int (pre.getD i 0)), z4] [(.ref al107), (.int (oN i)), (.ref a0)])) rfl hml rfl (argsL := [(.int (oN i)), (.ref al107)]) (rest := []) pd_8 rfl rfl rfl (W := 0) (nE rfl) (D 53 rfl) rfl e107 (by show cl + 2 + 0 ≤ k; omega) (by show sl + 20 + 0 ≤ 10 * k; omega)
        obtain ⟨rfl, Nq119, hs119⟩ := hQ119
        have N120 := Fr.app Nl Nq119
        refine OFin.to st119 ?_
        by_cases hc121 : (own_b (own_sw pre i own_C1)) = 0
        ·obtain ⟨al122, T122, h122, k122, lv122, c122, X122, e122, E122, S122, K122, hZ122, hown122, Ax122, Fc122, Fv122, Va122, -, -, CH122, -, nx122, st122⟩ := ldcCH (s := s) (vm0 := T107.vm) X119 hx hZ107 hown107 (wt hw 182 rfl) (own_strAtoms hw) hs119 S107 K107 hEL (mG (i := 5) rfl) hR109.1 (vs := [(.int 60), (.int 63)]) (z := (2 : Int32)) ⟨by decide, rfl⟩ (by decide) (by decide) (g := (mkF m 108 #[.val (.ref a0), .val (.int (oN i)), .val (.int (oN d)), .val (.int (pre.getD i 0)), z4] [(.int (oN i)), (.ref a0)])) rfl (D 59 rfl) (n := 8) (by decide) (by decide) (by show cl + 2 + 2 ≤ k; omega) (by show sl + 20 + 12 ≤ 10 * k; omega)
         have hA123 := CH122
         have hR124 := hR109.trans hA123
         have f125 := f110.ext E122
         have f126 := f111.ext E122
         have f127 := f112.ext E122
         have f128 := f113.ext E122
         have f129 := f114.ext E122
         have f130 := f115.ext E122
         have f131 := Ax107.ext E122
         have f132 := Fc107.ext E122
         have f133 := Fv107.ext E122
         have f134 := Va107.ext E122
         have Z135 := nT Z116 E122.1
         have K136 := K117.ext E122
         have ns137 := nx122 a0 (Safe.exa hZ122.alike f125 (by decide) (by decide))
         refine OFin.of (fun t ht => fY X119 hx 86 102 rfl (D 54 rfl) rfl ((if0 _ _).trans (teq hc121).1) (by decide) (iN X119 hx (D 55 rfl) rfl (fN X119 hx (D 56 rfl) rfl ((if0 _ _).trans (tlt hc106).2.2.2) (aN X119 hx (D 57 rfl) rfl rfl (iN X119 hx (D 58 rfl) rfl (st122 t ht)))))) ?_
         obtain ⟨_, T138, Lc138, X138, hQ138, st138⟩ := own_cP X122 hx hw hZ122 hown122 171 172 35 173 36 174 rfl rfl rfl rfl rfl rfl (by decide) f125 (rmSw l Z _ hw [] a0 al122 tx kt nt pre lv122 c122 own_Q1 cs fm i (own_b (own_sw pre i own_Q1)) h122 n0 Z135 f125 f126 f127 f128 Ax122 Fc122 Fv122 ⟨own_Q1, Va122, rfl, rfl⟩ f129 hcs f130 hfm own_lQ1 hi hn3 rfl) (by show 4 + 1 ≤ 6; decide) (by show 0 + (4 + 11) + 54 ≤ 109; decide) (g := (mkF m 110 #[.val (.ref a0), .val (.int (oN i)), .val (.int (oN d)), .val (.int (pre.getD i 0)), z4] [(.ref al122), (.int (oN i)), (.ref a0)])) rfl hml rfl (argsL := [(.int (oN i)), (.ref al122)]) (rest := []) pd_8 rfl rfl rfl (W := 0) (nE rfl) (D 60 rfl) rfl e122 (by show cl + 4 + 0 ≤ k; omega) (by show sl + 32 + 0 ≤ 10 * k; omega)
         obtain ⟨rfl, Nq138, hs138⟩ := hQ138
         have N139 := Fr.app N120 Nq138
         refine OFin.to st138 ?_
         by_cases hc140 : (own_b (own_sw pre i own_Q1)) = 0
         ·refine OFin.of (S' := T138.setTop (mkF m 132 #[.val (.ref a0), .val (.int (oN i)), .val (.int (oN d)), .val (.int (pre.getD i 0)), z4] [(.int 91), (.int (pre.getD i 0))])) (fun t ht => fY X138 hx 113 129 rfl (D 61 rfl) rfl ((if0 _ _).trans (teq hc140).1) (by decide) (iN X138 hx (D 62 rfl) rfl (bP X138 hx (D 63 rfl) ht))) ?_
          by_cases hc141 : (pre.getD i 0) = 91
          ·refine OFin.of (S' := T138.setTop (mkF m 138 #[.val (.ref a0), .val (.int (oN i)), .val (.int ((oN d) + (1 : Int32))), .val (.int (pre.getD i 0)), z4] [])) (fun t ht => cN X138 hx (D 64 rfl) rfl (teq hc141).2 (iI X138 hx (D 65 rfl) rfl (l' := #[.val (.ref a0), .val (.int (oN i)), .val (.int ((oN d) + (1 : Int32))), .val (.int (pre.getD i 0)), z4]) rfl ht)) ?_
           rw [own_succ d]
           refine OFin.of (S' := T138.setTop (mkF m 157 #[.val (.ref a0), .val (.int ((oN i) + (1 : Int32))), .val (.int (oN (d + 1))), .val (.int (pre.getD i 0)), z4] [])) (fun t ht => gO X138 hx 138 154 rfl (D 66 rfl) (by decide) (iI X138 hx (D 67 rfl) rfl (l' := #[.val (.ref a0), .val (.int ((oN i) + (1 : Int32))), .val (.int (oN (d + 1))), .val (.int (pre.getD i 0)), z4]) rfl ht)) ?_
           rw [own_succ i]
           refine OFin.of (S' := T138.setTop (mkF m 2 #[.val (.ref a0), .val (.int (oN (i + 1))), .val (.int (oN (d + 1))), .val (.int (pre.getD i 0)), z4] [])) (fun t ht => gO X138 hx 157 2 rfl (D 34 rfl) (by decide) ht) ?_
           obtain ⟨k', hkl, hp'⟩ := own_pd_s hp hlt (fun z => hc6 z.1) hc104 hc105 ((own_dpos hd (by omega)).mp hc106) (own_b0 hc121) (own_b0 hc140)
           rw [show own_dep (pre.getD i 0) d = (d + 1) from if_pos hc141] at hp'
           exact ih (cl + 4) (sl + 32) (i + 1) (d + 1) k' _ _ (by omega) (by omega) (by omega) hp' (by omega) (by omega) (Or.inr ⟨_, rfl⟩) jz4 (vm1 := T122.vm) X138 hs138 S122 K122 hZ122 hown122 hR124 Z135 K136 N139 f125 f126 f127 f128 f129 f130
          ·refine OFin.of (S' := T138.setTop (mkF m 144 #[.val (.ref a0), .val (.int (oN i)), .val (.int (oN d)), .val (.int (pre.getD i 0)), z4] [(.int 93), (.int (pre.getD i 0))])) (fun t ht => cY X138 hx 132 141 rfl (D 64 rfl) rfl (feq hc141).2 (by decide) (iN X138 hx (D 68 rfl) rfl (bP X138 hx (D 69 rfl) ht))) ?_
           by_cases hc142 : (pre.getD i 0) = 93
           ·refine OFin.of (S' := T138.setTop (mkF m 154 #[.val (.ref a0), .val (.int (oN i)), .val (.int ((oN d) + (-1 : Int32))), .val (.int (pre.getD i 0)), z4] [])) (fun t ht => cN X138 hx (D 70 rfl) rfl (teq hc142).2 (iN X138 hx (D 71 rfl) rfl (fN X138 hx (D 72 rfl) rfl ((if0 _ _).trans (tlt hc106).2.2.2) (iI X138 hx (D 73 rfl) rfl (l' := #[.val (.ref a0), .val (.int (oN i)), .val (.int ((oN d) + (-1 : Int32))), .val (.int (pre.getD i 0)), z4]) rfl ht)))) ?_
            rw [own_predn ((own_dpos hd (by omega)).mp hc106)]
            refine OFin.of (S' := T138.setTop (mkF m 157 #[.val (.ref a0), .val (.int ((oN i) + (1 : Int32))), .val (.int (oN (d - 1))), .val (.int (pre.getD i 0)), z4] [])) (fun t ht => iI X138 hx (D 67 rfl) rfl (l' := #[.val (.ref a0), .val (.int ((oN i) + (1 : Int32))), .val (.int (oN (d - 1))), .val (.int (pre.getD i 0)), z4]) rfl ht) ?_
            rw [own_succ i]
            refine OFin.of (S' := T138.setTop (mkF m 2 #[.val (.ref a0), .val (.int (oN (i + 1))), .val (.int (oN (d - 1))), .val (.int (pre.getD i 0)), z4] [])) (fun t ht => gO X138 hx 157 2 rfl (D 34 rfl) (by decide) ht) ?_
            obtain ⟨k', hkl, hp'⟩ := own_pd_s hp hlt (fun z => hc6 z.1) hc104 hc105 ((own_dpos hd (by omega)).mp hc106) (own_b0 hc121) (own_b0 hc140)
            rw [show own_dep (pre.getD i 0) d = (d - 1) from (if_neg hc141).trans (if_pos hc142)] at hp'
            exact ih (cl + 4) (sl + 32) (i + 1) (d - 1) k' _ _ (by omega) (by omega) (by omega) hp' (by omega) (by omega) (Or.inr ⟨_, rfl⟩) jz4 (vm1 := T122.vm) X138 hs138 S122 K122 hZ122 hown122 hR124 Z135 K136 N139 f125 f126 f127 f128 f129 f130
           ·refine OFin.of (S' := T138.setTop (mkF m 157 #[.val (.ref a0), .val (.int ((oN i) + (1 : Int32))), .val (.int (oN d)), .val (.int (pre.getD i 0)), z4] [])) (fun t ht => cY X138 hx 144 154 rfl (D 70 rfl) rfl (feq hc142).2 (by decide) (iI X138 hx (D 67 rfl) rfl (l' := #[.val (.ref a0), .val (.int ((oN i) + (1 : Int32))), .val (.int (oN d)), .val (.int (pre.getD i 0)), z4]) rfl ht)) ?_
            rw [own_succ i]
            refine OFin.of (S' := T138.setTop (mkF m 2 #[.val (.ref a0), .val (.int (oN (i + 1))), .val (.int (oN d)), .val (.int (pre.getD i 0)), z4] [])) (fun t ht => gO X138 hx 157 2 rfl (D 34 rfl) (by decide) ht) ?_
            obtain ⟨k', hkl, hp'⟩ := own_pd_s hp hlt (fun z => hc6 z.1) hc104 hc105 ((own_dpos hd (by omega)).mp hc106) (own_b0 hc121) (own_b0 hc140)
            rw [show own_dep (pre.getD i 0) d = d from (if_neg hc141).trans (if_neg hc142)] at hp'
            exact ih (cl + 4) (sl + 32) (i + 1) d k' _ _ (by omega) (by omega) (by omega) hp' (by omega) (by omega) (Or.inr ⟨_, rfl⟩) jz4 (vm1 := T122.vm) X138 hs138 S122 K122 hZ122 hown122 hR124 Z135 K136 N139 f125 f126 f127 f128 f129 f130
         ·refine OFin.of (S' := T138.setTop (mkF m 116 #[.val (.ref a0), .val (.int (oN i)), .val (.int (oN d)), .val (.int (pre.getD i 0)), z4] [])) (fun t ht => fN X138 hx (D 61 rfl) rfl ((if0 _ _).trans (feq hc140).1) ht) ?_
          have hb6 := (own_pd_q hp hlt (fun z => hc6 z.1) hc104 hc105 ((own_dpos hd (by omega)).mp hc106) (own_b0 hc121) (own_b1 hc140)).1
          obtain ⟨al143, T143, h143, k143, lv143, c143, X143, e143, E143, S143, K143, hZ143, hown143, Ax143, Fc143, Fv143, Va143, -, -, CH143, -, nx143, st143⟩ := ldcCH (s := s) (vm0 := T122.vm) X138 hx hZ122 hown122 (wt hw 196 rfl) (own_strAtoms hw) hs138 S122 K122 hEL (mG (i := 0) rfl) hR124.1 (vs := [(.int 63), (.int 62)]) (z := (2 : Int32)) ⟨by decide, rfl⟩ (by decide) (by decide) (g := (mkF m 120 #[.val (.ref a0), .val (.int (oN i)), .val (.int (oN d)), .val (.int (pre.getD i 0)), z4] [(.int ((oN i) + (2 : Int32))), (.ref a0)])) rfl (D 78 rfl) (n := 8) (by decide) (by decide) (by show cl + 4 + 2 ≤ k; omega) (by show sl + 32 + 12 ≤ 10 * k; omega)
          have hA144 := CH143
          have hR145 := hR124.trans hA144
          have f146 := f125.ext E143
          have f147 := f126.ext E143
          have f148 := f127.ext E143
          have f149 := f128.ext E143
          have f150 := f129.ext E143
          have f151 := f130.ext E143
          have f152 := f131.ext E143
          have f153 := f132.ext E143
          have f154 := f133.ext E143
          have f155 := f134.ext E143
          have f156 := Ax122.ext E143
          have f157 := Fc122.ext E143
          have f158 := Fv122.ext E143
          have f159 := Va122.ext E143
          have Z160 := nT Z135 E143.1
          have K161 := K136.ext E143
          have ns162 := nx143 a0 (Safe.exa hZ143.alike f146 (by decide) (by decide))
          refine OFin.of (fun t ht => aN X138 hx (D 74 rfl) rfl rfl (iN X138 hx (D 75 rfl) rfl (iC X138 hx (D 76 rfl) (XS.iadd X138.here hx rfl (D 77 rfl) rfl (st143 t ht))))) ?_
          rw [show oN i + (2 : Int32) = oN (i + 2) from own_addn i 2]
          obtain ⟨_, T163, Lc163, X163, hQ163, st163⟩ := own_cP X143 hx hw hZ143 hown143 184 185 35 186 36 187 rfl rfl rfl rfl rfl rfl (by decide) f146 (rmPa l Z _ hw [] a0 al143 tx kt nt pre lv143 c143 own_Q2 cs fm (i + 2) (own_past pre own_Q2 (i + 2)) h143 n0 Z160 f146 f147 f148 f149 Ax143 Fc143 Fv143 ⟨own_Q2, Va143, rfl, rfl⟩ f150 hcs f151 hfm own_lQ2 (own_sw_le (own_b1 hc140)) hn3 rfl) (by show 5 + 1 ≤ 6; decide) (by show 0 + (4 + 11) + 69 ≤ 109; decide) (g := (mkF m 122 #[.val (.ref a0), .val (.int (oN i)), .val (.int (oN d)), .val (.int (pre.getD i 0)), z4] [(.ref al143), (.int (oN (i + 2))), (.ref a0)])) rfl hml rfl (argsL := [(.int (oN (i + 2))), (.ref al143)]) (rest := []) pd_10 rfl rfl rfl (W := 0) (nE rfl) (D 79 rfl) rfl e143 (by show cl + 6 + 0 ≤ k; omega) (by show sl + 44 + 0 ≤ 10 * k; omega)
          obtain ⟨rfl, Nq163, hs163⟩ := hQ163
          have N164 := Fr.app N139 Nq163
          refine OFin.to st163 ?_
          refine OFin.of (S' := T163.setTop (mkF m 157 #[.val (.ref a0), .val (.int (own_past pre own_Q2 (i + 2))), .val (.int (oN d)), .val (.int (pre.getD i 0)), z4] [])) (fun t ht => XS.istoreN X163.here hx rfl (D 80 rfl) rfl (l' := #[.val (.ref a0), .val (.int (own_past pre own_Q2 (i + 2))), .val (.int (oN d)), .val (.int (pre.getD i 0)), z4]) rfl (gO X163 hx 126 157 rfl (D 81 rfl) (by decide) ht)) ?_
          obtain ⟨hk4, hpn, hpy⟩ := own_pd_q hp hlt (fun z => hc6 z.1) hc104 hc105 ((own_dpos hd (by omega)).mp hc106) (own_b0 hc121) (own_b1 hc140)
          by_cases hc165 : (own_past pre own_Q2 (i + 2)) < 0
          ·rw [own_past_neg (by have := hn3; have := f149.len; simp only [List.length_cons, List.length_nil]; omega) hc165]
           refine OFin.of (S' := T163.setTop (mkF m 179 #[.val (.ref a0), .val (.int (-1)), .val (.int (oN d)), .val (.int (pre.getD i 0)), z4] [(.int (-1))])) (fun t ht => gO X163 hx 157 2 rfl (D 34 rfl) (by decide) (iN X163 hx (D 2 rfl) rfl (fY X163 hx 3 160 rfl (D 3 rfl) rfl ((if0 _ _).trans (tlt (by decide : (-1 : Int32) < 0)).1) (by decide) (iN X163 hx (D 35 rfl) rfl (fY X163 hx 161 178 rfl (D 36 rfl) rfl ((if0 _ _).trans (tlt (by decide : (-1 : Int32) < 0)).1) (by decide) (iC X163 hx (D 37 rfl) ht)))))) ?_
           have rH166 : CHr Z consts_1 s.vm s.heap T163.vm T163.heap := by rw [hh, hs163]; exact hR145.trans (CHv.at (s := s) (vm0 := T143.vm) X163 hZ143 hEL hR145.1)
           exact own_retIH (s := s) (vm₁ := T143.vm) X163 S143 (by rw [hs163]; exact K143) rH166 hx hlk hret (D 38 rfl) (by show cl + 6 ≤ k; omega) (by show sl + 44 ≤ 10 * k; omega) (by rw [hs163]; exact ⟨(by rw [hpn hc165]), N164, K161⟩)
          ·obtain ⟨k', hkl, hp'⟩ := hpy hc165
           have hle : own_fs pre own_Q2 (pre.length - (i + 2)) (i + 2) + 2 ≤ pre.length ∧ i + 2 ≤ own_fs pre own_Q2 (pre.length - (i + 2)) (i + 2) := own_past_le (i := i + 2) (own_sw_le (own_b1 hc140)) hc165
           rw [(own_past_eq hc165).1]
           refine OFin.of (S' := T163.setTop (mkF m 2 (la0 a0 (oN (own_fs pre own_Q2 (pre.length - (i + 2)) (i + 2) + own_Q2.length)) (oN d) (pre.getD i 0) z4) [])) (fun t ht => gO X163 hx 157 2 rfl (D 34 rfl) (by decide) ht) ?_
           exact ih (cl + 6) (sl + 44) (own_fs pre own_Q2 (pre.length - (i + 2)) (i + 2) + 2) d k' _ _ (by omega) (by omega) (by omega) hp' (by omega) (by omega) (Or.inr ⟨_, rfl⟩) jz4 (vm1 := T143.vm) X163 hs163 S143 K143 hZ143 hown143 hR145 Z160 K161 N164 f146 f147 f148 f149 f150 f151
        ·obtain ⟨al167, T167, h167, k167, lv167, c167, X167, e167, E167, S167, K167, hZ167, hown167, Ax167, Fc167, Fv167, Va167, -, -, CH167, -, nx167, st167⟩ := ldcCH (s := s) (vm0 := T107.vm) X119 hx hZ107 hown107 (wt hw 183 rfl) (own_strAtoms hw) hs119 S107 K107 hEL (mG (i := 2) rfl) hR109.1 (vs := [(.int 45), (.int 45), (.int 62)]) (z := (3 : Int32)) ⟨by decide, rfl⟩ (by decide) (by decide) (g := (mkF m 93 #[.val (.ref a0), .val (.int (oN i)), .val (.int (oN d)), .val (.int (pre.getD i 0)), z4] [(.int ((oN i) + (4 : Int32))), (.ref a0)])) rfl (D 86 rfl) (n := 12) (by decide) (by decide) (by show cl + 2 + 2 ≤ k; omega) (by show sl + 20 + 16 ≤ 10 * k; omega)
         have hA168 := CH167
         have hR169 := hR109.trans hA168
         have f170 := f110.ext E167
         have f171 := f111.ext E167
         have f172 := f112.ext E167
         have f173 := f113.ext E167
         have f174 := f114.ext E167
         have f175 := f115.ext E167
         have f176 := Ax107.ext E167
         have f177 := Fc107.ext E167
         have f178 := Fv107.ext E167
         have f179 := Va107.ext E167
         have Z180 := nT Z116 E167.1
         have K181 := K117.ext E167
         have ns182 := nx167 a0 (Safe.exa hZ167.alike f170 (by decide) (by decide))
         refine OFin.of (fun t ht => fN X119 hx (D 54 rfl) rfl ((if0 _ _).trans (feq hc121).1) (aN X119 hx (D 82 rfl) rfl rfl (iN X119 hx (D 83 rfl) rfl (iC X119 hx (D 84 rfl) (XS.iadd X119.here hx rfl (D 85 rfl) rfl (st167 t ht)))))) ?_
         rw [show oN i + (4 : Int32) = oN (i + 4) from own_addn i 4]
         obtain ⟨_, T183, Lc183, X183, hQ183, st183⟩ := own_cP X167 hx hw hZ167 hown167 184 185 35 186 36 187 rfl rfl rfl rfl rfl rfl (by decide) f170 (rmPa l Z _ hw [] a0 al167 tx kt nt pre lv167 c167 own_C2 cs fm (i + 4) (own_past pre own_C2 (i + 4)) h167 n0 Z180 f170 f171 f172 f173 Ax167 Fc167 Fv167 ⟨own_C2, Va167, rfl, rfl⟩ f174 hcs f175 hfm own_lC2 (own_sw_le (own_b1 hc121)) hn3 rfl) (by show 5 + 1 ≤ 6; decide) (by show 0 + (4 + 11) + 69 ≤ 109; decide) (g := (mkF m 95 #[.val (.ref a0), .val (.int (oN i)), .val (.int (oN d)), .val (.int (pre.getD i 0)), z4] [(.ref al167), (.int (oN (i + 4))), (.ref a0)])) rfl hml rfl (argsL := [(.int (oN (i + 4))), (.ref al167)]) (rest := []) pd_10 rfl rfl rfl (W := 0) (nE rfl) (D 87 rfl) rfl e167 (by show cl + 4 + 0 ≤ k; omega) (by show sl + 36 + 0 ≤ 10 * k; omega)
         obtain ⟨rfl, Nq183, hs183⟩ := hQ183
         have N184 := Fr.app N120 Nq183
         refine OFin.to st183 ?_
         refine OFin.of (S' := T183.setTop (mkF m 157 #[.val (.ref a0), .val (.int (own_past pre own_C2 (i + 4))), .val (.int (oN d)), .val (.int (pre.getD i 0)), z4] [])) (fun t ht => XS.istoreN X183.here hx rfl (D 88 rfl) rfl (l' := #[.val (.ref a0), .val (.int (own_past pre own_C2 (i + 4))), .val (.int (oN d)), .val (.int (pre.getD i 0)), z4]) rfl (gO X183 hx 99 157 rfl (D 89 rfl) (by decide) ht)) ?_
         obtain ⟨hk4, hpn, hpy⟩ := own_pd_c hp hlt (fun z => hc6 z.1) hc104 hc105 ((own_dpos hd (by omega)).mp hc106) (own_b1 hc121)
         by_cases hc185 : (own_past pre own_C2 (i + 4)) < 0
         ·rw [own_past_neg (by have := hn3; have := f173.len; simp only [List.length_cons, List.length_nil]; omega) hc185]
          refine OFin.of (S' := T183.setTop (mkF m 179 #[.val (.ref a0), .val (.int (-1)), .val (.int (oN d)), .val (.int (pre.getD i 0)), z4] [(.int (-1))])) (fun t ht => gO X183 hx 157 2 rfl (D 34 rfl) (by decide) (iN X183 hx (D 2 rfl) rfl (fY X183 hx 3 160 rfl (D 3 rfl) rfl ((if0 _ _).trans (tlt (by decide : (-1 : Int32) < 0)).1) (by decide) (iN X183 hx (D 35 rfl) rfl (fY X183 hx 161 178 rfl (D 36 rfl) rfl ((if0 _ _).trans (tlt (by decide : (-1 : Int32) < 0)).1) (by decide) (iC X183 hx (D 37 rfl) ht)))))) ?_
          have rH186 : CHr Z consts_1 s.vm s.heap T183.vm T183.heap := by rw [hh, hs183]; exact hR169.trans (CHv.at (s := s) (vm0 := T167.vm) X183 hZ167 hEL hR169.1)
          exact own_retIH (s := s) (vm₁ := T167.vm) X183 S167 (by rw [hs183]; exact K167) rH186 hx hlk hret (D 38 rfl) (by show cl + 4 ≤ k; omega) (by show sl + 36 ≤ 10 * k; omega) (by rw [hs183]; exact ⟨(by rw [hpn hc185]), N184, K181⟩)
         ·obtain ⟨k', hkl, hp'⟩ := hpy hc185
          have hle : own_fs pre own_C2 (pre.length - (i + 4)) (i + 4) + 3 ≤ pre.length ∧ i + 4 ≤ own_fs pre own_C2 (pre.length - (i + 4)) (i + 4) := own_past_le (i := i + 4) (own_sw_le (own_b1 hc121)) hc185
          rw [(own_past_eq hc185).1]
          refine OFin.of (S' := T183.setTop (mkF m 2 (la0 a0 (oN (own_fs pre own_C2 (pre.length - (i + 4)) (i + 4) + own_C2.length)) (oN d) (pre.getD i 0) z4) [])) (fun t ht => gO X183 hx 157 2 rfl (D 34 rfl) (by decide) ht) ?_
          exact ih (cl + 4) (sl + 36) (own_fs pre own_C2 (pre.length - (i + 4)) (i + 4) + 3) d k' _ _ (by omega) (by omega) (by omega) hp' (by omega) (by omega) (Or.inr ⟨_, rfl⟩) jz4 (vm1 := T167.vm) X183 hs183 S167 K167 hZ167 hown167 hR169 Z180 K181 N184 f170 f171 f172 f173 f174 f175
       ·refine OFin.of (S' := T97.setTop (mkF m 132 #[.val (.ref a0), .val (.int (oN i)), .val (.int (oN d)), .val (.int (pre.getD i 0)), z4] [(.int 91), (.int (pre.getD i 0))])) (fun t ht => fY X97 hx 76 102 rfl (D 49 rfl) rfl ((if0 _ _).trans (flt hc106).2.2.2) (by decide) (iN X97 hx (D 55 rfl) rfl (fY X97 hx 103 129 rfl (D 56 rfl) rfl ((if0 _ _).trans (flt hc106).2.2.2) (by decide) (iN X97 hx (D 62 rfl) rfl (bP X97 hx (D 63 rfl) ht))))) ?_
        by_cases hc187 : (pre.getD i 0) = 91
        ·refine OFin.of (S' := T97.setTop (mkF m 138 #[.val (.ref a0), .val (.int (oN i)), .val (.int ((oN d) + (1 : Int32))), .val (.int (pre.getD i 0)), z4] [])) (fun t ht => cN X97 hx (D 64 rfl) rfl (teq hc187).2 (iI X97 hx (D 65 rfl) rfl (l' := #[.val (.ref a0), .val (.int (oN i)), .val (.int ((oN d) + (1 : Int32))), .val (.int (pre.getD i 0)), z4]) rfl ht)) ?_
         rw [own_succ d]
         refine OFin.of (S' := T97.setTop (mkF m 157 #[.val (.ref a0), .val (.int ((oN i) + (1 : Int32))), .val (.int (oN (d + 1))), .val (.int (pre.getD i 0)), z4] [])) (fun t ht => gO X97 hx 138 154 rfl (D 66 rfl) (by decide) (iI X97 hx (D 67 rfl) rfl (l' := #[.val (.ref a0), .val (.int ((oN i) + (1 : Int32))), .val (.int (oN (d + 1))), .val (.int (pre.getD i 0)), z4]) rfl ht)) ?_
         rw [own_succ i]
         refine OFin.of (S' := T97.setTop (mkF m 2 #[.val (.ref a0), .val (.int (oN (i + 1))), .val (.int (oN (d + 1))), .val (.int (pre.getD i 0)), z4] [])) (fun t ht => gO X97 hx 157 2 rfl (D 34 rfl) (by decide) ht) ?_
         have hp' := own_pd_z hp hlt (fun z => hc6 z.1) hc104 hc105 (fun z => hc106 ((own_dpos hd (by omega)).mpr z))
         rw [show own_dep (pre.getD i 0) d = (d + 1) from if_pos hc187] at hp'
         exact ih (cl) (sl) (i + 1) (d + 1) kl _ _ (by omega) (by omega) (by omega) hp' (by omega) (by omega) (Or.inr ⟨_, rfl⟩) jz4 (vm1 := vm1) X97 e97 Sl kl1 hZl hownl hRl Zl Kl Nl fa0 fa1 fa2 fa3 fa4 fa5
        ·refine OFin.of (S' := T97.setTop (mkF m 144 #[.val (.ref a0), .val (.int (oN i)), .val (.int (oN d)), .val (.int (pre.getD i 0)), z4] [(.int 93), (.int (pre.getD i 0))])) (fun t ht => cY X97 hx 132 141 rfl (D 64 rfl) rfl (feq hc187).2 (by decide) (iN X97 hx (D 68 rfl) rfl (bP X97 hx (D 69 rfl) ht))) ?_
         by_cases hc188 : (pre.getD i 0) = 93
         ·refine OFin.of (S' := T97.setTop (mkF m 157 #[.val (.ref a0), .val (.int ((oN i) + (1 : Int32))), .val (.int (oN d)), .val (.int (pre.getD i 0)), z4] [])) (fun t ht => cN X97 hx (D 70 rfl) rfl (teq hc188).2 (iN X97 hx (D 71 rfl) rfl (fY X97 hx 148 154 rfl (D 72 rfl) rfl ((if0 _ _).trans (flt hc106).2.2.2) (by decide) (iI X97 hx (D 67 rfl) rfl (l' := #[.val (.ref a0), .val (.int ((oN i) + (1 : Int32))), .val (.int (oN d)), .val (.int (pre.getD i 0)), z4]) rfl ht)))) ?_
          rw [own_succ i]
          refine OFin.of (S' := T97.setTop (mkF m 2 #[.val (.ref a0), .val (.int (oN (i + 1))), .val (.int (oN d)), .val (.int (pre.getD i 0)), z4] [])) (fun t ht => gO X97 hx 157 2 rfl (D 34 rfl) (by decide) ht) ?_
          have hp' := own_pd_z hp hlt (fun z => hc6 z.1) hc104 hc105 (fun z => hc106 ((own_dpos hd (by omega)).mpr z))
          have hd0 : d = 0 := Nat.le_zero.mp (Nat.le_of_not_lt fun z => hc106 ((own_dpos hd (by omega)).mpr z))
          rw [show own_dep (pre.getD i 0) d = d from (if_neg hc187).trans ((if_pos hc188).trans (by omega))] at hp'
          exact ih (cl) (sl) (i + 1) d kl _ _ (by omega) (by omega) (by omega) hp' (by omega) (by omega) (Or.inr ⟨_, rfl⟩) jz4 (vm1 := vm1) X97 e97 Sl kl1 hZl hownl hRl Zl Kl Nl fa0 fa1 fa2 fa3 fa4 fa5
         ·refine OFin.of (S' := T97.setTop (mkF m 157 #[.val (.ref a0), .val (.int ((oN i) + (1 : Int32))), .val (.int (oN d)), .val (.int (pre.getD i 0)), z4] [])) (fun t ht => cY X97 hx 144 154 rfl (D 70 rfl) rfl (feq hc188).2 (by decide) (iI X97 hx (D 67 rfl) rfl (l' := #[.val (.ref a0), .val (.int ((oN i) + (1 : Int32))), .val (.int (oN d)), .val (.int (pre.getD i 0)), z4]) rfl ht)) ?_
          rw [own_succ i]
          refine OFin.of (S' := T97.setTop (mkF m 2 #[.val (.ref a0), .val (.int (oN (i + 1))), .val (.int (oN d)), .val (.int (pre.getD i 0)), z4] [])) (fun t ht => gO X97 hx 157 2 rfl (D 34 rfl) (by decide) ht) ?_
          have hp' := own_pd_z hp hlt (fun z => hc6 z.1) hc104 hc105 (fun z => hc106 ((own_dpos hd (by omega)).mpr z))
          rw [show own_dep (pre.getD i 0) d = d from (if_neg hc187).trans (if_neg hc188)] at hp'
          exact ih (cl) (sl) (i + 1) d kl _ _ (by omega) (by omega) (by omega) hp' (by omega) (by omega) (Or.inr ⟨_, rfl⟩) jz4 (vm1 := vm1) X97 e97 Sl kl1 hZl hownl hRl Zl Kl Nl fa0 fa1 fa2 fa3 fa4 fa5
   ·obtain ⟨T189, X189, e189, st189⟩ := getF X2 hx hZl hownl (host := "") (Or.inl (wt hw 47 rfl)) Via.refl e2 fa2 (g := (mkF m 166 #[.val (.ref a0), .val (.int (oN i)), .val (.int (oN d)), z3, z4] [(.ref a0), (.int (oN i))])) rfl rfl (D 92 rfl)
    refine OFin.of (fun t ht => cY X2 hx 11 160 rfl (D 7 rfl) rfl (flt hc3).2.1 (by decide) (iN X2 hx (D 35 rfl) rfl (fN X2 hx (D 36 rfl) rfl ((if0 _ _).trans (flt (own_nn31 fa3 hi : ¬ ((oN i) < 0))).1) (iN X2 hx (D 90 rfl) rfl (aN X2 hx (D 91 rfl) rfl rfl (st189 t ht)))))) ?_
    refine OFin.of (S' := T189.setTop (mkF m 179 #[.val (.ref a0), .val (.int (oN i)), .val (.int (oN d)), z3, z4] [(.int (-1))])) (fun t ht => cY X189 hx 169 178 rfl (D 93 rfl) rfl (flt hc3).2.1 (by decide) (iC X189 hx (D 37 rfl) ht)) ?_
    have rH190 : CHr Z consts_1 s.vm s.heap T189.vm T189.heap := by rw [hh, e189]; exact hRl.trans (CHv.at (s := s) (vm0 := vm1) X189 hZl hEL hRl.1)
    exact own_retIH (s := s) (vm₁ := vm1) X189 Sl (by rw [e189]; exact kl1) rH190 hx hlk hret (D 38 rfl) (by show cl ≤ k; omega) (by show sl ≤ 10 * k; omega) (by rw [e189]; exact ⟨(by rw [own_pd_end hp (fun z => hc3 ((own_natlt (by omega) (by omega)).mpr z))]), Nl, Kl⟩)
 exact lp1 (pre.length + 1 - i0) (0) (0) i0 0 _ _ _ (by omega) hi0 (Nat.zero_le _) hp (by omega) (by omega) (Or.inl rfl) (Or.inl rfl) (vm1 := s.vm) X0 e0 ((State.WarmedH.refl s).since h0.size) (Nat.le_refl _) hZ hown hR0 Z0 K0 N0 EO Ft Fe Tx Scs Sfm
theorem efPm {m : MethodId} {a0 : Addr} {i0 : Nat} : entryFrame m #[(.ref a0), (.int (oN i0))] 3 = mkF m 0 #[.val (.ref a0), .val (.int (oN i0)), .unset] [] := by first | (simp [entryFrame, mkF, argsToLocals, Value.category]; done) | rfl
def QPm (Z : State) (a0 tx : Addr) (kt : ClassId) (nt : Int32) (pre : List Int32) (cs : Int32) (fm : Value) (i0 : Nat) (r : Int32) (k : Nat) (h0 : Heap) (n0 : Nat) (v : Option Value) (h : Heap) (L : List Loc) : Prop := v = some (.int r) ∧ Fr n0 L ∧ Keep h0 h []
theorem rmPm (l : Launch) (Z : State) (a0 : Array Value) (hw : HW a0 Z) (ws : List Jvm.Cond) (a0 tx : Addr) (kt : ClassId) (nt : Int32) (pre : List Int32) (cs : Int32) (fm : Value) (i0 : Nat) (r : Int32) (k : Nat) (h0 : Heap) (n0 : Nat) (Z0 : n0 ≤ h0.size) (EO : Exa Z h0 a0 cA) (Ft : Fld Z h0 a0 cA "text" "[B" (.ref tx)) (Fe : Fld Z h0 a0 cA "end" "I" (.int (oN pre.length))) (Tx : Txt Z h0 tx kt nt pre) (Scs : Sta Z h0 cB "COMPACT_STRINGS" "Z" (.int cs)) (hcs : ¬ cs = 0) (Sfm : Sta Z h0 cG "SIOOBE_FORMATTER" cE fm) (hfm : fm.isRef = true) (hi0 : i0 < pre.length) (hi2 : i0 + 2 ≤ pre.length) (hn3 : nt.toNatClampNeg < 1000) (hp : own_pm pre i0 = (r, k)) :
  ConH consts_1 l mn17 (Jvm.Cond.code mn17 prog_7_method_17_code 3 (some .int)) ws (⟨7, k, 20 * k, 149⟩ : Jvm.Room) #[(.ref a0), (.int (oN i0))] Z h0 (QPm Z a0 tx kt nt pre cs fm i0 r k h0 n0) := by
 refine own_ofH (plainFor_of_name pn_0) hisR dl_prog_7_17 ?_
 intro p e s m below meth c s₁ hx D hlk hret hml hZ hown hnm X0 e0 hh hC0
 replace hown : s.vm.findClass cA = some m.cls := hown
 have N0 := Fr.nil n0
 have hR0 : CHr Z consts_1 s.vm h0 s.vm h0 := CHr.refl hC0
 have hEL := own_EW hw
 rw [efPm]
 have K0 : Keep h0 h0 [] := Keep.refl _ _
 refine OFin.of (S' := s₁.setTop (mkF m 2 #[.val (.ref a0), .val (.int (oN i0)), .unset] [(.int (oN i0)), (.ref a0)])) (fun t ht => aN X0 hx (D 0 rfl) rfl rfl (iN X0 hx (D 1 rfl) rfl ht)) ?_
 have hb4 := own_pm_4 hp
 obtain ⟨al1, T1, h1, k1, lv1, c1, X1, e1, E1, S1, K1, hZ1, hown1, Ax1, Fc1, Fv1, Va1, -, -, CH1, -, nx1, st1⟩ := ldcCH (s := s) (vm0 := s.vm) X0 hx hZ hown (wt hw 170 rfl) (own_strAtoms hw) e0 ((State.WarmedH.refl s).since h0.size) (Nat.le_refl _) hEL (mG (i := 1) rfl) hR0.1 (vs := [(.int 60), (.int 33), (.int 45), (.int 45)]) (z := (4 : Int32)) ⟨by decide, rfl⟩ (by decide) (by decide) (g := (mkF m 2 #[.val (.ref a0), .val (.int (oN i0)), .unset] [(.int (oN i0)), (.ref a0)])) rfl (D 2 rfl) (n := 16) (by decide) (by decide) (by show 0 + 2 ≤ k; omega) (by show 0 + 20 ≤ 20 * k; omega)
 have hA2 := CH1
 have hR3 := hR0.trans hA2
 have f4 := EO.ext E1
 have f5 := Ft.ext E1
 have f6 := Fe.ext E1
 have f7 := Tx.ext E1
 have f8 := Scs.ext E1
 have f9 := Sfm.ext E1
 have Z10 := nT Z0 E1.1
 have K11 := K0.ext E1
 have ns12 := nx1 a0 (Safe.exa hZ1.alike f4 (by decide) (by decide))
 refine OFin.of st1 ?_
 obtain ⟨_, T13, Lc13, X13, hQ13, st13⟩ := own_cP X1 hx hw hZ1 hown1 171 172 35 173 36 174 rfl rfl rfl rfl rfl rfl (by decide) f4 (rmSw l Z _ hw [] a0 al1 tx kt nt pre lv1 c1 own_C1 cs fm i0 (own_b (own_sw pre i0 own_C1)) h1 n0 Z10 f4 f5 f6 f7 Ax1 Fc1 Fv1 ⟨own_C1, Va1, rfl, rfl⟩ f8 hcs f9 hfm own_lC1 (Nat.le_of_lt hi0) hn3 rfl) (by show 4 + 1 ≤ 7; decide) (by show 0 + (4 + 11) + 54 ≤ 149; decide) (g := (mkF m 4 #[.val (.ref a0), .val (.int (oN i0)), .unset] [(.ref al1), (.int (oN i0)), (.ref a0)])) rfl hml rfl (argsL := [(.int (oN i0)), (.ref al1)]) (rest := []) pd_8 rfl rfl rfl (W := 0) (nE rfl) (D 3 rfl) rfl e1 (by show 0 + 2 + 0 ≤ k; omega) (by show 0 + 20 + 0 ≤ 20 * k; omega)
 obtain ⟨rfl, Nq13, hs13⟩ := hQ13
 have N14 := Fr.app N0 Nq13
 refine OFin.to st13 ?_
 by_cases hc15 : (own_b (own_sw pre i0 own_C1)) = 0
 ·obtain ⟨al16, T16, h16, k16, lv16, c16, X16, e16, E16, S16, K16, hZ16, hown16, Ax16, Fc16, Fv16, Va16, -, -, CH16, -, nx16, st16⟩ := ldcCH (s := s) (vm0 := T1.vm) X13 hx hZ1 hown1 (wt hw 177 rfl) (own_strAtoms hw) hs13 S1 K1 hEL (mG (i := 3) rfl) hR3.1 (vs := [(.int 60), (.int 33), (.int 91), (.int 67), (.int 68), (.int 65), (.int 84), (.int 65), (.int 91)]) (z := (9 : Int32)) ⟨by decide, rfl⟩ (by decide) (by decide) (g := (mkF m 25 #[.val (.ref a0), .val (.int (oN i0)), .unset] [(.int (oN i0)), (.ref a0)])) rfl (D 7 rfl) (n := 36) (by decide) (by decide) (by show 0 + 2 + 2 ≤ k; omega) (by show 0 + 20 + 40 ≤ 20 * k; omega)
  have hA17 := CH16
  have hR18 := hR3.trans hA17
  have f19 := f4.ext E16
  have f20 := f5.ext E16
  have f21 := f6.ext E16
  have f22 := f7.ext E16
  have f23 := f8.ext E16
  have f24 := f9.ext E16
  have f25 := Ax1.ext E16
  have f26 := Fc1.ext E16
  have f27 := Fv1.ext E16
  have f28 := Va1.ext E16
  have Z29 := nT Z10 E16.1
  have K30 := K11.ext E16
  have ns31 := nx16 a0 (Safe.exa hZ16.alike f19 (by decide) (by decide))
  refine OFin.of (fun t ht => fY X13 hx 7 23 rfl (D 4 rfl) rfl ((if0 _ _).trans (teq hc15).1) (by decide) (aN X13 hx (D 5 rfl) rfl rfl (iN X13 hx (D 6 rfl) rfl (st16 t ht)))) ?_
  obtain ⟨_, T32, Lc32, X32, hQ32, st32⟩ := own_cP X16 hx hw hZ16 hown16 171 172 35 173 36 174 rfl rfl rfl rfl rfl rfl (by decide) f19 (rmSw l Z _ hw [] a0 al16 tx kt nt pre lv16 c16 own_D1 cs fm i0 (own_b (own_sw pre i0 own_D1)) h16 n0 Z29 f19 f20 f21 f22 Ax16 Fc16 Fv16 ⟨own_D1, Va16, rfl, rfl⟩ f23 hcs f24 hfm own_lD1 (Nat.le_of_lt hi0) hn3 rfl) (by show 4 + 1 ≤ 7; decide) (by show 0 + (4 + 11) + 54 ≤ 149; decide) (g := (mkF m 27 #[.val (.ref a0), .val (.int (oN i0)), .unset] [(.ref al16), (.int (oN i0)), (.ref a0)])) rfl hml rfl (argsL := [(.int (oN i0)), (.ref al16)]) (rest := []) pd_8 rfl rfl rfl (W := 0) (nE rfl) (D 8 rfl) rfl e16 (by show 0 + 4 + 0 ≤ k; omega) (by show 0 + 60 + 0 ≤ 20 * k; omega)
  obtain ⟨rfl, Nq32, hs32⟩ := hQ32
  have N33 := Fr.app N14 Nq32
  refine OFin.to st32 ?_
  by_cases hc34 : (own_b (own_sw pre i0 own_D1)) = 0
  ·refine OFin.of (S' := T32.setTop (mkF m 51 #[.val (.ref a0), .val (.int (oN i0)), .unset] [(.int ((oN i0) + (2 : Int32))), (.ref a0)])) (fun t ht => fY X32 hx 30 47 rfl (D 9 rfl) rfl ((if0 _ _).trans (teq hc34).1) (by decide) (aN X32 hx (D 10 rfl) rfl rfl (iN X32 hx (D 11 rfl) rfl (iC X32 hx (D 12 rfl) (XS.iadd X32.here hx rfl (D 13 rfl) rfl ht))))) ?_
   rw [show oN i0 + (2 : Int32) = oN (i0 + 2) from own_addn i0 2]
   obtain ⟨k', hkk, hp'⟩ := own_pm_p hp (own_b0 hc15) (own_b0 hc34)
   obtain ⟨cq36, hcq36, hsq36⟩ := Exa.cell f19
   obtain ⟨_, _, ⟨T35, L35, k35, n35⟩, -, X35, Sq35, gr35, ⟨Lc35, hQ35, l35, y35, z35, CH35⟩, st35⟩ := X32.privateBackS hx (y := mn16) hown16 (mvT hZ16 (wt hw 178 rfl)) (mvT hZ16 (wt hw 179 rfl)) (mvT hZ16 (own_selP (y := mn16) (wt hw 35 rfl) (wt hw 180 rfl) (wt hw 179 rfl) (by decide))) (Cond.privateMethod_at (mvP (args := #[]) hZ16 (wt hw 180 rfl))) (mvT hZ16 (wt hw 181 rfl)) (by decide) (backOfSH (s := s) (vm0 := T16.vm) (W := 0) (rmPd l Z _ hw [] a0 tx kt nt pre cs fm (i0 + 2) r k' h16 n0 Z29 f19 f20 f21 f22 f23 hcs f24 hfm hi2 hn3 hp') hZ16 (wt hw 181 rfl) (wt hw 36 rfl) (by show 6 + 1 ≤ 7; decide) (by show 0 + (5 + 11) + 109 ≤ 149; decide) hEL hR18.1) (g := (mkF m 51 #[.val (.ref a0), .val (.int (oN i0)), .unset] [(.int (oN (i0 + 2))), (.ref a0)])) rfl (by rw [hml]; rfl) (Steps.refl _) (a := a0) (by rw [hs32]; exact hcq36) hsq36 (argsL := [(.int (oN (i0 + 2)))]) (rest := []) (lenOf pd_11 rfl) rfl (by show 2 * 0 + _ ≤ _; exact nE rfl) (D 14 rfl) (fun _ _ => ⟨rfl, hs32, (by show 0 + 4 + k' ≤ k; omega), (by show 0 + 60 + 10 * k' ≤ 20 * k; omega)⟩)
   dsimp only [Pt.U, Pt.locs, Pt.cells, Pt.slots] at X35 l35 y35 z35 st35 hQ35 Sq35 gr35 CH35
   subst l35 y35 z35
   have hZ35 : Z.Warmed39 (s.setVm T35.vm).vm := State.Warmed39.trans (t := s.setVm T16.vm) hZ16 Sq35.1
   have hown35 : (s.setVm T35.vm).vm.findClass cA = some m.cls := by rw [show (s.setVm T35.vm).vm = T35.vm from rfl, Sq35.1.alike.findClass]; exact hown16
   have S35 : s.Since T35.vm T35.heap.size := State.Since.trans (s := s) (vm₁ := T16.vm) S16 Sq35 (nT K16 (by rw [← hs32]; exact gr35))
   obtain ⟨rfl, Nq35, Kq35⟩ := hQ35
   have N37 := Fr.app N33 Nq35
   have hA38 := CH35
   have hR39 := hR18.trans hA38
   have f40 := (f19.keep Kq35)
   have f41 := (f20.keep Kq35 nin0)
   have f42 := (f21.keep Kq35 nin0)
   have f43 := (f22.keep Kq35 nin0)
   have f44 := (own_staKeep f23 Kq35 own_sn0)
   have f45 := (own_staKeep f24 Kq35 own_sn0)
   have f46 := (f25.keep Kq35)
   have f47 := (f26.keep Kq35 nin0)
   have f48 := (f27.keep Kq35 nin0)
   have f49 := (f28.keep Kq35 nin0)
   have f50 := (Ax16.keep Kq35)
   have f51 := (Fc16.keep Kq35 nin0)
   have f52 := (Fv16.keep Kq35 nin0)
   have f53 := (Va16.keep Kq35 nin0)
   have Z54 := nT Z29 Kq35.1
   have K55 := K30.trans Kq35 all0
   refine OFin.to st35 ?_
   refine OFin.of (S' := T35.setTop (mkF m 56 #[.val (.ref a0), .val (.int (oN i0)), .val (.int r)] [(.int r)])) (fun t ht => XS.istoreN X35.here hx rfl (D 15 rfl) rfl (l' := #[.val (.ref a0), .val (.int (oN i0)), .val (.int r)]) rfl (iN X35 hx (D 16 rfl) rfl ht)) ?_
   have rH56 : CHr Z consts_1 s.vm s.heap T35.vm T35.heap := by rw [hh]; exact hR39.trans (CHv.at (s := s) (vm0 := T35.vm) X35 hZ35 hEL hR39.1)
   exact own_retIH (s := s) (vm₁ := T35.vm) X35 S35 (Nat.le_refl _) rH56 hx hlk hret (D 17 rfl) (by show 0 + 4 + k' ≤ k; omega) (by show 0 + 60 + 10 * k' ≤ 20 * k; omega) (by exact ⟨rfl, N37, K55⟩)
  ·refine OFin.of (S' := T32.setTop (mkF m 38 #[.val (.ref a0), .val (.int (oN i0)), .unset] [(.int ((oN i0) + (9 : Int32))), (.ref a0)])) (fun t ht => fN X32 hx (D 9 rfl) rfl ((if0 _ _).trans (feq hc34).1) (aN X32 hx (D 18 rfl) rfl rfl (iN X32 hx (D 19 rfl) rfl (bP X32 hx (D 20 rfl) (XS.iadd X32.here hx rfl (D 21 rfl) rfl ht))))) ?_
   obtain ⟨hpr, hkk⟩ := own_pm_d hp (own_b0 hc15) (own_b1 hc34)
   obtain ⟨al57, T57, h57, k57, lv57, c57, X57, e57, E57, S57, K57, hZ57, hown57, Ax57, Fc57, Fv57, Va57, -, -, CH57, -, nx57, st57⟩ := ldcCH (s := s) (vm0 := T16.vm) X32 hx hZ16 hown16 (wt hw 189 rfl) (own_strAtoms hw) hs32 S16 K16 hEL (mG (i := 4) rfl) hR18.1 (vs := [(.int 93), (.int 93), (.int 62)]) (z := (3 : Int32)) ⟨by decide, rfl⟩ (by decide) (by decide) (g := (mkF m 38 #[.val (.ref a0), .val (.int (oN i0)), .unset] [(.int ((oN i0) + (9 : Int32))), (.ref a0)])) rfl (D 22 rfl) (n := 12) (by decide) (by decide) (by show 0 + 4 + 2 ≤ k; omega) (by show 0 + 60 + 16 ≤ 20 * k; omega)
   have hA58 := CH57
   have hR59 := hR18.trans hA58
   have f60 := f19.ext E57
   have f61 := f20.ext E57
   have f62 := f21.ext E57
   have f63 := f22.ext E57
   have f64 := f23.ext E57
   have f65 := f24.ext E57
   have f66 := f25.ext E57
   have f67 := f26.ext E57
   have f68 := f27.ext E57
   have f69 := f28.ext E57
   have f70 := Ax16.ext E57
   have f71 := Fc16.ext E57
   have f72 := Fv16.ext E57
   have f73 := Va16.ext E57
   have Z74 := nT Z29 E57.1
   have K75 := K30.ext E57
   have ns76 := nx57 a0 (Safe.exa hZ57.alike f60 (by decide) (by decide))
   refine OFin.of st57 ?_
   rw [show oN i0 + (9 : Int32) = oN (i0 + 9) from own_addn i0 9]
   obtain ⟨_, T77, Lc77, X77, hQ77, st77⟩ := own_cP X57 hx hw hZ57 hown57 184 185 35 186 36 187 rfl rfl rfl rfl rfl rfl (by decide) f60 (rmPa l Z _ hw [] a0 al57 tx kt nt pre lv57 c57 own_D2 cs fm (i0 + 9) r h57 n0 Z74 f60 f61 f62 f63 Ax57 Fc57 Fv57 ⟨own_D2, Va57, rfl, rfl⟩ f64 hcs f65 hfm own_lD2 (own_sw_le (own_b1 hc34)) hn3 hpr) (by show 5 + 1 ≤ 7; decide) (by show 0 + (4 + 11) + 69 ≤ 149; decide) (g := (mkF m 40 #[.val (.ref a0), .val (.int (oN i0)), .unset] [(.ref al57), (.int (oN (i0 + 9))), (.ref a0)])) rfl hml rfl (argsL := [(.int (oN (i0 + 9))), (.ref al57)]) (rest := []) pd_10 rfl rfl rfl (W := 0) (nE rfl) (D 23 rfl) rfl e57 (by show 0 + 6 + 0 ≤ k; omega) (by show 0 + 76 + 0 ≤ 20 * k; omega)
   obtain ⟨rfl, Nq77, hs77⟩ := hQ77
   have N78 := Fr.app N33 Nq77
   refine OFin.to st77 ?_
   refine OFin.of (S' := T77.setTop (mkF m 56 #[.val (.ref a0), .val (.int (oN i0)), .val (.int r)] [(.int r)])) (fun t ht => XS.istoreN X77.here hx rfl (D 24 rfl) rfl (l' := #[.val (.ref a0), .val (.int (oN i0)), .val (.int r)]) rfl (gO X77 hx 44 55 rfl (D 25 rfl) (by decide) (iN X77 hx (D 16 rfl) rfl ht))) ?_
   have rH79 : CHr Z consts_1 s.vm s.heap T77.vm T77.heap := by rw [hh, hs77]; exact hR59.trans (CHv.at (s := s) (vm0 := T57.vm) X77 hZ57 hEL hR59.1)
   exact own_retIH (s := s) (vm₁ := T57.vm) X77 S57 (by rw [hs77]; exact K57) rH79 hx hlk hret (D 17 rfl) (by show 0 + 6 ≤ k; omega) (by show 0 + 76 ≤ 20 * k; omega) (by rw [hs77]; exact ⟨rfl, N78, K75⟩)
 ·obtain ⟨al80, T80, h80, k80, lv80, c80, X80, e80, E80, S80, K80, hZ80, hown80, Ax80, Fc80, Fv80, Va80, -, -, CH80, -, nx80, st80⟩ := ldcCH (s := s) (vm0 := T1.vm) X13 hx hZ1 hown1 (wt hw 183 rfl) (own_strAtoms hw) hs13 S1 K1 hEL (mG (i := 2) rfl) hR3.1 (vs := [(.int 45), (.int 45), (.int 62)]) (z := (3 : Int32)) ⟨by decide, rfl⟩ (by decide) (by decide) (g := (mkF m 14 #[.val (.ref a0), .val (.int (oN i0)), .unset] [(.int ((oN i0) + (4 : Int32))), (.ref a0)])) rfl (D 30 rfl) (n := 12) (by decide) (by decide) (by show 0 + 2 + 2 ≤ k; omega) (by show 0 + 20 + 16 ≤ 20 * k; omega)
  have hA81 := CH80
  have hR82 := hR3.trans hA81
  have f83 := f4.ext E80
  have f84 := f5.ext E80
  have f85 := f6.ext E80
  have f86 := f7.ext E80
  have f87 := f8.ext E80
  have f88 := f9.ext E80
  have f89 := Ax1.ext E80
  have f90 := Fc1.ext E80
  have f91 := Fv1.ext E80
  have f92 := Va1.ext E80
  have Z93 := nT Z10 E80.1
  have K94 := K11.ext E80
  have ns95 := nx80 a0 (Safe.exa hZ80.alike f83 (by decide) (by decide))
  refine OFin.of (fun t ht => fN X13 hx (D 4 rfl) rfl ((if0 _ _).trans (feq hc15).1) (aN X13 hx (D 26 rfl) rfl rfl (iN X13 hx (D 27 rfl) rfl (iC X13 hx (D 28 rfl) (XS.iadd X13.here hx rfl (D 29 rfl) rfl (st80 t ht)))))) ?_
  rw [show oN i0 + (4 : Int32) = oN (i0 + 4) from own_addn i0 4]
  obtain ⟨hpr, hkk⟩ := own_pm_c hp (own_b1 hc15)
  obtain ⟨_, T96, Lc96, X96, hQ96, st96⟩ := own_cP X80 hx hw hZ80 hown80 184 185 35 186 36 187 rfl rfl rfl rfl rfl rfl (by decide) f83 (rmPa l Z _ hw [] a0 al80 tx kt nt pre lv80 c80 own_C2 cs fm (i0 + 4) r h80 n0 Z93 f83 f84 f85 f86 Ax80 Fc80 Fv80 ⟨own_C2, Va80, rfl, rfl⟩ f87 hcs f88 hfm own_lC2 (own_sw_le (own_b1 hc15)) hn3 hpr) (by show 5 + 1 ≤ 7; decide) (by show 0 + (4 + 11) + 69 ≤ 149; decide) (g := (mkF m 16 #[.val (.ref a0), .val (.int (oN i0)), .unset] [(.ref al80), (.int (oN (i0 + 4))), (.ref a0)])) rfl hml rfl (argsL := [(.int (oN (i0 + 4))), (.ref al80)]) (rest := []) pd_10 rfl rfl rfl (W := 0) (nE rfl) (D 31 rfl) rfl e80 (by show 0 + 4 + 0 ≤ k; omega) (by show 0 + 36 + 0 ≤ 20 * k; omega)
  obtain ⟨rfl, Nq96, hs96⟩ := hQ96
  have N97 := Fr.app N14 Nq96
  refine OFin.to st96 ?_
  refine OFin.of (S' := T96.setTop (mkF m 56 #[.val (.ref a0), .val (.int (oN i0)), .val (.int r)] [(.int r)])) (fun t ht => XS.istoreN X96.here hx rfl (D 32 rfl) rfl (l' := #[.val (.ref a0), .val (.int (oN i0)), .val (.int r)]) rfl (gO X96 hx 20 55 rfl (D 33 rfl) (by decide) (iN X96 hx (D 16 rfl) rfl ht))) ?_
  have rH98 : CHr Z consts_1 s.vm s.heap T96.vm T96.heap := by rw [hh, hs96]; exact hR82.trans (CHv.at (s := s) (vm0 := T80.vm) X96 hZ80 hEL hR82.1)
  exact own_retIH (s := s) (vm₁ := T80.vm) X96 S80 (by rw [hs96]; exact K80) rH98 hx hlk hret (D 17 rfl) (by show 0 + 4 ≤ k; omega) (by show 0 + 36 ≤ 20 * k; omega) (by rw [hs96]; exact ⟨rfl, N97, K94⟩)
theorem efNt {m : MethodId} {a0 : Addr} : entryFrame m #[(.ref a0)] 5 = mkF m 0 #[.val (.ref a0), .unset, .unset, .unset, .unset] [] := by first | (simp [entryFrame, mkF, argsToLocals, Value.category]; done) | rfl
def QNt (Z : State) (a0 tx : Addr) (kt : ClassId) (nt : Int32) (pre : List Int32) (vkd : Value) (vts vte vem vns vne vnh val : Int32) (kSTART kEND kINSTRUCTION : Addr) (cs : Int32) (fm : Value) (i0 : Nat) (o : Option Nat) (stp k : Nat) (h0 : Heap) (n0 : Nat) (v : Option Value) (h : Heap) (L : List Loc) : Prop := (o = none ∧ v = some (.int 0) ∧ Fr n0 L ∧ Keep h0 h [a0] ∧ Mk Z h a0 (.ref tx) (.int (oN pre.length)) (.int (oN pre.length)) .null (.int (oN stp)) (.int vte) (.int vem) (.int vns) (.int vne) (.int vnh) (.int val)) ∨ (∃ (i jn : Nat) (hv : Int32), o = some i ∧ v = some (.int 1) ∧ Fr n0 L ∧ Keep h0 h [a0] ∧ ((own_ba2 pre i = 63 ∧ Mk Z h a0 (.ref tx) (.int (own_at pre (own_past pre own_Q2 (i + 2)))) (.int (oN pre.length)) (.ref kINSTRUCTION) (.int (oN i)) (.int (own_past pre own_Q2 (i + 2))) (.int 0) (.int (oN (i + 2))) (.int (oN (own_find own_en pre (i + 2)))) (.int hv) (.int 0)) ∨ (¬ own_ba2 pre i = 63 ∧ own_ba2 pre i = 47 ∧ Mk Z h a0 (.ref tx) (.int (own_at pre (own_te pre (own_find own_en pre (i + 2))))) (.int (oN pre.length)) (.ref kEND) (.int (oN i)) (.int (own_te pre (own_find own_en pre (i + 2)))) (.int 0) (.int (oN (i + 2))) (.int (oN (own_find own_en pre (i + 2)))) (.int hv) (.int 0)) ∨ (¬ own_ba2 pre i = 63 ∧ ¬ own_ba2 pre i = 47 ∧ Mk Z h a0 (.ref tx) (.int (oN (own_find own_en pre (i + 1)))) (.int (oN pre.length)) (.ref kSTART) (.int (oN i)) (.int (-1)) (.int 0) (.int (oN (i + 1))) (.int (oN (own_find own_en pre (i + 1)))) (.int hv) (.int 1))))
theorem rmNt (l : Launch) (Z : State) (a0 : Array Value) (hw : HW a0 Z) (ws : List Jvm.Cond) (a0 tx : Addr) (kt : ClassId) (nt : Int32) (pre : List Int32) (vkd : Value) (vts vte vem vns vne vnh val : Int32) (kSTART kEND kINSTRUCTION : Addr) (cs : Int32) (fm : Value) (i0 : Nat) (o : Option Nat) (stp k : Nat) (h0 : Heap) (n0 : Nat) (Z0 : n0 ≤ h0.size) (EO : Exa Z h0 a0 cA) (M0 : Mk Z h0 a0 (.ref tx) (.int (oN i0)) (.int (oN pre.length)) vkd (.int vts) (.int vte) (.int vem) (.int vns) (.int vne) (.int vnh) (.int val)) (Tx : Txt Z h0 tx kt nt pre) (g0 : n0 ≤ a0) (hnt : tx ≠ a0) (SkSTART : Sta Z h0 cH "START" cF (.ref kSTART)) (SkEND : Sta Z h0 cH "END" cF (.ref kEND)) (SkINSTRUCTION : Sta Z h0 cH "INSTRUCTION" cF (.ref kINSTRUCTION)) (hne1 : kEND ≠ kSTART) (hne2 : kINSTRUCTION ≠ kSTART) (Scs : Sta Z h0 cB "COMPACT_STRINGS" "Z" (.int cs)) (hcs : ¬ cs = 0) (Sfm : Sta Z h0 cG "SIOOBE_FORMATTER" cE fm) (hfm : fm.isRef = true) (hi0 : i0 ≤ pre.length) (hn3 : nt.toNatClampNeg < 1000) (hp : own_nl pre (pre.length + 1 - i0) i0 = (o, stp, k)) :
  ConH consts_1 l mn18 (Jvm.Cond.code mn18 prog_7_method_3_code 5 (some .boolean)) ws (⟨8, k + 2, 20 * k + 40, 189⟩ : Jvm.Room) #[(.ref a0)] Z h0 (QNt Z a0 tx kt nt pre vkd vts vte vem vns vne vnh val kSTART kEND kINSTRUCTION cs fm i0 o stp k h0 n0) := by
 refine own_ofH (plainFor_of_name pn_0) hisR dl_prog_7_3 ?_
 intro p e s m below meth c s₁ hx D hlk hret hml hZ hown hnm X0 e0 hh hC0
 replace hown : s.vm.findClass cA = some m.cls := hown
 have N0 := Fr.nil n0
 have hR0 : CHr Z consts_1 s.vm h0 s.vm h0 := CHr.refl hC0
 have hEL := own_EW hw
 rw [efNt]
 have K0 : Keep h0 h0 [a0] := Keep.refl _ _
 obtain ⟨T1, X1, e1, st1⟩ := getF X0 hx hZ hown (host := "") (Or.inl (wt hw 45 rfl)) Via.refl e0 M0.g_at (g := (mkF m 4 #[.val (.ref a0), .unset, .unset, .unset, .unset] [(.ref a0), (.int 60), (.ref a0)])) rfl rfl (D 3 rfl)
 refine OFin.of (fun t ht => aN X0 hx (D 0 rfl) rfl rfl (bP X0 hx (D 1 rfl) (aN X0 hx (D 2 rfl) rfl rfl (st1 t ht)))) ?_
 obtain ⟨_, T2, Lc2, X2, hQ2, st2⟩ := own_cP X1 hx hw hZ hown 54 55 35 56 36 57 rfl rfl rfl rfl rfl rfl (by decide) EO (rmIx l Z _ hw [] a0 (60 : Int32) tx kt nt pre i0 (own_ix pre 60 i0) h0 n0 Z0 M0.g_text M0.g_end Tx hi0 rfl) (by show 0 + 1 ≤ 8; decide) (by show 0 + (4 + 11) + 0 ≤ 189; decide) (g := (mkF m 7 #[.val (.ref a0), .unset, .unset, .unset, .unset] [(.int (oN i0)), (.int 60), (.ref a0)])) rfl hml rfl (argsL := [(.int 60), (.int (oN i0))]) (rest := []) pd_9 rfl rfl rfl (W := 0) (nE rfl) (D 4 rfl) rfl e1 (by show 0 + 0 ≤ k + 2; omega) (by show 0 + 0 ≤ 20 * k + 40; omega)
 obtain ⟨rfl, Nq2, hs2⟩ := hQ2
 have N3 := Fr.app N0 Nq2
 refine OFin.to st2 ?_
 obtain ⟨T4, X4, e4, st4⟩ := getF X2 hx hZ hown (host := "") (Or.inl (wt hw 47 rfl)) Via.refl hs2 M0.g_end (g := (mkF m 12 #[.val (.ref a0), .val (.int (own_ix pre 60 i0)), .unset, .unset, .unset] [(.ref a0)])) rfl rfl (D 7 rfl)
 refine OFin.of (fun t ht => XS.istoreN X2.here hx rfl (D 5 rfl) rfl (l' := #[.val (.ref a0), .val (.int (own_ix pre 60 i0)), .unset, .unset, .unset]) rfl (aN X2 hx (D 6 rfl) rfl rfl (st4 t ht))) ?_
 refine OFin.of (S' := T4.setTop (mkF m 16 #[.val (.ref a0), .val (.int (own_ix pre 60 i0)), .val (.int (oN pre.length)), .unset, .unset] [])) (fun t ht => XS.istoreN X4.here hx rfl (D 8 rfl) rfl (l' := #[.val (.ref a0), .val (.int (own_ix pre 60 i0)), .val (.int (oN pre.length)), .unset, .unset]) rfl ht) ?_
 have lp5 : ∀ (kk cl sl : Nat) (j kl : Nat) (z3 : Slot) (hk : pre.length < j + kk) (hj : j ≤ pre.length) (hp : own_nl pre kk j = (o, stp, kl)) (hcl : cl + kl ≤ k) (hsl : sl + 20 * kl ≤ 20 * k) (jz3 : OwnJk z3) {vm1 : Vm} {k1 : Nat} {Tl : State} {hl : Heap} {locs : List Loc} (Xl : Stand p l e (⟨8, k + 2, 20 * k + 40, 189⟩ : Jvm.Room) (s.setVm vm1) m #[(.ref a0)] below meth c Tl locs cl sl) (el : Tl.heap = hl) (Sl : s.Since vm1 k1) (kl1 : k1 ≤ hl.size) (hZl : Z.Warmed39 (s.setVm vm1).vm) (hownl : (s.setVm vm1).vm.findClass cA = some m.cls) (hRl : CHr Z consts_1 s.vm h0 vm1 hl) (Zl : n0 ≤ hl.size) (Kl : Keep h0 hl [a0]) (Nl : Fr n0 locs) (fa0 : Exa Z hl a0 cA) (fa1 : Mk Z hl a0 (.ref tx) (.int (oN i0)) (.int (oN pre.length)) vkd (.int vts) (.int vte) (.int vem) (.int vns) (.int vne) (.int vnh) (.int val)) (fa2 : Txt Z hl tx kt nt pre) (fa3 : Sta Z hl cH "START" cF (.ref kSTART)) (fa4 : Sta Z hl cH "END" cF (.ref kEND)) (fa5 : Sta Z hl cH "INSTRUCTION" cF (.ref kINSTRUCTION)) (fa6 : Sta Z hl cB "COMPACT_STRINGS" "Z" (.int cs)) (fa7 : Sta Z hl cG "SIOOBE_FORMATTER" cE fm), OFin p e below (KPostH Z consts_1 s (QNt Z a0 tx kt nt pre vkd vts vte vem vns vne vnh val kSTART kEND kINSTRUCTION cs fm i0 o stp k h0 n0) (⟨8, k + 2, 20 * k + 40, 189⟩ : Jvm.Room).cells (⟨8, k + 2, 20 * k + 40, 189⟩ : Jvm.Room).slots) (Tl.setTop (mkF m 16 #[.val (.ref a0), .val (.int (own_ix pre 60 j)), .val (.int (oN pre.length)), z3, .unset] [])) := by
  intro kk
  induction kk with
  | zero => 
   intro cl sl j kl z3 hk hj hp hcl hsl jz3 vm1 k1 Tl hl locs Xl el Sl kl1 hZl hownl hRl Zl Kl Nl fa0 fa1 fa2 fa3 fa4 fa5 fa6 fa7
   exact absurd hj (by omega)
  | succ kk ih => 
   intro cl sl j kl z3 hk hj hp hcl hsl jz3 vm1 k1 Tl hl locs Xl el Sl kl1 hZl hownl hRl Zl Kl Nl fa0 fa1 fa2 fa3 fa4 fa5 fa6 fa7
   refine OFin.of (S' := Tl.setTop (mkF m 17 #[.val (.ref a0), .val (.int (own_ix pre 60 j)), .val (.int (oN pre.length)), z3, .unset] [(.int (own_ix pre 60 j))])) (fun t ht => iN Xl hx (D 9 rfl) rfl ht) ?_
   by_cases hc6 : (own_ix pre 60 j) < 0
   ·obtain ⟨T7, h7, X7, e7, W7, st7⟩ := putF Xl hx hZl hownl (host := "") (Or.inl (wt hw 69 rfl)) Via.refl el fa1.g_kind fa0 (Or.inl (wt hw 70 rfl)) (wt hw 35 rfl) (ty := (.object cH)) (by decide) rfl rfl (g := (mkF m 67 #[.val (.ref a0), .val (.int (own_ix pre 60 j)), .val (.int (oN pre.length)), z3, .unset] [.null, (.ref a0)])) rfl rfl (D 15 rfl)
    have hA8 := CHr.wr W7 (Safe.exa hZl.alike fa0 (by decide) (by decide)) hRl.1
    have hR9 := hRl.trans hA8
    have f10 := (fa0.wr W7)
    have f11 := (fa2.other W7 hnt)
    have f12 := (fa3.wr W7)
    have f13 := (fa4.wr W7)
    have f14 := (fa5.wr W7)
    have f15 := (fa6.wr W7)
    have f16 := (fa7.wr W7)
    have Z17 := nT Zl (Keep.of_wr W7).1
    have K18 := Kl.wr W7 (Or.inl (mG (i := 0) rfl))
    have N19 := Fr.snoc X7 Nl g0
    have kk20 : k1 ≤ h7.size := (nT kl1 (Keep.of_wr W7).1)
    have M21 := fa1.put_kind hw W7
    refine OFin.of (fun t ht => fY Xl hx 17 61 rfl (D 10 rfl) rfl ((if0 _ _).trans (tlt hc6).1) (by decide) (iN Xl hx (D 11 rfl) rfl (fN Xl hx (D 12 rfl) rfl ((if0 _ _).trans (tlt hc6).2.1) (aN Xl hx (D 13 rfl) rfl rfl (XS.aconstNull Xl.here hx rfl (D 14 rfl) (st7 t ht)))))) ?_
    obtain ⟨T22, h22, X22, e22, W22, st22⟩ := putF X7 hx hZl hownl (host := "") (Or.inl (wt hw 62 rfl)) Via.refl e7 M21.g_tagStart f10 (Or.inl (wt hw 63 rfl)) (wt hw 35 rfl) (ty := .int) (by decide) rfl rfl (g := (mkF m 72 #[.val (.ref a0), .val (.int (own_ix pre 60 j)), .val (.int (oN pre.length)), z3, .unset] [(.int (oN pre.length)), (.ref a0)])) rfl rfl (D 18 rfl)
    have hA23 := CHr.wr W22 (Safe.exa hZl.alike f10 (by decide) (by decide)) hR9.1
    have hR24 := hR9.trans hA23
    have f25 := (f10.wr W22)
    have f26 := (f11.other W22 hnt)
    have f27 := (f12.wr W22)
    have f28 := (f13.wr W22)
    have f29 := (f14.wr W22)
    have f30 := (f15.wr W22)
    have f31 := (f16.wr W22)
    have Z32 := nT Z17 (Keep.of_wr W22).1
    have K33 := K18.wr W22 (Or.inl (mG (i := 0) rfl))
    have N34 := Fr.snoc X22 N19 g0
    have kk35 : k1 ≤ h22.size := (nT kk20 (Keep.of_wr W22).1)
    have M36 := M21.put_tagStart hw W22
    refine OFin.of (fun t ht => aN X7 hx (D 16 rfl) rfl rfl (iN X7 hx (D 17 rfl) rfl (st22 t ht))) ?_
    obtain ⟨T37, X37, e37, st37⟩ := getF X22 hx hZl hownl (host := "") (Or.inl (wt hw 47 rfl)) Via.refl e22 M36.g_end (g := (mkF m 77 #[.val (.ref a0), .val (.int (own_ix pre 60 j)), .val (.int (oN pre.length)), z3, .unset] [(.ref a0), (.ref a0)])) rfl rfl (D 21 rfl)
    refine OFin.of (fun t ht => aN X22 hx (D 19 rfl) rfl rfl (aN X22 hx (D 20 rfl) rfl rfl (st37 t ht))) ?_
    obtain ⟨T38, h38, X38, e38, W38, st38⟩ := putF X37 hx hZl hownl (host := "") (Or.inl (wt hw 45 rfl)) Via.refl e37 M36.g_at f25 (Or.inl (wt hw 46 rfl)) (wt hw 35 rfl) (ty := .int) (by decide) rfl rfl (g := (mkF m 80 #[.val (.ref a0), .val (.int (own_ix pre 60 j)), .val (.int (oN pre.length)), z3, .unset] [(.int (oN pre.length)), (.ref a0)])) rfl rfl (D 22 rfl)
    have hA39 := CHr.wr W38 (Safe.exa hZl.alike f25 (by decide) (by decide)) hR24.1
    have hR40 := hR24.trans hA39
    have f41 := (f25.wr W38)
    have f42 := (f26.other W38 hnt)
    have f43 := (f27.wr W38)
    have f44 := (f28.wr W38)
    have f45 := (f29.wr W38)
    have f46 := (f30.wr W38)
    have f47 := (f31.wr W38)
    have Z48 := nT Z32 (Keep.of_wr W38).1
    have K49 := K33.wr W38 (Or.inl (mG (i := 0) rfl))
    have N50 := Fr.snoc X38 N34 g0
    have kk51 : k1 ≤ h38.size := (nT kk35 (Keep.of_wr W38).1)
    have M52 := M36.put_at hw W38
    refine OFin.of st38 ?_
    refine OFin.of (S' := T38.setTop (mkF m 84 #[.val (.ref a0), .val (.int (own_ix pre 60 j)), .val (.int (oN pre.length)), z3, .unset] [(.int 0)])) (fun t ht => iC X38 hx (D 23 rfl) ht) ?_
    have rH53 : CHr Z consts_1 s.vm s.heap T38.vm T38.heap := by rw [hh, e38]; exact hR40.trans (CHv.at (s := s) (vm0 := vm1) X38 hZl hEL hR40.1)
    exact own_retBH (s := s) (vm₁ := vm1) X38 Sl (by rw [e38]; exact kk51) rH53 hx hlk (t := .boolean) (by simp) hret (D 24 rfl) (by show cl ≤ k + 2; omega) (by show sl ≤ 20 * k + 40; omega) (by rw [e38]; exact Or.inl ⟨(own_nl_n hp hc6).1, rfl, N50, K49, by rw [(own_nl_n hp hc6).2]; exact M52⟩)
   ·refine OFin.of (S' := Tl.setTop (mkF m 20 #[.val (.ref a0), .val (.int (own_ix pre 60 j)), .val (.int (oN pre.length)), z3, .unset] [])) (fun t ht => fN Xl hx (D 10 rfl) rfl ((if0 _ _).trans (flt hc6).1) ht) ?_
    have h31 := own_p31 fa2
    obtain ⟨i, hg⟩ : ∃ z, own_find (fun x => decide (x = 60)) pre j = z := ⟨_, rfl⟩
    have hgl := own_ixl hg hc6
    have hge : j ≤ i := hg ▸ own_find_ge _ _ _
    rw [own_ixn hg rfl hc6]
    obtain ⟨_, T54, Lc54, X54, hQ54, st54⟩ := own_cP Xl hx hw hZl hownl 58 59 35 60 36 61 rfl rfl rfl rfl rfl rfl (by decide) fa0 (rmBa l Z _ hw [] a0 tx kt nt pre i (own_ba2 pre i) hl n0 Zl fa1.g_text fa1.g_end fa2 hgl rfl) (by show 0 + 1 ≤ 8; decide) (by show 0 + (2 + 11) + 0 ≤ 189; decide) (g := (mkF m 22 #[.val (.ref a0), .val (.int (oN i)), .val (.int (oN pre.length)), z3, .unset] [(.int (oN i)), (.ref a0)])) rfl hml rfl (argsL := [(.int (oN i))]) (rest := []) pd_12 rfl rfl rfl (W := 0) (nE rfl) (D 27 rfl) rfl el (by show cl + 0 ≤ k + 2; omega) (by show sl + 0 ≤ 20 * k + 40; omega)
    obtain ⟨rfl, Nq54, hs54⟩ := hQ54
    have N55 := Fr.app Nl Nq54
    refine OFin.of (fun t ht => aN Xl hx (D 25 rfl) rfl rfl (iN Xl hx (D 26 rfl) rfl (st54.trans ht))) ?_
    refine OFin.of (S' := T54.setTop (mkF m 27 #[.val (.ref a0), .val (.int (oN i)), .val (.int (oN pre.length)), z3, .unset] [(.int 33), (.int (own_ba2 pre i))])) (fun t ht => bP X54 hx (D 28 rfl) ht) ?_
    by_cases hc56 : (own_ba2 pre i) = 33
    ·refine OFin.of (S' := T54.setTop (mkF m 32 #[.val (.ref a0), .val (.int (oN i)), .val (.int (oN pre.length)), z3, .unset] [(.int (oN i)), (.ref a0)])) (fun t ht => cN X54 hx (D 29 rfl) rfl (teq hc56).2 (aN X54 hx (D 30 rfl) rfl rfl (iN X54 hx (D 31 rfl) rfl ht))) ?_
     obtain ⟨r, k2, hm⟩ : ∃ r k2, own_pm pre i = (r, k2) := ⟨_, _, rfl⟩
     have hk2 := own_nl_k hp hc6 hg hc56 hm
     have hi2 := own_ba33 hc56
     obtain ⟨cq58, hcq58, hsq58⟩ := Exa.cell fa0
     obtain ⟨_, _, ⟨T57, L57, k57, n57⟩, -, X57, Sq57, gr57, ⟨Lc57, hQ57, l57, y57, z57, CH57⟩, st57⟩ := X54.privateBackS hx (y := mn17) hownl (mvT hZl (wt hw 166 rfl)) (mvT hZl (wt hw 167 rfl)) (mvT hZl (own_selP (y := mn17) (wt hw 35 rfl) (wt hw 168 rfl) (wt hw 167 rfl) (by decide))) (Cond.privateMethod_at (mvP (args := #[]) hZl (wt hw 168 rfl))) (mvT hZl (wt hw 169 rfl)) (by decide) (backOfSH (s := s) (vm0 := vm1) (W := 0) (rmPm l Z _ hw [] a0 tx kt nt pre cs fm i r k2 hl n0 Zl fa0 fa1.g_text fa1.g_end fa2 fa6 hcs fa7 hfm hgl hi2 hn3 hm) hZl (wt hw 169 rfl) (wt hw 36 rfl) (by show 7 + 1 ≤ 8; decide) (by show 0 + (3 + 11) + 149 ≤ 189; decide) hEL hRl.1) (g := (mkF m 32 #[.val (.ref a0), .val (.int (oN i)), .val (.int (oN pre.length)), z3, .unset] [(.int (oN i)), (.ref a0)])) rfl (by rw [hml]; rfl) (Steps.refl _) (a := a0) (by rw [hs54]; exact hcq58) hsq58 (argsL := [(.int (oN i))]) (rest := []) (lenOf pd_11 rfl) rfl (by show 2 * 0 + _ ≤ _; exact nE rfl) (D 32 rfl) (fun _ _ => ⟨rfl, hs54, (by show cl + k2 ≤ k + 2; omega), (by show sl + 20 * k2 ≤ 20 * k + 40; omega)⟩)
     dsimp only [Pt.U, Pt.locs, Pt.cells, Pt.slots] at X57 l57 y57 z57 st57 hQ57 Sq57 gr57 CH57
     subst l57 y57 z57
     have hZ57 : Z.Warmed39 (s.setVm T57.vm).vm := State.Warmed39.trans (t := s.setVm vm1) hZl Sq57.1
     have hown57 : (s.setVm T57.vm).vm.findClass cA = some m.cls := by rw [show (s.setVm T57.vm).vm = T57.vm from rfl, Sq57.1.alike.findClass]; exact hownl
     have S57 : s.Since T57.vm T57.heap.size := State.Since.trans (s := s) (vm₁ := vm1) Sl Sq57 (nT kl1 (by rw [← hs54]; exact gr57))
     obtain ⟨rfl, Nq57, Kq57⟩ := hQ57
     have N59 := Fr.app N55 Nq57
     have hA60 := CH57
     have hR61 := hRl.trans hA60
     have f62 := (fa0.keep Kq57)
     have f63 := (fa1.keep Kq57 nin0)
     have f64 := (fa2.keep Kq57 nin0)
     have f65 := (own_staKeep fa3 Kq57 own_sn0)
     have f66 := (own_staKeep fa4 Kq57 own_sn0)
     have f67 := (own_staKeep fa5 Kq57 own_sn0)
     have f68 := (own_staKeep fa6 Kq57 own_sn0)
     have f69 := (own_staKeep fa7 Kq57 own_sn0)
     have Z70 := nT Zl Kq57.1
     have K71 := Kl.trans Kq57 all0
     refine OFin.to st57 ?_
     refine OFin.of (S' := T57.setTop (mkF m 37 #[.val (.ref a0), .val (.int (oN i)), .val (.int (oN pre.length)), .val (.int r), .unset] [(.int r)])) (fun t ht => XS.istoreN X57.here hx rfl (D 33 rfl) rfl (l' := #[.val (.ref a0), .val (.int (oN i)), .val (.int (oN pre.length)), .val (.int r), .unset]) (own_st jz3 rfl rfl rfl) (iN X57 hx (D 34 rfl) rfl ht)) ?_
     by_cases hc72 : r < 0
     ·obtain ⟨T73, h73, X73, e73, W73, st73⟩ := putF X57 hx hZ57 hown57 (host := "") (Or.inl (wt hw 69 rfl)) Via.refl (rfl : T57.heap = T57.heap) f63.g_kind f62 (Or.inl (wt hw 70 rfl)) (wt hw 35 rfl) (ty := (.object cH)) (by decide) rfl rfl (g := (mkF m 67 #[.val (.ref a0), .val (.int (-1)), .val (.int (oN i)), .val (.int r), .unset] [.null, (.ref a0)])) rfl rfl (D 15 rfl)
      have hA74 := CHr.wr W73 (Safe.exa hZ57.alike f62 (by decide) (by decide)) hR61.1
      have hR75 := hR61.trans hA74
      have f76 := (f62.wr W73)
      have f77 := (f64.other W73 hnt)
      have f78 := (f65.wr W73)
      have f79 := (f66.wr W73)
      have f80 := (f67.wr W73)
      have f81 := (f68.wr W73)
      have f82 := (f69.wr W73)
      have Z83 := nT Z70 (Keep.of_wr W73).1
      have K84 := K71.wr W73 (Or.inl (mG (i := 0) rfl))
      have N85 := Fr.snoc X73 N59 g0
      have kk86 : T57.heap.size ≤ h73.size := (nT (Nat.le_refl _) (Keep.of_wr W73).1)
      have M87 := f63.put_kind hw W73
      refine OFin.of (fun t ht => fN X57 hx (D 35 rfl) rfl ((if0 _ _).trans (tlt hc72).2.1) (iN X57 hx (D 36 rfl) rfl (XS.istoreN X57.here hx rfl (D 37 rfl) rfl (l' := #[.val (.ref a0), .val (.int (oN i)), .val (.int (oN i)), .val (.int r), .unset]) rfl (iN X57 hx (D 38 rfl) rfl (fN X57 hx (D 39 rfl) rfl ((if0 _ _).trans (tlt hc72).2.1) (iC X57 hx (D 40 rfl) (gO X57 hx 47 57 rfl (D 41 rfl) (by decide) (XS.istoreN X57.here hx rfl (D 42 rfl) rfl (l' := #[.val (.ref a0), .val (.int (-1)), .val (.int (oN i)), .val (.int r), .unset]) rfl (gO X57 hx 58 16 rfl (D 43 rfl) (by decide) (iN X57 hx (D 9 rfl) rfl (fY X57 hx 17 61 rfl (D 10 rfl) rfl ((if0 _ _).trans (tlt (by decide : (-1 : Int32) < 0)).1) (by decide) (iN X57 hx (D 11 rfl) rfl (fN X57 hx (D 12 rfl) rfl ((if0 _ _).trans (tlt (by decide : (-1 : Int32) < 0)).2.1) (aN X57 hx (D 13 rfl) rfl rfl (XS.aconstNull X57.here hx rfl (D 14 rfl) (st73 t ht)))))))))))))))) ?_
      obtain ⟨T88, h88, X88, e88, W88, st88⟩ := putF X73 hx hZ57 hown57 (host := "") (Or.inl (wt hw 62 rfl)) Via.refl e73 M87.g_tagStart f76 (Or.inl (wt hw 63 rfl)) (wt hw 35 rfl) (ty := .int) (by decide) rfl rfl (g := (mkF m 72 #[.val (.ref a0), .val (.int (-1)), .val (.int (oN i)), .val (.int r), .unset] [(.int (oN i)), (.ref a0)])) rfl rfl (D 18 rfl)
      have hA89 := CHr.wr W88 (Safe.exa hZ57.alike f76 (by decide) (by decide)) hR75.1
      have hR90 := hR75.trans hA89
      have f91 := (f76.wr W88)
      have f92 := (f77.other W88 hnt)
      have f93 := (f78.wr W88)
      have f94 := (f79.wr W88)
      have f95 := (f80.wr W88)
      have f96 := (f81.wr W88)
      have f97 := (f82.wr W88)
      have Z98 := nT Z83 (Keep.of_wr W88).1
      have K99 := K84.wr W88 (Or.inl (mG (i := 0) rfl))
      have N100 := Fr.snoc X88 N85 g0
      have kk101 : T57.heap.size ≤ h88.size := (nT kk86 (Keep.of_wr W88).1)
      have M102 := M87.put_tagStart hw W88
      refine OFin.of (fun t ht => aN X73 hx (D 16 rfl) rfl rfl (iN X73 hx (D 17 rfl) rfl (st88 t ht))) ?_
      obtain ⟨T103, X103, e103, st103⟩ := getF X88 hx hZ57 hown57 (host := "") (Or.inl (wt hw 47 rfl)) Via.refl e88 M102.g_end (g := (mkF m 77 #[.val (.ref a0), .val (.int (-1)), .val (.int (oN i)), .val (.int r), .unset] [(.ref a0), (.ref a0)])) rfl rfl (D 21 rfl)
      refine OFin.of (fun t ht => aN X88 hx (D 19 rfl) rfl rfl (aN X88 hx (D 20 rfl) rfl rfl (st103 t ht))) ?_
      obtain ⟨T104, h104, X104, e104, W104, st104⟩ := putF X103 hx hZ57 hown57 (host := "") (Or.inl (wt hw 45 rfl)) Via.refl e103 M102.g_at f91 (Or.inl (wt hw 46 rfl)) (wt hw 35 rfl) (ty := .int) (by decide) rfl rfl (g := (mkF m 80 #[.val (.ref a0), .val (.int (-1)), .val (.int (oN i)), .val (.int r), .unset] [(.int (oN pre.length)), (.ref a0)])) rfl rfl (D 22 rfl)
      have hA105 := CHr.wr W104 (Safe.exa hZ57.alike f91 (by decide) (by decide)) hR90.1
      have hR106 := hR90.trans hA105
      have f107 := (f91.wr W104)
      have f108 := (f92.other W104 hnt)
      have f109 := (f93.wr W104)
      have f110 := (f94.wr W104)
      have f111 := (f95.wr W104)
      have f112 := (f96.wr W104)
      have f113 := (f97.wr W104)
      have Z114 := nT Z98 (Keep.of_wr W104).1
      have K115 := K99.wr W104 (Or.inl (mG (i := 0) rfl))
      have N116 := Fr.snoc X104 N100 g0
      have kk117 : T57.heap.size ≤ h104.size := (nT kk101 (Keep.of_wr W104).1)
      have M118 := M102.put_at hw W104
      refine OFin.of st104 ?_
      refine OFin.of (S' := T104.setTop (mkF m 84 #[.val (.ref a0), .val (.int (-1)), .val (.int (oN i)), .val (.int r), .unset] [(.int 0)])) (fun t ht => iC X104 hx (D 23 rfl) ht) ?_
      have rH119 : CHr Z consts_1 s.vm s.heap T104.vm T104.heap := by rw [hh, e104]; exact hR106.trans (CHv.at (s := s) (vm0 := T57.vm) X104 hZ57 hEL hR106.1)
      exact own_retBH (s := s) (vm₁ := T57.vm) X104 S57 (by rw [e104]; exact kk117) rH119 hx hlk (t := .boolean) (by simp) hret (D 24 rfl) (by show cl + k2 ≤ k + 2; omega) (by show sl + 20 * k2 ≤ 20 * k + 40; omega) (by rw [e104]; exact Or.inl ⟨(own_nl_s hp hc6 hg hc56 hm hc72).1, rfl, N116, K115, by rw [(own_nl_s hp hc6 hg hc56 hm hc72).2.1]; exact M118⟩)
     ·refine OFin.of (S' := T57.setTop (mkF m 50 #[.val (.ref a0), .val (.int (oN i)), .val (.int (oN pre.length)), .val (.int r), .unset] [])) (fun t ht => fY X57 hx 37 42 rfl (D 35 rfl) rfl ((if0 _ _).trans (flt hc72).2.1) (by decide) (iN X57 hx (D 38 rfl) rfl (fY X57 hx 43 50 rfl (D 39 rfl) rfl ((if0 _ _).trans (flt hc72).2.1) (by decide) ht))) ?_
      obtain ⟨p_, rfl, hip, hpl⟩ : OwnTo pre i r := by have z := own_pm_to (pre := pre) (i := i) hi2; rw [hm] at z; exact z hc72
      obtain ⟨_, T120, Lc120, X120, hQ120, st120⟩ := own_cP X57 hx hw hZ57 hown57 54 55 35 56 36 57 rfl rfl rfl rfl rfl rfl (by decide) f62 (rmIx l Z _ hw [] a0 (60 : Int32) tx kt nt pre p_ (own_ix pre 60 p_) T57.heap n0 Z70 f63.g_text f63.g_end f64 hpl rfl) (by show 0 + 1 ≤ 8; decide) (by show 0 + (4 + 11) + 0 ≤ 189; decide) (g := (mkF m 54 #[.val (.ref a0), .val (.int (oN i)), .val (.int (oN pre.length)), .val (.int (oN p_)), .unset] [(.int (oN p_)), (.int 60), (.ref a0)])) rfl hml rfl (argsL := [(.int 60), (.int (oN p_))]) (rest := []) pd_9 rfl rfl rfl (W := 0) (nE rfl) (D 47 rfl) rfl (rfl : T57.heap = T57.heap) (by show cl + k2 + 0 ≤ k + 2; omega) (by show sl + 20 * k2 + 0 ≤ 20 * k + 40; omega)
      obtain ⟨rfl, Nq120, hs120⟩ := hQ120
      have N121 := Fr.app N59 Nq120
      refine OFin.of (fun t ht => aN X57 hx (D 44 rfl) rfl rfl (bP X57 hx (D 45 rfl) (iN X57 hx (D 46 rfl) rfl (st120.trans ht)))) ?_
      refine OFin.of (S' := T120.setTop (mkF m 16 #[.val (.ref a0), .val (.int (own_ix pre 60 p_)), .val (.int (oN pre.length)), .val (.int (oN p_)), .unset] [])) (fun t ht => XS.istoreN X120.here hx rfl (D 42 rfl) rfl (l' := #[.val (.ref a0), .val (.int (own_ix pre 60 p_)), .val (.int (oN pre.length)), .val (.int (oN p_)), .unset]) rfl (gO X120 hx 58 16 rfl (D 43 rfl) (by decide) ht)) ?_
      obtain ⟨k', hkl, hp'⟩ := own_nl_y hp hc6 hg hc56 hm hc72 (own_clamp (by omega))
      exact ih (cl + k2) (sl + 20 * k2) p_ k' _ (by omega) hpl hp' (by omega) (by omega) (Or.inr ⟨_, rfl⟩) (vm1 := T57.vm) X120 hs120 S57 (Nat.le_refl _) hZ57 hown57 hR61 Z70 K71 N121 f62 f63 f64 f65 f66 f67 f68 f69
    ·obtain ⟨T122, h122, X122, e122, W122, st122⟩ := putF X54 hx hZl hownl (host := "") (Or.inl (wt hw 62 rfl)) Via.refl hs54 fa1.g_tagStart fa0 (Or.inl (wt hw 63 rfl)) (wt hw 35 rfl) (ty := .int) (by decide) rfl rfl (g := (mkF m 87 #[.val (.ref a0), .val (.int (oN i)), .val (.int (oN pre.length)), z3, .unset] [(.int (oN i)), (.ref a0)])) rfl rfl (D 50 rfl)
     have hA123 := CHr.wr W122 (Safe.exa hZl.alike fa0 (by decide) (by decide)) hRl.1
     have hR124 := hRl.trans hA123
     have f125 := (fa0.wr W122)
     have f126 := (fa2.other W122 hnt)
     have f127 := (fa3.wr W122)
     have f128 := (fa4.wr W122)
     have f129 := (fa5.wr W122)
     have f130 := (fa6.wr W122)
     have f131 := (fa7.wr W122)
     have Z132 := nT Zl (Keep.of_wr W122).1
     have K133 := Kl.wr W122 (Or.inl (mG (i := 0) rfl))
     have N134 := Fr.snoc X122 N55 g0
     have kk135 : k1 ≤ h122.size := (nT kl1 (Keep.of_wr W122).1)
     have M136 := fa1.put_tagStart hw W122
     refine OFin.of (fun t ht => cY X54 hx 27 61 rfl (D 29 rfl) rfl (feq hc56).2 (by decide) (iN X54 hx (D 11 rfl) rfl (fY X54 hx 62 85 rfl (D 12 rfl) rfl ((if0 _ _).trans (flt (own_nz i (by omega) : ¬ ((oN i) < 0))).2.1) (by decide) (aN X54 hx (D 48 rfl) rfl rfl (iN X54 hx (D 49 rfl) rfl (st122 t ht)))))) ?_
     obtain ⟨T137, h137, X137, e137, W137, st137⟩ := putFN X122 hx hZl hownl (wt hw 64 rfl) Via.refl e122 M136.g_emptyElement f125 (Or.inl (wt hw 65 rfl)) (wt hw 35 rfl) (ty := .boolean) (v' := (.int 0)) (by decide) rfl rfl (g := (mkF m 92 #[.val (.ref a0), .val (.int (oN i)), .val (.int (oN pre.length)), z3, .unset] [(.int 0), (.ref a0)])) rfl rfl (D 53 rfl)
     have hA138 := CHr.wr W137 (Safe.exa hZl.alike f125 (by decide) (by decide)) hR124.1
     have hR139 := hR124.trans hA138
     have f140 := (f125.wr W137)
     have f141 := (f126.other W137 hnt)
     have f142 := (f127.wr W137)
     have f143 := (f128.wr W137)
     have f144 := (f129.wr W137)
     have f145 := (f130.wr W137)
     have f146 := (f131.wr W137)
     have Z147 := nT Z132 (Keep.of_wr W137).1
     have K148 := K133.wr W137 (Or.inl (mG (i := 0) rfl))
     have N149 := Fr.snoc X137 N134 g0
     have kk150 : k1 ≤ h137.size := (nT kk135 (Keep.of_wr W137).1)
     have M151 := M136.put_emptyElement hw W137
     refine OFin.of (fun t ht => aN X122 hx (D 51 rfl) rfl rfl (iC X122 hx (D 52 rfl) (st137 t ht))) ?_
     obtain ⟨_, T152, Lc152, X152, hQ152, st152⟩ := own_cP X137 hx hw hZl hownl 58 59 35 60 36 61 rfl rfl rfl rfl rfl rfl (by decide) f140 (rmBa l Z _ hw [] a0 tx kt nt pre i (own_ba2 pre i) h137 n0 Z147 M151.g_text M151.g_end f141 hgl rfl) (by show 0 + 1 ≤ 8; decide) (by show 0 + (2 + 11) + 0 ≤ 189; decide) (g := (mkF m 97 #[.val (.ref a0), .val (.int (oN i)), .val (.int (oN pre.length)), z3, .unset] [(.int (oN i)), (.ref a0)])) rfl hml rfl (argsL := [(.int (oN i))]) (rest := []) pd_12 rfl rfl rfl (W := 0) (nE rfl) (D 56 rfl) rfl e137 (by show cl + 0 ≤ k + 2; omega) (by show sl + 0 ≤ 20 * k + 40; omega)
     obtain ⟨rfl, Nq152, hs152⟩ := hQ152
     have N153 := Fr.app N149 Nq152
     refine OFin.of (fun t ht => aN X137 hx (D 54 rfl) rfl rfl (iN X137 hx (D 55 rfl) rfl (st152.trans ht))) ?_
     refine OFin.of (S' := T152.setTop (mkF m 104 #[.val (.ref a0), .val (.int (oN i)), .val (.int (oN pre.length)), .val (.int (own_ba2 pre i)), .unset] [(.int 63), (.int (own_ba2 pre i))])) (fun t ht => XS.istoreN X152.here hx rfl (D 57 rfl) rfl (l' := #[.val (.ref a0), .val (.int (oN i)), .val (.int (oN pre.length)), .val (.int (own_ba2 pre i)), .unset]) (own_st jz3 rfl rfl rfl) (iN X152 hx (D 58 rfl) rfl (bP X152 hx (D 59 rfl) ht))) ?_
     by_cases hc154 : (own_ba2 pre i) = 63
     ·obtain ⟨T155, X155, e155, st155⟩ := getS (host := "") X152 hx hZl hownl (wt hw 194 rfl) Via.refl hs152 f144 (g := (mkF m 108 #[.val (.ref a0), .val (.int (oN i)), .val (.int (oN pre.length)), .val (.int (own_ba2 pre i)), .unset] [(.ref a0)])) rfl (D 62 rfl)
      refine OFin.of (fun t ht => cN X152 hx (D 60 rfl) rfl (teq hc154).2 (aN X152 hx (D 61 rfl) rfl rfl (st155 t ht))) ?_
      obtain ⟨T156, h156, X156, e156, W156, st156⟩ := putF X155 hx hZl hownl (host := "") (Or.inl (wt hw 69 rfl)) Via.refl e155 M151.g_kind f140 (Or.inl (wt hw 70 rfl)) (wt hw 35 rfl) (ty := (.object cH)) (by decide) rfl rfl (g := (mkF m 111 #[.val (.ref a0), .val (.int (oN i)), .val (.int (oN pre.length)), .val (.int (own_ba2 pre i)), .unset] [(.ref kINSTRUCTION), (.ref a0)])) rfl rfl (D 63 rfl)
      have hA157 := CHr.wr W156 (Safe.exa hZl.alike f140 (by decide) (by decide)) hR139.1
      have hR158 := hR139.trans hA157
      have f159 := (f140.wr W156)
      have f160 := (f141.other W156 hnt)
      have f161 := (f142.wr W156)
      have f162 := (f143.wr W156)
      have f163 := (f144.wr W156)
      have f164 := (f145.wr W156)
      have f165 := (f146.wr W156)
      have Z166 := nT Z147 (Keep.of_wr W156).1
      have K167 := K148.wr W156 (Or.inl (mG (i := 0) rfl))
      have N168 := Fr.snoc X156 N153 g0
      have kk169 : k1 ≤ h156.size := (nT kk150 (Keep.of_wr W156).1)
      have M170 := M151.put_kind hw W156
      refine OFin.of st156 ?_
      refine OFin.of (S' := T156.setTop (mkF m 118 #[.val (.ref a0), .val (.int (oN i)), .val (.int (oN pre.length)), .val (.int (own_ba2 pre i)), .unset] [(.int ((oN i) + (2 : Int32))), (.ref a0)])) (fun t ht => aN X156 hx (D 64 rfl) rfl rfl (iN X156 hx (D 65 rfl) rfl (iC X156 hx (D 66 rfl) (XS.iadd X156.here hx rfl (D 67 rfl) rfl ht)))) ?_
      rw [show oN i + (2 : Int32) = oN (i + 2) from own_addn i 2]
      obtain ⟨jn, hjn⟩ : ∃ z, own_find own_en pre (i + 2) = z := ⟨_, rfl⟩
      have hi2 := own_ba2n (by decide) hc154
      have hjl : jn ≤ pre.length := hjn ▸ own_find_le _ hi2
      obtain ⟨_, T171, Lc171, X171, hQ171, st171⟩ := own_cP X156 hx hw hZl hownl 71 72 35 73 36 74 rfl rfl rfl rfl rfl rfl (by decide) f159 (rmRn l Z _ hw [] a0 tx kt nt pre (oN i0) (.ref kINSTRUCTION) (oN i) vte (0 : Int32) vns vne vnh val (i + 2) jn h156 n0 Z166 f159 M170 f160 g0 hnt hi2 hjn) (by show 1 + 1 ≤ 8; decide) (by show 0 + (4 + 11) + 12 ≤ 189; decide) (g := (mkF m 118 #[.val (.ref a0), .val (.int (oN i)), .val (.int (oN pre.length)), .val (.int (own_ba2 pre i)), .unset] [(.int (oN (i + 2))), (.ref a0)])) rfl hml rfl (argsL := [(.int (oN (i + 2)))]) (rest := []) pd_11 rfl rfl rfl (W := 0) (nE rfl) (D 68 rfl) rfl e156 (by show cl + 0 ≤ k + 2; omega) (by show sl + 0 ≤ 20 * k + 40; omega)
      obtain ⟨hv171, rfl, Nq171, Kq171, M171⟩ := hQ171
      have N172 := Fr.app N168 Nq171
      have hA173 := CHr.keep Kq171 (sfS (Safe.exa hZl.alike f159 (by decide) (by decide)) sf0) hR158.1
      have hR174 := hR158.trans hA173
      have f175 := (f159.keep Kq171)
      have f176 := (f160.keep Kq171 (ninS hnt nin0))
      have f177 := (own_staKeep f161 Kq171 (own_snS f159 own_sn0))
      have f178 := (own_staKeep f162 Kq171 (own_snS f159 own_sn0))
      have f179 := (own_staKeep f163 Kq171 (own_snS f159 own_sn0))
      have f180 := (own_staKeep f164 Kq171 (own_snS f159 own_sn0))
      have f181 := (own_staKeep f165 Kq171 (own_snS f159 own_sn0))
      have Z182 := nT Z166 Kq171.1
      have K183 := K167.trans Kq171 (allS (Or.inl (mG (i := 0) rfl)) all0)
      have kk184 : k1 ≤ T171.heap.size := (nT kk169 Kq171.1)
      refine OFin.to st171 ?_
      obtain ⟨al185, T185, h185, k185, lv185, c185, X185, e185, E185, S185, K185, hZ185, hown185, Ax185, Fc185, Fv185, Va185, -, -, CH185, -, nx185, st185⟩ := ldcCH (s := s) (vm0 := vm1) X171 hx hZl hownl (wt hw 196 rfl) (own_strAtoms hw) (rfl : T171.heap = T171.heap) Sl kk184 hEL (mG (i := 0) rfl) hR174.1 (vs := [(.int 63), (.int 62)]) (z := (2 : Int32)) ⟨by decide, rfl⟩ (by decide) (by decide) (g := (mkF m 127 #[.val (.ref a0), .val (.int (oN i)), .val (.int (oN pre.length)), .val (.int (own_ba2 pre i)), .unset] [(.int ((oN i) + (2 : Int32))), (.ref a0), (.ref a0)])) rfl (D 75 rfl) (n := 8) (by decide) (by decide) (by show cl + 2 ≤ k + 2; omega) (by show sl + 12 ≤ 20 * k + 40; omega)
      have hA186 := CH185
      have hR187 := hR174.trans hA186
      have f188 := f175.ext E185
      have f189 := f176.ext E185
      have f190 := f177.ext E185
      have f191 := f178.ext E185
      have f192 := f179.ext E185
      have f193 := f180.ext E185
      have f194 := f181.ext E185
      have f195 := M171.ext E185
      have Z196 := nT Z182 E185.1
      have K197 := K183.ext E185
      have ns198 := nx185 a0 (Safe.exa hZ185.alike f188 (by decide) (by decide))
      refine OFin.of (fun t ht => XS.pop X171.here hx rfl (D 69 rfl) rfl rfl (aN X171 hx (D 70 rfl) rfl rfl (aN X171 hx (D 71 rfl) rfl rfl (iN X171 hx (D 72 rfl) rfl (iC X171 hx (D 73 rfl) (XS.iadd X171.here hx rfl (D 74 rfl) rfl (st185 t ht))))))) ?_
      rw [show oN i + (2 : Int32) = oN (i + 2) from own_addn i 2]
      obtain ⟨_, T199, Lc199, X199, hQ199, st199⟩ := own_cP X185 hx hw hZ185 hown185 184 185 35 186 36 187 rfl rfl rfl rfl rfl rfl (by decide) f188 (rmPa l Z _ hw [] a0 al185 tx kt nt pre lv185 c185 own_Q2 cs fm (i + 2) (own_past pre own_Q2 (i + 2)) h185 n0 Z196 f188 f195.g_text f195.g_end f189 Ax185 Fc185 Fv185 ⟨own_Q2, Va185, rfl, rfl⟩ f193 hcs f194 hfm own_lQ2 hi2 hn3 rfl) (by show 5 + 1 ≤ 8; decide) (by show 1 + (4 + 11) + 69 ≤ 189; decide) (g := (mkF m 129 #[.val (.ref a0), .val (.int (oN i)), .val (.int (oN pre.length)), .val (.int (own_ba2 pre i)), .unset] [(.ref al185), (.int (oN (i + 2))), (.ref a0), (.ref a0)])) rfl hml rfl (argsL := [(.int (oN (i + 2))), (.ref al185)]) (rest := [(.ref a0)]) pd_10 rfl rfl rfl (W := 1) (nE rfl) (D 76 rfl) rfl e185 (by show cl + 2 + 0 ≤ k + 2; omega) (by show sl + 12 + 0 ≤ 20 * k + 40; omega)
      obtain ⟨rfl, Nq199, hs199⟩ := hQ199
      have N200 := Fr.app N172 Nq199
      refine OFin.to st199 ?_
      obtain ⟨T201, h201, X201, e201, W201, st201⟩ := putF X199 hx hZ185 hown185 (host := "") (Or.inl (wt hw 85 rfl)) Via.refl hs199 f195.g_tagEnd f188 (Or.inl (wt hw 86 rfl)) (wt hw 35 rfl) (ty := .int) (by decide) rfl rfl (g := (mkF m 132 #[.val (.ref a0), .val (.int (oN i)), .val (.int (oN pre.length)), .val (.int (own_ba2 pre i)), .unset] [(.int (own_past pre own_Q2 (i + 2))), (.ref a0)])) rfl rfl (D 77 rfl)
      have hA202 := CHr.wr W201 (Safe.exa hZ185.alike f188 (by decide) (by decide)) hR187.1
      have hR203 := hR187.trans hA202
      have f204 := (f188.wr W201)
      have f205 := (f189.other W201 hnt)
      have f206 := (f190.wr W201)
      have f207 := (f191.wr W201)
      have f208 := (f192.wr W201)
      have f209 := (f193.wr W201)
      have f210 := (f194.wr W201)
      have f211 := (Ax185.wr W201)
      have f212 := (Fc185.other W201 (Or.inl (Ne.symm ns198.1)))
      have f213 := (Fv185.other W201 (Or.inl (Ne.symm ns198.1)))
      have f214 := (Va185.other W201 (Ne.symm ns198.2))
      have Z215 := nT Z196 (Keep.of_wr W201).1
      have K216 := K197.wr W201 (Or.inl (mG (i := 0) rfl))
      have N217 := Fr.snoc X201 N200 g0
      have kk218 : k185 ≤ h201.size := (nT K185 (Keep.of_wr W201).1)
      have M219 := f195.put_tagEnd hw W201
      refine OFin.of st201 ?_
      obtain ⟨T220, X220, e220, st220⟩ := getF X201 hx hZ185 hown185 (host := "") (Or.inl (wt hw 85 rfl)) Via.refl e201 M219.g_tagEnd (g := (mkF m 137 #[.val (.ref a0), .val (.int (oN i)), .val (.int (oN pre.length)), .val (.int (own_ba2 pre i)), .unset] [(.ref a0), (.ref a0)])) rfl rfl (D 80 rfl)
      refine OFin.of (fun t ht => aN X201 hx (D 78 rfl) rfl rfl (aN X201 hx (D 79 rfl) rfl rfl (st220 t ht))) ?_
      by_cases hc221 : (own_past pre own_Q2 (i + 2)) < 0
      ·obtain ⟨T222, X222, e222, st222⟩ := getF X220 hx hZ185 hown185 (host := "") (Or.inl (wt hw 47 rfl)) Via.refl e220 M219.g_end (g := (mkF m 144 #[.val (.ref a0), .val (.int (oN i)), .val (.int (oN pre.length)), .val (.int (own_ba2 pre i)), .unset] [(.ref a0), (.ref a0)])) rfl rfl (D 83 rfl)
       refine OFin.of (fun t ht => fN X220 hx (D 81 rfl) rfl ((if0 _ _).trans (tlt hc221).2.1) (aN X220 hx (D 82 rfl) rfl rfl (st222 t ht))) ?_
       obtain ⟨T223, h223, X223, e223, W223, st223⟩ := putF X222 hx hZ185 hown185 (host := "") (Or.inl (wt hw 45 rfl)) Via.refl e222 M219.g_at f204 (Or.inl (wt hw 46 rfl)) (wt hw 35 rfl) (ty := .int) (by decide) rfl rfl (g := (mkF m 154 #[.val (.ref a0), .val (.int (oN i)), .val (.int (oN pre.length)), .val (.int (own_ba2 pre i)), .unset] [(.int (oN pre.length)), (.ref a0)])) rfl rfl (D 85 rfl)
       have hA224 := CHr.wr W223 (Safe.exa hZ185.alike f204 (by decide) (by decide)) hR203.1
       have hR225 := hR203.trans hA224
       have f226 := (f204.wr W223)
       have f227 := (f205.other W223 hnt)
       have f228 := (f206.wr W223)
       have f229 := (f207.wr W223)
       have f230 := (f208.wr W223)
       have f231 := (f209.wr W223)
       have f232 := (f210.wr W223)
       have f233 := (f211.wr W223)
       have f234 := (f212.other W223 (Or.inl (Ne.symm ns198.1)))
       have f235 := (f213.other W223 (Or.inl (Ne.symm ns198.1)))
       have f236 := (f214.other W223 (Ne.symm ns198.2))
       have Z237 := nT Z215 (Keep.of_wr W223).1
       have K238 := K216.wr W223 (Or.inl (mG (i := 0) rfl))
       have N239 := Fr.snoc X223 N217 g0
       have kk240 : k185 ≤ h223.size := (nT kk218 (Keep.of_wr W223).1)
       have M241 := M219.put_at hw W223
       refine OFin.of (fun t ht => gO X222 hx 147 154 rfl (D 84 rfl) (by decide) (st223 t ht)) ?_
       obtain ⟨T242, X242, e242, st242⟩ := getF X223 hx hZ185 hown185 (host := "") (Or.inl (wt hw 69 rfl)) Via.refl e223 M241.g_kind (g := (mkF m 258 #[.val (.ref a0), .val (.int (oN i)), .val (.int (oN pre.length)), .val (.int (own_ba2 pre i)), .unset] [(.ref a0), (.ref a0)])) rfl rfl (D 89 rfl)
       refine OFin.of (fun t ht => gO X223 hx 157 256 rfl (D 86 rfl) (by decide) (aN X223 hx (D 87 rfl) rfl rfl (aN X223 hx (D 88 rfl) rfl rfl (st242 t ht)))) ?_
       obtain ⟨T243, X243, e243, st243⟩ := getS (host := "") X242 hx hZ185 hown185 (wt hw 87 rfl) Via.refl e242 f228 (g := (mkF m 261 #[.val (.ref a0), .val (.int (oN i)), .val (.int (oN pre.length)), .val (.int (own_ba2 pre i)), .unset] [(.ref kINSTRUCTION), (.ref a0)])) rfl (D 90 rfl)
       refine OFin.of st243 ?_
       obtain ⟨T244, h244, X244, e244, W244, st244⟩ := putFN X243 hx hZ185 hown185 (wt hw 89 rfl) Via.refl e243 M241.g_attributesLeft f226 (Or.inl (wt hw 90 rfl)) (wt hw 35 rfl) (ty := .boolean) (v' := (.int 0)) (by decide) rfl rfl (g := (mkF m 272 #[.val (.ref a0), .val (.int (oN i)), .val (.int (oN pre.length)), .val (.int (own_ba2 pre i)), .unset] [(.int 0), (.ref a0)])) rfl rfl (D 93 rfl)
       have hA245 := CHr.wr W244 (Safe.exa hZ185.alike f226 (by decide) (by decide)) hR225.1
       have hR246 := hR225.trans hA245
       have f247 := (f226.wr W244)
       have f248 := (f227.other W244 hnt)
       have f249 := (f228.wr W244)
       have f250 := (f229.wr W244)
       have f251 := (f230.wr W244)
       have f252 := (f231.wr W244)
       have f253 := (f232.wr W244)
       have f254 := (f233.wr W244)
       have f255 := (f234.other W244 (Or.inl (Ne.symm ns198.1)))
       have f256 := (f235.other W244 (Or.inl (Ne.symm ns198.1)))
       have f257 := (f236.other W244 (Ne.symm ns198.2))
       have Z258 := nT Z237 (Keep.of_wr W244).1
       have K259 := K238.wr W244 (Or.inl (mG (i := 0) rfl))
       have N260 := Fr.snoc X244 N239 g0
       have kk261 : k185 ≤ h244.size := (nT kk240 (Keep.of_wr W244).1)
       have M262 := M241.put_attributesLeft hw W244
       refine OFin.of (fun t ht => acmp X243 hx rfl (cd := .ne) (x := (.ref kINSTRUCTION)) (y := (.ref kSTART)) rfl rfl (pc0 := 264) (pc' := 271) (same := false) rfl (D 91 rfl) rfl (decide_eq_false (fun q => hne2 (Value.ref.inj q))) (by decide) (by decide) (iC X243 hx (D 92 rfl) (st244 t ht))) ?_
       refine OFin.of (S' := T244.setTop (mkF m 276 #[.val (.ref a0), .val (.int (oN i)), .val (.int (oN pre.length)), .val (.int (own_ba2 pre i)), .unset] [(.int 1)])) (fun t ht => iC X244 hx (D 94 rfl) ht) ?_
       have rH263 : CHr Z consts_1 s.vm s.heap T244.vm T244.heap := by rw [hh, e244]; exact hR246.trans (CHv.at (s := s) (vm0 := T185.vm) X244 hZ185 hEL hR246.1)
       exact own_retBH (s := s) (vm₁ := T185.vm) X244 S185 (by rw [e244]; exact kk261) rH263 hx hlk (t := .boolean) (by simp) hret (D 95 rfl) (by show cl + 2 ≤ k + 2; omega) (by show sl + 12 ≤ 20 * k + 40; omega) (by rw [e244]; exact Or.inr ⟨i, jn, hv171, own_nl_t hp hc6 hg hc56, rfl, N260, K259, (by subst hjn; exact Or.inl ⟨hc154, by unfold own_at; rw [if_pos hc221]; exact M262⟩)⟩)
      ·obtain ⟨T264, X264, e264, st264⟩ := getF X220 hx hZ185 hown185 (host := "") (Or.inl (wt hw 85 rfl)) Via.refl e220 M219.g_tagEnd (g := (mkF m 151 #[.val (.ref a0), .val (.int (oN i)), .val (.int (oN pre.length)), .val (.int (own_ba2 pre i)), .unset] [(.ref a0), (.ref a0)])) rfl rfl (D 97 rfl)
       refine OFin.of (fun t ht => fY X220 hx 140 150 rfl (D 81 rfl) rfl ((if0 _ _).trans (flt hc221).2.1) (by decide) (aN X220 hx (D 96 rfl) rfl rfl (st264 t ht))) ?_
       obtain ⟨T265, h265, X265, e265, W265, st265⟩ := putF X264 hx hZ185 hown185 (host := "") (Or.inl (wt hw 45 rfl)) Via.refl e264 M219.g_at f204 (Or.inl (wt hw 46 rfl)) (wt hw 35 rfl) (ty := .int) (by decide) rfl rfl (g := (mkF m 154 #[.val (.ref a0), .val (.int (oN i)), .val (.int (oN pre.length)), .val (.int (own_ba2 pre i)), .unset] [(.int (own_past pre own_Q2 (i + 2))), (.ref a0)])) rfl rfl (D 85 rfl)
       have hA266 := CHr.wr W265 (Safe.exa hZ185.alike f204 (by decide) (by decide)) hR203.1
       have hR267 := hR203.trans hA266
       have f268 := (f204.wr W265)
       have f269 := (f205.other W265 hnt)
       have f270 := (f206.wr W265)
       have f271 := (f207.wr W265)
       have f272 := (f208.wr W265)
       have f273 := (f209.wr W265)
       have f274 := (f210.wr W265)
       have f275 := (f211.wr W265)
       have f276 := (f212.other W265 (Or.inl (Ne.symm ns198.1)))
       have f277 := (f213.other W265 (Or.inl (Ne.symm ns198.1)))
       have f278 := (f214.other W265 (Ne.symm ns198.2))
       have Z279 := nT Z215 (Keep.of_wr W265).1
       have K280 := K216.wr W265 (Or.inl (mG (i := 0) rfl))
       have N281 := Fr.snoc X265 N217 g0
       have kk282 : k185 ≤ h265.size := (nT kk218 (Keep.of_wr W265).1)
       have M283 := M219.put_at hw W265
       refine OFin.of st265 ?_
       obtain ⟨T284, X284, e284, st284⟩ := getF X265 hx hZ185 hown185 (host := "") (Or.inl (wt hw 69 rfl)) Via.refl e265 M283.g_kind (g := (mkF m 258 #[.val (.ref a0), .val (.int (oN i)), .val (.int (oN pre.length)), .val (.int (own_ba2 pre i)), .unset] [(.ref a0), (.ref a0)])) rfl rfl (D 89 rfl)
       refine OFin.of (fun t ht => gO X265 hx 157 256 rfl (D 86 rfl) (by decide) (aN X265 hx (D 87 rfl) rfl rfl (aN X265 hx (D 88 rfl) rfl rfl (st284 t ht)))) ?_
       obtain ⟨T285, X285, e285, st285⟩ := getS (host := "") X284 hx hZ185 hown185 (wt hw 87 rfl) Via.refl e284 f270 (g := (mkF m 261 #[.val (.ref a0), .val (.int (oN i)), .val (.int (oN pre.length)), .val (.int (own_ba2 pre i)), .unset] [(.ref kINSTRUCTION), (.ref a0)])) rfl (D 90 rfl)
       refine OFin.of st285 ?_
       obtain ⟨T286, h286, X286, e286, W286, st286⟩ := putFN X285 hx hZ185 hown185 (wt hw 89 rfl) Via.refl e285 M283.g_attributesLeft f268 (Or.inl (wt hw 90 rfl)) (wt hw 35 rfl) (ty := .boolean) (v' := (.int 0)) (by decide) rfl rfl (g := (mkF m 272 #[.val (.ref a0), .val (.int (oN i)), .val (.int (oN pre.length)), .val (.int (own_ba2 pre i)), .unset] [(.int 0), (.ref a0)])) rfl rfl (D 93 rfl)
       have hA287 := CHr.wr W286 (Safe.exa hZ185.alike f268 (by decide) (by decide)) hR267.1
       have hR288 := hR267.trans hA287
       have f289 := (f268.wr W286)
       have f290 := (f269.other W286 hnt)
       have f291 := (f270.wr W286)
       have f292 := (f271.wr W286)
       have f293 := (f272.wr W286)
       have f294 := (f273.wr W286)
       have f295 := (f274.wr W286)
       have f296 := (f275.wr W286)
       have f297 := (f276.other W286 (Or.inl (Ne.symm ns198.1)))
       have f298 := (f277.other W286 (Or.inl (Ne.symm ns198.1)))
       have f299 := (f278.other W286 (Ne.symm ns198.2))
       have Z300 := nT Z279 (Keep.of_wr W286).1
       have K301 := K280.wr W286 (Or.inl (mG (i := 0) rfl))
       have N302 := Fr.snoc X286 N281 g0
       have kk303 : k185 ≤ h286.size := (nT kk282 (Keep.of_wr W286).1)
       have M304 := M283.put_attributesLeft hw W286
       refine OFin.of (fun t ht => acmp X285 hx rfl (cd := .ne) (x := (.ref kINSTRUCTION)) (y := (.ref kSTART)) rfl rfl (pc0 := 264) (pc' := 271) (same := false) rfl (D 91 rfl) rfl (decide_eq_false (fun q => hne2 (Value.ref.inj q))) (by decide) (by decide) (iC X285 hx (D 92 rfl) (st286 t ht))) ?_
       refine OFin.of (S' := T286.setTop (mkF m 276 #[.val (.ref a0), .val (.int (oN i)), .val (.int (oN pre.length)), .val (.int (own_ba2 pre i)), .unset] [(.int 1)])) (fun t ht => iC X286 hx (D 94 rfl) ht) ?_
       have rH305 : CHr Z consts_1 s.vm s.heap T286.vm T286.heap := by rw [hh, e286]; exact hR288.trans (CHv.at (s := s) (vm0 := T185.vm) X286 hZ185 hEL hR288.1)
       exact own_retBH (s := s) (vm₁ := T185.vm) X286 S185 (by rw [e286]; exact kk303) rH305 hx hlk (t := .boolean) (by simp) hret (D 95 rfl) (by show cl + 2 ≤ k + 2; omega) (by show sl + 12 ≤ 20 * k + 40; omega) (by rw [e286]; exact Or.inr ⟨i, jn, hv171, own_nl_t hp hc6 hg hc56, rfl, N302, K301, (by subst hjn; exact Or.inl ⟨hc154, by unfold own_at; rw [if_neg hc221]; exact M304⟩)⟩)
     ·refine OFin.of (S' := T152.setTop (mkF m 163 #[.val (.ref a0), .val (.int (oN i)), .val (.int (oN pre.length)), .val (.int (own_ba2 pre i)), .unset] [(.int 47), (.int (own_ba2 pre i))])) (fun t ht => cY X152 hx 104 160 rfl (D 60 rfl) rfl (feq hc154).2 (by decide) (iN X152 hx (D 98 rfl) rfl (bP X152 hx (D 99 rfl) ht))) ?_
      by_cases hc306 : (own_ba2 pre i) = 47
      ·obtain ⟨T307, X307, e307, st307⟩ := getS (host := "") X152 hx hZl hownl (wt hw 66 rfl) Via.refl hs152 f143 (g := (mkF m 167 #[.val (.ref a0), .val (.int (oN i)), .val (.int (oN pre.length)), .val (.int (own_ba2 pre i)), .unset] [(.ref a0)])) rfl (D 102 rfl)
       refine OFin.of (fun t ht => cN X152 hx (D 100 rfl) rfl (teq hc306).2 (aN X152 hx (D 101 rfl) rfl rfl (st307 t ht))) ?_
       obtain ⟨T308, h308, X308, e308, W308, st308⟩ := putF X307 hx hZl hownl (host := "") (Or.inl (wt hw 69 rfl)) Via.refl e307 M151.g_kind f140 (Or.inl (wt hw 70 rfl)) (wt hw 35 rfl) (ty := (.object cH)) (by decide) rfl rfl (g := (mkF m 170 #[.val (.ref a0), .val (.int (oN i)), .val (.int (oN pre.length)), .val (.int (own_ba2 pre i)), .unset] [(.ref kEND), (.ref a0)])) rfl rfl (D 103 rfl)
       have hA309 := CHr.wr W308 (Safe.exa hZl.alike f140 (by decide) (by decide)) hR139.1
       have hR310 := hR139.trans hA309
       have f311 := (f140.wr W308)
       have f312 := (f141.other W308 hnt)
       have f313 := (f142.wr W308)
       have f314 := (f143.wr W308)
       have f315 := (f144.wr W308)
       have f316 := (f145.wr W308)
       have f317 := (f146.wr W308)
       have Z318 := nT Z147 (Keep.of_wr W308).1
       have K319 := K148.wr W308 (Or.inl (mG (i := 0) rfl))
       have N320 := Fr.snoc X308 N153 g0
       have kk321 : k1 ≤ h308.size := (nT kk150 (Keep.of_wr W308).1)
       have M322 := M151.put_kind hw W308
       refine OFin.of st308 ?_
       refine OFin.of (S' := T308.setTop (mkF m 177 #[.val (.ref a0), .val (.int (oN i)), .val (.int (oN pre.length)), .val (.int (own_ba2 pre i)), .unset] [(.int ((oN i) + (2 : Int32))), (.ref a0)])) (fun t ht => aN X308 hx (D 104 rfl) rfl rfl (iN X308 hx (D 105 rfl) rfl (iC X308 hx (D 106 rfl) (XS.iadd X308.here hx rfl (D 107 rfl) rfl ht)))) ?_
       rw [show oN i + (2 : Int32) = oN (i + 2) from own_addn i 2]
       obtain ⟨jn, hjn⟩ : ∃ z, own_find own_en pre (i + 2) = z := ⟨_, rfl⟩
       have hi2 := own_ba2n (by decide) hc306
       have hjl : jn ≤ pre.length := hjn ▸ own_find_le _ hi2
       obtain ⟨_, T323, Lc323, X323, hQ323, st323⟩ := own_cP X308 hx hw hZl hownl 71 72 35 73 36 74 rfl rfl rfl rfl rfl rfl (by decide) f311 (rmRn l Z _ hw [] a0 tx kt nt pre (oN i0) (.ref kEND) (oN i) vte (0 : Int32) vns vne vnh val (i + 2) jn h308 n0 Z318 f311 M322 f312 g0 hnt hi2 hjn) (by show 1 + 1 ≤ 8; decide) (by show 0 + (4 + 11) + 12 ≤ 189; decide) (g := (mkF m 177 #[.val (.ref a0), .val (.int (oN i)), .val (.int (oN pre.length)), .val (.int (own_ba2 pre i)), .unset] [(.int (oN (i + 2))), (.ref a0)])) rfl hml rfl (argsL := [(.int (oN (i + 2)))]) (rest := []) pd_11 rfl rfl rfl (W := 0) (nE rfl) (D 108 rfl) rfl e308 (by show cl + 0 ≤ k + 2; omega) (by show sl + 0 ≤ 20 * k + 40; omega)
       obtain ⟨hv323, rfl, Nq323, Kq323, M323⟩ := hQ323
       have N324 := Fr.app N320 Nq323
       have hA325 := CHr.keep Kq323 (sfS (Safe.exa hZl.alike f311 (by decide) (by decide)) sf0) hR310.1
       have hR326 := hR310.trans hA325
       have f327 := (f311.keep Kq323)
       have f328 := (f312.keep Kq323 (ninS hnt nin0))
       have f329 := (own_staKeep f313 Kq323 (own_snS f311 own_sn0))
       have f330 := (own_staKeep f314 Kq323 (own_snS f311 own_sn0))
       have f331 := (own_staKeep f315 Kq323 (own_snS f311 own_sn0))
       have f332 := (own_staKeep f316 Kq323 (own_snS f311 own_sn0))
       have f333 := (own_staKeep f317 Kq323 (own_snS f311 own_sn0))
       have Z334 := nT Z318 Kq323.1
       have K335 := K319.trans Kq323 (allS (Or.inl (mG (i := 0) rfl)) all0)
       have kk336 : k1 ≤ T323.heap.size := (nT kk321 Kq323.1)
       refine OFin.to st323 ?_
       obtain ⟨T337, X337, e337, st337⟩ := getF X323 hx hZl hownl (host := "") (Or.inl (wt hw 81 rfl)) Via.refl (rfl : T323.heap = T323.heap) M323.g_nameEnd (g := (mkF m 185 #[.val (.ref a0), .val (.int (oN i)), .val (.int (oN pre.length)), .val (.int (own_ba2 pre i)), .unset] [(.ref a0), (.int 62), (.ref a0)])) rfl rfl (D 113 rfl)
       refine OFin.of (fun t ht => XS.pop X323.here hx rfl (D 109 rfl) rfl rfl (aN X323 hx (D 110 rfl) rfl rfl (bP X323 hx (D 111 rfl) (aN X323 hx (D 112 rfl) rfl rfl (st337 t ht))))) ?_
       obtain ⟨_, T338, Lc338, X338, hQ338, st338⟩ := own_cP X337 hx hw hZl hownl 54 55 35 56 36 57 rfl rfl rfl rfl rfl rfl (by decide) f327 (rmIx l Z _ hw [] a0 (62 : Int32) tx kt nt pre jn (own_ix pre 62 jn) T323.heap n0 Z334 M323.g_text M323.g_end f328 hjl rfl) (by show 0 + 1 ≤ 8; decide) (by show 0 + (4 + 11) + 0 ≤ 189; decide) (g := (mkF m 188 #[.val (.ref a0), .val (.int (oN i)), .val (.int (oN pre.length)), .val (.int (own_ba2 pre i)), .unset] [(.int (oN jn)), (.int 62), (.ref a0)])) rfl hml rfl (argsL := [(.int 62), (.int (oN jn))]) (rest := []) pd_9 rfl rfl rfl (W := 0) (nE rfl) (D 114 rfl) rfl e337 (by show cl + 0 ≤ k + 2; omega) (by show sl + 0 ≤ 20 * k + 40; omega)
       obtain ⟨rfl, Nq338, hs338⟩ := hQ338
       have N339 := Fr.app N324 Nq338
       refine OFin.to st338 ?_
       refine OFin.of (S' := T338.setTop (mkF m 196 #[.val (.ref a0), .val (.int (oN i)), .val (.int (oN pre.length)), .val (.int (own_ba2 pre i)), .val (.int (own_ix pre 62 jn))] [(.int (own_ix pre 62 jn)), (.ref a0)])) (fun t ht => sW X338 hx (D 115 rfl) rfl (l' := #[.val (.ref a0), .val (.int (oN i)), .val (.int (oN pre.length)), .val (.int (own_ba2 pre i)), .val (.int (own_ix pre 62 jn))]) rfl (aN X338 hx (D 116 rfl) rfl rfl (iW X338 hx (D 117 rfl) rfl ht))) ?_
       by_cases hc340 : (own_ix pre 62 jn) < 0
       ·obtain ⟨T341, h341, X341, e341, W341, st341⟩ := putF X338 hx hZl hownl (host := "") (Or.inl (wt hw 85 rfl)) Via.refl hs338 M323.g_tagEnd f327 (Or.inl (wt hw 86 rfl)) (wt hw 35 rfl) (ty := .int) (by decide) rfl rfl (g := (mkF m 207 #[.val (.ref a0), .val (.int (oN i)), .val (.int (oN pre.length)), .val (.int (own_ba2 pre i)), .val (.int (own_ix pre 62 jn))] [(.int (-1)), (.ref a0)])) rfl rfl (D 121 rfl)
        have hA342 := CHr.wr W341 (Safe.exa hZl.alike f327 (by decide) (by decide)) hR326.1
        have hR343 := hR326.trans hA342
        have f344 := (f327.wr W341)
        have f345 := (f328.other W341 hnt)
        have f346 := (f329.wr W341)
        have f347 := (f330.wr W341)
        have f348 := (f331.wr W341)
        have f349 := (f332.wr W341)
        have f350 := (f333.wr W341)
        have Z351 := nT Z334 (Keep.of_wr W341).1
        have K352 := K335.wr W341 (Or.inl (mG (i := 0) rfl))
        have N353 := Fr.snoc X341 N339 g0
        have kk354 : k1 ≤ h341.size := (nT kk336 (Keep.of_wr W341).1)
        have M355 := M323.put_tagEnd hw W341
        refine OFin.of (fun t ht => fN X338 hx (D 118 rfl) rfl ((if0 _ _).trans (tlt hc340).2.1) (iC X338 hx (D 119 rfl) (gO X338 hx 200 207 rfl (D 120 rfl) (by decide) (st341 t ht)))) ?_
        obtain ⟨T356, X356, e356, st356⟩ := getF X341 hx hZl hownl (host := "") (Or.inl (wt hw 47 rfl)) Via.refl e341 M355.g_end (g := (mkF m 217 #[.val (.ref a0), .val (.int (oN i)), .val (.int (oN pre.length)), .val (.int (own_ba2 pre i)), .val (.int (own_ix pre 62 jn))] [(.ref a0), (.ref a0)])) rfl rfl (D 126 rfl)
        refine OFin.of (fun t ht => aN X341 hx (D 122 rfl) rfl rfl (iW X341 hx (D 123 rfl) rfl (fN X341 hx (D 124 rfl) rfl ((if0 _ _).trans (tlt hc340).2.1) (aN X341 hx (D 125 rfl) rfl rfl (st356 t ht))))) ?_
        obtain ⟨T357, h357, X357, e357, W357, st357⟩ := putF X356 hx hZl hownl (host := "") (Or.inl (wt hw 45 rfl)) Via.refl e356 M355.g_at f344 (Or.inl (wt hw 46 rfl)) (wt hw 35 rfl) (ty := .int) (by decide) rfl rfl (g := (mkF m 227 #[.val (.ref a0), .val (.int (oN i)), .val (.int (oN pre.length)), .val (.int (own_ba2 pre i)), .val (.int (own_ix pre 62 jn))] [(.int (oN pre.length)), (.ref a0)])) rfl rfl (D 128 rfl)
        have hA358 := CHr.wr W357 (Safe.exa hZl.alike f344 (by decide) (by decide)) hR343.1
        have hR359 := hR343.trans hA358
        have f360 := (f344.wr W357)
        have f361 := (f345.other W357 hnt)
        have f362 := (f346.wr W357)
        have f363 := (f347.wr W357)
        have f364 := (f348.wr W357)
        have f365 := (f349.wr W357)
        have f366 := (f350.wr W357)
        have Z367 := nT Z351 (Keep.of_wr W357).1
        have K368 := K352.wr W357 (Or.inl (mG (i := 0) rfl))
        have N369 := Fr.snoc X357 N353 g0
        have kk370 : k1 ≤ h357.size := (nT kk354 (Keep.of_wr W357).1)
        have M371 := M355.put_at hw W357
        refine OFin.of (fun t ht => gO X356 hx 220 227 rfl (D 127 rfl) (by decide) (st357 t ht)) ?_
        obtain ⟨T372, X372, e372, st372⟩ := getF X357 hx hZl hownl (host := "") (Or.inl (wt hw 69 rfl)) Via.refl e357 M371.g_kind (g := (mkF m 258 #[.val (.ref a0), .val (.int (oN i)), .val (.int (oN pre.length)), .val (.int (own_ba2 pre i)), .val (.int (own_ix pre 62 jn))] [(.ref a0), (.ref a0)])) rfl rfl (D 89 rfl)
        refine OFin.of (fun t ht => gO X357 hx 230 256 rfl (D 129 rfl) (by decide) (aN X357 hx (D 87 rfl) rfl rfl (aN X357 hx (D 88 rfl) rfl rfl (st372 t ht)))) ?_
        obtain ⟨T373, X373, e373, st373⟩ := getS (host := "") X372 hx hZl hownl (wt hw 87 rfl) Via.refl e372 f362 (g := (mkF m 261 #[.val (.ref a0), .val (.int (oN i)), .val (.int (oN pre.length)), .val (.int (own_ba2 pre i)), .val (.int (own_ix pre 62 jn))] [(.ref kEND), (.ref a0)])) rfl (D 90 rfl)
        refine OFin.of st373 ?_
        obtain ⟨T374, h374, X374, e374, W374, st374⟩ := putFN X373 hx hZl hownl (wt hw 89 rfl) Via.refl e373 M371.g_attributesLeft f360 (Or.inl (wt hw 90 rfl)) (wt hw 35 rfl) (ty := .boolean) (v' := (.int 0)) (by decide) rfl rfl (g := (mkF m 272 #[.val (.ref a0), .val (.int (oN i)), .val (.int (oN pre.length)), .val (.int (own_ba2 pre i)), .val (.int (own_ix pre 62 jn))] [(.int 0), (.ref a0)])) rfl rfl (D 93 rfl)
        have hA375 := CHr.wr W374 (Safe.exa hZl.alike f360 (by decide) (by decide)) hR359.1
        have hR376 := hR359.trans hA375
        have f377 := (f360.wr W374)
        have f378 := (f361.other W374 hnt)
        have f379 := (f362.wr W374)
        have f380 := (f363.wr W374)
        have f381 := (f364.wr W374)
        have f382 := (f365.wr W374)
        have f383 := (f366.wr W374)
        have Z384 := nT Z367 (Keep.of_wr W374).1
        have K385 := K368.wr W374 (Or.inl (mG (i := 0) rfl))
        have N386 := Fr.snoc X374 N369 g0
        have kk387 : k1 ≤ h374.size := (nT kk370 (Keep.of_wr W374).1)
        have M388 := M371.put_attributesLeft hw W374
        refine OFin.of (fun t ht => acmp X373 hx rfl (cd := .ne) (x := (.ref kEND)) (y := (.ref kSTART)) rfl rfl (pc0 := 264) (pc' := 271) (same := false) rfl (D 91 rfl) rfl (decide_eq_false (fun q => hne1 (Value.ref.inj q))) (by decide) (by decide) (iC X373 hx (D 92 rfl) (st374 t ht))) ?_
        refine OFin.of (S' := T374.setTop (mkF m 276 #[.val (.ref a0), .val (.int (oN i)), .val (.int (oN pre.length)), .val (.int (own_ba2 pre i)), .val (.int (own_ix pre 62 jn))] [(.int 1)])) (fun t ht => iC X374 hx (D 94 rfl) ht) ?_
        have rH389 : CHr Z consts_1 s.vm s.heap T374.vm T374.heap := by rw [hh, e374]; exact hR376.trans (CHv.at (s := s) (vm0 := vm1) X374 hZl hEL hR376.1)
        exact own_retBH (s := s) (vm₁ := vm1) X374 Sl (by rw [e374]; exact kk387) rH389 hx hlk (t := .boolean) (by simp) hret (D 95 rfl) (by show cl ≤ k + 2; omega) (by show sl ≤ 20 * k + 40; omega) (by rw [e374]; exact Or.inr ⟨i, jn, hv323, own_nl_t hp hc6 hg hc56, rfl, N386, K385, (by subst hjn; exact Or.inr (Or.inl ⟨hc154, hc306, by rw [own_te_n rfl hc340, own_at_n]; exact M388⟩))⟩)
       ·obtain ⟨T390, h390, X390, e390, W390, st390⟩ := putF X338 hx hZl hownl (host := "") (Or.inl (wt hw 85 rfl)) Via.refl hs338 M323.g_tagEnd f327 (Or.inl (wt hw 86 rfl)) (wt hw 35 rfl) (ty := .int) (by decide) rfl rfl (g := (mkF m 207 #[.val (.ref a0), .val (.int (oN i)), .val (.int (oN pre.length)), .val (.int (own_ba2 pre i)), .val (.int (own_ix pre 62 jn))] [(.int ((own_ix pre 62 jn) + (1 : Int32))), (.ref a0)])) rfl rfl (D 121 rfl)
        have hA391 := CHr.wr W390 (Safe.exa hZl.alike f327 (by decide) (by decide)) hR326.1
        have hR392 := hR326.trans hA391
        have f393 := (f327.wr W390)
        have f394 := (f328.other W390 hnt)
        have f395 := (f329.wr W390)
        have f396 := (f330.wr W390)
        have f397 := (f331.wr W390)
        have f398 := (f332.wr W390)
        have f399 := (f333.wr W390)
        have Z400 := nT Z334 (Keep.of_wr W390).1
        have K401 := K335.wr W390 (Or.inl (mG (i := 0) rfl))
        have N402 := Fr.snoc X390 N339 g0
        have kk403 : k1 ≤ h390.size := (nT kk336 (Keep.of_wr W390).1)
        have M404 := M323.put_tagEnd hw W390
        refine OFin.of (fun t ht => fY X338 hx 196 203 rfl (D 118 rfl) rfl ((if0 _ _).trans (flt hc340).2.1) (by decide) (iW X338 hx (D 130 rfl) rfl (iC X338 hx (D 131 rfl) (XS.iadd X338.here hx rfl (D 132 rfl) rfl (st390 t ht))))) ?_
        obtain ⟨T405, h405, X405, e405, W405, st405⟩ := putF X390 hx hZl hownl (host := "") (Or.inl (wt hw 45 rfl)) Via.refl e390 M404.g_at f393 (Or.inl (wt hw 46 rfl)) (wt hw 35 rfl) (ty := .int) (by decide) rfl rfl (g := (mkF m 227 #[.val (.ref a0), .val (.int (oN i)), .val (.int (oN pre.length)), .val (.int (own_ba2 pre i)), .val (.int (own_ix pre 62 jn))] [(.int ((own_ix pre 62 jn) + (1 : Int32))), (.ref a0)])) rfl rfl (D 128 rfl)
        have hA406 := CHr.wr W405 (Safe.exa hZl.alike f393 (by decide) (by decide)) hR392.1
        have hR407 := hR392.trans hA406
        have f408 := (f393.wr W405)
        have f409 := (f394.other W405 hnt)
        have f410 := (f395.wr W405)
        have f411 := (f396.wr W405)
        have f412 := (f397.wr W405)
        have f413 := (f398.wr W405)
        have f414 := (f399.wr W405)
        have Z415 := nT Z400 (Keep.of_wr W405).1
        have K416 := K401.wr W405 (Or.inl (mG (i := 0) rfl))
        have N417 := Fr.snoc X405 N402 g0
        have kk418 : k1 ≤ h405.size := (nT kk403 (Keep.of_wr W405).1)
        have M419 := M404.put_at hw W405
        refine OFin.of (fun t ht => aN X390 hx (D 122 rfl) rfl rfl (iW X390 hx (D 123 rfl) rfl (fY X390 hx 213 223 rfl (D 124 rfl) rfl ((if0 _ _).trans (flt hc340).2.1) (by decide) (iW X390 hx (D 133 rfl) rfl (iC X390 hx (D 134 rfl) (XS.iadd X390.here hx rfl (D 135 rfl) rfl (st405 t ht))))))) ?_
        obtain ⟨T420, X420, e420, st420⟩ := getF X405 hx hZl hownl (host := "") (Or.inl (wt hw 69 rfl)) Via.refl e405 M419.g_kind (g := (mkF m 258 #[.val (.ref a0), .val (.int (oN i)), .val (.int (oN pre.length)), .val (.int (own_ba2 pre i)), .val (.int (own_ix pre 62 jn))] [(.ref a0), (.ref a0)])) rfl rfl (D 89 rfl)
        refine OFin.of (fun t ht => gO X405 hx 230 256 rfl (D 129 rfl) (by decide) (aN X405 hx (D 87 rfl) rfl rfl (aN X405 hx (D 88 rfl) rfl rfl (st420 t ht)))) ?_
        obtain ⟨T421, X421, e421, st421⟩ := getS (host := "") X420 hx hZl hownl (wt hw 87 rfl) Via.refl e420 f410 (g := (mkF m 261 #[.val (.ref a0), .val (.int (oN i)), .val (.int (oN pre.length)), .val (.int (own_ba2 pre i)), .val (.int (own_ix pre 62 jn))] [(.ref kEND), (.ref a0)])) rfl (D 90 rfl)
        refine OFin.of st421 ?_
        obtain ⟨T422, h422, X422, e422, W422, st422⟩ := putFN X421 hx hZl hownl (wt hw 89 rfl) Via.refl e421 M419.g_attributesLeft f408 (Or.inl (wt hw 90 rfl)) (wt hw 35 rfl) (ty := .boolean) (v' := (.int 0)) (by decide) rfl rfl (g := (mkF m 272 #[.val (.ref a0), .val (.int (oN i)), .val (.int (oN pre.length)), .val (.int (own_ba2 pre i)), .val (.int (own_ix pre 62 jn))] [(.int 0), (.ref a0)])) rfl rfl (D 93 rfl)
        have hA423 := CHr.wr W422 (Safe.exa hZl.alike f408 (by decide) (by decide)) hR407.1
        have hR424 := hR407.trans hA423
        have f425 := (f408.wr W422)
        have f426 := (f409.other W422 hnt)
        have f427 := (f410.wr W422)
        have f428 := (f411.wr W422)
        have f429 := (f412.wr W422)
        have f430 := (f413.wr W422)
        have f431 := (f414.wr W422)
        have Z432 := nT Z415 (Keep.of_wr W422).1
        have K433 := K416.wr W422 (Or.inl (mG (i := 0) rfl))
        have N434 := Fr.snoc X422 N417 g0
        have kk435 : k1 ≤ h422.size := (nT kk418 (Keep.of_wr W422).1)
        have M436 := M419.put_attributesLeft hw W422
        refine OFin.of (fun t ht => acmp X421 hx rfl (cd := .ne) (x := (.ref kEND)) (y := (.ref kSTART)) rfl rfl (pc0 := 264) (pc' := 271) (same := false) rfl (D 91 rfl) rfl (decide_eq_false (fun q => hne1 (Value.ref.inj q))) (by decide) (by decide) (iC X421 hx (D 92 rfl) (st422 t ht))) ?_
        refine OFin.of (S' := T422.setTop (mkF m 276 #[.val (.ref a0), .val (.int (oN i)), .val (.int (oN pre.length)), .val (.int (own_ba2 pre i)), .val (.int (own_ix pre 62 jn))] [(.int 1)])) (fun t ht => iC X422 hx (D 94 rfl) ht) ?_
        have rH437 : CHr Z consts_1 s.vm s.heap T422.vm T422.heap := by rw [hh, e422]; exact hR424.trans (CHv.at (s := s) (vm0 := vm1) X422 hZl hEL hR424.1)
        exact own_retBH (s := s) (vm₁ := vm1) X422 Sl (by rw [e422]; exact kk435) rH437 hx hlk (t := .boolean) (by simp) hret (D 95 rfl) (by show cl ≤ k + 2; omega) (by show sl ≤ 20 * k + 40; omega) (by rw [e422]; exact Or.inr ⟨i, jn, hv323, own_nl_t hp hc6 hg hc56, rfl, N434, K433, (by subst hjn; exact Or.inr (Or.inl ⟨hc154, hc306, by rw [own_te_y rfl hc340, own_at_y (own_p31 f426) hc340]; exact M436⟩))⟩)
      ·obtain ⟨T438, X438, e438, st438⟩ := getS (host := "") X152 hx hZl hownl (wt hw 87 rfl) Via.refl hs152 f142 (g := (mkF m 234 #[.val (.ref a0), .val (.int (oN i)), .val (.int (oN pre.length)), .val (.int (own_ba2 pre i)), .unset] [(.ref a0)])) rfl (D 137 rfl)
       refine OFin.of (fun t ht => cY X152 hx 163 233 rfl (D 100 rfl) rfl (feq hc306).2 (by decide) (aN X152 hx (D 136 rfl) rfl rfl (st438 t ht))) ?_
       obtain ⟨T439, h439, X439, e439, W439, st439⟩ := putF X438 hx hZl hownl (host := "") (Or.inl (wt hw 69 rfl)) Via.refl e438 M151.g_kind f140 (Or.inl (wt hw 70 rfl)) (wt hw 35 rfl) (ty := (.object cH)) (by decide) rfl rfl (g := (mkF m 237 #[.val (.ref a0), .val (.int (oN i)), .val (.int (oN pre.length)), .val (.int (own_ba2 pre i)), .unset] [(.ref kSTART), (.ref a0)])) rfl rfl (D 138 rfl)
       have hA440 := CHr.wr W439 (Safe.exa hZl.alike f140 (by decide) (by decide)) hR139.1
       have hR441 := hR139.trans hA440
       have f442 := (f140.wr W439)
       have f443 := (f141.other W439 hnt)
       have f444 := (f142.wr W439)
       have f445 := (f143.wr W439)
       have f446 := (f144.wr W439)
       have f447 := (f145.wr W439)
       have f448 := (f146.wr W439)
       have Z449 := nT Z147 (Keep.of_wr W439).1
       have K450 := K148.wr W439 (Or.inl (mG (i := 0) rfl))
       have N451 := Fr.snoc X439 N153 g0
       have kk452 : k1 ≤ h439.size := (nT kk150 (Keep.of_wr W439).1)
       have M453 := M151.put_kind hw W439
       refine OFin.of st439 ?_
       obtain ⟨T454, h454, X454, e454, W454, st454⟩ := putF X439 hx hZl hownl (host := "") (Or.inl (wt hw 85 rfl)) Via.refl e439 M453.g_tagEnd f442 (Or.inl (wt hw 86 rfl)) (wt hw 35 rfl) (ty := .int) (by decide) rfl rfl (g := (mkF m 242 #[.val (.ref a0), .val (.int (oN i)), .val (.int (oN pre.length)), .val (.int (own_ba2 pre i)), .unset] [(.int (-1)), (.ref a0)])) rfl rfl (D 141 rfl)
       have hA455 := CHr.wr W454 (Safe.exa hZl.alike f442 (by decide) (by decide)) hR441.1
       have hR456 := hR441.trans hA455
       have f457 := (f442.wr W454)
       have f458 := (f443.other W454 hnt)
       have f459 := (f444.wr W454)
       have f460 := (f445.wr W454)
       have f461 := (f446.wr W454)
       have f462 := (f447.wr W454)
       have f463 := (f448.wr W454)
       have Z464 := nT Z449 (Keep.of_wr W454).1
       have K465 := K450.wr W454 (Or.inl (mG (i := 0) rfl))
       have N466 := Fr.snoc X454 N451 g0
       have kk467 : k1 ≤ h454.size := (nT kk452 (Keep.of_wr W454).1)
       have M468 := M453.put_tagEnd hw W454
       refine OFin.of (fun t ht => aN X439 hx (D 139 rfl) rfl rfl (iC X439 hx (D 140 rfl) (st454 t ht))) ?_
       refine OFin.of (S' := T454.setTop (mkF m 250 #[.val (.ref a0), .val (.int (oN i)), .val (.int (oN pre.length)), .val (.int (own_ba2 pre i)), .unset] [(.int ((oN i) + (1 : Int32))), (.ref a0), (.ref a0)])) (fun t ht => aN X454 hx (D 142 rfl) rfl rfl (aN X454 hx (D 143 rfl) rfl rfl (iN X454 hx (D 144 rfl) rfl (iC X454 hx (D 145 rfl) (XS.iadd X454.here hx rfl (D 146 rfl) rfl ht))))) ?_
       rw [show oN i + (1 : Int32) = oN (i + 1) from own_addn i 1]
       obtain ⟨jn, hjn⟩ : ∃ z, own_find own_en pre (i + 1) = z := ⟨_, rfl⟩
       have hjl : jn ≤ pre.length := hjn ▸ own_find_le _ hgl
       obtain ⟨_, T469, Lc469, X469, hQ469, st469⟩ := own_cP X454 hx hw hZl hownl 71 72 35 73 36 74 rfl rfl rfl rfl rfl rfl (by decide) f457 (rmRn l Z _ hw [] a0 tx kt nt pre (oN i0) (.ref kSTART) (oN i) (-1 : Int32) (0 : Int32) vns vne vnh val (i + 1) jn h454 n0 Z464 f457 M468 f458 g0 hnt hgl hjn) (by show 1 + 1 ≤ 8; decide) (by show 1 + (4 + 11) + 12 ≤ 189; decide) (g := (mkF m 250 #[.val (.ref a0), .val (.int (oN i)), .val (.int (oN pre.length)), .val (.int (own_ba2 pre i)), .unset] [(.int (oN (i + 1))), (.ref a0), (.ref a0)])) rfl hml rfl (argsL := [(.int (oN (i + 1)))]) (rest := [(.ref a0)]) pd_11 rfl rfl rfl (W := 1) (nE rfl) (D 147 rfl) rfl e454 (by show cl + 0 ≤ k + 2; omega) (by show sl + 0 ≤ 20 * k + 40; omega)
       obtain ⟨hv469, rfl, Nq469, Kq469, M469⟩ := hQ469
       have N470 := Fr.app N466 Nq469
       have hA471 := CHr.keep Kq469 (sfS (Safe.exa hZl.alike f457 (by decide) (by decide)) sf0) hR456.1
       have hR472 := hR456.trans hA471
       have f473 := (f457.keep Kq469)
       have f474 := (f458.keep Kq469 (ninS hnt nin0))
       have f475 := (own_staKeep f459 Kq469 (own_snS f457 own_sn0))
       have f476 := (own_staKeep f460 Kq469 (own_snS f457 own_sn0))
       have f477 := (own_staKeep f461 Kq469 (own_snS f457 own_sn0))
       have f478 := (own_staKeep f462 Kq469 (own_snS f457 own_sn0))
       have f479 := (own_staKeep f463 Kq469 (own_snS f457 own_sn0))
       have Z480 := nT Z464 Kq469.1
       have K481 := K465.trans Kq469 (allS (Or.inl (mG (i := 0) rfl)) all0)
       have kk482 : k1 ≤ T469.heap.size := (nT kk467 Kq469.1)
       refine OFin.to st469 ?_
       obtain ⟨T483, h483, X483, e483, W483, st483⟩ := putF X469 hx hZl hownl (host := "") (Or.inl (wt hw 45 rfl)) Via.refl (rfl : T469.heap = T469.heap) M469.g_at f473 (Or.inl (wt hw 46 rfl)) (wt hw 35 rfl) (ty := .int) (by decide) rfl rfl (g := (mkF m 253 #[.val (.ref a0), .val (.int (oN i)), .val (.int (oN pre.length)), .val (.int (own_ba2 pre i)), .unset] [(.int (oN jn)), (.ref a0)])) rfl rfl (D 148 rfl)
       have hA484 := CHr.wr W483 (Safe.exa hZl.alike f473 (by decide) (by decide)) hR472.1
       have hR485 := hR472.trans hA484
       have f486 := (f473.wr W483)
       have f487 := (f474.other W483 hnt)
       have f488 := (f475.wr W483)
       have f489 := (f476.wr W483)
       have f490 := (f477.wr W483)
       have f491 := (f478.wr W483)
       have f492 := (f479.wr W483)
       have Z493 := nT Z480 (Keep.of_wr W483).1
       have K494 := K481.wr W483 (Or.inl (mG (i := 0) rfl))
       have N495 := Fr.snoc X483 N470 g0
       have kk496 : k1 ≤ h483.size := (nT kk482 (Keep.of_wr W483).1)
       have M497 := M469.put_at hw W483
       refine OFin.of st483 ?_
       obtain ⟨T498, X498, e498, st498⟩ := getF X483 hx hZl hownl (host := "") (Or.inl (wt hw 69 rfl)) Via.refl e483 M497.g_kind (g := (mkF m 258 #[.val (.ref a0), .val (.int (oN i)), .val (.int (oN pre.length)), .val (.int (own_ba2 pre i)), .unset] [(.ref a0), (.ref a0)])) rfl rfl (D 89 rfl)
       refine OFin.of (fun t ht => aN X483 hx (D 87 rfl) rfl rfl (aN X483 hx (D 88 rfl) rfl rfl (st498 t ht))) ?_
       obtain ⟨T499, X499, e499, st499⟩ := getS (host := "") X498 hx hZl hownl (wt hw 87 rfl) Via.refl e498 f488 (g := (mkF m 261 #[.val (.ref a0), .val (.int (oN i)), .val (.int (oN pre.length)), .val (.int (own_ba2 pre i)), .unset] [(.ref kSTART), (.ref a0)])) rfl (D 90 rfl)
       refine OFin.of st499 ?_
       obtain ⟨T500, h500, X500, e500, W500, st500⟩ := putFN X499 hx hZl hownl (wt hw 89 rfl) Via.refl e499 M497.g_attributesLeft f486 (Or.inl (wt hw 90 rfl)) (wt hw 35 rfl) (ty := .boolean) (v' := (.int 1)) (by decide) rfl rfl (g := (mkF m 272 #[.val (.ref a0), .val (.int (oN i)), .val (.int (oN pre.length)), .val (.int (own_ba2 pre i)), .unset] [(.int 1), (.ref a0)])) rfl rfl (D 93 rfl)
       have hA501 := CHr.wr W500 (Safe.exa hZl.alike f486 (by decide) (by decide)) hR485.1
       have hR502 := hR485.trans hA501
       have f503 := (f486.wr W500)
       have f504 := (f487.other W500 hnt)
       have f505 := (f488.wr W500)
       have f506 := (f489.wr W500)
       have f507 := (f490.wr W500)
       have f508 := (f491.wr W500)
       have f509 := (f492.wr W500)
       have Z510 := nT Z493 (Keep.of_wr W500).1
       have K511 := K494.wr W500 (Or.inl (mG (i := 0) rfl))
       have N512 := Fr.snoc X500 N495 g0
       have kk513 : k1 ≤ h500.size := (nT kk496 (Keep.of_wr W500).1)
       have M514 := M497.put_attributesLeft hw W500
       refine OFin.of (fun t ht => acmp X499 hx rfl (cd := .ne) (x := (.ref kSTART)) (y := (.ref kSTART)) rfl rfl (pc0 := 264) (pc' := 267) (same := true) rfl (D 91 rfl) rfl (decide_eq_true rfl) (by decide) (by decide) (iC X499 hx (D 149 rfl) (gO X499 hx 268 272 rfl (D 150 rfl) (by decide) (st500 t ht)))) ?_
       refine OFin.of (S' := T500.setTop (mkF m 276 #[.val (.ref a0), .val (.int (oN i)), .val (.int (oN pre.length)), .val (.int (own_ba2 pre i)), .unset] [(.int 1)])) (fun t ht => iC X500 hx (D 94 rfl) ht) ?_
       have rH515 : CHr Z consts_1 s.vm s.heap T500.vm T500.heap := by rw [hh, e500]; exact hR502.trans (CHv.at (s := s) (vm0 := vm1) X500 hZl hEL hR502.1)
       exact own_retBH (s := s) (vm₁ := vm1) X500 Sl (by rw [e500]; exact kk513) rH515 hx hlk (t := .boolean) (by simp) hret (D 95 rfl) (by show cl ≤ k + 2; omega) (by show sl ≤ 20 * k + 40; omega) (by rw [e500]; exact Or.inr ⟨i, jn, hv469, own_nl_t hp hc6 hg hc56, rfl, N512, K511, (by subst hjn; exact Or.inr (Or.inr ⟨hc154, hc306, M514⟩))⟩)
 exact lp5 (pre.length + 1 - i0) (0) (0) i0 _ _ (by omega) hi0 hp (by omega) (by omega) (Or.inl rfl) (vm1 := s.vm) X4 e4 ((State.WarmedH.refl s).since h0.size) (Nat.le_refl _) hZ hown hR0 Z0 K0 N3 EO M0 Tx SkSTART SkEND SkINSTRUCTION Scs Sfm
theorem pn_4 : plainName cC = true := by first | (simp [plainName, overriddenIn]; done) | decide +kernel
theorem efFil {m : MethodId} {p0 : Int32} : entryFrame m #[(.int p0)] 2 = mkF m 0 #[.val (.int p0), .unset] [] := by first | (simp [entryFrame, mkF, argsToLocals, Value.category]; done) | rfl
def QFil (Z : State) (p0 : Int32) (h0 : Heap) (n0 : Nat) (v : Option Value) (h : Heap) (L : List Loc) : Prop := v = some (.int (own_fi p0)) ∧ Fr n0 L ∧ h = h0
theorem rmFil (l : Launch) (Z : State) (a0 : Array Value) (hw : HW a0 Z) (ws : List Jvm.Cond) (p0 : Int32) (h0 : Heap) (n0 : Nat) (Z0 : n0 ≤ h0.size)  :
  Con l mn19 (Jvm.Cond.code mn19 method_4_code 2 (some .byte)) ws (⟨0, 0, 0, 0⟩ : Jvm.Room) #[(.int p0)] Z h0 (QFil Z p0 h0 n0) := by
 refine own_of (plainFor_of_name pn_4) hisR dl_method_4 ?_
 intro p e s m below meth c s₁ hx D hlk hret hml hZ hown hnm X0 e0
 replace hown : s.vm.findClass cC = some m.cls := hown
 have N0 := Fr.nil n0
 rw [efFil]
 refine OFin.of (S' := s₁.setTop (mkF m 6 #[.val (.int p0), .val (.int (p0.toInt8.toInt32))] [(.int 60), (.int (p0.toInt8.toInt32))])) (fun t ht => iN X0 hx (D 0 rfl) rfl (XS.i2b X0.here hx rfl (D 1 rfl) rfl (XS.istoreN X0.here hx rfl (D 2 rfl) rfl (l' := #[.val (.int p0), .val (.int (p0.toInt8.toInt32))]) rfl (iN X0 hx (D 3 rfl) rfl (bP X0 hx (D 4 rfl) ht))))) ?_
 by_cases hc1 : (p0.toInt8.toInt32) = 60
 ·refine OFin.of (S' := s₁.setTop (mkF m 15 #[.val (.int p0), .val (.int (p0.toInt8.toInt32))] [(.int 120)])) (fun t ht => cN X0 hx (D 5 rfl) rfl (teq hc1).2 (bP X0 hx (D 6 rfl) (gO X0 hx 11 15 rfl (D 7 rfl) (by decide) ht))) ?_
  exact OFin.retB X0 hx hlk (t := .byte) (by simp) hret (D 8 rfl) (by decide) (by decide) (by rw [e0]; exact ⟨(by show some (Value.int 120) = _; rw [own_fi_t hc1]), N0, rfl⟩)
 ·refine OFin.of (S' := s₁.setTop (mkF m 15 #[.val (.int p0), .val (.int (p0.toInt8.toInt32))] [(.int (p0.toInt8.toInt32))])) (fun t ht => cY X0 hx 6 14 rfl (D 5 rfl) rfl (feq hc1).2 (by decide) (iN X0 hx (D 9 rfl) rfl ht)) ?_
  exact OFin.retB X0 hx hlk (t := .byte) (by simp) hret (D 8 rfl) (by decide) (by decide) (by rw [e0]; exact ⟨(by show some (Value.int (nar .byte (p0.toInt8.toInt32))) = _; rw [own_fi_f hc1]), N0, rfl⟩)
theorem efNby {m : MethodId} {p0 : Int32} : entryFrame m #[(.int p0)] 2 = mkF m 0 #[.val (.int p0), .unset] [] := by first | (simp [entryFrame, mkF, argsToLocals, Value.category]; done) | rfl
def QNby (Z : State) (p0 : Int32) (h0 : Heap) (n0 : Nat) (v : Option Value) (h : Heap) (L : List Loc) : Prop := v = some (.int (own_nby p0)) ∧ Fr n0 L ∧ h = h0
theorem rmNby (l : Launch) (Z : State) (a0 : Array Value) (hw : HW a0 Z) (ws : List Jvm.Cond) (p0 : Int32) (h0 : Heap) (n0 : Nat) (Z0 : n0 ≤ h0.size)  :
  Con l mn20 (Jvm.Cond.code mn20 method_5_code 2 (some .byte)) ws (⟨0, 0, 0, 0⟩ : Jvm.Room) #[(.int p0)] Z h0 (QNby Z p0 h0 n0) := by
 refine own_of (plainFor_of_name pn_4) hisR dl_method_5 ?_
 intro p e s m below meth c s₁ hx D hlk hret hml hZ hown hnm X0 e0
 replace hown : s.vm.findClass cC = some m.cls := hown
 have N0 := Fr.nil n0
 rw [efNby]
 refine OFin.of (S' := s₁.setTop (mkF m 8 #[.val (.int p0), .val (.int (p0 &&& (127 : Int32)))] [(.int 64), (.int (p0 &&& (127 : Int32)))])) (fun t ht => iN X0 hx (D 0 rfl) rfl (bP X0 hx (D 1 rfl) (XS.iand X0.here hx rfl (D 2 rfl) rfl (XS.istoreN X0.here hx rfl (D 3 rfl) rfl (l' := #[.val (.int p0), .val (.int (p0 &&& (127 : Int32)))]) rfl (iN X0 hx (D 4 rfl) rfl (bP X0 hx (D 5 rfl) ht)))))) ?_
 by_cases hc1 : (p0 &&& (127 : Int32)) < 64
 ·refine OFin.of (S' := s₁.setTop (mkF m 22 #[.val (.int p0), .val (.int (p0 &&& (127 : Int32)))] [(.int (((128 : Int32) + (p0 &&& (127 : Int32))).toInt8.toInt32))])) (fun t ht => cN X0 hx (D 6 rfl) rfl (tlt hc1).2.1 (XS.sipush X0.here hx rfl (D 7 rfl) (iN X0 hx (D 8 rfl) rfl (XS.iadd X0.here hx rfl (D 9 rfl) rfl (XS.i2b X0.here hx rfl (D 10 rfl) rfl (gO X0 hx 17 22 rfl (D 11 rfl) (by decide) ht)))))) ?_
  exact OFin.retB X0 hx hlk (t := .byte) (by simp) hret (D 12 rfl) (by decide) (by decide) (by rw [e0]; exact ⟨(by show some (Value.int (nar .byte (((128 : Int32) + (p0 &&& (127 : Int32))).toInt8.toInt32))) = _; rw [own_nby_t hc1]), N0, rfl⟩)
 ·refine OFin.of (S' := s₁.setTop (mkF m 22 #[.val (.int p0), .val (.int (p0 &&& (127 : Int32)))] [(.int ((p0 &&& (127 : Int32)).toInt8.toInt32))])) (fun t ht => cY X0 hx 8 20 rfl (D 6 rfl) rfl (flt hc1).2.1 (by decide) (iN X0 hx (D 13 rfl) rfl (XS.i2b X0.here hx rfl (D 14 rfl) rfl ht))) ?_
  exact OFin.retB X0 hx hlk (t := .byte) (by simp) hret (D 12 rfl) (by decide) (by decide) (by rw [e0]; exact ⟨(by show some (Value.int (nar .byte ((p0 &&& (127 : Int32)).toInt8.toInt32))) = _; rw [own_nby_f hc1]), N0, rfl⟩)
theorem efNch {m : MethodId} {p0 : Int32} : entryFrame m #[(.int p0)] 2 = mkF m 0 #[.val (.int p0), .unset] [] := by first | (simp [entryFrame, mkF, argsToLocals, Value.category]; done) | rfl
def QNch (Z : State) (p0 : Int32) (h0 : Heap) (n0 : Nat) (v : Option Value) (h : Heap) (L : List Loc) : Prop := v = some (.int (own_nch p0)) ∧ Fr n0 L ∧ h = h0
theorem rmNch (l : Launch) (Z : State) (a0 : Array Value) (hw : HW a0 Z) (ws : List Jvm.Cond) (p0 : Int32) (h0 : Heap) (n0 : Nat) (Z0 : n0 ≤ h0.size)  :
  Con l mn21 (Jvm.Cond.code mn21 method_6_code 2 (some .char)) ws (⟨0, 0, 0, 0⟩ : Jvm.Room) #[(.int p0)] Z h0 (QNch Z p0 h0 n0) := by
 refine own_of (plainFor_of_name pn_4) hisR dl_method_6 ?_
 intro p e s m below meth c s₁ hx D hlk hret hml hZ hown hnm X0 e0
 replace hown : s.vm.findClass cC = some m.cls := hown
 have N0 := Fr.nil n0
 rw [efNch]
 refine OFin.of (S' := s₁.setTop (mkF m 8 #[.val (.int p0), .val (.int (p0 &&& (127 : Int32)))] [(.int 64), (.int (p0 &&& (127 : Int32)))])) (fun t ht => iN X0 hx (D 0 rfl) rfl (bP X0 hx (D 1 rfl) (XS.iand X0.here hx rfl (D 2 rfl) rfl (XS.istoreN X0.here hx rfl (D 3 rfl) rfl (l' := #[.val (.int p0), .val (.int (p0 &&& (127 : Int32)))]) rfl (iN X0 hx (D 4 rfl) rfl (bP X0 hx (D 5 rfl) ht)))))) ?_
 by_cases hc1 : (p0 &&& (127 : Int32)) < 64
 ·refine OFin.of (S' := s₁.setTop (mkF m 18 #[.val (.int p0), .val (.int (p0 &&& (127 : Int32)))] [(.int 65533)])) (fun t ht => cN X0 hx (D 6 rfl) rfl (tlt hc1).2.1 (X0.ldcInt hx hown (mvT hZ (wt hw 257 rfl)) (g := (mkF m 11 #[.val (.int p0), .val (.int (p0 &&& (127 : Int32)))] [])) rfl (D 7 rfl) _ (gO X0 hx 13 18 rfl (D 8 rfl) (by decide) ht))) ?_
  exact OFin.retB X0 hx hlk (t := .char) (by simp) hret (D 9 rfl) (by decide) (by decide) (by rw [e0]; exact ⟨(by show some (Value.int 65533) = _; exact congrArg (fun x => some (Value.int x)) (if_pos hc1).symm), N0, rfl⟩)
 ·refine OFin.of (S' := s₁.setTop (mkF m 18 #[.val (.int p0), .val (.int (p0 &&& (127 : Int32)))] [(.int ((p0 &&& (127 : Int32)).toUInt32.toUInt16.toUInt32.toInt32))])) (fun t ht => cY X0 hx 8 16 rfl (D 6 rfl) rfl (flt hc1).2.1 (by decide) (iN X0 hx (D 10 rfl) rfl (XS.i2c X0.here hx rfl (D 11 rfl) rfl ht))) ?_
  exact OFin.retB X0 hx hlk (t := .char) (by simp) hret (D 9 rfl) (by decide) (by decide) (by rw [e0]; exact ⟨(by show some (Value.int (nar .char ((p0 &&& (127 : Int32)).toUInt32.toUInt16.toUInt32.toInt32))) = _; exact congrArg (fun x => some (Value.int x)) (if_neg hc1).symm), N0, rfl⟩)
theorem efTbb {m : MethodId} {p0 : Int32} : entryFrame m #[(.int p0)] 1 = mkF m 0 #[.val (.int p0)] [] := by first | (simp [entryFrame, mkF, argsToLocals, Value.category]; done) | rfl
def QTbb (Z : State) (p0 : Int32) (h0 : Heap) (n0 : Nat) (v : Option Value) (h : Heap) (L : List Loc) : Prop := v = some (.int (own_tb p0)) ∧ Fr n0 L ∧ h = h0
theorem rmTbb (l : Launch) (Z : State) (a0 : Array Value) (hw : HW a0 Z) (ws : List Jvm.Cond) (p0 : Int32) (h0 : Heap) (n0 : Nat) (Z0 : n0 ≤ h0.size)  :
  Con l mn22 (Jvm.Cond.code mn22 method_7_code 1 (some .byte)) ws (⟨0, 0, 0, 0⟩ : Jvm.Room) #[(.int p0)] Z h0 (QTbb Z p0 h0 n0) := by
 refine own_of (plainFor_of_name pn_4) hisR dl_method_7 ?_
 intro p e s m below meth c s₁ hx D hlk hret hml hZ hown hnm X0 e0
 replace hown : s.vm.findClass cC = some m.cls := hown
 have N0 := Fr.nil n0
 rw [efTbb]
 refine OFin.of (S' := s₁.setTop (mkF m 1 #[.val (.int p0)] [(.int p0)])) (fun t ht => iN X0 hx (D 0 rfl) rfl ht) ?_
 by_cases hc1 : p0 = 0
 ·refine OFin.of (S' := s₁.setTop (mkF m 6 #[.val (.int p0)] [(.int 32)])) (fun t ht => fN X0 hx (D 1 rfl) rfl ((if0 _ _).trans (teq hc1).2) (bP X0 hx (D 2 rfl) ht)) ?_
  exact OFin.retB X0 hx hlk (t := .byte) (by simp) hret (D 3 rfl) (by decide) (by decide) (by rw [e0]; exact ⟨(by show some (Value.int 32) = _; simp [own_tb, hc1]), N0, rfl⟩)
 ·refine OFin.of (S' := s₁.setTop (mkF m 9 #[.val (.int p0)] [(.int 1), (.int p0)])) (fun t ht => fY X0 hx 1 7 rfl (D 1 rfl) rfl ((if0 _ _).trans (feq hc1).2) (by decide) (iN X0 hx (D 4 rfl) rfl (iC X0 hx (D 5 rfl) ht))) ?_
  by_cases hc2 : p0 = 1
  ·refine OFin.of (S' := s₁.setTop (mkF m 14 #[.val (.int p0)] [(.int 9)])) (fun t ht => cN X0 hx (D 6 rfl) rfl (teq hc2).2 (bP X0 hx (D 7 rfl) ht)) ?_
   exact OFin.retB X0 hx hlk (t := .byte) (by simp) hret (D 8 rfl) (by decide) (by decide) (by rw [e0]; exact ⟨(by show some (Value.int 9) = _; simp [own_tb, hc1, hc2]), N0, rfl⟩)
  ·refine OFin.of (S' := s₁.setTop (mkF m 17 #[.val (.int p0)] [(.int 2), (.int p0)])) (fun t ht => cY X0 hx 9 15 rfl (D 6 rfl) rfl (feq hc2).2 (by decide) (iN X0 hx (D 9 rfl) rfl (iC X0 hx (D 10 rfl) ht))) ?_
   by_cases hc3 : p0 = 2
   ·refine OFin.of (S' := s₁.setTop (mkF m 22 #[.val (.int p0)] [(.int 10)])) (fun t ht => cN X0 hx (D 11 rfl) rfl (teq hc3).2 (bP X0 hx (D 12 rfl) ht)) ?_
    exact OFin.retB X0 hx hlk (t := .byte) (by simp) hret (D 13 rfl) (by decide) (by decide) (by rw [e0]; exact ⟨(by show some (Value.int 10) = _; simp [own_tb, hc1, hc2, hc3]), N0, rfl⟩)
   ·refine OFin.of (S' := s₁.setTop (mkF m 25 #[.val (.int p0)] [(.int 3), (.int p0)])) (fun t ht => cY X0 hx 17 23 rfl (D 11 rfl) rfl (feq hc3).2 (by decide) (iN X0 hx (D 14 rfl) rfl (iC X0 hx (D 15 rfl) ht))) ?_
    by_cases hc4 : p0 = 3
    ·refine OFin.of (S' := s₁.setTop (mkF m 30 #[.val (.int p0)] [(.int 13)])) (fun t ht => cN X0 hx (D 16 rfl) rfl (teq hc4).2 (bP X0 hx (D 17 rfl) ht)) ?_
     exact OFin.retB X0 hx hlk (t := .byte) (by simp) hret (D 18 rfl) (by decide) (by decide) (by rw [e0]; exact ⟨(by show some (Value.int 13) = _; simp [own_tb, hc1, hc2, hc3, hc4]), N0, rfl⟩)
    ·refine OFin.of (S' := s₁.setTop (mkF m 33 #[.val (.int p0)] [(.int 4), (.int p0)])) (fun t ht => cY X0 hx 25 31 rfl (D 16 rfl) rfl (feq hc4).2 (by decide) (iN X0 hx (D 19 rfl) rfl (iC X0 hx (D 20 rfl) ht))) ?_
     by_cases hc5 : p0 = 4
     ·refine OFin.of (S' := s₁.setTop (mkF m 38 #[.val (.int p0)] [(.int 61)])) (fun t ht => cN X0 hx (D 21 rfl) rfl (teq hc5).2 (bP X0 hx (D 22 rfl) ht)) ?_
      exact OFin.retB X0 hx hlk (t := .byte) (by simp) hret (D 23 rfl) (by decide) (by decide) (by rw [e0]; exact ⟨(by show some (Value.int 61) = _; simp [own_tb, hc1, hc2, hc3, hc4, hc5]), N0, rfl⟩)
     ·refine OFin.of (S' := s₁.setTop (mkF m 41 #[.val (.int p0)] [(.int 5), (.int p0)])) (fun t ht => cY X0 hx 33 39 rfl (D 21 rfl) rfl (feq hc5).2 (by decide) (iN X0 hx (D 24 rfl) rfl (iC X0 hx (D 25 rfl) ht))) ?_
      by_cases hc6 : p0 = 5
      ·refine OFin.of (S' := s₁.setTop (mkF m 46 #[.val (.int p0)] [(.int 47)])) (fun t ht => cN X0 hx (D 26 rfl) rfl (teq hc6).2 (bP X0 hx (D 27 rfl) ht)) ?_
       exact OFin.retB X0 hx hlk (t := .byte) (by simp) hret (D 28 rfl) (by decide) (by decide) (by rw [e0]; exact ⟨(by show some (Value.int 47) = _; simp [own_tb, hc1, hc2, hc3, hc4, hc5, hc6]), N0, rfl⟩)
      ·refine OFin.of (S' := s₁.setTop (mkF m 49 #[.val (.int p0)] [(.int 62)])) (fun t ht => cY X0 hx 41 47 rfl (D 26 rfl) rfl (feq hc6).2 (by decide) (bP X0 hx (D 29 rfl) ht)) ?_
       exact OFin.retB X0 hx hlk (t := .byte) (by simp) hret (D 30 rfl) (by decide) (by decide) (by rw [e0]; exact ⟨(by show some (Value.int 62) = _; simp [own_tb, hc1, hc2, hc3, hc4, hc5, hc6]), N0, rfl⟩)
theorem efKdR {m : MethodId} {a0 : Addr} : entryFrame m #[(.ref a0)] 1 = mkF m 0 #[.val (.ref a0)] [] := by first | (simp [entryFrame, mkF, argsToLocals, Value.category]; done) | rfl
def QKdR (Z : State) (a0 vk : Addr) (h0 : Heap) (n0 : Nat) (v : Option Value) (h : Heap) (L : List Loc) : Prop := v = some (.ref vk) ∧ Fr n0 L ∧ h = h0
theorem rmKdR (l : Launch) (Z : State) (a0 : Array Value) (hw : HW a0 Z) (ws : List Jvm.Cond) (a0 vk : Addr) (h0 : Heap) (n0 : Nat) (Z0 : n0 ≤ h0.size) (Fk : Fld Z h0 a0 cA "kind" cF (.ref vk)) :
  Con l mn23 (Jvm.Cond.code mn23 prog_7_method_4_code 1 (some (.object cH))) ws (⟨0, 0, 0, 0⟩ : Jvm.Room) #[(.ref a0)] Z h0 (QKdR Z a0 vk h0 n0) := by
 refine own_of (plainFor_of_name pn_0) hisR dl_prog_7_4 ?_
 intro p e s m below meth c s₁ hx D hlk hret hml hZ hown hnm X0 e0
 replace hown : s.vm.findClass cA = some m.cls := hown
 have N0 := Fr.nil n0
 rw [efKdR]
 obtain ⟨T1, X1, e1, st1⟩ := getF X0 hx hZ hown (host := "") (Or.inl (wt hw 69 rfl)) Via.refl e0 Fk (g := (mkF m 1 #[.val (.ref a0)] [(.ref a0)])) rfl rfl (D 1 rfl)
 refine OFin.of (fun t ht => aN X0 hx (D 0 rfl) rfl rfl (st1 t ht)) ?_
 exact OFin.retA X1 hx hlk (t := (.object cH)) rfl rfl hret (D 2 rfl) (by decide) (by decide) (by rw [e1]; exact ⟨rfl, N0, rfl⟩)
theorem efKdN {m : MethodId} {a0 : Addr} : entryFrame m #[(.ref a0)] 1 = mkF m 0 #[.val (.ref a0)] [] := by first | (simp [entryFrame, mkF, argsToLocals, Value.category]; done) | rfl
def QKdN (Z : State) (a0 : Addr) (h0 : Heap) (n0 : Nat) (v : Option Value) (h : Heap) (L : List Loc) : Prop := v = some .null ∧ Fr n0 L ∧ h = h0
theorem rmKdN (l : Launch) (Z : State) (a0 : Array Value) (hw : HW a0 Z) (ws : List Jvm.Cond) (a0 : Addr) (h0 : Heap) (n0 : Nat) (Z0 : n0 ≤ h0.size) (Fk : Fld Z h0 a0 cA "kind" cF .null) :
  Con l mn23 (Jvm.Cond.code mn23 prog_7_method_4_code 1 (some (.object cH))) ws (⟨0, 0, 0, 0⟩ : Jvm.Room) #[(.ref a0)] Z h0 (QKdN Z a0 h0 n0) := by
 refine own_of (plainFor_of_name pn_0) hisR dl_prog_7_4 ?_
 intro p e s m below meth c s₁ hx D hlk hret hml hZ hown hnm X0 e0
 replace hown : s.vm.findClass cA = some m.cls := hown
 have N0 := Fr.nil n0
 rw [efKdN]
 obtain ⟨T1, X1, e1, st1⟩ := getF X0 hx hZ hown (host := "") (Or.inl (wt hw 69 rfl)) Via.refl e0 Fk (g := (mkF m 1 #[.val (.ref a0)] [(.ref a0)])) rfl rfl (D 1 rfl)
 refine OFin.of (fun t ht => aN X0 hx (D 0 rfl) rfl rfl (st1 t ht)) ?_
 exact OFin.retA X1 hx hlk (t := (.object cH)) rfl rfl hret (D 2 rfl) (by decide) (by decide) (by rw [e1]; exact ⟨rfl, N0, rfl⟩)
theorem efPut {m : MethodId} {a0 a2 : Addr} {P0 : List Int32} {ix : Nat} : entryFrame m #[(.ref a0), (.int (oN P0.length)), (.ref a2), (.int (oN ix))] 4 = mkF m 0 #[.val (.ref a0), .val (.int (oN P0.length)), .val (.ref a2), .val (.int (oN ix))] [] := by first | (simp [entryFrame, mkF, argsToLocals, Value.category]; done) | rfl
def QPut (Z : State) (a0 a2 tv : Addr) (kv : ClassId) (ls : List Int32) (cs : Int32) (fm : Value) (kt : ClassId) (nt : Int32) (P0 : List Int32) (ix : Nat) (h0 : Heap) (n0 : Nat) (v : Option Value) (h : Heap) (L : List Loc) : Prop := v = none ∧ Fr n0 L ∧ Keep h0 h [a0] ∧ Txt Z h a0 kt nt (P0 ++ ls.take (ix + 1))
theorem rmPut (l : Launch) (Z : State) (a0 : Array Value) (hw : HW a0 Z) (ws : List Jvm.Cond) (a0 a2 tv : Addr) (kv : ClassId) (ls : List Int32) (cs : Int32) (fm : Value) (kt : ClassId) (nt : Int32) (P0 : List Int32) (ix : Nat) (h0 : Heap) (n0 : Nat) (Z0 : n0 ≤ h0.size) (ES : Exa Z h0 a2 cB) (Fc : Fld Z h0 a2 cB "coder" "B" (.int 0)) (Fv : Fld Z h0 a2 cB "value" "[B" (.ref tv)) (Tv : Txt Z h0 tv kv (oN ls.length) ls) (Scs : Sta Z h0 cB "COMPACT_STRINGS" "Z" (.int cs)) (hcs : ¬ cs = 0) (Sfm : Sta Z h0 cG "SIOOBE_FORMATTER" cE fm) (hfm : fm.isRef = true) (hli : OwnLit ls) (hi99 : ix < 100) (Tx : Txt Z h0 a0 kt nt (P0 ++ ls.take ix)) (g0 : n0 ≤ a0) (hne1 : a2 ≠ a0) (hne2 : tv ≠ a0) (hrm : P0.length + ls.length < nt.toNatClampNeg) (hn3 : nt.toNatClampNeg < 1000) :
  Con l mn24 (Jvm.Cond.code mn24 method_11_code 4 none) ws (⟨4, 0, 0, 55⟩ : Jvm.Room) #[(.ref a0), (.int (oN P0.length)), (.ref a2), (.int (oN ix))] Z h0 (QPut Z a0 a2 tv kv ls cs fm kt nt P0 ix h0 n0) := by
 refine own_of (plainFor_of_name pn_4) hisR dl_method_11 ?_
 intro p e s m below meth c s₁ hx D hlk hret hml hZ hown hnm X0 e0
 replace hown : s.vm.findClass cC = some m.cls := hown
 have N0 := Fr.nil n0
 rw [efPut]
 have K0 : Keep h0 h0 [a0] := Keep.refl _ _
 obtain ⟨_, T1, Lc1, X1, hQ1, st1⟩ := own_cV X0 hx hw hZ hown 18 19 21 20 6 22 rfl rfl rfl rfl rfl rfl (by decide) ES (rmLen l Z _ hw [] a2 tv kv ls cs h0 n0 Z0 ES Fc Fv Tv Scs hcs) (by decide) (by decide) (g := (mkF m 2 #[.val (.ref a0), .val (.int (oN P0.length)), .val (.ref a2), .val (.int (oN ix))] [(.ref a2), (.int (oN ix))])) rfl hml rfl (argsL := []) (rest := [(.int (oN ix))]) pd_6 rfl rfl rfl (W := 1) (nE rfl) (D 2 rfl) rfl e0 (by decide) (by decide)
 obtain ⟨rfl, Nq1, hs1⟩ := hQ1
 have N2 := Fr.app N0 Nq1
 refine OFin.of (fun t ht => iN X0 hx (D 0 rfl) rfl (aN X0 hx (D 1 rfl) rfl rfl (st1.trans ht))) ?_
 by_cases hc3 : (oN ix) < (oN ls.length)
 ·have hix := (own_natlt (by have := hli.1; omega) (by have := hli.1; omega)).mp hc3
  obtain ⟨_, T4, Lc4, X4, hQ4, st4⟩ := own_cV X1 hx hw hZ hown 142 143 145 144 6 146 rfl rfl rfl rfl rfl rfl (by decide) ES (rmChA l Z _ hw [] a2 tv kv ls cs fm ix h0 n0 Z0 ES Fc Fv Tv Scs hcs Sfm hfm hli hix) (by decide) (by decide) (g := (mkF m 14 #[.val (.ref a0), .val (.int (oN P0.length)), .val (.ref a2), .val (.int (oN ix))] [(.int (oN ix)), (.ref a2), (.int ((oN P0.length) + (oN ix))), (.ref a0)])) rfl hml rfl (argsL := [(.int (oN ix))]) (rest := [(.int ((oN P0.length) + (oN ix))), (.ref a0)]) pd_7 rfl rfl rfl (W := 2) (nE rfl) (D 10 rfl) rfl hs1 (by decide) (by decide)
  obtain ⟨rfl, Nq4, hs4⟩ := hQ4
  have N5 := Fr.app N2 Nq4
  refine OFin.of (fun t ht => cN X1 hx (D 3 rfl) rfl (tlt hc3).2.1 (aN X1 hx (D 4 rfl) rfl rfl (iN X1 hx (D 5 rfl) rfl (iN X1 hx (D 6 rfl) rfl (XS.iadd X1.here hx rfl (D 7 rfl) rfl (aN X1 hx (D 8 rfl) rfl rfl (iN X1 hx (D 9 rfl) rfl (st4.trans ht)))))))) ?_
  obtain ⟨T6, h6, X6, e6, W6, G6, st6⟩ := own_stT X4 hx hZ hs4 Tx (j := ((oN P0.length) + (oN ix))) (own_putj hix) (by rw [own_putl (Nat.le_of_lt hix)]; omega) (g := (mkF m 18 #[.val (.ref a0), .val (.int (oN P0.length)), .val (.ref a2), .val (.int (oN ix))] [(.int ((ls.getD ix 0).toInt8.toInt32)), (.int ((oN P0.length) + (oN ix))), (.ref a0)])) rfl rfl (D 12 rfl)
  have f7 := (ES.wr W6)
  have f8 := (Fc.other W6 (Or.inl hne1))
  have f9 := (Fv.other W6 (Or.inl hne1))
  have f10 := (Tv.other W6 hne2)
  have f11 := (Scs.wr W6)
  have f12 := (Sfm.wr W6)
  have Z13 := nT Z0 (Keep.of_wr W6).1
  have K14 := K0.wr W6 (Or.inl (mG (i := 0) rfl))
  have N15 := Fr.snoc X6 N5 g0
  have f16 : Txt Z h6 a0 kt nt (P0 ++ ls.take (ix + 1)) := (own_putp hix G6 (by have z := own_lget hli hix; rw [(own_ch z.1 z.2).2.1, (own_ch z.1 z.2).2.1]))
  refine OFin.of (fun t ht => XS.i2b X4.here hx rfl (D 11 rfl) rfl (st6 t ht)) ?_
  exact OFin.retV X6 hx hlk hret (D 13 rfl) (by decide) (by decide) (by rw [e6]; exact ⟨rfl, N15, K14, f16⟩)
 ·refine OFin.of (S' := T1.setTop (mkF m 19 #[.val (.ref a0), .val (.int (oN P0.length)), .val (.ref a2), .val (.int (oN ix))] [])) (fun t ht => cY X1 hx 5 19 rfl (D 3 rfl) rfl (flt hc3).2.1 (by decide) ht) ?_
  exact OFin.retV X1 hx hlk hret (D 13 rfl) (by decide) (by decide) (by rw [hs1]; exact ⟨rfl, N2, K0, (own_putn (fun z => hc3 ((own_natlt (by have := hli.1; omega) (by have := hli.1; omega)).mpr z)) Tx)⟩)
theorem efPal {m : MethodId} {a0 a2 : Addr} {P0 : List Int32} : entryFrame m #[(.ref a0), (.int (oN P0.length)), (.ref a2)] 3 = mkF m 0 #[.val (.ref a0), .val (.int (oN P0.length)), .val (.ref a2)] [] := by first | (simp [entryFrame, mkF, argsToLocals, Value.category]; done) | rfl
def QPal (Z : State) (a0 a2 tv : Addr) (kv : ClassId) (ls : List Int32) (cs : Int32) (fm : Value) (kt : ClassId) (nt : Int32) (P0 : List Int32) (h0 : Heap) (n0 : Nat) (v : Option Value) (h : Heap) (L : List Loc) : Prop := v = some (.int (oN (P0.length + ls.length))) ∧ Fr n0 L ∧ Keep h0 h [a0] ∧ Txt Z h a0 kt nt (P0 ++ ls)
theorem rmPal (l : Launch) (Z : State) (a0 : Array Value) (hw : HW a0 Z) (ws : List Jvm.Cond) (a0 a2 tv : Addr) (kv : ClassId) (ls : List Int32) (cs : Int32) (fm : Value) (kt : ClassId) (nt : Int32) (P0 : List Int32) (h0 : Heap) (n0 : Nat) (Z0 : n0 ≤ h0.size) (ES : Exa Z h0 a2 cB) (Fc : Fld Z h0 a2 cB "coder" "B" (.int 0)) (Fv : Fld Z h0 a2 cB "value" "[B" (.ref tv)) (Tv : Txt Z h0 tv kv (oN ls.length) ls) (Scs : Sta Z h0 cB "COMPACT_STRINGS" "Z" (.int cs)) (hcs : ¬ cs = 0) (Sfm : Sta Z h0 cG "SIOOBE_FORMATTER" cE fm) (hfm : fm.isRef = true) (hli : OwnLit ls) (h15 : ls.length ≤ 15) (Tx : Txt Z h0 a0 kt nt P0) (g0 : n0 ≤ a0) (hne1 : a2 ≠ a0) (hne2 : tv ≠ a0) (hrm : P0.length + ls.length < nt.toNatClampNeg) (hn3 : nt.toNatClampNeg < 1000) :
  Con l mn25 (Jvm.Cond.code mn25 method_10_code 3 (some .int)) ws (⟨5, 0, 0, 70⟩ : Jvm.Room) #[(.ref a0), (.int (oN P0.length)), (.ref a2)] Z h0 (QPal Z a0 a2 tv kv ls cs fm kt nt P0 h0 n0) := by
 refine own_of (plainFor_of_name pn_4) hisR dl_method_10 ?_
 intro p e s m below meth c s₁ hx D hlk hret hml hZ hown hnm X0 e0
 replace hown : s.vm.findClass cC = some m.cls := hown
 have N0 := Fr.nil n0
 rw [efPal]
 have K0 : Keep h0 h0 [a0] := Keep.refl _ _
 have Tx0 : Txt Z h0 a0 kt nt (P0 ++ ls.take 0) := by rw [List.take_zero, List.append_nil]; exact Tx
 obtain ⟨_, T1, Lc1, X1, hQ1, st1⟩ := own_cS X0 hx hw hZ hown 15 16 3 17 rfl rfl rfl rfl (by decide) (rmPut l Z _ hw [] a0 a2 tv kv ls cs fm kt nt P0 0 h0 n0 Z0 ES Fc Fv Tv Scs hcs Sfm hfm hli (by decide) Tx0 g0 hne1 hne2 hrm hn3) (by decide) (by decide) (g := (mkF m 4 #[.val (.ref a0), .val (.int (oN P0.length)), .val (.ref a2)] [(.int 0), (.ref a2), (.int (oN P0.length)), (.ref a0)])) rfl hml rfl (argsL := [(.ref a0), (.int (oN P0.length)), (.ref a2), (.int 0)]) (rest := []) pd_13 rfl rfl rfl (W := 0) (nE rfl) (D 4 rfl) rfl e0 (by decide) (by decide)
 obtain ⟨rfl, Nq1, Kq1, f1⟩ := hQ1
 have N2 := Fr.app N0 Nq1
 have f3 := (ES.keep Kq1)
 have f4 := (Fc.keep Kq1 (ninS hne1 nin0))
 have f5 := (Fv.keep Kq1 (ninS hne1 nin0))
 have f6 := (Tv.keep Kq1 (ninS hne2 nin0))
 have f7 := (own_staKeep Scs Kq1 (own_snT Tx0 own_sn0))
 have f8 := (own_staKeep Sfm Kq1 (own_snT Tx0 own_sn0))
 have Z9 := nT Z0 Kq1.1
 have K10 := K0.trans Kq1 (allS (Or.inl (mG (i := 0) rfl)) all0)
 refine OFin.of (fun t ht => aN X0 hx (D 0 rfl) rfl rfl (iN X0 hx (D 1 rfl) rfl (aN X0 hx (D 2 rfl) rfl rfl (iC X0 hx (D 3 rfl) (st1.trans ht))))) ?_
 obtain ⟨_, T11, Lc11, X11, hQ11, st11⟩ := own_cS X1 hx hw hZ hown 15 16 3 17 rfl rfl rfl rfl (by decide) (rmPut l Z _ hw [] a0 a2 tv kv ls cs fm kt nt P0 1 T1.heap n0 Z9 f3 f4 f5 f6 f7 hcs f8 hfm hli (by decide) f1 g0 hne1 hne2 hrm hn3) (by decide) (by decide) (g := (mkF m 11 #[.val (.ref a0), .val (.int (oN P0.length)), .val (.ref a2)] [(.int 1), (.ref a2), (.int (oN P0.length)), (.ref a0)])) rfl hml rfl (argsL := [(.ref a0), (.int (oN P0.length)), (.ref a2), (.int 1)]) (rest := []) pd_13 rfl rfl rfl (W := 0) (nE rfl) (D 9 rfl) rfl (rfl : T1.heap = T1.heap) (by decide) (by decide)
 obtain ⟨rfl, Nq11, Kq11, f11⟩ := hQ11
 have N12 := Fr.app N2 Nq11
 have f13 := (f3.keep Kq11)
 have f14 := (f4.keep Kq11 (ninS hne1 nin0))
 have f15 := (f5.keep Kq11 (ninS hne1 nin0))
 have f16 := (f6.keep Kq11 (ninS hne2 nin0))
 have f17 := (own_staKeep f7 Kq11 (own_snT f1 own_sn0))
 have f18 := (own_staKeep f8 Kq11 (own_snT f1 own_sn0))
 have Z19 := nT Z9 Kq11.1
 have K20 := K10.trans Kq11 (allS (Or.inl (mG (i := 0) rfl)) all0)
 refine OFin.of (fun t ht => aN X1 hx (D 5 rfl) rfl rfl (iN X1 hx (D 6 rfl) rfl (aN X1 hx (D 7 rfl) rfl rfl (iC X1 hx (D 8 rfl) (st11.trans ht))))) ?_
 obtain ⟨_, T21, Lc21, X21, hQ21, st21⟩ := own_cS X11 hx hw hZ hown 15 16 3 17 rfl rfl rfl rfl (by decide) (rmPut l Z _ hw [] a0 a2 tv kv ls cs fm kt nt P0 2 T11.heap n0 Z19 f13 f14 f15 f16 f17 hcs f18 hfm hli (by decide) f11 g0 hne1 hne2 hrm hn3) (by decide) (by decide) (g := (mkF m 18 #[.val (.ref a0), .val (.int (oN P0.length)), .val (.ref a2)] [(.int 2), (.ref a2), (.int (oN P0.length)), (.ref a0)])) rfl hml rfl (argsL := [(.ref a0), (.int (oN P0.length)), (.ref a2), (.int 2)]) (rest := []) pd_13 rfl rfl rfl (W := 0) (nE rfl) (D 14 rfl) rfl (rfl : T11.heap = T11.heap) (by decide) (by decide)
 obtain ⟨rfl, Nq21, Kq21, f21⟩ := hQ21
 have N22 := Fr.app N12 Nq21
 have f23 := (f13.keep Kq21)
 have f24 := (f14.keep Kq21 (ninS hne1 nin0))
 have f25 := (f15.keep Kq21 (ninS hne1 nin0))
 have f26 := (f16.keep Kq21 (ninS hne2 nin0))
 have f27 := (own_staKeep f17 Kq21 (own_snT f11 own_sn0))
 have f28 := (own_staKeep f18 Kq21 (own_snT f11 own_sn0))
 have Z29 := nT Z19 Kq21.1
 have K30 := K20.trans Kq21 (allS (Or.inl (mG (i := 0) rfl)) all0)
 refine OFin.of (fun t ht => aN X11 hx (D 10 rfl) rfl rfl (iN X11 hx (D 11 rfl) rfl (aN X11 hx (D 12 rfl) rfl rfl (iC X11 hx (D 13 rfl) (st21.trans ht))))) ?_
 obtain ⟨_, T31, Lc31, X31, hQ31, st31⟩ := own_cS X21 hx hw hZ hown 15 16 3 17 rfl rfl rfl rfl (by decide) (rmPut l Z _ hw [] a0 a2 tv kv ls cs fm kt nt P0 3 T21.heap n0 Z29 f23 f24 f25 f26 f27 hcs f28 hfm hli (by decide) f21 g0 hne1 hne2 hrm hn3) (by decide) (by decide) (g := (mkF m 25 #[.val (.ref a0), .val (.int (oN P0.length)), .val (.ref a2)] [(.int 3), (.ref a2), (.int (oN P0.length)), (.ref a0)])) rfl hml rfl (argsL := [(.ref a0), (.int (oN P0.length)), (.ref a2), (.int 3)]) (rest := []) pd_13 rfl rfl rfl (W := 0) (nE rfl) (D 19 rfl) rfl (rfl : T21.heap = T21.heap) (by decide) (by decide)
 obtain ⟨rfl, Nq31, Kq31, f31⟩ := hQ31
 have N32 := Fr.app N22 Nq31
 have f33 := (f23.keep Kq31)
 have f34 := (f24.keep Kq31 (ninS hne1 nin0))
 have f35 := (f25.keep Kq31 (ninS hne1 nin0))
 have f36 := (f26.keep Kq31 (ninS hne2 nin0))
 have f37 := (own_staKeep f27 Kq31 (own_snT f21 own_sn0))
 have f38 := (own_staKeep f28 Kq31 (own_snT f21 own_sn0))
 have Z39 := nT Z29 Kq31.1
 have K40 := K30.trans Kq31 (allS (Or.inl (mG (i := 0) rfl)) all0)
 refine OFin.of (fun t ht => aN X21 hx (D 15 rfl) rfl rfl (iN X21 hx (D 16 rfl) rfl (aN X21 hx (D 17 rfl) rfl rfl (iC X21 hx (D 18 rfl) (st31.trans ht))))) ?_
 obtain ⟨_, T41, Lc41, X41, hQ41, st41⟩ := own_cS X31 hx hw hZ hown 15 16 3 17 rfl rfl rfl rfl (by decide) (rmPut l Z _ hw [] a0 a2 tv kv ls cs fm kt nt P0 4 T31.heap n0 Z39 f33 f34 f35 f36 f37 hcs f38 hfm hli (by decide) f31 g0 hne1 hne2 hrm hn3) (by decide) (by decide) (g := (mkF m 32 #[.val (.ref a0), .val (.int (oN P0.length)), .val (.ref a2)] [(.int 4), (.ref a2), (.int (oN P0.length)), (.ref a0)])) rfl hml rfl (argsL := [(.ref a0), (.int (oN P0.length)), (.ref a2), (.int 4)]) (rest := []) pd_13 rfl rfl rfl (W := 0) (nE rfl) (D 24 rfl) rfl (rfl : T31.heap = T31.heap) (by decide) (by decide)
 obtain ⟨rfl, Nq41, Kq41, f41⟩ := hQ41
 have N42 := Fr.app N32 Nq41
 have f43 := (f33.keep Kq41)
 have f44 := (f34.keep Kq41 (ninS hne1 nin0))
 have f45 := (f35.keep Kq41 (ninS hne1 nin0))
 have f46 := (f36.keep Kq41 (ninS hne2 nin0))
 have f47 := (own_staKeep f37 Kq41 (own_snT f31 own_sn0))
 have f48 := (own_staKeep f38 Kq41 (own_snT f31 own_sn0))
 have Z49 := nT Z39 Kq41.1
 have K50 := K40.trans Kq41 (allS (Or.inl (mG (i := 0) rfl)) all0)
 refine OFin.of (fun t ht => aN X31 hx (D 20 rfl) rfl rfl (iN X31 hx (D 21 rfl) rfl (aN X31 hx (D 22 rfl) rfl rfl (iC X31 hx (D 23 rfl) (st41.trans ht))))) ?_
 obtain ⟨_, T51, Lc51, X51, hQ51, st51⟩ := own_cS X41 hx hw hZ hown 15 16 3 17 rfl rfl rfl rfl (by decide) (rmPut l Z _ hw [] a0 a2 tv kv ls cs fm kt nt P0 5 T41.heap n0 Z49 f43 f44 f45 f46 f47 hcs f48 hfm hli (by decide) f41 g0 hne1 hne2 hrm hn3) (by decide) (by decide) (g := (mkF m 39 #[.val (.ref a0), .val (.int (oN P0.length)), .val (.ref a2)] [(.int 5), (.ref a2), (.int (oN P0.length)), (.ref a0)])) rfl hml rfl (argsL := [(.ref a0), (.int (oN P0.length)), (.ref a2), (.int 5)]) (rest := []) pd_13 rfl rfl rfl (W := 0) (nE rfl) (D 29 rfl) rfl (rfl : T41.heap = T41.heap) (by decide) (by decide)
 obtain ⟨rfl, Nq51, Kq51, f51⟩ := hQ51
 have N52 := Fr.app N42 Nq51
 have f53 := (f43.keep Kq51)
 have f54 := (f44.keep Kq51 (ninS hne1 nin0))
 have f55 := (f45.keep Kq51 (ninS hne1 nin0))
 have f56 := (f46.keep Kq51 (ninS hne2 nin0))
 have f57 := (own_staKeep f47 Kq51 (own_snT f41 own_sn0))
 have f58 := (own_staKeep f48 Kq51 (own_snT f41 own_sn0))
 have Z59 := nT Z49 Kq51.1
 have K60 := K50.trans Kq51 (allS (Or.inl (mG (i := 0) rfl)) all0)
 refine OFin.of (fun t ht => aN X41 hx (D 25 rfl) rfl rfl (iN X41 hx (D 26 rfl) rfl (aN X41 hx (D 27 rfl) rfl rfl (iC X41 hx (D 28 rfl) (st51.trans ht))))) ?_
 obtain ⟨_, T61, Lc61, X61, hQ61, st61⟩ := own_cS X51 hx hw hZ hown 15 16 3 17 rfl rfl rfl rfl (by decide) (rmPut l Z _ hw [] a0 a2 tv kv ls cs fm kt nt P0 6 T51.heap n0 Z59 f53 f54 f55 f56 f57 hcs f58 hfm hli (by decide) f51 g0 hne1 hne2 hrm hn3) (by decide) (by decide) (g := (mkF m 47 #[.val (.ref a0), .val (.int (oN P0.length)), .val (.ref a2)] [(.int 6), (.ref a2), (.int (oN P0.length)), (.ref a0)])) rfl hml rfl (argsL := [(.ref a0), (.int (oN P0.length)), (.ref a2), (.int 6)]) (rest := []) pd_13 rfl rfl rfl (W := 0) (nE rfl) (D 34 rfl) rfl (rfl : T51.heap = T51.heap) (by decide) (by decide)
 obtain ⟨rfl, Nq61, Kq61, f61⟩ := hQ61
 have N62 := Fr.app N52 Nq61
 have f63 := (f53.keep Kq61)
 have f64 := (f54.keep Kq61 (ninS hne1 nin0))
 have f65 := (f55.keep Kq61 (ninS hne1 nin0))
 have f66 := (f56.keep Kq61 (ninS hne2 nin0))
 have f67 := (own_staKeep f57 Kq61 (own_snT f51 own_sn0))
 have f68 := (own_staKeep f58 Kq61 (own_snT f51 own_sn0))
 have Z69 := nT Z59 Kq61.1
 have K70 := K60.trans Kq61 (allS (Or.inl (mG (i := 0) rfl)) all0)
 refine OFin.of (fun t ht => aN X51 hx (D 30 rfl) rfl rfl (iN X51 hx (D 31 rfl) rfl (aN X51 hx (D 32 rfl) rfl rfl (bP X51 hx (D 33 rfl) (st61.trans ht))))) ?_
 obtain ⟨_, T71, Lc71, X71, hQ71, st71⟩ := own_cS X61 hx hw hZ hown 15 16 3 17 rfl rfl rfl rfl (by decide) (rmPut l Z _ hw [] a0 a2 tv kv ls cs fm kt nt P0 7 T61.heap n0 Z69 f63 f64 f65 f66 f67 hcs f68 hfm hli (by decide) f61 g0 hne1 hne2 hrm hn3) (by decide) (by decide) (g := (mkF m 55 #[.val (.ref a0), .val (.int (oN P0.length)), .val (.ref a2)] [(.int 7), (.ref a2), (.int (oN P0.length)), (.ref a0)])) rfl hml rfl (argsL := [(.ref a0), (.int (oN P0.length)), (.ref a2), (.int 7)]) (rest := []) pd_13 rfl rfl rfl (W := 0) (nE rfl) (D 39 rfl) rfl (rfl : T61.heap = T61.heap) (by decide) (by decide)
 obtain ⟨rfl, Nq71, Kq71, f71⟩ := hQ71
 have N72 := Fr.app N62 Nq71
 have f73 := (f63.keep Kq71)
 have f74 := (f64.keep Kq71 (ninS hne1 nin0))
 have f75 := (f65.keep Kq71 (ninS hne1 nin0))
 have f76 := (f66.keep Kq71 (ninS hne2 nin0))
 have f77 := (own_staKeep f67 Kq71 (own_snT f61 own_sn0))
 have f78 := (own_staKeep f68 Kq71 (own_snT f61 own_sn0))
 have Z79 := nT Z69 Kq71.1
 have K80 := K70.trans Kq71 (allS (Or.inl (mG (i := 0) rfl)) all0)
 refine OFin.of (fun t ht => aN X61 hx (D 35 rfl) rfl rfl (iN X61 hx (D 36 rfl) rfl (aN X61 hx (D 37 rfl) rfl rfl (bP X61 hx (D 38 rfl) (st71.trans ht))))) ?_
 obtain ⟨_, T81, Lc81, X81, hQ81, st81⟩ := own_cS X71 hx hw hZ hown 15 16 3 17 rfl rfl rfl rfl (by decide) (rmPut l Z _ hw [] a0 a2 tv kv ls cs fm kt nt P0 8 T71.heap n0 Z79 f73 f74 f75 f76 f77 hcs f78 hfm hli (by decide) f71 g0 hne1 hne2 hrm hn3) (by decide) (by decide) (g := (mkF m 63 #[.val (.ref a0), .val (.int (oN P0.length)), .val (.ref a2)] [(.int 8), (.ref a2), (.int (oN P0.length)), (.ref a0)])) rfl hml rfl (argsL := [(.ref a0), (.int (oN P0.length)), (.ref a2), (.int 8)]) (rest := []) pd_13 rfl rfl rfl (W := 0) (nE rfl) (D 44 rfl) rfl (rfl : T71.heap = T71.heap) (by decide) (by decide)
 obtain ⟨rfl, Nq81, Kq81, f81⟩ := hQ81
 have N82 := Fr.app N72 Nq81
 have f83 := (f73.keep Kq81)
 have f84 := (f74.keep Kq81 (ninS hne1 nin0))
 have f85 := (f75.keep Kq81 (ninS hne1 nin0))
 have f86 := (f76.keep Kq81 (ninS hne2 nin0))
 have f87 := (own_staKeep f77 Kq81 (own_snT f71 own_sn0))
 have f88 := (own_staKeep f78 Kq81 (own_snT f71 own_sn0))
 have Z89 := nT Z79 Kq81.1
 have K90 := K80.trans Kq81 (allS (Or.inl (mG (i := 0) rfl)) all0)
 refine OFin.of (fun t ht => aN X71 hx (D 40 rfl) rfl rfl (iN X71 hx (D 41 rfl) rfl (aN X71 hx (D 42 rfl) rfl rfl (bP X71 hx (D 43 rfl) (st81.trans ht))))) ?_
 obtain ⟨_, T91, Lc91, X91, hQ91, st91⟩ := own_cS X81 hx hw hZ hown 15 16 3 17 rfl rfl rfl rfl (by decide) (rmPut l Z _ hw [] a0 a2 tv kv ls cs fm kt nt P0 9 T81.heap n0 Z89 f83 f84 f85 f86 f87 hcs f88 hfm hli (by decide) f81 g0 hne1 hne2 hrm hn3) (by decide) (by decide) (g := (mkF m 71 #[.val (.ref a0), .val (.int (oN P0.length)), .val (.ref a2)] [(.int 9), (.ref a2), (.int (oN P0.length)), (.ref a0)])) rfl hml rfl (argsL := [(.ref a0), (.int (oN P0.length)), (.ref a2), (.int 9)]) (rest := []) pd_13 rfl rfl rfl (W := 0) (nE rfl) (D 49 rfl) rfl (rfl : T81.heap = T81.heap) (by decide) (by decide)
 obtain ⟨rfl, Nq91, Kq91, f91⟩ := hQ91
 have N92 := Fr.app N82 Nq91
 have f93 := (f83.keep Kq91)
 have f94 := (f84.keep Kq91 (ninS hne1 nin0))
 have f95 := (f85.keep Kq91 (ninS hne1 nin0))
 have f96 := (f86.keep Kq91 (ninS hne2 nin0))
 have f97 := (own_staKeep f87 Kq91 (own_snT f81 own_sn0))
 have f98 := (own_staKeep f88 Kq91 (own_snT f81 own_sn0))
 have Z99 := nT Z89 Kq91.1
 have K100 := K90.trans Kq91 (allS (Or.inl (mG (i := 0) rfl)) all0)
 refine OFin.of (fun t ht => aN X81 hx (D 45 rfl) rfl rfl (iN X81 hx (D 46 rfl) rfl (aN X81 hx (D 47 rfl) rfl rfl (bP X81 hx (D 48 rfl) (st91.trans ht))))) ?_
 obtain ⟨_, T101, Lc101, X101, hQ101, st101⟩ := own_cS X91 hx hw hZ hown 15 16 3 17 rfl rfl rfl rfl (by decide) (rmPut l Z _ hw [] a0 a2 tv kv ls cs fm kt nt P0 10 T91.heap n0 Z99 f93 f94 f95 f96 f97 hcs f98 hfm hli (by decide) f91 g0 hne1 hne2 hrm hn3) (by decide) (by decide) (g := (mkF m 79 #[.val (.ref a0), .val (.int (oN P0.length)), .val (.ref a2)] [(.int 10), (.ref a2), (.int (oN P0.length)), (.ref a0)])) rfl hml rfl (argsL := [(.ref a0), (.int (oN P0.length)), (.ref a2), (.int 10)]) (rest := []) pd_13 rfl rfl rfl (W := 0) (nE rfl) (D 54 rfl) rfl (rfl : T91.heap = T91.heap) (by decide) (by decide)
 obtain ⟨rfl, Nq101, Kq101, f101⟩ := hQ101
 have N102 := Fr.app N92 Nq101
 have f103 := (f93.keep Kq101)
 have f104 := (f94.keep Kq101 (ninS hne1 nin0))
 have f105 := (f95.keep Kq101 (ninS hne1 nin0))
 have f106 := (f96.keep Kq101 (ninS hne2 nin0))
 have f107 := (own_staKeep f97 Kq101 (own_snT f91 own_sn0))
 have f108 := (own_staKeep f98 Kq101 (own_snT f91 own_sn0))
 have Z109 := nT Z99 Kq101.1
 have K110 := K100.trans Kq101 (allS (Or.inl (mG (i := 0) rfl)) all0)
 refine OFin.of (fun t ht => aN X91 hx (D 50 rfl) rfl rfl (iN X91 hx (D 51 rfl) rfl (aN X91 hx (D 52 rfl) rfl rfl (bP X91 hx (D 53 rfl) (st101.trans ht))))) ?_
 obtain ⟨_, T111, Lc111, X111, hQ111, st111⟩ := own_cS X101 hx hw hZ hown 15 16 3 17 rfl rfl rfl rfl (by decide) (rmPut l Z _ hw [] a0 a2 tv kv ls cs fm kt nt P0 11 T101.heap n0 Z109 f103 f104 f105 f106 f107 hcs f108 hfm hli (by decide) f101 g0 hne1 hne2 hrm hn3) (by decide) (by decide) (g := (mkF m 87 #[.val (.ref a0), .val (.int (oN P0.length)), .val (.ref a2)] [(.int 11), (.ref a2), (.int (oN P0.length)), (.ref a0)])) rfl hml rfl (argsL := [(.ref a0), (.int (oN P0.length)), (.ref a2), (.int 11)]) (rest := []) pd_13 rfl rfl rfl (W := 0) (nE rfl) (D 59 rfl) rfl (rfl : T101.heap = T101.heap) (by decide) (by decide)
 obtain ⟨rfl, Nq111, Kq111, f111⟩ := hQ111
 have N112 := Fr.app N102 Nq111
 have f113 := (f103.keep Kq111)
 have f114 := (f104.keep Kq111 (ninS hne1 nin0))
 have f115 := (f105.keep Kq111 (ninS hne1 nin0))
 have f116 := (f106.keep Kq111 (ninS hne2 nin0))
 have f117 := (own_staKeep f107 Kq111 (own_snT f101 own_sn0))
 have f118 := (own_staKeep f108 Kq111 (own_snT f101 own_sn0))
 have Z119 := nT Z109 Kq111.1
 have K120 := K110.trans Kq111 (allS (Or.inl (mG (i := 0) rfl)) all0)
 refine OFin.of (fun t ht => aN X101 hx (D 55 rfl) rfl rfl (iN X101 hx (D 56 rfl) rfl (aN X101 hx (D 57 rfl) rfl rfl (bP X101 hx (D 58 rfl) (st111.trans ht))))) ?_
 obtain ⟨_, T121, Lc121, X121, hQ121, st121⟩ := own_cS X111 hx hw hZ hown 15 16 3 17 rfl rfl rfl rfl (by decide) (rmPut l Z _ hw [] a0 a2 tv kv ls cs fm kt nt P0 12 T111.heap n0 Z119 f113 f114 f115 f116 f117 hcs f118 hfm hli (by decide) f111 g0 hne1 hne2 hrm hn3) (by decide) (by decide) (g := (mkF m 95 #[.val (.ref a0), .val (.int (oN P0.length)), .val (.ref a2)] [(.int 12), (.ref a2), (.int (oN P0.length)), (.ref a0)])) rfl hml rfl (argsL := [(.ref a0), (.int (oN P0.length)), (.ref a2), (.int 12)]) (rest := []) pd_13 rfl rfl rfl (W := 0) (nE rfl) (D 64 rfl) rfl (rfl : T111.heap = T111.heap) (by decide) (by decide)
 obtain ⟨rfl, Nq121, Kq121, f121⟩ := hQ121
 have N122 := Fr.app N112 Nq121
 have f123 := (f113.keep Kq121)
 have f124 := (f114.keep Kq121 (ninS hne1 nin0))
 have f125 := (f115.keep Kq121 (ninS hne1 nin0))
 have f126 := (f116.keep Kq121 (ninS hne2 nin0))
 have f127 := (own_staKeep f117 Kq121 (own_snT f111 own_sn0))
 have f128 := (own_staKeep f118 Kq121 (own_snT f111 own_sn0))
 have Z129 := nT Z119 Kq121.1
 have K130 := K120.trans Kq121 (allS (Or.inl (mG (i := 0) rfl)) all0)
 refine OFin.of (fun t ht => aN X111 hx (D 60 rfl) rfl rfl (iN X111 hx (D 61 rfl) rfl (aN X111 hx (D 62 rfl) rfl rfl (bP X111 hx (D 63 rfl) (st121.trans ht))))) ?_
 obtain ⟨_, T131, Lc131, X131, hQ131, st131⟩ := own_cS X121 hx hw hZ hown 15 16 3 17 rfl rfl rfl rfl (by decide) (rmPut l Z _ hw [] a0 a2 tv kv ls cs fm kt nt P0 13 T121.heap n0 Z129 f123 f124 f125 f126 f127 hcs f128 hfm hli (by decide) f121 g0 hne1 hne2 hrm hn3) (by decide) (by decide) (g := (mkF m 103 #[.val (.ref a0), .val (.int (oN P0.length)), .val (.ref a2)] [(.int 13), (.ref a2), (.int (oN P0.length)), (.ref a0)])) rfl hml rfl (argsL := [(.ref a0), (.int (oN P0.length)), (.ref a2), (.int 13)]) (rest := []) pd_13 rfl rfl rfl (W := 0) (nE rfl) (D 69 rfl) rfl (rfl : T121.heap = T121.heap) (by decide) (by decide)
 obtain ⟨rfl, Nq131, Kq131, f131⟩ := hQ131
 have N132 := Fr.app N122 Nq131
 have f133 := (f123.keep Kq131)
 have f134 := (f124.keep Kq131 (ninS hne1 nin0))
 have f135 := (f125.keep Kq131 (ninS hne1 nin0))
 have f136 := (f126.keep Kq131 (ninS hne2 nin0))
 have f137 := (own_staKeep f127 Kq131 (own_snT f121 own_sn0))
 have f138 := (own_staKeep f128 Kq131 (own_snT f121 own_sn0))
 have Z139 := nT Z129 Kq131.1
 have K140 := K130.trans Kq131 (allS (Or.inl (mG (i := 0) rfl)) all0)
 refine OFin.of (fun t ht => aN X121 hx (D 65 rfl) rfl rfl (iN X121 hx (D 66 rfl) rfl (aN X121 hx (D 67 rfl) rfl rfl (bP X121 hx (D 68 rfl) (st131.trans ht))))) ?_
 obtain ⟨_, T141, Lc141, X141, hQ141, st141⟩ := own_cS X131 hx hw hZ hown 15 16 3 17 rfl rfl rfl rfl (by decide) (rmPut l Z _ hw [] a0 a2 tv kv ls cs fm kt nt P0 14 T131.heap n0 Z139 f133 f134 f135 f136 f137 hcs f138 hfm hli (by decide) f131 g0 hne1 hne2 hrm hn3) (by decide) (by decide) (g := (mkF m 111 #[.val (.ref a0), .val (.int (oN P0.length)), .val (.ref a2)] [(.int 14), (.ref a2), (.int (oN P0.length)), (.ref a0)])) rfl hml rfl (argsL := [(.ref a0), (.int (oN P0.length)), (.ref a2), (.int 14)]) (rest := []) pd_13 rfl rfl rfl (W := 0) (nE rfl) (D 74 rfl) rfl (rfl : T131.heap = T131.heap) (by decide) (by decide)
 obtain ⟨rfl, Nq141, Kq141, f141⟩ := hQ141
 have N142 := Fr.app N132 Nq141
 have f143 := (f133.keep Kq141)
 have f144 := (f134.keep Kq141 (ninS hne1 nin0))
 have f145 := (f135.keep Kq141 (ninS hne1 nin0))
 have f146 := (f136.keep Kq141 (ninS hne2 nin0))
 have f147 := (own_staKeep f137 Kq141 (own_snT f131 own_sn0))
 have f148 := (own_staKeep f138 Kq141 (own_snT f131 own_sn0))
 have Z149 := nT Z139 Kq141.1
 have K150 := K140.trans Kq141 (allS (Or.inl (mG (i := 0) rfl)) all0)
 refine OFin.of (fun t ht => aN X131 hx (D 70 rfl) rfl rfl (iN X131 hx (D 71 rfl) rfl (aN X131 hx (D 72 rfl) rfl rfl (bP X131 hx (D 73 rfl) (st141.trans ht))))) ?_
 obtain ⟨_, T151, Lc151, X151, hQ151, st151⟩ := own_cV X141 hx hw hZ hown 18 19 21 20 6 22 rfl rfl rfl rfl rfl rfl (by decide) f143 (rmLen l Z _ hw [] a2 tv kv ls cs T141.heap n0 Z149 f143 f144 f145 f146 f147 hcs) (by decide) (by decide) (g := (mkF m 116 #[.val (.ref a0), .val (.int (oN P0.length)), .val (.ref a2)] [(.ref a2), (.int (oN P0.length))])) rfl hml rfl (argsL := []) (rest := [(.int (oN P0.length))]) pd_6 rfl rfl rfl (W := 1) (nE rfl) (D 77 rfl) rfl (rfl : T141.heap = T141.heap) (by decide) (by decide)
 obtain ⟨rfl, Nq151, hs151⟩ := hQ151
 have N152 := Fr.app N142 Nq151
 refine OFin.of (fun t ht => iN X141 hx (D 75 rfl) rfl (aN X141 hx (D 76 rfl) rfl rfl (st151.trans ht))) ?_
 refine OFin.of (S' := T151.setTop (mkF m 120 #[.val (.ref a0), .val (.int (oN P0.length)), .val (.ref a2)] [(.int ((oN P0.length) + (oN ls.length)))])) (fun t ht => XS.iadd X151.here hx rfl (D 78 rfl) rfl ht) ?_
 exact OFin.retI X151 hx hlk hret (D 79 rfl) (by decide) (by decide) (by rw [hs151]; exact ⟨(by rw [own_addn]), N152, K150, (by have z := f141; rw [List.take_of_length_le h15] at z; exact z)⟩)
def own_pfx (p : Int32) : List Int32 := if p = 2 then [60, 33, 45, 45, 62, 60, 45, 45, 62] else if p = 3 then [60, 33, 91, 67, 68, 65, 84, 65, 91, 62, 60, 93, 93, 62] else if p = 4 then [60, 33, 97, 39, 62, 60, 39, 62] else if p = 5 then [60, 33, 97, 34, 62, 60, 34, 62] else if p = 6 then [60, 33, 91, 62, 60, 93, 62] else if p = 7 then [60, 33, 91, 60, 33, 45, 45, 93, 62, 60, 45, 45, 62, 93, 62] else if p = 8 then [60, 33, 91, 60, 63, 93, 62, 60, 63, 62, 93, 62] else if p = 9 then [60, 33, 97, 93, 91, 62, 60, 93, 62] else if p = 10 then [60, 33, 91, 39, 93, 62, 60, 39, 93, 62] else if p = 11 then [60, 33, 91, 67, 68, 65, 84, 62, 60, 93, 62] else []
theorem efPfx {m : MethodId} {p0 : Int32} : entryFrame m #[(.int p0)] 1 = mkF m 0 #[.val (.int p0)] [] := by first | (simp [entryFrame, mkF, argsToLocals, Value.category]; done) | rfl
def QPfx (Z : State) (p0 : Int32) (h0 : Heap) (n0 : Nat) (v : Option Value) (h : Heap) (L : List Loc) : Prop := ∃ (a tv : Addr) (kv : ClassId), v = some (.ref a) ∧ Fr n0 L ∧ Keep h0 h [] ∧ Exa Z h a cB ∧ Fld Z h a cB "coder" "B" (.int 0) ∧ Fld Z h a cB "value" "[B" (.ref tv) ∧ Txt Z h tv kv (oN (own_pfx p0).length) (own_pfx p0)
theorem rmPfx (l : Launch) (Z : State) (a0 : Array Value) (hw : HW a0 Z) (ws : List Jvm.Cond) (p0 : Int32) (h0 : Heap) (n0 : Nat) (Z0 : n0 ≤ h0.size)  :
  ConH consts_1 l mn26 (Jvm.Cond.code mn26 method_8_code 1 (some (.object cB))) ws (⟨0, 2, 64, 0⟩ : Jvm.Room) #[(.int p0)] Z h0 (QPfx Z p0 h0 n0) := by
 refine own_ofH (plainFor_of_name pn_4) hisR dl_method_8 ?_
 intro p e s m below meth c s₁ hx D hlk hret hml hZ hown hnm X0 e0 hh hC0
 replace hown : s.vm.findClass cC = some m.cls := hown
 have N0 := Fr.nil n0
 have hR0 : CHr Z consts_1 s.vm h0 s.vm h0 := CHr.refl hC0
 have hEL := own_EW hw
 rw [efPfx]
 have K0 : Keep h0 h0 [] := Keep.refl _ _
 refine OFin.of (S' := s₁.setTop (mkF m 2 #[.val (.int p0)] [(.int 2), (.int p0)])) (fun t ht => iN X0 hx (D 0 rfl) rfl (iC X0 hx (D 1 rfl) ht)) ?_
 by_cases hc1 : p0 = 2
 ·obtain ⟨al2, T2, h2, k2, lv2, c2, X2, e2, E2, S2, K2, hZ2, hown2, Ax2, Fc2, Fv2, Va2, -, -, CH2, -, nx2, st2⟩ := ldcCH (s := s) (vm0 := s.vm) X0 hx hZ hown (wt hw 275 rfl) (own_strAtoms hw) e0 ((State.WarmedH.refl s).since h0.size) (Nat.le_refl _) hEL (mG (i := 6) rfl) hR0.1 (vs := [(.int 60), (.int 33), (.int 45), (.int 45), (.int 62), (.int 60), (.int 45), (.int 45), (.int 62)]) (z := (9 : Int32)) ⟨by decide, rfl⟩ (by decide) (by decide) (g := (mkF m 5 #[.val (.int p0)] [])) rfl (D 3 rfl) (n := 36) (by decide) (by decide) (by decide) (by decide)
  have hA3 := CH2
  have hR4 := hR0.trans hA3
  have Z5 := nT Z0 E2.1
  have K6 := K0.ext E2
  refine OFin.of (fun t ht => cN X0 hx (D 2 rfl) rfl (teq hc1).2 (st2 t ht)) ?_
  have rH7 : CHr Z consts_1 s.vm s.heap T2.vm T2.heap := by rw [hh, e2]; exact hR4.trans (CHv.at (s := s) (vm0 := T2.vm) X2 hZ2 hEL hR4.1)
  exact own_retAH (s := s) (vm₁ := T2.vm) X2 S2 (by rw [e2]; exact K2) rH7 hx hlk (t := (.object cB)) rfl rfl hret (D 4 rfl) (by decide) (by decide) (by rw [e2]; exact ⟨al2, lv2, c2, rfl, N0, K6, Ax2, Fc2, Fv2, own_eqT (B := [60, 33, 45, 45, 62, 60, 45, 45, 62]) (by simp [own_pfx, hc1]) ⟨[60, 33, 45, 45, 62, 60, 45, 45, 62], Va2, rfl, rfl⟩⟩)
 ·refine OFin.of (S' := s₁.setTop (mkF m 10 #[.val (.int p0)] [(.int 3), (.int p0)])) (fun t ht => cY X0 hx 2 8 rfl (D 2 rfl) rfl (feq hc1).2 (by decide) (iN X0 hx (D 5 rfl) rfl (iC X0 hx (D 6 rfl) ht))) ?_
  by_cases hc8 : p0 = 3
  ·obtain ⟨al9, T9, h9, k9, lv9, c9, X9, e9, E9, S9, K9, hZ9, hown9, Ax9, Fc9, Fv9, Va9, -, -, CH9, -, nx9, st9⟩ := ldcCH (s := s) (vm0 := s.vm) X0 hx hZ hown (wt hw 188 rfl) (own_strAtoms hw) e0 ((State.WarmedH.refl s).since h0.size) (Nat.le_refl _) hEL (mG (i := 7) rfl) hR0.1 (vs := [(.int 60), (.int 33), (.int 91), (.int 67), (.int 68), (.int 65), (.int 84), (.int 65), (.int 91), (.int 62), (.int 60), (.int 93), (.int 93), (.int 62)]) (z := (14 : Int32)) ⟨by decide, rfl⟩ (by decide) (by decide) (g := (mkF m 13 #[.val (.int p0)] [])) rfl (D 8 rfl) (n := 56) (by decide) (by decide) (by decide) (by decide)
   have hA10 := CH9
   have hR11 := hR0.trans hA10
   have Z12 := nT Z0 E9.1
   have K13 := K0.ext E9
   refine OFin.of (fun t ht => cN X0 hx (D 7 rfl) rfl (teq hc8).2 (st9 t ht)) ?_
   have rH14 : CHr Z consts_1 s.vm s.heap T9.vm T9.heap := by rw [hh, e9]; exact hR11.trans (CHv.at (s := s) (vm0 := T9.vm) X9 hZ9 hEL hR11.1)
   exact own_retAH (s := s) (vm₁ := T9.vm) X9 S9 (by rw [e9]; exact K9) rH14 hx hlk (t := (.object cB)) rfl rfl hret (D 9 rfl) (by decide) (by decide) (by rw [e9]; exact ⟨al9, lv9, c9, rfl, N0, K13, Ax9, Fc9, Fv9, own_eqT (B := [60, 33, 91, 67, 68, 65, 84, 65, 91, 62, 60, 93, 93, 62]) (by simp [own_pfx, hc1, hc8]) ⟨[60, 33, 91, 67, 68, 65, 84, 65, 91, 62, 60, 93, 93, 62], Va9, rfl, rfl⟩⟩)
  ·refine OFin.of (S' := s₁.setTop (mkF m 18 #[.val (.int p0)] [(.int 4), (.int p0)])) (fun t ht => cY X0 hx 10 16 rfl (D 7 rfl) rfl (feq hc8).2 (by decide) (iN X0 hx (D 10 rfl) rfl (iC X0 hx (D 11 rfl) ht))) ?_
   by_cases hc15 : p0 = 4
   ·obtain ⟨al16, T16, h16, k16, lv16, c16, X16, e16, E16, S16, K16, hZ16, hown16, Ax16, Fc16, Fv16, Va16, -, -, CH16, -, nx16, st16⟩ := ldcCH (s := s) (vm0 := s.vm) X0 hx hZ hown (wt hw 272 rfl) (own_strAtoms hw) e0 ((State.WarmedH.refl s).since h0.size) (Nat.le_refl _) hEL (mG (i := 8) rfl) hR0.1 (vs := [(.int 60), (.int 33), (.int 97), (.int 39), (.int 62), (.int 60), (.int 39), (.int 62)]) (z := (8 : Int32)) ⟨by decide, rfl⟩ (by decide) (by decide) (g := (mkF m 21 #[.val (.int p0)] [])) rfl (D 13 rfl) (n := 32) (by decide) (by decide) (by decide) (by decide)
    have hA17 := CH16
    have hR18 := hR0.trans hA17
    have Z19 := nT Z0 E16.1
    have K20 := K0.ext E16
    refine OFin.of (fun t ht => cN X0 hx (D 12 rfl) rfl (teq hc15).2 (st16 t ht)) ?_
    have rH21 : CHr Z consts_1 s.vm s.heap T16.vm T16.heap := by rw [hh, e16]; exact hR18.trans (CHv.at (s := s) (vm0 := T16.vm) X16 hZ16 hEL hR18.1)
    exact own_retAH (s := s) (vm₁ := T16.vm) X16 S16 (by rw [e16]; exact K16) rH21 hx hlk (t := (.object cB)) rfl rfl hret (D 14 rfl) (by decide) (by decide) (by rw [e16]; exact ⟨al16, lv16, c16, rfl, N0, K20, Ax16, Fc16, Fv16, own_eqT (B := [60, 33, 97, 39, 62, 60, 39, 62]) (by simp [own_pfx, hc1, hc8, hc15]) ⟨[60, 33, 97, 39, 62, 60, 39, 62], Va16, rfl, rfl⟩⟩)
   ·refine OFin.of (S' := s₁.setTop (mkF m 26 #[.val (.int p0)] [(.int 5), (.int p0)])) (fun t ht => cY X0 hx 18 24 rfl (D 12 rfl) rfl (feq hc15).2 (by decide) (iN X0 hx (D 15 rfl) rfl (iC X0 hx (D 16 rfl) ht))) ?_
    by_cases hc22 : p0 = 5
    ·obtain ⟨al23, T23, h23, k23, lv23, c23, X23, e23, E23, S23, K23, hZ23, hown23, Ax23, Fc23, Fv23, Va23, -, -, CH23, -, nx23, st23⟩ := ldcCH (s := s) (vm0 := s.vm) X0 hx hZ hown (wt hw 190 rfl) (own_strAtoms hw) e0 ((State.WarmedH.refl s).since h0.size) (Nat.le_refl _) hEL (mG (i := 9) rfl) hR0.1 (vs := [(.int 60), (.int 33), (.int 97), (.int 34), (.int 62), (.int 60), (.int 34), (.int 62)]) (z := (8 : Int32)) ⟨by decide, rfl⟩ (by decide) (by decide) (g := (mkF m 29 #[.val (.int p0)] [])) rfl (D 18 rfl) (n := 32) (by decide) (by decide) (by decide) (by decide)
     have hA24 := CH23
     have hR25 := hR0.trans hA24
     have Z26 := nT Z0 E23.1
     have K27 := K0.ext E23
     refine OFin.of (fun t ht => cN X0 hx (D 17 rfl) rfl (teq hc22).2 (st23 t ht)) ?_
     have rH28 : CHr Z consts_1 s.vm s.heap T23.vm T23.heap := by rw [hh, e23]; exact hR25.trans (CHv.at (s := s) (vm0 := T23.vm) X23 hZ23 hEL hR25.1)
     exact own_retAH (s := s) (vm₁ := T23.vm) X23 S23 (by rw [e23]; exact K23) rH28 hx hlk (t := (.object cB)) rfl rfl hret (D 19 rfl) (by decide) (by decide) (by rw [e23]; exact ⟨al23, lv23, c23, rfl, N0, K27, Ax23, Fc23, Fv23, own_eqT (B := [60, 33, 97, 34, 62, 60, 34, 62]) (by simp [own_pfx, hc1, hc8, hc15, hc22]) ⟨[60, 33, 97, 34, 62, 60, 34, 62], Va23, rfl, rfl⟩⟩)
    ·refine OFin.of (S' := s₁.setTop (mkF m 35 #[.val (.int p0)] [(.int 6), (.int p0)])) (fun t ht => cY X0 hx 26 32 rfl (D 17 rfl) rfl (feq hc22).2 (by decide) (iN X0 hx (D 20 rfl) rfl (bP X0 hx (D 21 rfl) ht))) ?_
     by_cases hc29 : p0 = 6
     ·obtain ⟨al30, T30, h30, k30, lv30, c30, X30, e30, E30, S30, K30, hZ30, hown30, Ax30, Fc30, Fv30, Va30, -, -, CH30, -, nx30, st30⟩ := ldcCH (s := s) (vm0 := s.vm) X0 hx hZ hown (wt hw 141 rfl) (own_strAtoms hw) e0 ((State.WarmedH.refl s).since h0.size) (Nat.le_refl _) hEL (mG (i := 10) rfl) hR0.1 (vs := [(.int 60), (.int 33), (.int 91), (.int 62), (.int 60), (.int 93), (.int 62)]) (z := (7 : Int32)) ⟨by decide, rfl⟩ (by decide) (by decide) (g := (mkF m 38 #[.val (.int p0)] [])) rfl (D 23 rfl) (n := 28) (by decide) (by decide) (by decide) (by decide)
      have hA31 := CH30
      have hR32 := hR0.trans hA31
      have Z33 := nT Z0 E30.1
      have K34 := K0.ext E30
      refine OFin.of (fun t ht => cN X0 hx (D 22 rfl) rfl (teq hc29).2 (st30 t ht)) ?_
      have rH35 : CHr Z consts_1 s.vm s.heap T30.vm T30.heap := by rw [hh, e30]; exact hR32.trans (CHv.at (s := s) (vm0 := T30.vm) X30 hZ30 hEL hR32.1)
      exact own_retAH (s := s) (vm₁ := T30.vm) X30 S30 (by rw [e30]; exact K30) rH35 hx hlk (t := (.object cB)) rfl rfl hret (D 24 rfl) (by decide) (by decide) (by rw [e30]; exact ⟨al30, lv30, c30, rfl, N0, K34, Ax30, Fc30, Fv30, own_eqT (B := [60, 33, 91, 62, 60, 93, 62]) (by simp [own_pfx, hc1, hc8, hc15, hc22, hc29]) ⟨[60, 33, 91, 62, 60, 93, 62], Va30, rfl, rfl⟩⟩)
     ·refine OFin.of (S' := s₁.setTop (mkF m 44 #[.val (.int p0)] [(.int 7), (.int p0)])) (fun t ht => cY X0 hx 35 41 rfl (D 22 rfl) rfl (feq hc29).2 (by decide) (iN X0 hx (D 25 rfl) rfl (bP X0 hx (D 26 rfl) ht))) ?_
      by_cases hc36 : p0 = 7
      ·obtain ⟨al37, T37, h37, k37, lv37, c37, X37, e37, E37, S37, K37, hZ37, hown37, Ax37, Fc37, Fv37, Va37, -, -, CH37, -, nx37, st37⟩ := ldcCH (s := s) (vm0 := s.vm) X0 hx hZ hown (wt hw 276 rfl) (own_strAtoms hw) e0 ((State.WarmedH.refl s).since h0.size) (Nat.le_refl _) hEL (mG (i := 11) rfl) hR0.1 (vs := [(.int 60), (.int 33), (.int 91), (.int 60), (.int 33), (.int 45), (.int 45), (.int 93), (.int 62), (.int 60), (.int 45), (.int 45), (.int 62), (.int 93), (.int 62)]) (z := (15 : Int32)) ⟨by decide, rfl⟩ (by decide) (by decide) (g := (mkF m 47 #[.val (.int p0)] [])) rfl (D 28 rfl) (n := 60) (by decide) (by decide) (by decide) (by decide)
       have hA38 := CH37
       have hR39 := hR0.trans hA38
       have Z40 := nT Z0 E37.1
       have K41 := K0.ext E37
       refine OFin.of (fun t ht => cN X0 hx (D 27 rfl) rfl (teq hc36).2 (st37 t ht)) ?_
       have rH42 : CHr Z consts_1 s.vm s.heap T37.vm T37.heap := by rw [hh, e37]; exact hR39.trans (CHv.at (s := s) (vm0 := T37.vm) X37 hZ37 hEL hR39.1)
       exact own_retAH (s := s) (vm₁ := T37.vm) X37 S37 (by rw [e37]; exact K37) rH42 hx hlk (t := (.object cB)) rfl rfl hret (D 29 rfl) (by decide) (by decide) (by rw [e37]; exact ⟨al37, lv37, c37, rfl, N0, K41, Ax37, Fc37, Fv37, own_eqT (B := [60, 33, 91, 60, 33, 45, 45, 93, 62, 60, 45, 45, 62, 93, 62]) (by simp [own_pfx, hc1, hc8, hc15, hc22, hc29, hc36]) ⟨[60, 33, 91, 60, 33, 45, 45, 93, 62, 60, 45, 45, 62, 93, 62], Va37, rfl, rfl⟩⟩)
      ·refine OFin.of (S' := s₁.setTop (mkF m 53 #[.val (.int p0)] [(.int 8), (.int p0)])) (fun t ht => cY X0 hx 44 50 rfl (D 27 rfl) rfl (feq hc36).2 (by decide) (iN X0 hx (D 30 rfl) rfl (bP X0 hx (D 31 rfl) ht))) ?_
       by_cases hc43 : p0 = 8
       ·obtain ⟨al44, T44, h44, k44, lv44, c44, X44, e44, E44, S44, K44, hZ44, hown44, Ax44, Fc44, Fv44, Va44, -, -, CH44, -, nx44, st44⟩ := ldcCH (s := s) (vm0 := s.vm) X0 hx hZ hown (wt hw 273 rfl) (own_strAtoms hw) e0 ((State.WarmedH.refl s).since h0.size) (Nat.le_refl _) hEL (mG (i := 12) rfl) hR0.1 (vs := [(.int 60), (.int 33), (.int 91), (.int 60), (.int 63), (.int 93), (.int 62), (.int 60), (.int 63), (.int 62), (.int 93), (.int 62)]) (z := (12 : Int32)) ⟨by decide, rfl⟩ (by decide) (by decide) (g := (mkF m 56 #[.val (.int p0)] [])) rfl (D 33 rfl) (n := 48) (by decide) (by decide) (by decide) (by decide)
        have hA45 := CH44
        have hR46 := hR0.trans hA45
        have Z47 := nT Z0 E44.1
        have K48 := K0.ext E44
        refine OFin.of (fun t ht => cN X0 hx (D 32 rfl) rfl (teq hc43).2 (st44 t ht)) ?_
        have rH49 : CHr Z consts_1 s.vm s.heap T44.vm T44.heap := by rw [hh, e44]; exact hR46.trans (CHv.at (s := s) (vm0 := T44.vm) X44 hZ44 hEL hR46.1)
        exact own_retAH (s := s) (vm₁ := T44.vm) X44 S44 (by rw [e44]; exact K44) rH49 hx hlk (t := (.object cB)) rfl rfl hret (D 34 rfl) (by decide) (by decide) (by rw [e44]; exact ⟨al44, lv44, c44, rfl, N0, K48, Ax44, Fc44, Fv44, own_eqT (B := [60, 33, 91, 60, 63, 93, 62, 60, 63, 62, 93, 62]) (by simp [own_pfx, hc1, hc8, hc15, hc22, hc29, hc36, hc43]) ⟨[60, 33, 91, 60, 63, 93, 62, 60, 63, 62, 93, 62], Va44, rfl, rfl⟩⟩)
       ·refine OFin.of (S' := s₁.setTop (mkF m 62 #[.val (.int p0)] [(.int 9), (.int p0)])) (fun t ht => cY X0 hx 53 59 rfl (D 32 rfl) rfl (feq hc43).2 (by decide) (iN X0 hx (D 35 rfl) rfl (bP X0 hx (D 36 rfl) ht))) ?_
        by_cases hc50 : p0 = 9
        ·obtain ⟨al51, T51, h51, k51, lv51, c51, X51, e51, E51, S51, K51, hZ51, hown51, Ax51, Fc51, Fv51, Va51, -, -, CH51, -, nx51, st51⟩ := ldcCH (s := s) (vm0 := s.vm) X0 hx hZ hown (wt hw 279 rfl) (own_strAtoms hw) e0 ((State.WarmedH.refl s).since h0.size) (Nat.le_refl _) hEL (mG (i := 13) rfl) hR0.1 (vs := [(.int 60), (.int 33), (.int 97), (.int 93), (.int 91), (.int 62), (.int 60), (.int 93), (.int 62)]) (z := (9 : Int32)) ⟨by decide, rfl⟩ (by decide) (by decide) (g := (mkF m 65 #[.val (.int p0)] [])) rfl (D 38 rfl) (n := 36) (by decide) (by decide) (by decide) (by decide)
         have hA52 := CH51
         have hR53 := hR0.trans hA52
         have Z54 := nT Z0 E51.1
         have K55 := K0.ext E51
         refine OFin.of (fun t ht => cN X0 hx (D 37 rfl) rfl (teq hc50).2 (st51 t ht)) ?_
         have rH56 : CHr Z consts_1 s.vm s.heap T51.vm T51.heap := by rw [hh, e51]; exact hR53.trans (CHv.at (s := s) (vm0 := T51.vm) X51 hZ51 hEL hR53.1)
         exact own_retAH (s := s) (vm₁ := T51.vm) X51 S51 (by rw [e51]; exact K51) rH56 hx hlk (t := (.object cB)) rfl rfl hret (D 39 rfl) (by decide) (by decide) (by rw [e51]; exact ⟨al51, lv51, c51, rfl, N0, K55, Ax51, Fc51, Fv51, own_eqT (B := [60, 33, 97, 93, 91, 62, 60, 93, 62]) (by simp [own_pfx, hc1, hc8, hc15, hc22, hc29, hc36, hc43, hc50]) ⟨[60, 33, 97, 93, 91, 62, 60, 93, 62], Va51, rfl, rfl⟩⟩)
        ·refine OFin.of (S' := s₁.setTop (mkF m 71 #[.val (.int p0)] [(.int 10), (.int p0)])) (fun t ht => cY X0 hx 62 68 rfl (D 37 rfl) rfl (feq hc50).2 (by decide) (iN X0 hx (D 40 rfl) rfl (bP X0 hx (D 41 rfl) ht))) ?_
         by_cases hc57 : p0 = 10
         ·obtain ⟨al58, T58, h58, k58, lv58, c58, X58, e58, E58, S58, K58, hZ58, hown58, Ax58, Fc58, Fv58, Va58, -, -, CH58, -, nx58, st58⟩ := ldcCH (s := s) (vm0 := s.vm) X0 hx hZ hown (wt hw 274 rfl) (own_strAtoms hw) e0 ((State.WarmedH.refl s).since h0.size) (Nat.le_refl _) hEL (mG (i := 14) rfl) hR0.1 (vs := [(.int 60), (.int 33), (.int 91), (.int 39), (.int 93), (.int 62), (.int 60), (.int 39), (.int 93), (.int 62)]) (z := (10 : Int32)) ⟨by decide, rfl⟩ (by decide) (by decide) (g := (mkF m 74 #[.val (.int p0)] [])) rfl (D 43 rfl) (n := 40) (by decide) (by decide) (by decide) (by decide)
          have hA59 := CH58
          have hR60 := hR0.trans hA59
          have Z61 := nT Z0 E58.1
          have K62 := K0.ext E58
          refine OFin.of (fun t ht => cN X0 hx (D 42 rfl) rfl (teq hc57).2 (st58 t ht)) ?_
          have rH63 : CHr Z consts_1 s.vm s.heap T58.vm T58.heap := by rw [hh, e58]; exact hR60.trans (CHv.at (s := s) (vm0 := T58.vm) X58 hZ58 hEL hR60.1)
          exact own_retAH (s := s) (vm₁ := T58.vm) X58 S58 (by rw [e58]; exact K58) rH63 hx hlk (t := (.object cB)) rfl rfl hret (D 44 rfl) (by decide) (by decide) (by rw [e58]; exact ⟨al58, lv58, c58, rfl, N0, K62, Ax58, Fc58, Fv58, own_eqT (B := [60, 33, 91, 39, 93, 62, 60, 39, 93, 62]) (by simp [own_pfx, hc1, hc8, hc15, hc22, hc29, hc36, hc43, hc50, hc57]) ⟨[60, 33, 91, 39, 93, 62, 60, 39, 93, 62], Va58, rfl, rfl⟩⟩)
         ·refine OFin.of (S' := s₁.setTop (mkF m 80 #[.val (.int p0)] [(.int 11), (.int p0)])) (fun t ht => cY X0 hx 71 77 rfl (D 42 rfl) rfl (feq hc57).2 (by decide) (iN X0 hx (D 45 rfl) rfl (bP X0 hx (D 46 rfl) ht))) ?_
          by_cases hc64 : p0 = 11
          ·obtain ⟨al65, T65, h65, k65, lv65, c65, X65, e65, E65, S65, K65, hZ65, hown65, Ax65, Fc65, Fv65, Va65, -, -, CH65, -, nx65, st65⟩ := ldcCH (s := s) (vm0 := s.vm) X0 hx hZ hown (wt hw 278 rfl) (own_strAtoms hw) e0 ((State.WarmedH.refl s).since h0.size) (Nat.le_refl _) hEL (mG (i := 15) rfl) hR0.1 (vs := [(.int 60), (.int 33), (.int 91), (.int 67), (.int 68), (.int 65), (.int 84), (.int 62), (.int 60), (.int 93), (.int 62)]) (z := (11 : Int32)) ⟨by decide, rfl⟩ (by decide) (by decide) (g := (mkF m 83 #[.val (.int p0)] [])) rfl (D 48 rfl) (n := 44) (by decide) (by decide) (by decide) (by decide)
           have hA66 := CH65
           have hR67 := hR0.trans hA66
           have Z68 := nT Z0 E65.1
           have K69 := K0.ext E65
           refine OFin.of (fun t ht => cN X0 hx (D 47 rfl) rfl (teq hc64).2 (st65 t ht)) ?_
           have rH70 : CHr Z consts_1 s.vm s.heap T65.vm T65.heap := by rw [hh, e65]; exact hR67.trans (CHv.at (s := s) (vm0 := T65.vm) X65 hZ65 hEL hR67.1)
           exact own_retAH (s := s) (vm₁ := T65.vm) X65 S65 (by rw [e65]; exact K65) rH70 hx hlk (t := (.object cB)) rfl rfl hret (D 49 rfl) (by decide) (by decide) (by rw [e65]; exact ⟨al65, lv65, c65, rfl, N0, K69, Ax65, Fc65, Fv65, own_eqT (B := [60, 33, 91, 67, 68, 65, 84, 62, 60, 93, 62]) (by simp [own_pfx, hc1, hc8, hc15, hc22, hc29, hc36, hc43, hc50, hc57, hc64]) ⟨[60, 33, 91, 67, 68, 65, 84, 62, 60, 93, 62], Va65, rfl, rfl⟩⟩)
          ·obtain ⟨al71, T71, h71, k71, lv71, c71, X71, e71, E71, S71, K71, hZ71, hown71, Ax71, Fc71, Fv71, Va71, -, -, CH71, -, nx71, st71⟩ := ldcCH (s := s) (vm0 := s.vm) X0 hx hZ hown (wt hw 5 rfl) (own_strAtoms hw) e0 ((State.WarmedH.refl s).since h0.size) (Nat.le_refl _) hEL (mG (i := 16) rfl) hR0.1 (vs := []) (z := (0 : Int32)) ⟨by decide, rfl⟩ (by decide) (by decide) (g := (mkF m 86 #[.val (.int p0)] [])) rfl (D 50 rfl) (n := 0) (by decide) (by decide) (by decide) (by decide)
           have hA72 := CH71
           have hR73 := hR0.trans hA72
           have Z74 := nT Z0 E71.1
           have K75 := K0.ext E71
           refine OFin.of (fun t ht => cY X0 hx 80 86 rfl (D 47 rfl) rfl (feq hc64).2 (by decide) (st71 t ht)) ?_
           have rH76 : CHr Z consts_1 s.vm s.heap T71.vm T71.heap := by rw [hh, e71]; exact hR73.trans (CHv.at (s := s) (vm0 := T71.vm) X71 hZ71 hEL hR73.1)
           exact own_retAH (s := s) (vm₁ := T71.vm) X71 S71 (by rw [e71]; exact K71) rH76 hx hlk (t := (.object cB)) rfl rfl hret (D 51 rfl) (by decide) (by decide) (by rw [e71]; exact ⟨al71, lv71, c71, rfl, N0, K75, Ax71, Fc71, Fv71, own_eqT (B := []) (by simp [own_pfx, hc1, hc8, hc15, hc22, hc29, hc36, hc43, hc50, hc57, hc64]) ⟨[], Va71, rfl, rfl⟩⟩)
def own_unf (p : Int32) : List Int32 := if p = 0 then [60, 33, 45, 45, 60, 97, 62] else if p = 1 then [60, 33, 91, 67, 68, 65, 84, 65, 91, 60, 97, 62] else if p = 2 then [60, 33, 97, 39, 60, 97, 62] else [60, 33, 91, 60, 97, 62]
theorem efUnf {m : MethodId} {p0 : Int32} : entryFrame m #[(.int p0)] 1 = mkF m 0 #[.val (.int p0)] [] := by first | (simp [entryFrame, mkF, argsToLocals, Value.category]; done) | rfl
def QUnf (Z : State) (p0 : Int32) (h0 : Heap) (n0 : Nat) (v : Option Value) (h : Heap) (L : List Loc) : Prop := ∃ (a tv : Addr) (kv : ClassId), v = some (.ref a) ∧ Fr n0 L ∧ Keep h0 h [] ∧ Exa Z h a cB ∧ Fld Z h a cB "coder" "B" (.int 0) ∧ Fld Z h a cB "value" "[B" (.ref tv) ∧ Txt Z h tv kv (oN (own_unf p0).length) (own_unf p0)
theorem rmUnf (l : Launch) (Z : State) (a0 : Array Value) (hw : HW a0 Z) (ws : List Jvm.Cond) (p0 : Int32) (h0 : Heap) (n0 : Nat) (Z0 : n0 ≤ h0.size)  :
  ConH consts_1 l mn27 (Jvm.Cond.code mn27 method_9_code 1 (some (.object cB))) ws (⟨0, 2, 52, 0⟩ : Jvm.Room) #[(.int p0)] Z h0 (QUnf Z p0 h0 n0) := by
 refine own_ofH (plainFor_of_name pn_4) hisR dl_method_9 ?_
 intro p e s m below meth c s₁ hx D hlk hret hml hZ hown hnm X0 e0 hh hC0
 replace hown : s.vm.findClass cC = some m.cls := hown
 have N0 := Fr.nil n0
 have hR0 : CHr Z consts_1 s.vm h0 s.vm h0 := CHr.refl hC0
 have hEL := own_EW hw
 rw [efUnf]
 have K0 : Keep h0 h0 [] := Keep.refl _ _
 refine OFin.of (S' := s₁.setTop (mkF m 1 #[.val (.int p0)] [(.int p0)])) (fun t ht => iN X0 hx (D 0 rfl) rfl ht) ?_
 by_cases hc1 : p0 = 0
 ·obtain ⟨al2, T2, h2, k2, lv2, c2, X2, e2, E2, S2, K2, hZ2, hown2, Ax2, Fc2, Fv2, Va2, -, -, CH2, -, nx2, st2⟩ := ldcCH (s := s) (vm0 := s.vm) X0 hx hZ hown (wt hw 165 rfl) (own_strAtoms hw) e0 ((State.WarmedH.refl s).since h0.size) (Nat.le_refl _) hEL (mG (i := 17) rfl) hR0.1 (vs := [(.int 60), (.int 33), (.int 45), (.int 45), (.int 60), (.int 97), (.int 62)]) (z := (7 : Int32)) ⟨by decide, rfl⟩ (by decide) (by decide) (g := (mkF m 4 #[.val (.int p0)] [])) rfl (D 2 rfl) (n := 28) (by decide) (by decide) (by decide) (by decide)
  have hA3 := CH2
  have hR4 := hR0.trans hA3
  have Z5 := nT Z0 E2.1
  have K6 := K0.ext E2
  refine OFin.of (fun t ht => fN X0 hx (D 1 rfl) rfl ((if0 _ _).trans (teq hc1).2) (st2 t ht)) ?_
  have rH7 : CHr Z consts_1 s.vm s.heap T2.vm T2.heap := by rw [hh, e2]; exact hR4.trans (CHv.at (s := s) (vm0 := T2.vm) X2 hZ2 hEL hR4.1)
  exact own_retAH (s := s) (vm₁ := T2.vm) X2 S2 (by rw [e2]; exact K2) rH7 hx hlk (t := (.object cB)) rfl rfl hret (D 3 rfl) (by decide) (by decide) (by rw [e2]; exact ⟨al2, lv2, c2, rfl, N0, K6, Ax2, Fc2, Fv2, own_eqT (B := [60, 33, 45, 45, 60, 97, 62]) (by simp [own_unf, hc1]) ⟨[60, 33, 45, 45, 60, 97, 62], Va2, rfl, rfl⟩⟩)
 ·refine OFin.of (S' := s₁.setTop (mkF m 9 #[.val (.int p0)] [(.int 1), (.int p0)])) (fun t ht => fY X0 hx 1 7 rfl (D 1 rfl) rfl ((if0 _ _).trans (feq hc1).2) (by decide) (iN X0 hx (D 4 rfl) rfl (iC X0 hx (D 5 rfl) ht))) ?_
  by_cases hc8 : p0 = 1
  ·obtain ⟨al9, T9, h9, k9, lv9, c9, X9, e9, E9, S9, K9, hZ9, hown9, Ax9, Fc9, Fv9, Va9, -, -, CH9, -, nx9, st9⟩ := ldcCH (s := s) (vm0 := s.vm) X0 hx hZ hown (wt hw 280 rfl) (own_strAtoms hw) e0 ((State.WarmedH.refl s).since h0.size) (Nat.le_refl _) hEL (mG (i := 18) rfl) hR0.1 (vs := [(.int 60), (.int 33), (.int 91), (.int 67), (.int 68), (.int 65), (.int 84), (.int 65), (.int 91), (.int 60), (.int 97), (.int 62)]) (z := (12 : Int32)) ⟨by decide, rfl⟩ (by decide) (by decide) (g := (mkF m 12 #[.val (.int p0)] [])) rfl (D 7 rfl) (n := 48) (by decide) (by decide) (by decide) (by decide)
   have hA10 := CH9
   have hR11 := hR0.trans hA10
   have Z12 := nT Z0 E9.1
   have K13 := K0.ext E9
   refine OFin.of (fun t ht => cN X0 hx (D 6 rfl) rfl (teq hc8).2 (st9 t ht)) ?_
   have rH14 : CHr Z consts_1 s.vm s.heap T9.vm T9.heap := by rw [hh, e9]; exact hR11.trans (CHv.at (s := s) (vm0 := T9.vm) X9 hZ9 hEL hR11.1)
   exact own_retAH (s := s) (vm₁ := T9.vm) X9 S9 (by rw [e9]; exact K9) rH14 hx hlk (t := (.object cB)) rfl rfl hret (D 8 rfl) (by decide) (by decide) (by rw [e9]; exact ⟨al9, lv9, c9, rfl, N0, K13, Ax9, Fc9, Fv9, own_eqT (B := [60, 33, 91, 67, 68, 65, 84, 65, 91, 60, 97, 62]) (by simp [own_unf, hc1, hc8]) ⟨[60, 33, 91, 67, 68, 65, 84, 65, 91, 60, 97, 62], Va9, rfl, rfl⟩⟩)
  ·refine OFin.of (S' := s₁.setTop (mkF m 17 #[.val (.int p0)] [(.int 2), (.int p0)])) (fun t ht => cY X0 hx 9 15 rfl (D 6 rfl) rfl (feq hc8).2 (by decide) (iN X0 hx (D 9 rfl) rfl (iC X0 hx (D 10 rfl) ht))) ?_
   by_cases hc15 : p0 = 2
   ·obtain ⟨al16, T16, h16, k16, lv16, c16, X16, e16, E16, S16, K16, hZ16, hown16, Ax16, Fc16, Fv16, Va16, -, -, CH16, -, nx16, st16⟩ := ldcCH (s := s) (vm0 := s.vm) X0 hx hZ hown (wt hw 281 rfl) (own_strAtoms hw) e0 ((State.WarmedH.refl s).since h0.size) (Nat.le_refl _) hEL (mG (i := 19) rfl) hR0.1 (vs := [(.int 60), (.int 33), (.int 97), (.int 39), (.int 60), (.int 97), (.int 62)]) (z := (7 : Int32)) ⟨by decide, rfl⟩ (by decide) (by decide) (g := (mkF m 20 #[.val (.int p0)] [])) rfl (D 12 rfl) (n := 28) (by decide) (by decide) (by decide) (by decide)
    have hA17 := CH16
    have hR18 := hR0.trans hA17
    have Z19 := nT Z0 E16.1
    have K20 := K0.ext E16
    refine OFin.of (fun t ht => cN X0 hx (D 11 rfl) rfl (teq hc15).2 (st16 t ht)) ?_
    have rH21 : CHr Z consts_1 s.vm s.heap T16.vm T16.heap := by rw [hh, e16]; exact hR18.trans (CHv.at (s := s) (vm0 := T16.vm) X16 hZ16 hEL hR18.1)
    exact own_retAH (s := s) (vm₁ := T16.vm) X16 S16 (by rw [e16]; exact K16) rH21 hx hlk (t := (.object cB)) rfl rfl hret (D 13 rfl) (by decide) (by decide) (by rw [e16]; exact ⟨al16, lv16, c16, rfl, N0, K20, Ax16, Fc16, Fv16, own_eqT (B := [60, 33, 97, 39, 60, 97, 62]) (by simp [own_unf, hc1, hc8, hc15]) ⟨[60, 33, 97, 39, 60, 97, 62], Va16, rfl, rfl⟩⟩)
   ·obtain ⟨al22, T22, h22, k22, lv22, c22, X22, e22, E22, S22, K22, hZ22, hown22, Ax22, Fc22, Fv22, Va22, -, -, CH22, -, nx22, st22⟩ := ldcCH (s := s) (vm0 := s.vm) X0 hx hZ hown (wt hw 277 rfl) (own_strAtoms hw) e0 ((State.WarmedH.refl s).since h0.size) (Nat.le_refl _) hEL (mG (i := 20) rfl) hR0.1 (vs := [(.int 60), (.int 33), (.int 91), (.int 60), (.int 97), (.int 62)]) (z := (6 : Int32)) ⟨by decide, rfl⟩ (by decide) (by decide) (g := (mkF m 23 #[.val (.int p0)] [])) rfl (D 14 rfl) (n := 24) (by decide) (by decide) (by decide) (by decide)
    have hA23 := CH22
    have hR24 := hR0.trans hA23
    have Z25 := nT Z0 E22.1
    have K26 := K0.ext E22
    refine OFin.of (fun t ht => cY X0 hx 17 23 rfl (D 11 rfl) rfl (feq hc15).2 (by decide) (st22 t ht)) ?_
    have rH27 : CHr Z consts_1 s.vm s.heap T22.vm T22.heap := by rw [hh, e22]; exact hR24.trans (CHv.at (s := s) (vm0 := T22.vm) X22 hZ22 hEL hR24.1)
    exact own_retAH (s := s) (vm₁ := T22.vm) X22 S22 (by rw [e22]; exact K22) rH27 hx hlk (t := (.object cB)) rfl rfl hret (D 15 rfl) (by decide) (by decide) (by rw [e22]; exact ⟨al22, lv22, c22, rfl, N0, K26, Ax22, Fc22, Fv22, own_eqT (B := [60, 33, 91, 60, 97, 62]) (by simp [own_unf, hc1, hc8, hc15]) ⟨[60, 33, 91, 60, 97, 62], Va22, rfl, rfl⟩⟩)
theorem pn_5 : plainName "java/lang/StringCoding" = true := by first | (simp [plainName, overriddenIn]; done) | decide +kernel
theorem efCpo {m : MethodId} {a0 : Addr} {oo n_ : Nat} : entryFrame m #[(.ref a0), (.int (oN oo)), (.int (oN n_))] 5 = mkF m 0 #[.val (.ref a0), .val (.int (oN oo)), .val (.int (oN n_)), .unset, .unset] [] := by first | (simp [entryFrame, mkF, argsToLocals, Value.category]; done) | rfl
def QCpo (Z : State) (a0 : Addr) (kt : ClassId) (nt : Int32) (pre : List Int32) (oo n_ : Nat) (r : Int32) (h0 : Heap) (n0 : Nat) (v : Option Value) (h : Heap) (L : List Loc) : Prop := v = some (.int r) ∧ Fr n0 L ∧ h = h0
theorem rmCpo (l : Launch) (Z : State) (a0 : Array Value) (hw : HW a0 Z) (ws : List Jvm.Cond) (a0 : Addr) (kt : ClassId) (nt : Int32) (pre : List Int32) (oo n_ : Nat) (r : Int32) (h0 : Heap) (n0 : Nat) (Z0 : n0 ≤ h0.size) (Tx : Txt Z h0 a0 kt nt pre) (hon : oo + n_ ≤ pre.length) (hr : oN (own_cp pre n_ oo - oo) = r) :
  Con l mn28 (Jvm.Cond.code mn28 jdk_123_method_3_code 5 (some .int)) ws (⟨0, 0, 0, 0⟩ : Jvm.Room) #[(.ref a0), (.int (oN oo)), (.int (oN n_))] Z h0 (QCpo Z a0 kt nt pre oo n_ r h0 n0) := by
 refine own_of (plainFor_of_name pn_5) hisR dl_jdk_123_3 ?_
 intro p e s m below meth c s₁ hx D hlk hret hml hZ hown hnm X0 e0
 replace hown : s.vm.findClass "java/lang/StringCoding" = some m.cls := hown
 have N0 := Fr.nil n0
 rw [efCpo]
 refine OFin.of (S' := s₁.setTop (mkF m 7 (la1 a0 (oN oo) (oN n_) ((oN oo) + (oN n_)) (oN oo)) [])) (fun t ht => iN X0 hx (D 0 rfl) rfl (iN X0 hx (D 1 rfl) rfl (XS.iadd X0.here hx rfl (D 2 rfl) rfl (XS.istoreN X0.here hx rfl (D 3 rfl) rfl (l' := #[.val (.ref a0), .val (.int (oN oo)), .val (.int (oN n_)), .val (.int ((oN oo) + (oN n_))), .unset]) rfl (iN X0 hx (D 4 rfl) rfl (sW X0 hx (D 5 rfl) rfl (l' := (la1 a0 (oN oo) (oN n_) ((oN oo) + (oN n_)) (oN oo))) rfl ht)))))) ?_
 have h31 := own_p31 Tx
 rw [own_addn oo n_]
 have lp1 : ∀ (kk i : Nat) (hk : i + kk = oo + n_) (hf : own_cp pre (oo + n_ - i) i = own_cp pre n_ oo) (hoi : oo ≤ i) {Tl : State} {locs : List Loc} (Xl : Stand p l e (⟨0, 0, 0, 0⟩ : Jvm.Room) s m #[(.ref a0), (.int (oN oo)), (.int (oN n_))] below meth c Tl locs 0 0) (el : Tl.heap = h0) (Nl : Fr n0 locs), OFin p e below (KPost s (QCpo Z a0 kt nt pre oo n_ r h0 n0) (⟨0, 0, 0, 0⟩ : Jvm.Room).cells (⟨0, 0, 0, 0⟩ : Jvm.Room).slots) (Tl.setTop (mkF m 7 #[.val (.ref a0), .val (.int (oN oo)), .val (.int (oN n_)), .val (.int (oN (oo + n_))), .val (.int (oN i))] [])) := by
  intro kk
  induction kk with
  | zero => 
   intro i hk hf hoi Tl locs Xl el Nl
   refine OFin.of (S' := Tl.setTop (mkF m 32 #[.val (.ref a0), .val (.int (oN oo)), .val (.int (oN n_)), .val (.int (oN (oo + n_))), .val (.int (oN i))] [(.int (oN n_))])) (fun t ht => iW Xl hx (D 6 rfl) rfl (iN Xl hx (D 7 rfl) rfl (cY Xl hx 10 31 rfl (D 8 rfl) rfl (flt ((by rw [own_natlt (by omega) (by omega)]; omega) : ¬ ((oN i) < (oN (oo + n_))))).2.1 (by decide) (iN Xl hx (D 9 rfl) rfl ht)))) ?_
   exact OFin.retI Xl hx hlk hret (D 10 rfl) (by decide) (by decide) (by rw [el]; exact ⟨(by rw [← hr, own_cp_z hk hf]), Nl, rfl⟩)
  | succ kk ih => 
   intro i hk hf hoi Tl locs Xl el Nl
   obtain ⟨cl2, Ar2, hin2, hat2⟩ := Txt.at Tx (j := (oN i)) (i := i) rfl (by omega)
   refine OFin.of (fun t ht => iW Xl hx (D 6 rfl) rfl (iN Xl hx (D 7 rfl) rfl (cN Xl hx (D 8 rfl) rfl (tlt ((by rw [own_natlt (by omega) (by omega)]; omega) : (oN i) < (oN (oo + n_)))).2.1 (aN Xl hx (D 11 rfl) rfl rfl (iW Xl hx (D 12 rfl) rfl (Xl.baloadBytes hx (j := (oN i)) (v := (.int (pre.getD i 0))) (by rw [el]; exact Ar2.1) (State.isArrayOf_alike hZ.alike Ar2.2.1) Ar2.2.2 hin2 hat2 (g := (mkF m 16 #[.val (.ref a0), .val (.int (oN oo)), .val (.int (oN n_)), .val (.int (oN (oo + n_))), .val (.int (oN i))] [(.int (oN i)), (.ref a0)])) rfl rfl (D 13 rfl) _ ht)))))) ?_
   by_cases hc3 : (pre.getD i 0) < 0
   ·refine OFin.of (S' := Tl.setTop (mkF m 24 #[.val (.ref a0), .val (.int (oN oo)), .val (.int (oN n_)), .val (.int (oN (oo + n_))), .val (.int (oN i))] [(.int ((oN i) - (oN oo)))])) (fun t ht => fN Xl hx (D 14 rfl) rfl ((if0 _ _).trans (tlt hc3).2.1) (iW Xl hx (D 15 rfl) rfl (iN Xl hx (D 16 rfl) rfl (XS.isub Xl.here hx rfl (D 17 rfl) rfl ht)))) ?_
    exact OFin.retI Xl hx hlk hret (D 18 rfl) (by decide) (by decide) (by rw [el]; exact ⟨(by rw [← hr, own_cp_s hk hc3 hf]; exact congrArg (fun x => some (Value.int x)) (own_subn' hoi)), Nl, rfl⟩)
   ·refine OFin.of (S' := Tl.setTop (mkF m 7 (la1 a0 (oN oo) (oN n_) (oN (oo + n_)) ((oN i) + (1 : Int32))) [])) (fun t ht => fY Xl hx 17 25 rfl (D 14 rfl) rfl ((if0 _ _).trans (flt hc3).2.1) (by decide) (iI Xl hx (D 19 rfl) rfl (l' := (la1 a0 (oN oo) (oN n_) (oN (oo + n_)) ((oN i) + (1 : Int32)))) rfl (gO Xl hx 28 7 rfl (D 20 rfl) (by decide) ht))) ?_
    rw [own_succ]
    exact ih (i + 1) (by omega) ((own_cp_no hk hc3).trans hf) (by omega) Xl el Nl
 exact lp1 _ oo rfl (by rw [Nat.add_sub_cancel_left]) (Nat.le_refl _) X0 e0 N0
theorem pn_6 : plainName cD = true := by first | (simp [plainName, overriddenIn]; done) | decide +kernel
theorem efPutC {m : MethodId} {a0 : Addr} {p2 : Int32} {ci : Nat} : entryFrame m #[(.ref a0), (.int (oN ci)), (.int p2)] 3 = mkF m 0 #[.val (.ref a0), .val (.int (oN ci)), .val (.int p2)] [] := by first | (simp [entryFrame, mkF, argsToLocals, Value.category]; done) | rfl
def QPutC (Z : State) (a0 : Addr) (p2 : Int32) (kt : ClassId) (nt : Int32) (eb : List Int32) (ci : Nat) (h0 : Heap) (n0 : Nat) (v : Option Value) (h : Heap) (L : List Loc) : Prop := v = none ∧ Fr n0 L ∧ Keep h0 h [a0] ∧ Txt Z h a0 kt nt (eb ++ [(own_lo p2)] ++ [(own_hi p2)])
theorem rmPutC (l : Launch) (Z : State) (a0 : Array Value) (hw : HW a0 Z) (ws : List Jvm.Cond) (a0 : Addr) (p2 : Int32) (kt : ClassId) (nt : Int32) (eb : List Int32) (ci : Nat) (h0 : Heap) (n0 : Nat) (Z0 : n0 ≤ h0.size) (Sad : Sta Z h0 cD "$assertionsDisabled" "Z" (.int 1)) (Shi : Sta Z h0 cD "HI_BYTE_SHIFT" "I" (.int 0)) (Slo : Sta Z h0 cD "LO_BYTE_SHIFT" "I" (.int 8)) (Tx : Txt Z h0 a0 kt nt eb) (g0 : n0 ≤ a0) (heb : eb.length = 2 * ci) (hrm : eb.length + 1 < nt.toNatClampNeg) :
  Con l mn29 (Jvm.Cond.code mn29 jdk_52_method_4_code 3 none) ws (⟨0, 0, 0, 0⟩ : Jvm.Room) #[(.ref a0), (.int (oN ci)), (.int p2)] Z h0 (QPutC Z a0 p2 kt nt eb ci h0 n0) := by
 refine own_of (plainFor_of_name pn_6) hisR dl_jdk_52_4 ?_
 intro p e s m below meth c s₁ hx D hlk hret hml hZ hown hnm X0 e0
 replace hown : s.vm.findClass cD = some m.cls := hown
 have N0 := Fr.nil n0
 rw [efPutC]
 have K0 : Keep h0 h0 [a0] := Keep.refl _ _
 obtain ⟨T1, X1, e1, st1⟩ := getS (host := "") X0 hx hZ hown (wt hw 245 rfl) Via.refl e0 Sad (g := (mkF m 0 #[.val (.ref a0), .val (.int (oN ci)), .val (.int p2)] [])) rfl (D 0 rfl)
 refine OFin.of st1 ?_
 refine OFin.of (S' := T1.setTop (mkF m 31 #[.val (.ref a0), .val (.int (oN ci)), .val (.int p2)] [(.int ((oN ci) <<< ((1 : Int32) &&& 31)))])) (fun t ht => fY X1 hx 3 28 rfl (D 1 rfl) rfl ((if0 _ _).trans (feq (by decide : ¬ ((1 : Int32) = 0))).2) (by decide) (iN X1 hx (D 2 rfl) rfl (iC X1 hx (D 3 rfl) (XS.ishl X1.here hx rfl (D 4 rfl) rfl ht)))) ?_
 rw [own_shl1 ci]
 obtain ⟨T2, X2, e2, st2⟩ := getS (host := "") X1 hx hZ hown (wt hw 246 rfl) Via.refl e1 Shi (g := (mkF m 38 #[.val (.ref a0), .val (.int ((oN (2 * ci)) + (1 : Int32))), .val (.int p2)] [(.int p2), (.int (oN (2 * ci))), (.ref a0)])) rfl (D 10 rfl)
 refine OFin.of (fun t ht => XS.istoreN X1.here hx rfl (D 5 rfl) rfl (l' := #[.val (.ref a0), .val (.int (oN (2 * ci))), .val (.int p2)]) rfl (aN X1 hx (D 6 rfl) rfl rfl (iN X1 hx (D 7 rfl) rfl (iI X1 hx (D 8 rfl) rfl (l' := #[.val (.ref a0), .val (.int ((oN (2 * ci)) + (1 : Int32))), .val (.int p2)]) rfl (iN X1 hx (D 9 rfl) rfl (st2 t ht)))))) ?_
 obtain ⟨T3, h3, X3, e3, W3, G3, st3⟩ := own_stT X2 hx hZ e2 Tx (j := (oN (2 * ci))) (by rw [heb]) (by omega) (g := (mkF m 43 #[.val (.ref a0), .val (.int ((oN (2 * ci)) + (1 : Int32))), .val (.int p2)] [(.int ((p2 >>> ((0 : Int32) &&& 31)).toInt8.toInt32)), (.int (oN (2 * ci))), (.ref a0)])) rfl rfl (D 13 rfl)
 have f4 := (Sad.wr W3)
 have f5 := (Shi.wr W3)
 have f6 := (Slo.wr W3)
 have Z7 := nT Z0 (Keep.of_wr W3).1
 have K8 := K0.wr W3 (Or.inl (mG (i := 0) rfl))
 have N9 := Fr.snoc X3 N0 g0
 have f10 : Txt Z h3 a0 kt nt (eb ++ [(own_lo p2)]) := (own_tx G3 (own_lo_e p2))
 refine OFin.of (fun t ht => XS.ishr X2.here hx rfl (D 11 rfl) rfl (XS.i2b X2.here hx rfl (D 12 rfl) rfl (st3 t ht))) ?_
 obtain ⟨T11, X11, e11, st11⟩ := getS (host := "") X3 hx hZ hown (wt hw 247 rfl) Via.refl e3 f6 (g := (mkF m 47 #[.val (.ref a0), .val (.int ((oN (2 * ci)) + (1 : Int32))), .val (.int p2)] [(.int p2), (.int ((oN (2 * ci)) + (1 : Int32))), (.ref a0)])) rfl (D 17 rfl)
 refine OFin.of (fun t ht => aN X3 hx (D 14 rfl) rfl rfl (iN X3 hx (D 15 rfl) rfl (iN X3 hx (D 16 rfl) rfl (st11 t ht)))) ?_
 obtain ⟨T12, h12, X12, e12, W12, G12, st12⟩ := own_stT X11 hx hZ e11 f10 (j := ((oN (2 * ci)) + (1 : Int32))) (by rw [own_succ, ← heb, List.length_append, List.length_singleton]) (by rw [List.length_append, List.length_singleton]; omega) (g := (mkF m 52 #[.val (.ref a0), .val (.int ((oN (2 * ci)) + (1 : Int32))), .val (.int p2)] [(.int ((p2 >>> ((8 : Int32) &&& 31)).toInt8.toInt32)), (.int ((oN (2 * ci)) + (1 : Int32))), (.ref a0)])) rfl rfl (D 20 rfl)
 have f13 := (f4.wr W12)
 have f14 := (f5.wr W12)
 have f15 := (f6.wr W12)
 have Z16 := nT Z7 (Keep.of_wr W12).1
 have K17 := K8.wr W12 (Or.inl (mG (i := 0) rfl))
 have N18 := Fr.snoc X12 N9 g0
 have f19 : Txt Z h12 a0 kt nt (eb ++ [(own_lo p2)] ++ [(own_hi p2)]) := (own_tx G12 (own_hi_e p2))
 refine OFin.of (fun t ht => XS.ishr X11.here hx rfl (D 18 rfl) rfl (XS.i2b X11.here hx rfl (D 19 rfl) rfl (st12 t ht))) ?_
 exact OFin.retV X12 hx hlk hret (D 21 rfl) (by decide) (by decide) (by rw [e12]; exact ⟨rfl, N18, K17, f19⟩)
theorem efImn {m : MethodId} {p0 p1 : Int32} : entryFrame m #[(.int p0), (.int p1)] 2 = mkF m 0 #[.val (.int p0), .val (.int p1)] [] := by first | (simp [entryFrame, mkF, argsToLocals, Value.category]; done) | rfl
def QImn (Z : State) (p0 p1 : Int32) (h0 : Heap) (n0 : Nat) (v : Option Value) (h : Heap) (L : List Loc) : Prop := v = some (.int (own_imin p0 p1)) ∧ Fr n0 L ∧ h = h0
theorem rmImn (l : Launch) (Z : State) (a0 : Array Value) (hw : HW a0 Z) (ws : List Jvm.Cond) (p0 p1 : Int32) (h0 : Heap) (n0 : Nat) (Z0 : n0 ≤ h0.size)  :
  Con l mn30 (Jvm.Cond.code mn30 jdk_29_method_69_code 2 (some .int)) ws (⟨0, 0, 0, 0⟩ : Jvm.Room) #[(.int p0), (.int p1)] Z h0 (QImn Z p0 p1 h0 n0) := by
 refine own_of (Jvm.Free.JP.mathPlain rfl (by decide +kernel)) hisR dl_jdk_29_69 ?_
 intro p e s m below meth c s₁ hx D hlk hret hml hZ hown hnm X0 e0
 replace hown : s.vm.findClass "java/lang/Math" = some m.cls := hown
 have N0 := Fr.nil n0
 rw [efImn]
 refine OFin.of (S' := s₁.setTop (mkF m 2 #[.val (.int p0), .val (.int p1)] [(.int p1), (.int p0)])) (fun t ht => iN X0 hx (D 0 rfl) rfl (iN X0 hx (D 1 rfl) rfl ht)) ?_
 by_cases hc1 : p1 < p0
 ·refine OFin.of (S' := s₁.setTop (mkF m 10 #[.val (.int p0), .val (.int p1)] [(.int p1)])) (fun t ht => cY X0 hx 2 9 rfl (D 2 rfl) rfl (tlt hc1).2.2.1 (by decide) (iN X0 hx (D 3 rfl) rfl ht)) ?_
  exact OFin.retI X0 hx hlk hret (D 4 rfl) (by decide) (by decide) (by rw [e0]; exact ⟨(by show some (Value.int p1) = _; simp [own_imin, hc1]), N0, rfl⟩)
 ·refine OFin.of (S' := s₁.setTop (mkF m 10 #[.val (.int p0), .val (.int p1)] [(.int p0)])) (fun t ht => cN X0 hx (D 2 rfl) rfl (flt hc1).2.2.1 (iN X0 hx (D 5 rfl) rfl (gO X0 hx 6 10 rfl (D 6 rfl) (by decide) ht))) ?_
  exact OFin.retI X0 hx hlk hret (D 4 rfl) (by decide) (by decide) (by rw [e0]; exact ⟨(by show some (Value.int p0) = _; simp [own_imin, hc1]), N0, rfl⟩)
theorem pn_7 : plainName cI = true := by first | (simp [plainName, overriddenIn]; done) | decide +kernel
theorem efCkl {m : MethodId} {p0 p1 : Int32} : entryFrame m #[(.int p0), (.int p1)] 2 = mkF m 0 #[.val (.int p0), .val (.int p1)] [] := by first | (simp [entryFrame, mkF, argsToLocals, Value.category]; done) | rfl
def QCkl (Z : State) (p0 p1 : Int32) (h0 : Heap) (n0 : Nat) (v : Option Value) (h : Heap) (L : List Loc) : Prop := v = none ∧ Fr n0 L ∧ h = h0
theorem rmCkl (l : Launch) (Z : State) (a0 : Array Value) (hw : HW a0 Z) (ws : List Jvm.Cond) (p0 p1 : Int32) (h0 : Heap) (n0 : Nat) (Z0 : n0 ≤ h0.size) (hr1 : ¬ p1 < p0) :
  Con l mn31 (Jvm.Cond.code mn31 jdk_65_method_131_code 2 none) ws (⟨0, 0, 0, 0⟩ : Jvm.Room) #[(.int p0), (.int p1)] Z h0 (QCkl Z p0 p1 h0 n0) := by
 refine own_of (plainFor_of_name pn_7) hisR dl_jdk_65_131 ?_
 intro p e s m below meth c s₁ hx D hlk hret hml hZ hown hnm X0 e0
 replace hown : s.vm.findClass cI = some m.cls := hown
 have N0 := Fr.nil n0
 rw [efCkl]
 refine OFin.of (S' := s₁.setTop (mkF m 37 #[.val (.int p0), .val (.int p1)] [])) (fun t ht => iN X0 hx (D 0 rfl) rfl (iN X0 hx (D 1 rfl) rfl (cY X0 hx 2 37 rfl (D 2 rfl) rfl (flt (hr1 : ¬ (p1 < p0))).2.1 (by decide) ht))) ?_
 exact OFin.retV X0 hx hlk hret (D 3 rfl) (by decide) (by decide) (by rw [e0]; exact ⟨rfl, N0, rfl⟩)
theorem pn_8 : plainName "java/util/Objects" = true := by first | (simp [plainName, overriddenIn]; done) | decide +kernel
theorem efRnn {m : MethodId} {a0 : Addr} : entryFrame m #[(.ref a0)] 1 = mkF m 0 #[.val (.ref a0)] [] := by first | (simp [entryFrame, mkF, argsToLocals, Value.category]; done) | rfl
def QRnn (Z : State) (a0 : Addr) (h0 : Heap) (n0 : Nat) (v : Option Value) (h : Heap) (L : List Loc) : Prop := v = some (.ref a0) ∧ Fr n0 L ∧ h = h0
theorem rmRnn (l : Launch) (Z : State) (a0 : Array Value) (hw : HW a0 Z) (ws : List Jvm.Cond) (a0 : Addr) (h0 : Heap) (n0 : Nat) (Z0 : n0 ≤ h0.size)  :
  Con l mn32 (Jvm.Cond.code mn32 jdk_31_method_10_code 1 (some (.object "java/lang/Object"))) ws (⟨0, 0, 0, 0⟩ : Jvm.Room) #[(.ref a0)] Z h0 (QRnn Z a0 h0 n0) := by
 refine own_of (plainFor_of_name pn_8) hisR dl_jdk_31_10 ?_
 intro p e s m below meth c s₁ hx D hlk hret hml hZ hown hnm X0 e0
 replace hown : s.vm.findClass "java/util/Objects" = some m.cls := hown
 have N0 := Fr.nil n0
 rw [efRnn]
 refine OFin.of (S' := s₁.setTop (mkF m 13 #[.val (.ref a0)] [(.ref a0)])) (fun t ht => aN X0 hx (D 0 rfl) rfl rfl (XS.ifnonnullYes X0.here hx rfl (pc0 := 1) (pc' := 12) rfl (D 1 rfl) rfl (by decide) (by decide) (aN X0 hx (D 2 rfl) rfl rfl ht))) ?_
 exact OFin.retA X0 hx hlk (t := (.object "java/lang/Object")) rfl rfl hret (D 3 rfl) (by decide) (by decide) (by rw [e0]; exact ⟨rfl, N0, rfl⟩)
theorem efCrb {m : MethodId} {a0 : Addr} {oo n_ : Nat} : entryFrame m #[(.ref a0), (.int (oN oo)), (.int (oN (oo + n_)))] 5 = mkF m 0 #[.val (.ref a0), .val (.int (oN oo)), .val (.int (oN (oo + n_))), .unset, .unset] [] := by first | (simp [entryFrame, mkF, argsToLocals, Value.category]; done) | rfl
def QCrb (Z : State) (a0 : Addr) (kt : ClassId) (nt : Int32) (pre : List Int32) (oo n_ : Nat) (h0 : Heap) (n0 : Nat) (v : Option Value) (h : Heap) (L : List Loc) : Prop := v = some (.ref h0.size) ∧ Fr n0 L ∧ Keep h0 h [] ∧ ∃ kb, Txt Z h h0.size kb (oN n_) ((pre.drop oo).take n_)
theorem rmCrb (l : Launch) (Z : State) (a0 : Array Value) (hw : HW a0 Z) (ws : List Jvm.Cond) (a0 : Addr) (kt : ClassId) (nt : Int32) (pre : List Int32) (oo n_ : Nat) (h0 : Heap) (n0 : Nat) (Z0 : n0 ≤ h0.size) (Tx : Txt Z h0 a0 kt nt pre) (hon : oo + n_ ≤ pre.length) (hn4 : n_ ≤ 4) :
  Con l mn33 (Jvm.Cond.code mn33 jdk_65_method_133_code 5 (some (.array .byte))) ws (⟨1, 1, 8, 40⟩ : Jvm.Room) #[(.ref a0), (.int (oN oo)), (.int (oN (oo + n_)))] Z h0 (QCrb Z a0 kt nt pre oo n_ h0 n0) := by
 refine own_of (plainFor_of_name pn_7) hisR dl_jdk_65_133 ?_
 intro p e s m below meth c s₁ hx D hlk hret hml hZ hown hnm X0 e0
 replace hown : s.vm.findClass cI = some m.cls := hown
 have N0 := Fr.nil n0
 rw [efCrb]
 have K0 : Keep h0 h0 [] := Keep.refl _ _
 obtain ⟨_, T1, Lc1, X1, hQ1, st1⟩ := own_cS X0 hx hw hZ hown 210 211 205 212 rfl rfl rfl rfl (by decide) (rmCkl l Z _ hw [] (oN oo) (oN (oo + n_)) h0 n0 Z0 (own_rc1 Tx hon)) (by decide) (by decide) (g := (mkF m 2 #[.val (.ref a0), .val (.int (oN oo)), .val (.int (oN (oo + n_))), .unset, .unset] [(.int (oN (oo + n_))), (.int (oN oo))])) rfl hml rfl (argsL := [(.int (oN oo)), (.int (oN (oo + n_)))]) (rest := []) pd_3 rfl rfl rfl (W := 0) (nE rfl) (D 2 rfl) rfl e0 (by decide) (by decide)
 obtain ⟨rfl, Nq1, hs1⟩ := hQ1
 have N2 := Fr.app N0 Nq1
 refine OFin.of (fun t ht => iN X0 hx (D 0 rfl) rfl (iN X0 hx (D 1 rfl) rfl (st1.trans ht))) ?_
 refine OFin.of (S' := T1.setTop (mkF m 8 #[.val (.ref a0), .val (.int (oN oo)), .val (.int (oN (oo + n_))), .unset, .unset] [(.int ((oN (oo + n_)) - (oN oo)))])) (fun t ht => iN X1 hx (D 3 rfl) rfl (iN X1 hx (D 4 rfl) rfl (XS.isub X1.here hx rfl (D 5 rfl) rfl ht))) ?_
 rw [own_subn oo n_]
 obtain ⟨T3, h3, k3, X3, e3, E3, A3, st3⟩ := newP X1 hx hZ (wt hw 0 rfl) hs1 (g := (mkF m 10 #[.val (.ref a0), .val (.int (oN oo)), .val (.int (oN (oo + n_))), .val (.int (oN n_)), .unset] [(.int (oN n_))])) rfl (D 8 rfl) rfl (own_nz _ (by omega)) (cap := 8) (by rw [own_clamp (by omega)]; omega) (by decide) (by decide) (by decide)
 obtain ⟨b3, gq3⟩ : ∃ z, z = h0.size := ⟨_, rfl⟩
 rw [← gq3] at A3 st3
 have g4 : n0 ≤ b3 := (nT Z0 (nE gq3.symm))
 have sz5 : h0.size ≤ b3 := (nT K0.1 (nE gq3.symm))
 have ne6 : a0 ≠ b3 := (Nat.ne_of_lt (Nat.lt_of_lt_of_le Tx.lt (nE gq3.symm)))
 have f7 := Tx.ext E3
 have Z8 := nT Z0 E3.1
 have K9 := K0.ext E3
 have f10 : Txt Z h3 b3 k3 (oN n_) ([] : List Int32) := own_newT A3 (own_nz _ (by omega))
 refine OFin.of (fun t ht => XS.istoreN X1.here hx rfl (D 6 rfl) rfl (l' := #[.val (.ref a0), .val (.int (oN oo)), .val (.int (oN (oo + n_))), .val (.int (oN n_)), .unset]) rfl (iN X1 hx (D 7 rfl) rfl (st3 t ht))) ?_
 obtain ⟨bs11, ⟨cl11, Ar11, q11, S11, Ng11, H11, G11⟩, -⟩ := id f7
 refine OFin.of (fun t ht => XS.astore X3.here hx rfl (D 9 rfl) rfl rfl (l' := #[.val (.ref a0), .val (.int (oN oo)), .val (.int (oN (oo + n_))), .val (.int (oN n_)), .val (.ref b3)]) rfl (aN X3 hx (D 10 rfl) rfl rfl (iN X3 hx (D 11 rfl) rfl (aW X3 hx (D 12 rfl) rfl rfl (iC X3 hx (D 13 rfl) (aN X3 hx (D 14 rfl) rfl rfl (own_alen X3 hx hZ e3 Ar11 S11 Ng11 (g := (mkF m 20 #[.val (.ref a0), .val (.int (oN oo)), .val (.int (oN (oo + n_))), .val (.int (oN n_)), .val (.ref b3)] [(.ref a0), (.int 0), (.ref b3), (.int (oN oo)), (.ref a0)])) rfl rfl (D 15 rfl) ht))))))) ?_
 obtain ⟨_, T12, Lc12, X12, hQ12, st12⟩ := own_cS X3 hx hw hZ hown 213 214 215 216 rfl rfl rfl rfl (by decide) (rmImn l Z _ hw [] (nt - (oN oo)) (oN n_) h3 n0 Z8 ) (by decide) (by decide) (g := (mkF m 24 #[.val (.ref a0), .val (.int (oN oo)), .val (.int (oN (oo + n_))), .val (.int (oN n_)), .val (.ref b3)] [(.int (oN n_)), (.int (nt - (oN oo))), (.int 0), (.ref b3), (.int (oN oo)), (.ref a0)])) rfl hml rfl (argsL := [(.int (nt - (oN oo))), (.int (oN n_))]) (rest := [(.int 0), (.ref b3), (.int (oN oo)), (.ref a0)]) pd_14 rfl rfl rfl (W := 4) (nE rfl) (D 19 rfl) rfl e3 (by decide) (by decide)
 obtain ⟨rfl, Nq12, hs12⟩ := hQ12
 have N13 := Fr.app N2 Nq12
 refine OFin.of (fun t ht => iN X3 hx (D 16 rfl) rfl (XS.isub X3.here hx rfl (D 17 rfl) rfl (iN X3 hx (D 18 rfl) rfl (st12.trans ht)))) ?_
 rw [own_minn Tx hon]
 obtain ⟨bd14, Fd14, -⟩ := id f10
 obtain ⟨T14, h14, X14, e14, K14, V14, st14⟩ := own_acopy X12 hx hZ hown (wt hw 217 rfl) (wt hw 220 rfl) (wt hw 218 rfl) (wt hw 219 rfl) hs12 f7 Fd14 ne6 (o := oo) (n := n_) hon (g := (mkF m 27 #[.val (.ref a0), .val (.int (oN oo)), .val (.int (oN (oo + n_))), .val (.int (oN n_)), .val (.ref b3)] [(.int (oN n_)), (.int 0), (.ref b3), (.int (oN oo)), (.ref a0)])) rfl (by rw [hml]; rfl) rfl (D 20 rfl) (by decide) (by show 2 * 0 + 0 + (nativeFrameWords "java/lang/System" "arraycopy" 5 + 11) ≤ _; decide)
 have N15 := Fr.app N13 (fun x hx_ => by rw [copyLocs_base hx_]; exact g4 : Fr n0 (copyLocs b3 0 n_))
 have f16 := (f7.keep K14 (ninS ne6 nin0))
 have Z17 := nT Z8 K14.1
 have K18 := K9.trans K14 (allS (Or.inr sz5) all0)
 have f19 : Txt Z h14 b3 k3 (oN n_) ((pre.drop oo).take n_) := (own_toT Tx hon V14)
 refine OFin.of st14 ?_
 refine OFin.of (S' := T14.setTop (mkF m 32 #[.val (.ref a0), .val (.int (oN oo)), .val (.int (oN (oo + n_))), .val (.int (oN n_)), .val (.ref b3)] [(.ref b3)])) (fun t ht => aW X14 hx (D 21 rfl) rfl rfl ht) ?_
 exact OFin.retA X14 hx hlk (t := (.array .byte)) rfl rfl hret (D 22 rfl) (by decide) (by decide) (by rw [e14]; exact ⟨by rw [← gq3], N15, K18, k3, by rw [← gq3]; exact f19⟩)
theorem efCor {m : MethodId} {a0 : Addr} {oo n_ : Nat} : entryFrame m #[(.ref a0), (.int (oN oo)), (.int (oN (oo + n_)))] 3 = mkF m 0 #[.val (.ref a0), .val (.int (oN oo)), .val (.int (oN (oo + n_)))] [] := by first | (simp [entryFrame, mkF, argsToLocals, Value.category]; done) | rfl
def QCor (Z : State) (a0 : Addr) (kt : ClassId) (nt : Int32) (pre : List Int32) (oo n_ : Nat) (h0 : Heap) (n0 : Nat) (v : Option Value) (h : Heap) (L : List Loc) : Prop := v = some (.ref h0.size) ∧ Fr n0 L ∧ Keep h0 h [] ∧ ∃ kb, Txt Z h h0.size kb (oN n_) ((pre.drop oo).take n_)
theorem rmCor (l : Launch) (Z : State) (a0 : Array Value) (hw : HW a0 Z) (ws : List Jvm.Cond) (a0 : Addr) (kt : ClassId) (nt : Int32) (pre : List Int32) (oo n_ : Nat) (h0 : Heap) (n0 : Nat) (Z0 : n0 ≤ h0.size) (Tx : Txt Z h0 a0 kt nt pre) (hon : oo + n_ ≤ pre.length) (hn4 : n_ ≤ 4) (ho : 0 < oo) :
  Con l mn34 (Jvm.Cond.code mn34 jdk_65_method_132_code 3 (some (.array .byte))) ws (⟨2, 1, 8, 56⟩ : Jvm.Room) #[(.ref a0), (.int (oN oo)), (.int (oN (oo + n_)))] Z h0 (QCor Z a0 kt nt pre oo n_ h0 n0) := by
 refine own_of (plainFor_of_name pn_7) hisR dl_jdk_65_132 ?_
 intro p e s m below meth c s₁ hx D hlk hret hml hZ hown hnm X0 e0
 replace hown : s.vm.findClass cI = some m.cls := hown
 have N0 := Fr.nil n0
 rw [efCor]
 have K0 : Keep h0 h0 [] := Keep.refl _ _
 obtain ⟨_, T1, Lc1, X1, hQ1, st1⟩ := own_cS X0 hx hw hZ hown 207 208 205 209 rfl rfl rfl rfl (by decide) (rmCrb l Z _ hw [] a0 kt nt pre oo n_ h0 n0 Z0 Tx hon hn4) (by decide) (by decide) (g := (mkF m 13 #[.val (.ref a0), .val (.int (oN oo)), .val (.int (oN (oo + n_)))] [(.int (oN (oo + n_))), (.int (oN oo)), (.ref a0)])) rfl hml rfl (argsL := [(.ref a0), (.int (oN oo)), (.int (oN (oo + n_)))]) (rest := []) pd_15 rfl rfl rfl (W := 0) (nE rfl) (D 5 rfl) rfl e0 (by decide) (by decide)
 obtain ⟨rfl, Nq1, Kq1, ⟨kb_1, f2⟩⟩ := hQ1
 have N3 := Fr.app N0 Nq1
 obtain ⟨b1, gq1⟩ : ∃ z, z = h0.size := ⟨_, rfl⟩
 rw [← gq1] at f2 st1
 have g4 : n0 ≤ b1 := (nT Z0 (nE gq1.symm))
 have sz5 : h0.size ≤ b1 := (nT K0.1 (nE gq1.symm))
 have ne6 : a0 ≠ b1 := (Nat.ne_of_lt (Nat.lt_of_lt_of_le Tx.lt (nE gq1.symm)))
 have f7 := (Tx.keep Kq1 nin0)
 have Z8 := nT Z0 Kq1.1
 have K9 := K0.trans Kq1 all0
 refine OFin.of (fun t ht => iN X0 hx (D 0 rfl) rfl (fY X0 hx 1 10 rfl (D 1 rfl) rfl ((if0 _ _).trans (feq (own_o0 Tx hon ho : ¬ ((oN oo) = 0))).2) (by decide) (aN X0 hx (D 2 rfl) rfl rfl (iN X0 hx (D 3 rfl) rfl (iN X0 hx (D 4 rfl) rfl (st1.trans ht)))))) ?_
 exact OFin.retA X1 hx hlk (t := (.array .byte)) rfl rfl hret (D 6 rfl) (by decide) (by decide) (by exact ⟨by rw [← gq1], N3, K9, kb_1, by rw [← gq1]; exact f2⟩)
theorem efNbl {m : MethodId} {n_ : Nat} : entryFrame m #[(.int (oN n_))] 1 = mkF m 0 #[.val (.int (oN n_))] [] := by first | (simp [entryFrame, mkF, argsToLocals, Value.category]; done) | rfl
def QNbl (Z : State) (n_ : Nat) (h0 : Heap) (n0 : Nat) (v : Option Value) (h : Heap) (L : List Loc) : Prop := v = some (.int (oN (2 * n_))) ∧ Fr n0 L ∧ h = h0
theorem rmNbl (l : Launch) (Z : State) (a0 : Array Value) (hw : HW a0 Z) (ws : List Jvm.Cond) (n_ : Nat) (h0 : Heap) (n0 : Nat) (Z0 : n0 ≤ h0.size) (hn4 : n_ ≤ 4) :
  Con l mn35 (Jvm.Cond.code mn35 jdk_52_method_3_code 1 (some .int)) ws (⟨0, 0, 0, 0⟩ : Jvm.Room) #[(.int (oN n_))] Z h0 (QNbl Z n_ h0 n0) := by
 refine own_of (plainFor_of_name pn_6) hisR dl_jdk_52_3 ?_
 intro p e s m below meth c s₁ hx D hlk hret hml hZ hown hnm X0 e0
 replace hown : s.vm.findClass cD = some m.cls := hown
 have N0 := Fr.nil n0
 rw [efNbl]
 refine OFin.of (S' := s₁.setTop (mkF m 58 #[.val (.int (oN n_))] [(.int ((oN n_) <<< ((1 : Int32) &&& 31)))])) (fun t ht => iN X0 hx (D 0 rfl) rfl (fY X0 hx 1 12 rfl (D 1 rfl) rfl ((if0 _ _).trans (flt (own_nz _ (by omega) : ¬ ((oN n_) < 0))).2.1) (by decide) (iN X0 hx (D 2 rfl) rfl (X0.ldcInt hx hown (mvT hZ (wt hw 228 rfl)) (g := (mkF m 13 #[.val (.int (oN n_))] [(.int (oN n_))])) rfl (D 3 rfl) _ (cY X0 hx 15 55 rfl (D 4 rfl) rfl (tlt ((by rw [show (1073741823 : Int32) = oN 1073741823 from rfl, own_natlt (by omega) (by omega)]; omega) : (oN n_) < 1073741823)).1 (by decide) (iN X0 hx (D 5 rfl) rfl (iC X0 hx (D 6 rfl) (XS.ishl X0.here hx rfl (D 7 rfl) rfl ht)))))))) ?_
 rw [own_shl1 n_]
 exact OFin.retI X0 hx hlk hret (D 8 rfl) (by decide) (by decide) (by rw [e0]; exact ⟨rfl, N0, rfl⟩)
theorem efNbf {m : MethodId} {n_ : Nat} : entryFrame m #[(.int (oN n_))] 1 = mkF m 0 #[.val (.int (oN n_))] [] := by first | (simp [entryFrame, mkF, argsToLocals, Value.category]; done) | rfl
def QNbf (Z : State) (n_ : Nat) (h0 : Heap) (n0 : Nat) (v : Option Value) (h : Heap) (L : List Loc) : Prop := v = some (.ref h0.size) ∧ Fr n0 L ∧ Keep h0 h [] ∧ ∃ kb, Txt Z h h0.size kb (oN (2 * n_)) ([] : List Int32)
theorem rmNbf (l : Launch) (Z : State) (a0 : Array Value) (hw : HW a0 Z) (ws : List Jvm.Cond) (n_ : Nat) (h0 : Heap) (n0 : Nat) (Z0 : n0 ≤ h0.size) (hn4 : n_ ≤ 4) :
  Con l mn36 (Jvm.Cond.code mn36 jdk_52_method_2_code 1 (some (.array .byte))) ws (⟨1, 1, 8, 12⟩ : Jvm.Room) #[(.int (oN n_))] Z h0 (QNbf Z n_ h0 n0) := by
 refine own_of (plainFor_of_name pn_6) hisR dl_jdk_52_2 ?_
 intro p e s m below meth c s₁ hx D hlk hret hml hZ hown hnm X0 e0
 replace hown : s.vm.findClass cD = some m.cls := hown
 have N0 := Fr.nil n0
 rw [efNbf]
 have K0 : Keep h0 h0 [] := Keep.refl _ _
 obtain ⟨_, T1, Lc1, X1, hQ1, st1⟩ := own_cS X0 hx hw hZ hown 225 226 223 227 rfl rfl rfl rfl (by decide) (rmNbl l Z _ hw [] n_ h0 n0 Z0 hn4) (by decide) (by decide) (g := (mkF m 1 #[.val (.int (oN n_))] [(.int (oN n_))])) rfl hml rfl (argsL := [(.int (oN n_))]) (rest := []) pd_11 rfl rfl rfl (W := 0) (nE rfl) (D 1 rfl) rfl e0 (by decide) (by decide)
 obtain ⟨rfl, Nq1, hs1⟩ := hQ1
 have N2 := Fr.app N0 Nq1
 refine OFin.of (fun t ht => iN X0 hx (D 0 rfl) rfl (st1.trans ht)) ?_
 obtain ⟨T3, h3, k3, X3, e3, E3, A3, st3⟩ := newP X1 hx hZ (wt hw 0 rfl) hs1 (g := (mkF m 4 #[.val (.int (oN n_))] [(.int (oN (2 * n_)))])) rfl (D 2 rfl) rfl (own_nz _ (by omega)) (cap := 8) (by rw [own_clamp (by omega)]; omega) (by decide) (by decide) (by decide)
 obtain ⟨b3, gq3⟩ : ∃ z, z = h0.size := ⟨_, rfl⟩
 rw [← gq3] at A3 st3
 have g4 : n0 ≤ b3 := (nT Z0 (nE gq3.symm))
 have sz5 : h0.size ≤ b3 := (nT K0.1 (nE gq3.symm))
 have Z6 := nT Z0 E3.1
 have K7 := K0.ext E3
 have f8 : Txt Z h3 b3 k3 (oN (2 * n_)) ([] : List Int32) := own_newT A3 (own_nz _ (by omega))
 refine OFin.of st3 ?_
 exact OFin.retA X3 hx hlk (t := (.array .byte)) rfl rfl hret (D 3 rfl) (by decide) (by decide) (by rw [e3]; exact ⟨by rw [← gq3], N2, K7, k3, by rw [← gq3]; exact f8⟩)
theorem efUln {m : MethodId} {a0 : Addr} : entryFrame m #[(.ref a0)] 1 = mkF m 0 #[.val (.ref a0)] [] := by first | (simp [entryFrame, mkF, argsToLocals, Value.category]; done) | rfl
def QUln (Z : State) (a0 : Addr) (kt : ClassId) (n_ : Nat) (eb : List Int32) (h0 : Heap) (n0 : Nat) (v : Option Value) (h : Heap) (L : List Loc) : Prop := v = some (.int (oN n_)) ∧ Fr n0 L ∧ h = h0
theorem rmUln (l : Launch) (Z : State) (a0 : Array Value) (hw : HW a0 Z) (ws : List Jvm.Cond) (a0 : Addr) (kt : ClassId) (n_ : Nat) (eb : List Int32) (h0 : Heap) (n0 : Nat) (Z0 : n0 ≤ h0.size) (Tx : Txt Z h0 a0 kt (oN (2 * n_)) eb) (hn9 : n_ < 1000) :
  Con l mn37 (Jvm.Cond.code mn37 jdk_52_method_6_code 1 (some .int)) ws (⟨0, 0, 0, 0⟩ : Jvm.Room) #[(.ref a0)] Z h0 (QUln Z a0 kt n_ eb h0 n0) := by
 refine own_of (plainFor_of_name pn_6) hisR dl_jdk_52_6 ?_
 intro p e s m below meth c s₁ hx D hlk hret hml hZ hown hnm X0 e0
 replace hown : s.vm.findClass cD = some m.cls := hown
 have N0 := Fr.nil n0
 rw [efUln]
 obtain ⟨bs1, ⟨cl1, Ar1, q1, S1, Ng1, H1, G1⟩, -⟩ := id Tx
 refine OFin.of (fun t ht => aN X0 hx (D 0 rfl) rfl rfl (own_alen X0 hx hZ e0 Ar1 S1 Ng1 (g := (mkF m 1 #[.val (.ref a0)] [(.ref a0)])) rfl rfl (D 1 rfl) ht)) ?_
 refine OFin.of (S' := s₁.setTop (mkF m 4 #[.val (.ref a0)] [(.int ((oN (2 * n_)) >>> ((1 : Int32) &&& 31)))])) (fun t ht => iC X0 hx (D 2 rfl) (XS.ishr X0.here hx rfl (D 3 rfl) rfl ht)) ?_
 exact OFin.retI X0 hx hlk hret (D 4 rfl) (by decide) (by decide) (by rw [e0]; exact ⟨(by rw [own_shr1 hn9]), N0, rfl⟩)
theorem efCfN {m : MethodId} {p0 p1 p2 : Int32} : entryFrame m #[(.int p0), (.int p1), (.int p2), .null] 4 = mkF m 0 #[.val (.int p0), .val (.int p1), .val (.int p2), .val .null] [] := by first | (simp [entryFrame, mkF, argsToLocals, Value.category]; done) | rfl
def QCfN (Z : State) (p0 p1 p2 : Int32) (h0 : Heap) (n0 : Nat) (v : Option Value) (h : Heap) (L : List Loc) : Prop := v = some (.int p0) ∧ Fr n0 L ∧ h = h0
theorem rmCfN (l : Launch) (Z : State) (a0 : Array Value) (hw : HW a0 Z) (ws : List Jvm.Cond) (p0 p1 p2 : Int32) (h0 : Heap) (n0 : Nat) (Z0 : n0 ≤ h0.size) (hq1 : ¬ ((p2 ||| p0) ||| p1) < 0) (hq2 : ¬ (p2 - p0) < p1) :
  Con l mn38 (Jvm.Cond.code mn38 jdk_41_method_13_code 4 (some .int)) ws (⟨0, 0, 0, 0⟩ : Jvm.Room) #[(.int p0), (.int p1), (.int p2), .null] Z h0 (QCfN Z p0 p1 p2 h0 n0) := by
 refine own_of (plainFor_of_name pn_1) hisR dl_jdk_41_13 ?_
 intro p e s m below meth c s₁ hx D hlk hret hml hZ hown hnm X0 e0
 replace hown : s.vm.findClass cG = some m.cls := hown
 have N0 := Fr.nil n0
 rw [efCfN]
 refine OFin.of (S' := s₁.setTop (mkF m 24 #[.val (.int p0), .val (.int p1), .val (.int p2), .val .null] [(.int p0)])) (fun t ht => iN X0 hx (D 0 rfl) rfl (iN X0 hx (D 1 rfl) rfl (XS.ior X0.here hx rfl (D 2 rfl) rfl (iN X0 hx (D 3 rfl) rfl (XS.ior X0.here hx rfl (D 4 rfl) rfl (fN X0 hx (D 5 rfl) rfl ((if0 _ _).trans (flt (hq1 : ¬ (((p2 ||| p0) ||| p1) < 0))).1) (iN X0 hx (D 6 rfl) rfl (iN X0 hx (D 7 rfl) rfl (iN X0 hx (D 8 rfl) rfl (XS.isub X0.here hx rfl (D 9 rfl) rfl (cY X0 hx 12 23 rfl (D 10 rfl) rfl (flt (hq2 : ¬ ((p2 - p0) < p1))).2.2.2 (by decide) (iN X0 hx (D 11 rfl) rfl ht)))))))))))) ?_
 exact OFin.retI X0 hx hlk hret (D 12 rfl) (by decide) (by decide) (by rw [e0]; exact ⟨rfl, N0, rfl⟩)
theorem efCfR {m : MethodId} {p0 p1 p2 : Int32} {a3 : Addr} : entryFrame m #[(.int p0), (.int p1), (.int p2), (.ref a3)] 4 = mkF m 0 #[.val (.int p0), .val (.int p1), .val (.int p2), .val (.ref a3)] [] := by first | (simp [entryFrame, mkF, argsToLocals, Value.category]; done) | rfl
def QCfR (Z : State) (p0 p1 p2 : Int32) (a3 : Addr) (h0 : Heap) (n0 : Nat) (v : Option Value) (h : Heap) (L : List Loc) : Prop := v = some (.int p0) ∧ Fr n0 L ∧ h = h0
theorem rmCfR (l : Launch) (Z : State) (a0 : Array Value) (hw : HW a0 Z) (ws : List Jvm.Cond) (p0 p1 p2 : Int32) (a3 : Addr) (h0 : Heap) (n0 : Nat) (Z0 : n0 ≤ h0.size) (hq1 : ¬ ((p2 ||| p0) ||| p1) < 0) (hq2 : ¬ (p2 - p0) < p1) :
  Con l mn38 (Jvm.Cond.code mn38 jdk_41_method_13_code 4 (some .int)) ws (⟨0, 0, 0, 0⟩ : Jvm.Room) #[(.int p0), (.int p1), (.int p2), (.ref a3)] Z h0 (QCfR Z p0 p1 p2 a3 h0 n0) := by
 refine own_of (plainFor_of_name pn_1) hisR dl_jdk_41_13 ?_
 intro p e s m below meth c s₁ hx D hlk hret hml hZ hown hnm X0 e0
 replace hown : s.vm.findClass cG = some m.cls := hown
 have N0 := Fr.nil n0
 rw [efCfR]
 refine OFin.of (S' := s₁.setTop (mkF m 24 #[.val (.int p0), .val (.int p1), .val (.int p2), .val (.ref a3)] [(.int p0)])) (fun t ht => iN X0 hx (D 0 rfl) rfl (iN X0 hx (D 1 rfl) rfl (XS.ior X0.here hx rfl (D 2 rfl) rfl (iN X0 hx (D 3 rfl) rfl (XS.ior X0.here hx rfl (D 4 rfl) rfl (fN X0 hx (D 5 rfl) rfl ((if0 _ _).trans (flt (hq1 : ¬ (((p2 ||| p0) ||| p1) < 0))).1) (iN X0 hx (D 6 rfl) rfl (iN X0 hx (D 7 rfl) rfl (iN X0 hx (D 8 rfl) rfl (XS.isub X0.here hx rfl (D 9 rfl) rfl (cY X0 hx 12 23 rfl (D 10 rfl) rfl (flt (hq2 : ¬ ((p2 - p0) < p1))).2.2.2 (by decide) (iN X0 hx (D 11 rfl) rfl ht)))))))))))) ?_
 exact OFin.retI X0 hx hlk hret (D 12 rfl) (by decide) (by decide) (by rw [e0]; exact ⟨rfl, N0, rfl⟩)
theorem rmCf (l : Launch) (Z : State) (a0 : Array Value) (hw : HW a0 Z) (p0 p1 p2 : Int32) (fm : Value) (hfm : fm.isRef = true) (h0 : Heap) (n0 : Nat) (Z0 : n0 ≤ h0.size) (hq1 : ¬ ((p2 ||| p0) ||| p1) < 0) (hq2 : ¬ (p2 - p0) < p1) :
  Con l mn38 (Jvm.Cond.code mn38 jdk_41_method_13_code 4 (some .int)) [] (⟨0, 0, 0, 0⟩ : Jvm.Room) #[(.int p0), (.int p1), (.int p2), fm] Z h0 (OwnMet p0 h0 n0) := by
 rcases ref_cases hfm with rfl | ⟨f, rfl⟩
 ·exact rmCfN l Z _ hw [] p0 p1 p2 h0 n0 Z0 hq1 hq2
 ·exact rmCfR l Z _ hw [] p0 p1 p2 f h0 n0 Z0 hq1 hq2
theorem efCbo {m : MethodId} {p0 p1 p2 : Int32} : entryFrame m #[(.int p0), (.int p1), (.int p2)] 3 = mkF m 0 #[.val (.int p0), .val (.int p1), .val (.int p2)] [] := by first | (simp [entryFrame, mkF, argsToLocals, Value.category]; done) | rfl
def QCbo (Z : State) (p0 p1 p2 : Int32) (fm : Value) (h0 : Heap) (n0 : Nat) (v : Option Value) (h : Heap) (L : List Loc) : Prop := v = some (.int p0) ∧ Fr n0 L ∧ h = h0
theorem rmCbo (l : Launch) (Z : State) (a0 : Array Value) (hw : HW a0 Z) (ws : List Jvm.Cond) (p0 p1 p2 : Int32) (fm : Value) (h0 : Heap) (n0 : Nat) (Z0 : n0 ≤ h0.size) (Sfm : Sta Z h0 cG "SIOOBE_FORMATTER" cE fm) (hfm : fm.isRef = true) (hq1 : ¬ ((p2 ||| p0) ||| p1) < 0) (hq2 : ¬ (p2 - p0) < p1) :
  Con l mn39 (Jvm.Cond.code mn39 jdk_42_method_157_code 3 (some .int)) ws (⟨1, 0, 0, 15⟩ : Jvm.Room) #[(.int p0), (.int p1), (.int p2)] Z h0 (QCbo Z p0 p1 p2 fm h0 n0) := by
 refine own_of (plainFor_of_name pn_2) hisR dl_jdk_42_157 ?_
 intro p e s m below meth c s₁ hx D hlk hret hml hZ hown hnm X0 e0
 replace hown : s.vm.findClass cB = some m.cls := hown
 have N0 := Fr.nil n0
 rw [efCbo]
 obtain ⟨T1, X1, e1, st1⟩ := getS (host := "") X0 hx hZ hown (wt hw 126 rfl) Via.refl e0 Sfm (g := (mkF m 3 #[.val (.int p0), .val (.int p1), .val (.int p2)] [(.int p2), (.int p1), (.int p0)])) rfl (D 3 rfl)
 refine OFin.of (fun t ht => iN X0 hx (D 0 rfl) rfl (iN X0 hx (D 1 rfl) rfl (iN X0 hx (D 2 rfl) rfl (st1 t ht)))) ?_
 obtain ⟨_, T2, Lc2, X2, hQ2, st2⟩ := own_cS X1 hx hw hZ hown 128 129 127 130 rfl rfl rfl rfl (by decide) (rmCf l Z _ hw p0 p1 p2 fm hfm h0 n0 Z0 hq1 hq2) (by decide) (by decide) (g := (mkF m 6 #[.val (.int p0), .val (.int p1), .val (.int p2)] [fm, (.int p2), (.int p1), (.int p0)])) rfl hml rfl (argsL := [(.int p0), (.int p1), (.int p2), fm]) (rest := []) pd_16 rfl rfl rfl (W := 0) (nE rfl) (D 4 rfl) rfl e1 (by decide) (by decide)
 obtain ⟨rfl, Nq2, hs2⟩ := hQ2
 have N3 := Fr.app N0 Nq2
 refine OFin.to st2 ?_
 exact OFin.retI X2 hx hlk hret (D 5 rfl) (by decide) (by decide) (by rw [hs2]; exact ⟨rfl, N3, rfl⟩)
theorem efUcb {m : MethodId} {a2 : Addr} {dp : Nat} : entryFrame m #[(.int 0), (.int (oN dp)), (.ref a2)] 3 = mkF m 0 #[.val (.int 0), .val (.int (oN dp)), .val (.ref a2)] [] := by first | (simp [entryFrame, mkF, argsToLocals, Value.category]; done) | rfl
def QUcb (Z : State) (a2 : Addr) (kt : ClassId) (eb : List Int32) (n_ dp : Nat) (fm : Value) (h0 : Heap) (n0 : Nat) (v : Option Value) (h : Heap) (L : List Loc) : Prop := v = none ∧ Fr n0 L ∧ h = h0
theorem rmUcb (l : Launch) (Z : State) (a0 : Array Value) (hw : HW a0 Z) (ws : List Jvm.Cond) (a2 : Addr) (kt : ClassId) (eb : List Int32) (n_ dp : Nat) (fm : Value) (h0 : Heap) (n0 : Nat) (Z0 : n0 ≤ h0.size) (Tx : Txt Z h0 a2 kt (oN (2 * n_)) eb) (Sfm : Sta Z h0 cG "SIOOBE_FORMATTER" cE fm) (hfm : fm.isRef = true) (hn4 : n_ ≤ 4) (hdp : dp ≤ n_) :
  Con l mn40 (Jvm.Cond.code mn40 jdk_52_method_94_code 3 none) ws (⟨2, 0, 0, 29⟩ : Jvm.Room) #[(.int 0), (.int (oN dp)), (.ref a2)] Z h0 (QUcb Z a2 kt eb n_ dp fm h0 n0) := by
 refine own_of (plainFor_of_name pn_6) hisR dl_jdk_52_94 ?_
 intro p e s m below meth c s₁ hx D hlk hret hml hZ hown hnm X0 e0
 replace hown : s.vm.findClass cD = some m.cls := hown
 have N0 := Fr.nil n0
 rw [efUcb]
 obtain ⟨_, T1, Lc1, X1, hQ1, st1⟩ := own_cS X0 hx hw hZ hown 238 239 223 240 rfl rfl rfl rfl (by decide) (rmUln l Z _ hw [] a2 kt n_ eb h0 n0 Z0 Tx (by omega)) (by decide) (by decide) (g := (mkF m 3 #[.val (.int 0), .val (.int (oN dp)), .val (.ref a2)] [(.ref a2), (.int (oN dp)), (.int 0)])) rfl hml rfl (argsL := [(.ref a2)]) (rest := [(.int (oN dp)), (.int 0)]) pd_17 rfl rfl rfl (W := 2) (nE rfl) (D 3 rfl) rfl e0 (by decide) (by decide)
 obtain ⟨rfl, Nq1, hs1⟩ := hQ1
 have N2 := Fr.app N0 Nq1
 refine OFin.of (fun t ht => iN X0 hx (D 0 rfl) rfl (iN X0 hx (D 1 rfl) rfl (aN X0 hx (D 2 rfl) rfl rfl (st1.trans ht)))) ?_
 obtain ⟨_, T3, Lc3, X3, hQ3, st3⟩ := own_cS X1 hx hw hZ hown 241 124 6 125 rfl rfl rfl rfl (by decide) (rmCbo l Z _ hw [] (0 : Int32) (oN dp) (oN n_) fm h0 n0 Z0 Sfm hfm (own_orz hn4 hdp).1 (own_orz hn4 hdp).2) (by decide) (by decide) (g := (mkF m 6 #[.val (.int 0), .val (.int (oN dp)), .val (.ref a2)] [(.int (oN n_)), (.int (oN dp)), (.int 0)])) rfl hml rfl (argsL := [(.int 0), (.int (oN dp)), (.int (oN n_))]) (rest := []) pd_18 rfl rfl rfl (W := 0) (nE rfl) (D 4 rfl) rfl hs1 (by decide) (by decide)
 obtain ⟨rfl, Nq3, hs3⟩ := hQ3
 have N4 := Fr.app N2 Nq3
 refine OFin.to st3 ?_
 refine OFin.of (S' := T3.setTop (mkF m 10 #[.val (.int 0), .val (.int (oN dp)), .val (.ref a2)] [])) (fun t ht => XS.pop X3.here hx rfl (D 5 rfl) rfl rfl ht) ?_
 exact OFin.retV X3 hx hlk hret (D 6 rfl) (by decide) (by decide) (by rw [hs3]; exact ⟨rfl, N4, rfl⟩)
theorem efInf {m : MethodId} {a0 a2 : Addr} {dp : Nat} : entryFrame m #[(.ref a0), (.int 0), (.ref a2), (.int 0), (.int (oN dp))] 6 = mkF m 0 #[.val (.ref a0), .val (.int 0), .val (.ref a2), .val (.int 0), .val (.int (oN dp)), .unset] [] := by first | (simp [entryFrame, mkF, argsToLocals, Value.category]; done) | rfl
def QInf (Z : State) (a0 a2 : Addr) (ks : ClassId) (ns : Int32) (cb : List Int32) (kd : ClassId) (n_ dp : Nat) (fm : Value) (h0 : Heap) (n0 : Nat) (v : Option Value) (h : Heap) (L : List Loc) : Prop := v = none ∧ Fr n0 L ∧ Keep h0 h [a2] ∧ Txt Z h a2 kd (oN (2 * n_)) (own_enc ((cb.take dp).map own_dc))
theorem rmInf (l : Launch) (Z : State) (a0 : Array Value) (hw : HW a0 Z) (ws : List Jvm.Cond) (a0 a2 : Addr) (ks : ClassId) (ns : Int32) (cb : List Int32) (kd : ClassId) (n_ dp : Nat) (fm : Value) (h0 : Heap) (n0 : Nat) (Z0 : n0 ≤ h0.size) (Sad : Sta Z h0 cD "$assertionsDisabled" "Z" (.int 1)) (Shi : Sta Z h0 cD "HI_BYTE_SHIFT" "I" (.int 0)) (Slo : Sta Z h0 cD "LO_BYTE_SHIFT" "I" (.int 8)) (Sfm : Sta Z h0 cG "SIOOBE_FORMATTER" cE fm) (hfm : fm.isRef = true) (Ts : Txt Z h0 a0 ks ns cb) (Td : Txt Z h0 a2 kd (oN (2 * n_)) ([] : List Int32)) (g2 : n0 ≤ a2) (hne : a0 ≠ a2) (hn4 : n_ ≤ 4) (hcb : cb.length = n_) (hdp : dp ≤ n_) (hpos : ∀ j, j < dp → ¬ cb.getD j 0 < 0 ∧ cb.getD j 0 < 128) :
  Con l mn41 (Jvm.Cond.code mn41 jdk_52_method_86_code 6 none) ws (⟨3, 0, 0, 43⟩ : Jvm.Room) #[(.ref a0), (.int 0), (.ref a2), (.int 0), (.int (oN dp))] Z h0 (QInf Z a0 a2 ks ns cb kd n_ dp fm h0 n0) := by
 refine own_of (plainFor_of_name pn_6) hisR dl_jdk_52_86 ?_
 intro p e s m below meth c s₁ hx D hlk hret hml hZ hown hnm X0 e0
 replace hown : s.vm.findClass cD = some m.cls := hown
 have N0 := Fr.nil n0
 rw [efInf]
 have K0 : Keep h0 h0 [a2] := Keep.refl _ _
 obtain ⟨_, T1, Lc1, X1, hQ1, st1⟩ := own_cS X0 hx hw hZ hown 235 236 223 237 rfl rfl rfl rfl (by decide) (rmUcb l Z _ hw [] a2 kd ([] : List Int32) n_ dp fm h0 n0 Z0 Td Sfm hfm hn4 hdp) (by decide) (by decide) (g := (mkF m 4 #[.val (.ref a0), .val (.int 0), .val (.ref a2), .val (.int 0), .val (.int (oN dp)), .unset] [(.ref a2), (.int (oN dp)), (.int 0)])) rfl hml rfl (argsL := [(.int 0), (.int (oN dp)), (.ref a2)]) (rest := []) pd_19 rfl rfl rfl (W := 0) (nE rfl) (D 3 rfl) rfl e0 (by decide) (by decide)
 obtain ⟨rfl, Nq1, hs1⟩ := hQ1
 have N2 := Fr.app N0 Nq1
 refine OFin.of (fun t ht => iN X0 hx (D 0 rfl) rfl (iW X0 hx (D 1 rfl) rfl (aN X0 hx (D 2 rfl) rfl rfl (st1.trans ht)))) ?_
 refine OFin.of (S' := T1.setTop (mkF m 10 #[.val (.ref a0), .val (.int 0), .val (.ref a2), .val (.int 0), .val (.int (oN dp)), .val (.int 0)] [])) (fun t ht => iC X1 hx (D 4 rfl) (sW X1 hx (D 5 rfl) rfl (l' := #[.val (.ref a0), .val (.int 0), .val (.ref a2), .val (.int 0), .val (.int (oN dp)), .val (.int 0)]) rfl ht)) ?_
 have lp3 : ∀ (kk : Nat) (i : Nat) (hk : i + kk = dp) {Tl : State} {hl : Heap} {locs : List Loc} (Xl : Stand p l e (⟨3, 0, 0, 43⟩ : Jvm.Room) s m #[(.ref a0), (.int 0), (.ref a2), (.int 0), (.int (oN dp))] below meth c Tl locs 0 0) (el : Tl.heap = hl) (Zl : n0 ≤ hl.size) (Kl : Keep h0 hl [a2]) (Nl : Fr n0 locs) (fa0 : Sta Z hl cD "$assertionsDisabled" "Z" (.int 1)) (fa1 : Sta Z hl cD "HI_BYTE_SHIFT" "I" (.int 0)) (fa2 : Sta Z hl cD "LO_BYTE_SHIFT" "I" (.int 8)) (fa3 : Sta Z hl cG "SIOOBE_FORMATTER" cE fm) (fa4 : Txt Z hl a0 ks ns cb) (fa5 : Txt Z hl a2 kd (oN (2 * n_)) (own_enc ((cb.take i).map own_dc))), OFin p e below (KPost s (QInf Z a0 a2 ks ns cb kd n_ dp fm h0 n0) (⟨3, 0, 0, 43⟩ : Jvm.Room).cells (⟨3, 0, 0, 43⟩ : Jvm.Room).slots) (Tl.setTop (mkF m 10 (la2 a0 (oN i) a2 (oN i) (oN dp) (oN i)) [])) := by
  intro kk
  induction kk with
  | zero => 
   intro i hk Tl hl locs Xl el Zl Kl Nl fa0 fa1 fa2 fa3 fa4 fa5
   refine OFin.of (S' := Tl.setTop (mkF m 41 (la2 a0 (oN i) a2 (oN i) (oN dp) (oN i)) [])) (fun t ht => iW Xl hx (D 6 rfl) rfl (iW Xl hx (D 7 rfl) rfl (cY Xl hx 14 41 rfl (D 8 rfl) rfl (flt ((by rw [own_natlt (by omega) (by omega)]; omega) : ¬ ((oN i) < (oN dp)))).2.1 (by decide) ht))) ?_
   exact OFin.retV Xl hx hlk hret (D 9 rfl) (by decide) (by decide) (by rw [el]; exact ⟨rfl, Nl, Kl, (by rw [show dp = i by omega]; exact fa5)⟩)
  | succ kk ih => 
   intro i hk Tl hl locs Xl el Zl Kl Nl fa0 fa1 fa2 fa3 fa4 fa5
   refine OFin.of (S' := Tl.setTop (mkF m 17 (la2 a0 (oN i) a2 (oN i) (oN dp) (oN i)) [])) (fun t ht => iW Xl hx (D 6 rfl) rfl (iW Xl hx (D 7 rfl) rfl (cN Xl hx (D 8 rfl) rfl (tlt ((by rw [own_natlt (by omega) (by omega)]; omega) : (oN i) < (oN dp))).2.1 ht))) ?_
   have hic : i < cb.length := by omega
   have hps := hpos i (by omega)
   obtain ⟨cl4, Ar4, hin4, hat4⟩ := Txt.at fa4 (j := (oN i)) (i := i) rfl hic
   refine OFin.of (fun t ht => aN Xl hx (D 10 rfl) rfl rfl (iN Xl hx (D 11 rfl) rfl (iI Xl hx (D 12 rfl) rfl (l' := (la2 a0 (oN i) a2 ((oN i) + (1 : Int32)) (oN dp) (oN i))) rfl (aN Xl hx (D 13 rfl) rfl rfl (iN Xl hx (D 14 rfl) rfl (iI Xl hx (D 15 rfl) rfl (l' := (la2 a0 ((oN i) + (1 : Int32)) a2 ((oN i) + (1 : Int32)) (oN dp) (oN i))) rfl (Xl.baloadBytes hx (j := (oN i)) (v := (.int (cb.getD i 0))) (by rw [el]; exact Ar4.1) (State.isArrayOf_alike hZ.alike Ar4.2.1) Ar4.2.2 hin4 hat4 (g := (mkF m 27 (la2 a0 ((oN i) + (1 : Int32)) a2 ((oN i) + (1 : Int32)) (oN dp) (oN i)) [(.int (oN i)), (.ref a0), (.int (oN i)), (.ref a2)])) rfl rfl (D 16 rfl) _ ht))))))) ?_
   obtain ⟨_, T5, Lc5, X5, hQ5, st5⟩ := own_cS Xl hx hw hZ hown 242 243 223 244 rfl rfl rfl rfl (by decide) (rmPutC l Z _ hw [] a2 ((cb.getD i 0) &&& (255 : Int32)) kd (oN (2 * n_)) (own_enc ((cb.take i).map own_dc)) i hl n0 Zl fa0 fa1 fa2 fa5 g2 (own_enc_l (Nat.le_of_lt hic)) (by rw [own_enc_l (Nat.le_of_lt hic), own_clamp (by omega)]; omega)) (by decide) (by decide) (g := (mkF m 32 (la2 a0 ((oN i) + (1 : Int32)) a2 ((oN i) + (1 : Int32)) (oN dp) (oN i)) [(.int ((cb.getD i 0) &&& (255 : Int32))), (.int (oN i)), (.ref a2)])) rfl hml rfl (argsL := [(.ref a2), (.int (oN i)), (.int ((cb.getD i 0) &&& (255 : Int32)))]) (rest := []) pd_20 rfl rfl rfl (W := 0) (nE rfl) (D 19 rfl) rfl el (by decide) (by decide)
   obtain ⟨rfl, Nq5, Kq5, f5⟩ := hQ5
   have N6 := Fr.app Nl Nq5
   have f7 := (own_staKeep fa0 Kq5 (own_snT fa5 own_sn0))
   have f8 := (own_staKeep fa1 Kq5 (own_snT fa5 own_sn0))
   have f9 := (own_staKeep fa2 Kq5 (own_snT fa5 own_sn0))
   have f10 := (own_staKeep fa3 Kq5 (own_snT fa5 own_sn0))
   have f11 := (fa4.keep Kq5 (ninS hne nin0))
   have Z12 := nT Zl Kq5.1
   have K13 := Kl.trans Kq5 (allS (Or.inl (mG (i := 0) rfl)) all0)
   rw [own_enc_s hic ((own_and255 hps.1 hps.2).1.trans (own_dcp hps.1).symm)] at f5
   refine OFin.of (fun t ht => XS.sipush Xl.here hx rfl (D 17 rfl) (XS.iand Xl.here hx rfl (D 18 rfl) rfl (st5.trans ht))) ?_
   refine OFin.of (S' := T5.setTop (mkF m 10 (la2 a0 ((oN i) + (1 : Int32)) a2 ((oN i) + (1 : Int32)) (oN dp) ((oN i) + (1 : Int32))) [])) (fun t ht => iI X5 hx (D 20 rfl) rfl (l' := (la2 a0 ((oN i) + (1 : Int32)) a2 ((oN i) + (1 : Int32)) (oN dp) ((oN i) + (1 : Int32)))) rfl (gO X5 hx 38 10 rfl (D 21 rfl) (by decide) ht)) ?_
   rw [own_succ i]
   exact ih (i + 1) (by omega) X5 (rfl : T5.heap = T5.heap) Z12 K13 N6 f7 f8 f9 f10 f11 f5
 exact lp3 dp 0 (Nat.zero_add _) X1 hs1 Z0 K0 N2 Sad Shi Slo Sfm Ts Td
theorem efLin {m : MethodId} {a0 a2 : Addr} {dp : Nat} : entryFrame m #[(.ref a0), (.int 0), (.ref a2), (.int 0), (.int (oN dp))] 5 = mkF m 0 #[.val (.ref a0), .val (.int 0), .val (.ref a2), .val (.int 0), .val (.int (oN dp))] [] := by first | (simp [entryFrame, mkF, argsToLocals, Value.category]; done) | rfl
def QLin (Z : State) (a0 a2 : Addr) (ks : ClassId) (ns : Int32) (cb : List Int32) (kd : ClassId) (n_ dp : Nat) (fm : Value) (h0 : Heap) (n0 : Nat) (v : Option Value) (h : Heap) (L : List Loc) : Prop := v = none ∧ Fr n0 L ∧ Keep h0 h [a2] ∧ Txt Z h a2 kd (oN (2 * n_)) (own_enc ((cb.take dp).map own_dc))
theorem rmLin (l : Launch) (Z : State) (a0 : Array Value) (hw : HW a0 Z) (ws : List Jvm.Cond) (a0 a2 : Addr) (ks : ClassId) (ns : Int32) (cb : List Int32) (kd : ClassId) (n_ dp : Nat) (fm : Value) (h0 : Heap) (n0 : Nat) (Z0 : n0 ≤ h0.size) (Sad : Sta Z h0 cD "$assertionsDisabled" "Z" (.int 1)) (Shi : Sta Z h0 cD "HI_BYTE_SHIFT" "I" (.int 0)) (Slo : Sta Z h0 cD "LO_BYTE_SHIFT" "I" (.int 8)) (Sfm : Sta Z h0 cG "SIOOBE_FORMATTER" cE fm) (hfm : fm.isRef = true) (Ts : Txt Z h0 a0 ks ns cb) (Td : Txt Z h0 a2 kd (oN (2 * n_)) ([] : List Int32)) (g2 : n0 ≤ a2) (hne : a0 ≠ a2) (hn4 : n_ ≤ 4) (hcb : cb.length = n_) (hdp : dp ≤ n_) (hpos : ∀ j, j < dp → ¬ cb.getD j 0 < 0 ∧ cb.getD j 0 < 128) :
  Con l mn42 (Jvm.Cond.code mn42 jdk_43_method_50_code 5 none) ws (⟨4, 0, 0, 60⟩ : Jvm.Room) #[(.ref a0), (.int 0), (.ref a2), (.int 0), (.int (oN dp))] Z h0 (QLin Z a0 a2 ks ns cb kd n_ dp fm h0 n0) := by
 refine own_of (plainFor_of_name pn_3) hisR dl_jdk_43_50 ?_
 intro p e s m below meth c s₁ hx D hlk hret hml hZ hown hnm X0 e0
 replace hown : s.vm.findClass cJ = some m.cls := hown
 have N0 := Fr.nil n0
 rw [efLin]
 have K0 : Keep h0 h0 [a2] := Keep.refl _ _
 obtain ⟨_, T1, Lc1, X1, hQ1, st1⟩ := own_cS X0 hx hw hZ hown 232 233 223 234 rfl rfl rfl rfl (by decide) (rmInf l Z _ hw [] a0 a2 ks ns cb kd n_ dp fm h0 n0 Z0 Sad Shi Slo Sfm hfm Ts Td g2 hne hn4 hcb hdp hpos) (by decide) (by decide) (g := (mkF m 6 #[.val (.ref a0), .val (.int 0), .val (.ref a2), .val (.int 0), .val (.int (oN dp))] [(.int (oN dp)), (.int 0), (.ref a2), (.int 0), (.ref a0)])) rfl hml rfl (argsL := [(.ref a0), (.int 0), (.ref a2), (.int 0), (.int (oN dp))]) (rest := []) pd_21 rfl rfl rfl (W := 0) (nE rfl) (D 5 rfl) rfl e0 (by decide) (by decide)
 obtain ⟨rfl, Nq1, Kq1, f1⟩ := hQ1
 have N2 := Fr.app N0 Nq1
 have f3 := (own_staKeep Sad Kq1 (own_snT Td own_sn0))
 have f4 := (own_staKeep Shi Kq1 (own_snT Td own_sn0))
 have f5 := (own_staKeep Slo Kq1 (own_snT Td own_sn0))
 have f6 := (own_staKeep Sfm Kq1 (own_snT Td own_sn0))
 have f7 := (Ts.keep Kq1 (ninS hne nin0))
 have Z8 := nT Z0 Kq1.1
 have K9 := K0.trans Kq1 (allS (Or.inl (mG (i := 0) rfl)) all0)
 refine OFin.of (fun t ht => aN X0 hx (D 0 rfl) rfl rfl (iN X0 hx (D 1 rfl) rfl (aN X0 hx (D 2 rfl) rfl rfl (iN X0 hx (D 3 rfl) rfl (iW X0 hx (D 4 rfl) rfl (st1.trans ht)))))) ?_
 exact OFin.retV X1 hx hlk hret (D 6 rfl) (by decide) (by decide) (by exact ⟨rfl, N2, K9, f1⟩)
theorem efDcd {m : MethodId} {a0 a3 : Addr} {n_ i0 : Nat} : entryFrame m #[(.ref a0), (.int (oN i0)), (.int (oN n_)), (.ref a3), (.int (oN i0)), (.int 1)] 11 = mkF m 0 (la5 a0 (oN i0) (oN n_) a3 (oN i0) 1) [] := by first | (simp [entryFrame, mkF, argsToLocals, Value.category]; done) | rfl
def QDcd (Z : State) (a0 a3 : Addr) (ks : ClassId) (ns : Int32) (cb : List Int32) (kd : ClassId) (n_ i0 : Nat) (h0 : Heap) (n0 : Nat) (v : Option Value) (h : Heap) (L : List Loc) : Prop := v = some (.int (oN n_)) ∧ Fr n0 L ∧ Keep h0 h [a3] ∧ Txt Z h a3 kd (oN (2 * n_)) (own_enc (cb.map own_dc))
theorem rmDcd (l : Launch) (Z : State) (a0 : Array Value) (hw : HW a0 Z) (ws : List Jvm.Cond) (a0 a3 : Addr) (ks : ClassId) (ns : Int32) (cb : List Int32) (kd : ClassId) (n_ i0 : Nat) (h0 : Heap) (n0 : Nat) (Z0 : n0 ≤ h0.size) (Sad : Sta Z h0 cD "$assertionsDisabled" "Z" (.int 1)) (Shi : Sta Z h0 cD "HI_BYTE_SHIFT" "I" (.int 0)) (Slo : Sta Z h0 cD "LO_BYTE_SHIFT" "I" (.int 8)) (Ts : Txt Z h0 a0 ks ns cb) (Td : Txt Z h0 a3 kd (oN (2 * n_)) (own_enc ((cb.take i0).map own_dc))) (g3 : n0 ≤ a3) (hne : a0 ≠ a3) (hn4 : n_ ≤ 4) (hcb : cb.length = n_) (hi0 : i0 ≤ n_) (hnb : OwnNb cb) :
  Con l mn43 (Jvm.Cond.code mn43 jdk_42_method_38_code 11 (some .int)) ws (⟨1, 0, 0, 14⟩ : Jvm.Room) #[(.ref a0), (.int (oN i0)), (.int (oN n_)), (.ref a3), (.int (oN i0)), (.int 1)] Z h0 (QDcd Z a0 a3 ks ns cb kd n_ i0 h0 n0) := by
 refine own_of (plainFor_of_name pn_2) hisR dl_jdk_42_38 ?_
 intro p e s m below meth c s₁ hx D hlk hret hml hZ hown hnm X0 e0
 replace hown : s.vm.findClass cB = some m.cls := hown
 have N0 := Fr.nil n0
 rw [efDcd]
 have K0 : Keep h0 h0 [a3] := Keep.refl _ _
 have lp1 : ∀ (kk : Nat) (i : Nat) (z6 : Slot) (hk : i + kk = n_) (jz6 : OwnJk z6) {Tl : State} {hl : Heap} {locs : List Loc} (Xl : Stand p l e (⟨1, 0, 0, 14⟩ : Jvm.Room) s m #[(.ref a0), (.int (oN i0)), (.int (oN n_)), (.ref a3), (.int (oN i0)), (.int 1)] below meth c Tl locs 0 0) (el : Tl.heap = hl) (Zl : n0 ≤ hl.size) (Kl : Keep h0 hl [a3]) (Nl : Fr n0 locs) (fa0 : Sta Z hl cD "$assertionsDisabled" "Z" (.int 1)) (fa1 : Sta Z hl cD "HI_BYTE_SHIFT" "I" (.int 0)) (fa2 : Sta Z hl cD "LO_BYTE_SHIFT" "I" (.int 8)) (fa3 : Txt Z hl a0 ks ns cb) (fa4 : Txt Z hl a3 kd (oN (2 * n_)) (own_enc ((cb.take i).map own_dc))), OFin p e below (KPost s (QDcd Z a0 a3 ks ns cb kd n_ i0 h0 n0) (⟨1, 0, 0, 14⟩ : Jvm.Room).cells (⟨1, 0, 0, 14⟩ : Jvm.Room).slots) (Tl.setTop (mkF m 0 (la3 a0 (oN i) (oN n_) a3 (oN i) 1 z6) [])) := by
  intro kk
  induction kk with
  | zero => 
   intro i z6 hk jz6 Tl hl locs Xl el Zl Kl Nl fa0 fa1 fa2 fa3 fa4
   refine OFin.of (S' := Tl.setTop (mkF m 623 (la3 a0 (oN i) (oN n_) a3 (oN i) 1 z6) [(.int (oN i))])) (fun t ht => iN Xl hx (D 0 rfl) rfl (iN Xl hx (D 1 rfl) rfl (cY Xl hx 2 621 rfl (D 2 rfl) rfl (flt ((by rw [own_natlt (by omega) (by omega)]; omega) : ¬ ((oN i) < (oN n_)))).2.1 (by decide) (iW Xl hx (D 3 rfl) rfl ht)))) ?_
   exact OFin.retI Xl hx hlk hret (D 4 rfl) (by decide) (by decide) (by rw [el]; exact ⟨(by rw [show n_ = i by omega]), Nl, Kl, (by rw [show cb = cb.take i from (List.take_of_length_le (by omega)).symm]; exact fa4)⟩)
  | succ kk ih => 
   intro i z6 hk jz6 Tl hl locs Xl el Zl Kl Nl fa0 fa1 fa2 fa3 fa4
   refine OFin.of (S' := Tl.setTop (mkF m 5 (la3 a0 (oN i) (oN n_) a3 (oN i) 1 z6) [])) (fun t ht => iN Xl hx (D 0 rfl) rfl (iN Xl hx (D 1 rfl) rfl (cN Xl hx (D 2 rfl) rfl (tlt ((by rw [own_natlt (by omega) (by omega)]; omega) : (oN i) < (oN n_))).2.1 ht))) ?_
   have hic : i < cb.length := by omega
   have hng := own_nbg hnb hic
   obtain ⟨cl2, Ar2, hin2, hat2⟩ := Txt.at fa3 (j := (oN i)) (i := i) rfl hic
   refine OFin.of (fun t ht => aN Xl hx (D 5 rfl) rfl rfl (iN Xl hx (D 6 rfl) rfl (iI Xl hx (D 7 rfl) rfl (l' := (la3 a0 ((oN i) + (1 : Int32)) (oN n_) a3 (oN i) 1 z6)) rfl (Xl.baloadBytes hx (j := (oN i)) (v := (.int (cb.getD i 0))) (by rw [el]; exact Ar2.1) (State.isArrayOf_alike hZ.alike Ar2.2.1) Ar2.2.2 hin2 hat2 (g := (mkF m 10 (la3 a0 ((oN i) + (1 : Int32)) (oN n_) a3 (oN i) 1 z6) [(.int (oN i)), (.ref a0)])) rfl rfl (D 8 rfl) _ ht)))) ?_
   refine OFin.of (S' := Tl.setTop (mkF m 15 (la4 a0 ((oN i) + (1 : Int32)) (oN n_) a3 (oN i) 1 (cb.getD i 0)) [(.int (cb.getD i 0))])) (fun t ht => sW Xl hx (D 9 rfl) rfl (l' := (la4 a0 ((oN i) + (1 : Int32)) (oN n_) a3 (oN i) 1 (cb.getD i 0))) (own_st jz6 rfl rfl rfl) (iW Xl hx (D 10 rfl) rfl ht)) ?_
   by_cases hc3 : (cb.getD i 0) < 0
   ·refine OFin.of (S' := Tl.setTop (mkF m 33 (la4 a0 ((oN i) + (1 : Int32)) (oN n_) a3 (oN i) 1 (cb.getD i 0)) [])) (fun t ht => fY Xl hx 15 33 rfl (D 11 rfl) rfl ((if0 _ _).trans (tlt hc3).1) (by decide) ht) ?_
    have hnn := own_negb (hng.resolve_left fun z => z.1 hc3).2.1 (hng.resolve_left fun z => z.1 hc3).2.2
    obtain ⟨_, T4, Lc4, X4, hQ4, st4⟩ := own_cS Xl hx hw hZ hown 252 243 223 244 rfl rfl rfl rfl (by decide) (rmPutC l Z _ hw [] a3 (65533 : Int32) kd (oN (2 * n_)) (own_enc ((cb.take i).map own_dc)) i hl n0 Zl fa0 fa1 fa2 fa4 g3 (own_enc_l (Nat.le_of_lt hic)) (by rw [own_enc_l (Nat.le_of_lt hic), own_clamp (by omega)]; omega)) (by decide) (by decide) (g := (mkF m 615 (la4 a0 ((oN i) + (1 : Int32)) (oN n_) a3 ((oN i) + (1 : Int32)) 1 (cb.getD i 0)) [(.int 65533), (.int (oN i)), (.ref a3)])) rfl hml rfl (argsL := [(.ref a3), (.int (oN i)), (.int 65533)]) (rest := []) pd_20 rfl rfl rfl (W := 0) (nE rfl) (D 33 rfl) rfl el (by decide) (by decide)
    obtain ⟨rfl, Nq4, Kq4, f4⟩ := hQ4
    have N5 := Fr.app Nl Nq4
    have f6 := (own_staKeep fa0 Kq4 (own_snT fa4 own_sn0))
    have f7 := (own_staKeep fa1 Kq4 (own_snT fa4 own_sn0))
    have f8 := (own_staKeep fa2 Kq4 (own_snT fa4 own_sn0))
    have f9 := (fa3.keep Kq4 (ninS hne nin0))
    have Z10 := nT Zl Kq4.1
    have K11 := Kl.trans Kq4 (allS (Or.inl (mG (i := 0) rfl)) all0)
    rw [own_enc_s hic (own_dcn hc3).symm] at f4
    refine OFin.of (fun t ht => iW Xl hx (D 12 rfl) rfl (iC Xl hx (D 13 rfl) (XS.ishr Xl.here hx rfl (D 14 rfl) rfl (bP Xl hx (D 15 rfl) (cY Xl hx 39 143 rfl (D 16 rfl) rfl (feq (hnn.1 : ¬ (((cb.getD i 0) >>> ((5 : Int32) &&& 31)) = (-2 : Int32)))).2 (by decide) (iW Xl hx (D 17 rfl) rfl (iC Xl hx (D 18 rfl) (XS.ishr Xl.here hx rfl (D 19 rfl) rfl (bP Xl hx (D 20 rfl) (cY Xl hx 149 349 rfl (D 21 rfl) rfl (feq (hnn.2.1 : ¬ (((cb.getD i 0) >>> ((4 : Int32) &&& 31)) = (-2 : Int32)))).2 (by decide) (iW Xl hx (D 22 rfl) rfl (iC Xl hx (D 23 rfl) (XS.ishr Xl.here hx rfl (D 24 rfl) rfl (bP Xl hx (D 25 rfl) (cY Xl hx 355 595 rfl (D 26 rfl) rfl (feq (hnn.2.2.1 : ¬ (((cb.getD i 0) >>> ((3 : Int32) &&& 31)) = (-2 : Int32)))).2 (by decide) (iW Xl hx (D 27 rfl) rfl (fY Xl hx 597 607 rfl (D 28 rfl) rfl ((if0 _ _).trans (feq (by decide : ¬ ((1 : Int32) = 0))).2) (by decide) (aN Xl hx (D 29 rfl) rfl rfl (iW Xl hx (D 30 rfl) rfl (iI Xl hx (D 31 rfl) rfl (l' := (la4 a0 ((oN i) + (1 : Int32)) (oN n_) a3 ((oN i) + (1 : Int32)) 1 (cb.getD i 0))) rfl (Xl.ldcInt hx hown (mvT hZ (wt hw 251 rfl)) (g := (mkF m 613 (la4 a0 ((oN i) + (1 : Int32)) (oN n_) a3 ((oN i) + (1 : Int32)) 1 (cb.getD i 0)) [(.int (oN i)), (.ref a3)])) rfl (D 32 rfl) _ (st4.trans ht)))))))))))))))))))))) ?_
    refine OFin.of (S' := T4.setTop (mkF m 0 (la4 a0 ((oN i) + (1 : Int32)) (oN n_) a3 ((oN i) + (1 : Int32)) 1 (cb.getD i 0)) [])) (fun t ht => gO X4 hx 618 0 rfl (D 34 rfl) (by decide) ht) ?_
    rw [own_succ i]
    exact ih (i + 1) _ (by omega) (Or.inr ⟨_, rfl⟩) X4 (rfl : T4.heap = T4.heap) Z10 K11 N5 f6 f7 f8 f9 f4
   ·refine OFin.of (S' := Tl.setTop (mkF m 18 (la4 a0 ((oN i) + (1 : Int32)) (oN n_) a3 (oN i) 1 (cb.getD i 0)) [])) (fun t ht => fN Xl hx (D 11 rfl) rfl ((if0 _ _).trans (flt hc3).1) ht) ?_
    have hps := hng.resolve_right fun z => hc3 z.1
    obtain ⟨_, T12, Lc12, X12, hQ12, st12⟩ := own_cS Xl hx hw hZ hown 252 243 223 244 rfl rfl rfl rfl (by decide) (rmPutC l Z _ hw [] a3 ((cb.getD i 0).toUInt32.toUInt16.toUInt32.toInt32) kd (oN (2 * n_)) (own_enc ((cb.take i).map own_dc)) i hl n0 Zl fa0 fa1 fa2 fa4 g3 (own_enc_l (Nat.le_of_lt hic)) (by rw [own_enc_l (Nat.le_of_lt hic), own_clamp (by omega)]; omega)) (by decide) (by decide) (g := (mkF m 27 (la4 a0 ((oN i) + (1 : Int32)) (oN n_) a3 ((oN i) + (1 : Int32)) 1 (cb.getD i 0)) [(.int ((cb.getD i 0).toUInt32.toUInt16.toUInt32.toInt32)), (.int (oN i)), (.ref a3)])) rfl hml rfl (argsL := [(.ref a3), (.int (oN i)), (.int ((cb.getD i 0).toUInt32.toUInt16.toUInt32.toInt32))]) (rest := []) pd_20 rfl rfl rfl (W := 0) (nE rfl) (D 40 rfl) rfl el (by decide) (by decide)
    obtain ⟨rfl, Nq12, Kq12, f12⟩ := hQ12
    have N13 := Fr.app Nl Nq12
    have f14 := (own_staKeep fa0 Kq12 (own_snT fa4 own_sn0))
    have f15 := (own_staKeep fa1 Kq12 (own_snT fa4 own_sn0))
    have f16 := (own_staKeep fa2 Kq12 (own_snT fa4 own_sn0))
    have f17 := (fa3.keep Kq12 (ninS hne nin0))
    have Z18 := nT Zl Kq12.1
    have K19 := Kl.trans Kq12 (allS (Or.inl (mG (i := 0) rfl)) all0)
    rw [own_enc_s hic ((own_and255 hps.1 hps.2).2.trans (own_dcp hps.1).symm)] at f12
    refine OFin.of (fun t ht => aN Xl hx (D 35 rfl) rfl rfl (iW Xl hx (D 36 rfl) rfl (iI Xl hx (D 37 rfl) rfl (l' := (la4 a0 ((oN i) + (1 : Int32)) (oN n_) a3 ((oN i) + (1 : Int32)) 1 (cb.getD i 0))) rfl (iW Xl hx (D 38 rfl) rfl (XS.i2c Xl.here hx rfl (D 39 rfl) rfl (st12.trans ht)))))) ?_
    refine OFin.of (S' := T12.setTop (mkF m 0 (la4 a0 ((oN i) + (1 : Int32)) (oN n_) a3 ((oN i) + (1 : Int32)) 1 (cb.getD i 0)) [])) (fun t ht => gO X12 hx 30 618 rfl (D 41 rfl) (by decide) (gO X12 hx 618 0 rfl (D 34 rfl) (by decide) ht)) ?_
    rw [own_succ i]
    exact ih (i + 1) _ (by omega) (Or.inr ⟨_, rfl⟩) X12 (rfl : T12.heap = T12.heap) Z18 K19 N13 f14 f15 f16 f17 f12
 exact lp1 (n_ - i0) i0 _ (by omega) (Or.inl rfl) X0 e0 Z0 K0 N0 Sad Shi Slo Ts Td
theorem efIu {m : MethodId} {a0 a1 a2 : Addr} {oo n_ : Nat} : entryFrame m #[(.ref a0), (.ref a1), (.ref a2), (.int (oN oo)), (.int (oN n_))] 11 = mkF m 0 (la6 a0 a1 a2 (oN oo) (oN n_)) [] := by first | (simp [entryFrame, mkF, argsToLocals, Value.category]; done) | rfl
def QIu (Z : State) (a0 a1 a2 : Addr) (kt : ClassId) (nt : Int32) (pre : List Int32) (oo n_ : Nat) (cs : Int32) (fm : Value) (h0 : Heap) (n0 : Nat) (v : Option Value) (h : Heap) (L : List Loc) : Prop := v = none ∧ Fr n0 L ∧ Keep h0 h [a0] ∧ ∃ (t : Addr) (kb : ClassId), Fld Z h a0 cB "value" "[B" (.ref t) ∧ ((Fld Z h a0 cB "coder" "B" (.int 0) ∧ Txt Z h t kb (oN n_) ((pre.drop oo).take n_) ∧ ∀ j, j < n_ → ¬ ((pre.drop oo).take n_).getD j 0 < 0) ∨ (Fld Z h a0 cB "coder" "B" (.int 1) ∧ Txt Z h t kb (oN (2 * n_)) (own_enc (((pre.drop oo).take n_).map own_dc))))
theorem rmIu (l : Launch) (Z : State) (a0 : Array Value) (hw : HW a0 Z) (ws : List Jvm.Cond) (a0 a1 a2 : Addr) (kt : ClassId) (nt : Int32) (pre : List Int32) (oo n_ : Nat) (cs : Int32) (fm : Value) (h0 : Heap) (n0 : Nat) (Z0 : n0 ≤ h0.size) (EA : Exa Z h0 a0 cB) (Fc : Fld Z h0 a0 cB "coder" "B" (.int 0)) (Fv : Fld Z h0 a0 cB "value" "[B" .null) (Tx : Txt Z h0 a2 kt nt pre) (Scs : Sta Z h0 cB "COMPACT_STRINGS" "Z" (.int cs)) (hcs : ¬ cs = 0) (Su8 : Sta Z h0 "sun/nio/cs/UTF_8" "INSTANCE" "Lsun/nio/cs/UTF_8;" (.ref a1)) (Sfm : Sta Z h0 cG "SIOOBE_FORMATTER" cE fm) (hfm : fm.isRef = true) (Sad : Sta Z h0 cD "$assertionsDisabled" "Z" (.int 1)) (Shi : Sta Z h0 cD "HI_BYTE_SHIFT" "I" (.int 0)) (Slo : Sta Z h0 cD "LO_BYTE_SHIFT" "I" (.int 8)) (g0 : n0 ≤ a0) (hne : a2 ≠ a0) (hon : oo + n_ ≤ pre.length) (ho : 0 < oo) (hn4 : n_ ≤ 4) (hn1 : 1 ≤ n_) (hnb : OwnNb ((pre.drop oo).take n_)) :
  Con l mn44 (Jvm.Cond.codeWith mn44 jdk_42_method_11_code 11 none [((800 : Nat), (813 : Nat), (816 : Nat), (202 : Nat))]) ws (⟨5, 2, 16, 76⟩ : Jvm.Room) #[(.ref a0), (.ref a1), (.ref a2), (.int (oN oo)), (.int (oN n_))] Z h0 (QIu Z a0 a1 a2 kt nt pre oo n_ cs fm h0 n0) := by
 refine own_of (plainFor_of_name pn_2) hisWith dl_jdk_42_11 ?_
 intro p e s m below meth c s₁ hx D hlk hret hml hZ hown hnm X0 e0
 replace hown : s.vm.findClass cB = some m.cls := hown
 have N0 := Fr.nil n0
 rw [efIu]
 have K0 : Keep h0 h0 [a0] := Keep.refl _ _
 obtain ⟨T1, X1, e1, st1⟩ := initO X0 hx hZ hown (wt hw 135 rfl) (wt hw 41 rfl) (wt hw 42 rfl) e0 (g := (mkF m 1 (la6 a0 a1 a2 (oN oo) (oN n_)) [(.ref a0)])) rfl (by rw [hml]; rfl) rfl (D 1 rfl) (by decide) (W := 0) (by show 2 * 0 + _ ≤ _; exact nE rfl) (by decide)
 refine OFin.of (fun t ht => aN X0 hx (D 0 rfl) rfl rfl (st1 t ht)) ?_
 obtain ⟨T2, X2, e2, st2⟩ := getS (host := "") X1 hx hZ hown (wt hw 197 rfl) Via.refl e1 Su8 (g := (mkF m 31 (la6 a0 a1 a2 (oN oo) (oN n_)) [(.ref a1)])) rfl (D 5 rfl)
 refine OFin.of (fun t ht => iW X1 hx (D 2 rfl) rfl (fY X1 hx 6 30 rfl (D 3 rfl) rfl ((if0 _ _).trans (feq (own_n0 hn1 hn4 : ¬ ((oN n_) = 0))).2) (by decide) (aN X1 hx (D 4 rfl) rfl rfl (st2 t ht)))) ?_
 obtain ⟨T3, X3, e3, st3⟩ := getS (host := "") X2 hx hZ hown (wt hw 29 rfl) Via.refl e2 Scs (g := (mkF m 37 (la6 a0 a1 a2 (oN oo) (oN n_)) [])) rfl (D 7 rfl)
 refine OFin.of (fun t ht => acmp X2 hx rfl (cd := .ne) (x := (.ref a1)) (y := (.ref a1)) rfl rfl (pc0 := 34) (pc' := 37) (same := true) rfl (D 6 rfl) rfl (decide_eq_true rfl) (by decide) (by decide) (st3 t ht)) ?_
 obtain ⟨dp, hdp⟩ : ∃ z, own_cp pre n_ oo - oo = z := ⟨_, rfl⟩
 have hdl := own_dpl hdp
 obtain ⟨_, T4, Lc4, X4, hQ4, st4⟩ := own_cS X3 hx hw hZ hown 199 200 201 202 rfl rfl rfl rfl (by decide) (rmCpo l Z _ hw [] a2 kt nt pre oo n_ (oN dp) h0 n0 Z0 Tx hon (by rw [hdp])) (by decide) (by decide) (g := (mkF m 47 (la6 a0 a1 a2 (oN oo) (oN n_)) [(.int (oN n_)), (.int (oN oo)), (.ref a2)])) rfl hml rfl (argsL := [(.ref a2), (.int (oN oo)), (.int (oN n_))]) (rest := []) pd_22 rfl rfl rfl (W := 0) (nE rfl) (D 12 rfl) rfl e3 (by decide) (by decide)
 obtain ⟨rfl, Nq4, hs4⟩ := hQ4
 have N5 := Fr.app N0 Nq4
 refine OFin.of (fun t ht => fN X3 hx (D 8 rfl) rfl ((if0 _ _).trans (feq (hcs : ¬ (cs = 0))).1) (aN X3 hx (D 9 rfl) rfl rfl (iN X3 hx (D 10 rfl) rfl (iW X3 hx (D 11 rfl) rfl (st4.trans ht))))) ?_
 refine OFin.of (S' := T4.setTop (mkF m 56 (la7 a0 a1 a2 (oN oo) (oN n_) (oN dp)) [(.int (oN n_)), (.int (oN dp))])) (fun t ht => sW X4 hx (D 13 rfl) rfl (l' := (la7 a0 a1 a2 (oN oo) (oN n_) (oN dp))) rfl (iW X4 hx (D 14 rfl) rfl (iW X4 hx (D 15 rfl) rfl ht))) ?_
 by_cases hc6 : (oN dp) = (oN n_)
 ·refine OFin.of (S' := T4.setTop (mkF m 66 (la7 a0 a1 a2 (oN oo) (oN n_) (oN dp)) [(.int ((oN oo) + (oN n_))), (.int (oN oo)), (.ref a2), (.ref a0)])) (fun t ht => cN X4 hx (D 16 rfl) rfl (teq hc6).2 (aN X4 hx (D 17 rfl) rfl rfl (aN X4 hx (D 18 rfl) rfl rfl (iN X4 hx (D 19 rfl) rfl (iN X4 hx (D 20 rfl) rfl (iW X4 hx (D 21 rfl) rfl (XS.iadd X4.here hx rfl (D 22 rfl) rfl ht))))))) ?_
  rw [own_addn oo n_]
  obtain ⟨_, T7, Lc7, X7, hQ7, st7⟩ := own_cS X4 hx hw hZ hown 203 204 205 206 rfl rfl rfl rfl (by decide) (rmCor l Z _ hw [] a2 kt nt pre oo n_ h0 n0 Z0 Tx hon hn4 ho) (by decide) (by decide) (g := (mkF m 66 (la7 a0 a1 a2 (oN oo) (oN n_) (oN dp)) [(.int (oN (oo + n_))), (.int (oN oo)), (.ref a2), (.ref a0)])) rfl hml rfl (argsL := [(.ref a2), (.int (oN oo)), (.int (oN (oo + n_)))]) (rest := [(.ref a0)]) pd_15 rfl rfl rfl (W := 1) (nE rfl) (D 23 rfl) rfl hs4 (by decide) (by decide)
  obtain ⟨rfl, Nq7, Kq7, ⟨kb_7, f8⟩⟩ := hQ7
  have N9 := Fr.app N5 Nq7
  obtain ⟨b7, gq7⟩ : ∃ z, z = h0.size := ⟨_, rfl⟩
  rw [← gq7] at f8 st7
  have g10 : n0 ≤ b7 := (nT Z0 (nE gq7.symm))
  have sz11 : h0.size ≤ b7 := (nT K0.1 (nE gq7.symm))
  have ne12 : a0 ≠ b7 := (Nat.ne_of_lt (Nat.lt_of_lt_of_le EA.lt (nE gq7.symm)))
  have ne13 : a2 ≠ b7 := (Nat.ne_of_lt (Nat.lt_of_lt_of_le Tx.lt (nE gq7.symm)))
  have f14 := (EA.keep Kq7)
  have f15 := (Fc.keep Kq7 nin0)
  have f16 := (Fv.keep Kq7 nin0)
  have f17 := (Tx.keep Kq7 nin0)
  have f18 := (own_staKeep Scs Kq7 own_sn0)
  have f19 := (own_staKeep Su8 Kq7 own_sn0)
  have f20 := (own_staKeep Sfm Kq7 own_sn0)
  have f21 := (own_staKeep Sad Kq7 own_sn0)
  have f22 := (own_staKeep Shi Kq7 own_sn0)
  have f23 := (own_staKeep Slo Kq7 own_sn0)
  have Z24 := nT Z0 Kq7.1
  have K25 := K0.trans Kq7 all0
  refine OFin.to st7 ?_
  obtain ⟨T26, h26, X26, e26, W26, st26⟩ := putF X7 hx hZ hown (host := "") (Or.inl (wt hw 23 rfl)) Via.refl (rfl : T7.heap = T7.heap) f16 f14 (Or.inr ⟨(wt hw 8 rfl), rfl, hnm⟩) (wt hw 7 rfl) (ty := (.array .byte)) (by decide) rfl rfl (g := (mkF m 69 (la7 a0 a1 a2 (oN oo) (oN n_) (oN dp)) [(.ref b7), (.ref a0)])) rfl rfl (D 24 rfl)
  have f27 := (f14.wr W26)
  have f28 := (f15.other W26 (Or.inr (sn0 hw)))
  have f29 := (f17.other W26 hne)
  have f30 := (f18.wr W26)
  have f31 := (f19.wr W26)
  have f32 := (f20.wr W26)
  have f33 := (f21.wr W26)
  have f34 := (f22.wr W26)
  have f35 := (f23.wr W26)
  have f36 := (f8.other W26 (Ne.symm ne12))
  have Z37 := nT Z24 (Keep.of_wr W26).1
  have K38 := K25.wr W26 (Or.inl (mG (i := 0) rfl))
  have N39 := Fr.snoc X26 N9 g0
  have f40 : Fld Z h26 a0 cB "value" "[B" (.ref b7) := (f16.same W26)
  refine OFin.of st26 ?_
  obtain ⟨T41, h41, X41, e41, W41, st41⟩ := putFN X26 hx hZ hown (wt hw 30 rfl) Via.refl e26 f28 f27 (Or.inr ⟨(wt hw 9 rfl), rfl, hnm⟩) (wt hw 7 rfl) (ty := .byte) (v' := (.int 0)) (by decide) rfl rfl (g := (mkF m 74 (la7 a0 a1 a2 (oN oo) (oN n_) (oN dp)) [(.int 0), (.ref a0)])) rfl rfl (D 27 rfl)
  have f42 := (f27.wr W41)
  have f43 := (f29.other W41 hne)
  have f44 := (f30.wr W41)
  have f45 := (f31.wr W41)
  have f46 := (f32.wr W41)
  have f47 := (f33.wr W41)
  have f48 := (f34.wr W41)
  have f49 := (f35.wr W41)
  have f50 := (f36.other W41 (Ne.symm ne12))
  have f51 := (f40.other W41 (Or.inr (sn1 hw)))
  have Z52 := nT Z37 (Keep.of_wr W41).1
  have K53 := K38.wr W41 (Or.inl (mG (i := 0) rfl))
  have N54 := Fr.snoc X41 N39 g0
  have f55 : Fld Z h41 a0 cB "coder" "B" (.int 0) := (f28.same W41)
  refine OFin.of (fun t ht => aN X26 hx (D 25 rfl) rfl rfl (iC X26 hx (D 26 rfl) (st41 t ht))) ?_
  exact OFin.retV X41 hx hlk hret (D 28 rfl) (by decide) (by decide) (by rw [e41]; exact ⟨rfl, N54, K53, b7, kb_7, f51, Or.inl ⟨f55, f50, fun j hj => own_dpp hdp (by rw [own_oinj (by omega) hn4 hc6]; exact hj)⟩⟩)
 ·refine OFin.of (S' := T4.setTop (mkF m 78 (la7 a0 a1 a2 (oN oo) (oN n_) (oN dp)) [])) (fun t ht => cY X4 hx 56 78 rfl (D 16 rfl) rfl (feq hc6).2 (by decide) ht) ?_
  have hlt : dp < n_ := Nat.lt_of_le_of_ne hdl (fun z => hc6 (by rw [z]))
  have hneg := own_dpn hdp hlt
  have hok := (own_nbg hnb (i := dp) (by rw [own_nbl hon]; exact hlt)).resolve_left fun z => z.1 hneg
  refine OFin.of (S' := T4.setTop (mkF m 84 (la7 a0 a1 a2 (oN oo) (oN n_) (oN dp)) [(.int ((oN oo) + (oN n_))), (.int (oN oo)), (.ref a2)])) (fun t ht => aN X4 hx (D 29 rfl) rfl rfl (iN X4 hx (D 30 rfl) rfl (iN X4 hx (D 31 rfl) rfl (iW X4 hx (D 32 rfl) rfl (XS.iadd X4.here hx rfl (D 33 rfl) rfl ht))))) ?_
  rw [own_addn oo n_]
  obtain ⟨_, T56, Lc56, X56, hQ56, st56⟩ := own_cS X4 hx hw hZ hown 203 204 205 206 rfl rfl rfl rfl (by decide) (rmCor l Z _ hw [] a2 kt nt pre oo n_ h0 n0 Z0 Tx hon hn4 ho) (by decide) (by decide) (g := (mkF m 84 (la7 a0 a1 a2 (oN oo) (oN n_) (oN dp)) [(.int (oN (oo + n_))), (.int (oN oo)), (.ref a2)])) rfl hml rfl (argsL := [(.ref a2), (.int (oN oo)), (.int (oN (oo + n_)))]) (rest := []) pd_15 rfl rfl rfl (W := 0) (nE rfl) (D 34 rfl) rfl hs4 (by decide) (by decide)
  obtain ⟨rfl, Nq56, Kq56, ⟨kb_56, f57⟩⟩ := hQ56
  have N58 := Fr.app N5 Nq56
  obtain ⟨b56, gq56⟩ : ∃ z, z = h0.size := ⟨_, rfl⟩
  rw [← gq56] at f57 st56
  have g59 : n0 ≤ b56 := (nT Z0 (nE gq56.symm))
  have sz60 : h0.size ≤ b56 := (nT K0.1 (nE gq56.symm))
  have ne61 : a0 ≠ b56 := (Nat.ne_of_lt (Nat.lt_of_lt_of_le EA.lt (nE gq56.symm)))
  have ne62 : a2 ≠ b56 := (Nat.ne_of_lt (Nat.lt_of_lt_of_le Tx.lt (nE gq56.symm)))
  have f63 := (EA.keep Kq56)
  have f64 := (Fc.keep Kq56 nin0)
  have f65 := (Fv.keep Kq56 nin0)
  have f66 := (Tx.keep Kq56 nin0)
  have f67 := (own_staKeep Scs Kq56 own_sn0)
  have f68 := (own_staKeep Su8 Kq56 own_sn0)
  have f69 := (own_staKeep Sfm Kq56 own_sn0)
  have f70 := (own_staKeep Sad Kq56 own_sn0)
  have f71 := (own_staKeep Shi Kq56 own_sn0)
  have f72 := (own_staKeep Slo Kq56 own_sn0)
  have Z73 := nT Z0 Kq56.1
  have K74 := K0.trans Kq56 all0
  refine OFin.to st56 ?_
  obtain ⟨cl75, Ar75, hin75, hat75⟩ := Txt.at f57 (j := (oN dp)) (i := dp) rfl (by rw [own_nbl hon]; exact hlt)
  refine OFin.of (fun t ht => XS.astore X56.here hx rfl (D 35 rfl) rfl rfl (l' := (la8 a0 a1 a2 (oN oo) (oN n_) (oN dp) b56)) rfl (iW X56 hx (D 36 rfl) rfl (sW X56 hx (D 37 rfl) rfl (l' := (la9 a0 a1 a2 (oN oo) (oN n_) (oN dp) b56 (oN dp))) rfl (iW X56 hx (D 38 rfl) rfl (iW X56 hx (D 39 rfl) rfl (cN X56 hx (D 40 rfl) rfl (tlt ((by rw [own_natlt (by omega) (by omega)]; exact hlt) : (oN dp) < (oN n_))).2.1 (aW X56 hx (D 41 rfl) rfl rfl (iW X56 hx (D 42 rfl) rfl (iI X56 hx (D 43 rfl) rfl (l' := (la9 a0 a1 a2 (oN oo) (oN n_) (oN dp) b56 ((oN dp) + (1 : Int32)))) rfl (X56.baloadBytes hx (j := (oN dp)) (v := (.int (((pre.drop oo).take n_).getD dp 0))) (by rw [(rfl : T56.heap = T56.heap)]; exact Ar75.1) (State.isArrayOf_alike hZ.alike Ar75.2.1) Ar75.2.2 hin75 hat75 (g := (mkF m 107 (la9 a0 a1 a2 (oN oo) (oN n_) (oN dp) b56 ((oN dp) + (1 : Int32))) [(.int (oN dp)), (.ref b56)])) rfl rfl (D 44 rfl) _ ht)))))))))) ?_
  refine OFin.of (S' := T56.setTop (mkF m 187 (la10 a0 a1 a2 (oN oo) (oN n_) (oN dp) b56 (((oN dp) + (1 : Int32)) + (-1 : Int32)) (((pre.drop oo).take n_).getD dp 0)) [])) (fun t ht => sW X56 hx (D 45 rfl) rfl (l' := (la10 a0 a1 a2 (oN oo) (oN n_) (oN dp) b56 ((oN dp) + (1 : Int32)) (((pre.drop oo).take n_).getD dp 0))) rfl (iW X56 hx (D 46 rfl) rfl (fY X56 hx 112 129 rfl (D 47 rfl) rfl ((if0 _ _).trans (tlt (hneg : (((pre.drop oo).take n_).getD dp 0) < 0)).1) (by decide) (iW X56 hx (D 48 rfl) rfl (XS.sipush X56.here hx rfl (D 49 rfl) (XS.iand X56.here hx rfl (D 50 rfl) rfl (XS.sipush X56.here hx rfl (D 51 rfl) (cY X56 hx 138 184 rfl (D 52 rfl) rfl (feq ((own_negb hok.2.1 hok.2.2).2.2.2 : ¬ (((((pre.drop oo).take n_).getD dp 0) &&& (254 : Int32)) = 194))).2 (by decide) (iI X56 hx (D 53 rfl) rfl (l' := (la10 a0 a1 a2 (oN oo) (oN n_) (oN dp) b56 (((oN dp) + (1 : Int32)) + (-1 : Int32)) (((pre.drop oo).take n_).getD dp 0))) rfl ht))))))))) ?_
  rw [own_pm1 dp]
  obtain ⟨_, T76, Lc76, X76, hQ76, st76⟩ := own_cS X56 hx hw hZ hown 221 222 223 224 rfl rfl rfl rfl (by decide) (rmNbf l Z _ hw [] n_ T56.heap n0 Z73 hn4) (by decide) (by decide) (g := (mkF m 228 (la10 a0 a1 a2 (oN oo) (oN n_) (oN dp) b56 (oN dp) (((pre.drop oo).take n_).getD dp 0)) [(.int (oN n_))])) rfl hml rfl (argsL := [(.int (oN n_))]) (rest := []) pd_23 rfl rfl rfl (W := 0) (nE rfl) (D 59 rfl) rfl (rfl : T56.heap = T56.heap) (by decide) (by decide)
  obtain ⟨rfl, Nq76, Kq76, ⟨kb_76, f77⟩⟩ := hQ76
  have N78 := Fr.app N58 Nq76
  obtain ⟨b76, gq76⟩ : ∃ z, z = T56.heap.size := ⟨_, rfl⟩
  rw [← gq76] at f77 st76
  have g79 : n0 ≤ b76 := (nT Z73 (nE gq76.symm))
  have sz80 : h0.size ≤ b76 := (nT K74.1 (nE gq76.symm))
  have ne81 : a0 ≠ b76 := (Nat.ne_of_lt (Nat.lt_of_lt_of_le f63.lt (nE gq76.symm)))
  have ne82 : a2 ≠ b76 := (Nat.ne_of_lt (Nat.lt_of_lt_of_le f66.lt (nE gq76.symm)))
  have ne83 : b56 ≠ b76 := (Nat.ne_of_lt (Nat.lt_of_lt_of_le f57.lt (nE gq76.symm)))
  have f84 := (f63.keep Kq76)
  have f85 := (f64.keep Kq76 nin0)
  have f86 := (f65.keep Kq76 nin0)
  have f87 := (f66.keep Kq76 nin0)
  have f88 := (own_staKeep f67 Kq76 own_sn0)
  have f89 := (own_staKeep f68 Kq76 own_sn0)
  have f90 := (own_staKeep f69 Kq76 own_sn0)
  have f91 := (own_staKeep f70 Kq76 own_sn0)
  have f92 := (own_staKeep f71 Kq76 own_sn0)
  have f93 := (own_staKeep f72 Kq76 own_sn0)
  have f94 := (f57.keep Kq76 nin0)
  have Z95 := nT Z73 Kq76.1
  have K96 := K74.trans Kq76 all0
  refine OFin.of (fun t ht => gO X56 hx 187 190 rfl (D 54 rfl) (by decide) (iW X56 hx (D 55 rfl) rfl (iW X56 hx (D 56 rfl) rfl (cY X56 hx 194 226 rfl (D 57 rfl) rfl (feq hc6).2 (by decide) (iW X56 hx (D 58 rfl) rfl (st76.trans ht)))))) ?_
  obtain ⟨_, T97, Lc97, X97, hQ97, st97⟩ := own_cS X76 hx hw hZ hown 229 230 154 231 rfl rfl rfl rfl (by decide) (rmLin l Z _ hw [] b56 b76 kb_56 (oN n_) ((pre.drop oo).take n_) kb_76 n_ dp fm T76.heap n0 Z95 f91 f92 f93 f90 hfm f94 f77 g79 ne83 hn4 (own_nbl hon) hdl (fun j hj => (own_nbg hnb (i := j) (by rw [own_nbl hon]; omega)).resolve_right fun z => own_dpp hdp hj z.1)) (by decide) (by decide) (g := (mkF m 241 (la11 a0 a1 a2 (oN oo) (oN n_) (oN dp) b56 (oN dp) b76) [(.int (oN dp)), (.int 0), (.ref b76), (.int 0), (.ref b56)])) rfl hml rfl (argsL := [(.ref b56), (.int 0), (.ref b76), (.int 0), (.int (oN dp))]) (rest := []) pd_21 rfl rfl rfl (W := 0) (nE rfl) (D 66 rfl) rfl (rfl : T76.heap = T76.heap) (by decide) (by decide)
  obtain ⟨rfl, Nq97, Kq97, f97⟩ := hQ97
  have N98 := Fr.app N78 Nq97
  have f99 := (f84.keep Kq97)
  have f100 := (f85.keep Kq97 (ninS ne81 nin0))
  have f101 := (f86.keep Kq97 (ninS ne81 nin0))
  have f102 := (f87.keep Kq97 (ninS ne82 nin0))
  have f103 := (own_staKeep f88 Kq97 (own_snT f77 own_sn0))
  have f104 := (own_staKeep f89 Kq97 (own_snT f77 own_sn0))
  have f105 := (own_staKeep f90 Kq97 (own_snT f77 own_sn0))
  have f106 := (own_staKeep f91 Kq97 (own_snT f77 own_sn0))
  have f107 := (own_staKeep f92 Kq97 (own_snT f77 own_sn0))
  have f108 := (own_staKeep f93 Kq97 (own_snT f77 own_sn0))
  have f109 := (f94.keep Kq97 (ninS ne83 nin0))
  have Z110 := nT Z95 Kq97.1
  have K111 := K96.trans Kq97 (allS (Or.inr sz80) all0)
  refine OFin.of (fun t ht => XS.astore X76.here hx rfl (D 60 rfl) rfl rfl (l' := (la11 a0 a1 a2 (oN oo) (oN n_) (oN dp) b56 (oN dp) b76)) rfl (aW X76 hx (D 61 rfl) rfl rfl (iC X76 hx (D 62 rfl) (aW X76 hx (D 63 rfl) rfl rfl (iC X76 hx (D 64 rfl) (iW X76 hx (D 65 rfl) rfl (st97.trans ht))))))) ?_
  obtain ⟨_, T112, Lc112, X112, hQ112, st112⟩ := own_cS X97 hx hw hZ hown 248 249 6 250 rfl rfl rfl rfl (by decide) (rmDcd l Z _ hw [] b56 b76 kb_56 (oN n_) ((pre.drop oo).take n_) kb_76 n_ dp T97.heap n0 Z110 f106 f107 f108 f109 f97 g79 ne83 hn4 (own_nbl hon) hdl hnb) (by decide) (by decide) (g := (mkF m 255 (la11 a0 a1 a2 (oN oo) (oN n_) (oN dp) b56 (oN dp) b76) [(.int 1), (.int (oN dp)), (.ref b76), (.int (oN n_)), (.int (oN dp)), (.ref b56)])) rfl hml rfl (argsL := [(.ref b56), (.int (oN dp)), (.int (oN n_)), (.ref b76), (.int (oN dp)), (.int 1)]) (rest := []) pd_24 rfl rfl rfl (W := 0) (nE rfl) (D 73 rfl) rfl (rfl : T97.heap = T97.heap) (by decide) (by decide)
  obtain ⟨rfl, Nq112, Kq112, f112⟩ := hQ112
  have N113 := Fr.app N98 Nq112
  have f114 := (f99.keep Kq112)
  have f115 := (f100.keep Kq112 (ninS ne81 nin0))
  have f116 := (f101.keep Kq112 (ninS ne81 nin0))
  have f117 := (f102.keep Kq112 (ninS ne82 nin0))
  have f118 := (own_staKeep f103 Kq112 (own_snT f97 own_sn0))
  have f119 := (own_staKeep f104 Kq112 (own_snT f97 own_sn0))
  have f120 := (own_staKeep f105 Kq112 (own_snT f97 own_sn0))
  have f121 := (own_staKeep f106 Kq112 (own_snT f97 own_sn0))
  have f122 := (own_staKeep f107 Kq112 (own_snT f97 own_sn0))
  have f123 := (own_staKeep f108 Kq112 (own_snT f97 own_sn0))
  have f124 := (f109.keep Kq112 (ninS ne83 nin0))
  have Z125 := nT Z110 Kq112.1
  have K126 := K111.trans Kq112 (allS (Or.inr sz80) all0)
  refine OFin.of (fun t ht => aW X97 hx (D 67 rfl) rfl rfl (iW X97 hx (D 68 rfl) rfl (iW X97 hx (D 69 rfl) rfl (aW X97 hx (D 70 rfl) rfl rfl (iW X97 hx (D 71 rfl) rfl (iC X97 hx (D 72 rfl) (st112.trans ht))))))) ?_
  obtain ⟨T127, h127, X127, e127, W127, st127⟩ := putF X112 hx hZ hown (host := "") (Or.inl (wt hw 23 rfl)) Via.refl (rfl : T112.heap = T112.heap) f116 f114 (Or.inr ⟨(wt hw 8 rfl), rfl, hnm⟩) (wt hw 7 rfl) (ty := (.array .byte)) (by decide) rfl rfl (g := (mkF m 281 (la11 a0 a1 a2 (oN oo) (oN n_) (oN n_) b56 (oN dp) b76) [(.ref b76), (.ref a0)])) rfl rfl (D 80 rfl)
  have f128 := (f114.wr W127)
  have f129 := (f115.other W127 (Or.inr (sn0 hw)))
  have f130 := (f117.other W127 hne)
  have f131 := (f118.wr W127)
  have f132 := (f119.wr W127)
  have f133 := (f120.wr W127)
  have f134 := (f121.wr W127)
  have f135 := (f122.wr W127)
  have f136 := (f123.wr W127)
  have f137 := (f124.other W127 (Ne.symm ne61))
  have f138 := (f112.other W127 (Ne.symm ne81))
  have Z139 := nT Z125 (Keep.of_wr W127).1
  have K140 := K126.wr W127 (Or.inl (mG (i := 0) rfl))
  have N141 := Fr.snoc X127 N113 g0
  have f142 : Fld Z h127 a0 cB "value" "[B" (.ref b76) := (f116.same W127)
  refine OFin.of (fun t ht => sW X112 hx (D 74 rfl) rfl (l' := (la11 a0 a1 a2 (oN oo) (oN n_) (oN n_) b56 (oN dp) b76)) rfl (iW X112 hx (D 75 rfl) rfl (iW X112 hx (D 76 rfl) rfl (cY X112 hx 264 278 rfl (D 77 rfl) rfl (teq (rfl : (oN n_) = (oN n_))).1 (by decide) (aN X112 hx (D 78 rfl) rfl rfl (aW X112 hx (D 79 rfl) rfl rfl (st127 t ht))))))) ?_
  obtain ⟨T143, h143, X143, e143, W143, st143⟩ := putFN X127 hx hZ hown (wt hw 30 rfl) Via.refl e127 f129 f128 (Or.inr ⟨(wt hw 9 rfl), rfl, hnm⟩) (wt hw 7 rfl) (ty := .byte) (v' := (.int 1)) (by decide) rfl rfl (g := (mkF m 286 (la11 a0 a1 a2 (oN oo) (oN n_) (oN n_) b56 (oN dp) b76) [(.int 1), (.ref a0)])) rfl rfl (D 83 rfl)
  have f144 := (f128.wr W143)
  have f145 := (f130.other W143 hne)
  have f146 := (f131.wr W143)
  have f147 := (f132.wr W143)
  have f148 := (f133.wr W143)
  have f149 := (f134.wr W143)
  have f150 := (f135.wr W143)
  have f151 := (f136.wr W143)
  have f152 := (f137.other W143 (Ne.symm ne61))
  have f153 := (f138.other W143 (Ne.symm ne81))
  have f154 := (f142.other W143 (Or.inr (sn1 hw)))
  have Z155 := nT Z139 (Keep.of_wr W143).1
  have K156 := K140.wr W143 (Or.inl (mG (i := 0) rfl))
  have N157 := Fr.snoc X143 N141 g0
  have f158 : Fld Z h143 a0 cB "coder" "B" (.int 1) := (f129.same W143)
  refine OFin.of (fun t ht => aN X127 hx (D 81 rfl) rfl rfl (iC X127 hx (D 82 rfl) (st143 t ht))) ?_
  refine OFin.of (S' := T143.setTop (mkF m 879 (la11 a0 a1 a2 (oN oo) (oN n_) (oN n_) b56 (oN dp) b76) [])) (fun t ht => gO X143 hx 289 879 rfl (D 84 rfl) (by decide) ht) ?_
  exact OFin.retV X143 hx hlk hret (D 85 rfl) (by decide) (by decide) (by rw [e143]; exact ⟨rfl, N157, K156, b76, kb_76, f154, Or.inr ⟨f158, f153⟩⟩)
theorem efIu0 {m : MethodId} {a0 a1 a2 : Addr} {p3 : Int32} : entryFrame m #[(.ref a0), (.ref a1), (.ref a2), (.int p3), (.int 0)] 11 = mkF m 0 #[.val (.ref a0), .val (.ref a1), .val (.ref a2), .val (.int p3), .val (.int 0), .unset, .unset, .unset, .unset, .unset, .unset] [] := by first | (simp [entryFrame, mkF, argsToLocals, Value.category]; done) | rfl
def QIu0 (Z : State) (a0 a1 a2 : Addr) (p3 : Int32) (h0 : Heap) (n0 : Nat) (v : Option Value) (h : Heap) (L : List Loc) : Prop := v = none ∧ Fr n0 L ∧ Keep h0 h [a0] ∧ ∃ (t : Addr) (kb : ClassId), Fld Z h a0 cB "coder" "B" (.int 0) ∧ Fld Z h a0 cB "value" "[B" (.ref t) ∧ Arv Z h t kb .byte (0 : Int32) [] (.int 0)
theorem rmIu0 (l : Launch) (Z : State) (a0 : Array Value) (hw : HW a0 Z) (ws : List Jvm.Cond) (a0 a1 a2 : Addr) (p3 : Int32) (h0 : Heap) (n0 : Nat) (Z0 : n0 ≤ h0.size) (EA : Exa Z h0 a0 cB) (Fc : Fld Z h0 a0 cB "coder" "B" (.int 0)) (Fv : Fld Z h0 a0 cB "value" "[B" .null) (g0 : n0 ≤ a0) :
  ConH consts_1 l mn44 (Jvm.Cond.codeWith mn44 jdk_42_method_11_code 11 none [((800 : Nat), (813 : Nat), (816 : Nat), (202 : Nat))]) ws (⟨1, 4, 8, 12⟩ : Jvm.Room) #[(.ref a0), (.ref a1), (.ref a2), (.int p3), (.int 0)] Z h0 (QIu0 Z a0 a1 a2 p3 h0 n0) := by
 refine own_ofH (plainFor_of_name pn_2) hisWith dl_jdk_42_11 ?_
 intro p e s m below meth c s₁ hx D hlk hret hml hZ hown hnm X0 e0 hh hC0
 replace hown : s.vm.findClass cB = some m.cls := hown
 have N0 := Fr.nil n0
 have hR0 : CHr Z consts_1 s.vm h0 s.vm h0 := CHr.refl hC0
 have hEL := own_EW hw
 rw [efIu0]
 have K0 : Keep h0 h0 [a0] := Keep.refl _ _
 obtain ⟨T1, X1, e1, st1⟩ := initO X0 hx hZ hown (wt hw 135 rfl) (wt hw 41 rfl) (wt hw 42 rfl) e0 (g := (mkF m 1 #[.val (.ref a0), .val (.ref a1), .val (.ref a2), .val (.int p3), .val (.int 0), .unset, .unset, .unset, .unset, .unset, .unset] [(.ref a0)])) rfl (by rw [hml]; rfl) rfl (D 1 rfl) (by decide) (W := 0) (by show 2 * 0 + _ ≤ _; exact nE rfl) (by decide)
 refine OFin.of (fun t ht => aN X0 hx (D 0 rfl) rfl rfl (st1 t ht)) ?_
 obtain ⟨al2, T2, h2, k2, lv2, c2, X2, e2, E2, S2, K2, hZ2, hown2, Ax2, Fc2, Fv2, Va2, -, -, CH2, -, nx2, st2⟩ := ldcCH (s := s) (vm0 := s.vm) X1 hx hZ hown (wt hw 136 rfl) (own_strAtoms hw) e1 ((State.WarmedH.refl s).since h0.size) (Nat.le_refl _) hEL (mG (i := 21) rfl) hR0.1 (vs := []) (z := (0 : Int32)) ⟨by decide, rfl⟩ (by decide) (by decide) (g := (mkF m 10 #[.val (.ref a0), .val (.ref a1), .val (.ref a2), .val (.int p3), .val (.int 0), .unset, .unset, .unset, .unset, .unset, .unset] [(.ref a0)])) rfl (D 87 rfl) (n := 0) (by decide) (by decide) (by decide) (by decide)
 have hA3 := CH2
 have sf4 := hA3.safe EA.lt (own_safeNull hZ.alike EA Fv)
 have hR5 := hR0.trans hA3
 have f6 := EA.ext E2
 have f7 := Fc.ext E2
 have f8 := Fv.ext E2
 have Z9 := nT Z0 E2.1
 have K10 := K0.ext E2
 have ns11 := nx2 a0 sf4
 refine OFin.of (fun t ht => iW X1 hx (D 2 rfl) rfl (fN X1 hx (D 3 rfl) rfl ((if0 _ _).trans (teq (by decide : (0 : Int32) = 0)).2) (aN X1 hx (D 86 rfl) rfl rfl (st2 t ht)))) ?_
 obtain ⟨T12, X12, e12, st12⟩ := getF X2 hx hZ2 hown2 (host := "") (Or.inl (wt hw 23 rfl)) Via.refl e2 Fv2 (g := (mkF m 12 #[.val (.ref a0), .val (.ref a1), .val (.ref a2), .val (.int p3), .val (.int 0), .unset, .unset, .unset, .unset, .unset, .unset] [(.ref al2), (.ref a0)])) rfl rfl (D 88 rfl)
 refine OFin.of st12 ?_
 obtain ⟨T13, h13, X13, e13, W13, st13⟩ := putF X12 hx hZ2 hown2 (host := "") (Or.inl (wt hw 23 rfl)) Via.refl e12 f8 f6 (Or.inr ⟨(wt hw 8 rfl), rfl, hnm⟩) (wt hw 7 rfl) (ty := (.array .byte)) (by decide) rfl rfl (g := (mkF m 15 #[.val (.ref a0), .val (.ref a1), .val (.ref a2), .val (.int p3), .val (.int 0), .unset, .unset, .unset, .unset, .unset, .unset] [(.ref lv2), (.ref a0)])) rfl rfl (D 89 rfl)
 have hA14 := CHr.wr W13 sf4 hR5.1
 have sf15 := hA14.safe f6.lt sf4
 have hR16 := hR5.trans hA14
 have f17 := (f6.wr W13)
 have f18 := (f7.other W13 (Or.inr (sn0 hw)))
 have f19 := (Ax2.wr W13)
 have f20 := (Fc2.other W13 (Or.inl (Ne.symm ns11.1)))
 have f21 := (Fv2.other W13 (Or.inl (Ne.symm ns11.1)))
 have f22 := (Va2.other W13 (Ne.symm ns11.2))
 have Z23 := nT Z9 (Keep.of_wr W13).1
 have K24 := K10.wr W13 (Or.inl (mG (i := 0) rfl))
 have N25 := Fr.snoc X13 N0 g0
 have kk26 : k2 ≤ h13.size := (nT K2 (Keep.of_wr W13).1)
 have f27 : Fld Z h13 a0 cB "value" "[B" (.ref lv2) := (f8.same W13)
 refine OFin.of st13 ?_
 obtain ⟨al28, T28, h28, k28, lv28, c28, X28, e28, E28, S28, K28, hZ28, hown28, Ax28, Fc28, Fv28, Va28, -, -, CH28, -, nx28, st28⟩ := ldcCH (s := s) (vm0 := T2.vm) X13 hx hZ2 hown2 (wt hw 136 rfl) (own_strAtoms hw) e13 S2 kk26 hEL (mG (i := 21) rfl) hR16.1 (vs := []) (z := (0 : Int32)) ⟨by decide, rfl⟩ (by decide) (by decide) (g := (mkF m 19 #[.val (.ref a0), .val (.ref a1), .val (.ref a2), .val (.int p3), .val (.int 0), .unset, .unset, .unset, .unset, .unset, .unset] [(.ref a0)])) rfl (D 91 rfl) (n := 0) (by decide) (by decide) (by decide) (by decide)
 have hA29 := CH28
 have sf30 := hA29.safe f17.lt sf15
 have hR31 := hR16.trans hA29
 have f32 := f17.ext E28
 have f33 := f18.ext E28
 have f34 := f19.ext E28
 have f35 := f20.ext E28
 have f36 := f21.ext E28
 have f37 := f22.ext E28
 have f38 := f27.ext E28
 have Z39 := nT Z23 E28.1
 have K40 := K24.ext E28
 have ns41 := nx28 a0 sf30
 refine OFin.of (fun t ht => aN X13 hx (D 90 rfl) rfl rfl (st28 t ht)) ?_
 obtain ⟨T42, X42, e42, st42⟩ := getF X28 hx hZ28 hown28 (host := "") (Or.inl (wt hw 30 rfl)) Via.refl e28 Fc28 (g := (mkF m 21 #[.val (.ref a0), .val (.ref a1), .val (.ref a2), .val (.int p3), .val (.int 0), .unset, .unset, .unset, .unset, .unset, .unset] [(.ref al28), (.ref a0)])) rfl rfl (D 92 rfl)
 refine OFin.of st42 ?_
 obtain ⟨T43, h43, X43, e43, W43, st43⟩ := putFN X42 hx hZ28 hown28 (wt hw 30 rfl) Via.refl e42 f33 f32 (Or.inr ⟨(wt hw 9 rfl), rfl, hnm⟩) (wt hw 7 rfl) (ty := .byte) (v' := (.int 0)) (by decide) rfl rfl (g := (mkF m 24 #[.val (.ref a0), .val (.ref a1), .val (.ref a2), .val (.int p3), .val (.int 0), .unset, .unset, .unset, .unset, .unset, .unset] [(.int 0), (.ref a0)])) rfl rfl (D 93 rfl)
 have hA44 := CHr.wr W43 sf30 hR31.1
 have sf45 := hA44.safe f32.lt sf30
 have hR46 := hR31.trans hA44
 have f47 := (f32.wr W43)
 have f48 := (f34.wr W43)
 have f49 := (f35.other W43 (Or.inl (Ne.symm ns11.1)))
 have f50 := (f36.other W43 (Or.inl (Ne.symm ns11.1)))
 have f51 := (f37.other W43 (Ne.symm ns11.2))
 have f52 := (f38.other W43 (Or.inr (sn1 hw)))
 have f53 := (Ax28.wr W43)
 have f54 := (Fc28.other W43 (Or.inl (Ne.symm ns41.1)))
 have f55 := (Fv28.other W43 (Or.inl (Ne.symm ns41.1)))
 have f56 := (Va28.other W43 (Ne.symm ns41.2))
 have Z57 := nT Z39 (Keep.of_wr W43).1
 have K58 := K40.wr W43 (Or.inl (mG (i := 0) rfl))
 have N59 := Fr.snoc X43 N25 g0
 have kk60 : k28 ≤ h43.size := (nT K28 (Keep.of_wr W43).1)
 have f61 : Fld Z h43 a0 cB "coder" "B" (.int 0) := (f33.same W43)
 refine OFin.of st43 ?_
 refine OFin.of (S' := T43.setTop (mkF m 879 #[.val (.ref a0), .val (.ref a1), .val (.ref a2), .val (.int p3), .val (.int 0), .unset, .unset, .unset, .unset, .unset, .unset] [])) (fun t ht => gO X43 hx 27 879 rfl (D 94 rfl) (by decide) ht) ?_
 have rH62 : CHr Z consts_1 s.vm s.heap T43.vm T43.heap := by rw [hh, e43]; exact hR46.trans (CHv.at (s := s) (vm0 := T28.vm) X43 hZ28 hEL hR46.1)
 exact own_retVH (s := s) (vm₁ := T28.vm) X43 S28 (by rw [e43]; exact kk60) rH62 hx hlk hret (D 85 rfl) (by decide) (by decide) (by rw [e43]; exact ⟨rfl, N59, K58, lv2, c2, f61, f52, f51⟩)
theorem efIb0 {m : MethodId} {a0 a1 a4 : Addr} {oo : Nat} : entryFrame m #[(.ref a0), (.ref a1), (.int (oN oo)), (.int 0), (.ref a4)] 5 = mkF m 0 #[.val (.ref a0), .val (.ref a1), .val (.int (oN oo)), .val (.int 0), .val (.ref a4)] [] := by first | (simp [entryFrame, mkF, argsToLocals, Value.category]; done) | rfl
def QIb0 (Z : State) (a0 a1 a4 : Addr) (kt : ClassId) (nt : Int32) (pre : List Int32) (oo : Nat) (fm : Value) (h0 : Heap) (n0 : Nat) (v : Option Value) (h : Heap) (L : List Loc) : Prop := v = none ∧ Fr n0 L ∧ Keep h0 h [a0] ∧ ∃ (t : Addr) (kb : ClassId), Fld Z h a0 cB "coder" "B" (.int 0) ∧ Fld Z h a0 cB "value" "[B" (.ref t) ∧ Arv Z h t kb .byte (0 : Int32) [] (.int 0)
theorem rmIb0 (l : Launch) (Z : State) (a0 : Array Value) (hw : HW a0 Z) (ws : List Jvm.Cond) (a0 a1 a4 : Addr) (kt : ClassId) (nt : Int32) (pre : List Int32) (oo : Nat) (fm : Value) (h0 : Heap) (n0 : Nat) (Z0 : n0 ≤ h0.size) (EA : Exa Z h0 a0 cB) (Fc : Fld Z h0 a0 cB "coder" "B" (.int 0)) (Fv : Fld Z h0 a0 cB "value" "[B" .null) (EC : Exa Z h0 a4 "sun/nio/cs/UTF_8") (Tx : Txt Z h0 a1 kt nt pre) (Sfm : Sta Z h0 cG "SIOOBE_FORMATTER" cE fm) (hfm : fm.isRef = true) (g0 : n0 ≤ a0) (hne : a1 ≠ a0) (hon : oo + 0 ≤ pre.length) :
  ConH consts_1 l mn45 (Jvm.Cond.code mn45 jdk_42_method_10_code 5 none) ws (⟨2, 4, 8, 34⟩ : Jvm.Room) #[(.ref a0), (.ref a1), (.int (oN oo)), (.int 0), (.ref a4)] Z h0 (QIb0 Z a0 a1 a4 kt nt pre oo fm h0 n0) := by
 refine own_ofH (plainFor_of_name pn_2) hisR dl_jdk_42_10 ?_
 intro p e s m below meth c s₁ hx D hlk hret hml hZ hown hnm X0 e0 hh hC0
 replace hown : s.vm.findClass cB = some m.cls := hown
 have N0 := Fr.nil n0
 have hR0 : CHr Z consts_1 s.vm h0 s.vm h0 := CHr.refl hC0
 have hEL := own_EW hw
 rw [efIb0]
 have K0 : Keep h0 h0 [a0] := Keep.refl _ _
 obtain ⟨_, T1, Lc1, X1, hQ1, st1⟩ := own_cS X0 hx hw hZ hown 117 118 119 120 rfl rfl rfl rfl (by decide) (rmRnn l Z _ hw [] a4 h0 n0 Z0 ) (by decide) (by decide) (g := (mkF m 3 #[.val (.ref a0), .val (.ref a1), .val (.int (oN oo)), .val (.int 0), .val (.ref a4)] [(.ref a4), (.ref a0)])) rfl hml rfl (argsL := [(.ref a4)]) (rest := [(.ref a0)]) pd_25 rfl rfl rfl (W := 1) (nE rfl) (D 2 rfl) rfl e0 (by decide) (by decide)
 obtain ⟨rfl, Nq1, hs1⟩ := hQ1
 have N2 := Fr.app N0 Nq1
 refine OFin.of (fun t ht => aN X0 hx (D 0 rfl) rfl rfl (aW X0 hx (D 1 rfl) rfl rfl (st1.trans ht))) ?_
 obtain ⟨T3, X3, e3, st3⟩ := castY X1 hx hZ hown (wt hw 121 rfl) hs1 (Ins.of_exa EC (wt hw 122 rfl)) (g := (mkF m 6 #[.val (.ref a0), .val (.ref a1), .val (.int (oN oo)), .val (.int 0), .val (.ref a4)] [(.ref a4), (.ref a0)])) rfl rfl (D 3 rfl)
 refine OFin.of st3 ?_
 obtain ⟨bs4, ⟨cl4, Ar4, q4, S4, Ng4, H4, G4⟩, -⟩ := id Tx
 refine OFin.of (fun t ht => aN X3 hx (D 4 rfl) rfl rfl (iN X3 hx (D 5 rfl) rfl (iN X3 hx (D 6 rfl) rfl (aN X3 hx (D 7 rfl) rfl rfl (own_alen X3 hx hZ e3 Ar4 S4 Ng4 (g := (mkF m 13 #[.val (.ref a0), .val (.ref a1), .val (.int (oN oo)), .val (.int 0), .val (.ref a4)] [(.ref a1), (.int 0), (.int (oN oo)), (.ref a1), (.ref a4), (.ref a0)])) rfl rfl (D 8 rfl) ht))))) ?_
 obtain ⟨_, T5, Lc5, X5, hQ5, st5⟩ := own_cS X3 hx hw hZ hown 123 124 6 125 rfl rfl rfl rfl (by decide) (rmCbo l Z _ hw [] (oN oo) (0 : Int32) nt fm h0 n0 Z0 Sfm hfm (own_cf1 Tx hon) (own_cf2 Tx hon)) (by decide) (by decide) (g := (mkF m 14 #[.val (.ref a0), .val (.ref a1), .val (.int (oN oo)), .val (.int 0), .val (.ref a4)] [(.int nt), (.int 0), (.int (oN oo)), (.ref a1), (.ref a4), (.ref a0)])) rfl hml rfl (argsL := [(.int (oN oo)), (.int 0), (.int nt)]) (rest := [(.ref a1), (.ref a4), (.ref a0)]) pd_18 rfl rfl rfl (W := 3) (nE rfl) (D 9 rfl) rfl e3 (by decide) (by decide)
 obtain ⟨rfl, Nq5, hs5⟩ := hQ5
 have N6 := Fr.app N2 Nq5
 refine OFin.to st5 ?_
 obtain ⟨_, T7, Lc7, X7, Sq7, gr7, hQ7, CH7, st7⟩ := own_specialSH (s := s) (vm0 := s.vm) (W := 0) X5 hx (y := mn44) rfl hown (mvT hZ (wt hw 131 rfl)) (mvT hZ (wt hw 132 rfl)) (mvT hZ (wt hw 134 rfl)) (by decide) (rmIu0 l Z _ hw [] a0 a4 a1 (oN oo) h0 n0 Z0 EA Fc Fv g0) hZ (wt hw 134 rfl) (wt hw 6 rfl) (by decide) (by decide) hEL hR0.1 (g := (mkF m 18 #[.val (.ref a0), .val (.ref a1), .val (.int (oN oo)), .val (.int 0), .val (.ref a4)] [(.int 0), (.int (oN oo)), (.ref a1), (.ref a4), (.ref a0)])) rfl (by rw [hml]; rfl) (a := a0) (argsL := [(.ref a4), (.ref a1), (.int (oN oo)), (.int 0)]) (rest := []) (lenOf pd_26 rfl) rfl (by show 2 * 0 + _ ≤ _; exact nE rfl) (D 11 rfl) rfl hs5 (by decide : 0 + 4 ≤ _) (by decide : 0 + 8 ≤ _)
 have hZ7 : Z.Warmed39 (s.setVm T7.vm).vm := State.Warmed39.trans (t := s.setVm s.vm) hZ Sq7.1
 have hown7 : (s.setVm T7.vm).vm.findClass cB = some m.cls := by rw [show (s.setVm T7.vm).vm = T7.vm from rfl, Sq7.1.alike.findClass]; exact hown
 have S7 : s.Since T7.vm T7.heap.size := State.Since.trans (s := s) (vm₁ := s.vm) ((State.WarmedH.refl s).since h0.size) Sq7 (nT (Nat.le_refl _) (by rw [← hs5]; exact gr7))
 obtain ⟨rfl, Nq7, Kq7, t7, kb7, f7a, f7b, f7c⟩ := hQ7
 have N8 := Fr.app N6 Nq7
 have hA9 := CH7
 have hR10 := hR0.trans hA9
 have f11 := (EA.keep Kq7)
 have f12 := (EC.keep Kq7)
 have f13 := (Tx.keep Kq7 (ninS hne nin0))
 have f14 := (own_staKeep Sfm Kq7 (own_snS EA own_sn0))
 have Z15 := nT Z0 Kq7.1
 have K16 := K0.trans Kq7 (allS (Or.inl (mG (i := 0) rfl)) all0)
 refine OFin.of (fun t ht => iN X5 hx (D 10 rfl) rfl (st7.trans ht)) ?_
 have rH17 : CHr Z consts_1 s.vm s.heap T7.vm T7.heap := by rw [hh]; exact hR10.trans (CHv.at (s := s) (vm0 := T7.vm) X7 hZ7 hEL hR10.1)
 exact own_retVH (s := s) (vm₁ := T7.vm) X7 S7 (Nat.le_refl _) rH17 hx hlk hret (D 12 rfl) (by decide) (by decide) (by exact ⟨rfl, N8, K16, t7, kb7, f7a, f7b, f7c⟩)
theorem efIb {m : MethodId} {a0 a1 a4 : Addr} {oo n_ : Nat} : entryFrame m #[(.ref a0), (.ref a1), (.int (oN oo)), (.int (oN n_)), (.ref a4)] 5 = mkF m 0 #[.val (.ref a0), .val (.ref a1), .val (.int (oN oo)), .val (.int (oN n_)), .val (.ref a4)] [] := by first | (simp [entryFrame, mkF, argsToLocals, Value.category]; done) | rfl
def QIb (Z : State) (a0 a1 a4 : Addr) (kt : ClassId) (nt : Int32) (pre : List Int32) (oo n_ : Nat) (cs : Int32) (fm : Value) (h0 : Heap) (n0 : Nat) (v : Option Value) (h : Heap) (L : List Loc) : Prop := v = none ∧ Fr n0 L ∧ Keep h0 h [a0] ∧ ∃ (t : Addr) (kb : ClassId), Fld Z h a0 cB "value" "[B" (.ref t) ∧ ((Fld Z h a0 cB "coder" "B" (.int 0) ∧ Txt Z h t kb (oN n_) ((pre.drop oo).take n_) ∧ ∀ j, j < n_ → ¬ ((pre.drop oo).take n_).getD j 0 < 0) ∨ (Fld Z h a0 cB "coder" "B" (.int 1) ∧ Txt Z h t kb (oN (2 * n_)) (own_enc (((pre.drop oo).take n_).map own_dc))))
theorem rmIb (l : Launch) (Z : State) (a0 : Array Value) (hw : HW a0 Z) (ws : List Jvm.Cond) (a0 a1 a4 : Addr) (kt : ClassId) (nt : Int32) (pre : List Int32) (oo n_ : Nat) (cs : Int32) (fm : Value) (h0 : Heap) (n0 : Nat) (Z0 : n0 ≤ h0.size) (EA : Exa Z h0 a0 cB) (Fc : Fld Z h0 a0 cB "coder" "B" (.int 0)) (Fv : Fld Z h0 a0 cB "value" "[B" .null) (EC : Exa Z h0 a4 "sun/nio/cs/UTF_8") (Tx : Txt Z h0 a1 kt nt pre) (Scs : Sta Z h0 cB "COMPACT_STRINGS" "Z" (.int cs)) (hcs : ¬ cs = 0) (Su8 : Sta Z h0 "sun/nio/cs/UTF_8" "INSTANCE" "Lsun/nio/cs/UTF_8;" (.ref a4)) (Sfm : Sta Z h0 cG "SIOOBE_FORMATTER" cE fm) (hfm : fm.isRef = true) (Sad : Sta Z h0 cD "$assertionsDisabled" "Z" (.int 1)) (Shi : Sta Z h0 cD "HI_BYTE_SHIFT" "I" (.int 0)) (Slo : Sta Z h0 cD "LO_BYTE_SHIFT" "I" (.int 8)) (g0 : n0 ≤ a0) (hne : a1 ≠ a0) (hon : oo + n_ ≤ pre.length) (ho : 0 < oo) (hn4 : n_ ≤ 4) (hn1 : 1 ≤ n_) (hnb : OwnNb ((pre.drop oo).take n_)) :
  Con l mn45 (Jvm.Cond.code mn45 jdk_42_method_10_code 5 none) ws (⟨6, 2, 16, 98⟩ : Jvm.Room) #[(.ref a0), (.ref a1), (.int (oN oo)), (.int (oN n_)), (.ref a4)] Z h0 (QIb Z a0 a1 a4 kt nt pre oo n_ cs fm h0 n0) := by
 refine own_of (plainFor_of_name pn_2) hisR dl_jdk_42_10 ?_
 intro p e s m below meth c s₁ hx D hlk hret hml hZ hown hnm X0 e0
 replace hown : s.vm.findClass cB = some m.cls := hown
 have N0 := Fr.nil n0
 rw [efIb]
 have K0 : Keep h0 h0 [a0] := Keep.refl _ _
 obtain ⟨_, T1, Lc1, X1, hQ1, st1⟩ := own_cS X0 hx hw hZ hown 117 118 119 120 rfl rfl rfl rfl (by decide) (rmRnn l Z _ hw [] a4 h0 n0 Z0 ) (by decide) (by decide) (g := (mkF m 3 #[.val (.ref a0), .val (.ref a1), .val (.int (oN oo)), .val (.int (oN n_)), .val (.ref a4)] [(.ref a4), (.ref a0)])) rfl hml rfl (argsL := [(.ref a4)]) (rest := [(.ref a0)]) pd_25 rfl rfl rfl (W := 1) (nE rfl) (D 2 rfl) rfl e0 (by decide) (by decide)
 obtain ⟨rfl, Nq1, hs1⟩ := hQ1
 have N2 := Fr.app N0 Nq1
 refine OFin.of (fun t ht => aN X0 hx (D 0 rfl) rfl rfl (aW X0 hx (D 1 rfl) rfl rfl (st1.trans ht))) ?_
 obtain ⟨T3, X3, e3, st3⟩ := castY X1 hx hZ hown (wt hw 121 rfl) hs1 (Ins.of_exa EC (wt hw 122 rfl)) (g := (mkF m 6 #[.val (.ref a0), .val (.ref a1), .val (.int (oN oo)), .val (.int (oN n_)), .val (.ref a4)] [(.ref a4), (.ref a0)])) rfl rfl (D 3 rfl)
 refine OFin.of st3 ?_
 obtain ⟨bs4, ⟨cl4, Ar4, q4, S4, Ng4, H4, G4⟩, -⟩ := id Tx
 refine OFin.of (fun t ht => aN X3 hx (D 4 rfl) rfl rfl (iN X3 hx (D 5 rfl) rfl (iN X3 hx (D 6 rfl) rfl (aN X3 hx (D 7 rfl) rfl rfl (own_alen X3 hx hZ e3 Ar4 S4 Ng4 (g := (mkF m 13 #[.val (.ref a0), .val (.ref a1), .val (.int (oN oo)), .val (.int (oN n_)), .val (.ref a4)] [(.ref a1), (.int (oN n_)), (.int (oN oo)), (.ref a1), (.ref a4), (.ref a0)])) rfl rfl (D 8 rfl) ht))))) ?_
 obtain ⟨_, T5, Lc5, X5, hQ5, st5⟩ := own_cS X3 hx hw hZ hown 123 124 6 125 rfl rfl rfl rfl (by decide) (rmCbo l Z _ hw [] (oN oo) (oN n_) nt fm h0 n0 Z0 Sfm hfm (own_cf1 Tx hon) (own_cf2 Tx hon)) (by decide) (by decide) (g := (mkF m 14 #[.val (.ref a0), .val (.ref a1), .val (.int (oN oo)), .val (.int (oN n_)), .val (.ref a4)] [(.int nt), (.int (oN n_)), (.int (oN oo)), (.ref a1), (.ref a4), (.ref a0)])) rfl hml rfl (argsL := [(.int (oN oo)), (.int (oN n_)), (.int nt)]) (rest := [(.ref a1), (.ref a4), (.ref a0)]) pd_18 rfl rfl rfl (W := 3) (nE rfl) (D 9 rfl) rfl e3 (by decide) (by decide)
 obtain ⟨rfl, Nq5, hs5⟩ := hQ5
 have N6 := Fr.app N2 Nq5
 refine OFin.to st5 ?_
 obtain ⟨_, _, ⟨T7, L7, k7, n7⟩, -, X7, ⟨Lc7, hQ7, l7, y7, z7⟩, st7⟩ := X5.specialBackH hx (y := mn44) rfl hown (mvT hZ (wt hw 131 rfl)) (mvT hZ (wt hw 132 rfl)) (mvT hZ (wt hw 134 rfl)) (by decide) (backOfWith (W := 0) (rmIu l Z _ hw [] a0 a4 a1 kt nt pre oo n_ cs fm h0 n0 Z0 EA Fc Fv Tx Scs hcs Su8 Sfm hfm Sad Shi Slo g0 hne hon ho hn4 hn1 hnb) hZ (wt hw 134 rfl) (wt hw 6 rfl) (by decide) (by decide)) (g := (mkF m 18 #[.val (.ref a0), .val (.ref a1), .val (.int (oN oo)), .val (.int (oN n_)), .val (.ref a4)] [(.int (oN n_)), (.int (oN oo)), (.ref a1), (.ref a4), (.ref a0)])) rfl (by rw [hml]; rfl) (Steps.refl _) (a := a0) (argsL := [(.ref a4), (.ref a1), (.int (oN oo)), (.int (oN n_))]) (rest := []) (lenOf pd_26 rfl) rfl (by show 2 * 0 + _ ≤ _; exact nE rfl) (D 11 rfl) (fun _ _ => ⟨rfl, hs5, (by decide : 0 + 2 ≤ _), (by decide : 0 + 16 ≤ _)⟩)
 dsimp only [Pt.U, Pt.locs, Pt.cells, Pt.slots] at X7 l7 y7 z7 st7 hQ7
 subst l7 y7 z7
 obtain ⟨rfl, Nq7, Kq7, t7, kb7, f7b, f7c⟩ := hQ7
 have N8 := Fr.app N6 Nq7
 have f9 := (EA.keep Kq7)
 have f10 := (EC.keep Kq7)
 have f11 := (Tx.keep Kq7 (ninS hne nin0))
 have f12 := (own_staKeep Scs Kq7 (own_snS EA own_sn0))
 have f13 := (own_staKeep Su8 Kq7 (own_snS EA own_sn0))
 have f14 := (own_staKeep Sfm Kq7 (own_snS EA own_sn0))
 have f15 := (own_staKeep Sad Kq7 (own_snS EA own_sn0))
 have f16 := (own_staKeep Shi Kq7 (own_snS EA own_sn0))
 have f17 := (own_staKeep Slo Kq7 (own_snS EA own_sn0))
 have Z18 := nT Z0 Kq7.1
 have K19 := K0.trans Kq7 (allS (Or.inl (mG (i := 0) rfl)) all0)
 refine OFin.of (fun t ht => iN X5 hx (D 10 rfl) rfl (st7.trans ht)) ?_
 exact OFin.retV X7 hx hlk hret (D 12 rfl) (by decide) (by decide) (by exact ⟨rfl, N8, K19, t7, kb7, f7b, f7c⟩)
theorem efNm0 {m : MethodId} {a0 : Addr} : entryFrame m #[(.ref a0)] 1 = mkF m 0 #[.val (.ref a0)] [] := by first | (simp [entryFrame, mkF, argsToLocals, Value.category]; done) | rfl
def QNm0 (Z : State) (a0 tx : Addr) (kt : ClassId) (nt : Int32) (pre : List Int32) (oo : Nat) (u8 : Addr) (fm : Value) (h0 : Heap) (n0 : Nat) (v : Option Value) (h : Heap) (L : List Loc) : Prop := v = some (.ref h0.size) ∧ Fr n0 L ∧ Keep h0 h [] ∧ Snm Z h h0.size []
theorem rmNm0 (l : Launch) (Z : State) (a0 : Array Value) (hw : HW a0 Z) (ws : List Jvm.Cond) (a0 tx : Addr) (kt : ClassId) (nt : Int32) (pre : List Int32) (oo : Nat) (u8 : Addr) (fm : Value) (h0 : Heap) (n0 : Nat) (Z0 : n0 ≤ h0.size) (EO : Exa Z h0 a0 cA) (Ft : Fld Z h0 a0 cA "text" "[B" (.ref tx)) (Fns : Fld Z h0 a0 cA "nameStart" "I" (.int (oN oo))) (Fne : Fld Z h0 a0 cA "nameEnd" "I" (.int (oN (oo + 0)))) (Tx : Txt Z h0 tx kt nt pre) (EC : Exa Z h0 u8 "sun/nio/cs/UTF_8") (Sc8 : Sta Z h0 "java/nio/charset/StandardCharsets" "UTF_8" "Ljava/nio/charset/Charset;" (.ref u8)) (Sfm : Sta Z h0 cG "SIOOBE_FORMATTER" cE fm) (hfm : fm.isRef = true) (hon : oo + 0 ≤ pre.length) :
  ConH consts_1 l mn46 (Jvm.Cond.code mn46 prog_7_method_11_code 1 (some (.object cB))) ws (⟨3, 5, 12, 51⟩ : Jvm.Room) #[(.ref a0)] Z h0 (QNm0 Z a0 tx kt nt pre oo u8 fm h0 n0) := by
 refine own_ofH (plainFor_of_name pn_0) hisR dl_prog_7_11 ?_
 intro p e s m below meth c s₁ hx D hlk hret hml hZ hown hnm X0 e0 hh hC0
 replace hown : s.vm.findClass cA = some m.cls := hown
 have N0 := Fr.nil n0
 have hR0 : CHr Z consts_1 s.vm h0 s.vm h0 := CHr.refl hC0
 have hEL := own_EW hw
 rw [efNm0]
 have K0 : Keep h0 h0 [] := Keep.refl _ _
 obtain ⟨T1, h1, X1, e1, E1, A1, D1, -, st1⟩ := newO X0 hx hZ hown (wt hw 111 rfl) (wt hw 7 rfl) (wt hw 6 rfl) e0 (g := (mkF m 0 #[.val (.ref a0)] [])) rfl (D 0 rfl) (by decide) (by decide)
 obtain ⟨b1, gq1⟩ : ∃ z, z = h0.size := ⟨_, rfl⟩
 rw [← gq1] at A1 D1 st1
 have g2 : n0 ≤ b1 := (nT Z0 (nE gq1.symm))
 have sz3 : h0.size ≤ b1 := (nT K0.1 (nE gq1.symm))
 have ne4 : a0 ≠ b1 := (Nat.ne_of_lt (Nat.lt_of_lt_of_le EO.lt (nE gq1.symm)))
 have ne5 : tx ≠ b1 := (Nat.ne_of_lt (Nat.lt_of_lt_of_le Tx.lt (nE gq1.symm)))
 have ne6 : u8 ≠ b1 := (Nat.ne_of_lt (Nat.lt_of_lt_of_le EC.lt (nE gq1.symm)))
 have hA7 := CHr.ext E1 hR0.1
 have hR8 := hR0.trans hA7
 have f9 := EO.ext E1
 have f10 := Ft.ext E1
 have f11 := Fns.ext E1
 have f12 := Fne.ext E1
 have f13 := Tx.ext E1
 have f14 := EC.ext E1
 have f15 := Sc8.ext E1
 have f16 := Sfm.ext E1
 have Z17 := nT Z0 E1.1
 have K18 := K0.ext E1
 have f19 : Fld Z h1 b1 cB "value" "[B" .null := D1 (Or.inr (wt hw 8 rfl)) (ty := (.array .byte)) (by decide)
 have f20 : Fld Z h1 b1 cB "coder" "B" (.int 0) := D1 (Or.inr (wt hw 9 rfl)) (ty := .byte) (by decide)
 refine OFin.of st1 ?_
 obtain ⟨T21, X21, e21, st21⟩ := getF X1 hx hZ hown (host := "") (Or.inl (wt hw 43 rfl)) Via.refl e1 f10 (g := (mkF m 5 #[.val (.ref a0)] [(.ref a0), (.ref b1), (.ref b1)])) rfl rfl (D 3 rfl)
 refine OFin.of (fun t ht => XS.dup X1.here hx rfl (D 1 rfl) rfl rfl (aN X1 hx (D 2 rfl) rfl rfl (st21 t ht))) ?_
 obtain ⟨T22, X22, e22, st22⟩ := getF X21 hx hZ hown (host := "") (Or.inl (wt hw 79 rfl)) Via.refl e21 f11 (g := (mkF m 9 #[.val (.ref a0)] [(.ref a0), (.ref tx), (.ref b1), (.ref b1)])) rfl rfl (D 5 rfl)
 refine OFin.of (fun t ht => aN X21 hx (D 4 rfl) rfl rfl (st22 t ht)) ?_
 obtain ⟨T23, X23, e23, st23⟩ := getF X22 hx hZ hown (host := "") (Or.inl (wt hw 81 rfl)) Via.refl e22 f12 (g := (mkF m 13 #[.val (.ref a0)] [(.ref a0), (.int (oN oo)), (.ref tx), (.ref b1), (.ref b1)])) rfl rfl (D 7 rfl)
 refine OFin.of (fun t ht => aN X22 hx (D 6 rfl) rfl rfl (st23 t ht)) ?_
 obtain ⟨T24, X24, e24, st24⟩ := getF X23 hx hZ hown (host := "") (Or.inl (wt hw 79 rfl)) Via.refl e23 f11 (g := (mkF m 17 #[.val (.ref a0)] [(.ref a0), (.int (oN (oo + 0))), (.int (oN oo)), (.ref tx), (.ref b1), (.ref b1)])) rfl rfl (D 9 rfl)
 refine OFin.of (fun t ht => aN X23 hx (D 8 rfl) rfl rfl (st24 t ht)) ?_
 refine OFin.of (S' := T24.setTop (mkF m 21 #[.val (.ref a0)] [(.int ((oN (oo + 0)) - (oN oo))), (.int (oN oo)), (.ref tx), (.ref b1), (.ref b1)])) (fun t ht => XS.isub X24.here hx rfl (D 10 rfl) rfl ht) ?_
 rw [own_subn oo 0]
 rw [show oN 0 = 0 from rfl]
 obtain ⟨T25, X25, e25, st25⟩ := getS (host := "") X24 hx hZ hown (wt hw 112 rfl) Via.refl e24 f15 (g := (mkF m 21 #[.val (.ref a0)] [(.int 0), (.int (oN oo)), (.ref tx), (.ref b1), (.ref b1)])) rfl (D 11 rfl)
 refine OFin.of st25 ?_
 obtain ⟨_, _, ⟨T26, L26, k26, n26⟩, -, X26, Sq26, gr26, ⟨Lc26, hQ26, l26, y26, z26, CH26⟩, st26⟩ := X25.specialBackS hx (y := mn45) rfl hown (mvT hZ (wt hw 114 rfl)) (mvT hZ (wt hw 115 rfl)) (mvT hZ (wt hw 116 rfl)) (by decide) (backOfSH (s := s) (vm0 := s.vm) (W := 1) (rmIb0 l Z _ hw [] b1 tx u8 kt nt pre oo fm h1 n0 Z17 A1 f20 f19 f14 f13 f16 hfm g2 ne5 hon) hZ (wt hw 116 rfl) (wt hw 6 rfl) (by decide) (by decide) hEL hR8.1) (g := (mkF m 24 #[.val (.ref a0)] [(.ref u8), (.int 0), (.int (oN oo)), (.ref tx), (.ref b1), (.ref b1)])) rfl (by rw [hml]; rfl) (Steps.refl _) (a := b1) (argsL := [(.ref tx), (.int (oN oo)), (.int 0), (.ref u8)]) (rest := [(.ref b1)]) (lenOf pd_27 rfl) rfl (by show 2 * 0 + _ ≤ _; exact nE rfl) (D 12 rfl) (fun _ _ => ⟨rfl, e25, (by decide : 1 + 4 ≤ _), (by decide : 4 + 8 ≤ _)⟩)
 dsimp only [Pt.U, Pt.locs, Pt.cells, Pt.slots] at X26 l26 y26 z26 st26 hQ26 Sq26 gr26 CH26
 subst l26 y26 z26
 have hZ26 : Z.Warmed39 (s.setVm T26.vm).vm := State.Warmed39.trans (t := s.setVm s.vm) hZ Sq26.1
 have hown26 : (s.setVm T26.vm).vm.findClass cA = some m.cls := by rw [show (s.setVm T26.vm).vm = T26.vm from rfl, Sq26.1.alike.findClass]; exact hown
 have S26 : s.Since T26.vm T26.heap.size := State.Since.trans (s := s) (vm₁ := s.vm) ((State.WarmedH.refl s).since h1.size) Sq26 (nT (Nat.le_refl _) (by rw [← e25]; exact gr26))
 obtain ⟨rfl, Nq26, Kq26, t26, kb26, f26a, f26b, f26c⟩ := hQ26
 have N27 := Fr.app N0 Nq26
 have hA28 := CH26
 have hR29 := hR8.trans hA28
 have f30 := (f9.keep Kq26)
 have f31 := (f10.keep Kq26 (ninS ne4 nin0))
 have f32 := (f11.keep Kq26 (ninS ne4 nin0))
 have f33 := (f12.keep Kq26 (ninS ne4 nin0))
 have f34 := (f13.keep Kq26 (ninS ne5 nin0))
 have f35 := (f14.keep Kq26)
 have f36 := (own_staKeep f15 Kq26 (own_snS A1 own_sn0))
 have f37 := (own_staKeep f16 Kq26 (own_snS A1 own_sn0))
 have f38 := (A1.keep Kq26)
 have Z39 := nT Z17 Kq26.1
 have K40 := K18.trans Kq26 (allS (Or.inr sz3) all0)
 refine OFin.to st26 ?_
 have rH41 : CHr Z consts_1 s.vm s.heap T26.vm T26.heap := by rw [hh]; exact hR29.trans (CHv.at (s := s) (vm0 := T26.vm) X26 hZ26 hEL hR29.1)
 exact own_retAH (s := s) (vm₁ := T26.vm) X26 S26 (Nat.le_refl _) rH41 hx hlk (t := (.object cB)) rfl rfl hret (D 13 rfl) (by decide) (by decide) (by exact ⟨by rw [← gq1], N27, K40, by rw [← gq1]; exact ⟨f38, t26, kb26, f26b, Or.inl ⟨f26a, ⟨[], f26c, rfl, rfl⟩, fun j hj => absurd hj (Nat.not_lt_zero j)⟩⟩⟩)
theorem efNmn {m : MethodId} {a0 : Addr} : entryFrame m #[(.ref a0)] 1 = mkF m 0 #[.val (.ref a0)] [] := by first | (simp [entryFrame, mkF, argsToLocals, Value.category]; done) | rfl
def QNmn (Z : State) (a0 tx : Addr) (kt : ClassId) (nt : Int32) (pre : List Int32) (oo n_ : Nat) (u8 : Addr) (fm : Value) (cs : Int32) (h0 : Heap) (n0 : Nat) (v : Option Value) (h : Heap) (L : List Loc) : Prop := v = some (.ref h0.size) ∧ Fr n0 L ∧ Keep h0 h [] ∧ Snm Z h h0.size ((pre.drop oo).take n_)
theorem rmNmn (l : Launch) (Z : State) (a0 : Array Value) (hw : HW a0 Z) (ws : List Jvm.Cond) (a0 tx : Addr) (kt : ClassId) (nt : Int32) (pre : List Int32) (oo n_ : Nat) (u8 : Addr) (fm : Value) (cs : Int32) (h0 : Heap) (n0 : Nat) (Z0 : n0 ≤ h0.size) (EO : Exa Z h0 a0 cA) (Ft : Fld Z h0 a0 cA "text" "[B" (.ref tx)) (Fns : Fld Z h0 a0 cA "nameStart" "I" (.int (oN oo))) (Fne : Fld Z h0 a0 cA "nameEnd" "I" (.int (oN (oo + n_)))) (Tx : Txt Z h0 tx kt nt pre) (EC : Exa Z h0 u8 "sun/nio/cs/UTF_8") (Sc8 : Sta Z h0 "java/nio/charset/StandardCharsets" "UTF_8" "Ljava/nio/charset/Charset;" (.ref u8)) (Sfm : Sta Z h0 cG "SIOOBE_FORMATTER" cE fm) (hfm : fm.isRef = true) (Scs : Sta Z h0 cB "COMPACT_STRINGS" "Z" (.int cs)) (hcs : ¬ cs = 0) (Su8 : Sta Z h0 "sun/nio/cs/UTF_8" "INSTANCE" "Lsun/nio/cs/UTF_8;" (.ref u8)) (Sad : Sta Z h0 cD "$assertionsDisabled" "Z" (.int 1)) (Shi : Sta Z h0 cD "HI_BYTE_SHIFT" "I" (.int 0)) (Slo : Sta Z h0 cD "LO_BYTE_SHIFT" "I" (.int 8)) (hon : oo + n_ ≤ pre.length) (ho : 0 < oo) (hn4 : n_ ≤ 4) (hn1 : 1 ≤ n_) (hnb : OwnNb ((pre.drop oo).take n_)) :
  Con l mn46 (Jvm.Cond.code mn46 prog_7_method_11_code 1 (some (.object cB))) ws (⟨7, 3, 20, 115⟩ : Jvm.Room) #[(.ref a0)] Z h0 (QNmn Z a0 tx kt nt pre oo n_ u8 fm cs h0 n0) := by
 refine own_of (plainFor_of_name pn_0) hisR dl_prog_7_11 ?_
 intro p e s m below meth c s₁ hx D hlk hret hml hZ hown hnm X0 e0
 replace hown : s.vm.findClass cA = some m.cls := hown
 have N0 := Fr.nil n0
 rw [efNmn]
 have K0 : Keep h0 h0 [] := Keep.refl _ _
 obtain ⟨T1, h1, X1, e1, E1, A1, D1, -, st1⟩ := newO X0 hx hZ hown (wt hw 111 rfl) (wt hw 7 rfl) (wt hw 6 rfl) e0 (g := (mkF m 0 #[.val (.ref a0)] [])) rfl (D 0 rfl) (by decide) (by decide)
 obtain ⟨b1, gq1⟩ : ∃ z, z = h0.size := ⟨_, rfl⟩
 rw [← gq1] at A1 D1 st1
 have g2 : n0 ≤ b1 := (nT Z0 (nE gq1.symm))
 have sz3 : h0.size ≤ b1 := (nT K0.1 (nE gq1.symm))
 have ne4 : a0 ≠ b1 := (Nat.ne_of_lt (Nat.lt_of_lt_of_le EO.lt (nE gq1.symm)))
 have ne5 : tx ≠ b1 := (Nat.ne_of_lt (Nat.lt_of_lt_of_le Tx.lt (nE gq1.symm)))
 have ne6 : u8 ≠ b1 := (Nat.ne_of_lt (Nat.lt_of_lt_of_le EC.lt (nE gq1.symm)))
 have f7 := EO.ext E1
 have f8 := Ft.ext E1
 have f9 := Fns.ext E1
 have f10 := Fne.ext E1
 have f11 := Tx.ext E1
 have f12 := EC.ext E1
 have f13 := Sc8.ext E1
 have f14 := Sfm.ext E1
 have f15 := Scs.ext E1
 have f16 := Su8.ext E1
 have f17 := Sad.ext E1
 have f18 := Shi.ext E1
 have f19 := Slo.ext E1
 have Z20 := nT Z0 E1.1
 have K21 := K0.ext E1
 have f22 : Fld Z h1 b1 cB "value" "[B" .null := D1 (Or.inr (wt hw 8 rfl)) (ty := (.array .byte)) (by decide)
 have f23 : Fld Z h1 b1 cB "coder" "B" (.int 0) := D1 (Or.inr (wt hw 9 rfl)) (ty := .byte) (by decide)
 refine OFin.of st1 ?_
 obtain ⟨T24, X24, e24, st24⟩ := getF X1 hx hZ hown (host := "") (Or.inl (wt hw 43 rfl)) Via.refl e1 f8 (g := (mkF m 5 #[.val (.ref a0)] [(.ref a0), (.ref b1), (.ref b1)])) rfl rfl (D 3 rfl)
 refine OFin.of (fun t ht => XS.dup X1.here hx rfl (D 1 rfl) rfl rfl (aN X1 hx (D 2 rfl) rfl rfl (st24 t ht))) ?_
 obtain ⟨T25, X25, e25, st25⟩ := getF X24 hx hZ hown (host := "") (Or.inl (wt hw 79 rfl)) Via.refl e24 f9 (g := (mkF m 9 #[.val (.ref a0)] [(.ref a0), (.ref tx), (.ref b1), (.ref b1)])) rfl rfl (D 5 rfl)
 refine OFin.of (fun t ht => aN X24 hx (D 4 rfl) rfl rfl (st25 t ht)) ?_
 obtain ⟨T26, X26, e26, st26⟩ := getF X25 hx hZ hown (host := "") (Or.inl (wt hw 81 rfl)) Via.refl e25 f10 (g := (mkF m 13 #[.val (.ref a0)] [(.ref a0), (.int (oN oo)), (.ref tx), (.ref b1), (.ref b1)])) rfl rfl (D 7 rfl)
 refine OFin.of (fun t ht => aN X25 hx (D 6 rfl) rfl rfl (st26 t ht)) ?_
 obtain ⟨T27, X27, e27, st27⟩ := getF X26 hx hZ hown (host := "") (Or.inl (wt hw 79 rfl)) Via.refl e26 f9 (g := (mkF m 17 #[.val (.ref a0)] [(.ref a0), (.int (oN (oo + n_))), (.int (oN oo)), (.ref tx), (.ref b1), (.ref b1)])) rfl rfl (D 9 rfl)
 refine OFin.of (fun t ht => aN X26 hx (D 8 rfl) rfl rfl (st27 t ht)) ?_
 refine OFin.of (S' := T27.setTop (mkF m 21 #[.val (.ref a0)] [(.int ((oN (oo + n_)) - (oN oo))), (.int (oN oo)), (.ref tx), (.ref b1), (.ref b1)])) (fun t ht => XS.isub X27.here hx rfl (D 10 rfl) rfl ht) ?_
 rw [own_subn oo n_]
 obtain ⟨T28, X28, e28, st28⟩ := getS (host := "") X27 hx hZ hown (wt hw 112 rfl) Via.refl e27 f13 (g := (mkF m 21 #[.val (.ref a0)] [(.int (oN n_)), (.int (oN oo)), (.ref tx), (.ref b1), (.ref b1)])) rfl (D 11 rfl)
 refine OFin.of st28 ?_
 obtain ⟨_, T29, Lc29, X29, hQ29, st29⟩ := own_cN X28 hx hw hZ hown 114 115 6 116 rfl rfl rfl rfl (by decide) rfl (rmIb l Z _ hw [] b1 tx u8 kt nt pre oo n_ cs fm h1 n0 Z20 A1 f23 f22 f12 f11 f15 hcs f16 f14 hfm f17 f18 f19 g2 ne5 hon ho hn4 hn1 hnb) (by decide) (by decide) (g := (mkF m 24 #[.val (.ref a0)] [(.ref u8), (.int (oN n_)), (.int (oN oo)), (.ref tx), (.ref b1), (.ref b1)])) rfl hml rfl (argsL := [(.ref tx), (.int (oN oo)), (.int (oN n_)), (.ref u8)]) (rest := [(.ref b1)]) pd_27 rfl rfl rfl (W := 1) (nE rfl) (D 12 rfl) rfl e28 (by decide) (by decide)
 obtain ⟨rfl, Nq29, Kq29, hS29⟩ := hQ29
 have N30 := Fr.app N0 Nq29
 have f31 := (f7.keep Kq29)
 have f32 := (f8.keep Kq29 (ninS ne4 nin0))
 have f33 := (f9.keep Kq29 (ninS ne4 nin0))
 have f34 := (f10.keep Kq29 (ninS ne4 nin0))
 have f35 := (f11.keep Kq29 (ninS ne5 nin0))
 have f36 := (f12.keep Kq29)
 have f37 := (own_staKeep f13 Kq29 (own_snS A1 own_sn0))
 have f38 := (own_staKeep f14 Kq29 (own_snS A1 own_sn0))
 have f39 := (own_staKeep f15 Kq29 (own_snS A1 own_sn0))
 have f40 := (own_staKeep f16 Kq29 (own_snS A1 own_sn0))
 have f41 := (own_staKeep f17 Kq29 (own_snS A1 own_sn0))
 have f42 := (own_staKeep f18 Kq29 (own_snS A1 own_sn0))
 have f43 := (own_staKeep f19 Kq29 (own_snS A1 own_sn0))
 have f44 := (A1.keep Kq29)
 have Z45 := nT Z20 Kq29.1
 have K46 := K21.trans Kq29 (allS (Or.inr sz3) all0)
 refine OFin.to st29 ?_
 exact OFin.retA X29 hx hlk (t := (.object cB)) rfl rfl hret (D 13 rfl) (by decide) (by decide) (by exact ⟨by rw [← gq1], N30, K46, by rw [← gq1]; exact own_snm (own_nbl hon) f44 hS29⟩)
theorem efLeU {m : MethodId} {a0 : Addr} : entryFrame m #[(.ref a0)] 1 = mkF m 0 #[.val (.ref a0)] [] := by first | (simp [entryFrame, mkF, argsToLocals, Value.category]; done) | rfl
def QLeU (Z : State) (a0 tv : Addr) (kv : ClassId) (cl : List Int32) (cs : Int32) (h0 : Heap) (n0 : Nat) (v : Option Value) (h : Heap) (L : List Loc) : Prop := v = some (.int (oN cl.length)) ∧ Fr n0 L ∧ h = h0
theorem rmLeU (l : Launch) (Z : State) (a0 : Array Value) (hw : HW a0 Z) (ws : List Jvm.Cond) (a0 tv : Addr) (kv : ClassId) (cl : List Int32) (cs : Int32) (h0 : Heap) (n0 : Nat) (Z0 : n0 ≤ h0.size) (ES : Exa Z h0 a0 cB) (Fc : Fld Z h0 a0 cB "coder" "B" (.int 1)) (Fv : Fld Z h0 a0 cB "value" "[B" (.ref tv)) (Tv : Txt Z h0 tv kv (oN (2 * cl.length)) (own_enc cl)) (Scs : Sta Z h0 cB "COMPACT_STRINGS" "Z" (.int cs)) (hcs : ¬ cs = 0) (hcl4 : cl.length ≤ 4) :
  Con l mn11 (Jvm.Cond.code mn11 jdk_42_method_54_code 1 (some .int)) ws (⟨1, 0, 0, 13⟩ : Jvm.Room) #[(.ref a0)] Z h0 (QLeU Z a0 tv kv cl cs h0 n0) := by
 refine own_of (plainFor_of_name pn_2) hisR dl_jdk_42_54 ?_
 intro p e s m below meth c s₁ hx D hlk hret hml hZ hown hnm X0 e0
 replace hown : s.vm.findClass cB = some m.cls := hown
 have N0 := Fr.nil n0
 rw [efLeU]
 obtain ⟨T1, X1, e1, st1⟩ := getF X0 hx hZ hown (host := "") (Or.inl (wt hw 23 rfl)) Via.refl e0 Fv (g := (mkF m 1 #[.val (.ref a0)] [(.ref a0)])) rfl rfl (D 1 rfl)
 refine OFin.of (fun t ht => aN X0 hx (D 0 rfl) rfl rfl (st1 t ht)) ?_
 obtain ⟨bs2, ⟨cl2, Ar2, q2, S2, Ng2, H2, G2⟩, -⟩ := id Tv
 refine OFin.of (fun t ht => own_alen X1 hx hZ e1 Ar2 S2 Ng2 (g := (mkF m 4 #[.val (.ref a0)] [(.ref tv)])) rfl rfl (D 2 rfl) ht) ?_
 obtain ⟨_, T3, Lc3, X3, hQ3, st3⟩ := own_cV X1 hx hw hZ hown 24 25 27 26 6 28 rfl rfl rfl rfl rfl rfl (by decide) ES (rmCod1 l Z _ hw [] a0 cs h0 n0 Z0 Fc Scs hcs) (by decide) (by decide) (g := (mkF m 6 #[.val (.ref a0)] [(.ref a0), (.int (oN (2 * cl.length)))])) rfl hml rfl (argsL := []) (rest := [(.int (oN (2 * cl.length)))]) pd_2 rfl rfl rfl (W := 1) (nE rfl) (D 4 rfl) rfl e1 (by decide) (by decide)
 obtain ⟨rfl, Nq3, hs3⟩ := hQ3
 have N4 := Fr.app N0 Nq3
 refine OFin.of (fun t ht => aN X1 hx (D 3 rfl) rfl rfl (st3.trans ht)) ?_
 refine OFin.of (S' := T3.setTop (mkF m 10 #[.val (.ref a0)] [(.int ((oN (2 * cl.length)) >>> ((1 : Int32) &&& 31)))])) (fun t ht => XS.ishr X3.here hx rfl (D 5 rfl) rfl ht) ?_
 exact OFin.retI X3 hx hlk hret (D 6 rfl) (by decide) (by decide) (by rw [hs3]; exact ⟨(by rw [own_shr1 (by omega)]), N4, rfl⟩)
theorem efUci {m : MethodId} {a1 : Addr} {ix : Nat} : entryFrame m #[(.int (oN ix)), (.ref a1)] 2 = mkF m 0 #[.val (.int (oN ix)), .val (.ref a1)] [] := by first | (simp [entryFrame, mkF, argsToLocals, Value.category]; done) | rfl
def QUci (Z : State) (a1 : Addr) (kv : ClassId) (cl : List Int32) (ix : Nat) (fm : Value) (h0 : Heap) (n0 : Nat) (v : Option Value) (h : Heap) (L : List Loc) : Prop := v = none ∧ Fr n0 L ∧ h = h0
theorem rmUci (l : Launch) (Z : State) (a0 : Array Value) (hw : HW a0 Z) (ws : List Jvm.Cond) (a1 : Addr) (kv : ClassId) (cl : List Int32) (ix : Nat) (fm : Value) (h0 : Heap) (n0 : Nat) (Z0 : n0 ≤ h0.size) (Tv : Txt Z h0 a1 kv (oN (2 * cl.length)) (own_enc cl)) (Sfm : Sta Z h0 cG "SIOOBE_FORMATTER" cE fm) (hfm : fm.isRef = true) (hcl4 : cl.length ≤ 4) (hix : ix < cl.length) :
  Con l mn47 (Jvm.Cond.code mn47 jdk_52_method_91_code 2 none) ws (⟨2, 0, 0, 27⟩ : Jvm.Room) #[(.int (oN ix)), (.ref a1)] Z h0 (QUci Z a1 kv cl ix fm h0 n0) := by
 refine own_of (plainFor_of_name pn_6) hisR dl_jdk_52_91 ?_
 intro p e s m below meth c s₁ hx D hlk hret hml hZ hown hnm X0 e0
 replace hown : s.vm.findClass cD = some m.cls := hown
 have N0 := Fr.nil n0
 rw [efUci]
 obtain ⟨_, T1, Lc1, X1, hQ1, st1⟩ := own_cS X0 hx hw hZ hown 238 239 223 240 rfl rfl rfl rfl (by decide) (rmUln l Z _ hw [] a1 kv cl.length (own_enc cl) h0 n0 Z0 Tv (by omega)) (by decide) (by decide) (g := (mkF m 2 #[.val (.int (oN ix)), .val (.ref a1)] [(.ref a1), (.int (oN ix))])) rfl hml rfl (argsL := [(.ref a1)]) (rest := [(.int (oN ix))]) pd_17 rfl rfl rfl (W := 1) (nE rfl) (D 2 rfl) rfl e0 (by decide) (by decide)
 obtain ⟨rfl, Nq1, hs1⟩ := hQ1
 have N2 := Fr.app N0 Nq1
 refine OFin.of (fun t ht => iN X0 hx (D 0 rfl) rfl (aN X0 hx (D 1 rfl) rfl rfl (st1.trans ht))) ?_
 obtain ⟨_, T3, Lc3, X3, hQ3, st3⟩ := own_cS X1 hx hw hZ hown 264 157 6 158 rfl rfl rfl rfl (by decide) (rmCkS l Z _ hw [] (oN ix) (oN cl.length) fm h0 n0 Z0 Sfm hfm (own_nz _ (by omega)) ((own_natlt (by omega) (by omega)).mpr hix)) (by decide) (by decide) (g := (mkF m 5 #[.val (.int (oN ix)), .val (.ref a1)] [(.int (oN cl.length)), (.int (oN ix))])) rfl hml rfl (argsL := [(.int (oN ix)), (.int (oN cl.length))]) (rest := []) pd_3 rfl rfl rfl (W := 0) (nE rfl) (D 3 rfl) rfl hs1 (by decide) (by decide)
 obtain ⟨rfl, Nq3, hs3⟩ := hQ3
 have N4 := Fr.app N2 Nq3
 refine OFin.to st3 ?_
 exact OFin.retV X3 hx hlk hret (D 4 rfl) (by decide) (by decide) (by rw [hs3]; exact ⟨rfl, N4, rfl⟩)
theorem efUgc {m : MethodId} {a0 : Addr} {ix : Nat} : entryFrame m #[(.ref a0), (.int (oN ix))] 2 = mkF m 0 #[.val (.ref a0), .val (.int (oN ix))] [] := by first | (simp [entryFrame, mkF, argsToLocals, Value.category]; done) | rfl
def QUgc (Z : State) (a0 : Addr) (kv : ClassId) (cl : List Int32) (ix : Nat) (h0 : Heap) (n0 : Nat) (v : Option Value) (h : Heap) (L : List Loc) : Prop := v = some (.int (cl.getD ix 0)) ∧ Fr n0 L ∧ h = h0
theorem rmUgc (l : Launch) (Z : State) (a0 : Array Value) (hw : HW a0 Z) (ws : List Jvm.Cond) (a0 : Addr) (kv : ClassId) (cl : List Int32) (ix : Nat) (h0 : Heap) (n0 : Nat) (Z0 : n0 ≤ h0.size) (Sad : Sta Z h0 cD "$assertionsDisabled" "Z" (.int 1)) (Shi : Sta Z h0 cD "HI_BYTE_SHIFT" "I" (.int 0)) (Slo : Sta Z h0 cD "LO_BYTE_SHIFT" "I" (.int 8)) (Tv : Txt Z h0 a0 kv (oN (2 * cl.length)) (own_enc cl)) (hch : OwnCh cl) (hix : ix < cl.length) :
  Con l mn48 (Jvm.Cond.code mn48 jdk_52_method_5_code 2 (some .char)) ws (⟨0, 0, 0, 0⟩ : Jvm.Room) #[(.ref a0), (.int (oN ix))] Z h0 (QUgc Z a0 kv cl ix h0 n0) := by
 refine own_of (plainFor_of_name pn_6) hisR dl_jdk_52_5 ?_
 intro p e s m below meth c s₁ hx D hlk hret hml hZ hown hnm X0 e0
 replace hown : s.vm.findClass cD = some m.cls := hown
 have N0 := Fr.nil n0
 rw [efUgc]
 obtain ⟨T1, X1, e1, st1⟩ := getS (host := "") X0 hx hZ hown (wt hw 245 rfl) Via.refl e0 Sad (g := (mkF m 0 #[.val (.ref a0), .val (.int (oN ix))] [])) rfl (D 0 rfl)
 refine OFin.of st1 ?_
 refine OFin.of (S' := T1.setTop (mkF m 31 #[.val (.ref a0), .val (.int (oN ix))] [(.int ((oN ix) <<< ((1 : Int32) &&& 31)))])) (fun t ht => fY X1 hx 3 28 rfl (D 1 rfl) rfl ((if0 _ _).trans (feq (by decide : ¬ ((1 : Int32) = 0))).2) (by decide) (iN X1 hx (D 2 rfl) rfl (iC X1 hx (D 3 rfl) (XS.ishl X1.here hx rfl (D 4 rfl) rfl ht)))) ?_
 rw [own_shl1 ix]
 have heg := own_enc_get cl ix hix
 obtain ⟨cl2, Ar2, hin2, hat2⟩ := Txt.at Tv (j := (oN (2 * ix))) (i := (2 * ix)) rfl (by rw [own_enc_len]; omega)
 refine OFin.of (fun t ht => XS.istoreN X1.here hx rfl (D 5 rfl) rfl (l' := #[.val (.ref a0), .val (.int (oN (2 * ix)))]) rfl (aN X1 hx (D 6 rfl) rfl rfl (iN X1 hx (D 7 rfl) rfl (iI X1 hx (D 8 rfl) rfl (l' := #[.val (.ref a0), .val (.int ((oN (2 * ix)) + (1 : Int32)))]) rfl (X1.baloadBytes hx (j := (oN (2 * ix))) (v := (.int ((own_enc cl).getD (2 * ix) 0))) (by rw [e1]; exact Ar2.1) (State.isArrayOf_alike hZ.alike Ar2.2.1) Ar2.2.2 hin2 hat2 (g := (mkF m 37 #[.val (.ref a0), .val (.int ((oN (2 * ix)) + (1 : Int32)))] [(.int (oN (2 * ix))), (.ref a0)])) rfl rfl (D 9 rfl) _ ht))))) ?_
 obtain ⟨T3, X3, e3, st3⟩ := getS (host := "") X1 hx hZ hown (wt hw 246 rfl) Via.refl e1 Shi (g := (mkF m 42 #[.val (.ref a0), .val (.int ((oN (2 * ix)) + (1 : Int32)))] [(.int (((own_enc cl).getD (2 * ix) 0) &&& (255 : Int32)))])) rfl (D 12 rfl)
 refine OFin.of (fun t ht => XS.sipush X1.here hx rfl (D 10 rfl) (XS.iand X1.here hx rfl (D 11 rfl) rfl (st3 t ht))) ?_
 obtain ⟨cl4, Ar4, hin4, hat4⟩ := Txt.at Tv (j := ((oN (2 * ix)) + (1 : Int32))) (i := (2 * ix + 1)) (own_succ _) (by rw [own_enc_len]; omega)
 refine OFin.of (fun t ht => XS.ishl X3.here hx rfl (D 13 rfl) rfl (aN X3 hx (D 14 rfl) rfl rfl (iN X3 hx (D 15 rfl) rfl (X3.baloadBytes hx (j := ((oN (2 * ix)) + (1 : Int32))) (v := (.int ((own_enc cl).getD (2 * ix + 1) 0))) (by rw [e3]; exact Ar4.1) (State.isArrayOf_alike hZ.alike Ar4.2.1) Ar4.2.2 hin4 hat4 (g := (mkF m 48 #[.val (.ref a0), .val (.int ((oN (2 * ix)) + (1 : Int32)))] [(.int ((oN (2 * ix)) + (1 : Int32))), (.ref a0), (.int ((((own_enc cl).getD (2 * ix) 0) &&& (255 : Int32)) <<< ((0 : Int32) &&& 31)))])) rfl rfl (D 16 rfl) _ ht)))) ?_
 obtain ⟨T5, X5, e5, st5⟩ := getS (host := "") X3 hx hZ hown (wt hw 247 rfl) Via.refl e3 Slo (g := (mkF m 53 #[.val (.ref a0), .val (.int ((oN (2 * ix)) + (1 : Int32)))] [(.int (((own_enc cl).getD (2 * ix + 1) 0) &&& (255 : Int32))), (.int ((((own_enc cl).getD (2 * ix) 0) &&& (255 : Int32)) <<< ((0 : Int32) &&& 31)))])) rfl (D 19 rfl)
 refine OFin.of (fun t ht => XS.sipush X3.here hx rfl (D 17 rfl) (XS.iand X3.here hx rfl (D 18 rfl) rfl (st5 t ht))) ?_
 refine OFin.of (S' := T5.setTop (mkF m 59 #[.val (.ref a0), .val (.int ((oN (2 * ix)) + (1 : Int32)))] [(.int ((((((own_enc cl).getD (2 * ix) 0) &&& (255 : Int32)) <<< ((0 : Int32) &&& 31)) ||| ((((own_enc cl).getD (2 * ix + 1) 0) &&& (255 : Int32)) <<< ((8 : Int32) &&& 31))).toUInt32.toUInt16.toUInt32.toInt32))])) (fun t ht => XS.ishl X5.here hx rfl (D 20 rfl) rfl (XS.ior X5.here hx rfl (D 21 rfl) rfl (XS.i2c X5.here hx rfl (D 22 rfl) rfl ht))) ?_
 exact OFin.retB X5 hx hlk (t := .char) (by simp) hret (D 23 rfl) (by decide) (by decide) (by rw [e5]; exact ⟨(by show some (Value.int (nar .char ((((((own_enc cl).getD (2 * ix) 0) &&& (255 : Int32)) <<< ((0 : Int32) &&& 31)) ||| ((((own_enc cl).getD (2 * ix + 1) 0) &&& (255 : Int32)) <<< ((8 : Int32) &&& 31))).toUInt32.toUInt16.toUInt32.toInt32))) = _; rw [heg.1, heg.2, (own_16 (own_chg hch hix)).1, (own_16 (own_chg hch hix)).2]), N0, rfl⟩)
theorem efUca {m : MethodId} {a0 : Addr} {ix : Nat} : entryFrame m #[(.ref a0), (.int (oN ix))] 2 = mkF m 0 #[.val (.ref a0), .val (.int (oN ix))] [] := by first | (simp [entryFrame, mkF, argsToLocals, Value.category]; done) | rfl
def QUca (Z : State) (a0 : Addr) (kv : ClassId) (cl : List Int32) (ix : Nat) (fm : Value) (h0 : Heap) (n0 : Nat) (v : Option Value) (h : Heap) (L : List Loc) : Prop := v = some (.int (cl.getD ix 0)) ∧ Fr n0 L ∧ h = h0
theorem rmUca (l : Launch) (Z : State) (a0 : Array Value) (hw : HW a0 Z) (ws : List Jvm.Cond) (a0 : Addr) (kv : ClassId) (cl : List Int32) (ix : Nat) (fm : Value) (h0 : Heap) (n0 : Nat) (Z0 : n0 ≤ h0.size) (Sad : Sta Z h0 cD "$assertionsDisabled" "Z" (.int 1)) (Shi : Sta Z h0 cD "HI_BYTE_SHIFT" "I" (.int 0)) (Slo : Sta Z h0 cD "LO_BYTE_SHIFT" "I" (.int 8)) (Tv : Txt Z h0 a0 kv (oN (2 * cl.length)) (own_enc cl)) (Sfm : Sta Z h0 cG "SIOOBE_FORMATTER" cE fm) (hfm : fm.isRef = true) (hcl4 : cl.length ≤ 4) (hch : OwnCh cl) (hix : ix < cl.length) :
  Con l mn49 (Jvm.Cond.code mn49 jdk_52_method_83_code 2 (some .char)) ws (⟨3, 0, 0, 40⟩ : Jvm.Room) #[(.ref a0), (.int (oN ix))] Z h0 (QUca Z a0 kv cl ix fm h0 n0) := by
 refine own_of (plainFor_of_name pn_6) hisR dl_jdk_52_83 ?_
 intro p e s m below meth c s₁ hx D hlk hret hml hZ hown hnm X0 e0
 replace hown : s.vm.findClass cD = some m.cls := hown
 have N0 := Fr.nil n0
 rw [efUca]
 obtain ⟨_, T1, Lc1, X1, hQ1, st1⟩ := own_cS X0 hx hw hZ hown 261 262 223 263 rfl rfl rfl rfl (by decide) (rmUci l Z _ hw [] a0 kv cl ix fm h0 n0 Z0 Tv Sfm hfm hcl4 hix) (by decide) (by decide) (g := (mkF m 2 #[.val (.ref a0), .val (.int (oN ix))] [(.ref a0), (.int (oN ix))])) rfl hml rfl (argsL := [(.int (oN ix)), (.ref a0)]) (rest := []) pd_28 rfl rfl rfl (W := 0) (nE rfl) (D 2 rfl) rfl e0 (by decide) (by decide)
 obtain ⟨rfl, Nq1, hs1⟩ := hQ1
 have N2 := Fr.app N0 Nq1
 refine OFin.of (fun t ht => iN X0 hx (D 0 rfl) rfl (aN X0 hx (D 1 rfl) rfl rfl (st1.trans ht))) ?_
 obtain ⟨_, T3, Lc3, X3, hQ3, st3⟩ := own_cS X1 hx hw hZ hown 265 266 223 267 rfl rfl rfl rfl (by decide) (rmUgc l Z _ hw [] a0 kv cl ix h0 n0 Z0 Sad Shi Slo Tv hch hix) (by decide) (by decide) (g := (mkF m 7 #[.val (.ref a0), .val (.int (oN ix))] [(.int (oN ix)), (.ref a0)])) rfl hml rfl (argsL := [(.ref a0), (.int (oN ix))]) (rest := []) pd_5 rfl rfl rfl (W := 0) (nE rfl) (D 5 rfl) rfl hs1 (by decide) (by decide)
 obtain ⟨rfl, Nq3, hs3⟩ := hQ3
 have N4 := Fr.app N2 Nq3
 refine OFin.of (fun t ht => aN X1 hx (D 3 rfl) rfl rfl (iN X1 hx (D 4 rfl) rfl (st3.trans ht))) ?_
 exact OFin.retB X3 hx hlk (t := .char) (by simp) hret (D 6 rfl) (by decide) (by decide) (by rw [hs3]; exact ⟨(by show some (Value.int (nar .char (cl.getD ix 0))) = _; rw [(own_16 (own_chg hch hix)).2]), N4, rfl⟩)
theorem efChU {m : MethodId} {a0 : Addr} {ix : Nat} : entryFrame m #[(.ref a0), (.int (oN ix))] 2 = mkF m 0 #[.val (.ref a0), .val (.int (oN ix))] [] := by first | (simp [entryFrame, mkF, argsToLocals, Value.category]; done) | rfl
def QChU (Z : State) (a0 tv : Addr) (kv : ClassId) (cl : List Int32) (cs : Int32) (fm : Value) (ix : Nat) (h0 : Heap) (n0 : Nat) (v : Option Value) (h : Heap) (L : List Loc) : Prop := v = some (.int (cl.getD ix 0)) ∧ Fr n0 L ∧ h = h0
theorem rmChU (l : Launch) (Z : State) (a0 : Array Value) (hw : HW a0 Z) (ws : List Jvm.Cond) (a0 tv : Addr) (kv : ClassId) (cl : List Int32) (cs : Int32) (fm : Value) (ix : Nat) (h0 : Heap) (n0 : Nat) (Z0 : n0 ≤ h0.size) (ES : Exa Z h0 a0 cB) (Fc : Fld Z h0 a0 cB "coder" "B" (.int 1)) (Fv : Fld Z h0 a0 cB "value" "[B" (.ref tv)) (Tv : Txt Z h0 tv kv (oN (2 * cl.length)) (own_enc cl)) (Scs : Sta Z h0 cB "COMPACT_STRINGS" "Z" (.int cs)) (hcs : ¬ cs = 0) (Sad : Sta Z h0 cD "$assertionsDisabled" "Z" (.int 1)) (Shi : Sta Z h0 cD "HI_BYTE_SHIFT" "I" (.int 0)) (Slo : Sta Z h0 cD "LO_BYTE_SHIFT" "I" (.int 8)) (Sfm : Sta Z h0 cG "SIOOBE_FORMATTER" cE fm) (hfm : fm.isRef = true) (hcl4 : cl.length ≤ 4) (hch : OwnCh cl) (hix : ix < cl.length) :
  Con l mn13 (Jvm.Cond.code mn13 jdk_42_method_56_code 2 (some .char)) ws (⟨4, 0, 0, 53⟩ : Jvm.Room) #[(.ref a0), (.int (oN ix))] Z h0 (QChU Z a0 tv kv cl cs fm ix h0 n0) := by
 refine own_of (plainFor_of_name pn_2) hisR dl_jdk_42_56 ?_
 intro p e s m below meth c s₁ hx D hlk hret hml hZ hown hnm X0 e0
 replace hown : s.vm.findClass cB = some m.cls := hown
 have N0 := Fr.nil n0
 rw [efChU]
 obtain ⟨_, T1, Lc1, X1, hQ1, st1⟩ := own_cV X0 hx hw hZ hown 147 148 150 149 6 151 rfl rfl rfl rfl rfl rfl (by decide) ES (rmIsL1 l Z _ hw [] a0 cs h0 n0 Z0 Fc Scs hcs) (by decide) (by decide) (g := (mkF m 1 #[.val (.ref a0), .val (.int (oN ix))] [(.ref a0)])) rfl hml rfl (argsL := []) (rest := []) pd_4 rfl rfl rfl (W := 0) (nE rfl) (D 1 rfl) rfl e0 (by decide) (by decide)
 obtain ⟨rfl, Nq1, hs1⟩ := hQ1
 have N2 := Fr.app N0 Nq1
 refine OFin.of (fun t ht => aN X0 hx (D 0 rfl) rfl rfl (st1.trans ht)) ?_
 obtain ⟨T3, X3, e3, st3⟩ := getF X1 hx hZ hown (host := "") (Or.inl (wt hw 23 rfl)) Via.refl hs1 Fv (g := (mkF m 17 #[.val (.ref a0), .val (.int (oN ix))] [(.ref a0)])) rfl rfl (D 9 rfl)
 refine OFin.of (fun t ht => fY X1 hx 4 16 rfl (D 2 rfl) rfl ((if0 _ _).trans (teq (by decide : (0 : Int32) = 0)).1) (by decide) (aN X1 hx (D 8 rfl) rfl rfl (st3 t ht))) ?_
 obtain ⟨_, T4, Lc4, X4, hQ4, st4⟩ := own_cS X3 hx hw hZ hown 258 259 223 260 rfl rfl rfl rfl (by decide) (rmUca l Z _ hw [] tv kv cl ix fm h0 n0 Z0 Sad Shi Slo Tv Sfm hfm hcl4 hch hix) (by decide) (by decide) (g := (mkF m 21 #[.val (.ref a0), .val (.int (oN ix))] [(.int (oN ix)), (.ref tv)])) rfl hml rfl (argsL := [(.ref tv), (.int (oN ix))]) (rest := []) pd_5 rfl rfl rfl (W := 0) (nE rfl) (D 11 rfl) rfl e3 (by decide) (by decide)
 obtain ⟨rfl, Nq4, hs4⟩ := hQ4
 have N5 := Fr.app N2 Nq4
 refine OFin.of (fun t ht => iN X3 hx (D 10 rfl) rfl (st4.trans ht)) ?_
 exact OFin.retB X4 hx hlk (t := .char) (by simp) hret (D 12 rfl) (by decide) (by decide) (by rw [hs4]; exact ⟨(by show some (Value.int (nar .char (cl.getD ix 0))) = _; rw [(own_16 (own_chg hch hix)).2]), N5, rfl⟩)
theorem efCiL {m : MethodId} {a0 : Addr} {p2 : Int32} {ix : Nat} : entryFrame m #[(.ref a0), (.int (oN ix)), (.int p2)] 3 = mkF m 0 #[.val (.ref a0), .val (.int (oN ix)), .val (.int p2)] [] := by first | (simp [entryFrame, mkF, argsToLocals, Value.category]; done) | rfl
def QCiL (Z : State) (a0 : Addr) (p2 : Int32) (tv : Addr) (kv : ClassId) (ls : List Int32) (cs : Int32) (fm : Value) (ix : Nat) (h0 : Heap) (n0 : Nat) (v : Option Value) (h : Heap) (L : List Loc) : Prop := v = some (.int (own_b (own_ci ls ix p2))) ∧ Fr n0 L ∧ h = h0
theorem rmCiL (l : Launch) (Z : State) (a0 : Array Value) (hw : HW a0 Z) (ws : List Jvm.Cond) (a0 : Addr) (p2 : Int32) (tv : Addr) (kv : ClassId) (ls : List Int32) (cs : Int32) (fm : Value) (ix : Nat) (h0 : Heap) (n0 : Nat) (Z0 : n0 ≤ h0.size) (ES : Exa Z h0 a0 cB) (Fc : Fld Z h0 a0 cB "coder" "B" (.int 0)) (Fv : Fld Z h0 a0 cB "value" "[B" (.ref tv)) (Tv : Txt Z h0 tv kv (oN ls.length) ls) (Scs : Sta Z h0 cB "COMPACT_STRINGS" "Z" (.int cs)) (hcs : ¬ cs = 0) (Sfm : Sta Z h0 cG "SIOOBE_FORMATTER" cE fm) (hfm : fm.isRef = true) (hli : OwnLit ls) (hl4 : ls.length ≤ 4) (hx4 : ix ≤ 4) :
  Con l mn50 (Jvm.Cond.code mn50 method_3_code 3 (some .boolean)) ws (⟨5, 0, 0, 66⟩ : Jvm.Room) #[(.ref a0), (.int (oN ix)), (.int p2)] Z h0 (QCiL Z a0 p2 tv kv ls cs fm ix h0 n0) := by
 refine own_of (plainFor_of_name pn_4) hisR dl_method_3 ?_
 intro p e s m below meth c s₁ hx D hlk hret hml hZ hown hnm X0 e0
 replace hown : s.vm.findClass cC = some m.cls := hown
 have N0 := Fr.nil n0
 rw [efCiL]
 obtain ⟨_, T1, Lc1, X1, hQ1, st1⟩ := own_cV X0 hx hw hZ hown 18 19 21 20 6 22 rfl rfl rfl rfl rfl rfl (by decide) ES (rmLen l Z _ hw [] a0 tv kv ls cs h0 n0 Z0 ES Fc Fv Tv Scs hcs) (by decide) (by decide) (g := (mkF m 2 #[.val (.ref a0), .val (.int (oN ix)), .val (.int p2)] [(.ref a0), (.int (oN ix))])) rfl hml rfl (argsL := []) (rest := [(.int (oN ix))]) pd_6 rfl rfl rfl (W := 1) (nE rfl) (D 2 rfl) rfl e0 (by decide) (by decide)
 obtain ⟨rfl, Nq1, hs1⟩ := hQ1
 have N2 := Fr.app N0 Nq1
 refine OFin.of (fun t ht => iN X0 hx (D 0 rfl) rfl (aN X0 hx (D 1 rfl) rfl rfl (st1.trans ht))) ?_
 by_cases hc3 : (oN ix) < (oN ls.length)
 ·have hix := (own_natlt (by omega) (by omega)).mp hc3
  obtain ⟨_, T4, Lc4, X4, hQ4, st4⟩ := own_cV X1 hx hw hZ hown 142 143 145 144 6 146 rfl rfl rfl rfl rfl rfl (by decide) ES (rmChA l Z _ hw [] a0 tv kv ls cs fm ix h0 n0 Z0 ES Fc Fv Tv Scs hcs Sfm hfm hli hix) (by decide) (by decide) (g := (mkF m 10 #[.val (.ref a0), .val (.int (oN ix)), .val (.int p2)] [(.int (oN ix)), (.ref a0)])) rfl hml rfl (argsL := [(.int (oN ix))]) (rest := []) pd_7 rfl rfl rfl (W := 0) (nE rfl) (D 6 rfl) rfl hs1 (by decide) (by decide)
  obtain ⟨rfl, Nq4, hs4⟩ := hQ4
  have N5 := Fr.app N2 Nq4
  refine OFin.of (fun t ht => cN X1 hx (D 3 rfl) rfl (tlt hc3).2.1 (aN X1 hx (D 4 rfl) rfl rfl (iN X1 hx (D 5 rfl) rfl (st4.trans ht)))) ?_
  refine OFin.of (S' := T4.setTop (mkF m 14 #[.val (.ref a0), .val (.int (oN ix)), .val (.int p2)] [(.int p2), (.int (ls.getD ix 0))])) (fun t ht => iN X4 hx (D 7 rfl) rfl ht) ?_
  by_cases hc6 : (ls.getD ix 0) = p2
  ·refine OFin.of (S' := T4.setTop (mkF m 22 #[.val (.ref a0), .val (.int (oN ix)), .val (.int p2)] [(.int 1)])) (fun t ht => cN X4 hx (D 8 rfl) rfl (teq hc6).2 (iC X4 hx (D 9 rfl) (gO X4 hx 18 22 rfl (D 10 rfl) (by decide) ht))) ?_
   exact OFin.retB X4 hx hlk (t := .boolean) (by simp) hret (D 11 rfl) (by decide) (by decide) (by rw [hs4]; exact ⟨(by show some (Value.int (nar .boolean (1 : Int32))) = _; rw [own_ci_y hc6]; rfl), N5, rfl⟩)
  ·refine OFin.of (S' := T4.setTop (mkF m 22 #[.val (.ref a0), .val (.int (oN ix)), .val (.int p2)] [(.int 0)])) (fun t ht => cY X4 hx 14 21 rfl (D 8 rfl) rfl (feq hc6).2 (by decide) (iC X4 hx (D 12 rfl) ht)) ?_
   exact OFin.retB X4 hx hlk (t := .boolean) (by simp) hret (D 11 rfl) (by decide) (by decide) (by rw [hs4]; exact ⟨(by show some (Value.int (nar .boolean (0 : Int32))) = _; rw [own_ci_n hix hc6]; rfl), N5, rfl⟩)
 ·refine OFin.of (S' := T1.setTop (mkF m 22 #[.val (.ref a0), .val (.int (oN ix)), .val (.int p2)] [(.int 1)])) (fun t ht => cY X1 hx 5 17 rfl (D 3 rfl) rfl (flt hc3).2.1 (by decide) (iC X1 hx (D 9 rfl) (gO X1 hx 18 22 rfl (D 10 rfl) (by decide) ht))) ?_
  exact OFin.retB X1 hx hlk (t := .boolean) (by simp) hret (D 11 rfl) (by decide) (by decide) (by rw [hs1]; exact ⟨(by show some (Value.int (nar .boolean (1 : Int32))) = _; rw [own_ci_l (fun z => hc3 ((own_natlt (by omega) (by omega)).mpr z))]; rfl), N2, rfl⟩)
theorem efCiU {m : MethodId} {a0 : Addr} {p2 : Int32} {ix : Nat} : entryFrame m #[(.ref a0), (.int (oN ix)), (.int p2)] 3 = mkF m 0 #[.val (.ref a0), .val (.int (oN ix)), .val (.int p2)] [] := by first | (simp [entryFrame, mkF, argsToLocals, Value.category]; done) | rfl
def QCiU (Z : State) (a0 : Addr) (p2 : Int32) (tv : Addr) (kv : ClassId) (cl : List Int32) (cs : Int32) (fm : Value) (ix : Nat) (h0 : Heap) (n0 : Nat) (v : Option Value) (h : Heap) (L : List Loc) : Prop := v = some (.int (own_b (own_ci cl ix p2))) ∧ Fr n0 L ∧ h = h0
theorem rmCiU (l : Launch) (Z : State) (a0 : Array Value) (hw : HW a0 Z) (ws : List Jvm.Cond) (a0 : Addr) (p2 : Int32) (tv : Addr) (kv : ClassId) (cl : List Int32) (cs : Int32) (fm : Value) (ix : Nat) (h0 : Heap) (n0 : Nat) (Z0 : n0 ≤ h0.size) (ES : Exa Z h0 a0 cB) (Fc : Fld Z h0 a0 cB "coder" "B" (.int 1)) (Fv : Fld Z h0 a0 cB "value" "[B" (.ref tv)) (Tv : Txt Z h0 tv kv (oN (2 * cl.length)) (own_enc cl)) (Scs : Sta Z h0 cB "COMPACT_STRINGS" "Z" (.int cs)) (hcs : ¬ cs = 0) (Sad : Sta Z h0 cD "$assertionsDisabled" "Z" (.int 1)) (Shi : Sta Z h0 cD "HI_BYTE_SHIFT" "I" (.int 0)) (Slo : Sta Z h0 cD "LO_BYTE_SHIFT" "I" (.int 8)) (Sfm : Sta Z h0 cG "SIOOBE_FORMATTER" cE fm) (hfm : fm.isRef = true) (hcl4 : cl.length ≤ 4) (hch : OwnCh cl) (hx4 : ix ≤ 4) :
  Con l mn50 (Jvm.Cond.code mn50 method_3_code 3 (some .boolean)) ws (⟨5, 0, 0, 66⟩ : Jvm.Room) #[(.ref a0), (.int (oN ix)), (.int p2)] Z h0 (QCiU Z a0 p2 tv kv cl cs fm ix h0 n0) := by
 refine own_of (plainFor_of_name pn_4) hisR dl_method_3 ?_
 intro p e s m below meth c s₁ hx D hlk hret hml hZ hown hnm X0 e0
 replace hown : s.vm.findClass cC = some m.cls := hown
 have N0 := Fr.nil n0
 rw [efCiU]
 obtain ⟨_, T1, Lc1, X1, hQ1, st1⟩ := own_cV X0 hx hw hZ hown 18 19 21 20 6 22 rfl rfl rfl rfl rfl rfl (by decide) ES (rmLeU l Z _ hw [] a0 tv kv cl cs h0 n0 Z0 ES Fc Fv Tv Scs hcs hcl4) (by decide) (by decide) (g := (mkF m 2 #[.val (.ref a0), .val (.int (oN ix)), .val (.int p2)] [(.ref a0), (.int (oN ix))])) rfl hml rfl (argsL := []) (rest := [(.int (oN ix))]) pd_6 rfl rfl rfl (W := 1) (nE rfl) (D 2 rfl) rfl e0 (by decide) (by decide)
 obtain ⟨rfl, Nq1, hs1⟩ := hQ1
 have N2 := Fr.app N0 Nq1
 refine OFin.of (fun t ht => iN X0 hx (D 0 rfl) rfl (aN X0 hx (D 1 rfl) rfl rfl (st1.trans ht))) ?_
 by_cases hc3 : (oN ix) < (oN cl.length)
 ·have hix := (own_natlt (by omega) (by omega)).mp hc3
  obtain ⟨_, T4, Lc4, X4, hQ4, st4⟩ := own_cV X1 hx hw hZ hown 142 143 145 144 6 146 rfl rfl rfl rfl rfl rfl (by decide) ES (rmChU l Z _ hw [] a0 tv kv cl cs fm ix h0 n0 Z0 ES Fc Fv Tv Scs hcs Sad Shi Slo Sfm hfm hcl4 hch hix) (by decide) (by decide) (g := (mkF m 10 #[.val (.ref a0), .val (.int (oN ix)), .val (.int p2)] [(.int (oN ix)), (.ref a0)])) rfl hml rfl (argsL := [(.int (oN ix))]) (rest := []) pd_7 rfl rfl rfl (W := 0) (nE rfl) (D 6 rfl) rfl hs1 (by decide) (by decide)
  obtain ⟨rfl, Nq4, hs4⟩ := hQ4
  have N5 := Fr.app N2 Nq4
  refine OFin.of (fun t ht => cN X1 hx (D 3 rfl) rfl (tlt hc3).2.1 (aN X1 hx (D 4 rfl) rfl rfl (iN X1 hx (D 5 rfl) rfl (st4.trans ht)))) ?_
  refine OFin.of (S' := T4.setTop (mkF m 14 #[.val (.ref a0), .val (.int (oN ix)), .val (.int p2)] [(.int p2), (.int (cl.getD ix 0))])) (fun t ht => iN X4 hx (D 7 rfl) rfl ht) ?_
  by_cases hc6 : (cl.getD ix 0) = p2
  ·refine OFin.of (S' := T4.setTop (mkF m 22 #[.val (.ref a0), .val (.int (oN ix)), .val (.int p2)] [(.int 1)])) (fun t ht => cN X4 hx (D 8 rfl) rfl (teq hc6).2 (iC X4 hx (D 9 rfl) (gO X4 hx 18 22 rfl (D 10 rfl) (by decide) ht))) ?_
   exact OFin.retB X4 hx hlk (t := .boolean) (by simp) hret (D 11 rfl) (by decide) (by decide) (by rw [hs4]; exact ⟨(by show some (Value.int (nar .boolean (1 : Int32))) = _; rw [own_ci_y hc6]; rfl), N5, rfl⟩)
  ·refine OFin.of (S' := T4.setTop (mkF m 22 #[.val (.ref a0), .val (.int (oN ix)), .val (.int p2)] [(.int 0)])) (fun t ht => cY X4 hx 14 21 rfl (D 8 rfl) rfl (feq hc6).2 (by decide) (iC X4 hx (D 12 rfl) ht)) ?_
   exact OFin.retB X4 hx hlk (t := .boolean) (by simp) hret (D 11 rfl) (by decide) (by decide) (by rw [hs4]; exact ⟨(by show some (Value.int (nar .boolean (0 : Int32))) = _; rw [own_ci_n hix hc6]; rfl), N5, rfl⟩)
 ·refine OFin.of (S' := T1.setTop (mkF m 22 #[.val (.ref a0), .val (.int (oN ix)), .val (.int p2)] [(.int 1)])) (fun t ht => cY X1 hx 5 17 rfl (D 3 rfl) rfl (flt hc3).2.1 (by decide) (iC X1 hx (D 9 rfl) (gO X1 hx 18 22 rfl (D 10 rfl) (by decide) ht))) ?_
  exact OFin.retB X1 hx hlk (t := .boolean) (by simp) hret (D 11 rfl) (by decide) (by decide) (by rw [hs1]; exact ⟨(by show some (Value.int (nar .boolean (1 : Int32))) = _; rw [own_ci_l (fun z => hc3 ((own_natlt (by omega) (by omega)).mpr z))]; rfl), N2, rfl⟩)
theorem rmSl (l : Launch) (Z : State) (a0 : Array Value) (hw : HW a0 Z) (a1 : Addr) (nb : List Int32) (cs : Int32) (h0 : Heap) (n0 : Nat) (Z0 : n0 ≤ h0.size) (F : Snm Z h0 a1 nb) (h4 : nb.length ≤ 4) (Scs : Sta Z h0 cB "COMPACT_STRINGS" "Z" (.int cs)) (hcs : ¬ cs = 0) :
  Con l mn11 (Jvm.Cond.code mn11 jdk_42_method_54_code 1 (some .int)) [] (⟨1, 0, 0, 13⟩ : Jvm.Room) #[(.ref a1)] Z h0 (OwnMet (oN nb.length) h0 n0) := by
 obtain ⟨e, t, kb, fv, ⟨c, x, -⟩ | ⟨c, x⟩⟩ := F
 ·exact rmLen l Z _ hw [] a1 t kb nb cs h0 n0 Z0 e c fv x Scs hcs
 ·have z := rmLeU l Z _ hw [] a1 t kb (nb.map own_dc) cs h0 n0 Z0 e c fv (by rw [List.length_map]; exact x) Scs hcs (by rw [List.length_map]; exact h4)
  unfold QLeU at z; rw [List.length_map] at z; exact z
theorem rmCi (l : Launch) (Z : State) (a0 : Array Value) (hw : HW a0 Z) (a1 : Addr) (nb : List Int32) (cs : Int32) (fm : Value) (ix : Nat) (p2 : Int32) (h0 : Heap) (n0 : Nat) (Z0 : n0 ≤ h0.size) (F : Snm Z h0 a1 nb) (h4 : nb.length ≤ 4) (hnb : OwnNb nb) (Scs : Sta Z h0 cB "COMPACT_STRINGS" "Z" (.int cs)) (hcs : ¬ cs = 0) (Sad : Sta Z h0 cD "$assertionsDisabled" "Z" (.int 1)) (Shi : Sta Z h0 cD "HI_BYTE_SHIFT" "I" (.int 0)) (Slo : Sta Z h0 cD "LO_BYTE_SHIFT" "I" (.int 8)) (Sfm : Sta Z h0 cG "SIOOBE_FORMATTER" cE fm) (hfm : fm.isRef = true) (hx4 : ix ≤ 4) :
  Con l mn50 (Jvm.Cond.code mn50 method_3_code 3 (some .boolean)) [] (⟨5, 0, 0, 66⟩ : Jvm.Room) #[(.ref a1), (.int (oN ix)), (.int p2)] Z h0 (OwnMet (own_b (own_ci (nb.map own_dc) ix p2)) h0 n0) := by
 obtain ⟨e, t, kb, fv, ⟨c, x, y⟩ | ⟨c, x⟩⟩ := F
 ·have z := rmCiL l Z _ hw [] a1 p2 t kb nb cs fm ix h0 n0 Z0 e c fv x Scs hcs Sfm hfm ⟨by omega, fun b hb => (hnb b hb).resolve_right fun q => by obtain ⟨j, hj, rfl⟩ := List.getElem_of_mem hb; exact y j hj (by rw [List.getD_eq_getElem?_getD, List.getElem?_eq_getElem hj]; exact q.1)⟩ h4 hx4
  unfold QCiL at z; rw [own_ci_map y] at z; exact z
 ·exact rmCiU l Z _ hw [] a1 p2 t kb (nb.map own_dc) cs fm ix h0 n0 Z0 e c fv (by rw [List.length_map]; exact x) Scs hcs Sad Shi Slo Sfm hfm (by rw [List.length_map]; exact h4) (own_dcch hnb) hx4
def own_nt (pre : List Int32) (j : Nat) : Option Nat × Nat × Nat := own_nl pre (pre.length + 1 - j) j
section OwnNt
variable {pre : List Int32}
theorem own_nl_same (h31 : pre.length < 2147483648) : ∀ (f g j : Nat), j ≤ pre.length → pre.length < j + f → pre.length < j + g → own_nl pre f j = own_nl pre g j
 | 0, g, j, hj, hf, hg => absurd hf (by omega)
 | f + 1, 0, j, hj, hf, hg => absurd hg (by omega)
 | f + 1, g + 1, j, hj, hf, hg => by
  unfold own_nl
  by_cases h1 : own_ix pre 60 j < 0
  ·rw [if_pos h1, if_pos h1]
  ·rw [if_neg h1, if_neg h1]
   by_cases h2 : own_ba2 pre (own_find (fun x => decide (x = 60)) pre j) = 33
   ·rw [if_pos h2, if_pos h2]
    by_cases h3 : (own_pm pre (own_find (fun x => decide (x = 60)) pre j)).1 < 0
    ·rw [if_pos h3, if_pos h3]
    ·rw [if_neg h3, if_neg h3]
     have ge := own_find_ge (fun x => decide (x = 60)) pre j
     obtain ⟨p, e, a, b⟩ := own_pm_to (own_ba33 h2) h3
     rw [e, own_clamp (by omega), own_nl_same h31 f g p b (by omega) (by omega)]
   ·rw [if_neg h2, if_neg h2]
theorem own_nt_skip {j i p k : Nat} (h31 : pre.length < 2147483648) (hj : j ≤ pre.length) (hi : own_find (fun x => decide (x = 60)) pre j = i) (hl : i < pre.length) (hb : own_ba2 pre i = 33) (hm : own_pm pre i = (oN p, k)) (hp : p ≤ pre.length) (hip : i < p) : own_nt pre j = ((own_nt pre p).1, (own_nt pre p).2.1, (own_nt pre p).2.2 + k) := by
 have ge : j ≤ i := hi ▸ own_find_ge _ _ _
 have h1 : ¬ own_ix pre 60 j < 0 := by unfold own_ix; rw [hi, if_pos hl]; exact own_nz _ (by omega)
 unfold own_nt
 obtain ⟨f, hf⟩ : ∃ f, pre.length + 1 - j = f + 1 := ⟨pre.length - j, by omega⟩
 rw [hf]
 show own_nl pre (f + 1) j = _
 have e : own_nl pre (f + 1) j = (if own_ix pre 60 j < 0 then _ else _) := rfl
 obtain ⟨o, stp, kl, hnl⟩ : ∃ o stp kl, own_nl pre (f + 1) j = (o, stp, kl) := ⟨_, _, _, rfl⟩
 obtain ⟨k', hk, hy⟩ := own_nl_y hnl h1 hi hb hm (own_nz _ (by omega)) (own_clamp (by omega))
 rw [hnl, own_nl_same h31 (pre.length + 1 - p) f p hp (by omega) (by omega), hy, hk]
theorem own_nt_tag {j i : Nat} (h31 : pre.length < 2147483648) (hj : j ≤ pre.length) (hi : own_find (fun x => decide (x = 60)) pre j = i) (hl : i < pre.length) (hb : ¬ own_ba2 pre i = 33) : own_nt pre j = (some i, pre.length, 0) := by
 have h1 : ¬ own_ix pre 60 j < 0 := by unfold own_ix; rw [hi, if_pos hl]; exact own_nz _ (by omega)
 unfold own_nt
 obtain ⟨f, hf⟩ : ∃ f, pre.length + 1 - j = f + 1 := ⟨pre.length - j, by omega⟩
 rw [hf]; unfold own_nl; rw [if_neg h1, hi, if_neg hb]
theorem own_nt_none {j : Nat} (hj : j ≤ pre.length) (hi : own_find (fun x => decide (x = 60)) pre j = pre.length) : own_nt pre j = (none, pre.length, 0) := by
 have h1 : own_ix pre 60 j < 0 := by unfold own_ix; rw [hi, if_neg (Nat.lt_irrefl _)]; decide
 unfold own_nt
 obtain ⟨f, hf⟩ : ∃ f, pre.length + 1 - j = f + 1 := ⟨pre.length - j, by omega⟩
 rw [hf]; unfold own_nl; rw [if_pos h1]
theorem own_nt_stop {j i k : Nat} {r : Int32} (h31 : pre.length < 2147483648) (hj : j ≤ pre.length) (hi : own_find (fun x => decide (x = 60)) pre j = i) (hl : i < pre.length) (hb : own_ba2 pre i = 33) (hm : own_pm pre i = (r, k)) (hr : r < 0) : own_nt pre j = (none, i, k) := by
 have h1 : ¬ own_ix pre 60 j < 0 := by unfold own_ix; rw [hi, if_pos hl]; exact own_nz _ (by omega)
 unfold own_nt
 obtain ⟨f, hf⟩ : ∃ f, pre.length + 1 - j = f + 1 := ⟨pre.length - j, by omega⟩
 rw [hf]; unfold own_nl; rw [if_neg h1, hi, if_pos hb, hm, if_pos hr]
end OwnNt
theorem own_pf2_0 (R : List Int32) : own_pm (([60, 33, 45, 45, 62, 60, 45, 45, 62] ++ R)) 0 = (oN 9, 4) := by
 simp [own_pm, own_sw, own_pd, own_ix, own_find, own_past, own_fs, own_dep, List.findIdx_cons]
theorem own_pf2_1 (R : List Int32) : own_pm (60 :: ([60, 33, 45, 45, 62, 60, 45, 45, 62] ++ R)) 1 = (oN 10, 4) := by
 simp [own_pm, own_sw, own_pd, own_ix, own_find, own_past, own_fs, own_dep, List.findIdx_cons]
theorem own_pf3_0 (R : List Int32) : own_pm (([60, 33, 91, 67, 68, 65, 84, 65, 91, 62, 60, 93, 93, 62] ++ R)) 0 = (oN 14, 6) := by
 simp [own_pm, own_sw, own_pd, own_ix, own_find, own_past, own_fs, own_dep, List.findIdx_cons]
theorem own_pf3_1 (R : List Int32) : own_pm (60 :: ([60, 33, 91, 67, 68, 65, 84, 65, 91, 62, 60, 93, 93, 62] ++ R)) 1 = (oN 15, 6) := by
 simp [own_pm, own_sw, own_pd, own_ix, own_find, own_past, own_fs, own_dep, List.findIdx_cons]
theorem own_pf4_0 (R : List Int32) : own_pm (([60, 33, 97, 39, 62, 60, 39, 62] ++ R)) 0 = (oN 8, 4) := by
 simp [own_pm, own_sw, own_pd, own_ix, own_find, own_past, own_fs, own_dep, List.findIdx_cons]
theorem own_pf4_1 (R : List Int32) : own_pm (60 :: ([60, 33, 97, 39, 62, 60, 39, 62] ++ R)) 1 = (oN 9, 4) := by
 simp [own_pm, own_sw, own_pd, own_ix, own_find, own_past, own_fs, own_dep, List.findIdx_cons]
theorem own_pf5_0 (R : List Int32) : own_pm (([60, 33, 97, 34, 62, 60, 34, 62] ++ R)) 0 = (oN 8, 4) := by
 simp [own_pm, own_sw, own_pd, own_ix, own_find, own_past, own_fs, own_dep, List.findIdx_cons]
theorem own_pf5_1 (R : List Int32) : own_pm (60 :: ([60, 33, 97, 34, 62, 60, 34, 62] ++ R)) 1 = (oN 9, 4) := by
 simp [own_pm, own_sw, own_pd, own_ix, own_find, own_past, own_fs, own_dep, List.findIdx_cons]
theorem own_pf6_0 (R : List Int32) : own_pm (([60, 33, 91, 62, 60, 93, 62] ++ R)) 0 = (oN 7, 16) := by
 simp [own_pm, own_sw, own_pd, own_ix, own_find, own_past, own_fs, own_dep, List.findIdx_cons]
theorem own_pf6_1 (R : List Int32) : own_pm (60 :: ([60, 33, 91, 62, 60, 93, 62] ++ R)) 1 = (oN 8, 16) := by
 simp [own_pm, own_sw, own_pd, own_ix, own_find, own_past, own_fs, own_dep, List.findIdx_cons]
theorem own_pf7_0 (R : List Int32) : own_pm (([60, 33, 91, 60, 33, 45, 45, 93, 62, 60, 45, 45, 62, 93, 62] ++ R)) 0 = (oN 15, 12) := by
 simp [own_pm, own_sw, own_pd, own_ix, own_find, own_past, own_fs, own_dep, List.findIdx_cons]
theorem own_pf7_1 (R : List Int32) : own_pm (60 :: ([60, 33, 91, 60, 33, 45, 45, 93, 62, 60, 45, 45, 62, 93, 62] ++ R)) 1 = (oN 16, 12) := by
 simp [own_pm, own_sw, own_pd, own_ix, own_find, own_past, own_fs, own_dep, List.findIdx_cons]
theorem own_pf8_0 (R : List Int32) : own_pm (([60, 33, 91, 60, 63, 93, 62, 60, 63, 62, 93, 62] ++ R)) 0 = (oN 12, 14) := by
 simp [own_pm, own_sw, own_pd, own_ix, own_find, own_past, own_fs, own_dep, List.findIdx_cons]
theorem own_pf8_1 (R : List Int32) : own_pm (60 :: ([60, 33, 91, 60, 63, 93, 62, 60, 63, 62, 93, 62] ++ R)) 1 = (oN 13, 14) := by
 simp [own_pm, own_sw, own_pd, own_ix, own_find, own_past, own_fs, own_dep, List.findIdx_cons]
theorem own_pf9_0 (R : List Int32) : own_pm (([60, 33, 97, 93, 91, 62, 60, 93, 62] ++ R)) 0 = (oN 9, 16) := by
 simp [own_pm, own_sw, own_pd, own_ix, own_find, own_past, own_fs, own_dep, List.findIdx_cons]
theorem own_pf9_1 (R : List Int32) : own_pm (60 :: ([60, 33, 97, 93, 91, 62, 60, 93, 62] ++ R)) 1 = (oN 10, 16) := by
 simp [own_pm, own_sw, own_pd, own_ix, own_find, own_past, own_fs, own_dep, List.findIdx_cons]
theorem own_pf10_0 (R : List Int32) : own_pm (([60, 33, 91, 39, 93, 62, 60, 39, 93, 62] ++ R)) 0 = (oN 10, 8) := by
 simp [own_pm, own_sw, own_pd, own_ix, own_find, own_past, own_fs, own_dep, List.findIdx_cons]
theorem own_pf10_1 (R : List Int32) : own_pm (60 :: ([60, 33, 91, 39, 93, 62, 60, 39, 93, 62] ++ R)) 1 = (oN 11, 8) := by
 simp [own_pm, own_sw, own_pd, own_ix, own_find, own_past, own_fs, own_dep, List.findIdx_cons]
theorem own_pf11_0 (R : List Int32) : own_pm (([60, 33, 91, 67, 68, 65, 84, 62, 60, 93, 62] ++ R)) 0 = (oN 11, 32) := by
 simp [own_pm, own_sw, own_pd, own_ix, own_find, own_past, own_fs, own_dep, List.findIdx_cons]
theorem own_pf11_1 (R : List Int32) : own_pm (60 :: ([60, 33, 91, 67, 68, 65, 84, 62, 60, 93, 62] ++ R)) 1 = (oN 12, 32) := by
 simp [own_pm, own_sw, own_pd, own_ix, own_find, own_past, own_fs, own_dep, List.findIdx_cons]
def OwnSk (fr : Nat) (pre : List Int32) (k0 : Nat) : Prop := fr ≤ pre.length ∧ pre.length ≤ 16 ∧ k0 ≤ 32 ∧ ∀ R : List Int32, R.length ≤ 16 → own_nt (pre ++ R) fr = ((own_nt (pre ++ R) pre.length).1, (own_nt (pre ++ R) pre.length).2.1, (own_nt (pre ++ R) pre.length).2.2 + k0)
theorem own_sk0 {F : List Int32} (h : F.length ≤ 1) : OwnSk F.length (F ++ []) 0 := by
 rw [List.append_nil]; exact ⟨Nat.le_refl _, by omega, by omega, fun R _ => rfl⟩
theorem own_find60 {pre : List Int32} {i : Nat} (h : pre.getD i 0 = 60) (hi : i < pre.length) : own_find (fun x => decide (x = 60)) pre i = i := own_find_yes hi (decide_eq_true h)
theorem own_skl {fr p k : Nat} {pre : List Int32} (hk : k ≤ 32) (hp : pre.length = p) (hl : p ≤ 16) (hfr : fr < p) (h60 : pre.getD fr 0 = 60) (h33 : ∀ R : List Int32, own_ba2 (pre ++ R) fr = 33) (hm : ∀ R : List Int32, own_pm (pre ++ R) fr = (oN p, k)) : OwnSk fr pre k := by
 refine ⟨by omega, by omega, hk, fun R hR => ?_⟩
 have hlen : (pre ++ R).length = p + R.length := by rw [List.length_append, hp]
 rw [hp]
 exact own_nt_skip (i := fr) (by omega) (by omega) (own_find60 (by rw [List.getD_eq_getElem?_getD, List.getElem?_append_left (by omega), ← List.getD_eq_getElem?_getD]; exact h60) (by omega)) (by omega) (h33 R) (hm R) (by omega) hfr
theorem own_sk2_0 : OwnSk 0 ([60, 33, 45, 45, 62, 60, 45, 45, 62]) 4 := own_skl (p := 9) (by decide) rfl (by decide) (by decide) rfl (fun R => by simp [own_ba2]; decide) (fun R => own_pf2_0 R)
theorem own_sk2_1 : OwnSk 1 (60 :: [60, 33, 45, 45, 62, 60, 45, 45, 62]) 4 := own_skl (p := 10) (by decide) rfl (by decide) (by decide) rfl (fun R => by simp [own_ba2]; decide) (fun R => own_pf2_1 R)
theorem own_sk3_0 : OwnSk 0 ([60, 33, 91, 67, 68, 65, 84, 65, 91, 62, 60, 93, 93, 62]) 6 := own_skl (p := 14) (by decide) rfl (by decide) (by decide) rfl (fun R => by simp [own_ba2]; decide) (fun R => own_pf3_0 R)
theorem own_sk3_1 : OwnSk 1 (60 :: [60, 33, 91, 67, 68, 65, 84, 65, 91, 62, 60, 93, 93, 62]) 6 := own_skl (p := 15) (by decide) rfl (by decide) (by decide) rfl (fun R => by simp [own_ba2]; decide) (fun R => own_pf3_1 R)
theorem own_sk4_0 : OwnSk 0 ([60, 33, 97, 39, 62, 60, 39, 62]) 4 := own_skl (p := 8) (by decide) rfl (by decide) (by decide) rfl (fun R => by simp [own_ba2]; decide) (fun R => own_pf4_0 R)
theorem own_sk4_1 : OwnSk 1 (60 :: [60, 33, 97, 39, 62, 60, 39, 62]) 4 := own_skl (p := 9) (by decide) rfl (by decide) (by decide) rfl (fun R => by simp [own_ba2]; decide) (fun R => own_pf4_1 R)
theorem own_sk5_0 : OwnSk 0 ([60, 33, 97, 34, 62, 60, 34, 62]) 4 := own_skl (p := 8) (by decide) rfl (by decide) (by decide) rfl (fun R => by simp [own_ba2]; decide) (fun R => own_pf5_0 R)
theorem own_sk5_1 : OwnSk 1 (60 :: [60, 33, 97, 34, 62, 60, 34, 62]) 4 := own_skl (p := 9) (by decide) rfl (by decide) (by decide) rfl (fun R => by simp [own_ba2]; decide) (fun R => own_pf5_1 R)
theorem own_sk6_0 : OwnSk 0 ([60, 33, 91, 62, 60, 93, 62]) 16 := own_skl (p := 7) (by decide) rfl (by decide) (by decide) rfl (fun R => by simp [own_ba2]; decide) (fun R => own_pf6_0 R)
theorem own_sk6_1 : OwnSk 1 (60 :: [60, 33, 91, 62, 60, 93, 62]) 16 := own_skl (p := 8) (by decide) rfl (by decide) (by decide) rfl (fun R => by simp [own_ba2]; decide) (fun R => own_pf6_1 R)
theorem own_sk7_0 : OwnSk 0 ([60, 33, 91, 60, 33, 45, 45, 93, 62, 60, 45, 45, 62, 93, 62]) 12 := own_skl (p := 15) (by decide) rfl (by decide) (by decide) rfl (fun R => by simp [own_ba2]; decide) (fun R => own_pf7_0 R)
theorem own_sk7_1 : OwnSk 1 (60 :: [60, 33, 91, 60, 33, 45, 45, 93, 62, 60, 45, 45, 62, 93, 62]) 12 := own_skl (p := 16) (by decide) rfl (by decide) (by decide) rfl (fun R => by simp [own_ba2]; decide) (fun R => own_pf7_1 R)
theorem own_sk8_0 : OwnSk 0 ([60, 33, 91, 60, 63, 93, 62, 60, 63, 62, 93, 62]) 14 := own_skl (p := 12) (by decide) rfl (by decide) (by decide) rfl (fun R => by simp [own_ba2]; decide) (fun R => own_pf8_0 R)
theorem own_sk8_1 : OwnSk 1 (60 :: [60, 33, 91, 60, 63, 93, 62, 60, 63, 62, 93, 62]) 14 := own_skl (p := 13) (by decide) rfl (by decide) (by decide) rfl (fun R => by simp [own_ba2]; decide) (fun R => own_pf8_1 R)
theorem own_sk9_0 : OwnSk 0 ([60, 33, 97, 93, 91, 62, 60, 93, 62]) 16 := own_skl (p := 9) (by decide) rfl (by decide) (by decide) rfl (fun R => by simp [own_ba2]; decide) (fun R => own_pf9_0 R)
theorem own_sk9_1 : OwnSk 1 (60 :: [60, 33, 97, 93, 91, 62, 60, 93, 62]) 16 := own_skl (p := 10) (by decide) rfl (by decide) (by decide) rfl (fun R => by simp [own_ba2]; decide) (fun R => own_pf9_1 R)
theorem own_sk10_0 : OwnSk 0 ([60, 33, 91, 39, 93, 62, 60, 39, 93, 62]) 8 := own_skl (p := 10) (by decide) rfl (by decide) (by decide) rfl (fun R => by simp [own_ba2]; decide) (fun R => own_pf10_0 R)
theorem own_sk10_1 : OwnSk 1 (60 :: [60, 33, 91, 39, 93, 62, 60, 39, 93, 62]) 8 := own_skl (p := 11) (by decide) rfl (by decide) (by decide) rfl (fun R => by simp [own_ba2]; decide) (fun R => own_pf10_1 R)
theorem own_sk11_0 : OwnSk 0 ([60, 33, 91, 67, 68, 65, 84, 62, 60, 93, 62]) 32 := own_skl (p := 11) (by decide) rfl (by decide) (by decide) rfl (fun R => by simp [own_ba2]; decide) (fun R => own_pf11_0 R)
theorem own_sk11_1 : OwnSk 1 (60 :: [60, 33, 91, 67, 68, 65, 84, 62, 60, 93, 62]) 32 := own_skl (p := 12) (by decide) rfl (by decide) (by decide) rfl (fun R => by simp [own_ba2]; decide) (fun R => own_pf11_1 R)
theorem own_nt_eq {pre : List Int32} {j j' : Nat} (h31 : pre.length < 2147483648) (hj : j ≤ pre.length) (hj' : j' ≤ pre.length) (h : own_find (fun x => decide (x = 60)) pre j = own_find (fun x => decide (x = 60)) pre j') : own_nt pre j = own_nt pre j' := by
 have ge := own_find_ge (fun x => decide (x = 60)) pre j
 have ge' := own_find_ge (fun x => decide (x = 60)) pre j'
 have ex : own_ix pre 60 j = own_ix pre 60 j' := by unfold own_ix; rw [h]
 unfold own_nt
 obtain ⟨f, hf⟩ : ∃ f, pre.length + 1 - j = f + 1 := ⟨pre.length - j, by omega⟩
 obtain ⟨g, hg⟩ : ∃ g, pre.length + 1 - j' = g + 1 := ⟨pre.length - j', by omega⟩
 rw [hf, hg]; unfold own_nl; rw [ex, h]
 by_cases h1 : own_ix pre 60 j' < 0
 ·rw [if_pos h1, if_pos h1]
 ·rw [if_neg h1, if_neg h1]
  by_cases h2 : own_ba2 pre (own_find (fun x => decide (x = 60)) pre j') = 33
  ·rw [if_pos h2, if_pos h2]
   by_cases h3 : (own_pm pre (own_find (fun x => decide (x = 60)) pre j')).1 < 0
   ·rw [if_pos h3, if_pos h3]
   ·rw [if_neg h3, if_neg h3]
    obtain ⟨p, e, a, b⟩ := own_pm_to (own_ba33 h2) h3
    rw [e, own_clamp (by omega), own_nl_same h31 f g p b (by omega) (by omega)]
  ·rw [if_neg h2, if_neg h2]
theorem own_sk1 {F : List Int32} {a b : Int32} (hF : F.length ≤ 1) (ha : ¬ a = 60) (hb : ¬ b = 60) : OwnSk F.length (F ++ [a] ++ [b]) 0 := by
 have hl : (F ++ [a] ++ [b]).length = F.length + 2 := by simp only [List.length_append, List.length_singleton]
 refine ⟨by omega, by omega, by omega, fun R hR => ?_⟩
 have hlen : (F ++ [a] ++ [b] ++ R).length = F.length + 2 + R.length := by rw [List.length_append, hl]
 have g1 : (F ++ [a] ++ [b] ++ R).getD F.length 0 = a := by
  rw [List.append_assoc, List.append_assoc, List.getD_eq_getElem?_getD, List.getElem?_append_right (Nat.le_refl _), Nat.sub_self]; rfl
 have g2 : (F ++ [a] ++ [b] ++ R).getD (F.length + 1) 0 = b := by
  rw [List.append_assoc, List.append_assoc, List.getD_eq_getElem?_getD, List.getElem?_append_right (by omega), show F.length + 1 - F.length = 1 by omega]; rfl
 have e : own_find (fun x => decide (x = 60)) (F ++ [a] ++ [b] ++ R) F.length = own_find (fun x => decide (x = 60)) (F ++ [a] ++ [b] ++ R) (F.length + 2) :=
  (own_find_no (by omega) (by rw [g1]; exact decide_eq_false ha)).trans (own_find_no (by omega) (by rw [g2]; exact decide_eq_false hb))
 rw [hl, own_nt_eq (by omega) (by omega) (by omega) e]; rfl
section OwnTag
abbrev own_s8x (p : Int32) : Int32 := (p.toUInt32 >>> ((8 : Int32) &&& 31).toUInt32).toInt32
abbrev own_s16x (p : Int32) : Int32 := (p.toUInt32 >>> ((16 : Int32) &&& 31).toUInt32).toInt32
def OwnK (tk : Int32) (K : List Int32) : Prop := (tk = 1 ∧ K = [60]) ∨ (tk = 2 ∧ K = [60, 47]) ∨ (tk = 3 ∧ K = [60, 63])
def OwnNmL (p n : Int32) (nm : List Int32) : Prop := (n = 0 ∧ nm = []) ∨ (n = 1 ∧ nm = [own_nby p]) ∨ (n = 2 ∧ nm = [own_nby p, own_nby (own_s8x p)]) ∨ (n = 3 ∧ nm = [own_nby p, own_nby (own_s8x p), own_nby (own_s16x p)])
def OwnTm (tm tc : Int32) (ts : List Int32) : Prop := (tm = 0 ∧ ts = []) ∨ (tm = 1 ∧ tc < 7 ∧ ts = [own_tb tc])
def OwnCl (tk cl : Int32) (cs : List Int32) : Prop := (cl = 0 ∧ cs = []) ∨ (cl = 1 ∧ tk = 3 ∧ cs = [63, 62]) ∨ (cl = 1 ∧ ¬ tk = 3 ∧ cs = [62])
def OwnTb (tb : Int32) (bs : List Int32) : Prop := (tb = 0 ∧ bs = []) ∨ (tb = 1 ∧ bs = [60])
def own_exl (tk tm cl tb : Int32) : List Int32 := if tm = 0 then if cl = 0 then if tb = 0 then [] else [60] else if tk = 3 then [63] else [] else []
def own_we (tk tm tc cl : Int32) (ne ca : Nat) : Int32 := if tk = 1 then -1 else if tk = 2 then (if tm = 0 then (if cl = 0 then -1 else oN ca + 1) else if tc = 6 then oN ne + 1 else if cl = 0 then -1 else oN ca + 1) else if cl = 0 then -1 else oN ca + 2
def own_mo (tk tm cl tb te : Int32) : Int32 := if tb = 0 then 0 else if tk = 1 then (if tm = 0 then if cl = 0 then 0 else 1 else 1) else if te = -1 then 0 else 1
def OwnKc (tk : Int32) (T : List Int32) (i0 kl nn : Nat) (te : Int32) (at1 : Nat) : Prop :=
 (tk = 3 ∧ own_ba2 T i0 = 63 ∧ own_past T own_Q2 (i0 + 2) = te ∧ own_at T te = oN at1 ∧ own_find own_en T (i0 + 2) = i0 + 2 + nn ∧ kl = 2) ∨ (tk = 2 ∧ own_ba2 T i0 = 47 ∧ own_te T (i0 + 2 + nn) = te ∧ own_at T te = oN at1 ∧ own_find own_en T (i0 + 2) = i0 + 2 + nn ∧ kl = 2) ∨ (tk = 1 ∧ (¬ own_ba2 T i0 = 63 ∧ ¬ own_ba2 T i0 = 47) ∧ te = -1 ∧ at1 = i0 + 1 + nn ∧ own_find own_en T (i0 + 1) = i0 + 1 + nn ∧ kl = 1)
def OwnFt (tk tm tc cl tb : Int32) (T P K nx : List Int32) (ne ca fr k0 : Nat) : Prop :=
 ∃ (at1 : Nat) (te : Int32), own_nt T fr = (some P.length, T.length, k0) ∧ OwnKc tk T P.length K.length nx.length te at1 ∧ at1 ≤ T.length ∧ P.length + K.length + nx.length ≤ T.length ∧ (T.drop (P.length + K.length)).take nx.length = nx ∧ te = own_we tk tm tc cl ne ca ∧ ((own_mo tk tm cl tb te = 1 ∧ own_nt T at1 = (some (T.length - 1), T.length, 0) ∧ own_ba2 T (T.length - 1) = 0 ∧ 1 ≤ T.length) ∨ (own_mo tk tm cl tb te = 0 ∧ own_nt T at1 = (none, T.length, 0)))
-- lists
theorem own_fa {q : Int32 → Bool} {A B : List Int32} (h : ∀ x ∈ A, q x = false) : (A ++ B).findIdx q = A.length + B.findIdx q := by
 induction A with
 | nil => simp
 | cons x A ih =>
  rw [List.cons_append, List.findIdx_cons, h x (List.mem_cons_self), ih fun y hy => h y (List.mem_cons_of_mem _ hy)]
  simp only [cond_false, List.length_cons]; omega
theorem own_fb {q : Int32 → Bool} {A : List Int32} (h : ∀ x ∈ A, q x = false) : A.findIdx q = A.length := by
 have := own_fa (B := []) h; simpa using this
theorem own_fc {q : Int32 → Bool} {A B : List Int32} {x : Int32} (h : ∀ x ∈ A, q x = false) (hx : q x = true) : (A ++ x :: B).findIdx q = A.length := by
 rw [own_fa h, List.findIdx_cons, hx]; rfl
theorem own_sh (q : Int32 → Bool) (A B : List Int32) : own_find q (A ++ B) A.length = A.length + B.findIdx q := by
 unfold own_find; rw [List.drop_left]
theorem own_ba_app (P : List Int32) (x y : Int32) (Y : List Int32) : own_ba2 (P ++ x :: y :: Y) P.length = nar .byte y := by
 unfold own_ba2
 rw [if_pos (by simp only [List.length_append, List.length_cons]; omega), List.getD_eq_getElem?_getD, List.getElem?_append_right (by omega), show P.length + 1 - P.length = 1 by omega]; rfl
theorem own_ba_end (P : List Int32) (x : Int32) : own_ba2 (P ++ [x]) P.length = 0 := by
 unfold own_ba2
 rw [if_neg (by simp only [List.length_append, List.length_cons, List.length_nil]; omega)]
theorem own_nt_first {fr k0 : Nat} {P Y : List Int32} (hs : OwnSk fr P k0) (hl : Y.length ≤ 15) (hb : ¬ own_ba2 (P ++ 60 :: Y) P.length = 33) : own_nt (P ++ 60 :: Y) fr = (some P.length, (P ++ 60 :: Y).length, k0) := by
 obtain ⟨h1, h2, -, h4⟩ := hs
 have hlen : (P ++ 60 :: Y).length = P.length + Y.length + 1 := by simp only [List.length_append, List.length_cons]; omega
 rw [h4 (60 :: Y) (by simp only [List.length_cons]; omega), own_nt_tag (i := P.length) (by omega) (by omega) (by rw [own_sh, List.findIdx_cons]; rfl) (by omega) hb, Nat.zero_add]
theorem own_nt_sec {B M bs : List Int32} {tb : Int32} (hl : (B ++ (M ++ bs)).length < 2147483648) (hM : ∀ x ∈ M, decide (x = 60) = false) (hb : OwnTb tb bs) : (tb = 1 ∧ own_nt (B ++ (M ++ bs)) B.length = (some ((B ++ (M ++ bs)).length - 1), (B ++ (M ++ bs)).length, 0) ∧ own_ba2 (B ++ (M ++ bs)) ((B ++ (M ++ bs)).length - 1) = 0 ∧ 1 ≤ (B ++ (M ++ bs)).length) ∨ (tb = 0 ∧ own_nt (B ++ (M ++ bs)) B.length = (none, (B ++ (M ++ bs)).length, 0)) := by
 have hlen : (B ++ (M ++ bs)).length = B.length + M.length + bs.length := by simp only [List.length_append]; omega
 rcases hb with ⟨h0, rfl⟩ | ⟨h1, rfl⟩
 ·refine Or.inr ⟨h0, own_nt_none (by omega) ?_⟩
  rw [List.append_nil, own_sh, own_fb hM, List.length_append]
 ·have e : B ++ (M ++ [60]) = (B ++ M) ++ [60] := (List.append_assoc _ _ _).symm
  have hl1 : (B ++ (M ++ [60])).length - 1 = (B ++ M).length := by rw [hlen, List.length_append]; simp
  have b0 : own_ba2 (B ++ (M ++ [60])) ((B ++ (M ++ [60])).length - 1) = 0 := by rw [hl1, e]; exact own_ba_end _ _
  refine Or.inl ⟨h1, own_nt_tag hl (by omega) ?_ (by rw [hlen]; simp) (by rw [b0]; decide), b0, by rw [hlen]; simp⟩
  rw [hl1, own_sh, own_fc hM (decide_eq_true rfl), List.length_append]
theorem own_tey {B M W : List Int32} (hl : (B ++ (M ++ 62 :: W)).length < 1000) (hM : ∀ x ∈ M, decide (x = 62) = false) : own_te (B ++ (M ++ 62 :: W)) B.length = oN (B.length + M.length) + 1 ∧ own_at (B ++ (M ++ 62 :: W)) (oN (B.length + M.length) + 1) = oN (B.length + M.length + 1) := by
 have hlen : (B ++ (M ++ 62 :: W)).length = B.length + M.length + 1 + W.length := by simp only [List.length_append, List.length_cons]; omega
 have hf : own_find (fun x => decide (x = 62)) (B ++ (M ++ 62 :: W)) B.length = B.length + M.length := by rw [own_sh, own_fc hM (decide_eq_true rfl)]
 have hi : own_ix (B ++ (M ++ 62 :: W)) 62 B.length = oN (B.length + M.length) := by unfold own_ix; rw [hf, if_pos (by omega)]
 constructor
 ·unfold own_te; rw [hi, if_neg (own_nz _ (by omega))]
 ·unfold own_at; rw [own_succ, if_neg (own_nz _ (by omega))]
theorem own_ten {B M : List Int32} (hM : ∀ x ∈ M, decide (x = 62) = false) : own_te (B ++ M) B.length = -1 ∧ own_at (B ++ M) (-1) = oN (B ++ M).length := by
 have hf : own_find (fun x => decide (x = 62)) (B ++ M) B.length = (B ++ M).length := by rw [own_sh, own_fb hM, List.length_append]
 have hi : own_ix (B ++ M) 62 B.length = -1 := by unfold own_ix; rw [hf, if_neg (Nat.lt_irrefl _)]
 constructor
 ·unfold own_te; rw [hi, if_pos (by decide)]
 ·exact own_at_n
theorem own_sw_app (B C ls : List Int32) : own_sw (B ++ C) B.length ls = own_sw C 0 ls := by
 unfold own_sw; rw [List.drop_left, List.length_append, List.drop_zero]
 congr 1
 exact decide_eq_decide.mpr (by omega)
theorem own_sw_no {C : List Int32} {x : Int32} (h : ¬ x = 63) : own_sw (x :: C) 0 own_Q2 = false := own_sw_f (k := 0) (by decide) h
theorem own_fs_app : ∀ (M B W : List Int32) (f : Nat), (∀ x ∈ M, ¬ x = 63) → own_fs (B ++ (M ++ W)) own_Q2 (M.length + f) B.length = own_fs (B ++ (M ++ W)) own_Q2 f (B.length + M.length)
 | [], B, W, f, h => by simp
 | x :: M, B, W, f, h => by
  rw [show (x :: M).length + f = (M.length + f) + 1 by simp only [List.length_cons]; omega]
  unfold own_fs
  rw [List.cons_append, own_sw_app, own_sw_no (h x List.mem_cons_self)]
  have e : B ++ x :: (M ++ W) = (B ++ [x]) ++ (M ++ W) := by simp
  have l : (B ++ [x]).length = B.length + 1 := by simp
  have := own_fs_app M (B ++ [x]) W f (fun y hy => h y (List.mem_cons_of_mem _ hy))
  rw [e, ← l]
  simp only [Bool.false_eq_true, if_false]
  rw [this]
  have hl2 : (B ++ [x]).length + M.length = B.length + (x :: M).length := by simp only [List.length_append, List.length_cons, List.length_nil]; omega
  rw [hl2]
  cases f <;> rfl
theorem own_past_y {B M W : List Int32} (hl : (B ++ (M ++ 63 :: 62 :: W)).length < 1000) (hM : ∀ x ∈ M, ¬ x = 63) : own_past (B ++ (M ++ 63 :: 62 :: W)) own_Q2 B.length = oN (B.length + M.length) + 2 ∧ own_at (B ++ (M ++ 63 :: 62 :: W)) (oN (B.length + M.length) + 2) = oN (B.length + M.length + 2) := by
 have hlen : (B ++ (M ++ 63 :: 62 :: W)).length = B.length + M.length + 2 + W.length := by simp only [List.length_append, List.length_cons]; omega
 have e2 : oN (B.length + M.length) + 2 = oN (B.length + M.length + 2) := by rw [show (2 : Int32) = oN 2 from rfl, own_addn]
 have hf : own_fs (B ++ (M ++ 63 :: 62 :: W)) own_Q2 ((B ++ (M ++ 63 :: 62 :: W)).length - B.length) B.length = B.length + M.length := by
  rw [show (B ++ (M ++ 63 :: 62 :: W)).length - B.length = M.length + (W.length + 1 + 1) by omega, own_fs_app M B _ _ hM]
  have : own_sw (B ++ (M ++ 63 :: 62 :: W)) (B.length + M.length) own_Q2 = true := by
   rw [← List.append_assoc, ← List.length_append, own_sw_app]
   exact own_sw_t (by simp) (fun k hk => by
    have : k = 0 ∨ k = 1 := by simp at hk; omega
    rcases this with rfl | rfl <;> rfl)
  unfold own_fs; rw [if_pos this]
 constructor
 ·unfold own_past; rw [hf, if_pos (by omega), e2]; rfl
 ·unfold own_at; rw [e2, if_neg (own_nz _ (by omega))]
theorem own_past_n {B M : List Int32} (hM : ∀ x ∈ M, ¬ x = 63) : own_past (B ++ M) own_Q2 B.length = -1 ∧ own_at (B ++ M) (-1) = oN (B ++ M).length := by
 have hf : own_fs (B ++ M) own_Q2 ((B ++ M).length - B.length) B.length = (B ++ M).length := by
  have := own_fs_app M B [] 0 hM
  rw [List.append_nil, Nat.add_zero] at this
  rw [show (B ++ M).length - B.length = M.length by rw [List.length_append]; omega, this, List.length_append]; rfl
 constructor
 ·unfold own_past; rw [hf, if_neg (Nat.lt_irrefl _)]
 ·exact own_at_n
abbrev OwnBy (x : Int32) : Prop := own_en x = false ∧ ¬ x = 60 ∧ ¬ x = 63 ∧ ¬ x = 62 ∧ ¬ x = 33 ∧ ¬ x = 47 ∧ nar .byte x = x ∧ ((¬ x < 0 ∧ x < 128) ∨ (x < 0 ∧ ¬ x < (-128 : Int32) ∧ x < (-64 : Int32)))
abbrev own_nbyv (v : Int32) : Int32 := if v < 64 then ((128 : Int32) + v).toInt8.toInt32 else v.toInt8.toInt32
theorem own_nbyF : ∀ i : Fin 128, OwnBy (own_nbyv (oN i.1)) ∧ own_dc (own_nbyv (oN i.1)) = (if (oN i.1) < 64 then 65533 else nar .char ((oN i.1).toUInt32.toUInt16.toUInt32.toInt32)) := by decide +kernel
theorem own_m127x (p : Int32) : ∃ i : Fin 128, p &&& (127 : Int32) = oN i.1 := by
 have h1 := c_mask p 127 7 (by decide) (by decide)
 refine ⟨⟨(p &&& (127 : Int32)).toInt.toNat, by omega⟩, Int32.toInt_inj.mp ?_⟩
 rw [own_ofNat (by omega)]
 show _ = (((p &&& (127 : Int32)).toInt.toNat : Nat) : Int)
 omega
theorem own_nbyx (p : Int32) : OwnBy (own_nby p) ∧ own_dc (own_nby p) = own_nch p := by
 obtain ⟨i, e⟩ := own_m127x p
 have := own_nbyF i
 unfold own_nby own_nch; rw [e]; exact this
def OwnT8 (tc : Int32) : Prop := tc = 0 ∨ tc = 1 ∨ tc = 2 ∨ tc = 3 ∨ tc = 4 ∨ tc = 5 ∨ tc = 6 ∨ tc = 7
theorem own_tbx {tc : Int32} : own_en (own_tb tc) = true ∧ ¬ own_tb tc = 60 ∧ ¬ own_tb tc = 63 ∧ ¬ own_tb tc = 33 ∧ nar .byte (own_tb tc) = own_tb tc ∧ (own_tb tc).toInt8.toInt32 = own_tb tc := by
 unfold own_tb; (repeat' split) <;> exact ⟨by decide, by decide, by decide, by decide, by decide, by decide⟩
theorem own_tb62 {tc : Int32} (h : OwnT8 tc) (h7 : tc < 7) (h6 : ¬ tc = 6) : ¬ own_tb tc = 62 := by
 rcases h with rfl | rfl | rfl | rfl | rfl | rfl | rfl | rfl
 ·decide
 ·decide
 ·decide
 ·decide
 ·decide
 ·decide
 ·exact absurd rfl h6
 ·exact absurd h7 (by decide)
theorem own_tb47 {tc : Int32} (h : OwnT8 tc) (h5 : ¬ tc = 5) : ¬ own_tb tc = 47 := by
 rcases h with rfl | rfl | rfl | rfl | rfl | rfl | rfl | rfl
 ·decide
 ·decide
 ·decide
 ·decide
 ·decide
 ·exact absurd rfl h5
 ·decide
 ·decide
theorem own_nmf {p n : Int32} {nm : List Int32} (h : OwnNmL p n nm) : nm.length ≤ 3 ∧ (∀ x ∈ nm, OwnBy x) ∧ (nm = [] → n = 0) ∧ oN nm.length = n := by
 rcases h with ⟨rfl, rfl⟩ | ⟨rfl, rfl⟩ | ⟨rfl, rfl⟩ | ⟨rfl, rfl⟩
 ·exact ⟨by decide, fun x hx => absurd hx (by simp), fun _ => rfl, rfl⟩
 ·refine ⟨by simp, fun x hx => ?_, fun q => by simp at q, rfl⟩
  obtain rfl := List.mem_singleton.mp hx; exact (own_nbyx _).1
 ·refine ⟨by simp, fun x hx => ?_, fun q => by simp at q, rfl⟩
  simp only [List.mem_cons, List.not_mem_nil, or_false] at hx
  rcases hx with rfl | rfl <;> exact (own_nbyx _).1
 ·refine ⟨by simp, fun x hx => ?_, fun q => by simp at q, rfl⟩
  simp only [List.mem_cons, List.not_mem_nil, or_false] at hx
  rcases hx with rfl | rfl | rfl <;> exact (own_nbyx _).1
theorem own_name {T A nx R : List Int32} {a : Nat} (e : T = A ++ (nx ++ R)) (ha : A.length = a) (hx : ∀ x ∈ nx, own_en x = false) (hR : R = [] ∨ ∃ y Y, R = y :: Y ∧ own_en y = true) : own_find own_en T a = a + nx.length ∧ a + nx.length ≤ T.length ∧ (T.drop a).take nx.length = nx := by
 subst e ha
 refine ⟨?_, by simp only [List.length_append]; omega, by rw [List.drop_left, List.take_left]⟩
 rw [own_sh]
 rcases hR with rfl | ⟨y, Y, rfl, hy⟩
 ·rw [List.append_nil, own_fb hx]
 ·rw [own_fc hx hy]
theorem own_hd (P Y : List Int32) : own_ba2 (P ++ 60 :: Y) P.length = (match Y with | [] => 0 | y :: _ => nar .byte y) := by
 cases Y with
 | nil => exact own_ba_end _ _
 | cons y Y => exact own_ba_app _ _ _ _
theorem own_10 {x : Int32} (h : x = 1) : ¬ x = 0 := by rw [h]; decide
section OwnFtS
variable {tk tm tc cl tb p n : Int32} {T P K nm ts cs bs : List Int32} {ne ca fr k0 : Nat}
theorem own_ft1 (hs : OwnSk fr P k0) (htk : tk = 1) (hN : OwnNmL p n nm) (ht8 : OwnT8 tc) (hT : OwnTm tm tc ts) (hC : OwnCl tk cl cs) (hB : OwnTb tb bs) (hx : n = 0 → ¬ tc = 5) (hh : T = P ++ ([60] ++ nm ++ ts ++ cs ++ bs)) : OwnFt tk tm tc cl tb T P [60] (nm ++ own_exl tk tm cl tb) ne ca fr k0 := by
 obtain ⟨n3, nb, n0, -⟩ := own_nmf hN
 have hP := hs.2.1
 subst htk
 have nen : ∀ x ∈ nm, own_en x = false := fun x hx => (nb x hx).1
 -- the byte behind '<'
 have key : ∀ Y : List Int32, Y.length ≤ 15 → (Y = nm ++ ts ++ cs ++ bs) → (¬ own_ba2 (P ++ 60 :: Y) P.length = 33 ∧ ¬ own_ba2 (P ++ 60 :: Y) P.length = 63 ∧ ¬ own_ba2 (P ++ 60 :: Y) P.length = 47) := by
  intro Y hY e
  rw [own_hd]
  cases nm with
  | cons x nm =>
   subst e
   have b := nb x List.mem_cons_self
   show ¬ nar .byte x = 33 ∧ ¬ nar .byte x = 63 ∧ ¬ nar .byte x = 47
   rw [b.2.2.2.2.2.2.1]; exact ⟨b.2.2.2.2.1, b.2.2.1, b.2.2.2.2.2.1⟩
  | nil =>
   rcases hT with ⟨-, rfl⟩ | ⟨-, h7, rfl⟩
   ·rcases hC with ⟨-, rfl⟩ | ⟨-, h, -⟩ | ⟨-, -, rfl⟩
    ·rcases hB with ⟨-, rfl⟩ | ⟨-, rfl⟩ <;> subst e <;> decide
    ·exact absurd h (by decide)
    ·subst e; show ¬ nar .byte 62 = 33 ∧ ¬ nar .byte 62 = 63 ∧ ¬ nar .byte 62 = 47; decide
   ·subst e
    have b := own_tbx (tc := tc)
    show ¬ nar .byte (own_tb tc) = 33 ∧ ¬ nar .byte (own_tb tc) = 63 ∧ ¬ nar .byte (own_tb tc) = 47
    rw [b.2.2.2.2.1]; exact ⟨b.2.2.2.1, b.2.2.1, own_tb47 ht8 (hx (n0 rfl))⟩
 have hlY : (nm ++ ts ++ cs ++ bs).length ≤ 8 := by
  have a : ts.length ≤ 1 := by rcases hT with ⟨-, rfl⟩ | ⟨-, -, rfl⟩ <;> simp
  have b : cs.length ≤ 2 := by rcases hC with ⟨-, rfl⟩ | ⟨-, -, rfl⟩ | ⟨-, -, rfl⟩ <;> simp
  have c : bs.length ≤ 1 := by rcases hB with ⟨-, rfl⟩ | ⟨-, rfl⟩ <;> simp
  simp only [List.length_append]; omega
 have eT : T = P ++ 60 :: (nm ++ ts ++ cs ++ bs) := by rw [hh]; simp
 obtain ⟨k1, k2, k3⟩ := key _ (by omega) rfl
 have hnt := own_nt_first hs (by omega) k1
 rw [← eT] at hnt k2 k3
 have hTl : T.length = P.length + 1 + (nm ++ ts ++ cs ++ bs).length := by rw [eT]; simp only [List.length_append, List.length_cons]; omega
 -- two shapes
 have sh : (own_exl 1 tm cl tb = bs ∧ ts = [] ∧ cs = [] ∧ own_mo 1 tm cl tb (-1) = 0) ∨ (own_exl 1 tm cl tb = [] ∧ (∃ y M, ts ++ cs = y :: M ∧ own_en y = true) ∧ (∀ x ∈ ts ++ cs, decide (x = 60) = false) ∧ own_mo 1 tm cl tb (-1) = tb) := by
  rcases hT with ⟨h0, rfl⟩ | ⟨h1, h7, rfl⟩
  ·rcases hC with ⟨c0, rfl⟩ | ⟨c1, h, -⟩ | ⟨c1, -, rfl⟩
   ·refine Or.inl ⟨?_, rfl, rfl, ?_⟩
    ·unfold own_exl; rw [if_pos h0, if_pos c0]; rcases hB with ⟨b0, rfl⟩ | ⟨b1, rfl⟩
     ·rw [if_pos b0]
     ·rw [if_neg (own_10 b1)]
    ·unfold own_mo; rw [if_pos rfl, if_pos h0, if_pos c0]; split <;> rfl
   ·exact absurd h (by decide)
   ·refine Or.inr ⟨?_, ⟨62, [], rfl, rfl⟩, by decide, ?_⟩
    ·unfold own_exl; rw [if_pos h0, if_neg (own_10 c1), if_neg (show ¬ (1 : Int32) = 3 by decide)]
    ·unfold own_mo; rw [if_pos rfl, if_pos h0, if_neg (own_10 c1)]; rcases hB with ⟨b0, -⟩ | ⟨b1, -⟩
     ·rw [if_pos b0, b0]
     ·rw [b1]; rfl
  ·refine Or.inr ⟨?_, ⟨own_tb tc, cs, rfl, own_tbx.1⟩, ?_, ?_⟩
   ·unfold own_exl; rw [if_neg (own_10 h1)]
   ·intro x hx
    rcases List.mem_append.mp hx with hx | hx
    ·obtain rfl := List.mem_singleton.mp hx; exact decide_eq_false own_tbx.2.1
    ·rcases hC with ⟨-, rfl⟩ | ⟨-, h, -⟩ | ⟨-, -, rfl⟩
     ·simp at hx
     ·exact absurd h (by decide)
     ·obtain rfl := List.mem_singleton.mp hx; rfl
   ·unfold own_mo; rw [if_pos rfl, if_neg (own_10 h1)]; rcases hB with ⟨b0, -⟩ | ⟨b1, -⟩
    ·rw [if_pos b0, b0]
    ·rw [b1]; rfl
 have hwe : (-1 : Int32) = own_we 1 tm tc cl ne ca := by unfold own_we; rw [if_pos rfl]
 have lP : (P ++ [60]).length = P.length + 1 := by simp
 rcases sh with ⟨he, rfl, rfl, hm⟩ | ⟨he, hR, h60, hm⟩
 ·rw [he]
  have hxn : ∀ x ∈ nm ++ bs, own_en x = false := fun x hx => by
   rcases List.mem_append.mp hx with hx | hx
   ·exact nen x hx
   ·rcases hB with ⟨-, rfl⟩ | ⟨-, rfl⟩
    ·simp at hx
    ·obtain rfl := List.mem_singleton.mp hx; rfl
  obtain ⟨f1, f2, f3⟩ := own_name (T := T) (A := P ++ [60]) (nx := nm ++ bs) (R := []) (by rw [eT]; simp) lP hxn (Or.inl rfl)
  have hl : P.length + 1 + (nm ++ bs).length = T.length := by rw [hTl]; simp only [List.append_nil, List.length_append]
  refine ⟨T.length, -1, hnt, Or.inr (Or.inr ⟨rfl, ⟨k2, k3⟩, rfl, hl.symm, f1, rfl⟩), Nat.le_refl _, f2, f3, hwe, Or.inr ⟨hm, own_nt_none (Nat.le_refl _) (own_find_end _ _)⟩⟩
 ·rw [he, List.append_nil]
  obtain ⟨y, M, e, hy⟩ := hR
  obtain ⟨f1, f2, f3⟩ := own_name (T := T) (A := P ++ [60]) (nx := nm) (R := ts ++ cs ++ bs) (by rw [eT]; simp) lP nen (Or.inr ⟨y, M ++ bs, by rw [e]; rfl, hy⟩)
  have eS : T = (P ++ [60] ++ nm) ++ ((ts ++ cs) ++ bs) := by rw [eT]; simp
  have lS : (P ++ [60] ++ nm).length = P.length + 1 + nm.length := by simp only [List.length_append, List.length_singleton]
  have sec := own_nt_sec (B := P ++ [60] ++ nm) (M := ts ++ cs) (tb := tb) (by rw [← eS]; omega) h60 hB
  rw [← eS, lS] at sec
  refine ⟨P.length + 1 + nm.length, -1, hnt, Or.inr (Or.inr ⟨rfl, ⟨k2, k3⟩, rfl, rfl, f1, rfl⟩), f2, f2, f3, hwe, ?_⟩
  rcases sec with ⟨t1, s1⟩ | ⟨t0, s0⟩
  ·exact Or.inl ⟨by rw [hm, t1], s1⟩
  ·exact Or.inr ⟨by rw [hm, t0], s0⟩
theorem own_nm1x {k : Nat} (h : k < 2147483648) : ¬ oN k = -1 := fun q => own_nz k h (by rw [q]; decide)
theorem own_moy {k : Nat} {te : Int32} (h2 : ¬ tk = 1) (e : te = oN k) (h : k < 2147483648) (hB : OwnTb tb bs) : own_mo tk tm cl tb te = tb := by
 unfold own_mo
 rcases hB with ⟨b0, -⟩ | ⟨b1, -⟩
 ·rw [if_pos b0, b0]
 ·rw [if_neg (own_10 b1), if_neg h2, if_neg (by rw [e]; exact own_nm1x h), b1]
theorem own_mon (h2 : ¬ tk = 1) : own_mo tk tm cl tb (-1) = 0 := by
 unfold own_mo; rw [if_neg h2, if_pos rfl]; split <;> rfl
theorem own_bsl (hB : OwnTb tb bs) : bs.length ≤ 1 := by rcases hB with ⟨-, rfl⟩ | ⟨-, rfl⟩ <;> simp
theorem own_mb {q : Int32 → Bool} {A B : List Int32} (ha : ∀ x ∈ A, q x = false) (hb : ∀ x ∈ B, q x = false) : ∀ x ∈ A ++ B, q x = false := fun x hx => (List.mem_append.mp hx).elim (ha x) (hb x)
theorem own_bsn {q : Int32 → Bool} (hq : q 60 = false) (hB : OwnTb tb bs) : ∀ x ∈ bs, q x = false := fun x hx => by
 rcases hB with ⟨-, rfl⟩ | ⟨-, rfl⟩
 ·simp at hx
 ·obtain rfl := List.mem_singleton.mp hx; exact hq
theorem own_exb (h0 : tm = 0) (c0 : cl = 0) (hB : OwnTb tb bs) : own_exl tk tm cl tb = bs := by
 unfold own_exl; rw [if_pos h0, if_pos c0]; rcases hB with ⟨b0, rfl⟩ | ⟨b1, rfl⟩
 ·rw [if_pos b0]
 ·rw [if_neg (own_10 b1)]
theorem own_ft2y {M W : List Int32} (hs : OwnSk fr P k0) (hN : OwnNmL p n nm) (hB : OwnTb tb bs) (hT : T = (P ++ [60, 47] ++ nm) ++ (M ++ 62 :: (W ++ bs))) (hM : ∀ x ∈ M, decide (x = 62) = false) (hMe : M = [] ∨ ∃ y Y, M = y :: Y ∧ own_en y = true) (hW : ∀ x ∈ W, decide (x = 60) = false) (hl : M.length + W.length ≤ 4) (hex : own_exl 2 tm cl tb = []) (hwe : own_we 2 tm tc cl ne ca = oN (P.length + 2 + nm.length + M.length) + 1) : OwnFt 2 tm tc cl tb T P [60, 47] (nm ++ own_exl 2 tm cl tb) ne ca fr k0 := by
 obtain ⟨n3, nb, -, -⟩ := own_nmf hN
 have hP := hs.2.1
 have hb1 := own_bsl hB
 rw [hex, List.append_nil]
 have eT : T = P ++ 60 :: 47 :: (nm ++ M ++ 62 :: (W ++ bs)) := by rw [hT]; simp
 have hTl : T.length = P.length + 2 + nm.length + M.length + 1 + W.length + bs.length := by rw [eT]; simp only [List.length_append, List.length_cons]; omega
 have lB : (P ++ [60, 47] ++ nm).length = P.length + 2 + nm.length := by simp only [List.length_append, List.length_cons, List.length_nil]
 have k1 : own_ba2 T P.length = 47 := by rw [eT, own_ba_app]; decide
 have hnt : own_nt T fr = (some P.length, T.length, k0) := by
  have := own_nt_first (Y := 47 :: (nm ++ M ++ 62 :: (W ++ bs))) hs (by simp only [List.length_append, List.length_cons]; omega) (by rw [own_ba_app]; decide)
  rw [eT]; exact this
 obtain ⟨f1, f2, f3⟩ := own_name (T := T) (A := P ++ [60, 47]) (nx := nm) (R := M ++ 62 :: (W ++ bs)) (a := P.length + 2) (by rw [eT]; simp) (by simp) (fun x hx => (nb x hx).1) (Or.inr (by
  rcases hMe with rfl | ⟨y, Y, rfl, hy⟩
  ·exact ⟨62, _, rfl, rfl⟩
  ·exact ⟨y, _, rfl, hy⟩))
 obtain ⟨t1, t2⟩ := own_tey (B := P ++ [60, 47] ++ nm) (M := M) (W := W ++ bs) (by rw [← hT]; omega) hM
 rw [← hT, lB] at t1 t2
 have e1 : oN (P.length + 2 + nm.length + M.length) + 1 = oN (P.length + 2 + nm.length + M.length + 1) := own_succ _
 have eS : T = (P ++ [60, 47] ++ nm ++ M ++ [62]) ++ (W ++ bs) := by rw [eT]; simp
 have lS : (P ++ [60, 47] ++ nm ++ M ++ [62]).length = P.length + 2 + nm.length + M.length + 1 := by simp only [List.length_append, List.length_cons, List.length_nil]
 have sec := own_nt_sec (B := P ++ [60, 47] ++ nm ++ M ++ [62]) (M := W) (tb := tb) (by rw [← eS]; omega) hW hB
 rw [← eS, lS] at sec
 have hm : own_mo 2 tm cl tb (oN (P.length + 2 + nm.length + M.length) + 1) = tb := own_moy (by decide) e1 (by omega) hB
 refine ⟨_, _, hnt, Or.inr (Or.inl ⟨rfl, k1, t1, t2, f1, rfl⟩), by omega, f2, f3, hwe.symm, ?_⟩
 rcases sec with ⟨t1, s1⟩ | ⟨t0, s0⟩
 ·exact Or.inl ⟨by rw [hm, t1], s1⟩
 ·exact Or.inr ⟨by rw [hm, t0], s0⟩
theorem own_ft2n {M ex : List Int32} (hs : OwnSk fr P k0) (hN : OwnNmL p n nm) (hT : T = (P ++ [60, 47] ++ (nm ++ ex)) ++ M) (hM : ∀ x ∈ M, decide (x = 62) = false) (hMe : M = [] ∨ ∃ y Y, M = y :: Y ∧ own_en y = true) (hx : ∀ x ∈ ex, own_en x = false) (hl : M.length + ex.length ≤ 4) (hex : own_exl 2 tm cl tb = ex) (hwe : own_we 2 tm tc cl ne ca = -1) : OwnFt 2 tm tc cl tb T P [60, 47] (nm ++ own_exl 2 tm cl tb) ne ca fr k0 := by
 obtain ⟨n3, nb, -, -⟩ := own_nmf hN
 have hP := hs.2.1
 rw [hex]
 have eT : T = P ++ 60 :: 47 :: (nm ++ ex ++ M) := by rw [hT]; simp
 have lB : (P ++ [60, 47] ++ (nm ++ ex)).length = P.length + 2 + (nm ++ ex).length := by simp only [List.length_append, List.length_cons, List.length_nil]
 have k1 : own_ba2 T P.length = 47 := by rw [eT, own_ba_app]; decide
 have hnt : own_nt T fr = (some P.length, T.length, k0) := by
  have := own_nt_first (Y := 47 :: (nm ++ ex ++ M)) hs (by simp only [List.length_append, List.length_cons]; omega) (by rw [own_ba_app]; decide)
  rw [eT]; exact this
 obtain ⟨f1, f2, f3⟩ := own_name (T := T) (A := P ++ [60, 47]) (nx := nm ++ ex) (R := M) (a := P.length + 2) (by rw [eT]; simp) (by simp) (own_mb (fun x hx => (nb x hx).1) hx) hMe
 obtain ⟨t1, t2⟩ := own_ten (B := P ++ [60, 47] ++ (nm ++ ex)) (M := M) hM
 rw [← hT, lB] at t1; rw [← hT] at t2
 exact ⟨_, _, hnt, Or.inr (Or.inl ⟨rfl, k1, t1, t2, f1, rfl⟩), Nat.le_refl _, f2, f3, hwe.symm, Or.inr ⟨own_mon (by decide), own_nt_none (Nat.le_refl _) (own_find_end _ _)⟩⟩
theorem own_ft2 (hs : OwnSk fr P k0) (htk : tk = 2) (hN : OwnNmL p n nm) (ht8 : OwnT8 tc) (hT : OwnTm tm tc ts) (hC : OwnCl tk cl cs) (hB : OwnTb tb bs) (hh : T = P ++ ([60, 47] ++ nm ++ ts ++ cs ++ bs)) (hne : ne = P.length + 2 + nm.length) (hca : ca = ne + ts.length) : OwnFt tk tm tc cl tb T P [60, 47] (nm ++ own_exl tk tm cl tb) ne ca fr k0 := by
 subst htk
 have hb1 := own_bsl hB
 rcases hT with ⟨h0, rfl⟩ | ⟨h1, h7, rfl⟩
 ·rcases hC with ⟨c0, rfl⟩ | ⟨-, h, -⟩ | ⟨c1, -, rfl⟩
  ·exact own_ft2n (M := []) (ex := bs) hs hN (by rw [hh]; simp) (fun x hx => absurd hx (by simp)) (Or.inl rfl) (own_bsn rfl hB) (by simp; omega) (own_exb h0 c0 hB) (by unfold own_we; rw [if_neg (by decide), if_pos rfl, if_pos h0, if_pos c0])
  ·exact absurd h (by decide)
  ·refine own_ft2y (M := []) (W := []) hs hN hB (by rw [hh]; simp) (fun x hx => absurd hx (by simp)) (Or.inl rfl) (fun x hx => absurd hx (by simp)) (by simp) ?_ ?_
   ·unfold own_exl; rw [if_pos h0, if_neg (own_10 c1), if_neg (by decide)]
   ·unfold own_we; rw [if_neg (by decide), if_pos rfl, if_pos h0, if_neg (own_10 c1), hca, hne]
 ·have hex : own_exl 2 tm cl tb = [] := by unfold own_exl; rw [if_neg (own_10 h1)]
  by_cases h6 : tc = 6
  ·subst h6
   have hcs : (∀ x ∈ cs, decide (x = 60) = false) ∧ cs.length ≤ 1 := by
    rcases hC with ⟨-, rfl⟩ | ⟨-, h, -⟩ | ⟨-, -, rfl⟩
    ·exact ⟨by decide, by decide⟩
    ·exact absurd h (by decide)
    ·exact ⟨by decide, by decide⟩
   refine own_ft2y (M := []) (W := cs) hs hN hB (by rw [hh, show own_tb 6 = 62 by decide]; simp) (fun x hx => absurd hx (by simp)) (Or.inl rfl) hcs.1 (by have := hcs.2; simp; omega) hex ?_
   unfold own_we; rw [if_neg (by decide), if_pos rfl, if_neg (own_10 h1), if_pos rfl, hne]; rfl
  ·have h62 := own_tb62 ht8 h7 h6
   have hd : ∀ x ∈ [own_tb tc], decide (x = 62) = false := fun x hx => by obtain rfl := List.mem_singleton.mp hx; exact decide_eq_false h62
   rcases hC with ⟨c0, rfl⟩ | ⟨-, h, -⟩ | ⟨c1, -, rfl⟩
   ·refine own_ft2n (M := [own_tb tc] ++ bs) (ex := []) hs hN (by rw [hh]; simp) (own_mb hd (own_bsn rfl hB)) (Or.inr ⟨_, _, rfl, own_tbx.1⟩) (fun x hx => absurd hx (by simp)) (by simp; omega) hex ?_
    unfold own_we; rw [if_neg (by decide), if_pos rfl, if_neg (own_10 h1), if_neg h6, if_pos c0]
   ·exact absurd h (by decide)
   ·refine own_ft2y (M := [own_tb tc]) (W := []) hs hN hB (by rw [hh]; simp) hd (Or.inr ⟨_, _, rfl, own_tbx.1⟩) (fun x hx => absurd hx (by simp)) (by simp) hex ?_
    unfold own_we; rw [if_neg (by decide), if_pos rfl, if_neg (own_10 h1), if_neg h6, if_neg (own_10 c1), hca, hne]
theorem own_ft3y {ex R : List Int32} (hs : OwnSk fr P k0) (hN : OwnNmL p n nm) (hB : OwnTb tb bs) (hT : T = (P ++ [60, 63]) ++ ((nm ++ ts) ++ 63 :: 62 :: bs)) (hM : ∀ x ∈ ts, ¬ x = 63) (hl : ts.length ≤ 1) (hR : ts ++ 63 :: 62 :: bs = ex ++ R) (hRe : ∃ y Y, R = y :: Y ∧ own_en y = true) (hx : ∀ x ∈ ex, own_en x = false) (hex : own_exl 3 tm cl tb = ex) (hwe : own_we 3 tm tc cl ne ca = oN (P.length + 2 + (nm ++ ts).length) + 2) : OwnFt 3 tm tc cl tb T P [60, 63] (nm ++ own_exl 3 tm cl tb) ne ca fr k0 := by
 obtain ⟨n3, nb, -, -⟩ := own_nmf hN
 have hP := hs.2.1
 have hb1 := own_bsl hB
 rw [hex]
 have eT : T = P ++ 60 :: 63 :: (nm ++ ts ++ 63 :: 62 :: bs) := by rw [hT]; simp
 have hTl : T.length = P.length + 2 + (nm ++ ts).length + 2 + bs.length := by rw [eT]; simp only [List.length_append, List.length_cons]; omega
 have lN : (nm ++ ts).length ≤ 4 := by simp only [List.length_append]; omega
 have lB : (P ++ [60, 63]).length = P.length + 2 := by simp
 have k1 : own_ba2 T P.length = 63 := by rw [eT, own_ba_app]; decide
 have hnt : own_nt T fr = (some P.length, T.length, k0) := by
  have := own_nt_first (Y := 63 :: (nm ++ ts ++ 63 :: 62 :: bs)) hs (by simp only [List.length_append, List.length_cons] at lN ⊢; omega) (by rw [own_ba_app]; decide)
  rw [eT]; exact this
 obtain ⟨f1, f2, f3⟩ := own_name (T := T) (A := P ++ [60, 63]) (nx := nm ++ ex) (R := R) (a := P.length + 2) (by rw [hT, List.append_assoc nm, hR]; simp) lB (own_mb (fun x hx => (nb x hx).1) hx) (Or.inr hRe)
 obtain ⟨t1, t2⟩ := own_past_y (B := P ++ [60, 63]) (M := nm ++ ts) (W := bs) (by rw [← hT]; omega) (fun x hx => (List.mem_append.mp hx).elim (fun h => (nb x h).2.2.1) (hM x))
 rw [← hT, lB] at t1 t2
 have e1 : oN (P.length + 2 + (nm ++ ts).length) + 2 = oN (P.length + 2 + (nm ++ ts).length + 2) := by rw [show (2 : Int32) = oN 2 from rfl, own_addn]
 have eS : T = (P ++ [60, 63] ++ (nm ++ ts) ++ [63, 62]) ++ ([] ++ bs) := by rw [eT]; simp
 have lS : (P ++ [60, 63] ++ (nm ++ ts) ++ [63, 62]).length = P.length + 2 + (nm ++ ts).length + 2 := by simp only [List.length_append, List.length_cons, List.length_nil]
 have sec := own_nt_sec (B := P ++ [60, 63] ++ (nm ++ ts) ++ [63, 62]) (M := []) (tb := tb) (by rw [← eS]; omega) (fun x hx => absurd hx (by simp)) hB
 rw [← eS, lS] at sec
 have hm : own_mo 3 tm cl tb (oN (P.length + 2 + (nm ++ ts).length) + 2) = tb := own_moy (by decide) e1 (by omega) hB
 refine ⟨_, _, hnt, Or.inl ⟨rfl, k1, t1, t2, f1, rfl⟩, by omega, f2, f3, hwe.symm, ?_⟩
 rcases sec with ⟨t1, s1⟩ | ⟨t0, s0⟩
 ·exact Or.inl ⟨by rw [hm, t1], s1⟩
 ·exact Or.inr ⟨by rw [hm, t0], s0⟩
theorem own_ft3n {ex R : List Int32} (hs : OwnSk fr P k0) (hN : OwnNmL p n nm) (hT : T = (P ++ [60, 63]) ++ ((nm ++ ex) ++ R)) (hM : ∀ x ∈ ex ++ R, ¬ x = 63) (hRe : R = [] ∨ ∃ y Y, R = y :: Y ∧ own_en y = true) (hx : ∀ x ∈ ex, own_en x = false) (hl : ex.length + R.length ≤ 4) (hex : own_exl 3 tm cl tb = ex) (hwe : own_we 3 tm tc cl ne ca = -1) : OwnFt 3 tm tc cl tb T P [60, 63] (nm ++ own_exl 3 tm cl tb) ne ca fr k0 := by
 obtain ⟨n3, nb, -, -⟩ := own_nmf hN
 have hP := hs.2.1
 rw [hex]
 have eT : T = P ++ 60 :: 63 :: (nm ++ ex ++ R) := by rw [hT]; simp
 have lB : (P ++ [60, 63]).length = P.length + 2 := by simp
 have k1 : own_ba2 T P.length = 63 := by rw [eT, own_ba_app]; decide
 have hnt : own_nt T fr = (some P.length, T.length, k0) := by
  have := own_nt_first (Y := 63 :: (nm ++ ex ++ R)) hs (by simp only [List.length_append, List.length_cons]; omega) (by rw [own_ba_app]; decide)
  rw [eT]; exact this
 obtain ⟨f1, f2, f3⟩ := own_name (T := T) (A := P ++ [60, 63]) (nx := nm ++ ex) (R := R) (a := P.length + 2) hT lB (own_mb (fun x hx => (nb x hx).1) hx) hRe
 obtain ⟨t1, t2⟩ := own_past_n (B := P ++ [60, 63]) (M := (nm ++ ex) ++ R) (fun x hx => (List.mem_append.mp (List.append_assoc nm ex R ▸ hx)).elim (fun h => (nb x h).2.2.1) (hM x))
 rw [← hT, lB] at t1; rw [← hT] at t2
 exact ⟨_, _, hnt, Or.inl ⟨rfl, k1, t1, t2, f1, rfl⟩, Nat.le_refl _, f2, f3, hwe.symm, Or.inr ⟨own_mon (by decide), own_nt_none (Nat.le_refl _) (own_find_end _ _)⟩⟩
theorem own_ft3 (hs : OwnSk fr P k0) (htk : tk = 3) (hN : OwnNmL p n nm) (ht8 : OwnT8 tc) (hT : OwnTm tm tc ts) (hC : OwnCl tk cl cs) (hB : OwnTb tb bs) (hh : T = P ++ ([60, 63] ++ nm ++ ts ++ cs ++ bs)) (hne : ne = P.length + 2 + nm.length) (hca : ca = ne + ts.length) : OwnFt tk tm tc cl tb T P [60, 63] (nm ++ own_exl tk tm cl tb) ne ca fr k0 := by
 subst htk
 have hb1 := own_bsl hB
 have b63 : ∀ x ∈ bs, ¬ x = 63 := fun x hx => of_decide_eq_false (own_bsn (q := fun x => decide (x = 63)) rfl hB x hx)
 have hca' : ca = P.length + 2 + (nm ++ ts).length := by rw [hca, hne, List.length_append]; omega
 rcases hC with ⟨c0, rfl⟩ | ⟨c1, -, rfl⟩ | ⟨-, h, -⟩
 ·have hwe : own_we 3 tm tc cl ne ca = -1 := by unfold own_we; rw [if_neg (by decide), if_neg (by decide), if_pos c0]
  rcases hT with ⟨h0, rfl⟩ | ⟨h1, h7, rfl⟩
  ·exact own_ft3n (ex := bs) (R := []) hs hN (by rw [hh]; simp) (by rw [List.append_nil]; exact b63) (Or.inl rfl) (own_bsn rfl hB) (by simp; omega) (own_exb h0 c0 hB) hwe
  ·exact own_ft3n (ex := []) (R := [own_tb tc] ++ bs) hs hN (by rw [hh]; simp) (fun x hx => (List.mem_append.mp (show x ∈ [own_tb tc] ++ bs from hx)).elim (fun h => by obtain rfl := List.mem_singleton.mp h; exact own_tbx.2.2.1) (b63 x)) (Or.inr ⟨_, _, rfl, own_tbx.1⟩) (fun x hx => absurd hx (by simp)) (by simp; omega) (by unfold own_exl; rw [if_neg (own_10 h1)]) hwe
 ·have hwe : own_we 3 tm tc cl ne ca = oN (P.length + 2 + (nm ++ ts).length) + 2 := by unfold own_we; rw [if_neg (by decide), if_neg (by decide), if_neg (own_10 c1), hca']
  rcases hT with ⟨h0, rfl⟩ | ⟨h1, h7, rfl⟩
  ·exact own_ft3y (ex := [63]) (R := 62 :: bs) hs hN hB (by rw [hh]; simp) (fun x hx => absurd hx (by simp)) (by simp) rfl ⟨_, _, rfl, rfl⟩ (by decide) (by unfold own_exl; rw [if_pos h0, if_neg (own_10 c1), if_pos rfl]) hwe
  ·exact own_ft3y (ex := []) (R := own_tb tc :: 63 :: 62 :: bs) hs hN hB (by rw [hh]; simp) (fun x hx => by obtain rfl := List.mem_singleton.mp hx; exact own_tbx.2.2.1) (by simp) rfl ⟨_, _, rfl, own_tbx.1⟩ (fun x hx => absurd hx (by simp)) (by unfold own_exl; rw [if_neg (own_10 h1)]) hwe
 ·exact absurd rfl h
theorem own_ft (hs : OwnSk fr P k0) (hK : OwnK tk K) (hN : OwnNmL p n nm) (ht8 : OwnT8 tc) (hT : OwnTm tm tc ts) (hC : OwnCl tk cl cs) (hB : OwnTb tb bs) (hx : tk = 1 → n = 0 → ¬ tc = 5) (hh : T = P ++ (K ++ nm ++ ts ++ cs ++ bs)) (hne : ne = P.length + K.length + nm.length) (hca : ca = ne + ts.length) : OwnFt tk tm tc cl tb T P K (nm ++ own_exl tk tm cl tb) ne ca fr k0 := by
 rcases hK with ⟨h, rfl⟩ | ⟨h, rfl⟩ | ⟨h, rfl⟩
 ·exact own_ft1 hs h hN ht8 hT hC hB (hx h) hh
 ·exact own_ft2 hs h hN ht8 hT hC hB hh hne hca
 ·exact own_ft3 hs h hN ht8 hT hC hB hh hne hca
theorem own_exf (tk tm cl tb : Int32) : (own_exl tk tm cl tb).length ≤ 1 ∧ OwnNb (own_exl tk tm cl tb) := by
 unfold own_exl; (repeat' split) <;> exact ⟨by decide, by unfold OwnNb; decide⟩
theorem own_nxf (hN : OwnNmL p n nm) : (nm ++ own_exl tk tm cl tb).length ≤ 4 ∧ OwnNb (nm ++ own_exl tk tm cl tb) := by
 obtain ⟨n3, nb, -, -⟩ := own_nmf hN
 obtain ⟨e1, e2⟩ := own_exf tk tm cl tb
 exact ⟨by rw [List.length_append]; omega, fun x hx => (List.mem_append.mp hx).elim (fun h => (nb x h).2.2.2.2.2.2.2) (e2 x)⟩
end OwnFtS
end OwnTag
theorem own_skp {F : List Int32} (hF : F = [] ∨ F = [60]) (p : Int32) : ∃ k0, OwnSk F.length (F ++ own_pfx p) k0 := by
 unfold own_pfx
 rcases hF with rfl | rfl
 ·by_cases h2 : p = 2
  ·rw [if_pos h2]; exact ⟨_, own_sk2_0⟩
  rw [if_neg h2]
  by_cases h3 : p = 3
  ·rw [if_pos h3]; exact ⟨_, own_sk3_0⟩
  rw [if_neg h3]
  by_cases h4 : p = 4
  ·rw [if_pos h4]; exact ⟨_, own_sk4_0⟩
  rw [if_neg h4]
  by_cases h5 : p = 5
  ·rw [if_pos h5]; exact ⟨_, own_sk5_0⟩
  rw [if_neg h5]
  by_cases h6 : p = 6
  ·rw [if_pos h6]; exact ⟨_, own_sk6_0⟩
  rw [if_neg h6]
  by_cases h7 : p = 7
  ·rw [if_pos h7]; exact ⟨_, own_sk7_0⟩
  rw [if_neg h7]
  by_cases h8 : p = 8
  ·rw [if_pos h8]; exact ⟨_, own_sk8_0⟩
  rw [if_neg h8]
  by_cases h9 : p = 9
  ·rw [if_pos h9]; exact ⟨_, own_sk9_0⟩
  rw [if_neg h9]
  by_cases h10 : p = 10
  ·rw [if_pos h10]; exact ⟨_, own_sk10_0⟩
  rw [if_neg h10]
  by_cases h11 : p = 11
  ·rw [if_pos h11]; exact ⟨_, own_sk11_0⟩
  rw [if_neg h11]
  exact ⟨_, own_sk0 (by decide)⟩
 ·by_cases h2 : p = 2
  ·rw [if_pos h2]; exact ⟨_, own_sk2_1⟩
  rw [if_neg h2]
  by_cases h3 : p = 3
  ·rw [if_pos h3]; exact ⟨_, own_sk3_1⟩
  rw [if_neg h3]
  by_cases h4 : p = 4
  ·rw [if_pos h4]; exact ⟨_, own_sk4_1⟩
  rw [if_neg h4]
  by_cases h5 : p = 5
  ·rw [if_pos h5]; exact ⟨_, own_sk5_1⟩
  rw [if_neg h5]
  by_cases h6 : p = 6
  ·rw [if_pos h6]; exact ⟨_, own_sk6_1⟩
  rw [if_neg h6]
  by_cases h7 : p = 7
  ·rw [if_pos h7]; exact ⟨_, own_sk7_1⟩
  rw [if_neg h7]
  by_cases h8 : p = 8
  ·rw [if_pos h8]; exact ⟨_, own_sk8_1⟩
  rw [if_neg h8]
  by_cases h9 : p = 9
  ·rw [if_pos h9]; exact ⟨_, own_sk9_1⟩
  rw [if_neg h9]
  by_cases h10 : p = 10
  ·rw [if_pos h10]; exact ⟨_, own_sk10_1⟩
  rw [if_neg h10]
  by_cases h11 : p = 11
  ·rw [if_pos h11]; exact ⟨_, own_sk11_1⟩
  rw [if_neg h11]
  exact ⟨_, own_sk0 (by decide)⟩
theorem own_pfx_lit (p : Int32) : OwnLit (own_pfx p) ∧ (own_pfx p).length ≤ 15 := by
 unfold own_pfx
 (repeat' split) <;> exact ⟨⟨by decide, by decide⟩, by decide⟩
section OwnUnf
theorem own_gd (P U : List Int32) (j : Nat) : (P ++ U).getD (P.length + j) 0 = U.getD j 0 := by
 rw [List.getD_eq_getElem?_getD, List.getElem?_append_right (by omega), Nat.add_sub_cancel_left, ← List.getD_eq_getElem?_getD]
theorem own_dr (P U : List Int32) (j : Nat) : (P ++ U).drop (P.length + j) = U.drop j := by
 rw [List.drop_append, List.drop_eq_nil_of_le (by omega), List.nil_append, Nat.add_sub_cancel_left]
theorem own_gd0 (P U : List Int32) : (P ++ U).getD P.length 0 = U.getD 0 0 := own_gd P U 0
theorem own_dr0 (P U : List Int32) : (P ++ U).drop P.length = U := List.drop_left
theorem own_uf0 (P : List Int32) : own_pm (P ++ [60, 33, 45, 45, 60, 97, 62]) P.length = (-1, 4) := by
 have e : P.length + 7 - (P.length + 4) = 3 := by omega
 simp [own_pm, own_sw, own_pd, own_ix, own_find, own_past, own_fs, own_dep, List.findIdx_cons, own_gd, own_dr, own_dr0, own_gd0, Nat.add_assoc, e]
theorem own_uf1 (P : List Int32) : own_pm (P ++ [60, 33, 91, 67, 68, 65, 84, 65, 91, 60, 97, 62]) P.length = (-1, 6) := by
 have e : P.length + 12 - (P.length + 9) = 3 := by omega
 simp [own_pm, own_sw, own_pd, own_ix, own_find, own_past, own_fs, own_dep, List.findIdx_cons, own_gd, own_dr, own_dr0, own_gd0, Nat.add_assoc, e]
theorem own_uf2 (P : List Int32) : own_pm (P ++ [60, 33, 97, 39, 60, 97, 62]) P.length = (-1, 4) := by
 have e : P.length + (7 + 1) - (P.length + 2) = 6 := by omega
 simp [own_pm, own_sw, own_pd, own_ix, own_find, own_past, own_fs, own_dep, List.findIdx_cons, own_gd, own_dr, own_dr0, own_gd0, Nat.add_assoc, e]
theorem own_uf3 (P : List Int32) : own_pm (P ++ [60, 33, 91, 60, 97, 62]) P.length = (-1, 16) := by
 have e : P.length + (6 + 1) - (P.length + 2) = 5 := by omega
 simp [own_pm, own_sw, own_pd, own_ix, own_find, own_past, own_fs, own_dep, List.findIdx_cons, own_gd, own_dr, own_dr0, own_gd0, Nat.add_assoc, e]
theorem own_unn (P : List Int32) (u : Int32) : ∃ k, k ≤ 16 ∧ own_pm (P ++ own_unf u) P.length = (-1, k) ∧ ∃ Y, own_unf u = 60 :: 33 :: Y ∧ Y.length ≤ 10 := by
 unfold own_unf
 by_cases h0 : u = 0
 ·rw [if_pos h0]; exact ⟨_, by decide, own_uf0 P, _, rfl, by decide⟩
 rw [if_neg h0]
 by_cases h1 : u = 1
 ·rw [if_pos h1]; exact ⟨_, by decide, own_uf1 P, _, rfl, by decide⟩
 rw [if_neg h1]
 by_cases h2 : u = 2
 ·rw [if_pos h2]; exact ⟨_, by decide, own_uf2 P, _, rfl, by decide⟩
 rw [if_neg h2]; exact ⟨_, by decide, own_uf3 P, _, rfl, by decide⟩
theorem own_unf_lit (u : Int32) : OwnLit (own_unf u) ∧ (own_unf u).length ≤ 12 := by
 unfold own_unf
 (repeat' split) <;> exact ⟨⟨by decide, by decide⟩, by decide⟩
theorem own_non {fr k0 : Nat} {P : List Int32} (hs : OwnSk fr P k0) (u : Int32) : ∃ k, k ≤ 48 ∧ own_nt (P ++ own_unf u) fr = (none, P.length, k) := by
 obtain ⟨k, hk, hm, Y, hY, hl⟩ := own_unn P u
 obtain ⟨h1, h2, h3, h4⟩ := hs
 have hlen : (P ++ own_unf u).length = P.length + (Y.length + 2) := by rw [hY, List.length_append]; rfl
 refine ⟨k + k0, by omega, ?_⟩
 rw [h4 (own_unf u) (by rw [hY]; simp only [List.length_cons]; omega), own_nt_stop (i := P.length) (by omega) (by omega) (own_find60 (by rw [own_gd0, hY]; rfl) (by omega)) (by omega) (by rw [hY, own_ba_app]; decide) hm (by decide)]
theorem own_nn0 {fr k0 : Nat} {P : List Int32} (hs : OwnSk fr P k0) : own_nt P fr = (none, P.length, k0) := by
 have := hs.2.2.2 [] (by simp)
 rw [List.append_nil, own_nt_none (Nat.le_refl _) (own_find_end _ _)] at this
 rw [this]; simp
theorem own_ne (T : List Int32) : own_nt T T.length = (none, T.length, 0) := own_nt_none (Nat.le_refl _) (own_find_end _ _)
end OwnUnf
section OwnFin
theorem own_bit (x : Int32) : x &&& (1 : Int32) = 0 ∨ x &&& (1 : Int32) = 1 := by
 have h1 := c_mask x 1 1 (by decide) (by decide)
 have e0 : (0 : Int32).toInt = 0 := by decide
 have e1 : (1 : Int32).toInt = 1 := by decide
 rw [← Int32.toInt_inj, ← Int32.toInt_inj]; omega
theorem own_b3 (x : Int32) : x &&& (3 : Int32) = 0 ∨ x &&& (3 : Int32) = 1 ∨ x &&& (3 : Int32) = 2 ∨ x &&& (3 : Int32) = 3 := by
 have h1 := c_mask x 3 2 (by decide) (by decide)
 have e0 : (0 : Int32).toInt = 0 := by decide
 have e1 : (1 : Int32).toInt = 1 := by decide
 have e2 : (2 : Int32).toInt = 2 := by decide
 have e3 : (3 : Int32).toInt = 3 := by decide
 rw [← Int32.toInt_inj, ← Int32.toInt_inj, ← Int32.toInt_inj, ← Int32.toInt_inj]; omega
theorem own_b7 (x : Int32) : OwnT8 (x &&& (7 : Int32)) := by
 have h1 := c_mask x 7 3 (by decide) (by decide)
 have e0 : (0 : Int32).toInt = 0 := by decide
 have e1 : (1 : Int32).toInt = 1 := by decide
 have e2 : (2 : Int32).toInt = 2 := by decide
 have e3 : (3 : Int32).toInt = 3 := by decide
 have e4 : (4 : Int32).toInt = 4 := by decide
 have e5 : (5 : Int32).toInt = 5 := by decide
 have e6 : (6 : Int32).toInt = 6 := by decide
 have e7 : (7 : Int32).toInt = 7 := by decide
 unfold OwnT8
 rw [← Int32.toInt_inj, ← Int32.toInt_inj, ← Int32.toInt_inj, ← Int32.toInt_inj, ← Int32.toInt_inj, ← Int32.toInt_inj, ← Int32.toInt_inj, ← Int32.toInt_inj]; omega
def OwnTk (tk : Int32) : Prop := tk = 0 ∨ tk = 1 ∨ tk = 2 ∨ tk = 3 ∨ tk = 4
theorem own_tk5 (x : Int32) : OwnTk ((x &&& (7 : Int32)) % (5 : Int32)) := by
 unfold OwnTk
 rcases own_b7 x with e | e | e | e | e | e | e | e <;> rw [e] <;> decide
theorem own_tk1 {tk : Int32} (h : OwnTk tk) (h4 : ¬ tk = 4) (h0 : ¬ tk = 0) (h2 : ¬ tk = 2) (h3 : ¬ tk = 3) : tk = 1 := by
 rcases h with e | e | e | e | e
 ·exact absurd e h0
 ·exact e
 ·exact absurd e h2
 ·exact absurd e h3
 ·exact absurd e h4
def Own01 (x : Int32) : Prop := x = 0 ∨ x = 1
theorem own_01 {x : Int32} (h : Own01 x) (h0 : ¬ x = 0) : x = 1 := h.resolve_left h0
def OwnTmc (tm tc : Int32) : Prop := (tm = 0 ∧ ¬ tc < 7) ∨ (tm = 1 ∧ tc < 7)
theorem own_tm0 {tm tc : Int32} (h : OwnTmc tm tc) (h0 : ¬ tm = 0) : tm = 1 ∧ tc < 7 := by
 rcases h with ⟨e, -⟩ | e
 ·exact absurd e h0
 ·exact e
section
variable {Z : State} {h : Heap} {a b : Addr} {k k' : ClassId} {n n' : Int32} {pre pre' R : List Int32}
theorem Txt.front (F : Txt Z h a k n (pre ++ R)) : Txt Z h a k n pre := by
 obtain ⟨bs, A, e, t⟩ := F
 refine ⟨bs, A, e, ?_⟩
 have := congrArg (List.take pre.length) t
 rw [List.take_take, List.take_left, List.length_append, Nat.min_eq_left (Nat.le_add_right _ _)] at this; exact this
theorem own_txne (F : Txt Z h a k n pre) (G : Txt Z h b k' n' pre') (q : n.toNatClampNeg ≠ n'.toNatClampNeg) : a ≠ b := by
 obtain ⟨bs, A, -⟩ := F; obtain ⟨bs', B, -⟩ := G; exact arv_ne A B (Or.inl q)
end
theorem own_l32 {pre : List Int32} {k : Nat} (h : pre.length ≤ k) (hk : k < 32) : pre.length < (32 : Int32).toNatClampNeg := by rw [show (32 : Int32).toNatClampNeg = 32 from rfl]; omega
theorem own_la {pre : List Int32} {x : Int32} {k : Nat} (h : pre.length ≤ k) : (pre ++ [x]).length ≤ k + 1 := by rw [List.length_append, List.length_singleton]; omega
theorem own_pos2 (pre : List Int32) (x y : Int32) : oN pre.length + (2 : Int32) = oN (pre ++ [x] ++ [y]).length := by
 rw [List.length_append, List.length_append, List.length_singleton, List.length_singleton, show (2 : Int32) = oN 2 from rfl, ← Int32.ofNat_add]
theorem own_fib (p : Int32) : (own_fi p).toInt8.toInt32 = own_fi p ∧ ¬ own_fi p = 60 := by
 unfold own_fi
 split
 ·exact ⟨by decide, by decide⟩
 ·next h => exact ⟨own_88 p, h⟩
theorem own_nbyb (p : Int32) : (own_nby p).toInt8.toInt32 = own_nby p := (own_nbyx p).1.2.2.2.2.2.2.1
-- the wanted name
def OwnEx (ex ec tk tm cl tb : Int32) : Prop := (ex = 1 ∧ own_exl tk tm cl tb = [ec] ∧ own_dc ec = ec) ∨ (ex = 0 ∧ own_exl tk tm cl tb = [])
section
variable {ex ec tk tm tc cl tb p n te : Int32} {nm : List Int32} {ne ca : Nat}
theorem own_exa (h : ¬ tm = 0) : OwnEx 0 120 tk tm cl tb := Or.inr ⟨rfl, by unfold own_exl; rw [if_neg h]⟩
theorem own_exb1 (h : tm = 0) (h2 : ¬ cl = 0) (h3 : tk = 3) : OwnEx 1 63 tk tm cl tb := Or.inl ⟨rfl, by unfold own_exl; rw [if_pos h, if_neg h2, if_pos h3], by decide⟩
theorem own_exb2 (h : tm = 0) (h2 : ¬ cl = 0) (h3 : ¬ tk = 3) : OwnEx 0 63 tk tm cl tb := Or.inr ⟨rfl, by unfold own_exl; rw [if_pos h, if_neg h2, if_neg h3]⟩
theorem own_exc (h : tm = 0) (h2 : cl = 0) (ht : Own01 tb) : OwnEx tb 60 tk tm cl tb := by
 rcases ht with h3 | h3
 ·exact Or.inr ⟨h3, by unfold own_exl; rw [if_pos h, if_pos h2, if_pos h3]⟩
 ·exact Or.inl ⟨h3, by unfold own_exl; rw [if_pos h, if_pos h2, if_neg (own_10 h3)], by decide⟩
theorem own_len0 (hN : OwnNmL p n nm) (hE : OwnEx ex ec tk tm cl tb) (h : ex = 0) : n + (0 : Int32) = oN (nm ++ own_exl tk tm cl tb).length := by
 rcases hE with ⟨e, -⟩ | ⟨-, e⟩
 ·exact absurd h (own_10 e)
 ·rw [e, List.append_nil, (own_nmf hN).2.2.2, Int32.add_zero]
theorem own_len1 (hN : OwnNmL p n nm) (hE : OwnEx ex ec tk tm cl tb) (h : ¬ ex = 0) : n + (1 : Int32) = oN (nm ++ own_exl tk tm cl tb).length := by
 rcases hE with ⟨-, e, -⟩ | ⟨e, -⟩
 ·rw [e, List.length_append, List.length_singleton, ← own_succ, (own_nmf hN).2.2.2]
 ·exact absurd e h
theorem own_cix {c : Int32} {i : Nat} (hE : OwnEx ex ec tk tm cl tb) (hc : (i < nm.length ∧ own_dc (nm.getD i 0) = c) ∨ (nm.length ≤ i ∧ c = ec)) : own_ci ((nm ++ own_exl tk tm cl tb).map own_dc) i c = true := by
 rcases hc with ⟨hi, e⟩ | ⟨hi, rfl⟩
 ·refine own_ci_y ?_
  rw [List.map_append, List.getD_eq_getElem?_getD, List.getElem?_append_left (by rw [List.length_map]; exact hi), List.getElem?_map, List.getElem?_eq_getElem hi, ← e, List.getD_eq_getElem?_getD, List.getElem?_eq_getElem hi]; rfl
 ·rcases hE with ⟨-, e, d⟩ | ⟨-, e⟩
  ·rw [e]
   by_cases h : i = nm.length
   ·refine own_ci_y ?_
    rw [List.map_append, List.getD_eq_getElem?_getD, List.getElem?_append_right (by rw [List.length_map]; exact hi), List.length_map, h, Nat.sub_self]; exact d
   ·exact own_ci_l (by rw [List.length_map, List.length_append, List.length_singleton]; omega)
  ·rw [e]; exact own_ci_l (by rw [List.length_map, List.append_nil]; omega)
def OwnCs (nx : List Int32) (c0 c1 c2 ec : Int32) : Prop := own_ci (nx.map own_dc) 0 c0 = true ∧ own_ci (nx.map own_dc) 1 c1 = true ∧ own_ci (nx.map own_dc) 2 c2 = true ∧ own_ci (nx.map own_dc) 3 ec = true
theorem own_c0 (hN : OwnNmL p 0 nm) (hE : OwnEx ex ec tk tm cl tb) : OwnCs (nm ++ own_exl tk tm cl tb) ec ec ec ec := by
 rcases hN with ⟨-, rfl⟩ | ⟨e, -⟩ | ⟨e, -⟩ | ⟨e, -⟩
 ·exact ⟨own_cix hE (Or.inr ⟨by simp, rfl⟩), own_cix hE (Or.inr ⟨by simp, rfl⟩), own_cix hE (Or.inr ⟨by simp, rfl⟩), own_cix hE (Or.inr ⟨by simp, rfl⟩)⟩
 all_goals exact absurd e (by decide)
theorem own_c1 (hN : OwnNmL p 1 nm) (hE : OwnEx ex ec tk tm cl tb) : OwnCs (nm ++ own_exl tk tm cl tb) (own_nch p) ec ec ec := by
 rcases hN with ⟨e, -⟩ | ⟨-, rfl⟩ | ⟨e, -⟩ | ⟨e, -⟩
 ·exact absurd e (by decide)
 ·exact ⟨own_cix hE (Or.inl ⟨by simp, (own_nbyx _).2⟩), own_cix hE (Or.inr ⟨by simp, rfl⟩), own_cix hE (Or.inr ⟨by simp, rfl⟩), own_cix hE (Or.inr ⟨by simp, rfl⟩)⟩
 all_goals exact absurd e (by decide)
theorem own_c2 (hN : OwnNmL p 2 nm) (hE : OwnEx ex ec tk tm cl tb) : OwnCs (nm ++ own_exl tk tm cl tb) (own_nch p) (own_nch (own_s8x p)) ec ec := by
 rcases hN with ⟨e, -⟩ | ⟨e, -⟩ | ⟨-, rfl⟩ | ⟨e, -⟩
 ·exact absurd e (by decide)
 ·exact absurd e (by decide)
 ·exact ⟨own_cix hE (Or.inl ⟨by simp, (own_nbyx _).2⟩), own_cix hE (Or.inl ⟨by simp, (own_nbyx _).2⟩), own_cix hE (Or.inr ⟨by simp, rfl⟩), own_cix hE (Or.inr ⟨by simp, rfl⟩)⟩
 ·exact absurd e (by decide)
theorem own_c3 (hN : OwnNmL p 3 nm) (hE : OwnEx ex ec tk tm cl tb) : OwnCs (nm ++ own_exl tk tm cl tb) (own_nch p) (own_nch (own_s8x p)) (own_nch (own_s16x p)) ec := by
 rcases hN with ⟨e, -⟩ | ⟨e, -⟩ | ⟨e, -⟩ | ⟨-, rfl⟩
 ·exact absurd e (by decide)
 ·exact absurd e (by decide)
 ·exact absurd e (by decide)
 ·exact ⟨own_cix hE (Or.inl ⟨by simp, (own_nbyx _).2⟩), own_cix hE (Or.inl ⟨by simp, (own_nbyx _).2⟩), own_cix hE (Or.inl ⟨by simp, (own_nbyx _).2⟩), own_cix hE (Or.inr ⟨by simp, rfl⟩)⟩
theorem own_bt {b : Bool} (h : b = true) : ¬ own_b b = 0 := by rw [h]; decide
def OwnKx (tk : Int32) (kx kS kE kI : Addr) : Prop := (tk = 1 ∧ kx = kS) ∨ (tk = 2 ∧ kx = kE) ∨ (tk = 3 ∧ kx = kI)
def OwnS2 (mo r2 s2 : Int32) (k2 : Value) (kS : Addr) (ln : Nat) : Prop := (mo = 1 ∧ r2 = 1 ∧ k2 = .ref kS ∧ s2 = oN (ln - 1) ∧ 1 ≤ ln) ∨ (mo = 0 ∧ r2 = 0 ∧ k2 = .null ∧ s2 = oN ln)
theorem own_pred1 {ln : Nat} (h : 1 ≤ ln) : oN (ln - 1) = oN ln - (1 : Int32) := (own_pred h).symm
end
end OwnFin
section OwnStm
variable {Z : State} {h h' : Heap} {kS kE kI u8 : Addr} {cs : Int32} {fm : Value}
def Stm (Z : State) (h : Heap) (kS kE kI : Addr) (cs : Int32) (fm : Value) (u8 : Addr) : Prop :=
 Sta Z h cH "START" cF (.ref kS) ∧ Sta Z h cH "END" cF (.ref kE) ∧ Sta Z h cH "INSTRUCTION" cF (.ref kI) ∧ Sta Z h cB "COMPACT_STRINGS" "Z" (.int cs) ∧ Sta Z h cG "SIOOBE_FORMATTER" cE fm ∧ Sta Z h "sun/nio/cs/UTF_8" "INSTANCE" "Lsun/nio/cs/UTF_8;" (.ref u8) ∧ Sta Z h "java/nio/charset/StandardCharsets" "UTF_8" "Ljava/nio/charset/Charset;" (.ref u8) ∧ Sta Z h cD "$assertionsDisabled" "Z" (.int 1) ∧ Sta Z h cD "HI_BYTE_SHIFT" "I" (.int 0) ∧ Sta Z h cD "LO_BYTE_SHIFT" "I" (.int 8) ∧ Exa Z h u8 "sun/nio/cs/UTF_8"
theorem Stm.ext (F : Stm Z h kS kE kI cs fm u8) (E : Ext h h') : Stm Z h' kS kE kI cs fm u8 := by
 obtain ⟨a, b, c, d, e, f, g, j, k, l, i⟩ := F; exact ⟨a.ext E, b.ext E, c.ext E, d.ext E, e.ext E, f.ext E, g.ext E, j.ext E, k.ext E, l.ext E, i.ext E⟩
theorem Stm.wr {x : Addr} {sl : Nat} {v : Value} (F : Stm Z h kS kE kI cs fm u8) (W : Wr h h' x sl v) : Stm Z h' kS kE kI cs fm u8 := by
 obtain ⟨a, b, c, d, e, f, g, j, k, l, i⟩ := F; exact ⟨a.wr W, b.wr W, c.wr W, d.wr W, e.wr W, f.wr W, g.wr W, j.wr W, k.wr W, l.wr W, i.wr W⟩
theorem Stm.keep {ws : List Addr} (F : Stm Z h kS kE kI cs fm u8) (K : Keep h h' ws) (q : OwnNoSta h ws) : Stm Z h' kS kE kI cs fm u8 := by
 obtain ⟨a, b, c, d, e, f, g, j, k, l, i⟩ := F; exact ⟨own_staKeep a K q, own_staKeep b K q, own_staKeep c K q, own_staKeep d K q, own_staKeep e K q, own_staKeep f K q, own_staKeep g K q, own_staKeep j K q, own_staKeep k K q, own_staKeep l K q, i.keep K⟩
def OwnSt (kS kE kI : Addr) (cs : Int32) (fm : Value) : Prop := (¬ cs = 0) ∧ fm.isRef = true ∧ kE ≠ kS ∧ kI ≠ kS
end OwnStm
section OwnQ
theorem own_l0 : ([] : List Int32).length ≤ 0 := Nat.le_refl 0
theorem own_ap0 {pre P K : List Int32} (h : pre = P ++ K) : pre = P ++ (K ++ []) := by rw [h, List.append_nil]
theorem own_ap1 {pre P K : List Int32} {a : Int32} (h : pre = P ++ K) : pre ++ [a] = P ++ (K ++ [a]) := by rw [h, List.append_assoc]
theorem own_ap2 {pre P K : List Int32} {a b : Int32} (h : pre = P ++ K) : pre ++ [a] ++ [b] = P ++ (K ++ [a, b]) := by rw [h, List.append_assoc, List.append_assoc]; rfl
theorem own_ap3 {pre P K : List Int32} {a b c : Int32} (h : pre = P ++ K) : pre ++ [a] ++ [b] ++ [c] = P ++ (K ++ [a, b, c]) := by rw [h, List.append_assoc, List.append_assoc, List.append_assoc]; rfl
theorem own_t84 : OwnT8 4 := Or.inr (Or.inr (Or.inr (Or.inr (Or.inl rfl))))
theorem own_t23 {tk : Int32} (h : tk = 2) : ¬ tk = 3 := by rw [h]; decide
theorem own_ln3 {pre P K nm : List Int32} (h : pre = P ++ (K ++ nm)) : pre.length = P.length + K.length + nm.length := by rw [h]; simp only [List.length_append]; omega
theorem own_ln4 {pre P K nm ts : List Int32} {ne : Nat} (h : pre = P ++ (K ++ nm ++ ts)) (hne : ne = P.length + K.length + nm.length) : pre.length = ne + ts.length := by rw [h, hne]; simp only [List.length_append]; omega
theorem own_lu {P : List Int32} (h : P.length ≤ 16) (u : Int32) : (P ++ own_unf u).length ≤ 28 := by have := (own_unf_lit u).2; rw [List.length_append]; omega
theorem own_lap (P U : List Int32) : P.length ≤ (P ++ U).length := by rw [List.length_append]; omega
theorem own_c32 {ls : List Int32} (h : ls.length ≤ 15) : (oN ls.length).toNatClampNeg ≠ (32 : Int32).toNatClampNeg := by rw [own_clamp (by omega), show (32 : Int32).toNatClampNeg = 32 from rfl]; omega
theorem own_r32 {P ls : List Int32} {k : Nat} (h : P.length ≤ k) (h2 : ls.length ≤ 15) (hk : k ≤ 16 := by decide) : P.length + ls.length < (32 : Int32).toNatClampNeg := by rw [show (32 : Int32).toNatClampNeg = 32 from rfl]; omega
theorem own_20 {k n : Nat} (h : k ≤ n) : 20 * k + 40 ≤ 20 * (n + 2) := by omega
theorem own_kpos {P K : List Int32} {tk : Int32} (h : OwnK tk K) : 0 < P.length + K.length := by rcases h with ⟨-, rfl⟩ | ⟨-, rfl⟩ | ⟨-, rfl⟩ <;> simp
theorem own_snz {Z : State} {h : Heap} {a : Addr} {nx : List Int32} (e : nx.length = 0) (S : Snm Z h a []) : Snm Z h a nx := by
 obtain rfl := List.eq_nil_of_length_eq_zero e; exact S
theorem own_roomH {EL : List (String × Nat)} {l : Launch} {y : MethodName} {cw : Jvm.Cond} {ws : List Jvm.Cond} {R R' : Jvm.Room} {av : Array Value} {Z : State} {h0 : Heap} {Q : Option Value → Heap → List Loc → Prop} (h : ConH EL l y cw ws R av Z h0 Q) (hf : R.frames ≤ R'.frames) (hl : R.locals ≤ R'.locals) (hc : R.cells ≤ R'.cells) (hs : R.slots ≤ R'.slots) : ConH EL l y cw ws R' av Z h0 Q :=
 MetFree.mono (MetFree.respec (S' := head1 (cw :: ws) R') h (fun _ _ q => q) hf hl hc hs) (fun _ _ q => q) (fun _ _ _ _ _ q => q) (fun _ _ _ _ _ ⟨v, L, a, b, c, d⟩ => ⟨v, L, a, b, c, d.1, d.2.1, d.2.2.1, d.2.2.2.mono hc hs⟩)
variable {Z : State} {a0 tx : Addr} {kt : ClassId} {nt : Int32} {pre : List Int32} {vkd : Value} {vts vte vem vns vne vnh val : Int32} {kS kE kI : Addr} {cs : Int32} {fm : Value} {i0 stp k i kl nn at1 : Nat} {tk te : Int32} {h0 h : Heap} {n0 : Nat} {v : Option Value} {L : List Loc}
theorem own_q1 (hQ : QNt Z a0 tx kt nt pre vkd vts vte vem vns vne vnh val kS kE kI cs fm i0 (some i) stp k h0 n0 v h L) (hKc : OwnKc tk pre i kl nn te at1) : ∃ (kx : Addr) (hv al : Int32), OwnKx tk kx kS kE kI ∧ v = some (.int 1) ∧ Fr n0 L ∧ Keep h0 h [a0] ∧ Mk Z h a0 (.ref tx) (.int (oN at1)) (.int (oN pre.length)) (.ref kx) (.int (oN i)) (.int te) (.int 0) (.int (oN (i + kl))) (.int (oN (i + kl + nn))) (.int hv) (.int al) := by
 rcases hQ with ⟨q, -⟩ | ⟨i', jn, hv, e, hv1, N, K, hM⟩
 ·cases q
 ·obtain rfl := Option.some.inj e
  rcases hKc with ⟨t3, b63, ep, ea, ef, rfl⟩ | ⟨t2, b47, ep, ea, ef, rfl⟩ | ⟨t1, ⟨n63, n47⟩, rfl, rfl, ef, rfl⟩
  ·rcases hM with ⟨-, M⟩ | ⟨n, -⟩ | ⟨n, -⟩
   ·rw [ef, ep, ea] at M; exact ⟨kI, hv, 0, Or.inr (Or.inr ⟨t3, rfl⟩), hv1, N, K, M⟩
   ·exact absurd b63 n
   ·exact absurd b63 n
  ·rcases hM with ⟨b, -⟩ | ⟨-, -, M⟩ | ⟨-, n, -⟩
   ·exact absurd (b47.symm.trans b) (by decide)
   ·rw [ef, ep, ea] at M; exact ⟨kE, hv, 0, Or.inr (Or.inl ⟨t2, rfl⟩), hv1, N, K, M⟩
   ·exact absurd b47 n
  ·rcases hM with ⟨b, -⟩ | ⟨-, b, -⟩ | ⟨-, -, M⟩
   ·exact absurd b n63
   ·exact absurd b n47
   ·rw [ef] at M; exact ⟨kS, hv, 1, Or.inl ⟨t1, rfl⟩, hv1, N, K, M⟩
theorem own_q0 (hQ : QNt Z a0 tx kt nt pre vkd vts vte vem vns vne vnh val kS kE kI cs fm i0 none stp k h0 n0 v h L) : v = some (.int 0) ∧ Fr n0 L ∧ Keep h0 h [a0] ∧ Mk Z h a0 (.ref tx) (.int (oN pre.length)) (.int (oN pre.length)) .null (.int (oN stp)) (.int vte) (.int vem) (.int vns) (.int vne) (.int vnh) (.int val) := by
 rcases hQ with ⟨-, r⟩ | ⟨i', jn, hv, e, -⟩
 ·exact r
 ·cases e
theorem own_q2 (hQ : QNt Z a0 tx kt nt pre vkd vts vte vem vns vne vnh val kS kE kI cs fm i0 (some i) stp k h0 n0 v h L) (hb : own_ba2 pre i = 0) : v = some (.int 1) ∧ Fr n0 L ∧ Keep h0 h [a0] ∧ Fld Z h a0 cA "kind" cF (.ref kS) ∧ Fld Z h a0 cA "tagStart" "I" (.int (oN i)) := by
 rcases hQ with ⟨q, -⟩ | ⟨i', jn, hv, e, hv1, N, K, hM⟩
 ·cases q
 ·obtain rfl := Option.some.inj e
  rcases hM with ⟨b, -⟩ | ⟨-, b, -⟩ | ⟨-, -, M⟩
  ·exact absurd (hb.symm.trans b) (by decide)
  ·exact absurd (hb.symm.trans b) (by decide)
  ·exact ⟨hv1, N, K, M.g_kind, M.g_tagStart⟩
end OwnQ
section OwnLawS
abbrev OwnB (c : Code) : Prop := ∀ {pc : Nat} {i : Instr} {n : Nat}, decode code pc = .ok (i, n) → decode c.code pc = .ok (i, n)
def OwnCtx (p : Program) (s : State) (m : MethodId) (meth : Method) (c : Code) (vm1 : Vm) (Z : State) (a0 : Array Value) : Prop := HW a0 Z ∧ p.tables.exec = Jvm.exec ∧ OwnB c ∧ meth.locks = false ∧ meth.sig.returnType = some .boolean ∧ c.maxLocals = 39 ∧ (s.setVm vm1).vm.findClass cC = some m.cls ∧ Z.Warmed39 (s.setVm vm1).vm
abbrev OwnEnd (n0 : Nat) (Q : Option Value → Heap → List Loc → Prop) : Prop := ∀ (h' : Heap) (L : List Loc), Fr n0 L → Q (some (.int 1)) h' L
variable {p : Program} {l : Launch} {e : Env} {s : State} {m : MethodId} {args : Array Value} {below : List Frame} {meth : Method} {c : Code}
theorem seg926 {vm1 : Vm} {Z : State} {a0 : Array Value} (H : OwnCtx p s m meth c vm1 Z a0) {Q : Option Value → Heap → List Loc → Prop} {n0 : Nat} {kS kE kI : Addr} {cs : Int32} {fm : Value} {u8 : Addr} {p0 p1 p2 p3 : Int32} {z4 z5 z6 z7 : Slot} {tk : Int32} {z10 : Slot} {tc cl tb : Int32} {z14 : Slot} {tm : Int32} {z16 z17 z19 : Slot} {kx : Addr} {te : Int32} {z24 : Slot} {r2 : Int32} {k2 : Value} {s2 : Int32} {kw : Addr} {z29 z30 z31 z32 z33 z34 : Slot} {we mo : Int32} {i0 ln : Nat} {T0 : State} {locs : List Loc} {h0 : Heap} (X0 : Stand p l e room_1 (s.setVm vm1) m args below meth c T0 locs 45 900) (e0 : T0.heap = h0) (Z0 : n0 ≤ h0.size) (N0 : Fr n0 locs) (fa0 : Stm Z h0 kS kE kI cs fm u8) (hst : OwnSt kS kE kI cs fm) (hkw : kx = kw) (hte : te = we) (hS2 : OwnS2 (own_mo tk tm cl tb te) r2 s2 k2 kS ln) (hmo : mo = own_mo tk tm cl tb te) (hC0 : CHv Z consts_1 vm1 h0) {k1 : Nat} (hS1 : s.Since vm1 k1) (hk1 : k1 ≤ h0.size) (hQ : OwnEnd n0 Q) :
  OFin p e below (KPostW s Q room_1.cells room_1.slots) (T0.setTop (mkF m 926 (la12 p0 p1 p2 p3 z4 z5 z6 z7 (oN i0) tk z10 tc cl tb z14 tm z16 z17 (oN ln) z19 1 kx (oN i0) te z24 r2 k2 s2 kw z29 z30 z31 z32 z33 z34 1 we mo) [])) := by
 obtain ⟨hw, hx, B, hlk, hret, hml, hown, hZ⟩ := H
 have hR0 : CHr Z consts_1 vm1 h0 vm1 h0 := CHr.refl hC0
 have hEL := own_EW hw
 refine OFin.of (S' := T0.setTop (mkF m 928 (la12 p0 p1 p2 p3 z4 z5 z6 z7 (oN i0) tk z10 tc cl tb z14 tm z16 z17 (oN ln) z19 1 kx (oN i0) te z24 r2 k2 s2 kw z29 z30 z31 z32 z33 z34 1 we mo) [(.int mo)])) (fun t ht => iW X0 hx (B at_926) rfl ht) ?_
 rcases hS2 with ⟨hm, rfl, rfl, rfl, hl1⟩ | ⟨hm, rfl, rfl, rfl⟩
 ·obtain rfl := hmo.trans hm
  obtain ⟨T1, X1, e1, st1⟩ := getS (host := "") X0 hx hZ hown (wt hw 268 rfl) Via.refl e0 fa0.1 (g := (mkF m 938 (la13 p0 p1 p2 p3 z4 z5 z6 z7 (oN i0) tk z10 tc cl tb z14 tm z16 z17 (oN ln) z19 1 kx (oN i0) te z24 1 kS (oN (ln - 1)) kw z29 z30 z31 z32 z33 z34 1 we 1) [(.ref kS)])) rfl (B at_938)
  refine OFin.of (fun t ht => fN X0 hx (B at_928) rfl ((if0 _ _).trans (feq (by decide : ¬ ((1 : Int32) = 0))).1) (iW X0 hx (B at_931) rfl (fN X0 hx (B at_933) rfl ((if0 _ _).trans (feq (by decide : ¬ ((1 : Int32) = 0))).1) (aW X0 hx (B at_936) rfl rfl (st1 t ht))))) ?_
  refine OFin.of (S' := T1.setTop (mkF m 1026 (la14 p0 p1 p2 p3 z4 z5 z6 z7 (oN i0) tk z10 tc cl tb z14 tm z16 z17 (oN ln) z19 1 kx (oN i0) te z24 1 kS (oN (ln - 1)) kw z29 z30 z31 z32 z33 z34 1 we 1 1) [(.int 1)])) (fun t ht => acmp X1 hx rfl (cd := .ne) (x := (.ref kS)) (y := (.ref kS)) rfl rfl (pc0 := 941) (pc' := 944) (same := true) rfl (B at_941) rfl (decide_eq_true rfl) (by decide) (by decide) (iW X1 hx (B at_944) rfl (iW X1 hx (B at_946) rfl (iC X1 hx (B at_948) (XS.isub X1.here hx rfl (B at_949) rfl (cN X1 hx (B at_950) rfl (teq (own_pred1 hl1 : (oN (ln - 1)) = ((oN ln) - (1 : Int32)))).2 (iC X1 hx (B at_953) (gO X1 hx 954 983 rfl (B at_954) (by decide) (sW X1 hx (B at_983) rfl (l' := (la14 p0 p1 p2 p3 z4 z5 z6 z7 (oN i0) tk z10 tc cl tb z14 tm z16 z17 (oN ln) z19 1 kx (oN i0) te z24 1 kS (oN (ln - 1)) kw z29 z30 z31 z32 z33 z34 1 we 1 1)) rfl (iW X1 hx (B at_985) rfl (fN X1 hx (B at_987) rfl ((if0 _ _).trans (feq (by decide : ¬ ((1 : Int32) = 0))).1) (aW X1 hx (B at_990) rfl rfl (aW X1 hx (B at_992) rfl rfl (acmp X1 hx rfl (cd := .ne) (x := (.ref kx)) (y := (.ref kw)) rfl rfl (pc0 := 994) (pc' := 997) (same := true) rfl (B at_994) rfl (decide_eq_true (congrArg Value.ref hkw)) (by decide) (by decide) (iW X1 hx (B at_997) rfl (iW X1 hx (B at_999) rfl (cN X1 hx (B at_1001) rfl (teq (rfl : (oN i0) = (oN i0))).2 (iW X1 hx (B at_1004) rfl (iW X1 hx (B at_1006) rfl (cN X1 hx (B at_1008) rfl (teq (hte : te = we)).2 (iW X1 hx (B at_1011) rfl (fN X1 hx (B at_1013) rfl ((if0 _ _).trans (feq (by decide : ¬ ((1 : Int32) = 0))).1) (iW X1 hx (B at_1016) rfl (fN X1 hx (B at_1018) rfl ((if0 _ _).trans (feq (by decide : ¬ ((1 : Int32) = 0))).1) (iC X1 hx (B at_1021) (gO X1 hx 1022 1026 rfl (B at_1022) (by decide) ht)))))))))))))))))))))))))) ?_
  exact OFin.retBW (s := s) (vm₁ := vm1) X1 hS1 (by rw [e1]; exact hk1) hx hlk (t := .boolean) (by simp) hret (B at_1026) (by decide) (by decide) (by rw [e1]; exact hQ _ _ N0)
 ·obtain rfl := hmo.trans hm
  refine OFin.of (S' := T0.setTop (mkF m 1026 (la16 p0 p1 p2 p3 z4 z5 z6 z7 (oN i0) tk z10 tc cl tb z14 tm z16 z17 (oN ln) z19 1 kx (oN i0) te z24 0 (oN ln) kw z29 z30 z31 z32 z33 z34 1 we 0 1) [(.int 1)])) (fun t ht => fY X0 hx 928 961 rfl (B at_928) rfl ((if0 _ _).trans (teq (by decide : (0 : Int32) = 0)).1) (by decide) (iW X0 hx (B at_961) rfl (fN X0 hx (B at_963) rfl ((if0 _ _).trans (teq (by decide : (0 : Int32) = 0)).2) (aW X0 hx (B at_966) rfl rfl (XS.ifnonnullNo X0.here hx rfl (B at_968) rfl (iW X0 hx (B at_971) rfl (iW X0 hx (B at_973) rfl (cN X0 hx (B at_975) rfl (teq (rfl : (oN ln) = (oN ln))).2 (iC X0 hx (B at_978) (gO X0 hx 979 983 rfl (B at_979) (by decide) (sW X0 hx (B at_983) rfl (l' := (la16 p0 p1 p2 p3 z4 z5 z6 z7 (oN i0) tk z10 tc cl tb z14 tm z16 z17 (oN ln) z19 1 kx (oN i0) te z24 0 (oN ln) kw z29 z30 z31 z32 z33 z34 1 we 0 1)) rfl (iW X0 hx (B at_985) rfl (fN X0 hx (B at_987) rfl ((if0 _ _).trans (feq (by decide : ¬ ((1 : Int32) = 0))).1) (aW X0 hx (B at_990) rfl rfl (aW X0 hx (B at_992) rfl rfl (acmp X0 hx rfl (cd := .ne) (x := (.ref kx)) (y := (.ref kw)) rfl rfl (pc0 := 994) (pc' := 997) (same := true) rfl (B at_994) rfl (decide_eq_true (congrArg Value.ref hkw)) (by decide) (by decide) (iW X0 hx (B at_997) rfl (iW X0 hx (B at_999) rfl (cN X0 hx (B at_1001) rfl (teq (rfl : (oN i0) = (oN i0))).2 (iW X0 hx (B at_1004) rfl (iW X0 hx (B at_1006) rfl (cN X0 hx (B at_1008) rfl (teq (hte : te = we)).2 (iW X0 hx (B at_1011) rfl (fN X0 hx (B at_1013) rfl ((if0 _ _).trans (feq (by decide : ¬ ((1 : Int32) = 0))).1) (iW X0 hx (B at_1016) rfl (fN X0 hx (B at_1018) rfl ((if0 _ _).trans (feq (by decide : ¬ ((1 : Int32) = 0))).1) (iC X0 hx (B at_1021) (gO X0 hx 1022 1026 rfl (B at_1022) (by decide) ht)))))))))))))))))))))))))))) ?_
  exact OFin.retBW (s := s) (vm₁ := vm1) X0 hS1 (by rw [e0]; exact hk1) hx hlk (t := .boolean) (by simp) hret (B at_1026) (by decide) (by decide) (by rw [e0]; exact hQ _ _ N0)
theorem seg889 {vm1 : Vm} {Z : State} {a0 : Array Value} (H : OwnCtx p s m meth c vm1 Z a0) {Q : Option Value → Heap → List Loc → Prop} {n0 : Nat} {kS kE kI : Addr} {cs : Int32} {fm : Value} {u8 : Addr} {p0 p1 p2 p3 : Int32} {z4 z5 z6 z7 : Slot} {tk : Int32} {z10 : Slot} {tc cl tb : Int32} {z14 : Slot} {tm : Int32} {z16 z17 z19 : Slot} {kx : Addr} {te : Int32} {z24 : Slot} {r2 : Int32} {k2 : Value} {s2 : Int32} {kw : Addr} {z29 z30 z31 z32 z33 z34 : Slot} {we : Int32} {i0 ln : Nat} {T0 : State} {locs : List Loc} {h0 : Heap} (X0 : Stand p l e room_1 (s.setVm vm1) m args below meth c T0 locs 45 900) (e0 : T0.heap = h0) (Z0 : n0 ≤ h0.size) (N0 : Fr n0 locs) (fa0 : Stm Z h0 kS kE kI cs fm u8) (hst : OwnSt kS kE kI cs fm) (hkw : kx = kw) (hte : te = we) (hS2 : OwnS2 (own_mo tk tm cl tb te) r2 s2 k2 kS ln) (hC0 : CHv Z consts_1 vm1 h0) {k1 : Nat} (hS1 : s.Since vm1 k1) (hk1 : k1 ≤ h0.size) (hQ : OwnEnd n0 Q) :
  OFin p e below (KPostW s Q room_1.cells room_1.slots) (T0.setTop (mkF m 889 (la17 p0 p1 p2 p3 z4 z5 z6 z7 (oN i0) tk z10 tc cl tb z14 tm z16 z17 (oN ln) z19 1 kx (oN i0) te z24 r2 k2 s2 kw z29 z30 z31 z32 z33 z34 1 we) [])) := by
 obtain ⟨hw, hx, B, hlk, hret, hml, hown, hZ⟩ := H
 have hR0 : CHr Z consts_1 vm1 h0 vm1 h0 := CHr.refl hC0
 have hEL := own_EW hw
 refine OFin.of (S' := T0.setTop (mkF m 891 (la17 p0 p1 p2 p3 z4 z5 z6 z7 (oN i0) tk z10 tc cl tb z14 tm z16 z17 (oN ln) z19 1 kx (oN i0) te z24 r2 k2 s2 kw z29 z30 z31 z32 z33 z34 1 we) [(.int tb)])) (fun t ht => iW X0 hx (B at_889) rfl ht) ?_
 by_cases hc2 : tb = 0
 ·refine OFin.of (S' := T0.setTop (mkF m 926 (la12 p0 p1 p2 p3 z4 z5 z6 z7 (oN i0) tk z10 tc cl tb z14 tm z16 z17 (oN ln) z19 1 kx (oN i0) te z24 r2 k2 s2 kw z29 z30 z31 z32 z33 z34 1 we 0) [])) (fun t ht => fY X0 hx 891 923 rfl (B at_891) rfl ((if0 _ _).trans (teq hc2).1) (by decide) (iC X0 hx (B at_923) (sW X0 hx (B at_924) rfl (l' := (la12 p0 p1 p2 p3 z4 z5 z6 z7 (oN i0) tk z10 tc cl tb z14 tm z16 z17 (oN ln) z19 1 kx (oN i0) te z24 r2 k2 s2 kw z29 z30 z31 z32 z33 z34 1 we 0)) rfl ht))) ?_
  exact seg926 (s := s) (vm1 := vm1) ⟨hw, hx, B, hlk, hret, hml, hown, hZ⟩ (X0.more (by decide) (by decide)) e0 Z0 N0 fa0 hst hkw hte hS2 (by unfold own_mo; rw [if_pos hc2]) hR0.1  hS1 hk1 hQ
 ·refine OFin.of (S' := T0.setTop (mkF m 897 (la17 p0 p1 p2 p3 z4 z5 z6 z7 (oN i0) tk z10 tc cl tb z14 tm z16 z17 (oN ln) z19 1 kx (oN i0) te z24 r2 k2 s2 kw z29 z30 z31 z32 z33 z34 1 we) [(.int 1), (.int tk)])) (fun t ht => fN X0 hx (B at_891) rfl ((if0 _ _).trans (feq hc2).1) (iW X0 hx (B at_894) rfl (iC X0 hx (B at_896) ht))) ?_
  by_cases hc3 : tk = 1
  ·refine OFin.of (S' := T0.setTop (mkF m 902 (la17 p0 p1 p2 p3 z4 z5 z6 z7 (oN i0) tk z10 tc cl tb z14 tm z16 z17 (oN ln) z19 1 kx (oN i0) te z24 r2 k2 s2 kw z29 z30 z31 z32 z33 z34 1 we) [(.int tm)])) (fun t ht => cN X0 hx (B at_897) rfl (teq hc3).2 (iW X0 hx (B at_900) rfl ht)) ?_
   by_cases hc4 : tm = 0
   ·refine OFin.of (S' := T0.setTop (mkF m 907 (la17 p0 p1 p2 p3 z4 z5 z6 z7 (oN i0) tk z10 tc cl tb z14 tm z16 z17 (oN ln) z19 1 kx (oN i0) te z24 r2 k2 s2 kw z29 z30 z31 z32 z33 z34 1 we) [(.int cl)])) (fun t ht => fN X0 hx (B at_902) rfl ((if0 _ _).trans (teq hc4).2) (iW X0 hx (B at_905) rfl ht)) ?_
    by_cases hc5 : cl = 0
    ·refine OFin.of (S' := T0.setTop (mkF m 926 (la12 p0 p1 p2 p3 z4 z5 z6 z7 (oN i0) tk z10 tc cl tb z14 tm z16 z17 (oN ln) z19 1 kx (oN i0) te z24 r2 k2 s2 kw z29 z30 z31 z32 z33 z34 1 we 0) [])) (fun t ht => fY X0 hx 907 923 rfl (B at_907) rfl ((if0 _ _).trans (teq hc5).1) (by decide) (iC X0 hx (B at_923) (sW X0 hx (B at_924) rfl (l' := (la12 p0 p1 p2 p3 z4 z5 z6 z7 (oN i0) tk z10 tc cl tb z14 tm z16 z17 (oN ln) z19 1 kx (oN i0) te z24 r2 k2 s2 kw z29 z30 z31 z32 z33 z34 1 we 0)) rfl ht))) ?_
     exact seg926 (s := s) (vm1 := vm1) ⟨hw, hx, B, hlk, hret, hml, hown, hZ⟩ (X0.more (by decide) (by decide)) e0 Z0 N0 fa0 hst hkw hte hS2 (by unfold own_mo; rw [if_neg hc2, if_pos hc3, if_pos hc4, if_pos hc5]) hR0.1  hS1 hk1 hQ
    ·refine OFin.of (S' := T0.setTop (mkF m 926 (la12 p0 p1 p2 p3 z4 z5 z6 z7 (oN i0) tk z10 tc cl tb z14 tm z16 z17 (oN ln) z19 1 kx (oN i0) te z24 r2 k2 s2 kw z29 z30 z31 z32 z33 z34 1 we 1) [])) (fun t ht => fN X0 hx (B at_907) rfl ((if0 _ _).trans (feq hc5).1) (gO X0 hx 910 919 rfl (B at_910) (by decide) (iC X0 hx (B at_919) (gO X0 hx 920 924 rfl (B at_920) (by decide) (sW X0 hx (B at_924) rfl (l' := (la12 p0 p1 p2 p3 z4 z5 z6 z7 (oN i0) tk z10 tc cl tb z14 tm z16 z17 (oN ln) z19 1 kx (oN i0) te z24 r2 k2 s2 kw z29 z30 z31 z32 z33 z34 1 we 1)) rfl ht))))) ?_
     exact seg926 (s := s) (vm1 := vm1) ⟨hw, hx, B, hlk, hret, hml, hown, hZ⟩ (X0.more (by decide) (by decide)) e0 Z0 N0 fa0 hst hkw hte hS2 (by unfold own_mo; rw [if_neg hc2, if_pos hc3, if_pos hc4, if_neg hc5]) hR0.1  hS1 hk1 hQ
   ·refine OFin.of (S' := T0.setTop (mkF m 926 (la12 p0 p1 p2 p3 z4 z5 z6 z7 (oN i0) tk z10 tc cl tb z14 tm z16 z17 (oN ln) z19 1 kx (oN i0) te z24 r2 k2 s2 kw z29 z30 z31 z32 z33 z34 1 we 1) [])) (fun t ht => fY X0 hx 902 919 rfl (B at_902) rfl ((if0 _ _).trans (feq hc4).2) (by decide) (iC X0 hx (B at_919) (gO X0 hx 920 924 rfl (B at_920) (by decide) (sW X0 hx (B at_924) rfl (l' := (la12 p0 p1 p2 p3 z4 z5 z6 z7 (oN i0) tk z10 tc cl tb z14 tm z16 z17 (oN ln) z19 1 kx (oN i0) te z24 r2 k2 s2 kw z29 z30 z31 z32 z33 z34 1 we 1)) rfl ht)))) ?_
    exact seg926 (s := s) (vm1 := vm1) ⟨hw, hx, B, hlk, hret, hml, hown, hZ⟩ (X0.more (by decide) (by decide)) e0 Z0 N0 fa0 hst hkw hte hS2 (by unfold own_mo; rw [if_neg hc2, if_pos hc3, if_neg hc4]) hR0.1  hS1 hk1 hQ
  ·refine OFin.of (S' := T0.setTop (mkF m 916 (la17 p0 p1 p2 p3 z4 z5 z6 z7 (oN i0) tk z10 tc cl tb z14 tm z16 z17 (oN ln) z19 1 kx (oN i0) te z24 r2 k2 s2 kw z29 z30 z31 z32 z33 z34 1 we) [(.int (-1)), (.int we)])) (fun t ht => cY X0 hx 897 913 rfl (B at_897) rfl (feq hc3).2 (by decide) (iW X0 hx (B at_913) rfl (iC X0 hx (B at_915) ht))) ?_
   by_cases hc6 : we = (-1 : Int32)
   ·refine OFin.of (S' := T0.setTop (mkF m 926 (la12 p0 p1 p2 p3 z4 z5 z6 z7 (oN i0) tk z10 tc cl tb z14 tm z16 z17 (oN ln) z19 1 kx (oN i0) te z24 r2 k2 s2 kw z29 z30 z31 z32 z33 z34 1 we 0) [])) (fun t ht => cY X0 hx 916 923 rfl (B at_916) rfl (teq hc6).1 (by decide) (iC X0 hx (B at_923) (sW X0 hx (B at_924) rfl (l' := (la12 p0 p1 p2 p3 z4 z5 z6 z7 (oN i0) tk z10 tc cl tb z14 tm z16 z17 (oN ln) z19 1 kx (oN i0) te z24 r2 k2 s2 kw z29 z30 z31 z32 z33 z34 1 we 0)) rfl ht))) ?_
    exact seg926 (s := s) (vm1 := vm1) ⟨hw, hx, B, hlk, hret, hml, hown, hZ⟩ (X0.more (by decide) (by decide)) e0 Z0 N0 fa0 hst hkw hte hS2 (by unfold own_mo; rw [if_neg hc2, if_neg hc3, if_pos (hte.trans hc6)]) hR0.1  hS1 hk1 hQ
   ·refine OFin.of (S' := T0.setTop (mkF m 926 (la12 p0 p1 p2 p3 z4 z5 z6 z7 (oN i0) tk z10 tc cl tb z14 tm z16 z17 (oN ln) z19 1 kx (oN i0) te z24 r2 k2 s2 kw z29 z30 z31 z32 z33 z34 1 we 1) [])) (fun t ht => cN X0 hx (B at_916) rfl (feq hc6).1 (iC X0 hx (B at_919) (gO X0 hx 920 924 rfl (B at_920) (by decide) (sW X0 hx (B at_924) rfl (l' := (la12 p0 p1 p2 p3 z4 z5 z6 z7 (oN i0) tk z10 tc cl tb z14 tm z16 z17 (oN ln) z19 1 kx (oN i0) te z24 r2 k2 s2 kw z29 z30 z31 z32 z33 z34 1 we 1)) rfl ht)))) ?_
    exact seg926 (s := s) (vm1 := vm1) ⟨hw, hx, B, hlk, hret, hml, hown, hZ⟩ (X0.more (by decide) (by decide)) e0 Z0 N0 fa0 hst hkw hte hS2 (by unfold own_mo; rw [if_neg hc2, if_neg hc3, if_neg (fun z => hc6 (hte.symm.trans z))]) hR0.1  hS1 hk1 hQ
theorem seg758 {vm1 : Vm} {Z : State} {a0 : Array Value} (H : OwnCtx p s m meth c vm1 Z a0) {Q : Option Value → Heap → List Loc → Prop} {n0 : Nat} {kS kE kI : Addr} {cs : Int32} {fm : Value} {u8 : Addr} {p0 p1 p2 p3 : Int32} {z4 z5 z6 z7 : Slot} {tk : Int32} {z10 : Slot} {tc cl tb : Int32} {z14 : Slot} {tm : Int32} {z19 : Slot} {kx : Addr} {te : Int32} {sn : Addr} {r2 : Int32} {k2 : Value} {s2 : Int32} {kw : Addr} {z29 : Slot} {ec ll c0 c1 c2 : Int32} {i0 ne ca ln : Nat} {nm : List Int32} {nq : Int32} {T0 : State} {locs : List Loc} {h0 : Heap} (X0 : Stand p l e room_1 (s.setVm vm1) m args below meth c T0 locs 45 900) (e0 : T0.heap = h0) (Z0 : n0 ≤ h0.size) (N0 : Fr n0 locs) (fa0 : Stm Z h0 kS kE kI cs fm u8) (fa1 : Snm Z h0 sn (nm ++ own_exl tk tm cl tb)) (hst : OwnSt kS kE kI cs fm) (hkw : kx = kw) (hwe : te = own_we tk tm tc cl ne ca) (hS2 : OwnS2 (own_mo tk tm cl tb te) r2 s2 k2 kS ln) (hN : OwnNmL p1 nq nm) (hlen : ll = oN (nm ++ own_exl tk tm cl tb).length) (hCs : OwnCs (nm ++ own_exl tk tm cl tb) c0 c1 c2 ec) (hC0 : CHv Z consts_1 vm1 h0) {k1 : Nat} (hS1 : s.Since vm1 k1) (hk1 : k1 ≤ h0.size) (hQ : OwnEnd n0 Q) :
  OFin p e below (KPostW s Q room_1.cells room_1.slots) (T0.setTop (mkF m 758 (la18 p0 p1 p2 p3 z4 z5 z6 z7 (oN i0) tk z10 tc cl tb z14 tm (oN ne) (oN ca) (oN ln) z19 1 kx (oN i0) te sn r2 k2 s2 kw z29 ec ll c0 c1 c2) [])) := by
 obtain ⟨hw, hx, B, hlk, hret, hml, hown, hZ⟩ := H
 have hR0 : CHr Z consts_1 vm1 h0 vm1 h0 := CHr.refl hC0
 have hEL := own_EW hw
 obtain ⟨_, T7, Lc7, X7, hQ7, st7⟩ := own_cV X0 hx hw hZ hown 18 19 21 20 6 22 rfl rfl rfl rfl rfl rfl (by decide) fa1.1 (rmSl l Z _ hw sn (nm ++ own_exl tk tm cl tb) cs h0 n0 Z0 fa1 (own_nxf hN).1 fa0.2.2.2.1 hst.1) (by decide) (by decide) (g := (mkF m 760 (la18 p0 p1 p2 p3 z4 z5 z6 z7 (oN i0) tk z10 tc cl tb z14 tm (oN ne) (oN ca) (oN ln) z19 1 kx (oN i0) te sn r2 k2 s2 kw z29 ec ll c0 c1 c2) [(.ref sn)])) rfl hml rfl (argsL := []) (rest := []) pd_6 rfl rfl rfl (W := 0) (nE rfl) (B at_760) rfl e0 (by decide) (by decide)
 obtain ⟨rfl, Nq7, hs7⟩ := hQ7
 have N8 := Fr.app N0 Nq7
 refine OFin.of (fun t ht => aW X0 hx (B at_758) rfl rfl (st7.trans ht)) ?_
 obtain ⟨_, T9, Lc9, X9, hQ9, st9⟩ := own_cS X7 hx hw hZ hown 138 139 3 140 rfl rfl rfl rfl (by decide) (rmCi l Z _ hw sn (nm ++ own_exl tk tm cl tb) cs fm 0 c0 h0 n0 Z0 fa1 (own_nxf hN).1 (own_nxf hN).2 fa0.2.2.2.1 hst.1 fa0.2.2.2.2.2.2.2.1 fa0.2.2.2.2.2.2.2.2.1 fa0.2.2.2.2.2.2.2.2.2.1 fa0.2.2.2.2.1 hst.2.1 (by decide)) (by decide) (by decide) (g := (mkF m 773 (la18 p0 p1 p2 p3 z4 z5 z6 z7 (oN i0) tk z10 tc cl tb z14 tm (oN ne) (oN ca) (oN ln) z19 1 kx (oN i0) te sn r2 k2 s2 kw z29 ec ll c0 c1 c2) [(.int c0), (.int 0), (.ref sn)])) rfl hml rfl (argsL := [(.ref sn), (.int 0), (.int c0)]) (rest := []) pd_29 rfl rfl rfl (W := 0) (nE rfl) (B at_773) rfl hs7 (by decide) (by decide)
 obtain ⟨rfl, Nq9, hs9⟩ := hQ9
 have N10 := Fr.app N8 Nq9
 refine OFin.of (fun t ht => iW X7 hx (B at_763) rfl (cN X7 hx (B at_765) rfl (teq (hlen.symm : (oN (nm ++ own_exl tk tm cl tb).length) = ll)).2 (aW X7 hx (B at_768) rfl rfl (iC X7 hx (B at_770) (iW X7 hx (B at_771) rfl (st9.trans ht)))))) ?_
 obtain ⟨_, T11, Lc11, X11, hQ11, st11⟩ := own_cS X9 hx hw hZ hown 138 139 3 140 rfl rfl rfl rfl (by decide) (rmCi l Z _ hw sn (nm ++ own_exl tk tm cl tb) cs fm 1 c1 h0 n0 Z0 fa1 (own_nxf hN).1 (own_nxf hN).2 fa0.2.2.2.1 hst.1 fa0.2.2.2.2.2.2.2.1 fa0.2.2.2.2.2.2.2.2.1 fa0.2.2.2.2.2.2.2.2.2.1 fa0.2.2.2.2.1 hst.2.1 (by decide)) (by decide) (by decide) (g := (mkF m 784 (la18 p0 p1 p2 p3 z4 z5 z6 z7 (oN i0) tk z10 tc cl tb z14 tm (oN ne) (oN ca) (oN ln) z19 1 kx (oN i0) te sn r2 k2 s2 kw z29 ec ll c0 c1 c2) [(.int c1), (.int 1), (.ref sn)])) rfl hml rfl (argsL := [(.ref sn), (.int 1), (.int c1)]) (rest := []) pd_29 rfl rfl rfl (W := 0) (nE rfl) (B at_784) rfl hs9 (by decide) (by decide)
 obtain ⟨rfl, Nq11, hs11⟩ := hQ11
 have N12 := Fr.app N10 Nq11
 refine OFin.of (fun t ht => fN X9 hx (B at_776) rfl ((if0 _ _).trans (feq (own_bt hCs.1 : ¬ ((own_b (own_ci ((nm ++ own_exl tk tm cl tb).map own_dc) 0 c0)) = 0))).1) (aW X9 hx (B at_779) rfl rfl (iC X9 hx (B at_781) (iW X9 hx (B at_782) rfl (st11.trans ht))))) ?_
 obtain ⟨_, T13, Lc13, X13, hQ13, st13⟩ := own_cS X11 hx hw hZ hown 138 139 3 140 rfl rfl rfl rfl (by decide) (rmCi l Z _ hw sn (nm ++ own_exl tk tm cl tb) cs fm 2 c2 h0 n0 Z0 fa1 (own_nxf hN).1 (own_nxf hN).2 fa0.2.2.2.1 hst.1 fa0.2.2.2.2.2.2.2.1 fa0.2.2.2.2.2.2.2.2.1 fa0.2.2.2.2.2.2.2.2.2.1 fa0.2.2.2.2.1 hst.2.1 (by decide)) (by decide) (by decide) (g := (mkF m 795 (la18 p0 p1 p2 p3 z4 z5 z6 z7 (oN i0) tk z10 tc cl tb z14 tm (oN ne) (oN ca) (oN ln) z19 1 kx (oN i0) te sn r2 k2 s2 kw z29 ec ll c0 c1 c2) [(.int c2), (.int 2), (.ref sn)])) rfl hml rfl (argsL := [(.ref sn), (.int 2), (.int c2)]) (rest := []) pd_29 rfl rfl rfl (W := 0) (nE rfl) (B at_795) rfl hs11 (by decide) (by decide)
 obtain ⟨rfl, Nq13, hs13⟩ := hQ13
 have N14 := Fr.app N12 Nq13
 refine OFin.of (fun t ht => fN X11 hx (B at_787) rfl ((if0 _ _).trans (feq (own_bt hCs.2.1 : ¬ ((own_b (own_ci ((nm ++ own_exl tk tm cl tb).map own_dc) 1 c1)) = 0))).1) (aW X11 hx (B at_790) rfl rfl (iC X11 hx (B at_792) (iW X11 hx (B at_793) rfl (st13.trans ht))))) ?_
 obtain ⟨_, T15, Lc15, X15, hQ15, st15⟩ := own_cS X13 hx hw hZ hown 138 139 3 140 rfl rfl rfl rfl (by decide) (rmCi l Z _ hw sn (nm ++ own_exl tk tm cl tb) cs fm 3 ec h0 n0 Z0 fa1 (own_nxf hN).1 (own_nxf hN).2 fa0.2.2.2.1 hst.1 fa0.2.2.2.2.2.2.2.1 fa0.2.2.2.2.2.2.2.2.1 fa0.2.2.2.2.2.2.2.2.2.1 fa0.2.2.2.2.1 hst.2.1 (by decide)) (by decide) (by decide) (g := (mkF m 806 (la18 p0 p1 p2 p3 z4 z5 z6 z7 (oN i0) tk z10 tc cl tb z14 tm (oN ne) (oN ca) (oN ln) z19 1 kx (oN i0) te sn r2 k2 s2 kw z29 ec ll c0 c1 c2) [(.int ec), (.int 3), (.ref sn)])) rfl hml rfl (argsL := [(.ref sn), (.int 3), (.int ec)]) (rest := []) pd_29 rfl rfl rfl (W := 0) (nE rfl) (B at_806) rfl hs13 (by decide) (by decide)
 obtain ⟨rfl, Nq15, hs15⟩ := hQ15
 have N16 := Fr.app N14 Nq15
 refine OFin.of (fun t ht => fN X13 hx (B at_798) rfl ((if0 _ _).trans (feq (own_bt hCs.2.2.1 : ¬ ((own_b (own_ci ((nm ++ own_exl tk tm cl tb).map own_dc) 2 c2)) = 0))).1) (aW X13 hx (B at_801) rfl rfl (iC X13 hx (B at_803) (iW X13 hx (B at_804) rfl (st15.trans ht))))) ?_
 refine OFin.of (S' := T15.setTop (mkF m 822 (la19 p0 p1 p2 p3 z4 z5 z6 z7 (oN i0) tk z10 tc cl tb z14 tm (oN ne) (oN ca) (oN ln) z19 1 kx (oN i0) te sn r2 k2 s2 kw z29 ec ll c0 c1 c2 1) [(.int 1), (.int tk)])) (fun t ht => fN X15 hx (B at_809) rfl ((if0 _ _).trans (feq (own_bt hCs.2.2.2 : ¬ ((own_b (own_ci ((nm ++ own_exl tk tm cl tb).map own_dc) 3 ec)) = 0))).1) (iC X15 hx (B at_812) (gO X15 hx 813 817 rfl (B at_813) (by decide) (sW X15 hx (B at_817) rfl (l' := (la19 p0 p1 p2 p3 z4 z5 z6 z7 (oN i0) tk z10 tc cl tb z14 tm (oN ne) (oN ca) (oN ln) z19 1 kx (oN i0) te sn r2 k2 s2 kw z29 ec ll c0 c1 c2 1)) rfl (iW X15 hx (B at_819) rfl (iC X15 hx (B at_821) ht)))))) ?_
 by_cases hc17 : tk = 1
 ·refine OFin.of (S' := T15.setTop (mkF m 889 (la20 p0 p1 p2 p3 z4 z5 z6 z7 (oN i0) tk z10 tc cl tb z14 tm (oN ne) (oN ca) (oN ln) z19 1 kx (oN i0) te sn r2 k2 s2 kw z29 ec ll c0 c1 c2 1 (-1)) [])) (fun t ht => cN X15 hx (B at_822) rfl (teq hc17).2 (iC X15 hx (B at_825) (sW X15 hx (B at_826) rfl (l' := (la20 p0 p1 p2 p3 z4 z5 z6 z7 (oN i0) tk z10 tc cl tb z14 tm (oN ne) (oN ca) (oN ln) z19 1 kx (oN i0) te sn r2 k2 s2 kw z29 ec ll c0 c1 c2 1 (-1))) rfl (gO X15 hx 828 889 rfl (B at_828) (by decide) ht)))) ?_
  exact seg889 (s := s) (vm1 := vm1) ⟨hw, hx, B, hlk, hret, hml, hown, hZ⟩ (X15.more (by decide) (by decide)) hs15 Z0 N16 fa0 hst hkw (hwe.trans (by unfold own_we; rw [if_pos hc17])) hS2 hR0.1  hS1 hk1 hQ
 ·refine OFin.of (S' := T15.setTop (mkF m 834 (la19 p0 p1 p2 p3 z4 z5 z6 z7 (oN i0) tk z10 tc cl tb z14 tm (oN ne) (oN ca) (oN ln) z19 1 kx (oN i0) te sn r2 k2 s2 kw z29 ec ll c0 c1 c2 1) [(.int 2), (.int tk)])) (fun t ht => cY X15 hx 822 831 rfl (B at_822) rfl (feq hc17).2 (by decide) (iW X15 hx (B at_831) rfl (iC X15 hx (B at_833) ht))) ?_
  by_cases hc18 : tk = 2
  ·refine OFin.of (S' := T15.setTop (mkF m 839 (la19 p0 p1 p2 p3 z4 z5 z6 z7 (oN i0) tk z10 tc cl tb z14 tm (oN ne) (oN ca) (oN ln) z19 1 kx (oN i0) te sn r2 k2 s2 kw z29 ec ll c0 c1 c2 1) [(.int tm)])) (fun t ht => cN X15 hx (B at_834) rfl (teq hc18).2 (iW X15 hx (B at_837) rfl ht)) ?_
   by_cases hc19 : tm = 0
   ·refine OFin.of (S' := T15.setTop (mkF m 858 (la19 p0 p1 p2 p3 z4 z5 z6 z7 (oN i0) tk z10 tc cl tb z14 tm (oN ne) (oN ca) (oN ln) z19 1 kx (oN i0) te sn r2 k2 s2 kw z29 ec ll c0 c1 c2 1) [(.int cl)])) (fun t ht => fY X15 hx 839 856 rfl (B at_839) rfl ((if0 _ _).trans (teq hc19).1) (by decide) (iW X15 hx (B at_856) rfl ht)) ?_
    by_cases hc20 : cl = 0
    ·refine OFin.of (S' := T15.setTop (mkF m 889 (la20 p0 p1 p2 p3 z4 z5 z6 z7 (oN i0) tk z10 tc cl tb z14 tm (oN ne) (oN ca) (oN ln) z19 1 kx (oN i0) te sn r2 k2 s2 kw z29 ec ll c0 c1 c2 1 (-1)) [])) (fun t ht => fY X15 hx 858 868 rfl (B at_858) rfl ((if0 _ _).trans (teq hc20).1) (by decide) (iC X15 hx (B at_868) (sW X15 hx (B at_869) rfl (l' := (la20 p0 p1 p2 p3 z4 z5 z6 z7 (oN i0) tk z10 tc cl tb z14 tm (oN ne) (oN ca) (oN ln) z19 1 kx (oN i0) te sn r2 k2 s2 kw z29 ec ll c0 c1 c2 1 (-1))) rfl (gO X15 hx 871 889 rfl (B at_871) (by decide) ht)))) ?_
     exact seg889 (s := s) (vm1 := vm1) ⟨hw, hx, B, hlk, hret, hml, hown, hZ⟩ (X15.more (by decide) (by decide)) hs15 Z0 N16 fa0 hst hkw (hwe.trans (by unfold own_we; rw [if_neg hc17, if_pos hc18, if_pos hc19, if_pos hc20])) hS2 hR0.1  hS1 hk1 hQ
    ·refine OFin.of (S' := T15.setTop (mkF m 889 (la20 p0 p1 p2 p3 z4 z5 z6 z7 (oN i0) tk z10 tc cl tb z14 tm (oN ne) (oN ca) (oN ln) z19 1 kx (oN i0) te sn r2 k2 s2 kw z29 ec ll c0 c1 c2 1 ((oN ca) + (1 : Int32))) [])) (fun t ht => fN X15 hx (B at_858) rfl ((if0 _ _).trans (feq hc20).1) (iW X15 hx (B at_861) rfl (iC X15 hx (B at_863) (XS.iadd X15.here hx rfl (B at_864) rfl (gO X15 hx 865 869 rfl (B at_865) (by decide) (sW X15 hx (B at_869) rfl (l' := (la20 p0 p1 p2 p3 z4 z5 z6 z7 (oN i0) tk z10 tc cl tb z14 tm (oN ne) (oN ca) (oN ln) z19 1 kx (oN i0) te sn r2 k2 s2 kw z29 ec ll c0 c1 c2 1 ((oN ca) + (1 : Int32)))) rfl (gO X15 hx 871 889 rfl (B at_871) (by decide) ht))))))) ?_
     exact seg889 (s := s) (vm1 := vm1) ⟨hw, hx, B, hlk, hret, hml, hown, hZ⟩ (X15.more (by decide) (by decide)) hs15 Z0 N16 fa0 hst hkw (hwe.trans (by unfold own_we; rw [if_neg hc17, if_pos hc18, if_pos hc19, if_neg hc20])) hS2 hR0.1  hS1 hk1 hQ
   ·refine OFin.of (S' := T15.setTop (mkF m 846 (la19 p0 p1 p2 p3 z4 z5 z6 z7 (oN i0) tk z10 tc cl tb z14 tm (oN ne) (oN ca) (oN ln) z19 1 kx (oN i0) te sn r2 k2 s2 kw z29 ec ll c0 c1 c2 1) [(.int 6), (.int tc)])) (fun t ht => fN X15 hx (B at_839) rfl ((if0 _ _).trans (feq hc19).1) (iW X15 hx (B at_842) rfl (bP X15 hx (B at_844) ht))) ?_
    by_cases hc21 : tc = 6
    ·refine OFin.of (S' := T15.setTop (mkF m 889 (la20 p0 p1 p2 p3 z4 z5 z6 z7 (oN i0) tk z10 tc cl tb z14 tm (oN ne) (oN ca) (oN ln) z19 1 kx (oN i0) te sn r2 k2 s2 kw z29 ec ll c0 c1 c2 1 ((oN ne) + (1 : Int32))) [])) (fun t ht => cN X15 hx (B at_846) rfl (teq hc21).2 (iW X15 hx (B at_849) rfl (iC X15 hx (B at_851) (XS.iadd X15.here hx rfl (B at_852) rfl (gO X15 hx 853 869 rfl (B at_853) (by decide) (sW X15 hx (B at_869) rfl (l' := (la20 p0 p1 p2 p3 z4 z5 z6 z7 (oN i0) tk z10 tc cl tb z14 tm (oN ne) (oN ca) (oN ln) z19 1 kx (oN i0) te sn r2 k2 s2 kw z29 ec ll c0 c1 c2 1 ((oN ne) + (1 : Int32)))) rfl (gO X15 hx 871 889 rfl (B at_871) (by decide) ht))))))) ?_
     exact seg889 (s := s) (vm1 := vm1) ⟨hw, hx, B, hlk, hret, hml, hown, hZ⟩ (X15.more (by decide) (by decide)) hs15 Z0 N16 fa0 hst hkw (hwe.trans (by unfold own_we; rw [if_neg hc17, if_pos hc18, if_neg hc19, if_pos hc21])) hS2 hR0.1  hS1 hk1 hQ
    ·refine OFin.of (S' := T15.setTop (mkF m 858 (la19 p0 p1 p2 p3 z4 z5 z6 z7 (oN i0) tk z10 tc cl tb z14 tm (oN ne) (oN ca) (oN ln) z19 1 kx (oN i0) te sn r2 k2 s2 kw z29 ec ll c0 c1 c2 1) [(.int cl)])) (fun t ht => cY X15 hx 846 856 rfl (B at_846) rfl (feq hc21).2 (by decide) (iW X15 hx (B at_856) rfl ht)) ?_
     by_cases hc22 : cl = 0
     ·refine OFin.of (S' := T15.setTop (mkF m 889 (la20 p0 p1 p2 p3 z4 z5 z6 z7 (oN i0) tk z10 tc cl tb z14 tm (oN ne) (oN ca) (oN ln) z19 1 kx (oN i0) te sn r2 k2 s2 kw z29 ec ll c0 c1 c2 1 (-1)) [])) (fun t ht => fY X15 hx 858 868 rfl (B at_858) rfl ((if0 _ _).trans (teq hc22).1) (by decide) (iC X15 hx (B at_868) (sW X15 hx (B at_869) rfl (l' := (la20 p0 p1 p2 p3 z4 z5 z6 z7 (oN i0) tk z10 tc cl tb z14 tm (oN ne) (oN ca) (oN ln) z19 1 kx (oN i0) te sn r2 k2 s2 kw z29 ec ll c0 c1 c2 1 (-1))) rfl (gO X15 hx 871 889 rfl (B at_871) (by decide) ht)))) ?_
      exact seg889 (s := s) (vm1 := vm1) ⟨hw, hx, B, hlk, hret, hml, hown, hZ⟩ (X15.more (by decide) (by decide)) hs15 Z0 N16 fa0 hst hkw (hwe.trans (by unfold own_we; rw [if_neg hc17, if_pos hc18, if_neg hc19, if_neg hc21, if_pos hc22])) hS2 hR0.1  hS1 hk1 hQ
     ·refine OFin.of (S' := T15.setTop (mkF m 889 (la20 p0 p1 p2 p3 z4 z5 z6 z7 (oN i0) tk z10 tc cl tb z14 tm (oN ne) (oN ca) (oN ln) z19 1 kx (oN i0) te sn r2 k2 s2 kw z29 ec ll c0 c1 c2 1 ((oN ca) + (1 : Int32))) [])) (fun t ht => fN X15 hx (B at_858) rfl ((if0 _ _).trans (feq hc22).1) (iW X15 hx (B at_861) rfl (iC X15 hx (B at_863) (XS.iadd X15.here hx rfl (B at_864) rfl (gO X15 hx 865 869 rfl (B at_865) (by decide) (sW X15 hx (B at_869) rfl (l' := (la20 p0 p1 p2 p3 z4 z5 z6 z7 (oN i0) tk z10 tc cl tb z14 tm (oN ne) (oN ca) (oN ln) z19 1 kx (oN i0) te sn r2 k2 s2 kw z29 ec ll c0 c1 c2 1 ((oN ca) + (1 : Int32)))) rfl (gO X15 hx 871 889 rfl (B at_871) (by decide) ht))))))) ?_
      exact seg889 (s := s) (vm1 := vm1) ⟨hw, hx, B, hlk, hret, hml, hown, hZ⟩ (X15.more (by decide) (by decide)) hs15 Z0 N16 fa0 hst hkw (hwe.trans (by unfold own_we; rw [if_neg hc17, if_pos hc18, if_neg hc19, if_neg hc21, if_neg hc22])) hS2 hR0.1  hS1 hk1 hQ
  ·refine OFin.of (S' := T15.setTop (mkF m 876 (la19 p0 p1 p2 p3 z4 z5 z6 z7 (oN i0) tk z10 tc cl tb z14 tm (oN ne) (oN ca) (oN ln) z19 1 kx (oN i0) te sn r2 k2 s2 kw z29 ec ll c0 c1 c2 1) [(.int cl)])) (fun t ht => cY X15 hx 834 874 rfl (B at_834) rfl (feq hc18).2 (by decide) (iW X15 hx (B at_874) rfl ht)) ?_
   by_cases hc23 : cl = 0
   ·refine OFin.of (S' := T15.setTop (mkF m 889 (la20 p0 p1 p2 p3 z4 z5 z6 z7 (oN i0) tk z10 tc cl tb z14 tm (oN ne) (oN ca) (oN ln) z19 1 kx (oN i0) te sn r2 k2 s2 kw z29 ec ll c0 c1 c2 1 (-1)) [])) (fun t ht => fY X15 hx 876 886 rfl (B at_876) rfl ((if0 _ _).trans (teq hc23).1) (by decide) (iC X15 hx (B at_886) (sW X15 hx (B at_887) rfl (l' := (la20 p0 p1 p2 p3 z4 z5 z6 z7 (oN i0) tk z10 tc cl tb z14 tm (oN ne) (oN ca) (oN ln) z19 1 kx (oN i0) te sn r2 k2 s2 kw z29 ec ll c0 c1 c2 1 (-1))) rfl ht))) ?_
    exact seg889 (s := s) (vm1 := vm1) ⟨hw, hx, B, hlk, hret, hml, hown, hZ⟩ (X15.more (by decide) (by decide)) hs15 Z0 N16 fa0 hst hkw (hwe.trans (by unfold own_we; rw [if_neg hc17, if_neg hc18, if_pos hc23])) hS2 hR0.1  hS1 hk1 hQ
   ·refine OFin.of (S' := T15.setTop (mkF m 889 (la20 p0 p1 p2 p3 z4 z5 z6 z7 (oN i0) tk z10 tc cl tb z14 tm (oN ne) (oN ca) (oN ln) z19 1 kx (oN i0) te sn r2 k2 s2 kw z29 ec ll c0 c1 c2 1 ((oN ca) + (2 : Int32))) [])) (fun t ht => fN X15 hx (B at_876) rfl ((if0 _ _).trans (feq hc23).1) (iW X15 hx (B at_879) rfl (iC X15 hx (B at_881) (XS.iadd X15.here hx rfl (B at_882) rfl (gO X15 hx 883 887 rfl (B at_883) (by decide) (sW X15 hx (B at_887) rfl (l' := (la20 p0 p1 p2 p3 z4 z5 z6 z7 (oN i0) tk z10 tc cl tb z14 tm (oN ne) (oN ca) (oN ln) z19 1 kx (oN i0) te sn r2 k2 s2 kw z29 ec ll c0 c1 c2 1 ((oN ca) + (2 : Int32)))) rfl ht)))))) ?_
    exact seg889 (s := s) (vm1 := vm1) ⟨hw, hx, B, hlk, hret, hml, hown, hZ⟩ (X15.more (by decide) (by decide)) hs15 Z0 N16 fa0 hst hkw (hwe.trans (by unfold own_we; rw [if_neg hc17, if_neg hc18, if_neg hc23])) hS2 hR0.1  hS1 hk1 hQ
theorem seg702 {vm1 : Vm} {Z : State} {a0 : Array Value} (H : OwnCtx p s m meth c vm1 Z a0) {Q : Option Value → Heap → List Loc → Prop} {n0 : Nat} {kS kE kI : Addr} {cs : Int32} {fm : Value} {u8 : Addr} {p0 p1 p2 p3 : Int32} {z4 z5 z6 z7 : Slot} {tk nq tc cl tb : Int32} {z14 : Slot} {tm : Int32} {z19 : Slot} {kx : Addr} {te : Int32} {sn : Addr} {r2 : Int32} {k2 : Value} {s2 : Int32} {kw : Addr} {z29 : Slot} {ec ll : Int32} {i0 ne ca ln : Nat} {nm : List Int32} {ex : Int32} {T0 : State} {locs : List Loc} {h0 : Heap} (X0 : Stand p l e room_1 (s.setVm vm1) m args below meth c T0 locs 45 900) (e0 : T0.heap = h0) (Z0 : n0 ≤ h0.size) (N0 : Fr n0 locs) (fa0 : Stm Z h0 kS kE kI cs fm u8) (fa1 : Snm Z h0 sn (nm ++ own_exl tk tm cl tb)) (hst : OwnSt kS kE kI cs fm) (hkw : kx = kw) (hwe : te = own_we tk tm tc cl ne ca) (hS2 : OwnS2 (own_mo tk tm cl tb te) r2 s2 k2 kS ln) (hN : OwnNmL p1 nq nm) (hn : nq = 0 ∨ nq = 1 ∨ nq = 2 ∨ nq = 3) (hE : OwnEx ex ec tk tm cl tb) (hlen : ll = oN (nm ++ own_exl tk tm cl tb).length) (hC0 : CHv Z consts_1 vm1 h0) {k1 : Nat} (hS1 : s.Since vm1 k1) (hk1 : k1 ≤ h0.size) (hQ : OwnEnd n0 Q) :
  OFin p e below (KPostW s Q room_1.cells room_1.slots) (T0.setTop (mkF m 702 (la21 p0 p1 p2 p3 z4 z5 z6 z7 (oN i0) tk nq tc cl tb z14 tm (oN ne) (oN ca) (oN ln) z19 1 kx (oN i0) te sn r2 k2 s2 kw z29 ec ll) [])) := by
 obtain ⟨hw, hx, B, hlk, hret, hml, hown, hZ⟩ := H
 have hR0 : CHr Z consts_1 vm1 h0 vm1 h0 := CHr.refl hC0
 have hEL := own_EW hw
 refine OFin.of (S' := T0.setTop (mkF m 704 (la21 p0 p1 p2 p3 z4 z5 z6 z7 (oN i0) tk nq tc cl tb z14 tm (oN ne) (oN ca) (oN ln) z19 1 kx (oN i0) te sn r2 k2 s2 kw z29 ec ll) [(.int nq)])) (fun t ht => iW X0 hx (B at_702) rfl ht) ?_
 rcases hn with rfl | rfl | rfl | rfl
 ·refine OFin.of (S' := T0.setTop (mkF m 758 (la24 p0 p1 p2 p3 z4 z5 z6 z7 (oN i0) tk 0 tc cl tb z14 tm (oN ne) (oN ca) (oN ln) z19 1 kx (oN i0) te sn r2 k2 s2 kw z29 ec ll ec ec ec) [])) (fun t ht => fY X0 hx 704 714 rfl (B at_704) rfl ((if0 _ _).trans (flt (by decide : ¬ ((0 : Int32) < 0))).2.2.2) (by decide) (iW X0 hx (B at_714) rfl (sW X0 hx (B at_716) rfl (l' := (la22 p0 p1 p2 p3 z4 z5 z6 z7 (oN i0) tk 0 tc cl tb z14 tm (oN ne) (oN ca) (oN ln) z19 1 kx (oN i0) te sn r2 k2 s2 kw z29 ec ll ec)) rfl (iW X0 hx (B at_718) rfl (iC X0 hx (B at_720) (cY X0 hx 721 734 rfl (B at_721) rfl (flt (by decide : ¬ ((1 : Int32) < 0))).2.2.2 (by decide) (iW X0 hx (B at_734) rfl (sW X0 hx (B at_736) rfl (l' := (la23 p0 p1 p2 p3 z4 z5 z6 z7 (oN i0) tk 0 tc cl tb z14 tm (oN ne) (oN ca) (oN ln) z19 1 kx (oN i0) te sn r2 k2 s2 kw z29 ec ll ec ec)) rfl (iW X0 hx (B at_738) rfl (iC X0 hx (B at_740) (cY X0 hx 741 754 rfl (B at_741) rfl (flt (by decide : ¬ ((2 : Int32) < 0))).2.2.2 (by decide) (iW X0 hx (B at_754) rfl (sW X0 hx (B at_756) rfl (l' := (la24 p0 p1 p2 p3 z4 z5 z6 z7 (oN i0) tk 0 tc cl tb z14 tm (oN ne) (oN ca) (oN ln) z19 1 kx (oN i0) te sn r2 k2 s2 kw z29 ec ll ec ec ec)) rfl ht))))))))))))) ?_
  exact seg758 (s := s) (vm1 := vm1) ⟨hw, hx, B, hlk, hret, hml, hown, hZ⟩ (X0.more (by decide) (by decide)) e0 Z0 N0 fa0 fa1 hst hkw hwe hS2 hN hlen (own_c0 hN hE) hR0.1  hS1 hk1 hQ
 ·obtain ⟨_, T24, Lc24, X24, hQ24, st24⟩ := own_cS X0 hx hw hZ hown 254 255 3 256 rfl rfl rfl rfl (by decide) (rmNch l Z _ hw [] p1 h0 n0 Z0 ) (by decide) (by decide) (g := (mkF m 708 (la21 p0 p1 p2 p3 z4 z5 z6 z7 (oN i0) tk 1 tc cl tb z14 tm (oN ne) (oN ca) (oN ln) z19 1 kx (oN i0) te sn r2 k2 s2 kw z29 ec ll) [(.int p1)])) rfl hml rfl (argsL := [(.int p1)]) (rest := []) pd_7 rfl rfl rfl (W := 0) (nE rfl) (B at_708) rfl e0 (by decide) (by decide)
  obtain ⟨rfl, Nq24, hs24⟩ := hQ24
  have N25 := Fr.app N0 Nq24
  refine OFin.of (fun t ht => fN X0 hx (B at_704) rfl ((if0 _ _).trans (tlt (by decide : (0 : Int32) < 1)).2.2.2) (iN X0 hx (B at_707) rfl (st24.trans ht))) ?_
  refine OFin.of (S' := T24.setTop (mkF m 758 (la24 p0 p1 p2 p3 z4 z5 z6 z7 (oN i0) tk 1 tc cl tb z14 tm (oN ne) (oN ca) (oN ln) z19 1 kx (oN i0) te sn r2 k2 s2 kw z29 ec ll (own_nch p1) ec ec) [])) (fun t ht => gO X24 hx 711 716 rfl (B at_711) (by decide) (sW X24 hx (B at_716) rfl (l' := (la22 p0 p1 p2 p3 z4 z5 z6 z7 (oN i0) tk 1 tc cl tb z14 tm (oN ne) (oN ca) (oN ln) z19 1 kx (oN i0) te sn r2 k2 s2 kw z29 ec ll (own_nch p1))) rfl (iW X24 hx (B at_718) rfl (iC X24 hx (B at_720) (cY X24 hx 721 734 rfl (B at_721) rfl (flt (by decide : ¬ ((1 : Int32) < 1))).2.2.2 (by decide) (iW X24 hx (B at_734) rfl (sW X24 hx (B at_736) rfl (l' := (la23 p0 p1 p2 p3 z4 z5 z6 z7 (oN i0) tk 1 tc cl tb z14 tm (oN ne) (oN ca) (oN ln) z19 1 kx (oN i0) te sn r2 k2 s2 kw z29 ec ll (own_nch p1) ec)) rfl (iW X24 hx (B at_738) rfl (iC X24 hx (B at_740) (cY X24 hx 741 754 rfl (B at_741) rfl (flt (by decide : ¬ ((2 : Int32) < 1))).2.2.2 (by decide) (iW X24 hx (B at_754) rfl (sW X24 hx (B at_756) rfl (l' := (la24 p0 p1 p2 p3 z4 z5 z6 z7 (oN i0) tk 1 tc cl tb z14 tm (oN ne) (oN ca) (oN ln) z19 1 kx (oN i0) te sn r2 k2 s2 kw z29 ec ll (own_nch p1) ec ec)) rfl ht)))))))))))) ?_
  exact seg758 (s := s) (vm1 := vm1) ⟨hw, hx, B, hlk, hret, hml, hown, hZ⟩ (X24.more (by decide) (by decide)) hs24 Z0 N25 fa0 fa1 hst hkw hwe hS2 hN hlen (own_c1 hN hE) hR0.1  hS1 hk1 hQ
 ·obtain ⟨_, T26, Lc26, X26, hQ26, st26⟩ := own_cS X0 hx hw hZ hown 254 255 3 256 rfl rfl rfl rfl (by decide) (rmNch l Z _ hw [] p1 h0 n0 Z0 ) (by decide) (by decide) (g := (mkF m 708 (la21 p0 p1 p2 p3 z4 z5 z6 z7 (oN i0) tk 2 tc cl tb z14 tm (oN ne) (oN ca) (oN ln) z19 1 kx (oN i0) te sn r2 k2 s2 kw z29 ec ll) [(.int p1)])) rfl hml rfl (argsL := [(.int p1)]) (rest := []) pd_7 rfl rfl rfl (W := 0) (nE rfl) (B at_708) rfl e0 (by decide) (by decide)
  obtain ⟨rfl, Nq26, hs26⟩ := hQ26
  have N27 := Fr.app N0 Nq26
  refine OFin.of (fun t ht => fN X0 hx (B at_704) rfl ((if0 _ _).trans (tlt (by decide : (0 : Int32) < 2)).2.2.2) (iN X0 hx (B at_707) rfl (st26.trans ht))) ?_
  obtain ⟨_, T28, Lc28, X28, hQ28, st28⟩ := own_cS X26 hx hw hZ hown 254 255 3 256 rfl rfl rfl rfl (by decide) (rmNch l Z _ hw [] ((p1.toUInt32 >>> ((8 : Int32) &&& 31).toUInt32).toInt32) h0 n0 Z0 ) (by decide) (by decide) (g := (mkF m 728 (la22 p0 p1 p2 p3 z4 z5 z6 z7 (oN i0) tk 2 tc cl tb z14 tm (oN ne) (oN ca) (oN ln) z19 1 kx (oN i0) te sn r2 k2 s2 kw z29 ec ll (own_nch p1)) [(.int ((p1.toUInt32 >>> ((8 : Int32) &&& 31).toUInt32).toInt32))])) rfl hml rfl (argsL := [(.int ((p1.toUInt32 >>> ((8 : Int32) &&& 31).toUInt32).toInt32))]) (rest := []) pd_7 rfl rfl rfl (W := 0) (nE rfl) (B at_728) rfl hs26 (by decide) (by decide)
  obtain ⟨rfl, Nq28, hs28⟩ := hQ28
  have N29 := Fr.app N27 Nq28
  refine OFin.of (fun t ht => gO X26 hx 711 716 rfl (B at_711) (by decide) (sW X26 hx (B at_716) rfl (l' := (la22 p0 p1 p2 p3 z4 z5 z6 z7 (oN i0) tk 2 tc cl tb z14 tm (oN ne) (oN ca) (oN ln) z19 1 kx (oN i0) te sn r2 k2 s2 kw z29 ec ll (own_nch p1))) rfl (iW X26 hx (B at_718) rfl (iC X26 hx (B at_720) (cN X26 hx (B at_721) rfl (tlt (by decide : (1 : Int32) < 2)).2.2.2 (iN X26 hx (B at_724) rfl (bP X26 hx (B at_725) (XS.iushr X26.here hx rfl (B at_727) rfl (st28.trans ht))))))))) ?_
  refine OFin.of (S' := T28.setTop (mkF m 758 (la24 p0 p1 p2 p3 z4 z5 z6 z7 (oN i0) tk 2 tc cl tb z14 tm (oN ne) (oN ca) (oN ln) z19 1 kx (oN i0) te sn r2 k2 s2 kw z29 ec ll (own_nch p1) (own_nch ((p1.toUInt32 >>> ((8 : Int32) &&& 31).toUInt32).toInt32)) ec) [])) (fun t ht => gO X28 hx 731 736 rfl (B at_731) (by decide) (sW X28 hx (B at_736) rfl (l' := (la23 p0 p1 p2 p3 z4 z5 z6 z7 (oN i0) tk 2 tc cl tb z14 tm (oN ne) (oN ca) (oN ln) z19 1 kx (oN i0) te sn r2 k2 s2 kw z29 ec ll (own_nch p1) (own_nch ((p1.toUInt32 >>> ((8 : Int32) &&& 31).toUInt32).toInt32)))) rfl (iW X28 hx (B at_738) rfl (iC X28 hx (B at_740) (cY X28 hx 741 754 rfl (B at_741) rfl (flt (by decide : ¬ ((2 : Int32) < 2))).2.2.2 (by decide) (iW X28 hx (B at_754) rfl (sW X28 hx (B at_756) rfl (l' := (la24 p0 p1 p2 p3 z4 z5 z6 z7 (oN i0) tk 2 tc cl tb z14 tm (oN ne) (oN ca) (oN ln) z19 1 kx (oN i0) te sn r2 k2 s2 kw z29 ec ll (own_nch p1) (own_nch ((p1.toUInt32 >>> ((8 : Int32) &&& 31).toUInt32).toInt32)) ec)) rfl ht))))))) ?_
  exact seg758 (s := s) (vm1 := vm1) ⟨hw, hx, B, hlk, hret, hml, hown, hZ⟩ (X28.more (by decide) (by decide)) hs28 Z0 N29 fa0 fa1 hst hkw hwe hS2 hN hlen (own_c2 hN hE) hR0.1  hS1 hk1 hQ
 ·obtain ⟨_, T30, Lc30, X30, hQ30, st30⟩ := own_cS X0 hx hw hZ hown 254 255 3 256 rfl rfl rfl rfl (by decide) (rmNch l Z _ hw [] p1 h0 n0 Z0 ) (by decide) (by decide) (g := (mkF m 708 (la21 p0 p1 p2 p3 z4 z5 z6 z7 (oN i0) tk 3 tc cl tb z14 tm (oN ne) (oN ca) (oN ln) z19 1 kx (oN i0) te sn r2 k2 s2 kw z29 ec ll) [(.int p1)])) rfl hml rfl (argsL := [(.int p1)]) (rest := []) pd_7 rfl rfl rfl (W := 0) (nE rfl) (B at_708) rfl e0 (by decide) (by decide)
  obtain ⟨rfl, Nq30, hs30⟩ := hQ30
  have N31 := Fr.app N0 Nq30
  refine OFin.of (fun t ht => fN X0 hx (B at_704) rfl ((if0 _ _).trans (tlt (by decide : (0 : Int32) < 3)).2.2.2) (iN X0 hx (B at_707) rfl (st30.trans ht))) ?_
  obtain ⟨_, T32, Lc32, X32, hQ32, st32⟩ := own_cS X30 hx hw hZ hown 254 255 3 256 rfl rfl rfl rfl (by decide) (rmNch l Z _ hw [] ((p1.toUInt32 >>> ((8 : Int32) &&& 31).toUInt32).toInt32) h0 n0 Z0 ) (by decide) (by decide) (g := (mkF m 728 (la22 p0 p1 p2 p3 z4 z5 z6 z7 (oN i0) tk 3 tc cl tb z14 tm (oN ne) (oN ca) (oN ln) z19 1 kx (oN i0) te sn r2 k2 s2 kw z29 ec ll (own_nch p1)) [(.int ((p1.toUInt32 >>> ((8 : Int32) &&& 31).toUInt32).toInt32))])) rfl hml rfl (argsL := [(.int ((p1.toUInt32 >>> ((8 : Int32) &&& 31).toUInt32).toInt32))]) (rest := []) pd_7 rfl rfl rfl (W := 0) (nE rfl) (B at_728) rfl hs30 (by decide) (by decide)
  obtain ⟨rfl, Nq32, hs32⟩ := hQ32
  have N33 := Fr.app N31 Nq32
  refine OFin.of (fun t ht => gO X30 hx 711 716 rfl (B at_711) (by decide) (sW X30 hx (B at_716) rfl (l' := (la22 p0 p1 p2 p3 z4 z5 z6 z7 (oN i0) tk 3 tc cl tb z14 tm (oN ne) (oN ca) (oN ln) z19 1 kx (oN i0) te sn r2 k2 s2 kw z29 ec ll (own_nch p1))) rfl (iW X30 hx (B at_718) rfl (iC X30 hx (B at_720) (cN X30 hx (B at_721) rfl (tlt (by decide : (1 : Int32) < 3)).2.2.2 (iN X30 hx (B at_724) rfl (bP X30 hx (B at_725) (XS.iushr X30.here hx rfl (B at_727) rfl (st32.trans ht))))))))) ?_
  obtain ⟨_, T34, Lc34, X34, hQ34, st34⟩ := own_cS X32 hx hw hZ hown 254 255 3 256 rfl rfl rfl rfl (by decide) (rmNch l Z _ hw [] ((p1.toUInt32 >>> ((16 : Int32) &&& 31).toUInt32).toInt32) h0 n0 Z0 ) (by decide) (by decide) (g := (mkF m 748 (la23 p0 p1 p2 p3 z4 z5 z6 z7 (oN i0) tk 3 tc cl tb z14 tm (oN ne) (oN ca) (oN ln) z19 1 kx (oN i0) te sn r2 k2 s2 kw z29 ec ll (own_nch p1) (own_nch ((p1.toUInt32 >>> ((8 : Int32) &&& 31).toUInt32).toInt32))) [(.int ((p1.toUInt32 >>> ((16 : Int32) &&& 31).toUInt32).toInt32))])) rfl hml rfl (argsL := [(.int ((p1.toUInt32 >>> ((16 : Int32) &&& 31).toUInt32).toInt32))]) (rest := []) pd_7 rfl rfl rfl (W := 0) (nE rfl) (B at_748) rfl hs32 (by decide) (by decide)
  obtain ⟨rfl, Nq34, hs34⟩ := hQ34
  have N35 := Fr.app N33 Nq34
  refine OFin.of (fun t ht => gO X32 hx 731 736 rfl (B at_731) (by decide) (sW X32 hx (B at_736) rfl (l' := (la23 p0 p1 p2 p3 z4 z5 z6 z7 (oN i0) tk 3 tc cl tb z14 tm (oN ne) (oN ca) (oN ln) z19 1 kx (oN i0) te sn r2 k2 s2 kw z29 ec ll (own_nch p1) (own_nch ((p1.toUInt32 >>> ((8 : Int32) &&& 31).toUInt32).toInt32)))) rfl (iW X32 hx (B at_738) rfl (iC X32 hx (B at_740) (cN X32 hx (B at_741) rfl (tlt (by decide : (2 : Int32) < 3)).2.2.2 (iN X32 hx (B at_744) rfl (bP X32 hx (B at_745) (XS.iushr X32.here hx rfl (B at_747) rfl (st34.trans ht))))))))) ?_
  refine OFin.of (S' := T34.setTop (mkF m 758 (la24 p0 p1 p2 p3 z4 z5 z6 z7 (oN i0) tk 3 tc cl tb z14 tm (oN ne) (oN ca) (oN ln) z19 1 kx (oN i0) te sn r2 k2 s2 kw z29 ec ll (own_nch p1) (own_nch ((p1.toUInt32 >>> ((8 : Int32) &&& 31).toUInt32).toInt32)) (own_nch ((p1.toUInt32 >>> ((16 : Int32) &&& 31).toUInt32).toInt32))) [])) (fun t ht => gO X34 hx 751 756 rfl (B at_751) (by decide) (sW X34 hx (B at_756) rfl (l' := (la24 p0 p1 p2 p3 z4 z5 z6 z7 (oN i0) tk 3 tc cl tb z14 tm (oN ne) (oN ca) (oN ln) z19 1 kx (oN i0) te sn r2 k2 s2 kw z29 ec ll (own_nch p1) (own_nch ((p1.toUInt32 >>> ((8 : Int32) &&& 31).toUInt32).toInt32)) (own_nch ((p1.toUInt32 >>> ((16 : Int32) &&& 31).toUInt32).toInt32)))) rfl ht)) ?_
  exact seg758 (s := s) (vm1 := vm1) ⟨hw, hx, B, hlk, hret, hml, hown, hZ⟩ (X34.more (by decide) (by decide)) hs34 Z0 N35 fa0 fa1 hst hkw hwe hS2 hN hlen (own_c3 hN hE) hR0.1  hS1 hk1 hQ
theorem seg687 {vm1 : Vm} {Z : State} {a0 : Array Value} (H : OwnCtx p s m meth c vm1 Z a0) {Q : Option Value → Heap → List Loc → Prop} {n0 : Nat} {kS kE kI : Addr} {cs : Int32} {fm : Value} {u8 : Addr} {p0 p1 p2 p3 : Int32} {z4 z5 z6 z7 : Slot} {tk nq tc cl tb : Int32} {z14 : Slot} {tm : Int32} {z19 : Slot} {kx : Addr} {te : Int32} {sn : Addr} {r2 : Int32} {k2 : Value} {s2 : Int32} {kw : Addr} {ex ec : Int32} {i0 ne ca ln : Nat} {nm : List Int32} {T0 : State} {locs : List Loc} {h0 : Heap} (X0 : Stand p l e room_1 (s.setVm vm1) m args below meth c T0 locs 45 900) (e0 : T0.heap = h0) (Z0 : n0 ≤ h0.size) (N0 : Fr n0 locs) (fa0 : Stm Z h0 kS kE kI cs fm u8) (fa1 : Snm Z h0 sn (nm ++ own_exl tk tm cl tb)) (hst : OwnSt kS kE kI cs fm) (hkw : kx = kw) (hwe : te = own_we tk tm tc cl ne ca) (hS2 : OwnS2 (own_mo tk tm cl tb te) r2 s2 k2 kS ln) (hN : OwnNmL p1 nq nm) (hn : nq = 0 ∨ nq = 1 ∨ nq = 2 ∨ nq = 3) (hE : OwnEx ex ec tk tm cl tb) (hC0 : CHv Z consts_1 vm1 h0) {k1 : Nat} (hS1 : s.Since vm1 k1) (hk1 : k1 ≤ h0.size) (hQ : OwnEnd n0 Q) :
  OFin p e below (KPostW s Q room_1.cells room_1.slots) (T0.setTop (mkF m 687 (la25 p0 p1 p2 p3 z4 z5 z6 z7 (oN i0) tk nq tc cl tb z14 tm (oN ne) (oN ca) (oN ln) z19 1 kx (oN i0) te sn r2 k2 s2 kw ex ec) [])) := by
 obtain ⟨hw, hx, B, hlk, hret, hml, hown, hZ⟩ := H
 have hR0 : CHr Z consts_1 vm1 h0 vm1 h0 := CHr.refl hC0
 have hEL := own_EW hw
 refine OFin.of (S' := T0.setTop (mkF m 691 (la25 p0 p1 p2 p3 z4 z5 z6 z7 (oN i0) tk nq tc cl tb z14 tm (oN ne) (oN ca) (oN ln) z19 1 kx (oN i0) te sn r2 k2 s2 kw ex ec) [(.int ex), (.int nq)])) (fun t ht => iW X0 hx (B at_687) rfl (iW X0 hx (B at_689) rfl ht)) ?_
 by_cases hc36 : ex = 0
 ·refine OFin.of (S' := T0.setTop (mkF m 702 (la26 p0 p1 p2 p3 z4 z5 z6 z7 (oN i0) tk nq tc cl tb z14 tm (oN ne) (oN ca) (oN ln) z19 1 kx (oN i0) te sn r2 k2 s2 kw ex ec (nq + (0 : Int32))) [])) (fun t ht => fY X0 hx 691 698 rfl (B at_691) rfl ((if0 _ _).trans (teq hc36).1) (by decide) (iC X0 hx (B at_698) (XS.iadd X0.here hx rfl (B at_699) rfl (sW X0 hx (B at_700) rfl (l' := (la26 p0 p1 p2 p3 z4 z5 z6 z7 (oN i0) tk nq tc cl tb z14 tm (oN ne) (oN ca) (oN ln) z19 1 kx (oN i0) te sn r2 k2 s2 kw ex ec (nq + (0 : Int32)))) rfl ht)))) ?_
  exact seg702 (s := s) (vm1 := vm1) ⟨hw, hx, B, hlk, hret, hml, hown, hZ⟩ (X0.more (by decide) (by decide)) e0 Z0 N0 fa0 fa1 hst hkw hwe hS2 hN hn hE (own_len0 hN hE hc36) hR0.1  hS1 hk1 hQ
 ·refine OFin.of (S' := T0.setTop (mkF m 702 (la26 p0 p1 p2 p3 z4 z5 z6 z7 (oN i0) tk nq tc cl tb z14 tm (oN ne) (oN ca) (oN ln) z19 1 kx (oN i0) te sn r2 k2 s2 kw ex ec (nq + (1 : Int32))) [])) (fun t ht => fN X0 hx (B at_691) rfl ((if0 _ _).trans (feq hc36).1) (iC X0 hx (B at_694) (gO X0 hx 695 699 rfl (B at_695) (by decide) (XS.iadd X0.here hx rfl (B at_699) rfl (sW X0 hx (B at_700) rfl (l' := (la26 p0 p1 p2 p3 z4 z5 z6 z7 (oN i0) tk nq tc cl tb z14 tm (oN ne) (oN ca) (oN ln) z19 1 kx (oN i0) te sn r2 k2 s2 kw ex ec (nq + (1 : Int32)))) rfl ht))))) ?_
  exact seg702 (s := s) (vm1 := vm1) ⟨hw, hx, B, hlk, hret, hml, hown, hZ⟩ (X0.more (by decide) (by decide)) e0 Z0 N0 fa0 fa1 hst hkw hwe hS2 hN hn hE (own_len1 hN hE hc36) hR0.1  hS1 hk1 hQ
theorem seg639 {vm1 : Vm} {Z : State} {a0 : Array Value} (H : OwnCtx p s m meth c vm1 Z a0) {Q : Option Value → Heap → List Loc → Prop} {n0 : Nat} {kS kE kI : Addr} {cs : Int32} {fm : Value} {u8 : Addr} {p0 p1 p2 p3 : Int32} {z4 z5 z6 z7 : Slot} {tk nq tc cl tb : Int32} {z14 : Slot} {tm : Int32} {z19 : Slot} {kx : Addr} {te : Int32} {sn : Addr} {r2 : Int32} {k2 : Value} {s2 : Int32} {kw : Addr} {i0 ne ca ln : Nat} {nm : List Int32} {T0 : State} {locs : List Loc} {h0 : Heap} (X0 : Stand p l e room_1 (s.setVm vm1) m args below meth c T0 locs 45 900) (e0 : T0.heap = h0) (Z0 : n0 ≤ h0.size) (N0 : Fr n0 locs) (fa0 : Stm Z h0 kS kE kI cs fm u8) (fa1 : Snm Z h0 sn (nm ++ own_exl tk tm cl tb)) (hst : OwnSt kS kE kI cs fm) (hkw : kx = kw) (hwe : te = own_we tk tm tc cl ne ca) (hS2 : OwnS2 (own_mo tk tm cl tb te) r2 s2 k2 kS ln) (hN : OwnNmL p1 nq nm) (hn : nq = 0 ∨ nq = 1 ∨ nq = 2 ∨ nq = 3) (htb : Own01 tb) (hC0 : CHv Z consts_1 vm1 h0) {k1 : Nat} (hS1 : s.Since vm1 k1) (hk1 : k1 ≤ h0.size) (hQ : OwnEnd n0 Q) :
  OFin p e below (KPostW s Q room_1.cells room_1.slots) (T0.setTop (mkF m 639 (la27 p0 p1 p2 p3 z4 z5 z6 z7 (oN i0) tk nq tc cl tb z14 tm (oN ne) (oN ca) (oN ln) z19 1 kx (oN i0) te sn r2 k2 s2 kw) [])) := by
 obtain ⟨hw, hx, B, hlk, hret, hml, hown, hZ⟩ := H
 have hR0 : CHr Z consts_1 vm1 h0 vm1 h0 := CHr.refl hC0
 have hEL := own_EW hw
 refine OFin.of (S' := T0.setTop (mkF m 641 (la27 p0 p1 p2 p3 z4 z5 z6 z7 (oN i0) tk nq tc cl tb z14 tm (oN ne) (oN ca) (oN ln) z19 1 kx (oN i0) te sn r2 k2 s2 kw) [(.int tm)])) (fun t ht => iW X0 hx (B at_639) rfl ht) ?_
 by_cases hc37 : tm = 0
 ·refine OFin.of (S' := T0.setTop (mkF m 656 (la27 p0 p1 p2 p3 z4 z5 z6 z7 (oN i0) tk nq tc cl tb z14 tm (oN ne) (oN ca) (oN ln) z19 1 kx (oN i0) te sn r2 k2 s2 kw) [(.int cl)])) (fun t ht => fY X0 hx 641 654 rfl (B at_641) rfl ((if0 _ _).trans (teq hc37).1) (by decide) (iW X0 hx (B at_654) rfl ht)) ?_
  by_cases hc38 : cl = 0
  ·refine OFin.of (S' := T0.setTop (mkF m 687 (la25 p0 p1 p2 p3 z4 z5 z6 z7 (oN i0) tk nq tc cl tb z14 tm (oN ne) (oN ca) (oN ln) z19 1 kx (oN i0) te sn r2 k2 s2 kw tb 60) [])) (fun t ht => fY X0 hx 656 679 rfl (B at_656) rfl ((if0 _ _).trans (teq hc38).1) (by decide) (iW X0 hx (B at_679) rfl (sW X0 hx (B at_681) rfl (l' := (la28 p0 p1 p2 p3 z4 z5 z6 z7 (oN i0) tk nq tc cl tb z14 tm (oN ne) (oN ca) (oN ln) z19 1 kx (oN i0) te sn r2 k2 s2 kw tb)) rfl (bP X0 hx (B at_683) (sW X0 hx (B at_685) rfl (l' := (la25 p0 p1 p2 p3 z4 z5 z6 z7 (oN i0) tk nq tc cl tb z14 tm (oN ne) (oN ca) (oN ln) z19 1 kx (oN i0) te sn r2 k2 s2 kw tb 60)) rfl ht))))) ?_
   exact seg687 (s := s) (vm1 := vm1) ⟨hw, hx, B, hlk, hret, hml, hown, hZ⟩ (X0.more (by decide) (by decide)) e0 Z0 N0 fa0 fa1 hst hkw hwe hS2 hN hn (own_exc hc37 hc38 htb) hR0.1  hS1 hk1 hQ
  ·refine OFin.of (S' := T0.setTop (mkF m 662 (la27 p0 p1 p2 p3 z4 z5 z6 z7 (oN i0) tk nq tc cl tb z14 tm (oN ne) (oN ca) (oN ln) z19 1 kx (oN i0) te sn r2 k2 s2 kw) [(.int 3), (.int tk)])) (fun t ht => fN X0 hx (B at_656) rfl ((if0 _ _).trans (feq hc38).1) (iW X0 hx (B at_659) rfl (iC X0 hx (B at_661) ht))) ?_
   by_cases hc39 : tk = 3
   ·refine OFin.of (S' := T0.setTop (mkF m 687 (la25 p0 p1 p2 p3 z4 z5 z6 z7 (oN i0) tk nq tc cl tb z14 tm (oN ne) (oN ca) (oN ln) z19 1 kx (oN i0) te sn r2 k2 s2 kw 1 63) [])) (fun t ht => cN X0 hx (B at_662) rfl (teq hc39).2 (iC X0 hx (B at_665) (gO X0 hx 666 670 rfl (B at_666) (by decide) (sW X0 hx (B at_670) rfl (l' := (la28 p0 p1 p2 p3 z4 z5 z6 z7 (oN i0) tk nq tc cl tb z14 tm (oN ne) (oN ca) (oN ln) z19 1 kx (oN i0) te sn r2 k2 s2 kw 1)) rfl (bP X0 hx (B at_672) (sW X0 hx (B at_674) rfl (l' := (la25 p0 p1 p2 p3 z4 z5 z6 z7 (oN i0) tk nq tc cl tb z14 tm (oN ne) (oN ca) (oN ln) z19 1 kx (oN i0) te sn r2 k2 s2 kw 1 63)) rfl (gO X0 hx 676 687 rfl (B at_676) (by decide) ht))))))) ?_
    exact seg687 (s := s) (vm1 := vm1) ⟨hw, hx, B, hlk, hret, hml, hown, hZ⟩ (X0.more (by decide) (by decide)) e0 Z0 N0 fa0 fa1 hst hkw hwe hS2 hN hn (own_exb1 hc37 hc38 hc39) hR0.1  hS1 hk1 hQ
   ·refine OFin.of (S' := T0.setTop (mkF m 687 (la25 p0 p1 p2 p3 z4 z5 z6 z7 (oN i0) tk nq tc cl tb z14 tm (oN ne) (oN ca) (oN ln) z19 1 kx (oN i0) te sn r2 k2 s2 kw 0 63) [])) (fun t ht => cY X0 hx 662 669 rfl (B at_662) rfl (feq hc39).2 (by decide) (iC X0 hx (B at_669) (sW X0 hx (B at_670) rfl (l' := (la28 p0 p1 p2 p3 z4 z5 z6 z7 (oN i0) tk nq tc cl tb z14 tm (oN ne) (oN ca) (oN ln) z19 1 kx (oN i0) te sn r2 k2 s2 kw 0)) rfl (bP X0 hx (B at_672) (sW X0 hx (B at_674) rfl (l' := (la25 p0 p1 p2 p3 z4 z5 z6 z7 (oN i0) tk nq tc cl tb z14 tm (oN ne) (oN ca) (oN ln) z19 1 kx (oN i0) te sn r2 k2 s2 kw 0 63)) rfl (gO X0 hx 676 687 rfl (B at_676) (by decide) ht)))))) ?_
    exact seg687 (s := s) (vm1 := vm1) ⟨hw, hx, B, hlk, hret, hml, hown, hZ⟩ (X0.more (by decide) (by decide)) e0 Z0 N0 fa0 fa1 hst hkw hwe hS2 hN hn (own_exb2 hc37 hc38 hc39) hR0.1  hS1 hk1 hQ
 ·refine OFin.of (S' := T0.setTop (mkF m 687 (la25 p0 p1 p2 p3 z4 z5 z6 z7 (oN i0) tk nq tc cl tb z14 tm (oN ne) (oN ca) (oN ln) z19 1 kx (oN i0) te sn r2 k2 s2 kw 0 120) [])) (fun t ht => fN X0 hx (B at_641) rfl ((if0 _ _).trans (feq hc37).1) (iC X0 hx (B at_644) (sW X0 hx (B at_645) rfl (l' := (la28 p0 p1 p2 p3 z4 z5 z6 z7 (oN i0) tk nq tc cl tb z14 tm (oN ne) (oN ca) (oN ln) z19 1 kx (oN i0) te sn r2 k2 s2 kw 0)) rfl (bP X0 hx (B at_647) (sW X0 hx (B at_649) rfl (l' := (la25 p0 p1 p2 p3 z4 z5 z6 z7 (oN i0) tk nq tc cl tb z14 tm (oN ne) (oN ca) (oN ln) z19 1 kx (oN i0) te sn r2 k2 s2 kw 0 120)) rfl (gO X0 hx 651 687 rfl (B at_651) (by decide) ht)))))) ?_
  exact seg687 (s := s) (vm1 := vm1) ⟨hw, hx, B, hlk, hret, hml, hown, hZ⟩ (X0.more (by decide) (by decide)) e0 Z0 N0 fa0 fa1 hst hkw hwe hS2 hN hn (own_exa hc37) hR0.1  hS1 hk1 hQ
theorem seg545 {vm1 : Vm} {Z : State} {a0 : Array Value} (H : OwnCtx p s m meth c vm1 Z a0) {Q : Option Value → Heap → List Loc → Prop} {n0 : Nat} {kS kE kI : Addr} {cs : Int32} {fm : Value} {u8 : Addr} {p0 p1 p2 p3 : Int32} {z4 z5 z6 z7 : Slot} {tk nq tc cl tb : Int32} {z14 : Slot} {tm : Int32} {z19 : Slot} {kx : Addr} {te : Int32} {sn : Addr} {r2 : Int32} {k2 : Value} {s2 : Int32} {i0 ne ca ln : Nat} {nm : List Int32} {T0 : State} {locs : List Loc} {h0 : Heap} (X0 : Stand p l e room_1 (s.setVm vm1) m args below meth c T0 locs 45 900) (e0 : T0.heap = h0) (Z0 : n0 ≤ h0.size) (N0 : Fr n0 locs) (fa0 : Stm Z h0 kS kE kI cs fm u8) (fa1 : Snm Z h0 sn (nm ++ own_exl tk tm cl tb)) (hst : OwnSt kS kE kI cs fm) (hKx : OwnKx tk kx kS kE kI) (hwe : te = own_we tk tm tc cl ne ca) (hS2 : OwnS2 (own_mo tk tm cl tb te) r2 s2 k2 kS ln) (hN : OwnNmL p1 nq nm) (hn : nq = 0 ∨ nq = 1 ∨ nq = 2 ∨ nq = 3) (htb : Own01 tb) (hC0 : CHv Z consts_1 vm1 h0) {k1 : Nat} (hS1 : s.Since vm1 k1) (hk1 : k1 ≤ h0.size) (hQ : OwnEnd n0 Q) :
  OFin p e below (KPostW s Q room_1.cells room_1.slots) (T0.setTop (mkF m 545 (la29 p0 p1 p2 p3 z4 z5 z6 z7 (oN i0) tk nq tc cl tb z14 tm (oN ne) (oN ca) (oN ln) z19 1 kx (oN i0) te sn r2 k2 s2) [])) := by
 obtain ⟨hw, hx, B, hlk, hret, hml, hown, hZ⟩ := H
 have hR0 : CHr Z consts_1 vm1 h0 vm1 h0 := CHr.refl hC0
 have hEL := own_EW hw
 refine OFin.of (S' := T0.setTop (mkF m 547 (la29 p0 p1 p2 p3 z4 z5 z6 z7 (oN i0) tk nq tc cl tb z14 tm (oN ne) (oN ca) (oN ln) z19 1 kx (oN i0) te sn r2 k2 s2) [(.int tk)])) (fun t ht => iW X0 hx (B at_545) rfl ht) ?_
 rcases hKx with ⟨rfl, hkx⟩ | ⟨rfl, hkx⟩ | ⟨rfl, hkx⟩
 ·obtain ⟨T40, X40, e40, st40⟩ := getS (host := "") X0 hx hZ hown (wt hw 268 rfl) Via.refl e0 fa0.1 (g := (mkF m 616 (la29 p0 p1 p2 p3 z4 z5 z6 z7 (oN i0) 1 nq tc cl tb z14 tm (oN ne) (oN ca) (oN ln) z19 1 kx (oN i0) te sn r2 k2 s2) [])) rfl (B at_616)
  refine OFin.of (fun t ht => fN X0 hx (B at_547) rfl ((if0 _ _).trans (feq (by decide : ¬ ((1 : Int32) = 0))).1) (iW X0 hx (B at_550) rfl (iC X0 hx (B at_552) (cY X0 hx 553 610 rfl (B at_553) rfl (feq (by decide : ¬ ((1 : Int32) = 4))).2 (by decide) (iW X0 hx (B at_610) rfl (iC X0 hx (B at_612) (cN X0 hx (B at_613) rfl (teq (by decide : (1 : Int32) = 1)).2 (st40 t ht)))))))) ?_
  refine OFin.of (S' := T40.setTop (mkF m 639 (la27 p0 p1 p2 p3 z4 z5 z6 z7 (oN i0) 1 nq tc cl tb z14 tm (oN ne) (oN ca) (oN ln) z19 1 kx (oN i0) te sn r2 k2 s2 kS) [])) (fun t ht => gO X40 hx 619 637 rfl (B at_619) (by decide) (XS.astore X40.here hx rfl (B at_637) rfl rfl (l' := (la27 p0 p1 p2 p3 z4 z5 z6 z7 (oN i0) 1 nq tc cl tb z14 tm (oN ne) (oN ca) (oN ln) z19 1 kx (oN i0) te sn r2 k2 s2 kS)) rfl ht)) ?_
  exact seg639 (s := s) (vm1 := vm1) ⟨hw, hx, B, hlk, hret, hml, hown, hZ⟩ (X40.more (by decide) (by decide)) e40 Z0 N0 fa0 fa1 hst hkx hwe hS2 hN hn htb hR0.1  hS1 hk1 hQ
 ·obtain ⟨T41, X41, e41, st41⟩ := getS (host := "") X0 hx hZ hown (wt hw 137 rfl) Via.refl e0 fa0.2.1 (g := (mkF m 628 (la29 p0 p1 p2 p3 z4 z5 z6 z7 (oN i0) 2 nq tc cl tb z14 tm (oN ne) (oN ca) (oN ln) z19 1 kx (oN i0) te sn r2 k2 s2) [])) rfl (B at_628)
  refine OFin.of (fun t ht => fN X0 hx (B at_547) rfl ((if0 _ _).trans (feq (by decide : ¬ ((2 : Int32) = 0))).1) (iW X0 hx (B at_550) rfl (iC X0 hx (B at_552) (cY X0 hx 553 610 rfl (B at_553) rfl (feq (by decide : ¬ ((2 : Int32) = 4))).2 (by decide) (iW X0 hx (B at_610) rfl (iC X0 hx (B at_612) (cY X0 hx 613 622 rfl (B at_613) rfl (feq (by decide : ¬ ((2 : Int32) = 1))).2 (by decide) (iW X0 hx (B at_622) rfl (iC X0 hx (B at_624) (cN X0 hx (B at_625) rfl (teq (by decide : (2 : Int32) = 2)).2 (st41 t ht))))))))))) ?_
  refine OFin.of (S' := T41.setTop (mkF m 639 (la27 p0 p1 p2 p3 z4 z5 z6 z7 (oN i0) 2 nq tc cl tb z14 tm (oN ne) (oN ca) (oN ln) z19 1 kx (oN i0) te sn r2 k2 s2 kE) [])) (fun t ht => gO X41 hx 631 637 rfl (B at_631) (by decide) (XS.astore X41.here hx rfl (B at_637) rfl rfl (l' := (la27 p0 p1 p2 p3 z4 z5 z6 z7 (oN i0) 2 nq tc cl tb z14 tm (oN ne) (oN ca) (oN ln) z19 1 kx (oN i0) te sn r2 k2 s2 kE)) rfl ht)) ?_
  exact seg639 (s := s) (vm1 := vm1) ⟨hw, hx, B, hlk, hret, hml, hown, hZ⟩ (X41.more (by decide) (by decide)) e41 Z0 N0 fa0 fa1 hst hkx hwe hS2 hN hn htb hR0.1  hS1 hk1 hQ
 ·obtain ⟨T42, X42, e42, st42⟩ := getS (host := "") X0 hx hZ hown (wt hw 253 rfl) Via.refl e0 fa0.2.2.1 (g := (mkF m 634 (la29 p0 p1 p2 p3 z4 z5 z6 z7 (oN i0) 3 nq tc cl tb z14 tm (oN ne) (oN ca) (oN ln) z19 1 kx (oN i0) te sn r2 k2 s2) [])) rfl (B at_634)
  refine OFin.of (fun t ht => fN X0 hx (B at_547) rfl ((if0 _ _).trans (feq (by decide : ¬ ((3 : Int32) = 0))).1) (iW X0 hx (B at_550) rfl (iC X0 hx (B at_552) (cY X0 hx 553 610 rfl (B at_553) rfl (feq (by decide : ¬ ((3 : Int32) = 4))).2 (by decide) (iW X0 hx (B at_610) rfl (iC X0 hx (B at_612) (cY X0 hx 613 622 rfl (B at_613) rfl (feq (by decide : ¬ ((3 : Int32) = 1))).2 (by decide) (iW X0 hx (B at_622) rfl (iC X0 hx (B at_624) (cY X0 hx 625 634 rfl (B at_625) rfl (feq (by decide : ¬ ((3 : Int32) = 2))).2 (by decide) (st42 t ht))))))))))) ?_
  refine OFin.of (S' := T42.setTop (mkF m 639 (la27 p0 p1 p2 p3 z4 z5 z6 z7 (oN i0) 3 nq tc cl tb z14 tm (oN ne) (oN ca) (oN ln) z19 1 kx (oN i0) te sn r2 k2 s2 kI) [])) (fun t ht => XS.astore X42.here hx rfl (B at_637) rfl rfl (l' := (la27 p0 p1 p2 p3 z4 z5 z6 z7 (oN i0) 3 nq tc cl tb z14 tm (oN ne) (oN ca) (oN ln) z19 1 kx (oN i0) te sn r2 k2 s2 kI)) rfl ht) ?_
  exact seg639 (s := s) (vm1 := vm1) ⟨hw, hx, B, hlk, hret, hml, hown, hZ⟩ (X42.more (by decide) (by decide)) e42 Z0 N0 fa0 fa1 hst hkx hwe hS2 hN hn htb hR0.1  hS1 hk1 hQ
theorem seg524 {vm1 : Vm} {Z : State} {a0 : Array Value} (H : OwnCtx p s m meth c vm1 Z a0) {Q : Option Value → Heap → List Loc → Prop} {n0 : Nat} {kS kE kI : Addr} {cs : Int32} {fm : Value} {u8 : Addr} {p0 p1 p2 p3 : Int32} {tx : Addr} {z5 z6 z7 : Slot} {tk nq tc cl tb : Int32} {z14 : Slot} {tm : Int32} {mk kx : Addr} {te : Int32} {sn : Addr} {kt : ClassId} {pre : List Int32} {i0 ne ca at1 : Nat} {nm : List Int32} {u1 u2 u3 u4 : Int32} {T0 : State} {locs : List Loc} {h0 : Heap} (X0 : Stand p l e room_1 (s.setVm vm1) m args below meth c T0 locs 43 860) (e0 : T0.heap = h0) (Z0 : n0 ≤ h0.size) (N0 : Fr n0 locs) (fa0 : Stm Z h0 kS kE kI cs fm u8) (fa1 : Txt Z h0 tx kt (32 : Int32) pre) (fa2 : Exa Z h0 mk cA) (fa3 : Mk Z h0 mk (.ref tx) (.int (oN at1)) (.int (oN pre.length)) (.ref kx) (.int (oN i0)) (.int te) (.int 0) (.int u1) (.int u2) (.int u3) (.int u4)) (fa4 : Snm Z h0 sn (nm ++ own_exl tk tm cl tb)) (na0 : tx ≠ mk) (ga0 : n0 ≤ mk) (hst : OwnSt kS kE kI cs fm) (hKx : OwnKx tk kx kS kE kI) (hal : at1 ≤ pre.length) (hwe : te = own_we tk tm tc cl ne ca) (hsec : (own_mo tk tm cl tb te = 1 ∧ own_nt pre at1 = (some (pre.length - 1), pre.length, 0) ∧ own_ba2 pre (pre.length - 1) = 0 ∧ 1 ≤ pre.length) ∨ (own_mo tk tm cl tb te = 0 ∧ own_nt pre at1 = (none, pre.length, 0))) (hN : OwnNmL p1 nq nm) (hn : nq = 0 ∨ nq = 1 ∨ nq = 2 ∨ nq = 3) (htb : Own01 tb) (hC0 : CHv Z consts_1 vm1 h0) {k1 : Nat} (hS1 : s.Since vm1 k1) (hk1 : k1 ≤ h0.size) (hQ : OwnEnd n0 Q) :
  OFin p e below (KPostW s Q room_1.cells room_1.slots) (T0.setTop (mkF m 524 (la30 p0 p1 p2 p3 tx z5 z6 z7 (oN i0) tk nq tc cl tb z14 tm (oN ne) (oN ca) (oN pre.length) mk 1 kx (oN i0) te sn) [])) := by
 obtain ⟨hw, hx, B, hlk, hret, hml, hown, hZ⟩ := H
 have hR0 : CHr Z consts_1 vm1 h0 vm1 h0 := CHr.refl hC0
 have hEL := own_EW hw
 refine OFin.of (S' := T0.setTop (mkF m 526 (la30 p0 p1 p2 p3 tx z5 z6 z7 (oN i0) tk nq tc cl tb z14 tm (oN ne) (oN ca) (oN pre.length) mk 1 kx (oN i0) te sn) [(.ref mk)])) (fun t ht => aW X0 hx (B at_524) rfl rfl ht) ?_
 rcases hsec with ⟨hmo, hnt2, hb0, hl1⟩ | ⟨hmo, hnt2⟩
 ·obtain ⟨cq44, kq44, q44a, q44b, q44c⟩ := isOf hZ e0 fa2
  obtain ⟨_, _, ⟨T43, L43, k43, n43⟩, -, X43, Sq43, gr43, ⟨Lc43, hQ43, l43, y43, z43, CH43⟩, st43⟩ := X0.virtualBackS hx (y := mn18) (z := mn18) hown (mvT hZ (wt hw 49 rfl)) (mvT hZ (wt hw 50 rfl)) (notFace_of_selects (args := #[]) (mvT hZ (wt hw 52 rfl))) (mvT hZ (wt hw 52 rfl)) (mvT hZ (wt hw 51 rfl)) (by decide) (backOfSH (s := s) (vm0 := vm1) (W := 0) (own_roomH (R' := (⟨8, 2, 40, 189⟩ : Jvm.Room)) (rmNt l Z _ hw [] mk tx kt (32 : Int32) pre (.ref kx) (oN i0) te (0 : Int32) u1 u2 u3 u4 kS kE kI cs fm at1 (some (pre.length - 1)) pre.length 0 h0 n0 Z0 fa2 fa3 fa1 ga0 na0 fa0.1 fa0.2.1 fa0.2.2.1 hst.2.2.1 hst.2.2.2 fa0.2.2.2.1 hst.1 fa0.2.2.2.2.1 hst.2.1 hal (by decide) hnt2) (Nat.le_refl _) (Nat.le_refl _) (Nat.le_refl _) (Nat.le_refl _)) hZ (wt hw 53 rfl) (wt hw 36 rfl) (by decide) (by decide) hEL hR0.1) q44a q44c (g := (mkF m 526 (la30 p0 p1 p2 p3 tx z5 z6 z7 (oN i0) tk nq tc cl tb z14 tm (oN ne) (oN ca) (oN pre.length) mk 1 kx (oN i0) te sn) [(.ref mk)])) rfl (by rw [hml]; rfl) (Steps.refl _) (argsL := []) (rest := []) (lenOf pd_4 rfl) rfl (by show 2 * 0 + _ ≤ _; exact nE rfl) (B at_526) (fun _ _ => ⟨rfl, e0, (by decide : 43 + 2 ≤ _), (by decide : 860 + 40 ≤ _)⟩)
  dsimp only [Pt.U, Pt.locs, Pt.cells, Pt.slots] at X43 l43 y43 z43 st43 hQ43 Sq43 gr43 CH43
  subst l43 y43 z43
  have hZ43 : Z.Warmed39 (s.setVm T43.vm).vm := State.Warmed39.trans (t := s.setVm vm1) hZ Sq43.1
  have hown43 : (s.setVm T43.vm).vm.findClass cC = some m.cls := by rw [show (s.setVm T43.vm).vm = T43.vm from rfl, Sq43.1.alike.findClass]; exact hown
  have S43 : s.Since T43.vm T43.heap.size := State.Since.trans (s := s) (vm₁ := vm1) hS1 Sq43 (nT hk1 (by rw [← e0]; exact gr43))
  obtain ⟨rfl, Nq43, Kq43, fk43, fs43⟩ := own_q2 hQ43 hb0
  have N45 := Fr.app N0 Nq43
  have hA46 := CH43
  have hR47 := hR0.trans hA46
  have f48 := (fa0.keep Kq43 (own_snS fa2 own_sn0))
  have f49 := (fa1.keep Kq43 (ninS na0 nin0))
  have f50 := (fa2.keep Kq43)
  have Z51 := nT Z0 Kq43.1
  have sn52 := fa4.keep1 Kq43 fa2 (wt hw 35 rfl) (by decide)
  refine OFin.to st43 ?_
  obtain ⟨_, T53, Lc53, X53, hQ53, st53⟩ := own_cV X43 hx hw hZ43 hown43 91 92 94 93 36 95 rfl rfl rfl rfl rfl rfl (by decide) f50 (rmKdR l Z _ hw [] mk kS T43.heap n0 Z51 fk43) (by decide) (by decide) (g := (mkF m 533 (la31 p0 p1 p2 p3 tx z5 z6 z7 (oN i0) tk nq tc cl tb z14 tm (oN ne) (oN ca) (oN pre.length) mk 1 kx (oN i0) te sn 1) [(.ref mk)])) rfl hml rfl (argsL := []) (rest := []) pd_30 rfl rfl rfl (W := 0) (nE rfl) (B at_533) rfl (rfl : T43.heap = T43.heap) (by decide) (by decide)
  obtain ⟨rfl, Nq53, hs53⟩ := hQ53
  have N54 := Fr.app N45 Nq53
  refine OFin.of (fun t ht => sW X43 hx (B at_529) rfl (l' := (la31 p0 p1 p2 p3 tx z5 z6 z7 (oN i0) tk nq tc cl tb z14 tm (oN ne) (oN ca) (oN pre.length) mk 1 kx (oN i0) te sn 1)) rfl (aW X43 hx (B at_531) rfl rfl (st53.trans ht))) ?_
  obtain ⟨_, T55, Lc55, X55, hQ55, st55⟩ := own_cV X53 hx hw hZ43 hown43 96 97 99 98 36 100 rfl rfl rfl rfl rfl rfl (by decide) f50 (rmTs l Z _ hw [] mk (oN (pre.length - 1)) T43.heap n0 Z51 fs43) (by decide) (by decide) (g := (mkF m 540 (la32 p0 p1 p2 p3 tx z5 z6 z7 (oN i0) tk nq tc cl tb z14 tm (oN ne) (oN ca) (oN pre.length) mk 1 kx (oN i0) te sn 1 kS) [(.ref mk)])) rfl hml rfl (argsL := []) (rest := []) pd_6 rfl rfl rfl (W := 0) (nE rfl) (B at_540) rfl hs53 (by decide) (by decide)
  obtain ⟨rfl, Nq55, hs55⟩ := hQ55
  have N56 := Fr.app N54 Nq55
  refine OFin.of (fun t ht => XS.astore X53.here hx rfl (B at_536) rfl rfl (l' := (la32 p0 p1 p2 p3 tx z5 z6 z7 (oN i0) tk nq tc cl tb z14 tm (oN ne) (oN ca) (oN pre.length) mk 1 kx (oN i0) te sn 1 kS)) rfl (aW X53 hx (B at_538) rfl rfl (st55.trans ht))) ?_
  refine OFin.of (S' := T55.setTop (mkF m 545 (la33 p0 p1 p2 p3 tx z5 z6 z7 (oN i0) tk nq tc cl tb z14 tm (oN ne) (oN ca) (oN pre.length) mk 1 kx (oN i0) te sn 1 kS (oN (pre.length - 1))) [])) (fun t ht => sW X55 hx (B at_543) rfl (l' := (la33 p0 p1 p2 p3 tx z5 z6 z7 (oN i0) tk nq tc cl tb z14 tm (oN ne) (oN ca) (oN pre.length) mk 1 kx (oN i0) te sn 1 kS (oN (pre.length - 1)))) rfl ht) ?_
  exact seg545 (s := s) (vm1 := T43.vm) ⟨hw, hx, B, hlk, hret, hml, hown43, hZ43⟩ (X55.more (by decide) (by decide)) hs55 Z51 N56 f48 sn52 hst hKx hwe (Or.inl ⟨hmo, rfl, rfl, rfl, hl1⟩) hN hn htb hR47.1  S43 (Nat.le_refl _) hQ
 ·obtain ⟨cq58, kq58, q58a, q58b, q58c⟩ := isOf hZ e0 fa2
  obtain ⟨_, _, ⟨T57, L57, k57, n57⟩, -, X57, Sq57, gr57, ⟨Lc57, hQ57, l57, y57, z57, CH57⟩, st57⟩ := X0.virtualBackS hx (y := mn18) (z := mn18) hown (mvT hZ (wt hw 49 rfl)) (mvT hZ (wt hw 50 rfl)) (notFace_of_selects (args := #[]) (mvT hZ (wt hw 52 rfl))) (mvT hZ (wt hw 52 rfl)) (mvT hZ (wt hw 51 rfl)) (by decide) (backOfSH (s := s) (vm0 := vm1) (W := 0) (own_roomH (R' := (⟨8, 2, 40, 189⟩ : Jvm.Room)) (rmNt l Z _ hw [] mk tx kt (32 : Int32) pre (.ref kx) (oN i0) te (0 : Int32) u1 u2 u3 u4 kS kE kI cs fm at1 none pre.length 0 h0 n0 Z0 fa2 fa3 fa1 ga0 na0 fa0.1 fa0.2.1 fa0.2.2.1 hst.2.2.1 hst.2.2.2 fa0.2.2.2.1 hst.1 fa0.2.2.2.2.1 hst.2.1 hal (by decide) hnt2) (Nat.le_refl _) (Nat.le_refl _) (Nat.le_refl _) (Nat.le_refl _)) hZ (wt hw 53 rfl) (wt hw 36 rfl) (by decide) (by decide) hEL hR0.1) q58a q58c (g := (mkF m 526 (la30 p0 p1 p2 p3 tx z5 z6 z7 (oN i0) tk nq tc cl tb z14 tm (oN ne) (oN ca) (oN pre.length) mk 1 kx (oN i0) te sn) [(.ref mk)])) rfl (by rw [hml]; rfl) (Steps.refl _) (argsL := []) (rest := []) (lenOf pd_4 rfl) rfl (by show 2 * 0 + _ ≤ _; exact nE rfl) (B at_526) (fun _ _ => ⟨rfl, e0, (by decide : 43 + 2 ≤ _), (by decide : 860 + 40 ≤ _)⟩)
  dsimp only [Pt.U, Pt.locs, Pt.cells, Pt.slots] at X57 l57 y57 z57 st57 hQ57 Sq57 gr57 CH57
  subst l57 y57 z57
  have hZ57 : Z.Warmed39 (s.setVm T57.vm).vm := State.Warmed39.trans (t := s.setVm vm1) hZ Sq57.1
  have hown57 : (s.setVm T57.vm).vm.findClass cC = some m.cls := by rw [show (s.setVm T57.vm).vm = T57.vm from rfl, Sq57.1.alike.findClass]; exact hown
  have S57 : s.Since T57.vm T57.heap.size := State.Since.trans (s := s) (vm₁ := vm1) hS1 Sq57 (nT hk1 (by rw [← e0]; exact gr57))
  obtain ⟨rfl, Nq57, Kq57, M57⟩ := own_q0 hQ57
  have N59 := Fr.app N0 Nq57
  have hA60 := CH57
  have hR61 := hR0.trans hA60
  have f62 := (fa0.keep Kq57 (own_snS fa2 own_sn0))
  have f63 := (fa1.keep Kq57 (ninS na0 nin0))
  have f64 := (fa2.keep Kq57)
  have Z65 := nT Z0 Kq57.1
  have sn66 := fa4.keep1 Kq57 fa2 (wt hw 35 rfl) (by decide)
  refine OFin.to st57 ?_
  obtain ⟨_, T67, Lc67, X67, hQ67, st67⟩ := own_cV X57 hx hw hZ57 hown57 91 92 94 93 36 95 rfl rfl rfl rfl rfl rfl (by decide) f64 (rmKdN l Z _ hw [] mk T57.heap n0 Z65 M57.g_kind) (by decide) (by decide) (g := (mkF m 533 (la31 p0 p1 p2 p3 tx z5 z6 z7 (oN i0) tk nq tc cl tb z14 tm (oN ne) (oN ca) (oN pre.length) mk 1 kx (oN i0) te sn 0) [(.ref mk)])) rfl hml rfl (argsL := []) (rest := []) pd_30 rfl rfl rfl (W := 0) (nE rfl) (B at_533) rfl (rfl : T57.heap = T57.heap) (by decide) (by decide)
  obtain ⟨rfl, Nq67, hs67⟩ := hQ67
  have N68 := Fr.app N59 Nq67
  refine OFin.of (fun t ht => sW X57 hx (B at_529) rfl (l' := (la31 p0 p1 p2 p3 tx z5 z6 z7 (oN i0) tk nq tc cl tb z14 tm (oN ne) (oN ca) (oN pre.length) mk 1 kx (oN i0) te sn 0)) rfl (aW X57 hx (B at_531) rfl rfl (st67.trans ht))) ?_
  obtain ⟨_, T69, Lc69, X69, hQ69, st69⟩ := own_cV X67 hx hw hZ57 hown57 96 97 99 98 36 100 rfl rfl rfl rfl rfl rfl (by decide) f64 (rmTs l Z _ hw [] mk (oN pre.length) T57.heap n0 Z65 M57.g_tagStart) (by decide) (by decide) (g := (mkF m 540 (la34 p0 p1 p2 p3 tx z5 z6 z7 (oN i0) tk nq tc cl tb z14 tm (oN ne) (oN ca) (oN pre.length) mk 1 kx (oN i0) te sn 0) [(.ref mk)])) rfl hml rfl (argsL := []) (rest := []) pd_6 rfl rfl rfl (W := 0) (nE rfl) (B at_540) rfl hs67 (by decide) (by decide)
  obtain ⟨rfl, Nq69, hs69⟩ := hQ69
  have N70 := Fr.app N68 Nq69
  refine OFin.of (fun t ht => XS.astore X67.here hx rfl (B at_536) rfl rfl (l' := (la34 p0 p1 p2 p3 tx z5 z6 z7 (oN i0) tk nq tc cl tb z14 tm (oN ne) (oN ca) (oN pre.length) mk 1 kx (oN i0) te sn 0)) rfl (aW X67 hx (B at_538) rfl rfl (st69.trans ht))) ?_
  refine OFin.of (S' := T69.setTop (mkF m 545 (la35 p0 p1 p2 p3 tx z5 z6 z7 (oN i0) tk nq tc cl tb z14 tm (oN ne) (oN ca) (oN pre.length) mk 1 kx (oN i0) te sn 0 (oN pre.length)) [])) (fun t ht => sW X69 hx (B at_543) rfl (l' := (la35 p0 p1 p2 p3 tx z5 z6 z7 (oN i0) tk nq tc cl tb z14 tm (oN ne) (oN ca) (oN pre.length) mk 1 kx (oN i0) te sn 0 (oN pre.length))) rfl ht) ?_
  exact seg545 (s := s) (vm1 := T57.vm) ⟨hw, hx, B, hlk, hret, hml, hown57, hZ57⟩ (X69.more (by decide) (by decide)) hs69 Z65 N70 f62 sn66 hst hKx hwe (Or.inr ⟨hmo, rfl, rfl, rfl⟩) hN hn htb hR61.1  S57 (Nat.le_refl _) hQ
theorem seg445 {vm1 : Vm} {Z : State} {a0 : Array Value} (H : OwnCtx p s m meth c vm1 Z a0) {Q : Option Value → Heap → List Loc → Prop} {n0 : Nat} {kS kE kI : Addr} {cs : Int32} {fm : Value} {u8 : Addr} {p0 p1 p2 p3 : Int32} {tx : Addr} {z6 : Slot} {tk nq tc cl tb : Int32} {z14 : Slot} {tm : Int32} {kt : ClassId} {pre : List Int32} {fr k0 : Nat} {P K nm : List Int32} {ne ca : Nat} {T0 : State} {locs : List Loc} {h0 : Heap} (X0 : Stand p l e room_1 (s.setVm vm1) m args below meth c T0 locs 3 100) (e0 : T0.heap = h0) (Z0 : n0 ≤ h0.size) (N0 : Fr n0 locs) (fa0 : Stm Z h0 kS kE kI cs fm u8) (fa1 : Txt Z h0 tx kt (32 : Int32) pre) (ga0 : n0 ≤ tx) (hst : OwnSt kS kE kI cs fm) (hl : pre.length ≤ 25) (hsk : OwnSk fr P k0) (hK : OwnK tk K) (hn : nq = 0 ∨ nq = 1 ∨ nq = 2 ∨ nq = 3) (hcl : Own01 cl) (htb : Own01 tb) (hN : OwnNmL p1 nq nm) (hF : OwnFt tk tm tc cl tb pre P K (nm ++ own_exl tk tm cl tb) ne ca fr k0) (hC0 : CHv Z consts_1 vm1 h0) (sf_tx : Safe Z consts_1 vm1 h0 tx) {k1 : Nat} (hS1 : s.Since vm1 k1) (hk1 : k1 ≤ h0.size) (hQ : OwnEnd n0 Q) :
  OFin p e below (KPostW s Q room_1.cells room_1.slots) (T0.setTop (mkF m 445 (la36 p0 p1 p2 p3 tx (oN fr) z6 (oN pre.length) (oN P.length) tk nq tc cl tb z14 tm (oN ne) (oN ca)) [])) := by
 obtain ⟨hw, hx, B, hlk, hret, hml, hown, hZ⟩ := H
 have hR0 : CHr Z consts_1 vm1 h0 vm1 h0 := CHr.refl hC0
 have hEL := own_EW hw
 refine OFin.of (S' := T0.setTop (mkF m 447 (la36 p0 p1 p2 p3 tx (oN fr) z6 (oN pre.length) (oN P.length) tk nq tc cl tb z14 tm (oN ne) (oN ca)) [(.int (oN pre.length))])) (fun t ht => iW X0 hx (B at_445) rfl ht) ?_
 obtain ⟨at1, te, hnt, hKc, hal, hnl, hnm, hwe, hsec⟩ := hF
 obtain ⟨T71, h71, X71, e71, W71, G71, st71⟩ := own_stT X0 hx hZ e0 fa1 (j := (oN pre.length)) rfl (own_l32 hl (by decide)) (g := (mkF m 455 (la37 p0 p1 p2 p3 tx (oN fr) z6 (oN pre.length) (oN P.length) tk nq tc cl tb z14 tm (oN ne) (oN ca) (oN pre.length)) [(.int 63), (.int (oN pre.length)), (.ref tx)])) rfl rfl (B at_455)
 have hA72 := CHr.wr W71 sf_tx hR0.1
 have sf73 := hA72.safe fa1.lt sf_tx
 have hR74 := hR0.trans hA72
 have f75 := (fa0.wr W71)
 have Z76 := nT Z0 (Keep.of_wr W71).1
 have N77 := Fr.snoc X71 N0 ga0
 have kk78 : k1 ≤ h71.size := (nT hk1 (Keep.of_wr W71).1)
 have f79 : Txt Z h71 tx kt (32 : Int32) (pre ++ [(63 : Int32)]) := G71
 refine OFin.of (fun t ht => sW X0 hx (B at_447) rfl (l' := (la37 p0 p1 p2 p3 tx (oN fr) z6 (oN pre.length) (oN P.length) tk nq tc cl tb z14 tm (oN ne) (oN ca) (oN pre.length))) rfl (aW X0 hx (B at_449) rfl rfl (iW X0 hx (B at_451) rfl (bP X0 hx (B at_453) (st71 t ht))))) ?_
 obtain ⟨T80, h80, X80, e80, W80, G80, st80⟩ := own_stT X71 hx hZ e71 f79 (j := ((oN pre.length) + (1 : Int32))) (own_pos _ _) (own_l32 (own_la hl) (by decide)) (g := (mkF m 464 (la37 p0 p1 p2 p3 tx (oN fr) z6 (oN pre.length) (oN P.length) tk nq tc cl tb z14 tm (oN ne) (oN ca) (oN pre.length)) [(.int 62), (.int ((oN pre.length) + (1 : Int32))), (.ref tx)])) rfl rfl (B at_464)
 have hA81 := CHr.wr W80 sf73 hR74.1
 have sf82 := hA81.safe f79.lt sf73
 have hR83 := hR74.trans hA81
 have f84 := (f75.wr W80)
 have Z85 := nT Z76 (Keep.of_wr W80).1
 have N86 := Fr.snoc X80 N77 ga0
 have kk87 : k1 ≤ h80.size := (nT kk78 (Keep.of_wr W80).1)
 have f88 : Txt Z h80 tx kt (32 : Int32) ((pre ++ [(63 : Int32)]) ++ [(62 : Int32)]) := G80
 refine OFin.of (fun t ht => aW X71 hx (B at_456) rfl rfl (iW X71 hx (B at_458) rfl (iC X71 hx (B at_460) (XS.iadd X71.here hx rfl (B at_461) rfl (bP X71 hx (B at_462) (st80 t ht)))))) ?_
 obtain ⟨T89, h89, X89, e89, W89, G89, st89⟩ := own_stT X80 hx hZ e80 f88 (j := ((oN pre.length) + (2 : Int32))) (own_pos2 _ _ _) (own_l32 (own_la (own_la hl)) (by decide)) (g := (mkF m 473 (la37 p0 p1 p2 p3 tx (oN fr) z6 (oN pre.length) (oN P.length) tk nq tc cl tb z14 tm (oN ne) (oN ca) (oN pre.length)) [(.int 60), (.int ((oN pre.length) + (2 : Int32))), (.ref tx)])) rfl rfl (B at_473)
 have hA90 := CHr.wr W89 sf82 hR83.1
 have sf91 := hA90.safe f88.lt sf82
 have hR92 := hR83.trans hA90
 have f93 := (f84.wr W89)
 have Z94 := nT Z85 (Keep.of_wr W89).1
 have N95 := Fr.snoc X89 N86 ga0
 have kk96 : k1 ≤ h89.size := (nT kk87 (Keep.of_wr W89).1)
 have f97 : Txt Z h89 tx kt (32 : Int32) (((pre ++ [(63 : Int32)]) ++ [(62 : Int32)]) ++ [(60 : Int32)]) := G89
 refine OFin.of (fun t ht => aW X80 hx (B at_465) rfl rfl (iW X80 hx (B at_467) rfl (iC X80 hx (B at_469) (XS.iadd X80.here hx rfl (B at_470) rfl (bP X80 hx (B at_471) (st89 t ht)))))) ?_
 have f98 := f97.front.front.front
 obtain ⟨T99, h99, X99, e99, E99, A99, D99, -, st99⟩ := newO X89 hx hZ hown (wt hw 34 rfl) (wt hw 35 rfl) (wt hw 36 rfl) e89 (g := (mkF m 474 (la37 p0 p1 p2 p3 tx (oN fr) z6 (oN pre.length) (oN P.length) tk nq tc cl tb z14 tm (oN ne) (oN ca) (oN pre.length)) [])) rfl (B at_474) (by decide) (by decide)
 obtain ⟨b99, gq99⟩ : ∃ z, z = h89.size := ⟨_, rfl⟩
 rw [← gq99] at A99 D99 st99
 have g100 : n0 ≤ b99 := (nT Z94 (nE gq99.symm))
 have ne101 : tx ≠ b99 := (Nat.ne_of_lt (Nat.lt_of_lt_of_le f98.lt (nE gq99.symm)))
 have hA102 := CHr.ext E99 hR92.1
 have hR103 := hR92.trans hA102
 have f104 := f93.ext E99
 have f105 := f98.ext E99
 have Z106 := nT Z94 E99.1
 have kk107 : k1 ≤ h99.size := (nT kk96 E99.1)
 have f108 : Fld Z h99 b99 cA "text" "[B" .null := D99 (Or.inr (wt hw 44 rfl)) (ty := (.array .byte)) (by decide)
 have f109 : Fld Z h99 b99 cA "at" "I" (.int 0) := D99 (Or.inl (wt hw 46 rfl)) (ty := .int) (by decide)
 have f110 : Fld Z h99 b99 cA "end" "I" (.int 0) := D99 (Or.inr (wt hw 48 rfl)) (ty := .int) (by decide)
 have f111 : Fld Z h99 b99 cA "tagStart" "I" (.int 0) := D99 (Or.inl (wt hw 63 rfl)) (ty := .int) (by decide)
 have f112 : Fld Z h99 b99 cA "emptyElement" "Z" (.int 0) := D99 (Or.inl (wt hw 65 rfl)) (ty := .boolean) (by decide)
 have f113 : Fld Z h99 b99 cA "kind" cF .null := D99 (Or.inl (wt hw 70 rfl)) (ty := (.object cH)) (by decide)
 have f114 : Fld Z h99 b99 cA "nameStart" "I" (.int 0) := D99 (Or.inl (wt hw 80 rfl)) (ty := .int) (by decide)
 have f115 : Fld Z h99 b99 cA "nameEnd" "I" (.int 0) := D99 (Or.inl (wt hw 82 rfl)) (ty := .int) (by decide)
 have f116 : Fld Z h99 b99 cA "nameHash" "I" (.int 0) := D99 (Or.inl (wt hw 84 rfl)) (ty := .int) (by decide)
 have f117 : Fld Z h99 b99 cA "tagEnd" "I" (.int 0) := D99 (Or.inl (wt hw 86 rfl)) (ty := .int) (by decide)
 have f118 : Fld Z h99 b99 cA "attributesLeft" "Z" (.int 0) := D99 (Or.inl (wt hw 90 rfl)) (ty := .boolean) (by decide)
 have M119 : Mk Z h99 b99 .null (.int 0) (.int 0) .null (.int 0) (.int 0) (.int 0) (.int 0) (.int 0) (.int 0) (.int 0) := ⟨f108, f109, f110, f113, f111, f117, f112, f114, f115, f116, f118⟩
 refine OFin.of st99 ?_
 obtain ⟨_, T120, Lc120, X120, hQ120, st120⟩ := own_cN X99 hx hw hZ hown 37 38 36 39 rfl rfl rfl rfl (by decide) rfl (rmIni l Z _ hw [] b99 tx (oN fr) (oN pre.length) h99 n0 Z106 A99 M119 g100) (by decide) (by decide) (g := (mkF m 484 (la37 p0 p1 p2 p3 tx (oN fr) z6 (oN pre.length) (oN P.length) tk nq tc cl tb z14 tm (oN ne) (oN ca) (oN pre.length)) [(.int (oN pre.length)), (.int (oN fr)), (.ref tx), (.ref b99), (.ref b99)])) rfl hml rfl (argsL := [(.ref tx), (.int (oN fr)), (.int (oN pre.length))]) (rest := [(.ref b99)]) pd_20 rfl rfl rfl (W := 1) (nE rfl) (B at_484) rfl e99 (by decide) (by decide)
 obtain ⟨rfl, Nq120, Kq120, M120⟩ := hQ120
 have N121 := Fr.app N95 Nq120
 have hA122 := CHr.keep Kq120 (sfS (Safe.exa hZ.alike A99 (by decide) (by decide)) sf0) hR103.1
 have hR123 := hR103.trans hA122
 have f124 := (f104.keep Kq120 (own_snS A99 own_sn0))
 have f125 := (f105.keep Kq120 (ninS ne101 nin0))
 have f126 := (A99.keep Kq120)
 have Z127 := nT Z106 Kq120.1
 have kk128 : k1 ≤ T120.heap.size := (nT kk107 Kq120.1)
 refine OFin.of (fun t ht => XS.dup X99.here hx rfl (B at_477) rfl rfl (aW X99 hx (B at_478) rfl rfl (iW X99 hx (B at_480) rfl (iW X99 hx (B at_482) rfl (st120.trans ht))))) ?_
 obtain ⟨cq130, kq130, q130a, q130b, q130c⟩ := isOf hZ (rfl : T120.heap = T120.heap) f126
 obtain ⟨_, _, ⟨T129, L129, k129, n129⟩, -, X129, Sq129, gr129, ⟨Lc129, hQ129, l129, y129, z129, CH129⟩, st129⟩ := X120.virtualBackS hx (y := mn18) (z := mn18) hown (mvT hZ (wt hw 49 rfl)) (mvT hZ (wt hw 50 rfl)) (notFace_of_selects (args := #[]) (mvT hZ (wt hw 52 rfl))) (mvT hZ (wt hw 52 rfl)) (mvT hZ (wt hw 51 rfl)) (by decide) (backOfSH (s := s) (vm0 := vm1) (W := 0) (own_roomH (R' := (⟨8, 34, 680, 189⟩ : Jvm.Room)) (rmNt l Z _ hw [] b99 tx kt (32 : Int32) pre .null (0 : Int32) (0 : Int32) (0 : Int32) (0 : Int32) (0 : Int32) (0 : Int32) (0 : Int32) kS kE kI cs fm fr (some P.length) pre.length k0 T120.heap n0 Z127 f126 M120 f125 g100 ne101 f124.1 f124.2.1 f124.2.2.1 hst.2.2.1 hst.2.2.2 f124.2.2.2.1 hst.1 f124.2.2.2.2.1 hst.2.1 (nT hsk.1 (nT (nT (Nat.le_add_right _ _) (Nat.le_add_right _ _)) hnl)) (by decide) hnt) (Nat.le_refl _) (Nat.le_refl _) (Nat.add_le_add_right hsk.2.2.1 2) (own_20 hsk.2.2.1)) hZ (wt hw 53 rfl) (wt hw 36 rfl) (by decide) (by decide) hEL hR123.1) q130a q130c (g := (mkF m 491 (la38 p0 p1 p2 p3 tx (oN fr) z6 (oN pre.length) (oN P.length) tk nq tc cl tb z14 tm (oN ne) (oN ca) (oN pre.length) b99) [(.ref b99)])) rfl (by rw [hml]; rfl) (Steps.refl _) (argsL := []) (rest := []) (lenOf pd_4 rfl) rfl (by show 2 * 0 + _ ≤ _; exact nE rfl) (B at_491) (fun _ _ => ⟨rfl, (rfl : T120.heap = T120.heap), (by decide : 4 + 34 ≤ _), (by decide : 113 + 680 ≤ _)⟩)
 dsimp only [Pt.U, Pt.locs, Pt.cells, Pt.slots] at X129 l129 y129 z129 st129 hQ129 Sq129 gr129 CH129
 subst l129 y129 z129
 have hZ129 : Z.Warmed39 (s.setVm T129.vm).vm := State.Warmed39.trans (t := s.setVm vm1) hZ Sq129.1
 have hown129 : (s.setVm T129.vm).vm.findClass cC = some m.cls := by rw [show (s.setVm T129.vm).vm = T129.vm from rfl, Sq129.1.alike.findClass]; exact hown
 have S129 : s.Since T129.vm T129.heap.size := hS1.trans Sq129 (nT kk128 gr129)
 obtain ⟨kx129, hv129, al129, hKx129, rfl, Nq129, Kq129, M129⟩ := own_q1 hQ129 hKc
 have N131 := Fr.app N121 Nq129
 have hA132 := CH129
 have hR133 := hR123.trans hA132
 have f134 := (f124.keep Kq129 (own_snS f126 own_sn0))
 have f135 := (f125.keep Kq129 (ninS ne101 nin0))
 have f136 := (f126.keep Kq129)
 have Z137 := nT Z127 Kq129.1
 refine OFin.of (fun t ht => XS.astore X120.here hx rfl (B at_487) rfl rfl (l' := (la38 p0 p1 p2 p3 tx (oN fr) z6 (oN pre.length) (oN P.length) tk nq tc cl tb z14 tm (oN ne) (oN ca) (oN pre.length) b99)) rfl (aW X120 hx (B at_489) rfl rfl (st129.trans ht))) ?_
 obtain ⟨_, T138, Lc138, X138, hQ138, st138⟩ := own_cV X129 hx hw hZ129 hown129 91 92 94 93 36 95 rfl rfl rfl rfl rfl rfl (by decide) f136 (rmKdR l Z _ hw [] b99 kx129 T129.heap n0 Z137 M129.g_kind) (by decide) (by decide) (g := (mkF m 498 (la39 p0 p1 p2 p3 tx (oN fr) z6 (oN pre.length) (oN P.length) tk nq tc cl tb z14 tm (oN ne) (oN ca) (oN pre.length) b99 1) [(.ref b99)])) rfl hml rfl (argsL := []) (rest := []) pd_30 rfl rfl rfl (W := 0) (nE rfl) (B at_498) rfl (rfl : T129.heap = T129.heap) (by decide) (by decide)
 obtain ⟨rfl, Nq138, hs138⟩ := hQ138
 have N139 := Fr.app N131 Nq138
 refine OFin.of (fun t ht => sW X129 hx (B at_494) rfl (l' := (la39 p0 p1 p2 p3 tx (oN fr) z6 (oN pre.length) (oN P.length) tk nq tc cl tb z14 tm (oN ne) (oN ca) (oN pre.length) b99 1)) rfl (aW X129 hx (B at_496) rfl rfl (st138.trans ht))) ?_
 obtain ⟨_, T140, Lc140, X140, hQ140, st140⟩ := own_cV X138 hx hw hZ129 hown129 96 97 99 98 36 100 rfl rfl rfl rfl rfl rfl (by decide) f136 (rmTs l Z _ hw [] b99 (oN P.length) T129.heap n0 Z137 M129.g_tagStart) (by decide) (by decide) (g := (mkF m 505 (la40 p0 p1 p2 p3 tx (oN fr) z6 (oN pre.length) (oN P.length) tk nq tc cl tb z14 tm (oN ne) (oN ca) (oN pre.length) b99 1 kx129) [(.ref b99)])) rfl hml rfl (argsL := []) (rest := []) pd_6 rfl rfl rfl (W := 0) (nE rfl) (B at_505) rfl hs138 (by decide) (by decide)
 obtain ⟨rfl, Nq140, hs140⟩ := hQ140
 have N141 := Fr.app N139 Nq140
 refine OFin.of (fun t ht => XS.astore X138.here hx rfl (B at_501) rfl rfl (l' := (la40 p0 p1 p2 p3 tx (oN fr) z6 (oN pre.length) (oN P.length) tk nq tc cl tb z14 tm (oN ne) (oN ca) (oN pre.length) b99 1 kx129)) rfl (aW X138 hx (B at_503) rfl rfl (st140.trans ht))) ?_
 obtain ⟨_, T142, Lc142, X142, hQ142, st142⟩ := own_cV X140 hx hw hZ129 hown129 101 102 104 103 36 105 rfl rfl rfl rfl rfl rfl (by decide) f136 (rmTe l Z _ hw [] b99 te T129.heap n0 Z137 M129.g_tagEnd) (by decide) (by decide) (g := (mkF m 512 (la41 p0 p1 p2 p3 tx (oN fr) z6 (oN pre.length) (oN P.length) tk nq tc cl tb z14 tm (oN ne) (oN ca) (oN pre.length) b99 1 kx129 (oN P.length)) [(.ref b99)])) rfl hml rfl (argsL := []) (rest := []) pd_6 rfl rfl rfl (W := 0) (nE rfl) (B at_512) rfl hs140 (by decide) (by decide)
 obtain ⟨rfl, Nq142, hs142⟩ := hQ142
 have N143 := Fr.app N141 Nq142
 refine OFin.of (fun t ht => sW X140 hx (B at_508) rfl (l' := (la41 p0 p1 p2 p3 tx (oN fr) z6 (oN pre.length) (oN P.length) tk nq tc cl tb z14 tm (oN ne) (oN ca) (oN pre.length) b99 1 kx129 (oN P.length))) rfl (aW X140 hx (B at_510) rfl rfl (st142.trans ht))) ?_
 refine OFin.of (S' := T142.setTop (mkF m 519 (la42 p0 p1 p2 p3 tx (oN fr) z6 (oN pre.length) (oN P.length) tk nq tc cl tb z14 tm (oN ne) (oN ca) (oN pre.length) b99 1 kx129 (oN P.length) te) [(.ref b99)])) (fun t ht => sW X142 hx (B at_515) rfl (l' := (la42 p0 p1 p2 p3 tx (oN fr) z6 (oN pre.length) (oN P.length) tk nq tc cl tb z14 tm (oN ne) (oN ca) (oN pre.length) b99 1 kx129 (oN P.length) te)) rfl (aW X142 hx (B at_517) rfl rfl ht)) ?_
 rcases Nat.eq_zero_or_pos (nm ++ own_exl tk tm cl tb).length with h0_ | h1_
 ·rw [h0_] at M129
  obtain ⟨cq145, kq145, q145a, q145b, q145c⟩ := isOf hZ129 hs142 f136
  obtain ⟨_, _, ⟨T144, L144, k144, n144⟩, -, X144, Sq144, gr144, ⟨Lc144, hQ144, l144, y144, z144, CH144⟩, st144⟩ := X142.virtualBackS hx (y := mn46) (z := mn46) hown129 (mvT hZ129 (wt hw 106 rfl)) (mvT hZ129 (wt hw 107 rfl)) (notFace_of_selects (args := #[]) (mvT hZ129 (wt hw 109 rfl))) (mvT hZ129 (wt hw 109 rfl)) (mvT hZ129 (wt hw 108 rfl)) (by decide) (backOfSH (s := s) (vm0 := T129.vm) (W := 0) (rmNm0 l Z _ hw [] b99 tx kt (32 : Int32) pre (P.length + K.length) u8 fm T129.heap n0 Z137 f136 M129.g_text M129.g_nameStart M129.g_nameEnd f135 f134.2.2.2.2.2.2.2.2.2.2 f134.2.2.2.2.2.2.1 f134.2.2.2.2.1 hst.2.1 (nT (Nat.le_add_right _ _) hnl)) hZ129 (wt hw 110 rfl) (wt hw 36 rfl) (by decide) (by decide) hEL hR133.1) q145a q145c (g := (mkF m 519 (la42 p0 p1 p2 p3 tx (oN fr) z6 (oN pre.length) (oN P.length) tk nq tc cl tb z14 tm (oN ne) (oN ca) (oN pre.length) b99 1 kx129 (oN P.length) te) [(.ref b99)])) rfl (by rw [hml]; rfl) (Steps.refl _) (argsL := []) (rest := []) (lenOf pd_31 rfl) rfl (by show 2 * 0 + _ ≤ _; exact nE rfl) (B at_519) (fun _ _ => ⟨rfl, hs142, (by decide : 38 + 5 ≤ _), (by decide : 793 + 12 ≤ _)⟩)
  dsimp only [Pt.U, Pt.locs, Pt.cells, Pt.slots] at X144 l144 y144 z144 st144 hQ144 Sq144 gr144 CH144
  subst l144 y144 z144
  have hZ144 : Z.Warmed39 (s.setVm T144.vm).vm := State.Warmed39.trans (t := s.setVm T129.vm) hZ129 Sq144.1
  have hown144 : (s.setVm T144.vm).vm.findClass cC = some m.cls := by rw [show (s.setVm T144.vm).vm = T144.vm from rfl, Sq144.1.alike.findClass]; exact hown129
  have S144 : s.Since T144.vm T144.heap.size := State.Since.trans (s := s) (vm₁ := T129.vm) S129 Sq144 (nT (Nat.le_refl _) (by rw [← hs142]; exact gr144))
  obtain ⟨rfl, Nq144, Kq144, Sn144⟩ := hQ144
  obtain ⟨b144, gq144⟩ : ∃ z, z = T129.heap.size := ⟨_, rfl⟩
  rw [← gq144] at Sn144 st144
  have N146 := Fr.app N143 Nq144
  have hA147 := CH144
  have hR148 := hR133.trans hA147
  have f149 := (f134.keep Kq144 own_sn0)
  have f150 := (f135.keep Kq144 nin0)
  have f151 := (f136.keep Kq144)
  have f152 := (M129.keep Kq144 nin0)
  have Z153 := nT Z137 Kq144.1
  replace Sn144 := own_snz h0_ Sn144
  refine OFin.to st144 ?_
  refine OFin.of (S' := T144.setTop (mkF m 524 (la43 p0 p1 p2 p3 tx (oN fr) z6 (oN pre.length) (oN P.length) tk nq tc cl tb z14 tm (oN ne) (oN ca) (oN pre.length) b99 1 kx129 (oN P.length) te b144) [])) (fun t ht => XS.astore X144.here hx rfl (B at_522) rfl rfl (l' := (la43 p0 p1 p2 p3 tx (oN fr) z6 (oN pre.length) (oN P.length) tk nq tc cl tb z14 tm (oN ne) (oN ca) (oN pre.length) b99 1 kx129 (oN P.length) te b144)) rfl ht) ?_
  exact seg524 (s := s) (vm1 := T144.vm) ⟨hw, hx, B, hlk, hret, hml, hown144, hZ144⟩ (X144.more (by decide) (by decide)) (rfl : T144.heap = T144.heap) Z153 N146 f149 f150 f151 f152 Sn144 ne101 g100 hst hKx129 hal hwe hsec hN hn htb hR148.1  S144 (Nat.le_refl _) hQ
 ·obtain ⟨_, T154, Lc154, X154, hQ154, st154⟩ := own_cV X142 hx hw hZ129 hown129 106 107 109 108 36 110 rfl rfl rfl rfl rfl rfl (by decide) f136 (rmNmn l Z _ hw [] b99 tx kt (32 : Int32) pre (P.length + K.length) (nm ++ own_exl tk tm cl tb).length u8 fm cs T129.heap n0 Z137 f136 M129.g_text M129.g_nameStart M129.g_nameEnd f135 f134.2.2.2.2.2.2.2.2.2.2 f134.2.2.2.2.2.2.1 f134.2.2.2.2.1 hst.2.1 f134.2.2.2.1 hst.1 f134.2.2.2.2.2.1 f134.2.2.2.2.2.2.2.1 f134.2.2.2.2.2.2.2.2.1 f134.2.2.2.2.2.2.2.2.2.1 hnl (own_kpos hK) (own_nxf hN).1 h1_ (by rw [hnm]; exact (own_nxf hN).2)) (by decide) (by decide) (g := (mkF m 519 (la42 p0 p1 p2 p3 tx (oN fr) z6 (oN pre.length) (oN P.length) tk nq tc cl tb z14 tm (oN ne) (oN ca) (oN pre.length) b99 1 kx129 (oN P.length) te) [(.ref b99)])) rfl hml rfl (argsL := []) (rest := []) pd_31 rfl rfl rfl (W := 0) (nE rfl) (B at_519) rfl hs142 (by decide) (by decide)
  obtain ⟨rfl, Nq154, Kq154, Sn154⟩ := hQ154
  obtain ⟨b154, gq154⟩ : ∃ z, z = T129.heap.size := ⟨_, rfl⟩
  rw [← gq154] at Sn154 st154
  have N155 := Fr.app N143 Nq154
  have hA156 := CHr.keep Kq154 sf0 hR133.1
  have hR157 := hR133.trans hA156
  have f158 := (f134.keep Kq154 own_sn0)
  have f159 := (f135.keep Kq154 nin0)
  have f160 := (f136.keep Kq154)
  have f161 := (M129.keep Kq154 nin0)
  have Z162 := nT Z137 Kq154.1
  have kk163 : T129.heap.size ≤ T154.heap.size := (nT (Nat.le_refl _) Kq154.1)
  rw [hnm] at Sn154
  refine OFin.to st154 ?_
  refine OFin.of (S' := T154.setTop (mkF m 524 (la43 p0 p1 p2 p3 tx (oN fr) z6 (oN pre.length) (oN P.length) tk nq tc cl tb z14 tm (oN ne) (oN ca) (oN pre.length) b99 1 kx129 (oN P.length) te b154) [])) (fun t ht => XS.astore X154.here hx rfl (B at_522) rfl rfl (l' := (la43 p0 p1 p2 p3 tx (oN fr) z6 (oN pre.length) (oN P.length) tk nq tc cl tb z14 tm (oN ne) (oN ca) (oN pre.length) b99 1 kx129 (oN P.length) te b154)) rfl ht) ?_
  exact seg524 (s := s) (vm1 := T129.vm) ⟨hw, hx, B, hlk, hret, hml, hown129, hZ129⟩ (X154.more (by decide) (by decide)) (rfl : T154.heap = T154.heap) Z162 N155 f158 f159 f160 f161 Sn154 ne101 g100 hst hKx129 hal hwe hsec hN hn htb hR157.1  S129 kk163 hQ
theorem seg427 {vm1 : Vm} {Z : State} {a0 : Array Value} (H : OwnCtx p s m meth c vm1 Z a0) {Q : Option Value → Heap → List Loc → Prop} {n0 : Nat} {kS kE kI : Addr} {cs : Int32} {fm : Value} {u8 : Addr} {p0 p1 p2 p3 : Int32} {tx : Addr} {z6 : Slot} {tk nq tc cl tb : Int32} {z14 : Slot} {tm : Int32} {kt : ClassId} {pre : List Int32} {fr k0 : Nat} {P K nm ts : List Int32} {ne ca : Nat} {ce : List Int32} {T0 : State} {locs : List Loc} {h0 : Heap} (X0 : Stand p l e room_1 (s.setVm vm1) m args below meth c T0 locs 3 100) (e0 : T0.heap = h0) (Z0 : n0 ≤ h0.size) (N0 : Fr n0 locs) (fa0 : Stm Z h0 kS kE kI cs fm u8) (fa1 : Txt Z h0 tx kt (32 : Int32) pre) (ga0 : n0 ≤ tx) (hst : OwnSt kS kE kI cs fm) (hl : pre.length ≤ 24) (hsk : OwnSk fr P k0) (hK : OwnK tk K) (hn : nq = 0 ∨ nq = 1 ∨ nq = 2 ∨ nq = 3) (ht8 : OwnT8 tc) (hcl : Own01 cl) (htb : Own01 tb) (hx5 : tk = 1 → nq = 0 → ¬ tc = 5) (hh : pre = P ++ (K ++ nm ++ ts ++ ce)) (hN : OwnNmL p1 nq nm) (hT : OwnTm tm tc ts) (hne : ne = P.length + K.length + nm.length) (hC : OwnCl tk cl ce) (hca : ca = ne + ts.length) (hC0 : CHv Z consts_1 vm1 h0) (sf_tx : Safe Z consts_1 vm1 h0 tx) {k1 : Nat} (hS1 : s.Since vm1 k1) (hk1 : k1 ≤ h0.size) (hQ : OwnEnd n0 Q) :
  OFin p e below (KPostW s Q room_1.cells room_1.slots) (T0.setTop (mkF m 427 (la36 p0 p1 p2 p3 tx (oN fr) z6 (oN pre.length) (oN P.length) tk nq tc cl tb z14 tm (oN ne) (oN ca)) [])) := by
 obtain ⟨hw, hx, B, hlk, hret, hml, hown, hZ⟩ := H
 have hR0 : CHr Z consts_1 vm1 h0 vm1 h0 := CHr.refl hC0
 have hEL := own_EW hw
 refine OFin.of (S' := T0.setTop (mkF m 429 (la36 p0 p1 p2 p3 tx (oN fr) z6 (oN pre.length) (oN P.length) tk nq tc cl tb z14 tm (oN ne) (oN ca)) [(.int tb)])) (fun t ht => iW X0 hx (B at_427) rfl ht) ?_
 by_cases hc164 : tb = 0
 ·refine OFin.of (S' := T0.setTop (mkF m 445 (la36 p0 p1 p2 p3 tx (oN fr) z6 (oN pre.length) (oN P.length) tk nq tc cl tb z14 tm (oN ne) (oN ca)) [])) (fun t ht => fY X0 hx 429 445 rfl (B at_429) rfl ((if0 _ _).trans (teq hc164).1) (by decide) ht) ?_
  exact seg445 (s := s) (vm1 := vm1) ⟨hw, hx, B, hlk, hret, hml, hown, hZ⟩ (X0.more (by decide) (by decide)) e0 Z0 N0 fa0 fa1 ga0 hst (nT hl (by decide)) hsk hK hn hcl htb hN (own_ft hsk hK hN ht8 hT hC (Or.inl ⟨hc164, rfl⟩) hx5 (own_ap0 hh) hne hca) hR0.1 sf_tx  hS1 hk1 hQ
 ·obtain ⟨T165, h165, X165, e165, W165, G165, st165⟩ := own_stT X0 hx hZ e0 fa1 (j := (oN pre.length)) rfl (own_l32 hl (by decide)) (g := (mkF m 438 (la36 p0 p1 p2 p3 tx (oN fr) z6 (oN pre.length) (oN P.length) tk nq tc cl tb z14 tm (oN ne) (oN ca)) [(.int 60), (.int (oN pre.length)), (.ref tx)])) rfl rfl (B at_438)
  have hA166 := CHr.wr W165 sf_tx hR0.1
  have sf167 := hA166.safe fa1.lt sf_tx
  have hR168 := hR0.trans hA166
  have f169 := (fa0.wr W165)
  have Z170 := nT Z0 (Keep.of_wr W165).1
  have N171 := Fr.snoc X165 N0 ga0
  have kk172 : k1 ≤ h165.size := (nT hk1 (Keep.of_wr W165).1)
  have f173 : Txt Z h165 tx kt (32 : Int32) (pre ++ [(60 : Int32)]) := G165
  refine OFin.of (fun t ht => fN X0 hx (B at_429) rfl ((if0 _ _).trans (feq hc164).1) (aW X0 hx (B at_432) rfl rfl (iW X0 hx (B at_434) rfl (bP X0 hx (B at_436) (st165 t ht))))) ?_
  refine OFin.of (S' := T165.setTop (mkF m 445 (la36 p0 p1 p2 p3 tx (oN fr) z6 ((oN pre.length) + (1 : Int32)) (oN P.length) tk nq tc cl tb z14 tm (oN ne) (oN ca)) [])) (fun t ht => iW X165 hx (B at_439) rfl (iC X165 hx (B at_441) (XS.iadd X165.here hx rfl (B at_442) rfl (sW X165 hx (B at_443) rfl (l' := (la36 p0 p1 p2 p3 tx (oN fr) z6 ((oN pre.length) + (1 : Int32)) (oN P.length) tk nq tc cl tb z14 tm (oN ne) (oN ca))) rfl ht)))) ?_
  rw [own_pos pre (60 : Int32)]
  exact seg445 (s := s) (vm1 := vm1) ⟨hw, hx, B, hlk, hret, hml, hown, hZ⟩ (X165.more (by decide) (by decide)) e165 Z170 N171 f169 f173 ga0 hst (nT (own_la hl) (by decide)) hsk hK hn hcl htb hN (own_ft hsk hK hN ht8 hT hC (Or.inr ⟨own_01 htb hc164, rfl⟩) hx5 (own_ap1 hh) hne hca) hR168.1 sf167  hS1 kk172 hQ
theorem seg366 {vm1 : Vm} {Z : State} {a0 : Array Value} (H : OwnCtx p s m meth c vm1 Z a0) {Q : Option Value → Heap → List Loc → Prop} {n0 : Nat} {kS kE kI : Addr} {cs : Int32} {fm : Value} {u8 : Addr} {p0 p1 p2 p3 : Int32} {tx : Addr} {z6 : Slot} {tk nq tc cl tb : Int32} {z14 : Slot} {tm : Int32} {kt : ClassId} {pre : List Int32} {fr k0 : Nat} {P K nm ts : List Int32} {ne : Nat} {T0 : State} {locs : List Loc} {h0 : Heap} (X0 : Stand p l e room_1 (s.setVm vm1) m args below meth c T0 locs 3 100) (e0 : T0.heap = h0) (Z0 : n0 ≤ h0.size) (N0 : Fr n0 locs) (fa0 : Stm Z h0 kS kE kI cs fm u8) (fa1 : Txt Z h0 tx kt (32 : Int32) pre) (ga0 : n0 ≤ tx) (hst : OwnSt kS kE kI cs fm) (hl : pre.length ≤ 22) (hsk : OwnSk fr P k0) (hK : OwnK tk K) (hn : nq = 0 ∨ nq = 1 ∨ nq = 2 ∨ nq = 3) (ht8 : OwnT8 tc) (hcl : Own01 cl) (htb : Own01 tb) (hx5 : tk = 1 → nq = 0 → ¬ tc = 5) (hh : pre = P ++ (K ++ nm ++ ts)) (hN : OwnNmL p1 nq nm) (hT : OwnTm tm tc ts) (hne : ne = P.length + K.length + nm.length) (hC0 : CHv Z consts_1 vm1 h0) (sf_tx : Safe Z consts_1 vm1 h0 tx) {k1 : Nat} (hS1 : s.Since vm1 k1) (hk1 : k1 ≤ h0.size) (hQ : OwnEnd n0 Q) :
  OFin p e below (KPostW s Q room_1.cells room_1.slots) (T0.setTop (mkF m 366 (la36 p0 p1 p2 p3 tx (oN fr) z6 (oN pre.length) (oN P.length) tk nq tc cl tb z14 tm (oN ne) 0) [])) := by
 obtain ⟨hw, hx, B, hlk, hret, hml, hown, hZ⟩ := H
 have hR0 : CHr Z consts_1 vm1 h0 vm1 h0 := CHr.refl hC0
 have hEL := own_EW hw
 refine OFin.of (S' := T0.setTop (mkF m 372 (la36 p0 p1 p2 p3 tx (oN fr) z6 (oN pre.length) (oN P.length) tk nq tc cl tb z14 tm (oN ne) (oN pre.length)) [(.int cl)])) (fun t ht => iW X0 hx (B at_366) rfl (sW X0 hx (B at_368) rfl (l' := (la36 p0 p1 p2 p3 tx (oN fr) z6 (oN pre.length) (oN P.length) tk nq tc cl tb z14 tm (oN ne) (oN pre.length))) rfl (iW X0 hx (B at_370) rfl ht))) ?_
 by_cases hc174 : cl = 0
 ·refine OFin.of (S' := T0.setTop (mkF m 427 (la36 p0 p1 p2 p3 tx (oN fr) z6 (oN pre.length) (oN P.length) tk nq tc cl tb z14 tm (oN ne) (oN pre.length)) [])) (fun t ht => fY X0 hx 372 403 rfl (B at_372) rfl ((if0 _ _).trans (teq hc174).1) (by decide) (iW X0 hx (B at_403) rfl (fY X0 hx 405 427 rfl (B at_405) rfl ((if0 _ _).trans (teq hc174).1) (by decide) ht))) ?_
  exact seg427 (s := s) (vm1 := vm1) ⟨hw, hx, B, hlk, hret, hml, hown, hZ⟩ (X0.more (by decide) (by decide)) e0 Z0 N0 fa0 fa1 ga0 hst (nT hl (by decide)) hsk hK hn ht8 hcl htb hx5 (own_ap0 hh) hN hT hne (Or.inl ⟨hc174, rfl⟩) (own_ln4 hh hne) hR0.1 sf_tx  hS1 hk1 hQ
 ·refine OFin.of (S' := T0.setTop (mkF m 378 (la36 p0 p1 p2 p3 tx (oN fr) z6 (oN pre.length) (oN P.length) tk nq tc cl tb z14 tm (oN ne) (oN pre.length)) [(.int 3), (.int tk)])) (fun t ht => fN X0 hx (B at_372) rfl ((if0 _ _).trans (feq hc174).1) (iW X0 hx (B at_375) rfl (iC X0 hx (B at_377) ht))) ?_
  by_cases hc175 : tk = 3
  ·obtain ⟨T176, h176, X176, e176, W176, G176, st176⟩ := own_stT X0 hx hZ e0 fa1 (j := (oN pre.length)) rfl (own_l32 hl (by decide)) (g := (mkF m 387 (la36 p0 p1 p2 p3 tx (oN fr) z6 (oN pre.length) (oN P.length) tk nq tc cl tb z14 tm (oN ne) (oN pre.length)) [(.int 63), (.int (oN pre.length)), (.ref tx)])) rfl rfl (B at_387)
   have hA177 := CHr.wr W176 sf_tx hR0.1
   have sf178 := hA177.safe fa1.lt sf_tx
   have hR179 := hR0.trans hA177
   have f180 := (fa0.wr W176)
   have Z181 := nT Z0 (Keep.of_wr W176).1
   have N182 := Fr.snoc X176 N0 ga0
   have kk183 : k1 ≤ h176.size := (nT hk1 (Keep.of_wr W176).1)
   have f184 : Txt Z h176 tx kt (32 : Int32) (pre ++ [(63 : Int32)]) := G176
   refine OFin.of (fun t ht => cN X0 hx (B at_378) rfl (teq hc175).2 (aW X0 hx (B at_381) rfl rfl (iW X0 hx (B at_383) rfl (bP X0 hx (B at_385) (st176 t ht))))) ?_
   obtain ⟨T185, h185, X185, e185, W185, G185, st185⟩ := own_stT X176 hx hZ e176 f184 (j := ((oN pre.length) + (1 : Int32))) (own_pos _ _) (own_l32 (own_la hl) (by decide)) (g := (mkF m 396 (la36 p0 p1 p2 p3 tx (oN fr) z6 (oN pre.length) (oN P.length) tk nq tc cl tb z14 tm (oN ne) (oN pre.length)) [(.int 62), (.int ((oN pre.length) + (1 : Int32))), (.ref tx)])) rfl rfl (B at_396)
   have hA186 := CHr.wr W185 sf178 hR179.1
   have sf187 := hA186.safe f184.lt sf178
   have hR188 := hR179.trans hA186
   have f189 := (f180.wr W185)
   have Z190 := nT Z181 (Keep.of_wr W185).1
   have N191 := Fr.snoc X185 N182 ga0
   have kk192 : k1 ≤ h185.size := (nT kk183 (Keep.of_wr W185).1)
   have f193 : Txt Z h185 tx kt (32 : Int32) ((pre ++ [(63 : Int32)]) ++ [(62 : Int32)]) := G185
   refine OFin.of (fun t ht => aW X176 hx (B at_388) rfl rfl (iW X176 hx (B at_390) rfl (iC X176 hx (B at_392) (XS.iadd X176.here hx rfl (B at_393) rfl (bP X176 hx (B at_394) (st185 t ht)))))) ?_
   refine OFin.of (S' := T185.setTop (mkF m 403 (la36 p0 p1 p2 p3 tx (oN fr) z6 ((oN pre.length) + (2 : Int32)) (oN P.length) tk nq tc cl tb z14 tm (oN ne) (oN pre.length)) [])) (fun t ht => iW X185 hx (B at_397) rfl (iC X185 hx (B at_399) (XS.iadd X185.here hx rfl (B at_400) rfl (sW X185 hx (B at_401) rfl (l' := (la36 p0 p1 p2 p3 tx (oN fr) z6 ((oN pre.length) + (2 : Int32)) (oN P.length) tk nq tc cl tb z14 tm (oN ne) (oN pre.length))) rfl ht)))) ?_
   rw [own_pos2 pre (63 : Int32) (62 : Int32)]
   refine OFin.of (S' := T185.setTop (mkF m 427 (la36 p0 p1 p2 p3 tx (oN fr) z6 (oN ((pre ++ [(63 : Int32)]) ++ [(62 : Int32)]).length) (oN P.length) tk nq tc cl tb z14 tm (oN ne) (oN pre.length)) [])) (fun t ht => iW X185 hx (B at_403) rfl (fN X185 hx (B at_405) rfl ((if0 _ _).trans (feq hc174).1) (iW X185 hx (B at_408) rfl (iC X185 hx (B at_410) (cY X185 hx 411 427 rfl (B at_411) rfl (teq hc175).1 (by decide) ht))))) ?_
   exact seg427 (s := s) (vm1 := vm1) ⟨hw, hx, B, hlk, hret, hml, hown, hZ⟩ (X185.more (by decide) (by decide)) e185 Z190 N191 f189 f193 ga0 hst (nT (own_la (own_la hl)) (by decide)) hsk hK hn ht8 hcl htb hx5 (own_ap2 hh) hN hT hne (Or.inr (Or.inl ⟨own_01 hcl hc174, hc175, rfl⟩)) (own_ln4 hh hne) hR188.1 sf187  hS1 kk192 hQ
  ·obtain ⟨T194, h194, X194, e194, W194, G194, st194⟩ := own_stT X0 hx hZ e0 fa1 (j := (oN pre.length)) rfl (own_l32 hl (by decide)) (g := (mkF m 420 (la36 p0 p1 p2 p3 tx (oN fr) z6 (oN pre.length) (oN P.length) tk nq tc cl tb z14 tm (oN ne) (oN pre.length)) [(.int 62), (.int (oN pre.length)), (.ref tx)])) rfl rfl (B at_420)
   have hA195 := CHr.wr W194 sf_tx hR0.1
   have sf196 := hA195.safe fa1.lt sf_tx
   have hR197 := hR0.trans hA195
   have f198 := (fa0.wr W194)
   have Z199 := nT Z0 (Keep.of_wr W194).1
   have N200 := Fr.snoc X194 N0 ga0
   have kk201 : k1 ≤ h194.size := (nT hk1 (Keep.of_wr W194).1)
   have f202 : Txt Z h194 tx kt (32 : Int32) (pre ++ [(62 : Int32)]) := G194
   refine OFin.of (fun t ht => cY X0 hx 378 403 rfl (B at_378) rfl (feq hc175).2 (by decide) (iW X0 hx (B at_403) rfl (fN X0 hx (B at_405) rfl ((if0 _ _).trans (feq hc174).1) (iW X0 hx (B at_408) rfl (iC X0 hx (B at_410) (cN X0 hx (B at_411) rfl (feq hc175).1 (aW X0 hx (B at_414) rfl rfl (iW X0 hx (B at_416) rfl (bP X0 hx (B at_418) (st194 t ht)))))))))) ?_
   refine OFin.of (S' := T194.setTop (mkF m 427 (la36 p0 p1 p2 p3 tx (oN fr) z6 ((oN pre.length) + (1 : Int32)) (oN P.length) tk nq tc cl tb z14 tm (oN ne) (oN pre.length)) [])) (fun t ht => iW X194 hx (B at_421) rfl (iC X194 hx (B at_423) (XS.iadd X194.here hx rfl (B at_424) rfl (sW X194 hx (B at_425) rfl (l' := (la36 p0 p1 p2 p3 tx (oN fr) z6 ((oN pre.length) + (1 : Int32)) (oN P.length) tk nq tc cl tb z14 tm (oN ne) (oN pre.length))) rfl ht)))) ?_
   rw [own_pos pre (62 : Int32)]
   exact seg427 (s := s) (vm1 := vm1) ⟨hw, hx, B, hlk, hret, hml, hown, hZ⟩ (X194.more (by decide) (by decide)) e194 Z199 N200 f198 f202 ga0 hst (nT (own_la hl) (by decide)) hsk hK hn ht8 hcl htb hx5 (own_ap1 hh) hN hT hne (Or.inr (Or.inr ⟨own_01 hcl hc174, hc175, rfl⟩)) (own_ln4 hh hne) hR197.1 sf196  hS1 kk201 hQ
theorem seg341 {vm1 : Vm} {Z : State} {a0 : Array Value} (H : OwnCtx p s m meth c vm1 Z a0) {Q : Option Value → Heap → List Loc → Prop} {n0 : Nat} {kS kE kI : Addr} {cs : Int32} {fm : Value} {u8 : Addr} {p0 p1 p2 p3 : Int32} {tx : Addr} {z6 : Slot} {tk nq tc cl tb : Int32} {z14 : Slot} {tm : Int32} {kt : ClassId} {pre : List Int32} {fr k0 : Nat} {P K nm : List Int32} {T0 : State} {locs : List Loc} {h0 : Heap} (X0 : Stand p l e room_1 (s.setVm vm1) m args below meth c T0 locs 3 100) (e0 : T0.heap = h0) (Z0 : n0 ≤ h0.size) (N0 : Fr n0 locs) (fa0 : Stm Z h0 kS kE kI cs fm u8) (fa1 : Txt Z h0 tx kt (32 : Int32) pre) (ga0 : n0 ≤ tx) (hst : OwnSt kS kE kI cs fm) (hl : pre.length ≤ 21) (hsk : OwnSk fr P k0) (hK : OwnK tk K) (hn : nq = 0 ∨ nq = 1 ∨ nq = 2 ∨ nq = 3) (ht8 : OwnT8 tc) (hcl : Own01 cl) (htb : Own01 tb) (hx5 : tk = 1 → nq = 0 → ¬ tc = 5) (htm : OwnTmc tm tc) (hh : pre = P ++ (K ++ nm)) (hN : OwnNmL p1 nq nm) (hC0 : CHv Z consts_1 vm1 h0) (sf_tx : Safe Z consts_1 vm1 h0 tx) {k1 : Nat} (hS1 : s.Since vm1 k1) (hk1 : k1 ≤ h0.size) (hQ : OwnEnd n0 Q) :
  OFin p e below (KPostW s Q room_1.cells room_1.slots) (T0.setTop (mkF m 341 (la36 p0 p1 p2 p3 tx (oN fr) z6 (oN pre.length) (oN P.length) tk nq tc cl tb z14 tm 0 0) [])) := by
 obtain ⟨hw, hx, B, hlk, hret, hml, hown, hZ⟩ := H
 have hR0 : CHr Z consts_1 vm1 h0 vm1 h0 := CHr.refl hC0
 have hEL := own_EW hw
 refine OFin.of (S' := T0.setTop (mkF m 347 (la36 p0 p1 p2 p3 tx (oN fr) z6 (oN pre.length) (oN P.length) tk nq tc cl tb z14 tm (oN pre.length) 0) [(.int tm)])) (fun t ht => iW X0 hx (B at_341) rfl (sW X0 hx (B at_343) rfl (l' := (la36 p0 p1 p2 p3 tx (oN fr) z6 (oN pre.length) (oN P.length) tk nq tc cl tb z14 tm (oN pre.length) 0)) rfl (iW X0 hx (B at_345) rfl ht))) ?_
 by_cases hc203 : tm = 0
 ·refine OFin.of (S' := T0.setTop (mkF m 366 (la36 p0 p1 p2 p3 tx (oN fr) z6 (oN pre.length) (oN P.length) tk nq tc cl tb z14 tm (oN pre.length) 0) [])) (fun t ht => fY X0 hx 347 366 rfl (B at_347) rfl ((if0 _ _).trans (teq hc203).1) (by decide) ht) ?_
  exact seg366 (s := s) (vm1 := vm1) ⟨hw, hx, B, hlk, hret, hml, hown, hZ⟩ (X0.more (by decide) (by decide)) e0 Z0 N0 fa0 fa1 ga0 hst (nT hl (by decide)) hsk hK hn ht8 hcl htb hx5 (own_ap0 hh) hN (Or.inl ⟨hc203, rfl⟩) (own_ln3 hh) hR0.1 sf_tx  hS1 hk1 hQ
 ·obtain ⟨_, T204, Lc204, X204, hQ204, st204⟩ := own_cS X0 hx hw hZ hown 31 32 3 33 rfl rfl rfl rfl (by decide) (rmTbb l Z _ hw [] tc h0 n0 Z0 ) (by decide) (by decide) (g := (mkF m 356 (la36 p0 p1 p2 p3 tx (oN fr) z6 (oN pre.length) (oN P.length) tk nq tc cl tb z14 tm (oN pre.length) 0) [(.int tc), (.int (oN pre.length)), (.ref tx)])) rfl hml rfl (argsL := [(.int tc)]) (rest := [(.int (oN pre.length)), (.ref tx)]) pd_12 rfl rfl rfl (W := 2) (nE rfl) (B at_356) rfl e0 (by decide) (by decide)
  obtain ⟨rfl, Nq204, hs204⟩ := hQ204
  have N205 := Fr.app N0 Nq204
  refine OFin.of (fun t ht => fN X0 hx (B at_347) rfl ((if0 _ _).trans (feq hc203).1) (aW X0 hx (B at_350) rfl rfl (iW X0 hx (B at_352) rfl (iW X0 hx (B at_354) rfl (st204.trans ht))))) ?_
  obtain ⟨T206, h206, X206, e206, W206, G206, st206⟩ := own_stT X204 hx hZ hs204 fa1 (j := (oN pre.length)) rfl (own_l32 hl (by decide)) (g := (mkF m 359 (la36 p0 p1 p2 p3 tx (oN fr) z6 (oN pre.length) (oN P.length) tk nq tc cl tb z14 tm (oN pre.length) 0) [(.int (own_tb tc)), (.int (oN pre.length)), (.ref tx)])) rfl rfl (B at_359)
  have hA207 := CHr.wr W206 sf_tx hR0.1
  have sf208 := hA207.safe fa1.lt sf_tx
  have hR209 := hR0.trans hA207
  have f210 := (fa0.wr W206)
  have Z211 := nT Z0 (Keep.of_wr W206).1
  have N212 := Fr.snoc X206 N205 ga0
  have kk213 : k1 ≤ h206.size := (nT hk1 (Keep.of_wr W206).1)
  have f214 : Txt Z h206 tx kt (32 : Int32) (pre ++ [(own_tb tc)]) := (own_tx G206 own_tbx.2.2.2.2.2)
  refine OFin.of st206 ?_
  refine OFin.of (S' := T206.setTop (mkF m 366 (la36 p0 p1 p2 p3 tx (oN fr) z6 ((oN pre.length) + (1 : Int32)) (oN P.length) tk nq tc cl tb z14 tm (oN pre.length) 0) [])) (fun t ht => iW X206 hx (B at_360) rfl (iC X206 hx (B at_362) (XS.iadd X206.here hx rfl (B at_363) rfl (sW X206 hx (B at_364) rfl (l' := (la36 p0 p1 p2 p3 tx (oN fr) z6 ((oN pre.length) + (1 : Int32)) (oN P.length) tk nq tc cl tb z14 tm (oN pre.length) 0)) rfl ht)))) ?_
  rw [own_pos pre (own_tb tc)]
  exact seg366 (s := s) (vm1 := vm1) ⟨hw, hx, B, hlk, hret, hml, hown, hZ⟩ (X206.more (by decide) (by decide)) e206 Z211 N212 f210 f214 ga0 hst (nT (own_la hl) (by decide)) hsk hK hn ht8 hcl htb hx5 (own_ap1 hh) hN (Or.inr ⟨(own_tm0 htm hc203).1, (own_tm0 htm hc203).2, rfl⟩) (own_ln3 hh) hR209.1 sf208  hS1 kk213 hQ
theorem seg273 {vm1 : Vm} {Z : State} {a0 : Array Value} (H : OwnCtx p s m meth c vm1 Z a0) {Q : Option Value → Heap → List Loc → Prop} {n0 : Nat} {kS kE kI : Addr} {cs : Int32} {fm : Value} {u8 : Addr} {p0 p1 p2 p3 : Int32} {tx : Addr} {z6 : Slot} {tk nq tc cl tb : Int32} {z14 : Slot} {tm : Int32} {kt : ClassId} {pre : List Int32} {fr k0 : Nat} {P K : List Int32} {T0 : State} {locs : List Loc} {h0 : Heap} (X0 : Stand p l e room_1 (s.setVm vm1) m args below meth c T0 locs 3 100) (e0 : T0.heap = h0) (Z0 : n0 ≤ h0.size) (N0 : Fr n0 locs) (fa0 : Stm Z h0 kS kE kI cs fm u8) (fa1 : Txt Z h0 tx kt (32 : Int32) pre) (ga0 : n0 ≤ tx) (hst : OwnSt kS kE kI cs fm) (hl : pre.length ≤ 18) (hsk : OwnSk fr P k0) (hK : OwnK tk K) (hn : nq = 0 ∨ nq = 1 ∨ nq = 2 ∨ nq = 3) (ht8 : OwnT8 tc) (hcl : Own01 cl) (htb : Own01 tb) (hx5 : tk = 1 → nq = 0 → ¬ tc = 5) (htm : OwnTmc tm tc) (hh : pre = P ++ K) (hC0 : CHv Z consts_1 vm1 h0) (sf_tx : Safe Z consts_1 vm1 h0 tx) {k1 : Nat} (hS1 : s.Since vm1 k1) (hk1 : k1 ≤ h0.size) (hQ : OwnEnd n0 Q) :
  OFin p e below (KPostW s Q room_1.cells room_1.slots) (T0.setTop (mkF m 273 (la36 p0 p1 p2 p3 tx (oN fr) z6 (oN pre.length) (oN P.length) tk nq tc cl tb z14 tm 0 0) [])) := by
 obtain ⟨hw, hx, B, hlk, hret, hml, hown, hZ⟩ := H
 have hR0 : CHr Z consts_1 vm1 h0 vm1 h0 := CHr.refl hC0
 have hEL := own_EW hw
 refine OFin.of (S' := T0.setTop (mkF m 275 (la36 p0 p1 p2 p3 tx (oN fr) z6 (oN pre.length) (oN P.length) tk nq tc cl tb z14 tm 0 0) [(.int nq)])) (fun t ht => iW X0 hx (B at_273) rfl ht) ?_
 rcases id hn with rfl | rfl | rfl | rfl
 ·refine OFin.of (S' := T0.setTop (mkF m 341 (la36 p0 p1 p2 p3 tx (oN fr) z6 (oN pre.length) (oN P.length) tk 0 tc cl tb z14 tm 0 0) [])) (fun t ht => fY X0 hx 275 293 rfl (B at_275) rfl ((if0 _ _).trans (flt (by decide : ¬ ((0 : Int32) < 0))).2.2.2) (by decide) (iW X0 hx (B at_293) rfl (iC X0 hx (B at_295) (cY X0 hx 296 317 rfl (B at_296) rfl (flt (by decide : ¬ ((1 : Int32) < 0))).2.2.2 (by decide) (iW X0 hx (B at_317) rfl (iC X0 hx (B at_319) (cY X0 hx 320 341 rfl (B at_320) rfl (flt (by decide : ¬ ((2 : Int32) < 0))).2.2.2 (by decide) ht))))))) ?_
  exact seg341 (s := s) (vm1 := vm1) ⟨hw, hx, B, hlk, hret, hml, hown, hZ⟩ (X0.more (by decide) (by decide)) e0 Z0 N0 fa0 fa1 ga0 hst (nT hl (by decide)) hsk hK hn ht8 hcl htb hx5 htm (own_ap0 hh) (Or.inl ⟨rfl, rfl⟩) hR0.1 sf_tx  hS1 hk1 hQ
 ·obtain ⟨_, T215, Lc215, X215, hQ215, st215⟩ := own_cS X0 hx hw hZ hown 191 192 3 193 rfl rfl rfl rfl (by decide) (rmNby l Z _ hw [] p1 h0 n0 Z0 ) (by decide) (by decide) (g := (mkF m 283 (la36 p0 p1 p2 p3 tx (oN fr) z6 (oN pre.length) (oN P.length) tk 1 tc cl tb z14 tm 0 0) [(.int p1), (.int (oN pre.length)), (.ref tx)])) rfl hml rfl (argsL := [(.int p1)]) (rest := [(.int (oN pre.length)), (.ref tx)]) pd_12 rfl rfl rfl (W := 2) (nE rfl) (B at_283) rfl e0 (by decide) (by decide)
  obtain ⟨rfl, Nq215, hs215⟩ := hQ215
  have N216 := Fr.app N0 Nq215
  refine OFin.of (fun t ht => fN X0 hx (B at_275) rfl ((if0 _ _).trans (tlt (by decide : (0 : Int32) < 1)).2.2.2) (aW X0 hx (B at_278) rfl rfl (iW X0 hx (B at_280) rfl (iN X0 hx (B at_282) rfl (st215.trans ht))))) ?_
  obtain ⟨T217, h217, X217, e217, W217, G217, st217⟩ := own_stT X215 hx hZ hs215 fa1 (j := (oN pre.length)) rfl (own_l32 hl (by decide)) (g := (mkF m 286 (la36 p0 p1 p2 p3 tx (oN fr) z6 (oN pre.length) (oN P.length) tk 1 tc cl tb z14 tm 0 0) [(.int (own_nby p1)), (.int (oN pre.length)), (.ref tx)])) rfl rfl (B at_286)
  have hA218 := CHr.wr W217 sf_tx hR0.1
  have sf219 := hA218.safe fa1.lt sf_tx
  have hR220 := hR0.trans hA218
  have f221 := (fa0.wr W217)
  have Z222 := nT Z0 (Keep.of_wr W217).1
  have N223 := Fr.snoc X217 N216 ga0
  have kk224 : k1 ≤ h217.size := (nT hk1 (Keep.of_wr W217).1)
  have f225 : Txt Z h217 tx kt (32 : Int32) (pre ++ [(own_nby p1)]) := (own_tx G217 (own_nbyb _))
  refine OFin.of st217 ?_
  refine OFin.of (S' := T217.setTop (mkF m 293 (la36 p0 p1 p2 p3 tx (oN fr) z6 ((oN pre.length) + (1 : Int32)) (oN P.length) tk 1 tc cl tb z14 tm 0 0) [])) (fun t ht => iW X217 hx (B at_287) rfl (iC X217 hx (B at_289) (XS.iadd X217.here hx rfl (B at_290) rfl (sW X217 hx (B at_291) rfl (l' := (la36 p0 p1 p2 p3 tx (oN fr) z6 ((oN pre.length) + (1 : Int32)) (oN P.length) tk 1 tc cl tb z14 tm 0 0)) rfl ht)))) ?_
  rw [own_pos pre (own_nby p1)]
  refine OFin.of (S' := T217.setTop (mkF m 341 (la36 p0 p1 p2 p3 tx (oN fr) z6 (oN (pre ++ [(own_nby p1)]).length) (oN P.length) tk 1 tc cl tb z14 tm 0 0) [])) (fun t ht => iW X217 hx (B at_293) rfl (iC X217 hx (B at_295) (cY X217 hx 296 317 rfl (B at_296) rfl (flt (by decide : ¬ ((1 : Int32) < 1))).2.2.2 (by decide) (iW X217 hx (B at_317) rfl (iC X217 hx (B at_319) (cY X217 hx 320 341 rfl (B at_320) rfl (flt (by decide : ¬ ((2 : Int32) < 1))).2.2.2 (by decide) ht)))))) ?_
  exact seg341 (s := s) (vm1 := vm1) ⟨hw, hx, B, hlk, hret, hml, hown, hZ⟩ (X217.more (by decide) (by decide)) e217 Z222 N223 f221 f225 ga0 hst (nT (own_la hl) (by decide)) hsk hK hn ht8 hcl htb hx5 htm (own_ap1 hh) (Or.inr (Or.inl ⟨rfl, rfl⟩)) hR220.1 sf219  hS1 kk224 hQ
 ·obtain ⟨_, T226, Lc226, X226, hQ226, st226⟩ := own_cS X0 hx hw hZ hown 191 192 3 193 rfl rfl rfl rfl (by decide) (rmNby l Z _ hw [] p1 h0 n0 Z0 ) (by decide) (by decide) (g := (mkF m 283 (la36 p0 p1 p2 p3 tx (oN fr) z6 (oN pre.length) (oN P.length) tk 2 tc cl tb z14 tm 0 0) [(.int p1), (.int (oN pre.length)), (.ref tx)])) rfl hml rfl (argsL := [(.int p1)]) (rest := [(.int (oN pre.length)), (.ref tx)]) pd_12 rfl rfl rfl (W := 2) (nE rfl) (B at_283) rfl e0 (by decide) (by decide)
  obtain ⟨rfl, Nq226, hs226⟩ := hQ226
  have N227 := Fr.app N0 Nq226
  refine OFin.of (fun t ht => fN X0 hx (B at_275) rfl ((if0 _ _).trans (tlt (by decide : (0 : Int32) < 2)).2.2.2) (aW X0 hx (B at_278) rfl rfl (iW X0 hx (B at_280) rfl (iN X0 hx (B at_282) rfl (st226.trans ht))))) ?_
  obtain ⟨T228, h228, X228, e228, W228, G228, st228⟩ := own_stT X226 hx hZ hs226 fa1 (j := (oN pre.length)) rfl (own_l32 hl (by decide)) (g := (mkF m 286 (la36 p0 p1 p2 p3 tx (oN fr) z6 (oN pre.length) (oN P.length) tk 2 tc cl tb z14 tm 0 0) [(.int (own_nby p1)), (.int (oN pre.length)), (.ref tx)])) rfl rfl (B at_286)
  have hA229 := CHr.wr W228 sf_tx hR0.1
  have sf230 := hA229.safe fa1.lt sf_tx
  have hR231 := hR0.trans hA229
  have f232 := (fa0.wr W228)
  have Z233 := nT Z0 (Keep.of_wr W228).1
  have N234 := Fr.snoc X228 N227 ga0
  have kk235 : k1 ≤ h228.size := (nT hk1 (Keep.of_wr W228).1)
  have f236 : Txt Z h228 tx kt (32 : Int32) (pre ++ [(own_nby p1)]) := (own_tx G228 (own_nbyb _))
  refine OFin.of st228 ?_
  refine OFin.of (S' := T228.setTop (mkF m 293 (la36 p0 p1 p2 p3 tx (oN fr) z6 ((oN pre.length) + (1 : Int32)) (oN P.length) tk 2 tc cl tb z14 tm 0 0) [])) (fun t ht => iW X228 hx (B at_287) rfl (iC X228 hx (B at_289) (XS.iadd X228.here hx rfl (B at_290) rfl (sW X228 hx (B at_291) rfl (l' := (la36 p0 p1 p2 p3 tx (oN fr) z6 ((oN pre.length) + (1 : Int32)) (oN P.length) tk 2 tc cl tb z14 tm 0 0)) rfl ht)))) ?_
  rw [own_pos pre (own_nby p1)]
  obtain ⟨_, T237, Lc237, X237, hQ237, st237⟩ := own_cS X228 hx hw hZ hown 191 192 3 193 rfl rfl rfl rfl (by decide) (rmNby l Z _ hw [] ((p1.toUInt32 >>> ((8 : Int32) &&& 31).toUInt32).toInt32) h228 n0 Z233 ) (by decide) (by decide) (g := (mkF m 307 (la36 p0 p1 p2 p3 tx (oN fr) z6 (oN (pre ++ [(own_nby p1)]).length) (oN P.length) tk 2 tc cl tb z14 tm 0 0) [(.int ((p1.toUInt32 >>> ((8 : Int32) &&& 31).toUInt32).toInt32)), (.int (oN (pre ++ [(own_nby p1)]).length)), (.ref tx)])) rfl hml rfl (argsL := [(.int ((p1.toUInt32 >>> ((8 : Int32) &&& 31).toUInt32).toInt32))]) (rest := [(.int (oN (pre ++ [(own_nby p1)]).length)), (.ref tx)]) pd_12 rfl rfl rfl (W := 2) (nE rfl) (B at_307) rfl e228 (by decide) (by decide)
  obtain ⟨rfl, Nq237, hs237⟩ := hQ237
  have N238 := Fr.app N234 Nq237
  refine OFin.of (fun t ht => iW X228 hx (B at_293) rfl (iC X228 hx (B at_295) (cN X228 hx (B at_296) rfl (tlt (by decide : (1 : Int32) < 2)).2.2.2 (aW X228 hx (B at_299) rfl rfl (iW X228 hx (B at_301) rfl (iN X228 hx (B at_303) rfl (bP X228 hx (B at_304) (XS.iushr X228.here hx rfl (B at_306) rfl (st237.trans ht))))))))) ?_
  obtain ⟨T239, h239, X239, e239, W239, G239, st239⟩ := own_stT X237 hx hZ hs237 f236 (j := (oN (pre ++ [(own_nby p1)]).length)) rfl (own_l32 (own_la hl) (by decide)) (g := (mkF m 310 (la36 p0 p1 p2 p3 tx (oN fr) z6 (oN (pre ++ [(own_nby p1)]).length) (oN P.length) tk 2 tc cl tb z14 tm 0 0) [(.int (own_nby ((p1.toUInt32 >>> ((8 : Int32) &&& 31).toUInt32).toInt32))), (.int (oN (pre ++ [(own_nby p1)]).length)), (.ref tx)])) rfl rfl (B at_310)
  have hA240 := CHr.wr W239 sf230 hR231.1
  have sf241 := hA240.safe f236.lt sf230
  have hR242 := hR231.trans hA240
  have f243 := (f232.wr W239)
  have Z244 := nT Z233 (Keep.of_wr W239).1
  have N245 := Fr.snoc X239 N238 ga0
  have kk246 : k1 ≤ h239.size := (nT kk235 (Keep.of_wr W239).1)
  have f247 : Txt Z h239 tx kt (32 : Int32) ((pre ++ [(own_nby p1)]) ++ [(own_nby ((p1.toUInt32 >>> ((8 : Int32) &&& 31).toUInt32).toInt32))]) := (own_tx G239 (own_nbyb _))
  refine OFin.of st239 ?_
  refine OFin.of (S' := T239.setTop (mkF m 317 (la36 p0 p1 p2 p3 tx (oN fr) z6 ((oN (pre ++ [(own_nby p1)]).length) + (1 : Int32)) (oN P.length) tk 2 tc cl tb z14 tm 0 0) [])) (fun t ht => iW X239 hx (B at_311) rfl (iC X239 hx (B at_313) (XS.iadd X239.here hx rfl (B at_314) rfl (sW X239 hx (B at_315) rfl (l' := (la36 p0 p1 p2 p3 tx (oN fr) z6 ((oN (pre ++ [(own_nby p1)]).length) + (1 : Int32)) (oN P.length) tk 2 tc cl tb z14 tm 0 0)) rfl ht)))) ?_
  rw [own_pos (pre ++ [(own_nby p1)]) (own_nby ((p1.toUInt32 >>> ((8 : Int32) &&& 31).toUInt32).toInt32))]
  refine OFin.of (S' := T239.setTop (mkF m 341 (la36 p0 p1 p2 p3 tx (oN fr) z6 (oN ((pre ++ [(own_nby p1)]) ++ [(own_nby ((p1.toUInt32 >>> ((8 : Int32) &&& 31).toUInt32).toInt32))]).length) (oN P.length) tk 2 tc cl tb z14 tm 0 0) [])) (fun t ht => iW X239 hx (B at_317) rfl (iC X239 hx (B at_319) (cY X239 hx 320 341 rfl (B at_320) rfl (flt (by decide : ¬ ((2 : Int32) < 2))).2.2.2 (by decide) ht))) ?_
  exact seg341 (s := s) (vm1 := vm1) ⟨hw, hx, B, hlk, hret, hml, hown, hZ⟩ (X239.more (by decide) (by decide)) e239 Z244 N245 f243 f247 ga0 hst (nT (own_la (own_la hl)) (by decide)) hsk hK hn ht8 hcl htb hx5 htm (own_ap2 hh) (Or.inr (Or.inr (Or.inl ⟨rfl, rfl⟩))) hR242.1 sf241  hS1 kk246 hQ
 ·obtain ⟨_, T248, Lc248, X248, hQ248, st248⟩ := own_cS X0 hx hw hZ hown 191 192 3 193 rfl rfl rfl rfl (by decide) (rmNby l Z _ hw [] p1 h0 n0 Z0 ) (by decide) (by decide) (g := (mkF m 283 (la36 p0 p1 p2 p3 tx (oN fr) z6 (oN pre.length) (oN P.length) tk 3 tc cl tb z14 tm 0 0) [(.int p1), (.int (oN pre.length)), (.ref tx)])) rfl hml rfl (argsL := [(.int p1)]) (rest := [(.int (oN pre.length)), (.ref tx)]) pd_12 rfl rfl rfl (W := 2) (nE rfl) (B at_283) rfl e0 (by decide) (by decide)
  obtain ⟨rfl, Nq248, hs248⟩ := hQ248
  have N249 := Fr.app N0 Nq248
  refine OFin.of (fun t ht => fN X0 hx (B at_275) rfl ((if0 _ _).trans (tlt (by decide : (0 : Int32) < 3)).2.2.2) (aW X0 hx (B at_278) rfl rfl (iW X0 hx (B at_280) rfl (iN X0 hx (B at_282) rfl (st248.trans ht))))) ?_
  obtain ⟨T250, h250, X250, e250, W250, G250, st250⟩ := own_stT X248 hx hZ hs248 fa1 (j := (oN pre.length)) rfl (own_l32 hl (by decide)) (g := (mkF m 286 (la36 p0 p1 p2 p3 tx (oN fr) z6 (oN pre.length) (oN P.length) tk 3 tc cl tb z14 tm 0 0) [(.int (own_nby p1)), (.int (oN pre.length)), (.ref tx)])) rfl rfl (B at_286)
  have hA251 := CHr.wr W250 sf_tx hR0.1
  have sf252 := hA251.safe fa1.lt sf_tx
  have hR253 := hR0.trans hA251
  have f254 := (fa0.wr W250)
  have Z255 := nT Z0 (Keep.of_wr W250).1
  have N256 := Fr.snoc X250 N249 ga0
  have kk257 : k1 ≤ h250.size := (nT hk1 (Keep.of_wr W250).1)
  have f258 : Txt Z h250 tx kt (32 : Int32) (pre ++ [(own_nby p1)]) := (own_tx G250 (own_nbyb _))
  refine OFin.of st250 ?_
  refine OFin.of (S' := T250.setTop (mkF m 293 (la36 p0 p1 p2 p3 tx (oN fr) z6 ((oN pre.length) + (1 : Int32)) (oN P.length) tk 3 tc cl tb z14 tm 0 0) [])) (fun t ht => iW X250 hx (B at_287) rfl (iC X250 hx (B at_289) (XS.iadd X250.here hx rfl (B at_290) rfl (sW X250 hx (B at_291) rfl (l' := (la36 p0 p1 p2 p3 tx (oN fr) z6 ((oN pre.length) + (1 : Int32)) (oN P.length) tk 3 tc cl tb z14 tm 0 0)) rfl ht)))) ?_
  rw [own_pos pre (own_nby p1)]
  obtain ⟨_, T259, Lc259, X259, hQ259, st259⟩ := own_cS X250 hx hw hZ hown 191 192 3 193 rfl rfl rfl rfl (by decide) (rmNby l Z _ hw [] ((p1.toUInt32 >>> ((8 : Int32) &&& 31).toUInt32).toInt32) h250 n0 Z255 ) (by decide) (by decide) (g := (mkF m 307 (la36 p0 p1 p2 p3 tx (oN fr) z6 (oN (pre ++ [(own_nby p1)]).length) (oN P.length) tk 3 tc cl tb z14 tm 0 0) [(.int ((p1.toUInt32 >>> ((8 : Int32) &&& 31).toUInt32).toInt32)), (.int (oN (pre ++ [(own_nby p1)]).length)), (.ref tx)])) rfl hml rfl (argsL := [(.int ((p1.toUInt32 >>> ((8 : Int32) &&& 31).toUInt32).toInt32))]) (rest := [(.int (oN (pre ++ [(own_nby p1)]).length)), (.ref tx)]) pd_12 rfl rfl rfl (W := 2) (nE rfl) (B at_307) rfl e250 (by decide) (by decide)
  obtain ⟨rfl, Nq259, hs259⟩ := hQ259
  have N260 := Fr.app N256 Nq259
  refine OFin.of (fun t ht => iW X250 hx (B at_293) rfl (iC X250 hx (B at_295) (cN X250 hx (B at_296) rfl (tlt (by decide : (1 : Int32) < 3)).2.2.2 (aW X250 hx (B at_299) rfl rfl (iW X250 hx (B at_301) rfl (iN X250 hx (B at_303) rfl (bP X250 hx (B at_304) (XS.iushr X250.here hx rfl (B at_306) rfl (st259.trans ht))))))))) ?_
  obtain ⟨T261, h261, X261, e261, W261, G261, st261⟩ := own_stT X259 hx hZ hs259 f258 (j := (oN (pre ++ [(own_nby p1)]).length)) rfl (own_l32 (own_la hl) (by decide)) (g := (mkF m 310 (la36 p0 p1 p2 p3 tx (oN fr) z6 (oN (pre ++ [(own_nby p1)]).length) (oN P.length) tk 3 tc cl tb z14 tm 0 0) [(.int (own_nby ((p1.toUInt32 >>> ((8 : Int32) &&& 31).toUInt32).toInt32))), (.int (oN (pre ++ [(own_nby p1)]).length)), (.ref tx)])) rfl rfl (B at_310)
  have hA262 := CHr.wr W261 sf252 hR253.1
  have sf263 := hA262.safe f258.lt sf252
  have hR264 := hR253.trans hA262
  have f265 := (f254.wr W261)
  have Z266 := nT Z255 (Keep.of_wr W261).1
  have N267 := Fr.snoc X261 N260 ga0
  have kk268 : k1 ≤ h261.size := (nT kk257 (Keep.of_wr W261).1)
  have f269 : Txt Z h261 tx kt (32 : Int32) ((pre ++ [(own_nby p1)]) ++ [(own_nby ((p1.toUInt32 >>> ((8 : Int32) &&& 31).toUInt32).toInt32))]) := (own_tx G261 (own_nbyb _))
  refine OFin.of st261 ?_
  refine OFin.of (S' := T261.setTop (mkF m 317 (la36 p0 p1 p2 p3 tx (oN fr) z6 ((oN (pre ++ [(own_nby p1)]).length) + (1 : Int32)) (oN P.length) tk 3 tc cl tb z14 tm 0 0) [])) (fun t ht => iW X261 hx (B at_311) rfl (iC X261 hx (B at_313) (XS.iadd X261.here hx rfl (B at_314) rfl (sW X261 hx (B at_315) rfl (l' := (la36 p0 p1 p2 p3 tx (oN fr) z6 ((oN (pre ++ [(own_nby p1)]).length) + (1 : Int32)) (oN P.length) tk 3 tc cl tb z14 tm 0 0)) rfl ht)))) ?_
  rw [own_pos (pre ++ [(own_nby p1)]) (own_nby ((p1.toUInt32 >>> ((8 : Int32) &&& 31).toUInt32).toInt32))]
  obtain ⟨_, T270, Lc270, X270, hQ270, st270⟩ := own_cS X261 hx hw hZ hown 191 192 3 193 rfl rfl rfl rfl (by decide) (rmNby l Z _ hw [] ((p1.toUInt32 >>> ((16 : Int32) &&& 31).toUInt32).toInt32) h261 n0 Z266 ) (by decide) (by decide) (g := (mkF m 331 (la36 p0 p1 p2 p3 tx (oN fr) z6 (oN ((pre ++ [(own_nby p1)]) ++ [(own_nby ((p1.toUInt32 >>> ((8 : Int32) &&& 31).toUInt32).toInt32))]).length) (oN P.length) tk 3 tc cl tb z14 tm 0 0) [(.int ((p1.toUInt32 >>> ((16 : Int32) &&& 31).toUInt32).toInt32)), (.int (oN ((pre ++ [(own_nby p1)]) ++ [(own_nby ((p1.toUInt32 >>> ((8 : Int32) &&& 31).toUInt32).toInt32))]).length)), (.ref tx)])) rfl hml rfl (argsL := [(.int ((p1.toUInt32 >>> ((16 : Int32) &&& 31).toUInt32).toInt32))]) (rest := [(.int (oN ((pre ++ [(own_nby p1)]) ++ [(own_nby ((p1.toUInt32 >>> ((8 : Int32) &&& 31).toUInt32).toInt32))]).length)), (.ref tx)]) pd_12 rfl rfl rfl (W := 2) (nE rfl) (B at_331) rfl e261 (by decide) (by decide)
  obtain ⟨rfl, Nq270, hs270⟩ := hQ270
  have N271 := Fr.app N267 Nq270
  refine OFin.of (fun t ht => iW X261 hx (B at_317) rfl (iC X261 hx (B at_319) (cN X261 hx (B at_320) rfl (tlt (by decide : (2 : Int32) < 3)).2.2.2 (aW X261 hx (B at_323) rfl rfl (iW X261 hx (B at_325) rfl (iN X261 hx (B at_327) rfl (bP X261 hx (B at_328) (XS.iushr X261.here hx rfl (B at_330) rfl (st270.trans ht))))))))) ?_
  obtain ⟨T272, h272, X272, e272, W272, G272, st272⟩ := own_stT X270 hx hZ hs270 f269 (j := (oN ((pre ++ [(own_nby p1)]) ++ [(own_nby ((p1.toUInt32 >>> ((8 : Int32) &&& 31).toUInt32).toInt32))]).length)) rfl (own_l32 (own_la (own_la hl)) (by decide)) (g := (mkF m 334 (la36 p0 p1 p2 p3 tx (oN fr) z6 (oN ((pre ++ [(own_nby p1)]) ++ [(own_nby ((p1.toUInt32 >>> ((8 : Int32) &&& 31).toUInt32).toInt32))]).length) (oN P.length) tk 3 tc cl tb z14 tm 0 0) [(.int (own_nby ((p1.toUInt32 >>> ((16 : Int32) &&& 31).toUInt32).toInt32))), (.int (oN ((pre ++ [(own_nby p1)]) ++ [(own_nby ((p1.toUInt32 >>> ((8 : Int32) &&& 31).toUInt32).toInt32))]).length)), (.ref tx)])) rfl rfl (B at_334)
  have hA273 := CHr.wr W272 sf263 hR264.1
  have sf274 := hA273.safe f269.lt sf263
  have hR275 := hR264.trans hA273
  have f276 := (f265.wr W272)
  have Z277 := nT Z266 (Keep.of_wr W272).1
  have N278 := Fr.snoc X272 N271 ga0
  have kk279 : k1 ≤ h272.size := (nT kk268 (Keep.of_wr W272).1)
  have f280 : Txt Z h272 tx kt (32 : Int32) (((pre ++ [(own_nby p1)]) ++ [(own_nby ((p1.toUInt32 >>> ((8 : Int32) &&& 31).toUInt32).toInt32))]) ++ [(own_nby ((p1.toUInt32 >>> ((16 : Int32) &&& 31).toUInt32).toInt32))]) := (own_tx G272 (own_nbyb _))
  refine OFin.of st272 ?_
  refine OFin.of (S' := T272.setTop (mkF m 341 (la36 p0 p1 p2 p3 tx (oN fr) z6 ((oN ((pre ++ [(own_nby p1)]) ++ [(own_nby ((p1.toUInt32 >>> ((8 : Int32) &&& 31).toUInt32).toInt32))]).length) + (1 : Int32)) (oN P.length) tk 3 tc cl tb z14 tm 0 0) [])) (fun t ht => iW X272 hx (B at_335) rfl (iC X272 hx (B at_337) (XS.iadd X272.here hx rfl (B at_338) rfl (sW X272 hx (B at_339) rfl (l' := (la36 p0 p1 p2 p3 tx (oN fr) z6 ((oN ((pre ++ [(own_nby p1)]) ++ [(own_nby ((p1.toUInt32 >>> ((8 : Int32) &&& 31).toUInt32).toInt32))]).length) + (1 : Int32)) (oN P.length) tk 3 tc cl tb z14 tm 0 0)) rfl ht)))) ?_
  rw [own_pos ((pre ++ [(own_nby p1)]) ++ [(own_nby ((p1.toUInt32 >>> ((8 : Int32) &&& 31).toUInt32).toInt32))]) (own_nby ((p1.toUInt32 >>> ((16 : Int32) &&& 31).toUInt32).toInt32))]
  exact seg341 (s := s) (vm1 := vm1) ⟨hw, hx, B, hlk, hret, hml, hown, hZ⟩ (X272.more (by decide) (by decide)) e272 Z277 N278 f276 f280 ga0 hst (nT (own_la (own_la (own_la hl))) (by decide)) hsk hK hn ht8 hcl htb hx5 htm (own_ap3 hh) (Or.inr (Or.inr (Or.inr ⟨rfl, rfl⟩))) hR275.1 sf274  hS1 kk279 hQ
theorem segN {vm1 : Vm} {Z : State} {a0 : Array Value} (H : OwnCtx p s m meth c vm1 Z a0) {Q : Option Value → Heap → List Loc → Prop} {n0 : Nat} {kS kE kI : Addr} {cs : Int32} {fm : Value} {u8 : Addr} {p0 p1 p2 p3 : Int32} {tx : Addr} {z6 : Slot} {tk : Int32} {z10 z11 z12 z13 z14 z15 : Slot} {kt : ClassId} {pre : List Int32} {fr i0 stp kc : Nat} {T0 : State} {locs : List Loc} {h0 : Heap} (X0 : Stand p l e room_1 (s.setVm vm1) m args below meth c T0 locs 5 200) (e0 : T0.heap = h0) (Z0 : n0 ≤ h0.size) (N0 : Fr n0 locs) (fa0 : Stm Z h0 kS kE kI cs fm u8) (fa1 : Txt Z h0 tx kt (32 : Int32) pre) (ga0 : n0 ≤ tx) (hst : OwnSt kS kE kI cs fm) (hl : pre.length ≤ 28) (hnn : own_nt pre fr = (none, stp, kc)) (hk48 : kc ≤ 48) (hfr : fr ≤ pre.length) (hsp : (tk = 0 ∧ stp = pre.length) ∨ (tk = 4 ∧ stp = i0)) (hC0 : CHv Z consts_1 vm1 h0) (sf_tx : Safe Z consts_1 vm1 h0 tx) {k1 : Nat} (hS1 : s.Since vm1 k1) (hk1 : k1 ≤ h0.size) (hQ : OwnEnd n0 Q) :
  OFin p e below (KPostW s Q room_1.cells room_1.slots) (T0.setTop (mkF m 445 (la44 p0 p1 p2 p3 tx (oN fr) z6 (oN pre.length) (oN i0) tk z10 z11 z12 z13 z14 z15 0 0) [])) := by
 obtain ⟨hw, hx, B, hlk, hret, hml, hown, hZ⟩ := H
 have hR0 : CHr Z consts_1 vm1 h0 vm1 h0 := CHr.refl hC0
 have hEL := own_EW hw
 obtain ⟨T281, h281, X281, e281, W281, G281, st281⟩ := own_stT X0 hx hZ e0 fa1 (j := (oN pre.length)) rfl (own_l32 hl (by decide)) (g := (mkF m 455 (la45 p0 p1 p2 p3 tx (oN fr) z6 (oN pre.length) (oN i0) tk z10 z11 z12 z13 z14 z15 0 0 (oN pre.length)) [(.int 63), (.int (oN pre.length)), (.ref tx)])) rfl rfl (B at_455)
 have hA282 := CHr.wr W281 sf_tx hR0.1
 have sf283 := hA282.safe fa1.lt sf_tx
 have hR284 := hR0.trans hA282
 have f285 := (fa0.wr W281)
 have Z286 := nT Z0 (Keep.of_wr W281).1
 have N287 := Fr.snoc X281 N0 ga0
 have kk288 : k1 ≤ h281.size := (nT hk1 (Keep.of_wr W281).1)
 have f289 : Txt Z h281 tx kt (32 : Int32) (pre ++ [(63 : Int32)]) := G281
 refine OFin.of (fun t ht => iW X0 hx (B at_445) rfl (sW X0 hx (B at_447) rfl (l' := (la45 p0 p1 p2 p3 tx (oN fr) z6 (oN pre.length) (oN i0) tk z10 z11 z12 z13 z14 z15 0 0 (oN pre.length))) rfl (aW X0 hx (B at_449) rfl rfl (iW X0 hx (B at_451) rfl (bP X0 hx (B at_453) (st281 t ht)))))) ?_
 obtain ⟨T290, h290, X290, e290, W290, G290, st290⟩ := own_stT X281 hx hZ e281 f289 (j := ((oN pre.length) + (1 : Int32))) (own_pos _ _) (own_l32 (own_la hl) (by decide)) (g := (mkF m 464 (la45 p0 p1 p2 p3 tx (oN fr) z6 (oN pre.length) (oN i0) tk z10 z11 z12 z13 z14 z15 0 0 (oN pre.length)) [(.int 62), (.int ((oN pre.length) + (1 : Int32))), (.ref tx)])) rfl rfl (B at_464)
 have hA291 := CHr.wr W290 sf283 hR284.1
 have sf292 := hA291.safe f289.lt sf283
 have hR293 := hR284.trans hA291
 have f294 := (f285.wr W290)
 have Z295 := nT Z286 (Keep.of_wr W290).1
 have N296 := Fr.snoc X290 N287 ga0
 have kk297 : k1 ≤ h290.size := (nT kk288 (Keep.of_wr W290).1)
 have f298 : Txt Z h290 tx kt (32 : Int32) ((pre ++ [(63 : Int32)]) ++ [(62 : Int32)]) := G290
 refine OFin.of (fun t ht => aW X281 hx (B at_456) rfl rfl (iW X281 hx (B at_458) rfl (iC X281 hx (B at_460) (XS.iadd X281.here hx rfl (B at_461) rfl (bP X281 hx (B at_462) (st290 t ht)))))) ?_
 obtain ⟨T299, h299, X299, e299, W299, G299, st299⟩ := own_stT X290 hx hZ e290 f298 (j := ((oN pre.length) + (2 : Int32))) (own_pos2 _ _ _) (own_l32 (own_la (own_la hl)) (by decide)) (g := (mkF m 473 (la45 p0 p1 p2 p3 tx (oN fr) z6 (oN pre.length) (oN i0) tk z10 z11 z12 z13 z14 z15 0 0 (oN pre.length)) [(.int 60), (.int ((oN pre.length) + (2 : Int32))), (.ref tx)])) rfl rfl (B at_473)
 have hA300 := CHr.wr W299 sf292 hR293.1
 have sf301 := hA300.safe f298.lt sf292
 have hR302 := hR293.trans hA300
 have f303 := (f294.wr W299)
 have Z304 := nT Z295 (Keep.of_wr W299).1
 have N305 := Fr.snoc X299 N296 ga0
 have kk306 : k1 ≤ h299.size := (nT kk297 (Keep.of_wr W299).1)
 have f307 : Txt Z h299 tx kt (32 : Int32) (((pre ++ [(63 : Int32)]) ++ [(62 : Int32)]) ++ [(60 : Int32)]) := G299
 refine OFin.of (fun t ht => aW X290 hx (B at_465) rfl rfl (iW X290 hx (B at_467) rfl (iC X290 hx (B at_469) (XS.iadd X290.here hx rfl (B at_470) rfl (bP X290 hx (B at_471) (st299 t ht)))))) ?_
 have f308 := f307.front.front.front
 obtain ⟨T309, h309, X309, e309, E309, A309, D309, -, st309⟩ := newO X299 hx hZ hown (wt hw 34 rfl) (wt hw 35 rfl) (wt hw 36 rfl) e299 (g := (mkF m 474 (la45 p0 p1 p2 p3 tx (oN fr) z6 (oN pre.length) (oN i0) tk z10 z11 z12 z13 z14 z15 0 0 (oN pre.length)) [])) rfl (B at_474) (by decide) (by decide)
 obtain ⟨b309, gq309⟩ : ∃ z, z = h299.size := ⟨_, rfl⟩
 rw [← gq309] at A309 D309 st309
 have g310 : n0 ≤ b309 := (nT Z304 (nE gq309.symm))
 have ne311 : tx ≠ b309 := (Nat.ne_of_lt (Nat.lt_of_lt_of_le f308.lt (nE gq309.symm)))
 have hA312 := CHr.ext E309 hR302.1
 have hR313 := hR302.trans hA312
 have f314 := f303.ext E309
 have f315 := f308.ext E309
 have Z316 := nT Z304 E309.1
 have kk317 : k1 ≤ h309.size := (nT kk306 E309.1)
 have f318 : Fld Z h309 b309 cA "text" "[B" .null := D309 (Or.inr (wt hw 44 rfl)) (ty := (.array .byte)) (by decide)
 have f319 : Fld Z h309 b309 cA "at" "I" (.int 0) := D309 (Or.inl (wt hw 46 rfl)) (ty := .int) (by decide)
 have f320 : Fld Z h309 b309 cA "end" "I" (.int 0) := D309 (Or.inr (wt hw 48 rfl)) (ty := .int) (by decide)
 have f321 : Fld Z h309 b309 cA "tagStart" "I" (.int 0) := D309 (Or.inl (wt hw 63 rfl)) (ty := .int) (by decide)
 have f322 : Fld Z h309 b309 cA "emptyElement" "Z" (.int 0) := D309 (Or.inl (wt hw 65 rfl)) (ty := .boolean) (by decide)
 have f323 : Fld Z h309 b309 cA "kind" cF .null := D309 (Or.inl (wt hw 70 rfl)) (ty := (.object cH)) (by decide)
 have f324 : Fld Z h309 b309 cA "nameStart" "I" (.int 0) := D309 (Or.inl (wt hw 80 rfl)) (ty := .int) (by decide)
 have f325 : Fld Z h309 b309 cA "nameEnd" "I" (.int 0) := D309 (Or.inl (wt hw 82 rfl)) (ty := .int) (by decide)
 have f326 : Fld Z h309 b309 cA "nameHash" "I" (.int 0) := D309 (Or.inl (wt hw 84 rfl)) (ty := .int) (by decide)
 have f327 : Fld Z h309 b309 cA "tagEnd" "I" (.int 0) := D309 (Or.inl (wt hw 86 rfl)) (ty := .int) (by decide)
 have f328 : Fld Z h309 b309 cA "attributesLeft" "Z" (.int 0) := D309 (Or.inl (wt hw 90 rfl)) (ty := .boolean) (by decide)
 have M329 : Mk Z h309 b309 .null (.int 0) (.int 0) .null (.int 0) (.int 0) (.int 0) (.int 0) (.int 0) (.int 0) (.int 0) := ⟨f318, f319, f320, f323, f321, f327, f322, f324, f325, f326, f328⟩
 refine OFin.of st309 ?_
 obtain ⟨_, T330, Lc330, X330, hQ330, st330⟩ := own_cN X309 hx hw hZ hown 37 38 36 39 rfl rfl rfl rfl (by decide) rfl (rmIni l Z _ hw [] b309 tx (oN fr) (oN pre.length) h309 n0 Z316 A309 M329 g310) (by decide) (by decide) (g := (mkF m 484 (la45 p0 p1 p2 p3 tx (oN fr) z6 (oN pre.length) (oN i0) tk z10 z11 z12 z13 z14 z15 0 0 (oN pre.length)) [(.int (oN pre.length)), (.int (oN fr)), (.ref tx), (.ref b309), (.ref b309)])) rfl hml rfl (argsL := [(.ref tx), (.int (oN fr)), (.int (oN pre.length))]) (rest := [(.ref b309)]) pd_20 rfl rfl rfl (W := 1) (nE rfl) (B at_484) rfl e309 (by decide) (by decide)
 obtain ⟨rfl, Nq330, Kq330, M330⟩ := hQ330
 have N331 := Fr.app N305 Nq330
 have hA332 := CHr.keep Kq330 (sfS (Safe.exa hZ.alike A309 (by decide) (by decide)) sf0) hR313.1
 have hR333 := hR313.trans hA332
 have f334 := (f314.keep Kq330 (own_snS A309 own_sn0))
 have f335 := (f315.keep Kq330 (ninS ne311 nin0))
 have f336 := (A309.keep Kq330)
 have Z337 := nT Z316 Kq330.1
 have kk338 : k1 ≤ T330.heap.size := (nT kk317 Kq330.1)
 refine OFin.of (fun t ht => XS.dup X309.here hx rfl (B at_477) rfl rfl (aW X309 hx (B at_478) rfl rfl (iW X309 hx (B at_480) rfl (iW X309 hx (B at_482) rfl (st330.trans ht))))) ?_
 obtain ⟨cq340, kq340, q340a, q340b, q340c⟩ := isOf hZ (rfl : T330.heap = T330.heap) f336
 obtain ⟨_, _, ⟨T339, L339, k339, n339⟩, -, X339, Sq339, gr339, ⟨Lc339, hQ339, l339, y339, z339, CH339⟩, st339⟩ := X330.virtualBackS hx (y := mn18) (z := mn18) hown (mvT hZ (wt hw 49 rfl)) (mvT hZ (wt hw 50 rfl)) (notFace_of_selects (args := #[]) (mvT hZ (wt hw 52 rfl))) (mvT hZ (wt hw 52 rfl)) (mvT hZ (wt hw 51 rfl)) (by decide) (backOfSH (s := s) (vm0 := vm1) (W := 0) (own_roomH (R' := (⟨8, 50, 1000, 189⟩ : Jvm.Room)) (rmNt l Z _ hw [] b309 tx kt (32 : Int32) pre .null (0 : Int32) (0 : Int32) (0 : Int32) (0 : Int32) (0 : Int32) (0 : Int32) (0 : Int32) kS kE kI cs fm fr none stp kc T330.heap n0 Z337 f336 M330 f335 g310 ne311 f334.1 f334.2.1 f334.2.2.1 hst.2.2.1 hst.2.2.2 f334.2.2.2.1 hst.1 f334.2.2.2.2.1 hst.2.1 hfr (by decide) hnn) (Nat.le_refl _) (Nat.le_refl _) (Nat.add_le_add_right hk48 2) (own_20 hk48)) hZ (wt hw 53 rfl) (wt hw 36 rfl) (by decide) (by decide) hEL hR333.1) q340a q340c (g := (mkF m 491 (la46 p0 p1 p2 p3 tx (oN fr) z6 (oN pre.length) (oN i0) tk z10 z11 z12 z13 z14 z15 0 0 (oN pre.length) b309) [(.ref b309)])) rfl (by rw [hml]; rfl) (Steps.refl _) (argsL := []) (rest := []) (lenOf pd_4 rfl) rfl (by show 2 * 0 + _ ≤ _; exact nE rfl) (B at_491) (fun _ _ => ⟨rfl, (rfl : T330.heap = T330.heap), (by decide : 6 + 50 ≤ _), (by decide : 213 + 1000 ≤ _)⟩)
 dsimp only [Pt.U, Pt.locs, Pt.cells, Pt.slots] at X339 l339 y339 z339 st339 hQ339 Sq339 gr339 CH339
 subst l339 y339 z339
 have hZ339 : Z.Warmed39 (s.setVm T339.vm).vm := State.Warmed39.trans (t := s.setVm vm1) hZ Sq339.1
 have hown339 : (s.setVm T339.vm).vm.findClass cC = some m.cls := by rw [show (s.setVm T339.vm).vm = T339.vm from rfl, Sq339.1.alike.findClass]; exact hown
 have S339 : s.Since T339.vm T339.heap.size := hS1.trans Sq339 (nT kk338 gr339)
 obtain ⟨rfl, Nq339, Kq339, M339⟩ := own_q0 hQ339
 have N341 := Fr.app N331 Nq339
 have hA342 := CH339
 have hR343 := hR333.trans hA342
 have f344 := (f334.keep Kq339 (own_snS f336 own_sn0))
 have f345 := (f335.keep Kq339 (ninS ne311 nin0))
 have f346 := (f336.keep Kq339)
 have Z347 := nT Z337 Kq339.1
 refine OFin.of (fun t ht => XS.astore X330.here hx rfl (B at_487) rfl rfl (l' := (la46 p0 p1 p2 p3 tx (oN fr) z6 (oN pre.length) (oN i0) tk z10 z11 z12 z13 z14 z15 0 0 (oN pre.length) b309)) rfl (aW X330 hx (B at_489) rfl rfl (st339.trans ht))) ?_
 obtain ⟨_, T348, Lc348, X348, hQ348, st348⟩ := own_cV X339 hx hw hZ339 hown339 91 92 94 93 36 95 rfl rfl rfl rfl rfl rfl (by decide) f346 (rmKdN l Z _ hw [] b309 T339.heap n0 Z347 M339.g_kind) (by decide) (by decide) (g := (mkF m 498 (la47 p0 p1 p2 p3 tx (oN fr) z6 (oN pre.length) (oN i0) tk z10 z11 z12 z13 z14 z15 0 0 (oN pre.length) b309 0) [(.ref b309)])) rfl hml rfl (argsL := []) (rest := []) pd_30 rfl rfl rfl (W := 0) (nE rfl) (B at_498) rfl (rfl : T339.heap = T339.heap) (by decide) (by decide)
 obtain ⟨rfl, Nq348, hs348⟩ := hQ348
 have N349 := Fr.app N341 Nq348
 refine OFin.of (fun t ht => sW X339 hx (B at_494) rfl (l' := (la47 p0 p1 p2 p3 tx (oN fr) z6 (oN pre.length) (oN i0) tk z10 z11 z12 z13 z14 z15 0 0 (oN pre.length) b309 0)) rfl (aW X339 hx (B at_496) rfl rfl (st348.trans ht))) ?_
 obtain ⟨_, T350, Lc350, X350, hQ350, st350⟩ := own_cV X348 hx hw hZ339 hown339 96 97 99 98 36 100 rfl rfl rfl rfl rfl rfl (by decide) f346 (rmTs l Z _ hw [] b309 (oN stp) T339.heap n0 Z347 M339.g_tagStart) (by decide) (by decide) (g := (mkF m 505 (la48 p0 p1 p2 p3 tx (oN fr) z6 (oN pre.length) (oN i0) tk z10 z11 z12 z13 z14 z15 0 0 (oN pre.length) b309 0) [(.ref b309)])) rfl hml rfl (argsL := []) (rest := []) pd_6 rfl rfl rfl (W := 0) (nE rfl) (B at_505) rfl hs348 (by decide) (by decide)
 obtain ⟨rfl, Nq350, hs350⟩ := hQ350
 have N351 := Fr.app N349 Nq350
 refine OFin.of (fun t ht => XS.astore X348.here hx rfl (B at_501) rfl rfl (l' := (la48 p0 p1 p2 p3 tx (oN fr) z6 (oN pre.length) (oN i0) tk z10 z11 z12 z13 z14 z15 0 0 (oN pre.length) b309 0)) rfl (aW X348 hx (B at_503) rfl rfl (st350.trans ht))) ?_
 obtain ⟨_, T352, Lc352, X352, hQ352, st352⟩ := own_cV X350 hx hw hZ339 hown339 101 102 104 103 36 105 rfl rfl rfl rfl rfl rfl (by decide) f346 (rmTe l Z _ hw [] b309 (0 : Int32) T339.heap n0 Z347 M339.g_tagEnd) (by decide) (by decide) (g := (mkF m 512 (la49 p0 p1 p2 p3 tx (oN fr) z6 (oN pre.length) (oN i0) tk z10 z11 z12 z13 z14 z15 0 0 (oN pre.length) b309 0 (oN stp)) [(.ref b309)])) rfl hml rfl (argsL := []) (rest := []) pd_6 rfl rfl rfl (W := 0) (nE rfl) (B at_512) rfl hs350 (by decide) (by decide)
 obtain ⟨rfl, Nq352, hs352⟩ := hQ352
 have N353 := Fr.app N351 Nq352
 refine OFin.of (fun t ht => sW X350 hx (B at_508) rfl (l' := (la49 p0 p1 p2 p3 tx (oN fr) z6 (oN pre.length) (oN i0) tk z10 z11 z12 z13 z14 z15 0 0 (oN pre.length) b309 0 (oN stp))) rfl (aW X350 hx (B at_510) rfl rfl (st352.trans ht))) ?_
 obtain ⟨cq355, kq355, q355a, q355b, q355c⟩ := isOf hZ339 hs352 f346
 obtain ⟨_, _, ⟨T354, L354, k354, n354⟩, -, X354, Sq354, gr354, ⟨Lc354, hQ354, l354, y354, z354, CH354⟩, st354⟩ := X352.virtualBackS hx (y := mn46) (z := mn46) hown339 (mvT hZ339 (wt hw 106 rfl)) (mvT hZ339 (wt hw 107 rfl)) (notFace_of_selects (args := #[]) (mvT hZ339 (wt hw 109 rfl))) (mvT hZ339 (wt hw 109 rfl)) (mvT hZ339 (wt hw 108 rfl)) (by decide) (backOfSH (s := s) (vm0 := T339.vm) (W := 0) (rmNm0 l Z _ hw [] b309 tx kt (32 : Int32) pre 0 u8 fm T339.heap n0 Z347 f346 M339.g_text M339.g_nameStart M339.g_nameEnd f345 f344.2.2.2.2.2.2.2.2.2.2 f344.2.2.2.2.2.2.1 f344.2.2.2.2.1 hst.2.1 (Nat.zero_le _)) hZ339 (wt hw 110 rfl) (wt hw 36 rfl) (by decide) (by decide) hEL hR343.1) q355a q355c (g := (mkF m 519 (la50 p0 p1 p2 p3 tx (oN fr) z6 (oN pre.length) (oN i0) tk z10 z11 z12 z13 z14 z15 0 0 (oN pre.length) b309 0 (oN stp) 0) [(.ref b309)])) rfl (by rw [hml]; rfl) (Steps.refl _) (argsL := []) (rest := []) (lenOf pd_31 rfl) rfl (by show 2 * 0 + _ ≤ _; exact nE rfl) (B at_519) (fun _ _ => ⟨rfl, hs352, (by decide : 56 + 5 ≤ _), (by decide : 1213 + 12 ≤ _)⟩)
 dsimp only [Pt.U, Pt.locs, Pt.cells, Pt.slots] at X354 l354 y354 z354 st354 hQ354 Sq354 gr354 CH354
 subst l354 y354 z354
 have hZ354 : Z.Warmed39 (s.setVm T354.vm).vm := State.Warmed39.trans (t := s.setVm T339.vm) hZ339 Sq354.1
 have hown354 : (s.setVm T354.vm).vm.findClass cC = some m.cls := by rw [show (s.setVm T354.vm).vm = T354.vm from rfl, Sq354.1.alike.findClass]; exact hown339
 have S354 : s.Since T354.vm T354.heap.size := State.Since.trans (s := s) (vm₁ := T339.vm) S339 Sq354 (nT (Nat.le_refl _) (by rw [← hs352]; exact gr354))
 obtain ⟨rfl, Nq354, Kq354, Sn354⟩ := hQ354
 obtain ⟨b354, gq354⟩ : ∃ z, z = T339.heap.size := ⟨_, rfl⟩
 rw [← gq354] at Sn354 st354
 have N356 := Fr.app N353 Nq354
 have hA357 := CH354
 have hR358 := hR343.trans hA357
 have f359 := (f344.keep Kq354 own_sn0)
 have f360 := (f345.keep Kq354 nin0)
 have f361 := (f346.keep Kq354)
 have f362 := (M339.keep Kq354 nin0)
 have Z363 := nT Z347 Kq354.1
 refine OFin.of (fun t ht => sW X352 hx (B at_515) rfl (l' := (la50 p0 p1 p2 p3 tx (oN fr) z6 (oN pre.length) (oN i0) tk z10 z11 z12 z13 z14 z15 0 0 (oN pre.length) b309 0 (oN stp) 0)) rfl (aW X352 hx (B at_517) rfl rfl (st354.trans ht))) ?_
 obtain ⟨cq365, kq365, q365a, q365b, q365c⟩ := isOf hZ354 (rfl : T354.heap = T354.heap) f361
 obtain ⟨_, _, ⟨T364, L364, k364, n364⟩, -, X364, Sq364, gr364, ⟨Lc364, hQ364, l364, y364, z364, CH364⟩, st364⟩ := X354.virtualBackS hx (y := mn18) (z := mn18) hown354 (mvT hZ354 (wt hw 49 rfl)) (mvT hZ354 (wt hw 50 rfl)) (notFace_of_selects (args := #[]) (mvT hZ354 (wt hw 52 rfl))) (mvT hZ354 (wt hw 52 rfl)) (mvT hZ354 (wt hw 51 rfl)) (by decide) (backOfSH (s := s) (vm0 := T354.vm) (W := 0) (own_roomH (R' := (⟨8, 2, 40, 189⟩ : Jvm.Room)) (rmNt l Z _ hw [] b309 tx kt (32 : Int32) pre .null (oN stp) (0 : Int32) (0 : Int32) (0 : Int32) (0 : Int32) (0 : Int32) (0 : Int32) kS kE kI cs fm pre.length none pre.length 0 T354.heap n0 Z363 f361 f362 f360 g310 ne311 f359.1 f359.2.1 f359.2.2.1 hst.2.2.1 hst.2.2.2 f359.2.2.2.1 hst.1 f359.2.2.2.2.1 hst.2.1 (Nat.le_refl _) (by decide) (own_ne pre)) (Nat.le_refl _) (Nat.le_refl _) (Nat.le_refl _) (Nat.le_refl _)) hZ354 (wt hw 53 rfl) (wt hw 36 rfl) (by decide) (by decide) hEL hR358.1) q365a q365c (g := (mkF m 526 (la51 p0 p1 p2 p3 tx (oN fr) z6 (oN pre.length) (oN i0) tk z10 z11 z12 z13 z14 z15 0 0 (oN pre.length) b309 0 (oN stp) 0 b354) [(.ref b309)])) rfl (by rw [hml]; rfl) (Steps.refl _) (argsL := []) (rest := []) (lenOf pd_4 rfl) rfl (by show 2 * 0 + _ ≤ _; exact nE rfl) (B at_526) (fun _ _ => ⟨rfl, (rfl : T354.heap = T354.heap), (by decide : 61 + 2 ≤ _), (by decide : 1225 + 40 ≤ _)⟩)
 dsimp only [Pt.U, Pt.locs, Pt.cells, Pt.slots] at X364 l364 y364 z364 st364 hQ364 Sq364 gr364 CH364
 subst l364 y364 z364
 have hZ364 : Z.Warmed39 (s.setVm T364.vm).vm := State.Warmed39.trans (t := s.setVm T354.vm) hZ354 Sq364.1
 have hown364 : (s.setVm T364.vm).vm.findClass cC = some m.cls := by rw [show (s.setVm T364.vm).vm = T364.vm from rfl, Sq364.1.alike.findClass]; exact hown354
 have S364 : s.Since T364.vm T364.heap.size := S354.trans Sq364 (nT (Nat.le_refl _) gr364)
 obtain ⟨rfl, Nq364, Kq364, M364⟩ := own_q0 hQ364
 have N366 := Fr.app N356 Nq364
 have hA367 := CH364
 have hR368 := hR358.trans hA367
 have f369 := (f359.keep Kq364 (own_snS f361 own_sn0))
 have f370 := (f360.keep Kq364 (ninS ne311 nin0))
 have f371 := (f361.keep Kq364)
 have Z372 := nT Z363 Kq364.1
 refine OFin.of (fun t ht => XS.astore X354.here hx rfl (B at_522) rfl rfl (l' := (la51 p0 p1 p2 p3 tx (oN fr) z6 (oN pre.length) (oN i0) tk z10 z11 z12 z13 z14 z15 0 0 (oN pre.length) b309 0 (oN stp) 0 b354)) rfl (aW X354 hx (B at_524) rfl rfl (st364.trans ht))) ?_
 obtain ⟨_, T373, Lc373, X373, hQ373, st373⟩ := own_cV X364 hx hw hZ364 hown364 91 92 94 93 36 95 rfl rfl rfl rfl rfl rfl (by decide) f371 (rmKdN l Z _ hw [] b309 T364.heap n0 Z372 M364.g_kind) (by decide) (by decide) (g := (mkF m 533 (la52 p0 p1 p2 p3 tx (oN fr) z6 (oN pre.length) (oN i0) tk z10 z11 z12 z13 z14 z15 0 0 (oN pre.length) b309 0 (oN stp) 0 b354 0) [(.ref b309)])) rfl hml rfl (argsL := []) (rest := []) pd_30 rfl rfl rfl (W := 0) (nE rfl) (B at_533) rfl (rfl : T364.heap = T364.heap) (by decide) (by decide)
 obtain ⟨rfl, Nq373, hs373⟩ := hQ373
 have N374 := Fr.app N366 Nq373
 refine OFin.of (fun t ht => sW X364 hx (B at_529) rfl (l' := (la52 p0 p1 p2 p3 tx (oN fr) z6 (oN pre.length) (oN i0) tk z10 z11 z12 z13 z14 z15 0 0 (oN pre.length) b309 0 (oN stp) 0 b354 0)) rfl (aW X364 hx (B at_531) rfl rfl (st373.trans ht))) ?_
 obtain ⟨_, T375, Lc375, X375, hQ375, st375⟩ := own_cV X373 hx hw hZ364 hown364 96 97 99 98 36 100 rfl rfl rfl rfl rfl rfl (by decide) f371 (rmTs l Z _ hw [] b309 (oN pre.length) T364.heap n0 Z372 M364.g_tagStart) (by decide) (by decide) (g := (mkF m 540 (la53 p0 p1 p2 p3 tx (oN fr) z6 (oN pre.length) (oN i0) tk z10 z11 z12 z13 z14 z15 0 0 (oN pre.length) b309 0 (oN stp) 0 b354 0) [(.ref b309)])) rfl hml rfl (argsL := []) (rest := []) pd_6 rfl rfl rfl (W := 0) (nE rfl) (B at_540) rfl hs373 (by decide) (by decide)
 obtain ⟨rfl, Nq375, hs375⟩ := hQ375
 have N376 := Fr.app N374 Nq375
 refine OFin.of (fun t ht => XS.astore X373.here hx rfl (B at_536) rfl rfl (l' := (la53 p0 p1 p2 p3 tx (oN fr) z6 (oN pre.length) (oN i0) tk z10 z11 z12 z13 z14 z15 0 0 (oN pre.length) b309 0 (oN stp) 0 b354 0)) rfl (aW X373 hx (B at_538) rfl rfl (st375.trans ht))) ?_
 refine OFin.of (S' := T375.setTop (mkF m 547 (la54 p0 p1 p2 p3 tx (oN fr) z6 (oN pre.length) (oN i0) tk z10 z11 z12 z13 z14 z15 0 0 (oN pre.length) b309 0 (oN stp) 0 b354 0 (oN pre.length)) [(.int tk)])) (fun t ht => sW X375 hx (B at_543) rfl (l' := (la54 p0 p1 p2 p3 tx (oN fr) z6 (oN pre.length) (oN i0) tk z10 z11 z12 z13 z14 z15 0 0 (oN pre.length) b309 0 (oN stp) 0 b354 0 (oN pre.length))) rfl (iW X375 hx (B at_545) rfl ht)) ?_
 rcases hsp with ⟨rfl, hsp⟩ | ⟨rfl, hsp⟩
 ·refine OFin.of (S' := T375.setTop (mkF m 609 (la55 p0 p1 p2 p3 tx (oN fr) z6 (oN pre.length) (oN i0) 0 z10 z11 z12 z13 z14 z15 0 0 (oN pre.length) b309 0 (oN stp) 0 b354 0 (oN pre.length) (oN pre.length)) [(.int 1)])) (fun t ht => fY X375 hx 547 556 rfl (B at_547) rfl ((if0 _ _).trans (teq (by decide : (0 : Int32) = 0)).1) (by decide) (iW X375 hx (B at_556) rfl (fN X375 hx (B at_558) rfl ((if0 _ _).trans (teq (by decide : (0 : Int32) = 0)).2) (iW X375 hx (B at_561) rfl (gO X375 hx 563 568 rfl (B at_563) (by decide) (sW X375 hx (B at_568) rfl (l' := (la55 p0 p1 p2 p3 tx (oN fr) z6 (oN pre.length) (oN i0) 0 z10 z11 z12 z13 z14 z15 0 0 (oN pre.length) b309 0 (oN stp) 0 b354 0 (oN pre.length) (oN pre.length))) rfl (iW X375 hx (B at_570) rfl (fN X375 hx (B at_572) rfl ((if0 _ _).trans (teq (by decide : (0 : Int32) = 0)).2) (aW X375 hx (B at_575) rfl rfl (XS.ifnonnullNo X375.here hx rfl (B at_577) rfl (iW X375 hx (B at_580) rfl (iW X375 hx (B at_582) rfl (cN X375 hx (B at_584) rfl (teq (congrArg oN hsp : (oN stp) = (oN pre.length))).2 (iW X375 hx (B at_587) rfl (fN X375 hx (B at_589) rfl ((if0 _ _).trans (teq (by decide : (0 : Int32) = 0)).2) (aW X375 hx (B at_592) rfl rfl (XS.ifnonnullNo X375.here hx rfl (B at_594) rfl (iW X375 hx (B at_597) rfl (iW X375 hx (B at_599) rfl (cN X375 hx (B at_601) rfl (teq (rfl : (oN pre.length) = (oN pre.length))).2 (iC X375 hx (B at_604) (gO X375 hx 605 609 rfl (B at_605) (by decide) ht)))))))))))))))))))))) ?_
  exact OFin.retBW (s := s) (vm₁ := T364.vm) X375 S364 (by rw [hs375]; exact (Nat.le_refl _)) hx hlk (t := .boolean) (by simp) hret (B at_609) (by decide) (by decide) (by rw [hs375]; exact hQ _ _ N376)
 ·refine OFin.of (S' := T375.setTop (mkF m 609 (la55 p0 p1 p2 p3 tx (oN fr) z6 (oN pre.length) (oN i0) 4 z10 z11 z12 z13 z14 z15 0 0 (oN pre.length) b309 0 (oN stp) 0 b354 0 (oN pre.length) (oN i0)) [(.int 1)])) (fun t ht => fN X375 hx (B at_547) rfl ((if0 _ _).trans (feq (by decide : ¬ ((4 : Int32) = 0))).1) (iW X375 hx (B at_550) rfl (iC X375 hx (B at_552) (cN X375 hx (B at_553) rfl (teq (by decide : (4 : Int32) = 4)).2 (iW X375 hx (B at_556) rfl (fY X375 hx 558 566 rfl (B at_558) rfl ((if0 _ _).trans (feq (by decide : ¬ ((4 : Int32) = 0))).2) (by decide) (iW X375 hx (B at_566) rfl (sW X375 hx (B at_568) rfl (l' := (la55 p0 p1 p2 p3 tx (oN fr) z6 (oN pre.length) (oN i0) 4 z10 z11 z12 z13 z14 z15 0 0 (oN pre.length) b309 0 (oN stp) 0 b354 0 (oN pre.length) (oN i0))) rfl (iW X375 hx (B at_570) rfl (fN X375 hx (B at_572) rfl ((if0 _ _).trans (teq (by decide : (0 : Int32) = 0)).2) (aW X375 hx (B at_575) rfl rfl (XS.ifnonnullNo X375.here hx rfl (B at_577) rfl (iW X375 hx (B at_580) rfl (iW X375 hx (B at_582) rfl (cN X375 hx (B at_584) rfl (teq (congrArg oN hsp : (oN stp) = (oN i0))).2 (iW X375 hx (B at_587) rfl (fN X375 hx (B at_589) rfl ((if0 _ _).trans (teq (by decide : (0 : Int32) = 0)).2) (aW X375 hx (B at_592) rfl rfl (XS.ifnonnullNo X375.here hx rfl (B at_594) rfl (iW X375 hx (B at_597) rfl (iW X375 hx (B at_599) rfl (cN X375 hx (B at_601) rfl (teq (rfl : (oN pre.length) = (oN pre.length))).2 (iC X375 hx (B at_604) (gO X375 hx 605 609 rfl (B at_605) (by decide) ht)))))))))))))))))))))))) ?_
  exact OFin.retBW (s := s) (vm₁ := T364.vm) X375 S364 (by rw [hs375]; exact (Nat.le_refl _)) hx hlk (t := .boolean) (by simp) hret (B at_609) (by decide) (by decide) (by rw [hs375]; exact hQ _ _ N376)
theorem seg188 {vm1 : Vm} {Z : State} {a0 : Array Value} (H : OwnCtx p s m meth c vm1 Z a0) {Q : Option Value → Heap → List Loc → Prop} {n0 : Nat} {kS kE kI : Addr} {cs : Int32} {fm : Value} {u8 : Addr} {p0 p1 p2 p3 : Int32} {tx : Addr} {z6 : Slot} {tk nq tc cl tb uv tm : Int32} {kt : ClassId} {pre : List Int32} {fr k0 : Nat} {T0 : State} {locs : List Loc} {h0 : Heap} (X0 : Stand p l e room_1 (s.setVm vm1) m args below meth c T0 locs 3 100) (e0 : T0.heap = h0) (Z0 : n0 ≤ h0.size) (N0 : Fr n0 locs) (fa0 : Stm Z h0 kS kE kI cs fm u8) (fa1 : Txt Z h0 tx kt (32 : Int32) pre) (ga0 : n0 ≤ tx) (hst : OwnSt kS kE kI cs fm) (hsk : OwnSk fr pre k0) (htk : OwnTk tk) (hn : nq = 0 ∨ nq = 1 ∨ nq = 2 ∨ nq = 3) (ht8 : OwnT8 tc) (hcl : Own01 cl) (htb : Own01 tb) (hx5 : tk = 1 → nq = 0 → ¬ tc = 5) (htm : OwnTmc tm tc) (hC0 : CHv Z consts_1 vm1 h0) (sf_tx : Safe Z consts_1 vm1 h0 tx) {k1 : Nat} (hS1 : s.Since vm1 k1) (hk1 : k1 ≤ h0.size) (hQ : OwnEnd n0 Q) :
  OFin p e below (KPostW s Q room_1.cells room_1.slots) (T0.setTop (mkF m 188 (la56 p0 p1 p2 p3 tx (oN fr) z6 (oN pre.length) (oN pre.length) tk nq tc cl tb uv tm) [])) := by
 obtain ⟨hw, hx, B, hlk, hret, hml, hown, hZ⟩ := H
 have hR0 : CHr Z consts_1 vm1 h0 vm1 h0 := CHr.refl hC0
 have hEL := own_EW hw
 refine OFin.of (S' := T0.setTop (mkF m 197 (la58 p0 p1 p2 p3 tx (oN fr) z6 (oN pre.length) (oN pre.length) tk nq tc cl tb uv tm 0 0) [(.int 4), (.int tk)])) (fun t ht => iC X0 hx (B at_188) (sW X0 hx (B at_189) rfl (l' := (la57 p0 p1 p2 p3 tx (oN fr) z6 (oN pre.length) (oN pre.length) tk nq tc cl tb uv tm 0)) rfl (iC X0 hx (B at_191) (sW X0 hx (B at_192) rfl (l' := (la58 p0 p1 p2 p3 tx (oN fr) z6 (oN pre.length) (oN pre.length) tk nq tc cl tb uv tm 0 0)) rfl (iW X0 hx (B at_194) rfl (iC X0 hx (B at_196) ht)))))) ?_
 by_cases hc377 : tk = 4
 ·obtain ⟨_, _, ⟨T378, L378, k378, n378⟩, -, X378, Sq378, gr378, ⟨Lc378, hQ378, l378, y378, z378, CH378⟩, st378⟩ := callSS X0 hx (y := mn27) hown (mvT hZ (wt hw 162 rfl)) (mvT hZ (wt hw 163 rfl)) (mvT hZ (wt hw 3 rfl)) (mvT hZ (wt hw 164 rfl)) (by decide) (backOfSH (s := s) (vm0 := vm1) (W := 2) (rmUnf l Z _ hw [] uv h0 n0 Z0 ) hZ (wt hw 164 rfl) (wt hw 3 rfl) (by decide) (by decide) hEL hR0.1) (g := (mkF m 206 (la58 p0 p1 p2 p3 tx (oN fr) z6 (oN pre.length) (oN pre.length) tk nq tc cl tb uv tm 0 0) [(.int uv), (.int (oN pre.length)), (.ref tx)])) rfl (by rw [hml]; rfl) (argsL := [(.int uv)]) (rest := [(.int (oN pre.length)), (.ref tx)]) (lenOf pd_32 rfl) rfl (by show 2 * 0 + _ ≤ _; exact nE rfl) (B at_206) (fun _ _ => ⟨rfl, e0, (by decide : 3 + 2 ≤ _), (by decide : 100 + 52 ≤ _)⟩)
  dsimp only [Pt.U, Pt.locs, Pt.cells, Pt.slots] at X378 l378 y378 z378 st378 hQ378 Sq378 gr378 CH378
  subst l378 y378 z378
  have hZ378 : Z.Warmed39 (s.setVm T378.vm).vm := State.Warmed39.trans (t := s.setVm vm1) hZ Sq378.1
  have hown378 : (s.setVm T378.vm).vm.findClass cC = some m.cls := by rw [show (s.setVm T378.vm).vm = T378.vm from rfl, Sq378.1.alike.findClass]; exact hown
  have S378 : s.Since T378.vm T378.heap.size := State.Since.trans (s := s) (vm₁ := vm1) hS1 Sq378 (nT hk1 (by rw [← e0]; exact gr378))
  obtain ⟨al378, tv378, kv378, rfl, Nq378, Kq378, Ea378, Fc378, Fv378, Tv378⟩ := hQ378
  have N379 := Fr.app N0 Nq378
  have hA380 := CH378
  have sf381 := hA380.safe fa1.lt sf_tx
  have hR382 := hR0.trans hA380
  have f383 := (fa0.keep Kq378 own_sn0)
  have f384 := (fa1.keep Kq378 nin0)
  have Z385 := nT Z0 Kq378.1
  refine OFin.of (fun t ht => cN X0 hx (B at_197) rfl (teq hc377).2 (aW X0 hx (B at_200) rfl rfl (iW X0 hx (B at_202) rfl (iW X0 hx (B at_204) rfl (st378.trans ht))))) ?_
  obtain ⟨_, T386, Lc386, X386, hQ386, st386⟩ := own_cS X378 hx hw hZ378 hown378 12 13 3 14 rfl rfl rfl rfl (by decide) (rmPal l Z _ hw [] tx al378 tv378 kv378 (own_unf uv) cs fm kt (32 : Int32) pre T378.heap n0 Z385 Ea378 Fc378 Fv378 Tv378 f383.2.2.2.1 hst.1 f383.2.2.2.2.1 hst.2.1 (own_unf_lit _).1 (nT (own_unf_lit _).2 (by decide)) f384 ga0 (Ne.symm (Txt.neExa f384 Ea378 (wt hw 7 rfl))) (own_txne Tv378 f384 (own_c32 (nT (own_unf_lit _).2 (by decide)))) (own_r32 hsk.2.1 (nT (own_unf_lit _).2 (by decide))) (by decide)) (by decide) (by decide) (g := (mkF m 209 (la58 p0 p1 p2 p3 tx (oN fr) z6 (oN pre.length) (oN pre.length) tk nq tc cl tb uv tm 0 0) [(.ref al378), (.int (oN pre.length)), (.ref tx)])) rfl hml rfl (argsL := [(.ref tx), (.int (oN pre.length)), (.ref al378)]) (rest := []) pd_33 rfl rfl rfl (W := 0) (nE rfl) (B at_209) rfl (rfl : T378.heap = T378.heap) (by decide) (by decide)
  obtain ⟨rfl, Nq386, Kq386, f386⟩ := hQ386
  have N387 := Fr.app N379 Nq386
  have hA388 := CHr.keep Kq386 (sfS sf381 sf0) hR382.1
  have sf389 := hA388.safe f384.lt sf381
  have hR390 := hR382.trans hA388
  have f391 := (f383.keep Kq386 (own_snT f384 own_sn0))
  have Z392 := nT Z385 Kq386.1
  have kk393 : T378.heap.size ≤ T386.heap.size := (nT (Nat.le_refl _) Kq386.1)
  refine OFin.to st386 ?_
  refine OFin.of (S' := T386.setTop (mkF m 445 (la58 p0 p1 p2 p3 tx (oN fr) z6 (oN (pre.length + (own_unf uv).length)) (oN pre.length) tk nq tc cl tb uv tm 0 0) [])) (fun t ht => sW X386 hx (B at_212) rfl (l' := (la58 p0 p1 p2 p3 tx (oN fr) z6 (oN (pre.length + (own_unf uv).length)) (oN pre.length) tk nq tc cl tb uv tm 0 0)) rfl (gO X386 hx 214 445 rfl (B at_214) (by decide) ht)) ?_
  rw [← List.length_append]
  obtain ⟨kc, hk48, hnn⟩ := own_non hsk uv
  exact segN (s := s) (vm1 := T378.vm) ⟨hw, hx, B, hlk, hret, hml, hown378, hZ378⟩ (X386.more (by decide) (by decide)) (rfl : T386.heap = T386.heap) Z392 N387 f391 f386 ga0 hst (nT (own_lu hsk.2.1 uv) (by decide)) hnn hk48 (nT hsk.1 (own_lap _ _)) (Or.inr ⟨hc377, rfl⟩) hR390.1 sf389  S378 kk393 hQ
 ·refine OFin.of (S' := T0.setTop (mkF m 219 (la58 p0 p1 p2 p3 tx (oN fr) z6 (oN pre.length) (oN pre.length) tk nq tc cl tb uv tm 0 0) [(.int tk)])) (fun t ht => cY X0 hx 197 217 rfl (B at_197) rfl (feq hc377).2 (by decide) (iW X0 hx (B at_217) rfl ht)) ?_
  by_cases hc394 : tk = 0
  ·refine OFin.of (S' := T0.setTop (mkF m 445 (la58 p0 p1 p2 p3 tx (oN fr) z6 (oN pre.length) (oN pre.length) tk nq tc cl tb uv tm 0 0) [])) (fun t ht => fY X0 hx 219 445 rfl (B at_219) rfl ((if0 _ _).trans (teq hc394).1) (by decide) ht) ?_
   exact segN (s := s) (vm1 := vm1) ⟨hw, hx, B, hlk, hret, hml, hown, hZ⟩ (X0.more (by decide) (by decide)) e0 Z0 N0 fa0 fa1 ga0 hst (nT hsk.2.1 (by decide)) (own_nn0 hsk) (nT hsk.2.2.1 (by decide)) hsk.1 (Or.inl ⟨hc394, rfl⟩) hR0.1 sf_tx  hS1 hk1 hQ
  ·obtain ⟨T395, h395, X395, e395, W395, G395, st395⟩ := own_stT X0 hx hZ e0 fa1 (j := (oN pre.length)) rfl (own_l32 hsk.2.1 (by decide)) (g := (mkF m 228 (la58 p0 p1 p2 p3 tx (oN fr) z6 (oN pre.length) (oN pre.length) tk nq tc cl tb uv tm 0 0) [(.int 60), (.int (oN pre.length)), (.ref tx)])) rfl rfl (B at_228)
   have hA396 := CHr.wr W395 sf_tx hR0.1
   have sf397 := hA396.safe fa1.lt sf_tx
   have hR398 := hR0.trans hA396
   have f399 := (fa0.wr W395)
   have Z400 := nT Z0 (Keep.of_wr W395).1
   have N401 := Fr.snoc X395 N0 ga0
   have kk402 : k1 ≤ h395.size := (nT hk1 (Keep.of_wr W395).1)
   have f403 : Txt Z h395 tx kt (32 : Int32) (pre ++ [(60 : Int32)]) := G395
   refine OFin.of (fun t ht => fN X0 hx (B at_219) rfl ((if0 _ _).trans (feq hc394).1) (aW X0 hx (B at_222) rfl rfl (iW X0 hx (B at_224) rfl (bP X0 hx (B at_226) (st395 t ht))))) ?_
   refine OFin.of (S' := T395.setTop (mkF m 235 (la58 p0 p1 p2 p3 tx (oN fr) z6 ((oN pre.length) + (1 : Int32)) (oN pre.length) tk nq tc cl tb uv tm 0 0) [])) (fun t ht => iW X395 hx (B at_229) rfl (iC X395 hx (B at_231) (XS.iadd X395.here hx rfl (B at_232) rfl (sW X395 hx (B at_233) rfl (l' := (la58 p0 p1 p2 p3 tx (oN fr) z6 ((oN pre.length) + (1 : Int32)) (oN pre.length) tk nq tc cl tb uv tm 0 0)) rfl ht)))) ?_
   rw [own_pos pre (60 : Int32)]
   refine OFin.of (S' := T395.setTop (mkF m 238 (la58 p0 p1 p2 p3 tx (oN fr) z6 (oN (pre ++ [(60 : Int32)]).length) (oN pre.length) tk nq tc cl tb uv tm 0 0) [(.int 2), (.int tk)])) (fun t ht => iW X395 hx (B at_235) rfl (iC X395 hx (B at_237) ht)) ?_
   by_cases hc404 : tk = 2
   ·obtain ⟨T405, h405, X405, e405, W405, G405, st405⟩ := own_stT X395 hx hZ e395 f403 (j := (oN (pre ++ [(60 : Int32)]).length)) rfl (own_l32 (own_la hsk.2.1) (by decide)) (g := (mkF m 247 (la58 p0 p1 p2 p3 tx (oN fr) z6 (oN (pre ++ [(60 : Int32)]).length) (oN pre.length) tk nq tc cl tb uv tm 0 0) [(.int 47), (.int (oN (pre ++ [(60 : Int32)]).length)), (.ref tx)])) rfl rfl (B at_247)
    have hA406 := CHr.wr W405 sf397 hR398.1
    have sf407 := hA406.safe f403.lt sf397
    have hR408 := hR398.trans hA406
    have f409 := (f399.wr W405)
    have Z410 := nT Z400 (Keep.of_wr W405).1
    have N411 := Fr.snoc X405 N401 ga0
    have kk412 : k1 ≤ h405.size := (nT kk402 (Keep.of_wr W405).1)
    have f413 : Txt Z h405 tx kt (32 : Int32) ((pre ++ [(60 : Int32)]) ++ [(47 : Int32)]) := G405
    refine OFin.of (fun t ht => cN X395 hx (B at_238) rfl (teq hc404).2 (aW X395 hx (B at_241) rfl rfl (iW X395 hx (B at_243) rfl (bP X395 hx (B at_245) (st405 t ht))))) ?_
    refine OFin.of (S' := T405.setTop (mkF m 254 (la58 p0 p1 p2 p3 tx (oN fr) z6 ((oN (pre ++ [(60 : Int32)]).length) + (1 : Int32)) (oN pre.length) tk nq tc cl tb uv tm 0 0) [])) (fun t ht => iW X405 hx (B at_248) rfl (iC X405 hx (B at_250) (XS.iadd X405.here hx rfl (B at_251) rfl (sW X405 hx (B at_252) rfl (l' := (la58 p0 p1 p2 p3 tx (oN fr) z6 ((oN (pre ++ [(60 : Int32)]).length) + (1 : Int32)) (oN pre.length) tk nq tc cl tb uv tm 0 0)) rfl ht)))) ?_
    rw [own_pos (pre ++ [(60 : Int32)]) (47 : Int32)]
    refine OFin.of (S' := T405.setTop (mkF m 273 (la58 p0 p1 p2 p3 tx (oN fr) z6 (oN ((pre ++ [(60 : Int32)]) ++ [(47 : Int32)]).length) (oN pre.length) tk nq tc cl tb uv tm 0 0) [])) (fun t ht => iW X405 hx (B at_254) rfl (iC X405 hx (B at_256) (cY X405 hx 257 273 rfl (B at_257) rfl (feq (own_t23 hc404 : ¬ (tk = 3))).2 (by decide) ht))) ?_
    exact seg273 (s := s) (vm1 := vm1) ⟨hw, hx, B, hlk, hret, hml, hown, hZ⟩ (X405.more (by decide) (by decide)) e405 Z410 N411 f409 f413 ga0 hst (nT (own_la (own_la hsk.2.1)) (by decide)) hsk (Or.inr (Or.inl ⟨hc404, rfl⟩)) hn ht8 hcl htb hx5 htm (List.append_assoc _ _ _) hR408.1 sf407  hS1 kk412 hQ
   ·refine OFin.of (S' := T395.setTop (mkF m 257 (la58 p0 p1 p2 p3 tx (oN fr) z6 (oN (pre ++ [(60 : Int32)]).length) (oN pre.length) tk nq tc cl tb uv tm 0 0) [(.int 3), (.int tk)])) (fun t ht => cY X395 hx 238 254 rfl (B at_238) rfl (feq hc404).2 (by decide) (iW X395 hx (B at_254) rfl (iC X395 hx (B at_256) ht))) ?_
    by_cases hc414 : tk = 3
    ·obtain ⟨T415, h415, X415, e415, W415, G415, st415⟩ := own_stT X395 hx hZ e395 f403 (j := (oN (pre ++ [(60 : Int32)]).length)) rfl (own_l32 (own_la hsk.2.1) (by decide)) (g := (mkF m 266 (la58 p0 p1 p2 p3 tx (oN fr) z6 (oN (pre ++ [(60 : Int32)]).length) (oN pre.length) tk nq tc cl tb uv tm 0 0) [(.int 63), (.int (oN (pre ++ [(60 : Int32)]).length)), (.ref tx)])) rfl rfl (B at_266)
     have hA416 := CHr.wr W415 sf397 hR398.1
     have sf417 := hA416.safe f403.lt sf397
     have hR418 := hR398.trans hA416
     have f419 := (f399.wr W415)
     have Z420 := nT Z400 (Keep.of_wr W415).1
     have N421 := Fr.snoc X415 N401 ga0
     have kk422 : k1 ≤ h415.size := (nT kk402 (Keep.of_wr W415).1)
     have f423 : Txt Z h415 tx kt (32 : Int32) ((pre ++ [(60 : Int32)]) ++ [(63 : Int32)]) := G415
     refine OFin.of (fun t ht => cN X395 hx (B at_257) rfl (teq hc414).2 (aW X395 hx (B at_260) rfl rfl (iW X395 hx (B at_262) rfl (bP X395 hx (B at_264) (st415 t ht))))) ?_
     refine OFin.of (S' := T415.setTop (mkF m 273 (la58 p0 p1 p2 p3 tx (oN fr) z6 ((oN (pre ++ [(60 : Int32)]).length) + (1 : Int32)) (oN pre.length) tk nq tc cl tb uv tm 0 0) [])) (fun t ht => iW X415 hx (B at_267) rfl (iC X415 hx (B at_269) (XS.iadd X415.here hx rfl (B at_270) rfl (sW X415 hx (B at_271) rfl (l' := (la58 p0 p1 p2 p3 tx (oN fr) z6 ((oN (pre ++ [(60 : Int32)]).length) + (1 : Int32)) (oN pre.length) tk nq tc cl tb uv tm 0 0)) rfl ht)))) ?_
     rw [own_pos (pre ++ [(60 : Int32)]) (63 : Int32)]
     exact seg273 (s := s) (vm1 := vm1) ⟨hw, hx, B, hlk, hret, hml, hown, hZ⟩ (X415.more (by decide) (by decide)) e415 Z420 N421 f419 f423 ga0 hst (nT (own_la (own_la hsk.2.1)) (by decide)) hsk (Or.inr (Or.inr ⟨hc414, rfl⟩)) hn ht8 hcl htb hx5 htm (List.append_assoc _ _ _) hR418.1 sf417  hS1 kk422 hQ
    ·refine OFin.of (S' := T395.setTop (mkF m 273 (la58 p0 p1 p2 p3 tx (oN fr) z6 (oN (pre ++ [(60 : Int32)]).length) (oN pre.length) tk nq tc cl tb uv tm 0 0) [])) (fun t ht => cY X395 hx 257 273 rfl (B at_257) rfl (feq hc414).2 (by decide) ht) ?_
     exact seg273 (s := s) (vm1 := vm1) ⟨hw, hx, B, hlk, hret, hml, hown, hZ⟩ (X395.more (by decide) (by decide)) e395 Z400 N401 f399 f403 ga0 hst (nT (own_la hsk.2.1) (by decide)) hsk (Or.inl ⟨own_tk1 htk hc377 hc394 hc404 hc414, rfl⟩) hn ht8 hcl htb hx5 htm rfl hR398.1 sf397  hS1 kk402 hQ
theorem seg174 {vm1 : Vm} {Z : State} {a0 : Array Value} (H : OwnCtx p s m meth c vm1 Z a0) {Q : Option Value → Heap → List Loc → Prop} {n0 : Nat} {kS kE kI : Addr} {cs : Int32} {fm : Value} {u8 : Addr} {p0 p1 p2 p3 : Int32} {tx : Addr} {z6 : Slot} {tk nq tc cl tb uv : Int32} {kt : ClassId} {pre : List Int32} {fr k0 : Nat} {T0 : State} {locs : List Loc} {h0 : Heap} (X0 : Stand p l e room_1 (s.setVm vm1) m args below meth c T0 locs 3 100) (e0 : T0.heap = h0) (Z0 : n0 ≤ h0.size) (N0 : Fr n0 locs) (fa0 : Stm Z h0 kS kE kI cs fm u8) (fa1 : Txt Z h0 tx kt (32 : Int32) pre) (ga0 : n0 ≤ tx) (hst : OwnSt kS kE kI cs fm) (hsk : OwnSk fr pre k0) (htk : OwnTk tk) (hn : nq = 0 ∨ nq = 1 ∨ nq = 2 ∨ nq = 3) (ht8 : OwnT8 tc) (hcl : Own01 cl) (htb : Own01 tb) (hx5 : tk = 1 → nq = 0 → ¬ tc = 5) (hC0 : CHv Z consts_1 vm1 h0) (sf_tx : Safe Z consts_1 vm1 h0 tx) {k1 : Nat} (hS1 : s.Since vm1 k1) (hk1 : k1 ≤ h0.size) (hQ : OwnEnd n0 Q) :
  OFin p e below (KPostW s Q room_1.cells room_1.slots) (T0.setTop (mkF m 174 (la59 p0 p1 p2 p3 tx (oN fr) z6 (oN pre.length) (oN pre.length) tk nq tc cl tb uv) [])) := by
 obtain ⟨hw, hx, B, hlk, hret, hml, hown, hZ⟩ := H
 have hR0 : CHr Z consts_1 vm1 h0 vm1 h0 := CHr.refl hC0
 have hEL := own_EW hw
 refine OFin.of (S' := T0.setTop (mkF m 178 (la59 p0 p1 p2 p3 tx (oN fr) z6 (oN pre.length) (oN pre.length) tk nq tc cl tb uv) [(.int 7), (.int tc)])) (fun t ht => iW X0 hx (B at_174) rfl (bP X0 hx (B at_176) ht)) ?_
 by_cases hc424 : tc < 7
 ·refine OFin.of (S' := T0.setTop (mkF m 188 (la56 p0 p1 p2 p3 tx (oN fr) z6 (oN pre.length) (oN pre.length) tk nq tc cl tb uv 1) [])) (fun t ht => cN X0 hx (B at_178) rfl (tlt hc424).2.1 (iC X0 hx (B at_181) (gO X0 hx 182 186 rfl (B at_182) (by decide) (sW X0 hx (B at_186) rfl (l' := (la56 p0 p1 p2 p3 tx (oN fr) z6 (oN pre.length) (oN pre.length) tk nq tc cl tb uv 1)) rfl ht)))) ?_
  exact seg188 (s := s) (vm1 := vm1) ⟨hw, hx, B, hlk, hret, hml, hown, hZ⟩ (X0.more (by decide) (by decide)) e0 Z0 N0 fa0 fa1 ga0 hst hsk htk hn ht8 hcl htb hx5 (Or.inr ⟨rfl, hc424⟩) hR0.1 sf_tx  hS1 hk1 hQ
 ·refine OFin.of (S' := T0.setTop (mkF m 188 (la56 p0 p1 p2 p3 tx (oN fr) z6 (oN pre.length) (oN pre.length) tk nq tc cl tb uv 0) [])) (fun t ht => cY X0 hx 178 185 rfl (B at_178) rfl (flt hc424).2.1 (by decide) (iC X0 hx (B at_185) (sW X0 hx (B at_186) rfl (l' := (la56 p0 p1 p2 p3 tx (oN fr) z6 (oN pre.length) (oN pre.length) tk nq tc cl tb uv 0)) rfl ht))) ?_
  exact seg188 (s := s) (vm1 := vm1) ⟨hw, hx, B, hlk, hret, hml, hown, hZ⟩ (X0.more (by decide) (by decide)) e0 Z0 N0 fa0 fa1 ga0 hst hsk htk hn ht8 hcl htb hx5 (Or.inl ⟨rfl, hc424⟩) hR0.1 sf_tx  hS1 hk1 hQ
theorem seg146 {vm1 : Vm} {Z : State} {a0 : Array Value} (H : OwnCtx p s m meth c vm1 Z a0) {Q : Option Value → Heap → List Loc → Prop} {n0 : Nat} {kS kE kI : Addr} {cs : Int32} {fm : Value} {u8 : Addr} {p0 p1 p2 p3 : Int32} {tx : Addr} {z6 : Slot} {tk nq tc cl tb : Int32} {kt : ClassId} {pre : List Int32} {fr k0 : Nat} {T0 : State} {locs : List Loc} {h0 : Heap} (X0 : Stand p l e room_1 (s.setVm vm1) m args below meth c T0 locs 3 100) (e0 : T0.heap = h0) (Z0 : n0 ≤ h0.size) (N0 : Fr n0 locs) (fa0 : Stm Z h0 kS kE kI cs fm u8) (fa1 : Txt Z h0 tx kt (32 : Int32) pre) (ga0 : n0 ≤ tx) (hst : OwnSt kS kE kI cs fm) (hsk : OwnSk fr pre k0) (htk : OwnTk tk) (hn : nq = 0 ∨ nq = 1 ∨ nq = 2 ∨ nq = 3) (ht8 : OwnT8 tc) (hcl : Own01 cl) (htb : Own01 tb) (hC0 : CHv Z consts_1 vm1 h0) (sf_tx : Safe Z consts_1 vm1 h0 tx) {k1 : Nat} (hS1 : s.Since vm1 k1) (hk1 : k1 ≤ h0.size) (hQ : OwnEnd n0 Q) :
  OFin p e below (KPostW s Q room_1.cells room_1.slots) (T0.setTop (mkF m 146 (la60 p0 p1 p2 p3 tx (oN fr) z6 (oN pre.length) (oN pre.length) tk nq tc cl tb) [])) := by
 obtain ⟨hw, hx, B, hlk, hret, hml, hown, hZ⟩ := H
 have hR0 : CHr Z consts_1 vm1 h0 vm1 h0 := CHr.refl hC0
 have hEL := own_EW hw
 refine OFin.of (S' := T0.setTop (mkF m 157 (la59 p0 p1 p2 p3 tx (oN fr) z6 (oN pre.length) (oN pre.length) tk nq tc cl tb (((p2.toUInt32 >>> ((10 : Int32) &&& 31).toUInt32).toInt32) &&& (3 : Int32))) [(.int 1), (.int tk)])) (fun t ht => iN X0 hx (B at_146) rfl (bP X0 hx (B at_147) (XS.iushr X0.here hx rfl (B at_149) rfl (iC X0 hx (B at_150) (XS.iand X0.here hx rfl (B at_151) rfl (sW X0 hx (B at_152) rfl (l' := (la59 p0 p1 p2 p3 tx (oN fr) z6 (oN pre.length) (oN pre.length) tk nq tc cl tb (((p2.toUInt32 >>> ((10 : Int32) &&& 31).toUInt32).toInt32) &&& (3 : Int32)))) rfl (iW X0 hx (B at_154) rfl (iC X0 hx (B at_156) ht)))))))) ?_
 by_cases hc425 : tk = 1
 ·refine OFin.of (S' := T0.setTop (mkF m 162 (la59 p0 p1 p2 p3 tx (oN fr) z6 (oN pre.length) (oN pre.length) tk nq tc cl tb (((p2.toUInt32 >>> ((10 : Int32) &&& 31).toUInt32).toInt32) &&& (3 : Int32))) [(.int nq)])) (fun t ht => cN X0 hx (B at_157) rfl (teq hc425).2 (iW X0 hx (B at_160) rfl ht)) ?_
  by_cases hc426 : nq = 0
  ·refine OFin.of (S' := T0.setTop (mkF m 168 (la59 p0 p1 p2 p3 tx (oN fr) z6 (oN pre.length) (oN pre.length) tk nq tc cl tb (((p2.toUInt32 >>> ((10 : Int32) &&& 31).toUInt32).toInt32) &&& (3 : Int32))) [(.int 5), (.int tc)])) (fun t ht => fN X0 hx (B at_162) rfl ((if0 _ _).trans (teq hc426).2) (iW X0 hx (B at_165) rfl (iC X0 hx (B at_167) ht))) ?_
   by_cases hc427 : tc = 5
   ·refine OFin.of (S' := T0.setTop (mkF m 174 (la59 p0 p1 p2 p3 tx (oN fr) z6 (oN pre.length) (oN pre.length) tk nq 4 cl tb (((p2.toUInt32 >>> ((10 : Int32) &&& 31).toUInt32).toInt32) &&& (3 : Int32))) [])) (fun t ht => cN X0 hx (B at_168) rfl (teq hc427).2 (iC X0 hx (B at_171) (sW X0 hx (B at_172) rfl (l' := (la59 p0 p1 p2 p3 tx (oN fr) z6 (oN pre.length) (oN pre.length) tk nq 4 cl tb (((p2.toUInt32 >>> ((10 : Int32) &&& 31).toUInt32).toInt32) &&& (3 : Int32)))) rfl ht))) ?_
    exact seg174 (s := s) (vm1 := vm1) ⟨hw, hx, B, hlk, hret, hml, hown, hZ⟩ (X0.more (by decide) (by decide)) e0 Z0 N0 fa0 fa1 ga0 hst hsk htk hn own_t84 hcl htb (fun _ _ => by decide) hR0.1 sf_tx  hS1 hk1 hQ
   ·refine OFin.of (S' := T0.setTop (mkF m 174 (la59 p0 p1 p2 p3 tx (oN fr) z6 (oN pre.length) (oN pre.length) tk nq tc cl tb (((p2.toUInt32 >>> ((10 : Int32) &&& 31).toUInt32).toInt32) &&& (3 : Int32))) [])) (fun t ht => cY X0 hx 168 174 rfl (B at_168) rfl (feq hc427).2 (by decide) ht) ?_
    exact seg174 (s := s) (vm1 := vm1) ⟨hw, hx, B, hlk, hret, hml, hown, hZ⟩ (X0.more (by decide) (by decide)) e0 Z0 N0 fa0 fa1 ga0 hst hsk htk hn ht8 hcl htb (fun _ _ => hc427) hR0.1 sf_tx  hS1 hk1 hQ
  ·refine OFin.of (S' := T0.setTop (mkF m 174 (la59 p0 p1 p2 p3 tx (oN fr) z6 (oN pre.length) (oN pre.length) tk nq tc cl tb (((p2.toUInt32 >>> ((10 : Int32) &&& 31).toUInt32).toInt32) &&& (3 : Int32))) [])) (fun t ht => fY X0 hx 162 174 rfl (B at_162) rfl ((if0 _ _).trans (feq hc426).2) (by decide) ht) ?_
   exact seg174 (s := s) (vm1 := vm1) ⟨hw, hx, B, hlk, hret, hml, hown, hZ⟩ (X0.more (by decide) (by decide)) e0 Z0 N0 fa0 fa1 ga0 hst hsk htk hn ht8 hcl htb (fun _ z => absurd z hc426) hR0.1 sf_tx  hS1 hk1 hQ
 ·refine OFin.of (S' := T0.setTop (mkF m 174 (la59 p0 p1 p2 p3 tx (oN fr) z6 (oN pre.length) (oN pre.length) tk nq tc cl tb (((p2.toUInt32 >>> ((10 : Int32) &&& 31).toUInt32).toInt32) &&& (3 : Int32))) [])) (fun t ht => cY X0 hx 157 174 rfl (B at_157) rfl (feq hc425).2 (by decide) ht) ?_
  exact seg174 (s := s) (vm1 := vm1) ⟨hw, hx, B, hlk, hret, hml, hown, hZ⟩ (X0.more (by decide) (by decide)) e0 Z0 N0 fa0 fa1 ga0 hst hsk htk hn ht8 hcl htb (fun z _ => absurd z hc425) hR0.1 sf_tx  hS1 hk1 hQ
theorem seg130 {vm1 : Vm} {Z : State} {a0 : Array Value} (H : OwnCtx p s m meth c vm1 Z a0) {Q : Option Value → Heap → List Loc → Prop} {n0 : Nat} {kS kE kI : Addr} {cs : Int32} {fm : Value} {u8 : Addr} {p0 p1 p2 p3 : Int32} {tx : Addr} {z6 : Slot} {tk nq tc cl : Int32} {kt : ClassId} {pre : List Int32} {fr k0 : Nat} {T0 : State} {locs : List Loc} {h0 : Heap} (X0 : Stand p l e room_1 (s.setVm vm1) m args below meth c T0 locs 3 100) (e0 : T0.heap = h0) (Z0 : n0 ≤ h0.size) (N0 : Fr n0 locs) (fa0 : Stm Z h0 kS kE kI cs fm u8) (fa1 : Txt Z h0 tx kt (32 : Int32) pre) (ga0 : n0 ≤ tx) (hst : OwnSt kS kE kI cs fm) (hsk : OwnSk fr pre k0) (htk : OwnTk tk) (hn : nq = 0 ∨ nq = 1 ∨ nq = 2 ∨ nq = 3) (ht8 : OwnT8 tc) (hcl : Own01 cl) (hC0 : CHv Z consts_1 vm1 h0) (sf_tx : Safe Z consts_1 vm1 h0 tx) {k1 : Nat} (hS1 : s.Since vm1 k1) (hk1 : k1 ≤ h0.size) (hQ : OwnEnd n0 Q) :
  OFin p e below (KPostW s Q room_1.cells room_1.slots) (T0.setTop (mkF m 130 (la61 p0 p1 p2 p3 tx (oN fr) z6 (oN pre.length) (oN pre.length) tk nq tc cl) [])) := by
 obtain ⟨hw, hx, B, hlk, hret, hml, hown, hZ⟩ := H
 have hR0 : CHr Z consts_1 vm1 h0 vm1 h0 := CHr.refl hC0
 have hEL := own_EW hw
 refine OFin.of (S' := T0.setTop (mkF m 136 (la61 p0 p1 p2 p3 tx (oN fr) z6 (oN pre.length) (oN pre.length) tk nq tc cl) [(.int (((p2.toUInt32 >>> ((9 : Int32) &&& 31).toUInt32).toInt32) &&& (1 : Int32)))])) (fun t ht => iN X0 hx (B at_130) rfl (bP X0 hx (B at_131) (XS.iushr X0.here hx rfl (B at_133) rfl (iC X0 hx (B at_134) (XS.iand X0.here hx rfl (B at_135) rfl ht))))) ?_
 by_cases hc428 : (((p2.toUInt32 >>> ((9 : Int32) &&& 31).toUInt32).toInt32) &&& (1 : Int32)) = 0
 ·refine OFin.of (S' := T0.setTop (mkF m 146 (la60 p0 p1 p2 p3 tx (oN fr) z6 (oN pre.length) (oN pre.length) tk nq tc cl 0) [])) (fun t ht => fY X0 hx 136 143 rfl (B at_136) rfl ((if0 _ _).trans (teq hc428).1) (by decide) (iC X0 hx (B at_143) (sW X0 hx (B at_144) rfl (l' := (la60 p0 p1 p2 p3 tx (oN fr) z6 (oN pre.length) (oN pre.length) tk nq tc cl 0)) rfl ht))) ?_
  exact seg146 (s := s) (vm1 := vm1) ⟨hw, hx, B, hlk, hret, hml, hown, hZ⟩ (X0.more (by decide) (by decide)) e0 Z0 N0 fa0 fa1 ga0 hst hsk htk hn ht8 hcl (Or.inl rfl) hR0.1 sf_tx  hS1 hk1 hQ
 ·refine OFin.of (S' := T0.setTop (mkF m 146 (la60 p0 p1 p2 p3 tx (oN fr) z6 (oN pre.length) (oN pre.length) tk nq tc cl 1) [])) (fun t ht => fN X0 hx (B at_136) rfl ((if0 _ _).trans (feq hc428).1) (iC X0 hx (B at_139) (gO X0 hx 140 144 rfl (B at_140) (by decide) (sW X0 hx (B at_144) rfl (l' := (la60 p0 p1 p2 p3 tx (oN fr) z6 (oN pre.length) (oN pre.length) tk nq tc cl 1)) rfl ht)))) ?_
  exact seg146 (s := s) (vm1 := vm1) ⟨hw, hx, B, hlk, hret, hml, hown, hZ⟩ (X0.more (by decide) (by decide)) e0 Z0 N0 fa0 fa1 ga0 hst hsk htk hn ht8 hcl (Or.inr rfl) hR0.1 sf_tx  hS1 hk1 hQ
theorem seg87 {vm1 : Vm} {Z : State} {a0 : Array Value} (H : OwnCtx p s m meth c vm1 Z a0) {Q : Option Value → Heap → List Loc → Prop} {n0 : Nat} {kS kE kI : Addr} {cs : Int32} {fm : Value} {u8 : Addr} {p0 p1 p2 p3 : Int32} {tx : Addr} {z6 : Slot} {kt : ClassId} {pre : List Int32} {fr k0 : Nat} {T0 : State} {locs : List Loc} {h0 : Heap} (X0 : Stand p l e room_1 (s.setVm vm1) m args below meth c T0 locs 3 100) (e0 : T0.heap = h0) (Z0 : n0 ≤ h0.size) (N0 : Fr n0 locs) (fa0 : Stm Z h0 kS kE kI cs fm u8) (fa1 : Txt Z h0 tx kt (32 : Int32) pre) (ga0 : n0 ≤ tx) (hst : OwnSt kS kE kI cs fm) (hsk : OwnSk fr pre k0) (hC0 : CHv Z consts_1 vm1 h0) (sf_tx : Safe Z consts_1 vm1 h0 tx) {k1 : Nat} (hS1 : s.Since vm1 k1) (hk1 : k1 ≤ h0.size) (hQ : OwnEnd n0 Q) :
  OFin p e below (KPostW s Q room_1.cells room_1.slots) (T0.setTop (mkF m 87 (la62 p0 p1 p2 p3 tx (oN fr) z6 (oN pre.length)) [])) := by
 obtain ⟨hw, hx, B, hlk, hret, hml, hown, hZ⟩ := H
 have hR0 : CHr Z consts_1 vm1 h0 vm1 h0 := CHr.refl hC0
 have hEL := own_EW hw
 refine OFin.of (S' := T0.setTop (mkF m 120 (la66 p0 p1 p2 p3 tx (oN fr) z6 (oN pre.length) (oN pre.length) ((p2 &&& (7 : Int32)) % (5 : Int32)) (((p2.toUInt32 >>> ((3 : Int32) &&& 31).toUInt32).toInt32) &&& (3 : Int32)) (((p2.toUInt32 >>> ((5 : Int32) &&& 31).toUInt32).toInt32) &&& (7 : Int32))) [(.int (((p2.toUInt32 >>> ((8 : Int32) &&& 31).toUInt32).toInt32) &&& (1 : Int32)))])) (fun t ht => iW X0 hx (B at_87) rfl (sW X0 hx (B at_89) rfl (l' := (la63 p0 p1 p2 p3 tx (oN fr) z6 (oN pre.length) (oN pre.length))) rfl (iN X0 hx (B at_91) rfl (bP X0 hx (B at_92) (XS.iand X0.here hx rfl (B at_94) rfl (iC X0 hx (B at_95) (iremM X0 hx rfl (B at_96) rfl (by decide) (sW X0 hx (B at_97) rfl (l' := (la64 p0 p1 p2 p3 tx (oN fr) z6 (oN pre.length) (oN pre.length) ((p2 &&& (7 : Int32)) % (5 : Int32)))) rfl (iN X0 hx (B at_99) rfl (iC X0 hx (B at_100) (XS.iushr X0.here hx rfl (B at_101) rfl (iC X0 hx (B at_102) (XS.iand X0.here hx rfl (B at_103) rfl (sW X0 hx (B at_104) rfl (l' := (la65 p0 p1 p2 p3 tx (oN fr) z6 (oN pre.length) (oN pre.length) ((p2 &&& (7 : Int32)) % (5 : Int32)) (((p2.toUInt32 >>> ((3 : Int32) &&& 31).toUInt32).toInt32) &&& (3 : Int32)))) rfl (iN X0 hx (B at_106) rfl (iC X0 hx (B at_107) (XS.iushr X0.here hx rfl (B at_108) rfl (bP X0 hx (B at_109) (XS.iand X0.here hx rfl (B at_111) rfl (sW X0 hx (B at_112) rfl (l' := (la66 p0 p1 p2 p3 tx (oN fr) z6 (oN pre.length) (oN pre.length) ((p2 &&& (7 : Int32)) % (5 : Int32)) (((p2.toUInt32 >>> ((3 : Int32) &&& 31).toUInt32).toInt32) &&& (3 : Int32)) (((p2.toUInt32 >>> ((5 : Int32) &&& 31).toUInt32).toInt32) &&& (7 : Int32)))) rfl (iN X0 hx (B at_114) rfl (bP X0 hx (B at_115) (XS.iushr X0.here hx rfl (B at_117) rfl (iC X0 hx (B at_118) (XS.iand X0.here hx rfl (B at_119) rfl ht))))))))))))))))))))))))) ?_
 by_cases hc429 : (((p2.toUInt32 >>> ((8 : Int32) &&& 31).toUInt32).toInt32) &&& (1 : Int32)) = 0
 ·refine OFin.of (S' := T0.setTop (mkF m 130 (la61 p0 p1 p2 p3 tx (oN fr) z6 (oN pre.length) (oN pre.length) ((p2 &&& (7 : Int32)) % (5 : Int32)) (((p2.toUInt32 >>> ((3 : Int32) &&& 31).toUInt32).toInt32) &&& (3 : Int32)) (((p2.toUInt32 >>> ((5 : Int32) &&& 31).toUInt32).toInt32) &&& (7 : Int32)) 0) [])) (fun t ht => fY X0 hx 120 127 rfl (B at_120) rfl ((if0 _ _).trans (teq hc429).1) (by decide) (iC X0 hx (B at_127) (sW X0 hx (B at_128) rfl (l' := (la61 p0 p1 p2 p3 tx (oN fr) z6 (oN pre.length) (oN pre.length) ((p2 &&& (7 : Int32)) % (5 : Int32)) (((p2.toUInt32 >>> ((3 : Int32) &&& 31).toUInt32).toInt32) &&& (3 : Int32)) (((p2.toUInt32 >>> ((5 : Int32) &&& 31).toUInt32).toInt32) &&& (7 : Int32)) 0)) rfl ht))) ?_
  exact seg130 (s := s) (vm1 := vm1) ⟨hw, hx, B, hlk, hret, hml, hown, hZ⟩ (X0.more (by decide) (by decide)) e0 Z0 N0 fa0 fa1 ga0 hst hsk (own_tk5 _) (own_b3 _) (own_b7 _) (Or.inl rfl) hR0.1 sf_tx  hS1 hk1 hQ
 ·refine OFin.of (S' := T0.setTop (mkF m 130 (la61 p0 p1 p2 p3 tx (oN fr) z6 (oN pre.length) (oN pre.length) ((p2 &&& (7 : Int32)) % (5 : Int32)) (((p2.toUInt32 >>> ((3 : Int32) &&& 31).toUInt32).toInt32) &&& (3 : Int32)) (((p2.toUInt32 >>> ((5 : Int32) &&& 31).toUInt32).toInt32) &&& (7 : Int32)) 1) [])) (fun t ht => fN X0 hx (B at_120) rfl ((if0 _ _).trans (feq hc429).1) (iC X0 hx (B at_123) (gO X0 hx 124 128 rfl (B at_124) (by decide) (sW X0 hx (B at_128) rfl (l' := (la61 p0 p1 p2 p3 tx (oN fr) z6 (oN pre.length) (oN pre.length) ((p2 &&& (7 : Int32)) % (5 : Int32)) (((p2.toUInt32 >>> ((3 : Int32) &&& 31).toUInt32).toInt32) &&& (3 : Int32)) (((p2.toUInt32 >>> ((5 : Int32) &&& 31).toUInt32).toInt32) &&& (7 : Int32)) 1)) rfl ht)))) ?_
  exact seg130 (s := s) (vm1 := vm1) ⟨hw, hx, B, hlk, hret, hml, hown, hZ⟩ (X0.more (by decide) (by decide)) e0 Z0 N0 fa0 fa1 ga0 hst hsk (own_tk5 _) (own_b3 _) (own_b7 _) (Or.inr rfl) hR0.1 sf_tx  hS1 hk1 hQ
end OwnLawS
theorem ef0 (m : MethodId) (p0 : Int32) (p1 : Int32) (p2 : Int32) (p3 : Int32) : entryFrame m #[(.int p0), (.int p1), (.int p2), (.int p3)] maxLocals = mkF m 0 (la67 p0 p1 p2 p3) [] := by first | (simp [entryFrame, mkF, argsToLocals, Value.category, maxLocals]; done) | rfl
def Q0 (Z : State) (p0 : Int32) (p1 : Int32) (p2 : Int32) (p3 : Int32) (kS : Addr) (kE : Addr) (kI : Addr) (cs : Int32) (fm : Value) (u8 : Addr) (h0 : Heap) (n0 : Nat) (v : Option Value) (h : Heap) (L : List Loc) : Prop := v = some (.int 1) ∧ Fr n0 L
theorem rm0 (l : Launch) (Z : State) (a0 : Array Value) (hw : ∀ d ∈ tables_1, d.before a0 Z = true) (ws : List Jvm.Cond) (p0 : Int32) (p1 : Int32) (p2 : Int32) (p3 : Int32) (kS : Addr) (kE : Addr) (kI : Addr) (cs : Int32) (fm : Value) (u8 : Addr) (h0 : Heap) (n0 : Nat) (Z0 : n0 ≤ h0.size) (SB : Stm Z h0 kS kE kI cs fm u8) (hst : OwnSt kS kE kI cs fm) :
  MetFree l x (head1 (Jvm.Cond.code x code maxLocals ret :: ws) room_1) (fun a U => a = #[(.int p0), (.int p1), (.int p2), (.int p3)] ∧ Z.Warmed39 U.vm ∧ U.heap = h0 ∧ CHv Z consts_1 U.vm h0) (fun _ _ _ _ _ => True) (fun _ U o U' => ∃ v L, o = .returned v ∧ Q0 Z p0 p1 p2 p3 kS kE kI cs fm u8 h0 n0 v U'.heap L ∧ ReturnedEndW U o U' L room_1.cells room_1.slots) := by
 refine MetFree.of_bodySF (plainFor_of_name pn_4) hisR ?_
 intro p e s m args below meth c s₁ Bd hml0 hP hK
 obtain ⟨rfl, hZ, hh, hC0⟩ := hP
 have hx := Bd.exec
 have hby := Bd.bytes
 have B : OwnB c := hb hby
 have hlk := BodyLoose.notSynchronized Bd
 have hret := Bd.returns
 have hml : c.maxLocals = 39 := hml0
 have hown : s.vm.findClass cC = some m.cls := findClass_of_methodNamed Bd.named
 have hnm := (name_of_methodNamed Bd.named Bd.method).1
 have X0 : Stand p l e room_1 s m #[(.int p0), (.int p1), (.int p2), (.int p3)] below meth c s₁ [] 0 0 := Stand.of_body Bd
 have e0 : s₁.heap = h0 := by rw [← hh, Bd.state]; rfl
 have N0 := Fr.nil n0
 show OFin p e below (KPostW s (Q0 Z p0 p1 p2 p3 kS kE kI cs fm u8 h0 n0) room_1.cells room_1.slots) _
 have hR0 : CHr Z consts_1 s.vm h0 s.vm h0 := CHr.refl hC0
 have hEL := own_EW hw
 rw [ef0 m p0 p1 p2 p3]
 obtain ⟨T430, h430, k430, X430, e430, E430, A430, st430⟩ := newP X0 hx hZ (wt hw 0 rfl) e0 (g := (mkF m 2 (la67 p0 p1 p2 p3) [(.int 32)])) rfl (B at_2) rfl (by decide) (cap := 32) (by decide) (by decide) (by decide) (by decide)
 obtain ⟨b430, gq430⟩ : ∃ z, z = h0.size := ⟨_, rfl⟩
 rw [← gq430] at A430 st430
 have g431 : n0 ≤ b430 := (nT Z0 (nE gq430.symm))
 have hA432 := CHr.ext E430 hR0.1
 have hR433 := hR0.trans hA432
 have f434 := SB.ext E430
 have Z435 := nT Z0 E430.1
 have f436 : Arv Z h430 b430 k430 .byte (32 : Int32) [(.int 0), (.int 0), (.int 0), (.int 0), (.int 0), (.int 0), (.int 0), (.int 0), (.int 0), (.int 0), (.int 0), (.int 0), (.int 0), (.int 0), (.int 0), (.int 0), (.int 0), (.int 0), (.int 0), (.int 0), (.int 0), (.int 0), (.int 0), (.int 0), (.int 0), (.int 0), (.int 0), (.int 0), (.int 0), (.int 0), (.int 0), (.int 0)] (.int 0) := ((Arv.new A430 (by decide)).pad (pad_rep [] (.int 0) 32))
 have f437 : Txt Z h430 b430 k430 (32 : Int32) ([] : List Int32) := ⟨[(0 : Int32), (0 : Int32), (0 : Int32), (0 : Int32), (0 : Int32), (0 : Int32), (0 : Int32), (0 : Int32), (0 : Int32), (0 : Int32), (0 : Int32), (0 : Int32), (0 : Int32), (0 : Int32), (0 : Int32), (0 : Int32), (0 : Int32), (0 : Int32), (0 : Int32), (0 : Int32), (0 : Int32), (0 : Int32), (0 : Int32), (0 : Int32), (0 : Int32), (0 : Int32), (0 : Int32), (0 : Int32), (0 : Int32), (0 : Int32), (0 : Int32), (0 : Int32)], f436, rfl, rfl⟩
 refine OFin.of (fun t ht => bP X0 hx (B at_0) (st430 t ht)) ?_
 have sfT := Safe.ext E430 hR0.1 (Safe.new (nE gq430.symm))
 refine OFin.of (S' := T430.setTop (mkF m 9 (la68 p0 p1 p2 p3 b430) [(.int (p0 &&& (1 : Int32)))])) (fun t ht => XS.astore X430.here hx rfl (B at_4) rfl rfl (l' := (la68 p0 p1 p2 p3 b430)) rfl (iN X430 hx (B at_6) rfl (iC X430 hx (B at_7) (XS.iand X430.here hx rfl (B at_8) rfl ht)))) ?_
 rcases (own_bit p0 : (p0 &&& (1 : Int32)) = 0 ∨ (p0 &&& (1 : Int32)) = 1) with hq438 | hq438
 ·rw [hq438]
  refine OFin.of (S' := T430.setTop (mkF m 29 (la69 p0 p1 p2 p3 b430 0) [(.int (((p0.toUInt32 >>> ((1 : Int32) &&& 31).toUInt32).toInt32) % (12 : Int32)))])) (fun t ht => sW X430 hx (B at_9) rfl (l' := (la69 p0 p1 p2 p3 b430 0)) rfl (iW X430 hx (B at_11) rfl (iC X430 hx (B at_13) (cY X430 hx 14 23 rfl (B at_14) rfl (feq (by decide : ¬ ((0 : Int32) = 1))).2 (by decide) (iN X430 hx (B at_23) rfl (iC X430 hx (B at_24) (XS.iushr X430.here hx rfl (B at_25) rfl (bP X430 hx (B at_26) (iremM X430 hx rfl (B at_28) rfl (by decide) ht))))))))) ?_
  obtain ⟨pp, h_pp⟩ : ∃ z : Int32, z = (((p0.toUInt32 >>> ((1 : Int32) &&& 31).toUInt32).toInt32) % (12 : Int32)) := ⟨_, rfl⟩
  rw [← h_pp]
  refine OFin.of (S' := T430.setTop (mkF m 35 (la71 p0 p1 p2 p3 b430 0 pp 0) [])) (fun t ht => sW X430 hx (B at_29) rfl (l' := (la70 p0 p1 p2 p3 b430 0 pp)) rfl (iW X430 hx (B at_31) rfl (sW X430 hx (B at_33) rfl (l' := (la71 p0 p1 p2 p3 b430 0 pp 0)) rfl ht))) ?_
  show OFin p e below _ (T430.setTop (mkF m 35 (la71 p0 p1 p2 p3 b430 (oN ([] : List Int32).length) pp (oN ([] : List Int32).length)) []))
  refine OFin.of (S' := T430.setTop (mkF m 38 (la71 p0 p1 p2 p3 b430 (oN ([] : List Int32).length) pp (oN ([] : List Int32).length)) [(.int 1), (.int pp)])) (fun t ht => iW X430 hx (B at_35) rfl (iC X430 hx (B at_37) ht)) ?_
  by_cases hc439 : pp = 1
  ·obtain ⟨_, T440, Lc440, X440, hQ440, st440⟩ := own_cS X430 hx hw hZ hown 269 270 3 271 rfl rfl rfl rfl (by decide) (rmFil l Z _ hw [] p3 h430 n0 Z435 ) (by decide) (by decide) (g := (mkF m 46 (la71 p0 p1 p2 p3 b430 (oN ([] : List Int32).length) pp (oN ([] : List Int32).length)) [(.int p3), (.int (oN ([] : List Int32).length)), (.ref b430)])) rfl hml rfl (argsL := [(.int p3)]) (rest := [(.int (oN ([] : List Int32).length)), (.ref b430)]) pd_12 rfl rfl rfl (W := 2) (nE rfl) (B at_46) rfl e430 (by decide) (by decide)
   obtain ⟨rfl, Nq440, hs440⟩ := hQ440
   have N441 := Fr.app N0 Nq440
   refine OFin.of (fun t ht => cN X430 hx (B at_38) rfl (teq hc439).2 (aW X430 hx (B at_41) rfl rfl (iW X430 hx (B at_43) rfl (iN X430 hx (B at_45) rfl (st440.trans ht))))) ?_
   obtain ⟨T442, h442, X442, e442, W442, G442, st442⟩ := own_stT X440 hx hZ hs440 f437 (j := (oN ([] : List Int32).length)) rfl (own_l32 own_l0 (by decide)) (g := (mkF m 49 (la71 p0 p1 p2 p3 b430 (oN ([] : List Int32).length) pp (oN ([] : List Int32).length)) [(.int (own_fi p3)), (.int (oN ([] : List Int32).length)), (.ref b430)])) rfl rfl (B at_49)
   have hA443 := CHr.wr W442 sfT hR433.1
   have sf444 := hA443.safe f437.lt sfT
   have hR445 := hR433.trans hA443
   have f446 := (f434.wr W442)
   have Z447 := nT Z435 (Keep.of_wr W442).1
   have N448 := Fr.snoc X442 N441 g431
   have f449 : Txt Z h442 b430 k430 (32 : Int32) (([] : List Int32) ++ [(own_fi p3)]) := (own_tx G442 (own_fib _).1)
   refine OFin.of st442 ?_
   obtain ⟨_, T450, Lc450, X450, hQ450, st450⟩ := own_cS X442 hx hw hZ hown 269 270 3 271 rfl rfl rfl rfl (by decide) (rmFil l Z _ hw [] ((p3.toUInt32 >>> ((8 : Int32) &&& 31).toUInt32).toInt32) h442 n0 Z447 ) (by decide) (by decide) (g := (mkF m 60 (la71 p0 p1 p2 p3 b430 (oN ([] : List Int32).length) pp (oN ([] : List Int32).length)) [(.int ((p3.toUInt32 >>> ((8 : Int32) &&& 31).toUInt32).toInt32)), (.int ((oN ([] : List Int32).length) + (1 : Int32))), (.ref b430)])) rfl hml rfl (argsL := [(.int ((p3.toUInt32 >>> ((8 : Int32) &&& 31).toUInt32).toInt32))]) (rest := [(.int ((oN ([] : List Int32).length) + (1 : Int32))), (.ref b430)]) pd_12 rfl rfl rfl (W := 2) (nE rfl) (B at_60) rfl e442 (by decide) (by decide)
   obtain ⟨rfl, Nq450, hs450⟩ := hQ450
   have N451 := Fr.app N448 Nq450
   refine OFin.of (fun t ht => aW X442 hx (B at_50) rfl rfl (iW X442 hx (B at_52) rfl (iC X442 hx (B at_54) (XS.iadd X442.here hx rfl (B at_55) rfl (iN X442 hx (B at_56) rfl (bP X442 hx (B at_57) (XS.iushr X442.here hx rfl (B at_59) rfl (st450.trans ht)))))))) ?_
   obtain ⟨T452, h452, X452, e452, W452, G452, st452⟩ := own_stT X450 hx hZ hs450 f449 (j := ((oN ([] : List Int32).length) + (1 : Int32))) (own_pos _ _) (own_l32 (own_la own_l0) (by decide)) (g := (mkF m 63 (la71 p0 p1 p2 p3 b430 (oN ([] : List Int32).length) pp (oN ([] : List Int32).length)) [(.int (own_fi ((p3.toUInt32 >>> ((8 : Int32) &&& 31).toUInt32).toInt32))), (.int ((oN ([] : List Int32).length) + (1 : Int32))), (.ref b430)])) rfl rfl (B at_63)
   have hA453 := CHr.wr W452 sf444 hR445.1
   have sf454 := hA453.safe f449.lt sf444
   have hR455 := hR445.trans hA453
   have f456 := (f446.wr W452)
   have Z457 := nT Z447 (Keep.of_wr W452).1
   have N458 := Fr.snoc X452 N451 g431
   have f459 : Txt Z h452 b430 k430 (32 : Int32) ((([] : List Int32) ++ [(own_fi p3)]) ++ [(own_fi ((p3.toUInt32 >>> ((8 : Int32) &&& 31).toUInt32).toInt32))]) := (own_tx G452 (own_fib _).1)
   refine OFin.of st452 ?_
   refine OFin.of (S' := T452.setTop (mkF m 87 (la71 p0 p1 p2 p3 b430 (oN ([] : List Int32).length) pp ((oN ([] : List Int32).length) + (2 : Int32))) [])) (fun t ht => iW X452 hx (B at_64) rfl (iC X452 hx (B at_66) (XS.iadd X452.here hx rfl (B at_67) rfl (sW X452 hx (B at_68) rfl (l' := (la71 p0 p1 p2 p3 b430 (oN ([] : List Int32).length) pp ((oN ([] : List Int32).length) + (2 : Int32)))) rfl (gO X452 hx 70 87 rfl (B at_70) (by decide) ht))))) ?_
   rw [own_pos2 ([] : List Int32) (own_fi p3) (own_fi ((p3.toUInt32 >>> ((8 : Int32) &&& 31).toUInt32).toInt32))]
   exact seg87 (s := s) (vm1 := s.vm) ⟨hw, hx, B, hlk, hret, hml, hown, hZ⟩ (X452.more (by decide) (by decide)) e452 Z457 N458 f456 f459 g431 hst (own_sk1 (by decide) (own_fib _).2 (own_fib _).2) hR455.1 sf454  ((State.WarmedH.refl s).since h452.size) (Nat.le_refl _) (fun _ _ q => ⟨rfl, q⟩)
  ·obtain ⟨_, _, ⟨T460, L460, k460, n460⟩, -, X460, Sq460, gr460, ⟨Lc460, hQ460, l460, y460, z460, CH460⟩, st460⟩ := callSS X430 hx (y := mn26) hown (mvT hZ (wt hw 1 rfl)) (mvT hZ (wt hw 2 rfl)) (mvT hZ (wt hw 3 rfl)) (mvT hZ (wt hw 4 rfl)) (by decide) (backOfSH (s := s) (vm0 := s.vm) (W := 2) (rmPfx l Z _ hw [] pp h430 n0 Z435 ) hZ (wt hw 4 rfl) (wt hw 3 rfl) (by decide) (by decide) hEL hR433.1) (g := (mkF m 79 (la71 p0 p1 p2 p3 b430 (oN ([] : List Int32).length) pp (oN ([] : List Int32).length)) [(.int pp), (.int (oN ([] : List Int32).length)), (.ref b430)])) rfl (by rw [hml]; rfl) (argsL := [(.int pp)]) (rest := [(.int (oN ([] : List Int32).length)), (.ref b430)]) (lenOf pd_32 rfl) rfl (by show 2 * 0 + _ ≤ _; exact nE rfl) (B at_79) (fun _ _ => ⟨rfl, e430, (by decide : 1 + 2 ≤ _), (by decide : 32 + 64 ≤ _)⟩)
   dsimp only [Pt.U, Pt.locs, Pt.cells, Pt.slots] at X460 l460 y460 z460 st460 hQ460 Sq460 gr460 CH460
   subst l460 y460 z460
   have hZ460 : Z.Warmed39 (s.setVm T460.vm).vm := State.Warmed39.trans (t := s.setVm s.vm) hZ Sq460.1
   have hown460 : (s.setVm T460.vm).vm.findClass cC = some m.cls := by rw [show (s.setVm T460.vm).vm = T460.vm from rfl, Sq460.1.alike.findClass]; exact hown
   have S460 : s.Since T460.vm T460.heap.size := State.Since.trans (s := s) (vm₁ := s.vm) ((State.WarmedH.refl s).since h430.size) Sq460 (nT (Nat.le_refl _) (by rw [← e430]; exact gr460))
   obtain ⟨al460, tv460, kv460, rfl, Nq460, Kq460, Ea460, Fc460, Fv460, Tv460⟩ := hQ460
   have N461 := Fr.app N0 Nq460
   have hA462 := CH460
   have sf463 := hA462.safe f437.lt sfT
   have hR464 := hR433.trans hA462
   have f465 := (f434.keep Kq460 own_sn0)
   have f466 := (f437.keep Kq460 nin0)
   have Z467 := nT Z435 Kq460.1
   refine OFin.of (fun t ht => cY X430 hx 38 73 rfl (B at_38) rfl (feq hc439).2 (by decide) (aW X430 hx (B at_73) rfl rfl (iW X430 hx (B at_75) rfl (iW X430 hx (B at_77) rfl (st460.trans ht))))) ?_
   obtain ⟨_, T468, Lc468, X468, hQ468, st468⟩ := own_cS X460 hx hw hZ460 hown460 12 13 3 14 rfl rfl rfl rfl (by decide) (rmPal l Z _ hw [] b430 al460 tv460 kv460 (own_pfx pp) cs fm k430 (32 : Int32) ([] : List Int32) T460.heap n0 Z467 Ea460 Fc460 Fv460 Tv460 f465.2.2.2.1 hst.1 f465.2.2.2.2.1 hst.2.1 (own_pfx_lit _).1 (own_pfx_lit _).2 f466 g431 (Ne.symm (Txt.neExa f466 Ea460 (wt hw 7 rfl))) (own_txne Tv460 f466 (own_c32 (own_pfx_lit _).2)) (own_r32 own_l0 (own_pfx_lit _).2) (by decide)) (by decide) (by decide) (g := (mkF m 82 (la71 p0 p1 p2 p3 b430 (oN ([] : List Int32).length) pp (oN ([] : List Int32).length)) [(.ref al460), (.int (oN ([] : List Int32).length)), (.ref b430)])) rfl hml rfl (argsL := [(.ref b430), (.int (oN ([] : List Int32).length)), (.ref al460)]) (rest := []) pd_33 rfl rfl rfl (W := 0) (nE rfl) (B at_82) rfl (rfl : T460.heap = T460.heap) (by decide) (by decide)
   obtain ⟨rfl, Nq468, Kq468, f468⟩ := hQ468
   have N469 := Fr.app N461 Nq468
   have hA470 := CHr.keep Kq468 (sfS sf463 sf0) hR464.1
   have sf471 := hA470.safe f466.lt sf463
   have hR472 := hR464.trans hA470
   have f473 := (f465.keep Kq468 (own_snT f466 own_sn0))
   have Z474 := nT Z467 Kq468.1
   have kk475 : T460.heap.size ≤ T468.heap.size := (nT (Nat.le_refl _) Kq468.1)
   refine OFin.to st468 ?_
   refine OFin.of (S' := T468.setTop (mkF m 87 (la71 p0 p1 p2 p3 b430 (oN ([] : List Int32).length) pp (oN (([] : List Int32).length + (own_pfx pp).length))) [])) (fun t ht => sW X468 hx (B at_85) rfl (l' := (la71 p0 p1 p2 p3 b430 (oN ([] : List Int32).length) pp (oN (([] : List Int32).length + (own_pfx pp).length)))) rfl ht) ?_
   rw [← List.length_append]
   obtain ⟨k0, hsk⟩ := own_skp (F := ([] : List Int32)) (Or.inl rfl) pp
   exact seg87 (s := s) (vm1 := T460.vm) ⟨hw, hx, B, hlk, hret, hml, hown460, hZ460⟩ (X468.more (by decide) (by decide)) (rfl : T468.heap = T468.heap) Z474 N469 f473 f468 g431 hst hsk hR472.1 sf471  S460 kk475 (fun _ _ q => ⟨rfl, q⟩)
 ·rw [hq438]
  obtain ⟨T476, h476, X476, e476, W476, G476, st476⟩ := own_stT X430 hx hZ e430 f437 (j := (0 : Int32)) rfl (own_l32 own_l0 (by decide)) (g := (mkF m 22 (la69 p0 p1 p2 p3 b430 1) [(.int 60), (.int 0), (.ref b430)])) rfl rfl (B at_22)
  have hA477 := CHr.wr W476 sfT hR433.1
  have sf478 := hA477.safe f437.lt sfT
  have hR479 := hR433.trans hA477
  have f480 := (f434.wr W476)
  have Z481 := nT Z435 (Keep.of_wr W476).1
  have N482 := Fr.snoc X476 N0 g431
  have f483 : Txt Z h476 b430 k430 (32 : Int32) (([] : List Int32) ++ [(60 : Int32)]) := G476
  refine OFin.of (fun t ht => sW X430 hx (B at_9) rfl (l' := (la69 p0 p1 p2 p3 b430 1)) rfl (iW X430 hx (B at_11) rfl (iC X430 hx (B at_13) (cN X430 hx (B at_14) rfl (teq (by decide : (1 : Int32) = 1)).2 (aW X430 hx (B at_17) rfl rfl (iC X430 hx (B at_19) (bP X430 hx (B at_20) (st476 t ht)))))))) ?_
  refine OFin.of (S' := T476.setTop (mkF m 29 (la69 p0 p1 p2 p3 b430 1) [(.int (((p0.toUInt32 >>> ((1 : Int32) &&& 31).toUInt32).toInt32) % (12 : Int32)))])) (fun t ht => iN X476 hx (B at_23) rfl (iC X476 hx (B at_24) (XS.iushr X476.here hx rfl (B at_25) rfl (bP X476 hx (B at_26) (iremM X476 hx rfl (B at_28) rfl (by decide) ht))))) ?_
  obtain ⟨pp, h_pp⟩ : ∃ z : Int32, z = (((p0.toUInt32 >>> ((1 : Int32) &&& 31).toUInt32).toInt32) % (12 : Int32)) := ⟨_, rfl⟩
  rw [← h_pp]
  refine OFin.of (S' := T476.setTop (mkF m 35 (la71 p0 p1 p2 p3 b430 1 pp 1) [])) (fun t ht => sW X476 hx (B at_29) rfl (l' := (la70 p0 p1 p2 p3 b430 1 pp)) rfl (iW X476 hx (B at_31) rfl (sW X476 hx (B at_33) rfl (l' := (la71 p0 p1 p2 p3 b430 1 pp 1)) rfl ht))) ?_
  show OFin p e below _ (T476.setTop (mkF m 35 (la71 p0 p1 p2 p3 b430 (oN (([] : List Int32) ++ [(60 : Int32)]).length) pp (oN (([] : List Int32) ++ [(60 : Int32)]).length)) []))
  refine OFin.of (S' := T476.setTop (mkF m 38 (la71 p0 p1 p2 p3 b430 (oN (([] : List Int32) ++ [(60 : Int32)]).length) pp (oN (([] : List Int32) ++ [(60 : Int32)]).length)) [(.int 1), (.int pp)])) (fun t ht => iW X476 hx (B at_35) rfl (iC X476 hx (B at_37) ht)) ?_
  by_cases hc484 : pp = 1
  ·obtain ⟨_, T485, Lc485, X485, hQ485, st485⟩ := own_cS X476 hx hw hZ hown 269 270 3 271 rfl rfl rfl rfl (by decide) (rmFil l Z _ hw [] p3 h476 n0 Z481 ) (by decide) (by decide) (g := (mkF m 46 (la71 p0 p1 p2 p3 b430 (oN (([] : List Int32) ++ [(60 : Int32)]).length) pp (oN (([] : List Int32) ++ [(60 : Int32)]).length)) [(.int p3), (.int (oN (([] : List Int32) ++ [(60 : Int32)]).length)), (.ref b430)])) rfl hml rfl (argsL := [(.int p3)]) (rest := [(.int (oN (([] : List Int32) ++ [(60 : Int32)]).length)), (.ref b430)]) pd_12 rfl rfl rfl (W := 2) (nE rfl) (B at_46) rfl e476 (by decide) (by decide)
   obtain ⟨rfl, Nq485, hs485⟩ := hQ485
   have N486 := Fr.app N482 Nq485
   refine OFin.of (fun t ht => cN X476 hx (B at_38) rfl (teq hc484).2 (aW X476 hx (B at_41) rfl rfl (iW X476 hx (B at_43) rfl (iN X476 hx (B at_45) rfl (st485.trans ht))))) ?_
   obtain ⟨T487, h487, X487, e487, W487, G487, st487⟩ := own_stT X485 hx hZ hs485 f483 (j := (oN (([] : List Int32) ++ [(60 : Int32)]).length)) rfl (own_l32 (own_la own_l0) (by decide)) (g := (mkF m 49 (la71 p0 p1 p2 p3 b430 (oN (([] : List Int32) ++ [(60 : Int32)]).length) pp (oN (([] : List Int32) ++ [(60 : Int32)]).length)) [(.int (own_fi p3)), (.int (oN (([] : List Int32) ++ [(60 : Int32)]).length)), (.ref b430)])) rfl rfl (B at_49)
   have hA488 := CHr.wr W487 sf478 hR479.1
   have sf489 := hA488.safe f483.lt sf478
   have hR490 := hR479.trans hA488
   have f491 := (f480.wr W487)
   have Z492 := nT Z481 (Keep.of_wr W487).1
   have N493 := Fr.snoc X487 N486 g431
   have f494 : Txt Z h487 b430 k430 (32 : Int32) ((([] : List Int32) ++ [(60 : Int32)]) ++ [(own_fi p3)]) := (own_tx G487 (own_fib _).1)
   refine OFin.of st487 ?_
   obtain ⟨_, T495, Lc495, X495, hQ495, st495⟩ := own_cS X487 hx hw hZ hown 269 270 3 271 rfl rfl rfl rfl (by decide) (rmFil l Z _ hw [] ((p3.toUInt32 >>> ((8 : Int32) &&& 31).toUInt32).toInt32) h487 n0 Z492 ) (by decide) (by decide) (g := (mkF m 60 (la71 p0 p1 p2 p3 b430 (oN (([] : List Int32) ++ [(60 : Int32)]).length) pp (oN (([] : List Int32) ++ [(60 : Int32)]).length)) [(.int ((p3.toUInt32 >>> ((8 : Int32) &&& 31).toUInt32).toInt32)), (.int ((oN (([] : List Int32) ++ [(60 : Int32)]).length) + (1 : Int32))), (.ref b430)])) rfl hml rfl (argsL := [(.int ((p3.toUInt32 >>> ((8 : Int32) &&& 31).toUInt32).toInt32))]) (rest := [(.int ((oN (([] : List Int32) ++ [(60 : Int32)]).length) + (1 : Int32))), (.ref b430)]) pd_12 rfl rfl rfl (W := 2) (nE rfl) (B at_60) rfl e487 (by decide) (by decide)
   obtain ⟨rfl, Nq495, hs495⟩ := hQ495
   have N496 := Fr.app N493 Nq495
   refine OFin.of (fun t ht => aW X487 hx (B at_50) rfl rfl (iW X487 hx (B at_52) rfl (iC X487 hx (B at_54) (XS.iadd X487.here hx rfl (B at_55) rfl (iN X487 hx (B at_56) rfl (bP X487 hx (B at_57) (XS.iushr X487.here hx rfl (B at_59) rfl (st495.trans ht)))))))) ?_
   obtain ⟨T497, h497, X497, e497, W497, G497, st497⟩ := own_stT X495 hx hZ hs495 f494 (j := ((oN (([] : List Int32) ++ [(60 : Int32)]).length) + (1 : Int32))) (own_pos _ _) (own_l32 (own_la (own_la own_l0)) (by decide)) (g := (mkF m 63 (la71 p0 p1 p2 p3 b430 (oN (([] : List Int32) ++ [(60 : Int32)]).length) pp (oN (([] : List Int32) ++ [(60 : Int32)]).length)) [(.int (own_fi ((p3.toUInt32 >>> ((8 : Int32) &&& 31).toUInt32).toInt32))), (.int ((oN (([] : List Int32) ++ [(60 : Int32)]).length) + (1 : Int32))), (.ref b430)])) rfl rfl (B at_63)
   have hA498 := CHr.wr W497 sf489 hR490.1
   have sf499 := hA498.safe f494.lt sf489
   have hR500 := hR490.trans hA498
   have f501 := (f491.wr W497)
   have Z502 := nT Z492 (Keep.of_wr W497).1
   have N503 := Fr.snoc X497 N496 g431
   have f504 : Txt Z h497 b430 k430 (32 : Int32) (((([] : List Int32) ++ [(60 : Int32)]) ++ [(own_fi p3)]) ++ [(own_fi ((p3.toUInt32 >>> ((8 : Int32) &&& 31).toUInt32).toInt32))]) := (own_tx G497 (own_fib _).1)
   refine OFin.of st497 ?_
   refine OFin.of (S' := T497.setTop (mkF m 87 (la71 p0 p1 p2 p3 b430 (oN (([] : List Int32) ++ [(60 : Int32)]).length) pp ((oN (([] : List Int32) ++ [(60 : Int32)]).length) + (2 : Int32))) [])) (fun t ht => iW X497 hx (B at_64) rfl (iC X497 hx (B at_66) (XS.iadd X497.here hx rfl (B at_67) rfl (sW X497 hx (B at_68) rfl (l' := (la71 p0 p1 p2 p3 b430 (oN (([] : List Int32) ++ [(60 : Int32)]).length) pp ((oN (([] : List Int32) ++ [(60 : Int32)]).length) + (2 : Int32)))) rfl (gO X497 hx 70 87 rfl (B at_70) (by decide) ht))))) ?_
   rw [own_pos2 (([] : List Int32) ++ [(60 : Int32)]) (own_fi p3) (own_fi ((p3.toUInt32 >>> ((8 : Int32) &&& 31).toUInt32).toInt32))]
   exact seg87 (s := s) (vm1 := s.vm) ⟨hw, hx, B, hlk, hret, hml, hown, hZ⟩ (X497.more (by decide) (by decide)) e497 Z502 N503 f501 f504 g431 hst (own_sk1 (by decide) (own_fib _).2 (own_fib _).2) hR500.1 sf499  ((State.WarmedH.refl s).since h497.size) (Nat.le_refl _) (fun _ _ q => ⟨rfl, q⟩)
  ·obtain ⟨_, _, ⟨T505, L505, k505, n505⟩, -, X505, Sq505, gr505, ⟨Lc505, hQ505, l505, y505, z505, CH505⟩, st505⟩ := callSS X476 hx (y := mn26) hown (mvT hZ (wt hw 1 rfl)) (mvT hZ (wt hw 2 rfl)) (mvT hZ (wt hw 3 rfl)) (mvT hZ (wt hw 4 rfl)) (by decide) (backOfSH (s := s) (vm0 := s.vm) (W := 2) (rmPfx l Z _ hw [] pp h476 n0 Z481 ) hZ (wt hw 4 rfl) (wt hw 3 rfl) (by decide) (by decide) hEL hR479.1) (g := (mkF m 79 (la71 p0 p1 p2 p3 b430 (oN (([] : List Int32) ++ [(60 : Int32)]).length) pp (oN (([] : List Int32) ++ [(60 : Int32)]).length)) [(.int pp), (.int (oN (([] : List Int32) ++ [(60 : Int32)]).length)), (.ref b430)])) rfl (by rw [hml]; rfl) (argsL := [(.int pp)]) (rest := [(.int (oN (([] : List Int32) ++ [(60 : Int32)]).length)), (.ref b430)]) (lenOf pd_32 rfl) rfl (by show 2 * 0 + _ ≤ _; exact nE rfl) (B at_79) (fun _ _ => ⟨rfl, e476, (by decide : 1 + 2 ≤ _), (by decide : 32 + 64 ≤ _)⟩)
   dsimp only [Pt.U, Pt.locs, Pt.cells, Pt.slots] at X505 l505 y505 z505 st505 hQ505 Sq505 gr505 CH505
   subst l505 y505 z505
   have hZ505 : Z.Warmed39 (s.setVm T505.vm).vm := State.Warmed39.trans (t := s.setVm s.vm) hZ Sq505.1
   have hown505 : (s.setVm T505.vm).vm.findClass cC = some m.cls := by rw [show (s.setVm T505.vm).vm = T505.vm from rfl, Sq505.1.alike.findClass]; exact hown
   have S505 : s.Since T505.vm T505.heap.size := State.Since.trans (s := s) (vm₁ := s.vm) ((State.WarmedH.refl s).since h476.size) Sq505 (nT (Nat.le_refl _) (by rw [← e476]; exact gr505))
   obtain ⟨al505, tv505, kv505, rfl, Nq505, Kq505, Ea505, Fc505, Fv505, Tv505⟩ := hQ505
   have N506 := Fr.app N482 Nq505
   have hA507 := CH505
   have sf508 := hA507.safe f483.lt sf478
   have hR509 := hR479.trans hA507
   have f510 := (f480.keep Kq505 own_sn0)
   have f511 := (f483.keep Kq505 nin0)
   have Z512 := nT Z481 Kq505.1
   refine OFin.of (fun t ht => cY X476 hx 38 73 rfl (B at_38) rfl (feq hc484).2 (by decide) (aW X476 hx (B at_73) rfl rfl (iW X476 hx (B at_75) rfl (iW X476 hx (B at_77) rfl (st505.trans ht))))) ?_
   obtain ⟨_, T513, Lc513, X513, hQ513, st513⟩ := own_cS X505 hx hw hZ505 hown505 12 13 3 14 rfl rfl rfl rfl (by decide) (rmPal l Z _ hw [] b430 al505 tv505 kv505 (own_pfx pp) cs fm k430 (32 : Int32) (([] : List Int32) ++ [(60 : Int32)]) T505.heap n0 Z512 Ea505 Fc505 Fv505 Tv505 f510.2.2.2.1 hst.1 f510.2.2.2.2.1 hst.2.1 (own_pfx_lit _).1 (own_pfx_lit _).2 f511 g431 (Ne.symm (Txt.neExa f511 Ea505 (wt hw 7 rfl))) (own_txne Tv505 f511 (own_c32 (own_pfx_lit _).2)) (own_r32 (own_la own_l0) (own_pfx_lit _).2) (by decide)) (by decide) (by decide) (g := (mkF m 82 (la71 p0 p1 p2 p3 b430 (oN (([] : List Int32) ++ [(60 : Int32)]).length) pp (oN (([] : List Int32) ++ [(60 : Int32)]).length)) [(.ref al505), (.int (oN (([] : List Int32) ++ [(60 : Int32)]).length)), (.ref b430)])) rfl hml rfl (argsL := [(.ref b430), (.int (oN (([] : List Int32) ++ [(60 : Int32)]).length)), (.ref al505)]) (rest := []) pd_33 rfl rfl rfl (W := 0) (nE rfl) (B at_82) rfl (rfl : T505.heap = T505.heap) (by decide) (by decide)
   obtain ⟨rfl, Nq513, Kq513, f513⟩ := hQ513
   have N514 := Fr.app N506 Nq513
   have hA515 := CHr.keep Kq513 (sfS sf508 sf0) hR509.1
   have sf516 := hA515.safe f511.lt sf508
   have hR517 := hR509.trans hA515
   have f518 := (f510.keep Kq513 (own_snT f511 own_sn0))
   have Z519 := nT Z512 Kq513.1
   have kk520 : T505.heap.size ≤ T513.heap.size := (nT (Nat.le_refl _) Kq513.1)
   refine OFin.to st513 ?_
   refine OFin.of (S' := T513.setTop (mkF m 87 (la71 p0 p1 p2 p3 b430 (oN (([] : List Int32) ++ [(60 : Int32)]).length) pp (oN ((([] : List Int32) ++ [(60 : Int32)]).length + (own_pfx pp).length))) [])) (fun t ht => sW X513 hx (B at_85) rfl (l' := (la71 p0 p1 p2 p3 b430 (oN (([] : List Int32) ++ [(60 : Int32)]).length) pp (oN ((([] : List Int32) ++ [(60 : Int32)]).length + (own_pfx pp).length)))) rfl ht) ?_
   rw [← List.length_append]
   obtain ⟨k0, hsk⟩ := own_skp (F := (([] : List Int32) ++ [(60 : Int32)])) (Or.inr rfl) pp
   exact seg87 (s := s) (vm1 := T505.vm) ⟨hw, hx, B, hlk, hret, hml, hown505, hZ505⟩ (X513.more (by decide) (by decide)) (rfl : T513.heap = T513.heap) Z519 N514 f518 f513 g431 hst hsk hR517.1 sf516  S505 kk520 (fun _ _ q => ⟨rfl, q⟩)
theorem own_fldEq {args : Array Value} {Z : State} {t : Term} {C n d : String} {x : Addr} {k : Int32} (ev : t.eval args Z none [] Z = some (.ref x)) (h : (Jvm.Cond.eq (Term.field t C n d) (Term.int k)).value args Z none Z [] = some true) : Fld Z Z.heap x C n d (.int k) := by
 obtain ⟨u, w, e1, e2, -, -⟩ := cmp_v (Or.inl h)
 have e3 : w = .int k := (Option.some.inj e2).symm
 subst e3
 have e4 : u = .int k := by
  cases u <;> simp [Jvm.Cond.value, e1, e2] at h ⊢
  exact h
 subst e4
 exact Fld.start ((fld_at ev).symm.trans e1)
theorem own_refEq {args : Array Value} {Z : State} {t t' : Term} {x y : Addr} (e1 : t.eval args Z none [] Z = some (.ref x)) (e2 : t'.eval args Z none [] Z = some (.ref y)) (h : (Jvm.Cond.eq t t').value args Z none Z [] = some true) : x = y := by
 simp [Jvm.Cond.value, e1, e2] at h; exact h
theorem own_staEq {args : Array Value} {Z : State} {C n d : String} {k : Int32} (h : (Jvm.Cond.eq (Term.static C n d) (Term.int k)).value args Z none Z [] = some true) : (Term.static C n d).eval args Z none [] Z = some (.int k) := by
 obtain ⟨u, w, e1, e2, -, -⟩ := cmp_v (Or.inl h)
 have e3 : w = .int k := (Option.some.inj e2).symm
 subst e3
 have e4 : u = .int k := by
  cases u <;> simp [Jvm.Cond.value, e1, e2] at h ⊢
  exact h
 subst e4
 exact e1
theorem comes_1 {Post : Tables → Env → Array Value → State → Outcome → State → Prop} (hpost : ∀ tb e args s v u, (limb_1_1.after args s (.returned v) u = true ∧ limb_1_2.after args s (.returned v) u = true ∧ True) → FramedW s (.returned v) u (Jvm.fieldLocs frame_1_writes args s ++ Jvm.arrayLocs frame_1_arrays args s ++ Jvm.staticLocs frame_1_statics s) 64 22848 → Post tb e args s (.returned v) u) :
  ArmFor flags0 classFile x code maxLocals ret World_1 tables_1 room_1 Calls_1 rest_1 Pre_1 Post := by
 intro l hfl _ _ p e ha hc hk s m args below hf hA hF happ hP
 obtain ⟨hcalls, hrest, hpre⟩ := hP
 obtain ⟨-, -, -, hnamed, -, -, -, hat⟩ := (Spec.applies_iff hf).mp happ
 obtain ⟨hg, hn⟩ := and_e (Cond.before_iff.mp (show (Jvm.Cond.and given_1 narrow_1).before args s = true from hpre))
 obtain ⟨gg0, hg0⟩ := and_e hg
 obtain ⟨gg1, hg1⟩ := and_e hg0
 obtain ⟨gg2, hg2⟩ := and_e hg1
 obtain ⟨gg3, hg3⟩ := and_e hg2
 obtain ⟨w0, w1, w2, w3, rfl⟩ : ∃ w0 w1 w2 w3 : Value, args = #[w0, w1, w2, w3] := by
  have hs : args.size = 4 := by simpa [Cond.value, given_1] using gg0
  obtain ⟨L⟩ := args
  match L, hs with
  | [w0, w1, w2, w3], _ => exact ⟨w0, w1, w2, w3, rfl⟩
 have hw := fun d (hd : d ∈ tables_1) => atoms_spec (ws := Jvm.Cond.code x code maxLocals ret :: tables_1) hat d (List.mem_cons_of_mem _ hd)
 have hfit : Fit s := fun {y c} hc i hi => by
  obtain ⟨ha, rfl⟩ := Array.getElem?_eq_some_iff.mp hc
  have q := List.all_eq_true.mp ((Array.all_eq_true_iff_forall_mem.mp hF) _ (Array.getElem_mem ha)) i (List.mem_range.mpr hi)
  simpa [Array.getElem?_eq_getElem hi] using q
 obtain ⟨i0, ei0⟩ := is_v gg1
 obtain rfl : w0 = (.int i0) := Option.some.inj ei0
 obtain ⟨i1, ei1⟩ := is_v gg2
 obtain rfl : w1 = (.int i1) := Option.some.inj ei1
 obtain ⟨i2, ei2⟩ := is_v gg3
 obtain rfl : w2 = (.int i2) := Option.some.inj ei2
 obtain ⟨i3, ei3⟩ := is_v hg3
 obtain rfl : w3 = (.int i3) := Option.some.inj ei3
 obtain ⟨hsets, hown0⟩ := atoms_of _ (rest_1_c_eq ▸ (show rest_1_c.before _ s = true from hrest))
 have nz := not_v (Cond.before_iff.mp (hsets _ (mG (i := 2) rfl)))
 obtain ⟨cs, ecs⟩ := is_v (Cond.before_iff.mp (hsets _ (mG (i := 1) rfl)))
 have Scs : Sta s s.heap cB "COMPACT_STRINGS" "Z" (.int cs) := Sta.start ecs (Or.inl (hsets _ (mG (i := 0) rfl)))
 have hcs : ¬ (cs = 0) := gotF (Cond.eq_ints ecs (Term.int_eval (0))) nz
 obtain ⟨fm, efm, hfm⟩ := isR_v (Cond.before_iff.mp (hsets _ (mG (i := 8) rfl)))
 have Sfm : Sta s s.heap cG "SIOOBE_FORMATTER" cE fm := Sta.start efm (Or.inl (hsets _ (mG (i := 7) rfl)))
 obtain ⟨u8, eu8⟩ := exa_v (Cond.before_iff.mp (hsets _ (mG (i := 14) rfl)))
 have EU := Exa.start eu8 (Cond.before_iff.mp (hsets _ (mG (i := 14) rfl)))
 have SU := Sta.start eu8 (Or.inl (hsets _ (mG (i := 10) rfl)))
 obtain ⟨u9, eu9⟩ := exa_v (Cond.before_iff.mp (hsets _ (mG (i := 17) rfl)))
 have e89 : u8 = u9 := own_refEq eu8 eu9 (Cond.before_iff.mp (hsets _ (mG (i := 13) rfl)))
 subst e89
 have SI := Sta.start eu9 (Or.inl (hsets _ (mG (i := 12) rfl)))
 have S6a := Sta.start (own_staEq (Cond.before_iff.mp (hsets _ (mG (i := 21) rfl)))) (Or.inl (hsets _ (mG (i := 20) rfl)))
 have S6h := Sta.start (own_staEq (Cond.before_iff.mp (hsets _ (mG (i := 24) rfl)))) (Or.inl (hsets _ (mG (i := 23) rfl)))
 have S6l := Sta.start (own_staEq (Cond.before_iff.mp (hsets _ (mG (i := 27) rfl)))) (Or.inl (hsets _ (mG (i := 26) rfl)))
 have hC0 : CHv s consts_1 s.vm s.heap := CHv.start (own_EW hw) (fun p hp => hcalls.1 p hp) (hsets _ (mG (i := 2) rfl)) (wt hw 0 rfl) (wt hw 7 rfl)
 obtain ⟨na0, hn0⟩ := and_e hn
 obtain ⟨na1, hn1⟩ := and_e hn0
 obtain ⟨na2, hn2⟩ := and_e hn1
 obtain ⟨na3, hn3⟩ := and_e hn2
 obtain ⟨na4, hn4⟩ := and_e hn3
 obtain ⟨x_END, ev_END⟩ := exa_v na0
 have E_END := Exa.start ev_END na0
 have S_END := Sta.start ev_END (Or.inr ⟨(wt hw 67 rfl), (wt hw 68 rfl)⟩)
 obtain ⟨x_START, ev_START⟩ := exa_v na1
 have E_START := Exa.start ev_START na1
 have S_START := Sta.start ev_START (Or.inr ⟨(wt hw 67 rfl), (wt hw 88 rfl)⟩)
 obtain ⟨x_INSTRUCTION, ev_INSTRUCTION⟩ := exa_v na4
 have E_INSTRUCTION := Exa.start ev_INSTRUCTION na4
 have S_INSTRUCTION := Sta.start ev_INSTRUCTION (Or.inr ⟨(wt hw 67 rfl), (wt hw 195 rfl)⟩)
 have O_END := own_fldEq ev_END na2
 have O_START := own_fldEq ev_START na3
 have O_INSTRUCTION := own_fldEq ev_INSTRUCTION hn4
 have hne1 : x_END ≠ x_START := Fld.ne O_END O_START (by decide)
 have hne2 : x_INSTRUCTION ≠ x_START := Fld.ne O_INSTRUCTION O_START (by decide)
 obtain ⟨n, o, h1, h2, h3, _, L, rfl, ⟨rfl, N⟩, hq⟩ := rm0 l s _ hw tables_1 i0 i1 i2 i3 x_START x_END x_INSTRUCTION cs fm u8 s.heap s.heap.size (Nat.le_refl _) ⟨S_START, S_END, S_INSTRUCTION, Scs, Sfm, SI, SU, S6a, S6h, S6l, EU⟩ ⟨hcs, hfm, hne1, hne2⟩ p e ha hc hk s m _ below hf ((Spec.applies_iff_loose hf).mp happ).1 ⟨rfl, State.Warmed39.refl s, rfl, hC0⟩ trivial
 refine ⟨n, _, h1, h2, h3, hpost _ _ _ _ _ _ ⟨Cond.after_iff.mpr rfl, Cond.after_iff.mpr (eq_i res_at (Term.int_eval (1)) rfl), trivial⟩ ⟨hq.1, hq.2.1, hq.2.2.1, (hq.2.2.2.sift fun y hy => Or.inr (N y hy)).mono (by decide) (by decide)⟩⟩
theorem main_1_1 : Claimed_1_1 := comes_1 fun _ _ _ _ _ _ h hF => ⟨h.1, hF⟩
theorem main_1_2 : Claimed_1_2 := comes_1 fun _ _ _ _ _ _ h hF => ⟨h.2.1, hF⟩
end Jvm.Pilot.@@N@@
