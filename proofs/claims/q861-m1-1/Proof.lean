import JvmDerived
import JvmDerived.Pilot.@@N@@Statement
import JvmDerived.Pilot.@@N@@Code
set_option linter.unusedVariables false
set_option linter.unusedSimpArgs false
namespace Jvm.RoadKit
open Sem ClassFile Op Lib Jvm.Stand Jvm.Free Jvm.LawKit
section OwnNew
variable {p : Program} {l : Launch} {e : Env} {R : Room} {s : State} {m : MethodId} {args : Array Value} {below : List Frame} {meth : Method} {c : Code} {T : State} {locs : List Loc} {cells slots : Nat}
theorem retI (X : Stand p l e R s m args below meth c T locs cells slots) (hx : p.tables.exec = Jvm.exec) {pc : Nat} {Ls : Array Slot} {z : Int32} {rest : List Value} (hret : meth.sig.returnType = some .int) (hd : decode c.code pc = .ok (.ireturn, 1)) {fs : List Frame}
    (hl : ∀ (f : JFrame) (acts : List Action), f.method = m → f.locked = none → f.entered = [] → (doReturn e (T.setTop f) acts (some (.int z))).1 = T.setFrames fs) : Steps p.tables e below (T.setTop (mkF m pc Ls (.int z :: rest))) (T.setFrames fs) := by
  have hm' : T.vm.method? m = some meth := X.method'
  have hn : narrow .int (.int z) = .int z := rfl
  show Steps p.tables e below (T.setTop { method := m, pc := pc, locals := Ls, stack := _ :: rest, locked := none }) _
  jvm_step X.here [X.here.top, hx, hd, hm', hret, hn]
  first | (intro acts; rw [hl _ acts rfl rfl rfl]) | rw [hl _ _ rfl rfl rfl]
  exact Steps.refl _
/-- from S the run comes to an end of this invocation at which K holds -/
def OFin (p : Program) (e : Env) (below : List Frame) (K : Outcome → State → Prop) (S : State) : Prop := ∃ s₂ o, Steps p.tables e below S s₂ ∧ s₂.status = .running ∧ Ended s₂ below o ∧ K o s₂
theorem OFin.of {K : Outcome → State → Prop} {S S' : State} (h : ∀ t, Steps p.tables e below S' t → Steps p.tables e below S t) (k : OFin p e below K S') : OFin p e below K S := by
  obtain ⟨t, o, a, b⟩ := k; exact ⟨t, o, h t a, b⟩
theorem OFin.to {K : Outcome → State → Prop} {S S' : State} (h : Steps p.tables e below S S') (k : OFin p e below K S') : OFin p e below K S := by
  obtain ⟨t, o, a, b⟩ := k; exact ⟨t, o, h.trans a, b⟩
abbrev KPost (s : State) (Q : Option Value → Heap → List Loc → Prop) (C D : Nat) : Outcome → State → Prop := fun o U' => ∃ v L, o = .returned v ∧ Q v U'.heap L ∧ FrameEnd s o U' L C D
theorem OFin.retI (X : Stand p l e R s m args below meth c T locs cells slots) (hx : p.tables.exec = Jvm.exec) (hlk : meth.locks = false) {pc : Nat} {Ls : Array Slot} {z : Int32} {rest : List Value} {Q : Option Value → Heap → List Loc → Prop} {C D : Nat} (hret : meth.sig.returnType = some .int) (hd : decode c.code pc = .ok (.ireturn, 1)) (hC : cells ≤ C) (hD : slots ≤ D) (hQ : Q (some (.int z)) T.heap locs) :
    OFin p e below (KPost s Q C D) (T.setTop (mkF m pc Ls (.int z :: rest))) := by
  obtain ⟨fs, hr, hrun, hended, hW, hsame⟩ := X.leave (v := some (.int z)) (fun h => by rw [hret] at h; cases h) hlk
  exact ⟨_, _, Jvm.RoadKit.retI X hx hret hd hr, hrun, hended, _, _, rfl, hQ, ⟨_, rfl⟩, hW, hsame.mono hC hD⟩
theorem OFin.retB (X : Stand p l e R s m args below meth c T locs cells slots) (hx : p.tables.exec = Jvm.exec) (hlk : meth.locks = false) {pc : Nat} {Ls : Array Slot} {z : Int32} {rest : List Value} {Q : Option Value → Heap → List Loc → Prop} {C D : Nat} {t : FieldType} (ht : t = .boolean ∨ t = .byte ∨ t = .char ∨ t = .short) (hret : meth.sig.returnType = some t) (hd : decode c.code pc = .ok (.ireturn, 1)) (hC : cells ≤ C) (hD : slots ≤ D) (hQ : Q (some (.int (nar t z))) T.heap locs) :
    OFin p e below (KPost s Q C D) (T.setTop (mkF m pc Ls (.int z :: rest))) := by
  obtain ⟨fs, hr, hrun, hended, hW, hsame⟩ := X.leave (v := some (.int (nar t z))) (fun h => by rw [hret] at h; cases h) hlk
  exact ⟨_, _, retN X hx hret ht hd hr, hrun, hended, _, _, rfl, hQ, ⟨_, rfl⟩, hW, hsame.mono hC hD⟩
theorem OFin.retJ (X : Stand p l e R s m args below meth c T locs cells slots) (hx : p.tables.exec = Jvm.exec) (hlk : meth.locks = false) {pc : Nat} {Ls : Array Slot} {z : Int64} {Q : Option Value → Heap → List Loc → Prop} {C D : Nat} (hret : meth.sig.returnType = some .long) (hd : decode c.code pc = .ok (.lreturn, 1)) (hC : cells ≤ C) (hD : slots ≤ D) (hQ : Q (some (.long z)) T.heap locs) :
    OFin p e below (KPost s Q C D) (T.setTop (mkF m pc Ls [.long z])) := by
  obtain ⟨fs, hr, hrun, hended, hW, hsame⟩ := X.leave (v := some (.long z)) (fun h => by rw [hret] at h; cases h) hlk
  exact ⟨_, _, X.lreturnOut hx hret hd hr, hrun, hended, _, _, rfl, hQ, ⟨_, rfl⟩, hW, hsame.mono hC hD⟩
theorem OFin.retA (X : Stand p l e R s m args below meth c T locs cells slots) (hx : p.tables.exec = Jvm.exec) (hlk : meth.locks = false) {pc : Nat} {Ls : Array Slot} {z : Value} {Q : Option Value → Heap → List Loc → Prop} {C D : Nat} {t : FieldType} (ht : t.isReference = true) (hz : z.isRef = true) (hret : meth.sig.returnType = some t) (hd : decode c.code pc = .ok (.areturn, 1)) (hC : cells ≤ C) (hD : slots ≤ D) (hQ : Q (some z) T.heap locs) :
    OFin p e below (KPost s Q C D) (T.setTop (mkF m pc Ls [z])) := by
  obtain ⟨fs, hr, hrun, hended, hW, hsame⟩ := X.leave (v := some z) (fun h => by rw [hret] at h; cases h) hlk
  exact ⟨_, _, X.areturnOut hx hz hret ht hd hr, hrun, hended, _, _, rfl, hQ, ⟨_, rfl⟩, hW, hsame.mono hC hD⟩
theorem OFin.retD (X : Stand p l e R s m args below meth c T locs cells slots) (hx : p.tables.exec = Jvm.exec) (hlk : meth.locks = false) {pc : Nat} {Ls : Array Slot} {z : UInt64} {rest : List Value} {Q : Option Value → Heap → List Loc → Prop} {C D : Nat} (hret : meth.sig.returnType = some .double) (hd : decode c.code pc = .ok (.dreturn, 1)) (hC : cells ≤ C) (hD : slots ≤ D) (hQ : Q (some (.double z)) T.heap locs) :
    OFin p e below (KPost s Q C D) (T.setTop (mkF m pc Ls (.double z :: rest))) := by
  obtain ⟨fs, hr, hrun, hended, hW, hsame⟩ := X.leave (v := some (.double z)) (fun h => by rw [hret] at h; cases h) hlk
  exact ⟨_, _, retOut X hx hret rfl (Or.inr (Or.inr (Or.inl ⟨rfl, rfl, z, rfl⟩))) hd hr, hrun, hended, _, _, rfl, hQ, ⟨_, rfl⟩, hW, hsame.mono hC hD⟩
theorem OFin.retV (X : Stand p l e R s m args below meth c T locs cells slots) (hx : p.tables.exec = Jvm.exec) (hlk : meth.locks = false) {pc : Nat} {Ls : Array Slot} {Q : Option Value → Heap → List Loc → Prop} {C D : Nat} (hret : meth.sig.returnType = none) (hd : decode c.code pc = .ok (.return_, 1)) (hC : cells ≤ C) (hD : slots ≤ D) (hQ : Q none T.heap locs) :
    OFin p e below (KPost s Q C D) (T.setTop (mkF m pc Ls [])) := by
  obtain ⟨fs, hr, hrun, hended, hW, hsame⟩ := X.leave (v := none) (fun _ => rfl) hlk
  exact ⟨_, _, X.returnOut hx hret hd hr, hrun, hended, _, _, rfl, hQ, ⟨_, rfl⟩, hW, hsame.mono hC hD⟩
abbrev KPostW (s : State) (Q : Option Value → Heap → List Loc → Prop) (C D : Nat) : Outcome → State → Prop := fun o U' => ∃ v L, o = .returned v ∧ Q v U'.heap L ∧ ReturnedEndW s o U' L C D
theorem OFin.retBW {vm₁ : Vm} {k : Nat} (X : Stand p l e R (s.setVm vm₁) m args below meth c T locs cells slots) (hS : s.Since vm₁ k) (hk : k ≤ T.heap.size) (hx : p.tables.exec = Jvm.exec) (hlk : meth.locks = false) {pc : Nat} {Ls : Array Slot} {z : Int32} {rest : List Value} {Q : Option Value → Heap → List Loc → Prop} {C D : Nat} {t : FieldType} (ht : t = .boolean ∨ t = .byte ∨ t = .char ∨ t = .short) (hret : meth.sig.returnType = some t) (hd : decode c.code pc = .ok (.ireturn, 1)) (hC : cells ≤ C) (hD : slots ≤ D) (hQ : Q (some (.int (nar t z))) T.heap locs) :
    OFin p e below (KPostW s Q C D) (T.setTop (mkF m pc Ls (.int z :: rest))) := by
  obtain ⟨fs, hr, hrun, hended, h1, h2, h3, h4⟩ := X.leaveW hS hk (v := some (.int (nar t z))) (fun h => by rw [hret] at h; cases h) hlk
  exact ⟨_, _, retN X hx hret ht hd hr, hrun, hended, _, _, rfl, hQ, ⟨_, rfl⟩, h2, h3, h4.mono hC hD⟩
theorem own_alen {Z : State} {h : Heap} {a : Addr} {cl : Cell} {ty : FieldType} {z : Int32} {g : JFrame} {rest : List Value} {target : State} (X : Stand p l e R s m args below meth c T locs cells slots) (hx : p.tables.exec = Jvm.exec) (hZ : Z.Warmed39 s.vm) (eT : T.heap = h) (A : Arr Z h a cl ty) (S : cl.slots.size = z.toNatClampNeg) (q : ¬ z < 0) (hg : g.method = m) (hs : g.stack = .ref a :: rest) (hd : decode c.code g.pc = .ok (.arraylength, 1))
    (hr : Steps p.tables e below (T.setTop { g with pc := g.pc + 1, stack := .int z :: rest }) target) : Steps p.tables e below (T.setTop g) target := by
  refine X.arraylength hx (by rw [eT]; exact A.1) (State.isArrayOf_alike hZ.alike A.2.1) hg hs hd _ ?_
  rw [len_of S q]; exact hr
def OwnNoSta (h : Heap) (ws : List Addr) : Prop := ∀ x ∈ ws, ∀ cell : Cell, h[x]? = some cell → cell.vm.isStatics = false
theorem own_sn0 {h : Heap} : OwnNoSta h [] := fun _ q => nomatch q
theorem own_snS {Z : State} {h : Heap} {a : Addr} {C : String} {ws : List Addr} (E : Exa Z h a C) (r : OwnNoSta h ws) : OwnNoSta h (a :: ws) := fun x q cell hc => by
  rcases List.mem_cons.mp q with rfl | q
  · obtain ⟨c', _, h1, -, -, h4, -⟩ := E; cases h1.symm.trans hc; exact h4
  · exact r x q cell hc
theorem own_snV {Z : State} {h : Heap} {a : Addr} {k : ClassId} {ty : FieldType} {z : Int32} {vs : List Value} {dv : Value} {ws : List Addr} (F : Arv Z h a k ty z vs dv) (r : OwnNoSta h ws) : OwnNoSta h (a :: ws) := fun x q cell hc => by
  rcases List.mem_cons.mp q with rfl | q
  · obtain ⟨c', A, -⟩ := F; cases A.1.symm.trans hc; exact A.plain
  · exact r x q cell hc
theorem own_staKeep {Z : State} {h h' : Heap} {C n d : String} {v : Value} {ws : List Addr} (F : Sta Z h C n d v) (K : Keep h h' ws) (q : OwnNoSta h ws) : Sta Z h' C n d v := by
  obtain ⟨cf, i, k, f, st, cell, h1, h2, h3, h4, h5, h6, h7⟩ := F
  refine ⟨cf, i, k, f, st, cell, h1, h2, h3, h4, K.2.1 st cell h5 (fun z => ?_), h6, h7⟩
  have := q st z cell h5
  rw [this] at h6; cases h6
theorem own_pop2L {tb : Tables} [Ours tb] {e : Env} {below : List Frame} {T target : State} {m : MethodId} {c : Code} {g : JFrame} (h : At T m c below) (hx : tb.exec = Jvm.exec) (hg : g.method = m) {x : Int64} {rest : List Value} (hd : decode c.code g.pc = .ok (.pop2, 1)) (hs : g.stack = .long x :: rest)
    (hr : Steps tb e below (T.setTop { g with pc := g.pc + 1, stack := rest }) target) : Steps tb e below (T.setTop g) target := by
  subst hg
  jvm_step h [h.top, hx, hd, hs, Value.category]
  exact hr
def OwnMet (E : Int32) (h0 : Heap) (n0 : Nat) (v : Option Value) (h : Heap) (L : List Loc) : Prop := v = some (.int E) ∧ Fr n0 L ∧ h = h0
end OwnNew
end Jvm.RoadKit
namespace Jvm.Pilot.@@N@@
open Jvm Jvm.ClassFile Sem Op Lib Jvm.Free Jvm.Stand Jvm.LawKit Jvm.RoadKit Bundle Jvm.Pilot.@@N@@.Jvm.D
theorem pd_0 : parseMethodDescriptor "()V" = some ⟨[], none⟩ := by decide +kernel
theorem pd_1 : parseMethodDescriptor "(C)Z" = some ⟨[.char], some .boolean⟩ := by decide +kernel
theorem pd_2 : parseMethodDescriptor "(C)[B" = some ⟨[.char], some (.array .byte)⟩ := by decide +kernel
theorem pd_3 : parseMethodDescriptor "([BB)V" = some ⟨[(.array .byte), .byte], none⟩ := by decide +kernel
theorem pd_4 : parseMethodDescriptor "([CI[BII)I" = some ⟨[(.array .char), .int, (.array .byte), .int, .int], some .int⟩ := by decide +kernel
theorem pd_5 : parseMethodDescriptor "([CII)[B" = some ⟨[(.array .char), .int, .int], some (.array .byte)⟩ := by decide +kernel
theorem pd_6 : parseMethodDescriptor "([BI)B" = some ⟨[(.array .byte), .int], some .byte⟩ := by decide +kernel
theorem pd_7 : parseMethodDescriptor "([CIILjava/lang/Void;)V" = some ⟨[(.array .char), .int, .int, (.object "java/lang/Void")], none⟩ := by decide +kernel
theorem pd_8 : parseMethodDescriptor "(ZZLjava/lang/String;)V" = some ⟨[.boolean, .boolean, (.object "java/lang/String")], none⟩ := by decide +kernel
theorem pd_9 : parseMethodDescriptor "()Z" = some ⟨[], some .boolean⟩ := by decide +kernel
theorem pd_10 : parseMethodDescriptor "(C)Ljava/lang/String;" = some ⟨[.char], some (.object "java/lang/String")⟩ := by decide +kernel
theorem pd_11 : parseMethodDescriptor "([C)V" = some ⟨[(.array .char)], none⟩ := by decide +kernel
theorem own_strAtoms {Z : State} {a0 : Array Value} (hw : ∀ d ∈ tables_1, d.before a0 Z = true) : ∀ a ∈ Bundle.stringAtoms, a.before a0 Z = true := fun a ha => by
  simp only [Bundle.stringAtoms, List.mem_cons, List.not_mem_nil, or_false] at ha
  rcases ha with rfl | rfl | rfl | rfl | rfl | rfl | rfl
  · exact (hw _ (List.mem_of_getElem? (i := 3) rfl))
  · exact (hw _ (List.mem_of_getElem? (i := 11) rfl))
  · exact (hw _ (List.mem_of_getElem? (i := 15) rfl))
  · exact (hw _ (List.mem_of_getElem? (i := 24) rfl))
  · exact (hw _ (List.mem_of_getElem? (i := 26) rfl))
  · exact (hw _ (List.mem_of_getElem? (i := 68) rfl))
  · exact (hw _ (List.mem_of_getElem? (i := 69) rfl))
theorem own_nc (x : Int32) : nar .char ((x &&& (255 : Int32)).toUInt32.toUInt16.toUInt32.toInt32) = x &&& (255 : Int32) := by
  rw [i2c_mask]; exact i2c_mask x
theorem own_hp (x : Int32) : ¬ (255 : Int32) < (nar .char ((x &&& (255 : Int32)).toUInt32.toUInt16.toUInt32.toInt32)) := by
  rw [own_nc, Int32.lt_iff_toInt_lt]
  have h := c_and x 255 (by decide)
  have e : (255 : Int32).toInt = 255 := by decide
  omega
theorem own_and1 (x : Int32) : x &&& (1 : Int32) = (0 : Int32) ∨ x &&& (1 : Int32) = (1 : Int32) := and_one x
theorem dRec_0 : decode jdk_30_method_1_code 0 = .ok (.aload_n 0, 1) := by decide +kernel
theorem dRec_1 : decode jdk_30_method_1_code 1 = .ok (.invokespecial 1, 3) := by decide +kernel
theorem dRec_4 : decode jdk_30_method_1_code 4 = .ok (.return_, 1) := by decide +kernel
theorem pnRec : plainName "java/lang/Record" = true := by first | (simp [plainName, overriddenIn]; done) | decide +kernel
theorem efRec (m : MethodId) (a0 : Addr) : entryFrame m #[(.ref a0)] 1 = mkF m 0 #[.val (.ref a0)] [] := by first | (simp [entryFrame, mkF, argsToLocals, Value.category]; done) | rfl
def QRec (Z : State) (a0 : Addr) (h0 : Heap) (n0 : Nat) (v : Option Value) (h : Heap) (L : List Loc) : Prop := v = none ∧ Fr n0 L ∧ h = h0
set_option maxRecDepth 65536 in
set_option maxHeartbeats 40000000 in
theorem rmRec (l : Launch) (Z : State) (a0 : Array Value) (hw : ∀ d ∈ tables_1, d.before a0 Z = true) (ws : List Jvm.Cond) (a0 : Addr) (h0 : Heap) (n0 : Nat) (Z0 : n0 ≤ h0.size)  :
    MetFree l (⟨"java/lang/Record", "<init>", "()V"⟩ : MethodName) (head1 (Jvm.Cond.code (⟨"java/lang/Record", "<init>", "()V"⟩ : MethodName) jdk_30_method_1_code 1 none :: ws) ({ frames := 1, cells := 0, slots := 0, locals := 12 } : Room)) (fun a U => a = #[(.ref a0)] ∧ Z.Warmed39 U.vm ∧ U.heap = h0) (fun _ _ _ _ _ => True) (fun _ U o U' => ∃ v L, o = .returned v ∧ QRec Z a0 h0 n0 v U'.heap L ∧ FrameEnd U o U' L ({ frames := 1, cells := 0, slots := 0, locals := 12 } : Room).cells ({ frames := 1, cells := 0, slots := 0, locals := 12 } : Room).slots) := by
  refine MetFree.of_bodySF (plainFor_of_name pnRec) hisR ?_
  intro p e s m args below meth c s₁ Bd hml0 hP hK
  obtain ⟨rfl, hZ, hh⟩ := hP
  have hx := Bd.exec
  have hby := Bd.bytes
  have hlk := BodyLoose.notSynchronized Bd
  have hret := Bd.returns
  have hml : c.maxLocals = 1 := hml0
  have hown : s.vm.findClass "java/lang/Record" = some m.cls := findClass_of_methodNamed Bd.named
  have hnm := (name_of_methodNamed Bd.named Bd.method).1
  have X0 : Stand p l e ({ frames := 1, cells := 0, slots := 0, locals := 12 } : Room) s m #[(.ref a0)] below meth c s₁ [] 0 0 := Stand.of_body Bd
  have e0 : s₁.heap = h0 := by rw [← hh, Bd.state]; rfl
  have N0 := Fr.nil n0
  show OFin p e below (KPost s (QRec Z a0 h0 n0) ({ frames := 1, cells := 0, slots := 0, locals := 12 } : Room).cells ({ frames := 1, cells := 0, slots := 0, locals := 12 } : Room).slots) _
  rw [efRec m a0]
  refine OFin.of (S' := s₁.setTop (mkF m 1 #[.val (.ref a0)] [(.ref a0)])) (fun t ht => ?_) ?_
  · refine XS.aloadN X0.here hx rfl (hb hby dRec_0) rfl rfl ?_
    exact ht
  obtain ⟨T1, X1, e1, st1⟩ := initO X0 hx hZ hown (hw _ (List.mem_of_getElem? (i := 38) rfl)) (hw _ (List.mem_of_getElem? (i := 21) rfl)) (hw _ (List.mem_of_getElem? (i := 22) rfl)) e0 (g := (mkF m 1 #[.val (.ref a0)] [(.ref a0)])) rfl (by rw [hml]; rfl) rfl (hb hby dRec_1) (by decide) (W := 0) (by show 2 * 0 + _ ≤ _; exact Nat.le_of_eq rfl) (by decide)
  refine OFin.of (S' := T1.setTop (mkF m 4 #[.val (.ref a0)] [])) (fun t ht => st1 t ht) ?_
  exact OFin.retV X1 hx hlk hret (hb hby dRec_4) (by decide) (by decide) (by rw [e1]; exact ⟨rfl, N0, rfl⟩)
theorem dIni00_0 : decode prog_46_method_1_code 0 = .ok (.aload_n 0, 1) := by decide +kernel
theorem dIni00_1 : decode prog_46_method_1_code 1 = .ok (.invokespecial 1, 3) := by decide +kernel
theorem dIni00_4 : decode prog_46_method_1_code 4 = .ok (.aload_n 0, 1) := by decide +kernel
theorem dIni00_5 : decode prog_46_method_1_code 5 = .ok (.iload_n 1, 1) := by decide +kernel
theorem dIni00_6 : decode prog_46_method_1_code 6 = .ok (.putfield 7, 3) := by decide +kernel
theorem dIni00_9 : decode prog_46_method_1_code 9 = .ok (.aload_n 0, 1) := by decide +kernel
theorem dIni00_10 : decode prog_46_method_1_code 10 = .ok (.iload_n 2, 1) := by decide +kernel
theorem dIni00_11 : decode prog_46_method_1_code 11 = .ok (.putfield 13, 3) := by decide +kernel
theorem dIni00_14 : decode prog_46_method_1_code 14 = .ok (.aload_n 0, 1) := by decide +kernel
theorem dIni00_15 : decode prog_46_method_1_code 15 = .ok (.aload_n 3, 1) := by decide +kernel
theorem dIni00_16 : decode prog_46_method_1_code 16 = .ok (.putfield 16, 3) := by decide +kernel
theorem dIni00_19 : decode prog_46_method_1_code 19 = .ok (.return_, 1) := by decide +kernel
theorem pnIni00 : plainName "com/example/querant/querant/measure/CaseVerdict" = true := by first | (simp [plainName, overriddenIn]; done) | decide +kernel
theorem efIni00 (m : MethodId) (a0 : Addr) (a3 : Addr) : entryFrame m #[(.ref a0), (.int (0 : Int32)), (.int (0 : Int32)), (.ref a3)] 4 = mkF m 0 #[.val (.ref a0), .val (.int (0 : Int32)), .val (.int (0 : Int32)), .val (.ref a3)] [] := by first | (simp [entryFrame, mkF, argsToLocals, Value.category]; done) | rfl
def QIni00 (Z : State) (a0 : Addr) (a3 : Addr) (h0 : Heap) (n0 : Nat) (v : Option Value) (h : Heap) (L : List Loc) : Prop := v = none ∧ Fr n0 L ∧ Keep h0 h [a0] ∧ Fld Z h a0 "com/example/querant/querant/measure/CaseVerdict" "evaluationAgrees" "Z" (.int (0 : Int32)) ∧ Fld Z h a0 "com/example/querant/querant/measure/CaseVerdict" "forecastAgrees" "Z" (.int (0 : Int32)) ∧ Fld Z h a0 "com/example/querant/querant/measure/CaseVerdict" "difference" "Ljava/lang/String;" (.ref a3)
set_option maxRecDepth 65536 in
set_option maxHeartbeats 40000000 in
theorem rmIni00 (l : Launch) (Z : State) (a0 : Array Value) (hw : ∀ d ∈ tables_1, d.before a0 Z = true) (ws : List Jvm.Cond) (a0 : Addr) (a3 : Addr) (h0 : Heap) (n0 : Nat) (Z0 : n0 ≤ h0.size) (E0 : Exa Z h0 a0 "com/example/querant/querant/measure/CaseVerdict") (F_evaluationAgrees : Fld Z h0 a0 "com/example/querant/querant/measure/CaseVerdict" "evaluationAgrees" "Z" (.int (0 : Int32))) (F_forecastAgrees : Fld Z h0 a0 "com/example/querant/querant/measure/CaseVerdict" "forecastAgrees" "Z" (.int (0 : Int32))) (F_difference : Fld Z h0 a0 "com/example/querant/querant/measure/CaseVerdict" "difference" "Ljava/lang/String;" .null) (g0 : n0 ≤ a0) :
    MetFree l (⟨"com/example/querant/querant/measure/CaseVerdict", "<init>", "(ZZLjava/lang/String;)V"⟩ : MethodName) (head1 (Jvm.Cond.code (⟨"com/example/querant/querant/measure/CaseVerdict", "<init>", "(ZZLjava/lang/String;)V"⟩ : MethodName) prog_46_method_1_code 4 none :: ws) ({ frames := 2, cells := 0, slots := 0, locals := 24 } : Room)) (fun a U => a = #[(.ref a0), (.int (0 : Int32)), (.int (0 : Int32)), (.ref a3)] ∧ Z.Warmed39 U.vm ∧ U.heap = h0) (fun _ _ _ _ _ => True) (fun _ U o U' => ∃ v L, o = .returned v ∧ QIni00 Z a0 a3 h0 n0 v U'.heap L ∧ FrameEnd U o U' L ({ frames := 2, cells := 0, slots := 0, locals := 24 } : Room).cells ({ frames := 2, cells := 0, slots := 0, locals := 24 } : Room).slots) := by
  refine MetFree.of_bodySF (plainFor_of_name pnIni00) hisR ?_
  intro p e s m args below meth c s₁ Bd hml0 hP hK
  obtain ⟨rfl, hZ, hh⟩ := hP
  have hx := Bd.exec
  have hby := Bd.bytes
  have hlk := BodyLoose.notSynchronized Bd
  have hret := Bd.returns
  have hml : c.maxLocals = 4 := hml0
  have hown : s.vm.findClass "com/example/querant/querant/measure/CaseVerdict" = some m.cls := findClass_of_methodNamed Bd.named
  have hnm := (name_of_methodNamed Bd.named Bd.method).1
  have X0 : Stand p l e ({ frames := 2, cells := 0, slots := 0, locals := 24 } : Room) s m #[(.ref a0), (.int (0 : Int32)), (.int (0 : Int32)), (.ref a3)] below meth c s₁ [] 0 0 := Stand.of_body Bd
  have e0 : s₁.heap = h0 := by rw [← hh, Bd.state]; rfl
  have N0 := Fr.nil n0
  show OFin p e below (KPost s (QIni00 Z a0 a3 h0 n0) ({ frames := 2, cells := 0, slots := 0, locals := 24 } : Room).cells ({ frames := 2, cells := 0, slots := 0, locals := 24 } : Room).slots) _
  rw [efIni00 m a0 a3]
  have K0 : Keep h0 h0 [a0] := Keep.refl _ _
  refine OFin.of (S' := s₁.setTop (mkF m 1 #[.val (.ref a0), .val (.int (0 : Int32)), .val (.int (0 : Int32)), .val (.ref a3)] [(.ref a0)])) (fun t ht => ?_) ?_
  · refine XS.aloadN X0.here hx rfl (hb hby dIni00_0) rfl rfl ?_
    exact ht
  obtain ⟨_, _, ⟨T1, L1, k1, n1⟩, -, X1, ⟨Lc1, hQ1, l1, y1, z1⟩, st1⟩ := X0.specialBack hx (y := (⟨"java/lang/Record", "<init>", "()V"⟩ : MethodName)) rfl hown (mvT hZ (hw _ (List.mem_of_getElem? (i := 33) rfl))) (mvT hZ (hw _ (List.mem_of_getElem? (i := 34) rfl))) (mvT hZ (hw _ (List.mem_of_getElem? (i := 37) rfl))) (by decide) (backOf (W := 0) (rmRec l Z _ hw [] a0 h0 n0 Z0 ) hZ (hw _ (List.mem_of_getElem? (i := 37) rfl)) (hw _ (List.mem_of_getElem? (i := 36) rfl)) (by decide) (by decide)) (g := (mkF m 1 #[.val (.ref a0), .val (.int (0 : Int32)), .val (.int (0 : Int32)), .val (.ref a3)] [(.ref a0)])) rfl (by rw [hml]; rfl) (Steps.refl _) (a := a0) (argsL := []) (rest := []) (lenOf pd_0 rfl) rfl (by show 2 * 0 + _ ≤ _; exact Nat.le_of_eq rfl) (hb hby dIni00_1) (fun _ _ => ⟨rfl, e0, (by decide : 0 + 0 ≤ _), (by decide : 0 + 0 ≤ _)⟩)
  dsimp only [Pt.U, Pt.locs, Pt.cells, Pt.slots] at X1 l1 y1 z1 st1 hQ1
  subst l1 y1 z1
  obtain ⟨rfl, Nq1, hs1⟩ := hQ1
  have N2 := Fr.app N0 Nq1
  refine OFin.to (S' := T1.setTop (mkF m 4 #[.val (.ref a0), .val (.int (0 : Int32)), .val (.int (0 : Int32)), .val (.ref a3)] [])) st1 ?_
  refine OFin.of (S' := T1.setTop (mkF m 6 #[.val (.ref a0), .val (.int (0 : Int32)), .val (.int (0 : Int32)), .val (.ref a3)] [(.int (0 : Int32)), (.ref a0)])) (fun t ht => ?_) ?_
  · refine XS.aloadN X1.here hx rfl (hb hby dIni00_4) rfl rfl ?_
    show Steps p.tables e below (T1.setTop (mkF m 5 _ [(.ref a0)])) _
    refine XS.iloadN X1.here hx rfl (hb hby dIni00_5) rfl ?_
    exact ht
  obtain ⟨T3, h3, X3, e3, W3, st3⟩ := putFN X1 hx hZ hown (hw _ (List.mem_of_getElem? (i := 39) rfl)) Via.refl hs1 F_evaluationAgrees E0 (Or.inr ⟨(hw _ (List.mem_of_getElem? (i := 40) rfl)), rfl, hnm⟩) (hw _ (List.mem_of_getElem? (i := 28) rfl)) (ty := .boolean) (v' := (.int (0 : Int32))) (by decide) rfl rfl (g := (mkF m 6 #[.val (.ref a0), .val (.int (0 : Int32)), .val (.int (0 : Int32)), .val (.ref a3)] [(.int (0 : Int32)), (.ref a0)])) rfl rfl (hb hby dIni00_6)
  have f4 := (E0.wr W3)
  have f5 := (F_forecastAgrees.other W3 (Or.inr (slot_ne (Or.inr (hw _ (List.mem_of_getElem? (i := 42) rfl))) (Or.inr (hw _ (List.mem_of_getElem? (i := 40) rfl))) (by decide) (t := .boolean) (t' := .boolean) (by decide) (by decide))))
  have f6 := (F_difference.other W3 (Or.inr (slot_ne (Or.inr (hw _ (List.mem_of_getElem? (i := 44) rfl))) (Or.inr (hw _ (List.mem_of_getElem? (i := 40) rfl))) (by decide) (t := (.object "java/lang/String")) (t' := .boolean) (by decide) (by decide))))
  have Z7 : n0 ≤ h3.size := (Nat.le_trans Z0 (Keep.of_wr W3).1)
  have K8 : Keep h0 h3 [a0] := (K0.wr W3 (Or.inl (List.mem_of_getElem? (i := 0) rfl)))
  have N9 := Fr.snoc X3 N2 g0
  have f10 : Fld Z h3 a0 "com/example/querant/querant/measure/CaseVerdict" "evaluationAgrees" "Z" (.int (0 : Int32)) := (F_evaluationAgrees.same W3)
  refine OFin.of (S' := T3.setTop (mkF m 9 #[.val (.ref a0), .val (.int (0 : Int32)), .val (.int (0 : Int32)), .val (.ref a3)] [])) (fun t ht => st3 t ht) ?_
  refine OFin.of (S' := T3.setTop (mkF m 11 #[.val (.ref a0), .val (.int (0 : Int32)), .val (.int (0 : Int32)), .val (.ref a3)] [(.int (0 : Int32)), (.ref a0)])) (fun t ht => ?_) ?_
  · refine XS.aloadN X3.here hx rfl (hb hby dIni00_9) rfl rfl ?_
    show Steps p.tables e below (T3.setTop (mkF m 10 _ [(.ref a0)])) _
    refine XS.iloadN X3.here hx rfl (hb hby dIni00_10) rfl ?_
    exact ht
  obtain ⟨T11, h11, X11, e11, W11, st11⟩ := putFN X3 hx hZ hown (hw _ (List.mem_of_getElem? (i := 41) rfl)) Via.refl e3 f5 f4 (Or.inr ⟨(hw _ (List.mem_of_getElem? (i := 42) rfl)), rfl, hnm⟩) (hw _ (List.mem_of_getElem? (i := 28) rfl)) (ty := .boolean) (v' := (.int (0 : Int32))) (by decide) rfl rfl (g := (mkF m 11 #[.val (.ref a0), .val (.int (0 : Int32)), .val (.int (0 : Int32)), .val (.ref a3)] [(.int (0 : Int32)), (.ref a0)])) rfl rfl (hb hby dIni00_11)
  have f12 := (f4.wr W11)
  have f13 := (f6.other W11 (Or.inr (slot_ne (Or.inr (hw _ (List.mem_of_getElem? (i := 44) rfl))) (Or.inr (hw _ (List.mem_of_getElem? (i := 42) rfl))) (by decide) (t := (.object "java/lang/String")) (t' := .boolean) (by decide) (by decide))))
  have f14 := (f10.other W11 (Or.inr (slot_ne (Or.inr (hw _ (List.mem_of_getElem? (i := 40) rfl))) (Or.inr (hw _ (List.mem_of_getElem? (i := 42) rfl))) (by decide) (t := .boolean) (t' := .boolean) (by decide) (by decide))))
  have Z15 : n0 ≤ h11.size := (Nat.le_trans Z7 (Keep.of_wr W11).1)
  have K16 : Keep h0 h11 [a0] := (K8.wr W11 (Or.inl (List.mem_of_getElem? (i := 0) rfl)))
  have N17 := Fr.snoc X11 N9 g0
  have f18 : Fld Z h11 a0 "com/example/querant/querant/measure/CaseVerdict" "forecastAgrees" "Z" (.int (0 : Int32)) := (f5.same W11)
  refine OFin.of (S' := T11.setTop (mkF m 14 #[.val (.ref a0), .val (.int (0 : Int32)), .val (.int (0 : Int32)), .val (.ref a3)] [])) (fun t ht => st11 t ht) ?_
  refine OFin.of (S' := T11.setTop (mkF m 16 #[.val (.ref a0), .val (.int (0 : Int32)), .val (.int (0 : Int32)), .val (.ref a3)] [(.ref a3), (.ref a0)])) (fun t ht => ?_) ?_
  · refine XS.aloadN X11.here hx rfl (hb hby dIni00_14) rfl rfl ?_
    show Steps p.tables e below (T11.setTop (mkF m 15 _ [(.ref a0)])) _
    refine XS.aloadN X11.here hx rfl (hb hby dIni00_15) rfl rfl ?_
    exact ht
  obtain ⟨T19, h19, X19, e19, W19, st19⟩ := putF X11 hx hZ hown (host := "") (Or.inl (hw _ (List.mem_of_getElem? (i := 43) rfl))) Via.refl e11 f13 f12 (Or.inr ⟨(hw _ (List.mem_of_getElem? (i := 44) rfl)), rfl, hnm⟩) (hw _ (List.mem_of_getElem? (i := 28) rfl)) (ty := (.object "java/lang/String")) (by decide) rfl rfl (g := (mkF m 16 #[.val (.ref a0), .val (.int (0 : Int32)), .val (.int (0 : Int32)), .val (.ref a3)] [(.ref a3), (.ref a0)])) rfl rfl (hb hby dIni00_16)
  have f20 := (f12.wr W19)
  have f21 := (f14.other W19 (Or.inr (slot_ne (Or.inr (hw _ (List.mem_of_getElem? (i := 40) rfl))) (Or.inr (hw _ (List.mem_of_getElem? (i := 44) rfl))) (by decide) (t := .boolean) (t' := (.object "java/lang/String")) (by decide) (by decide))))
  have f22 := (f18.other W19 (Or.inr (slot_ne (Or.inr (hw _ (List.mem_of_getElem? (i := 42) rfl))) (Or.inr (hw _ (List.mem_of_getElem? (i := 44) rfl))) (by decide) (t := .boolean) (t' := (.object "java/lang/String")) (by decide) (by decide))))
  have Z23 : n0 ≤ h19.size := (Nat.le_trans Z15 (Keep.of_wr W19).1)
  have K24 : Keep h0 h19 [a0] := (K16.wr W19 (Or.inl (List.mem_of_getElem? (i := 0) rfl)))
  have N25 := Fr.snoc X19 N17 g0
  have f26 : Fld Z h19 a0 "com/example/querant/querant/measure/CaseVerdict" "difference" "Ljava/lang/String;" (.ref a3) := (f13.same W19)
  refine OFin.of (S' := T19.setTop (mkF m 19 #[.val (.ref a0), .val (.int (0 : Int32)), .val (.int (0 : Int32)), .val (.ref a3)] [])) (fun t ht => st19 t ht) ?_
  exact OFin.retV X19 hx hlk hret (hb hby dIni00_19) (by decide) (by decide) (by rw [e19]; exact ⟨rfl, N25, K24, f21, f22, f26⟩)
theorem dAg00_0 : decode prog_46_method_2_code 0 = .ok (.aload_n 0, 1) := by decide +kernel
theorem dAg00_1 : decode prog_46_method_2_code 1 = .ok (.getfield 7, 3) := by decide +kernel
theorem dAg00_4 : decode prog_46_method_2_code 4 = .ok (.ifCond .eq 14, 3) := by decide +kernel
theorem dAg00_18 : decode prog_46_method_2_code 18 = .ok (.iconst 0, 1) := by decide +kernel
theorem dAg00_19 : decode prog_46_method_2_code 19 = .ok (.ireturn, 1) := by decide +kernel
theorem pnAg00 : plainName "com/example/querant/querant/measure/CaseVerdict" = true := by first | (simp [plainName, overriddenIn]; done) | decide +kernel
theorem efAg00 (m : MethodId) (a0 : Addr) : entryFrame m #[(.ref a0)] 1 = mkF m 0 #[.val (.ref a0)] [] := by first | (simp [entryFrame, mkF, argsToLocals, Value.category]; done) | rfl
def QAg00 (Z : State) (a0 : Addr) (h0 : Heap) (n0 : Nat) (v : Option Value) (h : Heap) (L : List Loc) : Prop := v = some (.int (0 : Int32)) ∧ Fr n0 L ∧ h = h0
set_option maxRecDepth 65536 in
set_option maxHeartbeats 40000000 in
theorem rmAg00 (l : Launch) (Z : State) (a0 : Array Value) (hw : ∀ d ∈ tables_1, d.before a0 Z = true) (ws : List Jvm.Cond) (a0 : Addr) (h0 : Heap) (n0 : Nat) (Z0 : n0 ≤ h0.size) (F1 : Fld Z h0 a0 "com/example/querant/querant/measure/CaseVerdict" "evaluationAgrees" "Z" (.int (0 : Int32))) (F2 : Fld Z h0 a0 "com/example/querant/querant/measure/CaseVerdict" "forecastAgrees" "Z" (.int (0 : Int32))) :
    MetFree l (⟨"com/example/querant/querant/measure/CaseVerdict", "agrees", "()Z"⟩ : MethodName) (head1 (Jvm.Cond.code (⟨"com/example/querant/querant/measure/CaseVerdict", "agrees", "()Z"⟩ : MethodName) prog_46_method_2_code 1 (some .boolean) :: ws) ({ frames := 0, cells := 0, slots := 0, locals := 0 } : Room)) (fun a U => a = #[(.ref a0)] ∧ Z.Warmed39 U.vm ∧ U.heap = h0) (fun _ _ _ _ _ => True) (fun _ U o U' => ∃ v L, o = .returned v ∧ QAg00 Z a0 h0 n0 v U'.heap L ∧ FrameEnd U o U' L ({ frames := 0, cells := 0, slots := 0, locals := 0 } : Room).cells ({ frames := 0, cells := 0, slots := 0, locals := 0 } : Room).slots) := by
  refine MetFree.of_bodySF (plainFor_of_name pnAg00) hisR ?_
  intro p e s m args below meth c s₁ Bd hml0 hP hK
  obtain ⟨rfl, hZ, hh⟩ := hP
  have hx := Bd.exec
  have hby := Bd.bytes
  have hlk := BodyLoose.notSynchronized Bd
  have hret := Bd.returns
  have hml : c.maxLocals = 1 := hml0
  have hown : s.vm.findClass "com/example/querant/querant/measure/CaseVerdict" = some m.cls := findClass_of_methodNamed Bd.named
  have hnm := (name_of_methodNamed Bd.named Bd.method).1
  have X0 : Stand p l e ({ frames := 0, cells := 0, slots := 0, locals := 0 } : Room) s m #[(.ref a0)] below meth c s₁ [] 0 0 := Stand.of_body Bd
  have e0 : s₁.heap = h0 := by rw [← hh, Bd.state]; rfl
  have N0 := Fr.nil n0
  show OFin p e below (KPost s (QAg00 Z a0 h0 n0) ({ frames := 0, cells := 0, slots := 0, locals := 0 } : Room).cells ({ frames := 0, cells := 0, slots := 0, locals := 0 } : Room).slots) _
  rw [efAg00 m a0]
  refine OFin.of (S' := s₁.setTop (mkF m 1 #[.val (.ref a0)] [(.ref a0)])) (fun t ht => ?_) ?_
  · refine XS.aloadN X0.here hx rfl (hb hby dAg00_0) rfl rfl ?_
    exact ht
  obtain ⟨T1, X1, e1, st1⟩ := getF X0 hx hZ hown (host := "") (Or.inl (hw _ (List.mem_of_getElem? (i := 39) rfl))) Via.refl e0 F1 (g := (mkF m 1 #[.val (.ref a0)] [(.ref a0)])) rfl rfl (hb hby dAg00_1)
  refine OFin.of (S' := T1.setTop (mkF m 4 #[.val (.ref a0)] [(.int (0 : Int32))])) (fun t ht => st1 t ht) ?_
  refine OFin.of (S' := T1.setTop (mkF m 19 #[.val (.ref a0)] [(.int (0 : Int32))])) (fun t ht => ?_) ?_
  · refine XS.ifYes X1.here hx rfl (pc0 := 4) (pc' := 18) rfl (hb hby dAg00_4) rfl ((if0 _ _).trans (teq (by decide : (0 : Int32) = (0 : Int32))).1) (by decide) (by decide) ?_
    show Steps p.tables e below (T1.setTop (mkF m 18 _ [])) _
    refine XS.iconst X1.here hx rfl (hb hby dAg00_18) ?_
    exact ht
  exact OFin.retB X1 hx hlk (t := .boolean) (by simp) hret (hb hby dAg00_19) (by decide) (by decide) (by rw [e1]; exact ⟨rfl, N0, rfl⟩)
theorem dIni01_0 : decode prog_46_method_1_code 0 = .ok (.aload_n 0, 1) := by decide +kernel
theorem dIni01_1 : decode prog_46_method_1_code 1 = .ok (.invokespecial 1, 3) := by decide +kernel
theorem dIni01_4 : decode prog_46_method_1_code 4 = .ok (.aload_n 0, 1) := by decide +kernel
theorem dIni01_5 : decode prog_46_method_1_code 5 = .ok (.iload_n 1, 1) := by decide +kernel
theorem dIni01_6 : decode prog_46_method_1_code 6 = .ok (.putfield 7, 3) := by decide +kernel
theorem dIni01_9 : decode prog_46_method_1_code 9 = .ok (.aload_n 0, 1) := by decide +kernel
theorem dIni01_10 : decode prog_46_method_1_code 10 = .ok (.iload_n 2, 1) := by decide +kernel
theorem dIni01_11 : decode prog_46_method_1_code 11 = .ok (.putfield 13, 3) := by decide +kernel
theorem dIni01_14 : decode prog_46_method_1_code 14 = .ok (.aload_n 0, 1) := by decide +kernel
theorem dIni01_15 : decode prog_46_method_1_code 15 = .ok (.aload_n 3, 1) := by decide +kernel
theorem dIni01_16 : decode prog_46_method_1_code 16 = .ok (.putfield 16, 3) := by decide +kernel
theorem dIni01_19 : decode prog_46_method_1_code 19 = .ok (.return_, 1) := by decide +kernel
theorem pnIni01 : plainName "com/example/querant/querant/measure/CaseVerdict" = true := by first | (simp [plainName, overriddenIn]; done) | decide +kernel
theorem efIni01 (m : MethodId) (a0 : Addr) (a3 : Addr) : entryFrame m #[(.ref a0), (.int (0 : Int32)), (.int (1 : Int32)), (.ref a3)] 4 = mkF m 0 #[.val (.ref a0), .val (.int (0 : Int32)), .val (.int (1 : Int32)), .val (.ref a3)] [] := by first | (simp [entryFrame, mkF, argsToLocals, Value.category]; done) | rfl
def QIni01 (Z : State) (a0 : Addr) (a3 : Addr) (h0 : Heap) (n0 : Nat) (v : Option Value) (h : Heap) (L : List Loc) : Prop := v = none ∧ Fr n0 L ∧ Keep h0 h [a0] ∧ Fld Z h a0 "com/example/querant/querant/measure/CaseVerdict" "evaluationAgrees" "Z" (.int (0 : Int32)) ∧ Fld Z h a0 "com/example/querant/querant/measure/CaseVerdict" "forecastAgrees" "Z" (.int (1 : Int32)) ∧ Fld Z h a0 "com/example/querant/querant/measure/CaseVerdict" "difference" "Ljava/lang/String;" (.ref a3)
set_option maxRecDepth 65536 in
set_option maxHeartbeats 40000000 in
theorem rmIni01 (l : Launch) (Z : State) (a0 : Array Value) (hw : ∀ d ∈ tables_1, d.before a0 Z = true) (ws : List Jvm.Cond) (a0 : Addr) (a3 : Addr) (h0 : Heap) (n0 : Nat) (Z0 : n0 ≤ h0.size) (E0 : Exa Z h0 a0 "com/example/querant/querant/measure/CaseVerdict") (F_evaluationAgrees : Fld Z h0 a0 "com/example/querant/querant/measure/CaseVerdict" "evaluationAgrees" "Z" (.int (0 : Int32))) (F_forecastAgrees : Fld Z h0 a0 "com/example/querant/querant/measure/CaseVerdict" "forecastAgrees" "Z" (.int (0 : Int32))) (F_difference : Fld Z h0 a0 "com/example/querant/querant/measure/CaseVerdict" "difference" "Ljava/lang/String;" .null) (g0 : n0 ≤ a0) :
    MetFree l (⟨"com/example/querant/querant/measure/CaseVerdict", "<init>", "(ZZLjava/lang/String;)V"⟩ : MethodName) (head1 (Jvm.Cond.code (⟨"com/example/querant/querant/measure/CaseVerdict", "<init>", "(ZZLjava/lang/String;)V"⟩ : MethodName) prog_46_method_1_code 4 none :: ws) ({ frames := 2, cells := 0, slots := 0, locals := 24 } : Room)) (fun a U => a = #[(.ref a0), (.int (0 : Int32)), (.int (1 : Int32)), (.ref a3)] ∧ Z.Warmed39 U.vm ∧ U.heap = h0) (fun _ _ _ _ _ => True) (fun _ U o U' => ∃ v L, o = .returned v ∧ QIni01 Z a0 a3 h0 n0 v U'.heap L ∧ FrameEnd U o U' L ({ frames := 2, cells := 0, slots := 0, locals := 24 } : Room).cells ({ frames := 2, cells := 0, slots := 0, locals := 24 } : Room).slots) := by
  refine MetFree.of_bodySF (plainFor_of_name pnIni01) hisR ?_
  intro p e s m args below meth c s₁ Bd hml0 hP hK
  obtain ⟨rfl, hZ, hh⟩ := hP
  have hx := Bd.exec
  have hby := Bd.bytes
  have hlk := BodyLoose.notSynchronized Bd
  have hret := Bd.returns
  have hml : c.maxLocals = 4 := hml0
  have hown : s.vm.findClass "com/example/querant/querant/measure/CaseVerdict" = some m.cls := findClass_of_methodNamed Bd.named
  have hnm := (name_of_methodNamed Bd.named Bd.method).1
  have X0 : Stand p l e ({ frames := 2, cells := 0, slots := 0, locals := 24 } : Room) s m #[(.ref a0), (.int (0 : Int32)), (.int (1 : Int32)), (.ref a3)] below meth c s₁ [] 0 0 := Stand.of_body Bd
  have e0 : s₁.heap = h0 := by rw [← hh, Bd.state]; rfl
  have N0 := Fr.nil n0
  show OFin p e below (KPost s (QIni01 Z a0 a3 h0 n0) ({ frames := 2, cells := 0, slots := 0, locals := 24 } : Room).cells ({ frames := 2, cells := 0, slots := 0, locals := 24 } : Room).slots) _
  rw [efIni01 m a0 a3]
  have K0 : Keep h0 h0 [a0] := Keep.refl _ _
  refine OFin.of (S' := s₁.setTop (mkF m 1 #[.val (.ref a0), .val (.int (0 : Int32)), .val (.int (1 : Int32)), .val (.ref a3)] [(.ref a0)])) (fun t ht => ?_) ?_
  · refine XS.aloadN X0.here hx rfl (hb hby dIni01_0) rfl rfl ?_
    exact ht
  obtain ⟨_, _, ⟨T1, L1, k1, n1⟩, -, X1, ⟨Lc1, hQ1, l1, y1, z1⟩, st1⟩ := X0.specialBack hx (y := (⟨"java/lang/Record", "<init>", "()V"⟩ : MethodName)) rfl hown (mvT hZ (hw _ (List.mem_of_getElem? (i := 33) rfl))) (mvT hZ (hw _ (List.mem_of_getElem? (i := 34) rfl))) (mvT hZ (hw _ (List.mem_of_getElem? (i := 37) rfl))) (by decide) (backOf (W := 0) (rmRec l Z _ hw [] a0 h0 n0 Z0 ) hZ (hw _ (List.mem_of_getElem? (i := 37) rfl)) (hw _ (List.mem_of_getElem? (i := 36) rfl)) (by decide) (by decide)) (g := (mkF m 1 #[.val (.ref a0), .val (.int (0 : Int32)), .val (.int (1 : Int32)), .val (.ref a3)] [(.ref a0)])) rfl (by rw [hml]; rfl) (Steps.refl _) (a := a0) (argsL := []) (rest := []) (lenOf pd_0 rfl) rfl (by show 2 * 0 + _ ≤ _; exact Nat.le_of_eq rfl) (hb hby dIni01_1) (fun _ _ => ⟨rfl, e0, (by decide : 0 + 0 ≤ _), (by decide : 0 + 0 ≤ _)⟩)
  dsimp only [Pt.U, Pt.locs, Pt.cells, Pt.slots] at X1 l1 y1 z1 st1 hQ1
  subst l1 y1 z1
  obtain ⟨rfl, Nq1, hs1⟩ := hQ1
  have N2 := Fr.app N0 Nq1
  refine OFin.to (S' := T1.setTop (mkF m 4 #[.val (.ref a0), .val (.int (0 : Int32)), .val (.int (1 : Int32)), .val (.ref a3)] [])) st1 ?_
  refine OFin.of (S' := T1.setTop (mkF m 6 #[.val (.ref a0), .val (.int (0 : Int32)), .val (.int (1 : Int32)), .val (.ref a3)] [(.int (0 : Int32)), (.ref a0)])) (fun t ht => ?_) ?_
  · refine XS.aloadN X1.here hx rfl (hb hby dIni01_4) rfl rfl ?_
    show Steps p.tables e below (T1.setTop (mkF m 5 _ [(.ref a0)])) _
    refine XS.iloadN X1.here hx rfl (hb hby dIni01_5) rfl ?_
    exact ht
  obtain ⟨T3, h3, X3, e3, W3, st3⟩ := putFN X1 hx hZ hown (hw _ (List.mem_of_getElem? (i := 39) rfl)) Via.refl hs1 F_evaluationAgrees E0 (Or.inr ⟨(hw _ (List.mem_of_getElem? (i := 40) rfl)), rfl, hnm⟩) (hw _ (List.mem_of_getElem? (i := 28) rfl)) (ty := .boolean) (v' := (.int (0 : Int32))) (by decide) rfl rfl (g := (mkF m 6 #[.val (.ref a0), .val (.int (0 : Int32)), .val (.int (1 : Int32)), .val (.ref a3)] [(.int (0 : Int32)), (.ref a0)])) rfl rfl (hb hby dIni01_6)
  have f4 := (E0.wr W3)
  have f5 := (F_forecastAgrees.other W3 (Or.inr (slot_ne (Or.inr (hw _ (List.mem_of_getElem? (i := 42) rfl))) (Or.inr (hw _ (List.mem_of_getElem? (i := 40) rfl))) (by decide) (t := .boolean) (t' := .boolean) (by decide) (by decide))))
  have f6 := (F_difference.other W3 (Or.inr (slot_ne (Or.inr (hw _ (List.mem_of_getElem? (i := 44) rfl))) (Or.inr (hw _ (List.mem_of_getElem? (i := 40) rfl))) (by decide) (t := (.object "java/lang/String")) (t' := .boolean) (by decide) (by decide))))
  have Z7 : n0 ≤ h3.size := (Nat.le_trans Z0 (Keep.of_wr W3).1)
  have K8 : Keep h0 h3 [a0] := (K0.wr W3 (Or.inl (List.mem_of_getElem? (i := 0) rfl)))
  have N9 := Fr.snoc X3 N2 g0
  have f10 : Fld Z h3 a0 "com/example/querant/querant/measure/CaseVerdict" "evaluationAgrees" "Z" (.int (0 : Int32)) := (F_evaluationAgrees.same W3)
  refine OFin.of (S' := T3.setTop (mkF m 9 #[.val (.ref a0), .val (.int (0 : Int32)), .val (.int (1 : Int32)), .val (.ref a3)] [])) (fun t ht => st3 t ht) ?_
  refine OFin.of (S' := T3.setTop (mkF m 11 #[.val (.ref a0), .val (.int (0 : Int32)), .val (.int (1 : Int32)), .val (.ref a3)] [(.int (1 : Int32)), (.ref a0)])) (fun t ht => ?_) ?_
  · refine XS.aloadN X3.here hx rfl (hb hby dIni01_9) rfl rfl ?_
    show Steps p.tables e below (T3.setTop (mkF m 10 _ [(.ref a0)])) _
    refine XS.iloadN X3.here hx rfl (hb hby dIni01_10) rfl ?_
    exact ht
  obtain ⟨T11, h11, X11, e11, W11, st11⟩ := putFN X3 hx hZ hown (hw _ (List.mem_of_getElem? (i := 41) rfl)) Via.refl e3 f5 f4 (Or.inr ⟨(hw _ (List.mem_of_getElem? (i := 42) rfl)), rfl, hnm⟩) (hw _ (List.mem_of_getElem? (i := 28) rfl)) (ty := .boolean) (v' := (.int (1 : Int32))) (by decide) rfl rfl (g := (mkF m 11 #[.val (.ref a0), .val (.int (0 : Int32)), .val (.int (1 : Int32)), .val (.ref a3)] [(.int (1 : Int32)), (.ref a0)])) rfl rfl (hb hby dIni01_11)
  have f12 := (f4.wr W11)
  have f13 := (f6.other W11 (Or.inr (slot_ne (Or.inr (hw _ (List.mem_of_getElem? (i := 44) rfl))) (Or.inr (hw _ (List.mem_of_getElem? (i := 42) rfl))) (by decide) (t := (.object "java/lang/String")) (t' := .boolean) (by decide) (by decide))))
  have f14 := (f10.other W11 (Or.inr (slot_ne (Or.inr (hw _ (List.mem_of_getElem? (i := 40) rfl))) (Or.inr (hw _ (List.mem_of_getElem? (i := 42) rfl))) (by decide) (t := .boolean) (t' := .boolean) (by decide) (by decide))))
  have Z15 : n0 ≤ h11.size := (Nat.le_trans Z7 (Keep.of_wr W11).1)
  have K16 : Keep h0 h11 [a0] := (K8.wr W11 (Or.inl (List.mem_of_getElem? (i := 0) rfl)))
  have N17 := Fr.snoc X11 N9 g0
  have f18 : Fld Z h11 a0 "com/example/querant/querant/measure/CaseVerdict" "forecastAgrees" "Z" (.int (1 : Int32)) := (f5.same W11)
  refine OFin.of (S' := T11.setTop (mkF m 14 #[.val (.ref a0), .val (.int (0 : Int32)), .val (.int (1 : Int32)), .val (.ref a3)] [])) (fun t ht => st11 t ht) ?_
  refine OFin.of (S' := T11.setTop (mkF m 16 #[.val (.ref a0), .val (.int (0 : Int32)), .val (.int (1 : Int32)), .val (.ref a3)] [(.ref a3), (.ref a0)])) (fun t ht => ?_) ?_
  · refine XS.aloadN X11.here hx rfl (hb hby dIni01_14) rfl rfl ?_
    show Steps p.tables e below (T11.setTop (mkF m 15 _ [(.ref a0)])) _
    refine XS.aloadN X11.here hx rfl (hb hby dIni01_15) rfl rfl ?_
    exact ht
  obtain ⟨T19, h19, X19, e19, W19, st19⟩ := putF X11 hx hZ hown (host := "") (Or.inl (hw _ (List.mem_of_getElem? (i := 43) rfl))) Via.refl e11 f13 f12 (Or.inr ⟨(hw _ (List.mem_of_getElem? (i := 44) rfl)), rfl, hnm⟩) (hw _ (List.mem_of_getElem? (i := 28) rfl)) (ty := (.object "java/lang/String")) (by decide) rfl rfl (g := (mkF m 16 #[.val (.ref a0), .val (.int (0 : Int32)), .val (.int (1 : Int32)), .val (.ref a3)] [(.ref a3), (.ref a0)])) rfl rfl (hb hby dIni01_16)
  have f20 := (f12.wr W19)
  have f21 := (f14.other W19 (Or.inr (slot_ne (Or.inr (hw _ (List.mem_of_getElem? (i := 40) rfl))) (Or.inr (hw _ (List.mem_of_getElem? (i := 44) rfl))) (by decide) (t := .boolean) (t' := (.object "java/lang/String")) (by decide) (by decide))))
  have f22 := (f18.other W19 (Or.inr (slot_ne (Or.inr (hw _ (List.mem_of_getElem? (i := 42) rfl))) (Or.inr (hw _ (List.mem_of_getElem? (i := 44) rfl))) (by decide) (t := .boolean) (t' := (.object "java/lang/String")) (by decide) (by decide))))
  have Z23 : n0 ≤ h19.size := (Nat.le_trans Z15 (Keep.of_wr W19).1)
  have K24 : Keep h0 h19 [a0] := (K16.wr W19 (Or.inl (List.mem_of_getElem? (i := 0) rfl)))
  have N25 := Fr.snoc X19 N17 g0
  have f26 : Fld Z h19 a0 "com/example/querant/querant/measure/CaseVerdict" "difference" "Ljava/lang/String;" (.ref a3) := (f13.same W19)
  refine OFin.of (S' := T19.setTop (mkF m 19 #[.val (.ref a0), .val (.int (0 : Int32)), .val (.int (1 : Int32)), .val (.ref a3)] [])) (fun t ht => st19 t ht) ?_
  exact OFin.retV X19 hx hlk hret (hb hby dIni01_19) (by decide) (by decide) (by rw [e19]; exact ⟨rfl, N25, K24, f21, f22, f26⟩)
theorem dAg01_0 : decode prog_46_method_2_code 0 = .ok (.aload_n 0, 1) := by decide +kernel
theorem dAg01_1 : decode prog_46_method_2_code 1 = .ok (.getfield 7, 3) := by decide +kernel
theorem dAg01_4 : decode prog_46_method_2_code 4 = .ok (.ifCond .eq 14, 3) := by decide +kernel
theorem dAg01_18 : decode prog_46_method_2_code 18 = .ok (.iconst 0, 1) := by decide +kernel
theorem dAg01_19 : decode prog_46_method_2_code 19 = .ok (.ireturn, 1) := by decide +kernel
theorem pnAg01 : plainName "com/example/querant/querant/measure/CaseVerdict" = true := by first | (simp [plainName, overriddenIn]; done) | decide +kernel
theorem efAg01 (m : MethodId) (a0 : Addr) : entryFrame m #[(.ref a0)] 1 = mkF m 0 #[.val (.ref a0)] [] := by first | (simp [entryFrame, mkF, argsToLocals, Value.category]; done) | rfl
def QAg01 (Z : State) (a0 : Addr) (h0 : Heap) (n0 : Nat) (v : Option Value) (h : Heap) (L : List Loc) : Prop := v = some (.int (0 : Int32)) ∧ Fr n0 L ∧ h = h0
set_option maxRecDepth 65536 in
set_option maxHeartbeats 40000000 in
theorem rmAg01 (l : Launch) (Z : State) (a0 : Array Value) (hw : ∀ d ∈ tables_1, d.before a0 Z = true) (ws : List Jvm.Cond) (a0 : Addr) (h0 : Heap) (n0 : Nat) (Z0 : n0 ≤ h0.size) (F1 : Fld Z h0 a0 "com/example/querant/querant/measure/CaseVerdict" "evaluationAgrees" "Z" (.int (0 : Int32))) (F2 : Fld Z h0 a0 "com/example/querant/querant/measure/CaseVerdict" "forecastAgrees" "Z" (.int (1 : Int32))) :
    MetFree l (⟨"com/example/querant/querant/measure/CaseVerdict", "agrees", "()Z"⟩ : MethodName) (head1 (Jvm.Cond.code (⟨"com/example/querant/querant/measure/CaseVerdict", "agrees", "()Z"⟩ : MethodName) prog_46_method_2_code 1 (some .boolean) :: ws) ({ frames := 0, cells := 0, slots := 0, locals := 0 } : Room)) (fun a U => a = #[(.ref a0)] ∧ Z.Warmed39 U.vm ∧ U.heap = h0) (fun _ _ _ _ _ => True) (fun _ U o U' => ∃ v L, o = .returned v ∧ QAg01 Z a0 h0 n0 v U'.heap L ∧ FrameEnd U o U' L ({ frames := 0, cells := 0, slots := 0, locals := 0 } : Room).cells ({ frames := 0, cells := 0, slots := 0, locals := 0 } : Room).slots) := by
  refine MetFree.of_bodySF (plainFor_of_name pnAg01) hisR ?_
  intro p e s m args below meth c s₁ Bd hml0 hP hK
  obtain ⟨rfl, hZ, hh⟩ := hP
  have hx := Bd.exec
  have hby := Bd.bytes
  have hlk := BodyLoose.notSynchronized Bd
  have hret := Bd.returns
  have hml : c.maxLocals = 1 := hml0
  have hown : s.vm.findClass "com/example/querant/querant/measure/CaseVerdict" = some m.cls := findClass_of_methodNamed Bd.named
  have hnm := (name_of_methodNamed Bd.named Bd.method).1
  have X0 : Stand p l e ({ frames := 0, cells := 0, slots := 0, locals := 0 } : Room) s m #[(.ref a0)] below meth c s₁ [] 0 0 := Stand.of_body Bd
  have e0 : s₁.heap = h0 := by rw [← hh, Bd.state]; rfl
  have N0 := Fr.nil n0
  show OFin p e below (KPost s (QAg01 Z a0 h0 n0) ({ frames := 0, cells := 0, slots := 0, locals := 0 } : Room).cells ({ frames := 0, cells := 0, slots := 0, locals := 0 } : Room).slots) _
  rw [efAg01 m a0]
  refine OFin.of (S' := s₁.setTop (mkF m 1 #[.val (.ref a0)] [(.ref a0)])) (fun t ht => ?_) ?_
  · refine XS.aloadN X0.here hx rfl (hb hby dAg01_0) rfl rfl ?_
    exact ht
  obtain ⟨T1, X1, e1, st1⟩ := getF X0 hx hZ hown (host := "") (Or.inl (hw _ (List.mem_of_getElem? (i := 39) rfl))) Via.refl e0 F1 (g := (mkF m 1 #[.val (.ref a0)] [(.ref a0)])) rfl rfl (hb hby dAg01_1)
  refine OFin.of (S' := T1.setTop (mkF m 4 #[.val (.ref a0)] [(.int (0 : Int32))])) (fun t ht => st1 t ht) ?_
  refine OFin.of (S' := T1.setTop (mkF m 19 #[.val (.ref a0)] [(.int (0 : Int32))])) (fun t ht => ?_) ?_
  · refine XS.ifYes X1.here hx rfl (pc0 := 4) (pc' := 18) rfl (hb hby dAg01_4) rfl ((if0 _ _).trans (teq (by decide : (0 : Int32) = (0 : Int32))).1) (by decide) (by decide) ?_
    show Steps p.tables e below (T1.setTop (mkF m 18 _ [])) _
    refine XS.iconst X1.here hx rfl (hb hby dAg01_18) ?_
    exact ht
  exact OFin.retB X1 hx hlk (t := .boolean) (by simp) hret (hb hby dAg01_19) (by decide) (by decide) (by rw [e1]; exact ⟨rfl, N0, rfl⟩)
theorem dIni10_0 : decode prog_46_method_1_code 0 = .ok (.aload_n 0, 1) := by decide +kernel
theorem dIni10_1 : decode prog_46_method_1_code 1 = .ok (.invokespecial 1, 3) := by decide +kernel
theorem dIni10_4 : decode prog_46_method_1_code 4 = .ok (.aload_n 0, 1) := by decide +kernel
theorem dIni10_5 : decode prog_46_method_1_code 5 = .ok (.iload_n 1, 1) := by decide +kernel
theorem dIni10_6 : decode prog_46_method_1_code 6 = .ok (.putfield 7, 3) := by decide +kernel
theorem dIni10_9 : decode prog_46_method_1_code 9 = .ok (.aload_n 0, 1) := by decide +kernel
theorem dIni10_10 : decode prog_46_method_1_code 10 = .ok (.iload_n 2, 1) := by decide +kernel
theorem dIni10_11 : decode prog_46_method_1_code 11 = .ok (.putfield 13, 3) := by decide +kernel
theorem dIni10_14 : decode prog_46_method_1_code 14 = .ok (.aload_n 0, 1) := by decide +kernel
theorem dIni10_15 : decode prog_46_method_1_code 15 = .ok (.aload_n 3, 1) := by decide +kernel
theorem dIni10_16 : decode prog_46_method_1_code 16 = .ok (.putfield 16, 3) := by decide +kernel
theorem dIni10_19 : decode prog_46_method_1_code 19 = .ok (.return_, 1) := by decide +kernel
theorem pnIni10 : plainName "com/example/querant/querant/measure/CaseVerdict" = true := by first | (simp [plainName, overriddenIn]; done) | decide +kernel
theorem efIni10 (m : MethodId) (a0 : Addr) (a3 : Addr) : entryFrame m #[(.ref a0), (.int (1 : Int32)), (.int (0 : Int32)), (.ref a3)] 4 = mkF m 0 #[.val (.ref a0), .val (.int (1 : Int32)), .val (.int (0 : Int32)), .val (.ref a3)] [] := by first | (simp [entryFrame, mkF, argsToLocals, Value.category]; done) | rfl
def QIni10 (Z : State) (a0 : Addr) (a3 : Addr) (h0 : Heap) (n0 : Nat) (v : Option Value) (h : Heap) (L : List Loc) : Prop := v = none ∧ Fr n0 L ∧ Keep h0 h [a0] ∧ Fld Z h a0 "com/example/querant/querant/measure/CaseVerdict" "evaluationAgrees" "Z" (.int (1 : Int32)) ∧ Fld Z h a0 "com/example/querant/querant/measure/CaseVerdict" "forecastAgrees" "Z" (.int (0 : Int32)) ∧ Fld Z h a0 "com/example/querant/querant/measure/CaseVerdict" "difference" "Ljava/lang/String;" (.ref a3)
set_option maxRecDepth 65536 in
set_option maxHeartbeats 40000000 in
theorem rmIni10 (l : Launch) (Z : State) (a0 : Array Value) (hw : ∀ d ∈ tables_1, d.before a0 Z = true) (ws : List Jvm.Cond) (a0 : Addr) (a3 : Addr) (h0 : Heap) (n0 : Nat) (Z0 : n0 ≤ h0.size) (E0 : Exa Z h0 a0 "com/example/querant/querant/measure/CaseVerdict") (F_evaluationAgrees : Fld Z h0 a0 "com/example/querant/querant/measure/CaseVerdict" "evaluationAgrees" "Z" (.int (0 : Int32))) (F_forecastAgrees : Fld Z h0 a0 "com/example/querant/querant/measure/CaseVerdict" "forecastAgrees" "Z" (.int (0 : Int32))) (F_difference : Fld Z h0 a0 "com/example/querant/querant/measure/CaseVerdict" "difference" "Ljava/lang/String;" .null) (g0 : n0 ≤ a0) :
    MetFree l (⟨"com/example/querant/querant/measure/CaseVerdict", "<init>", "(ZZLjava/lang/String;)V"⟩ : MethodName) (head1 (Jvm.Cond.code (⟨"com/example/querant/querant/measure/CaseVerdict", "<init>", "(ZZLjava/lang/String;)V"⟩ : MethodName) prog_46_method_1_code 4 none :: ws) ({ frames := 2, cells := 0, slots := 0, locals := 24 } : Room)) (fun a U => a = #[(.ref a0), (.int (1 : Int32)), (.int (0 : Int32)), (.ref a3)] ∧ Z.Warmed39 U.vm ∧ U.heap = h0) (fun _ _ _ _ _ => True) (fun _ U o U' => ∃ v L, o = .returned v ∧ QIni10 Z a0 a3 h0 n0 v U'.heap L ∧ FrameEnd U o U' L ({ frames := 2, cells := 0, slots := 0, locals := 24 } : Room).cells ({ frames := 2, cells := 0, slots := 0, locals := 24 } : Room).slots) := by
  refine MetFree.of_bodySF (plainFor_of_name pnIni10) hisR ?_
  intro p e s m args below meth c s₁ Bd hml0 hP hK
  obtain ⟨rfl, hZ, hh⟩ := hP
  have hx := Bd.exec
  have hby := Bd.bytes
  have hlk := BodyLoose.notSynchronized Bd
  have hret := Bd.returns
  have hml : c.maxLocals = 4 := hml0
  have hown : s.vm.findClass "com/example/querant/querant/measure/CaseVerdict" = some m.cls := findClass_of_methodNamed Bd.named
  have hnm := (name_of_methodNamed Bd.named Bd.method).1
  have X0 : Stand p l e ({ frames := 2, cells := 0, slots := 0, locals := 24 } : Room) s m #[(.ref a0), (.int (1 : Int32)), (.int (0 : Int32)), (.ref a3)] below meth c s₁ [] 0 0 := Stand.of_body Bd
  have e0 : s₁.heap = h0 := by rw [← hh, Bd.state]; rfl
  have N0 := Fr.nil n0
  show OFin p e below (KPost s (QIni10 Z a0 a3 h0 n0) ({ frames := 2, cells := 0, slots := 0, locals := 24 } : Room).cells ({ frames := 2, cells := 0, slots := 0, locals := 24 } : Room).slots) _
  rw [efIni10 m a0 a3]
  have K0 : Keep h0 h0 [a0] := Keep.refl _ _
  refine OFin.of (S' := s₁.setTop (mkF m 1 #[.val (.ref a0), .val (.int (1 : Int32)), .val (.int (0 : Int32)), .val (.ref a3)] [(.ref a0)])) (fun t ht => ?_) ?_
  · refine XS.aloadN X0.here hx rfl (hb hby dIni10_0) rfl rfl ?_
    exact ht
  obtain ⟨_, _, ⟨T1, L1, k1, n1⟩, -, X1, ⟨Lc1, hQ1, l1, y1, z1⟩, st1⟩ := X0.specialBack hx (y := (⟨"java/lang/Record", "<init>", "()V"⟩ : MethodName)) rfl hown (mvT hZ (hw _ (List.mem_of_getElem? (i := 33) rfl))) (mvT hZ (hw _ (List.mem_of_getElem? (i := 34) rfl))) (mvT hZ (hw _ (List.mem_of_getElem? (i := 37) rfl))) (by decide) (backOf (W := 0) (rmRec l Z _ hw [] a0 h0 n0 Z0 ) hZ (hw _ (List.mem_of_getElem? (i := 37) rfl)) (hw _ (List.mem_of_getElem? (i := 36) rfl)) (by decide) (by decide)) (g := (mkF m 1 #[.val (.ref a0), .val (.int (1 : Int32)), .val (.int (0 : Int32)), .val (.ref a3)] [(.ref a0)])) rfl (by rw [hml]; rfl) (Steps.refl _) (a := a0) (argsL := []) (rest := []) (lenOf pd_0 rfl) rfl (by show 2 * 0 + _ ≤ _; exact Nat.le_of_eq rfl) (hb hby dIni10_1) (fun _ _ => ⟨rfl, e0, (by decide : 0 + 0 ≤ _), (by decide : 0 + 0 ≤ _)⟩)
  dsimp only [Pt.U, Pt.locs, Pt.cells, Pt.slots] at X1 l1 y1 z1 st1 hQ1
  subst l1 y1 z1
  obtain ⟨rfl, Nq1, hs1⟩ := hQ1
  have N2 := Fr.app N0 Nq1
  refine OFin.to (S' := T1.setTop (mkF m 4 #[.val (.ref a0), .val (.int (1 : Int32)), .val (.int (0 : Int32)), .val (.ref a3)] [])) st1 ?_
  refine OFin.of (S' := T1.setTop (mkF m 6 #[.val (.ref a0), .val (.int (1 : Int32)), .val (.int (0 : Int32)), .val (.ref a3)] [(.int (1 : Int32)), (.ref a0)])) (fun t ht => ?_) ?_
  · refine XS.aloadN X1.here hx rfl (hb hby dIni10_4) rfl rfl ?_
    show Steps p.tables e below (T1.setTop (mkF m 5 _ [(.ref a0)])) _
    refine XS.iloadN X1.here hx rfl (hb hby dIni10_5) rfl ?_
    exact ht
  obtain ⟨T3, h3, X3, e3, W3, st3⟩ := putFN X1 hx hZ hown (hw _ (List.mem_of_getElem? (i := 39) rfl)) Via.refl hs1 F_evaluationAgrees E0 (Or.inr ⟨(hw _ (List.mem_of_getElem? (i := 40) rfl)), rfl, hnm⟩) (hw _ (List.mem_of_getElem? (i := 28) rfl)) (ty := .boolean) (v' := (.int (1 : Int32))) (by decide) rfl rfl (g := (mkF m 6 #[.val (.ref a0), .val (.int (1 : Int32)), .val (.int (0 : Int32)), .val (.ref a3)] [(.int (1 : Int32)), (.ref a0)])) rfl rfl (hb hby dIni10_6)
  have f4 := (E0.wr W3)
  have f5 := (F_forecastAgrees.other W3 (Or.inr (slot_ne (Or.inr (hw _ (List.mem_of_getElem? (i := 42) rfl))) (Or.inr (hw _ (List.mem_of_getElem? (i := 40) rfl))) (by decide) (t := .boolean) (t' := .boolean) (by decide) (by decide))))
  have f6 := (F_difference.other W3 (Or.inr (slot_ne (Or.inr (hw _ (List.mem_of_getElem? (i := 44) rfl))) (Or.inr (hw _ (List.mem_of_getElem? (i := 40) rfl))) (by decide) (t := (.object "java/lang/String")) (t' := .boolean) (by decide) (by decide))))
  have Z7 : n0 ≤ h3.size := (Nat.le_trans Z0 (Keep.of_wr W3).1)
  have K8 : Keep h0 h3 [a0] := (K0.wr W3 (Or.inl (List.mem_of_getElem? (i := 0) rfl)))
  have N9 := Fr.snoc X3 N2 g0
  have f10 : Fld Z h3 a0 "com/example/querant/querant/measure/CaseVerdict" "evaluationAgrees" "Z" (.int (1 : Int32)) := (F_evaluationAgrees.same W3)
  refine OFin.of (S' := T3.setTop (mkF m 9 #[.val (.ref a0), .val (.int (1 : Int32)), .val (.int (0 : Int32)), .val (.ref a3)] [])) (fun t ht => st3 t ht) ?_
  refine OFin.of (S' := T3.setTop (mkF m 11 #[.val (.ref a0), .val (.int (1 : Int32)), .val (.int (0 : Int32)), .val (.ref a3)] [(.int (0 : Int32)), (.ref a0)])) (fun t ht => ?_) ?_
  · refine XS.aloadN X3.here hx rfl (hb hby dIni10_9) rfl rfl ?_
    show Steps p.tables e below (T3.setTop (mkF m 10 _ [(.ref a0)])) _
    refine XS.iloadN X3.here hx rfl (hb hby dIni10_10) rfl ?_
    exact ht
  obtain ⟨T11, h11, X11, e11, W11, st11⟩ := putFN X3 hx hZ hown (hw _ (List.mem_of_getElem? (i := 41) rfl)) Via.refl e3 f5 f4 (Or.inr ⟨(hw _ (List.mem_of_getElem? (i := 42) rfl)), rfl, hnm⟩) (hw _ (List.mem_of_getElem? (i := 28) rfl)) (ty := .boolean) (v' := (.int (0 : Int32))) (by decide) rfl rfl (g := (mkF m 11 #[.val (.ref a0), .val (.int (1 : Int32)), .val (.int (0 : Int32)), .val (.ref a3)] [(.int (0 : Int32)), (.ref a0)])) rfl rfl (hb hby dIni10_11)
  have f12 := (f4.wr W11)
  have f13 := (f6.other W11 (Or.inr (slot_ne (Or.inr (hw _ (List.mem_of_getElem? (i := 44) rfl))) (Or.inr (hw _ (List.mem_of_getElem? (i := 42) rfl))) (by decide) (t := (.object "java/lang/String")) (t' := .boolean) (by decide) (by decide))))
  have f14 := (f10.other W11 (Or.inr (slot_ne (Or.inr (hw _ (List.mem_of_getElem? (i := 40) rfl))) (Or.inr (hw _ (List.mem_of_getElem? (i := 42) rfl))) (by decide) (t := .boolean) (t' := .boolean) (by decide) (by decide))))
  have Z15 : n0 ≤ h11.size := (Nat.le_trans Z7 (Keep.of_wr W11).1)
  have K16 : Keep h0 h11 [a0] := (K8.wr W11 (Or.inl (List.mem_of_getElem? (i := 0) rfl)))
  have N17 := Fr.snoc X11 N9 g0
  have f18 : Fld Z h11 a0 "com/example/querant/querant/measure/CaseVerdict" "forecastAgrees" "Z" (.int (0 : Int32)) := (f5.same W11)
  refine OFin.of (S' := T11.setTop (mkF m 14 #[.val (.ref a0), .val (.int (1 : Int32)), .val (.int (0 : Int32)), .val (.ref a3)] [])) (fun t ht => st11 t ht) ?_
  refine OFin.of (S' := T11.setTop (mkF m 16 #[.val (.ref a0), .val (.int (1 : Int32)), .val (.int (0 : Int32)), .val (.ref a3)] [(.ref a3), (.ref a0)])) (fun t ht => ?_) ?_
  · refine XS.aloadN X11.here hx rfl (hb hby dIni10_14) rfl rfl ?_
    show Steps p.tables e below (T11.setTop (mkF m 15 _ [(.ref a0)])) _
    refine XS.aloadN X11.here hx rfl (hb hby dIni10_15) rfl rfl ?_
    exact ht
  obtain ⟨T19, h19, X19, e19, W19, st19⟩ := putF X11 hx hZ hown (host := "") (Or.inl (hw _ (List.mem_of_getElem? (i := 43) rfl))) Via.refl e11 f13 f12 (Or.inr ⟨(hw _ (List.mem_of_getElem? (i := 44) rfl)), rfl, hnm⟩) (hw _ (List.mem_of_getElem? (i := 28) rfl)) (ty := (.object "java/lang/String")) (by decide) rfl rfl (g := (mkF m 16 #[.val (.ref a0), .val (.int (1 : Int32)), .val (.int (0 : Int32)), .val (.ref a3)] [(.ref a3), (.ref a0)])) rfl rfl (hb hby dIni10_16)
  have f20 := (f12.wr W19)
  have f21 := (f14.other W19 (Or.inr (slot_ne (Or.inr (hw _ (List.mem_of_getElem? (i := 40) rfl))) (Or.inr (hw _ (List.mem_of_getElem? (i := 44) rfl))) (by decide) (t := .boolean) (t' := (.object "java/lang/String")) (by decide) (by decide))))
  have f22 := (f18.other W19 (Or.inr (slot_ne (Or.inr (hw _ (List.mem_of_getElem? (i := 42) rfl))) (Or.inr (hw _ (List.mem_of_getElem? (i := 44) rfl))) (by decide) (t := .boolean) (t' := (.object "java/lang/String")) (by decide) (by decide))))
  have Z23 : n0 ≤ h19.size := (Nat.le_trans Z15 (Keep.of_wr W19).1)
  have K24 : Keep h0 h19 [a0] := (K16.wr W19 (Or.inl (List.mem_of_getElem? (i := 0) rfl)))
  have N25 := Fr.snoc X19 N17 g0
  have f26 : Fld Z h19 a0 "com/example/querant/querant/measure/CaseVerdict" "difference" "Ljava/lang/String;" (.ref a3) := (f13.same W19)
  refine OFin.of (S' := T19.setTop (mkF m 19 #[.val (.ref a0), .val (.int (1 : Int32)), .val (.int (0 : Int32)), .val (.ref a3)] [])) (fun t ht => st19 t ht) ?_
  exact OFin.retV X19 hx hlk hret (hb hby dIni10_19) (by decide) (by decide) (by rw [e19]; exact ⟨rfl, N25, K24, f21, f22, f26⟩)
theorem dAg10_0 : decode prog_46_method_2_code 0 = .ok (.aload_n 0, 1) := by decide +kernel
theorem dAg10_1 : decode prog_46_method_2_code 1 = .ok (.getfield 7, 3) := by decide +kernel
theorem dAg10_4 : decode prog_46_method_2_code 4 = .ok (.ifCond .eq 14, 3) := by decide +kernel
theorem dAg10_7 : decode prog_46_method_2_code 7 = .ok (.aload_n 0, 1) := by decide +kernel
theorem dAg10_8 : decode prog_46_method_2_code 8 = .ok (.getfield 13, 3) := by decide +kernel
theorem dAg10_11 : decode prog_46_method_2_code 11 = .ok (.ifCond .eq 7, 3) := by decide +kernel
theorem dAg10_18 : decode prog_46_method_2_code 18 = .ok (.iconst 0, 1) := by decide +kernel
theorem dAg10_19 : decode prog_46_method_2_code 19 = .ok (.ireturn, 1) := by decide +kernel
theorem pnAg10 : plainName "com/example/querant/querant/measure/CaseVerdict" = true := by first | (simp [plainName, overriddenIn]; done) | decide +kernel
theorem efAg10 (m : MethodId) (a0 : Addr) : entryFrame m #[(.ref a0)] 1 = mkF m 0 #[.val (.ref a0)] [] := by first | (simp [entryFrame, mkF, argsToLocals, Value.category]; done) | rfl
def QAg10 (Z : State) (a0 : Addr) (h0 : Heap) (n0 : Nat) (v : Option Value) (h : Heap) (L : List Loc) : Prop := v = some (.int (0 : Int32)) ∧ Fr n0 L ∧ h = h0
set_option maxRecDepth 65536 in
set_option maxHeartbeats 40000000 in
theorem rmAg10 (l : Launch) (Z : State) (a0 : Array Value) (hw : ∀ d ∈ tables_1, d.before a0 Z = true) (ws : List Jvm.Cond) (a0 : Addr) (h0 : Heap) (n0 : Nat) (Z0 : n0 ≤ h0.size) (F1 : Fld Z h0 a0 "com/example/querant/querant/measure/CaseVerdict" "evaluationAgrees" "Z" (.int (1 : Int32))) (F2 : Fld Z h0 a0 "com/example/querant/querant/measure/CaseVerdict" "forecastAgrees" "Z" (.int (0 : Int32))) :
    MetFree l (⟨"com/example/querant/querant/measure/CaseVerdict", "agrees", "()Z"⟩ : MethodName) (head1 (Jvm.Cond.code (⟨"com/example/querant/querant/measure/CaseVerdict", "agrees", "()Z"⟩ : MethodName) prog_46_method_2_code 1 (some .boolean) :: ws) ({ frames := 0, cells := 0, slots := 0, locals := 0 } : Room)) (fun a U => a = #[(.ref a0)] ∧ Z.Warmed39 U.vm ∧ U.heap = h0) (fun _ _ _ _ _ => True) (fun _ U o U' => ∃ v L, o = .returned v ∧ QAg10 Z a0 h0 n0 v U'.heap L ∧ FrameEnd U o U' L ({ frames := 0, cells := 0, slots := 0, locals := 0 } : Room).cells ({ frames := 0, cells := 0, slots := 0, locals := 0 } : Room).slots) := by
  refine MetFree.of_bodySF (plainFor_of_name pnAg10) hisR ?_
  intro p e s m args below meth c s₁ Bd hml0 hP hK
  obtain ⟨rfl, hZ, hh⟩ := hP
  have hx := Bd.exec
  have hby := Bd.bytes
  have hlk := BodyLoose.notSynchronized Bd
  have hret := Bd.returns
  have hml : c.maxLocals = 1 := hml0
  have hown : s.vm.findClass "com/example/querant/querant/measure/CaseVerdict" = some m.cls := findClass_of_methodNamed Bd.named
  have hnm := (name_of_methodNamed Bd.named Bd.method).1
  have X0 : Stand p l e ({ frames := 0, cells := 0, slots := 0, locals := 0 } : Room) s m #[(.ref a0)] below meth c s₁ [] 0 0 := Stand.of_body Bd
  have e0 : s₁.heap = h0 := by rw [← hh, Bd.state]; rfl
  have N0 := Fr.nil n0
  show OFin p e below (KPost s (QAg10 Z a0 h0 n0) ({ frames := 0, cells := 0, slots := 0, locals := 0 } : Room).cells ({ frames := 0, cells := 0, slots := 0, locals := 0 } : Room).slots) _
  rw [efAg10 m a0]
  refine OFin.of (S' := s₁.setTop (mkF m 1 #[.val (.ref a0)] [(.ref a0)])) (fun t ht => ?_) ?_
  · refine XS.aloadN X0.here hx rfl (hb hby dAg10_0) rfl rfl ?_
    exact ht
  obtain ⟨T1, X1, e1, st1⟩ := getF X0 hx hZ hown (host := "") (Or.inl (hw _ (List.mem_of_getElem? (i := 39) rfl))) Via.refl e0 F1 (g := (mkF m 1 #[.val (.ref a0)] [(.ref a0)])) rfl rfl (hb hby dAg10_1)
  refine OFin.of (S' := T1.setTop (mkF m 4 #[.val (.ref a0)] [(.int (1 : Int32))])) (fun t ht => st1 t ht) ?_
  refine OFin.of (S' := T1.setTop (mkF m 8 #[.val (.ref a0)] [(.ref a0)])) (fun t ht => ?_) ?_
  · refine XS.ifNo X1.here hx rfl (hb hby dAg10_4) rfl ((if0 _ _).trans (feq (by decide : ¬ ((1 : Int32) = (0 : Int32)))).1) ?_
    show Steps p.tables e below (T1.setTop (mkF m 7 _ [])) _
    refine XS.aloadN X1.here hx rfl (hb hby dAg10_7) rfl rfl ?_
    exact ht
  obtain ⟨T2, X2, e2, st2⟩ := getF X1 hx hZ hown (host := "") (Or.inl (hw _ (List.mem_of_getElem? (i := 41) rfl))) Via.refl e1 F2 (g := (mkF m 8 #[.val (.ref a0)] [(.ref a0)])) rfl rfl (hb hby dAg10_8)
  refine OFin.of (S' := T2.setTop (mkF m 11 #[.val (.ref a0)] [(.int (0 : Int32))])) (fun t ht => st2 t ht) ?_
  refine OFin.of (S' := T2.setTop (mkF m 19 #[.val (.ref a0)] [(.int (0 : Int32))])) (fun t ht => ?_) ?_
  · refine XS.ifYes X2.here hx rfl (pc0 := 11) (pc' := 18) rfl (hb hby dAg10_11) rfl ((if0 _ _).trans (teq (by decide : (0 : Int32) = (0 : Int32))).1) (by decide) (by decide) ?_
    show Steps p.tables e below (T2.setTop (mkF m 18 _ [])) _
    refine XS.iconst X2.here hx rfl (hb hby dAg10_18) ?_
    exact ht
  exact OFin.retB X2 hx hlk (t := .boolean) (by simp) hret (hb hby dAg10_19) (by decide) (by decide) (by rw [e2]; exact ⟨rfl, N0, rfl⟩)
theorem dIni11_0 : decode prog_46_method_1_code 0 = .ok (.aload_n 0, 1) := by decide +kernel
theorem dIni11_1 : decode prog_46_method_1_code 1 = .ok (.invokespecial 1, 3) := by decide +kernel
theorem dIni11_4 : decode prog_46_method_1_code 4 = .ok (.aload_n 0, 1) := by decide +kernel
theorem dIni11_5 : decode prog_46_method_1_code 5 = .ok (.iload_n 1, 1) := by decide +kernel
theorem dIni11_6 : decode prog_46_method_1_code 6 = .ok (.putfield 7, 3) := by decide +kernel
theorem dIni11_9 : decode prog_46_method_1_code 9 = .ok (.aload_n 0, 1) := by decide +kernel
theorem dIni11_10 : decode prog_46_method_1_code 10 = .ok (.iload_n 2, 1) := by decide +kernel
theorem dIni11_11 : decode prog_46_method_1_code 11 = .ok (.putfield 13, 3) := by decide +kernel
theorem dIni11_14 : decode prog_46_method_1_code 14 = .ok (.aload_n 0, 1) := by decide +kernel
theorem dIni11_15 : decode prog_46_method_1_code 15 = .ok (.aload_n 3, 1) := by decide +kernel
theorem dIni11_16 : decode prog_46_method_1_code 16 = .ok (.putfield 16, 3) := by decide +kernel
theorem dIni11_19 : decode prog_46_method_1_code 19 = .ok (.return_, 1) := by decide +kernel
theorem pnIni11 : plainName "com/example/querant/querant/measure/CaseVerdict" = true := by first | (simp [plainName, overriddenIn]; done) | decide +kernel
theorem efIni11 (m : MethodId) (a0 : Addr) (a3 : Addr) : entryFrame m #[(.ref a0), (.int (1 : Int32)), (.int (1 : Int32)), (.ref a3)] 4 = mkF m 0 #[.val (.ref a0), .val (.int (1 : Int32)), .val (.int (1 : Int32)), .val (.ref a3)] [] := by first | (simp [entryFrame, mkF, argsToLocals, Value.category]; done) | rfl
def QIni11 (Z : State) (a0 : Addr) (a3 : Addr) (h0 : Heap) (n0 : Nat) (v : Option Value) (h : Heap) (L : List Loc) : Prop := v = none ∧ Fr n0 L ∧ Keep h0 h [a0] ∧ Fld Z h a0 "com/example/querant/querant/measure/CaseVerdict" "evaluationAgrees" "Z" (.int (1 : Int32)) ∧ Fld Z h a0 "com/example/querant/querant/measure/CaseVerdict" "forecastAgrees" "Z" (.int (1 : Int32)) ∧ Fld Z h a0 "com/example/querant/querant/measure/CaseVerdict" "difference" "Ljava/lang/String;" (.ref a3)
set_option maxRecDepth 65536 in
set_option maxHeartbeats 40000000 in
theorem rmIni11 (l : Launch) (Z : State) (a0 : Array Value) (hw : ∀ d ∈ tables_1, d.before a0 Z = true) (ws : List Jvm.Cond) (a0 : Addr) (a3 : Addr) (h0 : Heap) (n0 : Nat) (Z0 : n0 ≤ h0.size) (E0 : Exa Z h0 a0 "com/example/querant/querant/measure/CaseVerdict") (F_evaluationAgrees : Fld Z h0 a0 "com/example/querant/querant/measure/CaseVerdict" "evaluationAgrees" "Z" (.int (0 : Int32))) (F_forecastAgrees : Fld Z h0 a0 "com/example/querant/querant/measure/CaseVerdict" "forecastAgrees" "Z" (.int (0 : Int32))) (F_difference : Fld Z h0 a0 "com/example/querant/querant/measure/CaseVerdict" "difference" "Ljava/lang/String;" .null) (g0 : n0 ≤ a0) :
    MetFree l (⟨"com/example/querant/querant/measure/CaseVerdict", "<init>", "(ZZLjava/lang/String;)V"⟩ : MethodName) (head1 (Jvm.Cond.code (⟨"com/example/querant/querant/measure/CaseVerdict", "<init>", "(ZZLjava/lang/String;)V"⟩ : MethodName) prog_46_method_1_code 4 none :: ws) ({ frames := 2, cells := 0, slots := 0, locals := 24 } : Room)) (fun a U => a = #[(.ref a0), (.int (1 : Int32)), (.int (1 : Int32)), (.ref a3)] ∧ Z.Warmed39 U.vm ∧ U.heap = h0) (fun _ _ _ _ _ => True) (fun _ U o U' => ∃ v L, o = .returned v ∧ QIni11 Z a0 a3 h0 n0 v U'.heap L ∧ FrameEnd U o U' L ({ frames := 2, cells := 0, slots := 0, locals := 24 } : Room).cells ({ frames := 2, cells := 0, slots := 0, locals := 24 } : Room).slots) := by
  refine MetFree.of_bodySF (plainFor_of_name pnIni11) hisR ?_
  intro p e s m args below meth c s₁ Bd hml0 hP hK
  obtain ⟨rfl, hZ, hh⟩ := hP
  have hx := Bd.exec
  have hby := Bd.bytes
  have hlk := BodyLoose.notSynchronized Bd
  have hret := Bd.returns
  have hml : c.maxLocals = 4 := hml0
  have hown : s.vm.findClass "com/example/querant/querant/measure/CaseVerdict" = some m.cls := findClass_of_methodNamed Bd.named
  have hnm := (name_of_methodNamed Bd.named Bd.method).1
  have X0 : Stand p l e ({ frames := 2, cells := 0, slots := 0, locals := 24 } : Room) s m #[(.ref a0), (.int (1 : Int32)), (.int (1 : Int32)), (.ref a3)] below meth c s₁ [] 0 0 := Stand.of_body Bd
  have e0 : s₁.heap = h0 := by rw [← hh, Bd.state]; rfl
  have N0 := Fr.nil n0
  show OFin p e below (KPost s (QIni11 Z a0 a3 h0 n0) ({ frames := 2, cells := 0, slots := 0, locals := 24 } : Room).cells ({ frames := 2, cells := 0, slots := 0, locals := 24 } : Room).slots) _
  rw [efIni11 m a0 a3]
  have K0 : Keep h0 h0 [a0] := Keep.refl _ _
  refine OFin.of (S' := s₁.setTop (mkF m 1 #[.val (.ref a0), .val (.int (1 : Int32)), .val (.int (1 : Int32)), .val (.ref a3)] [(.ref a0)])) (fun t ht => ?_) ?_
  · refine XS.aloadN X0.here hx rfl (hb hby dIni11_0) rfl rfl ?_
    exact ht
  obtain ⟨_, _, ⟨T1, L1, k1, n1⟩, -, X1, ⟨Lc1, hQ1, l1, y1, z1⟩, st1⟩ := X0.specialBack hx (y := (⟨"java/lang/Record", "<init>", "()V"⟩ : MethodName)) rfl hown (mvT hZ (hw _ (List.mem_of_getElem? (i := 33) rfl))) (mvT hZ (hw _ (List.mem_of_getElem? (i := 34) rfl))) (mvT hZ (hw _ (List.mem_of_getElem? (i := 37) rfl))) (by decide) (backOf (W := 0) (rmRec l Z _ hw [] a0 h0 n0 Z0 ) hZ (hw _ (List.mem_of_getElem? (i := 37) rfl)) (hw _ (List.mem_of_getElem? (i := 36) rfl)) (by decide) (by decide)) (g := (mkF m 1 #[.val (.ref a0), .val (.int (1 : Int32)), .val (.int (1 : Int32)), .val (.ref a3)] [(.ref a0)])) rfl (by rw [hml]; rfl) (Steps.refl _) (a := a0) (argsL := []) (rest := []) (lenOf pd_0 rfl) rfl (by show 2 * 0 + _ ≤ _; exact Nat.le_of_eq rfl) (hb hby dIni11_1) (fun _ _ => ⟨rfl, e0, (by decide : 0 + 0 ≤ _), (by decide : 0 + 0 ≤ _)⟩)
  dsimp only [Pt.U, Pt.locs, Pt.cells, Pt.slots] at X1 l1 y1 z1 st1 hQ1
  subst l1 y1 z1
  obtain ⟨rfl, Nq1, hs1⟩ := hQ1
  have N2 := Fr.app N0 Nq1
  refine OFin.to (S' := T1.setTop (mkF m 4 #[.val (.ref a0), .val (.int (1 : Int32)), .val (.int (1 : Int32)), .val (.ref a3)] [])) st1 ?_
  refine OFin.of (S' := T1.setTop (mkF m 6 #[.val (.ref a0), .val (.int (1 : Int32)), .val (.int (1 : Int32)), .val (.ref a3)] [(.int (1 : Int32)), (.ref a0)])) (fun t ht => ?_) ?_
  · refine XS.aloadN X1.here hx rfl (hb hby dIni11_4) rfl rfl ?_
    show Steps p.tables e below (T1.setTop (mkF m 5 _ [(.ref a0)])) _
    refine XS.iloadN X1.here hx rfl (hb hby dIni11_5) rfl ?_
    exact ht
  obtain ⟨T3, h3, X3, e3, W3, st3⟩ := putFN X1 hx hZ hown (hw _ (List.mem_of_getElem? (i := 39) rfl)) Via.refl hs1 F_evaluationAgrees E0 (Or.inr ⟨(hw _ (List.mem_of_getElem? (i := 40) rfl)), rfl, hnm⟩) (hw _ (List.mem_of_getElem? (i := 28) rfl)) (ty := .boolean) (v' := (.int (1 : Int32))) (by decide) rfl rfl (g := (mkF m 6 #[.val (.ref a0), .val (.int (1 : Int32)), .val (.int (1 : Int32)), .val (.ref a3)] [(.int (1 : Int32)), (.ref a0)])) rfl rfl (hb hby dIni11_6)
  have f4 := (E0.wr W3)
  have f5 := (F_forecastAgrees.other W3 (Or.inr (slot_ne (Or.inr (hw _ (List.mem_of_getElem? (i := 42) rfl))) (Or.inr (hw _ (List.mem_of_getElem? (i := 40) rfl))) (by decide) (t := .boolean) (t' := .boolean) (by decide) (by decide))))
  have f6 := (F_difference.other W3 (Or.inr (slot_ne (Or.inr (hw _ (List.mem_of_getElem? (i := 44) rfl))) (Or.inr (hw _ (List.mem_of_getElem? (i := 40) rfl))) (by decide) (t := (.object "java/lang/String")) (t' := .boolean) (by decide) (by decide))))
  have Z7 : n0 ≤ h3.size := (Nat.le_trans Z0 (Keep.of_wr W3).1)
  have K8 : Keep h0 h3 [a0] := (K0.wr W3 (Or.inl (List.mem_of_getElem? (i := 0) rfl)))
  have N9 := Fr.snoc X3 N2 g0
  have f10 : Fld Z h3 a0 "com/example/querant/querant/measure/CaseVerdict" "evaluationAgrees" "Z" (.int (1 : Int32)) := (F_evaluationAgrees.same W3)
  refine OFin.of (S' := T3.setTop (mkF m 9 #[.val (.ref a0), .val (.int (1 : Int32)), .val (.int (1 : Int32)), .val (.ref a3)] [])) (fun t ht => st3 t ht) ?_
  refine OFin.of (S' := T3.setTop (mkF m 11 #[.val (.ref a0), .val (.int (1 : Int32)), .val (.int (1 : Int32)), .val (.ref a3)] [(.int (1 : Int32)), (.ref a0)])) (fun t ht => ?_) ?_
  · refine XS.aloadN X3.here hx rfl (hb hby dIni11_9) rfl rfl ?_
    show Steps p.tables e below (T3.setTop (mkF m 10 _ [(.ref a0)])) _
    refine XS.iloadN X3.here hx rfl (hb hby dIni11_10) rfl ?_
    exact ht
  obtain ⟨T11, h11, X11, e11, W11, st11⟩ := putFN X3 hx hZ hown (hw _ (List.mem_of_getElem? (i := 41) rfl)) Via.refl e3 f5 f4 (Or.inr ⟨(hw _ (List.mem_of_getElem? (i := 42) rfl)), rfl, hnm⟩) (hw _ (List.mem_of_getElem? (i := 28) rfl)) (ty := .boolean) (v' := (.int (1 : Int32))) (by decide) rfl rfl (g := (mkF m 11 #[.val (.ref a0), .val (.int (1 : Int32)), .val (.int (1 : Int32)), .val (.ref a3)] [(.int (1 : Int32)), (.ref a0)])) rfl rfl (hb hby dIni11_11)
  have f12 := (f4.wr W11)
  have f13 := (f6.other W11 (Or.inr (slot_ne (Or.inr (hw _ (List.mem_of_getElem? (i := 44) rfl))) (Or.inr (hw _ (List.mem_of_getElem? (i := 42) rfl))) (by decide) (t := (.object "java/lang/String")) (t' := .boolean) (by decide) (by decide))))
  have f14 := (f10.other W11 (Or.inr (slot_ne (Or.inr (hw _ (List.mem_of_getElem? (i := 40) rfl))) (Or.inr (hw _ (List.mem_of_getElem? (i := 42) rfl))) (by decide) (t := .boolean) (t' := .boolean) (by decide) (by decide))))
  have Z15 : n0 ≤ h11.size := (Nat.le_trans Z7 (Keep.of_wr W11).1)
  have K16 : Keep h0 h11 [a0] := (K8.wr W11 (Or.inl (List.mem_of_getElem? (i := 0) rfl)))
  have N17 := Fr.snoc X11 N9 g0
  have f18 : Fld Z h11 a0 "com/example/querant/querant/measure/CaseVerdict" "forecastAgrees" "Z" (.int (1 : Int32)) := (f5.same W11)
  refine OFin.of (S' := T11.setTop (mkF m 14 #[.val (.ref a0), .val (.int (1 : Int32)), .val (.int (1 : Int32)), .val (.ref a3)] [])) (fun t ht => st11 t ht) ?_
  refine OFin.of (S' := T11.setTop (mkF m 16 #[.val (.ref a0), .val (.int (1 : Int32)), .val (.int (1 : Int32)), .val (.ref a3)] [(.ref a3), (.ref a0)])) (fun t ht => ?_) ?_
  · refine XS.aloadN X11.here hx rfl (hb hby dIni11_14) rfl rfl ?_
    show Steps p.tables e below (T11.setTop (mkF m 15 _ [(.ref a0)])) _
    refine XS.aloadN X11.here hx rfl (hb hby dIni11_15) rfl rfl ?_
    exact ht
  obtain ⟨T19, h19, X19, e19, W19, st19⟩ := putF X11 hx hZ hown (host := "") (Or.inl (hw _ (List.mem_of_getElem? (i := 43) rfl))) Via.refl e11 f13 f12 (Or.inr ⟨(hw _ (List.mem_of_getElem? (i := 44) rfl)), rfl, hnm⟩) (hw _ (List.mem_of_getElem? (i := 28) rfl)) (ty := (.object "java/lang/String")) (by decide) rfl rfl (g := (mkF m 16 #[.val (.ref a0), .val (.int (1 : Int32)), .val (.int (1 : Int32)), .val (.ref a3)] [(.ref a3), (.ref a0)])) rfl rfl (hb hby dIni11_16)
  have f20 := (f12.wr W19)
  have f21 := (f14.other W19 (Or.inr (slot_ne (Or.inr (hw _ (List.mem_of_getElem? (i := 40) rfl))) (Or.inr (hw _ (List.mem_of_getElem? (i := 44) rfl))) (by decide) (t := .boolean) (t' := (.object "java/lang/String")) (by decide) (by decide))))
  have f22 := (f18.other W19 (Or.inr (slot_ne (Or.inr (hw _ (List.mem_of_getElem? (i := 42) rfl))) (Or.inr (hw _ (List.mem_of_getElem? (i := 44) rfl))) (by decide) (t := .boolean) (t' := (.object "java/lang/String")) (by decide) (by decide))))
  have Z23 : n0 ≤ h19.size := (Nat.le_trans Z15 (Keep.of_wr W19).1)
  have K24 : Keep h0 h19 [a0] := (K16.wr W19 (Or.inl (List.mem_of_getElem? (i := 0) rfl)))
  have N25 := Fr.snoc X19 N17 g0
  have f26 : Fld Z h19 a0 "com/example/querant/querant/measure/CaseVerdict" "difference" "Ljava/lang/String;" (.ref a3) := (f13.same W19)
  refine OFin.of (S' := T19.setTop (mkF m 19 #[.val (.ref a0), .val (.int (1 : Int32)), .val (.int (1 : Int32)), .val (.ref a3)] [])) (fun t ht => st19 t ht) ?_
  exact OFin.retV X19 hx hlk hret (hb hby dIni11_19) (by decide) (by decide) (by rw [e19]; exact ⟨rfl, N25, K24, f21, f22, f26⟩)
theorem dAg11_0 : decode prog_46_method_2_code 0 = .ok (.aload_n 0, 1) := by decide +kernel
theorem dAg11_1 : decode prog_46_method_2_code 1 = .ok (.getfield 7, 3) := by decide +kernel
theorem dAg11_4 : decode prog_46_method_2_code 4 = .ok (.ifCond .eq 14, 3) := by decide +kernel
theorem dAg11_7 : decode prog_46_method_2_code 7 = .ok (.aload_n 0, 1) := by decide +kernel
theorem dAg11_8 : decode prog_46_method_2_code 8 = .ok (.getfield 13, 3) := by decide +kernel
theorem dAg11_11 : decode prog_46_method_2_code 11 = .ok (.ifCond .eq 7, 3) := by decide +kernel
theorem dAg11_14 : decode prog_46_method_2_code 14 = .ok (.iconst 1, 1) := by decide +kernel
theorem dAg11_15 : decode prog_46_method_2_code 15 = .ok (.goto 4, 3) := by decide +kernel
theorem dAg11_19 : decode prog_46_method_2_code 19 = .ok (.ireturn, 1) := by decide +kernel
theorem pnAg11 : plainName "com/example/querant/querant/measure/CaseVerdict" = true := by first | (simp [plainName, overriddenIn]; done) | decide +kernel
theorem efAg11 (m : MethodId) (a0 : Addr) : entryFrame m #[(.ref a0)] 1 = mkF m 0 #[.val (.ref a0)] [] := by first | (simp [entryFrame, mkF, argsToLocals, Value.category]; done) | rfl
def QAg11 (Z : State) (a0 : Addr) (h0 : Heap) (n0 : Nat) (v : Option Value) (h : Heap) (L : List Loc) : Prop := v = some (.int (1 : Int32)) ∧ Fr n0 L ∧ h = h0
set_option maxRecDepth 65536 in
set_option maxHeartbeats 40000000 in
theorem rmAg11 (l : Launch) (Z : State) (a0 : Array Value) (hw : ∀ d ∈ tables_1, d.before a0 Z = true) (ws : List Jvm.Cond) (a0 : Addr) (h0 : Heap) (n0 : Nat) (Z0 : n0 ≤ h0.size) (F1 : Fld Z h0 a0 "com/example/querant/querant/measure/CaseVerdict" "evaluationAgrees" "Z" (.int (1 : Int32))) (F2 : Fld Z h0 a0 "com/example/querant/querant/measure/CaseVerdict" "forecastAgrees" "Z" (.int (1 : Int32))) :
    MetFree l (⟨"com/example/querant/querant/measure/CaseVerdict", "agrees", "()Z"⟩ : MethodName) (head1 (Jvm.Cond.code (⟨"com/example/querant/querant/measure/CaseVerdict", "agrees", "()Z"⟩ : MethodName) prog_46_method_2_code 1 (some .boolean) :: ws) ({ frames := 0, cells := 0, slots := 0, locals := 0 } : Room)) (fun a U => a = #[(.ref a0)] ∧ Z.Warmed39 U.vm ∧ U.heap = h0) (fun _ _ _ _ _ => True) (fun _ U o U' => ∃ v L, o = .returned v ∧ QAg11 Z a0 h0 n0 v U'.heap L ∧ FrameEnd U o U' L ({ frames := 0, cells := 0, slots := 0, locals := 0 } : Room).cells ({ frames := 0, cells := 0, slots := 0, locals := 0 } : Room).slots) := by
  refine MetFree.of_bodySF (plainFor_of_name pnAg11) hisR ?_
  intro p e s m args below meth c s₁ Bd hml0 hP hK
  obtain ⟨rfl, hZ, hh⟩ := hP
  have hx := Bd.exec
  have hby := Bd.bytes
  have hlk := BodyLoose.notSynchronized Bd
  have hret := Bd.returns
  have hml : c.maxLocals = 1 := hml0
  have hown : s.vm.findClass "com/example/querant/querant/measure/CaseVerdict" = some m.cls := findClass_of_methodNamed Bd.named
  have hnm := (name_of_methodNamed Bd.named Bd.method).1
  have X0 : Stand p l e ({ frames := 0, cells := 0, slots := 0, locals := 0 } : Room) s m #[(.ref a0)] below meth c s₁ [] 0 0 := Stand.of_body Bd
  have e0 : s₁.heap = h0 := by rw [← hh, Bd.state]; rfl
  have N0 := Fr.nil n0
  show OFin p e below (KPost s (QAg11 Z a0 h0 n0) ({ frames := 0, cells := 0, slots := 0, locals := 0 } : Room).cells ({ frames := 0, cells := 0, slots := 0, locals := 0 } : Room).slots) _
  rw [efAg11 m a0]
  refine OFin.of (S' := s₁.setTop (mkF m 1 #[.val (.ref a0)] [(.ref a0)])) (fun t ht => ?_) ?_
  · refine XS.aloadN X0.here hx rfl (hb hby dAg11_0) rfl rfl ?_
    exact ht
  obtain ⟨T1, X1, e1, st1⟩ := getF X0 hx hZ hown (host := "") (Or.inl (hw _ (List.mem_of_getElem? (i := 39) rfl))) Via.refl e0 F1 (g := (mkF m 1 #[.val (.ref a0)] [(.ref a0)])) rfl rfl (hb hby dAg11_1)
  refine OFin.of (S' := T1.setTop (mkF m 4 #[.val (.ref a0)] [(.int (1 : Int32))])) (fun t ht => st1 t ht) ?_
  refine OFin.of (S' := T1.setTop (mkF m 8 #[.val (.ref a0)] [(.ref a0)])) (fun t ht => ?_) ?_
  · refine XS.ifNo X1.here hx rfl (hb hby dAg11_4) rfl ((if0 _ _).trans (feq (by decide : ¬ ((1 : Int32) = (0 : Int32)))).1) ?_
    show Steps p.tables e below (T1.setTop (mkF m 7 _ [])) _
    refine XS.aloadN X1.here hx rfl (hb hby dAg11_7) rfl rfl ?_
    exact ht
  obtain ⟨T2, X2, e2, st2⟩ := getF X1 hx hZ hown (host := "") (Or.inl (hw _ (List.mem_of_getElem? (i := 41) rfl))) Via.refl e1 F2 (g := (mkF m 8 #[.val (.ref a0)] [(.ref a0)])) rfl rfl (hb hby dAg11_8)
  refine OFin.of (S' := T2.setTop (mkF m 11 #[.val (.ref a0)] [(.int (1 : Int32))])) (fun t ht => st2 t ht) ?_
  refine OFin.of (S' := T2.setTop (mkF m 19 #[.val (.ref a0)] [(.int (1 : Int32))])) (fun t ht => ?_) ?_
  · refine XS.ifNo X2.here hx rfl (hb hby dAg11_11) rfl ((if0 _ _).trans (feq (by decide : ¬ ((1 : Int32) = (0 : Int32)))).1) ?_
    show Steps p.tables e below (T2.setTop (mkF m 14 _ [])) _
    refine XS.iconst X2.here hx rfl (hb hby dAg11_14) ?_
    show Steps p.tables e below (T2.setTop (mkF m 15 _ [(.int (1 : Int32))])) _
    refine XS.goto X2.here hx rfl (pc0 := 15) (pc' := 19) rfl (hb hby dAg11_15) (by decide) (by decide) ?_
    exact ht
  exact OFin.retB X2 hx hlk (t := .boolean) (by simp) hret (hb hby dAg11_19) (by decide) (by decide) (by rw [e2]; exact ⟨rfl, N0, rfl⟩)
theorem dCe_0 : decode jdk_43_method_3_code 0 = .ok (.iload_n 0, 1) := by decide +kernel
theorem dCe_1 : decode jdk_43_method_3_code 1 = .ok (.sipush 255, 3) := by decide +kernel
theorem dCe_4 : decode jdk_43_method_3_code 4 = .ok (.if_icmp .gt 7, 3) := by decide +kernel
theorem dCe_7 : decode jdk_43_method_3_code 7 = .ok (.iconst 1, 1) := by decide +kernel
theorem dCe_8 : decode jdk_43_method_3_code 8 = .ok (.goto 4, 3) := by decide +kernel
theorem dCe_12 : decode jdk_43_method_3_code 12 = .ok (.ireturn, 1) := by decide +kernel
theorem pnCe : plainName "java/lang/StringLatin1" = true := by first | (simp [plainName, overriddenIn]; done) | decide +kernel
theorem efCe (m : MethodId) (p0 : Int32) : entryFrame m #[(.int p0)] 1 = mkF m 0 #[.val (.int p0)] [] := by first | (simp [entryFrame, mkF, argsToLocals, Value.category]; done) | rfl
def QCe (Z : State) (p0 : Int32) (h0 : Heap) (n0 : Nat) (v : Option Value) (h : Heap) (L : List Loc) : Prop := v = some (.int (1 : Int32)) ∧ Fr n0 L ∧ h = h0
set_option maxRecDepth 65536 in
set_option maxHeartbeats 40000000 in
theorem rmCe (l : Launch) (Z : State) (a0 : Array Value) (hw : ∀ d ∈ tables_1, d.before a0 Z = true) (ws : List Jvm.Cond) (p0 : Int32) (h0 : Heap) (n0 : Nat) (Z0 : n0 ≤ h0.size) (hp : ¬ (255 : Int32) < p0) :
    MetFree l (⟨"java/lang/StringLatin1", "canEncode", "(C)Z"⟩ : MethodName) (head1 (Jvm.Cond.code (⟨"java/lang/StringLatin1", "canEncode", "(C)Z"⟩ : MethodName) jdk_43_method_3_code 1 (some .boolean) :: ws) ({ frames := 0, cells := 0, slots := 0, locals := 0 } : Room)) (fun a U => a = #[(.int p0)] ∧ Z.Warmed39 U.vm ∧ U.heap = h0) (fun _ _ _ _ _ => True) (fun _ U o U' => ∃ v L, o = .returned v ∧ QCe Z p0 h0 n0 v U'.heap L ∧ FrameEnd U o U' L ({ frames := 0, cells := 0, slots := 0, locals := 0 } : Room).cells ({ frames := 0, cells := 0, slots := 0, locals := 0 } : Room).slots) := by
  refine MetFree.of_bodySF (plainFor_of_name pnCe) hisR ?_
  intro p e s m args below meth c s₁ Bd hml0 hP hK
  obtain ⟨rfl, hZ, hh⟩ := hP
  have hx := Bd.exec
  have hby := Bd.bytes
  have hlk := BodyLoose.notSynchronized Bd
  have hret := Bd.returns
  have hml : c.maxLocals = 1 := hml0
  have hown : s.vm.findClass "java/lang/StringLatin1" = some m.cls := findClass_of_methodNamed Bd.named
  have hnm := (name_of_methodNamed Bd.named Bd.method).1
  have X0 : Stand p l e ({ frames := 0, cells := 0, slots := 0, locals := 0 } : Room) s m #[(.int p0)] below meth c s₁ [] 0 0 := Stand.of_body Bd
  have e0 : s₁.heap = h0 := by rw [← hh, Bd.state]; rfl
  have N0 := Fr.nil n0
  show OFin p e below (KPost s (QCe Z p0 h0 n0) ({ frames := 0, cells := 0, slots := 0, locals := 0 } : Room).cells ({ frames := 0, cells := 0, slots := 0, locals := 0 } : Room).slots) _
  rw [efCe m p0]
  refine OFin.of (S' := s₁.setTop (mkF m 12 #[.val (.int p0)] [(.int (1 : Int32))])) (fun t ht => ?_) ?_
  · refine XS.iloadN X0.here hx rfl (hb hby dCe_0) rfl ?_
    show Steps p.tables e below (s₁.setTop (mkF m 1 _ [(.int p0)])) _
    refine XS.sipush X0.here hx rfl (hb hby dCe_1) ?_
    show Steps p.tables e below (s₁.setTop (mkF m 4 _ [(.int (255 : Int32)), (.int p0)])) _
    refine XS.icmpNo X0.here hx rfl (hb hby dCe_4) rfl (flt (hp : ¬ ((255 : Int32) < p0))).2.2.1 ?_
    show Steps p.tables e below (s₁.setTop (mkF m 7 _ [])) _
    refine XS.iconst X0.here hx rfl (hb hby dCe_7) ?_
    show Steps p.tables e below (s₁.setTop (mkF m 8 _ [(.int (1 : Int32))])) _
    refine XS.goto X0.here hx rfl (pc0 := 8) (pc' := 12) rfl (hb hby dCe_8) (by decide) (by decide) ?_
    exact ht
  exact OFin.retB X0 hx hlk (t := .boolean) (by simp) hret (hb hby dCe_12) (by decide) (by decide) (by rw [e0]; exact ⟨rfl, N0, rfl⟩)
theorem dTb_0 : decode jdk_43_method_46_code 0 = .ok (.iconst 1, 1) := by decide +kernel
theorem dTb_1 : decode jdk_43_method_46_code 1 = .ok (.newarray .byte, 2) := by decide +kernel
theorem dTb_3 : decode jdk_43_method_46_code 3 = .ok (.dup, 1) := by decide +kernel
theorem dTb_4 : decode jdk_43_method_46_code 4 = .ok (.iconst 0, 1) := by decide +kernel
theorem dTb_5 : decode jdk_43_method_46_code 5 = .ok (.iload_n 0, 1) := by decide +kernel
theorem dTb_6 : decode jdk_43_method_46_code 6 = .ok (.i2b, 1) := by decide +kernel
theorem dTb_7 : decode jdk_43_method_46_code 7 = .ok (.bastore, 1) := by decide +kernel
theorem dTb_8 : decode jdk_43_method_46_code 8 = .ok (.areturn, 1) := by decide +kernel
theorem pnTb : plainName "java/lang/StringLatin1" = true := by first | (simp [plainName, overriddenIn]; done) | decide +kernel
theorem efTb (m : MethodId) (p0 : Int32) : entryFrame m #[(.int p0)] 1 = mkF m 0 #[.val (.int p0)] [] := by first | (simp [entryFrame, mkF, argsToLocals, Value.category]; done) | rfl
def QTb (Z : State) (p0 : Int32) (h0 : Heap) (n0 : Nat) (v : Option Value) (h : Heap) (L : List Loc) : Prop := v = some (.ref h0.size) ∧ Fr n0 L ∧ Keep h0 h []
set_option maxRecDepth 65536 in
set_option maxHeartbeats 40000000 in
theorem rmTb (l : Launch) (Z : State) (a0 : Array Value) (hw : ∀ d ∈ tables_1, d.before a0 Z = true) (ws : List Jvm.Cond) (p0 : Int32) (h0 : Heap) (n0 : Nat) (Z0 : n0 ≤ h0.size)  :
    MetFree l (⟨"java/lang/StringLatin1", "toBytes", "(C)[B"⟩ : MethodName) (head1 (Jvm.Cond.code (⟨"java/lang/StringLatin1", "toBytes", "(C)[B"⟩ : MethodName) jdk_43_method_46_code 1 (some (.array .byte)) :: ws) ({ frames := 0, cells := 1, slots := 1, locals := 0 } : Room)) (fun a U => a = #[(.int p0)] ∧ Z.Warmed39 U.vm ∧ U.heap = h0) (fun _ _ _ _ _ => True) (fun _ U o U' => ∃ v L, o = .returned v ∧ QTb Z p0 h0 n0 v U'.heap L ∧ FrameEnd U o U' L ({ frames := 0, cells := 1, slots := 1, locals := 0 } : Room).cells ({ frames := 0, cells := 1, slots := 1, locals := 0 } : Room).slots) := by
  refine MetFree.of_bodySF (plainFor_of_name pnTb) hisR ?_
  intro p e s m args below meth c s₁ Bd hml0 hP hK
  obtain ⟨rfl, hZ, hh⟩ := hP
  have hx := Bd.exec
  have hby := Bd.bytes
  have hlk := BodyLoose.notSynchronized Bd
  have hret := Bd.returns
  have hml : c.maxLocals = 1 := hml0
  have hown : s.vm.findClass "java/lang/StringLatin1" = some m.cls := findClass_of_methodNamed Bd.named
  have hnm := (name_of_methodNamed Bd.named Bd.method).1
  have X0 : Stand p l e ({ frames := 0, cells := 1, slots := 1, locals := 0 } : Room) s m #[(.int p0)] below meth c s₁ [] 0 0 := Stand.of_body Bd
  have e0 : s₁.heap = h0 := by rw [← hh, Bd.state]; rfl
  have N0 := Fr.nil n0
  show OFin p e below (KPost s (QTb Z p0 h0 n0) ({ frames := 0, cells := 1, slots := 1, locals := 0 } : Room).cells ({ frames := 0, cells := 1, slots := 1, locals := 0 } : Room).slots) _
  rw [efTb m p0]
  have K0 : Keep h0 h0 [] := Keep.refl _ _
  refine OFin.of (S' := s₁.setTop (mkF m 1 #[.val (.int p0)] [(.int (1 : Int32))])) (fun t ht => ?_) ?_
  · refine XS.iconst X0.here hx rfl (hb hby dTb_0) ?_
    exact ht
  obtain ⟨T1, h1, k1, X1, e1, E1, A1, st1⟩ := newP X0 hx hZ (hw _ (List.mem_of_getElem? (i := 15) rfl)) e0 (g := (mkF m 1 #[.val (.int p0)] [(.int (1 : Int32))])) rfl (hb hby dTb_1) rfl (by decide) (cap := 1) (by decide) (by decide) (by decide) (by decide)
  obtain ⟨b1, gq1⟩ : ∃ z, z = h0.size := ⟨_, rfl⟩
  rw [← gq1] at A1 st1
  have g2 : n0 ≤ b1 := (Nat.le_trans Z0 (Nat.le_of_eq gq1.symm))
  have sz3 : h0.size ≤ b1 := (Nat.le_trans K0.1 (Nat.le_of_eq gq1.symm))
  have Z4 : n0 ≤ h1.size := (Nat.le_trans Z0 E1.1)
  have K5 : Keep h0 h1 [] := (K0.ext E1)
  have f6 : Arv Z h1 b1 k1 .byte (1 : Int32) [(.int (0 : Int32))] (.int (0 : Int32)) := ((Arv.new A1 (by decide)).pad (pad_rep [] (.int (0 : Int32)) 1))
  refine OFin.of (S' := T1.setTop (mkF m 3 #[.val (.int p0)] [(.ref b1)])) (fun t ht => st1 t ht) ?_
  refine OFin.of (S' := T1.setTop (mkF m 7 #[.val (.int p0)] [(.int (p0.toInt8.toInt32)), (.int (0 : Int32)), (.ref b1), (.ref b1)])) (fun t ht => ?_) ?_
  · refine XS.dup X1.here hx rfl (hb hby dTb_3) rfl rfl ?_
    show Steps p.tables e below (T1.setTop (mkF m 4 _ [(.ref b1), (.ref b1)])) _
    refine XS.iconst X1.here hx rfl (hb hby dTb_4) ?_
    show Steps p.tables e below (T1.setTop (mkF m 5 _ [(.int (0 : Int32)), (.ref b1), (.ref b1)])) _
    refine XS.iloadN X1.here hx rfl (hb hby dTb_5) rfl ?_
    show Steps p.tables e below (T1.setTop (mkF m 6 _ [(.int p0), (.int (0 : Int32)), (.ref b1), (.ref b1)])) _
    refine XS.i2b X1.here hx rfl (hb hby dTb_6) rfl ?_
    exact ht
  obtain ⟨cl7, Ar7, q7, S7, Ng7, H7, G7⟩ := id f6
  have hin7 := inb_of (j := (0 : Int32)) S7 ⟨by decide, by decide⟩
  obtain ⟨T7, h7, X7, e7, W7, st7⟩ := stB X1 hx hZ e1 Ar7 (j := (0 : Int32)) hin7 (g := (mkF m 7 #[.val (.int p0)] [(.int (p0.toInt8.toInt32)), (.int (0 : Int32)), (.ref b1), (.ref b1)])) rfl rfl (hb hby dTb_7)
  have Z8 : n0 ≤ h7.size := (Nat.le_trans Z4 (Keep.of_wr W7).1)
  have K9 : Keep h0 h7 [] := (K5.wr W7 (Or.inr sz3))
  have N10 := Fr.snoc X7 N0 g2
  have f11 : Arv Z h7 b1 k1 .byte (1 : Int32) [(.int ((p0.toInt8.toInt32).toInt8.toInt32))] (.int (0 : Int32)) := Arv.set Ar7 q7 S7 Ng7 H7 G7 (fits_nar_byte _) W7 0 rfl (Nat.le_of_ble_eq_true rfl)
  refine OFin.of (S' := T7.setTop (mkF m 8 #[.val (.int p0)] [(.ref b1)])) (fun t ht => st7 t ht) ?_
  exact OFin.retA X7 hx hlk (t := (.array .byte)) rfl rfl hret (hb hby dTb_8) (by decide) (by decide) (by rw [e7]; exact ⟨by rw [← gq1], N10, K9⟩)
theorem dSb_0 : decode jdk_42_method_151_code 0 = .ok (.aload_n 0, 1) := by decide +kernel
theorem dSb_1 : decode jdk_42_method_151_code 1 = .ok (.invokespecial 1, 3) := by decide +kernel
theorem dSb_4 : decode jdk_42_method_151_code 4 = .ok (.aload_n 0, 1) := by decide +kernel
theorem dSb_5 : decode jdk_42_method_151_code 5 = .ok (.aload_n 1, 1) := by decide +kernel
theorem dSb_6 : decode jdk_42_method_151_code 6 = .ok (.putfield 9, 3) := by decide +kernel
theorem dSb_9 : decode jdk_42_method_151_code 9 = .ok (.aload_n 0, 1) := by decide +kernel
theorem dSb_10 : decode jdk_42_method_151_code 10 = .ok (.iload_n 2, 1) := by decide +kernel
theorem dSb_11 : decode jdk_42_method_151_code 11 = .ok (.putfield 15, 3) := by decide +kernel
theorem dSb_14 : decode jdk_42_method_151_code 14 = .ok (.return_, 1) := by decide +kernel
theorem pnSb : plainName "java/lang/String" = true := by first | (simp [plainName, overriddenIn]; done) | decide +kernel
theorem efSb (m : MethodId) (a0 : Addr) (a1 : Addr) : entryFrame m #[(.ref a0), (.ref a1), (.int (0 : Int32))] 3 = mkF m 0 #[.val (.ref a0), .val (.ref a1), .val (.int (0 : Int32))] [] := by first | (simp [entryFrame, mkF, argsToLocals, Value.category]; done) | rfl
def QSb (Z : State) (a0 : Addr) (a1 : Addr) (h0 : Heap) (n0 : Nat) (v : Option Value) (h : Heap) (L : List Loc) : Prop := v = none ∧ Fr n0 L ∧ Keep h0 h [a0]
set_option maxRecDepth 65536 in
set_option maxHeartbeats 40000000 in
theorem rmSb (l : Launch) (Z : State) (a0 : Array Value) (hw : ∀ d ∈ tables_1, d.before a0 Z = true) (ws : List Jvm.Cond) (a0 : Addr) (a1 : Addr) (h0 : Heap) (n0 : Nat) (Z0 : n0 ≤ h0.size) (E0 : Exa Z h0 a0 "java/lang/String") (Fc : Fld Z h0 a0 "java/lang/String" "coder" "B" (.int (0 : Int32))) (Fv : Fld Z h0 a0 "java/lang/String" "value" "[B" .null) (g0 : n0 ≤ a0) :
    MetFree l (⟨"java/lang/String", "<init>", "([BB)V"⟩ : MethodName) (head1 (Jvm.Cond.code (⟨"java/lang/String", "<init>", "([BB)V"⟩ : MethodName) jdk_42_method_151_code 3 none :: ws) ({ frames := 1, cells := 0, slots := 0, locals := 12 } : Room)) (fun a U => a = #[(.ref a0), (.ref a1), (.int (0 : Int32))] ∧ Z.Warmed39 U.vm ∧ U.heap = h0) (fun _ _ _ _ _ => True) (fun _ U o U' => ∃ v L, o = .returned v ∧ QSb Z a0 a1 h0 n0 v U'.heap L ∧ FrameEnd U o U' L ({ frames := 1, cells := 0, slots := 0, locals := 12 } : Room).cells ({ frames := 1, cells := 0, slots := 0, locals := 12 } : Room).slots) := by
  refine MetFree.of_bodySF (plainFor_of_name pnSb) hisR ?_
  intro p e s m args below meth c s₁ Bd hml0 hP hK
  obtain ⟨rfl, hZ, hh⟩ := hP
  have hx := Bd.exec
  have hby := Bd.bytes
  have hlk := BodyLoose.notSynchronized Bd
  have hret := Bd.returns
  have hml : c.maxLocals = 3 := hml0
  have hown : s.vm.findClass "java/lang/String" = some m.cls := findClass_of_methodNamed Bd.named
  have hnm := (name_of_methodNamed Bd.named Bd.method).1
  have X0 : Stand p l e ({ frames := 1, cells := 0, slots := 0, locals := 12 } : Room) s m #[(.ref a0), (.ref a1), (.int (0 : Int32))] below meth c s₁ [] 0 0 := Stand.of_body Bd
  have e0 : s₁.heap = h0 := by rw [← hh, Bd.state]; rfl
  have N0 := Fr.nil n0
  show OFin p e below (KPost s (QSb Z a0 a1 h0 n0) ({ frames := 1, cells := 0, slots := 0, locals := 12 } : Room).cells ({ frames := 1, cells := 0, slots := 0, locals := 12 } : Room).slots) _
  rw [efSb m a0 a1]
  have K0 : Keep h0 h0 [a0] := Keep.refl _ _
  refine OFin.of (S' := s₁.setTop (mkF m 1 #[.val (.ref a0), .val (.ref a1), .val (.int (0 : Int32))] [(.ref a0)])) (fun t ht => ?_) ?_
  · refine XS.aloadN X0.here hx rfl (hb hby dSb_0) rfl rfl ?_
    exact ht
  obtain ⟨T1, X1, e1, st1⟩ := initO X0 hx hZ hown (hw _ (List.mem_of_getElem? (i := 20) rfl)) (hw _ (List.mem_of_getElem? (i := 21) rfl)) (hw _ (List.mem_of_getElem? (i := 22) rfl)) e0 (g := (mkF m 1 #[.val (.ref a0), .val (.ref a1), .val (.int (0 : Int32))] [(.ref a0)])) rfl (by rw [hml]; rfl) rfl (hb hby dSb_1) (by decide) (W := 0) (by show 2 * 0 + _ ≤ _; exact Nat.le_of_eq rfl) (by decide)
  refine OFin.of (S' := T1.setTop (mkF m 4 #[.val (.ref a0), .val (.ref a1), .val (.int (0 : Int32))] [])) (fun t ht => st1 t ht) ?_
  refine OFin.of (S' := T1.setTop (mkF m 6 #[.val (.ref a0), .val (.ref a1), .val (.int (0 : Int32))] [(.ref a1), (.ref a0)])) (fun t ht => ?_) ?_
  · refine XS.aloadN X1.here hx rfl (hb hby dSb_4) rfl rfl ?_
    show Steps p.tables e below (T1.setTop (mkF m 5 _ [(.ref a0)])) _
    refine XS.aloadN X1.here hx rfl (hb hby dSb_5) rfl rfl ?_
    exact ht
  obtain ⟨T2, h2, X2, e2, W2, st2⟩ := putF X1 hx hZ hown (host := "") (Or.inl (hw _ (List.mem_of_getElem? (i := 23) rfl))) Via.refl e1 Fv E0 (Or.inr ⟨(hw _ (List.mem_of_getElem? (i := 24) rfl)), rfl, hnm⟩) (hw _ (List.mem_of_getElem? (i := 11) rfl)) (ty := (.array .byte)) (by decide) rfl rfl (g := (mkF m 6 #[.val (.ref a0), .val (.ref a1), .val (.int (0 : Int32))] [(.ref a1), (.ref a0)])) rfl rfl (hb hby dSb_6)
  have f3 := (E0.wr W2)
  have f4 := (Fc.other W2 (Or.inr (slot_ne (Or.inr (hw _ (List.mem_of_getElem? (i := 26) rfl))) (Or.inr (hw _ (List.mem_of_getElem? (i := 24) rfl))) (by decide) (t := .byte) (t' := (.array .byte)) (by decide) (by decide))))
  have Z5 : n0 ≤ h2.size := (Nat.le_trans Z0 (Keep.of_wr W2).1)
  have K6 : Keep h0 h2 [a0] := (K0.wr W2 (Or.inl (List.mem_of_getElem? (i := 0) rfl)))
  have N7 := Fr.snoc X2 N0 g0
  have f8 : Fld Z h2 a0 "java/lang/String" "value" "[B" (.ref a1) := (Fv.same W2)
  refine OFin.of (S' := T2.setTop (mkF m 9 #[.val (.ref a0), .val (.ref a1), .val (.int (0 : Int32))] [])) (fun t ht => st2 t ht) ?_
  refine OFin.of (S' := T2.setTop (mkF m 11 #[.val (.ref a0), .val (.ref a1), .val (.int (0 : Int32))] [(.int (0 : Int32)), (.ref a0)])) (fun t ht => ?_) ?_
  · refine XS.aloadN X2.here hx rfl (hb hby dSb_9) rfl rfl ?_
    show Steps p.tables e below (T2.setTop (mkF m 10 _ [(.ref a0)])) _
    refine XS.iloadN X2.here hx rfl (hb hby dSb_10) rfl ?_
    exact ht
  obtain ⟨T9, h9, X9, e9, W9, st9⟩ := putFN X2 hx hZ hown (hw _ (List.mem_of_getElem? (i := 25) rfl)) Via.refl e2 f4 f3 (Or.inr ⟨(hw _ (List.mem_of_getElem? (i := 26) rfl)), rfl, hnm⟩) (hw _ (List.mem_of_getElem? (i := 11) rfl)) (ty := .byte) (v' := (.int (0 : Int32))) (by decide) rfl rfl (g := (mkF m 11 #[.val (.ref a0), .val (.ref a1), .val (.int (0 : Int32))] [(.int (0 : Int32)), (.ref a0)])) rfl rfl (hb hby dSb_11)
  have f10 := (f3.wr W9)
  have f11 := (f8.other W9 (Or.inr (slot_ne (Or.inr (hw _ (List.mem_of_getElem? (i := 24) rfl))) (Or.inr (hw _ (List.mem_of_getElem? (i := 26) rfl))) (by decide) (t := (.array .byte)) (t' := .byte) (by decide) (by decide))))
  have Z12 : n0 ≤ h9.size := (Nat.le_trans Z5 (Keep.of_wr W9).1)
  have K13 : Keep h0 h9 [a0] := (K6.wr W9 (Or.inl (List.mem_of_getElem? (i := 0) rfl)))
  have N14 := Fr.snoc X9 N7 g0
  have f15 : Fld Z h9 a0 "java/lang/String" "coder" "B" (.int (0 : Int32)) := (f4.same W9)
  refine OFin.of (S' := T9.setTop (mkF m 14 #[.val (.ref a0), .val (.ref a1), .val (.int (0 : Int32))] [])) (fun t ht => st9 t ht) ?_
  exact OFin.retV X9 hx hlk hret (hb hby dSb_14) (by decide) (by decide) (by rw [e9]; exact ⟨rfl, N14, K13⟩)
theorem dVo_0 : decode jdk_42_method_139_code 0 = .ok (.getstatic 38, 3) := by decide +kernel
theorem dVo_3 : decode jdk_42_method_139_code 3 = .ok (.ifCond .eq 23, 3) := by decide +kernel
theorem dVo_6 : decode jdk_42_method_139_code 6 = .ok (.iload_n 0, 1) := by decide +kernel
theorem dVo_7 : decode jdk_42_method_139_code 7 = .ok (.invokestatic 1015, 3) := by decide +kernel
theorem dVo_10 : decode jdk_42_method_139_code 10 = .ok (.ifCond .eq 16, 3) := by decide +kernel
theorem dVo_13 : decode jdk_42_method_139_code 13 = .ok (.new 10, 3) := by decide +kernel
theorem dVo_16 : decode jdk_42_method_139_code 16 = .ok (.dup, 1) := by decide +kernel
theorem dVo_17 : decode jdk_42_method_139_code 17 = .ok (.iload_n 0, 1) := by decide +kernel
theorem dVo_18 : decode jdk_42_method_139_code 18 = .ok (.invokestatic 1018, 3) := by decide +kernel
theorem dVo_21 : decode jdk_42_method_139_code 21 = .ok (.iconst 0, 1) := by decide +kernel
theorem dVo_22 : decode jdk_42_method_139_code 22 = .ok (.invokespecial 209, 3) := by decide +kernel
theorem dVo_25 : decode jdk_42_method_139_code 25 = .ok (.areturn, 1) := by decide +kernel
theorem pnVo : plainName "java/lang/String" = true := by first | (simp [plainName, overriddenIn]; done) | decide +kernel
theorem efVo (m : MethodId) (p0 : Int32) : entryFrame m #[(.int p0)] 1 = mkF m 0 #[.val (.int p0)] [] := by first | (simp [entryFrame, mkF, argsToLocals, Value.category]; done) | rfl
def QVo (Z : State) (p0 : Int32) (cs : Int32) (h0 : Heap) (n0 : Nat) (v : Option Value) (h : Heap) (L : List Loc) : Prop := v = some (.ref h0.size) ∧ Fr n0 L ∧ Keep h0 h []
set_option maxRecDepth 65536 in
set_option maxHeartbeats 40000000 in
theorem rmVo (l : Launch) (Z : State) (a0 : Array Value) (hw : ∀ d ∈ tables_1, d.before a0 Z = true) (ws : List Jvm.Cond) (p0 : Int32) (cs : Int32) (h0 : Heap) (n0 : Nat) (Z0 : n0 ≤ h0.size) (hp : ¬ (255 : Int32) < p0) (Scs : Sta Z h0 "java/lang/String" "COMPACT_STRINGS" "Z" (.int cs)) (hcs : ¬ cs = (0 : Int32)) :
    MetFree l (⟨"java/lang/String", "valueOf", "(C)Ljava/lang/String;"⟩ : MethodName) (head1 (Jvm.Cond.code (⟨"java/lang/String", "valueOf", "(C)Ljava/lang/String;"⟩ : MethodName) jdk_42_method_139_code 1 (some (.object "java/lang/String")) :: ws) ({ frames := 2, cells := 2, slots := 5, locals := 27 } : Room)) (fun a U => a = #[(.int p0)] ∧ Z.Warmed39 U.vm ∧ U.heap = h0) (fun _ _ _ _ _ => True) (fun _ U o U' => ∃ v L, o = .returned v ∧ QVo Z p0 cs h0 n0 v U'.heap L ∧ FrameEnd U o U' L ({ frames := 2, cells := 2, slots := 5, locals := 27 } : Room).cells ({ frames := 2, cells := 2, slots := 5, locals := 27 } : Room).slots) := by
  refine MetFree.of_bodySF (plainFor_of_name pnVo) hisR ?_
  intro p e s m args below meth c s₁ Bd hml0 hP hK
  obtain ⟨rfl, hZ, hh⟩ := hP
  have hx := Bd.exec
  have hby := Bd.bytes
  have hlk := BodyLoose.notSynchronized Bd
  have hret := Bd.returns
  have hml : c.maxLocals = 1 := hml0
  have hown : s.vm.findClass "java/lang/String" = some m.cls := findClass_of_methodNamed Bd.named
  have hnm := (name_of_methodNamed Bd.named Bd.method).1
  have X0 : Stand p l e ({ frames := 2, cells := 2, slots := 5, locals := 27 } : Room) s m #[(.int p0)] below meth c s₁ [] 0 0 := Stand.of_body Bd
  have e0 : s₁.heap = h0 := by rw [← hh, Bd.state]; rfl
  have N0 := Fr.nil n0
  show OFin p e below (KPost s (QVo Z p0 cs h0 n0) ({ frames := 2, cells := 2, slots := 5, locals := 27 } : Room).cells ({ frames := 2, cells := 2, slots := 5, locals := 27 } : Room).slots) _
  rw [efVo m p0]
  have K0 : Keep h0 h0 [] := Keep.refl _ _
  obtain ⟨T1, X1, e1, st1⟩ := getS (host := "") X0 hx hZ hown (hw _ (List.mem_of_getElem? (i := 5) rfl)) Via.refl e0 Scs (g := (mkF m 0 #[.val (.int p0)] [])) rfl (hb hby dVo_0)
  refine OFin.of (S' := T1.setTop (mkF m 3 #[.val (.int p0)] [(.int cs)])) (fun t ht => st1 t ht) ?_
  refine OFin.of (S' := T1.setTop (mkF m 7 #[.val (.int p0)] [(.int p0)])) (fun t ht => ?_) ?_
  · refine XS.ifNo X1.here hx rfl (hb hby dVo_3) rfl ((if0 _ _).trans (feq (hcs : ¬ (cs = (0 : Int32)))).1) ?_
    show Steps p.tables e below (T1.setTop (mkF m 6 _ [])) _
    refine XS.iloadN X1.here hx rfl (hb hby dVo_6) rfl ?_
    exact ht
  obtain ⟨_, _, ⟨T2, L2, k2, n2⟩, -, X2, ⟨Lc2, hQ2, l2, y2, z2⟩, st2⟩ := Jvm.LawKit.callS X1 hx (y := (⟨"java/lang/StringLatin1", "canEncode", "(C)Z"⟩ : MethodName)) hown (mvT hZ (hw _ (List.mem_of_getElem? (i := 6) rfl))) (mvT hZ (hw _ (List.mem_of_getElem? (i := 7) rfl))) (mvT hZ (hw _ (List.mem_of_getElem? (i := 8) rfl))) (mvT hZ (hw _ (List.mem_of_getElem? (i := 9) rfl))) (by decide) (backOf (W := 0) (rmCe l Z _ hw [] p0 h0 n0 Z0 hp) hZ (hw _ (List.mem_of_getElem? (i := 9) rfl)) (hw _ (List.mem_of_getElem? (i := 8) rfl)) (by decide) (by decide)) (g := (mkF m 7 #[.val (.int p0)] [(.int p0)])) rfl (by rw [hml]; rfl) (argsL := [(.int p0)]) (rest := []) (lenOf pd_1 rfl) rfl (by show 2 * 0 + _ ≤ _; exact Nat.le_of_eq rfl) (hb hby dVo_7) (fun _ _ => ⟨rfl, e1, (by decide : 0 + 0 ≤ _), (by decide : 0 + 0 ≤ _)⟩)
  dsimp only [Pt.U, Pt.locs, Pt.cells, Pt.slots] at X2 l2 y2 z2 st2 hQ2
  subst l2 y2 z2
  obtain ⟨rfl, Nq2, hs2⟩ := hQ2
  have N3 := Fr.app N0 Nq2
  refine OFin.of (S' := T2.setTop (mkF m 10 #[.val (.int p0)] [(.int (1 : Int32))])) (fun t ht => st2 t ht) ?_
  refine OFin.of (S' := T2.setTop (mkF m 13 #[.val (.int p0)] [])) (fun t ht => ?_) ?_
  · refine XS.ifNo X2.here hx rfl (hb hby dVo_10) rfl ((if0 _ _).trans (feq (by decide : ¬ ((1 : Int32) = (0 : Int32)))).1) ?_
    exact ht
  obtain ⟨T4, h4, X4, e4, E4, A4, D4, -, st4⟩ := newO X2 hx hZ hown (hw _ (List.mem_of_getElem? (i := 10) rfl)) (hw _ (List.mem_of_getElem? (i := 11) rfl)) (hw _ (List.mem_of_getElem? (i := 3) rfl)) hs2 (g := (mkF m 13 #[.val (.int p0)] [])) rfl (hb hby dVo_13) (by decide) (by decide)
  obtain ⟨b4, gq4⟩ : ∃ z, z = h0.size := ⟨_, rfl⟩
  rw [← gq4] at A4 D4 st4
  have g5 : n0 ≤ b4 := (Nat.le_trans Z0 (Nat.le_of_eq gq4.symm))
  have sz6 : h0.size ≤ b4 := (Nat.le_trans K0.1 (Nat.le_of_eq gq4.symm))
  have f7 := Scs.ext E4
  have Z8 : n0 ≤ h4.size := (Nat.le_trans Z0 E4.1)
  have K9 : Keep h0 h4 [] := (K0.ext E4)
  have f10 : Fld Z h4 b4 "java/lang/String" "value" "[B" .null := D4 (Or.inr (hw _ (List.mem_of_getElem? (i := 24) rfl))) (ty := (.array .byte)) (by decide)
  have f11 : Fld Z h4 b4 "java/lang/String" "coder" "B" (.int (0 : Int32)) := D4 (Or.inr (hw _ (List.mem_of_getElem? (i := 26) rfl))) (ty := .byte) (by decide)
  refine OFin.of (S' := T4.setTop (mkF m 16 #[.val (.int p0)] [(.ref b4)])) (fun t ht => st4 t ht) ?_
  refine OFin.of (S' := T4.setTop (mkF m 18 #[.val (.int p0)] [(.int p0), (.ref b4), (.ref b4)])) (fun t ht => ?_) ?_
  · refine XS.dup X4.here hx rfl (hb hby dVo_16) rfl rfl ?_
    show Steps p.tables e below (T4.setTop (mkF m 17 _ [(.ref b4), (.ref b4)])) _
    refine XS.iloadN X4.here hx rfl (hb hby dVo_17) rfl ?_
    exact ht
  obtain ⟨_, _, ⟨T12, L12, k12, n12⟩, -, X12, ⟨Lc12, hQ12, l12, y12, z12⟩, st12⟩ := Jvm.LawKit.callS X4 hx (y := (⟨"java/lang/StringLatin1", "toBytes", "(C)[B"⟩ : MethodName)) hown (mvT hZ (hw _ (List.mem_of_getElem? (i := 12) rfl))) (mvT hZ (hw _ (List.mem_of_getElem? (i := 13) rfl))) (mvT hZ (hw _ (List.mem_of_getElem? (i := 8) rfl))) (mvT hZ (hw _ (List.mem_of_getElem? (i := 14) rfl))) (by decide) (backOf (W := 2) (rmTb l Z _ hw [] p0 h4 n0 Z8 ) hZ (hw _ (List.mem_of_getElem? (i := 14) rfl)) (hw _ (List.mem_of_getElem? (i := 8) rfl)) (by decide) (by decide)) (g := (mkF m 18 #[.val (.int p0)] [(.int p0), (.ref b4), (.ref b4)])) rfl (by rw [hml]; rfl) (argsL := [(.int p0)]) (rest := [(.ref b4), (.ref b4)]) (lenOf pd_2 rfl) rfl (by show 2 * 0 + _ ≤ _; exact Nat.le_of_eq rfl) (hb hby dVo_18) (fun _ _ => ⟨rfl, e4, (by decide : 1 + 1 ≤ _), (by decide : 4 + 1 ≤ _)⟩)
  dsimp only [Pt.U, Pt.locs, Pt.cells, Pt.slots] at X12 l12 y12 z12 st12 hQ12
  subst l12 y12 z12
  obtain ⟨rfl, Nq12, Kq12⟩ := hQ12
  have N13 := Fr.app N3 Nq12
  obtain ⟨b12, gq12⟩ : ∃ z, z = h4.size := ⟨_, rfl⟩
  rw [← gq12] at st12
  have g14 : n0 ≤ b12 := (Nat.le_trans Z8 (Nat.le_of_eq gq12.symm))
  have sz15 : h0.size ≤ b12 := (Nat.le_trans K9.1 (Nat.le_of_eq gq12.symm))
  have ne16 : b4 ≠ b12 := (Nat.ne_of_lt (Nat.lt_of_lt_of_le A4.lt (Nat.le_of_eq gq12.symm)))
  have f17 := (own_staKeep f7 Kq12 own_sn0)
  have f18 := (A4.keep Kq12)
  have f19 := (f10.keep Kq12 nin0)
  have f20 := (f11.keep Kq12 nin0)
  have Z21 : n0 ≤ T12.heap.size := (Nat.le_trans Z8 Kq12.1)
  have K22 : Keep h0 T12.heap [] := (K9.trans Kq12 all0)
  refine OFin.of (S' := T12.setTop (mkF m 21 #[.val (.int p0)] [(.ref b12), (.ref b4), (.ref b4)])) (fun t ht => st12 t ht) ?_
  refine OFin.of (S' := T12.setTop (mkF m 22 #[.val (.int p0)] [(.int (0 : Int32)), (.ref b12), (.ref b4), (.ref b4)])) (fun t ht => ?_) ?_
  · refine XS.iconst X12.here hx rfl (hb hby dVo_21) ?_
    exact ht
  obtain ⟨_, _, ⟨T23, L23, k23, n23⟩, -, X23, ⟨Lc23, hQ23, l23, y23, z23⟩, st23⟩ := X12.specialBack hx (y := (⟨"java/lang/String", "<init>", "([BB)V"⟩ : MethodName)) rfl hown (mvT hZ (hw _ (List.mem_of_getElem? (i := 16) rfl))) (mvT hZ (hw _ (List.mem_of_getElem? (i := 17) rfl))) (mvT hZ (hw _ (List.mem_of_getElem? (i := 19) rfl))) (by decide) (backOf (W := 1) (rmSb l Z _ hw [] b4 b12 T12.heap n0 Z21 f18 f20 f19 g5) hZ (hw _ (List.mem_of_getElem? (i := 19) rfl)) (hw _ (List.mem_of_getElem? (i := 3) rfl)) (by decide) (by decide)) (g := (mkF m 22 #[.val (.int p0)] [(.int (0 : Int32)), (.ref b12), (.ref b4), (.ref b4)])) rfl (by rw [hml]; rfl) (Steps.refl _) (a := b4) (argsL := [(.ref b12), (.int (0 : Int32))]) (rest := [(.ref b4)]) (lenOf pd_3 rfl) rfl (by show 2 * 0 + _ ≤ _; exact Nat.le_of_eq rfl) (hb hby dVo_22) (fun _ _ => ⟨rfl, (rfl : T12.heap = T12.heap), (by decide : 2 + 0 ≤ _), (by decide : 5 + 0 ≤ _)⟩)
  dsimp only [Pt.U, Pt.locs, Pt.cells, Pt.slots] at X23 l23 y23 z23 st23 hQ23
  subst l23 y23 z23
  obtain ⟨rfl, Nq23, Kq23⟩ := hQ23
  have N24 := Fr.app N13 Nq23
  have f25 := (own_staKeep f17 Kq23 (own_snS f18 own_sn0))
  have f26 := (f18.keep Kq23)
  have Z27 : n0 ≤ T23.heap.size := (Nat.le_trans Z21 Kq23.1)
  have K28 : Keep h0 T23.heap [] := (K22.trans Kq23 (allS (Or.inr sz6) all0))
  refine OFin.to (S' := T23.setTop (mkF m 25 #[.val (.int p0)] [(.ref b4)])) st23 ?_
  exact OFin.retA X23 hx hlk (t := (.object "java/lang/String")) rfl rfl hret (hb hby dVo_25) (by decide) (by decide) (by exact ⟨by rw [← gq4], N24, K28⟩)
theorem dCf2_0 : decode jdk_52_method_21_code 0 = .ok (.iconst 0, 1) := by decide +kernel
theorem dCf2_1 : decode jdk_52_method_21_code 1 = .ok (.istore 5, 2) := by decide +kernel
theorem dCf2_3 : decode jdk_52_method_21_code 3 = .ok (.iload 5, 2) := by decide +kernel
theorem dCf2_5 : decode jdk_52_method_21_code 5 = .ok (.iload 4, 2) := by decide +kernel
theorem dCf2_7 : decode jdk_52_method_21_code 7 = .ok (.if_icmp .ge 37, 3) := by decide +kernel
theorem dCf2_10 : decode jdk_52_method_21_code 10 = .ok (.aload_n 0, 1) := by decide +kernel
theorem dCf2_11 : decode jdk_52_method_21_code 11 = .ok (.iload_n 1, 1) := by decide +kernel
theorem dCf2_12 : decode jdk_52_method_21_code 12 = .ok (.caload, 1) := by decide +kernel
theorem dCf2_13 : decode jdk_52_method_21_code 13 = .ok (.istore 6, 2) := by decide +kernel
theorem dCf2_15 : decode jdk_52_method_21_code 15 = .ok (.iload 6, 2) := by decide +kernel
theorem dCf2_17 : decode jdk_52_method_21_code 17 = .ok (.sipush 255, 3) := by decide +kernel
theorem dCf2_20 : decode jdk_52_method_21_code 20 = .ok (.if_icmp .le 6, 3) := by decide +kernel
theorem dCf2_26 : decode jdk_52_method_21_code 26 = .ok (.aload_n 2, 1) := by decide +kernel
theorem dCf2_27 : decode jdk_52_method_21_code 27 = .ok (.iload_n 3, 1) := by decide +kernel
theorem dCf2_28 : decode jdk_52_method_21_code 28 = .ok (.iload 6, 2) := by decide +kernel
theorem dCf2_30 : decode jdk_52_method_21_code 30 = .ok (.i2b, 1) := by decide +kernel
theorem dCf2_31 : decode jdk_52_method_21_code 31 = .ok (.bastore, 1) := by decide +kernel
theorem dCf2_32 : decode jdk_52_method_21_code 32 = .ok (.iinc 1 1, 3) := by decide +kernel
theorem dCf2_35 : decode jdk_52_method_21_code 35 = .ok (.iinc 3 1, 3) := by decide +kernel
theorem dCf2_38 : decode jdk_52_method_21_code 38 = .ok (.iinc 5 1, 3) := by decide +kernel
theorem dCf2_41 : decode jdk_52_method_21_code 41 = .ok (.goto (-38), 3) := by decide +kernel
theorem dCf2_44 : decode jdk_52_method_21_code 44 = .ok (.iload 4, 2) := by decide +kernel
theorem dCf2_46 : decode jdk_52_method_21_code 46 = .ok (.ireturn, 1) := by decide +kernel
theorem pnCf2 : plainName "java/lang/StringUTF16" = true := by first | (simp [plainName, overriddenIn]; done) | decide +kernel
theorem efCf2 (m : MethodId) (a0 : Addr) (a2 : Addr) : entryFrame m #[(.ref a0), (.int (0 : Int32)), (.ref a2), (.int (0 : Int32)), (.int (2 : Int32))] 7 = mkF m 0 #[.val (.ref a0), .val (.int (0 : Int32)), .val (.ref a2), .val (.int (0 : Int32)), .val (.int (2 : Int32)), .unset, .unset] [] := by first | (simp [entryFrame, mkF, argsToLocals, Value.category]; done) | rfl
def QCf2 (Z : State) (a0 : Addr) (a2 : Addr) (kc : ClassId) (kb : ClassId) (c0 : Int32) (c1 : Int32) (h0 : Heap) (n0 : Nat) (v : Option Value) (h : Heap) (L : List Loc) : Prop := v = some (.int (2 : Int32)) ∧ Fr n0 L ∧ Keep h0 h [a2] ∧ Arv Z h a2 kb .byte (2 : Int32) [(.int ((c0.toInt8.toInt32).toInt8.toInt32)), (.int ((c1.toInt8.toInt32).toInt8.toInt32))] (.int (0 : Int32))
set_option maxRecDepth 65536 in
set_option maxHeartbeats 40000000 in
theorem rmCf2 (l : Launch) (Z : State) (a0 : Array Value) (hw : ∀ d ∈ tables_1, d.before a0 Z = true) (ws : List Jvm.Cond) (a0 : Addr) (a2 : Addr) (kc : ClassId) (kb : ClassId) (c0 : Int32) (c1 : Int32) (h0 : Heap) (n0 : Nat) (Z0 : n0 ≤ h0.size) (V1 : Arv Z h0 a0 kc .char (2 : Int32) [(.int c0), (.int c1)] (.int (0 : Int32))) (V2 : Arv Z h0 a2 kb .byte (2 : Int32) [(.int (0 : Int32)), (.int (0 : Int32))] (.int (0 : Int32))) (g2 : n0 ≤ a2) (hne : a0 ≠ a2) (hp0 : ¬ (255 : Int32) < c0) (hp1 : ¬ (255 : Int32) < c1) :
    MetFree l (⟨"java/lang/StringUTF16", "compress", "([CI[BII)I"⟩ : MethodName) (head1 (Jvm.Cond.code (⟨"java/lang/StringUTF16", "compress", "([CI[BII)I"⟩ : MethodName) jdk_52_method_21_code 7 (some .int) :: ws) ({ frames := 0, cells := 0, slots := 0, locals := 0 } : Room)) (fun a U => a = #[(.ref a0), (.int (0 : Int32)), (.ref a2), (.int (0 : Int32)), (.int (2 : Int32))] ∧ Z.Warmed39 U.vm ∧ U.heap = h0) (fun _ _ _ _ _ => True) (fun _ U o U' => ∃ v L, o = .returned v ∧ QCf2 Z a0 a2 kc kb c0 c1 h0 n0 v U'.heap L ∧ FrameEnd U o U' L ({ frames := 0, cells := 0, slots := 0, locals := 0 } : Room).cells ({ frames := 0, cells := 0, slots := 0, locals := 0 } : Room).slots) := by
  refine MetFree.of_bodySF (plainFor_of_name pnCf2) hisR ?_
  intro p e s m args below meth c s₁ Bd hml0 hP hK
  obtain ⟨rfl, hZ, hh⟩ := hP
  have hx := Bd.exec
  have hby := Bd.bytes
  have hlk := BodyLoose.notSynchronized Bd
  have hret := Bd.returns
  have hml : c.maxLocals = 7 := hml0
  have hown : s.vm.findClass "java/lang/StringUTF16" = some m.cls := findClass_of_methodNamed Bd.named
  have hnm := (name_of_methodNamed Bd.named Bd.method).1
  have X0 : Stand p l e ({ frames := 0, cells := 0, slots := 0, locals := 0 } : Room) s m #[(.ref a0), (.int (0 : Int32)), (.ref a2), (.int (0 : Int32)), (.int (2 : Int32))] below meth c s₁ [] 0 0 := Stand.of_body Bd
  have e0 : s₁.heap = h0 := by rw [← hh, Bd.state]; rfl
  have N0 := Fr.nil n0
  show OFin p e below (KPost s (QCf2 Z a0 a2 kc kb c0 c1 h0 n0) ({ frames := 0, cells := 0, slots := 0, locals := 0 } : Room).cells ({ frames := 0, cells := 0, slots := 0, locals := 0 } : Room).slots) _
  rw [efCf2 m a0 a2]
  have K0 : Keep h0 h0 [a2] := Keep.refl _ _
  refine OFin.of (S' := s₁.setTop (mkF m 12 #[.val (.ref a0), .val (.int (0 : Int32)), .val (.ref a2), .val (.int (0 : Int32)), .val (.int (2 : Int32)), .val (.int (0 : Int32)), .unset] [(.int (0 : Int32)), (.ref a0)])) (fun t ht => ?_) ?_
  · refine XS.iconst X0.here hx rfl (hb hby dCf2_0) ?_
    show Steps p.tables e below (s₁.setTop (mkF m 1 _ [(.int (0 : Int32))])) _
    refine XS.istore X0.here hx rfl (hb hby dCf2_1) rfl (l' := #[.val (.ref a0), .val (.int (0 : Int32)), .val (.ref a2), .val (.int (0 : Int32)), .val (.int (2 : Int32)), .val (.int (0 : Int32)), .unset]) rfl ?_
    show Steps p.tables e below (s₁.setTop (mkF m 3 #[.val (.ref a0), .val (.int (0 : Int32)), .val (.ref a2), .val (.int (0 : Int32)), .val (.int (2 : Int32)), .val (.int (0 : Int32)), .unset] [])) _
    refine XS.iload X0.here hx rfl (hb hby dCf2_3) rfl ?_
    show Steps p.tables e below (s₁.setTop (mkF m 5 _ [(.int (0 : Int32))])) _
    refine XS.iload X0.here hx rfl (hb hby dCf2_5) rfl ?_
    show Steps p.tables e below (s₁.setTop (mkF m 7 _ [(.int (2 : Int32)), (.int (0 : Int32))])) _
    refine XS.icmpNo X0.here hx rfl (hb hby dCf2_7) rfl (tlt (by decide : (0 : Int32) < (2 : Int32))).2.1 ?_
    show Steps p.tables e below (s₁.setTop (mkF m 10 _ [])) _
    refine XS.aloadN X0.here hx rfl (hb hby dCf2_10) rfl rfl ?_
    show Steps p.tables e below (s₁.setTop (mkF m 11 _ [(.ref a0)])) _
    refine XS.iloadN X0.here hx rfl (hb hby dCf2_11) rfl ?_
    exact ht
  obtain ⟨cl1, Ar1, q1, S1, Ng1, H1, G1⟩ := id V1
  have hin1 := inb_of (j := (0 : Int32)) S1 ⟨by decide, by decide⟩
  have hat1 : cl1.slots[((0 : Int32)).toNatClampNeg]? = some (.int c0) := Has.at H1 hin1 rfl
  refine OFin.of (S' := s₁.setTop (mkF m 13 #[.val (.ref a0), .val (.int (0 : Int32)), .val (.ref a2), .val (.int (0 : Int32)), .val (.int (2 : Int32)), .val (.int (0 : Int32)), .unset] [(.int c0)])) (fun t ht => X0.caload hx (j := (0 : Int32)) (v := (.int c0)) (by rw [e0]; exact Ar1.1) (State.isArrayOf_alike hZ.alike Ar1.2.1) Ar1.2.2 hin1 hat1 (g := (mkF m 12 #[.val (.ref a0), .val (.int (0 : Int32)), .val (.ref a2), .val (.int (0 : Int32)), .val (.int (2 : Int32)), .val (.int (0 : Int32)), .unset] [(.int (0 : Int32)), (.ref a0)])) rfl rfl (hb hby dCf2_12) _ ht) ?_
  refine OFin.of (S' := s₁.setTop (mkF m 31 #[.val (.ref a0), .val (.int (0 : Int32)), .val (.ref a2), .val (.int (0 : Int32)), .val (.int (2 : Int32)), .val (.int (0 : Int32)), .val (.int c0)] [(.int (c0.toInt8.toInt32)), (.int (0 : Int32)), (.ref a2)])) (fun t ht => ?_) ?_
  · refine XS.istore X0.here hx rfl (hb hby dCf2_13) rfl (l' := #[.val (.ref a0), .val (.int (0 : Int32)), .val (.ref a2), .val (.int (0 : Int32)), .val (.int (2 : Int32)), .val (.int (0 : Int32)), .val (.int c0)]) rfl ?_
    show Steps p.tables e below (s₁.setTop (mkF m 15 #[.val (.ref a0), .val (.int (0 : Int32)), .val (.ref a2), .val (.int (0 : Int32)), .val (.int (2 : Int32)), .val (.int (0 : Int32)), .val (.int c0)] [])) _
    refine XS.iload X0.here hx rfl (hb hby dCf2_15) rfl ?_
    show Steps p.tables e below (s₁.setTop (mkF m 17 _ [(.int c0)])) _
    refine XS.sipush X0.here hx rfl (hb hby dCf2_17) ?_
    show Steps p.tables e below (s₁.setTop (mkF m 20 _ [(.int (255 : Int32)), (.int c0)])) _
    refine XS.icmpYes X0.here hx rfl (pc0 := 20) (pc' := 26) rfl (hb hby dCf2_20) rfl (flt (hp0 : ¬ ((255 : Int32) < c0))).2.2.2 (by decide) (by decide) ?_
    show Steps p.tables e below (s₁.setTop (mkF m 26 _ [])) _
    refine XS.aloadN X0.here hx rfl (hb hby dCf2_26) rfl rfl ?_
    show Steps p.tables e below (s₁.setTop (mkF m 27 _ [(.ref a2)])) _
    refine XS.iloadN X0.here hx rfl (hb hby dCf2_27) rfl ?_
    show Steps p.tables e below (s₁.setTop (mkF m 28 _ [(.int (0 : Int32)), (.ref a2)])) _
    refine XS.iload X0.here hx rfl (hb hby dCf2_28) rfl ?_
    show Steps p.tables e below (s₁.setTop (mkF m 30 _ [(.int c0), (.int (0 : Int32)), (.ref a2)])) _
    refine XS.i2b X0.here hx rfl (hb hby dCf2_30) rfl ?_
    exact ht
  obtain ⟨cl2, Ar2, q2, S2, Ng2, H2, G2⟩ := id V2
  have hin2 := inb_of (j := (0 : Int32)) S2 ⟨by decide, by decide⟩
  obtain ⟨T2, h2, X2, e2, W2, st2⟩ := stB X0 hx hZ e0 Ar2 (j := (0 : Int32)) hin2 (g := (mkF m 31 #[.val (.ref a0), .val (.int (0 : Int32)), .val (.ref a2), .val (.int (0 : Int32)), .val (.int (2 : Int32)), .val (.int (0 : Int32)), .val (.int c0)] [(.int (c0.toInt8.toInt32)), (.int (0 : Int32)), (.ref a2)])) rfl rfl (hb hby dCf2_31)
  have f3 := (V1.other W2 hne)
  have Z4 : n0 ≤ h2.size := (Nat.le_trans Z0 (Keep.of_wr W2).1)
  have K5 : Keep h0 h2 [a2] := (K0.wr W2 (Or.inl (List.mem_of_getElem? (i := 0) rfl)))
  have N6 := Fr.snoc X2 N0 g2
  have f7 : Arv Z h2 a2 kb .byte (2 : Int32) [(.int ((c0.toInt8.toInt32).toInt8.toInt32)), (.int (0 : Int32))] (.int (0 : Int32)) := Arv.set Ar2 q2 S2 Ng2 H2 G2 (fits_nar_byte _) W2 0 rfl (Nat.le_of_ble_eq_true rfl)
  refine OFin.of (S' := T2.setTop (mkF m 32 #[.val (.ref a0), .val (.int (0 : Int32)), .val (.ref a2), .val (.int (0 : Int32)), .val (.int (2 : Int32)), .val (.int (0 : Int32)), .val (.int c0)] [])) (fun t ht => st2 t ht) ?_
  refine OFin.of (S' := T2.setTop (mkF m 12 #[.val (.ref a0), .val (.int (1 : Int32)), .val (.ref a2), .val (.int (1 : Int32)), .val (.int (2 : Int32)), .val (.int (1 : Int32)), .val (.int c0)] [(.int (1 : Int32)), (.ref a0)])) (fun t ht => ?_) ?_
  · refine XS.iinc X2.here hx rfl (hb hby dCf2_32) rfl (l' := #[.val (.ref a0), .val (.int (1 : Int32)), .val (.ref a2), .val (.int (0 : Int32)), .val (.int (2 : Int32)), .val (.int (0 : Int32)), .val (.int c0)]) rfl ?_
    show Steps p.tables e below (T2.setTop (mkF m 35 #[.val (.ref a0), .val (.int (1 : Int32)), .val (.ref a2), .val (.int (0 : Int32)), .val (.int (2 : Int32)), .val (.int (0 : Int32)), .val (.int c0)] [])) _
    refine XS.iinc X2.here hx rfl (hb hby dCf2_35) rfl (l' := #[.val (.ref a0), .val (.int (1 : Int32)), .val (.ref a2), .val (.int (1 : Int32)), .val (.int (2 : Int32)), .val (.int (0 : Int32)), .val (.int c0)]) rfl ?_
    show Steps p.tables e below (T2.setTop (mkF m 38 #[.val (.ref a0), .val (.int (1 : Int32)), .val (.ref a2), .val (.int (1 : Int32)), .val (.int (2 : Int32)), .val (.int (0 : Int32)), .val (.int c0)] [])) _
    refine XS.iinc X2.here hx rfl (hb hby dCf2_38) rfl (l' := #[.val (.ref a0), .val (.int (1 : Int32)), .val (.ref a2), .val (.int (1 : Int32)), .val (.int (2 : Int32)), .val (.int (1 : Int32)), .val (.int c0)]) rfl ?_
    show Steps p.tables e below (T2.setTop (mkF m 41 #[.val (.ref a0), .val (.int (1 : Int32)), .val (.ref a2), .val (.int (1 : Int32)), .val (.int (2 : Int32)), .val (.int (1 : Int32)), .val (.int c0)] [])) _
    refine XS.goto X2.here hx rfl (pc0 := 41) (pc' := 3) rfl (hb hby dCf2_41) (by decide) (by decide) ?_
    show Steps p.tables e below (T2.setTop (mkF m 3 _ [])) _
    refine XS.iload X2.here hx rfl (hb hby dCf2_3) rfl ?_
    show Steps p.tables e below (T2.setTop (mkF m 5 _ [(.int (1 : Int32))])) _
    refine XS.iload X2.here hx rfl (hb hby dCf2_5) rfl ?_
    show Steps p.tables e below (T2.setTop (mkF m 7 _ [(.int (2 : Int32)), (.int (1 : Int32))])) _
    refine XS.icmpNo X2.here hx rfl (hb hby dCf2_7) rfl (tlt (by decide : (1 : Int32) < (2 : Int32))).2.1 ?_
    show Steps p.tables e below (T2.setTop (mkF m 10 _ [])) _
    refine XS.aloadN X2.here hx rfl (hb hby dCf2_10) rfl rfl ?_
    show Steps p.tables e below (T2.setTop (mkF m 11 _ [(.ref a0)])) _
    refine XS.iloadN X2.here hx rfl (hb hby dCf2_11) rfl ?_
    exact ht
  obtain ⟨cl8, Ar8, q8, S8, Ng8, H8, G8⟩ := id f3
  have hin8 := inb_of (j := (1 : Int32)) S8 ⟨by decide, by decide⟩
  have hat8 : cl8.slots[((1 : Int32)).toNatClampNeg]? = some (.int c1) := Has.at H8 hin8 rfl
  refine OFin.of (S' := T2.setTop (mkF m 13 #[.val (.ref a0), .val (.int (1 : Int32)), .val (.ref a2), .val (.int (1 : Int32)), .val (.int (2 : Int32)), .val (.int (1 : Int32)), .val (.int c0)] [(.int c1)])) (fun t ht => X2.caload hx (j := (1 : Int32)) (v := (.int c1)) (by rw [e2]; exact Ar8.1) (State.isArrayOf_alike hZ.alike Ar8.2.1) Ar8.2.2 hin8 hat8 (g := (mkF m 12 #[.val (.ref a0), .val (.int (1 : Int32)), .val (.ref a2), .val (.int (1 : Int32)), .val (.int (2 : Int32)), .val (.int (1 : Int32)), .val (.int c0)] [(.int (1 : Int32)), (.ref a0)])) rfl rfl (hb hby dCf2_12) _ ht) ?_
  refine OFin.of (S' := T2.setTop (mkF m 31 #[.val (.ref a0), .val (.int (1 : Int32)), .val (.ref a2), .val (.int (1 : Int32)), .val (.int (2 : Int32)), .val (.int (1 : Int32)), .val (.int c1)] [(.int (c1.toInt8.toInt32)), (.int (1 : Int32)), (.ref a2)])) (fun t ht => ?_) ?_
  · refine XS.istore X2.here hx rfl (hb hby dCf2_13) rfl (l' := #[.val (.ref a0), .val (.int (1 : Int32)), .val (.ref a2), .val (.int (1 : Int32)), .val (.int (2 : Int32)), .val (.int (1 : Int32)), .val (.int c1)]) rfl ?_
    show Steps p.tables e below (T2.setTop (mkF m 15 #[.val (.ref a0), .val (.int (1 : Int32)), .val (.ref a2), .val (.int (1 : Int32)), .val (.int (2 : Int32)), .val (.int (1 : Int32)), .val (.int c1)] [])) _
    refine XS.iload X2.here hx rfl (hb hby dCf2_15) rfl ?_
    show Steps p.tables e below (T2.setTop (mkF m 17 _ [(.int c1)])) _
    refine XS.sipush X2.here hx rfl (hb hby dCf2_17) ?_
    show Steps p.tables e below (T2.setTop (mkF m 20 _ [(.int (255 : Int32)), (.int c1)])) _
    refine XS.icmpYes X2.here hx rfl (pc0 := 20) (pc' := 26) rfl (hb hby dCf2_20) rfl (flt (hp1 : ¬ ((255 : Int32) < c1))).2.2.2 (by decide) (by decide) ?_
    show Steps p.tables e below (T2.setTop (mkF m 26 _ [])) _
    refine XS.aloadN X2.here hx rfl (hb hby dCf2_26) rfl rfl ?_
    show Steps p.tables e below (T2.setTop (mkF m 27 _ [(.ref a2)])) _
    refine XS.iloadN X2.here hx rfl (hb hby dCf2_27) rfl ?_
    show Steps p.tables e below (T2.setTop (mkF m 28 _ [(.int (1 : Int32)), (.ref a2)])) _
    refine XS.iload X2.here hx rfl (hb hby dCf2_28) rfl ?_
    show Steps p.tables e below (T2.setTop (mkF m 30 _ [(.int c1), (.int (1 : Int32)), (.ref a2)])) _
    refine XS.i2b X2.here hx rfl (hb hby dCf2_30) rfl ?_
    exact ht
  obtain ⟨cl9, Ar9, q9, S9, Ng9, H9, G9⟩ := id f7
  have hin9 := inb_of (j := (1 : Int32)) S9 ⟨by decide, by decide⟩
  obtain ⟨T9, h9, X9, e9, W9, st9⟩ := stB X2 hx hZ e2 Ar9 (j := (1 : Int32)) hin9 (g := (mkF m 31 #[.val (.ref a0), .val (.int (1 : Int32)), .val (.ref a2), .val (.int (1 : Int32)), .val (.int (2 : Int32)), .val (.int (1 : Int32)), .val (.int c1)] [(.int (c1.toInt8.toInt32)), (.int (1 : Int32)), (.ref a2)])) rfl rfl (hb hby dCf2_31)
  have f10 := (f3.other W9 hne)
  have Z11 : n0 ≤ h9.size := (Nat.le_trans Z4 (Keep.of_wr W9).1)
  have K12 : Keep h0 h9 [a2] := (K5.wr W9 (Or.inl (List.mem_of_getElem? (i := 0) rfl)))
  have N13 := Fr.snoc X9 N6 g2
  have f14 : Arv Z h9 a2 kb .byte (2 : Int32) [(.int ((c0.toInt8.toInt32).toInt8.toInt32)), (.int ((c1.toInt8.toInt32).toInt8.toInt32))] (.int (0 : Int32)) := Arv.set Ar9 q9 S9 Ng9 H9 G9 (fits_nar_byte _) W9 1 rfl (Nat.le_of_ble_eq_true rfl)
  refine OFin.of (S' := T9.setTop (mkF m 32 #[.val (.ref a0), .val (.int (1 : Int32)), .val (.ref a2), .val (.int (1 : Int32)), .val (.int (2 : Int32)), .val (.int (1 : Int32)), .val (.int c1)] [])) (fun t ht => st9 t ht) ?_
  refine OFin.of (S' := T9.setTop (mkF m 46 #[.val (.ref a0), .val (.int (2 : Int32)), .val (.ref a2), .val (.int (2 : Int32)), .val (.int (2 : Int32)), .val (.int (2 : Int32)), .val (.int c1)] [(.int (2 : Int32))])) (fun t ht => ?_) ?_
  · refine XS.iinc X9.here hx rfl (hb hby dCf2_32) rfl (l' := #[.val (.ref a0), .val (.int (2 : Int32)), .val (.ref a2), .val (.int (1 : Int32)), .val (.int (2 : Int32)), .val (.int (1 : Int32)), .val (.int c1)]) rfl ?_
    show Steps p.tables e below (T9.setTop (mkF m 35 #[.val (.ref a0), .val (.int (2 : Int32)), .val (.ref a2), .val (.int (1 : Int32)), .val (.int (2 : Int32)), .val (.int (1 : Int32)), .val (.int c1)] [])) _
    refine XS.iinc X9.here hx rfl (hb hby dCf2_35) rfl (l' := #[.val (.ref a0), .val (.int (2 : Int32)), .val (.ref a2), .val (.int (2 : Int32)), .val (.int (2 : Int32)), .val (.int (1 : Int32)), .val (.int c1)]) rfl ?_
    show Steps p.tables e below (T9.setTop (mkF m 38 #[.val (.ref a0), .val (.int (2 : Int32)), .val (.ref a2), .val (.int (2 : Int32)), .val (.int (2 : Int32)), .val (.int (1 : Int32)), .val (.int c1)] [])) _
    refine XS.iinc X9.here hx rfl (hb hby dCf2_38) rfl (l' := #[.val (.ref a0), .val (.int (2 : Int32)), .val (.ref a2), .val (.int (2 : Int32)), .val (.int (2 : Int32)), .val (.int (2 : Int32)), .val (.int c1)]) rfl ?_
    show Steps p.tables e below (T9.setTop (mkF m 41 #[.val (.ref a0), .val (.int (2 : Int32)), .val (.ref a2), .val (.int (2 : Int32)), .val (.int (2 : Int32)), .val (.int (2 : Int32)), .val (.int c1)] [])) _
    refine XS.goto X9.here hx rfl (pc0 := 41) (pc' := 3) rfl (hb hby dCf2_41) (by decide) (by decide) ?_
    show Steps p.tables e below (T9.setTop (mkF m 3 _ [])) _
    refine XS.iload X9.here hx rfl (hb hby dCf2_3) rfl ?_
    show Steps p.tables e below (T9.setTop (mkF m 5 _ [(.int (2 : Int32))])) _
    refine XS.iload X9.here hx rfl (hb hby dCf2_5) rfl ?_
    show Steps p.tables e below (T9.setTop (mkF m 7 _ [(.int (2 : Int32)), (.int (2 : Int32))])) _
    refine XS.icmpYes X9.here hx rfl (pc0 := 7) (pc' := 44) rfl (hb hby dCf2_7) rfl (flt (by decide : ¬ ((2 : Int32) < (2 : Int32)))).2.1 (by decide) (by decide) ?_
    show Steps p.tables e below (T9.setTop (mkF m 44 _ [])) _
    refine XS.iload X9.here hx rfl (hb hby dCf2_44) rfl ?_
    exact ht
  exact OFin.retI X9 hx hlk hret (hb hby dCf2_46) (by decide) (by decide) (by rw [e9]; exact ⟨rfl, N13, K12, f14⟩)
theorem dCt2_0 : decode jdk_52_method_16_code 0 = .ok (.iload_n 2, 1) := by decide +kernel
theorem dCt2_1 : decode jdk_52_method_16_code 1 = .ok (.newarray .byte, 2) := by decide +kernel
theorem dCt2_3 : decode jdk_52_method_16_code 3 = .ok (.astore_n 3, 1) := by decide +kernel
theorem dCt2_4 : decode jdk_52_method_16_code 4 = .ok (.aload_n 0, 1) := by decide +kernel
theorem dCt2_5 : decode jdk_52_method_16_code 5 = .ok (.iload_n 1, 1) := by decide +kernel
theorem dCt2_6 : decode jdk_52_method_16_code 6 = .ok (.aload_n 3, 1) := by decide +kernel
theorem dCt2_7 : decode jdk_52_method_16_code 7 = .ok (.iconst 0, 1) := by decide +kernel
theorem dCt2_8 : decode jdk_52_method_16_code 8 = .ok (.iload_n 2, 1) := by decide +kernel
theorem dCt2_9 : decode jdk_52_method_16_code 9 = .ok (.invokestatic 115, 3) := by decide +kernel
theorem dCt2_12 : decode jdk_52_method_16_code 12 = .ok (.istore 4, 2) := by decide +kernel
theorem dCt2_14 : decode jdk_52_method_16_code 14 = .ok (.iload 4, 2) := by decide +kernel
theorem dCt2_16 : decode jdk_52_method_16_code 16 = .ok (.iload_n 2, 1) := by decide +kernel
theorem dCt2_17 : decode jdk_52_method_16_code 17 = .ok (.if_icmp .eq 40, 3) := by decide +kernel
theorem dCt2_57 : decode jdk_52_method_16_code 57 = .ok (.aload_n 3, 1) := by decide +kernel
theorem dCt2_58 : decode jdk_52_method_16_code 58 = .ok (.areturn, 1) := by decide +kernel
theorem pnCt2 : plainName "java/lang/StringUTF16" = true := by first | (simp [plainName, overriddenIn]; done) | decide +kernel
theorem efCt2 (m : MethodId) (a0 : Addr) : entryFrame m #[(.ref a0), (.int (0 : Int32)), (.int (2 : Int32))] 6 = mkF m 0 #[.val (.ref a0), .val (.int (0 : Int32)), .val (.int (2 : Int32)), .unset, .unset, .unset] [] := by first | (simp [entryFrame, mkF, argsToLocals, Value.category]; done) | rfl
def QCt2 (Z : State) (a0 : Addr) (kc : ClassId) (c0 : Int32) (c1 : Int32) (h0 : Heap) (n0 : Nat) (v : Option Value) (h : Heap) (L : List Loc) : Prop := v = some (.ref h0.size) ∧ Fr n0 L ∧ Keep h0 h [] ∧ ∃ kb, Arv Z h h0.size kb .byte (2 : Int32) [(.int ((c0.toInt8.toInt32).toInt8.toInt32)), (.int ((c1.toInt8.toInt32).toInt8.toInt32))] (.int (0 : Int32))
set_option maxRecDepth 65536 in
set_option maxHeartbeats 40000000 in
theorem rmCt2 (l : Launch) (Z : State) (a0 : Array Value) (hw : ∀ d ∈ tables_1, d.before a0 Z = true) (ws : List Jvm.Cond) (a0 : Addr) (kc : ClassId) (c0 : Int32) (c1 : Int32) (h0 : Heap) (n0 : Nat) (Z0 : n0 ≤ h0.size) (V1 : Arv Z h0 a0 kc .char (2 : Int32) [(.int c0), (.int c1)] (.int (0 : Int32))) (hp0 : ¬ (255 : Int32) < c0) (hp1 : ¬ (255 : Int32) < c1) :
    MetFree l (⟨"java/lang/StringUTF16", "compress", "([CII)[B"⟩ : MethodName) (head1 (Jvm.Cond.code (⟨"java/lang/StringUTF16", "compress", "([CII)[B"⟩ : MethodName) jdk_52_method_16_code 6 (some (.array .byte)) :: ws) ({ frames := 1, cells := 1, slots := 2, locals := 18 } : Room)) (fun a U => a = #[(.ref a0), (.int (0 : Int32)), (.int (2 : Int32))] ∧ Z.Warmed39 U.vm ∧ U.heap = h0) (fun _ _ _ _ _ => True) (fun _ U o U' => ∃ v L, o = .returned v ∧ QCt2 Z a0 kc c0 c1 h0 n0 v U'.heap L ∧ FrameEnd U o U' L ({ frames := 1, cells := 1, slots := 2, locals := 18 } : Room).cells ({ frames := 1, cells := 1, slots := 2, locals := 18 } : Room).slots) := by
  refine MetFree.of_bodySF (plainFor_of_name pnCt2) hisR ?_
  intro p e s m args below meth c s₁ Bd hml0 hP hK
  obtain ⟨rfl, hZ, hh⟩ := hP
  have hx := Bd.exec
  have hby := Bd.bytes
  have hlk := BodyLoose.notSynchronized Bd
  have hret := Bd.returns
  have hml : c.maxLocals = 6 := hml0
  have hown : s.vm.findClass "java/lang/StringUTF16" = some m.cls := findClass_of_methodNamed Bd.named
  have hnm := (name_of_methodNamed Bd.named Bd.method).1
  have X0 : Stand p l e ({ frames := 1, cells := 1, slots := 2, locals := 18 } : Room) s m #[(.ref a0), (.int (0 : Int32)), (.int (2 : Int32))] below meth c s₁ [] 0 0 := Stand.of_body Bd
  have e0 : s₁.heap = h0 := by rw [← hh, Bd.state]; rfl
  have N0 := Fr.nil n0
  show OFin p e below (KPost s (QCt2 Z a0 kc c0 c1 h0 n0) ({ frames := 1, cells := 1, slots := 2, locals := 18 } : Room).cells ({ frames := 1, cells := 1, slots := 2, locals := 18 } : Room).slots) _
  rw [efCt2 m a0]
  have K0 : Keep h0 h0 [] := Keep.refl _ _
  refine OFin.of (S' := s₁.setTop (mkF m 1 #[.val (.ref a0), .val (.int (0 : Int32)), .val (.int (2 : Int32)), .unset, .unset, .unset] [(.int (2 : Int32))])) (fun t ht => ?_) ?_
  · refine XS.iloadN X0.here hx rfl (hb hby dCt2_0) rfl ?_
    exact ht
  obtain ⟨T1, h1, k1, X1, e1, E1, A1, st1⟩ := newP X0 hx hZ (hw _ (List.mem_of_getElem? (i := 15) rfl)) e0 (g := (mkF m 1 #[.val (.ref a0), .val (.int (0 : Int32)), .val (.int (2 : Int32)), .unset, .unset, .unset] [(.int (2 : Int32))])) rfl (hb hby dCt2_1) rfl (by decide) (cap := 2) (by decide) (by decide) (by decide) (by decide)
  obtain ⟨b1, gq1⟩ : ∃ z, z = h0.size := ⟨_, rfl⟩
  rw [← gq1] at A1 st1
  have g2 : n0 ≤ b1 := (Nat.le_trans Z0 (Nat.le_of_eq gq1.symm))
  have sz3 : h0.size ≤ b1 := (Nat.le_trans K0.1 (Nat.le_of_eq gq1.symm))
  have ne4 : a0 ≠ b1 := (Nat.ne_of_lt (Nat.lt_of_lt_of_le V1.lt (Nat.le_of_eq gq1.symm)))
  have f5 := V1.ext E1
  have Z6 : n0 ≤ h1.size := (Nat.le_trans Z0 E1.1)
  have K7 : Keep h0 h1 [] := (K0.ext E1)
  have f8 : Arv Z h1 b1 k1 .byte (2 : Int32) [(.int (0 : Int32)), (.int (0 : Int32))] (.int (0 : Int32)) := ((Arv.new A1 (by decide)).pad (pad_rep [] (.int (0 : Int32)) 2))
  refine OFin.of (S' := T1.setTop (mkF m 3 #[.val (.ref a0), .val (.int (0 : Int32)), .val (.int (2 : Int32)), .unset, .unset, .unset] [(.ref b1)])) (fun t ht => st1 t ht) ?_
  refine OFin.of (S' := T1.setTop (mkF m 9 #[.val (.ref a0), .val (.int (0 : Int32)), .val (.int (2 : Int32)), .val (.ref b1), .unset, .unset] [(.int (2 : Int32)), (.int (0 : Int32)), (.ref b1), (.int (0 : Int32)), (.ref a0)])) (fun t ht => ?_) ?_
  · refine XS.astoreN X1.here hx rfl (hb hby dCt2_3) rfl rfl (l' := #[.val (.ref a0), .val (.int (0 : Int32)), .val (.int (2 : Int32)), .val (.ref b1), .unset, .unset]) rfl ?_
    show Steps p.tables e below (T1.setTop (mkF m 4 #[.val (.ref a0), .val (.int (0 : Int32)), .val (.int (2 : Int32)), .val (.ref b1), .unset, .unset] [])) _
    refine XS.aloadN X1.here hx rfl (hb hby dCt2_4) rfl rfl ?_
    show Steps p.tables e below (T1.setTop (mkF m 5 _ [(.ref a0)])) _
    refine XS.iloadN X1.here hx rfl (hb hby dCt2_5) rfl ?_
    show Steps p.tables e below (T1.setTop (mkF m 6 _ [(.int (0 : Int32)), (.ref a0)])) _
    refine XS.aloadN X1.here hx rfl (hb hby dCt2_6) rfl rfl ?_
    show Steps p.tables e below (T1.setTop (mkF m 7 _ [(.ref b1), (.int (0 : Int32)), (.ref a0)])) _
    refine XS.iconst X1.here hx rfl (hb hby dCt2_7) ?_
    show Steps p.tables e below (T1.setTop (mkF m 8 _ [(.int (0 : Int32)), (.ref b1), (.int (0 : Int32)), (.ref a0)])) _
    refine XS.iloadN X1.here hx rfl (hb hby dCt2_8) rfl ?_
    exact ht
  obtain ⟨_, _, ⟨T9, L9, k9, n9⟩, -, X9, ⟨Lc9, hQ9, l9, y9, z9⟩, st9⟩ := Jvm.LawKit.callS X1 hx (y := (⟨"java/lang/StringUTF16", "compress", "([CI[BII)I"⟩ : MethodName)) hown (mvT hZ (hw _ (List.mem_of_getElem? (i := 61) rfl))) (mvT hZ (hw _ (List.mem_of_getElem? (i := 62) rfl))) (mvT hZ (hw _ (List.mem_of_getElem? (i := 59) rfl))) (mvT hZ (hw _ (List.mem_of_getElem? (i := 63) rfl))) (by decide) (backOf (W := 0) (rmCf2 l Z _ hw [] a0 b1 kc k1 c0 c1 h1 n0 Z6 f5 f8 g2 ne4 hp0 hp1) hZ (hw _ (List.mem_of_getElem? (i := 63) rfl)) (hw _ (List.mem_of_getElem? (i := 59) rfl)) (by decide) (by decide)) (g := (mkF m 9 #[.val (.ref a0), .val (.int (0 : Int32)), .val (.int (2 : Int32)), .val (.ref b1), .unset, .unset] [(.int (2 : Int32)), (.int (0 : Int32)), (.ref b1), (.int (0 : Int32)), (.ref a0)])) rfl (by rw [hml]; rfl) (argsL := [(.ref a0), (.int (0 : Int32)), (.ref b1), (.int (0 : Int32)), (.int (2 : Int32))]) (rest := []) (lenOf pd_4 rfl) rfl (by show 2 * 0 + _ ≤ _; exact Nat.le_of_eq rfl) (hb hby dCt2_9) (fun _ _ => ⟨rfl, e1, (by decide : 1 + 0 ≤ _), (by decide : 2 + 0 ≤ _)⟩)
  dsimp only [Pt.U, Pt.locs, Pt.cells, Pt.slots] at X9 l9 y9 z9 st9 hQ9
  subst l9 y9 z9
  obtain ⟨rfl, Nq9, Kq9, f10⟩ := hQ9
  have N11 := Fr.app N0 Nq9
  have f12 := (f5.keep Kq9 (ninS ne4 nin0))
  have Z13 : n0 ≤ T9.heap.size := (Nat.le_trans Z6 Kq9.1)
  have K14 : Keep h0 T9.heap [] := (K7.trans Kq9 (allS (Or.inr sz3) all0))
  refine OFin.of (S' := T9.setTop (mkF m 12 #[.val (.ref a0), .val (.int (0 : Int32)), .val (.int (2 : Int32)), .val (.ref b1), .unset, .unset] [(.int (2 : Int32))])) (fun t ht => st9 t ht) ?_
  refine OFin.of (S' := T9.setTop (mkF m 58 #[.val (.ref a0), .val (.int (0 : Int32)), .val (.int (2 : Int32)), .val (.ref b1), .val (.int (2 : Int32)), .unset] [(.ref b1)])) (fun t ht => ?_) ?_
  · refine XS.istore X9.here hx rfl (hb hby dCt2_12) rfl (l' := #[.val (.ref a0), .val (.int (0 : Int32)), .val (.int (2 : Int32)), .val (.ref b1), .val (.int (2 : Int32)), .unset]) rfl ?_
    show Steps p.tables e below (T9.setTop (mkF m 14 #[.val (.ref a0), .val (.int (0 : Int32)), .val (.int (2 : Int32)), .val (.ref b1), .val (.int (2 : Int32)), .unset] [])) _
    refine XS.iload X9.here hx rfl (hb hby dCt2_14) rfl ?_
    show Steps p.tables e below (T9.setTop (mkF m 16 _ [(.int (2 : Int32))])) _
    refine XS.iloadN X9.here hx rfl (hb hby dCt2_16) rfl ?_
    show Steps p.tables e below (T9.setTop (mkF m 17 _ [(.int (2 : Int32)), (.int (2 : Int32))])) _
    refine XS.icmpYes X9.here hx rfl (pc0 := 17) (pc' := 57) rfl (hb hby dCt2_17) rfl (teq (by decide : (2 : Int32) = (2 : Int32))).1 (by decide) (by decide) ?_
    show Steps p.tables e below (T9.setTop (mkF m 57 _ [])) _
    refine XS.aloadN X9.here hx rfl (hb hby dCt2_57) rfl rfl ?_
    exact ht
  exact OFin.retA X9 hx hlk (t := (.array .byte)) rfl rfl hret (hb hby dCt2_58) (by decide) (by decide) (by exact ⟨by rw [← gq1], N11, K14, k1, by rw [← gq1]; exact f10⟩)
theorem dCd2_0 : decode jdk_52_method_15_code 0 = .ok (.iload_n 1, 1) := by decide +kernel
theorem dCd2_1 : decode jdk_52_method_15_code 1 = .ok (.aload_n 0, 1) := by decide +kernel
theorem dCd2_2 : decode jdk_52_method_15_code 2 = .ok (.arraylength, 1) := by decide +kernel
theorem dCd2_3 : decode jdk_52_method_15_code 3 = .ok (.isub, 1) := by decide +kernel
theorem dCd2_4 : decode jdk_52_method_15_code 4 = .ok (.bipush 31, 2) := by decide +kernel
theorem dCd2_6 : decode jdk_52_method_15_code 6 = .ok (.iushr, 1) := by decide +kernel
theorem dCd2_7 : decode jdk_52_method_15_code 7 = .ok (.i2b, 1) := by decide +kernel
theorem dCd2_8 : decode jdk_52_method_15_code 8 = .ok (.ireturn, 1) := by decide +kernel
theorem pnCd2 : plainName "java/lang/StringUTF16" = true := by first | (simp [plainName, overriddenIn]; done) | decide +kernel
theorem efCd2 (m : MethodId) (a0 : Addr) : entryFrame m #[(.ref a0), (.int (2 : Int32))] 2 = mkF m 0 #[.val (.ref a0), .val (.int (2 : Int32))] [] := by first | (simp [entryFrame, mkF, argsToLocals, Value.category]; done) | rfl
def QCd2 (Z : State) (a0 : Addr) (k : ClassId) (x0 : Int32) (x1 : Int32) (h0 : Heap) (n0 : Nat) (v : Option Value) (h : Heap) (L : List Loc) : Prop := v = some (.int (0 : Int32)) ∧ Fr n0 L ∧ h = h0
set_option maxRecDepth 65536 in
set_option maxHeartbeats 40000000 in
theorem rmCd2 (l : Launch) (Z : State) (a0 : Array Value) (hw : ∀ d ∈ tables_1, d.before a0 Z = true) (ws : List Jvm.Cond) (a0 : Addr) (k : ClassId) (x0 : Int32) (x1 : Int32) (h0 : Heap) (n0 : Nat) (Z0 : n0 ≤ h0.size) (V1 : Arv Z h0 a0 k .byte (2 : Int32) [(.int x0), (.int x1)] (.int (0 : Int32))) :
    MetFree l (⟨"java/lang/StringUTF16", "coderFromArrayLen", "([BI)B"⟩ : MethodName) (head1 (Jvm.Cond.code (⟨"java/lang/StringUTF16", "coderFromArrayLen", "([BI)B"⟩ : MethodName) jdk_52_method_15_code 2 (some .byte) :: ws) ({ frames := 0, cells := 0, slots := 0, locals := 0 } : Room)) (fun a U => a = #[(.ref a0), (.int (2 : Int32))] ∧ Z.Warmed39 U.vm ∧ U.heap = h0) (fun _ _ _ _ _ => True) (fun _ U o U' => ∃ v L, o = .returned v ∧ QCd2 Z a0 k x0 x1 h0 n0 v U'.heap L ∧ FrameEnd U o U' L ({ frames := 0, cells := 0, slots := 0, locals := 0 } : Room).cells ({ frames := 0, cells := 0, slots := 0, locals := 0 } : Room).slots) := by
  refine MetFree.of_bodySF (plainFor_of_name pnCd2) hisR ?_
  intro p e s m args below meth c s₁ Bd hml0 hP hK
  obtain ⟨rfl, hZ, hh⟩ := hP
  have hx := Bd.exec
  have hby := Bd.bytes
  have hlk := BodyLoose.notSynchronized Bd
  have hret := Bd.returns
  have hml : c.maxLocals = 2 := hml0
  have hown : s.vm.findClass "java/lang/StringUTF16" = some m.cls := findClass_of_methodNamed Bd.named
  have hnm := (name_of_methodNamed Bd.named Bd.method).1
  have X0 : Stand p l e ({ frames := 0, cells := 0, slots := 0, locals := 0 } : Room) s m #[(.ref a0), (.int (2 : Int32))] below meth c s₁ [] 0 0 := Stand.of_body Bd
  have e0 : s₁.heap = h0 := by rw [← hh, Bd.state]; rfl
  have N0 := Fr.nil n0
  show OFin p e below (KPost s (QCd2 Z a0 k x0 x1 h0 n0) ({ frames := 0, cells := 0, slots := 0, locals := 0 } : Room).cells ({ frames := 0, cells := 0, slots := 0, locals := 0 } : Room).slots) _
  rw [efCd2 m a0]
  refine OFin.of (S' := s₁.setTop (mkF m 2 #[.val (.ref a0), .val (.int (2 : Int32))] [(.ref a0), (.int (2 : Int32))])) (fun t ht => ?_) ?_
  · refine XS.iloadN X0.here hx rfl (hb hby dCd2_0) rfl ?_
    show Steps p.tables e below (s₁.setTop (mkF m 1 _ [(.int (2 : Int32))])) _
    refine XS.aloadN X0.here hx rfl (hb hby dCd2_1) rfl rfl ?_
    exact ht
  obtain ⟨cl1, Ar1, q1, S1, Ng1, H1, G1⟩ := id V1
  refine OFin.of (S' := s₁.setTop (mkF m 3 #[.val (.ref a0), .val (.int (2 : Int32))] [(.int (2 : Int32)), (.int (2 : Int32))])) (fun t ht => own_alen X0 hx hZ e0 Ar1 S1 Ng1 (g := (mkF m 2 #[.val (.ref a0), .val (.int (2 : Int32))] [(.ref a0), (.int (2 : Int32))])) rfl rfl (hb hby dCd2_2) ht) ?_
  refine OFin.of (S' := s₁.setTop (mkF m 8 #[.val (.ref a0), .val (.int (2 : Int32))] [(.int ((((0 : Int32).toUInt32 >>> ((31 : Int32) &&& 31).toUInt32).toInt32).toInt8.toInt32))])) (fun t ht => ?_) ?_
  · refine XS.isub X0.here hx rfl (hb hby dCd2_3) rfl ?_
    show Steps p.tables e below (s₁.setTop (mkF m 4 _ [(.int (0 : Int32))])) _
    refine XS.bipush X0.here hx rfl (hb hby dCd2_4) ?_
    show Steps p.tables e below (s₁.setTop (mkF m 6 _ [(.int (31 : Int32)), (.int (0 : Int32))])) _
    refine XS.iushr X0.here hx rfl (hb hby dCd2_6) rfl ?_
    show Steps p.tables e below (s₁.setTop (mkF m 7 _ [(.int (((0 : Int32).toUInt32 >>> ((31 : Int32) &&& 31).toUInt32).toInt32))])) _
    refine XS.i2b X0.here hx rfl (hb hby dCd2_7) rfl ?_
    exact ht
  exact OFin.retB X0 hx hlk (t := .byte) (by simp) hret (hb hby dCd2_8) (by decide) (by decide) (by rw [e0]; exact ⟨(by show some (Value.int (nar .byte ((((0 : Int32).toUInt32 >>> ((31 : Int32) &&& 31).toUInt32).toInt32).toInt8.toInt32))) = _; rfl), N0, rfl⟩)
theorem dSf2_0 : decode jdk_42_method_149_code 0 = .ok (.aload_n 0, 1) := by decide +kernel
theorem dSf2_1 : decode jdk_42_method_149_code 1 = .ok (.invokespecial 1, 3) := by decide +kernel
theorem dSf2_4 : decode jdk_42_method_149_code 4 = .ok (.iload_n 3, 1) := by decide +kernel
theorem dSf2_5 : decode jdk_42_method_149_code 5 = .ok (.ifCond .ne 22, 3) := by decide +kernel
theorem dSf2_27 : decode jdk_42_method_149_code 27 = .ok (.getstatic 38, 3) := by decide +kernel
theorem dSf2_30 : decode jdk_42_method_149_code 30 = .ok (.ifCond .eq 28, 3) := by decide +kernel
theorem dSf2_33 : decode jdk_42_method_149_code 33 = .ok (.aload_n 1, 1) := by decide +kernel
theorem dSf2_34 : decode jdk_42_method_149_code 34 = .ok (.iload_n 2, 1) := by decide +kernel
theorem dSf2_35 : decode jdk_42_method_149_code 35 = .ok (.iload_n 3, 1) := by decide +kernel
theorem dSf2_36 : decode jdk_42_method_149_code 36 = .ok (.invokestatic 177, 3) := by decide +kernel
theorem dSf2_39 : decode jdk_42_method_149_code 39 = .ok (.astore 5, 2) := by decide +kernel
theorem dSf2_41 : decode jdk_42_method_149_code 41 = .ok (.aload_n 0, 1) := by decide +kernel
theorem dSf2_42 : decode jdk_42_method_149_code 42 = .ok (.aload 5, 2) := by decide +kernel
theorem dSf2_44 : decode jdk_42_method_149_code 44 = .ok (.iload_n 3, 1) := by decide +kernel
theorem dSf2_45 : decode jdk_42_method_149_code 45 = .ok (.invokestatic 47, 3) := by decide +kernel
theorem dSf2_48 : decode jdk_42_method_149_code 48 = .ok (.putfield 15, 3) := by decide +kernel
theorem dSf2_51 : decode jdk_42_method_149_code 51 = .ok (.aload_n 0, 1) := by decide +kernel
theorem dSf2_52 : decode jdk_42_method_149_code 52 = .ok (.aload 5, 2) := by decide +kernel
theorem dSf2_54 : decode jdk_42_method_149_code 54 = .ok (.putfield 9, 3) := by decide +kernel
theorem dSf2_57 : decode jdk_42_method_149_code 57 = .ok (.return_, 1) := by decide +kernel
theorem pnSf2 : plainName "java/lang/String" = true := by first | (simp [plainName, overriddenIn]; done) | decide +kernel
theorem efSf2 (m : MethodId) (a0 : Addr) (a1 : Addr) : entryFrame m #[(.ref a0), (.ref a1), (.int (0 : Int32)), (.int (2 : Int32)), .null] 6 = mkF m 0 #[.val (.ref a0), .val (.ref a1), .val (.int (0 : Int32)), .val (.int (2 : Int32)), .val .null, .unset] [] := by first | (simp [entryFrame, mkF, argsToLocals, Value.category]; done) | rfl
def QSf2 (Z : State) (a0 : Addr) (a1 : Addr) (kc : ClassId) (cs : Int32) (c0 : Int32) (c1 : Int32) (h0 : Heap) (n0 : Nat) (v : Option Value) (h : Heap) (L : List Loc) : Prop := v = none ∧ Fr n0 L ∧ Keep h0 h [a0] ∧ Fld Z h a0 "java/lang/String" "coder" "B" (.int (0 : Int32)) ∧ Fld Z h a0 "java/lang/String" "value" "[B" (.ref h0.size) ∧ ∃ kb, Arv Z h h0.size kb .byte (2 : Int32) [(.int ((c0.toInt8.toInt32).toInt8.toInt32)), (.int ((c1.toInt8.toInt32).toInt8.toInt32))] (.int (0 : Int32))
set_option maxRecDepth 65536 in
set_option maxHeartbeats 40000000 in
theorem rmSf2 (l : Launch) (Z : State) (a0 : Array Value) (hw : ∀ d ∈ tables_1, d.before a0 Z = true) (ws : List Jvm.Cond) (a0 : Addr) (a1 : Addr) (kc : ClassId) (cs : Int32) (c0 : Int32) (c1 : Int32) (h0 : Heap) (n0 : Nat) (Z0 : n0 ≤ h0.size) (E0 : Exa Z h0 a0 "java/lang/String") (Fc : Fld Z h0 a0 "java/lang/String" "coder" "B" (.int (0 : Int32))) (Fv : Fld Z h0 a0 "java/lang/String" "value" "[B" .null) (V1 : Arv Z h0 a1 kc .char (2 : Int32) [(.int c0), (.int c1)] (.int (0 : Int32))) (g0 : n0 ≤ a0) (hne : a1 ≠ a0) (Scs : Sta Z h0 "java/lang/String" "COMPACT_STRINGS" "Z" (.int cs)) (hcs : ¬ cs = (0 : Int32)) (hp0 : ¬ (255 : Int32) < c0) (hp1 : ¬ (255 : Int32) < c1) :
    MetFree l (⟨"java/lang/String", "<init>", "([CIILjava/lang/Void;)V"⟩ : MethodName) (head1 (Jvm.Cond.code (⟨"java/lang/String", "<init>", "([CIILjava/lang/Void;)V"⟩ : MethodName) jdk_42_method_149_code 6 none :: ws) ({ frames := 2, cells := 1, slots := 2, locals := 35 } : Room)) (fun a U => a = #[(.ref a0), (.ref a1), (.int (0 : Int32)), (.int (2 : Int32)), .null] ∧ Z.Warmed39 U.vm ∧ U.heap = h0) (fun _ _ _ _ _ => True) (fun _ U o U' => ∃ v L, o = .returned v ∧ QSf2 Z a0 a1 kc cs c0 c1 h0 n0 v U'.heap L ∧ FrameEnd U o U' L ({ frames := 2, cells := 1, slots := 2, locals := 35 } : Room).cells ({ frames := 2, cells := 1, slots := 2, locals := 35 } : Room).slots) := by
  refine MetFree.of_bodySF (plainFor_of_name pnSf2) hisR ?_
  intro p e s m args below meth c s₁ Bd hml0 hP hK
  obtain ⟨rfl, hZ, hh⟩ := hP
  have hx := Bd.exec
  have hby := Bd.bytes
  have hlk := BodyLoose.notSynchronized Bd
  have hret := Bd.returns
  have hml : c.maxLocals = 6 := hml0
  have hown : s.vm.findClass "java/lang/String" = some m.cls := findClass_of_methodNamed Bd.named
  have hnm := (name_of_methodNamed Bd.named Bd.method).1
  have X0 : Stand p l e ({ frames := 2, cells := 1, slots := 2, locals := 35 } : Room) s m #[(.ref a0), (.ref a1), (.int (0 : Int32)), (.int (2 : Int32)), .null] below meth c s₁ [] 0 0 := Stand.of_body Bd
  have e0 : s₁.heap = h0 := by rw [← hh, Bd.state]; rfl
  have N0 := Fr.nil n0
  show OFin p e below (KPost s (QSf2 Z a0 a1 kc cs c0 c1 h0 n0) ({ frames := 2, cells := 1, slots := 2, locals := 35 } : Room).cells ({ frames := 2, cells := 1, slots := 2, locals := 35 } : Room).slots) _
  rw [efSf2 m a0 a1]
  have K0 : Keep h0 h0 [a0] := Keep.refl _ _
  refine OFin.of (S' := s₁.setTop (mkF m 1 #[.val (.ref a0), .val (.ref a1), .val (.int (0 : Int32)), .val (.int (2 : Int32)), .val .null, .unset] [(.ref a0)])) (fun t ht => ?_) ?_
  · refine XS.aloadN X0.here hx rfl (hb hby dSf2_0) rfl rfl ?_
    exact ht
  obtain ⟨T1, X1, e1, st1⟩ := initO X0 hx hZ hown (hw _ (List.mem_of_getElem? (i := 20) rfl)) (hw _ (List.mem_of_getElem? (i := 21) rfl)) (hw _ (List.mem_of_getElem? (i := 22) rfl)) e0 (g := (mkF m 1 #[.val (.ref a0), .val (.ref a1), .val (.int (0 : Int32)), .val (.int (2 : Int32)), .val .null, .unset] [(.ref a0)])) rfl (by rw [hml]; rfl) rfl (hb hby dSf2_1) (by decide) (W := 0) (by show 2 * 0 + _ ≤ _; exact Nat.le_of_eq rfl) (by decide)
  refine OFin.of (S' := T1.setTop (mkF m 4 #[.val (.ref a0), .val (.ref a1), .val (.int (0 : Int32)), .val (.int (2 : Int32)), .val .null, .unset] [])) (fun t ht => st1 t ht) ?_
  refine OFin.of (S' := T1.setTop (mkF m 27 #[.val (.ref a0), .val (.ref a1), .val (.int (0 : Int32)), .val (.int (2 : Int32)), .val .null, .unset] [])) (fun t ht => ?_) ?_
  · refine XS.iloadN X1.here hx rfl (hb hby dSf2_4) rfl ?_
    show Steps p.tables e below (T1.setTop (mkF m 5 _ [(.int (2 : Int32))])) _
    refine XS.ifYes X1.here hx rfl (pc0 := 5) (pc' := 27) rfl (hb hby dSf2_5) rfl ((if0 _ _).trans (feq (by decide : ¬ ((2 : Int32) = (0 : Int32)))).2) (by decide) (by decide) ?_
    exact ht
  obtain ⟨T2, X2, e2, st2⟩ := getS (host := "") X1 hx hZ hown (hw _ (List.mem_of_getElem? (i := 5) rfl)) Via.refl e1 Scs (g := (mkF m 27 #[.val (.ref a0), .val (.ref a1), .val (.int (0 : Int32)), .val (.int (2 : Int32)), .val .null, .unset] [])) rfl (hb hby dSf2_27)
  refine OFin.of (S' := T2.setTop (mkF m 30 #[.val (.ref a0), .val (.ref a1), .val (.int (0 : Int32)), .val (.int (2 : Int32)), .val .null, .unset] [(.int cs)])) (fun t ht => st2 t ht) ?_
  refine OFin.of (S' := T2.setTop (mkF m 36 #[.val (.ref a0), .val (.ref a1), .val (.int (0 : Int32)), .val (.int (2 : Int32)), .val .null, .unset] [(.int (2 : Int32)), (.int (0 : Int32)), (.ref a1)])) (fun t ht => ?_) ?_
  · refine XS.ifNo X2.here hx rfl (hb hby dSf2_30) rfl ((if0 _ _).trans (feq (hcs : ¬ (cs = (0 : Int32)))).1) ?_
    show Steps p.tables e below (T2.setTop (mkF m 33 _ [])) _
    refine XS.aloadN X2.here hx rfl (hb hby dSf2_33) rfl rfl ?_
    show Steps p.tables e below (T2.setTop (mkF m 34 _ [(.ref a1)])) _
    refine XS.iloadN X2.here hx rfl (hb hby dSf2_34) rfl ?_
    show Steps p.tables e below (T2.setTop (mkF m 35 _ [(.int (0 : Int32)), (.ref a1)])) _
    refine XS.iloadN X2.here hx rfl (hb hby dSf2_35) rfl ?_
    exact ht
  obtain ⟨_, _, ⟨T3, L3, k3, n3⟩, -, X3, ⟨Lc3, hQ3, l3, y3, z3⟩, st3⟩ := Jvm.LawKit.callS X2 hx (y := (⟨"java/lang/StringUTF16", "compress", "([CII)[B"⟩ : MethodName)) hown (mvT hZ (hw _ (List.mem_of_getElem? (i := 57) rfl))) (mvT hZ (hw _ (List.mem_of_getElem? (i := 58) rfl))) (mvT hZ (hw _ (List.mem_of_getElem? (i := 59) rfl))) (mvT hZ (hw _ (List.mem_of_getElem? (i := 60) rfl))) (by decide) (backOf (W := 0) (rmCt2 l Z _ hw [] a1 kc c0 c1 h0 n0 Z0 V1 hp0 hp1) hZ (hw _ (List.mem_of_getElem? (i := 60) rfl)) (hw _ (List.mem_of_getElem? (i := 59) rfl)) (by decide) (by decide)) (g := (mkF m 36 #[.val (.ref a0), .val (.ref a1), .val (.int (0 : Int32)), .val (.int (2 : Int32)), .val .null, .unset] [(.int (2 : Int32)), (.int (0 : Int32)), (.ref a1)])) rfl (by rw [hml]; rfl) (argsL := [(.ref a1), (.int (0 : Int32)), (.int (2 : Int32))]) (rest := []) (lenOf pd_5 rfl) rfl (by show 2 * 0 + _ ≤ _; exact Nat.le_of_eq rfl) (hb hby dSf2_36) (fun _ _ => ⟨rfl, e2, (by decide : 0 + 1 ≤ _), (by decide : 0 + 2 ≤ _)⟩)
  dsimp only [Pt.U, Pt.locs, Pt.cells, Pt.slots] at X3 l3 y3 z3 st3 hQ3
  subst l3 y3 z3
  obtain ⟨rfl, Nq3, Kq3, ⟨kb_3, f4⟩⟩ := hQ3
  have N5 := Fr.app N0 Nq3
  obtain ⟨b3, gq3⟩ : ∃ z, z = h0.size := ⟨_, rfl⟩
  rw [← gq3] at f4 st3
  have g6 : n0 ≤ b3 := (Nat.le_trans Z0 (Nat.le_of_eq gq3.symm))
  have sz7 : h0.size ≤ b3 := (Nat.le_trans K0.1 (Nat.le_of_eq gq3.symm))
  have ne8 : a0 ≠ b3 := (Nat.ne_of_lt (Nat.lt_of_lt_of_le E0.lt (Nat.le_of_eq gq3.symm)))
  have ne9 : a1 ≠ b3 := (Nat.ne_of_lt (Nat.lt_of_lt_of_le V1.lt (Nat.le_of_eq gq3.symm)))
  have f10 := (E0.keep Kq3)
  have f11 := (Fc.keep Kq3 nin0)
  have f12 := (Fv.keep Kq3 nin0)
  have f13 := (V1.keep Kq3 nin0)
  have f14 := (own_staKeep Scs Kq3 own_sn0)
  have Z15 : n0 ≤ T3.heap.size := (Nat.le_trans Z0 Kq3.1)
  have K16 : Keep h0 T3.heap [a0] := (K0.trans Kq3 all0)
  refine OFin.of (S' := T3.setTop (mkF m 39 #[.val (.ref a0), .val (.ref a1), .val (.int (0 : Int32)), .val (.int (2 : Int32)), .val .null, .unset] [(.ref b3)])) (fun t ht => st3 t ht) ?_
  refine OFin.of (S' := T3.setTop (mkF m 45 #[.val (.ref a0), .val (.ref a1), .val (.int (0 : Int32)), .val (.int (2 : Int32)), .val .null, .val (.ref b3)] [(.int (2 : Int32)), (.ref b3), (.ref a0)])) (fun t ht => ?_) ?_
  · refine XS.astore X3.here hx rfl (hb hby dSf2_39) rfl rfl (l' := #[.val (.ref a0), .val (.ref a1), .val (.int (0 : Int32)), .val (.int (2 : Int32)), .val .null, .val (.ref b3)]) rfl ?_
    show Steps p.tables e below (T3.setTop (mkF m 41 #[.val (.ref a0), .val (.ref a1), .val (.int (0 : Int32)), .val (.int (2 : Int32)), .val .null, .val (.ref b3)] [])) _
    refine XS.aloadN X3.here hx rfl (hb hby dSf2_41) rfl rfl ?_
    show Steps p.tables e below (T3.setTop (mkF m 42 _ [(.ref a0)])) _
    refine XS.aload X3.here hx rfl (hb hby dSf2_42) rfl rfl ?_
    show Steps p.tables e below (T3.setTop (mkF m 44 _ [(.ref b3), (.ref a0)])) _
    refine XS.iloadN X3.here hx rfl (hb hby dSf2_44) rfl ?_
    exact ht
  obtain ⟨_, _, ⟨T17, L17, k17, n17⟩, -, X17, ⟨Lc17, hQ17, l17, y17, z17⟩, st17⟩ := Jvm.LawKit.callS X3 hx (y := (⟨"java/lang/StringUTF16", "coderFromArrayLen", "([BI)B"⟩ : MethodName)) hown (mvT hZ (hw _ (List.mem_of_getElem? (i := 64) rfl))) (mvT hZ (hw _ (List.mem_of_getElem? (i := 65) rfl))) (mvT hZ (hw _ (List.mem_of_getElem? (i := 59) rfl))) (mvT hZ (hw _ (List.mem_of_getElem? (i := 66) rfl))) (by decide) (backOf (W := 1) (rmCd2 l Z _ hw [] b3 kb_3 ((c0.toInt8.toInt32).toInt8.toInt32) ((c1.toInt8.toInt32).toInt8.toInt32) T3.heap n0 Z15 f4) hZ (hw _ (List.mem_of_getElem? (i := 66) rfl)) (hw _ (List.mem_of_getElem? (i := 59) rfl)) (by decide) (by decide)) (g := (mkF m 45 #[.val (.ref a0), .val (.ref a1), .val (.int (0 : Int32)), .val (.int (2 : Int32)), .val .null, .val (.ref b3)] [(.int (2 : Int32)), (.ref b3), (.ref a0)])) rfl (by rw [hml]; rfl) (argsL := [(.ref b3), (.int (2 : Int32))]) (rest := [(.ref a0)]) (lenOf pd_6 rfl) rfl (by show 2 * 0 + _ ≤ _; exact Nat.le_of_eq rfl) (hb hby dSf2_45) (fun _ _ => ⟨rfl, (rfl : T3.heap = T3.heap), (by decide : 1 + 0 ≤ _), (by decide : 2 + 0 ≤ _)⟩)
  dsimp only [Pt.U, Pt.locs, Pt.cells, Pt.slots] at X17 l17 y17 z17 st17 hQ17
  subst l17 y17 z17
  obtain ⟨rfl, Nq17, hs17⟩ := hQ17
  have N18 := Fr.app N5 Nq17
  refine OFin.of (S' := T17.setTop (mkF m 48 #[.val (.ref a0), .val (.ref a1), .val (.int (0 : Int32)), .val (.int (2 : Int32)), .val .null, .val (.ref b3)] [(.int (0 : Int32)), (.ref a0)])) (fun t ht => st17 t ht) ?_
  obtain ⟨T19, h19, X19, e19, W19, st19⟩ := putFN X17 hx hZ hown (hw _ (List.mem_of_getElem? (i := 25) rfl)) Via.refl hs17 f11 f10 (Or.inr ⟨(hw _ (List.mem_of_getElem? (i := 26) rfl)), rfl, hnm⟩) (hw _ (List.mem_of_getElem? (i := 11) rfl)) (ty := .byte) (v' := (.int (0 : Int32))) (by decide) rfl rfl (g := (mkF m 48 #[.val (.ref a0), .val (.ref a1), .val (.int (0 : Int32)), .val (.int (2 : Int32)), .val .null, .val (.ref b3)] [(.int (0 : Int32)), (.ref a0)])) rfl rfl (hb hby dSf2_48)
  have f20 := (f10.wr W19)
  have f21 := (f12.other W19 (Or.inr (slot_ne (Or.inr (hw _ (List.mem_of_getElem? (i := 24) rfl))) (Or.inr (hw _ (List.mem_of_getElem? (i := 26) rfl))) (by decide) (t := (.array .byte)) (t' := .byte) (by decide) (by decide))))
  have f22 := (f13.other W19 hne)
  have f23 := (f14.wr W19)
  have f24 := (f4.other W19 (Ne.symm ne8))
  have Z25 : n0 ≤ h19.size := (Nat.le_trans Z15 (Keep.of_wr W19).1)
  have K26 : Keep h0 h19 [a0] := (K16.wr W19 (Or.inl (List.mem_of_getElem? (i := 0) rfl)))
  have N27 := Fr.snoc X19 N18 g0
  have f28 : Fld Z h19 a0 "java/lang/String" "coder" "B" (.int (0 : Int32)) := (f11.same W19)
  refine OFin.of (S' := T19.setTop (mkF m 51 #[.val (.ref a0), .val (.ref a1), .val (.int (0 : Int32)), .val (.int (2 : Int32)), .val .null, .val (.ref b3)] [])) (fun t ht => st19 t ht) ?_
  refine OFin.of (S' := T19.setTop (mkF m 54 #[.val (.ref a0), .val (.ref a1), .val (.int (0 : Int32)), .val (.int (2 : Int32)), .val .null, .val (.ref b3)] [(.ref b3), (.ref a0)])) (fun t ht => ?_) ?_
  · refine XS.aloadN X19.here hx rfl (hb hby dSf2_51) rfl rfl ?_
    show Steps p.tables e below (T19.setTop (mkF m 52 _ [(.ref a0)])) _
    refine XS.aload X19.here hx rfl (hb hby dSf2_52) rfl rfl ?_
    exact ht
  obtain ⟨T29, h29, X29, e29, W29, st29⟩ := putF X19 hx hZ hown (host := "") (Or.inl (hw _ (List.mem_of_getElem? (i := 23) rfl))) Via.refl e19 f21 f20 (Or.inr ⟨(hw _ (List.mem_of_getElem? (i := 24) rfl)), rfl, hnm⟩) (hw _ (List.mem_of_getElem? (i := 11) rfl)) (ty := (.array .byte)) (by decide) rfl rfl (g := (mkF m 54 #[.val (.ref a0), .val (.ref a1), .val (.int (0 : Int32)), .val (.int (2 : Int32)), .val .null, .val (.ref b3)] [(.ref b3), (.ref a0)])) rfl rfl (hb hby dSf2_54)
  have f30 := (f20.wr W29)
  have f31 := (f22.other W29 hne)
  have f32 := (f23.wr W29)
  have f33 := (f24.other W29 (Ne.symm ne8))
  have f34 := (f28.other W29 (Or.inr (slot_ne (Or.inr (hw _ (List.mem_of_getElem? (i := 26) rfl))) (Or.inr (hw _ (List.mem_of_getElem? (i := 24) rfl))) (by decide) (t := .byte) (t' := (.array .byte)) (by decide) (by decide))))
  have Z35 : n0 ≤ h29.size := (Nat.le_trans Z25 (Keep.of_wr W29).1)
  have K36 : Keep h0 h29 [a0] := (K26.wr W29 (Or.inl (List.mem_of_getElem? (i := 0) rfl)))
  have N37 := Fr.snoc X29 N27 g0
  have f38 : Fld Z h29 a0 "java/lang/String" "value" "[B" (.ref b3) := (f21.same W29)
  refine OFin.of (S' := T29.setTop (mkF m 57 #[.val (.ref a0), .val (.ref a1), .val (.int (0 : Int32)), .val (.int (2 : Int32)), .val .null, .val (.ref b3)] [])) (fun t ht => st29 t ht) ?_
  exact OFin.retV X29 hx hlk hret (hb hby dSf2_57) (by decide) (by decide) (by rw [e29]; exact ⟨rfl, N37, K36, f34, by rw [← gq3]; exact f38, kb_3, by rw [← gq3]; exact f33⟩)
theorem dSi2_0 : decode jdk_42_method_3_code 0 = .ok (.aload_n 0, 1) := by decide +kernel
theorem dSi2_1 : decode jdk_42_method_3_code 1 = .ok (.aload_n 1, 1) := by decide +kernel
theorem dSi2_2 : decode jdk_42_method_3_code 2 = .ok (.iconst 0, 1) := by decide +kernel
theorem dSi2_3 : decode jdk_42_method_3_code 3 = .ok (.aload_n 1, 1) := by decide +kernel
theorem dSi2_4 : decode jdk_42_method_3_code 4 = .ok (.arraylength, 1) := by decide +kernel
theorem dSi2_5 : decode jdk_42_method_3_code 5 = .ok (.aconst_null, 1) := by decide +kernel
theorem dSi2_6 : decode jdk_42_method_3_code 6 = .ok (.invokespecial 27, 3) := by decide +kernel
theorem dSi2_9 : decode jdk_42_method_3_code 9 = .ok (.return_, 1) := by decide +kernel
theorem pnSi2 : plainName "java/lang/String" = true := by first | (simp [plainName, overriddenIn]; done) | decide +kernel
theorem efSi2 (m : MethodId) (a0 : Addr) (a1 : Addr) : entryFrame m #[(.ref a0), (.ref a1)] 2 = mkF m 0 #[.val (.ref a0), .val (.ref a1)] [] := by first | (simp [entryFrame, mkF, argsToLocals, Value.category]; done) | rfl
def QSi2 (Z : State) (a0 : Addr) (a1 : Addr) (kc : ClassId) (cs : Int32) (c0 : Int32) (c1 : Int32) (h0 : Heap) (n0 : Nat) (v : Option Value) (h : Heap) (L : List Loc) : Prop := v = none ∧ Fr n0 L ∧ Keep h0 h [a0] ∧ Fld Z h a0 "java/lang/String" "coder" "B" (.int (0 : Int32)) ∧ Fld Z h a0 "java/lang/String" "value" "[B" (.ref h0.size) ∧ ∃ kb, Arv Z h h0.size kb .byte (2 : Int32) [(.int ((c0.toInt8.toInt32).toInt8.toInt32)), (.int ((c1.toInt8.toInt32).toInt8.toInt32))] (.int (0 : Int32))
set_option maxRecDepth 65536 in
set_option maxHeartbeats 40000000 in
theorem rmSi2 (l : Launch) (Z : State) (a0 : Array Value) (hw : ∀ d ∈ tables_1, d.before a0 Z = true) (ws : List Jvm.Cond) (a0 : Addr) (a1 : Addr) (kc : ClassId) (cs : Int32) (c0 : Int32) (c1 : Int32) (h0 : Heap) (n0 : Nat) (Z0 : n0 ≤ h0.size) (E0 : Exa Z h0 a0 "java/lang/String") (Fc : Fld Z h0 a0 "java/lang/String" "coder" "B" (.int (0 : Int32))) (Fv : Fld Z h0 a0 "java/lang/String" "value" "[B" .null) (V1 : Arv Z h0 a1 kc .char (2 : Int32) [(.int c0), (.int c1)] (.int (0 : Int32))) (g0 : n0 ≤ a0) (hne : a1 ≠ a0) (Scs : Sta Z h0 "java/lang/String" "COMPACT_STRINGS" "Z" (.int cs)) (hcs : ¬ cs = (0 : Int32)) (hp0 : ¬ (255 : Int32) < c0) (hp1 : ¬ (255 : Int32) < c1) :
    MetFree l (⟨"java/lang/String", "<init>", "([C)V"⟩ : MethodName) (head1 (Jvm.Cond.code (⟨"java/lang/String", "<init>", "([C)V"⟩ : MethodName) jdk_42_method_3_code 2 none :: ws) ({ frames := 3, cells := 1, slots := 2, locals := 52 } : Room)) (fun a U => a = #[(.ref a0), (.ref a1)] ∧ Z.Warmed39 U.vm ∧ U.heap = h0) (fun _ _ _ _ _ => True) (fun _ U o U' => ∃ v L, o = .returned v ∧ QSi2 Z a0 a1 kc cs c0 c1 h0 n0 v U'.heap L ∧ FrameEnd U o U' L ({ frames := 3, cells := 1, slots := 2, locals := 52 } : Room).cells ({ frames := 3, cells := 1, slots := 2, locals := 52 } : Room).slots) := by
  refine MetFree.of_bodySF (plainFor_of_name pnSi2) hisR ?_
  intro p e s m args below meth c s₁ Bd hml0 hP hK
  obtain ⟨rfl, hZ, hh⟩ := hP
  have hx := Bd.exec
  have hby := Bd.bytes
  have hlk := BodyLoose.notSynchronized Bd
  have hret := Bd.returns
  have hml : c.maxLocals = 2 := hml0
  have hown : s.vm.findClass "java/lang/String" = some m.cls := findClass_of_methodNamed Bd.named
  have hnm := (name_of_methodNamed Bd.named Bd.method).1
  have X0 : Stand p l e ({ frames := 3, cells := 1, slots := 2, locals := 52 } : Room) s m #[(.ref a0), (.ref a1)] below meth c s₁ [] 0 0 := Stand.of_body Bd
  have e0 : s₁.heap = h0 := by rw [← hh, Bd.state]; rfl
  have N0 := Fr.nil n0
  show OFin p e below (KPost s (QSi2 Z a0 a1 kc cs c0 c1 h0 n0) ({ frames := 3, cells := 1, slots := 2, locals := 52 } : Room).cells ({ frames := 3, cells := 1, slots := 2, locals := 52 } : Room).slots) _
  rw [efSi2 m a0 a1]
  have K0 : Keep h0 h0 [a0] := Keep.refl _ _
  refine OFin.of (S' := s₁.setTop (mkF m 4 #[.val (.ref a0), .val (.ref a1)] [(.ref a1), (.int (0 : Int32)), (.ref a1), (.ref a0)])) (fun t ht => ?_) ?_
  · refine XS.aloadN X0.here hx rfl (hb hby dSi2_0) rfl rfl ?_
    show Steps p.tables e below (s₁.setTop (mkF m 1 _ [(.ref a0)])) _
    refine XS.aloadN X0.here hx rfl (hb hby dSi2_1) rfl rfl ?_
    show Steps p.tables e below (s₁.setTop (mkF m 2 _ [(.ref a1), (.ref a0)])) _
    refine XS.iconst X0.here hx rfl (hb hby dSi2_2) ?_
    show Steps p.tables e below (s₁.setTop (mkF m 3 _ [(.int (0 : Int32)), (.ref a1), (.ref a0)])) _
    refine XS.aloadN X0.here hx rfl (hb hby dSi2_3) rfl rfl ?_
    exact ht
  obtain ⟨cl1, Ar1, q1, S1, Ng1, H1, G1⟩ := id V1
  refine OFin.of (S' := s₁.setTop (mkF m 5 #[.val (.ref a0), .val (.ref a1)] [(.int (2 : Int32)), (.int (0 : Int32)), (.ref a1), (.ref a0)])) (fun t ht => own_alen X0 hx hZ e0 Ar1 S1 Ng1 (g := (mkF m 4 #[.val (.ref a0), .val (.ref a1)] [(.ref a1), (.int (0 : Int32)), (.ref a1), (.ref a0)])) rfl rfl (hb hby dSi2_4) ht) ?_
  refine OFin.of (S' := s₁.setTop (mkF m 6 #[.val (.ref a0), .val (.ref a1)] [.null, (.int (2 : Int32)), (.int (0 : Int32)), (.ref a1), (.ref a0)])) (fun t ht => ?_) ?_
  · refine XS.aconstNull X0.here hx rfl (hb hby dSi2_5) ?_
    exact ht
  obtain ⟨_, _, ⟨T2, L2, k2, n2⟩, -, X2, ⟨Lc2, hQ2, l2, y2, z2⟩, st2⟩ := X0.specialBack hx (y := (⟨"java/lang/String", "<init>", "([CIILjava/lang/Void;)V"⟩ : MethodName)) rfl hown (mvT hZ (hw _ (List.mem_of_getElem? (i := 54) rfl))) (mvT hZ (hw _ (List.mem_of_getElem? (i := 55) rfl))) (mvT hZ (hw _ (List.mem_of_getElem? (i := 56) rfl))) (by decide) (backOf (W := 0) (rmSf2 l Z _ hw [] a0 a1 kc cs c0 c1 h0 n0 Z0 E0 Fc Fv V1 g0 hne Scs hcs hp0 hp1) hZ (hw _ (List.mem_of_getElem? (i := 56) rfl)) (hw _ (List.mem_of_getElem? (i := 3) rfl)) (by decide) (by decide)) (g := (mkF m 6 #[.val (.ref a0), .val (.ref a1)] [.null, (.int (2 : Int32)), (.int (0 : Int32)), (.ref a1), (.ref a0)])) rfl (by rw [hml]; rfl) (Steps.refl _) (a := a0) (argsL := [(.ref a1), (.int (0 : Int32)), (.int (2 : Int32)), .null]) (rest := []) (lenOf pd_7 rfl) rfl (by show 2 * 0 + _ ≤ _; exact Nat.le_of_eq rfl) (hb hby dSi2_6) (fun _ _ => ⟨rfl, e0, (by decide : 0 + 1 ≤ _), (by decide : 0 + 2 ≤ _)⟩)
  dsimp only [Pt.U, Pt.locs, Pt.cells, Pt.slots] at X2 l2 y2 z2 st2 hQ2
  subst l2 y2 z2
  obtain ⟨rfl, Nq2, Kq2, f3, f4, ⟨kb_2, f5⟩⟩ := hQ2
  have N6 := Fr.app N0 Nq2
  obtain ⟨b2, gq2⟩ : ∃ z, z = h0.size := ⟨_, rfl⟩
  rw [← gq2] at f4 f5
  have g7 : n0 ≤ b2 := (Nat.le_trans Z0 (Nat.le_of_eq gq2.symm))
  have sz8 : h0.size ≤ b2 := (Nat.le_trans K0.1 (Nat.le_of_eq gq2.symm))
  have ne9 : a0 ≠ b2 := (Nat.ne_of_lt (Nat.lt_of_lt_of_le E0.lt (Nat.le_of_eq gq2.symm)))
  have ne10 : a1 ≠ b2 := (Nat.ne_of_lt (Nat.lt_of_lt_of_le V1.lt (Nat.le_of_eq gq2.symm)))
  have f11 := (E0.keep Kq2)
  have f12 := (V1.keep Kq2 (ninS hne nin0))
  have f13 := (own_staKeep Scs Kq2 (own_snS E0 own_sn0))
  have Z14 : n0 ≤ T2.heap.size := (Nat.le_trans Z0 Kq2.1)
  have K15 : Keep h0 T2.heap [a0] := (K0.trans Kq2 (allS (Or.inl (List.mem_of_getElem? (i := 0) rfl)) all0))
  refine OFin.to (S' := T2.setTop (mkF m 9 #[.val (.ref a0), .val (.ref a1)] [])) st2 ?_
  exact OFin.retV X2 hx hlk hret (hb hby dSi2_9) (by decide) (by decide) (by exact ⟨rfl, N6, K15, f3, by rw [← gq2]; exact f4, kb_2, by rw [← gq2]; exact f5⟩)
theorem pn0 : plainName "com/example/querant/querant/measure/CaseVerdictAgreesPinLaw" = true := by first | (simp [plainName, overriddenIn]; done) | decide +kernel
theorem ef0 (m : MethodId) (p0 : Int32) (p1 : Int32) (p2 : Int32) (p3 : Int32) : entryFrame m #[(.int p0), (.int p1), (.int p2), (.int p3)] maxLocals = mkF m 0 #[.val (.int p0), .val (.int p1), .val (.int p2), .val (.int p3), .unset, .unset, .unset, .unset, .unset, .unset] [] := by first | (simp [entryFrame, mkF, argsToLocals, Value.category, maxLocals]; done) | rfl
def Q0 (Z : State) (p0 : Int32) (p1 : Int32) (p2 : Int32) (p3 : Int32) (cs : Int32) (h0 : Heap) (n0 : Nat) (v : Option Value) (h : Heap) (L : List Loc) : Prop := v = some (.int (1 : Int32)) ∧ Fr n0 L
set_option maxRecDepth 65536 in
set_option maxHeartbeats 40000000 in
theorem rm0 (l : Launch) (Z : State) (a0 : Array Value) (hw : ∀ d ∈ tables_1, d.before a0 Z = true) (ws : List Jvm.Cond) (p0 : Int32) (p1 : Int32) (p2 : Int32) (p3 : Int32) (cs : Int32) (h0 : Heap) (n0 : Nat) (Z0 : n0 ≤ h0.size) (Scs : Sta Z h0 "java/lang/String" "COMPACT_STRINGS" "Z" (.int cs)) (hcs : ¬ cs = (0 : Int32)) :
    MetFree l x (head1 (Jvm.Cond.code x code maxLocals ret :: ws) room_1) (fun a U => a = #[(.int p0), (.int p1), (.int p2), (.int p3)] ∧ Z.Warmed39 U.vm ∧ U.heap = h0) (fun _ _ _ _ _ => True) (fun _ U o U' => ∃ v L, o = .returned v ∧ Q0 Z p0 p1 p2 p3 cs h0 n0 v U'.heap L ∧ ReturnedEndW U o U' L room_1.cells room_1.slots) := by
  refine MetFree.of_bodySF (plainFor_of_name pn0) hisR ?_
  intro p e s m args below meth c s₁ Bd hml0 hP hK
  obtain ⟨rfl, hZ, hh⟩ := hP
  have hx := Bd.exec
  have hby := Bd.bytes
  have hlk := BodyLoose.notSynchronized Bd
  have hret := Bd.returns
  have hml : c.maxLocals = 10 := hml0
  have hown : s.vm.findClass "com/example/querant/querant/measure/CaseVerdictAgreesPinLaw" = some m.cls := findClass_of_methodNamed Bd.named
  have hnm := (name_of_methodNamed Bd.named Bd.method).1
  have X0 : Stand p l e room_1 s m #[(.int p0), (.int p1), (.int p2), (.int p3)] below meth c s₁ [] 0 0 := Stand.of_body Bd
  have e0 : s₁.heap = h0 := by rw [← hh, Bd.state]; rfl
  have N0 := Fr.nil n0
  show OFin p e below (KPostW s (Q0 Z p0 p1 p2 p3 cs h0 n0) room_1.cells room_1.slots) _
  rw [ef0 m p0 p1 p2 p3]
  refine OFin.of (S' := s₁.setTop (mkF m 3 #[.val (.int p0), .val (.int p1), .val (.int p2), .val (.int p3), .unset, .unset, .unset, .unset, .unset, .unset] [(.int (p0 &&& (1 : Int32)))])) (fun t ht => ?_) ?_
  · refine XS.iloadN X0.here hx rfl (hb hby at_0) rfl ?_
    show Steps p.tables e below (s₁.setTop (mkF m 1 _ [(.int p0)])) _
    refine XS.iconst X0.here hx rfl (hb hby at_1) ?_
    show Steps p.tables e below (s₁.setTop (mkF m 2 _ [(.int (1 : Int32)), (.int p0)])) _
    refine XS.iand X0.here hx rfl (hb hby at_2) rfl ?_
    exact ht
  by_cases hc1 : (p0 &&& (1 : Int32)) = (0 : Int32)
  · refine OFin.of (S' := s₁.setTop (mkF m 16 #[.val (.int p0), .val (.int p1), .val (.int p2), .val (.int p3), .val (.int (0 : Int32)), .unset, .unset, .unset, .unset, .unset] [(.int (p0 &&& (2 : Int32)))])) (fun t ht => ?_) ?_
    · refine XS.ifYes X0.here hx rfl (pc0 := 3) (pc' := 10) rfl (hb hby at_3) rfl ((if0 _ _).trans (teq (hc1 : (p0 &&& (1 : Int32)) = (0 : Int32))).1) (by decide) (by decide) ?_
      show Steps p.tables e below (s₁.setTop (mkF m 10 _ [])) _
      refine XS.iconst X0.here hx rfl (hb hby at_10) ?_
      show Steps p.tables e below (s₁.setTop (mkF m 11 _ [(.int (0 : Int32))])) _
      refine XS.istore X0.here hx rfl (hb hby at_11) rfl (l' := #[.val (.int p0), .val (.int p1), .val (.int p2), .val (.int p3), .val (.int (0 : Int32)), .unset, .unset, .unset, .unset, .unset]) rfl ?_
      show Steps p.tables e below (s₁.setTop (mkF m 13 #[.val (.int p0), .val (.int p1), .val (.int p2), .val (.int p3), .val (.int (0 : Int32)), .unset, .unset, .unset, .unset, .unset] [])) _
      refine XS.iloadN X0.here hx rfl (hb hby at_13) rfl ?_
      show Steps p.tables e below (s₁.setTop (mkF m 14 _ [(.int p0)])) _
      refine XS.iconst X0.here hx rfl (hb hby at_14) ?_
      show Steps p.tables e below (s₁.setTop (mkF m 15 _ [(.int (2 : Int32)), (.int p0)])) _
      refine XS.iand X0.here hx rfl (hb hby at_15) rfl ?_
      exact ht
    by_cases hc2 : (p0 &&& (2 : Int32)) = (0 : Int32)
    · refine OFin.of (S' := s₁.setTop (mkF m 27 #[.val (.int p0), .val (.int p1), .val (.int p2), .val (.int p3), .val (.int (0 : Int32)), .val (.int (0 : Int32)), .unset, .unset, .unset, .unset] [(.int (2 : Int32))])) (fun t ht => ?_) ?_
      · refine XS.ifYes X0.here hx rfl (pc0 := 16) (pc' := 23) rfl (hb hby at_16) rfl ((if0 _ _).trans (teq (hc2 : (p0 &&& (2 : Int32)) = (0 : Int32))).1) (by decide) (by decide) ?_
        show Steps p.tables e below (s₁.setTop (mkF m 23 _ [])) _
        refine XS.iconst X0.here hx rfl (hb hby at_23) ?_
        show Steps p.tables e below (s₁.setTop (mkF m 24 _ [(.int (0 : Int32))])) _
        refine XS.istore X0.here hx rfl (hb hby at_24) rfl (l' := #[.val (.int p0), .val (.int p1), .val (.int p2), .val (.int p3), .val (.int (0 : Int32)), .val (.int (0 : Int32)), .unset, .unset, .unset, .unset]) rfl ?_
        show Steps p.tables e below (s₁.setTop (mkF m 26 #[.val (.int p0), .val (.int p1), .val (.int p2), .val (.int p3), .val (.int (0 : Int32)), .val (.int (0 : Int32)), .unset, .unset, .unset, .unset] [])) _
        refine XS.iconst X0.here hx rfl (hb hby at_26) ?_
        exact ht
      obtain ⟨T3, h3, k3, X3, e3, E3, A3, st3⟩ := newP X0 hx hZ (hw _ (List.mem_of_getElem? (i := 0) rfl)) e0 (g := (mkF m 27 #[.val (.int p0), .val (.int p1), .val (.int p2), .val (.int p3), .val (.int (0 : Int32)), .val (.int (0 : Int32)), .unset, .unset, .unset, .unset] [(.int (2 : Int32))])) rfl (hb hby at_27) rfl (by decide) (cap := 2) (by decide) (by decide) (by decide) (by decide)
      obtain ⟨b3, gq3⟩ : ∃ z, z = h0.size := ⟨_, rfl⟩
      rw [← gq3] at A3 st3
      have g4 : n0 ≤ b3 := (Nat.le_trans Z0 (Nat.le_of_eq gq3.symm))
      have f5 := Scs.ext E3
      have Z6 : n0 ≤ h3.size := (Nat.le_trans Z0 E3.1)
      have f7 : Arv Z h3 b3 k3 .char (2 : Int32) [(.int (0 : Int32)), (.int (0 : Int32))] (.int (0 : Int32)) := ((Arv.new A3 (by decide)).pad (pad_rep [] (.int (0 : Int32)) 2))
      refine OFin.of (S' := T3.setTop (mkF m 29 #[.val (.int p0), .val (.int p1), .val (.int p2), .val (.int p3), .val (.int (0 : Int32)), .val (.int (0 : Int32)), .unset, .unset, .unset, .unset] [(.ref b3)])) (fun t ht => st3 t ht) ?_
      refine OFin.of (S' := T3.setTop (mkF m 40 #[.val (.int p0), .val (.int p1), .val (.int p2), .val (.int p3), .val (.int (0 : Int32)), .val (.int (0 : Int32)), .val (.ref b3), .unset, .unset, .unset] [(.int ((p1 &&& (255 : Int32)).toUInt32.toUInt16.toUInt32.toInt32)), (.int (0 : Int32)), (.ref b3)])) (fun t ht => ?_) ?_
      · refine XS.astore X3.here hx rfl (hb hby at_29) rfl rfl (l' := #[.val (.int p0), .val (.int p1), .val (.int p2), .val (.int p3), .val (.int (0 : Int32)), .val (.int (0 : Int32)), .val (.ref b3), .unset, .unset, .unset]) rfl ?_
        show Steps p.tables e below (T3.setTop (mkF m 31 #[.val (.int p0), .val (.int p1), .val (.int p2), .val (.int p3), .val (.int (0 : Int32)), .val (.int (0 : Int32)), .val (.ref b3), .unset, .unset, .unset] [])) _
        refine XS.aload X3.here hx rfl (hb hby at_31) rfl rfl ?_
        show Steps p.tables e below (T3.setTop (mkF m 33 _ [(.ref b3)])) _
        refine XS.iconst X3.here hx rfl (hb hby at_33) ?_
        show Steps p.tables e below (T3.setTop (mkF m 34 _ [(.int (0 : Int32)), (.ref b3)])) _
        refine XS.iloadN X3.here hx rfl (hb hby at_34) rfl ?_
        show Steps p.tables e below (T3.setTop (mkF m 35 _ [(.int p1), (.int (0 : Int32)), (.ref b3)])) _
        refine XS.sipush X3.here hx rfl (hb hby at_35) ?_
        show Steps p.tables e below (T3.setTop (mkF m 38 _ [(.int (255 : Int32)), (.int p1), (.int (0 : Int32)), (.ref b3)])) _
        refine XS.iand X3.here hx rfl (hb hby at_38) rfl ?_
        show Steps p.tables e below (T3.setTop (mkF m 39 _ [(.int (p1 &&& (255 : Int32))), (.int (0 : Int32)), (.ref b3)])) _
        refine XS.i2c X3.here hx rfl (hb hby at_39) rfl ?_
        exact ht
      obtain ⟨cl8, Ar8, q8, S8, Ng8, H8, G8⟩ := id f7
      have hin8 := inb_of (j := (0 : Int32)) S8 ⟨by decide, by decide⟩
      obtain ⟨T8, h8, X8, e8, W8, st8⟩ := stC X3 hx hZ e3 Ar8 (j := (0 : Int32)) hin8 (g := (mkF m 40 #[.val (.int p0), .val (.int p1), .val (.int p2), .val (.int p3), .val (.int (0 : Int32)), .val (.int (0 : Int32)), .val (.ref b3), .unset, .unset, .unset] [(.int ((p1 &&& (255 : Int32)).toUInt32.toUInt16.toUInt32.toInt32)), (.int (0 : Int32)), (.ref b3)])) rfl rfl (hb hby at_40)
      have f9 := (f5.wr W8)
      have Z10 : n0 ≤ h8.size := (Nat.le_trans Z6 (Keep.of_wr W8).1)
      have N11 := Fr.snoc X8 N0 g4
      have f12 : Arv Z h8 b3 k3 .char (2 : Int32) [(.int (nar .char ((p1 &&& (255 : Int32)).toUInt32.toUInt16.toUInt32.toInt32))), (.int (0 : Int32))] (.int (0 : Int32)) := Arv.set Ar8 q8 S8 Ng8 H8 G8 (fits_nar_char _) W8 0 rfl (Nat.le_of_ble_eq_true rfl)
      refine OFin.of (S' := T8.setTop (mkF m 41 #[.val (.int p0), .val (.int p1), .val (.int p2), .val (.int p3), .val (.int (0 : Int32)), .val (.int (0 : Int32)), .val (.ref b3), .unset, .unset, .unset] [])) (fun t ht => st8 t ht) ?_
      refine OFin.of (S' := T8.setTop (mkF m 50 #[.val (.int p0), .val (.int p1), .val (.int p2), .val (.int p3), .val (.int (0 : Int32)), .val (.int (0 : Int32)), .val (.ref b3), .unset, .unset, .unset] [(.int ((p2 &&& (255 : Int32)).toUInt32.toUInt16.toUInt32.toInt32)), (.int (1 : Int32)), (.ref b3)])) (fun t ht => ?_) ?_
      · refine XS.aload X8.here hx rfl (hb hby at_41) rfl rfl ?_
        show Steps p.tables e below (T8.setTop (mkF m 43 _ [(.ref b3)])) _
        refine XS.iconst X8.here hx rfl (hb hby at_43) ?_
        show Steps p.tables e below (T8.setTop (mkF m 44 _ [(.int (1 : Int32)), (.ref b3)])) _
        refine XS.iloadN X8.here hx rfl (hb hby at_44) rfl ?_
        show Steps p.tables e below (T8.setTop (mkF m 45 _ [(.int p2), (.int (1 : Int32)), (.ref b3)])) _
        refine XS.sipush X8.here hx rfl (hb hby at_45) ?_
        show Steps p.tables e below (T8.setTop (mkF m 48 _ [(.int (255 : Int32)), (.int p2), (.int (1 : Int32)), (.ref b3)])) _
        refine XS.iand X8.here hx rfl (hb hby at_48) rfl ?_
        show Steps p.tables e below (T8.setTop (mkF m 49 _ [(.int (p2 &&& (255 : Int32))), (.int (1 : Int32)), (.ref b3)])) _
        refine XS.i2c X8.here hx rfl (hb hby at_49) rfl ?_
        exact ht
      obtain ⟨cl13, Ar13, q13, S13, Ng13, H13, G13⟩ := id f12
      have hin13 := inb_of (j := (1 : Int32)) S13 ⟨by decide, by decide⟩
      obtain ⟨T13, h13, X13, e13, W13, st13⟩ := stC X8 hx hZ e8 Ar13 (j := (1 : Int32)) hin13 (g := (mkF m 50 #[.val (.int p0), .val (.int p1), .val (.int p2), .val (.int p3), .val (.int (0 : Int32)), .val (.int (0 : Int32)), .val (.ref b3), .unset, .unset, .unset] [(.int ((p2 &&& (255 : Int32)).toUInt32.toUInt16.toUInt32.toInt32)), (.int (1 : Int32)), (.ref b3)])) rfl rfl (hb hby at_50)
      have f14 := (f9.wr W13)
      have Z15 : n0 ≤ h13.size := (Nat.le_trans Z10 (Keep.of_wr W13).1)
      have N16 := Fr.snoc X13 N11 g4
      have f17 : Arv Z h13 b3 k3 .char (2 : Int32) [(.int (nar .char ((p1 &&& (255 : Int32)).toUInt32.toUInt16.toUInt32.toInt32))), (.int (nar .char ((p2 &&& (255 : Int32)).toUInt32.toUInt16.toUInt32.toInt32)))] (.int (0 : Int32)) := Arv.set Ar13 q13 S13 Ng13 H13 G13 (fits_nar_char _) W13 1 rfl (Nat.le_of_ble_eq_true rfl)
      refine OFin.of (S' := T13.setTop (mkF m 51 #[.val (.int p0), .val (.int p1), .val (.int p2), .val (.int p3), .val (.int (0 : Int32)), .val (.int (0 : Int32)), .val (.ref b3), .unset, .unset, .unset] [])) (fun t ht => st13 t ht) ?_
      refine OFin.of (S' := T13.setTop (mkF m 54 #[.val (.int p0), .val (.int p1), .val (.int p2), .val (.int p3), .val (.int (0 : Int32)), .val (.int (0 : Int32)), .val (.ref b3), .unset, .unset, .unset] [(.int (p3 &&& (3 : Int32)))])) (fun t ht => ?_) ?_
      · refine XS.iloadN X13.here hx rfl (hb hby at_51) rfl ?_
        show Steps p.tables e below (T13.setTop (mkF m 52 _ [(.int p3)])) _
        refine XS.iconst X13.here hx rfl (hb hby at_52) ?_
        show Steps p.tables e below (T13.setTop (mkF m 53 _ [(.int (3 : Int32)), (.int p3)])) _
        refine XS.iand X13.here hx rfl (hb hby at_53) rfl ?_
        exact ht
      by_cases hc18 : (p3 &&& (3 : Int32)) = (0 : Int32)
      · refine OFin.of (S' := T13.setTop (mkF m 57 #[.val (.int p0), .val (.int p1), .val (.int p2), .val (.int p3), .val (.int (0 : Int32)), .val (.int (0 : Int32)), .val (.ref b3), .unset, .unset, .unset] [])) (fun t ht => ?_) ?_
        · refine XS.ifNo X13.here hx rfl (hb hby at_54) rfl ((if0 _ _).trans (teq (hc18 : (p3 &&& (3 : Int32)) = (0 : Int32))).2) ?_
          exact ht
        obtain ⟨a19, T19, h19, k19, X19, e19, E19, S19, K19, hZ19, hown19, st19⟩ := ldcS (s := s) (vm0 := s.vm) X13 hx hZ hown (hw _ (List.mem_of_getElem? (i := 67) rfl)) (own_strAtoms hw) e13 ((State.WarmedH.refl s).since h13.size) (Nat.le_refl _) (g := (mkF m 57 #[.val (.int p0), .val (.int p1), .val (.int p2), .val (.int p3), .val (.int (0 : Int32)), .val (.int (0 : Int32)), .val (.ref b3), .unset, .unset, .unset] [])) rfl (hb hby at_57) (n := 0) (by decide) (by decide) (by decide) (by decide)
        have f20 := f14.ext E19
        have f21 := f17.ext E19
        have Z22 : n0 ≤ h19.size := (Nat.le_trans Z15 E19.1)
        refine OFin.of (S' := T19.setTop (mkF m 59 #[.val (.int p0), .val (.int p1), .val (.int p2), .val (.int p3), .val (.int (0 : Int32)), .val (.int (0 : Int32)), .val (.ref b3), .unset, .unset, .unset] [(.ref a19)])) (fun t ht => st19 t ht) ?_
        refine OFin.of (S' := T19.setTop (mkF m 94 #[.val (.int p0), .val (.int p1), .val (.int p2), .val (.int p3), .val (.int (0 : Int32)), .val (.int (0 : Int32)), .val (.ref b3), .val (.ref a19), .unset, .unset] [])) (fun t ht => ?_) ?_
        · refine XS.astore X19.here hx rfl (hb hby at_59) rfl rfl (l' := #[.val (.int p0), .val (.int p1), .val (.int p2), .val (.int p3), .val (.int (0 : Int32)), .val (.int (0 : Int32)), .val (.ref b3), .val (.ref a19), .unset, .unset]) rfl ?_
          show Steps p.tables e below (T19.setTop (mkF m 61 #[.val (.int p0), .val (.int p1), .val (.int p2), .val (.int p3), .val (.int (0 : Int32)), .val (.int (0 : Int32)), .val (.ref b3), .val (.ref a19), .unset, .unset] [])) _
          refine XS.goto X19.here hx rfl (pc0 := 61) (pc' := 94) rfl (hb hby at_61) (by decide) (by decide) ?_
          exact ht
        obtain ⟨T23, h23, X23, e23, E23, A23, D23, -, st23⟩ := newO X19 hx hZ19 hown19 (hw _ (List.mem_of_getElem? (i := 27) rfl)) (hw _ (List.mem_of_getElem? (i := 28) rfl)) (hw _ (List.mem_of_getElem? (i := 29) rfl)) e19 (g := (mkF m 94 #[.val (.int p0), .val (.int p1), .val (.int p2), .val (.int p3), .val (.int (0 : Int32)), .val (.int (0 : Int32)), .val (.ref b3), .val (.ref a19), .unset, .unset] [])) rfl (hb hby at_94) (by decide) (by decide)
        obtain ⟨b23, gq23⟩ : ∃ z, z = h19.size := ⟨_, rfl⟩
        rw [← gq23] at A23 D23 st23
        have g24 : n0 ≤ b23 := (Nat.le_trans Z22 (Nat.le_of_eq gq23.symm))
        have ne25 : b3 ≠ b23 := (Nat.ne_of_lt (Nat.lt_of_lt_of_le f21.lt (Nat.le_of_eq gq23.symm)))
        have f26 := f20.ext E23
        have f27 := f21.ext E23
        have Z28 : n0 ≤ h23.size := (Nat.le_trans Z22 E23.1)
        have kk29 : k19 ≤ h23.size := (Nat.le_trans K19 E23.1)
        have f30 : Fld Z h23 b23 "com/example/querant/querant/measure/CaseVerdict" "evaluationAgrees" "Z" (.int (0 : Int32)) := D23 (Or.inr (hw _ (List.mem_of_getElem? (i := 40) rfl))) (ty := .boolean) (by decide)
        have f31 : Fld Z h23 b23 "com/example/querant/querant/measure/CaseVerdict" "forecastAgrees" "Z" (.int (0 : Int32)) := D23 (Or.inr (hw _ (List.mem_of_getElem? (i := 42) rfl))) (ty := .boolean) (by decide)
        have f32 : Fld Z h23 b23 "com/example/querant/querant/measure/CaseVerdict" "difference" "Ljava/lang/String;" .null := D23 (Or.inr (hw _ (List.mem_of_getElem? (i := 44) rfl))) (ty := (.object "java/lang/String")) (by decide)
        refine OFin.of (S' := T23.setTop (mkF m 97 #[.val (.int p0), .val (.int p1), .val (.int p2), .val (.int p3), .val (.int (0 : Int32)), .val (.int (0 : Int32)), .val (.ref b3), .val (.ref a19), .unset, .unset] [(.ref b23)])) (fun t ht => st23 t ht) ?_
        refine OFin.of (S' := T23.setTop (mkF m 104 #[.val (.int p0), .val (.int p1), .val (.int p2), .val (.int p3), .val (.int (0 : Int32)), .val (.int (0 : Int32)), .val (.ref b3), .val (.ref a19), .unset, .unset] [(.ref a19), (.int (0 : Int32)), (.int (0 : Int32)), (.ref b23), (.ref b23)])) (fun t ht => ?_) ?_
        · refine XS.dup X23.here hx rfl (hb hby at_97) rfl rfl ?_
          show Steps p.tables e below (T23.setTop (mkF m 98 _ [(.ref b23), (.ref b23)])) _
          refine XS.iload X23.here hx rfl (hb hby at_98) rfl ?_
          show Steps p.tables e below (T23.setTop (mkF m 100 _ [(.int (0 : Int32)), (.ref b23), (.ref b23)])) _
          refine XS.iload X23.here hx rfl (hb hby at_100) rfl ?_
          show Steps p.tables e below (T23.setTop (mkF m 102 _ [(.int (0 : Int32)), (.int (0 : Int32)), (.ref b23), (.ref b23)])) _
          refine XS.aload X23.here hx rfl (hb hby at_102) rfl rfl ?_
          exact ht
        obtain ⟨_, _, ⟨T33, L33, k33, n33⟩, -, X33, ⟨Lc33, hQ33, l33, y33, z33⟩, st33⟩ := X23.specialBack hx (y := (⟨"com/example/querant/querant/measure/CaseVerdict", "<init>", "(ZZLjava/lang/String;)V"⟩ : MethodName)) rfl hown19 (mvT hZ19 (hw _ (List.mem_of_getElem? (i := 30) rfl))) (mvT hZ19 (hw _ (List.mem_of_getElem? (i := 31) rfl))) (mvT hZ19 (hw _ (List.mem_of_getElem? (i := 32) rfl))) (by decide) (backOf (W := 1) (rmIni00 l Z _ hw [] b23 a19 h23 n0 Z28 A23 f30 f31 f32 g24) hZ19 (hw _ (List.mem_of_getElem? (i := 32) rfl)) (hw _ (List.mem_of_getElem? (i := 29) rfl)) (by decide) (by decide)) (g := (mkF m 104 #[.val (.int p0), .val (.int p1), .val (.int p2), .val (.int p3), .val (.int (0 : Int32)), .val (.int (0 : Int32)), .val (.ref b3), .val (.ref a19), .unset, .unset] [(.ref a19), (.int (0 : Int32)), (.int (0 : Int32)), (.ref b23), (.ref b23)])) rfl (by rw [hml]; rfl) (Steps.refl _) (a := b23) (argsL := [(.int (0 : Int32)), (.int (0 : Int32)), (.ref a19)]) (rest := [(.ref b23)]) (lenOf pd_8 rfl) rfl (by show 2 * 0 + _ ≤ _; exact Nat.le_of_eq rfl) (hb hby at_104) (fun _ _ => ⟨rfl, e23, (by decide : 4 + 0 ≤ _), (by decide : 9 + 0 ≤ _)⟩)
        dsimp only [Pt.U, Pt.locs, Pt.cells, Pt.slots] at X33 l33 y33 z33 st33 hQ33
        subst l33 y33 z33
        obtain ⟨rfl, Nq33, Kq33, f34, f35, f36⟩ := hQ33
        have N37 := Fr.app N16 Nq33
        have f38 := (own_staKeep f26 Kq33 (own_snS A23 own_sn0))
        have f39 := (f27.keep Kq33 (ninS ne25 nin0))
        have f40 := (A23.keep Kq33)
        have Z41 : n0 ≤ T33.heap.size := (Nat.le_trans Z28 Kq33.1)
        have kk42 : k19 ≤ T33.heap.size := (Nat.le_trans kk29 Kq33.1)
        refine OFin.to (S' := T33.setTop (mkF m 107 #[.val (.int p0), .val (.int p1), .val (.int p2), .val (.int p3), .val (.int (0 : Int32)), .val (.int (0 : Int32)), .val (.ref b3), .val (.ref a19), .unset, .unset] [(.ref b23)])) st33 ?_
        refine OFin.of (S' := T33.setTop (mkF m 136 #[.val (.int p0), .val (.int p1), .val (.int p2), .val (.int p3), .val (.int (0 : Int32)), .val (.int (0 : Int32)), .val (.ref b3), .val (.ref a19), .val (.ref b23), .val (.int (0 : Int32))] [(.ref b23)])) (fun t ht => ?_) ?_
        · refine XS.astore X33.here hx rfl (hb hby at_107) rfl rfl (l' := #[.val (.int p0), .val (.int p1), .val (.int p2), .val (.int p3), .val (.int (0 : Int32)), .val (.int (0 : Int32)), .val (.ref b3), .val (.ref a19), .val (.ref b23), .unset]) rfl ?_
          show Steps p.tables e below (T33.setTop (mkF m 109 #[.val (.int p0), .val (.int p1), .val (.int p2), .val (.int p3), .val (.int (0 : Int32)), .val (.int (0 : Int32)), .val (.ref b3), .val (.ref a19), .val (.ref b23), .unset] [])) _
          refine XS.iload X33.here hx rfl (hb hby at_109) rfl ?_
          show Steps p.tables e below (T33.setTop (mkF m 111 _ [(.int (0 : Int32))])) _
          refine XS.ifYes X33.here hx rfl (pc0 := 111) (pc' := 131) rfl (hb hby at_111) rfl ((if0 _ _).trans (teq (by decide : (0 : Int32) = (0 : Int32))).1) (by decide) (by decide) ?_
          show Steps p.tables e below (T33.setTop (mkF m 131 _ [])) _
          refine XS.iconst X33.here hx rfl (hb hby at_131) ?_
          show Steps p.tables e below (T33.setTop (mkF m 132 _ [(.int (0 : Int32))])) _
          refine XS.istore X33.here hx rfl (hb hby at_132) rfl (l' := #[.val (.int p0), .val (.int p1), .val (.int p2), .val (.int p3), .val (.int (0 : Int32)), .val (.int (0 : Int32)), .val (.ref b3), .val (.ref a19), .val (.ref b23), .val (.int (0 : Int32))]) rfl ?_
          show Steps p.tables e below (T33.setTop (mkF m 134 #[.val (.int p0), .val (.int p1), .val (.int p2), .val (.int p3), .val (.int (0 : Int32)), .val (.int (0 : Int32)), .val (.ref b3), .val (.ref a19), .val (.ref b23), .val (.int (0 : Int32))] [])) _
          refine XS.aload X33.here hx rfl (hb hby at_134) rfl rfl ?_
          exact ht
        obtain ⟨cq44, kq44, q44a, q44b, q44c⟩ := isOf hZ19 (rfl : T33.heap = T33.heap) f40
        obtain ⟨_, _, ⟨T43, L43, k43, n43⟩, -, X43, ⟨Lc43, hQ43, l43, y43, z43⟩, st43⟩ := X33.virtualBack hx (y := (⟨"com/example/querant/querant/measure/CaseVerdict", "agrees", "()Z"⟩ : MethodName)) (z := (⟨"com/example/querant/querant/measure/CaseVerdict", "agrees", "()Z"⟩ : MethodName)) hown19 (mvT hZ19 (hw _ (List.mem_of_getElem? (i := 45) rfl))) (mvT hZ19 (hw _ (List.mem_of_getElem? (i := 46) rfl))) (notFace_of_selects (args := #[]) (mvT hZ19 (hw _ (List.mem_of_getElem? (i := 48) rfl)))) (mvT hZ19 (hw _ (List.mem_of_getElem? (i := 48) rfl))) (mvT hZ19 (hw _ (List.mem_of_getElem? (i := 47) rfl))) (by decide) (backOf (W := 0) (rmAg00 l Z _ hw [] b23 T33.heap n0 Z41 f34 f35) hZ19 (hw _ (List.mem_of_getElem? (i := 49) rfl)) (hw _ (List.mem_of_getElem? (i := 29) rfl)) (by decide) (by decide)) q44a q44c (g := (mkF m 136 #[.val (.int p0), .val (.int p1), .val (.int p2), .val (.int p3), .val (.int (0 : Int32)), .val (.int (0 : Int32)), .val (.ref b3), .val (.ref a19), .val (.ref b23), .val (.int (0 : Int32))] [(.ref b23)])) rfl (by rw [hml]; rfl) (Steps.refl _) (argsL := []) (rest := []) (lenOf pd_9 rfl) rfl (by show 2 * 0 + _ ≤ _; exact Nat.le_of_eq rfl) (hb hby at_136) (fun _ _ => ⟨rfl, (rfl : T33.heap = T33.heap), (by decide : 4 + 0 ≤ _), (by decide : 9 + 0 ≤ _)⟩)
        dsimp only [Pt.U, Pt.locs, Pt.cells, Pt.slots] at X43 l43 y43 z43 st43 hQ43
        subst l43 y43 z43
        obtain ⟨rfl, Nq43, hs43⟩ := hQ43
        have N45 := Fr.app N37 Nq43
        refine OFin.to (S' := T43.setTop (mkF m 139 #[.val (.int p0), .val (.int p1), .val (.int p2), .val (.int p3), .val (.int (0 : Int32)), .val (.int (0 : Int32)), .val (.ref b3), .val (.ref a19), .val (.ref b23), .val (.int (0 : Int32))] [(.int (0 : Int32))])) st43 ?_
        refine OFin.of (S' := T43.setTop (mkF m 149 #[.val (.int p0), .val (.int p1), .val (.int p2), .val (.int p3), .val (.int (0 : Int32)), .val (.int (0 : Int32)), .val (.ref b3), .val (.ref a19), .val (.ref b23), .val (.int (0 : Int32))] [(.int (1 : Int32))])) (fun t ht => ?_) ?_
        · refine XS.iload X43.here hx rfl (hb hby at_139) rfl ?_
          show Steps p.tables e below (T43.setTop (mkF m 141 _ [(.int (0 : Int32)), (.int (0 : Int32))])) _
          refine XS.icmpNo X43.here hx rfl (hb hby at_141) rfl (teq (by decide : (0 : Int32) = (0 : Int32))).2 ?_
          show Steps p.tables e below (T43.setTop (mkF m 144 _ [])) _
          refine XS.iconst X43.here hx rfl (hb hby at_144) ?_
          show Steps p.tables e below (T43.setTop (mkF m 145 _ [(.int (1 : Int32))])) _
          refine XS.goto X43.here hx rfl (pc0 := 145) (pc' := 149) rfl (hb hby at_145) (by decide) (by decide) ?_
          exact ht
        exact OFin.retBW (s := s) (vm₁ := T19.vm) X43 S19 (by rw [hs43]; exact kk42) hx hlk (t := .boolean) (by simp) hret (hb hby at_149) (by decide) (by decide) (by rw [hs43]; exact ⟨rfl, N45⟩)
      · refine OFin.of (S' := T13.setTop (mkF m 68 #[.val (.int p0), .val (.int p1), .val (.int p2), .val (.int p3), .val (.int (0 : Int32)), .val (.int (0 : Int32)), .val (.ref b3), .unset, .unset, .unset] [(.int (1 : Int32)), (.int (p3 &&& (3 : Int32)))])) (fun t ht => ?_) ?_
        · refine XS.ifYes X13.here hx rfl (pc0 := 54) (pc' := 64) rfl (hb hby at_54) rfl ((if0 _ _).trans (feq (hc18 : ¬ ((p3 &&& (3 : Int32)) = (0 : Int32)))).2) (by decide) (by decide) ?_
          show Steps p.tables e below (T13.setTop (mkF m 64 _ [])) _
          refine XS.iloadN X13.here hx rfl (hb hby at_64) rfl ?_
          show Steps p.tables e below (T13.setTop (mkF m 65 _ [(.int p3)])) _
          refine XS.iconst X13.here hx rfl (hb hby at_65) ?_
          show Steps p.tables e below (T13.setTop (mkF m 66 _ [(.int (3 : Int32)), (.int p3)])) _
          refine XS.iand X13.here hx rfl (hb hby at_66) rfl ?_
          show Steps p.tables e below (T13.setTop (mkF m 67 _ [(.int (p3 &&& (3 : Int32)))])) _
          refine XS.iconst X13.here hx rfl (hb hby at_67) ?_
          exact ht
        by_cases hc46 : (p3 &&& (3 : Int32)) = (1 : Int32)
        · refine OFin.of (S' := T13.setTop (mkF m 74 #[.val (.int p0), .val (.int p1), .val (.int p2), .val (.int p3), .val (.int (0 : Int32)), .val (.int (0 : Int32)), .val (.ref b3), .unset, .unset, .unset] [(.int (0 : Int32)), (.ref b3)])) (fun t ht => ?_) ?_
          · refine XS.icmpNo X13.here hx rfl (hb hby at_68) rfl (teq (hc46 : (p3 &&& (3 : Int32)) = (1 : Int32))).2 ?_
            show Steps p.tables e below (T13.setTop (mkF m 71 _ [])) _
            refine XS.aload X13.here hx rfl (hb hby at_71) rfl rfl ?_
            show Steps p.tables e below (T13.setTop (mkF m 73 _ [(.ref b3)])) _
            refine XS.iconst X13.here hx rfl (hb hby at_73) ?_
            exact ht
          obtain ⟨cl47, Ar47, q47, S47, Ng47, H47, G47⟩ := id f17
          have hin47 := inb_of (j := (0 : Int32)) S47 ⟨by decide, by decide⟩
          have hat47 : cl47.slots[((0 : Int32)).toNatClampNeg]? = some (.int (nar .char ((p1 &&& (255 : Int32)).toUInt32.toUInt16.toUInt32.toInt32))) := Has.at H47 hin47 rfl
          refine OFin.of (S' := T13.setTop (mkF m 75 #[.val (.int p0), .val (.int p1), .val (.int p2), .val (.int p3), .val (.int (0 : Int32)), .val (.int (0 : Int32)), .val (.ref b3), .unset, .unset, .unset] [(.int (nar .char ((p1 &&& (255 : Int32)).toUInt32.toUInt16.toUInt32.toInt32)))])) (fun t ht => X13.caload hx (j := (0 : Int32)) (v := (.int (nar .char ((p1 &&& (255 : Int32)).toUInt32.toUInt16.toUInt32.toInt32)))) (by rw [e13]; exact Ar47.1) (State.isArrayOf_alike hZ.alike Ar47.2.1) Ar47.2.2 hin47 hat47 (g := (mkF m 74 #[.val (.int p0), .val (.int p1), .val (.int p2), .val (.int p3), .val (.int (0 : Int32)), .val (.int (0 : Int32)), .val (.ref b3), .unset, .unset, .unset] [(.int (0 : Int32)), (.ref b3)])) rfl rfl (hb hby at_74) _ ht) ?_
          obtain ⟨_, _, ⟨T48, L48, k48, n48⟩, -, X48, ⟨Lc48, hQ48, l48, y48, z48⟩, st48⟩ := Jvm.LawKit.callS X13 hx (y := (⟨"java/lang/String", "valueOf", "(C)Ljava/lang/String;"⟩ : MethodName)) hown (mvT hZ (hw _ (List.mem_of_getElem? (i := 1) rfl))) (mvT hZ (hw _ (List.mem_of_getElem? (i := 2) rfl))) (mvT hZ (hw _ (List.mem_of_getElem? (i := 3) rfl))) (mvT hZ (hw _ (List.mem_of_getElem? (i := 4) rfl))) (by decide) (backOf (W := 0) (rmVo l Z _ hw [] (nar .char ((p1 &&& (255 : Int32)).toUInt32.toUInt16.toUInt32.toInt32)) cs h13 n0 Z15 (own_hp _) f14 hcs) hZ (hw _ (List.mem_of_getElem? (i := 4) rfl)) (hw _ (List.mem_of_getElem? (i := 3) rfl)) (by decide) (by decide)) (g := (mkF m 75 #[.val (.int p0), .val (.int p1), .val (.int p2), .val (.int p3), .val (.int (0 : Int32)), .val (.int (0 : Int32)), .val (.ref b3), .unset, .unset, .unset] [(.int (nar .char ((p1 &&& (255 : Int32)).toUInt32.toUInt16.toUInt32.toInt32)))])) rfl (by rw [hml]; rfl) (argsL := [(.int (nar .char ((p1 &&& (255 : Int32)).toUInt32.toUInt16.toUInt32.toInt32)))]) (rest := []) (lenOf pd_10 rfl) rfl (by show 2 * 0 + _ ≤ _; exact Nat.le_of_eq rfl) (hb hby at_75) (fun _ _ => ⟨rfl, e13, (by decide : 1 + 2 ≤ _), (by decide : 2 + 5 ≤ _)⟩)
          dsimp only [Pt.U, Pt.locs, Pt.cells, Pt.slots] at X48 l48 y48 z48 st48 hQ48
          subst l48 y48 z48
          obtain ⟨rfl, Nq48, Kq48⟩ := hQ48
          have N49 := Fr.app N16 Nq48
          obtain ⟨b48, gq48⟩ : ∃ z, z = h13.size := ⟨_, rfl⟩
          rw [← gq48] at st48
          have g50 : n0 ≤ b48 := (Nat.le_trans Z15 (Nat.le_of_eq gq48.symm))
          have ne51 : b3 ≠ b48 := (Nat.ne_of_lt (Nat.lt_of_lt_of_le f17.lt (Nat.le_of_eq gq48.symm)))
          have f52 := (own_staKeep f14 Kq48 own_sn0)
          have f53 := (f17.keep Kq48 nin0)
          have Z54 : n0 ≤ T48.heap.size := (Nat.le_trans Z15 Kq48.1)
          refine OFin.of (S' := T48.setTop (mkF m 78 #[.val (.int p0), .val (.int p1), .val (.int p2), .val (.int p3), .val (.int (0 : Int32)), .val (.int (0 : Int32)), .val (.ref b3), .unset, .unset, .unset] [(.ref b48)])) (fun t ht => st48 t ht) ?_
          refine OFin.of (S' := T48.setTop (mkF m 94 #[.val (.int p0), .val (.int p1), .val (.int p2), .val (.int p3), .val (.int (0 : Int32)), .val (.int (0 : Int32)), .val (.ref b3), .val (.ref b48), .unset, .unset] [])) (fun t ht => ?_) ?_
          · refine XS.astore X48.here hx rfl (hb hby at_78) rfl rfl (l' := #[.val (.int p0), .val (.int p1), .val (.int p2), .val (.int p3), .val (.int (0 : Int32)), .val (.int (0 : Int32)), .val (.ref b3), .val (.ref b48), .unset, .unset]) rfl ?_
            show Steps p.tables e below (T48.setTop (mkF m 80 #[.val (.int p0), .val (.int p1), .val (.int p2), .val (.int p3), .val (.int (0 : Int32)), .val (.int (0 : Int32)), .val (.ref b3), .val (.ref b48), .unset, .unset] [])) _
            refine XS.goto X48.here hx rfl (pc0 := 80) (pc' := 94) rfl (hb hby at_80) (by decide) (by decide) ?_
            exact ht
          obtain ⟨T55, h55, X55, e55, E55, A55, D55, -, st55⟩ := newO X48 hx hZ hown (hw _ (List.mem_of_getElem? (i := 27) rfl)) (hw _ (List.mem_of_getElem? (i := 28) rfl)) (hw _ (List.mem_of_getElem? (i := 29) rfl)) (rfl : T48.heap = T48.heap) (g := (mkF m 94 #[.val (.int p0), .val (.int p1), .val (.int p2), .val (.int p3), .val (.int (0 : Int32)), .val (.int (0 : Int32)), .val (.ref b3), .val (.ref b48), .unset, .unset] [])) rfl (hb hby at_94) (by decide) (by decide)
          obtain ⟨b55, gq55⟩ : ∃ z, z = T48.heap.size := ⟨_, rfl⟩
          rw [← gq55] at A55 D55 st55
          have g56 : n0 ≤ b55 := (Nat.le_trans Z54 (Nat.le_of_eq gq55.symm))
          have ne57 : b3 ≠ b55 := (Nat.ne_of_lt (Nat.lt_of_lt_of_le f53.lt (Nat.le_of_eq gq55.symm)))
          have f58 := f52.ext E55
          have f59 := f53.ext E55
          have Z60 : n0 ≤ h55.size := (Nat.le_trans Z54 E55.1)
          have f61 : Fld Z h55 b55 "com/example/querant/querant/measure/CaseVerdict" "evaluationAgrees" "Z" (.int (0 : Int32)) := D55 (Or.inr (hw _ (List.mem_of_getElem? (i := 40) rfl))) (ty := .boolean) (by decide)
          have f62 : Fld Z h55 b55 "com/example/querant/querant/measure/CaseVerdict" "forecastAgrees" "Z" (.int (0 : Int32)) := D55 (Or.inr (hw _ (List.mem_of_getElem? (i := 42) rfl))) (ty := .boolean) (by decide)
          have f63 : Fld Z h55 b55 "com/example/querant/querant/measure/CaseVerdict" "difference" "Ljava/lang/String;" .null := D55 (Or.inr (hw _ (List.mem_of_getElem? (i := 44) rfl))) (ty := (.object "java/lang/String")) (by decide)
          refine OFin.of (S' := T55.setTop (mkF m 97 #[.val (.int p0), .val (.int p1), .val (.int p2), .val (.int p3), .val (.int (0 : Int32)), .val (.int (0 : Int32)), .val (.ref b3), .val (.ref b48), .unset, .unset] [(.ref b55)])) (fun t ht => st55 t ht) ?_
          refine OFin.of (S' := T55.setTop (mkF m 104 #[.val (.int p0), .val (.int p1), .val (.int p2), .val (.int p3), .val (.int (0 : Int32)), .val (.int (0 : Int32)), .val (.ref b3), .val (.ref b48), .unset, .unset] [(.ref b48), (.int (0 : Int32)), (.int (0 : Int32)), (.ref b55), (.ref b55)])) (fun t ht => ?_) ?_
          · refine XS.dup X55.here hx rfl (hb hby at_97) rfl rfl ?_
            show Steps p.tables e below (T55.setTop (mkF m 98 _ [(.ref b55), (.ref b55)])) _
            refine XS.iload X55.here hx rfl (hb hby at_98) rfl ?_
            show Steps p.tables e below (T55.setTop (mkF m 100 _ [(.int (0 : Int32)), (.ref b55), (.ref b55)])) _
            refine XS.iload X55.here hx rfl (hb hby at_100) rfl ?_
            show Steps p.tables e below (T55.setTop (mkF m 102 _ [(.int (0 : Int32)), (.int (0 : Int32)), (.ref b55), (.ref b55)])) _
            refine XS.aload X55.here hx rfl (hb hby at_102) rfl rfl ?_
            exact ht
          obtain ⟨_, _, ⟨T64, L64, k64, n64⟩, -, X64, ⟨Lc64, hQ64, l64, y64, z64⟩, st64⟩ := X55.specialBack hx (y := (⟨"com/example/querant/querant/measure/CaseVerdict", "<init>", "(ZZLjava/lang/String;)V"⟩ : MethodName)) rfl hown (mvT hZ (hw _ (List.mem_of_getElem? (i := 30) rfl))) (mvT hZ (hw _ (List.mem_of_getElem? (i := 31) rfl))) (mvT hZ (hw _ (List.mem_of_getElem? (i := 32) rfl))) (by decide) (backOf (W := 1) (rmIni00 l Z _ hw [] b55 b48 h55 n0 Z60 A55 f61 f62 f63 g56) hZ (hw _ (List.mem_of_getElem? (i := 32) rfl)) (hw _ (List.mem_of_getElem? (i := 29) rfl)) (by decide) (by decide)) (g := (mkF m 104 #[.val (.int p0), .val (.int p1), .val (.int p2), .val (.int p3), .val (.int (0 : Int32)), .val (.int (0 : Int32)), .val (.ref b3), .val (.ref b48), .unset, .unset] [(.ref b48), (.int (0 : Int32)), (.int (0 : Int32)), (.ref b55), (.ref b55)])) rfl (by rw [hml]; rfl) (Steps.refl _) (a := b55) (argsL := [(.int (0 : Int32)), (.int (0 : Int32)), (.ref b48)]) (rest := [(.ref b55)]) (lenOf pd_8 rfl) rfl (by show 2 * 0 + _ ≤ _; exact Nat.le_of_eq rfl) (hb hby at_104) (fun _ _ => ⟨rfl, e55, (by decide : 4 + 0 ≤ _), (by decide : 10 + 0 ≤ _)⟩)
          dsimp only [Pt.U, Pt.locs, Pt.cells, Pt.slots] at X64 l64 y64 z64 st64 hQ64
          subst l64 y64 z64
          obtain ⟨rfl, Nq64, Kq64, f65, f66, f67⟩ := hQ64
          have N68 := Fr.app N49 Nq64
          have f69 := (own_staKeep f58 Kq64 (own_snS A55 own_sn0))
          have f70 := (f59.keep Kq64 (ninS ne57 nin0))
          have f71 := (A55.keep Kq64)
          have Z72 : n0 ≤ T64.heap.size := (Nat.le_trans Z60 Kq64.1)
          refine OFin.to (S' := T64.setTop (mkF m 107 #[.val (.int p0), .val (.int p1), .val (.int p2), .val (.int p3), .val (.int (0 : Int32)), .val (.int (0 : Int32)), .val (.ref b3), .val (.ref b48), .unset, .unset] [(.ref b55)])) st64 ?_
          refine OFin.of (S' := T64.setTop (mkF m 136 #[.val (.int p0), .val (.int p1), .val (.int p2), .val (.int p3), .val (.int (0 : Int32)), .val (.int (0 : Int32)), .val (.ref b3), .val (.ref b48), .val (.ref b55), .val (.int (0 : Int32))] [(.ref b55)])) (fun t ht => ?_) ?_
          · refine XS.astore X64.here hx rfl (hb hby at_107) rfl rfl (l' := #[.val (.int p0), .val (.int p1), .val (.int p2), .val (.int p3), .val (.int (0 : Int32)), .val (.int (0 : Int32)), .val (.ref b3), .val (.ref b48), .val (.ref b55), .unset]) rfl ?_
            show Steps p.tables e below (T64.setTop (mkF m 109 #[.val (.int p0), .val (.int p1), .val (.int p2), .val (.int p3), .val (.int (0 : Int32)), .val (.int (0 : Int32)), .val (.ref b3), .val (.ref b48), .val (.ref b55), .unset] [])) _
            refine XS.iload X64.here hx rfl (hb hby at_109) rfl ?_
            show Steps p.tables e below (T64.setTop (mkF m 111 _ [(.int (0 : Int32))])) _
            refine XS.ifYes X64.here hx rfl (pc0 := 111) (pc' := 131) rfl (hb hby at_111) rfl ((if0 _ _).trans (teq (by decide : (0 : Int32) = (0 : Int32))).1) (by decide) (by decide) ?_
            show Steps p.tables e below (T64.setTop (mkF m 131 _ [])) _
            refine XS.iconst X64.here hx rfl (hb hby at_131) ?_
            show Steps p.tables e below (T64.setTop (mkF m 132 _ [(.int (0 : Int32))])) _
            refine XS.istore X64.here hx rfl (hb hby at_132) rfl (l' := #[.val (.int p0), .val (.int p1), .val (.int p2), .val (.int p3), .val (.int (0 : Int32)), .val (.int (0 : Int32)), .val (.ref b3), .val (.ref b48), .val (.ref b55), .val (.int (0 : Int32))]) rfl ?_
            show Steps p.tables e below (T64.setTop (mkF m 134 #[.val (.int p0), .val (.int p1), .val (.int p2), .val (.int p3), .val (.int (0 : Int32)), .val (.int (0 : Int32)), .val (.ref b3), .val (.ref b48), .val (.ref b55), .val (.int (0 : Int32))] [])) _
            refine XS.aload X64.here hx rfl (hb hby at_134) rfl rfl ?_
            exact ht
          obtain ⟨cq74, kq74, q74a, q74b, q74c⟩ := isOf hZ (rfl : T64.heap = T64.heap) f71
          obtain ⟨_, _, ⟨T73, L73, k73, n73⟩, -, X73, ⟨Lc73, hQ73, l73, y73, z73⟩, st73⟩ := X64.virtualBack hx (y := (⟨"com/example/querant/querant/measure/CaseVerdict", "agrees", "()Z"⟩ : MethodName)) (z := (⟨"com/example/querant/querant/measure/CaseVerdict", "agrees", "()Z"⟩ : MethodName)) hown (mvT hZ (hw _ (List.mem_of_getElem? (i := 45) rfl))) (mvT hZ (hw _ (List.mem_of_getElem? (i := 46) rfl))) (notFace_of_selects (args := #[]) (mvT hZ (hw _ (List.mem_of_getElem? (i := 48) rfl)))) (mvT hZ (hw _ (List.mem_of_getElem? (i := 48) rfl))) (mvT hZ (hw _ (List.mem_of_getElem? (i := 47) rfl))) (by decide) (backOf (W := 0) (rmAg00 l Z _ hw [] b55 T64.heap n0 Z72 f65 f66) hZ (hw _ (List.mem_of_getElem? (i := 49) rfl)) (hw _ (List.mem_of_getElem? (i := 29) rfl)) (by decide) (by decide)) q74a q74c (g := (mkF m 136 #[.val (.int p0), .val (.int p1), .val (.int p2), .val (.int p3), .val (.int (0 : Int32)), .val (.int (0 : Int32)), .val (.ref b3), .val (.ref b48), .val (.ref b55), .val (.int (0 : Int32))] [(.ref b55)])) rfl (by rw [hml]; rfl) (Steps.refl _) (argsL := []) (rest := []) (lenOf pd_9 rfl) rfl (by show 2 * 0 + _ ≤ _; exact Nat.le_of_eq rfl) (hb hby at_136) (fun _ _ => ⟨rfl, (rfl : T64.heap = T64.heap), (by decide : 4 + 0 ≤ _), (by decide : 10 + 0 ≤ _)⟩)
          dsimp only [Pt.U, Pt.locs, Pt.cells, Pt.slots] at X73 l73 y73 z73 st73 hQ73
          subst l73 y73 z73
          obtain ⟨rfl, Nq73, hs73⟩ := hQ73
          have N75 := Fr.app N68 Nq73
          refine OFin.to (S' := T73.setTop (mkF m 139 #[.val (.int p0), .val (.int p1), .val (.int p2), .val (.int p3), .val (.int (0 : Int32)), .val (.int (0 : Int32)), .val (.ref b3), .val (.ref b48), .val (.ref b55), .val (.int (0 : Int32))] [(.int (0 : Int32))])) st73 ?_
          refine OFin.of (S' := T73.setTop (mkF m 149 #[.val (.int p0), .val (.int p1), .val (.int p2), .val (.int p3), .val (.int (0 : Int32)), .val (.int (0 : Int32)), .val (.ref b3), .val (.ref b48), .val (.ref b55), .val (.int (0 : Int32))] [(.int (1 : Int32))])) (fun t ht => ?_) ?_
          · refine XS.iload X73.here hx rfl (hb hby at_139) rfl ?_
            show Steps p.tables e below (T73.setTop (mkF m 141 _ [(.int (0 : Int32)), (.int (0 : Int32))])) _
            refine XS.icmpNo X73.here hx rfl (hb hby at_141) rfl (teq (by decide : (0 : Int32) = (0 : Int32))).2 ?_
            show Steps p.tables e below (T73.setTop (mkF m 144 _ [])) _
            refine XS.iconst X73.here hx rfl (hb hby at_144) ?_
            show Steps p.tables e below (T73.setTop (mkF m 145 _ [(.int (1 : Int32))])) _
            refine XS.goto X73.here hx rfl (pc0 := 145) (pc' := 149) rfl (hb hby at_145) (by decide) (by decide) ?_
            exact ht
          exact OFin.retBW (s := s) (vm₁ := s.vm) X73 ((State.WarmedH.refl s).since 0) (Nat.zero_le _) hx hlk (t := .boolean) (by simp) hret (hb hby at_149) (by decide) (by decide) (by rw [hs73]; exact ⟨rfl, N75⟩)
        · refine OFin.of (S' := T13.setTop (mkF m 83 #[.val (.int p0), .val (.int p1), .val (.int p2), .val (.int p3), .val (.int (0 : Int32)), .val (.int (0 : Int32)), .val (.ref b3), .unset, .unset, .unset] [])) (fun t ht => ?_) ?_
          · refine XS.icmpYes X13.here hx rfl (pc0 := 68) (pc' := 83) rfl (hb hby at_68) rfl (feq (hc46 : ¬ ((p3 &&& (3 : Int32)) = (1 : Int32)))).2 (by decide) (by decide) ?_
            exact ht
          obtain ⟨T76, h76, X76, e76, E76, A76, D76, -, st76⟩ := newO X13 hx hZ hown (hw _ (List.mem_of_getElem? (i := 50) rfl)) (hw _ (List.mem_of_getElem? (i := 11) rfl)) (hw _ (List.mem_of_getElem? (i := 3) rfl)) e13 (g := (mkF m 83 #[.val (.int p0), .val (.int p1), .val (.int p2), .val (.int p3), .val (.int (0 : Int32)), .val (.int (0 : Int32)), .val (.ref b3), .unset, .unset, .unset] [])) rfl (hb hby at_83) (by decide) (by decide)
          obtain ⟨b76, gq76⟩ : ∃ z, z = h13.size := ⟨_, rfl⟩
          rw [← gq76] at A76 D76 st76
          have g77 : n0 ≤ b76 := (Nat.le_trans Z15 (Nat.le_of_eq gq76.symm))
          have ne78 : b3 ≠ b76 := (Nat.ne_of_lt (Nat.lt_of_lt_of_le f17.lt (Nat.le_of_eq gq76.symm)))
          have f79 := f14.ext E76
          have f80 := f17.ext E76
          have Z81 : n0 ≤ h76.size := (Nat.le_trans Z15 E76.1)
          have f82 : Fld Z h76 b76 "java/lang/String" "value" "[B" .null := D76 (Or.inr (hw _ (List.mem_of_getElem? (i := 24) rfl))) (ty := (.array .byte)) (by decide)
          have f83 : Fld Z h76 b76 "java/lang/String" "coder" "B" (.int (0 : Int32)) := D76 (Or.inr (hw _ (List.mem_of_getElem? (i := 26) rfl))) (ty := .byte) (by decide)
          refine OFin.of (S' := T76.setTop (mkF m 86 #[.val (.int p0), .val (.int p1), .val (.int p2), .val (.int p3), .val (.int (0 : Int32)), .val (.int (0 : Int32)), .val (.ref b3), .unset, .unset, .unset] [(.ref b76)])) (fun t ht => st76 t ht) ?_
          refine OFin.of (S' := T76.setTop (mkF m 89 #[.val (.int p0), .val (.int p1), .val (.int p2), .val (.int p3), .val (.int (0 : Int32)), .val (.int (0 : Int32)), .val (.ref b3), .unset, .unset, .unset] [(.ref b3), (.ref b76), (.ref b76)])) (fun t ht => ?_) ?_
          · refine XS.dup X76.here hx rfl (hb hby at_86) rfl rfl ?_
            show Steps p.tables e below (T76.setTop (mkF m 87 _ [(.ref b76), (.ref b76)])) _
            refine XS.aload X76.here hx rfl (hb hby at_87) rfl rfl ?_
            exact ht
          obtain ⟨_, _, ⟨T84, L84, k84, n84⟩, -, X84, ⟨Lc84, hQ84, l84, y84, z84⟩, st84⟩ := X76.specialBack hx (y := (⟨"java/lang/String", "<init>", "([C)V"⟩ : MethodName)) rfl hown (mvT hZ (hw _ (List.mem_of_getElem? (i := 51) rfl))) (mvT hZ (hw _ (List.mem_of_getElem? (i := 52) rfl))) (mvT hZ (hw _ (List.mem_of_getElem? (i := 53) rfl))) (by decide) (backOf (W := 1) (rmSi2 l Z _ hw [] b76 b3 k3 cs (nar .char ((p1 &&& (255 : Int32)).toUInt32.toUInt16.toUInt32.toInt32)) (nar .char ((p2 &&& (255 : Int32)).toUInt32.toUInt16.toUInt32.toInt32)) h76 n0 Z81 A76 f83 f82 f80 g77 ne78 f79 hcs (own_hp _) (own_hp _)) hZ (hw _ (List.mem_of_getElem? (i := 53) rfl)) (hw _ (List.mem_of_getElem? (i := 3) rfl)) (by decide) (by decide)) (g := (mkF m 89 #[.val (.int p0), .val (.int p1), .val (.int p2), .val (.int p3), .val (.int (0 : Int32)), .val (.int (0 : Int32)), .val (.ref b3), .unset, .unset, .unset] [(.ref b3), (.ref b76), (.ref b76)])) rfl (by rw [hml]; rfl) (Steps.refl _) (a := b76) (argsL := [(.ref b3)]) (rest := [(.ref b76)]) (lenOf pd_11 rfl) rfl (by show 2 * 0 + _ ≤ _; exact Nat.le_of_eq rfl) (hb hby at_89) (fun _ _ => ⟨rfl, e76, (by decide : 2 + 1 ≤ _), (by decide : 6 + 2 ≤ _)⟩)
          dsimp only [Pt.U, Pt.locs, Pt.cells, Pt.slots] at X84 l84 y84 z84 st84 hQ84
          subst l84 y84 z84
          obtain ⟨rfl, Nq84, Kq84, f85, f86, ⟨kb_84, f87⟩⟩ := hQ84
          have N88 := Fr.app N16 Nq84
          obtain ⟨b84, gq84⟩ : ∃ z, z = h76.size := ⟨_, rfl⟩
          rw [← gq84] at f86 f87
          have g89 : n0 ≤ b84 := (Nat.le_trans Z81 (Nat.le_of_eq gq84.symm))
          have ne90 : b3 ≠ b84 := (Nat.ne_of_lt (Nat.lt_of_lt_of_le f80.lt (Nat.le_of_eq gq84.symm)))
          have ne91 : b76 ≠ b84 := (Nat.ne_of_lt (Nat.lt_of_lt_of_le A76.lt (Nat.le_of_eq gq84.symm)))
          have f92 := (own_staKeep f79 Kq84 (own_snS A76 own_sn0))
          have f93 := (f80.keep Kq84 (ninS ne78 nin0))
          have f94 := (A76.keep Kq84)
          have Z95 : n0 ≤ T84.heap.size := (Nat.le_trans Z81 Kq84.1)
          refine OFin.to (S' := T84.setTop (mkF m 92 #[.val (.int p0), .val (.int p1), .val (.int p2), .val (.int p3), .val (.int (0 : Int32)), .val (.int (0 : Int32)), .val (.ref b3), .unset, .unset, .unset] [(.ref b76)])) st84 ?_
          refine OFin.of (S' := T84.setTop (mkF m 94 #[.val (.int p0), .val (.int p1), .val (.int p2), .val (.int p3), .val (.int (0 : Int32)), .val (.int (0 : Int32)), .val (.ref b3), .val (.ref b76), .unset, .unset] [])) (fun t ht => ?_) ?_
          · refine XS.astore X84.here hx rfl (hb hby at_92) rfl rfl (l' := #[.val (.int p0), .val (.int p1), .val (.int p2), .val (.int p3), .val (.int (0 : Int32)), .val (.int (0 : Int32)), .val (.ref b3), .val (.ref b76), .unset, .unset]) rfl ?_
            exact ht
          obtain ⟨T96, h96, X96, e96, E96, A96, D96, -, st96⟩ := newO X84 hx hZ hown (hw _ (List.mem_of_getElem? (i := 27) rfl)) (hw _ (List.mem_of_getElem? (i := 28) rfl)) (hw _ (List.mem_of_getElem? (i := 29) rfl)) (rfl : T84.heap = T84.heap) (g := (mkF m 94 #[.val (.int p0), .val (.int p1), .val (.int p2), .val (.int p3), .val (.int (0 : Int32)), .val (.int (0 : Int32)), .val (.ref b3), .val (.ref b76), .unset, .unset] [])) rfl (hb hby at_94) (by decide) (by decide)
          obtain ⟨b96, gq96⟩ : ∃ z, z = T84.heap.size := ⟨_, rfl⟩
          rw [← gq96] at A96 D96 st96
          have g97 : n0 ≤ b96 := (Nat.le_trans Z95 (Nat.le_of_eq gq96.symm))
          have ne98 : b3 ≠ b96 := (Nat.ne_of_lt (Nat.lt_of_lt_of_le f93.lt (Nat.le_of_eq gq96.symm)))
          have ne99 : b76 ≠ b96 := (Nat.ne_of_lt (Nat.lt_of_lt_of_le f94.lt (Nat.le_of_eq gq96.symm)))
          have ne100 : b84 ≠ b96 := (Nat.ne_of_lt (Nat.lt_of_lt_of_le f87.lt (Nat.le_of_eq gq96.symm)))
          have f101 := f92.ext E96
          have f102 := f93.ext E96
          have f103 := f94.ext E96
          have f104 := f85.ext E96
          have f105 := f86.ext E96
          have f106 := f87.ext E96
          have Z107 : n0 ≤ h96.size := (Nat.le_trans Z95 E96.1)
          have f108 : Fld Z h96 b96 "com/example/querant/querant/measure/CaseVerdict" "evaluationAgrees" "Z" (.int (0 : Int32)) := D96 (Or.inr (hw _ (List.mem_of_getElem? (i := 40) rfl))) (ty := .boolean) (by decide)
          have f109 : Fld Z h96 b96 "com/example/querant/querant/measure/CaseVerdict" "forecastAgrees" "Z" (.int (0 : Int32)) := D96 (Or.inr (hw _ (List.mem_of_getElem? (i := 42) rfl))) (ty := .boolean) (by decide)
          have f110 : Fld Z h96 b96 "com/example/querant/querant/measure/CaseVerdict" "difference" "Ljava/lang/String;" .null := D96 (Or.inr (hw _ (List.mem_of_getElem? (i := 44) rfl))) (ty := (.object "java/lang/String")) (by decide)
          refine OFin.of (S' := T96.setTop (mkF m 97 #[.val (.int p0), .val (.int p1), .val (.int p2), .val (.int p3), .val (.int (0 : Int32)), .val (.int (0 : Int32)), .val (.ref b3), .val (.ref b76), .unset, .unset] [(.ref b96)])) (fun t ht => st96 t ht) ?_
          refine OFin.of (S' := T96.setTop (mkF m 104 #[.val (.int p0), .val (.int p1), .val (.int p2), .val (.int p3), .val (.int (0 : Int32)), .val (.int (0 : Int32)), .val (.ref b3), .val (.ref b76), .unset, .unset] [(.ref b76), (.int (0 : Int32)), (.int (0 : Int32)), (.ref b96), (.ref b96)])) (fun t ht => ?_) ?_
          · refine XS.dup X96.here hx rfl (hb hby at_97) rfl rfl ?_
            show Steps p.tables e below (T96.setTop (mkF m 98 _ [(.ref b96), (.ref b96)])) _
            refine XS.iload X96.here hx rfl (hb hby at_98) rfl ?_
            show Steps p.tables e below (T96.setTop (mkF m 100 _ [(.int (0 : Int32)), (.ref b96), (.ref b96)])) _
            refine XS.iload X96.here hx rfl (hb hby at_100) rfl ?_
            show Steps p.tables e below (T96.setTop (mkF m 102 _ [(.int (0 : Int32)), (.int (0 : Int32)), (.ref b96), (.ref b96)])) _
            refine XS.aload X96.here hx rfl (hb hby at_102) rfl rfl ?_
            exact ht
          obtain ⟨_, _, ⟨T111, L111, k111, n111⟩, -, X111, ⟨Lc111, hQ111, l111, y111, z111⟩, st111⟩ := X96.specialBack hx (y := (⟨"com/example/querant/querant/measure/CaseVerdict", "<init>", "(ZZLjava/lang/String;)V"⟩ : MethodName)) rfl hown (mvT hZ (hw _ (List.mem_of_getElem? (i := 30) rfl))) (mvT hZ (hw _ (List.mem_of_getElem? (i := 31) rfl))) (mvT hZ (hw _ (List.mem_of_getElem? (i := 32) rfl))) (by decide) (backOf (W := 1) (rmIni00 l Z _ hw [] b96 b76 h96 n0 Z107 A96 f108 f109 f110 g97) hZ (hw _ (List.mem_of_getElem? (i := 32) rfl)) (hw _ (List.mem_of_getElem? (i := 29) rfl)) (by decide) (by decide)) (g := (mkF m 104 #[.val (.int p0), .val (.int p1), .val (.int p2), .val (.int p3), .val (.int (0 : Int32)), .val (.int (0 : Int32)), .val (.ref b3), .val (.ref b76), .unset, .unset] [(.ref b76), (.int (0 : Int32)), (.int (0 : Int32)), (.ref b96), (.ref b96)])) rfl (by rw [hml]; rfl) (Steps.refl _) (a := b96) (argsL := [(.int (0 : Int32)), (.int (0 : Int32)), (.ref b76)]) (rest := [(.ref b96)]) (lenOf pd_8 rfl) rfl (by show 2 * 0 + _ ≤ _; exact Nat.le_of_eq rfl) (hb hby at_104) (fun _ _ => ⟨rfl, e96, (by decide : 4 + 0 ≤ _), (by decide : 11 + 0 ≤ _)⟩)
          dsimp only [Pt.U, Pt.locs, Pt.cells, Pt.slots] at X111 l111 y111 z111 st111 hQ111
          subst l111 y111 z111
          obtain ⟨rfl, Nq111, Kq111, f112, f113, f114⟩ := hQ111
          have N115 := Fr.app N88 Nq111
          have f116 := (own_staKeep f101 Kq111 (own_snS A96 own_sn0))
          have f117 := (f102.keep Kq111 (ninS ne98 nin0))
          have f118 := (f103.keep Kq111)
          have f119 := (f104.keep Kq111 (ninS ne99 nin0))
          have f120 := (f105.keep Kq111 (ninS ne99 nin0))
          have f121 := (f106.keep Kq111 (ninS ne100 nin0))
          have f122 := (A96.keep Kq111)
          have Z123 : n0 ≤ T111.heap.size := (Nat.le_trans Z107 Kq111.1)
          refine OFin.to (S' := T111.setTop (mkF m 107 #[.val (.int p0), .val (.int p1), .val (.int p2), .val (.int p3), .val (.int (0 : Int32)), .val (.int (0 : Int32)), .val (.ref b3), .val (.ref b76), .unset, .unset] [(.ref b96)])) st111 ?_
          refine OFin.of (S' := T111.setTop (mkF m 136 #[.val (.int p0), .val (.int p1), .val (.int p2), .val (.int p3), .val (.int (0 : Int32)), .val (.int (0 : Int32)), .val (.ref b3), .val (.ref b76), .val (.ref b96), .val (.int (0 : Int32))] [(.ref b96)])) (fun t ht => ?_) ?_
          · refine XS.astore X111.here hx rfl (hb hby at_107) rfl rfl (l' := #[.val (.int p0), .val (.int p1), .val (.int p2), .val (.int p3), .val (.int (0 : Int32)), .val (.int (0 : Int32)), .val (.ref b3), .val (.ref b76), .val (.ref b96), .unset]) rfl ?_
            show Steps p.tables e below (T111.setTop (mkF m 109 #[.val (.int p0), .val (.int p1), .val (.int p2), .val (.int p3), .val (.int (0 : Int32)), .val (.int (0 : Int32)), .val (.ref b3), .val (.ref b76), .val (.ref b96), .unset] [])) _
            refine XS.iload X111.here hx rfl (hb hby at_109) rfl ?_
            show Steps p.tables e below (T111.setTop (mkF m 111 _ [(.int (0 : Int32))])) _
            refine XS.ifYes X111.here hx rfl (pc0 := 111) (pc' := 131) rfl (hb hby at_111) rfl ((if0 _ _).trans (teq (by decide : (0 : Int32) = (0 : Int32))).1) (by decide) (by decide) ?_
            show Steps p.tables e below (T111.setTop (mkF m 131 _ [])) _
            refine XS.iconst X111.here hx rfl (hb hby at_131) ?_
            show Steps p.tables e below (T111.setTop (mkF m 132 _ [(.int (0 : Int32))])) _
            refine XS.istore X111.here hx rfl (hb hby at_132) rfl (l' := #[.val (.int p0), .val (.int p1), .val (.int p2), .val (.int p3), .val (.int (0 : Int32)), .val (.int (0 : Int32)), .val (.ref b3), .val (.ref b76), .val (.ref b96), .val (.int (0 : Int32))]) rfl ?_
            show Steps p.tables e below (T111.setTop (mkF m 134 #[.val (.int p0), .val (.int p1), .val (.int p2), .val (.int p3), .val (.int (0 : Int32)), .val (.int (0 : Int32)), .val (.ref b3), .val (.ref b76), .val (.ref b96), .val (.int (0 : Int32))] [])) _
            refine XS.aload X111.here hx rfl (hb hby at_134) rfl rfl ?_
            exact ht
          obtain ⟨cq125, kq125, q125a, q125b, q125c⟩ := isOf hZ (rfl : T111.heap = T111.heap) f122
          obtain ⟨_, _, ⟨T124, L124, k124, n124⟩, -, X124, ⟨Lc124, hQ124, l124, y124, z124⟩, st124⟩ := X111.virtualBack hx (y := (⟨"com/example/querant/querant/measure/CaseVerdict", "agrees", "()Z"⟩ : MethodName)) (z := (⟨"com/example/querant/querant/measure/CaseVerdict", "agrees", "()Z"⟩ : MethodName)) hown (mvT hZ (hw _ (List.mem_of_getElem? (i := 45) rfl))) (mvT hZ (hw _ (List.mem_of_getElem? (i := 46) rfl))) (notFace_of_selects (args := #[]) (mvT hZ (hw _ (List.mem_of_getElem? (i := 48) rfl)))) (mvT hZ (hw _ (List.mem_of_getElem? (i := 48) rfl))) (mvT hZ (hw _ (List.mem_of_getElem? (i := 47) rfl))) (by decide) (backOf (W := 0) (rmAg00 l Z _ hw [] b96 T111.heap n0 Z123 f112 f113) hZ (hw _ (List.mem_of_getElem? (i := 49) rfl)) (hw _ (List.mem_of_getElem? (i := 29) rfl)) (by decide) (by decide)) q125a q125c (g := (mkF m 136 #[.val (.int p0), .val (.int p1), .val (.int p2), .val (.int p3), .val (.int (0 : Int32)), .val (.int (0 : Int32)), .val (.ref b3), .val (.ref b76), .val (.ref b96), .val (.int (0 : Int32))] [(.ref b96)])) rfl (by rw [hml]; rfl) (Steps.refl _) (argsL := []) (rest := []) (lenOf pd_9 rfl) rfl (by show 2 * 0 + _ ≤ _; exact Nat.le_of_eq rfl) (hb hby at_136) (fun _ _ => ⟨rfl, (rfl : T111.heap = T111.heap), (by decide : 4 + 0 ≤ _), (by decide : 11 + 0 ≤ _)⟩)
          dsimp only [Pt.U, Pt.locs, Pt.cells, Pt.slots] at X124 l124 y124 z124 st124 hQ124
          subst l124 y124 z124
          obtain ⟨rfl, Nq124, hs124⟩ := hQ124
          have N126 := Fr.app N115 Nq124
          refine OFin.to (S' := T124.setTop (mkF m 139 #[.val (.int p0), .val (.int p1), .val (.int p2), .val (.int p3), .val (.int (0 : Int32)), .val (.int (0 : Int32)), .val (.ref b3), .val (.ref b76), .val (.ref b96), .val (.int (0 : Int32))] [(.int (0 : Int32))])) st124 ?_
          refine OFin.of (S' := T124.setTop (mkF m 149 #[.val (.int p0), .val (.int p1), .val (.int p2), .val (.int p3), .val (.int (0 : Int32)), .val (.int (0 : Int32)), .val (.ref b3), .val (.ref b76), .val (.ref b96), .val (.int (0 : Int32))] [(.int (1 : Int32))])) (fun t ht => ?_) ?_
          · refine XS.iload X124.here hx rfl (hb hby at_139) rfl ?_
            show Steps p.tables e below (T124.setTop (mkF m 141 _ [(.int (0 : Int32)), (.int (0 : Int32))])) _
            refine XS.icmpNo X124.here hx rfl (hb hby at_141) rfl (teq (by decide : (0 : Int32) = (0 : Int32))).2 ?_
            show Steps p.tables e below (T124.setTop (mkF m 144 _ [])) _
            refine XS.iconst X124.here hx rfl (hb hby at_144) ?_
            show Steps p.tables e below (T124.setTop (mkF m 145 _ [(.int (1 : Int32))])) _
            refine XS.goto X124.here hx rfl (pc0 := 145) (pc' := 149) rfl (hb hby at_145) (by decide) (by decide) ?_
            exact ht
          exact OFin.retBW (s := s) (vm₁ := s.vm) X124 ((State.WarmedH.refl s).since 0) (Nat.zero_le _) hx hlk (t := .boolean) (by simp) hret (hb hby at_149) (by decide) (by decide) (by rw [hs124]; exact ⟨rfl, N126⟩)
    · refine OFin.of (S' := s₁.setTop (mkF m 27 #[.val (.int p0), .val (.int p1), .val (.int p2), .val (.int p3), .val (.int (0 : Int32)), .val (.int (1 : Int32)), .unset, .unset, .unset, .unset] [(.int (2 : Int32))])) (fun t ht => ?_) ?_
      · refine XS.ifNo X0.here hx rfl (hb hby at_16) rfl ((if0 _ _).trans (feq (hc2 : ¬ ((p0 &&& (2 : Int32)) = (0 : Int32)))).1) ?_
        show Steps p.tables e below (s₁.setTop (mkF m 19 _ [])) _
        refine XS.iconst X0.here hx rfl (hb hby at_19) ?_
        show Steps p.tables e below (s₁.setTop (mkF m 20 _ [(.int (1 : Int32))])) _
        refine XS.goto X0.here hx rfl (pc0 := 20) (pc' := 24) rfl (hb hby at_20) (by decide) (by decide) ?_
        show Steps p.tables e below (s₁.setTop (mkF m 24 _ [(.int (1 : Int32))])) _
        refine XS.istore X0.here hx rfl (hb hby at_24) rfl (l' := #[.val (.int p0), .val (.int p1), .val (.int p2), .val (.int p3), .val (.int (0 : Int32)), .val (.int (1 : Int32)), .unset, .unset, .unset, .unset]) rfl ?_
        show Steps p.tables e below (s₁.setTop (mkF m 26 #[.val (.int p0), .val (.int p1), .val (.int p2), .val (.int p3), .val (.int (0 : Int32)), .val (.int (1 : Int32)), .unset, .unset, .unset, .unset] [])) _
        refine XS.iconst X0.here hx rfl (hb hby at_26) ?_
        exact ht
      obtain ⟨T127, h127, k127, X127, e127, E127, A127, st127⟩ := newP X0 hx hZ (hw _ (List.mem_of_getElem? (i := 0) rfl)) e0 (g := (mkF m 27 #[.val (.int p0), .val (.int p1), .val (.int p2), .val (.int p3), .val (.int (0 : Int32)), .val (.int (1 : Int32)), .unset, .unset, .unset, .unset] [(.int (2 : Int32))])) rfl (hb hby at_27) rfl (by decide) (cap := 2) (by decide) (by decide) (by decide) (by decide)
      obtain ⟨b127, gq127⟩ : ∃ z, z = h0.size := ⟨_, rfl⟩
      rw [← gq127] at A127 st127
      have g128 : n0 ≤ b127 := (Nat.le_trans Z0 (Nat.le_of_eq gq127.symm))
      have f129 := Scs.ext E127
      have Z130 : n0 ≤ h127.size := (Nat.le_trans Z0 E127.1)
      have f131 : Arv Z h127 b127 k127 .char (2 : Int32) [(.int (0 : Int32)), (.int (0 : Int32))] (.int (0 : Int32)) := ((Arv.new A127 (by decide)).pad (pad_rep [] (.int (0 : Int32)) 2))
      refine OFin.of (S' := T127.setTop (mkF m 29 #[.val (.int p0), .val (.int p1), .val (.int p2), .val (.int p3), .val (.int (0 : Int32)), .val (.int (1 : Int32)), .unset, .unset, .unset, .unset] [(.ref b127)])) (fun t ht => st127 t ht) ?_
      refine OFin.of (S' := T127.setTop (mkF m 40 #[.val (.int p0), .val (.int p1), .val (.int p2), .val (.int p3), .val (.int (0 : Int32)), .val (.int (1 : Int32)), .val (.ref b127), .unset, .unset, .unset] [(.int ((p1 &&& (255 : Int32)).toUInt32.toUInt16.toUInt32.toInt32)), (.int (0 : Int32)), (.ref b127)])) (fun t ht => ?_) ?_
      · refine XS.astore X127.here hx rfl (hb hby at_29) rfl rfl (l' := #[.val (.int p0), .val (.int p1), .val (.int p2), .val (.int p3), .val (.int (0 : Int32)), .val (.int (1 : Int32)), .val (.ref b127), .unset, .unset, .unset]) rfl ?_
        show Steps p.tables e below (T127.setTop (mkF m 31 #[.val (.int p0), .val (.int p1), .val (.int p2), .val (.int p3), .val (.int (0 : Int32)), .val (.int (1 : Int32)), .val (.ref b127), .unset, .unset, .unset] [])) _
        refine XS.aload X127.here hx rfl (hb hby at_31) rfl rfl ?_
        show Steps p.tables e below (T127.setTop (mkF m 33 _ [(.ref b127)])) _
        refine XS.iconst X127.here hx rfl (hb hby at_33) ?_
        show Steps p.tables e below (T127.setTop (mkF m 34 _ [(.int (0 : Int32)), (.ref b127)])) _
        refine XS.iloadN X127.here hx rfl (hb hby at_34) rfl ?_
        show Steps p.tables e below (T127.setTop (mkF m 35 _ [(.int p1), (.int (0 : Int32)), (.ref b127)])) _
        refine XS.sipush X127.here hx rfl (hb hby at_35) ?_
        show Steps p.tables e below (T127.setTop (mkF m 38 _ [(.int (255 : Int32)), (.int p1), (.int (0 : Int32)), (.ref b127)])) _
        refine XS.iand X127.here hx rfl (hb hby at_38) rfl ?_
        show Steps p.tables e below (T127.setTop (mkF m 39 _ [(.int (p1 &&& (255 : Int32))), (.int (0 : Int32)), (.ref b127)])) _
        refine XS.i2c X127.here hx rfl (hb hby at_39) rfl ?_
        exact ht
      obtain ⟨cl132, Ar132, q132, S132, Ng132, H132, G132⟩ := id f131
      have hin132 := inb_of (j := (0 : Int32)) S132 ⟨by decide, by decide⟩
      obtain ⟨T132, h132, X132, e132, W132, st132⟩ := stC X127 hx hZ e127 Ar132 (j := (0 : Int32)) hin132 (g := (mkF m 40 #[.val (.int p0), .val (.int p1), .val (.int p2), .val (.int p3), .val (.int (0 : Int32)), .val (.int (1 : Int32)), .val (.ref b127), .unset, .unset, .unset] [(.int ((p1 &&& (255 : Int32)).toUInt32.toUInt16.toUInt32.toInt32)), (.int (0 : Int32)), (.ref b127)])) rfl rfl (hb hby at_40)
      have f133 := (f129.wr W132)
      have Z134 : n0 ≤ h132.size := (Nat.le_trans Z130 (Keep.of_wr W132).1)
      have N135 := Fr.snoc X132 N0 g128
      have f136 : Arv Z h132 b127 k127 .char (2 : Int32) [(.int (nar .char ((p1 &&& (255 : Int32)).toUInt32.toUInt16.toUInt32.toInt32))), (.int (0 : Int32))] (.int (0 : Int32)) := Arv.set Ar132 q132 S132 Ng132 H132 G132 (fits_nar_char _) W132 0 rfl (Nat.le_of_ble_eq_true rfl)
      refine OFin.of (S' := T132.setTop (mkF m 41 #[.val (.int p0), .val (.int p1), .val (.int p2), .val (.int p3), .val (.int (0 : Int32)), .val (.int (1 : Int32)), .val (.ref b127), .unset, .unset, .unset] [])) (fun t ht => st132 t ht) ?_
      refine OFin.of (S' := T132.setTop (mkF m 50 #[.val (.int p0), .val (.int p1), .val (.int p2), .val (.int p3), .val (.int (0 : Int32)), .val (.int (1 : Int32)), .val (.ref b127), .unset, .unset, .unset] [(.int ((p2 &&& (255 : Int32)).toUInt32.toUInt16.toUInt32.toInt32)), (.int (1 : Int32)), (.ref b127)])) (fun t ht => ?_) ?_
      · refine XS.aload X132.here hx rfl (hb hby at_41) rfl rfl ?_
        show Steps p.tables e below (T132.setTop (mkF m 43 _ [(.ref b127)])) _
        refine XS.iconst X132.here hx rfl (hb hby at_43) ?_
        show Steps p.tables e below (T132.setTop (mkF m 44 _ [(.int (1 : Int32)), (.ref b127)])) _
        refine XS.iloadN X132.here hx rfl (hb hby at_44) rfl ?_
        show Steps p.tables e below (T132.setTop (mkF m 45 _ [(.int p2), (.int (1 : Int32)), (.ref b127)])) _
        refine XS.sipush X132.here hx rfl (hb hby at_45) ?_
        show Steps p.tables e below (T132.setTop (mkF m 48 _ [(.int (255 : Int32)), (.int p2), (.int (1 : Int32)), (.ref b127)])) _
        refine XS.iand X132.here hx rfl (hb hby at_48) rfl ?_
        show Steps p.tables e below (T132.setTop (mkF m 49 _ [(.int (p2 &&& (255 : Int32))), (.int (1 : Int32)), (.ref b127)])) _
        refine XS.i2c X132.here hx rfl (hb hby at_49) rfl ?_
        exact ht
      obtain ⟨cl137, Ar137, q137, S137, Ng137, H137, G137⟩ := id f136
      have hin137 := inb_of (j := (1 : Int32)) S137 ⟨by decide, by decide⟩
      obtain ⟨T137, h137, X137, e137, W137, st137⟩ := stC X132 hx hZ e132 Ar137 (j := (1 : Int32)) hin137 (g := (mkF m 50 #[.val (.int p0), .val (.int p1), .val (.int p2), .val (.int p3), .val (.int (0 : Int32)), .val (.int (1 : Int32)), .val (.ref b127), .unset, .unset, .unset] [(.int ((p2 &&& (255 : Int32)).toUInt32.toUInt16.toUInt32.toInt32)), (.int (1 : Int32)), (.ref b127)])) rfl rfl (hb hby at_50)
      have f138 := (f133.wr W137)
      have Z139 : n0 ≤ h137.size := (Nat.le_trans Z134 (Keep.of_wr W137).1)
      have N140 := Fr.snoc X137 N135 g128
      have f141 : Arv Z h137 b127 k127 .char (2 : Int32) [(.int (nar .char ((p1 &&& (255 : Int32)).toUInt32.toUInt16.toUInt32.toInt32))), (.int (nar .char ((p2 &&& (255 : Int32)).toUInt32.toUInt16.toUInt32.toInt32)))] (.int (0 : Int32)) := Arv.set Ar137 q137 S137 Ng137 H137 G137 (fits_nar_char _) W137 1 rfl (Nat.le_of_ble_eq_true rfl)
      refine OFin.of (S' := T137.setTop (mkF m 51 #[.val (.int p0), .val (.int p1), .val (.int p2), .val (.int p3), .val (.int (0 : Int32)), .val (.int (1 : Int32)), .val (.ref b127), .unset, .unset, .unset] [])) (fun t ht => st137 t ht) ?_
      refine OFin.of (S' := T137.setTop (mkF m 54 #[.val (.int p0), .val (.int p1), .val (.int p2), .val (.int p3), .val (.int (0 : Int32)), .val (.int (1 : Int32)), .val (.ref b127), .unset, .unset, .unset] [(.int (p3 &&& (3 : Int32)))])) (fun t ht => ?_) ?_
      · refine XS.iloadN X137.here hx rfl (hb hby at_51) rfl ?_
        show Steps p.tables e below (T137.setTop (mkF m 52 _ [(.int p3)])) _
        refine XS.iconst X137.here hx rfl (hb hby at_52) ?_
        show Steps p.tables e below (T137.setTop (mkF m 53 _ [(.int (3 : Int32)), (.int p3)])) _
        refine XS.iand X137.here hx rfl (hb hby at_53) rfl ?_
        exact ht
      by_cases hc142 : (p3 &&& (3 : Int32)) = (0 : Int32)
      · refine OFin.of (S' := T137.setTop (mkF m 57 #[.val (.int p0), .val (.int p1), .val (.int p2), .val (.int p3), .val (.int (0 : Int32)), .val (.int (1 : Int32)), .val (.ref b127), .unset, .unset, .unset] [])) (fun t ht => ?_) ?_
        · refine XS.ifNo X137.here hx rfl (hb hby at_54) rfl ((if0 _ _).trans (teq (hc142 : (p3 &&& (3 : Int32)) = (0 : Int32))).2) ?_
          exact ht
        obtain ⟨a143, T143, h143, k143, X143, e143, E143, S143, K143, hZ143, hown143, st143⟩ := ldcS (s := s) (vm0 := s.vm) X137 hx hZ hown (hw _ (List.mem_of_getElem? (i := 67) rfl)) (own_strAtoms hw) e137 ((State.WarmedH.refl s).since h137.size) (Nat.le_refl _) (g := (mkF m 57 #[.val (.int p0), .val (.int p1), .val (.int p2), .val (.int p3), .val (.int (0 : Int32)), .val (.int (1 : Int32)), .val (.ref b127), .unset, .unset, .unset] [])) rfl (hb hby at_57) (n := 0) (by decide) (by decide) (by decide) (by decide)
        have f144 := f138.ext E143
        have f145 := f141.ext E143
        have Z146 : n0 ≤ h143.size := (Nat.le_trans Z139 E143.1)
        refine OFin.of (S' := T143.setTop (mkF m 59 #[.val (.int p0), .val (.int p1), .val (.int p2), .val (.int p3), .val (.int (0 : Int32)), .val (.int (1 : Int32)), .val (.ref b127), .unset, .unset, .unset] [(.ref a143)])) (fun t ht => st143 t ht) ?_
        refine OFin.of (S' := T143.setTop (mkF m 94 #[.val (.int p0), .val (.int p1), .val (.int p2), .val (.int p3), .val (.int (0 : Int32)), .val (.int (1 : Int32)), .val (.ref b127), .val (.ref a143), .unset, .unset] [])) (fun t ht => ?_) ?_
        · refine XS.astore X143.here hx rfl (hb hby at_59) rfl rfl (l' := #[.val (.int p0), .val (.int p1), .val (.int p2), .val (.int p3), .val (.int (0 : Int32)), .val (.int (1 : Int32)), .val (.ref b127), .val (.ref a143), .unset, .unset]) rfl ?_
          show Steps p.tables e below (T143.setTop (mkF m 61 #[.val (.int p0), .val (.int p1), .val (.int p2), .val (.int p3), .val (.int (0 : Int32)), .val (.int (1 : Int32)), .val (.ref b127), .val (.ref a143), .unset, .unset] [])) _
          refine XS.goto X143.here hx rfl (pc0 := 61) (pc' := 94) rfl (hb hby at_61) (by decide) (by decide) ?_
          exact ht
        obtain ⟨T147, h147, X147, e147, E147, A147, D147, -, st147⟩ := newO X143 hx hZ143 hown143 (hw _ (List.mem_of_getElem? (i := 27) rfl)) (hw _ (List.mem_of_getElem? (i := 28) rfl)) (hw _ (List.mem_of_getElem? (i := 29) rfl)) e143 (g := (mkF m 94 #[.val (.int p0), .val (.int p1), .val (.int p2), .val (.int p3), .val (.int (0 : Int32)), .val (.int (1 : Int32)), .val (.ref b127), .val (.ref a143), .unset, .unset] [])) rfl (hb hby at_94) (by decide) (by decide)
        obtain ⟨b147, gq147⟩ : ∃ z, z = h143.size := ⟨_, rfl⟩
        rw [← gq147] at A147 D147 st147
        have g148 : n0 ≤ b147 := (Nat.le_trans Z146 (Nat.le_of_eq gq147.symm))
        have ne149 : b127 ≠ b147 := (Nat.ne_of_lt (Nat.lt_of_lt_of_le f145.lt (Nat.le_of_eq gq147.symm)))
        have f150 := f144.ext E147
        have f151 := f145.ext E147
        have Z152 : n0 ≤ h147.size := (Nat.le_trans Z146 E147.1)
        have kk153 : k143 ≤ h147.size := (Nat.le_trans K143 E147.1)
        have f154 : Fld Z h147 b147 "com/example/querant/querant/measure/CaseVerdict" "evaluationAgrees" "Z" (.int (0 : Int32)) := D147 (Or.inr (hw _ (List.mem_of_getElem? (i := 40) rfl))) (ty := .boolean) (by decide)
        have f155 : Fld Z h147 b147 "com/example/querant/querant/measure/CaseVerdict" "forecastAgrees" "Z" (.int (0 : Int32)) := D147 (Or.inr (hw _ (List.mem_of_getElem? (i := 42) rfl))) (ty := .boolean) (by decide)
        have f156 : Fld Z h147 b147 "com/example/querant/querant/measure/CaseVerdict" "difference" "Ljava/lang/String;" .null := D147 (Or.inr (hw _ (List.mem_of_getElem? (i := 44) rfl))) (ty := (.object "java/lang/String")) (by decide)
        refine OFin.of (S' := T147.setTop (mkF m 97 #[.val (.int p0), .val (.int p1), .val (.int p2), .val (.int p3), .val (.int (0 : Int32)), .val (.int (1 : Int32)), .val (.ref b127), .val (.ref a143), .unset, .unset] [(.ref b147)])) (fun t ht => st147 t ht) ?_
        refine OFin.of (S' := T147.setTop (mkF m 104 #[.val (.int p0), .val (.int p1), .val (.int p2), .val (.int p3), .val (.int (0 : Int32)), .val (.int (1 : Int32)), .val (.ref b127), .val (.ref a143), .unset, .unset] [(.ref a143), (.int (1 : Int32)), (.int (0 : Int32)), (.ref b147), (.ref b147)])) (fun t ht => ?_) ?_
        · refine XS.dup X147.here hx rfl (hb hby at_97) rfl rfl ?_
          show Steps p.tables e below (T147.setTop (mkF m 98 _ [(.ref b147), (.ref b147)])) _
          refine XS.iload X147.here hx rfl (hb hby at_98) rfl ?_
          show Steps p.tables e below (T147.setTop (mkF m 100 _ [(.int (0 : Int32)), (.ref b147), (.ref b147)])) _
          refine XS.iload X147.here hx rfl (hb hby at_100) rfl ?_
          show Steps p.tables e below (T147.setTop (mkF m 102 _ [(.int (1 : Int32)), (.int (0 : Int32)), (.ref b147), (.ref b147)])) _
          refine XS.aload X147.here hx rfl (hb hby at_102) rfl rfl ?_
          exact ht
        obtain ⟨_, _, ⟨T157, L157, k157, n157⟩, -, X157, ⟨Lc157, hQ157, l157, y157, z157⟩, st157⟩ := X147.specialBack hx (y := (⟨"com/example/querant/querant/measure/CaseVerdict", "<init>", "(ZZLjava/lang/String;)V"⟩ : MethodName)) rfl hown143 (mvT hZ143 (hw _ (List.mem_of_getElem? (i := 30) rfl))) (mvT hZ143 (hw _ (List.mem_of_getElem? (i := 31) rfl))) (mvT hZ143 (hw _ (List.mem_of_getElem? (i := 32) rfl))) (by decide) (backOf (W := 1) (rmIni01 l Z _ hw [] b147 a143 h147 n0 Z152 A147 f154 f155 f156 g148) hZ143 (hw _ (List.mem_of_getElem? (i := 32) rfl)) (hw _ (List.mem_of_getElem? (i := 29) rfl)) (by decide) (by decide)) (g := (mkF m 104 #[.val (.int p0), .val (.int p1), .val (.int p2), .val (.int p3), .val (.int (0 : Int32)), .val (.int (1 : Int32)), .val (.ref b127), .val (.ref a143), .unset, .unset] [(.ref a143), (.int (1 : Int32)), (.int (0 : Int32)), (.ref b147), (.ref b147)])) rfl (by rw [hml]; rfl) (Steps.refl _) (a := b147) (argsL := [(.int (0 : Int32)), (.int (1 : Int32)), (.ref a143)]) (rest := [(.ref b147)]) (lenOf pd_8 rfl) rfl (by show 2 * 0 + _ ≤ _; exact Nat.le_of_eq rfl) (hb hby at_104) (fun _ _ => ⟨rfl, e147, (by decide : 4 + 0 ≤ _), (by decide : 9 + 0 ≤ _)⟩)
        dsimp only [Pt.U, Pt.locs, Pt.cells, Pt.slots] at X157 l157 y157 z157 st157 hQ157
        subst l157 y157 z157
        obtain ⟨rfl, Nq157, Kq157, f158, f159, f160⟩ := hQ157
        have N161 := Fr.app N140 Nq157
        have f162 := (own_staKeep f150 Kq157 (own_snS A147 own_sn0))
        have f163 := (f151.keep Kq157 (ninS ne149 nin0))
        have f164 := (A147.keep Kq157)
        have Z165 : n0 ≤ T157.heap.size := (Nat.le_trans Z152 Kq157.1)
        have kk166 : k143 ≤ T157.heap.size := (Nat.le_trans kk153 Kq157.1)
        refine OFin.to (S' := T157.setTop (mkF m 107 #[.val (.int p0), .val (.int p1), .val (.int p2), .val (.int p3), .val (.int (0 : Int32)), .val (.int (1 : Int32)), .val (.ref b127), .val (.ref a143), .unset, .unset] [(.ref b147)])) st157 ?_
        refine OFin.of (S' := T157.setTop (mkF m 136 #[.val (.int p0), .val (.int p1), .val (.int p2), .val (.int p3), .val (.int (0 : Int32)), .val (.int (1 : Int32)), .val (.ref b127), .val (.ref a143), .val (.ref b147), .val (.int (0 : Int32))] [(.ref b147)])) (fun t ht => ?_) ?_
        · refine XS.astore X157.here hx rfl (hb hby at_107) rfl rfl (l' := #[.val (.int p0), .val (.int p1), .val (.int p2), .val (.int p3), .val (.int (0 : Int32)), .val (.int (1 : Int32)), .val (.ref b127), .val (.ref a143), .val (.ref b147), .unset]) rfl ?_
          show Steps p.tables e below (T157.setTop (mkF m 109 #[.val (.int p0), .val (.int p1), .val (.int p2), .val (.int p3), .val (.int (0 : Int32)), .val (.int (1 : Int32)), .val (.ref b127), .val (.ref a143), .val (.ref b147), .unset] [])) _
          refine XS.iload X157.here hx rfl (hb hby at_109) rfl ?_
          show Steps p.tables e below (T157.setTop (mkF m 111 _ [(.int (0 : Int32))])) _
          refine XS.ifYes X157.here hx rfl (pc0 := 111) (pc' := 131) rfl (hb hby at_111) rfl ((if0 _ _).trans (teq (by decide : (0 : Int32) = (0 : Int32))).1) (by decide) (by decide) ?_
          show Steps p.tables e below (T157.setTop (mkF m 131 _ [])) _
          refine XS.iconst X157.here hx rfl (hb hby at_131) ?_
          show Steps p.tables e below (T157.setTop (mkF m 132 _ [(.int (0 : Int32))])) _
          refine XS.istore X157.here hx rfl (hb hby at_132) rfl (l' := #[.val (.int p0), .val (.int p1), .val (.int p2), .val (.int p3), .val (.int (0 : Int32)), .val (.int (1 : Int32)), .val (.ref b127), .val (.ref a143), .val (.ref b147), .val (.int (0 : Int32))]) rfl ?_
          show Steps p.tables e below (T157.setTop (mkF m 134 #[.val (.int p0), .val (.int p1), .val (.int p2), .val (.int p3), .val (.int (0 : Int32)), .val (.int (1 : Int32)), .val (.ref b127), .val (.ref a143), .val (.ref b147), .val (.int (0 : Int32))] [])) _
          refine XS.aload X157.here hx rfl (hb hby at_134) rfl rfl ?_
          exact ht
        obtain ⟨cq168, kq168, q168a, q168b, q168c⟩ := isOf hZ143 (rfl : T157.heap = T157.heap) f164
        obtain ⟨_, _, ⟨T167, L167, k167, n167⟩, -, X167, ⟨Lc167, hQ167, l167, y167, z167⟩, st167⟩ := X157.virtualBack hx (y := (⟨"com/example/querant/querant/measure/CaseVerdict", "agrees", "()Z"⟩ : MethodName)) (z := (⟨"com/example/querant/querant/measure/CaseVerdict", "agrees", "()Z"⟩ : MethodName)) hown143 (mvT hZ143 (hw _ (List.mem_of_getElem? (i := 45) rfl))) (mvT hZ143 (hw _ (List.mem_of_getElem? (i := 46) rfl))) (notFace_of_selects (args := #[]) (mvT hZ143 (hw _ (List.mem_of_getElem? (i := 48) rfl)))) (mvT hZ143 (hw _ (List.mem_of_getElem? (i := 48) rfl))) (mvT hZ143 (hw _ (List.mem_of_getElem? (i := 47) rfl))) (by decide) (backOf (W := 0) (rmAg01 l Z _ hw [] b147 T157.heap n0 Z165 f158 f159) hZ143 (hw _ (List.mem_of_getElem? (i := 49) rfl)) (hw _ (List.mem_of_getElem? (i := 29) rfl)) (by decide) (by decide)) q168a q168c (g := (mkF m 136 #[.val (.int p0), .val (.int p1), .val (.int p2), .val (.int p3), .val (.int (0 : Int32)), .val (.int (1 : Int32)), .val (.ref b127), .val (.ref a143), .val (.ref b147), .val (.int (0 : Int32))] [(.ref b147)])) rfl (by rw [hml]; rfl) (Steps.refl _) (argsL := []) (rest := []) (lenOf pd_9 rfl) rfl (by show 2 * 0 + _ ≤ _; exact Nat.le_of_eq rfl) (hb hby at_136) (fun _ _ => ⟨rfl, (rfl : T157.heap = T157.heap), (by decide : 4 + 0 ≤ _), (by decide : 9 + 0 ≤ _)⟩)
        dsimp only [Pt.U, Pt.locs, Pt.cells, Pt.slots] at X167 l167 y167 z167 st167 hQ167
        subst l167 y167 z167
        obtain ⟨rfl, Nq167, hs167⟩ := hQ167
        have N169 := Fr.app N161 Nq167
        refine OFin.to (S' := T167.setTop (mkF m 139 #[.val (.int p0), .val (.int p1), .val (.int p2), .val (.int p3), .val (.int (0 : Int32)), .val (.int (1 : Int32)), .val (.ref b127), .val (.ref a143), .val (.ref b147), .val (.int (0 : Int32))] [(.int (0 : Int32))])) st167 ?_
        refine OFin.of (S' := T167.setTop (mkF m 149 #[.val (.int p0), .val (.int p1), .val (.int p2), .val (.int p3), .val (.int (0 : Int32)), .val (.int (1 : Int32)), .val (.ref b127), .val (.ref a143), .val (.ref b147), .val (.int (0 : Int32))] [(.int (1 : Int32))])) (fun t ht => ?_) ?_
        · refine XS.iload X167.here hx rfl (hb hby at_139) rfl ?_
          show Steps p.tables e below (T167.setTop (mkF m 141 _ [(.int (0 : Int32)), (.int (0 : Int32))])) _
          refine XS.icmpNo X167.here hx rfl (hb hby at_141) rfl (teq (by decide : (0 : Int32) = (0 : Int32))).2 ?_
          show Steps p.tables e below (T167.setTop (mkF m 144 _ [])) _
          refine XS.iconst X167.here hx rfl (hb hby at_144) ?_
          show Steps p.tables e below (T167.setTop (mkF m 145 _ [(.int (1 : Int32))])) _
          refine XS.goto X167.here hx rfl (pc0 := 145) (pc' := 149) rfl (hb hby at_145) (by decide) (by decide) ?_
          exact ht
        exact OFin.retBW (s := s) (vm₁ := T143.vm) X167 S143 (by rw [hs167]; exact kk166) hx hlk (t := .boolean) (by simp) hret (hb hby at_149) (by decide) (by decide) (by rw [hs167]; exact ⟨rfl, N169⟩)
      · refine OFin.of (S' := T137.setTop (mkF m 68 #[.val (.int p0), .val (.int p1), .val (.int p2), .val (.int p3), .val (.int (0 : Int32)), .val (.int (1 : Int32)), .val (.ref b127), .unset, .unset, .unset] [(.int (1 : Int32)), (.int (p3 &&& (3 : Int32)))])) (fun t ht => ?_) ?_
        · refine XS.ifYes X137.here hx rfl (pc0 := 54) (pc' := 64) rfl (hb hby at_54) rfl ((if0 _ _).trans (feq (hc142 : ¬ ((p3 &&& (3 : Int32)) = (0 : Int32)))).2) (by decide) (by decide) ?_
          show Steps p.tables e below (T137.setTop (mkF m 64 _ [])) _
          refine XS.iloadN X137.here hx rfl (hb hby at_64) rfl ?_
          show Steps p.tables e below (T137.setTop (mkF m 65 _ [(.int p3)])) _
          refine XS.iconst X137.here hx rfl (hb hby at_65) ?_
          show Steps p.tables e below (T137.setTop (mkF m 66 _ [(.int (3 : Int32)), (.int p3)])) _
          refine XS.iand X137.here hx rfl (hb hby at_66) rfl ?_
          show Steps p.tables e below (T137.setTop (mkF m 67 _ [(.int (p3 &&& (3 : Int32)))])) _
          refine XS.iconst X137.here hx rfl (hb hby at_67) ?_
          exact ht
        by_cases hc170 : (p3 &&& (3 : Int32)) = (1 : Int32)
        · refine OFin.of (S' := T137.setTop (mkF m 74 #[.val (.int p0), .val (.int p1), .val (.int p2), .val (.int p3), .val (.int (0 : Int32)), .val (.int (1 : Int32)), .val (.ref b127), .unset, .unset, .unset] [(.int (0 : Int32)), (.ref b127)])) (fun t ht => ?_) ?_
          · refine XS.icmpNo X137.here hx rfl (hb hby at_68) rfl (teq (hc170 : (p3 &&& (3 : Int32)) = (1 : Int32))).2 ?_
            show Steps p.tables e below (T137.setTop (mkF m 71 _ [])) _
            refine XS.aload X137.here hx rfl (hb hby at_71) rfl rfl ?_
            show Steps p.tables e below (T137.setTop (mkF m 73 _ [(.ref b127)])) _
            refine XS.iconst X137.here hx rfl (hb hby at_73) ?_
            exact ht
          obtain ⟨cl171, Ar171, q171, S171, Ng171, H171, G171⟩ := id f141
          have hin171 := inb_of (j := (0 : Int32)) S171 ⟨by decide, by decide⟩
          have hat171 : cl171.slots[((0 : Int32)).toNatClampNeg]? = some (.int (nar .char ((p1 &&& (255 : Int32)).toUInt32.toUInt16.toUInt32.toInt32))) := Has.at H171 hin171 rfl
          refine OFin.of (S' := T137.setTop (mkF m 75 #[.val (.int p0), .val (.int p1), .val (.int p2), .val (.int p3), .val (.int (0 : Int32)), .val (.int (1 : Int32)), .val (.ref b127), .unset, .unset, .unset] [(.int (nar .char ((p1 &&& (255 : Int32)).toUInt32.toUInt16.toUInt32.toInt32)))])) (fun t ht => X137.caload hx (j := (0 : Int32)) (v := (.int (nar .char ((p1 &&& (255 : Int32)).toUInt32.toUInt16.toUInt32.toInt32)))) (by rw [e137]; exact Ar171.1) (State.isArrayOf_alike hZ.alike Ar171.2.1) Ar171.2.2 hin171 hat171 (g := (mkF m 74 #[.val (.int p0), .val (.int p1), .val (.int p2), .val (.int p3), .val (.int (0 : Int32)), .val (.int (1 : Int32)), .val (.ref b127), .unset, .unset, .unset] [(.int (0 : Int32)), (.ref b127)])) rfl rfl (hb hby at_74) _ ht) ?_
          obtain ⟨_, _, ⟨T172, L172, k172, n172⟩, -, X172, ⟨Lc172, hQ172, l172, y172, z172⟩, st172⟩ := Jvm.LawKit.callS X137 hx (y := (⟨"java/lang/String", "valueOf", "(C)Ljava/lang/String;"⟩ : MethodName)) hown (mvT hZ (hw _ (List.mem_of_getElem? (i := 1) rfl))) (mvT hZ (hw _ (List.mem_of_getElem? (i := 2) rfl))) (mvT hZ (hw _ (List.mem_of_getElem? (i := 3) rfl))) (mvT hZ (hw _ (List.mem_of_getElem? (i := 4) rfl))) (by decide) (backOf (W := 0) (rmVo l Z _ hw [] (nar .char ((p1 &&& (255 : Int32)).toUInt32.toUInt16.toUInt32.toInt32)) cs h137 n0 Z139 (own_hp _) f138 hcs) hZ (hw _ (List.mem_of_getElem? (i := 4) rfl)) (hw _ (List.mem_of_getElem? (i := 3) rfl)) (by decide) (by decide)) (g := (mkF m 75 #[.val (.int p0), .val (.int p1), .val (.int p2), .val (.int p3), .val (.int (0 : Int32)), .val (.int (1 : Int32)), .val (.ref b127), .unset, .unset, .unset] [(.int (nar .char ((p1 &&& (255 : Int32)).toUInt32.toUInt16.toUInt32.toInt32)))])) rfl (by rw [hml]; rfl) (argsL := [(.int (nar .char ((p1 &&& (255 : Int32)).toUInt32.toUInt16.toUInt32.toInt32)))]) (rest := []) (lenOf pd_10 rfl) rfl (by show 2 * 0 + _ ≤ _; exact Nat.le_of_eq rfl) (hb hby at_75) (fun _ _ => ⟨rfl, e137, (by decide : 1 + 2 ≤ _), (by decide : 2 + 5 ≤ _)⟩)
          dsimp only [Pt.U, Pt.locs, Pt.cells, Pt.slots] at X172 l172 y172 z172 st172 hQ172
          subst l172 y172 z172
          obtain ⟨rfl, Nq172, Kq172⟩ := hQ172
          have N173 := Fr.app N140 Nq172
          obtain ⟨b172, gq172⟩ : ∃ z, z = h137.size := ⟨_, rfl⟩
          rw [← gq172] at st172
          have g174 : n0 ≤ b172 := (Nat.le_trans Z139 (Nat.le_of_eq gq172.symm))
          have ne175 : b127 ≠ b172 := (Nat.ne_of_lt (Nat.lt_of_lt_of_le f141.lt (Nat.le_of_eq gq172.symm)))
          have f176 := (own_staKeep f138 Kq172 own_sn0)
          have f177 := (f141.keep Kq172 nin0)
          have Z178 : n0 ≤ T172.heap.size := (Nat.le_trans Z139 Kq172.1)
          refine OFin.of (S' := T172.setTop (mkF m 78 #[.val (.int p0), .val (.int p1), .val (.int p2), .val (.int p3), .val (.int (0 : Int32)), .val (.int (1 : Int32)), .val (.ref b127), .unset, .unset, .unset] [(.ref b172)])) (fun t ht => st172 t ht) ?_
          refine OFin.of (S' := T172.setTop (mkF m 94 #[.val (.int p0), .val (.int p1), .val (.int p2), .val (.int p3), .val (.int (0 : Int32)), .val (.int (1 : Int32)), .val (.ref b127), .val (.ref b172), .unset, .unset] [])) (fun t ht => ?_) ?_
          · refine XS.astore X172.here hx rfl (hb hby at_78) rfl rfl (l' := #[.val (.int p0), .val (.int p1), .val (.int p2), .val (.int p3), .val (.int (0 : Int32)), .val (.int (1 : Int32)), .val (.ref b127), .val (.ref b172), .unset, .unset]) rfl ?_
            show Steps p.tables e below (T172.setTop (mkF m 80 #[.val (.int p0), .val (.int p1), .val (.int p2), .val (.int p3), .val (.int (0 : Int32)), .val (.int (1 : Int32)), .val (.ref b127), .val (.ref b172), .unset, .unset] [])) _
            refine XS.goto X172.here hx rfl (pc0 := 80) (pc' := 94) rfl (hb hby at_80) (by decide) (by decide) ?_
            exact ht
          obtain ⟨T179, h179, X179, e179, E179, A179, D179, -, st179⟩ := newO X172 hx hZ hown (hw _ (List.mem_of_getElem? (i := 27) rfl)) (hw _ (List.mem_of_getElem? (i := 28) rfl)) (hw _ (List.mem_of_getElem? (i := 29) rfl)) (rfl : T172.heap = T172.heap) (g := (mkF m 94 #[.val (.int p0), .val (.int p1), .val (.int p2), .val (.int p3), .val (.int (0 : Int32)), .val (.int (1 : Int32)), .val (.ref b127), .val (.ref b172), .unset, .unset] [])) rfl (hb hby at_94) (by decide) (by decide)
          obtain ⟨b179, gq179⟩ : ∃ z, z = T172.heap.size := ⟨_, rfl⟩
          rw [← gq179] at A179 D179 st179
          have g180 : n0 ≤ b179 := (Nat.le_trans Z178 (Nat.le_of_eq gq179.symm))
          have ne181 : b127 ≠ b179 := (Nat.ne_of_lt (Nat.lt_of_lt_of_le f177.lt (Nat.le_of_eq gq179.symm)))
          have f182 := f176.ext E179
          have f183 := f177.ext E179
          have Z184 : n0 ≤ h179.size := (Nat.le_trans Z178 E179.1)
          have f185 : Fld Z h179 b179 "com/example/querant/querant/measure/CaseVerdict" "evaluationAgrees" "Z" (.int (0 : Int32)) := D179 (Or.inr (hw _ (List.mem_of_getElem? (i := 40) rfl))) (ty := .boolean) (by decide)
          have f186 : Fld Z h179 b179 "com/example/querant/querant/measure/CaseVerdict" "forecastAgrees" "Z" (.int (0 : Int32)) := D179 (Or.inr (hw _ (List.mem_of_getElem? (i := 42) rfl))) (ty := .boolean) (by decide)
          have f187 : Fld Z h179 b179 "com/example/querant/querant/measure/CaseVerdict" "difference" "Ljava/lang/String;" .null := D179 (Or.inr (hw _ (List.mem_of_getElem? (i := 44) rfl))) (ty := (.object "java/lang/String")) (by decide)
          refine OFin.of (S' := T179.setTop (mkF m 97 #[.val (.int p0), .val (.int p1), .val (.int p2), .val (.int p3), .val (.int (0 : Int32)), .val (.int (1 : Int32)), .val (.ref b127), .val (.ref b172), .unset, .unset] [(.ref b179)])) (fun t ht => st179 t ht) ?_
          refine OFin.of (S' := T179.setTop (mkF m 104 #[.val (.int p0), .val (.int p1), .val (.int p2), .val (.int p3), .val (.int (0 : Int32)), .val (.int (1 : Int32)), .val (.ref b127), .val (.ref b172), .unset, .unset] [(.ref b172), (.int (1 : Int32)), (.int (0 : Int32)), (.ref b179), (.ref b179)])) (fun t ht => ?_) ?_
          · refine XS.dup X179.here hx rfl (hb hby at_97) rfl rfl ?_
            show Steps p.tables e below (T179.setTop (mkF m 98 _ [(.ref b179), (.ref b179)])) _
            refine XS.iload X179.here hx rfl (hb hby at_98) rfl ?_
            show Steps p.tables e below (T179.setTop (mkF m 100 _ [(.int (0 : Int32)), (.ref b179), (.ref b179)])) _
            refine XS.iload X179.here hx rfl (hb hby at_100) rfl ?_
            show Steps p.tables e below (T179.setTop (mkF m 102 _ [(.int (1 : Int32)), (.int (0 : Int32)), (.ref b179), (.ref b179)])) _
            refine XS.aload X179.here hx rfl (hb hby at_102) rfl rfl ?_
            exact ht
          obtain ⟨_, _, ⟨T188, L188, k188, n188⟩, -, X188, ⟨Lc188, hQ188, l188, y188, z188⟩, st188⟩ := X179.specialBack hx (y := (⟨"com/example/querant/querant/measure/CaseVerdict", "<init>", "(ZZLjava/lang/String;)V"⟩ : MethodName)) rfl hown (mvT hZ (hw _ (List.mem_of_getElem? (i := 30) rfl))) (mvT hZ (hw _ (List.mem_of_getElem? (i := 31) rfl))) (mvT hZ (hw _ (List.mem_of_getElem? (i := 32) rfl))) (by decide) (backOf (W := 1) (rmIni01 l Z _ hw [] b179 b172 h179 n0 Z184 A179 f185 f186 f187 g180) hZ (hw _ (List.mem_of_getElem? (i := 32) rfl)) (hw _ (List.mem_of_getElem? (i := 29) rfl)) (by decide) (by decide)) (g := (mkF m 104 #[.val (.int p0), .val (.int p1), .val (.int p2), .val (.int p3), .val (.int (0 : Int32)), .val (.int (1 : Int32)), .val (.ref b127), .val (.ref b172), .unset, .unset] [(.ref b172), (.int (1 : Int32)), (.int (0 : Int32)), (.ref b179), (.ref b179)])) rfl (by rw [hml]; rfl) (Steps.refl _) (a := b179) (argsL := [(.int (0 : Int32)), (.int (1 : Int32)), (.ref b172)]) (rest := [(.ref b179)]) (lenOf pd_8 rfl) rfl (by show 2 * 0 + _ ≤ _; exact Nat.le_of_eq rfl) (hb hby at_104) (fun _ _ => ⟨rfl, e179, (by decide : 4 + 0 ≤ _), (by decide : 10 + 0 ≤ _)⟩)
          dsimp only [Pt.U, Pt.locs, Pt.cells, Pt.slots] at X188 l188 y188 z188 st188 hQ188
          subst l188 y188 z188
          obtain ⟨rfl, Nq188, Kq188, f189, f190, f191⟩ := hQ188
          have N192 := Fr.app N173 Nq188
          have f193 := (own_staKeep f182 Kq188 (own_snS A179 own_sn0))
          have f194 := (f183.keep Kq188 (ninS ne181 nin0))
          have f195 := (A179.keep Kq188)
          have Z196 : n0 ≤ T188.heap.size := (Nat.le_trans Z184 Kq188.1)
          refine OFin.to (S' := T188.setTop (mkF m 107 #[.val (.int p0), .val (.int p1), .val (.int p2), .val (.int p3), .val (.int (0 : Int32)), .val (.int (1 : Int32)), .val (.ref b127), .val (.ref b172), .unset, .unset] [(.ref b179)])) st188 ?_
          refine OFin.of (S' := T188.setTop (mkF m 136 #[.val (.int p0), .val (.int p1), .val (.int p2), .val (.int p3), .val (.int (0 : Int32)), .val (.int (1 : Int32)), .val (.ref b127), .val (.ref b172), .val (.ref b179), .val (.int (0 : Int32))] [(.ref b179)])) (fun t ht => ?_) ?_
          · refine XS.astore X188.here hx rfl (hb hby at_107) rfl rfl (l' := #[.val (.int p0), .val (.int p1), .val (.int p2), .val (.int p3), .val (.int (0 : Int32)), .val (.int (1 : Int32)), .val (.ref b127), .val (.ref b172), .val (.ref b179), .unset]) rfl ?_
            show Steps p.tables e below (T188.setTop (mkF m 109 #[.val (.int p0), .val (.int p1), .val (.int p2), .val (.int p3), .val (.int (0 : Int32)), .val (.int (1 : Int32)), .val (.ref b127), .val (.ref b172), .val (.ref b179), .unset] [])) _
            refine XS.iload X188.here hx rfl (hb hby at_109) rfl ?_
            show Steps p.tables e below (T188.setTop (mkF m 111 _ [(.int (0 : Int32))])) _
            refine XS.ifYes X188.here hx rfl (pc0 := 111) (pc' := 131) rfl (hb hby at_111) rfl ((if0 _ _).trans (teq (by decide : (0 : Int32) = (0 : Int32))).1) (by decide) (by decide) ?_
            show Steps p.tables e below (T188.setTop (mkF m 131 _ [])) _
            refine XS.iconst X188.here hx rfl (hb hby at_131) ?_
            show Steps p.tables e below (T188.setTop (mkF m 132 _ [(.int (0 : Int32))])) _
            refine XS.istore X188.here hx rfl (hb hby at_132) rfl (l' := #[.val (.int p0), .val (.int p1), .val (.int p2), .val (.int p3), .val (.int (0 : Int32)), .val (.int (1 : Int32)), .val (.ref b127), .val (.ref b172), .val (.ref b179), .val (.int (0 : Int32))]) rfl ?_
            show Steps p.tables e below (T188.setTop (mkF m 134 #[.val (.int p0), .val (.int p1), .val (.int p2), .val (.int p3), .val (.int (0 : Int32)), .val (.int (1 : Int32)), .val (.ref b127), .val (.ref b172), .val (.ref b179), .val (.int (0 : Int32))] [])) _
            refine XS.aload X188.here hx rfl (hb hby at_134) rfl rfl ?_
            exact ht
          obtain ⟨cq198, kq198, q198a, q198b, q198c⟩ := isOf hZ (rfl : T188.heap = T188.heap) f195
          obtain ⟨_, _, ⟨T197, L197, k197, n197⟩, -, X197, ⟨Lc197, hQ197, l197, y197, z197⟩, st197⟩ := X188.virtualBack hx (y := (⟨"com/example/querant/querant/measure/CaseVerdict", "agrees", "()Z"⟩ : MethodName)) (z := (⟨"com/example/querant/querant/measure/CaseVerdict", "agrees", "()Z"⟩ : MethodName)) hown (mvT hZ (hw _ (List.mem_of_getElem? (i := 45) rfl))) (mvT hZ (hw _ (List.mem_of_getElem? (i := 46) rfl))) (notFace_of_selects (args := #[]) (mvT hZ (hw _ (List.mem_of_getElem? (i := 48) rfl)))) (mvT hZ (hw _ (List.mem_of_getElem? (i := 48) rfl))) (mvT hZ (hw _ (List.mem_of_getElem? (i := 47) rfl))) (by decide) (backOf (W := 0) (rmAg01 l Z _ hw [] b179 T188.heap n0 Z196 f189 f190) hZ (hw _ (List.mem_of_getElem? (i := 49) rfl)) (hw _ (List.mem_of_getElem? (i := 29) rfl)) (by decide) (by decide)) q198a q198c (g := (mkF m 136 #[.val (.int p0), .val (.int p1), .val (.int p2), .val (.int p3), .val (.int (0 : Int32)), .val (.int (1 : Int32)), .val (.ref b127), .val (.ref b172), .val (.ref b179), .val (.int (0 : Int32))] [(.ref b179)])) rfl (by rw [hml]; rfl) (Steps.refl _) (argsL := []) (rest := []) (lenOf pd_9 rfl) rfl (by show 2 * 0 + _ ≤ _; exact Nat.le_of_eq rfl) (hb hby at_136) (fun _ _ => ⟨rfl, (rfl : T188.heap = T188.heap), (by decide : 4 + 0 ≤ _), (by decide : 10 + 0 ≤ _)⟩)
          dsimp only [Pt.U, Pt.locs, Pt.cells, Pt.slots] at X197 l197 y197 z197 st197 hQ197
          subst l197 y197 z197
          obtain ⟨rfl, Nq197, hs197⟩ := hQ197
          have N199 := Fr.app N192 Nq197
          refine OFin.to (S' := T197.setTop (mkF m 139 #[.val (.int p0), .val (.int p1), .val (.int p2), .val (.int p3), .val (.int (0 : Int32)), .val (.int (1 : Int32)), .val (.ref b127), .val (.ref b172), .val (.ref b179), .val (.int (0 : Int32))] [(.int (0 : Int32))])) st197 ?_
          refine OFin.of (S' := T197.setTop (mkF m 149 #[.val (.int p0), .val (.int p1), .val (.int p2), .val (.int p3), .val (.int (0 : Int32)), .val (.int (1 : Int32)), .val (.ref b127), .val (.ref b172), .val (.ref b179), .val (.int (0 : Int32))] [(.int (1 : Int32))])) (fun t ht => ?_) ?_
          · refine XS.iload X197.here hx rfl (hb hby at_139) rfl ?_
            show Steps p.tables e below (T197.setTop (mkF m 141 _ [(.int (0 : Int32)), (.int (0 : Int32))])) _
            refine XS.icmpNo X197.here hx rfl (hb hby at_141) rfl (teq (by decide : (0 : Int32) = (0 : Int32))).2 ?_
            show Steps p.tables e below (T197.setTop (mkF m 144 _ [])) _
            refine XS.iconst X197.here hx rfl (hb hby at_144) ?_
            show Steps p.tables e below (T197.setTop (mkF m 145 _ [(.int (1 : Int32))])) _
            refine XS.goto X197.here hx rfl (pc0 := 145) (pc' := 149) rfl (hb hby at_145) (by decide) (by decide) ?_
            exact ht
          exact OFin.retBW (s := s) (vm₁ := s.vm) X197 ((State.WarmedH.refl s).since 0) (Nat.zero_le _) hx hlk (t := .boolean) (by simp) hret (hb hby at_149) (by decide) (by decide) (by rw [hs197]; exact ⟨rfl, N199⟩)
        · refine OFin.of (S' := T137.setTop (mkF m 83 #[.val (.int p0), .val (.int p1), .val (.int p2), .val (.int p3), .val (.int (0 : Int32)), .val (.int (1 : Int32)), .val (.ref b127), .unset, .unset, .unset] [])) (fun t ht => ?_) ?_
          · refine XS.icmpYes X137.here hx rfl (pc0 := 68) (pc' := 83) rfl (hb hby at_68) rfl (feq (hc170 : ¬ ((p3 &&& (3 : Int32)) = (1 : Int32)))).2 (by decide) (by decide) ?_
            exact ht
          obtain ⟨T200, h200, X200, e200, E200, A200, D200, -, st200⟩ := newO X137 hx hZ hown (hw _ (List.mem_of_getElem? (i := 50) rfl)) (hw _ (List.mem_of_getElem? (i := 11) rfl)) (hw _ (List.mem_of_getElem? (i := 3) rfl)) e137 (g := (mkF m 83 #[.val (.int p0), .val (.int p1), .val (.int p2), .val (.int p3), .val (.int (0 : Int32)), .val (.int (1 : Int32)), .val (.ref b127), .unset, .unset, .unset] [])) rfl (hb hby at_83) (by decide) (by decide)
          obtain ⟨b200, gq200⟩ : ∃ z, z = h137.size := ⟨_, rfl⟩
          rw [← gq200] at A200 D200 st200
          have g201 : n0 ≤ b200 := (Nat.le_trans Z139 (Nat.le_of_eq gq200.symm))
          have ne202 : b127 ≠ b200 := (Nat.ne_of_lt (Nat.lt_of_lt_of_le f141.lt (Nat.le_of_eq gq200.symm)))
          have f203 := f138.ext E200
          have f204 := f141.ext E200
          have Z205 : n0 ≤ h200.size := (Nat.le_trans Z139 E200.1)
          have f206 : Fld Z h200 b200 "java/lang/String" "value" "[B" .null := D200 (Or.inr (hw _ (List.mem_of_getElem? (i := 24) rfl))) (ty := (.array .byte)) (by decide)
          have f207 : Fld Z h200 b200 "java/lang/String" "coder" "B" (.int (0 : Int32)) := D200 (Or.inr (hw _ (List.mem_of_getElem? (i := 26) rfl))) (ty := .byte) (by decide)
          refine OFin.of (S' := T200.setTop (mkF m 86 #[.val (.int p0), .val (.int p1), .val (.int p2), .val (.int p3), .val (.int (0 : Int32)), .val (.int (1 : Int32)), .val (.ref b127), .unset, .unset, .unset] [(.ref b200)])) (fun t ht => st200 t ht) ?_
          refine OFin.of (S' := T200.setTop (mkF m 89 #[.val (.int p0), .val (.int p1), .val (.int p2), .val (.int p3), .val (.int (0 : Int32)), .val (.int (1 : Int32)), .val (.ref b127), .unset, .unset, .unset] [(.ref b127), (.ref b200), (.ref b200)])) (fun t ht => ?_) ?_
          · refine XS.dup X200.here hx rfl (hb hby at_86) rfl rfl ?_
            show Steps p.tables e below (T200.setTop (mkF m 87 _ [(.ref b200), (.ref b200)])) _
            refine XS.aload X200.here hx rfl (hb hby at_87) rfl rfl ?_
            exact ht
          obtain ⟨_, _, ⟨T208, L208, k208, n208⟩, -, X208, ⟨Lc208, hQ208, l208, y208, z208⟩, st208⟩ := X200.specialBack hx (y := (⟨"java/lang/String", "<init>", "([C)V"⟩ : MethodName)) rfl hown (mvT hZ (hw _ (List.mem_of_getElem? (i := 51) rfl))) (mvT hZ (hw _ (List.mem_of_getElem? (i := 52) rfl))) (mvT hZ (hw _ (List.mem_of_getElem? (i := 53) rfl))) (by decide) (backOf (W := 1) (rmSi2 l Z _ hw [] b200 b127 k127 cs (nar .char ((p1 &&& (255 : Int32)).toUInt32.toUInt16.toUInt32.toInt32)) (nar .char ((p2 &&& (255 : Int32)).toUInt32.toUInt16.toUInt32.toInt32)) h200 n0 Z205 A200 f207 f206 f204 g201 ne202 f203 hcs (own_hp _) (own_hp _)) hZ (hw _ (List.mem_of_getElem? (i := 53) rfl)) (hw _ (List.mem_of_getElem? (i := 3) rfl)) (by decide) (by decide)) (g := (mkF m 89 #[.val (.int p0), .val (.int p1), .val (.int p2), .val (.int p3), .val (.int (0 : Int32)), .val (.int (1 : Int32)), .val (.ref b127), .unset, .unset, .unset] [(.ref b127), (.ref b200), (.ref b200)])) rfl (by rw [hml]; rfl) (Steps.refl _) (a := b200) (argsL := [(.ref b127)]) (rest := [(.ref b200)]) (lenOf pd_11 rfl) rfl (by show 2 * 0 + _ ≤ _; exact Nat.le_of_eq rfl) (hb hby at_89) (fun _ _ => ⟨rfl, e200, (by decide : 2 + 1 ≤ _), (by decide : 6 + 2 ≤ _)⟩)
          dsimp only [Pt.U, Pt.locs, Pt.cells, Pt.slots] at X208 l208 y208 z208 st208 hQ208
          subst l208 y208 z208
          obtain ⟨rfl, Nq208, Kq208, f209, f210, ⟨kb_208, f211⟩⟩ := hQ208
          have N212 := Fr.app N140 Nq208
          obtain ⟨b208, gq208⟩ : ∃ z, z = h200.size := ⟨_, rfl⟩
          rw [← gq208] at f210 f211
          have g213 : n0 ≤ b208 := (Nat.le_trans Z205 (Nat.le_of_eq gq208.symm))
          have ne214 : b127 ≠ b208 := (Nat.ne_of_lt (Nat.lt_of_lt_of_le f204.lt (Nat.le_of_eq gq208.symm)))
          have ne215 : b200 ≠ b208 := (Nat.ne_of_lt (Nat.lt_of_lt_of_le A200.lt (Nat.le_of_eq gq208.symm)))
          have f216 := (own_staKeep f203 Kq208 (own_snS A200 own_sn0))
          have f217 := (f204.keep Kq208 (ninS ne202 nin0))
          have f218 := (A200.keep Kq208)
          have Z219 : n0 ≤ T208.heap.size := (Nat.le_trans Z205 Kq208.1)
          refine OFin.to (S' := T208.setTop (mkF m 92 #[.val (.int p0), .val (.int p1), .val (.int p2), .val (.int p3), .val (.int (0 : Int32)), .val (.int (1 : Int32)), .val (.ref b127), .unset, .unset, .unset] [(.ref b200)])) st208 ?_
          refine OFin.of (S' := T208.setTop (mkF m 94 #[.val (.int p0), .val (.int p1), .val (.int p2), .val (.int p3), .val (.int (0 : Int32)), .val (.int (1 : Int32)), .val (.ref b127), .val (.ref b200), .unset, .unset] [])) (fun t ht => ?_) ?_
          · refine XS.astore X208.here hx rfl (hb hby at_92) rfl rfl (l' := #[.val (.int p0), .val (.int p1), .val (.int p2), .val (.int p3), .val (.int (0 : Int32)), .val (.int (1 : Int32)), .val (.ref b127), .val (.ref b200), .unset, .unset]) rfl ?_
            exact ht
          obtain ⟨T220, h220, X220, e220, E220, A220, D220, -, st220⟩ := newO X208 hx hZ hown (hw _ (List.mem_of_getElem? (i := 27) rfl)) (hw _ (List.mem_of_getElem? (i := 28) rfl)) (hw _ (List.mem_of_getElem? (i := 29) rfl)) (rfl : T208.heap = T208.heap) (g := (mkF m 94 #[.val (.int p0), .val (.int p1), .val (.int p2), .val (.int p3), .val (.int (0 : Int32)), .val (.int (1 : Int32)), .val (.ref b127), .val (.ref b200), .unset, .unset] [])) rfl (hb hby at_94) (by decide) (by decide)
          obtain ⟨b220, gq220⟩ : ∃ z, z = T208.heap.size := ⟨_, rfl⟩
          rw [← gq220] at A220 D220 st220
          have g221 : n0 ≤ b220 := (Nat.le_trans Z219 (Nat.le_of_eq gq220.symm))
          have ne222 : b127 ≠ b220 := (Nat.ne_of_lt (Nat.lt_of_lt_of_le f217.lt (Nat.le_of_eq gq220.symm)))
          have ne223 : b200 ≠ b220 := (Nat.ne_of_lt (Nat.lt_of_lt_of_le f218.lt (Nat.le_of_eq gq220.symm)))
          have ne224 : b208 ≠ b220 := (Nat.ne_of_lt (Nat.lt_of_lt_of_le f211.lt (Nat.le_of_eq gq220.symm)))
          have f225 := f216.ext E220
          have f226 := f217.ext E220
          have f227 := f218.ext E220
          have f228 := f209.ext E220
          have f229 := f210.ext E220
          have f230 := f211.ext E220
          have Z231 : n0 ≤ h220.size := (Nat.le_trans Z219 E220.1)
          have f232 : Fld Z h220 b220 "com/example/querant/querant/measure/CaseVerdict" "evaluationAgrees" "Z" (.int (0 : Int32)) := D220 (Or.inr (hw _ (List.mem_of_getElem? (i := 40) rfl))) (ty := .boolean) (by decide)
          have f233 : Fld Z h220 b220 "com/example/querant/querant/measure/CaseVerdict" "forecastAgrees" "Z" (.int (0 : Int32)) := D220 (Or.inr (hw _ (List.mem_of_getElem? (i := 42) rfl))) (ty := .boolean) (by decide)
          have f234 : Fld Z h220 b220 "com/example/querant/querant/measure/CaseVerdict" "difference" "Ljava/lang/String;" .null := D220 (Or.inr (hw _ (List.mem_of_getElem? (i := 44) rfl))) (ty := (.object "java/lang/String")) (by decide)
          refine OFin.of (S' := T220.setTop (mkF m 97 #[.val (.int p0), .val (.int p1), .val (.int p2), .val (.int p3), .val (.int (0 : Int32)), .val (.int (1 : Int32)), .val (.ref b127), .val (.ref b200), .unset, .unset] [(.ref b220)])) (fun t ht => st220 t ht) ?_
          refine OFin.of (S' := T220.setTop (mkF m 104 #[.val (.int p0), .val (.int p1), .val (.int p2), .val (.int p3), .val (.int (0 : Int32)), .val (.int (1 : Int32)), .val (.ref b127), .val (.ref b200), .unset, .unset] [(.ref b200), (.int (1 : Int32)), (.int (0 : Int32)), (.ref b220), (.ref b220)])) (fun t ht => ?_) ?_
          · refine XS.dup X220.here hx rfl (hb hby at_97) rfl rfl ?_
            show Steps p.tables e below (T220.setTop (mkF m 98 _ [(.ref b220), (.ref b220)])) _
            refine XS.iload X220.here hx rfl (hb hby at_98) rfl ?_
            show Steps p.tables e below (T220.setTop (mkF m 100 _ [(.int (0 : Int32)), (.ref b220), (.ref b220)])) _
            refine XS.iload X220.here hx rfl (hb hby at_100) rfl ?_
            show Steps p.tables e below (T220.setTop (mkF m 102 _ [(.int (1 : Int32)), (.int (0 : Int32)), (.ref b220), (.ref b220)])) _
            refine XS.aload X220.here hx rfl (hb hby at_102) rfl rfl ?_
            exact ht
          obtain ⟨_, _, ⟨T235, L235, k235, n235⟩, -, X235, ⟨Lc235, hQ235, l235, y235, z235⟩, st235⟩ := X220.specialBack hx (y := (⟨"com/example/querant/querant/measure/CaseVerdict", "<init>", "(ZZLjava/lang/String;)V"⟩ : MethodName)) rfl hown (mvT hZ (hw _ (List.mem_of_getElem? (i := 30) rfl))) (mvT hZ (hw _ (List.mem_of_getElem? (i := 31) rfl))) (mvT hZ (hw _ (List.mem_of_getElem? (i := 32) rfl))) (by decide) (backOf (W := 1) (rmIni01 l Z _ hw [] b220 b200 h220 n0 Z231 A220 f232 f233 f234 g221) hZ (hw _ (List.mem_of_getElem? (i := 32) rfl)) (hw _ (List.mem_of_getElem? (i := 29) rfl)) (by decide) (by decide)) (g := (mkF m 104 #[.val (.int p0), .val (.int p1), .val (.int p2), .val (.int p3), .val (.int (0 : Int32)), .val (.int (1 : Int32)), .val (.ref b127), .val (.ref b200), .unset, .unset] [(.ref b200), (.int (1 : Int32)), (.int (0 : Int32)), (.ref b220), (.ref b220)])) rfl (by rw [hml]; rfl) (Steps.refl _) (a := b220) (argsL := [(.int (0 : Int32)), (.int (1 : Int32)), (.ref b200)]) (rest := [(.ref b220)]) (lenOf pd_8 rfl) rfl (by show 2 * 0 + _ ≤ _; exact Nat.le_of_eq rfl) (hb hby at_104) (fun _ _ => ⟨rfl, e220, (by decide : 4 + 0 ≤ _), (by decide : 11 + 0 ≤ _)⟩)
          dsimp only [Pt.U, Pt.locs, Pt.cells, Pt.slots] at X235 l235 y235 z235 st235 hQ235
          subst l235 y235 z235
          obtain ⟨rfl, Nq235, Kq235, f236, f237, f238⟩ := hQ235
          have N239 := Fr.app N212 Nq235
          have f240 := (own_staKeep f225 Kq235 (own_snS A220 own_sn0))
          have f241 := (f226.keep Kq235 (ninS ne222 nin0))
          have f242 := (f227.keep Kq235)
          have f243 := (f228.keep Kq235 (ninS ne223 nin0))
          have f244 := (f229.keep Kq235 (ninS ne223 nin0))
          have f245 := (f230.keep Kq235 (ninS ne224 nin0))
          have f246 := (A220.keep Kq235)
          have Z247 : n0 ≤ T235.heap.size := (Nat.le_trans Z231 Kq235.1)
          refine OFin.to (S' := T235.setTop (mkF m 107 #[.val (.int p0), .val (.int p1), .val (.int p2), .val (.int p3), .val (.int (0 : Int32)), .val (.int (1 : Int32)), .val (.ref b127), .val (.ref b200), .unset, .unset] [(.ref b220)])) st235 ?_
          refine OFin.of (S' := T235.setTop (mkF m 136 #[.val (.int p0), .val (.int p1), .val (.int p2), .val (.int p3), .val (.int (0 : Int32)), .val (.int (1 : Int32)), .val (.ref b127), .val (.ref b200), .val (.ref b220), .val (.int (0 : Int32))] [(.ref b220)])) (fun t ht => ?_) ?_
          · refine XS.astore X235.here hx rfl (hb hby at_107) rfl rfl (l' := #[.val (.int p0), .val (.int p1), .val (.int p2), .val (.int p3), .val (.int (0 : Int32)), .val (.int (1 : Int32)), .val (.ref b127), .val (.ref b200), .val (.ref b220), .unset]) rfl ?_
            show Steps p.tables e below (T235.setTop (mkF m 109 #[.val (.int p0), .val (.int p1), .val (.int p2), .val (.int p3), .val (.int (0 : Int32)), .val (.int (1 : Int32)), .val (.ref b127), .val (.ref b200), .val (.ref b220), .unset] [])) _
            refine XS.iload X235.here hx rfl (hb hby at_109) rfl ?_
            show Steps p.tables e below (T235.setTop (mkF m 111 _ [(.int (0 : Int32))])) _
            refine XS.ifYes X235.here hx rfl (pc0 := 111) (pc' := 131) rfl (hb hby at_111) rfl ((if0 _ _).trans (teq (by decide : (0 : Int32) = (0 : Int32))).1) (by decide) (by decide) ?_
            show Steps p.tables e below (T235.setTop (mkF m 131 _ [])) _
            refine XS.iconst X235.here hx rfl (hb hby at_131) ?_
            show Steps p.tables e below (T235.setTop (mkF m 132 _ [(.int (0 : Int32))])) _
            refine XS.istore X235.here hx rfl (hb hby at_132) rfl (l' := #[.val (.int p0), .val (.int p1), .val (.int p2), .val (.int p3), .val (.int (0 : Int32)), .val (.int (1 : Int32)), .val (.ref b127), .val (.ref b200), .val (.ref b220), .val (.int (0 : Int32))]) rfl ?_
            show Steps p.tables e below (T235.setTop (mkF m 134 #[.val (.int p0), .val (.int p1), .val (.int p2), .val (.int p3), .val (.int (0 : Int32)), .val (.int (1 : Int32)), .val (.ref b127), .val (.ref b200), .val (.ref b220), .val (.int (0 : Int32))] [])) _
            refine XS.aload X235.here hx rfl (hb hby at_134) rfl rfl ?_
            exact ht
          obtain ⟨cq249, kq249, q249a, q249b, q249c⟩ := isOf hZ (rfl : T235.heap = T235.heap) f246
          obtain ⟨_, _, ⟨T248, L248, k248, n248⟩, -, X248, ⟨Lc248, hQ248, l248, y248, z248⟩, st248⟩ := X235.virtualBack hx (y := (⟨"com/example/querant/querant/measure/CaseVerdict", "agrees", "()Z"⟩ : MethodName)) (z := (⟨"com/example/querant/querant/measure/CaseVerdict", "agrees", "()Z"⟩ : MethodName)) hown (mvT hZ (hw _ (List.mem_of_getElem? (i := 45) rfl))) (mvT hZ (hw _ (List.mem_of_getElem? (i := 46) rfl))) (notFace_of_selects (args := #[]) (mvT hZ (hw _ (List.mem_of_getElem? (i := 48) rfl)))) (mvT hZ (hw _ (List.mem_of_getElem? (i := 48) rfl))) (mvT hZ (hw _ (List.mem_of_getElem? (i := 47) rfl))) (by decide) (backOf (W := 0) (rmAg01 l Z _ hw [] b220 T235.heap n0 Z247 f236 f237) hZ (hw _ (List.mem_of_getElem? (i := 49) rfl)) (hw _ (List.mem_of_getElem? (i := 29) rfl)) (by decide) (by decide)) q249a q249c (g := (mkF m 136 #[.val (.int p0), .val (.int p1), .val (.int p2), .val (.int p3), .val (.int (0 : Int32)), .val (.int (1 : Int32)), .val (.ref b127), .val (.ref b200), .val (.ref b220), .val (.int (0 : Int32))] [(.ref b220)])) rfl (by rw [hml]; rfl) (Steps.refl _) (argsL := []) (rest := []) (lenOf pd_9 rfl) rfl (by show 2 * 0 + _ ≤ _; exact Nat.le_of_eq rfl) (hb hby at_136) (fun _ _ => ⟨rfl, (rfl : T235.heap = T235.heap), (by decide : 4 + 0 ≤ _), (by decide : 11 + 0 ≤ _)⟩)
          dsimp only [Pt.U, Pt.locs, Pt.cells, Pt.slots] at X248 l248 y248 z248 st248 hQ248
          subst l248 y248 z248
          obtain ⟨rfl, Nq248, hs248⟩ := hQ248
          have N250 := Fr.app N239 Nq248
          refine OFin.to (S' := T248.setTop (mkF m 139 #[.val (.int p0), .val (.int p1), .val (.int p2), .val (.int p3), .val (.int (0 : Int32)), .val (.int (1 : Int32)), .val (.ref b127), .val (.ref b200), .val (.ref b220), .val (.int (0 : Int32))] [(.int (0 : Int32))])) st248 ?_
          refine OFin.of (S' := T248.setTop (mkF m 149 #[.val (.int p0), .val (.int p1), .val (.int p2), .val (.int p3), .val (.int (0 : Int32)), .val (.int (1 : Int32)), .val (.ref b127), .val (.ref b200), .val (.ref b220), .val (.int (0 : Int32))] [(.int (1 : Int32))])) (fun t ht => ?_) ?_
          · refine XS.iload X248.here hx rfl (hb hby at_139) rfl ?_
            show Steps p.tables e below (T248.setTop (mkF m 141 _ [(.int (0 : Int32)), (.int (0 : Int32))])) _
            refine XS.icmpNo X248.here hx rfl (hb hby at_141) rfl (teq (by decide : (0 : Int32) = (0 : Int32))).2 ?_
            show Steps p.tables e below (T248.setTop (mkF m 144 _ [])) _
            refine XS.iconst X248.here hx rfl (hb hby at_144) ?_
            show Steps p.tables e below (T248.setTop (mkF m 145 _ [(.int (1 : Int32))])) _
            refine XS.goto X248.here hx rfl (pc0 := 145) (pc' := 149) rfl (hb hby at_145) (by decide) (by decide) ?_
            exact ht
          exact OFin.retBW (s := s) (vm₁ := s.vm) X248 ((State.WarmedH.refl s).since 0) (Nat.zero_le _) hx hlk (t := .boolean) (by simp) hret (hb hby at_149) (by decide) (by decide) (by rw [hs248]; exact ⟨rfl, N250⟩)
  · refine OFin.of (S' := s₁.setTop (mkF m 16 #[.val (.int p0), .val (.int p1), .val (.int p2), .val (.int p3), .val (.int (1 : Int32)), .unset, .unset, .unset, .unset, .unset] [(.int (p0 &&& (2 : Int32)))])) (fun t ht => ?_) ?_
    · refine XS.ifNo X0.here hx rfl (hb hby at_3) rfl ((if0 _ _).trans (feq (hc1 : ¬ ((p0 &&& (1 : Int32)) = (0 : Int32)))).1) ?_
      show Steps p.tables e below (s₁.setTop (mkF m 6 _ [])) _
      refine XS.iconst X0.here hx rfl (hb hby at_6) ?_
      show Steps p.tables e below (s₁.setTop (mkF m 7 _ [(.int (1 : Int32))])) _
      refine XS.goto X0.here hx rfl (pc0 := 7) (pc' := 11) rfl (hb hby at_7) (by decide) (by decide) ?_
      show Steps p.tables e below (s₁.setTop (mkF m 11 _ [(.int (1 : Int32))])) _
      refine XS.istore X0.here hx rfl (hb hby at_11) rfl (l' := #[.val (.int p0), .val (.int p1), .val (.int p2), .val (.int p3), .val (.int (1 : Int32)), .unset, .unset, .unset, .unset, .unset]) rfl ?_
      show Steps p.tables e below (s₁.setTop (mkF m 13 #[.val (.int p0), .val (.int p1), .val (.int p2), .val (.int p3), .val (.int (1 : Int32)), .unset, .unset, .unset, .unset, .unset] [])) _
      refine XS.iloadN X0.here hx rfl (hb hby at_13) rfl ?_
      show Steps p.tables e below (s₁.setTop (mkF m 14 _ [(.int p0)])) _
      refine XS.iconst X0.here hx rfl (hb hby at_14) ?_
      show Steps p.tables e below (s₁.setTop (mkF m 15 _ [(.int (2 : Int32)), (.int p0)])) _
      refine XS.iand X0.here hx rfl (hb hby at_15) rfl ?_
      exact ht
    by_cases hc251 : (p0 &&& (2 : Int32)) = (0 : Int32)
    · refine OFin.of (S' := s₁.setTop (mkF m 27 #[.val (.int p0), .val (.int p1), .val (.int p2), .val (.int p3), .val (.int (1 : Int32)), .val (.int (0 : Int32)), .unset, .unset, .unset, .unset] [(.int (2 : Int32))])) (fun t ht => ?_) ?_
      · refine XS.ifYes X0.here hx rfl (pc0 := 16) (pc' := 23) rfl (hb hby at_16) rfl ((if0 _ _).trans (teq (hc251 : (p0 &&& (2 : Int32)) = (0 : Int32))).1) (by decide) (by decide) ?_
        show Steps p.tables e below (s₁.setTop (mkF m 23 _ [])) _
        refine XS.iconst X0.here hx rfl (hb hby at_23) ?_
        show Steps p.tables e below (s₁.setTop (mkF m 24 _ [(.int (0 : Int32))])) _
        refine XS.istore X0.here hx rfl (hb hby at_24) rfl (l' := #[.val (.int p0), .val (.int p1), .val (.int p2), .val (.int p3), .val (.int (1 : Int32)), .val (.int (0 : Int32)), .unset, .unset, .unset, .unset]) rfl ?_
        show Steps p.tables e below (s₁.setTop (mkF m 26 #[.val (.int p0), .val (.int p1), .val (.int p2), .val (.int p3), .val (.int (1 : Int32)), .val (.int (0 : Int32)), .unset, .unset, .unset, .unset] [])) _
        refine XS.iconst X0.here hx rfl (hb hby at_26) ?_
        exact ht
      obtain ⟨T252, h252, k252, X252, e252, E252, A252, st252⟩ := newP X0 hx hZ (hw _ (List.mem_of_getElem? (i := 0) rfl)) e0 (g := (mkF m 27 #[.val (.int p0), .val (.int p1), .val (.int p2), .val (.int p3), .val (.int (1 : Int32)), .val (.int (0 : Int32)), .unset, .unset, .unset, .unset] [(.int (2 : Int32))])) rfl (hb hby at_27) rfl (by decide) (cap := 2) (by decide) (by decide) (by decide) (by decide)
      obtain ⟨b252, gq252⟩ : ∃ z, z = h0.size := ⟨_, rfl⟩
      rw [← gq252] at A252 st252
      have g253 : n0 ≤ b252 := (Nat.le_trans Z0 (Nat.le_of_eq gq252.symm))
      have f254 := Scs.ext E252
      have Z255 : n0 ≤ h252.size := (Nat.le_trans Z0 E252.1)
      have f256 : Arv Z h252 b252 k252 .char (2 : Int32) [(.int (0 : Int32)), (.int (0 : Int32))] (.int (0 : Int32)) := ((Arv.new A252 (by decide)).pad (pad_rep [] (.int (0 : Int32)) 2))
      refine OFin.of (S' := T252.setTop (mkF m 29 #[.val (.int p0), .val (.int p1), .val (.int p2), .val (.int p3), .val (.int (1 : Int32)), .val (.int (0 : Int32)), .unset, .unset, .unset, .unset] [(.ref b252)])) (fun t ht => st252 t ht) ?_
      refine OFin.of (S' := T252.setTop (mkF m 40 #[.val (.int p0), .val (.int p1), .val (.int p2), .val (.int p3), .val (.int (1 : Int32)), .val (.int (0 : Int32)), .val (.ref b252), .unset, .unset, .unset] [(.int ((p1 &&& (255 : Int32)).toUInt32.toUInt16.toUInt32.toInt32)), (.int (0 : Int32)), (.ref b252)])) (fun t ht => ?_) ?_
      · refine XS.astore X252.here hx rfl (hb hby at_29) rfl rfl (l' := #[.val (.int p0), .val (.int p1), .val (.int p2), .val (.int p3), .val (.int (1 : Int32)), .val (.int (0 : Int32)), .val (.ref b252), .unset, .unset, .unset]) rfl ?_
        show Steps p.tables e below (T252.setTop (mkF m 31 #[.val (.int p0), .val (.int p1), .val (.int p2), .val (.int p3), .val (.int (1 : Int32)), .val (.int (0 : Int32)), .val (.ref b252), .unset, .unset, .unset] [])) _
        refine XS.aload X252.here hx rfl (hb hby at_31) rfl rfl ?_
        show Steps p.tables e below (T252.setTop (mkF m 33 _ [(.ref b252)])) _
        refine XS.iconst X252.here hx rfl (hb hby at_33) ?_
        show Steps p.tables e below (T252.setTop (mkF m 34 _ [(.int (0 : Int32)), (.ref b252)])) _
        refine XS.iloadN X252.here hx rfl (hb hby at_34) rfl ?_
        show Steps p.tables e below (T252.setTop (mkF m 35 _ [(.int p1), (.int (0 : Int32)), (.ref b252)])) _
        refine XS.sipush X252.here hx rfl (hb hby at_35) ?_
        show Steps p.tables e below (T252.setTop (mkF m 38 _ [(.int (255 : Int32)), (.int p1), (.int (0 : Int32)), (.ref b252)])) _
        refine XS.iand X252.here hx rfl (hb hby at_38) rfl ?_
        show Steps p.tables e below (T252.setTop (mkF m 39 _ [(.int (p1 &&& (255 : Int32))), (.int (0 : Int32)), (.ref b252)])) _
        refine XS.i2c X252.here hx rfl (hb hby at_39) rfl ?_
        exact ht
      obtain ⟨cl257, Ar257, q257, S257, Ng257, H257, G257⟩ := id f256
      have hin257 := inb_of (j := (0 : Int32)) S257 ⟨by decide, by decide⟩
      obtain ⟨T257, h257, X257, e257, W257, st257⟩ := stC X252 hx hZ e252 Ar257 (j := (0 : Int32)) hin257 (g := (mkF m 40 #[.val (.int p0), .val (.int p1), .val (.int p2), .val (.int p3), .val (.int (1 : Int32)), .val (.int (0 : Int32)), .val (.ref b252), .unset, .unset, .unset] [(.int ((p1 &&& (255 : Int32)).toUInt32.toUInt16.toUInt32.toInt32)), (.int (0 : Int32)), (.ref b252)])) rfl rfl (hb hby at_40)
      have f258 := (f254.wr W257)
      have Z259 : n0 ≤ h257.size := (Nat.le_trans Z255 (Keep.of_wr W257).1)
      have N260 := Fr.snoc X257 N0 g253
      have f261 : Arv Z h257 b252 k252 .char (2 : Int32) [(.int (nar .char ((p1 &&& (255 : Int32)).toUInt32.toUInt16.toUInt32.toInt32))), (.int (0 : Int32))] (.int (0 : Int32)) := Arv.set Ar257 q257 S257 Ng257 H257 G257 (fits_nar_char _) W257 0 rfl (Nat.le_of_ble_eq_true rfl)
      refine OFin.of (S' := T257.setTop (mkF m 41 #[.val (.int p0), .val (.int p1), .val (.int p2), .val (.int p3), .val (.int (1 : Int32)), .val (.int (0 : Int32)), .val (.ref b252), .unset, .unset, .unset] [])) (fun t ht => st257 t ht) ?_
      refine OFin.of (S' := T257.setTop (mkF m 50 #[.val (.int p0), .val (.int p1), .val (.int p2), .val (.int p3), .val (.int (1 : Int32)), .val (.int (0 : Int32)), .val (.ref b252), .unset, .unset, .unset] [(.int ((p2 &&& (255 : Int32)).toUInt32.toUInt16.toUInt32.toInt32)), (.int (1 : Int32)), (.ref b252)])) (fun t ht => ?_) ?_
      · refine XS.aload X257.here hx rfl (hb hby at_41) rfl rfl ?_
        show Steps p.tables e below (T257.setTop (mkF m 43 _ [(.ref b252)])) _
        refine XS.iconst X257.here hx rfl (hb hby at_43) ?_
        show Steps p.tables e below (T257.setTop (mkF m 44 _ [(.int (1 : Int32)), (.ref b252)])) _
        refine XS.iloadN X257.here hx rfl (hb hby at_44) rfl ?_
        show Steps p.tables e below (T257.setTop (mkF m 45 _ [(.int p2), (.int (1 : Int32)), (.ref b252)])) _
        refine XS.sipush X257.here hx rfl (hb hby at_45) ?_
        show Steps p.tables e below (T257.setTop (mkF m 48 _ [(.int (255 : Int32)), (.int p2), (.int (1 : Int32)), (.ref b252)])) _
        refine XS.iand X257.here hx rfl (hb hby at_48) rfl ?_
        show Steps p.tables e below (T257.setTop (mkF m 49 _ [(.int (p2 &&& (255 : Int32))), (.int (1 : Int32)), (.ref b252)])) _
        refine XS.i2c X257.here hx rfl (hb hby at_49) rfl ?_
        exact ht
      obtain ⟨cl262, Ar262, q262, S262, Ng262, H262, G262⟩ := id f261
      have hin262 := inb_of (j := (1 : Int32)) S262 ⟨by decide, by decide⟩
      obtain ⟨T262, h262, X262, e262, W262, st262⟩ := stC X257 hx hZ e257 Ar262 (j := (1 : Int32)) hin262 (g := (mkF m 50 #[.val (.int p0), .val (.int p1), .val (.int p2), .val (.int p3), .val (.int (1 : Int32)), .val (.int (0 : Int32)), .val (.ref b252), .unset, .unset, .unset] [(.int ((p2 &&& (255 : Int32)).toUInt32.toUInt16.toUInt32.toInt32)), (.int (1 : Int32)), (.ref b252)])) rfl rfl (hb hby at_50)
      have f263 := (f258.wr W262)
      have Z264 : n0 ≤ h262.size := (Nat.le_trans Z259 (Keep.of_wr W262).1)
      have N265 := Fr.snoc X262 N260 g253
      have f266 : Arv Z h262 b252 k252 .char (2 : Int32) [(.int (nar .char ((p1 &&& (255 : Int32)).toUInt32.toUInt16.toUInt32.toInt32))), (.int (nar .char ((p2 &&& (255 : Int32)).toUInt32.toUInt16.toUInt32.toInt32)))] (.int (0 : Int32)) := Arv.set Ar262 q262 S262 Ng262 H262 G262 (fits_nar_char _) W262 1 rfl (Nat.le_of_ble_eq_true rfl)
      refine OFin.of (S' := T262.setTop (mkF m 51 #[.val (.int p0), .val (.int p1), .val (.int p2), .val (.int p3), .val (.int (1 : Int32)), .val (.int (0 : Int32)), .val (.ref b252), .unset, .unset, .unset] [])) (fun t ht => st262 t ht) ?_
      refine OFin.of (S' := T262.setTop (mkF m 54 #[.val (.int p0), .val (.int p1), .val (.int p2), .val (.int p3), .val (.int (1 : Int32)), .val (.int (0 : Int32)), .val (.ref b252), .unset, .unset, .unset] [(.int (p3 &&& (3 : Int32)))])) (fun t ht => ?_) ?_
      · refine XS.iloadN X262.here hx rfl (hb hby at_51) rfl ?_
        show Steps p.tables e below (T262.setTop (mkF m 52 _ [(.int p3)])) _
        refine XS.iconst X262.here hx rfl (hb hby at_52) ?_
        show Steps p.tables e below (T262.setTop (mkF m 53 _ [(.int (3 : Int32)), (.int p3)])) _
        refine XS.iand X262.here hx rfl (hb hby at_53) rfl ?_
        exact ht
      by_cases hc267 : (p3 &&& (3 : Int32)) = (0 : Int32)
      · refine OFin.of (S' := T262.setTop (mkF m 57 #[.val (.int p0), .val (.int p1), .val (.int p2), .val (.int p3), .val (.int (1 : Int32)), .val (.int (0 : Int32)), .val (.ref b252), .unset, .unset, .unset] [])) (fun t ht => ?_) ?_
        · refine XS.ifNo X262.here hx rfl (hb hby at_54) rfl ((if0 _ _).trans (teq (hc267 : (p3 &&& (3 : Int32)) = (0 : Int32))).2) ?_
          exact ht
        obtain ⟨a268, T268, h268, k268, X268, e268, E268, S268, K268, hZ268, hown268, st268⟩ := ldcS (s := s) (vm0 := s.vm) X262 hx hZ hown (hw _ (List.mem_of_getElem? (i := 67) rfl)) (own_strAtoms hw) e262 ((State.WarmedH.refl s).since h262.size) (Nat.le_refl _) (g := (mkF m 57 #[.val (.int p0), .val (.int p1), .val (.int p2), .val (.int p3), .val (.int (1 : Int32)), .val (.int (0 : Int32)), .val (.ref b252), .unset, .unset, .unset] [])) rfl (hb hby at_57) (n := 0) (by decide) (by decide) (by decide) (by decide)
        have f269 := f263.ext E268
        have f270 := f266.ext E268
        have Z271 : n0 ≤ h268.size := (Nat.le_trans Z264 E268.1)
        refine OFin.of (S' := T268.setTop (mkF m 59 #[.val (.int p0), .val (.int p1), .val (.int p2), .val (.int p3), .val (.int (1 : Int32)), .val (.int (0 : Int32)), .val (.ref b252), .unset, .unset, .unset] [(.ref a268)])) (fun t ht => st268 t ht) ?_
        refine OFin.of (S' := T268.setTop (mkF m 94 #[.val (.int p0), .val (.int p1), .val (.int p2), .val (.int p3), .val (.int (1 : Int32)), .val (.int (0 : Int32)), .val (.ref b252), .val (.ref a268), .unset, .unset] [])) (fun t ht => ?_) ?_
        · refine XS.astore X268.here hx rfl (hb hby at_59) rfl rfl (l' := #[.val (.int p0), .val (.int p1), .val (.int p2), .val (.int p3), .val (.int (1 : Int32)), .val (.int (0 : Int32)), .val (.ref b252), .val (.ref a268), .unset, .unset]) rfl ?_
          show Steps p.tables e below (T268.setTop (mkF m 61 #[.val (.int p0), .val (.int p1), .val (.int p2), .val (.int p3), .val (.int (1 : Int32)), .val (.int (0 : Int32)), .val (.ref b252), .val (.ref a268), .unset, .unset] [])) _
          refine XS.goto X268.here hx rfl (pc0 := 61) (pc' := 94) rfl (hb hby at_61) (by decide) (by decide) ?_
          exact ht
        obtain ⟨T272, h272, X272, e272, E272, A272, D272, -, st272⟩ := newO X268 hx hZ268 hown268 (hw _ (List.mem_of_getElem? (i := 27) rfl)) (hw _ (List.mem_of_getElem? (i := 28) rfl)) (hw _ (List.mem_of_getElem? (i := 29) rfl)) e268 (g := (mkF m 94 #[.val (.int p0), .val (.int p1), .val (.int p2), .val (.int p3), .val (.int (1 : Int32)), .val (.int (0 : Int32)), .val (.ref b252), .val (.ref a268), .unset, .unset] [])) rfl (hb hby at_94) (by decide) (by decide)
        obtain ⟨b272, gq272⟩ : ∃ z, z = h268.size := ⟨_, rfl⟩
        rw [← gq272] at A272 D272 st272
        have g273 : n0 ≤ b272 := (Nat.le_trans Z271 (Nat.le_of_eq gq272.symm))
        have ne274 : b252 ≠ b272 := (Nat.ne_of_lt (Nat.lt_of_lt_of_le f270.lt (Nat.le_of_eq gq272.symm)))
        have f275 := f269.ext E272
        have f276 := f270.ext E272
        have Z277 : n0 ≤ h272.size := (Nat.le_trans Z271 E272.1)
        have kk278 : k268 ≤ h272.size := (Nat.le_trans K268 E272.1)
        have f279 : Fld Z h272 b272 "com/example/querant/querant/measure/CaseVerdict" "evaluationAgrees" "Z" (.int (0 : Int32)) := D272 (Or.inr (hw _ (List.mem_of_getElem? (i := 40) rfl))) (ty := .boolean) (by decide)
        have f280 : Fld Z h272 b272 "com/example/querant/querant/measure/CaseVerdict" "forecastAgrees" "Z" (.int (0 : Int32)) := D272 (Or.inr (hw _ (List.mem_of_getElem? (i := 42) rfl))) (ty := .boolean) (by decide)
        have f281 : Fld Z h272 b272 "com/example/querant/querant/measure/CaseVerdict" "difference" "Ljava/lang/String;" .null := D272 (Or.inr (hw _ (List.mem_of_getElem? (i := 44) rfl))) (ty := (.object "java/lang/String")) (by decide)
        refine OFin.of (S' := T272.setTop (mkF m 97 #[.val (.int p0), .val (.int p1), .val (.int p2), .val (.int p3), .val (.int (1 : Int32)), .val (.int (0 : Int32)), .val (.ref b252), .val (.ref a268), .unset, .unset] [(.ref b272)])) (fun t ht => st272 t ht) ?_
        refine OFin.of (S' := T272.setTop (mkF m 104 #[.val (.int p0), .val (.int p1), .val (.int p2), .val (.int p3), .val (.int (1 : Int32)), .val (.int (0 : Int32)), .val (.ref b252), .val (.ref a268), .unset, .unset] [(.ref a268), (.int (0 : Int32)), (.int (1 : Int32)), (.ref b272), (.ref b272)])) (fun t ht => ?_) ?_
        · refine XS.dup X272.here hx rfl (hb hby at_97) rfl rfl ?_
          show Steps p.tables e below (T272.setTop (mkF m 98 _ [(.ref b272), (.ref b272)])) _
          refine XS.iload X272.here hx rfl (hb hby at_98) rfl ?_
          show Steps p.tables e below (T272.setTop (mkF m 100 _ [(.int (1 : Int32)), (.ref b272), (.ref b272)])) _
          refine XS.iload X272.here hx rfl (hb hby at_100) rfl ?_
          show Steps p.tables e below (T272.setTop (mkF m 102 _ [(.int (0 : Int32)), (.int (1 : Int32)), (.ref b272), (.ref b272)])) _
          refine XS.aload X272.here hx rfl (hb hby at_102) rfl rfl ?_
          exact ht
        obtain ⟨_, _, ⟨T282, L282, k282, n282⟩, -, X282, ⟨Lc282, hQ282, l282, y282, z282⟩, st282⟩ := X272.specialBack hx (y := (⟨"com/example/querant/querant/measure/CaseVerdict", "<init>", "(ZZLjava/lang/String;)V"⟩ : MethodName)) rfl hown268 (mvT hZ268 (hw _ (List.mem_of_getElem? (i := 30) rfl))) (mvT hZ268 (hw _ (List.mem_of_getElem? (i := 31) rfl))) (mvT hZ268 (hw _ (List.mem_of_getElem? (i := 32) rfl))) (by decide) (backOf (W := 1) (rmIni10 l Z _ hw [] b272 a268 h272 n0 Z277 A272 f279 f280 f281 g273) hZ268 (hw _ (List.mem_of_getElem? (i := 32) rfl)) (hw _ (List.mem_of_getElem? (i := 29) rfl)) (by decide) (by decide)) (g := (mkF m 104 #[.val (.int p0), .val (.int p1), .val (.int p2), .val (.int p3), .val (.int (1 : Int32)), .val (.int (0 : Int32)), .val (.ref b252), .val (.ref a268), .unset, .unset] [(.ref a268), (.int (0 : Int32)), (.int (1 : Int32)), (.ref b272), (.ref b272)])) rfl (by rw [hml]; rfl) (Steps.refl _) (a := b272) (argsL := [(.int (1 : Int32)), (.int (0 : Int32)), (.ref a268)]) (rest := [(.ref b272)]) (lenOf pd_8 rfl) rfl (by show 2 * 0 + _ ≤ _; exact Nat.le_of_eq rfl) (hb hby at_104) (fun _ _ => ⟨rfl, e272, (by decide : 4 + 0 ≤ _), (by decide : 9 + 0 ≤ _)⟩)
        dsimp only [Pt.U, Pt.locs, Pt.cells, Pt.slots] at X282 l282 y282 z282 st282 hQ282
        subst l282 y282 z282
        obtain ⟨rfl, Nq282, Kq282, f283, f284, f285⟩ := hQ282
        have N286 := Fr.app N265 Nq282
        have f287 := (own_staKeep f275 Kq282 (own_snS A272 own_sn0))
        have f288 := (f276.keep Kq282 (ninS ne274 nin0))
        have f289 := (A272.keep Kq282)
        have Z290 : n0 ≤ T282.heap.size := (Nat.le_trans Z277 Kq282.1)
        have kk291 : k268 ≤ T282.heap.size := (Nat.le_trans kk278 Kq282.1)
        refine OFin.to (S' := T282.setTop (mkF m 107 #[.val (.int p0), .val (.int p1), .val (.int p2), .val (.int p3), .val (.int (1 : Int32)), .val (.int (0 : Int32)), .val (.ref b252), .val (.ref a268), .unset, .unset] [(.ref b272)])) st282 ?_
        refine OFin.of (S' := T282.setTop (mkF m 136 #[.val (.int p0), .val (.int p1), .val (.int p2), .val (.int p3), .val (.int (1 : Int32)), .val (.int (0 : Int32)), .val (.ref b252), .val (.ref a268), .val (.ref b272), .val (.int (0 : Int32))] [(.ref b272)])) (fun t ht => ?_) ?_
        · refine XS.astore X282.here hx rfl (hb hby at_107) rfl rfl (l' := #[.val (.int p0), .val (.int p1), .val (.int p2), .val (.int p3), .val (.int (1 : Int32)), .val (.int (0 : Int32)), .val (.ref b252), .val (.ref a268), .val (.ref b272), .unset]) rfl ?_
          show Steps p.tables e below (T282.setTop (mkF m 109 #[.val (.int p0), .val (.int p1), .val (.int p2), .val (.int p3), .val (.int (1 : Int32)), .val (.int (0 : Int32)), .val (.ref b252), .val (.ref a268), .val (.ref b272), .unset] [])) _
          refine XS.iload X282.here hx rfl (hb hby at_109) rfl ?_
          show Steps p.tables e below (T282.setTop (mkF m 111 _ [(.int (1 : Int32))])) _
          refine XS.ifNo X282.here hx rfl (hb hby at_111) rfl ((if0 _ _).trans (feq (by decide : ¬ ((1 : Int32) = (0 : Int32)))).1) ?_
          show Steps p.tables e below (T282.setTop (mkF m 114 _ [])) _
          refine XS.iload X282.here hx rfl (hb hby at_114) rfl ?_
          show Steps p.tables e below (T282.setTop (mkF m 116 _ [(.int (0 : Int32))])) _
          refine XS.ifYes X282.here hx rfl (pc0 := 116) (pc' := 125) rfl (hb hby at_116) rfl ((if0 _ _).trans (teq (by decide : (0 : Int32) = (0 : Int32))).1) (by decide) (by decide) ?_
          show Steps p.tables e below (T282.setTop (mkF m 125 _ [])) _
          refine XS.iconst X282.here hx rfl (hb hby at_125) ?_
          show Steps p.tables e below (T282.setTop (mkF m 126 _ [(.int (0 : Int32))])) _
          refine XS.istore X282.here hx rfl (hb hby at_126) rfl (l' := #[.val (.int p0), .val (.int p1), .val (.int p2), .val (.int p3), .val (.int (1 : Int32)), .val (.int (0 : Int32)), .val (.ref b252), .val (.ref a268), .val (.ref b272), .val (.int (0 : Int32))]) rfl ?_
          show Steps p.tables e below (T282.setTop (mkF m 128 #[.val (.int p0), .val (.int p1), .val (.int p2), .val (.int p3), .val (.int (1 : Int32)), .val (.int (0 : Int32)), .val (.ref b252), .val (.ref a268), .val (.ref b272), .val (.int (0 : Int32))] [])) _
          refine XS.goto X282.here hx rfl (pc0 := 128) (pc' := 134) rfl (hb hby at_128) (by decide) (by decide) ?_
          show Steps p.tables e below (T282.setTop (mkF m 134 _ [])) _
          refine XS.aload X282.here hx rfl (hb hby at_134) rfl rfl ?_
          exact ht
        obtain ⟨cq293, kq293, q293a, q293b, q293c⟩ := isOf hZ268 (rfl : T282.heap = T282.heap) f289
        obtain ⟨_, _, ⟨T292, L292, k292, n292⟩, -, X292, ⟨Lc292, hQ292, l292, y292, z292⟩, st292⟩ := X282.virtualBack hx (y := (⟨"com/example/querant/querant/measure/CaseVerdict", "agrees", "()Z"⟩ : MethodName)) (z := (⟨"com/example/querant/querant/measure/CaseVerdict", "agrees", "()Z"⟩ : MethodName)) hown268 (mvT hZ268 (hw _ (List.mem_of_getElem? (i := 45) rfl))) (mvT hZ268 (hw _ (List.mem_of_getElem? (i := 46) rfl))) (notFace_of_selects (args := #[]) (mvT hZ268 (hw _ (List.mem_of_getElem? (i := 48) rfl)))) (mvT hZ268 (hw _ (List.mem_of_getElem? (i := 48) rfl))) (mvT hZ268 (hw _ (List.mem_of_getElem? (i := 47) rfl))) (by decide) (backOf (W := 0) (rmAg10 l Z _ hw [] b272 T282.heap n0 Z290 f283 f284) hZ268 (hw _ (List.mem_of_getElem? (i := 49) rfl)) (hw _ (List.mem_of_getElem? (i := 29) rfl)) (by decide) (by decide)) q293a q293c (g := (mkF m 136 #[.val (.int p0), .val (.int p1), .val (.int p2), .val (.int p3), .val (.int (1 : Int32)), .val (.int (0 : Int32)), .val (.ref b252), .val (.ref a268), .val (.ref b272), .val (.int (0 : Int32))] [(.ref b272)])) rfl (by rw [hml]; rfl) (Steps.refl _) (argsL := []) (rest := []) (lenOf pd_9 rfl) rfl (by show 2 * 0 + _ ≤ _; exact Nat.le_of_eq rfl) (hb hby at_136) (fun _ _ => ⟨rfl, (rfl : T282.heap = T282.heap), (by decide : 4 + 0 ≤ _), (by decide : 9 + 0 ≤ _)⟩)
        dsimp only [Pt.U, Pt.locs, Pt.cells, Pt.slots] at X292 l292 y292 z292 st292 hQ292
        subst l292 y292 z292
        obtain ⟨rfl, Nq292, hs292⟩ := hQ292
        have N294 := Fr.app N286 Nq292
        refine OFin.to (S' := T292.setTop (mkF m 139 #[.val (.int p0), .val (.int p1), .val (.int p2), .val (.int p3), .val (.int (1 : Int32)), .val (.int (0 : Int32)), .val (.ref b252), .val (.ref a268), .val (.ref b272), .val (.int (0 : Int32))] [(.int (0 : Int32))])) st292 ?_
        refine OFin.of (S' := T292.setTop (mkF m 149 #[.val (.int p0), .val (.int p1), .val (.int p2), .val (.int p3), .val (.int (1 : Int32)), .val (.int (0 : Int32)), .val (.ref b252), .val (.ref a268), .val (.ref b272), .val (.int (0 : Int32))] [(.int (1 : Int32))])) (fun t ht => ?_) ?_
        · refine XS.iload X292.here hx rfl (hb hby at_139) rfl ?_
          show Steps p.tables e below (T292.setTop (mkF m 141 _ [(.int (0 : Int32)), (.int (0 : Int32))])) _
          refine XS.icmpNo X292.here hx rfl (hb hby at_141) rfl (teq (by decide : (0 : Int32) = (0 : Int32))).2 ?_
          show Steps p.tables e below (T292.setTop (mkF m 144 _ [])) _
          refine XS.iconst X292.here hx rfl (hb hby at_144) ?_
          show Steps p.tables e below (T292.setTop (mkF m 145 _ [(.int (1 : Int32))])) _
          refine XS.goto X292.here hx rfl (pc0 := 145) (pc' := 149) rfl (hb hby at_145) (by decide) (by decide) ?_
          exact ht
        exact OFin.retBW (s := s) (vm₁ := T268.vm) X292 S268 (by rw [hs292]; exact kk291) hx hlk (t := .boolean) (by simp) hret (hb hby at_149) (by decide) (by decide) (by rw [hs292]; exact ⟨rfl, N294⟩)
      · refine OFin.of (S' := T262.setTop (mkF m 68 #[.val (.int p0), .val (.int p1), .val (.int p2), .val (.int p3), .val (.int (1 : Int32)), .val (.int (0 : Int32)), .val (.ref b252), .unset, .unset, .unset] [(.int (1 : Int32)), (.int (p3 &&& (3 : Int32)))])) (fun t ht => ?_) ?_
        · refine XS.ifYes X262.here hx rfl (pc0 := 54) (pc' := 64) rfl (hb hby at_54) rfl ((if0 _ _).trans (feq (hc267 : ¬ ((p3 &&& (3 : Int32)) = (0 : Int32)))).2) (by decide) (by decide) ?_
          show Steps p.tables e below (T262.setTop (mkF m 64 _ [])) _
          refine XS.iloadN X262.here hx rfl (hb hby at_64) rfl ?_
          show Steps p.tables e below (T262.setTop (mkF m 65 _ [(.int p3)])) _
          refine XS.iconst X262.here hx rfl (hb hby at_65) ?_
          show Steps p.tables e below (T262.setTop (mkF m 66 _ [(.int (3 : Int32)), (.int p3)])) _
          refine XS.iand X262.here hx rfl (hb hby at_66) rfl ?_
          show Steps p.tables e below (T262.setTop (mkF m 67 _ [(.int (p3 &&& (3 : Int32)))])) _
          refine XS.iconst X262.here hx rfl (hb hby at_67) ?_
          exact ht
        by_cases hc295 : (p3 &&& (3 : Int32)) = (1 : Int32)
        · refine OFin.of (S' := T262.setTop (mkF m 74 #[.val (.int p0), .val (.int p1), .val (.int p2), .val (.int p3), .val (.int (1 : Int32)), .val (.int (0 : Int32)), .val (.ref b252), .unset, .unset, .unset] [(.int (0 : Int32)), (.ref b252)])) (fun t ht => ?_) ?_
          · refine XS.icmpNo X262.here hx rfl (hb hby at_68) rfl (teq (hc295 : (p3 &&& (3 : Int32)) = (1 : Int32))).2 ?_
            show Steps p.tables e below (T262.setTop (mkF m 71 _ [])) _
            refine XS.aload X262.here hx rfl (hb hby at_71) rfl rfl ?_
            show Steps p.tables e below (T262.setTop (mkF m 73 _ [(.ref b252)])) _
            refine XS.iconst X262.here hx rfl (hb hby at_73) ?_
            exact ht
          obtain ⟨cl296, Ar296, q296, S296, Ng296, H296, G296⟩ := id f266
          have hin296 := inb_of (j := (0 : Int32)) S296 ⟨by decide, by decide⟩
          have hat296 : cl296.slots[((0 : Int32)).toNatClampNeg]? = some (.int (nar .char ((p1 &&& (255 : Int32)).toUInt32.toUInt16.toUInt32.toInt32))) := Has.at H296 hin296 rfl
          refine OFin.of (S' := T262.setTop (mkF m 75 #[.val (.int p0), .val (.int p1), .val (.int p2), .val (.int p3), .val (.int (1 : Int32)), .val (.int (0 : Int32)), .val (.ref b252), .unset, .unset, .unset] [(.int (nar .char ((p1 &&& (255 : Int32)).toUInt32.toUInt16.toUInt32.toInt32)))])) (fun t ht => X262.caload hx (j := (0 : Int32)) (v := (.int (nar .char ((p1 &&& (255 : Int32)).toUInt32.toUInt16.toUInt32.toInt32)))) (by rw [e262]; exact Ar296.1) (State.isArrayOf_alike hZ.alike Ar296.2.1) Ar296.2.2 hin296 hat296 (g := (mkF m 74 #[.val (.int p0), .val (.int p1), .val (.int p2), .val (.int p3), .val (.int (1 : Int32)), .val (.int (0 : Int32)), .val (.ref b252), .unset, .unset, .unset] [(.int (0 : Int32)), (.ref b252)])) rfl rfl (hb hby at_74) _ ht) ?_
          obtain ⟨_, _, ⟨T297, L297, k297, n297⟩, -, X297, ⟨Lc297, hQ297, l297, y297, z297⟩, st297⟩ := Jvm.LawKit.callS X262 hx (y := (⟨"java/lang/String", "valueOf", "(C)Ljava/lang/String;"⟩ : MethodName)) hown (mvT hZ (hw _ (List.mem_of_getElem? (i := 1) rfl))) (mvT hZ (hw _ (List.mem_of_getElem? (i := 2) rfl))) (mvT hZ (hw _ (List.mem_of_getElem? (i := 3) rfl))) (mvT hZ (hw _ (List.mem_of_getElem? (i := 4) rfl))) (by decide) (backOf (W := 0) (rmVo l Z _ hw [] (nar .char ((p1 &&& (255 : Int32)).toUInt32.toUInt16.toUInt32.toInt32)) cs h262 n0 Z264 (own_hp _) f263 hcs) hZ (hw _ (List.mem_of_getElem? (i := 4) rfl)) (hw _ (List.mem_of_getElem? (i := 3) rfl)) (by decide) (by decide)) (g := (mkF m 75 #[.val (.int p0), .val (.int p1), .val (.int p2), .val (.int p3), .val (.int (1 : Int32)), .val (.int (0 : Int32)), .val (.ref b252), .unset, .unset, .unset] [(.int (nar .char ((p1 &&& (255 : Int32)).toUInt32.toUInt16.toUInt32.toInt32)))])) rfl (by rw [hml]; rfl) (argsL := [(.int (nar .char ((p1 &&& (255 : Int32)).toUInt32.toUInt16.toUInt32.toInt32)))]) (rest := []) (lenOf pd_10 rfl) rfl (by show 2 * 0 + _ ≤ _; exact Nat.le_of_eq rfl) (hb hby at_75) (fun _ _ => ⟨rfl, e262, (by decide : 1 + 2 ≤ _), (by decide : 2 + 5 ≤ _)⟩)
          dsimp only [Pt.U, Pt.locs, Pt.cells, Pt.slots] at X297 l297 y297 z297 st297 hQ297
          subst l297 y297 z297
          obtain ⟨rfl, Nq297, Kq297⟩ := hQ297
          have N298 := Fr.app N265 Nq297
          obtain ⟨b297, gq297⟩ : ∃ z, z = h262.size := ⟨_, rfl⟩
          rw [← gq297] at st297
          have g299 : n0 ≤ b297 := (Nat.le_trans Z264 (Nat.le_of_eq gq297.symm))
          have ne300 : b252 ≠ b297 := (Nat.ne_of_lt (Nat.lt_of_lt_of_le f266.lt (Nat.le_of_eq gq297.symm)))
          have f301 := (own_staKeep f263 Kq297 own_sn0)
          have f302 := (f266.keep Kq297 nin0)
          have Z303 : n0 ≤ T297.heap.size := (Nat.le_trans Z264 Kq297.1)
          refine OFin.of (S' := T297.setTop (mkF m 78 #[.val (.int p0), .val (.int p1), .val (.int p2), .val (.int p3), .val (.int (1 : Int32)), .val (.int (0 : Int32)), .val (.ref b252), .unset, .unset, .unset] [(.ref b297)])) (fun t ht => st297 t ht) ?_
          refine OFin.of (S' := T297.setTop (mkF m 94 #[.val (.int p0), .val (.int p1), .val (.int p2), .val (.int p3), .val (.int (1 : Int32)), .val (.int (0 : Int32)), .val (.ref b252), .val (.ref b297), .unset, .unset] [])) (fun t ht => ?_) ?_
          · refine XS.astore X297.here hx rfl (hb hby at_78) rfl rfl (l' := #[.val (.int p0), .val (.int p1), .val (.int p2), .val (.int p3), .val (.int (1 : Int32)), .val (.int (0 : Int32)), .val (.ref b252), .val (.ref b297), .unset, .unset]) rfl ?_
            show Steps p.tables e below (T297.setTop (mkF m 80 #[.val (.int p0), .val (.int p1), .val (.int p2), .val (.int p3), .val (.int (1 : Int32)), .val (.int (0 : Int32)), .val (.ref b252), .val (.ref b297), .unset, .unset] [])) _
            refine XS.goto X297.here hx rfl (pc0 := 80) (pc' := 94) rfl (hb hby at_80) (by decide) (by decide) ?_
            exact ht
          obtain ⟨T304, h304, X304, e304, E304, A304, D304, -, st304⟩ := newO X297 hx hZ hown (hw _ (List.mem_of_getElem? (i := 27) rfl)) (hw _ (List.mem_of_getElem? (i := 28) rfl)) (hw _ (List.mem_of_getElem? (i := 29) rfl)) (rfl : T297.heap = T297.heap) (g := (mkF m 94 #[.val (.int p0), .val (.int p1), .val (.int p2), .val (.int p3), .val (.int (1 : Int32)), .val (.int (0 : Int32)), .val (.ref b252), .val (.ref b297), .unset, .unset] [])) rfl (hb hby at_94) (by decide) (by decide)
          obtain ⟨b304, gq304⟩ : ∃ z, z = T297.heap.size := ⟨_, rfl⟩
          rw [← gq304] at A304 D304 st304
          have g305 : n0 ≤ b304 := (Nat.le_trans Z303 (Nat.le_of_eq gq304.symm))
          have ne306 : b252 ≠ b304 := (Nat.ne_of_lt (Nat.lt_of_lt_of_le f302.lt (Nat.le_of_eq gq304.symm)))
          have f307 := f301.ext E304
          have f308 := f302.ext E304
          have Z309 : n0 ≤ h304.size := (Nat.le_trans Z303 E304.1)
          have f310 : Fld Z h304 b304 "com/example/querant/querant/measure/CaseVerdict" "evaluationAgrees" "Z" (.int (0 : Int32)) := D304 (Or.inr (hw _ (List.mem_of_getElem? (i := 40) rfl))) (ty := .boolean) (by decide)
          have f311 : Fld Z h304 b304 "com/example/querant/querant/measure/CaseVerdict" "forecastAgrees" "Z" (.int (0 : Int32)) := D304 (Or.inr (hw _ (List.mem_of_getElem? (i := 42) rfl))) (ty := .boolean) (by decide)
          have f312 : Fld Z h304 b304 "com/example/querant/querant/measure/CaseVerdict" "difference" "Ljava/lang/String;" .null := D304 (Or.inr (hw _ (List.mem_of_getElem? (i := 44) rfl))) (ty := (.object "java/lang/String")) (by decide)
          refine OFin.of (S' := T304.setTop (mkF m 97 #[.val (.int p0), .val (.int p1), .val (.int p2), .val (.int p3), .val (.int (1 : Int32)), .val (.int (0 : Int32)), .val (.ref b252), .val (.ref b297), .unset, .unset] [(.ref b304)])) (fun t ht => st304 t ht) ?_
          refine OFin.of (S' := T304.setTop (mkF m 104 #[.val (.int p0), .val (.int p1), .val (.int p2), .val (.int p3), .val (.int (1 : Int32)), .val (.int (0 : Int32)), .val (.ref b252), .val (.ref b297), .unset, .unset] [(.ref b297), (.int (0 : Int32)), (.int (1 : Int32)), (.ref b304), (.ref b304)])) (fun t ht => ?_) ?_
          · refine XS.dup X304.here hx rfl (hb hby at_97) rfl rfl ?_
            show Steps p.tables e below (T304.setTop (mkF m 98 _ [(.ref b304), (.ref b304)])) _
            refine XS.iload X304.here hx rfl (hb hby at_98) rfl ?_
            show Steps p.tables e below (T304.setTop (mkF m 100 _ [(.int (1 : Int32)), (.ref b304), (.ref b304)])) _
            refine XS.iload X304.here hx rfl (hb hby at_100) rfl ?_
            show Steps p.tables e below (T304.setTop (mkF m 102 _ [(.int (0 : Int32)), (.int (1 : Int32)), (.ref b304), (.ref b304)])) _
            refine XS.aload X304.here hx rfl (hb hby at_102) rfl rfl ?_
            exact ht
          obtain ⟨_, _, ⟨T313, L313, k313, n313⟩, -, X313, ⟨Lc313, hQ313, l313, y313, z313⟩, st313⟩ := X304.specialBack hx (y := (⟨"com/example/querant/querant/measure/CaseVerdict", "<init>", "(ZZLjava/lang/String;)V"⟩ : MethodName)) rfl hown (mvT hZ (hw _ (List.mem_of_getElem? (i := 30) rfl))) (mvT hZ (hw _ (List.mem_of_getElem? (i := 31) rfl))) (mvT hZ (hw _ (List.mem_of_getElem? (i := 32) rfl))) (by decide) (backOf (W := 1) (rmIni10 l Z _ hw [] b304 b297 h304 n0 Z309 A304 f310 f311 f312 g305) hZ (hw _ (List.mem_of_getElem? (i := 32) rfl)) (hw _ (List.mem_of_getElem? (i := 29) rfl)) (by decide) (by decide)) (g := (mkF m 104 #[.val (.int p0), .val (.int p1), .val (.int p2), .val (.int p3), .val (.int (1 : Int32)), .val (.int (0 : Int32)), .val (.ref b252), .val (.ref b297), .unset, .unset] [(.ref b297), (.int (0 : Int32)), (.int (1 : Int32)), (.ref b304), (.ref b304)])) rfl (by rw [hml]; rfl) (Steps.refl _) (a := b304) (argsL := [(.int (1 : Int32)), (.int (0 : Int32)), (.ref b297)]) (rest := [(.ref b304)]) (lenOf pd_8 rfl) rfl (by show 2 * 0 + _ ≤ _; exact Nat.le_of_eq rfl) (hb hby at_104) (fun _ _ => ⟨rfl, e304, (by decide : 4 + 0 ≤ _), (by decide : 10 + 0 ≤ _)⟩)
          dsimp only [Pt.U, Pt.locs, Pt.cells, Pt.slots] at X313 l313 y313 z313 st313 hQ313
          subst l313 y313 z313
          obtain ⟨rfl, Nq313, Kq313, f314, f315, f316⟩ := hQ313
          have N317 := Fr.app N298 Nq313
          have f318 := (own_staKeep f307 Kq313 (own_snS A304 own_sn0))
          have f319 := (f308.keep Kq313 (ninS ne306 nin0))
          have f320 := (A304.keep Kq313)
          have Z321 : n0 ≤ T313.heap.size := (Nat.le_trans Z309 Kq313.1)
          refine OFin.to (S' := T313.setTop (mkF m 107 #[.val (.int p0), .val (.int p1), .val (.int p2), .val (.int p3), .val (.int (1 : Int32)), .val (.int (0 : Int32)), .val (.ref b252), .val (.ref b297), .unset, .unset] [(.ref b304)])) st313 ?_
          refine OFin.of (S' := T313.setTop (mkF m 136 #[.val (.int p0), .val (.int p1), .val (.int p2), .val (.int p3), .val (.int (1 : Int32)), .val (.int (0 : Int32)), .val (.ref b252), .val (.ref b297), .val (.ref b304), .val (.int (0 : Int32))] [(.ref b304)])) (fun t ht => ?_) ?_
          · refine XS.astore X313.here hx rfl (hb hby at_107) rfl rfl (l' := #[.val (.int p0), .val (.int p1), .val (.int p2), .val (.int p3), .val (.int (1 : Int32)), .val (.int (0 : Int32)), .val (.ref b252), .val (.ref b297), .val (.ref b304), .unset]) rfl ?_
            show Steps p.tables e below (T313.setTop (mkF m 109 #[.val (.int p0), .val (.int p1), .val (.int p2), .val (.int p3), .val (.int (1 : Int32)), .val (.int (0 : Int32)), .val (.ref b252), .val (.ref b297), .val (.ref b304), .unset] [])) _
            refine XS.iload X313.here hx rfl (hb hby at_109) rfl ?_
            show Steps p.tables e below (T313.setTop (mkF m 111 _ [(.int (1 : Int32))])) _
            refine XS.ifNo X313.here hx rfl (hb hby at_111) rfl ((if0 _ _).trans (feq (by decide : ¬ ((1 : Int32) = (0 : Int32)))).1) ?_
            show Steps p.tables e below (T313.setTop (mkF m 114 _ [])) _
            refine XS.iload X313.here hx rfl (hb hby at_114) rfl ?_
            show Steps p.tables e below (T313.setTop (mkF m 116 _ [(.int (0 : Int32))])) _
            refine XS.ifYes X313.here hx rfl (pc0 := 116) (pc' := 125) rfl (hb hby at_116) rfl ((if0 _ _).trans (teq (by decide : (0 : Int32) = (0 : Int32))).1) (by decide) (by decide) ?_
            show Steps p.tables e below (T313.setTop (mkF m 125 _ [])) _
            refine XS.iconst X313.here hx rfl (hb hby at_125) ?_
            show Steps p.tables e below (T313.setTop (mkF m 126 _ [(.int (0 : Int32))])) _
            refine XS.istore X313.here hx rfl (hb hby at_126) rfl (l' := #[.val (.int p0), .val (.int p1), .val (.int p2), .val (.int p3), .val (.int (1 : Int32)), .val (.int (0 : Int32)), .val (.ref b252), .val (.ref b297), .val (.ref b304), .val (.int (0 : Int32))]) rfl ?_
            show Steps p.tables e below (T313.setTop (mkF m 128 #[.val (.int p0), .val (.int p1), .val (.int p2), .val (.int p3), .val (.int (1 : Int32)), .val (.int (0 : Int32)), .val (.ref b252), .val (.ref b297), .val (.ref b304), .val (.int (0 : Int32))] [])) _
            refine XS.goto X313.here hx rfl (pc0 := 128) (pc' := 134) rfl (hb hby at_128) (by decide) (by decide) ?_
            show Steps p.tables e below (T313.setTop (mkF m 134 _ [])) _
            refine XS.aload X313.here hx rfl (hb hby at_134) rfl rfl ?_
            exact ht
          obtain ⟨cq323, kq323, q323a, q323b, q323c⟩ := isOf hZ (rfl : T313.heap = T313.heap) f320
          obtain ⟨_, _, ⟨T322, L322, k322, n322⟩, -, X322, ⟨Lc322, hQ322, l322, y322, z322⟩, st322⟩ := X313.virtualBack hx (y := (⟨"com/example/querant/querant/measure/CaseVerdict", "agrees", "()Z"⟩ : MethodName)) (z := (⟨"com/example/querant/querant/measure/CaseVerdict", "agrees", "()Z"⟩ : MethodName)) hown (mvT hZ (hw _ (List.mem_of_getElem? (i := 45) rfl))) (mvT hZ (hw _ (List.mem_of_getElem? (i := 46) rfl))) (notFace_of_selects (args := #[]) (mvT hZ (hw _ (List.mem_of_getElem? (i := 48) rfl)))) (mvT hZ (hw _ (List.mem_of_getElem? (i := 48) rfl))) (mvT hZ (hw _ (List.mem_of_getElem? (i := 47) rfl))) (by decide) (backOf (W := 0) (rmAg10 l Z _ hw [] b304 T313.heap n0 Z321 f314 f315) hZ (hw _ (List.mem_of_getElem? (i := 49) rfl)) (hw _ (List.mem_of_getElem? (i := 29) rfl)) (by decide) (by decide)) q323a q323c (g := (mkF m 136 #[.val (.int p0), .val (.int p1), .val (.int p2), .val (.int p3), .val (.int (1 : Int32)), .val (.int (0 : Int32)), .val (.ref b252), .val (.ref b297), .val (.ref b304), .val (.int (0 : Int32))] [(.ref b304)])) rfl (by rw [hml]; rfl) (Steps.refl _) (argsL := []) (rest := []) (lenOf pd_9 rfl) rfl (by show 2 * 0 + _ ≤ _; exact Nat.le_of_eq rfl) (hb hby at_136) (fun _ _ => ⟨rfl, (rfl : T313.heap = T313.heap), (by decide : 4 + 0 ≤ _), (by decide : 10 + 0 ≤ _)⟩)
          dsimp only [Pt.U, Pt.locs, Pt.cells, Pt.slots] at X322 l322 y322 z322 st322 hQ322
          subst l322 y322 z322
          obtain ⟨rfl, Nq322, hs322⟩ := hQ322
          have N324 := Fr.app N317 Nq322
          refine OFin.to (S' := T322.setTop (mkF m 139 #[.val (.int p0), .val (.int p1), .val (.int p2), .val (.int p3), .val (.int (1 : Int32)), .val (.int (0 : Int32)), .val (.ref b252), .val (.ref b297), .val (.ref b304), .val (.int (0 : Int32))] [(.int (0 : Int32))])) st322 ?_
          refine OFin.of (S' := T322.setTop (mkF m 149 #[.val (.int p0), .val (.int p1), .val (.int p2), .val (.int p3), .val (.int (1 : Int32)), .val (.int (0 : Int32)), .val (.ref b252), .val (.ref b297), .val (.ref b304), .val (.int (0 : Int32))] [(.int (1 : Int32))])) (fun t ht => ?_) ?_
          · refine XS.iload X322.here hx rfl (hb hby at_139) rfl ?_
            show Steps p.tables e below (T322.setTop (mkF m 141 _ [(.int (0 : Int32)), (.int (0 : Int32))])) _
            refine XS.icmpNo X322.here hx rfl (hb hby at_141) rfl (teq (by decide : (0 : Int32) = (0 : Int32))).2 ?_
            show Steps p.tables e below (T322.setTop (mkF m 144 _ [])) _
            refine XS.iconst X322.here hx rfl (hb hby at_144) ?_
            show Steps p.tables e below (T322.setTop (mkF m 145 _ [(.int (1 : Int32))])) _
            refine XS.goto X322.here hx rfl (pc0 := 145) (pc' := 149) rfl (hb hby at_145) (by decide) (by decide) ?_
            exact ht
          exact OFin.retBW (s := s) (vm₁ := s.vm) X322 ((State.WarmedH.refl s).since 0) (Nat.zero_le _) hx hlk (t := .boolean) (by simp) hret (hb hby at_149) (by decide) (by decide) (by rw [hs322]; exact ⟨rfl, N324⟩)
        · refine OFin.of (S' := T262.setTop (mkF m 83 #[.val (.int p0), .val (.int p1), .val (.int p2), .val (.int p3), .val (.int (1 : Int32)), .val (.int (0 : Int32)), .val (.ref b252), .unset, .unset, .unset] [])) (fun t ht => ?_) ?_
          · refine XS.icmpYes X262.here hx rfl (pc0 := 68) (pc' := 83) rfl (hb hby at_68) rfl (feq (hc295 : ¬ ((p3 &&& (3 : Int32)) = (1 : Int32)))).2 (by decide) (by decide) ?_
            exact ht
          obtain ⟨T325, h325, X325, e325, E325, A325, D325, -, st325⟩ := newO X262 hx hZ hown (hw _ (List.mem_of_getElem? (i := 50) rfl)) (hw _ (List.mem_of_getElem? (i := 11) rfl)) (hw _ (List.mem_of_getElem? (i := 3) rfl)) e262 (g := (mkF m 83 #[.val (.int p0), .val (.int p1), .val (.int p2), .val (.int p3), .val (.int (1 : Int32)), .val (.int (0 : Int32)), .val (.ref b252), .unset, .unset, .unset] [])) rfl (hb hby at_83) (by decide) (by decide)
          obtain ⟨b325, gq325⟩ : ∃ z, z = h262.size := ⟨_, rfl⟩
          rw [← gq325] at A325 D325 st325
          have g326 : n0 ≤ b325 := (Nat.le_trans Z264 (Nat.le_of_eq gq325.symm))
          have ne327 : b252 ≠ b325 := (Nat.ne_of_lt (Nat.lt_of_lt_of_le f266.lt (Nat.le_of_eq gq325.symm)))
          have f328 := f263.ext E325
          have f329 := f266.ext E325
          have Z330 : n0 ≤ h325.size := (Nat.le_trans Z264 E325.1)
          have f331 : Fld Z h325 b325 "java/lang/String" "value" "[B" .null := D325 (Or.inr (hw _ (List.mem_of_getElem? (i := 24) rfl))) (ty := (.array .byte)) (by decide)
          have f332 : Fld Z h325 b325 "java/lang/String" "coder" "B" (.int (0 : Int32)) := D325 (Or.inr (hw _ (List.mem_of_getElem? (i := 26) rfl))) (ty := .byte) (by decide)
          refine OFin.of (S' := T325.setTop (mkF m 86 #[.val (.int p0), .val (.int p1), .val (.int p2), .val (.int p3), .val (.int (1 : Int32)), .val (.int (0 : Int32)), .val (.ref b252), .unset, .unset, .unset] [(.ref b325)])) (fun t ht => st325 t ht) ?_
          refine OFin.of (S' := T325.setTop (mkF m 89 #[.val (.int p0), .val (.int p1), .val (.int p2), .val (.int p3), .val (.int (1 : Int32)), .val (.int (0 : Int32)), .val (.ref b252), .unset, .unset, .unset] [(.ref b252), (.ref b325), (.ref b325)])) (fun t ht => ?_) ?_
          · refine XS.dup X325.here hx rfl (hb hby at_86) rfl rfl ?_
            show Steps p.tables e below (T325.setTop (mkF m 87 _ [(.ref b325), (.ref b325)])) _
            refine XS.aload X325.here hx rfl (hb hby at_87) rfl rfl ?_
            exact ht
          obtain ⟨_, _, ⟨T333, L333, k333, n333⟩, -, X333, ⟨Lc333, hQ333, l333, y333, z333⟩, st333⟩ := X325.specialBack hx (y := (⟨"java/lang/String", "<init>", "([C)V"⟩ : MethodName)) rfl hown (mvT hZ (hw _ (List.mem_of_getElem? (i := 51) rfl))) (mvT hZ (hw _ (List.mem_of_getElem? (i := 52) rfl))) (mvT hZ (hw _ (List.mem_of_getElem? (i := 53) rfl))) (by decide) (backOf (W := 1) (rmSi2 l Z _ hw [] b325 b252 k252 cs (nar .char ((p1 &&& (255 : Int32)).toUInt32.toUInt16.toUInt32.toInt32)) (nar .char ((p2 &&& (255 : Int32)).toUInt32.toUInt16.toUInt32.toInt32)) h325 n0 Z330 A325 f332 f331 f329 g326 ne327 f328 hcs (own_hp _) (own_hp _)) hZ (hw _ (List.mem_of_getElem? (i := 53) rfl)) (hw _ (List.mem_of_getElem? (i := 3) rfl)) (by decide) (by decide)) (g := (mkF m 89 #[.val (.int p0), .val (.int p1), .val (.int p2), .val (.int p3), .val (.int (1 : Int32)), .val (.int (0 : Int32)), .val (.ref b252), .unset, .unset, .unset] [(.ref b252), (.ref b325), (.ref b325)])) rfl (by rw [hml]; rfl) (Steps.refl _) (a := b325) (argsL := [(.ref b252)]) (rest := [(.ref b325)]) (lenOf pd_11 rfl) rfl (by show 2 * 0 + _ ≤ _; exact Nat.le_of_eq rfl) (hb hby at_89) (fun _ _ => ⟨rfl, e325, (by decide : 2 + 1 ≤ _), (by decide : 6 + 2 ≤ _)⟩)
          dsimp only [Pt.U, Pt.locs, Pt.cells, Pt.slots] at X333 l333 y333 z333 st333 hQ333
          subst l333 y333 z333
          obtain ⟨rfl, Nq333, Kq333, f334, f335, ⟨kb_333, f336⟩⟩ := hQ333
          have N337 := Fr.app N265 Nq333
          obtain ⟨b333, gq333⟩ : ∃ z, z = h325.size := ⟨_, rfl⟩
          rw [← gq333] at f335 f336
          have g338 : n0 ≤ b333 := (Nat.le_trans Z330 (Nat.le_of_eq gq333.symm))
          have ne339 : b252 ≠ b333 := (Nat.ne_of_lt (Nat.lt_of_lt_of_le f329.lt (Nat.le_of_eq gq333.symm)))
          have ne340 : b325 ≠ b333 := (Nat.ne_of_lt (Nat.lt_of_lt_of_le A325.lt (Nat.le_of_eq gq333.symm)))
          have f341 := (own_staKeep f328 Kq333 (own_snS A325 own_sn0))
          have f342 := (f329.keep Kq333 (ninS ne327 nin0))
          have f343 := (A325.keep Kq333)
          have Z344 : n0 ≤ T333.heap.size := (Nat.le_trans Z330 Kq333.1)
          refine OFin.to (S' := T333.setTop (mkF m 92 #[.val (.int p0), .val (.int p1), .val (.int p2), .val (.int p3), .val (.int (1 : Int32)), .val (.int (0 : Int32)), .val (.ref b252), .unset, .unset, .unset] [(.ref b325)])) st333 ?_
          refine OFin.of (S' := T333.setTop (mkF m 94 #[.val (.int p0), .val (.int p1), .val (.int p2), .val (.int p3), .val (.int (1 : Int32)), .val (.int (0 : Int32)), .val (.ref b252), .val (.ref b325), .unset, .unset] [])) (fun t ht => ?_) ?_
          · refine XS.astore X333.here hx rfl (hb hby at_92) rfl rfl (l' := #[.val (.int p0), .val (.int p1), .val (.int p2), .val (.int p3), .val (.int (1 : Int32)), .val (.int (0 : Int32)), .val (.ref b252), .val (.ref b325), .unset, .unset]) rfl ?_
            exact ht
          obtain ⟨T345, h345, X345, e345, E345, A345, D345, -, st345⟩ := newO X333 hx hZ hown (hw _ (List.mem_of_getElem? (i := 27) rfl)) (hw _ (List.mem_of_getElem? (i := 28) rfl)) (hw _ (List.mem_of_getElem? (i := 29) rfl)) (rfl : T333.heap = T333.heap) (g := (mkF m 94 #[.val (.int p0), .val (.int p1), .val (.int p2), .val (.int p3), .val (.int (1 : Int32)), .val (.int (0 : Int32)), .val (.ref b252), .val (.ref b325), .unset, .unset] [])) rfl (hb hby at_94) (by decide) (by decide)
          obtain ⟨b345, gq345⟩ : ∃ z, z = T333.heap.size := ⟨_, rfl⟩
          rw [← gq345] at A345 D345 st345
          have g346 : n0 ≤ b345 := (Nat.le_trans Z344 (Nat.le_of_eq gq345.symm))
          have ne347 : b252 ≠ b345 := (Nat.ne_of_lt (Nat.lt_of_lt_of_le f342.lt (Nat.le_of_eq gq345.symm)))
          have ne348 : b325 ≠ b345 := (Nat.ne_of_lt (Nat.lt_of_lt_of_le f343.lt (Nat.le_of_eq gq345.symm)))
          have ne349 : b333 ≠ b345 := (Nat.ne_of_lt (Nat.lt_of_lt_of_le f336.lt (Nat.le_of_eq gq345.symm)))
          have f350 := f341.ext E345
          have f351 := f342.ext E345
          have f352 := f343.ext E345
          have f353 := f334.ext E345
          have f354 := f335.ext E345
          have f355 := f336.ext E345
          have Z356 : n0 ≤ h345.size := (Nat.le_trans Z344 E345.1)
          have f357 : Fld Z h345 b345 "com/example/querant/querant/measure/CaseVerdict" "evaluationAgrees" "Z" (.int (0 : Int32)) := D345 (Or.inr (hw _ (List.mem_of_getElem? (i := 40) rfl))) (ty := .boolean) (by decide)
          have f358 : Fld Z h345 b345 "com/example/querant/querant/measure/CaseVerdict" "forecastAgrees" "Z" (.int (0 : Int32)) := D345 (Or.inr (hw _ (List.mem_of_getElem? (i := 42) rfl))) (ty := .boolean) (by decide)
          have f359 : Fld Z h345 b345 "com/example/querant/querant/measure/CaseVerdict" "difference" "Ljava/lang/String;" .null := D345 (Or.inr (hw _ (List.mem_of_getElem? (i := 44) rfl))) (ty := (.object "java/lang/String")) (by decide)
          refine OFin.of (S' := T345.setTop (mkF m 97 #[.val (.int p0), .val (.int p1), .val (.int p2), .val (.int p3), .val (.int (1 : Int32)), .val (.int (0 : Int32)), .val (.ref b252), .val (.ref b325), .unset, .unset] [(.ref b345)])) (fun t ht => st345 t ht) ?_
          refine OFin.of (S' := T345.setTop (mkF m 104 #[.val (.int p0), .val (.int p1), .val (.int p2), .val (.int p3), .val (.int (1 : Int32)), .val (.int (0 : Int32)), .val (.ref b252), .val (.ref b325), .unset, .unset] [(.ref b325), (.int (0 : Int32)), (.int (1 : Int32)), (.ref b345), (.ref b345)])) (fun t ht => ?_) ?_
          · refine XS.dup X345.here hx rfl (hb hby at_97) rfl rfl ?_
            show Steps p.tables e below (T345.setTop (mkF m 98 _ [(.ref b345), (.ref b345)])) _
            refine XS.iload X345.here hx rfl (hb hby at_98) rfl ?_
            show Steps p.tables e below (T345.setTop (mkF m 100 _ [(.int (1 : Int32)), (.ref b345), (.ref b345)])) _
            refine XS.iload X345.here hx rfl (hb hby at_100) rfl ?_
            show Steps p.tables e below (T345.setTop (mkF m 102 _ [(.int (0 : Int32)), (.int (1 : Int32)), (.ref b345), (.ref b345)])) _
            refine XS.aload X345.here hx rfl (hb hby at_102) rfl rfl ?_
            exact ht
          obtain ⟨_, _, ⟨T360, L360, k360, n360⟩, -, X360, ⟨Lc360, hQ360, l360, y360, z360⟩, st360⟩ := X345.specialBack hx (y := (⟨"com/example/querant/querant/measure/CaseVerdict", "<init>", "(ZZLjava/lang/String;)V"⟩ : MethodName)) rfl hown (mvT hZ (hw _ (List.mem_of_getElem? (i := 30) rfl))) (mvT hZ (hw _ (List.mem_of_getElem? (i := 31) rfl))) (mvT hZ (hw _ (List.mem_of_getElem? (i := 32) rfl))) (by decide) (backOf (W := 1) (rmIni10 l Z _ hw [] b345 b325 h345 n0 Z356 A345 f357 f358 f359 g346) hZ (hw _ (List.mem_of_getElem? (i := 32) rfl)) (hw _ (List.mem_of_getElem? (i := 29) rfl)) (by decide) (by decide)) (g := (mkF m 104 #[.val (.int p0), .val (.int p1), .val (.int p2), .val (.int p3), .val (.int (1 : Int32)), .val (.int (0 : Int32)), .val (.ref b252), .val (.ref b325), .unset, .unset] [(.ref b325), (.int (0 : Int32)), (.int (1 : Int32)), (.ref b345), (.ref b345)])) rfl (by rw [hml]; rfl) (Steps.refl _) (a := b345) (argsL := [(.int (1 : Int32)), (.int (0 : Int32)), (.ref b325)]) (rest := [(.ref b345)]) (lenOf pd_8 rfl) rfl (by show 2 * 0 + _ ≤ _; exact Nat.le_of_eq rfl) (hb hby at_104) (fun _ _ => ⟨rfl, e345, (by decide : 4 + 0 ≤ _), (by decide : 11 + 0 ≤ _)⟩)
          dsimp only [Pt.U, Pt.locs, Pt.cells, Pt.slots] at X360 l360 y360 z360 st360 hQ360
          subst l360 y360 z360
          obtain ⟨rfl, Nq360, Kq360, f361, f362, f363⟩ := hQ360
          have N364 := Fr.app N337 Nq360
          have f365 := (own_staKeep f350 Kq360 (own_snS A345 own_sn0))
          have f366 := (f351.keep Kq360 (ninS ne347 nin0))
          have f367 := (f352.keep Kq360)
          have f368 := (f353.keep Kq360 (ninS ne348 nin0))
          have f369 := (f354.keep Kq360 (ninS ne348 nin0))
          have f370 := (f355.keep Kq360 (ninS ne349 nin0))
          have f371 := (A345.keep Kq360)
          have Z372 : n0 ≤ T360.heap.size := (Nat.le_trans Z356 Kq360.1)
          refine OFin.to (S' := T360.setTop (mkF m 107 #[.val (.int p0), .val (.int p1), .val (.int p2), .val (.int p3), .val (.int (1 : Int32)), .val (.int (0 : Int32)), .val (.ref b252), .val (.ref b325), .unset, .unset] [(.ref b345)])) st360 ?_
          refine OFin.of (S' := T360.setTop (mkF m 136 #[.val (.int p0), .val (.int p1), .val (.int p2), .val (.int p3), .val (.int (1 : Int32)), .val (.int (0 : Int32)), .val (.ref b252), .val (.ref b325), .val (.ref b345), .val (.int (0 : Int32))] [(.ref b345)])) (fun t ht => ?_) ?_
          · refine XS.astore X360.here hx rfl (hb hby at_107) rfl rfl (l' := #[.val (.int p0), .val (.int p1), .val (.int p2), .val (.int p3), .val (.int (1 : Int32)), .val (.int (0 : Int32)), .val (.ref b252), .val (.ref b325), .val (.ref b345), .unset]) rfl ?_
            show Steps p.tables e below (T360.setTop (mkF m 109 #[.val (.int p0), .val (.int p1), .val (.int p2), .val (.int p3), .val (.int (1 : Int32)), .val (.int (0 : Int32)), .val (.ref b252), .val (.ref b325), .val (.ref b345), .unset] [])) _
            refine XS.iload X360.here hx rfl (hb hby at_109) rfl ?_
            show Steps p.tables e below (T360.setTop (mkF m 111 _ [(.int (1 : Int32))])) _
            refine XS.ifNo X360.here hx rfl (hb hby at_111) rfl ((if0 _ _).trans (feq (by decide : ¬ ((1 : Int32) = (0 : Int32)))).1) ?_
            show Steps p.tables e below (T360.setTop (mkF m 114 _ [])) _
            refine XS.iload X360.here hx rfl (hb hby at_114) rfl ?_
            show Steps p.tables e below (T360.setTop (mkF m 116 _ [(.int (0 : Int32))])) _
            refine XS.ifYes X360.here hx rfl (pc0 := 116) (pc' := 125) rfl (hb hby at_116) rfl ((if0 _ _).trans (teq (by decide : (0 : Int32) = (0 : Int32))).1) (by decide) (by decide) ?_
            show Steps p.tables e below (T360.setTop (mkF m 125 _ [])) _
            refine XS.iconst X360.here hx rfl (hb hby at_125) ?_
            show Steps p.tables e below (T360.setTop (mkF m 126 _ [(.int (0 : Int32))])) _
            refine XS.istore X360.here hx rfl (hb hby at_126) rfl (l' := #[.val (.int p0), .val (.int p1), .val (.int p2), .val (.int p3), .val (.int (1 : Int32)), .val (.int (0 : Int32)), .val (.ref b252), .val (.ref b325), .val (.ref b345), .val (.int (0 : Int32))]) rfl ?_
            show Steps p.tables e below (T360.setTop (mkF m 128 #[.val (.int p0), .val (.int p1), .val (.int p2), .val (.int p3), .val (.int (1 : Int32)), .val (.int (0 : Int32)), .val (.ref b252), .val (.ref b325), .val (.ref b345), .val (.int (0 : Int32))] [])) _
            refine XS.goto X360.here hx rfl (pc0 := 128) (pc' := 134) rfl (hb hby at_128) (by decide) (by decide) ?_
            show Steps p.tables e below (T360.setTop (mkF m 134 _ [])) _
            refine XS.aload X360.here hx rfl (hb hby at_134) rfl rfl ?_
            exact ht
          obtain ⟨cq374, kq374, q374a, q374b, q374c⟩ := isOf hZ (rfl : T360.heap = T360.heap) f371
          obtain ⟨_, _, ⟨T373, L373, k373, n373⟩, -, X373, ⟨Lc373, hQ373, l373, y373, z373⟩, st373⟩ := X360.virtualBack hx (y := (⟨"com/example/querant/querant/measure/CaseVerdict", "agrees", "()Z"⟩ : MethodName)) (z := (⟨"com/example/querant/querant/measure/CaseVerdict", "agrees", "()Z"⟩ : MethodName)) hown (mvT hZ (hw _ (List.mem_of_getElem? (i := 45) rfl))) (mvT hZ (hw _ (List.mem_of_getElem? (i := 46) rfl))) (notFace_of_selects (args := #[]) (mvT hZ (hw _ (List.mem_of_getElem? (i := 48) rfl)))) (mvT hZ (hw _ (List.mem_of_getElem? (i := 48) rfl))) (mvT hZ (hw _ (List.mem_of_getElem? (i := 47) rfl))) (by decide) (backOf (W := 0) (rmAg10 l Z _ hw [] b345 T360.heap n0 Z372 f361 f362) hZ (hw _ (List.mem_of_getElem? (i := 49) rfl)) (hw _ (List.mem_of_getElem? (i := 29) rfl)) (by decide) (by decide)) q374a q374c (g := (mkF m 136 #[.val (.int p0), .val (.int p1), .val (.int p2), .val (.int p3), .val (.int (1 : Int32)), .val (.int (0 : Int32)), .val (.ref b252), .val (.ref b325), .val (.ref b345), .val (.int (0 : Int32))] [(.ref b345)])) rfl (by rw [hml]; rfl) (Steps.refl _) (argsL := []) (rest := []) (lenOf pd_9 rfl) rfl (by show 2 * 0 + _ ≤ _; exact Nat.le_of_eq rfl) (hb hby at_136) (fun _ _ => ⟨rfl, (rfl : T360.heap = T360.heap), (by decide : 4 + 0 ≤ _), (by decide : 11 + 0 ≤ _)⟩)
          dsimp only [Pt.U, Pt.locs, Pt.cells, Pt.slots] at X373 l373 y373 z373 st373 hQ373
          subst l373 y373 z373
          obtain ⟨rfl, Nq373, hs373⟩ := hQ373
          have N375 := Fr.app N364 Nq373
          refine OFin.to (S' := T373.setTop (mkF m 139 #[.val (.int p0), .val (.int p1), .val (.int p2), .val (.int p3), .val (.int (1 : Int32)), .val (.int (0 : Int32)), .val (.ref b252), .val (.ref b325), .val (.ref b345), .val (.int (0 : Int32))] [(.int (0 : Int32))])) st373 ?_
          refine OFin.of (S' := T373.setTop (mkF m 149 #[.val (.int p0), .val (.int p1), .val (.int p2), .val (.int p3), .val (.int (1 : Int32)), .val (.int (0 : Int32)), .val (.ref b252), .val (.ref b325), .val (.ref b345), .val (.int (0 : Int32))] [(.int (1 : Int32))])) (fun t ht => ?_) ?_
          · refine XS.iload X373.here hx rfl (hb hby at_139) rfl ?_
            show Steps p.tables e below (T373.setTop (mkF m 141 _ [(.int (0 : Int32)), (.int (0 : Int32))])) _
            refine XS.icmpNo X373.here hx rfl (hb hby at_141) rfl (teq (by decide : (0 : Int32) = (0 : Int32))).2 ?_
            show Steps p.tables e below (T373.setTop (mkF m 144 _ [])) _
            refine XS.iconst X373.here hx rfl (hb hby at_144) ?_
            show Steps p.tables e below (T373.setTop (mkF m 145 _ [(.int (1 : Int32))])) _
            refine XS.goto X373.here hx rfl (pc0 := 145) (pc' := 149) rfl (hb hby at_145) (by decide) (by decide) ?_
            exact ht
          exact OFin.retBW (s := s) (vm₁ := s.vm) X373 ((State.WarmedH.refl s).since 0) (Nat.zero_le _) hx hlk (t := .boolean) (by simp) hret (hb hby at_149) (by decide) (by decide) (by rw [hs373]; exact ⟨rfl, N375⟩)
    · refine OFin.of (S' := s₁.setTop (mkF m 27 #[.val (.int p0), .val (.int p1), .val (.int p2), .val (.int p3), .val (.int (1 : Int32)), .val (.int (1 : Int32)), .unset, .unset, .unset, .unset] [(.int (2 : Int32))])) (fun t ht => ?_) ?_
      · refine XS.ifNo X0.here hx rfl (hb hby at_16) rfl ((if0 _ _).trans (feq (hc251 : ¬ ((p0 &&& (2 : Int32)) = (0 : Int32)))).1) ?_
        show Steps p.tables e below (s₁.setTop (mkF m 19 _ [])) _
        refine XS.iconst X0.here hx rfl (hb hby at_19) ?_
        show Steps p.tables e below (s₁.setTop (mkF m 20 _ [(.int (1 : Int32))])) _
        refine XS.goto X0.here hx rfl (pc0 := 20) (pc' := 24) rfl (hb hby at_20) (by decide) (by decide) ?_
        show Steps p.tables e below (s₁.setTop (mkF m 24 _ [(.int (1 : Int32))])) _
        refine XS.istore X0.here hx rfl (hb hby at_24) rfl (l' := #[.val (.int p0), .val (.int p1), .val (.int p2), .val (.int p3), .val (.int (1 : Int32)), .val (.int (1 : Int32)), .unset, .unset, .unset, .unset]) rfl ?_
        show Steps p.tables e below (s₁.setTop (mkF m 26 #[.val (.int p0), .val (.int p1), .val (.int p2), .val (.int p3), .val (.int (1 : Int32)), .val (.int (1 : Int32)), .unset, .unset, .unset, .unset] [])) _
        refine XS.iconst X0.here hx rfl (hb hby at_26) ?_
        exact ht
      obtain ⟨T376, h376, k376, X376, e376, E376, A376, st376⟩ := newP X0 hx hZ (hw _ (List.mem_of_getElem? (i := 0) rfl)) e0 (g := (mkF m 27 #[.val (.int p0), .val (.int p1), .val (.int p2), .val (.int p3), .val (.int (1 : Int32)), .val (.int (1 : Int32)), .unset, .unset, .unset, .unset] [(.int (2 : Int32))])) rfl (hb hby at_27) rfl (by decide) (cap := 2) (by decide) (by decide) (by decide) (by decide)
      obtain ⟨b376, gq376⟩ : ∃ z, z = h0.size := ⟨_, rfl⟩
      rw [← gq376] at A376 st376
      have g377 : n0 ≤ b376 := (Nat.le_trans Z0 (Nat.le_of_eq gq376.symm))
      have f378 := Scs.ext E376
      have Z379 : n0 ≤ h376.size := (Nat.le_trans Z0 E376.1)
      have f380 : Arv Z h376 b376 k376 .char (2 : Int32) [(.int (0 : Int32)), (.int (0 : Int32))] (.int (0 : Int32)) := ((Arv.new A376 (by decide)).pad (pad_rep [] (.int (0 : Int32)) 2))
      refine OFin.of (S' := T376.setTop (mkF m 29 #[.val (.int p0), .val (.int p1), .val (.int p2), .val (.int p3), .val (.int (1 : Int32)), .val (.int (1 : Int32)), .unset, .unset, .unset, .unset] [(.ref b376)])) (fun t ht => st376 t ht) ?_
      refine OFin.of (S' := T376.setTop (mkF m 40 #[.val (.int p0), .val (.int p1), .val (.int p2), .val (.int p3), .val (.int (1 : Int32)), .val (.int (1 : Int32)), .val (.ref b376), .unset, .unset, .unset] [(.int ((p1 &&& (255 : Int32)).toUInt32.toUInt16.toUInt32.toInt32)), (.int (0 : Int32)), (.ref b376)])) (fun t ht => ?_) ?_
      · refine XS.astore X376.here hx rfl (hb hby at_29) rfl rfl (l' := #[.val (.int p0), .val (.int p1), .val (.int p2), .val (.int p3), .val (.int (1 : Int32)), .val (.int (1 : Int32)), .val (.ref b376), .unset, .unset, .unset]) rfl ?_
        show Steps p.tables e below (T376.setTop (mkF m 31 #[.val (.int p0), .val (.int p1), .val (.int p2), .val (.int p3), .val (.int (1 : Int32)), .val (.int (1 : Int32)), .val (.ref b376), .unset, .unset, .unset] [])) _
        refine XS.aload X376.here hx rfl (hb hby at_31) rfl rfl ?_
        show Steps p.tables e below (T376.setTop (mkF m 33 _ [(.ref b376)])) _
        refine XS.iconst X376.here hx rfl (hb hby at_33) ?_
        show Steps p.tables e below (T376.setTop (mkF m 34 _ [(.int (0 : Int32)), (.ref b376)])) _
        refine XS.iloadN X376.here hx rfl (hb hby at_34) rfl ?_
        show Steps p.tables e below (T376.setTop (mkF m 35 _ [(.int p1), (.int (0 : Int32)), (.ref b376)])) _
        refine XS.sipush X376.here hx rfl (hb hby at_35) ?_
        show Steps p.tables e below (T376.setTop (mkF m 38 _ [(.int (255 : Int32)), (.int p1), (.int (0 : Int32)), (.ref b376)])) _
        refine XS.iand X376.here hx rfl (hb hby at_38) rfl ?_
        show Steps p.tables e below (T376.setTop (mkF m 39 _ [(.int (p1 &&& (255 : Int32))), (.int (0 : Int32)), (.ref b376)])) _
        refine XS.i2c X376.here hx rfl (hb hby at_39) rfl ?_
        exact ht
      obtain ⟨cl381, Ar381, q381, S381, Ng381, H381, G381⟩ := id f380
      have hin381 := inb_of (j := (0 : Int32)) S381 ⟨by decide, by decide⟩
      obtain ⟨T381, h381, X381, e381, W381, st381⟩ := stC X376 hx hZ e376 Ar381 (j := (0 : Int32)) hin381 (g := (mkF m 40 #[.val (.int p0), .val (.int p1), .val (.int p2), .val (.int p3), .val (.int (1 : Int32)), .val (.int (1 : Int32)), .val (.ref b376), .unset, .unset, .unset] [(.int ((p1 &&& (255 : Int32)).toUInt32.toUInt16.toUInt32.toInt32)), (.int (0 : Int32)), (.ref b376)])) rfl rfl (hb hby at_40)
      have f382 := (f378.wr W381)
      have Z383 : n0 ≤ h381.size := (Nat.le_trans Z379 (Keep.of_wr W381).1)
      have N384 := Fr.snoc X381 N0 g377
      have f385 : Arv Z h381 b376 k376 .char (2 : Int32) [(.int (nar .char ((p1 &&& (255 : Int32)).toUInt32.toUInt16.toUInt32.toInt32))), (.int (0 : Int32))] (.int (0 : Int32)) := Arv.set Ar381 q381 S381 Ng381 H381 G381 (fits_nar_char _) W381 0 rfl (Nat.le_of_ble_eq_true rfl)
      refine OFin.of (S' := T381.setTop (mkF m 41 #[.val (.int p0), .val (.int p1), .val (.int p2), .val (.int p3), .val (.int (1 : Int32)), .val (.int (1 : Int32)), .val (.ref b376), .unset, .unset, .unset] [])) (fun t ht => st381 t ht) ?_
      refine OFin.of (S' := T381.setTop (mkF m 50 #[.val (.int p0), .val (.int p1), .val (.int p2), .val (.int p3), .val (.int (1 : Int32)), .val (.int (1 : Int32)), .val (.ref b376), .unset, .unset, .unset] [(.int ((p2 &&& (255 : Int32)).toUInt32.toUInt16.toUInt32.toInt32)), (.int (1 : Int32)), (.ref b376)])) (fun t ht => ?_) ?_
      · refine XS.aload X381.here hx rfl (hb hby at_41) rfl rfl ?_
        show Steps p.tables e below (T381.setTop (mkF m 43 _ [(.ref b376)])) _
        refine XS.iconst X381.here hx rfl (hb hby at_43) ?_
        show Steps p.tables e below (T381.setTop (mkF m 44 _ [(.int (1 : Int32)), (.ref b376)])) _
        refine XS.iloadN X381.here hx rfl (hb hby at_44) rfl ?_
        show Steps p.tables e below (T381.setTop (mkF m 45 _ [(.int p2), (.int (1 : Int32)), (.ref b376)])) _
        refine XS.sipush X381.here hx rfl (hb hby at_45) ?_
        show Steps p.tables e below (T381.setTop (mkF m 48 _ [(.int (255 : Int32)), (.int p2), (.int (1 : Int32)), (.ref b376)])) _
        refine XS.iand X381.here hx rfl (hb hby at_48) rfl ?_
        show Steps p.tables e below (T381.setTop (mkF m 49 _ [(.int (p2 &&& (255 : Int32))), (.int (1 : Int32)), (.ref b376)])) _
        refine XS.i2c X381.here hx rfl (hb hby at_49) rfl ?_
        exact ht
      obtain ⟨cl386, Ar386, q386, S386, Ng386, H386, G386⟩ := id f385
      have hin386 := inb_of (j := (1 : Int32)) S386 ⟨by decide, by decide⟩
      obtain ⟨T386, h386, X386, e386, W386, st386⟩ := stC X381 hx hZ e381 Ar386 (j := (1 : Int32)) hin386 (g := (mkF m 50 #[.val (.int p0), .val (.int p1), .val (.int p2), .val (.int p3), .val (.int (1 : Int32)), .val (.int (1 : Int32)), .val (.ref b376), .unset, .unset, .unset] [(.int ((p2 &&& (255 : Int32)).toUInt32.toUInt16.toUInt32.toInt32)), (.int (1 : Int32)), (.ref b376)])) rfl rfl (hb hby at_50)
      have f387 := (f382.wr W386)
      have Z388 : n0 ≤ h386.size := (Nat.le_trans Z383 (Keep.of_wr W386).1)
      have N389 := Fr.snoc X386 N384 g377
      have f390 : Arv Z h386 b376 k376 .char (2 : Int32) [(.int (nar .char ((p1 &&& (255 : Int32)).toUInt32.toUInt16.toUInt32.toInt32))), (.int (nar .char ((p2 &&& (255 : Int32)).toUInt32.toUInt16.toUInt32.toInt32)))] (.int (0 : Int32)) := Arv.set Ar386 q386 S386 Ng386 H386 G386 (fits_nar_char _) W386 1 rfl (Nat.le_of_ble_eq_true rfl)
      refine OFin.of (S' := T386.setTop (mkF m 51 #[.val (.int p0), .val (.int p1), .val (.int p2), .val (.int p3), .val (.int (1 : Int32)), .val (.int (1 : Int32)), .val (.ref b376), .unset, .unset, .unset] [])) (fun t ht => st386 t ht) ?_
      refine OFin.of (S' := T386.setTop (mkF m 54 #[.val (.int p0), .val (.int p1), .val (.int p2), .val (.int p3), .val (.int (1 : Int32)), .val (.int (1 : Int32)), .val (.ref b376), .unset, .unset, .unset] [(.int (p3 &&& (3 : Int32)))])) (fun t ht => ?_) ?_
      · refine XS.iloadN X386.here hx rfl (hb hby at_51) rfl ?_
        show Steps p.tables e below (T386.setTop (mkF m 52 _ [(.int p3)])) _
        refine XS.iconst X386.here hx rfl (hb hby at_52) ?_
        show Steps p.tables e below (T386.setTop (mkF m 53 _ [(.int (3 : Int32)), (.int p3)])) _
        refine XS.iand X386.here hx rfl (hb hby at_53) rfl ?_
        exact ht
      by_cases hc391 : (p3 &&& (3 : Int32)) = (0 : Int32)
      · refine OFin.of (S' := T386.setTop (mkF m 57 #[.val (.int p0), .val (.int p1), .val (.int p2), .val (.int p3), .val (.int (1 : Int32)), .val (.int (1 : Int32)), .val (.ref b376), .unset, .unset, .unset] [])) (fun t ht => ?_) ?_
        · refine XS.ifNo X386.here hx rfl (hb hby at_54) rfl ((if0 _ _).trans (teq (hc391 : (p3 &&& (3 : Int32)) = (0 : Int32))).2) ?_
          exact ht
        obtain ⟨a392, T392, h392, k392, X392, e392, E392, S392, K392, hZ392, hown392, st392⟩ := ldcS (s := s) (vm0 := s.vm) X386 hx hZ hown (hw _ (List.mem_of_getElem? (i := 67) rfl)) (own_strAtoms hw) e386 ((State.WarmedH.refl s).since h386.size) (Nat.le_refl _) (g := (mkF m 57 #[.val (.int p0), .val (.int p1), .val (.int p2), .val (.int p3), .val (.int (1 : Int32)), .val (.int (1 : Int32)), .val (.ref b376), .unset, .unset, .unset] [])) rfl (hb hby at_57) (n := 0) (by decide) (by decide) (by decide) (by decide)
        have f393 := f387.ext E392
        have f394 := f390.ext E392
        have Z395 : n0 ≤ h392.size := (Nat.le_trans Z388 E392.1)
        refine OFin.of (S' := T392.setTop (mkF m 59 #[.val (.int p0), .val (.int p1), .val (.int p2), .val (.int p3), .val (.int (1 : Int32)), .val (.int (1 : Int32)), .val (.ref b376), .unset, .unset, .unset] [(.ref a392)])) (fun t ht => st392 t ht) ?_
        refine OFin.of (S' := T392.setTop (mkF m 94 #[.val (.int p0), .val (.int p1), .val (.int p2), .val (.int p3), .val (.int (1 : Int32)), .val (.int (1 : Int32)), .val (.ref b376), .val (.ref a392), .unset, .unset] [])) (fun t ht => ?_) ?_
        · refine XS.astore X392.here hx rfl (hb hby at_59) rfl rfl (l' := #[.val (.int p0), .val (.int p1), .val (.int p2), .val (.int p3), .val (.int (1 : Int32)), .val (.int (1 : Int32)), .val (.ref b376), .val (.ref a392), .unset, .unset]) rfl ?_
          show Steps p.tables e below (T392.setTop (mkF m 61 #[.val (.int p0), .val (.int p1), .val (.int p2), .val (.int p3), .val (.int (1 : Int32)), .val (.int (1 : Int32)), .val (.ref b376), .val (.ref a392), .unset, .unset] [])) _
          refine XS.goto X392.here hx rfl (pc0 := 61) (pc' := 94) rfl (hb hby at_61) (by decide) (by decide) ?_
          exact ht
        obtain ⟨T396, h396, X396, e396, E396, A396, D396, -, st396⟩ := newO X392 hx hZ392 hown392 (hw _ (List.mem_of_getElem? (i := 27) rfl)) (hw _ (List.mem_of_getElem? (i := 28) rfl)) (hw _ (List.mem_of_getElem? (i := 29) rfl)) e392 (g := (mkF m 94 #[.val (.int p0), .val (.int p1), .val (.int p2), .val (.int p3), .val (.int (1 : Int32)), .val (.int (1 : Int32)), .val (.ref b376), .val (.ref a392), .unset, .unset] [])) rfl (hb hby at_94) (by decide) (by decide)
        obtain ⟨b396, gq396⟩ : ∃ z, z = h392.size := ⟨_, rfl⟩
        rw [← gq396] at A396 D396 st396
        have g397 : n0 ≤ b396 := (Nat.le_trans Z395 (Nat.le_of_eq gq396.symm))
        have ne398 : b376 ≠ b396 := (Nat.ne_of_lt (Nat.lt_of_lt_of_le f394.lt (Nat.le_of_eq gq396.symm)))
        have f399 := f393.ext E396
        have f400 := f394.ext E396
        have Z401 : n0 ≤ h396.size := (Nat.le_trans Z395 E396.1)
        have kk402 : k392 ≤ h396.size := (Nat.le_trans K392 E396.1)
        have f403 : Fld Z h396 b396 "com/example/querant/querant/measure/CaseVerdict" "evaluationAgrees" "Z" (.int (0 : Int32)) := D396 (Or.inr (hw _ (List.mem_of_getElem? (i := 40) rfl))) (ty := .boolean) (by decide)
        have f404 : Fld Z h396 b396 "com/example/querant/querant/measure/CaseVerdict" "forecastAgrees" "Z" (.int (0 : Int32)) := D396 (Or.inr (hw _ (List.mem_of_getElem? (i := 42) rfl))) (ty := .boolean) (by decide)
        have f405 : Fld Z h396 b396 "com/example/querant/querant/measure/CaseVerdict" "difference" "Ljava/lang/String;" .null := D396 (Or.inr (hw _ (List.mem_of_getElem? (i := 44) rfl))) (ty := (.object "java/lang/String")) (by decide)
        refine OFin.of (S' := T396.setTop (mkF m 97 #[.val (.int p0), .val (.int p1), .val (.int p2), .val (.int p3), .val (.int (1 : Int32)), .val (.int (1 : Int32)), .val (.ref b376), .val (.ref a392), .unset, .unset] [(.ref b396)])) (fun t ht => st396 t ht) ?_
        refine OFin.of (S' := T396.setTop (mkF m 104 #[.val (.int p0), .val (.int p1), .val (.int p2), .val (.int p3), .val (.int (1 : Int32)), .val (.int (1 : Int32)), .val (.ref b376), .val (.ref a392), .unset, .unset] [(.ref a392), (.int (1 : Int32)), (.int (1 : Int32)), (.ref b396), (.ref b396)])) (fun t ht => ?_) ?_
        · refine XS.dup X396.here hx rfl (hb hby at_97) rfl rfl ?_
          show Steps p.tables e below (T396.setTop (mkF m 98 _ [(.ref b396), (.ref b396)])) _
          refine XS.iload X396.here hx rfl (hb hby at_98) rfl ?_
          show Steps p.tables e below (T396.setTop (mkF m 100 _ [(.int (1 : Int32)), (.ref b396), (.ref b396)])) _
          refine XS.iload X396.here hx rfl (hb hby at_100) rfl ?_
          show Steps p.tables e below (T396.setTop (mkF m 102 _ [(.int (1 : Int32)), (.int (1 : Int32)), (.ref b396), (.ref b396)])) _
          refine XS.aload X396.here hx rfl (hb hby at_102) rfl rfl ?_
          exact ht
        obtain ⟨_, _, ⟨T406, L406, k406, n406⟩, -, X406, ⟨Lc406, hQ406, l406, y406, z406⟩, st406⟩ := X396.specialBack hx (y := (⟨"com/example/querant/querant/measure/CaseVerdict", "<init>", "(ZZLjava/lang/String;)V"⟩ : MethodName)) rfl hown392 (mvT hZ392 (hw _ (List.mem_of_getElem? (i := 30) rfl))) (mvT hZ392 (hw _ (List.mem_of_getElem? (i := 31) rfl))) (mvT hZ392 (hw _ (List.mem_of_getElem? (i := 32) rfl))) (by decide) (backOf (W := 1) (rmIni11 l Z _ hw [] b396 a392 h396 n0 Z401 A396 f403 f404 f405 g397) hZ392 (hw _ (List.mem_of_getElem? (i := 32) rfl)) (hw _ (List.mem_of_getElem? (i := 29) rfl)) (by decide) (by decide)) (g := (mkF m 104 #[.val (.int p0), .val (.int p1), .val (.int p2), .val (.int p3), .val (.int (1 : Int32)), .val (.int (1 : Int32)), .val (.ref b376), .val (.ref a392), .unset, .unset] [(.ref a392), (.int (1 : Int32)), (.int (1 : Int32)), (.ref b396), (.ref b396)])) rfl (by rw [hml]; rfl) (Steps.refl _) (a := b396) (argsL := [(.int (1 : Int32)), (.int (1 : Int32)), (.ref a392)]) (rest := [(.ref b396)]) (lenOf pd_8 rfl) rfl (by show 2 * 0 + _ ≤ _; exact Nat.le_of_eq rfl) (hb hby at_104) (fun _ _ => ⟨rfl, e396, (by decide : 4 + 0 ≤ _), (by decide : 9 + 0 ≤ _)⟩)
        dsimp only [Pt.U, Pt.locs, Pt.cells, Pt.slots] at X406 l406 y406 z406 st406 hQ406
        subst l406 y406 z406
        obtain ⟨rfl, Nq406, Kq406, f407, f408, f409⟩ := hQ406
        have N410 := Fr.app N389 Nq406
        have f411 := (own_staKeep f399 Kq406 (own_snS A396 own_sn0))
        have f412 := (f400.keep Kq406 (ninS ne398 nin0))
        have f413 := (A396.keep Kq406)
        have Z414 : n0 ≤ T406.heap.size := (Nat.le_trans Z401 Kq406.1)
        have kk415 : k392 ≤ T406.heap.size := (Nat.le_trans kk402 Kq406.1)
        refine OFin.to (S' := T406.setTop (mkF m 107 #[.val (.int p0), .val (.int p1), .val (.int p2), .val (.int p3), .val (.int (1 : Int32)), .val (.int (1 : Int32)), .val (.ref b376), .val (.ref a392), .unset, .unset] [(.ref b396)])) st406 ?_
        refine OFin.of (S' := T406.setTop (mkF m 136 #[.val (.int p0), .val (.int p1), .val (.int p2), .val (.int p3), .val (.int (1 : Int32)), .val (.int (1 : Int32)), .val (.ref b376), .val (.ref a392), .val (.ref b396), .val (.int (1 : Int32))] [(.ref b396)])) (fun t ht => ?_) ?_
        · refine XS.astore X406.here hx rfl (hb hby at_107) rfl rfl (l' := #[.val (.int p0), .val (.int p1), .val (.int p2), .val (.int p3), .val (.int (1 : Int32)), .val (.int (1 : Int32)), .val (.ref b376), .val (.ref a392), .val (.ref b396), .unset]) rfl ?_
          show Steps p.tables e below (T406.setTop (mkF m 109 #[.val (.int p0), .val (.int p1), .val (.int p2), .val (.int p3), .val (.int (1 : Int32)), .val (.int (1 : Int32)), .val (.ref b376), .val (.ref a392), .val (.ref b396), .unset] [])) _
          refine XS.iload X406.here hx rfl (hb hby at_109) rfl ?_
          show Steps p.tables e below (T406.setTop (mkF m 111 _ [(.int (1 : Int32))])) _
          refine XS.ifNo X406.here hx rfl (hb hby at_111) rfl ((if0 _ _).trans (feq (by decide : ¬ ((1 : Int32) = (0 : Int32)))).1) ?_
          show Steps p.tables e below (T406.setTop (mkF m 114 _ [])) _
          refine XS.iload X406.here hx rfl (hb hby at_114) rfl ?_
          show Steps p.tables e below (T406.setTop (mkF m 116 _ [(.int (1 : Int32))])) _
          refine XS.ifNo X406.here hx rfl (hb hby at_116) rfl ((if0 _ _).trans (feq (by decide : ¬ ((1 : Int32) = (0 : Int32)))).1) ?_
          show Steps p.tables e below (T406.setTop (mkF m 119 _ [])) _
          refine XS.iconst X406.here hx rfl (hb hby at_119) ?_
          show Steps p.tables e below (T406.setTop (mkF m 120 _ [(.int (1 : Int32))])) _
          refine XS.istore X406.here hx rfl (hb hby at_120) rfl (l' := #[.val (.int p0), .val (.int p1), .val (.int p2), .val (.int p3), .val (.int (1 : Int32)), .val (.int (1 : Int32)), .val (.ref b376), .val (.ref a392), .val (.ref b396), .val (.int (1 : Int32))]) rfl ?_
          show Steps p.tables e below (T406.setTop (mkF m 122 #[.val (.int p0), .val (.int p1), .val (.int p2), .val (.int p3), .val (.int (1 : Int32)), .val (.int (1 : Int32)), .val (.ref b376), .val (.ref a392), .val (.ref b396), .val (.int (1 : Int32))] [])) _
          refine XS.goto X406.here hx rfl (pc0 := 122) (pc' := 134) rfl (hb hby at_122) (by decide) (by decide) ?_
          show Steps p.tables e below (T406.setTop (mkF m 134 _ [])) _
          refine XS.aload X406.here hx rfl (hb hby at_134) rfl rfl ?_
          exact ht
        obtain ⟨cq417, kq417, q417a, q417b, q417c⟩ := isOf hZ392 (rfl : T406.heap = T406.heap) f413
        obtain ⟨_, _, ⟨T416, L416, k416, n416⟩, -, X416, ⟨Lc416, hQ416, l416, y416, z416⟩, st416⟩ := X406.virtualBack hx (y := (⟨"com/example/querant/querant/measure/CaseVerdict", "agrees", "()Z"⟩ : MethodName)) (z := (⟨"com/example/querant/querant/measure/CaseVerdict", "agrees", "()Z"⟩ : MethodName)) hown392 (mvT hZ392 (hw _ (List.mem_of_getElem? (i := 45) rfl))) (mvT hZ392 (hw _ (List.mem_of_getElem? (i := 46) rfl))) (notFace_of_selects (args := #[]) (mvT hZ392 (hw _ (List.mem_of_getElem? (i := 48) rfl)))) (mvT hZ392 (hw _ (List.mem_of_getElem? (i := 48) rfl))) (mvT hZ392 (hw _ (List.mem_of_getElem? (i := 47) rfl))) (by decide) (backOf (W := 0) (rmAg11 l Z _ hw [] b396 T406.heap n0 Z414 f407 f408) hZ392 (hw _ (List.mem_of_getElem? (i := 49) rfl)) (hw _ (List.mem_of_getElem? (i := 29) rfl)) (by decide) (by decide)) q417a q417c (g := (mkF m 136 #[.val (.int p0), .val (.int p1), .val (.int p2), .val (.int p3), .val (.int (1 : Int32)), .val (.int (1 : Int32)), .val (.ref b376), .val (.ref a392), .val (.ref b396), .val (.int (1 : Int32))] [(.ref b396)])) rfl (by rw [hml]; rfl) (Steps.refl _) (argsL := []) (rest := []) (lenOf pd_9 rfl) rfl (by show 2 * 0 + _ ≤ _; exact Nat.le_of_eq rfl) (hb hby at_136) (fun _ _ => ⟨rfl, (rfl : T406.heap = T406.heap), (by decide : 4 + 0 ≤ _), (by decide : 9 + 0 ≤ _)⟩)
        dsimp only [Pt.U, Pt.locs, Pt.cells, Pt.slots] at X416 l416 y416 z416 st416 hQ416
        subst l416 y416 z416
        obtain ⟨rfl, Nq416, hs416⟩ := hQ416
        have N418 := Fr.app N410 Nq416
        refine OFin.to (S' := T416.setTop (mkF m 139 #[.val (.int p0), .val (.int p1), .val (.int p2), .val (.int p3), .val (.int (1 : Int32)), .val (.int (1 : Int32)), .val (.ref b376), .val (.ref a392), .val (.ref b396), .val (.int (1 : Int32))] [(.int (1 : Int32))])) st416 ?_
        refine OFin.of (S' := T416.setTop (mkF m 149 #[.val (.int p0), .val (.int p1), .val (.int p2), .val (.int p3), .val (.int (1 : Int32)), .val (.int (1 : Int32)), .val (.ref b376), .val (.ref a392), .val (.ref b396), .val (.int (1 : Int32))] [(.int (1 : Int32))])) (fun t ht => ?_) ?_
        · refine XS.iload X416.here hx rfl (hb hby at_139) rfl ?_
          show Steps p.tables e below (T416.setTop (mkF m 141 _ [(.int (1 : Int32)), (.int (1 : Int32))])) _
          refine XS.icmpNo X416.here hx rfl (hb hby at_141) rfl (teq (by decide : (1 : Int32) = (1 : Int32))).2 ?_
          show Steps p.tables e below (T416.setTop (mkF m 144 _ [])) _
          refine XS.iconst X416.here hx rfl (hb hby at_144) ?_
          show Steps p.tables e below (T416.setTop (mkF m 145 _ [(.int (1 : Int32))])) _
          refine XS.goto X416.here hx rfl (pc0 := 145) (pc' := 149) rfl (hb hby at_145) (by decide) (by decide) ?_
          exact ht
        exact OFin.retBW (s := s) (vm₁ := T392.vm) X416 S392 (by rw [hs416]; exact kk415) hx hlk (t := .boolean) (by simp) hret (hb hby at_149) (by decide) (by decide) (by rw [hs416]; exact ⟨rfl, N418⟩)
      · refine OFin.of (S' := T386.setTop (mkF m 68 #[.val (.int p0), .val (.int p1), .val (.int p2), .val (.int p3), .val (.int (1 : Int32)), .val (.int (1 : Int32)), .val (.ref b376), .unset, .unset, .unset] [(.int (1 : Int32)), (.int (p3 &&& (3 : Int32)))])) (fun t ht => ?_) ?_
        · refine XS.ifYes X386.here hx rfl (pc0 := 54) (pc' := 64) rfl (hb hby at_54) rfl ((if0 _ _).trans (feq (hc391 : ¬ ((p3 &&& (3 : Int32)) = (0 : Int32)))).2) (by decide) (by decide) ?_
          show Steps p.tables e below (T386.setTop (mkF m 64 _ [])) _
          refine XS.iloadN X386.here hx rfl (hb hby at_64) rfl ?_
          show Steps p.tables e below (T386.setTop (mkF m 65 _ [(.int p3)])) _
          refine XS.iconst X386.here hx rfl (hb hby at_65) ?_
          show Steps p.tables e below (T386.setTop (mkF m 66 _ [(.int (3 : Int32)), (.int p3)])) _
          refine XS.iand X386.here hx rfl (hb hby at_66) rfl ?_
          show Steps p.tables e below (T386.setTop (mkF m 67 _ [(.int (p3 &&& (3 : Int32)))])) _
          refine XS.iconst X386.here hx rfl (hb hby at_67) ?_
          exact ht
        by_cases hc419 : (p3 &&& (3 : Int32)) = (1 : Int32)
        · refine OFin.of (S' := T386.setTop (mkF m 74 #[.val (.int p0), .val (.int p1), .val (.int p2), .val (.int p3), .val (.int (1 : Int32)), .val (.int (1 : Int32)), .val (.ref b376), .unset, .unset, .unset] [(.int (0 : Int32)), (.ref b376)])) (fun t ht => ?_) ?_
          · refine XS.icmpNo X386.here hx rfl (hb hby at_68) rfl (teq (hc419 : (p3 &&& (3 : Int32)) = (1 : Int32))).2 ?_
            show Steps p.tables e below (T386.setTop (mkF m 71 _ [])) _
            refine XS.aload X386.here hx rfl (hb hby at_71) rfl rfl ?_
            show Steps p.tables e below (T386.setTop (mkF m 73 _ [(.ref b376)])) _
            refine XS.iconst X386.here hx rfl (hb hby at_73) ?_
            exact ht
          obtain ⟨cl420, Ar420, q420, S420, Ng420, H420, G420⟩ := id f390
          have hin420 := inb_of (j := (0 : Int32)) S420 ⟨by decide, by decide⟩
          have hat420 : cl420.slots[((0 : Int32)).toNatClampNeg]? = some (.int (nar .char ((p1 &&& (255 : Int32)).toUInt32.toUInt16.toUInt32.toInt32))) := Has.at H420 hin420 rfl
          refine OFin.of (S' := T386.setTop (mkF m 75 #[.val (.int p0), .val (.int p1), .val (.int p2), .val (.int p3), .val (.int (1 : Int32)), .val (.int (1 : Int32)), .val (.ref b376), .unset, .unset, .unset] [(.int (nar .char ((p1 &&& (255 : Int32)).toUInt32.toUInt16.toUInt32.toInt32)))])) (fun t ht => X386.caload hx (j := (0 : Int32)) (v := (.int (nar .char ((p1 &&& (255 : Int32)).toUInt32.toUInt16.toUInt32.toInt32)))) (by rw [e386]; exact Ar420.1) (State.isArrayOf_alike hZ.alike Ar420.2.1) Ar420.2.2 hin420 hat420 (g := (mkF m 74 #[.val (.int p0), .val (.int p1), .val (.int p2), .val (.int p3), .val (.int (1 : Int32)), .val (.int (1 : Int32)), .val (.ref b376), .unset, .unset, .unset] [(.int (0 : Int32)), (.ref b376)])) rfl rfl (hb hby at_74) _ ht) ?_
          obtain ⟨_, _, ⟨T421, L421, k421, n421⟩, -, X421, ⟨Lc421, hQ421, l421, y421, z421⟩, st421⟩ := Jvm.LawKit.callS X386 hx (y := (⟨"java/lang/String", "valueOf", "(C)Ljava/lang/String;"⟩ : MethodName)) hown (mvT hZ (hw _ (List.mem_of_getElem? (i := 1) rfl))) (mvT hZ (hw _ (List.mem_of_getElem? (i := 2) rfl))) (mvT hZ (hw _ (List.mem_of_getElem? (i := 3) rfl))) (mvT hZ (hw _ (List.mem_of_getElem? (i := 4) rfl))) (by decide) (backOf (W := 0) (rmVo l Z _ hw [] (nar .char ((p1 &&& (255 : Int32)).toUInt32.toUInt16.toUInt32.toInt32)) cs h386 n0 Z388 (own_hp _) f387 hcs) hZ (hw _ (List.mem_of_getElem? (i := 4) rfl)) (hw _ (List.mem_of_getElem? (i := 3) rfl)) (by decide) (by decide)) (g := (mkF m 75 #[.val (.int p0), .val (.int p1), .val (.int p2), .val (.int p3), .val (.int (1 : Int32)), .val (.int (1 : Int32)), .val (.ref b376), .unset, .unset, .unset] [(.int (nar .char ((p1 &&& (255 : Int32)).toUInt32.toUInt16.toUInt32.toInt32)))])) rfl (by rw [hml]; rfl) (argsL := [(.int (nar .char ((p1 &&& (255 : Int32)).toUInt32.toUInt16.toUInt32.toInt32)))]) (rest := []) (lenOf pd_10 rfl) rfl (by show 2 * 0 + _ ≤ _; exact Nat.le_of_eq rfl) (hb hby at_75) (fun _ _ => ⟨rfl, e386, (by decide : 1 + 2 ≤ _), (by decide : 2 + 5 ≤ _)⟩)
          dsimp only [Pt.U, Pt.locs, Pt.cells, Pt.slots] at X421 l421 y421 z421 st421 hQ421
          subst l421 y421 z421
          obtain ⟨rfl, Nq421, Kq421⟩ := hQ421
          have N422 := Fr.app N389 Nq421
          obtain ⟨b421, gq421⟩ : ∃ z, z = h386.size := ⟨_, rfl⟩
          rw [← gq421] at st421
          have g423 : n0 ≤ b421 := (Nat.le_trans Z388 (Nat.le_of_eq gq421.symm))
          have ne424 : b376 ≠ b421 := (Nat.ne_of_lt (Nat.lt_of_lt_of_le f390.lt (Nat.le_of_eq gq421.symm)))
          have f425 := (own_staKeep f387 Kq421 own_sn0)
          have f426 := (f390.keep Kq421 nin0)
          have Z427 : n0 ≤ T421.heap.size := (Nat.le_trans Z388 Kq421.1)
          refine OFin.of (S' := T421.setTop (mkF m 78 #[.val (.int p0), .val (.int p1), .val (.int p2), .val (.int p3), .val (.int (1 : Int32)), .val (.int (1 : Int32)), .val (.ref b376), .unset, .unset, .unset] [(.ref b421)])) (fun t ht => st421 t ht) ?_
          refine OFin.of (S' := T421.setTop (mkF m 94 #[.val (.int p0), .val (.int p1), .val (.int p2), .val (.int p3), .val (.int (1 : Int32)), .val (.int (1 : Int32)), .val (.ref b376), .val (.ref b421), .unset, .unset] [])) (fun t ht => ?_) ?_
          · refine XS.astore X421.here hx rfl (hb hby at_78) rfl rfl (l' := #[.val (.int p0), .val (.int p1), .val (.int p2), .val (.int p3), .val (.int (1 : Int32)), .val (.int (1 : Int32)), .val (.ref b376), .val (.ref b421), .unset, .unset]) rfl ?_
            show Steps p.tables e below (T421.setTop (mkF m 80 #[.val (.int p0), .val (.int p1), .val (.int p2), .val (.int p3), .val (.int (1 : Int32)), .val (.int (1 : Int32)), .val (.ref b376), .val (.ref b421), .unset, .unset] [])) _
            refine XS.goto X421.here hx rfl (pc0 := 80) (pc' := 94) rfl (hb hby at_80) (by decide) (by decide) ?_
            exact ht
          obtain ⟨T428, h428, X428, e428, E428, A428, D428, -, st428⟩ := newO X421 hx hZ hown (hw _ (List.mem_of_getElem? (i := 27) rfl)) (hw _ (List.mem_of_getElem? (i := 28) rfl)) (hw _ (List.mem_of_getElem? (i := 29) rfl)) (rfl : T421.heap = T421.heap) (g := (mkF m 94 #[.val (.int p0), .val (.int p1), .val (.int p2), .val (.int p3), .val (.int (1 : Int32)), .val (.int (1 : Int32)), .val (.ref b376), .val (.ref b421), .unset, .unset] [])) rfl (hb hby at_94) (by decide) (by decide)
          obtain ⟨b428, gq428⟩ : ∃ z, z = T421.heap.size := ⟨_, rfl⟩
          rw [← gq428] at A428 D428 st428
          have g429 : n0 ≤ b428 := (Nat.le_trans Z427 (Nat.le_of_eq gq428.symm))
          have ne430 : b376 ≠ b428 := (Nat.ne_of_lt (Nat.lt_of_lt_of_le f426.lt (Nat.le_of_eq gq428.symm)))
          have f431 := f425.ext E428
          have f432 := f426.ext E428
          have Z433 : n0 ≤ h428.size := (Nat.le_trans Z427 E428.1)
          have f434 : Fld Z h428 b428 "com/example/querant/querant/measure/CaseVerdict" "evaluationAgrees" "Z" (.int (0 : Int32)) := D428 (Or.inr (hw _ (List.mem_of_getElem? (i := 40) rfl))) (ty := .boolean) (by decide)
          have f435 : Fld Z h428 b428 "com/example/querant/querant/measure/CaseVerdict" "forecastAgrees" "Z" (.int (0 : Int32)) := D428 (Or.inr (hw _ (List.mem_of_getElem? (i := 42) rfl))) (ty := .boolean) (by decide)
          have f436 : Fld Z h428 b428 "com/example/querant/querant/measure/CaseVerdict" "difference" "Ljava/lang/String;" .null := D428 (Or.inr (hw _ (List.mem_of_getElem? (i := 44) rfl))) (ty := (.object "java/lang/String")) (by decide)
          refine OFin.of (S' := T428.setTop (mkF m 97 #[.val (.int p0), .val (.int p1), .val (.int p2), .val (.int p3), .val (.int (1 : Int32)), .val (.int (1 : Int32)), .val (.ref b376), .val (.ref b421), .unset, .unset] [(.ref b428)])) (fun t ht => st428 t ht) ?_
          refine OFin.of (S' := T428.setTop (mkF m 104 #[.val (.int p0), .val (.int p1), .val (.int p2), .val (.int p3), .val (.int (1 : Int32)), .val (.int (1 : Int32)), .val (.ref b376), .val (.ref b421), .unset, .unset] [(.ref b421), (.int (1 : Int32)), (.int (1 : Int32)), (.ref b428), (.ref b428)])) (fun t ht => ?_) ?_
          · refine XS.dup X428.here hx rfl (hb hby at_97) rfl rfl ?_
            show Steps p.tables e below (T428.setTop (mkF m 98 _ [(.ref b428), (.ref b428)])) _
            refine XS.iload X428.here hx rfl (hb hby at_98) rfl ?_
            show Steps p.tables e below (T428.setTop (mkF m 100 _ [(.int (1 : Int32)), (.ref b428), (.ref b428)])) _
            refine XS.iload X428.here hx rfl (hb hby at_100) rfl ?_
            show Steps p.tables e below (T428.setTop (mkF m 102 _ [(.int (1 : Int32)), (.int (1 : Int32)), (.ref b428), (.ref b428)])) _
            refine XS.aload X428.here hx rfl (hb hby at_102) rfl rfl ?_
            exact ht
          obtain ⟨_, _, ⟨T437, L437, k437, n437⟩, -, X437, ⟨Lc437, hQ437, l437, y437, z437⟩, st437⟩ := X428.specialBack hx (y := (⟨"com/example/querant/querant/measure/CaseVerdict", "<init>", "(ZZLjava/lang/String;)V"⟩ : MethodName)) rfl hown (mvT hZ (hw _ (List.mem_of_getElem? (i := 30) rfl))) (mvT hZ (hw _ (List.mem_of_getElem? (i := 31) rfl))) (mvT hZ (hw _ (List.mem_of_getElem? (i := 32) rfl))) (by decide) (backOf (W := 1) (rmIni11 l Z _ hw [] b428 b421 h428 n0 Z433 A428 f434 f435 f436 g429) hZ (hw _ (List.mem_of_getElem? (i := 32) rfl)) (hw _ (List.mem_of_getElem? (i := 29) rfl)) (by decide) (by decide)) (g := (mkF m 104 #[.val (.int p0), .val (.int p1), .val (.int p2), .val (.int p3), .val (.int (1 : Int32)), .val (.int (1 : Int32)), .val (.ref b376), .val (.ref b421), .unset, .unset] [(.ref b421), (.int (1 : Int32)), (.int (1 : Int32)), (.ref b428), (.ref b428)])) rfl (by rw [hml]; rfl) (Steps.refl _) (a := b428) (argsL := [(.int (1 : Int32)), (.int (1 : Int32)), (.ref b421)]) (rest := [(.ref b428)]) (lenOf pd_8 rfl) rfl (by show 2 * 0 + _ ≤ _; exact Nat.le_of_eq rfl) (hb hby at_104) (fun _ _ => ⟨rfl, e428, (by decide : 4 + 0 ≤ _), (by decide : 10 + 0 ≤ _)⟩)
          dsimp only [Pt.U, Pt.locs, Pt.cells, Pt.slots] at X437 l437 y437 z437 st437 hQ437
          subst l437 y437 z437
          obtain ⟨rfl, Nq437, Kq437, f438, f439, f440⟩ := hQ437
          have N441 := Fr.app N422 Nq437
          have f442 := (own_staKeep f431 Kq437 (own_snS A428 own_sn0))
          have f443 := (f432.keep Kq437 (ninS ne430 nin0))
          have f444 := (A428.keep Kq437)
          have Z445 : n0 ≤ T437.heap.size := (Nat.le_trans Z433 Kq437.1)
          refine OFin.to (S' := T437.setTop (mkF m 107 #[.val (.int p0), .val (.int p1), .val (.int p2), .val (.int p3), .val (.int (1 : Int32)), .val (.int (1 : Int32)), .val (.ref b376), .val (.ref b421), .unset, .unset] [(.ref b428)])) st437 ?_
          refine OFin.of (S' := T437.setTop (mkF m 136 #[.val (.int p0), .val (.int p1), .val (.int p2), .val (.int p3), .val (.int (1 : Int32)), .val (.int (1 : Int32)), .val (.ref b376), .val (.ref b421), .val (.ref b428), .val (.int (1 : Int32))] [(.ref b428)])) (fun t ht => ?_) ?_
          · refine XS.astore X437.here hx rfl (hb hby at_107) rfl rfl (l' := #[.val (.int p0), .val (.int p1), .val (.int p2), .val (.int p3), .val (.int (1 : Int32)), .val (.int (1 : Int32)), .val (.ref b376), .val (.ref b421), .val (.ref b428), .unset]) rfl ?_
            show Steps p.tables e below (T437.setTop (mkF m 109 #[.val (.int p0), .val (.int p1), .val (.int p2), .val (.int p3), .val (.int (1 : Int32)), .val (.int (1 : Int32)), .val (.ref b376), .val (.ref b421), .val (.ref b428), .unset] [])) _
            refine XS.iload X437.here hx rfl (hb hby at_109) rfl ?_
            show Steps p.tables e below (T437.setTop (mkF m 111 _ [(.int (1 : Int32))])) _
            refine XS.ifNo X437.here hx rfl (hb hby at_111) rfl ((if0 _ _).trans (feq (by decide : ¬ ((1 : Int32) = (0 : Int32)))).1) ?_
            show Steps p.tables e below (T437.setTop (mkF m 114 _ [])) _
            refine XS.iload X437.here hx rfl (hb hby at_114) rfl ?_
            show Steps p.tables e below (T437.setTop (mkF m 116 _ [(.int (1 : Int32))])) _
            refine XS.ifNo X437.here hx rfl (hb hby at_116) rfl ((if0 _ _).trans (feq (by decide : ¬ ((1 : Int32) = (0 : Int32)))).1) ?_
            show Steps p.tables e below (T437.setTop (mkF m 119 _ [])) _
            refine XS.iconst X437.here hx rfl (hb hby at_119) ?_
            show Steps p.tables e below (T437.setTop (mkF m 120 _ [(.int (1 : Int32))])) _
            refine XS.istore X437.here hx rfl (hb hby at_120) rfl (l' := #[.val (.int p0), .val (.int p1), .val (.int p2), .val (.int p3), .val (.int (1 : Int32)), .val (.int (1 : Int32)), .val (.ref b376), .val (.ref b421), .val (.ref b428), .val (.int (1 : Int32))]) rfl ?_
            show Steps p.tables e below (T437.setTop (mkF m 122 #[.val (.int p0), .val (.int p1), .val (.int p2), .val (.int p3), .val (.int (1 : Int32)), .val (.int (1 : Int32)), .val (.ref b376), .val (.ref b421), .val (.ref b428), .val (.int (1 : Int32))] [])) _
            refine XS.goto X437.here hx rfl (pc0 := 122) (pc' := 134) rfl (hb hby at_122) (by decide) (by decide) ?_
            show Steps p.tables e below (T437.setTop (mkF m 134 _ [])) _
            refine XS.aload X437.here hx rfl (hb hby at_134) rfl rfl ?_
            exact ht
          obtain ⟨cq447, kq447, q447a, q447b, q447c⟩ := isOf hZ (rfl : T437.heap = T437.heap) f444
          obtain ⟨_, _, ⟨T446, L446, k446, n446⟩, -, X446, ⟨Lc446, hQ446, l446, y446, z446⟩, st446⟩ := X437.virtualBack hx (y := (⟨"com/example/querant/querant/measure/CaseVerdict", "agrees", "()Z"⟩ : MethodName)) (z := (⟨"com/example/querant/querant/measure/CaseVerdict", "agrees", "()Z"⟩ : MethodName)) hown (mvT hZ (hw _ (List.mem_of_getElem? (i := 45) rfl))) (mvT hZ (hw _ (List.mem_of_getElem? (i := 46) rfl))) (notFace_of_selects (args := #[]) (mvT hZ (hw _ (List.mem_of_getElem? (i := 48) rfl)))) (mvT hZ (hw _ (List.mem_of_getElem? (i := 48) rfl))) (mvT hZ (hw _ (List.mem_of_getElem? (i := 47) rfl))) (by decide) (backOf (W := 0) (rmAg11 l Z _ hw [] b428 T437.heap n0 Z445 f438 f439) hZ (hw _ (List.mem_of_getElem? (i := 49) rfl)) (hw _ (List.mem_of_getElem? (i := 29) rfl)) (by decide) (by decide)) q447a q447c (g := (mkF m 136 #[.val (.int p0), .val (.int p1), .val (.int p2), .val (.int p3), .val (.int (1 : Int32)), .val (.int (1 : Int32)), .val (.ref b376), .val (.ref b421), .val (.ref b428), .val (.int (1 : Int32))] [(.ref b428)])) rfl (by rw [hml]; rfl) (Steps.refl _) (argsL := []) (rest := []) (lenOf pd_9 rfl) rfl (by show 2 * 0 + _ ≤ _; exact Nat.le_of_eq rfl) (hb hby at_136) (fun _ _ => ⟨rfl, (rfl : T437.heap = T437.heap), (by decide : 4 + 0 ≤ _), (by decide : 10 + 0 ≤ _)⟩)
          dsimp only [Pt.U, Pt.locs, Pt.cells, Pt.slots] at X446 l446 y446 z446 st446 hQ446
          subst l446 y446 z446
          obtain ⟨rfl, Nq446, hs446⟩ := hQ446
          have N448 := Fr.app N441 Nq446
          refine OFin.to (S' := T446.setTop (mkF m 139 #[.val (.int p0), .val (.int p1), .val (.int p2), .val (.int p3), .val (.int (1 : Int32)), .val (.int (1 : Int32)), .val (.ref b376), .val (.ref b421), .val (.ref b428), .val (.int (1 : Int32))] [(.int (1 : Int32))])) st446 ?_
          refine OFin.of (S' := T446.setTop (mkF m 149 #[.val (.int p0), .val (.int p1), .val (.int p2), .val (.int p3), .val (.int (1 : Int32)), .val (.int (1 : Int32)), .val (.ref b376), .val (.ref b421), .val (.ref b428), .val (.int (1 : Int32))] [(.int (1 : Int32))])) (fun t ht => ?_) ?_
          · refine XS.iload X446.here hx rfl (hb hby at_139) rfl ?_
            show Steps p.tables e below (T446.setTop (mkF m 141 _ [(.int (1 : Int32)), (.int (1 : Int32))])) _
            refine XS.icmpNo X446.here hx rfl (hb hby at_141) rfl (teq (by decide : (1 : Int32) = (1 : Int32))).2 ?_
            show Steps p.tables e below (T446.setTop (mkF m 144 _ [])) _
            refine XS.iconst X446.here hx rfl (hb hby at_144) ?_
            show Steps p.tables e below (T446.setTop (mkF m 145 _ [(.int (1 : Int32))])) _
            refine XS.goto X446.here hx rfl (pc0 := 145) (pc' := 149) rfl (hb hby at_145) (by decide) (by decide) ?_
            exact ht
          exact OFin.retBW (s := s) (vm₁ := s.vm) X446 ((State.WarmedH.refl s).since 0) (Nat.zero_le _) hx hlk (t := .boolean) (by simp) hret (hb hby at_149) (by decide) (by decide) (by rw [hs446]; exact ⟨rfl, N448⟩)
        · refine OFin.of (S' := T386.setTop (mkF m 83 #[.val (.int p0), .val (.int p1), .val (.int p2), .val (.int p3), .val (.int (1 : Int32)), .val (.int (1 : Int32)), .val (.ref b376), .unset, .unset, .unset] [])) (fun t ht => ?_) ?_
          · refine XS.icmpYes X386.here hx rfl (pc0 := 68) (pc' := 83) rfl (hb hby at_68) rfl (feq (hc419 : ¬ ((p3 &&& (3 : Int32)) = (1 : Int32)))).2 (by decide) (by decide) ?_
            exact ht
          obtain ⟨T449, h449, X449, e449, E449, A449, D449, -, st449⟩ := newO X386 hx hZ hown (hw _ (List.mem_of_getElem? (i := 50) rfl)) (hw _ (List.mem_of_getElem? (i := 11) rfl)) (hw _ (List.mem_of_getElem? (i := 3) rfl)) e386 (g := (mkF m 83 #[.val (.int p0), .val (.int p1), .val (.int p2), .val (.int p3), .val (.int (1 : Int32)), .val (.int (1 : Int32)), .val (.ref b376), .unset, .unset, .unset] [])) rfl (hb hby at_83) (by decide) (by decide)
          obtain ⟨b449, gq449⟩ : ∃ z, z = h386.size := ⟨_, rfl⟩
          rw [← gq449] at A449 D449 st449
          have g450 : n0 ≤ b449 := (Nat.le_trans Z388 (Nat.le_of_eq gq449.symm))
          have ne451 : b376 ≠ b449 := (Nat.ne_of_lt (Nat.lt_of_lt_of_le f390.lt (Nat.le_of_eq gq449.symm)))
          have f452 := f387.ext E449
          have f453 := f390.ext E449
          have Z454 : n0 ≤ h449.size := (Nat.le_trans Z388 E449.1)
          have f455 : Fld Z h449 b449 "java/lang/String" "value" "[B" .null := D449 (Or.inr (hw _ (List.mem_of_getElem? (i := 24) rfl))) (ty := (.array .byte)) (by decide)
          have f456 : Fld Z h449 b449 "java/lang/String" "coder" "B" (.int (0 : Int32)) := D449 (Or.inr (hw _ (List.mem_of_getElem? (i := 26) rfl))) (ty := .byte) (by decide)
          refine OFin.of (S' := T449.setTop (mkF m 86 #[.val (.int p0), .val (.int p1), .val (.int p2), .val (.int p3), .val (.int (1 : Int32)), .val (.int (1 : Int32)), .val (.ref b376), .unset, .unset, .unset] [(.ref b449)])) (fun t ht => st449 t ht) ?_
          refine OFin.of (S' := T449.setTop (mkF m 89 #[.val (.int p0), .val (.int p1), .val (.int p2), .val (.int p3), .val (.int (1 : Int32)), .val (.int (1 : Int32)), .val (.ref b376), .unset, .unset, .unset] [(.ref b376), (.ref b449), (.ref b449)])) (fun t ht => ?_) ?_
          · refine XS.dup X449.here hx rfl (hb hby at_86) rfl rfl ?_
            show Steps p.tables e below (T449.setTop (mkF m 87 _ [(.ref b449), (.ref b449)])) _
            refine XS.aload X449.here hx rfl (hb hby at_87) rfl rfl ?_
            exact ht
          obtain ⟨_, _, ⟨T457, L457, k457, n457⟩, -, X457, ⟨Lc457, hQ457, l457, y457, z457⟩, st457⟩ := X449.specialBack hx (y := (⟨"java/lang/String", "<init>", "([C)V"⟩ : MethodName)) rfl hown (mvT hZ (hw _ (List.mem_of_getElem? (i := 51) rfl))) (mvT hZ (hw _ (List.mem_of_getElem? (i := 52) rfl))) (mvT hZ (hw _ (List.mem_of_getElem? (i := 53) rfl))) (by decide) (backOf (W := 1) (rmSi2 l Z _ hw [] b449 b376 k376 cs (nar .char ((p1 &&& (255 : Int32)).toUInt32.toUInt16.toUInt32.toInt32)) (nar .char ((p2 &&& (255 : Int32)).toUInt32.toUInt16.toUInt32.toInt32)) h449 n0 Z454 A449 f456 f455 f453 g450 ne451 f452 hcs (own_hp _) (own_hp _)) hZ (hw _ (List.mem_of_getElem? (i := 53) rfl)) (hw _ (List.mem_of_getElem? (i := 3) rfl)) (by decide) (by decide)) (g := (mkF m 89 #[.val (.int p0), .val (.int p1), .val (.int p2), .val (.int p3), .val (.int (1 : Int32)), .val (.int (1 : Int32)), .val (.ref b376), .unset, .unset, .unset] [(.ref b376), (.ref b449), (.ref b449)])) rfl (by rw [hml]; rfl) (Steps.refl _) (a := b449) (argsL := [(.ref b376)]) (rest := [(.ref b449)]) (lenOf pd_11 rfl) rfl (by show 2 * 0 + _ ≤ _; exact Nat.le_of_eq rfl) (hb hby at_89) (fun _ _ => ⟨rfl, e449, (by decide : 2 + 1 ≤ _), (by decide : 6 + 2 ≤ _)⟩)
          dsimp only [Pt.U, Pt.locs, Pt.cells, Pt.slots] at X457 l457 y457 z457 st457 hQ457
          subst l457 y457 z457
          obtain ⟨rfl, Nq457, Kq457, f458, f459, ⟨kb_457, f460⟩⟩ := hQ457
          have N461 := Fr.app N389 Nq457
          obtain ⟨b457, gq457⟩ : ∃ z, z = h449.size := ⟨_, rfl⟩
          rw [← gq457] at f459 f460
          have g462 : n0 ≤ b457 := (Nat.le_trans Z454 (Nat.le_of_eq gq457.symm))
          have ne463 : b376 ≠ b457 := (Nat.ne_of_lt (Nat.lt_of_lt_of_le f453.lt (Nat.le_of_eq gq457.symm)))
          have ne464 : b449 ≠ b457 := (Nat.ne_of_lt (Nat.lt_of_lt_of_le A449.lt (Nat.le_of_eq gq457.symm)))
          have f465 := (own_staKeep f452 Kq457 (own_snS A449 own_sn0))
          have f466 := (f453.keep Kq457 (ninS ne451 nin0))
          have f467 := (A449.keep Kq457)
          have Z468 : n0 ≤ T457.heap.size := (Nat.le_trans Z454 Kq457.1)
          refine OFin.to (S' := T457.setTop (mkF m 92 #[.val (.int p0), .val (.int p1), .val (.int p2), .val (.int p3), .val (.int (1 : Int32)), .val (.int (1 : Int32)), .val (.ref b376), .unset, .unset, .unset] [(.ref b449)])) st457 ?_
          refine OFin.of (S' := T457.setTop (mkF m 94 #[.val (.int p0), .val (.int p1), .val (.int p2), .val (.int p3), .val (.int (1 : Int32)), .val (.int (1 : Int32)), .val (.ref b376), .val (.ref b449), .unset, .unset] [])) (fun t ht => ?_) ?_
          · refine XS.astore X457.here hx rfl (hb hby at_92) rfl rfl (l' := #[.val (.int p0), .val (.int p1), .val (.int p2), .val (.int p3), .val (.int (1 : Int32)), .val (.int (1 : Int32)), .val (.ref b376), .val (.ref b449), .unset, .unset]) rfl ?_
            exact ht
          obtain ⟨T469, h469, X469, e469, E469, A469, D469, -, st469⟩ := newO X457 hx hZ hown (hw _ (List.mem_of_getElem? (i := 27) rfl)) (hw _ (List.mem_of_getElem? (i := 28) rfl)) (hw _ (List.mem_of_getElem? (i := 29) rfl)) (rfl : T457.heap = T457.heap) (g := (mkF m 94 #[.val (.int p0), .val (.int p1), .val (.int p2), .val (.int p3), .val (.int (1 : Int32)), .val (.int (1 : Int32)), .val (.ref b376), .val (.ref b449), .unset, .unset] [])) rfl (hb hby at_94) (by decide) (by decide)
          obtain ⟨b469, gq469⟩ : ∃ z, z = T457.heap.size := ⟨_, rfl⟩
          rw [← gq469] at A469 D469 st469
          have g470 : n0 ≤ b469 := (Nat.le_trans Z468 (Nat.le_of_eq gq469.symm))
          have ne471 : b376 ≠ b469 := (Nat.ne_of_lt (Nat.lt_of_lt_of_le f466.lt (Nat.le_of_eq gq469.symm)))
          have ne472 : b449 ≠ b469 := (Nat.ne_of_lt (Nat.lt_of_lt_of_le f467.lt (Nat.le_of_eq gq469.symm)))
          have ne473 : b457 ≠ b469 := (Nat.ne_of_lt (Nat.lt_of_lt_of_le f460.lt (Nat.le_of_eq gq469.symm)))
          have f474 := f465.ext E469
          have f475 := f466.ext E469
          have f476 := f467.ext E469
          have f477 := f458.ext E469
          have f478 := f459.ext E469
          have f479 := f460.ext E469
          have Z480 : n0 ≤ h469.size := (Nat.le_trans Z468 E469.1)
          have f481 : Fld Z h469 b469 "com/example/querant/querant/measure/CaseVerdict" "evaluationAgrees" "Z" (.int (0 : Int32)) := D469 (Or.inr (hw _ (List.mem_of_getElem? (i := 40) rfl))) (ty := .boolean) (by decide)
          have f482 : Fld Z h469 b469 "com/example/querant/querant/measure/CaseVerdict" "forecastAgrees" "Z" (.int (0 : Int32)) := D469 (Or.inr (hw _ (List.mem_of_getElem? (i := 42) rfl))) (ty := .boolean) (by decide)
          have f483 : Fld Z h469 b469 "com/example/querant/querant/measure/CaseVerdict" "difference" "Ljava/lang/String;" .null := D469 (Or.inr (hw _ (List.mem_of_getElem? (i := 44) rfl))) (ty := (.object "java/lang/String")) (by decide)
          refine OFin.of (S' := T469.setTop (mkF m 97 #[.val (.int p0), .val (.int p1), .val (.int p2), .val (.int p3), .val (.int (1 : Int32)), .val (.int (1 : Int32)), .val (.ref b376), .val (.ref b449), .unset, .unset] [(.ref b469)])) (fun t ht => st469 t ht) ?_
          refine OFin.of (S' := T469.setTop (mkF m 104 #[.val (.int p0), .val (.int p1), .val (.int p2), .val (.int p3), .val (.int (1 : Int32)), .val (.int (1 : Int32)), .val (.ref b376), .val (.ref b449), .unset, .unset] [(.ref b449), (.int (1 : Int32)), (.int (1 : Int32)), (.ref b469), (.ref b469)])) (fun t ht => ?_) ?_
          · refine XS.dup X469.here hx rfl (hb hby at_97) rfl rfl ?_
            show Steps p.tables e below (T469.setTop (mkF m 98 _ [(.ref b469), (.ref b469)])) _
            refine XS.iload X469.here hx rfl (hb hby at_98) rfl ?_
            show Steps p.tables e below (T469.setTop (mkF m 100 _ [(.int (1 : Int32)), (.ref b469), (.ref b469)])) _
            refine XS.iload X469.here hx rfl (hb hby at_100) rfl ?_
            show Steps p.tables e below (T469.setTop (mkF m 102 _ [(.int (1 : Int32)), (.int (1 : Int32)), (.ref b469), (.ref b469)])) _
            refine XS.aload X469.here hx rfl (hb hby at_102) rfl rfl ?_
            exact ht
          obtain ⟨_, _, ⟨T484, L484, k484, n484⟩, -, X484, ⟨Lc484, hQ484, l484, y484, z484⟩, st484⟩ := X469.specialBack hx (y := (⟨"com/example/querant/querant/measure/CaseVerdict", "<init>", "(ZZLjava/lang/String;)V"⟩ : MethodName)) rfl hown (mvT hZ (hw _ (List.mem_of_getElem? (i := 30) rfl))) (mvT hZ (hw _ (List.mem_of_getElem? (i := 31) rfl))) (mvT hZ (hw _ (List.mem_of_getElem? (i := 32) rfl))) (by decide) (backOf (W := 1) (rmIni11 l Z _ hw [] b469 b449 h469 n0 Z480 A469 f481 f482 f483 g470) hZ (hw _ (List.mem_of_getElem? (i := 32) rfl)) (hw _ (List.mem_of_getElem? (i := 29) rfl)) (by decide) (by decide)) (g := (mkF m 104 #[.val (.int p0), .val (.int p1), .val (.int p2), .val (.int p3), .val (.int (1 : Int32)), .val (.int (1 : Int32)), .val (.ref b376), .val (.ref b449), .unset, .unset] [(.ref b449), (.int (1 : Int32)), (.int (1 : Int32)), (.ref b469), (.ref b469)])) rfl (by rw [hml]; rfl) (Steps.refl _) (a := b469) (argsL := [(.int (1 : Int32)), (.int (1 : Int32)), (.ref b449)]) (rest := [(.ref b469)]) (lenOf pd_8 rfl) rfl (by show 2 * 0 + _ ≤ _; exact Nat.le_of_eq rfl) (hb hby at_104) (fun _ _ => ⟨rfl, e469, (by decide : 4 + 0 ≤ _), (by decide : 11 + 0 ≤ _)⟩)
          dsimp only [Pt.U, Pt.locs, Pt.cells, Pt.slots] at X484 l484 y484 z484 st484 hQ484
          subst l484 y484 z484
          obtain ⟨rfl, Nq484, Kq484, f485, f486, f487⟩ := hQ484
          have N488 := Fr.app N461 Nq484
          have f489 := (own_staKeep f474 Kq484 (own_snS A469 own_sn0))
          have f490 := (f475.keep Kq484 (ninS ne471 nin0))
          have f491 := (f476.keep Kq484)
          have f492 := (f477.keep Kq484 (ninS ne472 nin0))
          have f493 := (f478.keep Kq484 (ninS ne472 nin0))
          have f494 := (f479.keep Kq484 (ninS ne473 nin0))
          have f495 := (A469.keep Kq484)
          have Z496 : n0 ≤ T484.heap.size := (Nat.le_trans Z480 Kq484.1)
          refine OFin.to (S' := T484.setTop (mkF m 107 #[.val (.int p0), .val (.int p1), .val (.int p2), .val (.int p3), .val (.int (1 : Int32)), .val (.int (1 : Int32)), .val (.ref b376), .val (.ref b449), .unset, .unset] [(.ref b469)])) st484 ?_
          refine OFin.of (S' := T484.setTop (mkF m 136 #[.val (.int p0), .val (.int p1), .val (.int p2), .val (.int p3), .val (.int (1 : Int32)), .val (.int (1 : Int32)), .val (.ref b376), .val (.ref b449), .val (.ref b469), .val (.int (1 : Int32))] [(.ref b469)])) (fun t ht => ?_) ?_
          · refine XS.astore X484.here hx rfl (hb hby at_107) rfl rfl (l' := #[.val (.int p0), .val (.int p1), .val (.int p2), .val (.int p3), .val (.int (1 : Int32)), .val (.int (1 : Int32)), .val (.ref b376), .val (.ref b449), .val (.ref b469), .unset]) rfl ?_
            show Steps p.tables e below (T484.setTop (mkF m 109 #[.val (.int p0), .val (.int p1), .val (.int p2), .val (.int p3), .val (.int (1 : Int32)), .val (.int (1 : Int32)), .val (.ref b376), .val (.ref b449), .val (.ref b469), .unset] [])) _
            refine XS.iload X484.here hx rfl (hb hby at_109) rfl ?_
            show Steps p.tables e below (T484.setTop (mkF m 111 _ [(.int (1 : Int32))])) _
            refine XS.ifNo X484.here hx rfl (hb hby at_111) rfl ((if0 _ _).trans (feq (by decide : ¬ ((1 : Int32) = (0 : Int32)))).1) ?_
            show Steps p.tables e below (T484.setTop (mkF m 114 _ [])) _
            refine XS.iload X484.here hx rfl (hb hby at_114) rfl ?_
            show Steps p.tables e below (T484.setTop (mkF m 116 _ [(.int (1 : Int32))])) _
            refine XS.ifNo X484.here hx rfl (hb hby at_116) rfl ((if0 _ _).trans (feq (by decide : ¬ ((1 : Int32) = (0 : Int32)))).1) ?_
            show Steps p.tables e below (T484.setTop (mkF m 119 _ [])) _
            refine XS.iconst X484.here hx rfl (hb hby at_119) ?_
            show Steps p.tables e below (T484.setTop (mkF m 120 _ [(.int (1 : Int32))])) _
            refine XS.istore X484.here hx rfl (hb hby at_120) rfl (l' := #[.val (.int p0), .val (.int p1), .val (.int p2), .val (.int p3), .val (.int (1 : Int32)), .val (.int (1 : Int32)), .val (.ref b376), .val (.ref b449), .val (.ref b469), .val (.int (1 : Int32))]) rfl ?_
            show Steps p.tables e below (T484.setTop (mkF m 122 #[.val (.int p0), .val (.int p1), .val (.int p2), .val (.int p3), .val (.int (1 : Int32)), .val (.int (1 : Int32)), .val (.ref b376), .val (.ref b449), .val (.ref b469), .val (.int (1 : Int32))] [])) _
            refine XS.goto X484.here hx rfl (pc0 := 122) (pc' := 134) rfl (hb hby at_122) (by decide) (by decide) ?_
            show Steps p.tables e below (T484.setTop (mkF m 134 _ [])) _
            refine XS.aload X484.here hx rfl (hb hby at_134) rfl rfl ?_
            exact ht
          obtain ⟨cq498, kq498, q498a, q498b, q498c⟩ := isOf hZ (rfl : T484.heap = T484.heap) f495
          obtain ⟨_, _, ⟨T497, L497, k497, n497⟩, -, X497, ⟨Lc497, hQ497, l497, y497, z497⟩, st497⟩ := X484.virtualBack hx (y := (⟨"com/example/querant/querant/measure/CaseVerdict", "agrees", "()Z"⟩ : MethodName)) (z := (⟨"com/example/querant/querant/measure/CaseVerdict", "agrees", "()Z"⟩ : MethodName)) hown (mvT hZ (hw _ (List.mem_of_getElem? (i := 45) rfl))) (mvT hZ (hw _ (List.mem_of_getElem? (i := 46) rfl))) (notFace_of_selects (args := #[]) (mvT hZ (hw _ (List.mem_of_getElem? (i := 48) rfl)))) (mvT hZ (hw _ (List.mem_of_getElem? (i := 48) rfl))) (mvT hZ (hw _ (List.mem_of_getElem? (i := 47) rfl))) (by decide) (backOf (W := 0) (rmAg11 l Z _ hw [] b469 T484.heap n0 Z496 f485 f486) hZ (hw _ (List.mem_of_getElem? (i := 49) rfl)) (hw _ (List.mem_of_getElem? (i := 29) rfl)) (by decide) (by decide)) q498a q498c (g := (mkF m 136 #[.val (.int p0), .val (.int p1), .val (.int p2), .val (.int p3), .val (.int (1 : Int32)), .val (.int (1 : Int32)), .val (.ref b376), .val (.ref b449), .val (.ref b469), .val (.int (1 : Int32))] [(.ref b469)])) rfl (by rw [hml]; rfl) (Steps.refl _) (argsL := []) (rest := []) (lenOf pd_9 rfl) rfl (by show 2 * 0 + _ ≤ _; exact Nat.le_of_eq rfl) (hb hby at_136) (fun _ _ => ⟨rfl, (rfl : T484.heap = T484.heap), (by decide : 4 + 0 ≤ _), (by decide : 11 + 0 ≤ _)⟩)
          dsimp only [Pt.U, Pt.locs, Pt.cells, Pt.slots] at X497 l497 y497 z497 st497 hQ497
          subst l497 y497 z497
          obtain ⟨rfl, Nq497, hs497⟩ := hQ497
          have N499 := Fr.app N488 Nq497
          refine OFin.to (S' := T497.setTop (mkF m 139 #[.val (.int p0), .val (.int p1), .val (.int p2), .val (.int p3), .val (.int (1 : Int32)), .val (.int (1 : Int32)), .val (.ref b376), .val (.ref b449), .val (.ref b469), .val (.int (1 : Int32))] [(.int (1 : Int32))])) st497 ?_
          refine OFin.of (S' := T497.setTop (mkF m 149 #[.val (.int p0), .val (.int p1), .val (.int p2), .val (.int p3), .val (.int (1 : Int32)), .val (.int (1 : Int32)), .val (.ref b376), .val (.ref b449), .val (.ref b469), .val (.int (1 : Int32))] [(.int (1 : Int32))])) (fun t ht => ?_) ?_
          · refine XS.iload X497.here hx rfl (hb hby at_139) rfl ?_
            show Steps p.tables e below (T497.setTop (mkF m 141 _ [(.int (1 : Int32)), (.int (1 : Int32))])) _
            refine XS.icmpNo X497.here hx rfl (hb hby at_141) rfl (teq (by decide : (1 : Int32) = (1 : Int32))).2 ?_
            show Steps p.tables e below (T497.setTop (mkF m 144 _ [])) _
            refine XS.iconst X497.here hx rfl (hb hby at_144) ?_
            show Steps p.tables e below (T497.setTop (mkF m 145 _ [(.int (1 : Int32))])) _
            refine XS.goto X497.here hx rfl (pc0 := 145) (pc' := 149) rfl (hb hby at_145) (by decide) (by decide) ?_
            exact ht
          exact OFin.retBW (s := s) (vm₁ := s.vm) X497 ((State.WarmedH.refl s).since 0) (Nat.zero_le _) hx hlk (t := .boolean) (by simp) hret (hb hby at_149) (by decide) (by decide) (by rw [hs497]; exact ⟨rfl, N499⟩)
set_option maxRecDepth 65536 in
set_option maxHeartbeats 40000000 in
theorem comes_1 {Post : Tables → Env → Array Value → State → Outcome → State → Prop} (hpost : ∀ tb e args s v u, (limb_1_1.after args s (.returned v) u = true ∧ limb_1_2.after args s (.returned v) u = true ∧ True) → FramedW s (.returned v) u (Jvm.fieldLocs frame_1_writes args s ++ Jvm.arrayLocs frame_1_arrays args s ++ Jvm.staticLocs frame_1_statics s) 24 1152 → Post tb e args s (.returned v) u) :
    ArmFor flags0 classFile x code maxLocals ret World_1 tables_1 room_1 Calls_1 rest_1 Pre_1 Post := by
  intro l hfl _ _ p e ha hc hk s m args below hf hA hF happ hP
  obtain ⟨hcalls, hrest, hpre⟩ := hP
  obtain ⟨-, -, -, hnamed, -, -, -, hat⟩ := (Spec.applies_iff hf).mp happ
  obtain ⟨hg, hn⟩ := and_e (Cond.before_iff.mp (show (Jvm.Cond.and given_1 narrow_1).before args s = true from hpre))
  obtain ⟨gg0, hg0⟩ := and_e hg
  obtain ⟨gg1, hg1⟩ := and_e hg0
  obtain ⟨gg2, hg2⟩ := and_e hg1
  obtain ⟨gg3, hg3⟩ := and_e hg2
  obtain ⟨w0, w1, w2, w3, rfl⟩ : ∃ w0 w1 w2 w3 : Value, args = #[w0, w1, w2, w3] := by
    have hs : args.size = 4 := by simpa [Cond.value, given_1] using gg0
    obtain ⟨L⟩ := args
    match L, hs with
    | [w0, w1, w2, w3], _ => exact ⟨w0, w1, w2, w3, rfl⟩
  have hw := fun d (hd : d ∈ tables_1) => atoms_spec (ws := Jvm.Cond.code x code maxLocals ret :: tables_1) hat d (List.mem_cons_of_mem _ hd)
  have hfit : Fit s := fun {y c} hc i hi => by
    obtain ⟨ha, rfl⟩ := Array.getElem?_eq_some_iff.mp hc
    have q := List.all_eq_true.mp ((Array.all_eq_true_iff_forall_mem.mp hF) _ (Array.getElem_mem ha)) i (List.mem_range.mpr hi)
    simpa [Array.getElem?_eq_getElem hi] using q
  obtain ⟨i0, ei0⟩ := is_v gg1
  obtain rfl : w0 = (.int i0) := Option.some.inj ei0
  obtain ⟨i1, ei1⟩ := is_v gg2
  obtain rfl : w1 = (.int i1) := Option.some.inj ei1
  obtain ⟨i2, ei2⟩ := is_v gg3
  obtain rfl : w2 = (.int i2) := Option.some.inj ei2
  obtain ⟨i3, ei3⟩ := is_v hg3
  obtain rfl : w3 = (.int i3) := Option.some.inj ei3
  obtain ⟨hsets, hown0⟩ := atoms_of _ (rest_1_c_eq ▸ (show rest_1_c.before _ s = true from hrest))
  have nz := not_v (Cond.before_iff.mp (hsets _ (List.mem_of_getElem? (i := 2) rfl)))
  obtain ⟨cs, ecs⟩ := is_v (Cond.before_iff.mp (hsets _ (List.mem_of_getElem? (i := 1) rfl)))
  have Scs : Sta s s.heap "java/lang/String" "COMPACT_STRINGS" "Z" (.int cs) := Sta.start ecs (Or.inl (hsets _ (List.mem_of_getElem? (i := 0) rfl)))
  have hcs : ¬ (cs = (0 : Int32)) := gotF (Cond.eq_ints ecs (Term.int_eval (0))) nz
  obtain ⟨n, o, h1, h2, h3, _, L, rfl, ⟨rfl, N⟩, hq⟩ := rm0 l s _ hw tables_1 i0 i1 i2 i3 cs s.heap s.heap.size (Nat.le_refl _) Scs hcs p e ha hc hk s m _ below hf ((Spec.applies_iff_loose hf).mp happ).1 ⟨rfl, State.Warmed39.refl s, rfl⟩ trivial
  refine ⟨n, _, h1, h2, h3, hpost _ _ _ _ _ _ ⟨Cond.after_iff.mpr rfl, Cond.after_iff.mpr (eq_i res_at (Term.int_eval (1)) rfl), trivial⟩ ⟨hq.1, hq.2.1, hq.2.2.1, (hq.2.2.2.sift fun y hy => Or.inr (N y hy)).mono (by decide) (by decide)⟩⟩
theorem main_1_1 : Claimed_1_1 := comes_1 fun _ _ _ _ _ _ h hF => ⟨h.1, hF⟩
theorem main_1_2 : Claimed_1_2 := comes_1 fun _ _ _ _ _ _ h hF => ⟨h.2.1, hF⟩
end Jvm.Pilot.@@N@@
namespace Jvm.Pilot.@@N@@
open Jvm Jvm.ClassFile Sem Op Lib Jvm.Free Jvm.Stand Jvm.Pilot.@@N@@.Jvm.D
/-! MADE BY PROGRAM (witnessworld.py) out of the Statement's table words and the real class files: 21 classes; the members and pool entries that the words name. The judged class is class 1, her method 1. -/
namespace start1
open Jvm.ClassFile
def u (s : String) : CpInfo := .utf8 (stringToUtf16 s)
/-- a pool by its gaps: so many unusable entries, then the entry; so many at the end -/
def gap : Nat → List CpInfo → List CpInfo
  | 0, r => r
  | n + 1, r => .unusable :: gap n r
def poolList (es : List (Nat × CpInfo)) (last : Nat) : List CpInfo := es.foldr (fun e r => gap e.1 (e.2 :: r)) (gap last [])
def pool (es : List (Nat × CpInfo)) (last : Nat) : Array CpInfo := ⟨poolList es last⟩
def fileOf (pool : Array CpInfo) (this : Nat) (attrs : Array Attribute := #[]) (ms : Array MethodInfo := #[]) (fl : Nat := 33) (sup : Nat := 0) (ifs : Array Nat := #[]) (fds : Array FieldInfo := #[]) : ClassFile where
  minorVersion := 0
  majorVersion := 65
  constantPool := pool
  accessFlags := fl
  thisClass := this
  superClass := sup
  interfaces := ifs
  fields := fds
  methods := ms
  attributes := attrs
def plain (name : String) (sup : Option ClassId) : Class where
  name := name
  kind := .ordinary
  loader := none
  accessFlags := 33
  super := sup
  interfaces := #[]
  cf := none
  fields := #[]
  methods := #[]
  instanceTypes := #[]
  staticTypes := #[]
  resolved := #[]
  callSites := []
  init := .initialized
  statics := none
  mirror := none

def pool0 : Array CpInfo := pool [(5, u "<init>"), (0, u "()V"), (1, .class_ 10), (1, u "java/lang/Object")] 113

def k0c0 : Code := { maxStack := 0, maxLocals := 1, code := object_method_1_code, exceptionTable := #[], attributes := #[] }
def k0m0 : Method := { name := "<init>", desc := "()V", sig := { parameters := [], returnType := none }, accessFlags := 1, code := some k0c0 }
/-- java/lang/Object -/
def k0 : Class := { plain "java/lang/Object" none with
  accessFlags := 33
  interfaces := #[]
  cf := some (fileOf pool0 8 #[] #[{ accessFlags := 1, nameIndex := 5, descriptorIndex := 6, attributes := #[] }] 33 0 #[] #[])
  fields := #[]
  methods := #[k0m0]
  instanceTypes := #[]
  staticTypes := #[]
  resolved := Array.replicate 124 none
  statics := none }

def pool1 : Array CpInfo := pool [(2, .class_ 4), (1, u "java/lang/Object"), (0, u "<init>"), (0, u "()V"), (0, .string 8), (0, u ""), (0, .methodref 10 11), (0, .class_ 12), (0, .nameAndType 13 14), (0, u "java/lang/String"), (0, u "valueOf"), (0, u "(C)Ljava/lang/String;"), (0, .methodref 10 16), (0, .nameAndType 5 17), (0, u "([C)V"), (0, .class_ 19), (0, u "com/example/querant/querant/measure/CaseVerdict"), (0, .methodref 18 21), (0, .nameAndType 5 22), (0, u "(ZZLjava/lang/String;)V"), (0, .methodref 18 24), (0, .nameAndType 25 26), (0, u "agrees"), (0, u "()Z"), (0, .class_ 28), (0, u "com/example/querant/querant/measure/CaseVerdictAgreesPinLaw"), (2, u "law"), (0, u "(IIII)Z")] 5

def k1m0 : Method := { name := "<init>", desc := "()V", sig := { parameters := [], returnType := none }, accessFlags := 2, code := none }
def k1c1 : Code := { maxStack := 5, maxLocals := 10, code := code, exceptionTable := #[], attributes := #[] }
def k1m1 : Method := { name := "law", desc := "(IIII)Z", sig := { parameters := [.int, .int, .int, .int], returnType := some .boolean }, accessFlags := 9, code := some k1c1 }
/-- com/example/querant/querant/measure/CaseVerdictAgreesPinLaw -/
def k1 : Class := { plain "com/example/querant/querant/measure/CaseVerdictAgreesPinLaw" (some 0) with
  accessFlags := 49
  interfaces := #[]
  cf := some (fileOf pool1 27 #[] #[{ accessFlags := 2, nameIndex := 5, descriptorIndex := 6, attributes := #[] }, { accessFlags := 9, nameIndex := 31, descriptorIndex := 32, attributes := #[] }] 49 2 #[] #[])
  fields := #[]
  methods := #[k1m0, k1m1]
  instanceTypes := #[]
  staticTypes := #[]
  resolved := Array.replicate 38 none
  statics := none }

def pool2 : Array CpInfo := pool [(1, .class_ 2), (0, u "java/io/Serializable"), (0, .class_ 4), (0, u "java/lang/Object")] 2

/-- java/io/Serializable -/
def k2 : Class := { plain "java/io/Serializable" (some 0) with
  accessFlags := 1537
  interfaces := #[]
  cf := some (fileOf pool2 1 #[] #[] 1537 3 #[] #[])
  fields := #[]
  methods := #[]
  instanceTypes := #[]
  staticTypes := #[]
  resolved := Array.replicate 7 none
  statics := none }

def pool3 : Array CpInfo := pool [(1, .class_ 2), (0, u "java/lang/Comparable"), (0, .class_ 4), (0, u "java/lang/Object")] 7

/-- java/lang/Comparable -/
def k3 : Class := { plain "java/lang/Comparable" (some 0) with
  accessFlags := 1537
  interfaces := #[]
  cf := some (fileOf pool3 1 #[] #[] 1537 3 #[] #[])
  fields := #[]
  methods := #[]
  instanceTypes := #[]
  staticTypes := #[]
  resolved := Array.replicate 12 none
  statics := none }

def pool4 : Array CpInfo := pool [(2, .class_ 4), (1, u "java/lang/CharSequence"), (42, .class_ 48), (0, u "java/lang/CharSequence$1CodePointIterator"), (10, .class_ 60), (0, u "java/lang/CharSequence$1CharIterator"), (5, .class_ 67), (0, u "java/lang/Object")] 63

/-- java/lang/CharSequence -/
def k4 : Class := { plain "java/lang/CharSequence" (some 0) with
  accessFlags := 1537
  interfaces := #[]
  cf := some (fileOf pool4 2 #[.nestMembers #[47, 59]] #[] 1537 66 #[] #[])
  fields := #[]
  methods := #[]
  instanceTypes := #[]
  staticTypes := #[]
  resolved := Array.replicate 131 none
  statics := none }

def pool5 : Array CpInfo := pool [(1, .class_ 2), (0, u "java/lang/constant/Constable"), (0, .class_ 4), (0, u "java/lang/Object")] 6

/-- java/lang/constant/Constable -/
def k5 : Class := { plain "java/lang/constant/Constable" (some 0) with
  accessFlags := 1537
  interfaces := #[]
  cf := some (fileOf pool5 1 #[] #[] 1537 3 #[] #[])
  fields := #[]
  methods := #[]
  instanceTypes := #[]
  staticTypes := #[]
  resolved := Array.replicate 11 none
  statics := none }

def pool6 : Array CpInfo := pool [(1, .class_ 2), (0, u "java/lang/constant/ConstantDesc"), (0, .class_ 4), (0, u "java/lang/Object")] 32

/-- java/lang/constant/ConstantDesc -/
def k6 : Class := { plain "java/lang/constant/ConstantDesc" (some 0) with
  accessFlags := 1537
  interfaces := #[]
  cf := some (fileOf pool6 1 #[] #[] 1537 3 #[] #[])
  fields := #[]
  methods := #[]
  instanceTypes := #[]
  staticTypes := #[]
  resolved := Array.replicate 37 none
  statics := none }

def pool7 : Array CpInfo := pool [(1, .methodref 2 3), (0, .class_ 4), (0, .nameAndType 5 6), (0, u "java/lang/Object"), (0, u "<init>"), (0, u "()V"), (2, .fieldref 10 11), (0, .class_ 12), (0, .nameAndType 13 14), (0, u "java/lang/String"), (0, u "value"), (0, u "[B"), (0, .fieldref 10 16), (0, .nameAndType 17 18), (0, u "coder"), (0, u "B"), (2, u "hash"), (0, u "I"), (2, u "hashIsZero"), (0, u "Z"), (0, .methodref 10 28), (0, .nameAndType 5 29), (0, u "([CIILjava/lang/Void;)V"), (8, .fieldref 10 39), (0, .nameAndType 40 26), (0, u "COMPACT_STRINGS"), (1, .class_ 44), (1, u "java/lang/StringUTF16"), (0, u "compress"), (1, .methodref 42 48), (0, .nameAndType 49 50), (0, u "coderFromArrayLen"), (0, u "([BI)B"), (2, u "toBytes"), (53, .class_ 109), (1, u "java/lang/StringLatin1"), (67, .methodref 42 178), (0, .nameAndType 45 179), (0, u "([CII)[B"), (29, .methodref 10 210), (0, .nameAndType 5 211), (0, u "([BB)V"), (157, u "(C)Z"), (205, .class_ 576), (0, u "java/lang/CharSequence"), (22, u "CASE_INSENSITIVE_ORDER"), (0, u "Ljava/util/Comparator;"), (181, u "valueOf"), (0, u "(C)Ljava/lang/String;"), (226, u "([C)V"), (4, .methodref 107 1016), (0, .nameAndType 1017 369), (0, u "canEncode"), (0, .methodref 107 1019), (0, .nameAndType 53 1020), (0, u "(C)[B"), (80, u "serialPersistentFields"), (0, u "[Ljava/io/ObjectStreamField;"), (0, .class_ 1104), (0, u "java/lang/String$CaseInsensitiveComparator"), (1, .class_ 1107), (0, u "java/io/Serializable"), (0, .class_ 1109), (0, u "java/lang/Comparable"), (0, .class_ 1111), (0, u "java/lang/constant/Constable"), (0, .class_ 1113), (0, u "java/lang/constant/ConstantDesc"), (2, u "serialVersionUID"), (0, u "J"), (3, u "REPL"), (0, u "C"), (2, u "LATIN1"), (1, u "UTF16")] 323

def k7m0 : Method := { name := "<init>", desc := "()V", sig := { parameters := [], returnType := none }, accessFlags := 1, code := none }
def k7c1 : Code := { maxStack := 5, maxLocals := 2, code := jdk_42_method_3_code, exceptionTable := #[], attributes := #[] }
def k7m1 : Method := { name := "<init>", desc := "([C)V", sig := { parameters := [(.array .char)], returnType := none }, accessFlags := 1, code := some k7c1 }
def k7c2 : Code := { maxStack := 4, maxLocals := 1, code := jdk_42_method_139_code, exceptionTable := #[], attributes := #[] }
def k7m2 : Method := { name := "valueOf", desc := "(C)Ljava/lang/String;", sig := { parameters := [.char], returnType := some (.object "java/lang/String") }, accessFlags := 9, code := some k7c2 }
def k7c3 : Code := { maxStack := 4, maxLocals := 6, code := jdk_42_method_149_code, exceptionTable := #[], attributes := #[] }
def k7m3 : Method := { name := "<init>", desc := "([CIILjava/lang/Void;)V", sig := { parameters := [(.array .char), .int, .int, (.object "java/lang/Void")], returnType := none }, accessFlags := 2, code := some k7c3 }
def k7c4 : Code := { maxStack := 2, maxLocals := 3, code := jdk_42_method_151_code, exceptionTable := #[], attributes := #[] }
def k7m4 : Method := { name := "<init>", desc := "([BB)V", sig := { parameters := [(.array .byte), .byte], returnType := none }, accessFlags := 0, code := some k7c4 }
/-- java/lang/String -/
def k7 : Class := { plain "java/lang/String" (some 0) with
  accessFlags := 49
  interfaces := #[2, 3, 4, 5, 6]
  cf := some (fileOf pool7 10 #[.nestMembers #[1103]] #[{ accessFlags := 1, nameIndex := 5, descriptorIndex := 6, attributes := #[] }, { accessFlags := 1, nameIndex := 5, descriptorIndex := 1010, attributes := #[] }, { accessFlags := 9, nameIndex := 782, descriptorIndex := 783, attributes := #[] }, { accessFlags := 2, nameIndex := 5, descriptorIndex := 29, attributes := #[] }, { accessFlags := 0, nameIndex := 5, descriptorIndex := 211, attributes := #[] }] 49 2 #[1106, 1108, 575, 1110, 1112] #[{ accessFlags := 18, nameIndex := 13, descriptorIndex := 14, attributes := #[] }, { accessFlags := 18, nameIndex := 17, descriptorIndex := 18, attributes := #[] }, { accessFlags := 2, nameIndex := 21, descriptorIndex := 22, attributes := #[] }, { accessFlags := 2, nameIndex := 25, descriptorIndex := 26, attributes := #[] }, { accessFlags := 26, nameIndex := 1116, descriptorIndex := 1117, attributes := #[] }, { accessFlags := 24, nameIndex := 40, descriptorIndex := 26, attributes := #[] }, { accessFlags := 26, nameIndex := 1101, descriptorIndex := 1102, attributes := #[] }, { accessFlags := 26, nameIndex := 1121, descriptorIndex := 1122, attributes := #[] }, { accessFlags := 25, nameIndex := 599, descriptorIndex := 600, attributes := #[] }, { accessFlags := 24, nameIndex := 1125, descriptorIndex := 18, attributes := #[] }, { accessFlags := 24, nameIndex := 1127, descriptorIndex := 18, attributes := #[] }])
  fields := #[{ name := "value", type := (.array .byte), accessFlags := 18, slot := 0, constantValue := 0 }, { name := "coder", type := .byte, accessFlags := 18, slot := 1, constantValue := 0 }, { name := "hash", type := .int, accessFlags := 2, slot := 2, constantValue := 0 }, { name := "hashIsZero", type := .boolean, accessFlags := 2, slot := 3, constantValue := 0 }, { name := "serialVersionUID", type := .long, accessFlags := 26, slot := 0, constantValue := 0 }, { name := "COMPACT_STRINGS", type := .boolean, accessFlags := 24, slot := 1, constantValue := 0 }, { name := "serialPersistentFields", type := (.array (.object "java/io/ObjectStreamField")), accessFlags := 26, slot := 2, constantValue := 0 }, { name := "REPL", type := .char, accessFlags := 26, slot := 3, constantValue := 0 }, { name := "CASE_INSENSITIVE_ORDER", type := (.object "java/util/Comparator"), accessFlags := 25, slot := 4, constantValue := 0 }, { name := "LATIN1", type := .byte, accessFlags := 24, slot := 5, constantValue := 0 }, { name := "UTF16", type := .byte, accessFlags := 24, slot := 6, constantValue := 0 }]
  methods := #[k7m0, k7m1, k7m2, k7m3, k7m4]
  instanceTypes := #[(.array .byte), .byte, .int, .boolean]
  staticTypes := #[.long, .boolean, (.array (.object "java/io/ObjectStreamField")), .char, (.object "java/util/Comparator"), .byte, .byte]
  resolved := Array.replicate 1451 none
  statics := some 0 }

def pool8 : Array CpInfo := pool [(4, .class_ 6), (1, u "java/lang/Object"), (0, u "<init>"), (0, u "()V"), (5, .class_ 16), (1, u "java/lang/StringLatin1"), (73, u "canEncode"), (14, u "(C)Z"), (15, u "$assertionsDisabled"), (0, u "Z"), (98, .class_ 223), (1, u "java/lang/StringLatin1$LinesSpliterator"), (156, u "toBytes"), (1, u "(C)[B"), (7, .class_ 391), (0, u "java/lang/StringLatin1$CharsSpliterator")] 3

def k8m0 : Method := { name := "<init>", desc := "()V", sig := { parameters := [], returnType := none }, accessFlags := 0, code := none }
def k8c1 : Code := { maxStack := 2, maxLocals := 1, code := jdk_43_method_3_code, exceptionTable := #[], attributes := #[] }
def k8m1 : Method := { name := "canEncode", desc := "(C)Z", sig := { parameters := [.char], returnType := some .boolean }, accessFlags := 9, code := some k8c1 }
def k8c2 : Code := { maxStack := 4, maxLocals := 1, code := jdk_43_method_46_code, exceptionTable := #[], attributes := #[] }
def k8m2 : Method := { name := "toBytes", desc := "(C)[B", sig := { parameters := [.char], returnType := some (.array .byte) }, accessFlags := 9, code := some k8c2 }
/-- java/lang/StringLatin1 -/
def k8 : Class := { plain "java/lang/StringLatin1" (some 0) with
  accessFlags := 48
  interfaces := #[]
  cf := some (fileOf pool8 14 #[.nestMembers #[390, 221]] #[{ accessFlags := 0, nameIndex := 7, descriptorIndex := 8, attributes := #[] }, { accessFlags := 9, nameIndex := 90, descriptorIndex := 105, attributes := #[] }, { accessFlags := 9, nameIndex := 380, descriptorIndex := 382, attributes := #[] }] 48 4 #[] #[{ accessFlags := 4120, nameIndex := 121, descriptorIndex := 122, attributes := #[] }])
  fields := #[{ name := "$assertionsDisabled", type := .boolean, accessFlags := 4120, slot := 0, constantValue := 0 }]
  methods := #[k8m0, k8m1, k8m2]
  instanceTypes := #[]
  staticTypes := #[.boolean]
  resolved := Array.replicate 395 none
  statics := none }

def pool9 : Array CpInfo := pool [(1, .methodref 2 3), (0, .class_ 4), (0, .nameAndType 5 6), (0, u "java/lang/Object"), (0, u "<init>"), (0, u "()V"), (0, .class_ 8), (0, u "java/lang/Record")] 13

def k9c0 : Code := { maxStack := 1, maxLocals := 1, code := jdk_30_method_1_code, exceptionTable := #[], attributes := #[] }
def k9m0 : Method := { name := "<init>", desc := "()V", sig := { parameters := [], returnType := none }, accessFlags := 4, code := some k9c0 }
/-- java/lang/Record -/
def k9 : Class := { plain "java/lang/Record" (some 0) with
  accessFlags := 1057
  interfaces := #[]
  cf := some (fileOf pool9 7 #[] #[{ accessFlags := 4, nameIndex := 5, descriptorIndex := 6, attributes := #[] }] 1057 2 #[] #[])
  fields := #[]
  methods := #[k9m0]
  instanceTypes := #[]
  staticTypes := #[]
  resolved := Array.replicate 22 none
  statics := none }

def pool10 : Array CpInfo := pool [(1, .methodref 2 3), (0, .class_ 4), (0, .nameAndType 5 6), (0, u "java/lang/Record"), (0, u "<init>"), (0, u "()V"), (0, .fieldref 8 9), (0, .class_ 10), (0, .nameAndType 11 12), (0, u "com/example/querant/querant/measure/CaseVerdict"), (0, u "evaluationAgrees"), (0, u "Z"), (0, .fieldref 8 14), (0, .nameAndType 15 12), (0, u "forecastAgrees"), (0, .fieldref 8 17), (0, .nameAndType 18 19), (0, u "difference"), (0, u "Ljava/lang/String;"), (12, u "(ZZLjava/lang/String;)V"), (30, u "()Z"), (43, .class_ 108), (0, u "com/example/querant/querant/measure/CaseVerdict$Listed"), (16, .class_ 127), (1, u "com/example/querant/querant/measure/CaseVerdict$Observations"), (125, .class_ 254), (0, u "com/example/querant/querant/measure/CaseVerdict$Expected"), (62, u "FORECAST_CVX"), (1, u "VACCINE_TYPE"), (0, u "VALIDITY"), (0, u "SERIES_STATUS"), (0, u "NONE"), (3, u "agrees")] 57

def k10c0 : Code := { maxStack := 2, maxLocals := 4, code := prog_46_method_1_code, exceptionTable := #[], attributes := #[] }
def k10m0 : Method := { name := "<init>", desc := "(ZZLjava/lang/String;)V", sig := { parameters := [.boolean, .boolean, (.object "java/lang/String")], returnType := none }, accessFlags := 0, code := some k10c0 }
def k10c1 : Code := { maxStack := 1, maxLocals := 1, code := prog_46_method_2_code, exceptionTable := #[], attributes := #[] }
def k10m1 : Method := { name := "agrees", desc := "()Z", sig := { parameters := [], returnType := some .boolean }, accessFlags := 0, code := some k10c1 }
/-- com/example/querant/querant/measure/CaseVerdict -/
def k10 : Class := { plain "com/example/querant/querant/measure/CaseVerdict" (some 9) with
  accessFlags := 48
  interfaces := #[]
  cf := some (fileOf pool10 8 #[.nestMembers #[125, 107, 253]] #[{ accessFlags := 0, nameIndex := 5, descriptorIndex := 32, attributes := #[] }, { accessFlags := 0, nameIndex := 326, descriptorIndex := 63, attributes := #[] }] 48 2 #[] #[{ accessFlags := 18, nameIndex := 11, descriptorIndex := 12, attributes := #[] }, { accessFlags := 18, nameIndex := 15, descriptorIndex := 12, attributes := #[] }, { accessFlags := 18, nameIndex := 18, descriptorIndex := 19, attributes := #[] }, { accessFlags := 26, nameIndex := 317, descriptorIndex := 19, attributes := #[] }, { accessFlags := 26, nameIndex := 319, descriptorIndex := 19, attributes := #[] }, { accessFlags := 26, nameIndex := 320, descriptorIndex := 19, attributes := #[] }, { accessFlags := 26, nameIndex := 321, descriptorIndex := 19, attributes := #[] }, { accessFlags := 26, nameIndex := 322, descriptorIndex := 19, attributes := #[] }])
  fields := #[{ name := "evaluationAgrees", type := .boolean, accessFlags := 18, slot := 0, constantValue := 0 }, { name := "forecastAgrees", type := .boolean, accessFlags := 18, slot := 1, constantValue := 0 }, { name := "difference", type := (.object "java/lang/String"), accessFlags := 18, slot := 2, constantValue := 0 }, { name := "FORECAST_CVX", type := (.object "java/lang/String"), accessFlags := 26, slot := 0, constantValue := 0 }, { name := "VACCINE_TYPE", type := (.object "java/lang/String"), accessFlags := 26, slot := 1, constantValue := 0 }, { name := "VALIDITY", type := (.object "java/lang/String"), accessFlags := 26, slot := 2, constantValue := 0 }, { name := "SERIES_STATUS", type := (.object "java/lang/String"), accessFlags := 26, slot := 3, constantValue := 0 }, { name := "NONE", type := (.object "java/lang/String"), accessFlags := 26, slot := 4, constantValue := 0 }]
  methods := #[k10m0, k10m1]
  instanceTypes := #[.boolean, .boolean, (.object "java/lang/String")]
  staticTypes := #[(.object "java/lang/String"), (.object "java/lang/String"), (.object "java/lang/String"), (.object "java/lang/String"), (.object "java/lang/String")]
  resolved := Array.replicate 384 none
  statics := none }

def pool11 : Array CpInfo := pool [(6, .class_ 8), (1, u "java/lang/Object"), (0, u "<init>"), (0, u "()V"), (1, .class_ 14), (1, u "java/lang/StringUTF16"), (31, u "$assertionsDisabled"), (0, u "Z"), (13, u "HI_BYTE_SHIFT"), (0, u "I"), (2, u "LO_BYTE_SHIFT"), (49, .methodref 12 116), (0, .nameAndType 117 118), (0, u "compress"), (0, u "([CI[BII)I"), (3, u "([CII)[B"), (138, u "coderFromArrayLen"), (0, u "([BI)B"), (106, .class_ 371), (1, u "java/lang/StringUTF16$LinesSpliterator"), (58, u "MAX_LENGTH"), (196, .class_ 628), (0, u "java/lang/StringUTF16$CodePointsSpliterator"), (0, .class_ 630), (0, u "java/lang/StringUTF16$CharsSpliterator")] 4

def k11m0 : Method := { name := "<init>", desc := "()V", sig := { parameters := [], returnType := none }, accessFlags := 0, code := none }
def k11c1 : Code := { maxStack := 2, maxLocals := 2, code := jdk_52_method_15_code, exceptionTable := #[], attributes := #[] }
def k11m1 : Method := { name := "coderFromArrayLen", desc := "([BI)B", sig := { parameters := [(.array .byte), .int], returnType := some .byte }, accessFlags := 8, code := some k11c1 }
def k11c2 : Code := { maxStack := 5, maxLocals := 6, code := jdk_52_method_16_code, exceptionTable := #[], attributes := #[] }
def k11m2 : Method := { name := "compress", desc := "([CII)[B", sig := { parameters := [(.array .char), .int, .int], returnType := some (.array .byte) }, accessFlags := 9, code := some k11c2 }
def k11c3 : Code := { maxStack := 3, maxLocals := 7, code := jdk_52_method_21_code, exceptionTable := #[], attributes := #[] }
def k11m3 : Method := { name := "compress", desc := "([CI[BII)I", sig := { parameters := [(.array .char), .int, (.array .byte), .int, .int], returnType := some .int }, accessFlags := 9, code := some k11c3 }
/-- java/lang/StringUTF16 -/
def k11 : Class := { plain "java/lang/StringUTF16" (some 0) with
  accessFlags := 48
  interfaces := #[]
  cf := some (fileOf pool11 12 #[.nestMembers #[627, 629, 369]] #[{ accessFlags := 0, nameIndex := 9, descriptorIndex := 10, attributes := #[] }, { accessFlags := 8, nameIndex := 261, descriptorIndex := 262, attributes := #[] }, { accessFlags := 9, nameIndex := 117, descriptorIndex := 122, attributes := #[] }, { accessFlags := 9, nameIndex := 117, descriptorIndex := 118, attributes := #[] }] 48 6 #[] #[{ accessFlags := 26, nameIndex := 61, descriptorIndex := 62, attributes := #[] }, { accessFlags := 26, nameIndex := 65, descriptorIndex := 62, attributes := #[] }, { accessFlags := 24, nameIndex := 430, descriptorIndex := 62, attributes := #[] }, { accessFlags := 4120, nameIndex := 46, descriptorIndex := 47, attributes := #[] }])
  fields := #[{ name := "HI_BYTE_SHIFT", type := .int, accessFlags := 26, slot := 0, constantValue := 0 }, { name := "LO_BYTE_SHIFT", type := .int, accessFlags := 26, slot := 1, constantValue := 0 }, { name := "MAX_LENGTH", type := .int, accessFlags := 24, slot := 2, constantValue := 0 }, { name := "$assertionsDisabled", type := .boolean, accessFlags := 4120, slot := 3, constantValue := 0 }]
  methods := #[k11m0, k11m1, k11m2, k11m3]
  instanceTypes := #[]
  staticTypes := #[.int, .int, .int, .boolean]
  resolved := Array.replicate 635 none
  statics := none }

def pool12 : Array CpInfo := pool [(2, .class_ 4), (1, u "java/lang/Object"), (0, u "<init>"), (0, u "()V"), (17, .class_ 26), (1, u "jdk/internal/util/Preconditions"), (28, .class_ 56), (0, u "jdk/internal/util/Preconditions$4"), (57, .class_ 115), (0, u "jdk/internal/util/Preconditions$1"), (7, u "SIOOBE_FORMATTER"), (0, u "Ljava/util/function/BiFunction;"), (0, .class_ 126), (0, u "jdk/internal/util/Preconditions$2"), (3, u "AIOOBE_FORMATTER"), (0, .class_ 132), (0, u "jdk/internal/util/Preconditions$3"), (3, u "IOOBE_FORMATTER")] 57

def k12m0 : Method := { name := "<init>", desc := "()V", sig := { parameters := [], returnType := none }, accessFlags := 1, code := none }
/-- jdk/internal/util/Preconditions -/
def k12 : Class := { plain "jdk/internal/util/Preconditions" (some 0) with
  accessFlags := 33
  interfaces := #[]
  cf := some (fileOf pool12 24 #[.nestMembers #[55, 131, 125, 114]] #[{ accessFlags := 1, nameIndex := 5, descriptorIndex := 6, attributes := #[] }] 33 2 #[] #[{ accessFlags := 25, nameIndex := 123, descriptorIndex := 124, attributes := #[] }, { accessFlags := 25, nameIndex := 130, descriptorIndex := 124, attributes := #[] }, { accessFlags := 25, nameIndex := 136, descriptorIndex := 124, attributes := #[] }])
  fields := #[{ name := "SIOOBE_FORMATTER", type := (.object "java/util/function/BiFunction"), accessFlags := 25, slot := 0, constantValue := 0 }, { name := "AIOOBE_FORMATTER", type := (.object "java/util/function/BiFunction"), accessFlags := 25, slot := 1, constantValue := 0 }, { name := "IOOBE_FORMATTER", type := (.object "java/util/function/BiFunction"), accessFlags := 25, slot := 2, constantValue := 0 }]
  methods := #[k12m0]
  instanceTypes := #[]
  staticTypes := #[(.object "java/util/function/BiFunction"), (.object "java/util/function/BiFunction"), (.object "java/util/function/BiFunction")]
  resolved := Array.replicate 194 none
  statics := some 1 }

def pool13 : Array CpInfo := pool [(9, u "<init>"), (6, .class_ 18), (1, u "java/lang/Object"), (0, u "()V"), (1, .class_ 23), (1, u "jdk/internal/util/ArraysSupport"), (0, u "LOG2_ARRAY_LONG_INDEX_SCALE"), (0, u "I"), (2, u "U"), (0, u "Ljdk/internal/misc/Unsafe;"), (8, u "BIG_ENDIAN"), (0, u "Z"), (8, u "LOG2_BYTE_BIT_SIZE"), (4, u "LOG2_ARRAY_INT_INDEX_SCALE"), (54, u "JLA"), (0, u "Ljdk/internal/access/JavaLangAccess;"), (11, u "LOG2_ARRAY_BOOLEAN_INDEX_SCALE"), (9, u "LOG2_ARRAY_BYTE_INDEX_SCALE"), (5, u "LOG2_ARRAY_CHAR_INDEX_SCALE"), (5, u "LOG2_ARRAY_SHORT_INDEX_SCALE"), (18, u "LOG2_ARRAY_FLOAT_INDEX_SCALE"), (24, u "LOG2_ARRAY_DOUBLE_INDEX_SCALE"), (89, u "T_BOOLEAN"), (2, u "T_CHAR"), (1, u "T_FLOAT"), (1, u "T_DOUBLE"), (1, u "T_BYTE"), (1, u "T_SHORT"), (1, u "T_INT"), (1, u "T_LONG"), (1, u "SOFT_MAX_ARRAY_LENGTH")] 83

def k13m0 : Method := { name := "<init>", desc := "()V", sig := { parameters := [], returnType := none }, accessFlags := 2, code := none }
/-- jdk/internal/util/ArraysSupport -/
def k13 : Class := { plain "jdk/internal/util/ArraysSupport" (some 0) with
  accessFlags := 33
  interfaces := #[]
  cf := some (fileOf pool13 21 #[] #[{ accessFlags := 2, nameIndex := 9, descriptorIndex := 19, attributes := #[] }] 33 16 #[] #[{ accessFlags := 24, nameIndex := 28, descriptorIndex := 29, attributes := #[] }, { accessFlags := 26, nameIndex := 38, descriptorIndex := 39, attributes := #[] }, { accessFlags := 25, nameIndex := 121, descriptorIndex := 25, attributes := #[] }, { accessFlags := 25, nameIndex := 131, descriptorIndex := 25, attributes := #[] }, { accessFlags := 25, nameIndex := 137, descriptorIndex := 25, attributes := #[] }, { accessFlags := 25, nameIndex := 143, descriptorIndex := 25, attributes := #[] }, { accessFlags := 25, nameIndex := 53, descriptorIndex := 25, attributes := #[] }, { accessFlags := 25, nameIndex := 24, descriptorIndex := 25, attributes := #[] }, { accessFlags := 25, nameIndex := 162, descriptorIndex := 25, attributes := #[] }, { accessFlags := 25, nameIndex := 187, descriptorIndex := 25, attributes := #[] }, { accessFlags := 26, nameIndex := 48, descriptorIndex := 25, attributes := #[] }, { accessFlags := 25, nameIndex := 277, descriptorIndex := 25, attributes := #[] }, { accessFlags := 25, nameIndex := 280, descriptorIndex := 25, attributes := #[] }, { accessFlags := 25, nameIndex := 282, descriptorIndex := 25, attributes := #[] }, { accessFlags := 25, nameIndex := 284, descriptorIndex := 25, attributes := #[] }, { accessFlags := 25, nameIndex := 286, descriptorIndex := 25, attributes := #[] }, { accessFlags := 25, nameIndex := 288, descriptorIndex := 25, attributes := #[] }, { accessFlags := 25, nameIndex := 290, descriptorIndex := 25, attributes := #[] }, { accessFlags := 25, nameIndex := 292, descriptorIndex := 25, attributes := #[] }, { accessFlags := 26, nameIndex := 108, descriptorIndex := 109, attributes := #[] }, { accessFlags := 25, nameIndex := 294, descriptorIndex := 25, attributes := #[] }])
  fields := #[{ name := "U", type := (.object "jdk/internal/misc/Unsafe"), accessFlags := 24, slot := 0, constantValue := 0 }, { name := "BIG_ENDIAN", type := .boolean, accessFlags := 26, slot := 1, constantValue := 0 }, { name := "LOG2_ARRAY_BOOLEAN_INDEX_SCALE", type := .int, accessFlags := 25, slot := 2, constantValue := 0 }, { name := "LOG2_ARRAY_BYTE_INDEX_SCALE", type := .int, accessFlags := 25, slot := 3, constantValue := 0 }, { name := "LOG2_ARRAY_CHAR_INDEX_SCALE", type := .int, accessFlags := 25, slot := 4, constantValue := 0 }, { name := "LOG2_ARRAY_SHORT_INDEX_SCALE", type := .int, accessFlags := 25, slot := 5, constantValue := 0 }, { name := "LOG2_ARRAY_INT_INDEX_SCALE", type := .int, accessFlags := 25, slot := 6, constantValue := 0 }, { name := "LOG2_ARRAY_LONG_INDEX_SCALE", type := .int, accessFlags := 25, slot := 7, constantValue := 0 }, { name := "LOG2_ARRAY_FLOAT_INDEX_SCALE", type := .int, accessFlags := 25, slot := 8, constantValue := 0 }, { name := "LOG2_ARRAY_DOUBLE_INDEX_SCALE", type := .int, accessFlags := 25, slot := 9, constantValue := 0 }, { name := "LOG2_BYTE_BIT_SIZE", type := .int, accessFlags := 26, slot := 10, constantValue := 0 }, { name := "T_BOOLEAN", type := .int, accessFlags := 25, slot := 11, constantValue := 0 }, { name := "T_CHAR", type := .int, accessFlags := 25, slot := 12, constantValue := 0 }, { name := "T_FLOAT", type := .int, accessFlags := 25, slot := 13, constantValue := 0 }, { name := "T_DOUBLE", type := .int, accessFlags := 25, slot := 14, constantValue := 0 }, { name := "T_BYTE", type := .int, accessFlags := 25, slot := 15, constantValue := 0 }, { name := "T_SHORT", type := .int, accessFlags := 25, slot := 16, constantValue := 0 }, { name := "T_INT", type := .int, accessFlags := 25, slot := 17, constantValue := 0 }, { name := "T_LONG", type := .int, accessFlags := 25, slot := 18, constantValue := 0 }, { name := "JLA", type := (.object "jdk/internal/access/JavaLangAccess"), accessFlags := 26, slot := 19, constantValue := 0 }, { name := "SOFT_MAX_ARRAY_LENGTH", type := .int, accessFlags := 25, slot := 20, constantValue := 0 }]
  methods := #[k13m0]
  instanceTypes := #[]
  staticTypes := #[(.object "jdk/internal/misc/Unsafe"), .boolean, .int, .int, .int, .int, .int, .int, .int, .int, .int, .int, .int, .int, .int, .int, .int, .int, .int, (.object "jdk/internal/access/JavaLangAccess"), .int]
  resolved := Array.replicate 378 none
  statics := none }

def pool14 : Array CpInfo := pool [(1, u "java/lang/Cloneable"), (0, .class_ 1), (0, u "java/lang/Object"), (0, .class_ 3)] 3

/-- java/lang/Cloneable -/
def k14 : Class := { plain "java/lang/Cloneable" (some 0) with
  accessFlags := 1537
  interfaces := #[]
  cf := some (fileOf pool14 2 #[] #[] 1537 4 #[] #[])
  fields := #[]
  methods := #[]
  instanceTypes := #[]
  staticTypes := #[]
  resolved := Array.replicate 8 none
  statics := none }

/-- the primitive byte -/
def k15 : Class := { plain "byte" none with kind := .primitive 'B', accessFlags := 0x411 }
/-- [B -/
def k16 : Class := { plain "[B" (some 0) with kind := .array 15 .byte, interfaces := #[14, 2], accessFlags := 1041 }

/-- the primitive char -/
def k17 : Class := { plain "char" none with kind := .primitive 'C', accessFlags := 0x411 }
/-- [C -/
def k18 : Class := { plain "[C" (some 0) with kind := .array 17 .char, interfaces := #[14, 2], accessFlags := 1041 }

/-- the primitive int -/
def k19 : Class := { plain "int" none with kind := .primitive 'I', accessFlags := 0x411 }
/-- [I -/
def k20 : Class := { plain "[I" (some 0) with kind := .array 19 .int, interfaces := #[14, 2], accessFlags := 1041 }

def heap : Heap := #[{ cls := 7, slots := #[.long 0, .int 1, .null, .int 0, .null, .int 0, .int 0], vm := .statics 7 },
  { cls := 12, slots := #[.null, .null, .null], vm := .statics 12 }]
def classes : Array Class := #[k0, k1, k2, k3, k4, k5, k6, k7, k8, k9, k10, k11, k12, k13, k14, k15, k16, k17, k18, k19, k20]
def interned : List (Array UInt16 × Addr) := []
def slotsUsed : Nat := 10
def theMethod : MethodId := ⟨1, 1⟩
def args0 : Array Value := #[.int 5, .int 5, .int 5, .int 5]
def aboutOver (below : List Frame) : State where
  vm := { classes := classes, interned := interned.toArray }
  heap := heap
  slotsUsed := slotsUsed
  threads := #[{ frames := .invoking theMethod args0 :: below }]
def below0 : List Frame := [.native { method := ⟨0, 0⟩, args := #[] }]
def about1 : State := aboutOver below0
def p0 : Program := .bare "" "" ""
def e0 : Env := launch0.env 0 0 0
theorem w_frames : about1.frames = Frame.invoking theMethod args0 :: below0 := rfl
set_option maxRecDepth 65536 in
theorem w_args : argsFit about1.vm theMethod args0 = true := by decide +kernel
set_option maxRecDepth 65536 in
theorem w_heap : heapFits about1 = true := by decide +kernel
set_option maxRecDepth 65536 in
theorem w_runnable : about1.curStatus? = some .runnable := by decide +kernel
set_option maxRecDepth 65536 in
theorem w_alone : about1.alone = true := by decide +kernel
set_option maxRecDepth 65536 in
theorem w_named : about1.methodNamed? x = some theMethod := by decide +kernel
set_option maxRecDepth 65536 in
theorem w_hears : about1.hears theMethod below0 = true := by decide +kernel
set_option maxRecDepth 65536 in
theorem w_ripe : about1.ripe theMethod args0 below0 = true := by decide +kernel
theorem w_running : about1.status = .running := rfl
set_option maxRecDepth 65536 in
theorem w_room : about1.hasRoom e0.platform room_1 = true :=
  launch0.hasRoom_least _ room_1 (by decide +kernel) (by decide +kernel) (by decide +kernel) (by decide +kernel) (by decide +kernel) (by decide +kernel)
theorem allAtoms_all (ts : List Jvm.Cond) (a : Array Jvm.Value) (st : Jvm.State) : (allAtoms ts).before a st = ts.all (fun c => c.before a st) := by
  induction ts with
  | nil => rfl
  | cons c t ih =>
    show (Jvm.Cond.and c (allAtoms t)).before a st = _
    rw [Jvm.Cond.before_and, ih, List.all_cons]
def words1 : List Jvm.Cond := Jvm.Cond.code x code maxLocals ret :: tables_1
/-- a 'code' word, met by the world's own term for the bytes: nothing is compared byte by byte -/
theorem code_word {y : MethodName} {bytes : ByteArray} {mx : Nat} {rt : Option FieldType} {a : Array Value} {s : State} {m : MethodId} {meth : Method} {c : Code} (h1 : s.methodNamed? y = some m) (h2 : s.vm.method? m = some meth) (h3 : meth.code = some c) (h4 : c.code = bytes)
    (h5 : (c.maxLocals == mx && c.exceptionTable.isEmpty && decide (c.maxStack ≤ mostOperands) && decide (meth.sig.returnType = rt) && !meth.locks && decide (parseMethodDescriptor y.desc = some meth.sig)) = true) : (Jvm.Cond.code y bytes mx rt).before a s = true := by
  simp only [Bool.and_eq_true, beq_iff_eq, Bool.not_eq_true', decide_eq_true_eq] at h5
  obtain ⟨⟨⟨⟨⟨g1, g2⟩, g3⟩, g4⟩, g5⟩, g6⟩ := h5
  simp [Cond.before, Cond.holds, Cond.value, h1, h2, h3, h4, g1, g2, g3, g4, g5, g6]
def isCode : Jvm.Cond → Bool
  | .code _ _ _ _ => true
  | _ => false
theorem all_split {L : List Jvm.Cond} {P : Jvm.Cond → Bool} (h1 : L.all (fun c => isCode c || P c) = true) (h2 : ∀ c ∈ L.filter isCode, P c = true) : L.all P = true := by
  refine List.all_eq_true.mpr fun c hc => ?_
  have h := List.all_eq_true.mp h1 c hc
  rcases Bool.eq_false_or_eq_true (isCode c) with hi | hi
  · exact h2 c (List.mem_filter.mpr ⟨hc, hi⟩)
  · simpa [hi] using h
set_option maxRecDepth 65536 in
theorem w_c0 : (Jvm.Cond.code x code maxLocals ret).before args0 about1 = true := code_word (m := ⟨1, 1⟩) (meth := k1m1) (c := k1c1) (by decide +kernel) rfl rfl rfl (by decide +kernel)
set_option maxRecDepth 65536 in
theorem w_c1 : (Jvm.Cond.code ({ cls := "java/lang/String", name := "valueOf", desc := "(C)Ljava/lang/String;" } : Jvm.MethodName) jdk_42_method_139_code (1 : Nat) (Option.some (Jvm.ClassFile.FieldType.object "java/lang/String"))).before args0 about1 = true := code_word (m := ⟨7, 2⟩) (meth := k7m2) (c := k7c2) (by decide +kernel) rfl rfl rfl (by decide +kernel)
set_option maxRecDepth 65536 in
theorem w_c2 : (Jvm.Cond.code ({ cls := "java/lang/StringLatin1", name := "canEncode", desc := "(C)Z" } : Jvm.MethodName) jdk_43_method_3_code (1 : Nat) (Option.some Jvm.ClassFile.FieldType.boolean)).before args0 about1 = true := code_word (m := ⟨8, 1⟩) (meth := k8m1) (c := k8c1) (by decide +kernel) rfl rfl rfl (by decide +kernel)
set_option maxRecDepth 65536 in
theorem w_c3 : (Jvm.Cond.code ({ cls := "java/lang/StringLatin1", name := "toBytes", desc := "(C)[B" } : Jvm.MethodName) jdk_43_method_46_code (1 : Nat) (Option.some (Jvm.ClassFile.FieldType.array Jvm.ClassFile.FieldType.byte))).before args0 about1 = true := code_word (m := ⟨8, 2⟩) (meth := k8m2) (c := k8c2) (by decide +kernel) rfl rfl rfl (by decide +kernel)
set_option maxRecDepth 65536 in
theorem w_c4 : (Jvm.Cond.code ({ cls := "java/lang/String", name := "<init>", desc := "([BB)V" } : Jvm.MethodName) jdk_42_method_151_code (3 : Nat) (Option.none : Option Jvm.ClassFile.FieldType)).before args0 about1 = true := code_word (m := ⟨7, 4⟩) (meth := k7m4) (c := k7c4) (by decide +kernel) rfl rfl rfl (by decide +kernel)
set_option maxRecDepth 65536 in
theorem w_c5 : (Jvm.Cond.code ({ cls := "java/lang/Object", name := "<init>", desc := "()V" } : Jvm.MethodName) object_method_1_code (1 : Nat) (Option.none : Option Jvm.ClassFile.FieldType)).before args0 about1 = true := code_word (m := ⟨0, 0⟩) (meth := k0m0) (c := k0c0) (by decide +kernel) rfl rfl rfl (by decide +kernel)
set_option maxRecDepth 65536 in
theorem w_c6 : (Jvm.Cond.code ({ cls := "com/example/querant/querant/measure/CaseVerdict", name := "<init>", desc := "(ZZLjava/lang/String;)V" } : Jvm.MethodName) prog_46_method_1_code (4 : Nat) (Option.none : Option Jvm.ClassFile.FieldType)).before args0 about1 = true := code_word (m := ⟨10, 0⟩) (meth := k10m0) (c := k10c0) (by decide +kernel) rfl rfl rfl (by decide +kernel)
set_option maxRecDepth 65536 in
theorem w_c7 : (Jvm.Cond.code ({ cls := "java/lang/Record", name := "<init>", desc := "()V" } : Jvm.MethodName) jdk_30_method_1_code (1 : Nat) (Option.none : Option Jvm.ClassFile.FieldType)).before args0 about1 = true := code_word (m := ⟨9, 0⟩) (meth := k9m0) (c := k9c0) (by decide +kernel) rfl rfl rfl (by decide +kernel)
set_option maxRecDepth 65536 in
theorem w_c8 : (Jvm.Cond.code ({ cls := "com/example/querant/querant/measure/CaseVerdict", name := "agrees", desc := "()Z" } : Jvm.MethodName) prog_46_method_2_code (1 : Nat) (Option.some Jvm.ClassFile.FieldType.boolean)).before args0 about1 = true := code_word (m := ⟨10, 1⟩) (meth := k10m1) (c := k10c1) (by decide +kernel) rfl rfl rfl (by decide +kernel)
set_option maxRecDepth 65536 in
theorem w_c9 : (Jvm.Cond.code ({ cls := "java/lang/String", name := "<init>", desc := "([C)V" } : Jvm.MethodName) jdk_42_method_3_code (2 : Nat) (Option.none : Option Jvm.ClassFile.FieldType)).before args0 about1 = true := code_word (m := ⟨7, 1⟩) (meth := k7m1) (c := k7c1) (by decide +kernel) rfl rfl rfl (by decide +kernel)
set_option maxRecDepth 65536 in
theorem w_c10 : (Jvm.Cond.code ({ cls := "java/lang/String", name := "<init>", desc := "([CIILjava/lang/Void;)V" } : Jvm.MethodName) jdk_42_method_149_code (6 : Nat) (Option.none : Option Jvm.ClassFile.FieldType)).before args0 about1 = true := code_word (m := ⟨7, 3⟩) (meth := k7m3) (c := k7c3) (by decide +kernel) rfl rfl rfl (by decide +kernel)
set_option maxRecDepth 65536 in
theorem w_c11 : (Jvm.Cond.code ({ cls := "java/lang/StringUTF16", name := "compress", desc := "([CII)[B" } : Jvm.MethodName) jdk_52_method_16_code (6 : Nat) (Option.some (Jvm.ClassFile.FieldType.array Jvm.ClassFile.FieldType.byte))).before args0 about1 = true := code_word (m := ⟨11, 2⟩) (meth := k11m2) (c := k11c2) (by decide +kernel) rfl rfl rfl (by decide +kernel)
set_option maxRecDepth 65536 in
theorem w_c12 : (Jvm.Cond.code ({ cls := "java/lang/StringUTF16", name := "compress", desc := "([CI[BII)I" } : Jvm.MethodName) jdk_52_method_21_code (7 : Nat) (Option.some Jvm.ClassFile.FieldType.int)).before args0 about1 = true := code_word (m := ⟨11, 3⟩) (meth := k11m3) (c := k11c3) (by decide +kernel) rfl rfl rfl (by decide +kernel)
set_option maxRecDepth 65536 in
theorem w_c13 : (Jvm.Cond.code ({ cls := "java/lang/StringUTF16", name := "coderFromArrayLen", desc := "([BI)B" } : Jvm.MethodName) jdk_52_method_15_code (2 : Nat) (Option.some Jvm.ClassFile.FieldType.byte)).before args0 about1 = true := code_word (m := ⟨11, 1⟩) (meth := k11m1) (c := k11c1) (by decide +kernel) rfl rfl rfl (by decide +kernel)
def codes1 : List Jvm.Cond := [Jvm.Cond.code x code maxLocals ret, Jvm.Cond.code ({ cls := "java/lang/String", name := "valueOf", desc := "(C)Ljava/lang/String;" } : Jvm.MethodName) jdk_42_method_139_code (1 : Nat) (Option.some (Jvm.ClassFile.FieldType.object "java/lang/String")), Jvm.Cond.code ({ cls := "java/lang/StringLatin1", name := "canEncode", desc := "(C)Z" } : Jvm.MethodName) jdk_43_method_3_code (1 : Nat) (Option.some Jvm.ClassFile.FieldType.boolean), Jvm.Cond.code ({ cls := "java/lang/StringLatin1", name := "toBytes", desc := "(C)[B" } : Jvm.MethodName) jdk_43_method_46_code (1 : Nat) (Option.some (Jvm.ClassFile.FieldType.array Jvm.ClassFile.FieldType.byte)), Jvm.Cond.code ({ cls := "java/lang/String", name := "<init>", desc := "([BB)V" } : Jvm.MethodName) jdk_42_method_151_code (3 : Nat) (Option.none : Option Jvm.ClassFile.FieldType), Jvm.Cond.code ({ cls := "java/lang/Object", name := "<init>", desc := "()V" } : Jvm.MethodName) object_method_1_code (1 : Nat) (Option.none : Option Jvm.ClassFile.FieldType), Jvm.Cond.code ({ cls := "com/example/querant/querant/measure/CaseVerdict", name := "<init>", desc := "(ZZLjava/lang/String;)V" } : Jvm.MethodName) prog_46_method_1_code (4 : Nat) (Option.none : Option Jvm.ClassFile.FieldType), Jvm.Cond.code ({ cls := "java/lang/Record", name := "<init>", desc := "()V" } : Jvm.MethodName) jdk_30_method_1_code (1 : Nat) (Option.none : Option Jvm.ClassFile.FieldType), Jvm.Cond.code ({ cls := "com/example/querant/querant/measure/CaseVerdict", name := "agrees", desc := "()Z" } : Jvm.MethodName) prog_46_method_2_code (1 : Nat) (Option.some Jvm.ClassFile.FieldType.boolean), Jvm.Cond.code ({ cls := "java/lang/String", name := "<init>", desc := "([C)V" } : Jvm.MethodName) jdk_42_method_3_code (2 : Nat) (Option.none : Option Jvm.ClassFile.FieldType), Jvm.Cond.code ({ cls := "java/lang/String", name := "<init>", desc := "([CIILjava/lang/Void;)V" } : Jvm.MethodName) jdk_42_method_149_code (6 : Nat) (Option.none : Option Jvm.ClassFile.FieldType), Jvm.Cond.code ({ cls := "java/lang/StringUTF16", name := "compress", desc := "([CII)[B" } : Jvm.MethodName) jdk_52_method_16_code (6 : Nat) (Option.some (Jvm.ClassFile.FieldType.array Jvm.ClassFile.FieldType.byte)), Jvm.Cond.code ({ cls := "java/lang/StringUTF16", name := "compress", desc := "([CI[BII)I" } : Jvm.MethodName) jdk_52_method_21_code (7 : Nat) (Option.some Jvm.ClassFile.FieldType.int), Jvm.Cond.code ({ cls := "java/lang/StringUTF16", name := "coderFromArrayLen", desc := "([BI)B" } : Jvm.MethodName) jdk_52_method_15_code (2 : Nat) (Option.some Jvm.ClassFile.FieldType.byte)]
set_option maxRecDepth 65536 in
theorem codes_eq : words1.filter isCode = codes1 := rfl
theorem w_codes : ∀ c ∈ words1.filter isCode, c.before args0 about1 = true := by
  rw [codes_eq]
  intro c hc
  simp only [codes1, List.mem_cons, List.not_mem_nil, or_false] at hc
  rcases hc with rfl | rfl | rfl | rfl | rfl | rfl | rfl | rfl | rfl | rfl | rfl | rfl | rfl | rfl
  · exact w_c0
  · exact w_c1
  · exact w_c2
  · exact w_c3
  · exact w_c4
  · exact w_c5
  · exact w_c6
  · exact w_c7
  · exact w_c8
  · exact w_c9
  · exact w_c10
  · exact w_c11
  · exact w_c12
  · exact w_c13
set_option maxRecDepth 65536 in
theorem w_t1 : (words1.take 24).all (fun c => isCode c || c.before args0 about1) = true := by decide +kernel
set_option maxRecDepth 65536 in
theorem w_t2 : ((words1.drop 24).take 24).all (fun c => isCode c || c.before args0 about1) = true := by decide +kernel
set_option maxRecDepth 65536 in
theorem w_t3 : ((words1.drop 24).drop 24).all (fun c => isCode c || c.before args0 about1) = true := by decide +kernel
theorem w_tables : (allAtoms (Jvm.Cond.code x code maxLocals ret :: tables_1)).before args0 about1 = true := by
  rw [allAtoms_all]
  show words1.all (fun c => c.before args0 about1) = true
  refine all_split ?_ w_codes
  rw [← List.take_append_drop 24 words1, List.all_append, w_t1, ← List.take_append_drop 24 (words1.drop 24), List.all_append, w_t2, w_t3]
  rfl
set_option maxRecDepth 65536 in
theorem w_rest : rest_1_c.before args0 about1 = true := by decide +kernel
set_option maxRecDepth 65536 in
theorem w_case : (Jvm.Cond.and given_1 narrow_1).before args0 about1 = true := by decide +kernel
theorem w_applies : (headSpec (Jvm.Cond.code x code maxLocals ret :: tables_1) room_1).applies x e0.platform about1 = true :=
  (Spec.applies_iff w_frames).mpr ⟨w_running, w_runnable, w_alone, w_named, w_hears, w_ripe, w_room, w_tables⟩
theorem atStart : AtStart classFile x code maxLocals ret World_1 tables_1 room_1 Calls_1 rest_1 Pre_1 launch0 p0 e0 about1 theMethod args0 below0 :=
  ⟨lists_1, trivial, launch0.admits_env _ _ _, launch0.least_env, fairChoices_fair.cas, fairChoices_fair.clock, w_frames, w_args, w_heap, w_applies, trivial, w_rest, w_case⟩
end start1
theorem witness_1 : WitnessClaimed_1 := ⟨start1.p0, start1.e0, start1.about1, start1.theMethod, start1.args0, start1.below0, start1.atStart⟩
end Jvm.Pilot.@@N@@
