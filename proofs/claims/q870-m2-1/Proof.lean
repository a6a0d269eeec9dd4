import JvmDerived
import JvmDerived.Pilot.@@N@@Statement
import JvmDerived.Pilot.@@N@@Code
set_option linter.unusedVariables false
set_option linter.unusedSimpArgs false
namespace Jvm.RoadKit
open Sem ClassFile Op Lib Jvm.Stand Jvm.Free Jvm.LawKit
section OwnNew
variable {p : Program} {l : Launch} {e : Env} {R : Room} {s : State} {m : MethodId} {args : Array Value} {below : List Frame} {meth : Method} {c : Code} {T : State} {locs : List Loc} {cells slots : Nat}
theorem retI (X : Stand p l e R s m args below meth c T locs cells slots) (hx : p.tables.exec = Jvm.exec) {pc : Nat} {Ls : Array Slot} {z : Int32} {rest : List Value} (hret : meth.sig.returnType = some .int) (hd : decode c.code pc = .ok (.ireturn, 1)) {fs : List Frame}
    (hl : ∀ (f : JFrame) (acts : List Action), f.method = m → f.locked = none → f.entered = [] → (doReturn e (T.setTop f) acts (some (.int z))).1 = T.setFrames fs) : Steps p.tables e below (T.setTop (mkF m pc Ls (.int z :: rest))) (T.setFrames fs) := by
  have hm' : T.vm.method? m = some meth := X.method'
  have hn : narrow .int (.int z) = .int z := rfl
  show Steps p.tables e below (T.setTop { method := m, pc := pc, locals := Ls, stack := _ :: rest, locked := none }) _
  jvm_step X.here [X.here.top, hx, hd, hm', hret, hn]
  first | (intro acts; rw [hl _ acts rfl rfl rfl]) | rw [hl _ _ rfl rfl rfl]
  exact Steps.refl _
/-- from S the run comes to an end of this invocation at which K holds -/
def OFin (p : Program) (e : Env) (below : List Frame) (K : Outcome → State → Prop) (S : State) : Prop := ∃ s₂ o, Steps p.tables e below S s₂ ∧ s₂.status = .running ∧ Ended s₂ below o ∧ K o s₂
theorem OFin.of {K : Outcome → State → Prop} {S S' : State} (h : ∀ t, Steps p.tables e below S' t → Steps p.tables e below S t) (k : OFin p e below K S') : OFin p e below K S := by
  obtain ⟨t, o, a, b⟩ := k; exact ⟨t, o, h t a, b⟩
theorem OFin.to {K : Outcome → State → Prop} {S S' : State} (h : Steps p.tables e below S S') (k : OFin p e below K S') : OFin p e below K S := by
  obtain ⟨t, o, a, b⟩ := k; exact ⟨t, o, h.trans a, b⟩
abbrev KPost (s : State) (Q : Option Value → Heap → List Loc → Prop) (C D : Nat) : Outcome → State → Prop := fun o U' => ∃ v L, o = .returned v ∧ Q v U'.heap L ∧ FrameEnd s o U' L C D
theorem OFin.retI (X : Stand p l e R s m args below meth c T locs cells slots) (hx : p.tables.exec = Jvm.exec) (hlk : meth.locks = false) {pc : Nat} {Ls : Array Slot} {z : Int32} {rest : List Value} {Q : Option Value → Heap → List Loc → Prop} {C D : Nat} (hret : meth.sig.returnType = some .int) (hd : decode c.code pc = .ok (.ireturn, 1)) (hC : cells ≤ C) (hD : slots ≤ D) (hQ : Q (some (.int z)) T.heap locs) :
    OFin p e below (KPost s Q C D) (T.setTop (mkF m pc Ls (.int z :: rest))) := by
  obtain ⟨fs, hr, hrun, hended, hW, hsame⟩ := X.leave (v := some (.int z)) (fun h => by rw [hret] at h; cases h) hlk
  exact ⟨_, _, Jvm.RoadKit.retI X hx hret hd hr, hrun, hended, _, _, rfl, hQ, ⟨_, rfl⟩, hW, hsame.mono hC hD⟩
theorem OFin.retB (X : Stand p l e R s m args below meth c T locs cells slots) (hx : p.tables.exec = Jvm.exec) (hlk : meth.locks = false) {pc : Nat} {Ls : Array Slot} {z : Int32} {rest : List Value} {Q : Option Value → Heap → List Loc → Prop} {C D : Nat} {t : FieldType} (ht : t = .boolean ∨ t = .byte ∨ t = .char ∨ t = .short) (hret : meth.sig.returnType = some t) (hd : decode c.code pc = .ok (.ireturn, 1)) (hC : cells ≤ C) (hD : slots ≤ D) (hQ : Q (some (.int (nar t z))) T.heap locs) :
    OFin p e below (KPost s Q C D) (T.setTop (mkF m pc Ls (.int z :: rest))) := by
  obtain ⟨fs, hr, hrun, hended, hW, hsame⟩ := X.leave (v := some (.int (nar t z))) (fun h => by rw [hret] at h; cases h) hlk
  exact ⟨_, _, retN X hx hret ht hd hr, hrun, hended, _, _, rfl, hQ, ⟨_, rfl⟩, hW, hsame.mono hC hD⟩
theorem OFin.retJ (X : Stand p l e R s m args below meth c T locs cells slots) (hx : p.tables.exec = Jvm.exec) (hlk : meth.locks = false) {pc : Nat} {Ls : Array Slot} {z : Int64} {Q : Option Value → Heap → List Loc → Prop} {C D : Nat} (hret : meth.sig.returnType = some .long) (hd : decode c.code pc = .ok (.lreturn, 1)) (hC : cells ≤ C) (hD : slots ≤ D) (hQ : Q (some (.long z)) T.heap locs) :
    OFin p e below (KPost s Q C D) (T.setTop (mkF m pc Ls [.long z])) := by
  obtain ⟨fs, hr, hrun, hended, hW, hsame⟩ := X.leave (v := some (.long z)) (fun h => by rw [hret] at h; cases h) hlk
  exact ⟨_, _, X.lreturnOut hx hret hd hr, hrun, hended, _, _, rfl, hQ, ⟨_, rfl⟩, hW, hsame.mono hC hD⟩
theorem OFin.retA (X : Stand p l e R s m args below meth c T locs cells slots) (hx : p.tables.exec = Jvm.exec) (hlk : meth.locks = false) {pc : Nat} {Ls : Array Slot} {z : Value} {Q : Option Value → Heap → List Loc → Prop} {C D : Nat} {t : FieldType} (ht : t.isReference = true) (hz : z.isRef = true) (hret : meth.sig.returnType = some t) (hd : decode c.code pc = .ok (.areturn, 1)) (hC : cells ≤ C) (hD : slots ≤ D) (hQ : Q (some z) T.heap locs) :
    OFin p e below (KPost s Q C D) (T.setTop (mkF m pc Ls [z])) := by
  obtain ⟨fs, hr, hrun, hended, hW, hsame⟩ := X.leave (v := some z) (fun h => by rw [hret] at h; cases h) hlk
  exact ⟨_, _, X.areturnOut hx hz hret ht hd hr, hrun, hended, _, _, rfl, hQ, ⟨_, rfl⟩, hW, hsame.mono hC hD⟩
theorem OFin.retD (X : Stand p l e R s m args below meth c T locs cells slots) (hx : p.tables.exec = Jvm.exec) (hlk : meth.locks = false) {pc : Nat} {Ls : Array Slot} {z : UInt64} {rest : List Value} {Q : Option Value → Heap → List Loc → Prop} {C D : Nat} (hret : meth.sig.returnType = some .double) (hd : decode c.code pc = .ok (.dreturn, 1)) (hC : cells ≤ C) (hD : slots ≤ D) (hQ : Q (some (.double z)) T.heap locs) :
    OFin p e below (KPost s Q C D) (T.setTop (mkF m pc Ls (.double z :: rest))) := by
  obtain ⟨fs, hr, hrun, hended, hW, hsame⟩ := X.leave (v := some (.double z)) (fun h => by rw [hret] at h; cases h) hlk
  exact ⟨_, _, retOut X hx hret rfl (Or.inr (Or.inr (Or.inl ⟨rfl, rfl, z, rfl⟩))) hd hr, hrun, hended, _, _, rfl, hQ, ⟨_, rfl⟩, hW, hsame.mono hC hD⟩
theorem OFin.retV (X : Stand p l e R s m args below meth c T locs cells slots) (hx : p.tables.exec = Jvm.exec) (hlk : meth.locks = false) {pc : Nat} {Ls : Array Slot} {Q : Option Value → Heap → List Loc → Prop} {C D : Nat} (hret : meth.sig.returnType = none) (hd : decode c.code pc = .ok (.return_, 1)) (hC : cells ≤ C) (hD : slots ≤ D) (hQ : Q none T.heap locs) :
    OFin p e below (KPost s Q C D) (T.setTop (mkF m pc Ls [])) := by
  obtain ⟨fs, hr, hrun, hended, hW, hsame⟩ := X.leave (v := none) (fun _ => rfl) hlk
  exact ⟨_, _, X.returnOut hx hret hd hr, hrun, hended, _, _, rfl, hQ, ⟨_, rfl⟩, hW, hsame.mono hC hD⟩
abbrev KPostW (s : State) (Q : Option Value → Heap → List Loc → Prop) (C D : Nat) : Outcome → State → Prop := fun o U' => ∃ v L, o = .returned v ∧ Q v U'.heap L ∧ ReturnedEndW s o U' L C D
theorem OFin.retBW {vm₁ : Vm} {k : Nat} (X : Stand p l e R (s.setVm vm₁) m args below meth c T locs cells slots) (hS : s.Since vm₁ k) (hk : k ≤ T.heap.size) (hx : p.tables.exec = Jvm.exec) (hlk : meth.locks = false) {pc : Nat} {Ls : Array Slot} {z : Int32} {rest : List Value} {Q : Option Value → Heap → List Loc → Prop} {C D : Nat} {t : FieldType} (ht : t = .boolean ∨ t = .byte ∨ t = .char ∨ t = .short) (hret : meth.sig.returnType = some t) (hd : decode c.code pc = .ok (.ireturn, 1)) (hC : cells ≤ C) (hD : slots ≤ D) (hQ : Q (some (.int (nar t z))) T.heap locs) :
    OFin p e below (KPostW s Q C D) (T.setTop (mkF m pc Ls (.int z :: rest))) := by
  obtain ⟨fs, hr, hrun, hended, h1, h2, h3, h4⟩ := X.leaveW hS hk (v := some (.int (nar t z))) (fun h => by rw [hret] at h; cases h) hlk
  exact ⟨_, _, retN X hx hret ht hd hr, hrun, hended, _, _, rfl, hQ, ⟨_, rfl⟩, h2, h3, h4.mono hC hD⟩
theorem own_alen {Z : State} {h : Heap} {a : Addr} {cl : Cell} {ty : FieldType} {z : Int32} {g : JFrame} {rest : List Value} {target : State} (X : Stand p l e R s m args below meth c T locs cells slots) (hx : p.tables.exec = Jvm.exec) (hZ : Z.Warmed39 s.vm) (eT : T.heap = h) (A : Arr Z h a cl ty) (S : cl.slots.size = z.toNatClampNeg) (q : ¬ z < 0) (hg : g.method = m) (hs : g.stack = .ref a :: rest) (hd : decode c.code g.pc = .ok (.arraylength, 1))
    (hr : Steps p.tables e below (T.setTop { g with pc := g.pc + 1, stack := .int z :: rest }) target) : Steps p.tables e below (T.setTop g) target := by
  refine X.arraylength hx (by rw [eT]; exact A.1) (State.isArrayOf_alike hZ.alike A.2.1) hg hs hd _ ?_
  rw [len_of S q]; exact hr
def OwnNoSta (h : Heap) (ws : List Addr) : Prop := ∀ x ∈ ws, ∀ cell : Cell, h[x]? = some cell → cell.vm.isStatics = false
theorem own_sn0 {h : Heap} : OwnNoSta h [] := fun _ q => nomatch q
theorem own_snS {Z : State} {h : Heap} {a : Addr} {C : String} {ws : List Addr} (E : Exa Z h a C) (r : OwnNoSta h ws) : OwnNoSta h (a :: ws) := fun x q cell hc => by
  rcases List.mem_cons.mp q with rfl | q
  · obtain ⟨c', _, h1, -, -, h4, -⟩ := E; cases h1.symm.trans hc; exact h4
  · exact r x q cell hc
theorem own_snV {Z : State} {h : Heap} {a : Addr} {k : ClassId} {ty : FieldType} {z : Int32} {vs : List Value} {dv : Value} {ws : List Addr} (F : Arv Z h a k ty z vs dv) (r : OwnNoSta h ws) : OwnNoSta h (a :: ws) := fun x q cell hc => by
  rcases List.mem_cons.mp q with rfl | q
  · obtain ⟨c', A, -⟩ := F; cases A.1.symm.trans hc; exact A.plain
  · exact r x q cell hc
theorem own_staKeep {Z : State} {h h' : Heap} {C n d : String} {v : Value} {ws : List Addr} (F : Sta Z h C n d v) (K : Keep h h' ws) (q : OwnNoSta h ws) : Sta Z h' C n d v := by
  obtain ⟨cf, i, k, f, st, cell, h1, h2, h3, h4, h5, h6, h7⟩ := F
  refine ⟨cf, i, k, f, st, cell, h1, h2, h3, h4, K.2.1 st cell h5 (fun z => ?_), h6, h7⟩
  have := q st z cell h5
  rw [this] at h6; cases h6
theorem own_pop2L {tb : Tables} [Ours tb] {e : Env} {below : List Frame} {T target : State} {m : MethodId} {c : Code} {g : JFrame} (h : At T m c below) (hx : tb.exec = Jvm.exec) (hg : g.method = m) {x : Int64} {rest : List Value} (hd : decode c.code g.pc = .ok (.pop2, 1)) (hs : g.stack = .long x :: rest)
    (hr : Steps tb e below (T.setTop { g with pc := g.pc + 1, stack := rest }) target) : Steps tb e below (T.setTop g) target := by
  subst hg
  jvm_step h [h.top, hx, hd, hs, Value.category]
  exact hr
end OwnNew
end Jvm.RoadKit
namespace Jvm.Pilot.@@N@@
open Jvm Jvm.ClassFile Sem Op Lib Jvm.Free Jvm.Stand Jvm.LawKit Jvm.RoadKit Bundle Jvm.Pilot.@@N@@.Jvm.D
theorem pd_0 : parseMethodDescriptor "()V" = some ⟨[], none⟩ := by decide +kernel
theorem pd_1 : parseMethodDescriptor "(II)I" = some ⟨[.int, .int], some .int⟩ := by decide +kernel
theorem pd_2 : parseMethodDescriptor "(II)V" = some ⟨[.int, .int], none⟩ := by decide +kernel
theorem pd_3 : parseMethodDescriptor "(Lcom/example/holdfast/holdfast/bosh/Version;)I" = some ⟨[(.object "com/example/holdfast/holdfast/bosh/Version")], some .int⟩ := by decide +kernel
theorem pd_4 : parseMethodDescriptor "(I)I" = some ⟨[.int], some .int⟩ := by decide +kernel
theorem pd_5 : parseMethodDescriptor "(IIII)I" = some ⟨[.int, .int, .int, .int], some .int⟩ := by decide +kernel
def own_cmp (x y : Int32) : Int32 := if x < y then -1 else if x = y then 0 else 1
def own_sign (r : Int32) : Int32 := if r < 0 then -1 else if 0 < r then 1 else 0
def own_exp (a b c d : Int32) : Int32 := if a < c then -1 else if c < a then 1 else if b < d then -1 else if d < b then 1 else 0
def own_ct (a b c d : Int32) : Int32 := if a = c then own_cmp b d else own_cmp a c
theorem own_law (a b c d : Int32) : own_sign (own_ct a b c d) = own_exp a b c d := by
  have e : ∀ x y : Int32, x = y ↔ x.toInt = y.toInt := fun x y => Int32.toInt_inj.symm
  have s1 : own_sign (-1) = -1 := by decide
  have s2 : own_sign 0 = 0 := by decide
  have s3 : own_sign 1 = 1 := by decide
  unfold own_ct own_exp own_cmp
  simp only [Int32.lt_iff_toInt_lt, e]
  repeat' split
  all_goals first | (simp only [s1, s2, s3]; done) | (exfalso; omega)
theorem dRec_0 : decode jdk_30_method_1_code 0 = .ok (.aload_n 0, 1) := by decide +kernel
theorem dRec_1 : decode jdk_30_method_1_code 1 = .ok (.invokespecial 1, 3) := by decide +kernel
theorem dRec_4 : decode jdk_30_method_1_code 4 = .ok (.return_, 1) := by decide +kernel
theorem pnRec : plainName "java/lang/Record" = true := by first | (simp [plainName, overriddenIn]; done) | decide +kernel
theorem efRec (m : MethodId) (a0 : Addr) : entryFrame m #[(.ref a0)] 1 = mkF m 0 #[.val (.ref a0)] [] := by first | (simp [entryFrame, mkF, argsToLocals, Value.category]; done) | rfl
def QRec (Z : State) (a0 : Addr) (h0 : Heap) (n0 : Nat) (v : Option Value) (h : Heap) (L : List Loc) : Prop := v = none ∧ Fr n0 L ∧ h = h0
set_option maxRecDepth 65536 in
set_option maxHeartbeats 40000000 in
theorem rmRec (l : Launch) (Z : State) (a0 : Array Value) (hw : ∀ d ∈ tables_1, d.before a0 Z = true) (ws : List Jvm.Cond) (a0 : Addr) (h0 : Heap) (n0 : Nat) (Z0 : n0 ≤ h0.size)  :
    MetFree l (⟨"java/lang/Record", "<init>", "()V"⟩ : MethodName) (head1 (Jvm.Cond.code (⟨"java/lang/Record", "<init>", "()V"⟩ : MethodName) jdk_30_method_1_code 1 none :: ws) ({ frames := 1, cells := 0, slots := 0, locals := 12 } : Room)) (fun a U => a = #[(.ref a0)] ∧ Z.Warmed39 U.vm ∧ U.heap = h0) (fun _ _ _ _ _ => True) (fun _ U o U' => ∃ v L, o = .returned v ∧ QRec Z a0 h0 n0 v U'.heap L ∧ FrameEnd U o U' L ({ frames := 1, cells := 0, slots := 0, locals := 12 } : Room).cells ({ frames := 1, cells := 0, slots := 0, locals := 12 } : Room).slots) := by
  refine MetFree.of_bodySF (plainFor_of_name pnRec) hisR ?_
  intro p e s m args below meth c s₁ Bd hml0 hP hK
  obtain ⟨rfl, hZ, hh⟩ := hP
  have hx := Bd.exec
  have hby := Bd.bytes
  have hlk := BodyLoose.notSynchronized Bd
  have hret := Bd.returns
  have hml : c.maxLocals = 1 := hml0
  have hown : s.vm.findClass "java/lang/Record" = some m.cls := findClass_of_methodNamed Bd.named
  have hnm := (name_of_methodNamed Bd.named Bd.method).1
  have X0 : Stand p l e ({ frames := 1, cells := 0, slots := 0, locals := 12 } : Room) s m #[(.ref a0)] below meth c s₁ [] 0 0 := Stand.of_body Bd
  have e0 : s₁.heap = h0 := by rw [← hh, Bd.state]; rfl
  have N0 := Fr.nil n0
  show OFin p e below (KPost s (QRec Z a0 h0 n0) ({ frames := 1, cells := 0, slots := 0, locals := 12 } : Room).cells ({ frames := 1, cells := 0, slots := 0, locals := 12 } : Room).slots) _
  rw [efRec m a0]
  refine OFin.of (S' := s₁.setTop (mkF m 1 #[.val (.ref a0)] [(.ref a0)])) (fun t ht => ?_) ?_
  · refine XS.aloadN X0.here hx rfl (hb hby dRec_0) rfl rfl ?_
    exact ht
  obtain ⟨T1, X1, e1, st1⟩ := initO X0 hx hZ hown (hw _ (List.mem_of_getElem? (i := 11) rfl)) (hw _ (List.mem_of_getElem? (i := 12) rfl)) (hw _ (List.mem_of_getElem? (i := 13) rfl)) e0 (g := (mkF m 1 #[.val (.ref a0)] [(.ref a0)])) rfl (by rw [hml]; rfl) rfl (hb hby dRec_1) (by decide) (W := 0) (by show 2 * 0 + _ ≤ _; exact Nat.le_of_eq rfl) (by decide)
  refine OFin.of (S' := T1.setTop (mkF m 4 #[.val (.ref a0)] [])) (fun t ht => st1 t ht) ?_
  exact OFin.retV X1 hx hlk hret (hb hby dRec_4) (by decide) (by decide) (by rw [e1]; exact ⟨rfl, N0, rfl⟩)
theorem dIni_0 : decode prog_3_method_1_code 0 = .ok (.aload_n 0, 1) := by decide +kernel
theorem dIni_1 : decode prog_3_method_1_code 1 = .ok (.invokespecial 1, 3) := by decide +kernel
theorem dIni_4 : decode prog_3_method_1_code 4 = .ok (.aload_n 0, 1) := by decide +kernel
theorem dIni_5 : decode prog_3_method_1_code 5 = .ok (.iload_n 1, 1) := by decide +kernel
theorem dIni_6 : decode prog_3_method_1_code 6 = .ok (.putfield 7, 3) := by decide +kernel
theorem dIni_9 : decode prog_3_method_1_code 9 = .ok (.aload_n 0, 1) := by decide +kernel
theorem dIni_10 : decode prog_3_method_1_code 10 = .ok (.iload_n 2, 1) := by decide +kernel
theorem dIni_11 : decode prog_3_method_1_code 11 = .ok (.putfield 13, 3) := by decide +kernel
theorem dIni_14 : decode prog_3_method_1_code 14 = .ok (.return_, 1) := by decide +kernel
theorem pnIni : plainName "com/example/holdfast/holdfast/bosh/Version" = true := by first | (simp [plainName, overriddenIn]; done) | decide +kernel
theorem efIni (m : MethodId) (a0 : Addr) (p1 : Int32) (p2 : Int32) : entryFrame m #[(.ref a0), (.int p1), (.int p2)] 3 = mkF m 0 #[.val (.ref a0), .val (.int p1), .val (.int p2)] [] := by first | (simp [entryFrame, mkF, argsToLocals, Value.category]; done) | rfl
def QIni (Z : State) (a0 : Addr) (p1 : Int32) (p2 : Int32) (h0 : Heap) (n0 : Nat) (v : Option Value) (h : Heap) (L : List Loc) : Prop := v = none ∧ Fr n0 L ∧ Keep h0 h [a0] ∧ Fld Z h a0 "com/example/holdfast/holdfast/bosh/Version" "major" "I" (.int p1) ∧ Fld Z h a0 "com/example/holdfast/holdfast/bosh/Version" "minor" "I" (.int p2)
set_option maxRecDepth 65536 in
set_option maxHeartbeats 40000000 in
theorem rmIni (l : Launch) (Z : State) (a0 : Array Value) (hw : ∀ d ∈ tables_1, d.before a0 Z = true) (ws : List Jvm.Cond) (a0 : Addr) (p1 : Int32) (p2 : Int32) (h0 : Heap) (n0 : Nat) (Z0 : n0 ≤ h0.size) (E0 : Exa Z h0 a0 "com/example/holdfast/holdfast/bosh/Version") (F1 : Fld Z h0 a0 "com/example/holdfast/holdfast/bosh/Version" "major" "I" (.int (0 : Int32))) (F2 : Fld Z h0 a0 "com/example/holdfast/holdfast/bosh/Version" "minor" "I" (.int (0 : Int32))) (g0 : n0 ≤ a0) :
    MetFree l (⟨"com/example/holdfast/holdfast/bosh/Version", "<init>", "(II)V"⟩ : MethodName) (head1 (Jvm.Cond.code (⟨"com/example/holdfast/holdfast/bosh/Version", "<init>", "(II)V"⟩ : MethodName) prog_3_method_1_code 3 none :: ws) ({ frames := 2, cells := 0, slots := 0, locals := 24 } : Room)) (fun a U => a = #[(.ref a0), (.int p1), (.int p2)] ∧ Z.Warmed39 U.vm ∧ U.heap = h0) (fun _ _ _ _ _ => True) (fun _ U o U' => ∃ v L, o = .returned v ∧ QIni Z a0 p1 p2 h0 n0 v U'.heap L ∧ FrameEnd U o U' L ({ frames := 2, cells := 0, slots := 0, locals := 24 } : Room).cells ({ frames := 2, cells := 0, slots := 0, locals := 24 } : Room).slots) := by
  refine MetFree.of_bodySF (plainFor_of_name pnIni) hisR ?_
  intro p e s m args below meth c s₁ Bd hml0 hP hK
  obtain ⟨rfl, hZ, hh⟩ := hP
  have hx := Bd.exec
  have hby := Bd.bytes
  have hlk := BodyLoose.notSynchronized Bd
  have hret := Bd.returns
  have hml : c.maxLocals = 3 := hml0
  have hown : s.vm.findClass "com/example/holdfast/holdfast/bosh/Version" = some m.cls := findClass_of_methodNamed Bd.named
  have hnm := (name_of_methodNamed Bd.named Bd.method).1
  have X0 : Stand p l e ({ frames := 2, cells := 0, slots := 0, locals := 24 } : Room) s m #[(.ref a0), (.int p1), (.int p2)] below meth c s₁ [] 0 0 := Stand.of_body Bd
  have e0 : s₁.heap = h0 := by rw [← hh, Bd.state]; rfl
  have N0 := Fr.nil n0
  show OFin p e below (KPost s (QIni Z a0 p1 p2 h0 n0) ({ frames := 2, cells := 0, slots := 0, locals := 24 } : Room).cells ({ frames := 2, cells := 0, slots := 0, locals := 24 } : Room).slots) _
  rw [efIni m a0 p1 p2]
  have K0 : Keep h0 h0 [a0] := Keep.refl _ _
  refine OFin.of (S' := s₁.setTop (mkF m 1 #[.val (.ref a0), .val (.int p1), .val (.int p2)] [(.ref a0)])) (fun t ht => ?_) ?_
  · refine XS.aloadN X0.here hx rfl (hb hby dIni_0) rfl rfl ?_
    exact ht
  obtain ⟨_, _, ⟨T1, L1, k1, n1⟩, -, X1, ⟨Lc1, hQ1, l1, y1, z1⟩, st1⟩ := X0.specialBack hx (y := (⟨"java/lang/Record", "<init>", "()V"⟩ : MethodName)) rfl hown (mvT hZ (hw _ (List.mem_of_getElem? (i := 6) rfl))) (mvT hZ (hw _ (List.mem_of_getElem? (i := 7) rfl))) (mvT hZ (hw _ (List.mem_of_getElem? (i := 10) rfl))) (by decide) (backOf (W := 0) (rmRec l Z _ hw [] a0 h0 n0 Z0 ) hZ (hw _ (List.mem_of_getElem? (i := 10) rfl)) (hw _ (List.mem_of_getElem? (i := 9) rfl)) (by decide) (by decide)) (g := (mkF m 1 #[.val (.ref a0), .val (.int p1), .val (.int p2)] [(.ref a0)])) rfl (by rw [hml]; rfl) (Steps.refl _) (a := a0) (argsL := []) (rest := []) (lenOf pd_0 rfl) rfl (by show 2 * 0 + _ ≤ _; exact Nat.le_of_eq rfl) (hb hby dIni_1) (fun _ _ => ⟨rfl, e0, (by decide : 0 + 0 ≤ _), (by decide : 0 + 0 ≤ _)⟩)
  dsimp only [Pt.U, Pt.locs, Pt.cells, Pt.slots] at X1 l1 y1 z1 st1 hQ1
  subst l1 y1 z1
  obtain ⟨rfl, Nq1, hs1⟩ := hQ1
  have N2 := Fr.app N0 Nq1
  refine OFin.to (S' := T1.setTop (mkF m 4 #[.val (.ref a0), .val (.int p1), .val (.int p2)] [])) st1 ?_
  refine OFin.of (S' := T1.setTop (mkF m 6 #[.val (.ref a0), .val (.int p1), .val (.int p2)] [(.int p1), (.ref a0)])) (fun t ht => ?_) ?_
  · refine XS.aloadN X1.here hx rfl (hb hby dIni_4) rfl rfl ?_
    show Steps p.tables e below (T1.setTop (mkF m 5 _ [(.ref a0)])) _
    refine XS.iloadN X1.here hx rfl (hb hby dIni_5) rfl ?_
    exact ht
  obtain ⟨T3, h3, X3, e3, W3, st3⟩ := putF X1 hx hZ hown (host := "") (Or.inl (hw _ (List.mem_of_getElem? (i := 14) rfl))) Via.refl hs1 F1 E0 (Or.inr ⟨(hw _ (List.mem_of_getElem? (i := 15) rfl)), rfl, hnm⟩) (hw _ (List.mem_of_getElem? (i := 1) rfl)) (ty := .int) (by decide) rfl rfl (g := (mkF m 6 #[.val (.ref a0), .val (.int p1), .val (.int p2)] [(.int p1), (.ref a0)])) rfl rfl (hb hby dIni_6)
  have f4 := (E0.wr W3)
  have f5 := (F2.other W3 (Or.inr (slot_ne (Or.inr (hw _ (List.mem_of_getElem? (i := 17) rfl))) (Or.inr (hw _ (List.mem_of_getElem? (i := 15) rfl))) (by decide) (t := .int) (t' := .int) (by decide) (by decide))))
  have Z6 : n0 ≤ h3.size := (Nat.le_trans Z0 (Keep.of_wr W3).1)
  have K7 : Keep h0 h3 [a0] := (K0.wr W3 (Or.inl (List.mem_of_getElem? (i := 0) rfl)))
  have N8 := Fr.snoc X3 N2 g0
  have f9 : Fld Z h3 a0 "com/example/holdfast/holdfast/bosh/Version" "major" "I" (.int p1) := (F1.same W3)
  refine OFin.of (S' := T3.setTop (mkF m 9 #[.val (.ref a0), .val (.int p1), .val (.int p2)] [])) (fun t ht => st3 t ht) ?_
  refine OFin.of (S' := T3.setTop (mkF m 11 #[.val (.ref a0), .val (.int p1), .val (.int p2)] [(.int p2), (.ref a0)])) (fun t ht => ?_) ?_
  · refine XS.aloadN X3.here hx rfl (hb hby dIni_9) rfl rfl ?_
    show Steps p.tables e below (T3.setTop (mkF m 10 _ [(.ref a0)])) _
    refine XS.iloadN X3.here hx rfl (hb hby dIni_10) rfl ?_
    exact ht
  obtain ⟨T10, h10, X10, e10, W10, st10⟩ := putF X3 hx hZ hown (host := "") (Or.inl (hw _ (List.mem_of_getElem? (i := 16) rfl))) Via.refl e3 f5 f4 (Or.inr ⟨(hw _ (List.mem_of_getElem? (i := 17) rfl)), rfl, hnm⟩) (hw _ (List.mem_of_getElem? (i := 1) rfl)) (ty := .int) (by decide) rfl rfl (g := (mkF m 11 #[.val (.ref a0), .val (.int p1), .val (.int p2)] [(.int p2), (.ref a0)])) rfl rfl (hb hby dIni_11)
  have f11 := (f4.wr W10)
  have f12 := (f9.other W10 (Or.inr (slot_ne (Or.inr (hw _ (List.mem_of_getElem? (i := 15) rfl))) (Or.inr (hw _ (List.mem_of_getElem? (i := 17) rfl))) (by decide) (t := .int) (t' := .int) (by decide) (by decide))))
  have Z13 : n0 ≤ h10.size := (Nat.le_trans Z6 (Keep.of_wr W10).1)
  have K14 : Keep h0 h10 [a0] := (K7.wr W10 (Or.inl (List.mem_of_getElem? (i := 0) rfl)))
  have N15 := Fr.snoc X10 N8 g0
  have f16 : Fld Z h10 a0 "com/example/holdfast/holdfast/bosh/Version" "minor" "I" (.int p2) := (f5.same W10)
  refine OFin.of (S' := T10.setTop (mkF m 14 #[.val (.ref a0), .val (.int p1), .val (.int p2)] [])) (fun t ht => st10 t ht) ?_
  exact OFin.retV X10 hx hlk hret (hb hby dIni_14) (by decide) (by decide) (by rw [e10]; exact ⟨rfl, N15, K14, f12, f16⟩)
theorem dCmp_0 : decode jdk_33_method_40_code 0 = .ok (.iload_n 0, 1) := by decide +kernel
theorem dCmp_1 : decode jdk_33_method_40_code 1 = .ok (.iload_n 1, 1) := by decide +kernel
theorem dCmp_2 : decode jdk_33_method_40_code 2 = .ok (.if_icmp .ge 7, 3) := by decide +kernel
theorem dCmp_5 : decode jdk_33_method_40_code 5 = .ok (.iconst (-1), 1) := by decide +kernel
theorem dCmp_6 : decode jdk_33_method_40_code 6 = .ok (.goto 13, 3) := by decide +kernel
theorem dCmp_9 : decode jdk_33_method_40_code 9 = .ok (.iload_n 0, 1) := by decide +kernel
theorem dCmp_10 : decode jdk_33_method_40_code 10 = .ok (.iload_n 1, 1) := by decide +kernel
theorem dCmp_11 : decode jdk_33_method_40_code 11 = .ok (.if_icmp .ne 7, 3) := by decide +kernel
theorem dCmp_14 : decode jdk_33_method_40_code 14 = .ok (.iconst 0, 1) := by decide +kernel
theorem dCmp_15 : decode jdk_33_method_40_code 15 = .ok (.goto 4, 3) := by decide +kernel
theorem dCmp_18 : decode jdk_33_method_40_code 18 = .ok (.iconst 1, 1) := by decide +kernel
theorem dCmp_19 : decode jdk_33_method_40_code 19 = .ok (.ireturn, 1) := by decide +kernel
theorem pnCmp : plainName "java/lang/Integer" = true := by first | (simp [plainName, overriddenIn]; done) | decide +kernel
theorem efCmp (m : MethodId) (p0 : Int32) (p1 : Int32) : entryFrame m #[(.int p0), (.int p1)] 2 = mkF m 0 #[.val (.int p0), .val (.int p1)] [] := by first | (simp [entryFrame, mkF, argsToLocals, Value.category]; done) | rfl
def QCmp (Z : State) (p0 : Int32) (p1 : Int32) (h0 : Heap) (n0 : Nat) (v : Option Value) (h : Heap) (L : List Loc) : Prop := v = some (.int (own_cmp p0 p1)) ∧ Fr n0 L ∧ h = h0
set_option maxRecDepth 65536 in
set_option maxHeartbeats 40000000 in
theorem rmCmp (l : Launch) (Z : State) (a0 : Array Value) (hw : ∀ d ∈ tables_1, d.before a0 Z = true) (ws : List Jvm.Cond) (p0 : Int32) (p1 : Int32) (h0 : Heap) (n0 : Nat) (Z0 : n0 ≤ h0.size)  :
    MetFree l (⟨"java/lang/Integer", "compare", "(II)I"⟩ : MethodName) (head1 (Jvm.Cond.code (⟨"java/lang/Integer", "compare", "(II)I"⟩ : MethodName) jdk_33_method_40_code 2 (some .int) :: ws) ({ frames := 0, cells := 0, slots := 0, locals := 0 } : Room)) (fun a U => a = #[(.int p0), (.int p1)] ∧ Z.Warmed39 U.vm ∧ U.heap = h0) (fun _ _ _ _ _ => True) (fun _ U o U' => ∃ v L, o = .returned v ∧ QCmp Z p0 p1 h0 n0 v U'.heap L ∧ FrameEnd U o U' L ({ frames := 0, cells := 0, slots := 0, locals := 0 } : Room).cells ({ frames := 0, cells := 0, slots := 0, locals := 0 } : Room).slots) := by
  refine MetFree.of_bodySF (plainFor_of_name pnCmp) hisR ?_
  intro p e s m args below meth c s₁ Bd hml0 hP hK
  obtain ⟨rfl, hZ, hh⟩ := hP
  have hx := Bd.exec
  have hby := Bd.bytes
  have hlk := BodyLoose.notSynchronized Bd
  have hret := Bd.returns
  have hml : c.maxLocals = 2 := hml0
  have hown : s.vm.findClass "java/lang/Integer" = some m.cls := findClass_of_methodNamed Bd.named
  have hnm := (name_of_methodNamed Bd.named Bd.method).1
  have X0 : Stand p l e ({ frames := 0, cells := 0, slots := 0, locals := 0 } : Room) s m #[(.int p0), (.int p1)] below meth c s₁ [] 0 0 := Stand.of_body Bd
  have e0 : s₁.heap = h0 := by rw [← hh, Bd.state]; rfl
  have N0 := Fr.nil n0
  show OFin p e below (KPost s (QCmp Z p0 p1 h0 n0) ({ frames := 0, cells := 0, slots := 0, locals := 0 } : Room).cells ({ frames := 0, cells := 0, slots := 0, locals := 0 } : Room).slots) _
  rw [efCmp m p0 p1]
  refine OFin.of (S' := s₁.setTop (mkF m 2 #[.val (.int p0), .val (.int p1)] [(.int p1), (.int p0)])) (fun t ht => ?_) ?_
  · refine XS.iloadN X0.here hx rfl (hb hby dCmp_0) rfl ?_
    show Steps p.tables e below (s₁.setTop (mkF m 1 _ [(.int p0)])) _
    refine XS.iloadN X0.here hx rfl (hb hby dCmp_1) rfl ?_
    exact ht
  by_cases hc1 : p0 < p1
  · refine OFin.of (S' := s₁.setTop (mkF m 19 #[.val (.int p0), .val (.int p1)] [(.int (-1 : Int32))])) (fun t ht => ?_) ?_
    · refine XS.icmpNo X0.here hx rfl (hb hby dCmp_2) rfl (tlt (hc1 : p0 < p1)).2.1 ?_
      show Steps p.tables e below (s₁.setTop (mkF m 5 _ [])) _
      refine XS.iconst X0.here hx rfl (hb hby dCmp_5) ?_
      show Steps p.tables e below (s₁.setTop (mkF m 6 _ [(.int (-1 : Int32))])) _
      refine XS.goto X0.here hx rfl (pc0 := 6) (pc' := 19) rfl (hb hby dCmp_6) (by decide) (by decide) ?_
      exact ht
    exact OFin.retI X0 hx hlk hret (hb hby dCmp_19) (by decide) (by decide) (by rw [e0]; exact ⟨(by show some (Value.int (-1 : Int32)) = _; simp [own_cmp, hc1]), N0, rfl⟩)
  · refine OFin.of (S' := s₁.setTop (mkF m 11 #[.val (.int p0), .val (.int p1)] [(.int p1), (.int p0)])) (fun t ht => ?_) ?_
    · refine XS.icmpYes X0.here hx rfl (pc0 := 2) (pc' := 9) rfl (hb hby dCmp_2) rfl (flt (hc1 : ¬ (p0 < p1))).2.1 (by decide) (by decide) ?_
      show Steps p.tables e below (s₁.setTop (mkF m 9 _ [])) _
      refine XS.iloadN X0.here hx rfl (hb hby dCmp_9) rfl ?_
      show Steps p.tables e below (s₁.setTop (mkF m 10 _ [(.int p0)])) _
      refine XS.iloadN X0.here hx rfl (hb hby dCmp_10) rfl ?_
      exact ht
    by_cases hc2 : p0 = p1
    · refine OFin.of (S' := s₁.setTop (mkF m 19 #[.val (.int p0), .val (.int p1)] [(.int (0 : Int32))])) (fun t ht => ?_) ?_
      · refine XS.icmpNo X0.here hx rfl (hb hby dCmp_11) rfl (teq (hc2 : p0 = p1)).2 ?_
        show Steps p.tables e below (s₁.setTop (mkF m 14 _ [])) _
        refine XS.iconst X0.here hx rfl (hb hby dCmp_14) ?_
        show Steps p.tables e below (s₁.setTop (mkF m 15 _ [(.int (0 : Int32))])) _
        refine XS.goto X0.here hx rfl (pc0 := 15) (pc' := 19) rfl (hb hby dCmp_15) (by decide) (by decide) ?_
        exact ht
      exact OFin.retI X0 hx hlk hret (hb hby dCmp_19) (by decide) (by decide) (by rw [e0]; exact ⟨(by show some (Value.int (0 : Int32)) = _; simp [own_cmp, hc1, hc2]), N0, rfl⟩)
    · refine OFin.of (S' := s₁.setTop (mkF m 19 #[.val (.int p0), .val (.int p1)] [(.int (1 : Int32))])) (fun t ht => ?_) ?_
      · refine XS.icmpYes X0.here hx rfl (pc0 := 11) (pc' := 18) rfl (hb hby dCmp_11) rfl (feq (hc2 : ¬ (p0 = p1))).2 (by decide) (by decide) ?_
        show Steps p.tables e below (s₁.setTop (mkF m 18 _ [])) _
        refine XS.iconst X0.here hx rfl (hb hby dCmp_18) ?_
        exact ht
      exact OFin.retI X0 hx hlk hret (hb hby dCmp_19) (by decide) (by decide) (by rw [e0]; exact ⟨(by show some (Value.int (1 : Int32)) = _; simp [own_cmp, hc1, hc2]), N0, rfl⟩)
theorem dSg_0 : decode method_2_code 0 = .ok (.iload_n 0, 1) := by decide +kernel
theorem dSg_1 : decode method_2_code 1 = .ok (.ifCond .ge 5, 3) := by decide +kernel
theorem dSg_4 : decode method_2_code 4 = .ok (.iconst (-1), 1) := by decide +kernel
theorem dSg_5 : decode method_2_code 5 = .ok (.ireturn, 1) := by decide +kernel
theorem dSg_6 : decode method_2_code 6 = .ok (.iload_n 0, 1) := by decide +kernel
theorem dSg_7 : decode method_2_code 7 = .ok (.ifCond .le 5, 3) := by decide +kernel
theorem dSg_10 : decode method_2_code 10 = .ok (.iconst 1, 1) := by decide +kernel
theorem dSg_11 : decode method_2_code 11 = .ok (.ireturn, 1) := by decide +kernel
theorem dSg_12 : decode method_2_code 12 = .ok (.iconst 0, 1) := by decide +kernel
theorem dSg_13 : decode method_2_code 13 = .ok (.ireturn, 1) := by decide +kernel
theorem pnSg : plainName "com/example/holdfast/holdfast/bosh/VersionCompareToPinLaw" = true := by first | (simp [plainName, overriddenIn]; done) | decide +kernel
theorem efSg (m : MethodId) (p0 : Int32) : entryFrame m #[(.int p0)] 1 = mkF m 0 #[.val (.int p0)] [] := by first | (simp [entryFrame, mkF, argsToLocals, Value.category]; done) | rfl
def QSg (Z : State) (p0 : Int32) (h0 : Heap) (n0 : Nat) (v : Option Value) (h : Heap) (L : List Loc) : Prop := v = some (.int (own_sign p0)) ∧ Fr n0 L ∧ h = h0
set_option maxRecDepth 65536 in
set_option maxHeartbeats 40000000 in
theorem rmSg (l : Launch) (Z : State) (a0 : Array Value) (hw : ∀ d ∈ tables_1, d.before a0 Z = true) (ws : List Jvm.Cond) (p0 : Int32) (h0 : Heap) (n0 : Nat) (Z0 : n0 ≤ h0.size)  :
    MetFree l (⟨"com/example/holdfast/holdfast/bosh/VersionCompareToPinLaw", "sign", "(I)I"⟩ : MethodName) (head1 (Jvm.Cond.code (⟨"com/example/holdfast/holdfast/bosh/VersionCompareToPinLaw", "sign", "(I)I"⟩ : MethodName) method_2_code 1 (some .int) :: ws) ({ frames := 0, cells := 0, slots := 0, locals := 0 } : Room)) (fun a U => a = #[(.int p0)] ∧ Z.Warmed39 U.vm ∧ U.heap = h0) (fun _ _ _ _ _ => True) (fun _ U o U' => ∃ v L, o = .returned v ∧ QSg Z p0 h0 n0 v U'.heap L ∧ FrameEnd U o U' L ({ frames := 0, cells := 0, slots := 0, locals := 0 } : Room).cells ({ frames := 0, cells := 0, slots := 0, locals := 0 } : Room).slots) := by
  refine MetFree.of_bodySF (plainFor_of_name pnSg) hisR ?_
  intro p e s m args below meth c s₁ Bd hml0 hP hK
  obtain ⟨rfl, hZ, hh⟩ := hP
  have hx := Bd.exec
  have hby := Bd.bytes
  have hlk := BodyLoose.notSynchronized Bd
  have hret := Bd.returns
  have hml : c.maxLocals = 1 := hml0
  have hown : s.vm.findClass "com/example/holdfast/holdfast/bosh/VersionCompareToPinLaw" = some m.cls := findClass_of_methodNamed Bd.named
  have hnm := (name_of_methodNamed Bd.named Bd.method).1
  have X0 : Stand p l e ({ frames := 0, cells := 0, slots := 0, locals := 0 } : Room) s m #[(.int p0)] below meth c s₁ [] 0 0 := Stand.of_body Bd
  have e0 : s₁.heap = h0 := by rw [← hh, Bd.state]; rfl
  have N0 := Fr.nil n0
  show OFin p e below (KPost s (QSg Z p0 h0 n0) ({ frames := 0, cells := 0, slots := 0, locals := 0 } : Room).cells ({ frames := 0, cells := 0, slots := 0, locals := 0 } : Room).slots) _
  rw [efSg m p0]
  refine OFin.of (S' := s₁.setTop (mkF m 1 #[.val (.int p0)] [(.int p0)])) (fun t ht => ?_) ?_
  · refine XS.iloadN X0.here hx rfl (hb hby dSg_0) rfl ?_
    exact ht
  by_cases hc1 : p0 < (0 : Int32)
  · refine OFin.of (S' := s₁.setTop (mkF m 5 #[.val (.int p0)] [(.int (-1 : Int32))])) (fun t ht => ?_) ?_
    · refine XS.ifNo X0.here hx rfl (hb hby dSg_1) rfl ((if0 _ _).trans (tlt (hc1 : p0 < (0 : Int32))).2.1) ?_
      show Steps p.tables e below (s₁.setTop (mkF m 4 _ [])) _
      refine XS.iconst X0.here hx rfl (hb hby dSg_4) ?_
      exact ht
    exact OFin.retI X0 hx hlk hret (hb hby dSg_5) (by decide) (by decide) (by rw [e0]; exact ⟨(by show some (Value.int (-1 : Int32)) = _; simp [own_sign, hc1]), N0, rfl⟩)
  · refine OFin.of (S' := s₁.setTop (mkF m 7 #[.val (.int p0)] [(.int p0)])) (fun t ht => ?_) ?_
    · refine XS.ifYes X0.here hx rfl (pc0 := 1) (pc' := 6) rfl (hb hby dSg_1) rfl ((if0 _ _).trans (flt (hc1 : ¬ (p0 < (0 : Int32)))).2.1) (by decide) (by decide) ?_
      show Steps p.tables e below (s₁.setTop (mkF m 6 _ [])) _
      refine XS.iloadN X0.here hx rfl (hb hby dSg_6) rfl ?_
      exact ht
    by_cases hc2 : (0 : Int32) < p0
    · refine OFin.of (S' := s₁.setTop (mkF m 11 #[.val (.int p0)] [(.int (1 : Int32))])) (fun t ht => ?_) ?_
      · refine XS.ifNo X0.here hx rfl (hb hby dSg_7) rfl ((if0 _ _).trans (tlt (hc2 : (0 : Int32) < p0)).2.2.2) ?_
        show Steps p.tables e below (s₁.setTop (mkF m 10 _ [])) _
        refine XS.iconst X0.here hx rfl (hb hby dSg_10) ?_
        exact ht
      exact OFin.retI X0 hx hlk hret (hb hby dSg_11) (by decide) (by decide) (by rw [e0]; exact ⟨(by show some (Value.int (1 : Int32)) = _; simp [own_sign, hc1, hc2]), N0, rfl⟩)
    · refine OFin.of (S' := s₁.setTop (mkF m 13 #[.val (.int p0)] [(.int (0 : Int32))])) (fun t ht => ?_) ?_
      · refine XS.ifYes X0.here hx rfl (pc0 := 7) (pc' := 12) rfl (hb hby dSg_7) rfl ((if0 _ _).trans (flt (hc2 : ¬ ((0 : Int32) < p0))).2.2.2) (by decide) (by decide) ?_
        show Steps p.tables e below (s₁.setTop (mkF m 12 _ [])) _
        refine XS.iconst X0.here hx rfl (hb hby dSg_12) ?_
        exact ht
      exact OFin.retI X0 hx hlk hret (hb hby dSg_13) (by decide) (by decide) (by rw [e0]; exact ⟨(by show some (Value.int (0 : Int32)) = _; simp [own_sign, hc1, hc2]), N0, rfl⟩)
theorem dEx_0 : decode method_3_code 0 = .ok (.iload_n 0, 1) := by decide +kernel
theorem dEx_1 : decode method_3_code 1 = .ok (.iload_n 2, 1) := by decide +kernel
theorem dEx_2 : decode method_3_code 2 = .ok (.if_icmp .ge 5, 3) := by decide +kernel
theorem dEx_5 : decode method_3_code 5 = .ok (.iconst (-1), 1) := by decide +kernel
theorem dEx_6 : decode method_3_code 6 = .ok (.ireturn, 1) := by decide +kernel
theorem dEx_7 : decode method_3_code 7 = .ok (.iload_n 0, 1) := by decide +kernel
theorem dEx_8 : decode method_3_code 8 = .ok (.iload_n 2, 1) := by decide +kernel
theorem dEx_9 : decode method_3_code 9 = .ok (.if_icmp .le 5, 3) := by decide +kernel
theorem dEx_12 : decode method_3_code 12 = .ok (.iconst 1, 1) := by decide +kernel
theorem dEx_13 : decode method_3_code 13 = .ok (.ireturn, 1) := by decide +kernel
theorem dEx_14 : decode method_3_code 14 = .ok (.iload_n 1, 1) := by decide +kernel
theorem dEx_15 : decode method_3_code 15 = .ok (.iload_n 3, 1) := by decide +kernel
theorem dEx_16 : decode method_3_code 16 = .ok (.if_icmp .ge 5, 3) := by decide +kernel
theorem dEx_19 : decode method_3_code 19 = .ok (.iconst (-1), 1) := by decide +kernel
theorem dEx_20 : decode method_3_code 20 = .ok (.ireturn, 1) := by decide +kernel
theorem dEx_21 : decode method_3_code 21 = .ok (.iload_n 1, 1) := by decide +kernel
theorem dEx_22 : decode method_3_code 22 = .ok (.iload_n 3, 1) := by decide +kernel
theorem dEx_23 : decode method_3_code 23 = .ok (.if_icmp .le 5, 3) := by decide +kernel
theorem dEx_26 : decode method_3_code 26 = .ok (.iconst 1, 1) := by decide +kernel
theorem dEx_27 : decode method_3_code 27 = .ok (.ireturn, 1) := by decide +kernel
theorem dEx_28 : decode method_3_code 28 = .ok (.iconst 0, 1) := by decide +kernel
theorem dEx_29 : decode method_3_code 29 = .ok (.ireturn, 1) := by decide +kernel
theorem pnEx : plainName "com/example/holdfast/holdfast/bosh/VersionCompareToPinLaw" = true := by first | (simp [plainName, overriddenIn]; done) | decide +kernel
theorem efEx (m : MethodId) (p0 : Int32) (p1 : Int32) (p2 : Int32) (p3 : Int32) : entryFrame m #[(.int p0), (.int p1), (.int p2), (.int p3)] 4 = mkF m 0 #[.val (.int p0), .val (.int p1), .val (.int p2), .val (.int p3)] [] := by first | (simp [entryFrame, mkF, argsToLocals, Value.category]; done) | rfl
def QEx (Z : State) (p0 : Int32) (p1 : Int32) (p2 : Int32) (p3 : Int32) (h0 : Heap) (n0 : Nat) (v : Option Value) (h : Heap) (L : List Loc) : Prop := v = some (.int (own_exp p0 p1 p2 p3)) ∧ Fr n0 L ∧ h = h0
set_option maxRecDepth 65536 in
set_option maxHeartbeats 40000000 in
theorem rmEx (l : Launch) (Z : State) (a0 : Array Value) (hw : ∀ d ∈ tables_1, d.before a0 Z = true) (ws : List Jvm.Cond) (p0 : Int32) (p1 : Int32) (p2 : Int32) (p3 : Int32) (h0 : Heap) (n0 : Nat) (Z0 : n0 ≤ h0.size)  :
    MetFree l (⟨"com/example/holdfast/holdfast/bosh/VersionCompareToPinLaw", "expected", "(IIII)I"⟩ : MethodName) (head1 (Jvm.Cond.code (⟨"com/example/holdfast/holdfast/bosh/VersionCompareToPinLaw", "expected", "(IIII)I"⟩ : MethodName) method_3_code 4 (some .int) :: ws) ({ frames := 0, cells := 0, slots := 0, locals := 0 } : Room)) (fun a U => a = #[(.int p0), (.int p1), (.int p2), (.int p3)] ∧ Z.Warmed39 U.vm ∧ U.heap = h0) (fun _ _ _ _ _ => True) (fun _ U o U' => ∃ v L, o = .returned v ∧ QEx Z p0 p1 p2 p3 h0 n0 v U'.heap L ∧ FrameEnd U o U' L ({ frames := 0, cells := 0, slots := 0, locals := 0 } : Room).cells ({ frames := 0, cells := 0, slots := 0, locals := 0 } : Room).slots) := by
  refine MetFree.of_bodySF (plainFor_of_name pnEx) hisR ?_
  intro p e s m args below meth c s₁ Bd hml0 hP hK
  obtain ⟨rfl, hZ, hh⟩ := hP
  have hx := Bd.exec
  have hby := Bd.bytes
  have hlk := BodyLoose.notSynchronized Bd
  have hret := Bd.returns
  have hml : c.maxLocals = 4 := hml0
  have hown : s.vm.findClass "com/example/holdfast/holdfast/bosh/VersionCompareToPinLaw" = some m.cls := findClass_of_methodNamed Bd.named
  have hnm := (name_of_methodNamed Bd.named Bd.method).1
  have X0 : Stand p l e ({ frames := 0, cells := 0, slots := 0, locals := 0 } : Room) s m #[(.int p0), (.int p1), (.int p2), (.int p3)] below meth c s₁ [] 0 0 := Stand.of_body Bd
  have e0 : s₁.heap = h0 := by rw [← hh, Bd.state]; rfl
  have N0 := Fr.nil n0
  show OFin p e below (KPost s (QEx Z p0 p1 p2 p3 h0 n0) ({ frames := 0, cells := 0, slots := 0, locals := 0 } : Room).cells ({ frames := 0, cells := 0, slots := 0, locals := 0 } : Room).slots) _
  rw [efEx m p0 p1 p2 p3]
  refine OFin.of (S' := s₁.setTop (mkF m 2 #[.val (.int p0), .val (.int p1), .val (.int p2), .val (.int p3)] [(.int p2), (.int p0)])) (fun t ht => ?_) ?_
  · refine XS.iloadN X0.here hx rfl (hb hby dEx_0) rfl ?_
    show Steps p.tables e below (s₁.setTop (mkF m 1 _ [(.int p0)])) _
    refine XS.iloadN X0.here hx rfl (hb hby dEx_1) rfl ?_
    exact ht
  by_cases hc1 : p0 < p2
  · refine OFin.of (S' := s₁.setTop (mkF m 6 #[.val (.int p0), .val (.int p1), .val (.int p2), .val (.int p3)] [(.int (-1 : Int32))])) (fun t ht => ?_) ?_
    · refine XS.icmpNo X0.here hx rfl (hb hby dEx_2) rfl (tlt (hc1 : p0 < p2)).2.1 ?_
      show Steps p.tables e below (s₁.setTop (mkF m 5 _ [])) _
      refine XS.iconst X0.here hx rfl (hb hby dEx_5) ?_
      exact ht
    exact OFin.retI X0 hx hlk hret (hb hby dEx_6) (by decide) (by decide) (by rw [e0]; exact ⟨(by show some (Value.int (-1 : Int32)) = _; simp [own_exp, hc1]), N0, rfl⟩)
  · refine OFin.of (S' := s₁.setTop (mkF m 9 #[.val (.int p0), .val (.int p1), .val (.int p2), .val (.int p3)] [(.int p2), (.int p0)])) (fun t ht => ?_) ?_
    · refine XS.icmpYes X0.here hx rfl (pc0 := 2) (pc' := 7) rfl (hb hby dEx_2) rfl (flt (hc1 : ¬ (p0 < p2))).2.1 (by decide) (by decide) ?_
      show Steps p.tables e below (s₁.setTop (mkF m 7 _ [])) _
      refine XS.iloadN X0.here hx rfl (hb hby dEx_7) rfl ?_
      show Steps p.tables e below (s₁.setTop (mkF m 8 _ [(.int p0)])) _
      refine XS.iloadN X0.here hx rfl (hb hby dEx_8) rfl ?_
      exact ht
    by_cases hc2 : p2 < p0
    · refine OFin.of (S' := s₁.setTop (mkF m 13 #[.val (.int p0), .val (.int p1), .val (.int p2), .val (.int p3)] [(.int (1 : Int32))])) (fun t ht => ?_) ?_
      · refine XS.icmpNo X0.here hx rfl (hb hby dEx_9) rfl (tlt (hc2 : p2 < p0)).2.2.2 ?_
        show Steps p.tables e below (s₁.setTop (mkF m 12 _ [])) _
        refine XS.iconst X0.here hx rfl (hb hby dEx_12) ?_
        exact ht
      exact OFin.retI X0 hx hlk hret (hb hby dEx_13) (by decide) (by decide) (by rw [e0]; exact ⟨(by show some (Value.int (1 : Int32)) = _; simp [own_exp, hc1, hc2]), N0, rfl⟩)
    · refine OFin.of (S' := s₁.setTop (mkF m 16 #[.val (.int p0), .val (.int p1), .val (.int p2), .val (.int p3)] [(.int p3), (.int p1)])) (fun t ht => ?_) ?_
      · refine XS.icmpYes X0.here hx rfl (pc0 := 9) (pc' := 14) rfl (hb hby dEx_9) rfl (flt (hc2 : ¬ (p2 < p0))).2.2.2 (by decide) (by decide) ?_
        show Steps p.tables e below (s₁.setTop (mkF m 14 _ [])) _
        refine XS.iloadN X0.here hx rfl (hb hby dEx_14) rfl ?_
        show Steps p.tables e below (s₁.setTop (mkF m 15 _ [(.int p1)])) _
        refine XS.iloadN X0.here hx rfl (hb hby dEx_15) rfl ?_
        exact ht
      by_cases hc3 : p1 < p3
      · refine OFin.of (S' := s₁.setTop (mkF m 20 #[.val (.int p0), .val (.int p1), .val (.int p2), .val (.int p3)] [(.int (-1 : Int32))])) (fun t ht => ?_) ?_
        · refine XS.icmpNo X0.here hx rfl (hb hby dEx_16) rfl (tlt (hc3 : p1 < p3)).2.1 ?_
          show Steps p.tables e below (s₁.setTop (mkF m 19 _ [])) _
          refine XS.iconst X0.here hx rfl (hb hby dEx_19) ?_
          exact ht
        exact OFin.retI X0 hx hlk hret (hb hby dEx_20) (by decide) (by decide) (by rw [e0]; exact ⟨(by show some (Value.int (-1 : Int32)) = _; simp [own_exp, hc1, hc2, hc3]), N0, rfl⟩)
      · refine OFin.of (S' := s₁.setTop (mkF m 23 #[.val (.int p0), .val (.int p1), .val (.int p2), .val (.int p3)] [(.int p3), (.int p1)])) (fun t ht => ?_) ?_
        · refine XS.icmpYes X0.here hx rfl (pc0 := 16) (pc' := 21) rfl (hb hby dEx_16) rfl (flt (hc3 : ¬ (p1 < p3))).2.1 (by decide) (by decide) ?_
          show Steps p.tables e below (s₁.setTop (mkF m 21 _ [])) _
          refine XS.iloadN X0.here hx rfl (hb hby dEx_21) rfl ?_
          show Steps p.tables e below (s₁.setTop (mkF m 22 _ [(.int p1)])) _
          refine XS.iloadN X0.here hx rfl (hb hby dEx_22) rfl ?_
          exact ht
        by_cases hc4 : p3 < p1
        · refine OFin.of (S' := s₁.setTop (mkF m 27 #[.val (.int p0), .val (.int p1), .val (.int p2), .val (.int p3)] [(.int (1 : Int32))])) (fun t ht => ?_) ?_
          · refine XS.icmpNo X0.here hx rfl (hb hby dEx_23) rfl (tlt (hc4 : p3 < p1)).2.2.2 ?_
            show Steps p.tables e below (s₁.setTop (mkF m 26 _ [])) _
            refine XS.iconst X0.here hx rfl (hb hby dEx_26) ?_
            exact ht
          exact OFin.retI X0 hx hlk hret (hb hby dEx_27) (by decide) (by decide) (by rw [e0]; exact ⟨(by show some (Value.int (1 : Int32)) = _; simp [own_exp, hc1, hc2, hc3, hc4]), N0, rfl⟩)
        · refine OFin.of (S' := s₁.setTop (mkF m 29 #[.val (.int p0), .val (.int p1), .val (.int p2), .val (.int p3)] [(.int (0 : Int32))])) (fun t ht => ?_) ?_
          · refine XS.icmpYes X0.here hx rfl (pc0 := 23) (pc' := 28) rfl (hb hby dEx_23) rfl (flt (hc4 : ¬ (p3 < p1))).2.2.2 (by decide) (by decide) ?_
            show Steps p.tables e below (s₁.setTop (mkF m 28 _ [])) _
            refine XS.iconst X0.here hx rfl (hb hby dEx_28) ?_
            exact ht
          exact OFin.retI X0 hx hlk hret (hb hby dEx_29) (by decide) (by decide) (by rw [e0]; exact ⟨(by show some (Value.int (0 : Int32)) = _; simp [own_exp, hc1, hc2, hc3, hc4]), N0, rfl⟩)
theorem dCt_0 : decode prog_3_method_3_code 0 = .ok (.aload_n 0, 1) := by decide +kernel
theorem dCt_1 : decode prog_3_method_3_code 1 = .ok (.getfield 7, 3) := by decide +kernel
theorem dCt_4 : decode prog_3_method_3_code 4 = .ok (.aload_n 1, 1) := by decide +kernel
theorem dCt_5 : decode prog_3_method_3_code 5 = .ok (.getfield 7, 3) := by decide +kernel
theorem dCt_8 : decode prog_3_method_3_code 8 = .ok (.if_icmp .eq 17, 3) := by decide +kernel
theorem dCt_11 : decode prog_3_method_3_code 11 = .ok (.aload_n 0, 1) := by decide +kernel
theorem dCt_12 : decode prog_3_method_3_code 12 = .ok (.getfield 7, 3) := by decide +kernel
theorem dCt_15 : decode prog_3_method_3_code 15 = .ok (.aload_n 1, 1) := by decide +kernel
theorem dCt_16 : decode prog_3_method_3_code 16 = .ok (.getfield 7, 3) := by decide +kernel
theorem dCt_19 : decode prog_3_method_3_code 19 = .ok (.invokestatic 57, 3) := by decide +kernel
theorem dCt_22 : decode prog_3_method_3_code 22 = .ok (.goto 14, 3) := by decide +kernel
theorem dCt_25 : decode prog_3_method_3_code 25 = .ok (.aload_n 0, 1) := by decide +kernel
theorem dCt_26 : decode prog_3_method_3_code 26 = .ok (.getfield 13, 3) := by decide +kernel
theorem dCt_29 : decode prog_3_method_3_code 29 = .ok (.aload_n 1, 1) := by decide +kernel
theorem dCt_30 : decode prog_3_method_3_code 30 = .ok (.getfield 13, 3) := by decide +kernel
theorem dCt_33 : decode prog_3_method_3_code 33 = .ok (.invokestatic 57, 3) := by decide +kernel
theorem dCt_36 : decode prog_3_method_3_code 36 = .ok (.ireturn, 1) := by decide +kernel
theorem pnCt : plainName "com/example/holdfast/holdfast/bosh/Version" = true := by first | (simp [plainName, overriddenIn]; done) | decide +kernel
theorem efCt (m : MethodId) (a0 : Addr) (a1 : Addr) : entryFrame m #[(.ref a0), (.ref a1)] 2 = mkF m 0 #[.val (.ref a0), .val (.ref a1)] [] := by first | (simp [entryFrame, mkF, argsToLocals, Value.category]; done) | rfl
def QCt (Z : State) (a0 : Addr) (a1 : Addr) (m0 : Int32) (m1 : Int32) (m2 : Int32) (m3 : Int32) (h0 : Heap) (n0 : Nat) (v : Option Value) (h : Heap) (L : List Loc) : Prop := v = some (.int (own_ct m0 m1 m2 m3)) ∧ Fr n0 L ∧ h = h0
set_option maxRecDepth 65536 in
set_option maxHeartbeats 40000000 in
theorem rmCt (l : Launch) (Z : State) (a0 : Array Value) (hw : ∀ d ∈ tables_1, d.before a0 Z = true) (ws : List Jvm.Cond) (a0 : Addr) (a1 : Addr) (m0 : Int32) (m1 : Int32) (m2 : Int32) (m3 : Int32) (h0 : Heap) (n0 : Nat) (Z0 : n0 ≤ h0.size) (G1 : Fld Z h0 a0 "com/example/holdfast/holdfast/bosh/Version" "major" "I" (.int m0)) (G2 : Fld Z h0 a0 "com/example/holdfast/holdfast/bosh/Version" "minor" "I" (.int m1)) (G3 : Fld Z h0 a1 "com/example/holdfast/holdfast/bosh/Version" "major" "I" (.int m2)) (G4 : Fld Z h0 a1 "com/example/holdfast/holdfast/bosh/Version" "minor" "I" (.int m3)) :
    MetFree l (⟨"com/example/holdfast/holdfast/bosh/Version", "compareTo", "(Lcom/example/holdfast/holdfast/bosh/Version;)I"⟩ : MethodName) (head1 (Jvm.Cond.code (⟨"com/example/holdfast/holdfast/bosh/Version", "compareTo", "(Lcom/example/holdfast/holdfast/bosh/Version;)I"⟩ : MethodName) prog_3_method_3_code 2 (some .int) :: ws) ({ frames := 1, cells := 0, slots := 0, locals := 13 } : Room)) (fun a U => a = #[(.ref a0), (.ref a1)] ∧ Z.Warmed39 U.vm ∧ U.heap = h0) (fun _ _ _ _ _ => True) (fun _ U o U' => ∃ v L, o = .returned v ∧ QCt Z a0 a1 m0 m1 m2 m3 h0 n0 v U'.heap L ∧ FrameEnd U o U' L ({ frames := 1, cells := 0, slots := 0, locals := 13 } : Room).cells ({ frames := 1, cells := 0, slots := 0, locals := 13 } : Room).slots) := by
  refine MetFree.of_bodySF (plainFor_of_name pnCt) hisR ?_
  intro p e s m args below meth c s₁ Bd hml0 hP hK
  obtain ⟨rfl, hZ, hh⟩ := hP
  have hx := Bd.exec
  have hby := Bd.bytes
  have hlk := BodyLoose.notSynchronized Bd
  have hret := Bd.returns
  have hml : c.maxLocals = 2 := hml0
  have hown : s.vm.findClass "com/example/holdfast/holdfast/bosh/Version" = some m.cls := findClass_of_methodNamed Bd.named
  have hnm := (name_of_methodNamed Bd.named Bd.method).1
  have X0 : Stand p l e ({ frames := 1, cells := 0, slots := 0, locals := 13 } : Room) s m #[(.ref a0), (.ref a1)] below meth c s₁ [] 0 0 := Stand.of_body Bd
  have e0 : s₁.heap = h0 := by rw [← hh, Bd.state]; rfl
  have N0 := Fr.nil n0
  show OFin p e below (KPost s (QCt Z a0 a1 m0 m1 m2 m3 h0 n0) ({ frames := 1, cells := 0, slots := 0, locals := 13 } : Room).cells ({ frames := 1, cells := 0, slots := 0, locals := 13 } : Room).slots) _
  rw [efCt m a0 a1]
  refine OFin.of (S' := s₁.setTop (mkF m 1 #[.val (.ref a0), .val (.ref a1)] [(.ref a0)])) (fun t ht => ?_) ?_
  · refine XS.aloadN X0.here hx rfl (hb hby dCt_0) rfl rfl ?_
    exact ht
  obtain ⟨T1, X1, e1, st1⟩ := getF X0 hx hZ hown (host := "") (Or.inl (hw _ (List.mem_of_getElem? (i := 14) rfl))) Via.refl e0 G1 (g := (mkF m 1 #[.val (.ref a0), .val (.ref a1)] [(.ref a0)])) rfl rfl (hb hby dCt_1)
  refine OFin.of (S' := T1.setTop (mkF m 4 #[.val (.ref a0), .val (.ref a1)] [(.int m0)])) (fun t ht => st1 t ht) ?_
  refine OFin.of (S' := T1.setTop (mkF m 5 #[.val (.ref a0), .val (.ref a1)] [(.ref a1), (.int m0)])) (fun t ht => ?_) ?_
  · refine XS.aloadN X1.here hx rfl (hb hby dCt_4) rfl rfl ?_
    exact ht
  obtain ⟨T2, X2, e2, st2⟩ := getF X1 hx hZ hown (host := "") (Or.inl (hw _ (List.mem_of_getElem? (i := 14) rfl))) Via.refl e1 G3 (g := (mkF m 5 #[.val (.ref a0), .val (.ref a1)] [(.ref a1), (.int m0)])) rfl rfl (hb hby dCt_5)
  refine OFin.of (S' := T2.setTop (mkF m 8 #[.val (.ref a0), .val (.ref a1)] [(.int m2), (.int m0)])) (fun t ht => st2 t ht) ?_
  by_cases hc3 : m0 = m2
  · refine OFin.of (S' := T2.setTop (mkF m 26 #[.val (.ref a0), .val (.ref a1)] [(.ref a0)])) (fun t ht => ?_) ?_
    · refine XS.icmpYes X2.here hx rfl (pc0 := 8) (pc' := 25) rfl (hb hby dCt_8) rfl (teq (hc3 : m0 = m2)).1 (by decide) (by decide) ?_
      show Steps p.tables e below (T2.setTop (mkF m 25 _ [])) _
      refine XS.aloadN X2.here hx rfl (hb hby dCt_25) rfl rfl ?_
      exact ht
    obtain ⟨T4, X4, e4, st4⟩ := getF X2 hx hZ hown (host := "") (Or.inl (hw _ (List.mem_of_getElem? (i := 16) rfl))) Via.refl e2 G2 (g := (mkF m 26 #[.val (.ref a0), .val (.ref a1)] [(.ref a0)])) rfl rfl (hb hby dCt_26)
    refine OFin.of (S' := T4.setTop (mkF m 29 #[.val (.ref a0), .val (.ref a1)] [(.int m1)])) (fun t ht => st4 t ht) ?_
    refine OFin.of (S' := T4.setTop (mkF m 30 #[.val (.ref a0), .val (.ref a1)] [(.ref a1), (.int m1)])) (fun t ht => ?_) ?_
    · refine XS.aloadN X4.here hx rfl (hb hby dCt_29) rfl rfl ?_
      exact ht
    obtain ⟨T5, X5, e5, st5⟩ := getF X4 hx hZ hown (host := "") (Or.inl (hw _ (List.mem_of_getElem? (i := 16) rfl))) Via.refl e4 G4 (g := (mkF m 30 #[.val (.ref a0), .val (.ref a1)] [(.ref a1), (.int m1)])) rfl rfl (hb hby dCt_30)
    refine OFin.of (S' := T5.setTop (mkF m 33 #[.val (.ref a0), .val (.ref a1)] [(.int m3), (.int m1)])) (fun t ht => st5 t ht) ?_
    obtain ⟨_, _, ⟨T6, L6, k6, n6⟩, -, X6, ⟨Lc6, hQ6, l6, y6, z6⟩, st6⟩ := Jvm.LawKit.callS X5 hx (y := (⟨"java/lang/Integer", "compare", "(II)I"⟩ : MethodName)) hown (mvT hZ (hw _ (List.mem_of_getElem? (i := 23) rfl))) (mvT hZ (hw _ (List.mem_of_getElem? (i := 24) rfl))) (mvT hZ (hw _ (List.mem_of_getElem? (i := 25) rfl))) (mvT hZ (hw _ (List.mem_of_getElem? (i := 26) rfl))) (by decide) (backOf (W := 0) (rmCmp l Z _ hw [] m1 m3 h0 n0 Z0 ) hZ (hw _ (List.mem_of_getElem? (i := 26) rfl)) (hw _ (List.mem_of_getElem? (i := 25) rfl)) (by decide) (by decide)) (g := (mkF m 33 #[.val (.ref a0), .val (.ref a1)] [(.int m3), (.int m1)])) rfl (by rw [hml]; rfl) (argsL := [(.int m1), (.int m3)]) (rest := []) (lenOf pd_1 rfl) rfl (by show 2 * 0 + _ ≤ _; exact Nat.le_of_eq rfl) (hb hby dCt_33) (fun _ _ => ⟨rfl, e5, (by decide : 0 + 0 ≤ _), (by decide : 0 + 0 ≤ _)⟩)
    dsimp only [Pt.U, Pt.locs, Pt.cells, Pt.slots] at X6 l6 y6 z6 st6 hQ6
    subst l6 y6 z6
    obtain ⟨rfl, Nq6, hs6⟩ := hQ6
    have N7 := Fr.app N0 Nq6
    refine OFin.of (S' := T6.setTop (mkF m 36 #[.val (.ref a0), .val (.ref a1)] [(.int (own_cmp m1 m3))])) (fun t ht => st6 t ht) ?_
    exact OFin.retI X6 hx hlk hret (hb hby dCt_36) (by decide) (by decide) (by rw [hs6]; exact ⟨(by show some (Value.int (own_cmp m1 m3)) = _; simp [own_ct, hc3]), N7, rfl⟩)
  · refine OFin.of (S' := T2.setTop (mkF m 12 #[.val (.ref a0), .val (.ref a1)] [(.ref a0)])) (fun t ht => ?_) ?_
    · refine XS.icmpNo X2.here hx rfl (hb hby dCt_8) rfl (feq (hc3 : ¬ (m0 = m2))).1 ?_
      show Steps p.tables e below (T2.setTop (mkF m 11 _ [])) _
      refine XS.aloadN X2.here hx rfl (hb hby dCt_11) rfl rfl ?_
      exact ht
    obtain ⟨T8, X8, e8, st8⟩ := getF X2 hx hZ hown (host := "") (Or.inl (hw _ (List.mem_of_getElem? (i := 14) rfl))) Via.refl e2 G1 (g := (mkF m 12 #[.val (.ref a0), .val (.ref a1)] [(.ref a0)])) rfl rfl (hb hby dCt_12)
    refine OFin.of (S' := T8.setTop (mkF m 15 #[.val (.ref a0), .val (.ref a1)] [(.int m0)])) (fun t ht => st8 t ht) ?_
    refine OFin.of (S' := T8.setTop (mkF m 16 #[.val (.ref a0), .val (.ref a1)] [(.ref a1), (.int m0)])) (fun t ht => ?_) ?_
    · refine XS.aloadN X8.here hx rfl (hb hby dCt_15) rfl rfl ?_
      exact ht
    obtain ⟨T9, X9, e9, st9⟩ := getF X8 hx hZ hown (host := "") (Or.inl (hw _ (List.mem_of_getElem? (i := 14) rfl))) Via.refl e8 G3 (g := (mkF m 16 #[.val (.ref a0), .val (.ref a1)] [(.ref a1), (.int m0)])) rfl rfl (hb hby dCt_16)
    refine OFin.of (S' := T9.setTop (mkF m 19 #[.val (.ref a0), .val (.ref a1)] [(.int m2), (.int m0)])) (fun t ht => st9 t ht) ?_
    obtain ⟨_, _, ⟨T10, L10, k10, n10⟩, -, X10, ⟨Lc10, hQ10, l10, y10, z10⟩, st10⟩ := Jvm.LawKit.callS X9 hx (y := (⟨"java/lang/Integer", "compare", "(II)I"⟩ : MethodName)) hown (mvT hZ (hw _ (List.mem_of_getElem? (i := 23) rfl))) (mvT hZ (hw _ (List.mem_of_getElem? (i := 24) rfl))) (mvT hZ (hw _ (List.mem_of_getElem? (i := 25) rfl))) (mvT hZ (hw _ (List.mem_of_getElem? (i := 26) rfl))) (by decide) (backOf (W := 0) (rmCmp l Z _ hw [] m0 m2 h0 n0 Z0 ) hZ (hw _ (List.mem_of_getElem? (i := 26) rfl)) (hw _ (List.mem_of_getElem? (i := 25) rfl)) (by decide) (by decide)) (g := (mkF m 19 #[.val (.ref a0), .val (.ref a1)] [(.int m2), (.int m0)])) rfl (by rw [hml]; rfl) (argsL := [(.int m0), (.int m2)]) (rest := []) (lenOf pd_1 rfl) rfl (by show 2 * 0 + _ ≤ _; exact Nat.le_of_eq rfl) (hb hby dCt_19) (fun _ _ => ⟨rfl, e9, (by decide : 0 + 0 ≤ _), (by decide : 0 + 0 ≤ _)⟩)
    dsimp only [Pt.U, Pt.locs, Pt.cells, Pt.slots] at X10 l10 y10 z10 st10 hQ10
    subst l10 y10 z10
    obtain ⟨rfl, Nq10, hs10⟩ := hQ10
    have N11 := Fr.app N0 Nq10
    refine OFin.of (S' := T10.setTop (mkF m 22 #[.val (.ref a0), .val (.ref a1)] [(.int (own_cmp m0 m2))])) (fun t ht => st10 t ht) ?_
    refine OFin.of (S' := T10.setTop (mkF m 36 #[.val (.ref a0), .val (.ref a1)] [(.int (own_cmp m0 m2))])) (fun t ht => ?_) ?_
    · refine XS.goto X10.here hx rfl (pc0 := 22) (pc' := 36) rfl (hb hby dCt_22) (by decide) (by decide) ?_
      exact ht
    exact OFin.retI X10 hx hlk hret (hb hby dCt_36) (by decide) (by decide) (by rw [hs10]; exact ⟨(by show some (Value.int (own_cmp m0 m2)) = _; simp [own_ct, hc3]), N11, rfl⟩)
theorem pn0 : plainName "com/example/holdfast/holdfast/bosh/VersionCompareToPinLaw" = true := by first | (simp [plainName, overriddenIn]; done) | decide +kernel
theorem ef0 (m : MethodId) (p0 : Int32) (p1 : Int32) (p2 : Int32) (p3 : Int32) (p4 : Int32) : entryFrame m #[(.int p0), (.int p1), (.int p2), (.int p3), (.int p4)] maxLocals = mkF m 0 #[.val (.int p0), .val (.int p1), .val (.int p2), .val (.int p3), .val (.int p4), .unset, .unset, .unset] [] := by first | (simp [entryFrame, mkF, argsToLocals, Value.category, maxLocals]; done) | rfl
def Q0 (Z : State) (p0 : Int32) (p1 : Int32) (p2 : Int32) (p3 : Int32) (p4 : Int32) (h0 : Heap) (n0 : Nat) (v : Option Value) (h : Heap) (L : List Loc) : Prop := v = some (.int (1 : Int32)) ∧ Fr n0 L
set_option maxRecDepth 65536 in
set_option maxHeartbeats 40000000 in
theorem rm0 (l : Launch) (Z : State) (a0 : Array Value) (hw : ∀ d ∈ tables_1, d.before a0 Z = true) (ws : List Jvm.Cond) (p0 : Int32) (p1 : Int32) (p2 : Int32) (p3 : Int32) (p4 : Int32) (h0 : Heap) (n0 : Nat) (Z0 : n0 ≤ h0.size)  :
    MetFree l x (head1 (Jvm.Cond.code x code maxLocals ret :: ws) room_1) (fun a U => a = #[(.int p0), (.int p1), (.int p2), (.int p3), (.int p4)] ∧ Z.Warmed39 U.vm ∧ U.heap = h0) (fun _ _ _ _ _ => True) (fun _ U o U' => ∃ v L, o = .returned v ∧ Q0 Z p0 p1 p2 p3 p4 h0 n0 v U'.heap L ∧ FrameEnd U o U' L room_1.cells room_1.slots) := by
  refine MetFree.of_bodySF (plainFor_of_name pn0) hisR ?_
  intro p e s m args below meth c s₁ Bd hml0 hP hK
  obtain ⟨rfl, hZ, hh⟩ := hP
  have hx := Bd.exec
  have hby := Bd.bytes
  have hlk := BodyLoose.notSynchronized Bd
  have hret := Bd.returns
  have hml : c.maxLocals = 8 := hml0
  have hown : s.vm.findClass "com/example/holdfast/holdfast/bosh/VersionCompareToPinLaw" = some m.cls := findClass_of_methodNamed Bd.named
  have hnm := (name_of_methodNamed Bd.named Bd.method).1
  have X0 : Stand p l e room_1 s m #[(.int p0), (.int p1), (.int p2), (.int p3), (.int p4)] below meth c s₁ [] 0 0 := Stand.of_body Bd
  have e0 : s₁.heap = h0 := by rw [← hh, Bd.state]; rfl
  have N0 := Fr.nil n0
  show OFin p e below (KPost s (Q0 Z p0 p1 p2 p3 p4 h0 n0) room_1.cells room_1.slots) _
  rw [ef0 m p0 p1 p2 p3 p4]
  refine OFin.of (S' := s₁.setTop (mkF m 4 #[.val (.int p0), .val (.int p1), .val (.int p2), .val (.int p3), .val (.int p4), .unset, .unset, .unset] [(.int (p4 &&& (1 : Int32)))])) (fun t ht => ?_) ?_
  · refine XS.iload X0.here hx rfl (hb hby at_0) rfl ?_
    show Steps p.tables e below (s₁.setTop (mkF m 2 _ [(.int p4)])) _
    refine XS.iconst X0.here hx rfl (hb hby at_2) ?_
    show Steps p.tables e below (s₁.setTop (mkF m 3 _ [(.int (1 : Int32)), (.int p4)])) _
    refine XS.iand X0.here hx rfl (hb hby at_3) rfl ?_
    exact ht
  by_cases hc1 : (p4 &&& (1 : Int32)) = (0 : Int32)
  · refine OFin.of (S' := s₁.setTop (mkF m 13 #[.val (.int p0), .val (.int p1), .val (.int p2), .val (.int p3), .val (.int p4), .unset, .unset, .unset] [(.int (p4 &&& (2 : Int32)))])) (fun t ht => ?_) ?_
    · refine XS.ifYes X0.here hx rfl (pc0 := 4) (pc' := 9) rfl (hb hby at_4) rfl ((if0 _ _).trans (teq (hc1 : (p4 &&& (1 : Int32)) = (0 : Int32))).1) (by decide) (by decide) ?_
      show Steps p.tables e below (s₁.setTop (mkF m 9 _ [])) _
      refine XS.iload X0.here hx rfl (hb hby at_9) rfl ?_
      show Steps p.tables e below (s₁.setTop (mkF m 11 _ [(.int p4)])) _
      refine XS.iconst X0.here hx rfl (hb hby at_11) ?_
      show Steps p.tables e below (s₁.setTop (mkF m 12 _ [(.int (2 : Int32)), (.int p4)])) _
      refine XS.iand X0.here hx rfl (hb hby at_12) rfl ?_
      exact ht
    by_cases hc2 : (p4 &&& (2 : Int32)) = (0 : Int32)
    · refine OFin.of (S' := s₁.setTop (mkF m 18 #[.val (.int p0), .val (.int p1), .val (.int p2), .val (.int p3), .val (.int p4), .unset, .unset, .unset] [])) (fun t ht => ?_) ?_
      · refine XS.ifYes X0.here hx rfl (pc0 := 13) (pc' := 18) rfl (hb hby at_13) rfl ((if0 _ _).trans (teq (hc2 : (p4 &&& (2 : Int32)) = (0 : Int32))).1) (by decide) (by decide) ?_
        exact ht
      obtain ⟨T3, h3, X3, e3, E3, A3, D3, -, st3⟩ := newO X0 hx hZ hown (hw _ (List.mem_of_getElem? (i := 0) rfl)) (hw _ (List.mem_of_getElem? (i := 1) rfl)) (hw _ (List.mem_of_getElem? (i := 2) rfl)) e0 (g := (mkF m 18 #[.val (.int p0), .val (.int p1), .val (.int p2), .val (.int p3), .val (.int p4), .unset, .unset, .unset] [])) rfl (hb hby at_18) (by decide) (by decide)
      obtain ⟨b3, gq3⟩ : ∃ z, z = h0.size := ⟨_, rfl⟩
      rw [← gq3] at A3 D3 st3
      have g4 : n0 ≤ b3 := (Nat.le_trans Z0 (Nat.le_of_eq gq3.symm))
      have Z5 : n0 ≤ h3.size := (Nat.le_trans Z0 E3.1)
      have f6 : Fld Z h3 b3 "com/example/holdfast/holdfast/bosh/Version" "major" "I" (.int (0 : Int32)) := D3 (Or.inr (hw _ (List.mem_of_getElem? (i := 15) rfl))) (ty := .int) (by decide)
      have f7 : Fld Z h3 b3 "com/example/holdfast/holdfast/bosh/Version" "minor" "I" (.int (0 : Int32)) := D3 (Or.inr (hw _ (List.mem_of_getElem? (i := 17) rfl))) (ty := .int) (by decide)
      refine OFin.of (S' := T3.setTop (mkF m 21 #[.val (.int p0), .val (.int p1), .val (.int p2), .val (.int p3), .val (.int p4), .unset, .unset, .unset] [(.ref b3)])) (fun t ht => st3 t ht) ?_
      refine OFin.of (S' := T3.setTop (mkF m 24 #[.val (.int p0), .val (.int p1), .val (.int p2), .val (.int p3), .val (.int p4), .unset, .unset, .unset] [(.int p1), (.int p0), (.ref b3), (.ref b3)])) (fun t ht => ?_) ?_
      · refine XS.dup X3.here hx rfl (hb hby at_21) rfl rfl ?_
        show Steps p.tables e below (T3.setTop (mkF m 22 _ [(.ref b3), (.ref b3)])) _
        refine XS.iloadN X3.here hx rfl (hb hby at_22) rfl ?_
        show Steps p.tables e below (T3.setTop (mkF m 23 _ [(.int p0), (.ref b3), (.ref b3)])) _
        refine XS.iloadN X3.here hx rfl (hb hby at_23) rfl ?_
        exact ht
      obtain ⟨_, _, ⟨T8, L8, k8, n8⟩, -, X8, ⟨Lc8, hQ8, l8, y8, z8⟩, st8⟩ := X3.specialBack hx (y := (⟨"com/example/holdfast/holdfast/bosh/Version", "<init>", "(II)V"⟩ : MethodName)) rfl hown (mvT hZ (hw _ (List.mem_of_getElem? (i := 3) rfl))) (mvT hZ (hw _ (List.mem_of_getElem? (i := 4) rfl))) (mvT hZ (hw _ (List.mem_of_getElem? (i := 5) rfl))) (by decide) (backOf (W := 1) (rmIni l Z _ hw [] b3 p0 p1 h3 n0 Z5 A3 f6 f7 g4) hZ (hw _ (List.mem_of_getElem? (i := 5) rfl)) (hw _ (List.mem_of_getElem? (i := 2) rfl)) (by decide) (by decide)) (g := (mkF m 24 #[.val (.int p0), .val (.int p1), .val (.int p2), .val (.int p3), .val (.int p4), .unset, .unset, .unset] [(.int p1), (.int p0), (.ref b3), (.ref b3)])) rfl (by rw [hml]; rfl) (Steps.refl _) (a := b3) (argsL := [(.int p0), (.int p1)]) (rest := [(.ref b3)]) (lenOf pd_2 rfl) rfl (by show 2 * 0 + _ ≤ _; exact Nat.le_of_eq rfl) (hb hby at_24) (fun _ _ => ⟨rfl, e3, (by decide : 1 + 0 ≤ _), (by decide : 2 + 0 ≤ _)⟩)
      dsimp only [Pt.U, Pt.locs, Pt.cells, Pt.slots] at X8 l8 y8 z8 st8 hQ8
      subst l8 y8 z8
      obtain ⟨rfl, Nq8, Kq8, f9, f10⟩ := hQ8
      have N11 := Fr.app N0 Nq8
      have f12 := (A3.keep Kq8)
      have Z13 : n0 ≤ T8.heap.size := (Nat.le_trans Z5 Kq8.1)
      refine OFin.to (S' := T8.setTop (mkF m 27 #[.val (.int p0), .val (.int p1), .val (.int p2), .val (.int p3), .val (.int p4), .unset, .unset, .unset] [(.ref b3)])) st8 ?_
      refine OFin.of (S' := T8.setTop (mkF m 29 #[.val (.int p0), .val (.int p1), .val (.int p2), .val (.int p3), .val (.int p4), .val (.ref b3), .unset, .unset] [])) (fun t ht => ?_) ?_
      · refine XS.astore X8.here hx rfl (hb hby at_27) rfl rfl (l' := #[.val (.int p0), .val (.int p1), .val (.int p2), .val (.int p3), .val (.int p4), .val (.ref b3), .unset, .unset]) rfl ?_
        exact ht
      obtain ⟨T14, h14, X14, e14, E14, A14, D14, -, st14⟩ := newO X8 hx hZ hown (hw _ (List.mem_of_getElem? (i := 0) rfl)) (hw _ (List.mem_of_getElem? (i := 1) rfl)) (hw _ (List.mem_of_getElem? (i := 2) rfl)) (rfl : T8.heap = T8.heap) (g := (mkF m 29 #[.val (.int p0), .val (.int p1), .val (.int p2), .val (.int p3), .val (.int p4), .val (.ref b3), .unset, .unset] [])) rfl (hb hby at_29) (by decide) (by decide)
      obtain ⟨b14, gq14⟩ : ∃ z, z = T8.heap.size := ⟨_, rfl⟩
      rw [← gq14] at A14 D14 st14
      have g15 : n0 ≤ b14 := (Nat.le_trans Z13 (Nat.le_of_eq gq14.symm))
      have ne16 : b3 ≠ b14 := (Nat.ne_of_lt (Nat.lt_of_lt_of_le f12.lt (Nat.le_of_eq gq14.symm)))
      have f17 := f12.ext E14
      have f18 := f9.ext E14
      have f19 := f10.ext E14
      have Z20 : n0 ≤ h14.size := (Nat.le_trans Z13 E14.1)
      have f21 : Fld Z h14 b14 "com/example/holdfast/holdfast/bosh/Version" "major" "I" (.int (0 : Int32)) := D14 (Or.inr (hw _ (List.mem_of_getElem? (i := 15) rfl))) (ty := .int) (by decide)
      have f22 : Fld Z h14 b14 "com/example/holdfast/holdfast/bosh/Version" "minor" "I" (.int (0 : Int32)) := D14 (Or.inr (hw _ (List.mem_of_getElem? (i := 17) rfl))) (ty := .int) (by decide)
      refine OFin.of (S' := T14.setTop (mkF m 32 #[.val (.int p0), .val (.int p1), .val (.int p2), .val (.int p3), .val (.int p4), .val (.ref b3), .unset, .unset] [(.ref b14)])) (fun t ht => st14 t ht) ?_
      refine OFin.of (S' := T14.setTop (mkF m 35 #[.val (.int p0), .val (.int p1), .val (.int p2), .val (.int p3), .val (.int p4), .val (.ref b3), .unset, .unset] [(.int p3), (.int p2), (.ref b14), (.ref b14)])) (fun t ht => ?_) ?_
      · refine XS.dup X14.here hx rfl (hb hby at_32) rfl rfl ?_
        show Steps p.tables e below (T14.setTop (mkF m 33 _ [(.ref b14), (.ref b14)])) _
        refine XS.iloadN X14.here hx rfl (hb hby at_33) rfl ?_
        show Steps p.tables e below (T14.setTop (mkF m 34 _ [(.int p2), (.ref b14), (.ref b14)])) _
        refine XS.iloadN X14.here hx rfl (hb hby at_34) rfl ?_
        exact ht
      obtain ⟨_, _, ⟨T23, L23, k23, n23⟩, -, X23, ⟨Lc23, hQ23, l23, y23, z23⟩, st23⟩ := X14.specialBack hx (y := (⟨"com/example/holdfast/holdfast/bosh/Version", "<init>", "(II)V"⟩ : MethodName)) rfl hown (mvT hZ (hw _ (List.mem_of_getElem? (i := 3) rfl))) (mvT hZ (hw _ (List.mem_of_getElem? (i := 4) rfl))) (mvT hZ (hw _ (List.mem_of_getElem? (i := 5) rfl))) (by decide) (backOf (W := 1) (rmIni l Z _ hw [] b14 p2 p3 h14 n0 Z20 A14 f21 f22 g15) hZ (hw _ (List.mem_of_getElem? (i := 5) rfl)) (hw _ (List.mem_of_getElem? (i := 2) rfl)) (by decide) (by decide)) (g := (mkF m 35 #[.val (.int p0), .val (.int p1), .val (.int p2), .val (.int p3), .val (.int p4), .val (.ref b3), .unset, .unset] [(.int p3), (.int p2), (.ref b14), (.ref b14)])) rfl (by rw [hml]; rfl) (Steps.refl _) (a := b14) (argsL := [(.int p2), (.int p3)]) (rest := [(.ref b14)]) (lenOf pd_2 rfl) rfl (by show 2 * 0 + _ ≤ _; exact Nat.le_of_eq rfl) (hb hby at_35) (fun _ _ => ⟨rfl, e14, (by decide : 2 + 0 ≤ _), (by decide : 4 + 0 ≤ _)⟩)
      dsimp only [Pt.U, Pt.locs, Pt.cells, Pt.slots] at X23 l23 y23 z23 st23 hQ23
      subst l23 y23 z23
      obtain ⟨rfl, Nq23, Kq23, f24, f25⟩ := hQ23
      have N26 := Fr.app N11 Nq23
      have f27 := (f17.keep Kq23)
      have f28 := (f18.keep Kq23 (ninS ne16 nin0))
      have f29 := (f19.keep Kq23 (ninS ne16 nin0))
      have f30 := (A14.keep Kq23)
      have Z31 : n0 ≤ T23.heap.size := (Nat.le_trans Z20 Kq23.1)
      refine OFin.to (S' := T23.setTop (mkF m 38 #[.val (.int p0), .val (.int p1), .val (.int p2), .val (.int p3), .val (.int p4), .val (.ref b3), .unset, .unset] [(.ref b14)])) st23 ?_
      refine OFin.of (S' := T23.setTop (mkF m 44 #[.val (.int p0), .val (.int p1), .val (.int p2), .val (.int p3), .val (.int p4), .val (.ref b3), .val (.ref b14), .unset] [(.ref b14), (.ref b3)])) (fun t ht => ?_) ?_
      · refine XS.astore X23.here hx rfl (hb hby at_38) rfl rfl (l' := #[.val (.int p0), .val (.int p1), .val (.int p2), .val (.int p3), .val (.int p4), .val (.ref b3), .val (.ref b14), .unset]) rfl ?_
        show Steps p.tables e below (T23.setTop (mkF m 40 #[.val (.int p0), .val (.int p1), .val (.int p2), .val (.int p3), .val (.int p4), .val (.ref b3), .val (.ref b14), .unset] [])) _
        refine XS.aload X23.here hx rfl (hb hby at_40) rfl rfl ?_
        show Steps p.tables e below (T23.setTop (mkF m 42 _ [(.ref b3)])) _
        refine XS.aload X23.here hx rfl (hb hby at_42) rfl rfl ?_
        exact ht
      obtain ⟨cq33, kq33, q33a, q33b, q33c⟩ := isOf hZ (rfl : T23.heap = T23.heap) f27
      obtain ⟨_, _, ⟨T32, L32, k32, n32⟩, -, X32, ⟨Lc32, hQ32, l32, y32, z32⟩, st32⟩ := X23.virtualBack hx (y := (⟨"com/example/holdfast/holdfast/bosh/Version", "compareTo", "(Lcom/example/holdfast/holdfast/bosh/Version;)I"⟩ : MethodName)) (z := (⟨"com/example/holdfast/holdfast/bosh/Version", "compareTo", "(Lcom/example/holdfast/holdfast/bosh/Version;)I"⟩ : MethodName)) hown (mvT hZ (hw _ (List.mem_of_getElem? (i := 18) rfl))) (mvT hZ (hw _ (List.mem_of_getElem? (i := 19) rfl))) (notFace_of_selects (args := #[]) (mvT hZ (hw _ (List.mem_of_getElem? (i := 21) rfl)))) (mvT hZ (hw _ (List.mem_of_getElem? (i := 21) rfl))) (mvT hZ (hw _ (List.mem_of_getElem? (i := 20) rfl))) (by decide) (backOf (W := 0) (rmCt l Z _ hw [] b3 b14 p0 p1 p2 p3 T23.heap n0 Z31 f28 f29 f24 f25) hZ (hw _ (List.mem_of_getElem? (i := 22) rfl)) (hw _ (List.mem_of_getElem? (i := 2) rfl)) (by decide) (by decide)) q33a q33c (g := (mkF m 44 #[.val (.int p0), .val (.int p1), .val (.int p2), .val (.int p3), .val (.int p4), .val (.ref b3), .val (.ref b14), .unset] [(.ref b14), (.ref b3)])) rfl (by rw [hml]; rfl) (Steps.refl _) (argsL := [(.ref b14)]) (rest := []) (lenOf pd_3 rfl) rfl (by show 2 * 0 + _ ≤ _; exact Nat.le_of_eq rfl) (hb hby at_44) (fun _ _ => ⟨rfl, (rfl : T23.heap = T23.heap), (by decide : 2 + 0 ≤ _), (by decide : 4 + 0 ≤ _)⟩)
      dsimp only [Pt.U, Pt.locs, Pt.cells, Pt.slots] at X32 l32 y32 z32 st32 hQ32
      subst l32 y32 z32
      obtain ⟨rfl, Nq32, hs32⟩ := hQ32
      have N34 := Fr.app N26 Nq32
      refine OFin.to (S' := T32.setTop (mkF m 47 #[.val (.int p0), .val (.int p1), .val (.int p2), .val (.int p3), .val (.int p4), .val (.ref b3), .val (.ref b14), .unset] [(.int (own_ct p0 p1 p2 p3))])) st32 ?_
      refine OFin.of (S' := T32.setTop (mkF m 51 #[.val (.int p0), .val (.int p1), .val (.int p2), .val (.int p3), .val (.int p4), .val (.ref b3), .val (.ref b14), .val (.int (own_ct p0 p1 p2 p3))] [(.int (own_ct p0 p1 p2 p3))])) (fun t ht => ?_) ?_
      · refine XS.istore X32.here hx rfl (hb hby at_47) rfl (l' := #[.val (.int p0), .val (.int p1), .val (.int p2), .val (.int p3), .val (.int p4), .val (.ref b3), .val (.ref b14), .val (.int (own_ct p0 p1 p2 p3))]) rfl ?_
        show Steps p.tables e below (T32.setTop (mkF m 49 #[.val (.int p0), .val (.int p1), .val (.int p2), .val (.int p3), .val (.int p4), .val (.ref b3), .val (.ref b14), .val (.int (own_ct p0 p1 p2 p3))] [])) _
        refine XS.iload X32.here hx rfl (hb hby at_49) rfl ?_
        exact ht
      obtain ⟨_, _, ⟨T35, L35, k35, n35⟩, -, X35, ⟨Lc35, hQ35, l35, y35, z35⟩, st35⟩ := Jvm.LawKit.callS X32 hx (y := (⟨"com/example/holdfast/holdfast/bosh/VersionCompareToPinLaw", "sign", "(I)I"⟩ : MethodName)) hown (mvT hZ (hw _ (List.mem_of_getElem? (i := 27) rfl))) (mvT hZ (hw _ (List.mem_of_getElem? (i := 28) rfl))) (mvT hZ (hw _ (List.mem_of_getElem? (i := 29) rfl))) (mvT hZ (hw _ (List.mem_of_getElem? (i := 30) rfl))) (by decide) (backOf (W := 0) (rmSg l Z _ hw [] (own_ct p0 p1 p2 p3) T23.heap n0 Z31 ) hZ (hw _ (List.mem_of_getElem? (i := 30) rfl)) (hw _ (List.mem_of_getElem? (i := 29) rfl)) (by decide) (by decide)) (g := (mkF m 51 #[.val (.int p0), .val (.int p1), .val (.int p2), .val (.int p3), .val (.int p4), .val (.ref b3), .val (.ref b14), .val (.int (own_ct p0 p1 p2 p3))] [(.int (own_ct p0 p1 p2 p3))])) rfl (by rw [hml]; rfl) (argsL := [(.int (own_ct p0 p1 p2 p3))]) (rest := []) (lenOf pd_4 rfl) rfl (by show 2 * 0 + _ ≤ _; exact Nat.le_of_eq rfl) (hb hby at_51) (fun _ _ => ⟨rfl, hs32, (by decide : 2 + 0 ≤ _), (by decide : 4 + 0 ≤ _)⟩)
      dsimp only [Pt.U, Pt.locs, Pt.cells, Pt.slots] at X35 l35 y35 z35 st35 hQ35
      subst l35 y35 z35
      obtain ⟨rfl, Nq35, hs35⟩ := hQ35
      have N36 := Fr.app N34 Nq35
      refine OFin.of (S' := T35.setTop (mkF m 54 #[.val (.int p0), .val (.int p1), .val (.int p2), .val (.int p3), .val (.int p4), .val (.ref b3), .val (.ref b14), .val (.int (own_ct p0 p1 p2 p3))] [(.int (own_sign (own_ct p0 p1 p2 p3)))])) (fun t ht => st35 t ht) ?_
      refine OFin.of (S' := T35.setTop (mkF m 58 #[.val (.int p0), .val (.int p1), .val (.int p2), .val (.int p3), .val (.int p4), .val (.ref b3), .val (.ref b14), .val (.int (own_ct p0 p1 p2 p3))] [(.int p3), (.int p2), (.int p1), (.int p0), (.int (own_sign (own_ct p0 p1 p2 p3)))])) (fun t ht => ?_) ?_
      · refine XS.iloadN X35.here hx rfl (hb hby at_54) rfl ?_
        show Steps p.tables e below (T35.setTop (mkF m 55 _ [(.int p0), (.int (own_sign (own_ct p0 p1 p2 p3)))])) _
        refine XS.iloadN X35.here hx rfl (hb hby at_55) rfl ?_
        show Steps p.tables e below (T35.setTop (mkF m 56 _ [(.int p1), (.int p0), (.int (own_sign (own_ct p0 p1 p2 p3)))])) _
        refine XS.iloadN X35.here hx rfl (hb hby at_56) rfl ?_
        show Steps p.tables e below (T35.setTop (mkF m 57 _ [(.int p2), (.int p1), (.int p0), (.int (own_sign (own_ct p0 p1 p2 p3)))])) _
        refine XS.iloadN X35.here hx rfl (hb hby at_57) rfl ?_
        exact ht
      obtain ⟨_, _, ⟨T37, L37, k37, n37⟩, -, X37, ⟨Lc37, hQ37, l37, y37, z37⟩, st37⟩ := Jvm.LawKit.callS X35 hx (y := (⟨"com/example/holdfast/holdfast/bosh/VersionCompareToPinLaw", "expected", "(IIII)I"⟩ : MethodName)) hown (mvT hZ (hw _ (List.mem_of_getElem? (i := 31) rfl))) (mvT hZ (hw _ (List.mem_of_getElem? (i := 32) rfl))) (mvT hZ (hw _ (List.mem_of_getElem? (i := 29) rfl))) (mvT hZ (hw _ (List.mem_of_getElem? (i := 33) rfl))) (by decide) (backOf (W := 1) (rmEx l Z _ hw [] p0 p1 p2 p3 T23.heap n0 Z31 ) hZ (hw _ (List.mem_of_getElem? (i := 33) rfl)) (hw _ (List.mem_of_getElem? (i := 29) rfl)) (by decide) (by decide)) (g := (mkF m 58 #[.val (.int p0), .val (.int p1), .val (.int p2), .val (.int p3), .val (.int p4), .val (.ref b3), .val (.ref b14), .val (.int (own_ct p0 p1 p2 p3))] [(.int p3), (.int p2), (.int p1), (.int p0), (.int (own_sign (own_ct p0 p1 p2 p3)))])) rfl (by rw [hml]; rfl) (argsL := [(.int p0), (.int p1), (.int p2), (.int p3)]) (rest := [(.int (own_sign (own_ct p0 p1 p2 p3)))]) (lenOf pd_5 rfl) rfl (by show 2 * 0 + _ ≤ _; exact Nat.le_of_eq rfl) (hb hby at_58) (fun _ _ => ⟨rfl, hs35, (by decide : 2 + 0 ≤ _), (by decide : 4 + 0 ≤ _)⟩)
      dsimp only [Pt.U, Pt.locs, Pt.cells, Pt.slots] at X37 l37 y37 z37 st37 hQ37
      subst l37 y37 z37
      obtain ⟨rfl, Nq37, hs37⟩ := hQ37
      have N38 := Fr.app N36 Nq37
      refine OFin.of (S' := T37.setTop (mkF m 61 #[.val (.int p0), .val (.int p1), .val (.int p2), .val (.int p3), .val (.int p4), .val (.ref b3), .val (.ref b14), .val (.int (own_ct p0 p1 p2 p3))] [(.int (own_exp p0 p1 p2 p3)), (.int (own_sign (own_ct p0 p1 p2 p3)))])) (fun t ht => st37 t ht) ?_
      refine OFin.of (S' := T37.setTop (mkF m 69 #[.val (.int p0), .val (.int p1), .val (.int p2), .val (.int p3), .val (.int p4), .val (.ref b3), .val (.ref b14), .val (.int (own_ct p0 p1 p2 p3))] [(.int (1 : Int32))])) (fun t ht => ?_) ?_
      · refine XS.icmpNo X37.here hx rfl (hb hby at_61) rfl (teq (own_law _ _ _ _ : (own_sign (own_ct p0 p1 p2 p3)) = (own_exp p0 p1 p2 p3))).2 ?_
        show Steps p.tables e below (T37.setTop (mkF m 64 _ [])) _
        refine XS.iconst X37.here hx rfl (hb hby at_64) ?_
        show Steps p.tables e below (T37.setTop (mkF m 65 _ [(.int (1 : Int32))])) _
        refine XS.goto X37.here hx rfl (pc0 := 65) (pc' := 69) rfl (hb hby at_65) (by decide) (by decide) ?_
        exact ht
      exact OFin.retB X37 hx hlk (t := .boolean) (by simp) hret (hb hby at_69) (by decide) (by decide) (by rw [hs37]; exact ⟨rfl, N38⟩)
    · refine OFin.of (S' := s₁.setTop (mkF m 18 #[.val (.int p0), .val (.int p1), .val (.int p2), .val (.int p1), .val (.int p4), .unset, .unset, .unset] [])) (fun t ht => ?_) ?_
      · refine XS.ifNo X0.here hx rfl (hb hby at_13) rfl ((if0 _ _).trans (feq (hc2 : ¬ ((p4 &&& (2 : Int32)) = (0 : Int32)))).1) ?_
        show Steps p.tables e below (s₁.setTop (mkF m 16 _ [])) _
        refine XS.iloadN X0.here hx rfl (hb hby at_16) rfl ?_
        show Steps p.tables e below (s₁.setTop (mkF m 17 _ [(.int p1)])) _
        refine XS.istoreN X0.here hx rfl (hb hby at_17) rfl (l' := #[.val (.int p0), .val (.int p1), .val (.int p2), .val (.int p1), .val (.int p4), .unset, .unset, .unset]) rfl ?_
        exact ht
      obtain ⟨T39, h39, X39, e39, E39, A39, D39, -, st39⟩ := newO X0 hx hZ hown (hw _ (List.mem_of_getElem? (i := 0) rfl)) (hw _ (List.mem_of_getElem? (i := 1) rfl)) (hw _ (List.mem_of_getElem? (i := 2) rfl)) e0 (g := (mkF m 18 #[.val (.int p0), .val (.int p1), .val (.int p2), .val (.int p1), .val (.int p4), .unset, .unset, .unset] [])) rfl (hb hby at_18) (by decide) (by decide)
      obtain ⟨b39, gq39⟩ : ∃ z, z = h0.size := ⟨_, rfl⟩
      rw [← gq39] at A39 D39 st39
      have g40 : n0 ≤ b39 := (Nat.le_trans Z0 (Nat.le_of_eq gq39.symm))
      have Z41 : n0 ≤ h39.size := (Nat.le_trans Z0 E39.1)
      have f42 : Fld Z h39 b39 "com/example/holdfast/holdfast/bosh/Version" "major" "I" (.int (0 : Int32)) := D39 (Or.inr (hw _ (List.mem_of_getElem? (i := 15) rfl))) (ty := .int) (by decide)
      have f43 : Fld Z h39 b39 "com/example/holdfast/holdfast/bosh/Version" "minor" "I" (.int (0 : Int32)) := D39 (Or.inr (hw _ (List.mem_of_getElem? (i := 17) rfl))) (ty := .int) (by decide)
      refine OFin.of (S' := T39.setTop (mkF m 21 #[.val (.int p0), .val (.int p1), .val (.int p2), .val (.int p1), .val (.int p4), .unset, .unset, .unset] [(.ref b39)])) (fun t ht => st39 t ht) ?_
      refine OFin.of (S' := T39.setTop (mkF m 24 #[.val (.int p0), .val (.int p1), .val (.int p2), .val (.int p1), .val (.int p4), .unset, .unset, .unset] [(.int p1), (.int p0), (.ref b39), (.ref b39)])) (fun t ht => ?_) ?_
      · refine XS.dup X39.here hx rfl (hb hby at_21) rfl rfl ?_
        show Steps p.tables e below (T39.setTop (mkF m 22 _ [(.ref b39), (.ref b39)])) _
        refine XS.iloadN X39.here hx rfl (hb hby at_22) rfl ?_
        show Steps p.tables e below (T39.setTop (mkF m 23 _ [(.int p0), (.ref b39), (.ref b39)])) _
        refine XS.iloadN X39.here hx rfl (hb hby at_23) rfl ?_
        exact ht
      obtain ⟨_, _, ⟨T44, L44, k44, n44⟩, -, X44, ⟨Lc44, hQ44, l44, y44, z44⟩, st44⟩ := X39.specialBack hx (y := (⟨"com/example/holdfast/holdfast/bosh/Version", "<init>", "(II)V"⟩ : MethodName)) rfl hown (mvT hZ (hw _ (List.mem_of_getElem? (i := 3) rfl))) (mvT hZ (hw _ (List.mem_of_getElem? (i := 4) rfl))) (mvT hZ (hw _ (List.mem_of_getElem? (i := 5) rfl))) (by decide) (backOf (W := 1) (rmIni l Z _ hw [] b39 p0 p1 h39 n0 Z41 A39 f42 f43 g40) hZ (hw _ (List.mem_of_getElem? (i := 5) rfl)) (hw _ (List.mem_of_getElem? (i := 2) rfl)) (by decide) (by decide)) (g := (mkF m 24 #[.val (.int p0), .val (.int p1), .val (.int p2), .val (.int p1), .val (.int p4), .unset, .unset, .unset] [(.int p1), (.int p0), (.ref b39), (.ref b39)])) rfl (by rw [hml]; rfl) (Steps.refl _) (a := b39) (argsL := [(.int p0), (.int p1)]) (rest := [(.ref b39)]) (lenOf pd_2 rfl) rfl (by show 2 * 0 + _ ≤ _; exact Nat.le_of_eq rfl) (hb hby at_24) (fun _ _ => ⟨rfl, e39, (by decide : 1 + 0 ≤ _), (by decide : 2 + 0 ≤ _)⟩)
      dsimp only [Pt.U, Pt.locs, Pt.cells, Pt.slots] at X44 l44 y44 z44 st44 hQ44
      subst l44 y44 z44
      obtain ⟨rfl, Nq44, Kq44, f45, f46⟩ := hQ44
      have N47 := Fr.app N0 Nq44
      have f48 := (A39.keep Kq44)
      have Z49 : n0 ≤ T44.heap.size := (Nat.le_trans Z41 Kq44.1)
      refine OFin.to (S' := T44.setTop (mkF m 27 #[.val (.int p0), .val (.int p1), .val (.int p2), .val (.int p1), .val (.int p4), .unset, .unset, .unset] [(.ref b39)])) st44 ?_
      refine OFin.of (S' := T44.setTop (mkF m 29 #[.val (.int p0), .val (.int p1), .val (.int p2), .val (.int p1), .val (.int p4), .val (.ref b39), .unset, .unset] [])) (fun t ht => ?_) ?_
      · refine XS.astore X44.here hx rfl (hb hby at_27) rfl rfl (l' := #[.val (.int p0), .val (.int p1), .val (.int p2), .val (.int p1), .val (.int p4), .val (.ref b39), .unset, .unset]) rfl ?_
        exact ht
      obtain ⟨T50, h50, X50, e50, E50, A50, D50, -, st50⟩ := newO X44 hx hZ hown (hw _ (List.mem_of_getElem? (i := 0) rfl)) (hw _ (List.mem_of_getElem? (i := 1) rfl)) (hw _ (List.mem_of_getElem? (i := 2) rfl)) (rfl : T44.heap = T44.heap) (g := (mkF m 29 #[.val (.int p0), .val (.int p1), .val (.int p2), .val (.int p1), .val (.int p4), .val (.ref b39), .unset, .unset] [])) rfl (hb hby at_29) (by decide) (by decide)
      obtain ⟨b50, gq50⟩ : ∃ z, z = T44.heap.size := ⟨_, rfl⟩
      rw [← gq50] at A50 D50 st50
      have g51 : n0 ≤ b50 := (Nat.le_trans Z49 (Nat.le_of_eq gq50.symm))
      have ne52 : b39 ≠ b50 := (Nat.ne_of_lt (Nat.lt_of_lt_of_le f48.lt (Nat.le_of_eq gq50.symm)))
      have f53 := f48.ext E50
      have f54 := f45.ext E50
      have f55 := f46.ext E50
      have Z56 : n0 ≤ h50.size := (Nat.le_trans Z49 E50.1)
      have f57 : Fld Z h50 b50 "com/example/holdfast/holdfast/bosh/Version" "major" "I" (.int (0 : Int32)) := D50 (Or.inr (hw _ (List.mem_of_getElem? (i := 15) rfl))) (ty := .int) (by decide)
      have f58 : Fld Z h50 b50 "com/example/holdfast/holdfast/bosh/Version" "minor" "I" (.int (0 : Int32)) := D50 (Or.inr (hw _ (List.mem_of_getElem? (i := 17) rfl))) (ty := .int) (by decide)
      refine OFin.of (S' := T50.setTop (mkF m 32 #[.val (.int p0), .val (.int p1), .val (.int p2), .val (.int p1), .val (.int p4), .val (.ref b39), .unset, .unset] [(.ref b50)])) (fun t ht => st50 t ht) ?_
      refine OFin.of (S' := T50.setTop (mkF m 35 #[.val (.int p0), .val (.int p1), .val (.int p2), .val (.int p1), .val (.int p4), .val (.ref b39), .unset, .unset] [(.int p1), (.int p2), (.ref b50), (.ref b50)])) (fun t ht => ?_) ?_
      · refine XS.dup X50.here hx rfl (hb hby at_32) rfl rfl ?_
        show Steps p.tables e below (T50.setTop (mkF m 33 _ [(.ref b50), (.ref b50)])) _
        refine XS.iloadN X50.here hx rfl (hb hby at_33) rfl ?_
        show Steps p.tables e below (T50.setTop (mkF m 34 _ [(.int p2), (.ref b50), (.ref b50)])) _
        refine XS.iloadN X50.here hx rfl (hb hby at_34) rfl ?_
        exact ht
      obtain ⟨_, _, ⟨T59, L59, k59, n59⟩, -, X59, ⟨Lc59, hQ59, l59, y59, z59⟩, st59⟩ := X50.specialBack hx (y := (⟨"com/example/holdfast/holdfast/bosh/Version", "<init>", "(II)V"⟩ : MethodName)) rfl hown (mvT hZ (hw _ (List.mem_of_getElem? (i := 3) rfl))) (mvT hZ (hw _ (List.mem_of_getElem? (i := 4) rfl))) (mvT hZ (hw _ (List.mem_of_getElem? (i := 5) rfl))) (by decide) (backOf (W := 1) (rmIni l Z _ hw [] b50 p2 p1 h50 n0 Z56 A50 f57 f58 g51) hZ (hw _ (List.mem_of_getElem? (i := 5) rfl)) (hw _ (List.mem_of_getElem? (i := 2) rfl)) (by decide) (by decide)) (g := (mkF m 35 #[.val (.int p0), .val (.int p1), .val (.int p2), .val (.int p1), .val (.int p4), .val (.ref b39), .unset, .unset] [(.int p1), (.int p2), (.ref b50), (.ref b50)])) rfl (by rw [hml]; rfl) (Steps.refl _) (a := b50) (argsL := [(.int p2), (.int p1)]) (rest := [(.ref b50)]) (lenOf pd_2 rfl) rfl (by show 2 * 0 + _ ≤ _; exact Nat.le_of_eq rfl) (hb hby at_35) (fun _ _ => ⟨rfl, e50, (by decide : 2 + 0 ≤ _), (by decide : 4 + 0 ≤ _)⟩)
      dsimp only [Pt.U, Pt.locs, Pt.cells, Pt.slots] at X59 l59 y59 z59 st59 hQ59
      subst l59 y59 z59
      obtain ⟨rfl, Nq59, Kq59, f60, f61⟩ := hQ59
      have N62 := Fr.app N47 Nq59
      have f63 := (f53.keep Kq59)
      have f64 := (f54.keep Kq59 (ninS ne52 nin0))
      have f65 := (f55.keep Kq59 (ninS ne52 nin0))
      have f66 := (A50.keep Kq59)
      have Z67 : n0 ≤ T59.heap.size := (Nat.le_trans Z56 Kq59.1)
      refine OFin.to (S' := T59.setTop (mkF m 38 #[.val (.int p0), .val (.int p1), .val (.int p2), .val (.int p1), .val (.int p4), .val (.ref b39), .unset, .unset] [(.ref b50)])) st59 ?_
      refine OFin.of (S' := T59.setTop (mkF m 44 #[.val (.int p0), .val (.int p1), .val (.int p2), .val (.int p1), .val (.int p4), .val (.ref b39), .val (.ref b50), .unset] [(.ref b50), (.ref b39)])) (fun t ht => ?_) ?_
      · refine XS.astore X59.here hx rfl (hb hby at_38) rfl rfl (l' := #[.val (.int p0), .val (.int p1), .val (.int p2), .val (.int p1), .val (.int p4), .val (.ref b39), .val (.ref b50), .unset]) rfl ?_
        show Steps p.tables e below (T59.setTop (mkF m 40 #[.val (.int p0), .val (.int p1), .val (.int p2), .val (.int p1), .val (.int p4), .val (.ref b39), .val (.ref b50), .unset] [])) _
        refine XS.aload X59.here hx rfl (hb hby at_40) rfl rfl ?_
        show Steps p.tables e below (T59.setTop (mkF m 42 _ [(.ref b39)])) _
        refine XS.aload X59.here hx rfl (hb hby at_42) rfl rfl ?_
        exact ht
      obtain ⟨cq69, kq69, q69a, q69b, q69c⟩ := isOf hZ (rfl : T59.heap = T59.heap) f63
      obtain ⟨_, _, ⟨T68, L68, k68, n68⟩, -, X68, ⟨Lc68, hQ68, l68, y68, z68⟩, st68⟩ := X59.virtualBack hx (y := (⟨"com/example/holdfast/holdfast/bosh/Version", "compareTo", "(Lcom/example/holdfast/holdfast/bosh/Version;)I"⟩ : MethodName)) (z := (⟨"com/example/holdfast/holdfast/bosh/Version", "compareTo", "(Lcom/example/holdfast/holdfast/bosh/Version;)I"⟩ : MethodName)) hown (mvT hZ (hw _ (List.mem_of_getElem? (i := 18) rfl))) (mvT hZ (hw _ (List.mem_of_getElem? (i := 19) rfl))) (notFace_of_selects (args := #[]) (mvT hZ (hw _ (List.mem_of_getElem? (i := 21) rfl)))) (mvT hZ (hw _ (List.mem_of_getElem? (i := 21) rfl))) (mvT hZ (hw _ (List.mem_of_getElem? (i := 20) rfl))) (by decide) (backOf (W := 0) (rmCt l Z _ hw [] b39 b50 p0 p1 p2 p1 T59.heap n0 Z67 f64 f65 f60 f61) hZ (hw _ (List.mem_of_getElem? (i := 22) rfl)) (hw _ (List.mem_of_getElem? (i := 2) rfl)) (by decide) (by decide)) q69a q69c (g := (mkF m 44 #[.val (.int p0), .val (.int p1), .val (.int p2), .val (.int p1), .val (.int p4), .val (.ref b39), .val (.ref b50), .unset] [(.ref b50), (.ref b39)])) rfl (by rw [hml]; rfl) (Steps.refl _) (argsL := [(.ref b50)]) (rest := []) (lenOf pd_3 rfl) rfl (by show 2 * 0 + _ ≤ _; exact Nat.le_of_eq rfl) (hb hby at_44) (fun _ _ => ⟨rfl, (rfl : T59.heap = T59.heap), (by decide : 2 + 0 ≤ _), (by decide : 4 + 0 ≤ _)⟩)
      dsimp only [Pt.U, Pt.locs, Pt.cells, Pt.slots] at X68 l68 y68 z68 st68 hQ68
      subst l68 y68 z68
      obtain ⟨rfl, Nq68, hs68⟩ := hQ68
      have N70 := Fr.app N62 Nq68
      refine OFin.to (S' := T68.setTop (mkF m 47 #[.val (.int p0), .val (.int p1), .val (.int p2), .val (.int p1), .val (.int p4), .val (.ref b39), .val (.ref b50), .unset] [(.int (own_ct p0 p1 p2 p1))])) st68 ?_
      refine OFin.of (S' := T68.setTop (mkF m 51 #[.val (.int p0), .val (.int p1), .val (.int p2), .val (.int p1), .val (.int p4), .val (.ref b39), .val (.ref b50), .val (.int (own_ct p0 p1 p2 p1))] [(.int (own_ct p0 p1 p2 p1))])) (fun t ht => ?_) ?_
      · refine XS.istore X68.here hx rfl (hb hby at_47) rfl (l' := #[.val (.int p0), .val (.int p1), .val (.int p2), .val (.int p1), .val (.int p4), .val (.ref b39), .val (.ref b50), .val (.int (own_ct p0 p1 p2 p1))]) rfl ?_
        show Steps p.tables e below (T68.setTop (mkF m 49 #[.val (.int p0), .val (.int p1), .val (.int p2), .val (.int p1), .val (.int p4), .val (.ref b39), .val (.ref b50), .val (.int (own_ct p0 p1 p2 p1))] [])) _
        refine XS.iload X68.here hx rfl (hb hby at_49) rfl ?_
        exact ht
      obtain ⟨_, _, ⟨T71, L71, k71, n71⟩, -, X71, ⟨Lc71, hQ71, l71, y71, z71⟩, st71⟩ := Jvm.LawKit.callS X68 hx (y := (⟨"com/example/holdfast/holdfast/bosh/VersionCompareToPinLaw", "sign", "(I)I"⟩ : MethodName)) hown (mvT hZ (hw _ (List.mem_of_getElem? (i := 27) rfl))) (mvT hZ (hw _ (List.mem_of_getElem? (i := 28) rfl))) (mvT hZ (hw _ (List.mem_of_getElem? (i := 29) rfl))) (mvT hZ (hw _ (List.mem_of_getElem? (i := 30) rfl))) (by decide) (backOf (W := 0) (rmSg l Z _ hw [] (own_ct p0 p1 p2 p1) T59.heap n0 Z67 ) hZ (hw _ (List.mem_of_getElem? (i := 30) rfl)) (hw _ (List.mem_of_getElem? (i := 29) rfl)) (by decide) (by decide)) (g := (mkF m 51 #[.val (.int p0), .val (.int p1), .val (.int p2), .val (.int p1), .val (.int p4), .val (.ref b39), .val (.ref b50), .val (.int (own_ct p0 p1 p2 p1))] [(.int (own_ct p0 p1 p2 p1))])) rfl (by rw [hml]; rfl) (argsL := [(.int (own_ct p0 p1 p2 p1))]) (rest := []) (lenOf pd_4 rfl) rfl (by show 2 * 0 + _ ≤ _; exact Nat.le_of_eq rfl) (hb hby at_51) (fun _ _ => ⟨rfl, hs68, (by decide : 2 + 0 ≤ _), (by decide : 4 + 0 ≤ _)⟩)
      dsimp only [Pt.U, Pt.locs, Pt.cells, Pt.slots] at X71 l71 y71 z71 st71 hQ71
      subst l71 y71 z71
      obtain ⟨rfl, Nq71, hs71⟩ := hQ71
      have N72 := Fr.app N70 Nq71
      refine OFin.of (S' := T71.setTop (mkF m 54 #[.val (.int p0), .val (.int p1), .val (.int p2), .val (.int p1), .val (.int p4), .val (.ref b39), .val (.ref b50), .val (.int (own_ct p0 p1 p2 p1))] [(.int (own_sign (own_ct p0 p1 p2 p1)))])) (fun t ht => st71 t ht) ?_
      refine OFin.of (S' := T71.setTop (mkF m 58 #[.val (.int p0), .val (.int p1), .val (.int p2), .val (.int p1), .val (.int p4), .val (.ref b39), .val (.ref b50), .val (.int (own_ct p0 p1 p2 p1))] [(.int p1), (.int p2), (.int p1), (.int p0), (.int (own_sign (own_ct p0 p1 p2 p1)))])) (fun t ht => ?_) ?_
      · refine XS.iloadN X71.here hx rfl (hb hby at_54) rfl ?_
        show Steps p.tables e below (T71.setTop (mkF m 55 _ [(.int p0), (.int (own_sign (own_ct p0 p1 p2 p1)))])) _
        refine XS.iloadN X71.here hx rfl (hb hby at_55) rfl ?_
        show Steps p.tables e below (T71.setTop (mkF m 56 _ [(.int p1), (.int p0), (.int (own_sign (own_ct p0 p1 p2 p1)))])) _
        refine XS.iloadN X71.here hx rfl (hb hby at_56) rfl ?_
        show Steps p.tables e below (T71.setTop (mkF m 57 _ [(.int p2), (.int p1), (.int p0), (.int (own_sign (own_ct p0 p1 p2 p1)))])) _
        refine XS.iloadN X71.here hx rfl (hb hby at_57) rfl ?_
        exact ht
      obtain ⟨_, _, ⟨T73, L73, k73, n73⟩, -, X73, ⟨Lc73, hQ73, l73, y73, z73⟩, st73⟩ := Jvm.LawKit.callS X71 hx (y := (⟨"com/example/holdfast/holdfast/bosh/VersionCompareToPinLaw", "expected", "(IIII)I"⟩ : MethodName)) hown (mvT hZ (hw _ (List.mem_of_getElem? (i := 31) rfl))) (mvT hZ (hw _ (List.mem_of_getElem? (i := 32) rfl))) (mvT hZ (hw _ (List.mem_of_getElem? (i := 29) rfl))) (mvT hZ (hw _ (List.mem_of_getElem? (i := 33) rfl))) (by decide) (backOf (W := 1) (rmEx l Z _ hw [] p0 p1 p2 p1 T59.heap n0 Z67 ) hZ (hw _ (List.mem_of_getElem? (i := 33) rfl)) (hw _ (List.mem_of_getElem? (i := 29) rfl)) (by decide) (by decide)) (g := (mkF m 58 #[.val (.int p0), .val (.int p1), .val (.int p2), .val (.int p1), .val (.int p4), .val (.ref b39), .val (.ref b50), .val (.int (own_ct p0 p1 p2 p1))] [(.int p1), (.int p2), (.int p1), (.int p0), (.int (own_sign (own_ct p0 p1 p2 p1)))])) rfl (by rw [hml]; rfl) (argsL := [(.int p0), (.int p1), (.int p2), (.int p1)]) (rest := [(.int (own_sign (own_ct p0 p1 p2 p1)))]) (lenOf pd_5 rfl) rfl (by show 2 * 0 + _ ≤ _; exact Nat.le_of_eq rfl) (hb hby at_58) (fun _ _ => ⟨rfl, hs71, (by decide : 2 + 0 ≤ _), (by decide : 4 + 0 ≤ _)⟩)
      dsimp only [Pt.U, Pt.locs, Pt.cells, Pt.slots] at X73 l73 y73 z73 st73 hQ73
      subst l73 y73 z73
      obtain ⟨rfl, Nq73, hs73⟩ := hQ73
      have N74 := Fr.app N72 Nq73
      refine OFin.of (S' := T73.setTop (mkF m 61 #[.val (.int p0), .val (.int p1), .val (.int p2), .val (.int p1), .val (.int p4), .val (.ref b39), .val (.ref b50), .val (.int (own_ct p0 p1 p2 p1))] [(.int (own_exp p0 p1 p2 p1)), (.int (own_sign (own_ct p0 p1 p2 p1)))])) (fun t ht => st73 t ht) ?_
      refine OFin.of (S' := T73.setTop (mkF m 69 #[.val (.int p0), .val (.int p1), .val (.int p2), .val (.int p1), .val (.int p4), .val (.ref b39), .val (.ref b50), .val (.int (own_ct p0 p1 p2 p1))] [(.int (1 : Int32))])) (fun t ht => ?_) ?_
      · refine XS.icmpNo X73.here hx rfl (hb hby at_61) rfl (teq (own_law _ _ _ _ : (own_sign (own_ct p0 p1 p2 p1)) = (own_exp p0 p1 p2 p1))).2 ?_
        show Steps p.tables e below (T73.setTop (mkF m 64 _ [])) _
        refine XS.iconst X73.here hx rfl (hb hby at_64) ?_
        show Steps p.tables e below (T73.setTop (mkF m 65 _ [(.int (1 : Int32))])) _
        refine XS.goto X73.here hx rfl (pc0 := 65) (pc' := 69) rfl (hb hby at_65) (by decide) (by decide) ?_
        exact ht
      exact OFin.retB X73 hx hlk (t := .boolean) (by simp) hret (hb hby at_69) (by decide) (by decide) (by rw [hs73]; exact ⟨rfl, N74⟩)
  · refine OFin.of (S' := s₁.setTop (mkF m 13 #[.val (.int p0), .val (.int p1), .val (.int p0), .val (.int p3), .val (.int p4), .unset, .unset, .unset] [(.int (p4 &&& (2 : Int32)))])) (fun t ht => ?_) ?_
    · refine XS.ifNo X0.here hx rfl (hb hby at_4) rfl ((if0 _ _).trans (feq (hc1 : ¬ ((p4 &&& (1 : Int32)) = (0 : Int32)))).1) ?_
      show Steps p.tables e below (s₁.setTop (mkF m 7 _ [])) _
      refine XS.iloadN X0.here hx rfl (hb hby at_7) rfl ?_
      show Steps p.tables e below (s₁.setTop (mkF m 8 _ [(.int p0)])) _
      refine XS.istoreN X0.here hx rfl (hb hby at_8) rfl (l' := #[.val (.int p0), .val (.int p1), .val (.int p0), .val (.int p3), .val (.int p4), .unset, .unset, .unset]) rfl ?_
      show Steps p.tables e below (s₁.setTop (mkF m 9 #[.val (.int p0), .val (.int p1), .val (.int p0), .val (.int p3), .val (.int p4), .unset, .unset, .unset] [])) _
      refine XS.iload X0.here hx rfl (hb hby at_9) rfl ?_
      show Steps p.tables e below (s₁.setTop (mkF m 11 _ [(.int p4)])) _
      refine XS.iconst X0.here hx rfl (hb hby at_11) ?_
      show Steps p.tables e below (s₁.setTop (mkF m 12 _ [(.int (2 : Int32)), (.int p4)])) _
      refine XS.iand X0.here hx rfl (hb hby at_12) rfl ?_
      exact ht
    by_cases hc75 : (p4 &&& (2 : Int32)) = (0 : Int32)
    · refine OFin.of (S' := s₁.setTop (mkF m 18 #[.val (.int p0), .val (.int p1), .val (.int p0), .val (.int p3), .val (.int p4), .unset, .unset, .unset] [])) (fun t ht => ?_) ?_
      · refine XS.ifYes X0.here hx rfl (pc0 := 13) (pc' := 18) rfl (hb hby at_13) rfl ((if0 _ _).trans (teq (hc75 : (p4 &&& (2 : Int32)) = (0 : Int32))).1) (by decide) (by decide) ?_
        exact ht
      obtain ⟨T76, h76, X76, e76, E76, A76, D76, -, st76⟩ := newO X0 hx hZ hown (hw _ (List.mem_of_getElem? (i := 0) rfl)) (hw _ (List.mem_of_getElem? (i := 1) rfl)) (hw _ (List.mem_of_getElem? (i := 2) rfl)) e0 (g := (mkF m 18 #[.val (.int p0), .val (.int p1), .val (.int p0), .val (.int p3), .val (.int p4), .unset, .unset, .unset] [])) rfl (hb hby at_18) (by decide) (by decide)
      obtain ⟨b76, gq76⟩ : ∃ z, z = h0.size := ⟨_, rfl⟩
      rw [← gq76] at A76 D76 st76
      have g77 : n0 ≤ b76 := (Nat.le_trans Z0 (Nat.le_of_eq gq76.symm))
      have Z78 : n0 ≤ h76.size := (Nat.le_trans Z0 E76.1)
      have f79 : Fld Z h76 b76 "com/example/holdfast/holdfast/bosh/Version" "major" "I" (.int (0 : Int32)) := D76 (Or.inr (hw _ (List.mem_of_getElem? (i := 15) rfl))) (ty := .int) (by decide)
      have f80 : Fld Z h76 b76 "com/example/holdfast/holdfast/bosh/Version" "minor" "I" (.int (0 : Int32)) := D76 (Or.inr (hw _ (List.mem_of_getElem? (i := 17) rfl))) (ty := .int) (by decide)
      refine OFin.of (S' := T76.setTop (mkF m 21 #[.val (.int p0), .val (.int p1), .val (.int p0), .val (.int p3), .val (.int p4), .unset, .unset, .unset] [(.ref b76)])) (fun t ht => st76 t ht) ?_
      refine OFin.of (S' := T76.setTop (mkF m 24 #[.val (.int p0), .val (.int p1), .val (.int p0), .val (.int p3), .val (.int p4), .unset, .unset, .unset] [(.int p1), (.int p0), (.ref b76), (.ref b76)])) (fun t ht => ?_) ?_
      · refine XS.dup X76.here hx rfl (hb hby at_21) rfl rfl ?_
        show Steps p.tables e below (T76.setTop (mkF m 22 _ [(.ref b76), (.ref b76)])) _
        refine XS.iloadN X76.here hx rfl (hb hby at_22) rfl ?_
        show Steps p.tables e below (T76.setTop (mkF m 23 _ [(.int p0), (.ref b76), (.ref b76)])) _
        refine XS.iloadN X76.here hx rfl (hb hby at_23) rfl ?_
        exact ht
      obtain ⟨_, _, ⟨T81, L81, k81, n81⟩, -, X81, ⟨Lc81, hQ81, l81, y81, z81⟩, st81⟩ := X76.specialBack hx (y := (⟨"com/example/holdfast/holdfast/bosh/Version", "<init>", "(II)V"⟩ : MethodName)) rfl hown (mvT hZ (hw _ (List.mem_of_getElem? (i := 3) rfl))) (mvT hZ (hw _ (List.mem_of_getElem? (i := 4) rfl))) (mvT hZ (hw _ (List.mem_of_getElem? (i := 5) rfl))) (by decide) (backOf (W := 1) (rmIni l Z _ hw [] b76 p0 p1 h76 n0 Z78 A76 f79 f80 g77) hZ (hw _ (List.mem_of_getElem? (i := 5) rfl)) (hw _ (List.mem_of_getElem? (i := 2) rfl)) (by decide) (by decide)) (g := (mkF m 24 #[.val (.int p0), .val (.int p1), .val (.int p0), .val (.int p3), .val (.int p4), .unset, .unset, .unset] [(.int p1), (.int p0), (.ref b76), (.ref b76)])) rfl (by rw [hml]; rfl) (Steps.refl _) (a := b76) (argsL := [(.int p0), (.int p1)]) (rest := [(.ref b76)]) (lenOf pd_2 rfl) rfl (by show 2 * 0 + _ ≤ _; exact Nat.le_of_eq rfl) (hb hby at_24) (fun _ _ => ⟨rfl, e76, (by decide : 1 + 0 ≤ _), (by decide : 2 + 0 ≤ _)⟩)
      dsimp only [Pt.U, Pt.locs, Pt.cells, Pt.slots] at X81 l81 y81 z81 st81 hQ81
      subst l81 y81 z81
      obtain ⟨rfl, Nq81, Kq81, f82, f83⟩ := hQ81
      have N84 := Fr.app N0 Nq81
      have f85 := (A76.keep Kq81)
      have Z86 : n0 ≤ T81.heap.size := (Nat.le_trans Z78 Kq81.1)
      refine OFin.to (S' := T81.setTop (mkF m 27 #[.val (.int p0), .val (.int p1), .val (.int p0), .val (.int p3), .val (.int p4), .unset, .unset, .unset] [(.ref b76)])) st81 ?_
      refine OFin.of (S' := T81.setTop (mkF m 29 #[.val (.int p0), .val (.int p1), .val (.int p0), .val (.int p3), .val (.int p4), .val (.ref b76), .unset, .unset] [])) (fun t ht => ?_) ?_
      · refine XS.astore X81.here hx rfl (hb hby at_27) rfl rfl (l' := #[.val (.int p0), .val (.int p1), .val (.int p0), .val (.int p3), .val (.int p4), .val (.ref b76), .unset, .unset]) rfl ?_
        exact ht
      obtain ⟨T87, h87, X87, e87, E87, A87, D87, -, st87⟩ := newO X81 hx hZ hown (hw _ (List.mem_of_getElem? (i := 0) rfl)) (hw _ (List.mem_of_getElem? (i := 1) rfl)) (hw _ (List.mem_of_getElem? (i := 2) rfl)) (rfl : T81.heap = T81.heap) (g := (mkF m 29 #[.val (.int p0), .val (.int p1), .val (.int p0), .val (.int p3), .val (.int p4), .val (.ref b76), .unset, .unset] [])) rfl (hb hby at_29) (by decide) (by decide)
      obtain ⟨b87, gq87⟩ : ∃ z, z = T81.heap.size := ⟨_, rfl⟩
      rw [← gq87] at A87 D87 st87
      have g88 : n0 ≤ b87 := (Nat.le_trans Z86 (Nat.le_of_eq gq87.symm))
      have ne89 : b76 ≠ b87 := (Nat.ne_of_lt (Nat.lt_of_lt_of_le f85.lt (Nat.le_of_eq gq87.symm)))
      have f90 := f85.ext E87
      have f91 := f82.ext E87
      have f92 := f83.ext E87
      have Z93 : n0 ≤ h87.size := (Nat.le_trans Z86 E87.1)
      have f94 : Fld Z h87 b87 "com/example/holdfast/holdfast/bosh/Version" "major" "I" (.int (0 : Int32)) := D87 (Or.inr (hw _ (List.mem_of_getElem? (i := 15) rfl))) (ty := .int) (by decide)
      have f95 : Fld Z h87 b87 "com/example/holdfast/holdfast/bosh/Version" "minor" "I" (.int (0 : Int32)) := D87 (Or.inr (hw _ (List.mem_of_getElem? (i := 17) rfl))) (ty := .int) (by decide)
      refine OFin.of (S' := T87.setTop (mkF m 32 #[.val (.int p0), .val (.int p1), .val (.int p0), .val (.int p3), .val (.int p4), .val (.ref b76), .unset, .unset] [(.ref b87)])) (fun t ht => st87 t ht) ?_
      refine OFin.of (S' := T87.setTop (mkF m 35 #[.val (.int p0), .val (.int p1), .val (.int p0), .val (.int p3), .val (.int p4), .val (.ref b76), .unset, .unset] [(.int p3), (.int p0), (.ref b87), (.ref b87)])) (fun t ht => ?_) ?_
      · refine XS.dup X87.here hx rfl (hb hby at_32) rfl rfl ?_
        show Steps p.tables e below (T87.setTop (mkF m 33 _ [(.ref b87), (.ref b87)])) _
        refine XS.iloadN X87.here hx rfl (hb hby at_33) rfl ?_
        show Steps p.tables e below (T87.setTop (mkF m 34 _ [(.int p0), (.ref b87), (.ref b87)])) _
        refine XS.iloadN X87.here hx rfl (hb hby at_34) rfl ?_
        exact ht
      obtain ⟨_, _, ⟨T96, L96, k96, n96⟩, -, X96, ⟨Lc96, hQ96, l96, y96, z96⟩, st96⟩ := X87.specialBack hx (y := (⟨"com/example/holdfast/holdfast/bosh/Version", "<init>", "(II)V"⟩ : MethodName)) rfl hown (mvT hZ (hw _ (List.mem_of_getElem? (i := 3) rfl))) (mvT hZ (hw _ (List.mem_of_getElem? (i := 4) rfl))) (mvT hZ (hw _ (List.mem_of_getElem? (i := 5) rfl))) (by decide) (backOf (W := 1) (rmIni l Z _ hw [] b87 p0 p3 h87 n0 Z93 A87 f94 f95 g88) hZ (hw _ (List.mem_of_getElem? (i := 5) rfl)) (hw _ (List.mem_of_getElem? (i := 2) rfl)) (by decide) (by decide)) (g := (mkF m 35 #[.val (.int p0), .val (.int p1), .val (.int p0), .val (.int p3), .val (.int p4), .val (.ref b76), .unset, .unset] [(.int p3), (.int p0), (.ref b87), (.ref b87)])) rfl (by rw [hml]; rfl) (Steps.refl _) (a := b87) (argsL := [(.int p0), (.int p3)]) (rest := [(.ref b87)]) (lenOf pd_2 rfl) rfl (by show 2 * 0 + _ ≤ _; exact Nat.le_of_eq rfl) (hb hby at_35) (fun _ _ => ⟨rfl, e87, (by decide : 2 + 0 ≤ _), (by decide : 4 + 0 ≤ _)⟩)
      dsimp only [Pt.U, Pt.locs, Pt.cells, Pt.slots] at X96 l96 y96 z96 st96 hQ96
      subst l96 y96 z96
      obtain ⟨rfl, Nq96, Kq96, f97, f98⟩ := hQ96
      have N99 := Fr.app N84 Nq96
      have f100 := (f90.keep Kq96)
      have f101 := (f91.keep Kq96 (ninS ne89 nin0))
      have f102 := (f92.keep Kq96 (ninS ne89 nin0))
      have f103 := (A87.keep Kq96)
      have Z104 : n0 ≤ T96.heap.size := (Nat.le_trans Z93 Kq96.1)
      refine OFin.to (S' := T96.setTop (mkF m 38 #[.val (.int p0), .val (.int p1), .val (.int p0), .val (.int p3), .val (.int p4), .val (.ref b76), .unset, .unset] [(.ref b87)])) st96 ?_
      refine OFin.of (S' := T96.setTop (mkF m 44 #[.val (.int p0), .val (.int p1), .val (.int p0), .val (.int p3), .val (.int p4), .val (.ref b76), .val (.ref b87), .unset] [(.ref b87), (.ref b76)])) (fun t ht => ?_) ?_
      · refine XS.astore X96.here hx rfl (hb hby at_38) rfl rfl (l' := #[.val (.int p0), .val (.int p1), .val (.int p0), .val (.int p3), .val (.int p4), .val (.ref b76), .val (.ref b87), .unset]) rfl ?_
        show Steps p.tables e below (T96.setTop (mkF m 40 #[.val (.int p0), .val (.int p1), .val (.int p0), .val (.int p3), .val (.int p4), .val (.ref b76), .val (.ref b87), .unset] [])) _
        refine XS.aload X96.here hx rfl (hb hby at_40) rfl rfl ?_
        show Steps p.tables e below (T96.setTop (mkF m 42 _ [(.ref b76)])) _
        refine XS.aload X96.here hx rfl (hb hby at_42) rfl rfl ?_
        exact ht
      obtain ⟨cq106, kq106, q106a, q106b, q106c⟩ := isOf hZ (rfl : T96.heap = T96.heap) f100
      obtain ⟨_, _, ⟨T105, L105, k105, n105⟩, -, X105, ⟨Lc105, hQ105, l105, y105, z105⟩, st105⟩ := X96.virtualBack hx (y := (⟨"com/example/holdfast/holdfast/bosh/Version", "compareTo", "(Lcom/example/holdfast/holdfast/bosh/Version;)I"⟩ : MethodName)) (z := (⟨"com/example/holdfast/holdfast/bosh/Version", "compareTo", "(Lcom/example/holdfast/holdfast/bosh/Version;)I"⟩ : MethodName)) hown (mvT hZ (hw _ (List.mem_of_getElem? (i := 18) rfl))) (mvT hZ (hw _ (List.mem_of_getElem? (i := 19) rfl))) (notFace_of_selects (args := #[]) (mvT hZ (hw _ (List.mem_of_getElem? (i := 21) rfl)))) (mvT hZ (hw _ (List.mem_of_getElem? (i := 21) rfl))) (mvT hZ (hw _ (List.mem_of_getElem? (i := 20) rfl))) (by decide) (backOf (W := 0) (rmCt l Z _ hw [] b76 b87 p0 p1 p0 p3 T96.heap n0 Z104 f101 f102 f97 f98) hZ (hw _ (List.mem_of_getElem? (i := 22) rfl)) (hw _ (List.mem_of_getElem? (i := 2) rfl)) (by decide) (by decide)) q106a q106c (g := (mkF m 44 #[.val (.int p0), .val (.int p1), .val (.int p0), .val (.int p3), .val (.int p4), .val (.ref b76), .val (.ref b87), .unset] [(.ref b87), (.ref b76)])) rfl (by rw [hml]; rfl) (Steps.refl _) (argsL := [(.ref b87)]) (rest := []) (lenOf pd_3 rfl) rfl (by show 2 * 0 + _ ≤ _; exact Nat.le_of_eq rfl) (hb hby at_44) (fun _ _ => ⟨rfl, (rfl : T96.heap = T96.heap), (by decide : 2 + 0 ≤ _), (by decide : 4 + 0 ≤ _)⟩)
      dsimp only [Pt.U, Pt.locs, Pt.cells, Pt.slots] at X105 l105 y105 z105 st105 hQ105
      subst l105 y105 z105
      obtain ⟨rfl, Nq105, hs105⟩ := hQ105
      have N107 := Fr.app N99 Nq105
      refine OFin.to (S' := T105.setTop (mkF m 47 #[.val (.int p0), .val (.int p1), .val (.int p0), .val (.int p3), .val (.int p4), .val (.ref b76), .val (.ref b87), .unset] [(.int (own_ct p0 p1 p0 p3))])) st105 ?_
      refine OFin.of (S' := T105.setTop (mkF m 51 #[.val (.int p0), .val (.int p1), .val (.int p0), .val (.int p3), .val (.int p4), .val (.ref b76), .val (.ref b87), .val (.int (own_ct p0 p1 p0 p3))] [(.int (own_ct p0 p1 p0 p3))])) (fun t ht => ?_) ?_
      · refine XS.istore X105.here hx rfl (hb hby at_47) rfl (l' := #[.val (.int p0), .val (.int p1), .val (.int p0), .val (.int p3), .val (.int p4), .val (.ref b76), .val (.ref b87), .val (.int (own_ct p0 p1 p0 p3))]) rfl ?_
        show Steps p.tables e below (T105.setTop (mkF m 49 #[.val (.int p0), .val (.int p1), .val (.int p0), .val (.int p3), .val (.int p4), .val (.ref b76), .val (.ref b87), .val (.int (own_ct p0 p1 p0 p3))] [])) _
        refine XS.iload X105.here hx rfl (hb hby at_49) rfl ?_
        exact ht
      obtain ⟨_, _, ⟨T108, L108, k108, n108⟩, -, X108, ⟨Lc108, hQ108, l108, y108, z108⟩, st108⟩ := Jvm.LawKit.callS X105 hx (y := (⟨"com/example/holdfast/holdfast/bosh/VersionCompareToPinLaw", "sign", "(I)I"⟩ : MethodName)) hown (mvT hZ (hw _ (List.mem_of_getElem? (i := 27) rfl))) (mvT hZ (hw _ (List.mem_of_getElem? (i := 28) rfl))) (mvT hZ (hw _ (List.mem_of_getElem? (i := 29) rfl))) (mvT hZ (hw _ (List.mem_of_getElem? (i := 30) rfl))) (by decide) (backOf (W := 0) (rmSg l Z _ hw [] (own_ct p0 p1 p0 p3) T96.heap n0 Z104 ) hZ (hw _ (List.mem_of_getElem? (i := 30) rfl)) (hw _ (List.mem_of_getElem? (i := 29) rfl)) (by decide) (by decide)) (g := (mkF m 51 #[.val (.int p0), .val (.int p1), .val (.int p0), .val (.int p3), .val (.int p4), .val (.ref b76), .val (.ref b87), .val (.int (own_ct p0 p1 p0 p3))] [(.int (own_ct p0 p1 p0 p3))])) rfl (by rw [hml]; rfl) (argsL := [(.int (own_ct p0 p1 p0 p3))]) (rest := []) (lenOf pd_4 rfl) rfl (by show 2 * 0 + _ ≤ _; exact Nat.le_of_eq rfl) (hb hby at_51) (fun _ _ => ⟨rfl, hs105, (by decide : 2 + 0 ≤ _), (by decide : 4 + 0 ≤ _)⟩)
      dsimp only [Pt.U, Pt.locs, Pt.cells, Pt.slots] at X108 l108 y108 z108 st108 hQ108
      subst l108 y108 z108
      obtain ⟨rfl, Nq108, hs108⟩ := hQ108
      have N109 := Fr.app N107 Nq108
      refine OFin.of (S' := T108.setTop (mkF m 54 #[.val (.int p0), .val (.int p1), .val (.int p0), .val (.int p3), .val (.int p4), .val (.ref b76), .val (.ref b87), .val (.int (own_ct p0 p1 p0 p3))] [(.int (own_sign (own_ct p0 p1 p0 p3)))])) (fun t ht => st108 t ht) ?_
      refine OFin.of (S' := T108.setTop (mkF m 58 #[.val (.int p0), .val (.int p1), .val (.int p0), .val (.int p3), .val (.int p4), .val (.ref b76), .val (.ref b87), .val (.int (own_ct p0 p1 p0 p3))] [(.int p3), (.int p0), (.int p1), (.int p0), (.int (own_sign (own_ct p0 p1 p0 p3)))])) (fun t ht => ?_) ?_
      · refine XS.iloadN X108.here hx rfl (hb hby at_54) rfl ?_
        show Steps p.tables e below (T108.setTop (mkF m 55 _ [(.int p0), (.int (own_sign (own_ct p0 p1 p0 p3)))])) _
        refine XS.iloadN X108.here hx rfl (hb hby at_55) rfl ?_
        show Steps p.tables e below (T108.setTop (mkF m 56 _ [(.int p1), (.int p0), (.int (own_sign (own_ct p0 p1 p0 p3)))])) _
        refine XS.iloadN X108.here hx rfl (hb hby at_56) rfl ?_
        show Steps p.tables e below (T108.setTop (mkF m 57 _ [(.int p0), (.int p1), (.int p0), (.int (own_sign (own_ct p0 p1 p0 p3)))])) _
        refine XS.iloadN X108.here hx rfl (hb hby at_57) rfl ?_
        exact ht
      obtain ⟨_, _, ⟨T110, L110, k110, n110⟩, -, X110, ⟨Lc110, hQ110, l110, y110, z110⟩, st110⟩ := Jvm.LawKit.callS X108 hx (y := (⟨"com/example/holdfast/holdfast/bosh/VersionCompareToPinLaw", "expected", "(IIII)I"⟩ : MethodName)) hown (mvT hZ (hw _ (List.mem_of_getElem? (i := 31) rfl))) (mvT hZ (hw _ (List.mem_of_getElem? (i := 32) rfl))) (mvT hZ (hw _ (List.mem_of_getElem? (i := 29) rfl))) (mvT hZ (hw _ (List.mem_of_getElem? (i := 33) rfl))) (by decide) (backOf (W := 1) (rmEx l Z _ hw [] p0 p1 p0 p3 T96.heap n0 Z104 ) hZ (hw _ (List.mem_of_getElem? (i := 33) rfl)) (hw _ (List.mem_of_getElem? (i := 29) rfl)) (by decide) (by decide)) (g := (mkF m 58 #[.val (.int p0), .val (.int p1), .val (.int p0), .val (.int p3), .val (.int p4), .val (.ref b76), .val (.ref b87), .val (.int (own_ct p0 p1 p0 p3))] [(.int p3), (.int p0), (.int p1), (.int p0), (.int (own_sign (own_ct p0 p1 p0 p3)))])) rfl (by rw [hml]; rfl) (argsL := [(.int p0), (.int p1), (.int p0), (.int p3)]) (rest := [(.int (own_sign (own_ct p0 p1 p0 p3)))]) (lenOf pd_5 rfl) rfl (by show 2 * 0 + _ ≤ _; exact Nat.le_of_eq rfl) (hb hby at_58) (fun _ _ => ⟨rfl, hs108, (by decide : 2 + 0 ≤ _), (by decide : 4 + 0 ≤ _)⟩)
      dsimp only [Pt.U, Pt.locs, Pt.cells, Pt.slots] at X110 l110 y110 z110 st110 hQ110
      subst l110 y110 z110
      obtain ⟨rfl, Nq110, hs110⟩ := hQ110
      have N111 := Fr.app N109 Nq110
      refine OFin.of (S' := T110.setTop (mkF m 61 #[.val (.int p0), .val (.int p1), .val (.int p0), .val (.int p3), .val (.int p4), .val (.ref b76), .val (.ref b87), .val (.int (own_ct p0 p1 p0 p3))] [(.int (own_exp p0 p1 p0 p3)), (.int (own_sign (own_ct p0 p1 p0 p3)))])) (fun t ht => st110 t ht) ?_
      refine OFin.of (S' := T110.setTop (mkF m 69 #[.val (.int p0), .val (.int p1), .val (.int p0), .val (.int p3), .val (.int p4), .val (.ref b76), .val (.ref b87), .val (.int (own_ct p0 p1 p0 p3))] [(.int (1 : Int32))])) (fun t ht => ?_) ?_
      · refine XS.icmpNo X110.here hx rfl (hb hby at_61) rfl (teq (own_law _ _ _ _ : (own_sign (own_ct p0 p1 p0 p3)) = (own_exp p0 p1 p0 p3))).2 ?_
        show Steps p.tables e below (T110.setTop (mkF m 64 _ [])) _
        refine XS.iconst X110.here hx rfl (hb hby at_64) ?_
        show Steps p.tables e below (T110.setTop (mkF m 65 _ [(.int (1 : Int32))])) _
        refine XS.goto X110.here hx rfl (pc0 := 65) (pc' := 69) rfl (hb hby at_65) (by decide) (by decide) ?_
        exact ht
      exact OFin.retB X110 hx hlk (t := .boolean) (by simp) hret (hb hby at_69) (by decide) (by decide) (by rw [hs110]; exact ⟨rfl, N111⟩)
    · refine OFin.of (S' := s₁.setTop (mkF m 18 #[.val (.int p0), .val (.int p1), .val (.int p0), .val (.int p1), .val (.int p4), .unset, .unset, .unset] [])) (fun t ht => ?_) ?_
      · refine XS.ifNo X0.here hx rfl (hb hby at_13) rfl ((if0 _ _).trans (feq (hc75 : ¬ ((p4 &&& (2 : Int32)) = (0 : Int32)))).1) ?_
        show Steps p.tables e below (s₁.setTop (mkF m 16 _ [])) _
        refine XS.iloadN X0.here hx rfl (hb hby at_16) rfl ?_
        show Steps p.tables e below (s₁.setTop (mkF m 17 _ [(.int p1)])) _
        refine XS.istoreN X0.here hx rfl (hb hby at_17) rfl (l' := #[.val (.int p0), .val (.int p1), .val (.int p0), .val (.int p1), .val (.int p4), .unset, .unset, .unset]) rfl ?_
        exact ht
      obtain ⟨T112, h112, X112, e112, E112, A112, D112, -, st112⟩ := newO X0 hx hZ hown (hw _ (List.mem_of_getElem? (i := 0) rfl)) (hw _ (List.mem_of_getElem? (i := 1) rfl)) (hw _ (List.mem_of_getElem? (i := 2) rfl)) e0 (g := (mkF m 18 #[.val (.int p0), .val (.int p1), .val (.int p0), .val (.int p1), .val (.int p4), .unset, .unset, .unset] [])) rfl (hb hby at_18) (by decide) (by decide)
      obtain ⟨b112, gq112⟩ : ∃ z, z = h0.size := ⟨_, rfl⟩
      rw [← gq112] at A112 D112 st112
      have g113 : n0 ≤ b112 := (Nat.le_trans Z0 (Nat.le_of_eq gq112.symm))
      have Z114 : n0 ≤ h112.size := (Nat.le_trans Z0 E112.1)
      have f115 : Fld Z h112 b112 "com/example/holdfast/holdfast/bosh/Version" "major" "I" (.int (0 : Int32)) := D112 (Or.inr (hw _ (List.mem_of_getElem? (i := 15) rfl))) (ty := .int) (by decide)
      have f116 : Fld Z h112 b112 "com/example/holdfast/holdfast/bosh/Version" "minor" "I" (.int (0 : Int32)) := D112 (Or.inr (hw _ (List.mem_of_getElem? (i := 17) rfl))) (ty := .int) (by decide)
      refine OFin.of (S' := T112.setTop (mkF m 21 #[.val (.int p0), .val (.int p1), .val (.int p0), .val (.int p1), .val (.int p4), .unset, .unset, .unset] [(.ref b112)])) (fun t ht => st112 t ht) ?_
      refine OFin.of (S' := T112.setTop (mkF m 24 #[.val (.int p0), .val (.int p1), .val (.int p0), .val (.int p1), .val (.int p4), .unset, .unset, .unset] [(.int p1), (.int p0), (.ref b112), (.ref b112)])) (fun t ht => ?_) ?_
      · refine XS.dup X112.here hx rfl (hb hby at_21) rfl rfl ?_
        show Steps p.tables e below (T112.setTop (mkF m 22 _ [(.ref b112), (.ref b112)])) _
        refine XS.iloadN X112.here hx rfl (hb hby at_22) rfl ?_
        show Steps p.tables e below (T112.setTop (mkF m 23 _ [(.int p0), (.ref b112), (.ref b112)])) _
        refine XS.iloadN X112.here hx rfl (hb hby at_23) rfl ?_
        exact ht
      obtain ⟨_, _, ⟨T117, L117, k117, n117⟩, -, X117, ⟨Lc117, hQ117, l117, y117, z117⟩, st117⟩ := X112.specialBack hx (y := (⟨"com/example/holdfast/holdfast/bosh/Version", "<init>", "(II)V"⟩ : MethodName)) rfl hown (mvT hZ (hw _ (List.mem_of_getElem? (i := 3) rfl))) (mvT hZ (hw _ (List.mem_of_getElem? (i := 4) rfl))) (mvT hZ (hw _ (List.mem_of_getElem? (i := 5) rfl))) (by decide) (backOf (W := 1) (rmIni l Z _ hw [] b112 p0 p1 h112 n0 Z114 A112 f115 f116 g113) hZ (hw _ (List.mem_of_getElem? (i := 5) rfl)) (hw _ (List.mem_of_getElem? (i := 2) rfl)) (by decide) (by decide)) (g := (mkF m 24 #[.val (.int p0), .val (.int p1), .val (.int p0), .val (.int p1), .val (.int p4), .unset, .unset, .unset] [(.int p1), (.int p0), (.ref b112), (.ref b112)])) rfl (by rw [hml]; rfl) (Steps.refl _) (a := b112) (argsL := [(.int p0), (.int p1)]) (rest := [(.ref b112)]) (lenOf pd_2 rfl) rfl (by show 2 * 0 + _ ≤ _; exact Nat.le_of_eq rfl) (hb hby at_24) (fun _ _ => ⟨rfl, e112, (by decide : 1 + 0 ≤ _), (by decide : 2 + 0 ≤ _)⟩)
      dsimp only [Pt.U, Pt.locs, Pt.cells, Pt.slots] at X117 l117 y117 z117 st117 hQ117
      subst l117 y117 z117
      obtain ⟨rfl, Nq117, Kq117, f118, f119⟩ := hQ117
      have N120 := Fr.app N0 Nq117
      have f121 := (A112.keep Kq117)
      have Z122 : n0 ≤ T117.heap.size := (Nat.le_trans Z114 Kq117.1)
      refine OFin.to (S' := T117.setTop (mkF m 27 #[.val (.int p0), .val (.int p1), .val (.int p0), .val (.int p1), .val (.int p4), .unset, .unset, .unset] [(.ref b112)])) st117 ?_
      refine OFin.of (S' := T117.setTop (mkF m 29 #[.val (.int p0), .val (.int p1), .val (.int p0), .val (.int p1), .val (.int p4), .val (.ref b112), .unset, .unset] [])) (fun t ht => ?_) ?_
      · refine XS.astore X117.here hx rfl (hb hby at_27) rfl rfl (l' := #[.val (.int p0), .val (.int p1), .val (.int p0), .val (.int p1), .val (.int p4), .val (.ref b112), .unset, .unset]) rfl ?_
        exact ht
      obtain ⟨T123, h123, X123, e123, E123, A123, D123, -, st123⟩ := newO X117 hx hZ hown (hw _ (List.mem_of_getElem? (i := 0) rfl)) (hw _ (List.mem_of_getElem? (i := 1) rfl)) (hw _ (List.mem_of_getElem? (i := 2) rfl)) (rfl : T117.heap = T117.heap) (g := (mkF m 29 #[.val (.int p0), .val (.int p1), .val (.int p0), .val (.int p1), .val (.int p4), .val (.ref b112), .unset, .unset] [])) rfl (hb hby at_29) (by decide) (by decide)
      obtain ⟨b123, gq123⟩ : ∃ z, z = T117.heap.size := ⟨_, rfl⟩
      rw [← gq123] at A123 D123 st123
      have g124 : n0 ≤ b123 := (Nat.le_trans Z122 (Nat.le_of_eq gq123.symm))
      have ne125 : b112 ≠ b123 := (Nat.ne_of_lt (Nat.lt_of_lt_of_le f121.lt (Nat.le_of_eq gq123.symm)))
      have f126 := f121.ext E123
      have f127 := f118.ext E123
      have f128 := f119.ext E123
      have Z129 : n0 ≤ h123.size := (Nat.le_trans Z122 E123.1)
      have f130 : Fld Z h123 b123 "com/example/holdfast/holdfast/bosh/Version" "major" "I" (.int (0 : Int32)) := D123 (Or.inr (hw _ (List.mem_of_getElem? (i := 15) rfl))) (ty := .int) (by decide)
      have f131 : Fld Z h123 b123 "com/example/holdfast/holdfast/bosh/Version" "minor" "I" (.int (0 : Int32)) := D123 (Or.inr (hw _ (List.mem_of_getElem? (i := 17) rfl))) (ty := .int) (by decide)
      refine OFin.of (S' := T123.setTop (mkF m 32 #[.val (.int p0), .val (.int p1), .val (.int p0), .val (.int p1), .val (.int p4), .val (.ref b112), .unset, .unset] [(.ref b123)])) (fun t ht => st123 t ht) ?_
      refine OFin.of (S' := T123.setTop (mkF m 35 #[.val (.int p0), .val (.int p1), .val (.int p0), .val (.int p1), .val (.int p4), .val (.ref b112), .unset, .unset] [(.int p1), (.int p0), (.ref b123), (.ref b123)])) (fun t ht => ?_) ?_
      · refine XS.dup X123.here hx rfl (hb hby at_32) rfl rfl ?_
        show Steps p.tables e below (T123.setTop (mkF m 33 _ [(.ref b123), (.ref b123)])) _
        refine XS.iloadN X123.here hx rfl (hb hby at_33) rfl ?_
        show Steps p.tables e below (T123.setTop (mkF m 34 _ [(.int p0), (.ref b123), (.ref b123)])) _
        refine XS.iloadN X123.here hx rfl (hb hby at_34) rfl ?_
        exact ht
      obtain ⟨_, _, ⟨T132, L132, k132, n132⟩, -, X132, ⟨Lc132, hQ132, l132, y132, z132⟩, st132⟩ := X123.specialBack hx (y := (⟨"com/example/holdfast/holdfast/bosh/Version", "<init>", "(II)V"⟩ : MethodName)) rfl hown (mvT hZ (hw _ (List.mem_of_getElem? (i := 3) rfl))) (mvT hZ (hw _ (List.mem_of_getElem? (i := 4) rfl))) (mvT hZ (hw _ (List.mem_of_getElem? (i := 5) rfl))) (by decide) (backOf (W := 1) (rmIni l Z _ hw [] b123 p0 p1 h123 n0 Z129 A123 f130 f131 g124) hZ (hw _ (List.mem_of_getElem? (i := 5) rfl)) (hw _ (List.mem_of_getElem? (i := 2) rfl)) (by decide) (by decide)) (g := (mkF m 35 #[.val (.int p0), .val (.int p1), .val (.int p0), .val (.int p1), .val (.int p4), .val (.ref b112), .unset, .unset] [(.int p1), (.int p0), (.ref b123), (.ref b123)])) rfl (by rw [hml]; rfl) (Steps.refl _) (a := b123) (argsL := [(.int p0), (.int p1)]) (rest := [(.ref b123)]) (lenOf pd_2 rfl) rfl (by show 2 * 0 + _ ≤ _; exact Nat.le_of_eq rfl) (hb hby at_35) (fun _ _ => ⟨rfl, e123, (by decide : 2 + 0 ≤ _), (by decide : 4 + 0 ≤ _)⟩)
      dsimp only [Pt.U, Pt.locs, Pt.cells, Pt.slots] at X132 l132 y132 z132 st132 hQ132
      subst l132 y132 z132
      obtain ⟨rfl, Nq132, Kq132, f133, f134⟩ := hQ132
      have N135 := Fr.app N120 Nq132
      have f136 := (f126.keep Kq132)
      have f137 := (f127.keep Kq132 (ninS ne125 nin0))
      have f138 := (f128.keep Kq132 (ninS ne125 nin0))
      have f139 := (A123.keep Kq132)
      have Z140 : n0 ≤ T132.heap.size := (Nat.le_trans Z129 Kq132.1)
      refine OFin.to (S' := T132.setTop (mkF m 38 #[.val (.int p0), .val (.int p1), .val (.int p0), .val (.int p1), .val (.int p4), .val (.ref b112), .unset, .unset] [(.ref b123)])) st132 ?_
      refine OFin.of (S' := T132.setTop (mkF m 44 #[.val (.int p0), .val (.int p1), .val (.int p0), .val (.int p1), .val (.int p4), .val (.ref b112), .val (.ref b123), .unset] [(.ref b123), (.ref b112)])) (fun t ht => ?_) ?_
      · refine XS.astore X132.here hx rfl (hb hby at_38) rfl rfl (l' := #[.val (.int p0), .val (.int p1), .val (.int p0), .val (.int p1), .val (.int p4), .val (.ref b112), .val (.ref b123), .unset]) rfl ?_
        show Steps p.tables e below (T132.setTop (mkF m 40 #[.val (.int p0), .val (.int p1), .val (.int p0), .val (.int p1), .val (.int p4), .val (.ref b112), .val (.ref b123), .unset] [])) _
        refine XS.aload X132.here hx rfl (hb hby at_40) rfl rfl ?_
        show Steps p.tables e below (T132.setTop (mkF m 42 _ [(.ref b112)])) _
        refine XS.aload X132.here hx rfl (hb hby at_42) rfl rfl ?_
        exact ht
      obtain ⟨cq142, kq142, q142a, q142b, q142c⟩ := isOf hZ (rfl : T132.heap = T132.heap) f136
      obtain ⟨_, _, ⟨T141, L141, k141, n141⟩, -, X141, ⟨Lc141, hQ141, l141, y141, z141⟩, st141⟩ := X132.virtualBack hx (y := (⟨"com/example/holdfast/holdfast/bosh/Version", "compareTo", "(Lcom/example/holdfast/holdfast/bosh/Version;)I"⟩ : MethodName)) (z := (⟨"com/example/holdfast/holdfast/bosh/Version", "compareTo", "(Lcom/example/holdfast/holdfast/bosh/Version;)I"⟩ : MethodName)) hown (mvT hZ (hw _ (List.mem_of_getElem? (i := 18) rfl))) (mvT hZ (hw _ (List.mem_of_getElem? (i := 19) rfl))) (notFace_of_selects (args := #[]) (mvT hZ (hw _ (List.mem_of_getElem? (i := 21) rfl)))) (mvT hZ (hw _ (List.mem_of_getElem? (i := 21) rfl))) (mvT hZ (hw _ (List.mem_of_getElem? (i := 20) rfl))) (by decide) (backOf (W := 0) (rmCt l Z _ hw [] b112 b123 p0 p1 p0 p1 T132.heap n0 Z140 f137 f138 f133 f134) hZ (hw _ (List.mem_of_getElem? (i := 22) rfl)) (hw _ (List.mem_of_getElem? (i := 2) rfl)) (by decide) (by decide)) q142a q142c (g := (mkF m 44 #[.val (.int p0), .val (.int p1), .val (.int p0), .val (.int p1), .val (.int p4), .val (.ref b112), .val (.ref b123), .unset] [(.ref b123), (.ref b112)])) rfl (by rw [hml]; rfl) (Steps.refl _) (argsL := [(.ref b123)]) (rest := []) (lenOf pd_3 rfl) rfl (by show 2 * 0 + _ ≤ _; exact Nat.le_of_eq rfl) (hb hby at_44) (fun _ _ => ⟨rfl, (rfl : T132.heap = T132.heap), (by decide : 2 + 0 ≤ _), (by decide : 4 + 0 ≤ _)⟩)
      dsimp only [Pt.U, Pt.locs, Pt.cells, Pt.slots] at X141 l141 y141 z141 st141 hQ141
      subst l141 y141 z141
      obtain ⟨rfl, Nq141, hs141⟩ := hQ141
      have N143 := Fr.app N135 Nq141
      refine OFin.to (S' := T141.setTop (mkF m 47 #[.val (.int p0), .val (.int p1), .val (.int p0), .val (.int p1), .val (.int p4), .val (.ref b112), .val (.ref b123), .unset] [(.int (own_ct p0 p1 p0 p1))])) st141 ?_
      refine OFin.of (S' := T141.setTop (mkF m 51 #[.val (.int p0), .val (.int p1), .val (.int p0), .val (.int p1), .val (.int p4), .val (.ref b112), .val (.ref b123), .val (.int (own_ct p0 p1 p0 p1))] [(.int (own_ct p0 p1 p0 p1))])) (fun t ht => ?_) ?_
      · refine XS.istore X141.here hx rfl (hb hby at_47) rfl (l' := #[.val (.int p0), .val (.int p1), .val (.int p0), .val (.int p1), .val (.int p4), .val (.ref b112), .val (.ref b123), .val (.int (own_ct p0 p1 p0 p1))]) rfl ?_
        show Steps p.tables e below (T141.setTop (mkF m 49 #[.val (.int p0), .val (.int p1), .val (.int p0), .val (.int p1), .val (.int p4), .val (.ref b112), .val (.ref b123), .val (.int (own_ct p0 p1 p0 p1))] [])) _
        refine XS.iload X141.here hx rfl (hb hby at_49) rfl ?_
        exact ht
      obtain ⟨_, _, ⟨T144, L144, k144, n144⟩, -, X144, ⟨Lc144, hQ144, l144, y144, z144⟩, st144⟩ := Jvm.LawKit.callS X141 hx (y := (⟨"com/example/holdfast/holdfast/bosh/VersionCompareToPinLaw", "sign", "(I)I"⟩ : MethodName)) hown (mvT hZ (hw _ (List.mem_of_getElem? (i := 27) rfl))) (mvT hZ (hw _ (List.mem_of_getElem? (i := 28) rfl))) (mvT hZ (hw _ (List.mem_of_getElem? (i := 29) rfl))) (mvT hZ (hw _ (List.mem_of_getElem? (i := 30) rfl))) (by decide) (backOf (W := 0) (rmSg l Z _ hw [] (own_ct p0 p1 p0 p1) T132.heap n0 Z140 ) hZ (hw _ (List.mem_of_getElem? (i := 30) rfl)) (hw _ (List.mem_of_getElem? (i := 29) rfl)) (by decide) (by decide)) (g := (mkF m 51 #[.val (.int p0), .val (.int p1), .val (.int p0), .val (.int p1), .val (.int p4), .val (.ref b112), .val (.ref b123), .val (.int (own_ct p0 p1 p0 p1))] [(.int (own_ct p0 p1 p0 p1))])) rfl (by rw [hml]; rfl) (argsL := [(.int (own_ct p0 p1 p0 p1))]) (rest := []) (lenOf pd_4 rfl) rfl (by show 2 * 0 + _ ≤ _; exact Nat.le_of_eq rfl) (hb hby at_51) (fun _ _ => ⟨rfl, hs141, (by decide : 2 + 0 ≤ _), (by decide : 4 + 0 ≤ _)⟩)
      dsimp only [Pt.U, Pt.locs, Pt.cells, Pt.slots] at X144 l144 y144 z144 st144 hQ144
      subst l144 y144 z144
      obtain ⟨rfl, Nq144, hs144⟩ := hQ144
      have N145 := Fr.app N143 Nq144
      refine OFin.of (S' := T144.setTop (mkF m 54 #[.val (.int p0), .val (.int p1), .val (.int p0), .val (.int p1), .val (.int p4), .val (.ref b112), .val (.ref b123), .val (.int (own_ct p0 p1 p0 p1))] [(.int (own_sign (own_ct p0 p1 p0 p1)))])) (fun t ht => st144 t ht) ?_
      refine OFin.of (S' := T144.setTop (mkF m 58 #[.val (.int p0), .val (.int p1), .val (.int p0), .val (.int p1), .val (.int p4), .val (.ref b112), .val (.ref b123), .val (.int (own_ct p0 p1 p0 p1))] [(.int p1), (.int p0), (.int p1), (.int p0), (.int (own_sign (own_ct p0 p1 p0 p1)))])) (fun t ht => ?_) ?_
      · refine XS.iloadN X144.here hx rfl (hb hby at_54) rfl ?_
        show Steps p.tables e below (T144.setTop (mkF m 55 _ [(.int p0), (.int (own_sign (own_ct p0 p1 p0 p1)))])) _
        refine XS.iloadN X144.here hx rfl (hb hby at_55) rfl ?_
        show Steps p.tables e below (T144.setTop (mkF m 56 _ [(.int p1), (.int p0), (.int (own_sign (own_ct p0 p1 p0 p1)))])) _
        refine XS.iloadN X144.here hx rfl (hb hby at_56) rfl ?_
        show Steps p.tables e below (T144.setTop (mkF m 57 _ [(.int p0), (.int p1), (.int p0), (.int (own_sign (own_ct p0 p1 p0 p1)))])) _
        refine XS.iloadN X144.here hx rfl (hb hby at_57) rfl ?_
        exact ht
      obtain ⟨_, _, ⟨T146, L146, k146, n146⟩, -, X146, ⟨Lc146, hQ146, l146, y146, z146⟩, st146⟩ := Jvm.LawKit.callS X144 hx (y := (⟨"com/example/holdfast/holdfast/bosh/VersionCompareToPinLaw", "expected", "(IIII)I"⟩ : MethodName)) hown (mvT hZ (hw _ (List.mem_of_getElem? (i := 31) rfl))) (mvT hZ (hw _ (List.mem_of_getElem? (i := 32) rfl))) (mvT hZ (hw _ (List.mem_of_getElem? (i := 29) rfl))) (mvT hZ (hw _ (List.mem_of_getElem? (i := 33) rfl))) (by decide) (backOf (W := 1) (rmEx l Z _ hw [] p0 p1 p0 p1 T132.heap n0 Z140 ) hZ (hw _ (List.mem_of_getElem? (i := 33) rfl)) (hw _ (List.mem_of_getElem? (i := 29) rfl)) (by decide) (by decide)) (g := (mkF m 58 #[.val (.int p0), .val (.int p1), .val (.int p0), .val (.int p1), .val (.int p4), .val (.ref b112), .val (.ref b123), .val (.int (own_ct p0 p1 p0 p1))] [(.int p1), (.int p0), (.int p1), (.int p0), (.int (own_sign (own_ct p0 p1 p0 p1)))])) rfl (by rw [hml]; rfl) (argsL := [(.int p0), (.int p1), (.int p0), (.int p1)]) (rest := [(.int (own_sign (own_ct p0 p1 p0 p1)))]) (lenOf pd_5 rfl) rfl (by show 2 * 0 + _ ≤ _; exact Nat.le_of_eq rfl) (hb hby at_58) (fun _ _ => ⟨rfl, hs144, (by decide : 2 + 0 ≤ _), (by decide : 4 + 0 ≤ _)⟩)
      dsimp only [Pt.U, Pt.locs, Pt.cells, Pt.slots] at X146 l146 y146 z146 st146 hQ146
      subst l146 y146 z146
      obtain ⟨rfl, Nq146, hs146⟩ := hQ146
      have N147 := Fr.app N145 Nq146
      refine OFin.of (S' := T146.setTop (mkF m 61 #[.val (.int p0), .val (.int p1), .val (.int p0), .val (.int p1), .val (.int p4), .val (.ref b112), .val (.ref b123), .val (.int (own_ct p0 p1 p0 p1))] [(.int (own_exp p0 p1 p0 p1)), (.int (own_sign (own_ct p0 p1 p0 p1)))])) (fun t ht => st146 t ht) ?_
      refine OFin.of (S' := T146.setTop (mkF m 69 #[.val (.int p0), .val (.int p1), .val (.int p0), .val (.int p1), .val (.int p4), .val (.ref b112), .val (.ref b123), .val (.int (own_ct p0 p1 p0 p1))] [(.int (1 : Int32))])) (fun t ht => ?_) ?_
      · refine XS.icmpNo X146.here hx rfl (hb hby at_61) rfl (teq (own_law _ _ _ _ : (own_sign (own_ct p0 p1 p0 p1)) = (own_exp p0 p1 p0 p1))).2 ?_
        show Steps p.tables e below (T146.setTop (mkF m 64 _ [])) _
        refine XS.iconst X146.here hx rfl (hb hby at_64) ?_
        show Steps p.tables e below (T146.setTop (mkF m 65 _ [(.int (1 : Int32))])) _
        refine XS.goto X146.here hx rfl (pc0 := 65) (pc' := 69) rfl (hb hby at_65) (by decide) (by decide) ?_
        exact ht
      exact OFin.retB X146 hx hlk (t := .boolean) (by simp) hret (hb hby at_69) (by decide) (by decide) (by rw [hs146]; exact ⟨rfl, N147⟩)
set_option maxRecDepth 65536 in
set_option maxHeartbeats 40000000 in
theorem comes_1 {Post : Tables → Env → Array Value → State → Outcome → State → Prop} (hpost : ∀ tb e args s v u, (limb_1_1.after args s (.returned v) u = true ∧ limb_1_2.after args s (.returned v) u = true ∧ True) → FrameEnd s (.returned v) u (Jvm.fieldLocs frame_1_writes args s ++ Jvm.arrayLocs frame_1_arrays args s ++ Jvm.staticLocs frame_1_statics s) 16 128 → Post tb e args s (.returned v) u) :
    ArmFor flags0 classFile x code maxLocals ret World_1 tables_1 room_1 Calls_1 rest_1 Pre_1 Post := by
  intro l hfl _ _ p e ha hc hk s m args below hf hA hF happ hP
  obtain ⟨hcalls, hrest, hpre⟩ := hP
  obtain ⟨-, -, -, hnamed, -, -, -, hat⟩ := (Spec.applies_iff hf).mp happ
  obtain ⟨hg, hn⟩ := and_e (Cond.before_iff.mp (show (Jvm.Cond.and given_1 narrow_1).before args s = true from hpre))
  obtain ⟨gg0, hg0⟩ := and_e hg
  obtain ⟨gg1, hg1⟩ := and_e hg0
  obtain ⟨gg2, hg2⟩ := and_e hg1
  obtain ⟨gg3, hg3⟩ := and_e hg2
  obtain ⟨gg4, hg4⟩ := and_e hg3
  obtain ⟨w0, w1, w2, w3, w4, rfl⟩ : ∃ w0 w1 w2 w3 w4 : Value, args = #[w0, w1, w2, w3, w4] := by
    have hs : args.size = 5 := by simpa [Cond.value, given_1] using gg0
    obtain ⟨L⟩ := args
    match L, hs with
    | [w0, w1, w2, w3, w4], _ => exact ⟨w0, w1, w2, w3, w4, rfl⟩
  have hw := fun d (hd : d ∈ tables_1) => atoms_spec (ws := Jvm.Cond.code x code maxLocals ret :: tables_1) hat d (List.mem_cons_of_mem _ hd)
  have hfit : Fit s := fun {y c} hc i hi => by
    obtain ⟨ha, rfl⟩ := Array.getElem?_eq_some_iff.mp hc
    have q := List.all_eq_true.mp ((Array.all_eq_true_iff_forall_mem.mp hF) _ (Array.getElem_mem ha)) i (List.mem_range.mpr hi)
    simpa [Array.getElem?_eq_getElem hi] using q
  obtain ⟨i0, ei0⟩ := is_v gg1
  obtain rfl : w0 = (.int i0) := Option.some.inj ei0
  obtain ⟨i1, ei1⟩ := is_v gg2
  obtain rfl : w1 = (.int i1) := Option.some.inj ei1
  obtain ⟨i2, ei2⟩ := is_v gg3
  obtain rfl : w2 = (.int i2) := Option.some.inj ei2
  obtain ⟨i3, ei3⟩ := is_v gg4
  obtain rfl : w3 = (.int i3) := Option.some.inj ei3
  obtain ⟨i4, ei4⟩ := is_v hg4
  obtain rfl : w4 = (.int i4) := Option.some.inj ei4

  obtain ⟨n, o, h1, h2, h3, _, L, rfl, ⟨rfl, N⟩, hq⟩ := rm0 l s _ hw tables_1 i0 i1 i2 i3 i4  s.heap s.heap.size (Nat.le_refl _)  p e ha hc hk s m _ below hf ((Spec.applies_iff_loose hf).mp happ).1 ⟨rfl, State.Warmed39.refl s, rfl⟩ trivial
  refine ⟨n, _, h1, h2, h3, hpost _ _ _ _ _ _ ⟨Cond.after_iff.mpr rfl, Cond.after_iff.mpr (eq_i res_at (Term.int_eval (1)) rfl), trivial⟩ ⟨hq.1, hq.2.1, (hq.2.2.sift fun y hy => Or.inr (N y hy)).mono (by decide) (by decide)⟩⟩
theorem main_1_1 : Claimed_1_1 := comes_1 fun _ _ _ _ _ _ h hF => ⟨h.1, hF⟩
theorem main_1_2 : Claimed_1_2 := comes_1 fun _ _ _ _ _ _ h hF => ⟨h.2.1, hF⟩
end Jvm.Pilot.@@N@@
namespace Jvm.Pilot.@@N@@
open Jvm Jvm.ClassFile Sem Op Lib Jvm.Free Jvm.Stand Jvm.Pilot.@@N@@.Jvm.D
/-! MADE BY PROGRAM (witnessworld.py) out of the Statement's table words and the real class files: 15 classes; the members and pool entries that the words name. The judged class is class 1, her method 3. -/
namespace start1
open Jvm.ClassFile
def u (s : String) : CpInfo := .utf8 (stringToUtf16 s)
/-- a pool by its gaps: so many unusable entries, then the entry; so many at the end -/
def gap : Nat → List CpInfo → List CpInfo
  | 0, r => r
  | n + 1, r => .unusable :: gap n r
def poolList (es : List (Nat × CpInfo)) (last : Nat) : List CpInfo := es.foldr (fun e r => gap e.1 (e.2 :: r)) (gap last [])
def pool (es : List (Nat × CpInfo)) (last : Nat) : Array CpInfo := ⟨poolList es last⟩
def fileOf (pool : Array CpInfo) (this : Nat) (attrs : Array Attribute := #[]) (ms : Array MethodInfo := #[]) (fl : Nat := 33) (sup : Nat := 0) (ifs : Array Nat := #[]) (fds : Array FieldInfo := #[]) : ClassFile where
  minorVersion := 0
  majorVersion := 65
  constantPool := pool
  accessFlags := fl
  thisClass := this
  superClass := sup
  interfaces := ifs
  fields := fds
  methods := ms
  attributes := attrs
def plain (name : String) (sup : Option ClassId) : Class where
  name := name
  kind := .ordinary
  loader := none
  accessFlags := 33
  super := sup
  interfaces := #[]
  cf := none
  fields := #[]
  methods := #[]
  instanceTypes := #[]
  staticTypes := #[]
  resolved := #[]
  callSites := []
  init := .initialized
  statics := none
  mirror := none

def pool0 : Array CpInfo := pool [(5, u "<init>"), (0, u "()V"), (1, .class_ 10), (1, u "java/lang/Object")] 113

def k0c0 : Code := { maxStack := 0, maxLocals := 1, code := object_method_1_code, exceptionTable := #[], attributes := #[] }
def k0m0 : Method := { name := "<init>", desc := "()V", sig := { parameters := [], returnType := none }, accessFlags := 1, code := some k0c0 }
/-- java/lang/Object -/
def k0 : Class := { plain "java/lang/Object" none with
  accessFlags := 33
  interfaces := #[]
  cf := some (fileOf pool0 8 #[] #[{ accessFlags := 1, nameIndex := 5, descriptorIndex := 6, attributes := #[] }] 33 0 #[] #[])
  fields := #[]
  methods := #[k0m0]
  instanceTypes := #[]
  staticTypes := #[]
  resolved := Array.replicate 124 none
  statics := none }

def pool1 : Array CpInfo := pool [(2, .class_ 4), (1, u "java/lang/Object"), (0, u "<init>"), (0, u "()V"), (0, .class_ 8), (0, u "com/example/holdfast/holdfast/bosh/Version"), (0, .methodref 7 10), (0, .nameAndType 5 11), (0, u "(II)V"), (0, .methodref 7 13), (0, .nameAndType 14 15), (0, u "compareTo"), (0, u "(Lcom/example/holdfast/holdfast/bosh/Version;)I"), (0, .methodref 17 18), (0, .class_ 19), (0, .nameAndType 20 21), (0, u "com/example/holdfast/holdfast/bosh/VersionCompareToPinLaw"), (0, u "sign"), (0, u "(I)I"), (0, .methodref 17 23), (0, .nameAndType 24 25), (0, u "expected"), (0, u "(IIII)I"), (3, u "law"), (0, u "(IIIII)Z")] 2

def k1m0 : Method := { name := "<init>", desc := "()V", sig := { parameters := [], returnType := none }, accessFlags := 1, code := none }
def k1c1 : Code := { maxStack := 1, maxLocals := 1, code := method_2_code, exceptionTable := #[], attributes := #[] }
def k1m1 : Method := { name := "sign", desc := "(I)I", sig := { parameters := [.int], returnType := some .int }, accessFlags := 10, code := some k1c1 }
def k1c2 : Code := { maxStack := 2, maxLocals := 4, code := method_3_code, exceptionTable := #[], attributes := #[] }
def k1m2 : Method := { name := "expected", desc := "(IIII)I", sig := { parameters := [.int, .int, .int, .int], returnType := some .int }, accessFlags := 10, code := some k1c2 }
def k1c3 : Code := { maxStack := 5, maxLocals := 8, code := code, exceptionTable := #[], attributes := #[] }
def k1m3 : Method := { name := "law", desc := "(IIIII)Z", sig := { parameters := [.int, .int, .int, .int, .int], returnType := some .boolean }, accessFlags := 9, code := some k1c3 }
/-- com/example/holdfast/holdfast/bosh/VersionCompareToPinLaw -/
def k1 : Class := { plain "com/example/holdfast/holdfast/bosh/VersionCompareToPinLaw" (some 0) with
  accessFlags := 49
  interfaces := #[]
  cf := some (fileOf pool1 17 #[] #[{ accessFlags := 1, nameIndex := 5, descriptorIndex := 6, attributes := #[] }, { accessFlags := 10, nameIndex := 20, descriptorIndex := 21, attributes := #[] }, { accessFlags := 10, nameIndex := 24, descriptorIndex := 25, attributes := #[] }, { accessFlags := 9, nameIndex := 29, descriptorIndex := 30, attributes := #[] }] 49 2 #[] #[])
  fields := #[]
  methods := #[k1m0, k1m1, k1m2, k1m3]
  instanceTypes := #[]
  staticTypes := #[]
  resolved := Array.replicate 33 none
  statics := none }

def pool2 : Array CpInfo := pool [(1, .methodref 2 3), (0, .class_ 4), (0, .nameAndType 5 6), (0, u "java/lang/Object"), (0, u "<init>"), (0, u "()V"), (0, .class_ 8), (0, u "java/lang/Record")] 13

def k2c0 : Code := { maxStack := 1, maxLocals := 1, code := jdk_30_method_1_code, exceptionTable := #[], attributes := #[] }
def k2m0 : Method := { name := "<init>", desc := "()V", sig := { parameters := [], returnType := none }, accessFlags := 4, code := some k2c0 }
/-- java/lang/Record -/
def k2 : Class := { plain "java/lang/Record" (some 0) with
  accessFlags := 1057
  interfaces := #[]
  cf := some (fileOf pool2 7 #[] #[{ accessFlags := 4, nameIndex := 5, descriptorIndex := 6, attributes := #[] }] 1057 2 #[] #[])
  fields := #[]
  methods := #[k2m0]
  instanceTypes := #[]
  staticTypes := #[]
  resolved := Array.replicate 22 none
  statics := none }

def pool3 : Array CpInfo := pool [(1, .class_ 2), (0, u "java/lang/Comparable"), (0, .class_ 4), (0, u "java/lang/Object")] 7

/-- java/lang/Comparable -/
def k3 : Class := { plain "java/lang/Comparable" (some 0) with
  accessFlags := 1537
  interfaces := #[]
  cf := some (fileOf pool3 1 #[] #[] 1537 3 #[] #[])
  fields := #[]
  methods := #[]
  instanceTypes := #[]
  staticTypes := #[]
  resolved := Array.replicate 12 none
  statics := none }

def pool4 : Array CpInfo := pool [(1, .methodref 2 3), (0, .class_ 4), (0, .nameAndType 5 6), (0, u "java/lang/Record"), (0, u "<init>"), (0, u "()V"), (0, .fieldref 8 9), (0, .class_ 10), (0, .nameAndType 11 12), (0, u "com/example/holdfast/holdfast/bosh/Version"), (0, u "major"), (0, u "I"), (0, .fieldref 8 14), (0, .nameAndType 15 12), (0, u "minor"), (33, .class_ 51), (1, u "java/lang/Integer"), (4, u "(II)V"), (0, .methodref 49 58), (0, .nameAndType 59 60), (0, u "compare"), (0, u "(II)I"), (26, u "compareTo"), (0, u "(Lcom/example/holdfast/holdfast/bosh/Version;)I"), (9, u "SUPPORTED"), (0, u "Lcom/example/holdfast/holdfast/bosh/Version;"), (0, .class_ 101), (0, u "java/lang/Comparable")] 58

def k4c0 : Code := { maxStack := 2, maxLocals := 3, code := prog_3_method_1_code, exceptionTable := #[], attributes := #[] }
def k4m0 : Method := { name := "<init>", desc := "(II)V", sig := { parameters := [.int, .int], returnType := none }, accessFlags := 0, code := some k4c0 }
def k4c1 : Code := { maxStack := 2, maxLocals := 2, code := prog_3_method_3_code, exceptionTable := #[], attributes := #[] }
def k4m1 : Method := { name := "compareTo", desc := "(Lcom/example/holdfast/holdfast/bosh/Version;)I", sig := { parameters := [(.object "com/example/holdfast/holdfast/bosh/Version")], returnType := some .int }, accessFlags := 1, code := some k4c1 }
/-- com/example/holdfast/holdfast/bosh/Version -/
def k4 : Class := { plain "com/example/holdfast/holdfast/bosh/Version" (some 2) with
  accessFlags := 48
  interfaces := #[3]
  cf := some (fileOf pool4 8 #[] #[{ accessFlags := 0, nameIndex := 5, descriptorIndex := 56, attributes := #[] }, { accessFlags := 1, nameIndex := 87, descriptorIndex := 88, attributes := #[] }] 48 2 #[100] #[{ accessFlags := 18, nameIndex := 11, descriptorIndex := 12, attributes := #[] }, { accessFlags := 18, nameIndex := 15, descriptorIndex := 12, attributes := #[] }, { accessFlags := 24, nameIndex := 98, descriptorIndex := 99, attributes := #[] }])
  fields := #[{ name := "major", type := .int, accessFlags := 18, slot := 0, constantValue := 0 }, { name := "minor", type := .int, accessFlags := 18, slot := 1, constantValue := 0 }, { name := "SUPPORTED", type := (.object "com/example/holdfast/holdfast/bosh/Version"), accessFlags := 24, slot := 0, constantValue := 0 }]
  methods := #[k4m0, k4m1]
  instanceTypes := #[.int, .int]
  staticTypes := #[(.object "com/example/holdfast/holdfast/bosh/Version")]
  resolved := Array.replicate 160 none
  statics := none }

def pool5 : Array CpInfo := pool [(1, .class_ 2), (0, u "java/io/Serializable"), (0, .class_ 4), (0, u "java/lang/Object")] 2

/-- java/io/Serializable -/
def k5 : Class := { plain "java/io/Serializable" (some 0) with
  accessFlags := 1537
  interfaces := #[]
  cf := some (fileOf pool5 1 #[] #[] 1537 3 #[] #[])
  fields := #[]
  methods := #[]
  instanceTypes := #[]
  staticTypes := #[]
  resolved := Array.replicate 7 none
  statics := none }

def pool6 : Array CpInfo := pool [(2, .class_ 4), (1, u "java/lang/Object"), (0, u "<init>"), (0, u "()V"), (1, .class_ 10), (1, u "java/lang/Number"), (2, .class_ 14), (0, u "java/io/Serializable"), (0, u "serialVersionUID"), (0, u "J")] 20

def k6m0 : Method := { name := "<init>", desc := "()V", sig := { parameters := [], returnType := none }, accessFlags := 1, code := none }
/-- java/lang/Number -/
def k6 : Class := { plain "java/lang/Number" (some 0) with
  accessFlags := 1057
  interfaces := #[5]
  cf := some (fileOf pool6 8 #[] #[{ accessFlags := 1, nameIndex := 5, descriptorIndex := 6, attributes := #[] }] 1057 2 #[13] #[{ accessFlags := 26, nameIndex := 15, descriptorIndex := 16, attributes := #[] }])
  fields := #[{ name := "serialVersionUID", type := .long, accessFlags := 26, slot := 0, constantValue := 0 }]
  methods := #[k6m0]
  instanceTypes := #[]
  staticTypes := #[.long]
  resolved := Array.replicate 37 none
  statics := none }

def pool7 : Array CpInfo := pool [(1, .class_ 2), (0, u "java/lang/constant/Constable"), (0, .class_ 4), (0, u "java/lang/Object")] 6

/-- java/lang/constant/Constable -/
def k7 : Class := { plain "java/lang/constant/Constable" (some 0) with
  accessFlags := 1537
  interfaces := #[]
  cf := some (fileOf pool7 1 #[] #[] 1537 3 #[] #[])
  fields := #[]
  methods := #[]
  instanceTypes := #[]
  staticTypes := #[]
  resolved := Array.replicate 11 none
  statics := none }

def pool8 : Array CpInfo := pool [(1, .class_ 2), (0, u "java/lang/constant/ConstantDesc"), (0, .class_ 4), (0, u "java/lang/Object")] 32

/-- java/lang/constant/ConstantDesc -/
def k8 : Class := { plain "java/lang/constant/ConstantDesc" (some 0) with
  accessFlags := 1537
  interfaces := #[]
  cf := some (fileOf pool8 1 #[] #[] 1537 3 #[] #[])
  fields := #[]
  methods := #[]
  instanceTypes := #[]
  staticTypes := #[]
  resolved := Array.replicate 37 none
  statics := none }

def pool9 : Array CpInfo := pool [(1, .class_ 2), (0, u "java/lang/Integer"), (16, u "digits"), (0, u "[C"), (39, u "(II)I"), (24, u "DigitOnes"), (0, u "[B"), (2, u "DigitTens"), (99, .class_ 190), (0, u "java/lang/Integer$IntegerCache"), (3, u "I"), (8, .class_ 204), (0, u "java/lang/Number"), (2, u "value"), (53, u "compare"), (40, u "TYPE"), (0, u "Ljava/lang/Class;"), (0, .class_ 305), (0, u "java/lang/Comparable"), (0, .class_ 307), (0, u "java/lang/constant/Constable"), (0, .class_ 309), (0, u "java/lang/constant/ConstantDesc"), (0, u "MIN_VALUE"), (1, u "MAX_VALUE"), (3, u "SIZE"), (1, u "BYTES"), (1, u "serialVersionUID"), (0, u "J")] 131

def k9c0 : Code := { maxStack := 2, maxLocals := 2, code := jdk_33_method_40_code, exceptionTable := #[], attributes := #[] }
def k9m0 : Method := { name := "compare", desc := "(II)I", sig := { parameters := [.int, .int], returnType := some .int }, accessFlags := 9, code := some k9c0 }
/-- java/lang/Integer -/
def k9 : Class := { plain "java/lang/Integer" (some 6) with
  accessFlags := 49
  interfaces := #[3, 7, 8]
  cf := some (fileOf pool9 1 #[.nestMembers #[189]] #[{ accessFlags := 9, nameIndex := 261, descriptorIndex := 60, attributes := #[] }] 49 203 #[304, 306, 308] #[{ accessFlags := 25, nameIndex := 310, descriptorIndex := 194, attributes := #[] }, { accessFlags := 25, nameIndex := 312, descriptorIndex := 194, attributes := #[] }, { accessFlags := 25, nameIndex := 302, descriptorIndex := 303, attributes := #[] }, { accessFlags := 24, nameIndex := 19, descriptorIndex := 20, attributes := #[] }, { accessFlags := 24, nameIndex := 89, descriptorIndex := 86, attributes := #[] }, { accessFlags := 24, nameIndex := 85, descriptorIndex := 86, attributes := #[] }, { accessFlags := 18, nameIndex := 207, descriptorIndex := 194, attributes := #[] }, { accessFlags := 25, nameIndex := 316, descriptorIndex := 194, attributes := #[] }, { accessFlags := 25, nameIndex := 318, descriptorIndex := 194, attributes := #[] }, { accessFlags := 26, nameIndex := 320, descriptorIndex := 321, attributes := #[] }])
  fields := #[{ name := "MIN_VALUE", type := .int, accessFlags := 25, slot := 0, constantValue := 0 }, { name := "MAX_VALUE", type := .int, accessFlags := 25, slot := 1, constantValue := 0 }, { name := "TYPE", type := (.object "java/lang/Class"), accessFlags := 25, slot := 2, constantValue := 0 }, { name := "digits", type := (.array .char), accessFlags := 24, slot := 3, constantValue := 0 }, { name := "DigitTens", type := (.array .byte), accessFlags := 24, slot := 4, constantValue := 0 }, { name := "DigitOnes", type := (.array .byte), accessFlags := 24, slot := 5, constantValue := 0 }, { name := "value", type := .int, accessFlags := 18, slot := 0, constantValue := 0 }, { name := "SIZE", type := .int, accessFlags := 25, slot := 6, constantValue := 0 }, { name := "BYTES", type := .int, accessFlags := 25, slot := 7, constantValue := 0 }, { name := "serialVersionUID", type := .long, accessFlags := 26, slot := 8, constantValue := 0 }]
  methods := #[k9m0]
  instanceTypes := #[.int]
  staticTypes := #[.int, .int, (.object "java/lang/Class"), (.array .char), (.array .byte), (.array .byte), .int, .int, .long]
  resolved := Array.replicate 453 none
  statics := none }

def pool10 : Array CpInfo := pool [(1, u "java/lang/Cloneable"), (0, .class_ 1), (0, u "java/lang/Object"), (0, .class_ 3)] 3

/-- java/lang/Cloneable -/
def k10 : Class := { plain "java/lang/Cloneable" (some 0) with
  accessFlags := 1537
  interfaces := #[]
  cf := some (fileOf pool10 2 #[] #[] 1537 4 #[] #[])
  fields := #[]
  methods := #[]
  instanceTypes := #[]
  staticTypes := #[]
  resolved := Array.replicate 8 none
  statics := none }

/-- the primitive byte -/
def k11 : Class := { plain "byte" none with kind := .primitive 'B', accessFlags := 0x411 }
/-- [B -/
def k12 : Class := { plain "[B" (some 0) with kind := .array 11 .byte, interfaces := #[10, 5], accessFlags := 1041 }

/-- the primitive int -/
def k13 : Class := { plain "int" none with kind := .primitive 'I', accessFlags := 0x411 }
/-- [I -/
def k14 : Class := { plain "[I" (some 0) with kind := .array 13 .int, interfaces := #[10, 5], accessFlags := 1041 }

def heap : Heap := #[]
def classes : Array Class := #[k0, k1, k2, k3, k4, k5, k6, k7, k8, k9, k10, k11, k12, k13, k14]
def interned : List (Array UInt16 × Addr) := []
def slotsUsed : Nat := 0
def theMethod : MethodId := ⟨1, 3⟩
def args0 : Array Value := #[.int 5, .int 5, .int 5, .int 5, .int 5]
def aboutOver (below : List Frame) : State where
  vm := { classes := classes, interned := interned.toArray }
  heap := heap
  slotsUsed := slotsUsed
  threads := #[{ frames := .invoking theMethod args0 :: below }]
def below0 : List Frame := [.native { method := ⟨0, 0⟩, args := #[] }]
def about1 : State := aboutOver below0
def p0 : Program := .bare "" "" ""
def e0 : Env := launch0.env 0 0 0
theorem w_frames : about1.frames = Frame.invoking theMethod args0 :: below0 := rfl
set_option maxRecDepth 65536 in
theorem w_args : argsFit about1.vm theMethod args0 = true := by decide +kernel
set_option maxRecDepth 65536 in
theorem w_heap : heapFits about1 = true := by decide +kernel
set_option maxRecDepth 65536 in
theorem w_runnable : about1.curStatus? = some .runnable := by decide +kernel
set_option maxRecDepth 65536 in
theorem w_alone : about1.alone = true := by decide +kernel
set_option maxRecDepth 65536 in
theorem w_named : about1.methodNamed? x = some theMethod := by decide +kernel
set_option maxRecDepth 65536 in
theorem w_hears : about1.hears theMethod below0 = true := by decide +kernel
set_option maxRecDepth 65536 in
theorem w_ripe : about1.ripe theMethod args0 below0 = true := by decide +kernel
theorem w_running : about1.status = .running := rfl
set_option maxRecDepth 65536 in
theorem w_room : about1.hasRoom e0.platform room_1 = true :=
  launch0.hasRoom_least _ room_1 (by decide +kernel) (by decide +kernel) (by decide +kernel) (by decide +kernel) (by decide +kernel) (by decide +kernel)
theorem allAtoms_all (ts : List Jvm.Cond) (a : Array Jvm.Value) (st : Jvm.State) : (allAtoms ts).before a st = ts.all (fun c => c.before a st) := by
  induction ts with
  | nil => rfl
  | cons c t ih =>
    show (Jvm.Cond.and c (allAtoms t)).before a st = _
    rw [Jvm.Cond.before_and, ih, List.all_cons]
def words1 : List Jvm.Cond := Jvm.Cond.code x code maxLocals ret :: tables_1
/-- a 'code' word, met by the world's own term for the bytes: nothing is compared byte by byte -/
theorem code_word {y : MethodName} {bytes : ByteArray} {mx : Nat} {rt : Option FieldType} {a : Array Value} {s : State} {m : MethodId} {meth : Method} {c : Code} (h1 : s.methodNamed? y = some m) (h2 : s.vm.method? m = some meth) (h3 : meth.code = some c) (h4 : c.code = bytes)
    (h5 : (c.maxLocals == mx && c.exceptionTable.isEmpty && decide (c.maxStack ≤ mostOperands) && decide (meth.sig.returnType = rt) && !meth.locks && decide (parseMethodDescriptor y.desc = some meth.sig)) = true) : (Jvm.Cond.code y bytes mx rt).before a s = true := by
  simp only [Bool.and_eq_true, beq_iff_eq, Bool.not_eq_true', decide_eq_true_eq] at h5
  obtain ⟨⟨⟨⟨⟨g1, g2⟩, g3⟩, g4⟩, g5⟩, g6⟩ := h5
  simp [Cond.before, Cond.holds, Cond.value, h1, h2, h3, h4, g1, g2, g3, g4, g5, g6]
def isCode : Jvm.Cond → Bool
  | .code _ _ _ _ => true
  | _ => false
theorem all_split {L : List Jvm.Cond} {P : Jvm.Cond → Bool} (h1 : L.all (fun c => isCode c || P c) = true) (h2 : ∀ c ∈ L.filter isCode, P c = true) : L.all P = true := by
  refine List.all_eq_true.mpr fun c hc => ?_
  have h := List.all_eq_true.mp h1 c hc
  rcases Bool.eq_false_or_eq_true (isCode c) with hi | hi
  · exact h2 c (List.mem_filter.mpr ⟨hc, hi⟩)
  · simpa [hi] using h
set_option maxRecDepth 65536 in
theorem w_c0 : (Jvm.Cond.code x code maxLocals ret).before args0 about1 = true := code_word (m := ⟨1, 3⟩) (meth := k1m3) (c := k1c3) (by decide +kernel) rfl rfl rfl (by decide +kernel)
set_option maxRecDepth 65536 in
theorem w_c1 : (Jvm.Cond.code ({ cls := "com/example/holdfast/holdfast/bosh/Version", name := "<init>", desc := "(II)V" } : Jvm.MethodName) prog_3_method_1_code (3 : Nat) (Option.none : Option Jvm.ClassFile.FieldType)).before args0 about1 = true := code_word (m := ⟨4, 0⟩) (meth := k4m0) (c := k4c0) (by decide +kernel) rfl rfl rfl (by decide +kernel)
set_option maxRecDepth 65536 in
theorem w_c2 : (Jvm.Cond.code ({ cls := "java/lang/Record", name := "<init>", desc := "()V" } : Jvm.MethodName) jdk_30_method_1_code (1 : Nat) (Option.none : Option Jvm.ClassFile.FieldType)).before args0 about1 = true := code_word (m := ⟨2, 0⟩) (meth := k2m0) (c := k2c0) (by decide +kernel) rfl rfl rfl (by decide +kernel)
set_option maxRecDepth 65536 in
theorem w_c3 : (Jvm.Cond.code ({ cls := "java/lang/Object", name := "<init>", desc := "()V" } : Jvm.MethodName) object_method_1_code (1 : Nat) (Option.none : Option Jvm.ClassFile.FieldType)).before args0 about1 = true := code_word (m := ⟨0, 0⟩) (meth := k0m0) (c := k0c0) (by decide +kernel) rfl rfl rfl (by decide +kernel)
set_option maxRecDepth 65536 in
theorem w_c4 : (Jvm.Cond.code ({ cls := "com/example/holdfast/holdfast/bosh/Version", name := "compareTo", desc := "(Lcom/example/holdfast/holdfast/bosh/Version;)I" } : Jvm.MethodName) prog_3_method_3_code (2 : Nat) (Option.some Jvm.ClassFile.FieldType.int)).before args0 about1 = true := code_word (m := ⟨4, 1⟩) (meth := k4m1) (c := k4c1) (by decide +kernel) rfl rfl rfl (by decide +kernel)
set_option maxRecDepth 65536 in
theorem w_c5 : (Jvm.Cond.code ({ cls := "java/lang/Integer", name := "compare", desc := "(II)I" } : Jvm.MethodName) jdk_33_method_40_code (2 : Nat) (Option.some Jvm.ClassFile.FieldType.int)).before args0 about1 = true := code_word (m := ⟨9, 0⟩) (meth := k9m0) (c := k9c0) (by decide +kernel) rfl rfl rfl (by decide +kernel)
set_option maxRecDepth 65536 in
theorem w_c6 : (Jvm.Cond.code ({ cls := "com/example/holdfast/holdfast/bosh/VersionCompareToPinLaw", name := "sign", desc := "(I)I" } : Jvm.MethodName) method_2_code (1 : Nat) (Option.some Jvm.ClassFile.FieldType.int)).before args0 about1 = true := code_word (m := ⟨1, 1⟩) (meth := k1m1) (c := k1c1) (by decide +kernel) rfl rfl rfl (by decide +kernel)
set_option maxRecDepth 65536 in
theorem w_c7 : (Jvm.Cond.code ({ cls := "com/example/holdfast/holdfast/bosh/VersionCompareToPinLaw", name := "expected", desc := "(IIII)I" } : Jvm.MethodName) method_3_code (4 : Nat) (Option.some Jvm.ClassFile.FieldType.int)).before args0 about1 = true := code_word (m := ⟨1, 2⟩) (meth := k1m2) (c := k1c2) (by decide +kernel) rfl rfl rfl (by decide +kernel)
def codes1 : List Jvm.Cond := [Jvm.Cond.code x code maxLocals ret, Jvm.Cond.code ({ cls := "com/example/holdfast/holdfast/bosh/Version", name := "<init>", desc := "(II)V" } : Jvm.MethodName) prog_3_method_1_code (3 : Nat) (Option.none : Option Jvm.ClassFile.FieldType), Jvm.Cond.code ({ cls := "java/lang/Record", name := "<init>", desc := "()V" } : Jvm.MethodName) jdk_30_method_1_code (1 : Nat) (Option.none : Option Jvm.ClassFile.FieldType), Jvm.Cond.code ({ cls := "java/lang/Object", name := "<init>", desc := "()V" } : Jvm.MethodName) object_method_1_code (1 : Nat) (Option.none : Option Jvm.ClassFile.FieldType), Jvm.Cond.code ({ cls := "com/example/holdfast/holdfast/bosh/Version", name := "compareTo", desc := "(Lcom/example/holdfast/holdfast/bosh/Version;)I" } : Jvm.MethodName) prog_3_method_3_code (2 : Nat) (Option.some Jvm.ClassFile.FieldType.int), Jvm.Cond.code ({ cls := "java/lang/Integer", name := "compare", desc := "(II)I" } : Jvm.MethodName) jdk_33_method_40_code (2 : Nat) (Option.some Jvm.ClassFile.FieldType.int), Jvm.Cond.code ({ cls := "com/example/holdfast/holdfast/bosh/VersionCompareToPinLaw", name := "sign", desc := "(I)I" } : Jvm.MethodName) method_2_code (1 : Nat) (Option.some Jvm.ClassFile.FieldType.int), Jvm.Cond.code ({ cls := "com/example/holdfast/holdfast/bosh/VersionCompareToPinLaw", name := "expected", desc := "(IIII)I" } : Jvm.MethodName) method_3_code (4 : Nat) (Option.some Jvm.ClassFile.FieldType.int)]
set_option maxRecDepth 65536 in
theorem codes_eq : words1.filter isCode = codes1 := rfl
theorem w_codes : ∀ c ∈ words1.filter isCode, c.before args0 about1 = true := by
  rw [codes_eq]
  intro c hc
  simp only [codes1, List.mem_cons, List.not_mem_nil, or_false] at hc
  rcases hc with rfl | rfl | rfl | rfl | rfl | rfl | rfl | rfl
  · exact w_c0
  · exact w_c1
  · exact w_c2
  · exact w_c3
  · exact w_c4
  · exact w_c5
  · exact w_c6
  · exact w_c7
set_option maxRecDepth 65536 in
theorem w_t1 : (words1.take 24).all (fun c => isCode c || c.before args0 about1) = true := by decide +kernel
set_option maxRecDepth 65536 in
theorem w_t2 : (words1.drop 24).all (fun c => isCode c || c.before args0 about1) = true := by decide +kernel
theorem w_tables : (allAtoms (Jvm.Cond.code x code maxLocals ret :: tables_1)).before args0 about1 = true := by
  rw [allAtoms_all]
  show words1.all (fun c => c.before args0 about1) = true
  refine all_split ?_ w_codes
  rw [← List.take_append_drop 24 words1, List.all_append, w_t1, w_t2]
  rfl
set_option maxRecDepth 65536 in
theorem w_case : (Jvm.Cond.and given_1 narrow_1).before args0 about1 = true := by decide +kernel
theorem w_applies : (headSpec (Jvm.Cond.code x code maxLocals ret :: tables_1) room_1).applies x e0.platform about1 = true :=
  (Spec.applies_iff w_frames).mpr ⟨w_running, w_runnable, w_alone, w_named, w_hears, w_ripe, w_room, w_tables⟩
theorem atStart : AtStart classFile x code maxLocals ret World_1 tables_1 room_1 Calls_1 rest_1 Pre_1 launch0 p0 e0 about1 theMethod args0 below0 :=
  ⟨lists_1, trivial, launch0.admits_env _ _ _, launch0.least_env, fairChoices_fair.cas, fairChoices_fair.clock, w_frames, w_args, w_heap, w_applies, trivial, trivial, w_case⟩
end start1
theorem witness_1 : WitnessClaimed_1 := ⟨start1.p0, start1.e0, start1.about1, start1.theMethod, start1.args0, start1.below0, start1.atStart⟩
end Jvm.Pilot.@@N@@
