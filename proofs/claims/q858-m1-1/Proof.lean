import JvmDerived
import JvmDerived.Pilot.@@N@@Statement
import JvmDerived.Pilot.@@N@@Code
set_option linter.unusedVariables false
set_option linter.unusedSimpArgs false
namespace Jvm.RoadKit
open Sem ClassFile Op Lib Jvm.Stand Jvm.Free Jvm.LawKit
section OwnNew
variable {p : Program} {l : Launch} {e : Env} {R : Room} {s : State} {m : MethodId} {args : Array Value} {below : List Frame} {meth : Method} {c : Code} {T : State} {locs : List Loc} {cells slots : Nat}
theorem retI (X : Stand p l e R s m args below meth c T locs cells slots) (hx : p.tables.exec = Jvm.exec) {pc : Nat} {Ls : Array Slot} {z : Int32} {rest : List Value} (hret : meth.sig.returnType = some .int) (hd : decode c.code pc = .ok (.ireturn, 1)) {fs : List Frame}
    (hl : ∀ (f : JFrame) (acts : List Action), f.method = m → f.locked = none → f.entered = [] → (doReturn e (T.setTop f) acts (some (.int z))).1 = T.setFrames fs) : Steps p.tables e below (T.setTop (mkF m pc Ls (.int z :: rest))) (T.setFrames fs) := by
  have hm' : T.vm.method? m = some meth := X.method'
  have hn : narrow .int (.int z) = .int z := rfl
  show Steps p.tables e below (T.setTop { method := m, pc := pc, locals := Ls, stack := _ :: rest, locked := none }) _
  jvm_step X.here [X.here.top, hx, hd, hm', hret, hn]
  first | (intro acts; rw [hl _ acts rfl rfl rfl]) | rw [hl _ _ rfl rfl rfl]
  exact Steps.refl _
/-- from S the run comes to an end of this invocation at which K holds -/
def OFin (p : Program) (e : Env) (below : List Frame) (K : Outcome → State → Prop) (S : State) : Prop := ∃ s₂ o, Steps p.tables e below S s₂ ∧ s₂.status = .running ∧ Ended s₂ below o ∧ K o s₂
theorem OFin.of {K : Outcome → State → Prop} {S S' : State} (h : ∀ t, Steps p.tables e below S' t → Steps p.tables e below S t) (k : OFin p e below K S') : OFin p e below K S := by
  obtain ⟨t, o, a, b⟩ := k; exact ⟨t, o, h t a, b⟩
theorem OFin.to {K : Outcome → State → Prop} {S S' : State} (h : Steps p.tables e below S S') (k : OFin p e below K S') : OFin p e below K S := by
  obtain ⟨t, o, a, b⟩ := k; exact ⟨t, o, h.trans a, b⟩
abbrev KPost (s : State) (Q : Option Value → Heap → List Loc → Prop) (C D : Nat) : Outcome → State → Prop := fun o U' => ∃ v L, o = .returned v ∧ Q v U'.heap L ∧ FrameEnd s o U' L C D
theorem OFin.retI (X : Stand p l e R s m args below meth c T locs cells slots) (hx : p.tables.exec = Jvm.exec) (hlk : meth.locks = false) {pc : Nat} {Ls : Array Slot} {z : Int32} {rest : List Value} {Q : Option Value → Heap → List Loc → Prop} {C D : Nat} (hret : meth.sig.returnType = some .int) (hd : decode c.code pc = .ok (.ireturn, 1)) (hC : cells ≤ C) (hD : slots ≤ D) (hQ : Q (some (.int z)) T.heap locs) :
    OFin p e below (KPost s Q C D) (T.setTop (mkF m pc Ls (.int z :: rest))) := by
  obtain ⟨fs, hr, hrun, hended, hW, hsame⟩ := X.leave (v := some (.int z)) (fun h => by rw [hret] at h; cases h) hlk
  exact ⟨_, _, Jvm.RoadKit.retI X hx hret hd hr, hrun, hended, _, _, rfl, hQ, ⟨_, rfl⟩, hW, hsame.mono hC hD⟩
theorem OFin.retB (X : Stand p l e R s m args below meth c T locs cells slots) (hx : p.tables.exec = Jvm.exec) (hlk : meth.locks = false) {pc : Nat} {Ls : Array Slot} {z : Int32} {rest : List Value} {Q : Option Value → Heap → List Loc → Prop} {C D : Nat} {t : FieldType} (ht : t = .boolean ∨ t = .byte ∨ t = .char ∨ t = .short) (hret : meth.sig.returnType = some t) (hd : decode c.code pc = .ok (.ireturn, 1)) (hC : cells ≤ C) (hD : slots ≤ D) (hQ : Q (some (.int (nar t z))) T.heap locs) :
    OFin p e below (KPost s Q C D) (T.setTop (mkF m pc Ls (.int z :: rest))) := by
  obtain ⟨fs, hr, hrun, hended, hW, hsame⟩ := X.leave (v := some (.int (nar t z))) (fun h => by rw [hret] at h; cases h) hlk
  exact ⟨_, _, retN X hx hret ht hd hr, hrun, hended, _, _, rfl, hQ, ⟨_, rfl⟩, hW, hsame.mono hC hD⟩
theorem OFin.retJ (X : Stand p l e R s m args below meth c T locs cells slots) (hx : p.tables.exec = Jvm.exec) (hlk : meth.locks = false) {pc : Nat} {Ls : Array Slot} {z : Int64} {Q : Option Value → Heap → List Loc → Prop} {C D : Nat} (hret : meth.sig.returnType = some .long) (hd : decode c.code pc = .ok (.lreturn, 1)) (hC : cells ≤ C) (hD : slots ≤ D) (hQ : Q (some (.long z)) T.heap locs) :
    OFin p e below (KPost s Q C D) (T.setTop (mkF m pc Ls [.long z])) := by
  obtain ⟨fs, hr, hrun, hended, hW, hsame⟩ := X.leave (v := some (.long z)) (fun h => by rw [hret] at h; cases h) hlk
  exact ⟨_, _, X.lreturnOut hx hret hd hr, hrun, hended, _, _, rfl, hQ, ⟨_, rfl⟩, hW, hsame.mono hC hD⟩
theorem OFin.retA (X : Stand p l e R s m args below meth c T locs cells slots) (hx : p.tables.exec = Jvm.exec) (hlk : meth.locks = false) {pc : Nat} {Ls : Array Slot} {z : Value} {Q : Option Value → Heap → List Loc → Prop} {C D : Nat} {t : FieldType} (ht : t.isReference = true) (hz : z.isRef = true) (hret : meth.sig.returnType = some t) (hd : decode c.code pc = .ok (.areturn, 1)) (hC : cells ≤ C) (hD : slots ≤ D) (hQ : Q (some z) T.heap locs) :
    OFin p e below (KPost s Q C D) (T.setTop (mkF m pc Ls [z])) := by
  obtain ⟨fs, hr, hrun, hended, hW, hsame⟩ := X.leave (v := some z) (fun h => by rw [hret] at h; cases h) hlk
  exact ⟨_, _, X.areturnOut hx hz hret ht hd hr, hrun, hended, _, _, rfl, hQ, ⟨_, rfl⟩, hW, hsame.mono hC hD⟩
theorem OFin.retD (X : Stand p l e R s m args below meth c T locs cells slots) (hx : p.tables.exec = Jvm.exec) (hlk : meth.locks = false) {pc : Nat} {Ls : Array Slot} {z : UInt64} {rest : List Value} {Q : Option Value → Heap → List Loc → Prop} {C D : Nat} (hret : meth.sig.returnType = some .double) (hd : decode c.code pc = .ok (.dreturn, 1)) (hC : cells ≤ C) (hD : slots ≤ D) (hQ : Q (some (.double z)) T.heap locs) :
    OFin p e below (KPost s Q C D) (T.setTop (mkF m pc Ls (.double z :: rest))) := by
  obtain ⟨fs, hr, hrun, hended, hW, hsame⟩ := X.leave (v := some (.double z)) (fun h => by rw [hret] at h; cases h) hlk
  exact ⟨_, _, retOut X hx hret rfl (Or.inr (Or.inr (Or.inl ⟨rfl, rfl, z, rfl⟩))) hd hr, hrun, hended, _, _, rfl, hQ, ⟨_, rfl⟩, hW, hsame.mono hC hD⟩
theorem OFin.retV (X : Stand p l e R s m args below meth c T locs cells slots) (hx : p.tables.exec = Jvm.exec) (hlk : meth.locks = false) {pc : Nat} {Ls : Array Slot} {Q : Option Value → Heap → List Loc → Prop} {C D : Nat} (hret : meth.sig.returnType = none) (hd : decode c.code pc = .ok (.return_, 1)) (hC : cells ≤ C) (hD : slots ≤ D) (hQ : Q none T.heap locs) :
    OFin p e below (KPost s Q C D) (T.setTop (mkF m pc Ls [])) := by
  obtain ⟨fs, hr, hrun, hended, hW, hsame⟩ := X.leave (v := none) (fun _ => rfl) hlk
  exact ⟨_, _, X.returnOut hx hret hd hr, hrun, hended, _, _, rfl, hQ, ⟨_, rfl⟩, hW, hsame.mono hC hD⟩
abbrev KPostW (s : State) (Q : Option Value → Heap → List Loc → Prop) (C D : Nat) : Outcome → State → Prop := fun o U' => ∃ v L, o = .returned v ∧ Q v U'.heap L ∧ ReturnedEndW s o U' L C D
theorem OFin.retBW {vm₁ : Vm} {k : Nat} (X : Stand p l e R (s.setVm vm₁) m args below meth c T locs cells slots) (hS : s.Since vm₁ k) (hk : k ≤ T.heap.size) (hx : p.tables.exec = Jvm.exec) (hlk : meth.locks = false) {pc : Nat} {Ls : Array Slot} {z : Int32} {rest : List Value} {Q : Option Value → Heap → List Loc → Prop} {C D : Nat} {t : FieldType} (ht : t = .boolean ∨ t = .byte ∨ t = .char ∨ t = .short) (hret : meth.sig.returnType = some t) (hd : decode c.code pc = .ok (.ireturn, 1)) (hC : cells ≤ C) (hD : slots ≤ D) (hQ : Q (some (.int (nar t z))) T.heap locs) :
    OFin p e below (KPostW s Q C D) (T.setTop (mkF m pc Ls (.int z :: rest))) := by
  obtain ⟨fs, hr, hrun, hended, h1, h2, h3, h4⟩ := X.leaveW hS hk (v := some (.int (nar t z))) (fun h => by rw [hret] at h; cases h) hlk
  exact ⟨_, _, retN X hx hret ht hd hr, hrun, hended, _, _, rfl, hQ, ⟨_, rfl⟩, h2, h3, h4.mono hC hD⟩
theorem own_alen {Z : State} {h : Heap} {a : Addr} {cl : Cell} {ty : FieldType} {z : Int32} {g : JFrame} {rest : List Value} {target : State} (X : Stand p l e R s m args below meth c T locs cells slots) (hx : p.tables.exec = Jvm.exec) (hZ : Z.Warmed39 s.vm) (eT : T.heap = h) (A : Arr Z h a cl ty) (S : cl.slots.size = z.toNatClampNeg) (q : ¬ z < 0) (hg : g.method = m) (hs : g.stack = .ref a :: rest) (hd : decode c.code g.pc = .ok (.arraylength, 1))
    (hr : Steps p.tables e below (T.setTop { g with pc := g.pc + 1, stack := .int z :: rest }) target) : Steps p.tables e below (T.setTop g) target := by
  refine X.arraylength hx (by rw [eT]; exact A.1) (State.isArrayOf_alike hZ.alike A.2.1) hg hs hd _ ?_
  rw [len_of S q]; exact hr
def OwnNoSta (h : Heap) (ws : List Addr) : Prop := ∀ x ∈ ws, ∀ cell : Cell, h[x]? = some cell → cell.vm.isStatics = false
theorem own_sn0 {h : Heap} : OwnNoSta h [] := fun _ q => nomatch q
theorem own_snS {Z : State} {h : Heap} {a : Addr} {C : String} {ws : List Addr} (E : Exa Z h a C) (r : OwnNoSta h ws) : OwnNoSta h (a :: ws) := fun x q cell hc => by
  rcases List.mem_cons.mp q with rfl | q
  · obtain ⟨c', _, h1, -, -, h4, -⟩ := E; cases h1.symm.trans hc; exact h4
  · exact r x q cell hc
theorem own_snV {Z : State} {h : Heap} {a : Addr} {k : ClassId} {ty : FieldType} {z : Int32} {vs : List Value} {dv : Value} {ws : List Addr} (F : Arv Z h a k ty z vs dv) (r : OwnNoSta h ws) : OwnNoSta h (a :: ws) := fun x q cell hc => by
  rcases List.mem_cons.mp q with rfl | q
  · obtain ⟨c', A, -⟩ := F; cases A.1.symm.trans hc; exact A.plain
  · exact r x q cell hc
theorem own_staKeep {Z : State} {h h' : Heap} {C n d : String} {v : Value} {ws : List Addr} (F : Sta Z h C n d v) (K : Keep h h' ws) (q : OwnNoSta h ws) : Sta Z h' C n d v := by
  obtain ⟨cf, i, k, f, st, cell, h1, h2, h3, h4, h5, h6, h7⟩ := F
  refine ⟨cf, i, k, f, st, cell, h1, h2, h3, h4, K.2.1 st cell h5 (fun z => ?_), h6, h7⟩
  have := q st z cell h5
  rw [this] at h6; cases h6
theorem own_pop2L {tb : Tables} [Ours tb] {e : Env} {below : List Frame} {T target : State} {m : MethodId} {c : Code} {g : JFrame} (h : At T m c below) (hx : tb.exec = Jvm.exec) (hg : g.method = m) {x : Int64} {rest : List Value} (hd : decode c.code g.pc = .ok (.pop2, 1)) (hs : g.stack = .long x :: rest)
    (hr : Steps tb e below (T.setTop { g with pc := g.pc + 1, stack := rest }) target) : Steps tb e below (T.setTop g) target := by
  subst hg
  jvm_step h [h.top, hx, hd, hs, Value.category]
  exact hr
end OwnNew
end Jvm.RoadKit
namespace Jvm.Pilot.@@N@@
open Jvm Jvm.ClassFile Sem Op Lib Jvm.Free Jvm.Stand Jvm.LawKit Jvm.RoadKit Bundle Jvm.Pilot.@@N@@.Jvm.D
theorem pd_0 : parseMethodDescriptor "()V" = some ⟨[], none⟩ := by decide +kernel
theorem pd_1 : parseMethodDescriptor "(IILjava/lang/String;)V" = some ⟨[.int, .int, (.object "java/lang/String")], none⟩ := by decide +kernel
theorem pd_2 : parseMethodDescriptor "(II)Z" = some ⟨[.int, .int], some .boolean⟩ := by decide +kernel
theorem pd_3 : parseMethodDescriptor "(II)J" = some ⟨[.int, .int], some .long⟩ := by decide +kernel
theorem own_strAtoms {Z : State} {a0 : Array Value} (hw : ∀ d ∈ tables_1, d.before a0 Z = true) : ∀ a ∈ Bundle.stringAtoms, a.before a0 Z = true := fun a ha => by
  simp only [Bundle.stringAtoms, List.mem_cons, List.not_mem_nil, or_false] at ha
  rcases ha with rfl | rfl | rfl | rfl | rfl | rfl | rfl
  · exact (hw _ (List.mem_of_getElem? (i := 4) rfl))
  · exact (hw _ (List.mem_of_getElem? (i := 5) rfl))
  · exact (hw _ (List.mem_of_getElem? (i := 6) rfl))
  · exact (hw _ (List.mem_of_getElem? (i := 7) rfl))
  · exact (hw _ (List.mem_of_getElem? (i := 8) rfl))
  · exact (hw _ (List.mem_of_getElem? (i := 9) rfl))
  · exact (hw _ (List.mem_of_getElem? (i := 10) rfl))
def own_by (a b l c : Int32) : Int32 := if a < l then 1 else if a = l then (if c < b then 0 else 1) else 0
def own_key (l c : Int32) : Int64 := (l.toInt64 <<< ((32 : Int32) &&& 0x3f).toInt64) + (c.toInt64 - (-2147483648 : Int64))
theorem own_keyInt (l c : Int32) : (own_key l c).toInt = l.toInt * 4294967296 + (c.toInt + 2147483648) := by
  unfold own_key
  have h1 := c_lshl l.toInt64 32 32 (by decide)
  have h2 := c_lsub c.toInt64 (-2147483648)
  have h3 := c_ladd (l.toInt64 <<< ((32 : Int32) &&& 0x3f).toInt64) (c.toInt64 - (-2147483648 : Int64))
  have r1 := rng32 l
  have r2 := rng32 c
  have r3 := rng64 ((l.toInt64 <<< ((32 : Int32) &&& 0x3f).toInt64) + (c.toInt64 - (-2147483648 : Int64)))
  have r4 := rng64 (l.toInt64 <<< ((32 : Int32) &&& 0x3f).toInt64)
  have r5 := rng64 (c.toInt64 - (-2147483648 : Int64))
  have e0 : (-2147483648 : Int64).toInt = -2147483648 := by decide
  rw [c_i2l] at h1 h2
  have p : ((2 ^ 32 : Nat) : Int) = 4294967296 := by decide
  rw [p] at h1
  rw [e0] at h2
  generalize (l.toInt64 <<< ((32 : Int32) &&& 0x3f).toInt64) = A at *
  generalize (c.toInt64 - (-2147483648 : Int64)) = B at *
  omega
theorem own_gt (a b l c : Int32) : (0 : Int32) < lcmpW (own_key a b) (own_key l c) ↔ own_by a b l c = 0 := by
  rw [lw_gt, Int64.lt_iff_toInt_lt, own_keyInt, own_keyInt]
  have r1 := rng32 b
  have r2 := rng32 c
  unfold own_by
  have e : ∀ x y : Int32, x = y ↔ x.toInt = y.toInt := fun x y => Int32.toInt_inj.symm
  have n1 : ¬ (1 : Int32) = 0 := by decide
  simp only [Int32.lt_iff_toInt_lt, e a l]
  repeat' split
  all_goals first | (simp only [n1, iff_false]; omega) | (simp only [iff_true]; omega)
theorem own_by01 (a b l c : Int32) : own_by a b l c = 0 ∨ own_by a b l c = 1 := by unfold own_by; (repeat' split) <;> simp
theorem own_g0 {a b l c : Int32} (h : (0 : Int32) < lcmpW (own_key a b) (own_key l c)) : own_by a b l c = 0 := (own_gt a b l c).mp h
theorem own_g1 {a b l c : Int32} (h : ¬ (0 : Int32) < lcmpW (own_key a b) (own_key l c)) : own_by a b l c = 1 := (own_by01 a b l c).resolve_left fun q => h ((own_gt a b l c).mpr q)
theorem own_and3 (x : Int32) : x &&& (3 : Int32) = (0 : Int32) ∨ x &&& (3 : Int32) = (1 : Int32) ∨ x &&& (3 : Int32) = (2 : Int32) ∨ x &&& (3 : Int32) = (3 : Int32) := by
  have h2 := c_mask x 3 2 (by decide) (by decide)
  generalize x &&& 3 = z at h2
  have h3 : z.toInt = 0 ∨ z.toInt = 1 ∨ z.toInt = 2 ∨ z.toInt = 3 := by omega
  have e : ∀ k : Int32, z.toInt = k.toInt → z = k := fun k => Int32.toInt_inj.mp
  rcases h3 with h | h | h | h
  · exact Or.inl (e _ h)
  · exact Or.inr (Or.inl (e _ h))
  · exact Or.inr (Or.inr (Or.inl (e _ h)))
  · exact Or.inr (Or.inr (Or.inr (e _ h)))
theorem dRec_0 : decode jdk_30_method_1_code 0 = .ok (.aload_n 0, 1) := by decide +kernel
theorem dRec_1 : decode jdk_30_method_1_code 1 = .ok (.invokespecial 1, 3) := by decide +kernel
theorem dRec_4 : decode jdk_30_method_1_code 4 = .ok (.return_, 1) := by decide +kernel
theorem pnRec : plainName "java/lang/Record" = true := by first | (simp [plainName, overriddenIn]; done) | decide +kernel
theorem efRec (m : MethodId) (a0 : Addr) : entryFrame m #[(.ref a0)] 1 = mkF m 0 #[.val (.ref a0)] [] := by first | (simp [entryFrame, mkF, argsToLocals, Value.category]; done) | rfl
def QRec (Z : State) (a0 : Addr) (h0 : Heap) (n0 : Nat) (v : Option Value) (h : Heap) (L : List Loc) : Prop := v = none ∧ Fr n0 L ∧ h = h0
set_option maxRecDepth 65536 in
set_option maxHeartbeats 40000000 in
theorem rmRec (l : Launch) (Z : State) (a0 : Array Value) (hw : ∀ d ∈ tables_1, d.before a0 Z = true) (ws : List Jvm.Cond) (a0 : Addr) (h0 : Heap) (n0 : Nat) (Z0 : n0 ≤ h0.size)  :
    MetFree l (⟨"java/lang/Record", "<init>", "()V"⟩ : MethodName) (head1 (Jvm.Cond.code (⟨"java/lang/Record", "<init>", "()V"⟩ : MethodName) jdk_30_method_1_code 1 none :: ws) ({ frames := 1, cells := 0, slots := 0, locals := 12 } : Room)) (fun a U => a = #[(.ref a0)] ∧ Z.Warmed39 U.vm ∧ U.heap = h0) (fun _ _ _ _ _ => True) (fun _ U o U' => ∃ v L, o = .returned v ∧ QRec Z a0 h0 n0 v U'.heap L ∧ FrameEnd U o U' L ({ frames := 1, cells := 0, slots := 0, locals := 12 } : Room).cells ({ frames := 1, cells := 0, slots := 0, locals := 12 } : Room).slots) := by
  refine MetFree.of_bodySF (plainFor_of_name pnRec) hisR ?_
  intro p e s m args below meth c s₁ Bd hml0 hP hK
  obtain ⟨rfl, hZ, hh⟩ := hP
  have hx := Bd.exec
  have hby := Bd.bytes
  have hlk := BodyLoose.notSynchronized Bd
  have hret := Bd.returns
  have hml : c.maxLocals = 1 := hml0
  have hown : s.vm.findClass "java/lang/Record" = some m.cls := findClass_of_methodNamed Bd.named
  have hnm := (name_of_methodNamed Bd.named Bd.method).1
  have X0 : Stand p l e ({ frames := 1, cells := 0, slots := 0, locals := 12 } : Room) s m #[(.ref a0)] below meth c s₁ [] 0 0 := Stand.of_body Bd
  have e0 : s₁.heap = h0 := by rw [← hh, Bd.state]; rfl
  have N0 := Fr.nil n0
  show OFin p e below (KPost s (QRec Z a0 h0 n0) ({ frames := 1, cells := 0, slots := 0, locals := 12 } : Room).cells ({ frames := 1, cells := 0, slots := 0, locals := 12 } : Room).slots) _
  rw [efRec m a0]
  refine OFin.of (S' := s₁.setTop (mkF m 1 #[.val (.ref a0)] [(.ref a0)])) (fun t ht => ?_) ?_
  · refine XS.aloadN X0.here hx rfl (hb hby dRec_0) rfl rfl ?_
    exact ht
  obtain ⟨T1, X1, e1, st1⟩ := initO X0 hx hZ hown (hw _ (List.mem_of_getElem? (i := 19) rfl)) (hw _ (List.mem_of_getElem? (i := 20) rfl)) (hw _ (List.mem_of_getElem? (i := 21) rfl)) e0 (g := (mkF m 1 #[.val (.ref a0)] [(.ref a0)])) rfl (by rw [hml]; rfl) rfl (hb hby dRec_1) (by decide) (W := 0) (by show 2 * 0 + _ ≤ _; exact Nat.le_of_eq rfl) (by decide)
  refine OFin.of (S' := T1.setTop (mkF m 4 #[.val (.ref a0)] [])) (fun t ht => st1 t ht) ?_
  exact OFin.retV X1 hx hlk hret (hb hby dRec_4) (by decide) (by decide) (by rw [e1]; exact ⟨rfl, N0, rfl⟩)
theorem dIni_0 : decode prog_61_method_1_code 0 = .ok (.aload_n 0, 1) := by decide +kernel
theorem dIni_1 : decode prog_61_method_1_code 1 = .ok (.invokespecial 1, 3) := by decide +kernel
theorem dIni_4 : decode prog_61_method_1_code 4 = .ok (.aload_n 0, 1) := by decide +kernel
theorem dIni_5 : decode prog_61_method_1_code 5 = .ok (.iload_n 1, 1) := by decide +kernel
theorem dIni_6 : decode prog_61_method_1_code 6 = .ok (.putfield 7, 3) := by decide +kernel
theorem dIni_9 : decode prog_61_method_1_code 9 = .ok (.aload_n 0, 1) := by decide +kernel
theorem dIni_10 : decode prog_61_method_1_code 10 = .ok (.iload_n 2, 1) := by decide +kernel
theorem dIni_11 : decode prog_61_method_1_code 11 = .ok (.putfield 13, 3) := by decide +kernel
theorem dIni_14 : decode prog_61_method_1_code 14 = .ok (.aload_n 0, 1) := by decide +kernel
theorem dIni_15 : decode prog_61_method_1_code 15 = .ok (.aload_n 3, 1) := by decide +kernel
theorem dIni_16 : decode prog_61_method_1_code 16 = .ok (.putfield 16, 3) := by decide +kernel
theorem dIni_19 : decode prog_61_method_1_code 19 = .ok (.return_, 1) := by decide +kernel
theorem pnIni : plainName "com/example/kindred/kindred/marc/XmlText$Fault" = true := by first | (simp [plainName, overriddenIn]; done) | decide +kernel
theorem efIni (m : MethodId) (a0 : Addr) (p1 : Int32) (p2 : Int32) (a3 : Addr) : entryFrame m #[(.ref a0), (.int p1), (.int p2), (.ref a3)] 4 = mkF m 0 #[.val (.ref a0), .val (.int p1), .val (.int p2), .val (.ref a3)] [] := by first | (simp [entryFrame, mkF, argsToLocals, Value.category]; done) | rfl
def QIni (Z : State) (a0 : Addr) (p1 : Int32) (p2 : Int32) (a3 : Addr) (h0 : Heap) (n0 : Nat) (v : Option Value) (h : Heap) (L : List Loc) : Prop := v = none ∧ Fr n0 L ∧ Keep h0 h [a0] ∧ Fld Z h a0 "com/example/kindred/kindred/marc/XmlText$Fault" "line" "I" (.int p1) ∧ Fld Z h a0 "com/example/kindred/kindred/marc/XmlText$Fault" "column" "I" (.int p2) ∧ Fld Z h a0 "com/example/kindred/kindred/marc/XmlText$Fault" "reason" "Ljava/lang/String;" (.ref a3)
set_option maxRecDepth 65536 in
set_option maxHeartbeats 40000000 in
theorem rmIni (l : Launch) (Z : State) (a0 : Array Value) (hw : ∀ d ∈ tables_1, d.before a0 Z = true) (ws : List Jvm.Cond) (a0 : Addr) (p1 : Int32) (p2 : Int32) (a3 : Addr) (h0 : Heap) (n0 : Nat) (Z0 : n0 ≤ h0.size) (E0 : Exa Z h0 a0 "com/example/kindred/kindred/marc/XmlText$Fault") (F_line : Fld Z h0 a0 "com/example/kindred/kindred/marc/XmlText$Fault" "line" "I" (.int (0 : Int32))) (F_column : Fld Z h0 a0 "com/example/kindred/kindred/marc/XmlText$Fault" "column" "I" (.int (0 : Int32))) (F_reason : Fld Z h0 a0 "com/example/kindred/kindred/marc/XmlText$Fault" "reason" "Ljava/lang/String;" .null) (g0 : n0 ≤ a0) :
    MetFree l (⟨"com/example/kindred/kindred/marc/XmlText$Fault", "<init>", "(IILjava/lang/String;)V"⟩ : MethodName) (head1 (Jvm.Cond.code (⟨"com/example/kindred/kindred/marc/XmlText$Fault", "<init>", "(IILjava/lang/String;)V"⟩ : MethodName) prog_61_method_1_code 4 none :: ws) ({ frames := 2, cells := 0, slots := 0, locals := 24 } : Room)) (fun a U => a = #[(.ref a0), (.int p1), (.int p2), (.ref a3)] ∧ Z.Warmed39 U.vm ∧ U.heap = h0) (fun _ _ _ _ _ => True) (fun _ U o U' => ∃ v L, o = .returned v ∧ QIni Z a0 p1 p2 a3 h0 n0 v U'.heap L ∧ FrameEnd U o U' L ({ frames := 2, cells := 0, slots := 0, locals := 24 } : Room).cells ({ frames := 2, cells := 0, slots := 0, locals := 24 } : Room).slots) := by
  refine MetFree.of_bodySF (plainFor_of_name pnIni) hisR ?_
  intro p e s m args below meth c s₁ Bd hml0 hP hK
  obtain ⟨rfl, hZ, hh⟩ := hP
  have hx := Bd.exec
  have hby := Bd.bytes
  have hlk := BodyLoose.notSynchronized Bd
  have hret := Bd.returns
  have hml : c.maxLocals = 4 := hml0
  have hown : s.vm.findClass "com/example/kindred/kindred/marc/XmlText$Fault" = some m.cls := findClass_of_methodNamed Bd.named
  have hnm := (name_of_methodNamed Bd.named Bd.method).1
  have X0 : Stand p l e ({ frames := 2, cells := 0, slots := 0, locals := 24 } : Room) s m #[(.ref a0), (.int p1), (.int p2), (.ref a3)] below meth c s₁ [] 0 0 := Stand.of_body Bd
  have e0 : s₁.heap = h0 := by rw [← hh, Bd.state]; rfl
  have N0 := Fr.nil n0
  show OFin p e below (KPost s (QIni Z a0 p1 p2 a3 h0 n0) ({ frames := 2, cells := 0, slots := 0, locals := 24 } : Room).cells ({ frames := 2, cells := 0, slots := 0, locals := 24 } : Room).slots) _
  rw [efIni m a0 p1 p2 a3]
  have K0 : Keep h0 h0 [a0] := Keep.refl _ _
  refine OFin.of (S' := s₁.setTop (mkF m 1 #[.val (.ref a0), .val (.int p1), .val (.int p2), .val (.ref a3)] [(.ref a0)])) (fun t ht => ?_) ?_
  · refine XS.aloadN X0.here hx rfl (hb hby dIni_0) rfl rfl ?_
    exact ht
  obtain ⟨_, _, ⟨T1, L1, k1, n1⟩, -, X1, ⟨Lc1, hQ1, l1, y1, z1⟩, st1⟩ := X0.specialBack hx (y := (⟨"java/lang/Record", "<init>", "()V"⟩ : MethodName)) rfl hown (mvT hZ (hw _ (List.mem_of_getElem? (i := 14) rfl))) (mvT hZ (hw _ (List.mem_of_getElem? (i := 15) rfl))) (mvT hZ (hw _ (List.mem_of_getElem? (i := 18) rfl))) (by decide) (backOf (W := 0) (rmRec l Z _ hw [] a0 h0 n0 Z0 ) hZ (hw _ (List.mem_of_getElem? (i := 18) rfl)) (hw _ (List.mem_of_getElem? (i := 17) rfl)) (by decide) (by decide)) (g := (mkF m 1 #[.val (.ref a0), .val (.int p1), .val (.int p2), .val (.ref a3)] [(.ref a0)])) rfl (by rw [hml]; rfl) (Steps.refl _) (a := a0) (argsL := []) (rest := []) (lenOf pd_0 rfl) rfl (by show 2 * 0 + _ ≤ _; exact Nat.le_of_eq rfl) (hb hby dIni_1) (fun _ _ => ⟨rfl, e0, (by decide : 0 + 0 ≤ _), (by decide : 0 + 0 ≤ _)⟩)
  dsimp only [Pt.U, Pt.locs, Pt.cells, Pt.slots] at X1 l1 y1 z1 st1 hQ1
  subst l1 y1 z1
  obtain ⟨rfl, Nq1, hs1⟩ := hQ1
  have N2 := Fr.app N0 Nq1
  refine OFin.to (S' := T1.setTop (mkF m 4 #[.val (.ref a0), .val (.int p1), .val (.int p2), .val (.ref a3)] [])) st1 ?_
  refine OFin.of (S' := T1.setTop (mkF m 6 #[.val (.ref a0), .val (.int p1), .val (.int p2), .val (.ref a3)] [(.int p1), (.ref a0)])) (fun t ht => ?_) ?_
  · refine XS.aloadN X1.here hx rfl (hb hby dIni_4) rfl rfl ?_
    show Steps p.tables e below (T1.setTop (mkF m 5 _ [(.ref a0)])) _
    refine XS.iloadN X1.here hx rfl (hb hby dIni_5) rfl ?_
    exact ht
  obtain ⟨T3, h3, X3, e3, W3, st3⟩ := putF X1 hx hZ hown (host := "") (Or.inl (hw _ (List.mem_of_getElem? (i := 22) rfl))) Via.refl hs1 F_line E0 (Or.inr ⟨(hw _ (List.mem_of_getElem? (i := 23) rfl)), rfl, hnm⟩) (hw _ (List.mem_of_getElem? (i := 1) rfl)) (ty := .int) (by decide) rfl rfl (g := (mkF m 6 #[.val (.ref a0), .val (.int p1), .val (.int p2), .val (.ref a3)] [(.int p1), (.ref a0)])) rfl rfl (hb hby dIni_6)
  have f4 := (E0.wr W3)
  have f5 := (F_column.other W3 (Or.inr (slot_ne (Or.inr (hw _ (List.mem_of_getElem? (i := 25) rfl))) (Or.inr (hw _ (List.mem_of_getElem? (i := 23) rfl))) (by decide) (t := .int) (t' := .int) (by decide) (by decide))))
  have f6 := (F_reason.other W3 (Or.inr (slot_ne (Or.inr (hw _ (List.mem_of_getElem? (i := 27) rfl))) (Or.inr (hw _ (List.mem_of_getElem? (i := 23) rfl))) (by decide) (t := (.object "java/lang/String")) (t' := .int) (by decide) (by decide))))
  have Z7 : n0 ≤ h3.size := (Nat.le_trans Z0 (Keep.of_wr W3).1)
  have K8 : Keep h0 h3 [a0] := (K0.wr W3 (Or.inl (List.mem_of_getElem? (i := 0) rfl)))
  have N9 := Fr.snoc X3 N2 g0
  have f10 : Fld Z h3 a0 "com/example/kindred/kindred/marc/XmlText$Fault" "line" "I" (.int p1) := (F_line.same W3)
  refine OFin.of (S' := T3.setTop (mkF m 9 #[.val (.ref a0), .val (.int p1), .val (.int p2), .val (.ref a3)] [])) (fun t ht => st3 t ht) ?_
  refine OFin.of (S' := T3.setTop (mkF m 11 #[.val (.ref a0), .val (.int p1), .val (.int p2), .val (.ref a3)] [(.int p2), (.ref a0)])) (fun t ht => ?_) ?_
  · refine XS.aloadN X3.here hx rfl (hb hby dIni_9) rfl rfl ?_
    show Steps p.tables e below (T3.setTop (mkF m 10 _ [(.ref a0)])) _
    refine XS.iloadN X3.here hx rfl (hb hby dIni_10) rfl ?_
    exact ht
  obtain ⟨T11, h11, X11, e11, W11, st11⟩ := putF X3 hx hZ hown (host := "") (Or.inl (hw _ (List.mem_of_getElem? (i := 24) rfl))) Via.refl e3 f5 f4 (Or.inr ⟨(hw _ (List.mem_of_getElem? (i := 25) rfl)), rfl, hnm⟩) (hw _ (List.mem_of_getElem? (i := 1) rfl)) (ty := .int) (by decide) rfl rfl (g := (mkF m 11 #[.val (.ref a0), .val (.int p1), .val (.int p2), .val (.ref a3)] [(.int p2), (.ref a0)])) rfl rfl (hb hby dIni_11)
  have f12 := (f4.wr W11)
  have f13 := (f6.other W11 (Or.inr (slot_ne (Or.inr (hw _ (List.mem_of_getElem? (i := 27) rfl))) (Or.inr (hw _ (List.mem_of_getElem? (i := 25) rfl))) (by decide) (t := (.object "java/lang/String")) (t' := .int) (by decide) (by decide))))
  have f14 := (f10.other W11 (Or.inr (slot_ne (Or.inr (hw _ (List.mem_of_getElem? (i := 23) rfl))) (Or.inr (hw _ (List.mem_of_getElem? (i := 25) rfl))) (by decide) (t := .int) (t' := .int) (by decide) (by decide))))
  have Z15 : n0 ≤ h11.size := (Nat.le_trans Z7 (Keep.of_wr W11).1)
  have K16 : Keep h0 h11 [a0] := (K8.wr W11 (Or.inl (List.mem_of_getElem? (i := 0) rfl)))
  have N17 := Fr.snoc X11 N9 g0
  have f18 : Fld Z h11 a0 "com/example/kindred/kindred/marc/XmlText$Fault" "column" "I" (.int p2) := (f5.same W11)
  refine OFin.of (S' := T11.setTop (mkF m 14 #[.val (.ref a0), .val (.int p1), .val (.int p2), .val (.ref a3)] [])) (fun t ht => st11 t ht) ?_
  refine OFin.of (S' := T11.setTop (mkF m 16 #[.val (.ref a0), .val (.int p1), .val (.int p2), .val (.ref a3)] [(.ref a3), (.ref a0)])) (fun t ht => ?_) ?_
  · refine XS.aloadN X11.here hx rfl (hb hby dIni_14) rfl rfl ?_
    show Steps p.tables e below (T11.setTop (mkF m 15 _ [(.ref a0)])) _
    refine XS.aloadN X11.here hx rfl (hb hby dIni_15) rfl rfl ?_
    exact ht
  obtain ⟨T19, h19, X19, e19, W19, st19⟩ := putF X11 hx hZ hown (host := "") (Or.inl (hw _ (List.mem_of_getElem? (i := 26) rfl))) Via.refl e11 f13 f12 (Or.inr ⟨(hw _ (List.mem_of_getElem? (i := 27) rfl)), rfl, hnm⟩) (hw _ (List.mem_of_getElem? (i := 1) rfl)) (ty := (.object "java/lang/String")) (by decide) rfl rfl (g := (mkF m 16 #[.val (.ref a0), .val (.int p1), .val (.int p2), .val (.ref a3)] [(.ref a3), (.ref a0)])) rfl rfl (hb hby dIni_16)
  have f20 := (f12.wr W19)
  have f21 := (f14.other W19 (Or.inr (slot_ne (Or.inr (hw _ (List.mem_of_getElem? (i := 23) rfl))) (Or.inr (hw _ (List.mem_of_getElem? (i := 27) rfl))) (by decide) (t := .int) (t' := (.object "java/lang/String")) (by decide) (by decide))))
  have f22 := (f18.other W19 (Or.inr (slot_ne (Or.inr (hw _ (List.mem_of_getElem? (i := 25) rfl))) (Or.inr (hw _ (List.mem_of_getElem? (i := 27) rfl))) (by decide) (t := .int) (t' := (.object "java/lang/String")) (by decide) (by decide))))
  have Z23 : n0 ≤ h19.size := (Nat.le_trans Z15 (Keep.of_wr W19).1)
  have K24 : Keep h0 h19 [a0] := (K16.wr W19 (Or.inl (List.mem_of_getElem? (i := 0) rfl)))
  have N25 := Fr.snoc X19 N17 g0
  have f26 : Fld Z h19 a0 "com/example/kindred/kindred/marc/XmlText$Fault" "reason" "Ljava/lang/String;" (.ref a3) := (f13.same W19)
  refine OFin.of (S' := T19.setTop (mkF m 19 #[.val (.ref a0), .val (.int p1), .val (.int p2), .val (.ref a3)] [])) (fun t ht => st19 t ht) ?_
  exact OFin.retV X19 hx hlk hret (hb hby dIni_19) (by decide) (by decide) (by rw [e19]; exact ⟨rfl, N25, K24, f21, f22, f26⟩)
theorem dBy_0 : decode prog_61_method_2_code 0 = .ok (.aload_n 0, 1) := by decide +kernel
theorem dBy_1 : decode prog_61_method_2_code 1 = .ok (.getfield 7, 3) := by decide +kernel
theorem dBy_4 : decode prog_61_method_2_code 4 = .ok (.iload_n 1, 1) := by decide +kernel
theorem dBy_5 : decode prog_61_method_2_code 5 = .ok (.if_icmp .lt 19, 3) := by decide +kernel
theorem dBy_8 : decode prog_61_method_2_code 8 = .ok (.aload_n 0, 1) := by decide +kernel
theorem dBy_9 : decode prog_61_method_2_code 9 = .ok (.getfield 7, 3) := by decide +kernel
theorem dBy_12 : decode prog_61_method_2_code 12 = .ok (.iload_n 1, 1) := by decide +kernel
theorem dBy_13 : decode prog_61_method_2_code 13 = .ok (.if_icmp .ne 15, 3) := by decide +kernel
theorem dBy_16 : decode prog_61_method_2_code 16 = .ok (.aload_n 0, 1) := by decide +kernel
theorem dBy_17 : decode prog_61_method_2_code 17 = .ok (.getfield 13, 3) := by decide +kernel
theorem dBy_20 : decode prog_61_method_2_code 20 = .ok (.iload_n 2, 1) := by decide +kernel
theorem dBy_21 : decode prog_61_method_2_code 21 = .ok (.if_icmp .gt 7, 3) := by decide +kernel
theorem dBy_24 : decode prog_61_method_2_code 24 = .ok (.iconst 1, 1) := by decide +kernel
theorem dBy_25 : decode prog_61_method_2_code 25 = .ok (.goto 4, 3) := by decide +kernel
theorem dBy_28 : decode prog_61_method_2_code 28 = .ok (.iconst 0, 1) := by decide +kernel
theorem dBy_29 : decode prog_61_method_2_code 29 = .ok (.ireturn, 1) := by decide +kernel
theorem pnBy : plainName "com/example/kindred/kindred/marc/XmlText$Fault" = true := by first | (simp [plainName, overriddenIn]; done) | decide +kernel
theorem efBy (m : MethodId) (a0 : Addr) (p1 : Int32) (p2 : Int32) : entryFrame m #[(.ref a0), (.int p1), (.int p2)] 3 = mkF m 0 #[.val (.ref a0), .val (.int p1), .val (.int p2)] [] := by first | (simp [entryFrame, mkF, argsToLocals, Value.category]; done) | rfl
def QBy (Z : State) (a0 : Addr) (p1 : Int32) (p2 : Int32) (a : Int32) (b : Int32) (h0 : Heap) (n0 : Nat) (v : Option Value) (h : Heap) (L : List Loc) : Prop := v = some (.int (own_by a b p1 p2)) ∧ Fr n0 L ∧ h = h0
set_option maxRecDepth 65536 in
set_option maxHeartbeats 40000000 in
theorem rmBy (l : Launch) (Z : State) (a0 : Array Value) (hw : ∀ d ∈ tables_1, d.before a0 Z = true) (ws : List Jvm.Cond) (a0 : Addr) (p1 : Int32) (p2 : Int32) (a : Int32) (b : Int32) (h0 : Heap) (n0 : Nat) (Z0 : n0 ≤ h0.size) (F1 : Fld Z h0 a0 "com/example/kindred/kindred/marc/XmlText$Fault" "line" "I" (.int a)) (F2 : Fld Z h0 a0 "com/example/kindred/kindred/marc/XmlText$Fault" "column" "I" (.int b)) :
    MetFree l (⟨"com/example/kindred/kindred/marc/XmlText$Fault", "byThen", "(II)Z"⟩ : MethodName) (head1 (Jvm.Cond.code (⟨"com/example/kindred/kindred/marc/XmlText$Fault", "byThen", "(II)Z"⟩ : MethodName) prog_61_method_2_code 3 (some .boolean) :: ws) ({ frames := 0, cells := 0, slots := 0, locals := 0 } : Room)) (fun a U => a = #[(.ref a0), (.int p1), (.int p2)] ∧ Z.Warmed39 U.vm ∧ U.heap = h0) (fun _ _ _ _ _ => True) (fun _ U o U' => ∃ v L, o = .returned v ∧ QBy Z a0 p1 p2 a b h0 n0 v U'.heap L ∧ FrameEnd U o U' L ({ frames := 0, cells := 0, slots := 0, locals := 0 } : Room).cells ({ frames := 0, cells := 0, slots := 0, locals := 0 } : Room).slots) := by
  refine MetFree.of_bodySF (plainFor_of_name pnBy) hisR ?_
  intro p e s m args below meth c s₁ Bd hml0 hP hK
  obtain ⟨rfl, hZ, hh⟩ := hP
  have hx := Bd.exec
  have hby := Bd.bytes
  have hlk := BodyLoose.notSynchronized Bd
  have hret := Bd.returns
  have hml : c.maxLocals = 3 := hml0
  have hown : s.vm.findClass "com/example/kindred/kindred/marc/XmlText$Fault" = some m.cls := findClass_of_methodNamed Bd.named
  have hnm := (name_of_methodNamed Bd.named Bd.method).1
  have X0 : Stand p l e ({ frames := 0, cells := 0, slots := 0, locals := 0 } : Room) s m #[(.ref a0), (.int p1), (.int p2)] below meth c s₁ [] 0 0 := Stand.of_body Bd
  have e0 : s₁.heap = h0 := by rw [← hh, Bd.state]; rfl
  have N0 := Fr.nil n0
  show OFin p e below (KPost s (QBy Z a0 p1 p2 a b h0 n0) ({ frames := 0, cells := 0, slots := 0, locals := 0 } : Room).cells ({ frames := 0, cells := 0, slots := 0, locals := 0 } : Room).slots) _
  rw [efBy m a0 p1 p2]
  refine OFin.of (S' := s₁.setTop (mkF m 1 #[.val (.ref a0), .val (.int p1), .val (.int p2)] [(.ref a0)])) (fun t ht => ?_) ?_
  · refine XS.aloadN X0.here hx rfl (hb hby dBy_0) rfl rfl ?_
    exact ht
  obtain ⟨T1, X1, e1, st1⟩ := getF X0 hx hZ hown (host := "") (Or.inl (hw _ (List.mem_of_getElem? (i := 22) rfl))) Via.refl e0 F1 (g := (mkF m 1 #[.val (.ref a0), .val (.int p1), .val (.int p2)] [(.ref a0)])) rfl rfl (hb hby dBy_1)
  refine OFin.of (S' := T1.setTop (mkF m 4 #[.val (.ref a0), .val (.int p1), .val (.int p2)] [(.int a)])) (fun t ht => st1 t ht) ?_
  refine OFin.of (S' := T1.setTop (mkF m 5 #[.val (.ref a0), .val (.int p1), .val (.int p2)] [(.int p1), (.int a)])) (fun t ht => ?_) ?_
  · refine XS.iloadN X1.here hx rfl (hb hby dBy_4) rfl ?_
    exact ht
  by_cases hc2 : a < p1
  · refine OFin.of (S' := T1.setTop (mkF m 29 #[.val (.ref a0), .val (.int p1), .val (.int p2)] [(.int (1 : Int32))])) (fun t ht => ?_) ?_
    · refine XS.icmpYes X1.here hx rfl (pc0 := 5) (pc' := 24) rfl (hb hby dBy_5) rfl (tlt (hc2 : a < p1)).1 (by decide) (by decide) ?_
      show Steps p.tables e below (T1.setTop (mkF m 24 _ [])) _
      refine XS.iconst X1.here hx rfl (hb hby dBy_24) ?_
      show Steps p.tables e below (T1.setTop (mkF m 25 _ [(.int (1 : Int32))])) _
      refine XS.goto X1.here hx rfl (pc0 := 25) (pc' := 29) rfl (hb hby dBy_25) (by decide) (by decide) ?_
      exact ht
    exact OFin.retB X1 hx hlk (t := .boolean) (by simp) hret (hb hby dBy_29) (by decide) (by decide) (by rw [e1]; exact ⟨(by show some (Value.int (1 : Int32)) = _; simp [own_by, hc2]), N0, rfl⟩)
  · refine OFin.of (S' := T1.setTop (mkF m 9 #[.val (.ref a0), .val (.int p1), .val (.int p2)] [(.ref a0)])) (fun t ht => ?_) ?_
    · refine XS.icmpNo X1.here hx rfl (hb hby dBy_5) rfl (flt (hc2 : ¬ (a < p1))).1 ?_
      show Steps p.tables e below (T1.setTop (mkF m 8 _ [])) _
      refine XS.aloadN X1.here hx rfl (hb hby dBy_8) rfl rfl ?_
      exact ht
    obtain ⟨T3, X3, e3, st3⟩ := getF X1 hx hZ hown (host := "") (Or.inl (hw _ (List.mem_of_getElem? (i := 22) rfl))) Via.refl e1 F1 (g := (mkF m 9 #[.val (.ref a0), .val (.int p1), .val (.int p2)] [(.ref a0)])) rfl rfl (hb hby dBy_9)
    refine OFin.of (S' := T3.setTop (mkF m 12 #[.val (.ref a0), .val (.int p1), .val (.int p2)] [(.int a)])) (fun t ht => st3 t ht) ?_
    refine OFin.of (S' := T3.setTop (mkF m 13 #[.val (.ref a0), .val (.int p1), .val (.int p2)] [(.int p1), (.int a)])) (fun t ht => ?_) ?_
    · refine XS.iloadN X3.here hx rfl (hb hby dBy_12) rfl ?_
      exact ht
    by_cases hc4 : a = p1
    · refine OFin.of (S' := T3.setTop (mkF m 17 #[.val (.ref a0), .val (.int p1), .val (.int p2)] [(.ref a0)])) (fun t ht => ?_) ?_
      · refine XS.icmpNo X3.here hx rfl (hb hby dBy_13) rfl (teq (hc4 : a = p1)).2 ?_
        show Steps p.tables e below (T3.setTop (mkF m 16 _ [])) _
        refine XS.aloadN X3.here hx rfl (hb hby dBy_16) rfl rfl ?_
        exact ht
      obtain ⟨T5, X5, e5, st5⟩ := getF X3 hx hZ hown (host := "") (Or.inl (hw _ (List.mem_of_getElem? (i := 24) rfl))) Via.refl e3 F2 (g := (mkF m 17 #[.val (.ref a0), .val (.int p1), .val (.int p2)] [(.ref a0)])) rfl rfl (hb hby dBy_17)
      refine OFin.of (S' := T5.setTop (mkF m 20 #[.val (.ref a0), .val (.int p1), .val (.int p2)] [(.int b)])) (fun t ht => st5 t ht) ?_
      refine OFin.of (S' := T5.setTop (mkF m 21 #[.val (.ref a0), .val (.int p1), .val (.int p2)] [(.int p2), (.int b)])) (fun t ht => ?_) ?_
      · refine XS.iloadN X5.here hx rfl (hb hby dBy_20) rfl ?_
        exact ht
      by_cases hc6 : p2 < b
      · refine OFin.of (S' := T5.setTop (mkF m 29 #[.val (.ref a0), .val (.int p1), .val (.int p2)] [(.int (0 : Int32))])) (fun t ht => ?_) ?_
        · refine XS.icmpYes X5.here hx rfl (pc0 := 21) (pc' := 28) rfl (hb hby dBy_21) rfl (tlt (hc6 : p2 < b)).2.2.1 (by decide) (by decide) ?_
          show Steps p.tables e below (T5.setTop (mkF m 28 _ [])) _
          refine XS.iconst X5.here hx rfl (hb hby dBy_28) ?_
          exact ht
        exact OFin.retB X5 hx hlk (t := .boolean) (by simp) hret (hb hby dBy_29) (by decide) (by decide) (by rw [e5]; exact ⟨(by show some (Value.int (0 : Int32)) = _; simp [own_by, hc2, hc4, hc6]), N0, rfl⟩)
      · refine OFin.of (S' := T5.setTop (mkF m 29 #[.val (.ref a0), .val (.int p1), .val (.int p2)] [(.int (1 : Int32))])) (fun t ht => ?_) ?_
        · refine XS.icmpNo X5.here hx rfl (hb hby dBy_21) rfl (flt (hc6 : ¬ (p2 < b))).2.2.1 ?_
          show Steps p.tables e below (T5.setTop (mkF m 24 _ [])) _
          refine XS.iconst X5.here hx rfl (hb hby dBy_24) ?_
          show Steps p.tables e below (T5.setTop (mkF m 25 _ [(.int (1 : Int32))])) _
          refine XS.goto X5.here hx rfl (pc0 := 25) (pc' := 29) rfl (hb hby dBy_25) (by decide) (by decide) ?_
          exact ht
        exact OFin.retB X5 hx hlk (t := .boolean) (by simp) hret (hb hby dBy_29) (by decide) (by decide) (by rw [e5]; exact ⟨(by show some (Value.int (1 : Int32)) = _; simp [own_by, hc2, hc4, hc6]), N0, rfl⟩)
    · refine OFin.of (S' := T3.setTop (mkF m 29 #[.val (.ref a0), .val (.int p1), .val (.int p2)] [(.int (0 : Int32))])) (fun t ht => ?_) ?_
      · refine XS.icmpYes X3.here hx rfl (pc0 := 13) (pc' := 28) rfl (hb hby dBy_13) rfl (feq (hc4 : ¬ (a = p1))).2 (by decide) (by decide) ?_
        show Steps p.tables e below (T3.setTop (mkF m 28 _ [])) _
        refine XS.iconst X3.here hx rfl (hb hby dBy_28) ?_
        exact ht
      exact OFin.retB X3 hx hlk (t := .boolean) (by simp) hret (hb hby dBy_29) (by decide) (by decide) (by rw [e3]; exact ⟨(by show some (Value.int (0 : Int32)) = _; simp [own_by, hc2, hc4]), N0, rfl⟩)
theorem dKy_0 : decode method_3_code 0 = .ok (.iload_n 0, 1) := by decide +kernel
theorem dKy_1 : decode method_3_code 1 = .ok (.i2l, 1) := by decide +kernel
theorem dKy_2 : decode method_3_code 2 = .ok (.bipush 32, 2) := by decide +kernel
theorem dKy_4 : decode method_3_code 4 = .ok (.lshl, 1) := by decide +kernel
theorem dKy_5 : decode method_3_code 5 = .ok (.iload_n 1, 1) := by decide +kernel
theorem dKy_6 : decode method_3_code 6 = .ok (.i2l, 1) := by decide +kernel
theorem dKy_7 : decode method_3_code 7 = .ok (.ldc2_w 26, 3) := by decide +kernel
theorem dKy_10 : decode method_3_code 10 = .ok (.lsub, 1) := by decide +kernel
theorem dKy_11 : decode method_3_code 11 = .ok (.ladd, 1) := by decide +kernel
theorem dKy_12 : decode method_3_code 12 = .ok (.lreturn, 1) := by decide +kernel
theorem pnKy : plainName "com/example/kindred/kindred/marc/FaultByThenPinLaw" = true := by first | (simp [plainName, overriddenIn]; done) | decide +kernel
theorem efKy (m : MethodId) (p0 : Int32) (p1 : Int32) : entryFrame m #[(.int p0), (.int p1)] 2 = mkF m 0 #[.val (.int p0), .val (.int p1)] [] := by first | (simp [entryFrame, mkF, argsToLocals, Value.category]; done) | rfl
def QKy (Z : State) (p0 : Int32) (p1 : Int32) (h0 : Heap) (n0 : Nat) (v : Option Value) (h : Heap) (L : List Loc) : Prop := v = some (.long (own_key p0 p1)) ∧ Fr n0 L ∧ h = h0
set_option maxRecDepth 65536 in
set_option maxHeartbeats 40000000 in
theorem rmKy (l : Launch) (Z : State) (a0 : Array Value) (hw : ∀ d ∈ tables_1, d.before a0 Z = true) (ws : List Jvm.Cond) (p0 : Int32) (p1 : Int32) (h0 : Heap) (n0 : Nat) (Z0 : n0 ≤ h0.size)  :
    MetFree l (⟨"com/example/kindred/kindred/marc/FaultByThenPinLaw", "key", "(II)J"⟩ : MethodName) (head1 (Jvm.Cond.code (⟨"com/example/kindred/kindred/marc/FaultByThenPinLaw", "key", "(II)J"⟩ : MethodName) method_3_code 2 (some .long) :: ws) ({ frames := 0, cells := 0, slots := 0, locals := 0 } : Room)) (fun a U => a = #[(.int p0), (.int p1)] ∧ Z.Warmed39 U.vm ∧ U.heap = h0) (fun _ _ _ _ _ => True) (fun _ U o U' => ∃ v L, o = .returned v ∧ QKy Z p0 p1 h0 n0 v U'.heap L ∧ FrameEnd U o U' L ({ frames := 0, cells := 0, slots := 0, locals := 0 } : Room).cells ({ frames := 0, cells := 0, slots := 0, locals := 0 } : Room).slots) := by
  refine MetFree.of_bodySF (plainFor_of_name pnKy) hisR ?_
  intro p e s m args below meth c s₁ Bd hml0 hP hK
  obtain ⟨rfl, hZ, hh⟩ := hP
  have hx := Bd.exec
  have hby := Bd.bytes
  have hlk := BodyLoose.notSynchronized Bd
  have hret := Bd.returns
  have hml : c.maxLocals = 2 := hml0
  have hown : s.vm.findClass "com/example/kindred/kindred/marc/FaultByThenPinLaw" = some m.cls := findClass_of_methodNamed Bd.named
  have hnm := (name_of_methodNamed Bd.named Bd.method).1
  have X0 : Stand p l e ({ frames := 0, cells := 0, slots := 0, locals := 0 } : Room) s m #[(.int p0), (.int p1)] below meth c s₁ [] 0 0 := Stand.of_body Bd
  have e0 : s₁.heap = h0 := by rw [← hh, Bd.state]; rfl
  have N0 := Fr.nil n0
  show OFin p e below (KPost s (QKy Z p0 p1 h0 n0) ({ frames := 0, cells := 0, slots := 0, locals := 0 } : Room).cells ({ frames := 0, cells := 0, slots := 0, locals := 0 } : Room).slots) _
  rw [efKy m p0 p1]
  refine OFin.of (S' := s₁.setTop (mkF m 12 #[.val (.int p0), .val (.int p1)] [(.long (((p0.toInt64) <<< ((32 : Int32) &&& 0x3f).toInt64) + ((p1.toInt64) - (-2147483648 : Int64))))])) (fun t ht => ?_) ?_
  · refine XS.iloadN X0.here hx rfl (hb hby dKy_0) rfl ?_
    show Steps p.tables e below (s₁.setTop (mkF m 1 _ [(.int p0)])) _
    refine XS.i2l X0.here hx rfl (hb hby dKy_1) rfl ?_
    show Steps p.tables e below (s₁.setTop (mkF m 2 _ [(.long (p0.toInt64))])) _
    refine XS.bipush X0.here hx rfl (hb hby dKy_2) ?_
    show Steps p.tables e below (s₁.setTop (mkF m 4 _ [(.int (32 : Int32)), (.long (p0.toInt64))])) _
    refine XS.lshl X0.here hx rfl (hb hby dKy_4) rfl ?_
    show Steps p.tables e below (s₁.setTop (mkF m 5 _ [(.long ((p0.toInt64) <<< ((32 : Int32) &&& 0x3f).toInt64))])) _
    refine XS.iloadN X0.here hx rfl (hb hby dKy_5) rfl ?_
    show Steps p.tables e below (s₁.setTop (mkF m 6 _ [(.int p1), (.long ((p0.toInt64) <<< ((32 : Int32) &&& 0x3f).toInt64))])) _
    refine XS.i2l X0.here hx rfl (hb hby dKy_6) rfl ?_
    show Steps p.tables e below (s₁.setTop (mkF m 7 _ [(.long (p1.toInt64)), (.long ((p0.toInt64) <<< ((32 : Int32) &&& 0x3f).toInt64))])) _
    refine X0.ldc2Long hx hown (mvT hZ (hw _ (List.mem_of_getElem? (i := 37) rfl))) (g := (mkF m 7 #[.val (.int p0), .val (.int p1)] [(.long (p1.toInt64)), (.long ((p0.toInt64) <<< ((32 : Int32) &&& 0x3f).toInt64))])) rfl (hb hby dKy_7) _ ?_
    show Steps p.tables e below (s₁.setTop (mkF m 10 _ [(.long (-2147483648 : Int64)), (.long (p1.toInt64)), (.long ((p0.toInt64) <<< ((32 : Int32) &&& 0x3f).toInt64))])) _
    refine XS.lsub X0.here hx rfl (hb hby dKy_10) rfl ?_
    show Steps p.tables e below (s₁.setTop (mkF m 11 _ [(.long ((p1.toInt64) - (-2147483648 : Int64))), (.long ((p0.toInt64) <<< ((32 : Int32) &&& 0x3f).toInt64))])) _
    refine XS.ladd X0.here hx rfl (hb hby dKy_11) rfl ?_
    exact ht
  exact OFin.retJ X0 hx hlk hret (hb hby dKy_12) (by decide) (by decide) (by rw [e0]; exact ⟨(by show some (Value.long (((p0.toInt64) <<< ((32 : Int32) &&& 0x3f).toInt64) + ((p1.toInt64) - (-2147483648 : Int64)))) = _; rfl), N0, rfl⟩)
theorem pn0 : plainName "com/example/kindred/kindred/marc/FaultByThenPinLaw" = true := by first | (simp [plainName, overriddenIn]; done) | decide +kernel
theorem ef0 (m : MethodId) (p0 : Int32) (p1 : Int32) (p2 : Int32) (p3 : Int32) (p4 : Int32) : entryFrame m #[(.int p0), (.int p1), (.int p2), (.int p3), (.int p4)] maxLocals = mkF m 0 #[.val (.int p0), .val (.int p1), .val (.int p2), .val (.int p3), .val (.int p4), .unset, .unset, .unset, .unset, .unset, .unset] [] := by first | (simp [entryFrame, mkF, argsToLocals, Value.category, maxLocals]; done) | rfl
def Q0 (Z : State) (p0 : Int32) (p1 : Int32) (p2 : Int32) (p3 : Int32) (p4 : Int32) (h0 : Heap) (n0 : Nat) (v : Option Value) (h : Heap) (L : List Loc) : Prop := v = some (.int (1 : Int32)) ∧ Fr n0 L
set_option maxRecDepth 65536 in
set_option maxHeartbeats 40000000 in
theorem rm0 (l : Launch) (Z : State) (a0 : Array Value) (hw : ∀ d ∈ tables_1, d.before a0 Z = true) (ws : List Jvm.Cond) (p0 : Int32) (p1 : Int32) (p2 : Int32) (p3 : Int32) (p4 : Int32) (h0 : Heap) (n0 : Nat) (Z0 : n0 ≤ h0.size)  :
    MetFree l x (head1 (Jvm.Cond.code x code maxLocals ret :: ws) room_1) (fun a U => a = #[(.int p0), (.int p1), (.int p2), (.int p3), (.int p4)] ∧ Z.Warmed39 U.vm ∧ U.heap = h0) (fun _ _ _ _ _ => True) (fun _ U o U' => ∃ v L, o = .returned v ∧ Q0 Z p0 p1 p2 p3 p4 h0 n0 v U'.heap L ∧ ReturnedEndW U o U' L room_1.cells room_1.slots) := by
  refine MetFree.of_bodySF (plainFor_of_name pn0) hisR ?_
  intro p e s m args below meth c s₁ Bd hml0 hP hK
  obtain ⟨rfl, hZ, hh⟩ := hP
  have hx := Bd.exec
  have hby := Bd.bytes
  have hlk := BodyLoose.notSynchronized Bd
  have hret := Bd.returns
  have hml : c.maxLocals = 11 := hml0
  have hown : s.vm.findClass "com/example/kindred/kindred/marc/FaultByThenPinLaw" = some m.cls := findClass_of_methodNamed Bd.named
  have hnm := (name_of_methodNamed Bd.named Bd.method).1
  have X0 : Stand p l e room_1 s m #[(.int p0), (.int p1), (.int p2), (.int p3), (.int p4)] below meth c s₁ [] 0 0 := Stand.of_body Bd
  have e0 : s₁.heap = h0 := by rw [← hh, Bd.state]; rfl
  have N0 := Fr.nil n0
  show OFin p e below (KPostW s (Q0 Z p0 p1 p2 p3 p4 h0 n0) room_1.cells room_1.slots) _
  rw [ef0 m p0 p1 p2 p3 p4]
  refine OFin.of (S' := s₁.setTop (mkF m 4 #[.val (.int p0), .val (.int p1), .val (.int p2), .val (.int p3), .val (.int p4), .unset, .unset, .unset, .unset, .unset, .unset] [(.int (p4 &&& (3 : Int32)))])) (fun t ht => ?_) ?_
  · refine XS.iload X0.here hx rfl (hb hby at_0) rfl ?_
    show Steps p.tables e below (s₁.setTop (mkF m 2 _ [(.int p4)])) _
    refine XS.iconst X0.here hx rfl (hb hby at_2) ?_
    show Steps p.tables e below (s₁.setTop (mkF m 3 _ [(.int (3 : Int32)), (.int p4)])) _
    refine XS.iand X0.here hx rfl (hb hby at_3) rfl ?_
    exact ht
  rcases (own_and3 _ : (p4 &&& (3 : Int32)) = (0 : Int32) ∨ (p4 &&& (3 : Int32)) = (1 : Int32) ∨ (p4 &&& (3 : Int32)) = (2 : Int32) ∨ (p4 &&& (3 : Int32)) = (3 : Int32)) with hq1 | hq1 | hq1 | hq1
  · rw [hq1]
    refine OFin.of (S' := s₁.setTop (mkF m 44 #[.val (.int p0), .val (.int p1), .val (.int p2), .val (.int p3), .val (.int p4), .val (.int (0 : Int32)), .val (.int p2), .val (.int p3), .unset, .unset, .unset] [])) (fun t ht => ?_) ?_
    · refine XS.istore X0.here hx rfl (hb hby at_4) rfl (l' := #[.val (.int p0), .val (.int p1), .val (.int p2), .val (.int p3), .val (.int p4), .val (.int (0 : Int32)), .unset, .unset, .unset, .unset, .unset]) rfl ?_
      show Steps p.tables e below (s₁.setTop (mkF m 6 #[.val (.int p0), .val (.int p1), .val (.int p2), .val (.int p3), .val (.int p4), .val (.int (0 : Int32)), .unset, .unset, .unset, .unset, .unset] [])) _
      refine XS.iload X0.here hx rfl (hb hby at_6) rfl ?_
      show Steps p.tables e below (s₁.setTop (mkF m 8 _ [(.int (0 : Int32))])) _
      refine XS.iconst X0.here hx rfl (hb hby at_8) ?_
      show Steps p.tables e below (s₁.setTop (mkF m 9 _ [(.int (1 : Int32)), (.int (0 : Int32))])) _
      refine XS.icmpNo X0.here hx rfl (hb hby at_9) rfl (feq (by decide : ¬ ((0 : Int32) = (1 : Int32)))).1 ?_
      show Steps p.tables e below (s₁.setTop (mkF m 12 _ [])) _
      refine XS.iload X0.here hx rfl (hb hby at_12) rfl ?_
      show Steps p.tables e below (s₁.setTop (mkF m 14 _ [(.int (0 : Int32))])) _
      refine XS.iconst X0.here hx rfl (hb hby at_14) ?_
      show Steps p.tables e below (s₁.setTop (mkF m 15 _ [(.int (2 : Int32)), (.int (0 : Int32))])) _
      refine XS.icmpYes X0.here hx rfl (pc0 := 15) (pc' := 22) rfl (hb hby at_15) rfl (feq (by decide : ¬ ((0 : Int32) = (2 : Int32)))).2 (by decide) (by decide) ?_
      show Steps p.tables e below (s₁.setTop (mkF m 22 _ [])) _
      refine XS.iloadN X0.here hx rfl (hb hby at_22) rfl ?_
      show Steps p.tables e below (s₁.setTop (mkF m 23 _ [(.int p2)])) _
      refine XS.istore X0.here hx rfl (hb hby at_23) rfl (l' := #[.val (.int p0), .val (.int p1), .val (.int p2), .val (.int p3), .val (.int p4), .val (.int (0 : Int32)), .val (.int p2), .unset, .unset, .unset, .unset]) rfl ?_
      show Steps p.tables e below (s₁.setTop (mkF m 25 #[.val (.int p0), .val (.int p1), .val (.int p2), .val (.int p3), .val (.int p4), .val (.int (0 : Int32)), .val (.int p2), .unset, .unset, .unset, .unset] [])) _
      refine XS.iload X0.here hx rfl (hb hby at_25) rfl ?_
      show Steps p.tables e below (s₁.setTop (mkF m 27 _ [(.int (0 : Int32))])) _
      refine XS.iconst X0.here hx rfl (hb hby at_27) ?_
      show Steps p.tables e below (s₁.setTop (mkF m 28 _ [(.int (2 : Int32)), (.int (0 : Int32))])) _
      refine XS.icmpNo X0.here hx rfl (hb hby at_28) rfl (feq (by decide : ¬ ((0 : Int32) = (2 : Int32)))).1 ?_
      show Steps p.tables e below (s₁.setTop (mkF m 31 _ [])) _
      refine XS.iload X0.here hx rfl (hb hby at_31) rfl ?_
      show Steps p.tables e below (s₁.setTop (mkF m 33 _ [(.int (0 : Int32))])) _
      refine XS.iconst X0.here hx rfl (hb hby at_33) ?_
      show Steps p.tables e below (s₁.setTop (mkF m 34 _ [(.int (3 : Int32)), (.int (0 : Int32))])) _
      refine XS.icmpYes X0.here hx rfl (pc0 := 34) (pc' := 41) rfl (hb hby at_34) rfl (feq (by decide : ¬ ((0 : Int32) = (3 : Int32)))).2 (by decide) (by decide) ?_
      show Steps p.tables e below (s₁.setTop (mkF m 41 _ [])) _
      refine XS.iloadN X0.here hx rfl (hb hby at_41) rfl ?_
      show Steps p.tables e below (s₁.setTop (mkF m 42 _ [(.int p3)])) _
      refine XS.istore X0.here hx rfl (hb hby at_42) rfl (l' := #[.val (.int p0), .val (.int p1), .val (.int p2), .val (.int p3), .val (.int p4), .val (.int (0 : Int32)), .val (.int p2), .val (.int p3), .unset, .unset, .unset]) rfl ?_
      exact ht
    obtain ⟨T2, h2, X2, e2, E2, A2, D2, -, st2⟩ := newO X0 hx hZ hown (hw _ (List.mem_of_getElem? (i := 0) rfl)) (hw _ (List.mem_of_getElem? (i := 1) rfl)) (hw _ (List.mem_of_getElem? (i := 2) rfl)) e0 (g := (mkF m 44 #[.val (.int p0), .val (.int p1), .val (.int p2), .val (.int p3), .val (.int p4), .val (.int (0 : Int32)), .val (.int p2), .val (.int p3), .unset, .unset, .unset] [])) rfl (hb hby at_44) (by decide) (by decide)
    obtain ⟨b2, gq2⟩ : ∃ z, z = h0.size := ⟨_, rfl⟩
    rw [← gq2] at A2 D2 st2
    have g3 : n0 ≤ b2 := (Nat.le_trans Z0 (Nat.le_of_eq gq2.symm))
    have Z4 : n0 ≤ h2.size := (Nat.le_trans Z0 E2.1)
    have f5 : Fld Z h2 b2 "com/example/kindred/kindred/marc/XmlText$Fault" "line" "I" (.int (0 : Int32)) := D2 (Or.inr (hw _ (List.mem_of_getElem? (i := 23) rfl))) (ty := .int) (by decide)
    have f6 : Fld Z h2 b2 "com/example/kindred/kindred/marc/XmlText$Fault" "column" "I" (.int (0 : Int32)) := D2 (Or.inr (hw _ (List.mem_of_getElem? (i := 25) rfl))) (ty := .int) (by decide)
    have f7 : Fld Z h2 b2 "com/example/kindred/kindred/marc/XmlText$Fault" "reason" "Ljava/lang/String;" .null := D2 (Or.inr (hw _ (List.mem_of_getElem? (i := 27) rfl))) (ty := (.object "java/lang/String")) (by decide)
    refine OFin.of (S' := T2.setTop (mkF m 47 #[.val (.int p0), .val (.int p1), .val (.int p2), .val (.int p3), .val (.int p4), .val (.int (0 : Int32)), .val (.int p2), .val (.int p3), .unset, .unset, .unset] [(.ref b2)])) (fun t ht => st2 t ht) ?_
    refine OFin.of (S' := T2.setTop (mkF m 50 #[.val (.int p0), .val (.int p1), .val (.int p2), .val (.int p3), .val (.int p4), .val (.int (0 : Int32)), .val (.int p2), .val (.int p3), .unset, .unset, .unset] [(.int p1), (.int p0), (.ref b2), (.ref b2)])) (fun t ht => ?_) ?_
    · refine XS.dup X2.here hx rfl (hb hby at_47) rfl rfl ?_
      show Steps p.tables e below (T2.setTop (mkF m 48 _ [(.ref b2), (.ref b2)])) _
      refine XS.iloadN X2.here hx rfl (hb hby at_48) rfl ?_
      show Steps p.tables e below (T2.setTop (mkF m 49 _ [(.int p0), (.ref b2), (.ref b2)])) _
      refine XS.iloadN X2.here hx rfl (hb hby at_49) rfl ?_
      exact ht
    obtain ⟨a8, T8, h8, k8, X8, e8, E8, S8, K8, hZ8, hown8, st8⟩ := ldcS (s := s) (vm0 := s.vm) X2 hx hZ hown (hw _ (List.mem_of_getElem? (i := 3) rfl)) (own_strAtoms hw) e2 ((State.WarmedH.refl s).since h2.size) (Nat.le_refl _) (g := (mkF m 50 #[.val (.int p0), .val (.int p1), .val (.int p2), .val (.int p3), .val (.int p4), .val (.int (0 : Int32)), .val (.int p2), .val (.int p3), .unset, .unset, .unset] [(.int p1), (.int p0), (.ref b2), (.ref b2)])) rfl (hb hby at_50) (n := 4) (by decide) (by decide) (by decide) (by decide)
    have f9 := A2.ext E8
    have f10 := f5.ext E8
    have f11 := f6.ext E8
    have f12 := f7.ext E8
    have Z13 : n0 ≤ h8.size := (Nat.le_trans Z4 E8.1)
    refine OFin.of (S' := T8.setTop (mkF m 52 #[.val (.int p0), .val (.int p1), .val (.int p2), .val (.int p3), .val (.int p4), .val (.int (0 : Int32)), .val (.int p2), .val (.int p3), .unset, .unset, .unset] [(.ref a8), (.int p1), (.int p0), (.ref b2), (.ref b2)])) (fun t ht => st8 t ht) ?_
    obtain ⟨_, _, ⟨T14, L14, k14, n14⟩, -, X14, ⟨Lc14, hQ14, l14, y14, z14⟩, st14⟩ := X8.specialBack hx (y := (⟨"com/example/kindred/kindred/marc/XmlText$Fault", "<init>", "(IILjava/lang/String;)V"⟩ : MethodName)) rfl hown8 (mvT hZ8 (hw _ (List.mem_of_getElem? (i := 11) rfl))) (mvT hZ8 (hw _ (List.mem_of_getElem? (i := 12) rfl))) (mvT hZ8 (hw _ (List.mem_of_getElem? (i := 13) rfl))) (by decide) (backOf (W := 1) (rmIni l Z _ hw [] b2 p0 p1 a8 h8 n0 Z13 f9 f10 f11 f12 g3) hZ8 (hw _ (List.mem_of_getElem? (i := 13) rfl)) (hw _ (List.mem_of_getElem? (i := 2) rfl)) (by decide) (by decide)) (g := (mkF m 52 #[.val (.int p0), .val (.int p1), .val (.int p2), .val (.int p3), .val (.int p4), .val (.int (0 : Int32)), .val (.int p2), .val (.int p3), .unset, .unset, .unset] [(.ref a8), (.int p1), (.int p0), (.ref b2), (.ref b2)])) rfl (by rw [hml]; rfl) (Steps.refl _) (a := b2) (argsL := [(.int p0), (.int p1), (.ref a8)]) (rest := [(.ref b2)]) (lenOf pd_1 rfl) rfl (by show 2 * 0 + _ ≤ _; exact Nat.le_of_eq rfl) (hb hby at_52) (fun _ _ => ⟨rfl, e8, (by decide : 3 + 0 ≤ _), (by decide : 11 + 0 ≤ _)⟩)
    dsimp only [Pt.U, Pt.locs, Pt.cells, Pt.slots] at X14 l14 y14 z14 st14 hQ14
    subst l14 y14 z14
    obtain ⟨rfl, Nq14, Kq14, f15, f16, f17⟩ := hQ14
    have N18 := Fr.app N0 Nq14
    have f19 := (f9.keep Kq14)
    have Z20 : n0 ≤ T14.heap.size := (Nat.le_trans Z13 Kq14.1)
    have kk21 : k8 ≤ T14.heap.size := (Nat.le_trans K8 Kq14.1)
    refine OFin.to (S' := T14.setTop (mkF m 55 #[.val (.int p0), .val (.int p1), .val (.int p2), .val (.int p3), .val (.int p4), .val (.int (0 : Int32)), .val (.int p2), .val (.int p3), .unset, .unset, .unset] [(.ref b2)])) st14 ?_
    refine OFin.of (S' := T14.setTop (mkF m 63 #[.val (.int p0), .val (.int p1), .val (.int p2), .val (.int p3), .val (.int p4), .val (.int (0 : Int32)), .val (.int p2), .val (.int p3), .val (.ref b2), .unset, .unset] [(.int p3), (.int p2), (.ref b2)])) (fun t ht => ?_) ?_
    · refine XS.astore X14.here hx rfl (hb hby at_55) rfl rfl (l' := #[.val (.int p0), .val (.int p1), .val (.int p2), .val (.int p3), .val (.int p4), .val (.int (0 : Int32)), .val (.int p2), .val (.int p3), .val (.ref b2), .unset, .unset]) rfl ?_
      show Steps p.tables e below (T14.setTop (mkF m 57 #[.val (.int p0), .val (.int p1), .val (.int p2), .val (.int p3), .val (.int p4), .val (.int (0 : Int32)), .val (.int p2), .val (.int p3), .val (.ref b2), .unset, .unset] [])) _
      refine XS.aload X14.here hx rfl (hb hby at_57) rfl rfl ?_
      show Steps p.tables e below (T14.setTop (mkF m 59 _ [(.ref b2)])) _
      refine XS.iload X14.here hx rfl (hb hby at_59) rfl ?_
      show Steps p.tables e below (T14.setTop (mkF m 61 _ [(.int p2), (.ref b2)])) _
      refine XS.iload X14.here hx rfl (hb hby at_61) rfl ?_
      exact ht
    obtain ⟨cq23, kq23, q23a, q23b, q23c⟩ := isOf hZ8 (rfl : T14.heap = T14.heap) f19
    obtain ⟨_, _, ⟨T22, L22, k22, n22⟩, -, X22, ⟨Lc22, hQ22, l22, y22, z22⟩, st22⟩ := X14.virtualBack hx (y := (⟨"com/example/kindred/kindred/marc/XmlText$Fault", "byThen", "(II)Z"⟩ : MethodName)) (z := (⟨"com/example/kindred/kindred/marc/XmlText$Fault", "byThen", "(II)Z"⟩ : MethodName)) hown8 (mvT hZ8 (hw _ (List.mem_of_getElem? (i := 28) rfl))) (mvT hZ8 (hw _ (List.mem_of_getElem? (i := 29) rfl))) (notFace_of_selects (args := #[]) (mvT hZ8 (hw _ (List.mem_of_getElem? (i := 31) rfl)))) (mvT hZ8 (hw _ (List.mem_of_getElem? (i := 31) rfl))) (mvT hZ8 (hw _ (List.mem_of_getElem? (i := 30) rfl))) (by decide) (backOf (W := 0) (rmBy l Z _ hw [] b2 p2 p3 p0 p1 T14.heap n0 Z20 f15 f16) hZ8 (hw _ (List.mem_of_getElem? (i := 32) rfl)) (hw _ (List.mem_of_getElem? (i := 2) rfl)) (by decide) (by decide)) q23a q23c (g := (mkF m 63 #[.val (.int p0), .val (.int p1), .val (.int p2), .val (.int p3), .val (.int p4), .val (.int (0 : Int32)), .val (.int p2), .val (.int p3), .val (.ref b2), .unset, .unset] [(.int p3), (.int p2), (.ref b2)])) rfl (by rw [hml]; rfl) (Steps.refl _) (argsL := [(.int p2), (.int p3)]) (rest := []) (lenOf pd_2 rfl) rfl (by show 2 * 0 + _ ≤ _; exact Nat.le_of_eq rfl) (hb hby at_63) (fun _ _ => ⟨rfl, (rfl : T14.heap = T14.heap), (by decide : 3 + 0 ≤ _), (by decide : 11 + 0 ≤ _)⟩)
    dsimp only [Pt.U, Pt.locs, Pt.cells, Pt.slots] at X22 l22 y22 z22 st22 hQ22
    subst l22 y22 z22
    obtain ⟨rfl, Nq22, hs22⟩ := hQ22
    have N24 := Fr.app N18 Nq22
    refine OFin.to (S' := T22.setTop (mkF m 66 #[.val (.int p0), .val (.int p1), .val (.int p2), .val (.int p3), .val (.int p4), .val (.int (0 : Int32)), .val (.int p2), .val (.int p3), .val (.ref b2), .unset, .unset] [(.int (own_by p0 p1 p2 p3))])) st22 ?_
    refine OFin.of (S' := T22.setTop (mkF m 70 #[.val (.int p0), .val (.int p1), .val (.int p2), .val (.int p3), .val (.int p4), .val (.int (0 : Int32)), .val (.int p2), .val (.int p3), .val (.ref b2), .val (.int (own_by p0 p1 p2 p3)), .unset] [(.int p1), (.int p0)])) (fun t ht => ?_) ?_
    · refine XS.istore X22.here hx rfl (hb hby at_66) rfl (l' := #[.val (.int p0), .val (.int p1), .val (.int p2), .val (.int p3), .val (.int p4), .val (.int (0 : Int32)), .val (.int p2), .val (.int p3), .val (.ref b2), .val (.int (own_by p0 p1 p2 p3)), .unset]) rfl ?_
      show Steps p.tables e below (T22.setTop (mkF m 68 #[.val (.int p0), .val (.int p1), .val (.int p2), .val (.int p3), .val (.int p4), .val (.int (0 : Int32)), .val (.int p2), .val (.int p3), .val (.ref b2), .val (.int (own_by p0 p1 p2 p3)), .unset] [])) _
      refine XS.iloadN X22.here hx rfl (hb hby at_68) rfl ?_
      show Steps p.tables e below (T22.setTop (mkF m 69 _ [(.int p0)])) _
      refine XS.iloadN X22.here hx rfl (hb hby at_69) rfl ?_
      exact ht
    obtain ⟨_, _, ⟨T25, L25, k25, n25⟩, -, X25, ⟨Lc25, hQ25, l25, y25, z25⟩, st25⟩ := Jvm.LawKit.callS X22 hx (y := (⟨"com/example/kindred/kindred/marc/FaultByThenPinLaw", "key", "(II)J"⟩ : MethodName)) hown8 (mvT hZ8 (hw _ (List.mem_of_getElem? (i := 33) rfl))) (mvT hZ8 (hw _ (List.mem_of_getElem? (i := 34) rfl))) (mvT hZ8 (hw _ (List.mem_of_getElem? (i := 35) rfl))) (mvT hZ8 (hw _ (List.mem_of_getElem? (i := 36) rfl))) (by decide) (backOf (W := 0) (rmKy l Z _ hw [] p0 p1 T14.heap n0 Z20 ) hZ8 (hw _ (List.mem_of_getElem? (i := 36) rfl)) (hw _ (List.mem_of_getElem? (i := 35) rfl)) (by decide) (by decide)) (g := (mkF m 70 #[.val (.int p0), .val (.int p1), .val (.int p2), .val (.int p3), .val (.int p4), .val (.int (0 : Int32)), .val (.int p2), .val (.int p3), .val (.ref b2), .val (.int (own_by p0 p1 p2 p3)), .unset] [(.int p1), (.int p0)])) rfl (by rw [hml]; rfl) (argsL := [(.int p0), (.int p1)]) (rest := []) (lenOf pd_3 rfl) rfl (by show 2 * 0 + _ ≤ _; exact Nat.le_of_eq rfl) (hb hby at_70) (fun _ _ => ⟨rfl, hs22, (by decide : 3 + 0 ≤ _), (by decide : 11 + 0 ≤ _)⟩)
    dsimp only [Pt.U, Pt.locs, Pt.cells, Pt.slots] at X25 l25 y25 z25 st25 hQ25
    subst l25 y25 z25
    obtain ⟨rfl, Nq25, hs25⟩ := hQ25
    have N26 := Fr.app N24 Nq25
    refine OFin.of (S' := T25.setTop (mkF m 73 #[.val (.int p0), .val (.int p1), .val (.int p2), .val (.int p3), .val (.int p4), .val (.int (0 : Int32)), .val (.int p2), .val (.int p3), .val (.ref b2), .val (.int (own_by p0 p1 p2 p3)), .unset] [(.long (own_key p0 p1))])) (fun t ht => st25 t ht) ?_
    refine OFin.of (S' := T25.setTop (mkF m 77 #[.val (.int p0), .val (.int p1), .val (.int p2), .val (.int p3), .val (.int p4), .val (.int (0 : Int32)), .val (.int p2), .val (.int p3), .val (.ref b2), .val (.int (own_by p0 p1 p2 p3)), .unset] [(.int p3), (.int p2), (.long (own_key p0 p1))])) (fun t ht => ?_) ?_
    · refine XS.iload X25.here hx rfl (hb hby at_73) rfl ?_
      show Steps p.tables e below (T25.setTop (mkF m 75 _ [(.int p2), (.long (own_key p0 p1))])) _
      refine XS.iload X25.here hx rfl (hb hby at_75) rfl ?_
      exact ht
    obtain ⟨_, _, ⟨T27, L27, k27, n27⟩, -, X27, ⟨Lc27, hQ27, l27, y27, z27⟩, st27⟩ := Jvm.LawKit.callS X25 hx (y := (⟨"com/example/kindred/kindred/marc/FaultByThenPinLaw", "key", "(II)J"⟩ : MethodName)) hown8 (mvT hZ8 (hw _ (List.mem_of_getElem? (i := 33) rfl))) (mvT hZ8 (hw _ (List.mem_of_getElem? (i := 34) rfl))) (mvT hZ8 (hw _ (List.mem_of_getElem? (i := 35) rfl))) (mvT hZ8 (hw _ (List.mem_of_getElem? (i := 36) rfl))) (by decide) (backOf (W := 2) (rmKy l Z _ hw [] p2 p3 T14.heap n0 Z20 ) hZ8 (hw _ (List.mem_of_getElem? (i := 36) rfl)) (hw _ (List.mem_of_getElem? (i := 35) rfl)) (by decide) (by decide)) (g := (mkF m 77 #[.val (.int p0), .val (.int p1), .val (.int p2), .val (.int p3), .val (.int p4), .val (.int (0 : Int32)), .val (.int p2), .val (.int p3), .val (.ref b2), .val (.int (own_by p0 p1 p2 p3)), .unset] [(.int p3), (.int p2), (.long (own_key p0 p1))])) rfl (by rw [hml]; rfl) (argsL := [(.int p2), (.int p3)]) (rest := [(.long (own_key p0 p1))]) (lenOf pd_3 rfl) rfl (by show 2 * 0 + _ ≤ _; exact Nat.le_of_eq rfl) (hb hby at_77) (fun _ _ => ⟨rfl, hs25, (by decide : 3 + 0 ≤ _), (by decide : 11 + 0 ≤ _)⟩)
    dsimp only [Pt.U, Pt.locs, Pt.cells, Pt.slots] at X27 l27 y27 z27 st27 hQ27
    subst l27 y27 z27
    obtain ⟨rfl, Nq27, hs27⟩ := hQ27
    have N28 := Fr.app N26 Nq27
    refine OFin.of (S' := T27.setTop (mkF m 80 #[.val (.int p0), .val (.int p1), .val (.int p2), .val (.int p3), .val (.int p4), .val (.int (0 : Int32)), .val (.int p2), .val (.int p3), .val (.ref b2), .val (.int (own_by p0 p1 p2 p3)), .unset] [(.long (own_key p2 p3)), (.long (own_key p0 p1))])) (fun t ht => st27 t ht) ?_
    refine OFin.of (S' := T27.setTop (mkF m 81 #[.val (.int p0), .val (.int p1), .val (.int p2), .val (.int p3), .val (.int p4), .val (.int (0 : Int32)), .val (.int p2), .val (.int p3), .val (.ref b2), .val (.int (own_by p0 p1 p2 p3)), .unset] [(.int (lcmpW (own_key p0 p1) (own_key p2 p3)))])) (fun t ht => ?_) ?_
    · refine XS.lcmp X27.here hx rfl (hb hby at_80) rfl ?_
      exact ht
    by_cases hc29 : (0 : Int32) < (lcmpW (own_key p0 p1) (own_key p2 p3))
    · refine OFin.of (S' := T27.setTop (mkF m 103 #[.val (.int p0), .val (.int p1), .val (.int p2), .val (.int p3), .val (.int p4), .val (.int (0 : Int32)), .val (.int p2), .val (.int p3), .val (.ref b2), .val (.int (own_by p0 p1 p2 p3)), .val (.int (0 : Int32))] [(.int (1 : Int32))])) (fun t ht => ?_) ?_
      · refine XS.ifYes X27.here hx rfl (pc0 := 81) (pc' := 88) rfl (hb hby at_81) rfl ((if0 _ _).trans (tlt (hc29 : (0 : Int32) < (lcmpW (own_key p0 p1) (own_key p2 p3)))).2.2.1) (by decide) (by decide) ?_
        show Steps p.tables e below (T27.setTop (mkF m 88 _ [])) _
        refine XS.iconst X27.here hx rfl (hb hby at_88) ?_
        show Steps p.tables e below (T27.setTop (mkF m 89 _ [(.int (0 : Int32))])) _
        refine XS.istore X27.here hx rfl (hb hby at_89) rfl (l' := #[.val (.int p0), .val (.int p1), .val (.int p2), .val (.int p3), .val (.int p4), .val (.int (0 : Int32)), .val (.int p2), .val (.int p3), .val (.ref b2), .val (.int (own_by p0 p1 p2 p3)), .val (.int (0 : Int32))]) rfl ?_
        show Steps p.tables e below (T27.setTop (mkF m 91 #[.val (.int p0), .val (.int p1), .val (.int p2), .val (.int p3), .val (.int p4), .val (.int (0 : Int32)), .val (.int p2), .val (.int p3), .val (.ref b2), .val (.int (own_by p0 p1 p2 p3)), .val (.int (0 : Int32))] [])) _
        refine XS.iload X27.here hx rfl (hb hby at_91) rfl ?_
        show Steps p.tables e below (T27.setTop (mkF m 93 _ [(.int (own_by p0 p1 p2 p3))])) _
        refine XS.iload X27.here hx rfl (hb hby at_93) rfl ?_
        show Steps p.tables e below (T27.setTop (mkF m 95 _ [(.int (0 : Int32)), (.int (own_by p0 p1 p2 p3))])) _
        refine XS.icmpNo X27.here hx rfl (hb hby at_95) rfl (teq (own_g0 hc29 : (own_by p0 p1 p2 p3) = (0 : Int32))).2 ?_
        show Steps p.tables e below (T27.setTop (mkF m 98 _ [])) _
        refine XS.iconst X27.here hx rfl (hb hby at_98) ?_
        show Steps p.tables e below (T27.setTop (mkF m 99 _ [(.int (1 : Int32))])) _
        refine XS.goto X27.here hx rfl (pc0 := 99) (pc' := 103) rfl (hb hby at_99) (by decide) (by decide) ?_
        exact ht
      exact OFin.retBW (s := s) (vm₁ := T8.vm) X27 S8 (by rw [hs27]; exact kk21) hx hlk (t := .boolean) (by simp) hret (hb hby at_103) (by decide) (by decide) (by rw [hs27]; exact ⟨rfl, N28⟩)
    · refine OFin.of (S' := T27.setTop (mkF m 103 #[.val (.int p0), .val (.int p1), .val (.int p2), .val (.int p3), .val (.int p4), .val (.int (0 : Int32)), .val (.int p2), .val (.int p3), .val (.ref b2), .val (.int (own_by p0 p1 p2 p3)), .val (.int (1 : Int32))] [(.int (1 : Int32))])) (fun t ht => ?_) ?_
      · refine XS.ifNo X27.here hx rfl (hb hby at_81) rfl ((if0 _ _).trans (flt (hc29 : ¬ ((0 : Int32) < (lcmpW (own_key p0 p1) (own_key p2 p3))))).2.2.1) ?_
        show Steps p.tables e below (T27.setTop (mkF m 84 _ [])) _
        refine XS.iconst X27.here hx rfl (hb hby at_84) ?_
        show Steps p.tables e below (T27.setTop (mkF m 85 _ [(.int (1 : Int32))])) _
        refine XS.goto X27.here hx rfl (pc0 := 85) (pc' := 89) rfl (hb hby at_85) (by decide) (by decide) ?_
        show Steps p.tables e below (T27.setTop (mkF m 89 _ [(.int (1 : Int32))])) _
        refine XS.istore X27.here hx rfl (hb hby at_89) rfl (l' := #[.val (.int p0), .val (.int p1), .val (.int p2), .val (.int p3), .val (.int p4), .val (.int (0 : Int32)), .val (.int p2), .val (.int p3), .val (.ref b2), .val (.int (own_by p0 p1 p2 p3)), .val (.int (1 : Int32))]) rfl ?_
        show Steps p.tables e below (T27.setTop (mkF m 91 #[.val (.int p0), .val (.int p1), .val (.int p2), .val (.int p3), .val (.int p4), .val (.int (0 : Int32)), .val (.int p2), .val (.int p3), .val (.ref b2), .val (.int (own_by p0 p1 p2 p3)), .val (.int (1 : Int32))] [])) _
        refine XS.iload X27.here hx rfl (hb hby at_91) rfl ?_
        show Steps p.tables e below (T27.setTop (mkF m 93 _ [(.int (own_by p0 p1 p2 p3))])) _
        refine XS.iload X27.here hx rfl (hb hby at_93) rfl ?_
        show Steps p.tables e below (T27.setTop (mkF m 95 _ [(.int (1 : Int32)), (.int (own_by p0 p1 p2 p3))])) _
        refine XS.icmpNo X27.here hx rfl (hb hby at_95) rfl (teq (own_g1 hc29 : (own_by p0 p1 p2 p3) = (1 : Int32))).2 ?_
        show Steps p.tables e below (T27.setTop (mkF m 98 _ [])) _
        refine XS.iconst X27.here hx rfl (hb hby at_98) ?_
        show Steps p.tables e below (T27.setTop (mkF m 99 _ [(.int (1 : Int32))])) _
        refine XS.goto X27.here hx rfl (pc0 := 99) (pc' := 103) rfl (hb hby at_99) (by decide) (by decide) ?_
        exact ht
      exact OFin.retBW (s := s) (vm₁ := T8.vm) X27 S8 (by rw [hs27]; exact kk21) hx hlk (t := .boolean) (by simp) hret (hb hby at_103) (by decide) (by decide) (by rw [hs27]; exact ⟨rfl, N28⟩)
  · rw [hq1]
    refine OFin.of (S' := s₁.setTop (mkF m 44 #[.val (.int p0), .val (.int p1), .val (.int p2), .val (.int p3), .val (.int p4), .val (.int (1 : Int32)), .val (.int p0), .val (.int p3), .unset, .unset, .unset] [])) (fun t ht => ?_) ?_
    · refine XS.istore X0.here hx rfl (hb hby at_4) rfl (l' := #[.val (.int p0), .val (.int p1), .val (.int p2), .val (.int p3), .val (.int p4), .val (.int (1 : Int32)), .unset, .unset, .unset, .unset, .unset]) rfl ?_
      show Steps p.tables e below (s₁.setTop (mkF m 6 #[.val (.int p0), .val (.int p1), .val (.int p2), .val (.int p3), .val (.int p4), .val (.int (1 : Int32)), .unset, .unset, .unset, .unset, .unset] [])) _
      refine XS.iload X0.here hx rfl (hb hby at_6) rfl ?_
      show Steps p.tables e below (s₁.setTop (mkF m 8 _ [(.int (1 : Int32))])) _
      refine XS.iconst X0.here hx rfl (hb hby at_8) ?_
      show Steps p.tables e below (s₁.setTop (mkF m 9 _ [(.int (1 : Int32)), (.int (1 : Int32))])) _
      refine XS.icmpYes X0.here hx rfl (pc0 := 9) (pc' := 18) rfl (hb hby at_9) rfl (teq (by decide : (1 : Int32) = (1 : Int32))).1 (by decide) (by decide) ?_
      show Steps p.tables e below (s₁.setTop (mkF m 18 _ [])) _
      refine XS.iloadN X0.here hx rfl (hb hby at_18) rfl ?_
      show Steps p.tables e below (s₁.setTop (mkF m 19 _ [(.int p0)])) _
      refine XS.goto X0.here hx rfl (pc0 := 19) (pc' := 23) rfl (hb hby at_19) (by decide) (by decide) ?_
      show Steps p.tables e below (s₁.setTop (mkF m 23 _ [(.int p0)])) _
      refine XS.istore X0.here hx rfl (hb hby at_23) rfl (l' := #[.val (.int p0), .val (.int p1), .val (.int p2), .val (.int p3), .val (.int p4), .val (.int (1 : Int32)), .val (.int p0), .unset, .unset, .unset, .unset]) rfl ?_
      show Steps p.tables e below (s₁.setTop (mkF m 25 #[.val (.int p0), .val (.int p1), .val (.int p2), .val (.int p3), .val (.int p4), .val (.int (1 : Int32)), .val (.int p0), .unset, .unset, .unset, .unset] [])) _
      refine XS.iload X0.here hx rfl (hb hby at_25) rfl ?_
      show Steps p.tables e below (s₁.setTop (mkF m 27 _ [(.int (1 : Int32))])) _
      refine XS.iconst X0.here hx rfl (hb hby at_27) ?_
      show Steps p.tables e below (s₁.setTop (mkF m 28 _ [(.int (2 : Int32)), (.int (1 : Int32))])) _
      refine XS.icmpNo X0.here hx rfl (hb hby at_28) rfl (feq (by decide : ¬ ((1 : Int32) = (2 : Int32)))).1 ?_
      show Steps p.tables e below (s₁.setTop (mkF m 31 _ [])) _
      refine XS.iload X0.here hx rfl (hb hby at_31) rfl ?_
      show Steps p.tables e below (s₁.setTop (mkF m 33 _ [(.int (1 : Int32))])) _
      refine XS.iconst X0.here hx rfl (hb hby at_33) ?_
      show Steps p.tables e below (s₁.setTop (mkF m 34 _ [(.int (3 : Int32)), (.int (1 : Int32))])) _
      refine XS.icmpYes X0.here hx rfl (pc0 := 34) (pc' := 41) rfl (hb hby at_34) rfl (feq (by decide : ¬ ((1 : Int32) = (3 : Int32)))).2 (by decide) (by decide) ?_
      show Steps p.tables e below (s₁.setTop (mkF m 41 _ [])) _
      refine XS.iloadN X0.here hx rfl (hb hby at_41) rfl ?_
      show Steps p.tables e below (s₁.setTop (mkF m 42 _ [(.int p3)])) _
      refine XS.istore X0.here hx rfl (hb hby at_42) rfl (l' := #[.val (.int p0), .val (.int p1), .val (.int p2), .val (.int p3), .val (.int p4), .val (.int (1 : Int32)), .val (.int p0), .val (.int p3), .unset, .unset, .unset]) rfl ?_
      exact ht
    obtain ⟨T30, h30, X30, e30, E30, A30, D30, -, st30⟩ := newO X0 hx hZ hown (hw _ (List.mem_of_getElem? (i := 0) rfl)) (hw _ (List.mem_of_getElem? (i := 1) rfl)) (hw _ (List.mem_of_getElem? (i := 2) rfl)) e0 (g := (mkF m 44 #[.val (.int p0), .val (.int p1), .val (.int p2), .val (.int p3), .val (.int p4), .val (.int (1 : Int32)), .val (.int p0), .val (.int p3), .unset, .unset, .unset] [])) rfl (hb hby at_44) (by decide) (by decide)
    obtain ⟨b30, gq30⟩ : ∃ z, z = h0.size := ⟨_, rfl⟩
    rw [← gq30] at A30 D30 st30
    have g31 : n0 ≤ b30 := (Nat.le_trans Z0 (Nat.le_of_eq gq30.symm))
    have Z32 : n0 ≤ h30.size := (Nat.le_trans Z0 E30.1)
    have f33 : Fld Z h30 b30 "com/example/kindred/kindred/marc/XmlText$Fault" "line" "I" (.int (0 : Int32)) := D30 (Or.inr (hw _ (List.mem_of_getElem? (i := 23) rfl))) (ty := .int) (by decide)
    have f34 : Fld Z h30 b30 "com/example/kindred/kindred/marc/XmlText$Fault" "column" "I" (.int (0 : Int32)) := D30 (Or.inr (hw _ (List.mem_of_getElem? (i := 25) rfl))) (ty := .int) (by decide)
    have f35 : Fld Z h30 b30 "com/example/kindred/kindred/marc/XmlText$Fault" "reason" "Ljava/lang/String;" .null := D30 (Or.inr (hw _ (List.mem_of_getElem? (i := 27) rfl))) (ty := (.object "java/lang/String")) (by decide)
    refine OFin.of (S' := T30.setTop (mkF m 47 #[.val (.int p0), .val (.int p1), .val (.int p2), .val (.int p3), .val (.int p4), .val (.int (1 : Int32)), .val (.int p0), .val (.int p3), .unset, .unset, .unset] [(.ref b30)])) (fun t ht => st30 t ht) ?_
    refine OFin.of (S' := T30.setTop (mkF m 50 #[.val (.int p0), .val (.int p1), .val (.int p2), .val (.int p3), .val (.int p4), .val (.int (1 : Int32)), .val (.int p0), .val (.int p3), .unset, .unset, .unset] [(.int p1), (.int p0), (.ref b30), (.ref b30)])) (fun t ht => ?_) ?_
    · refine XS.dup X30.here hx rfl (hb hby at_47) rfl rfl ?_
      show Steps p.tables e below (T30.setTop (mkF m 48 _ [(.ref b30), (.ref b30)])) _
      refine XS.iloadN X30.here hx rfl (hb hby at_48) rfl ?_
      show Steps p.tables e below (T30.setTop (mkF m 49 _ [(.int p0), (.ref b30), (.ref b30)])) _
      refine XS.iloadN X30.here hx rfl (hb hby at_49) rfl ?_
      exact ht
    obtain ⟨a36, T36, h36, k36, X36, e36, E36, S36, K36, hZ36, hown36, st36⟩ := ldcS (s := s) (vm0 := s.vm) X30 hx hZ hown (hw _ (List.mem_of_getElem? (i := 3) rfl)) (own_strAtoms hw) e30 ((State.WarmedH.refl s).since h30.size) (Nat.le_refl _) (g := (mkF m 50 #[.val (.int p0), .val (.int p1), .val (.int p2), .val (.int p3), .val (.int p4), .val (.int (1 : Int32)), .val (.int p0), .val (.int p3), .unset, .unset, .unset] [(.int p1), (.int p0), (.ref b30), (.ref b30)])) rfl (hb hby at_50) (n := 4) (by decide) (by decide) (by decide) (by decide)
    have f37 := A30.ext E36
    have f38 := f33.ext E36
    have f39 := f34.ext E36
    have f40 := f35.ext E36
    have Z41 : n0 ≤ h36.size := (Nat.le_trans Z32 E36.1)
    refine OFin.of (S' := T36.setTop (mkF m 52 #[.val (.int p0), .val (.int p1), .val (.int p2), .val (.int p3), .val (.int p4), .val (.int (1 : Int32)), .val (.int p0), .val (.int p3), .unset, .unset, .unset] [(.ref a36), (.int p1), (.int p0), (.ref b30), (.ref b30)])) (fun t ht => st36 t ht) ?_
    obtain ⟨_, _, ⟨T42, L42, k42, n42⟩, -, X42, ⟨Lc42, hQ42, l42, y42, z42⟩, st42⟩ := X36.specialBack hx (y := (⟨"com/example/kindred/kindred/marc/XmlText$Fault", "<init>", "(IILjava/lang/String;)V"⟩ : MethodName)) rfl hown36 (mvT hZ36 (hw _ (List.mem_of_getElem? (i := 11) rfl))) (mvT hZ36 (hw _ (List.mem_of_getElem? (i := 12) rfl))) (mvT hZ36 (hw _ (List.mem_of_getElem? (i := 13) rfl))) (by decide) (backOf (W := 1) (rmIni l Z _ hw [] b30 p0 p1 a36 h36 n0 Z41 f37 f38 f39 f40 g31) hZ36 (hw _ (List.mem_of_getElem? (i := 13) rfl)) (hw _ (List.mem_of_getElem? (i := 2) rfl)) (by decide) (by decide)) (g := (mkF m 52 #[.val (.int p0), .val (.int p1), .val (.int p2), .val (.int p3), .val (.int p4), .val (.int (1 : Int32)), .val (.int p0), .val (.int p3), .unset, .unset, .unset] [(.ref a36), (.int p1), (.int p0), (.ref b30), (.ref b30)])) rfl (by rw [hml]; rfl) (Steps.refl _) (a := b30) (argsL := [(.int p0), (.int p1), (.ref a36)]) (rest := [(.ref b30)]) (lenOf pd_1 rfl) rfl (by show 2 * 0 + _ ≤ _; exact Nat.le_of_eq rfl) (hb hby at_52) (fun _ _ => ⟨rfl, e36, (by decide : 3 + 0 ≤ _), (by decide : 11 + 0 ≤ _)⟩)
    dsimp only [Pt.U, Pt.locs, Pt.cells, Pt.slots] at X42 l42 y42 z42 st42 hQ42
    subst l42 y42 z42
    obtain ⟨rfl, Nq42, Kq42, f43, f44, f45⟩ := hQ42
    have N46 := Fr.app N0 Nq42
    have f47 := (f37.keep Kq42)
    have Z48 : n0 ≤ T42.heap.size := (Nat.le_trans Z41 Kq42.1)
    have kk49 : k36 ≤ T42.heap.size := (Nat.le_trans K36 Kq42.1)
    refine OFin.to (S' := T42.setTop (mkF m 55 #[.val (.int p0), .val (.int p1), .val (.int p2), .val (.int p3), .val (.int p4), .val (.int (1 : Int32)), .val (.int p0), .val (.int p3), .unset, .unset, .unset] [(.ref b30)])) st42 ?_
    refine OFin.of (S' := T42.setTop (mkF m 63 #[.val (.int p0), .val (.int p1), .val (.int p2), .val (.int p3), .val (.int p4), .val (.int (1 : Int32)), .val (.int p0), .val (.int p3), .val (.ref b30), .unset, .unset] [(.int p3), (.int p0), (.ref b30)])) (fun t ht => ?_) ?_
    · refine XS.astore X42.here hx rfl (hb hby at_55) rfl rfl (l' := #[.val (.int p0), .val (.int p1), .val (.int p2), .val (.int p3), .val (.int p4), .val (.int (1 : Int32)), .val (.int p0), .val (.int p3), .val (.ref b30), .unset, .unset]) rfl ?_
      show Steps p.tables e below (T42.setTop (mkF m 57 #[.val (.int p0), .val (.int p1), .val (.int p2), .val (.int p3), .val (.int p4), .val (.int (1 : Int32)), .val (.int p0), .val (.int p3), .val (.ref b30), .unset, .unset] [])) _
      refine XS.aload X42.here hx rfl (hb hby at_57) rfl rfl ?_
      show Steps p.tables e below (T42.setTop (mkF m 59 _ [(.ref b30)])) _
      refine XS.iload X42.here hx rfl (hb hby at_59) rfl ?_
      show Steps p.tables e below (T42.setTop (mkF m 61 _ [(.int p0), (.ref b30)])) _
      refine XS.iload X42.here hx rfl (hb hby at_61) rfl ?_
      exact ht
    obtain ⟨cq51, kq51, q51a, q51b, q51c⟩ := isOf hZ36 (rfl : T42.heap = T42.heap) f47
    obtain ⟨_, _, ⟨T50, L50, k50, n50⟩, -, X50, ⟨Lc50, hQ50, l50, y50, z50⟩, st50⟩ := X42.virtualBack hx (y := (⟨"com/example/kindred/kindred/marc/XmlText$Fault", "byThen", "(II)Z"⟩ : MethodName)) (z := (⟨"com/example/kindred/kindred/marc/XmlText$Fault", "byThen", "(II)Z"⟩ : MethodName)) hown36 (mvT hZ36 (hw _ (List.mem_of_getElem? (i := 28) rfl))) (mvT hZ36 (hw _ (List.mem_of_getElem? (i := 29) rfl))) (notFace_of_selects (args := #[]) (mvT hZ36 (hw _ (List.mem_of_getElem? (i := 31) rfl)))) (mvT hZ36 (hw _ (List.mem_of_getElem? (i := 31) rfl))) (mvT hZ36 (hw _ (List.mem_of_getElem? (i := 30) rfl))) (by decide) (backOf (W := 0) (rmBy l Z _ hw [] b30 p0 p3 p0 p1 T42.heap n0 Z48 f43 f44) hZ36 (hw _ (List.mem_of_getElem? (i := 32) rfl)) (hw _ (List.mem_of_getElem? (i := 2) rfl)) (by decide) (by decide)) q51a q51c (g := (mkF m 63 #[.val (.int p0), .val (.int p1), .val (.int p2), .val (.int p3), .val (.int p4), .val (.int (1 : Int32)), .val (.int p0), .val (.int p3), .val (.ref b30), .unset, .unset] [(.int p3), (.int p0), (.ref b30)])) rfl (by rw [hml]; rfl) (Steps.refl _) (argsL := [(.int p0), (.int p3)]) (rest := []) (lenOf pd_2 rfl) rfl (by show 2 * 0 + _ ≤ _; exact Nat.le_of_eq rfl) (hb hby at_63) (fun _ _ => ⟨rfl, (rfl : T42.heap = T42.heap), (by decide : 3 + 0 ≤ _), (by decide : 11 + 0 ≤ _)⟩)
    dsimp only [Pt.U, Pt.locs, Pt.cells, Pt.slots] at X50 l50 y50 z50 st50 hQ50
    subst l50 y50 z50
    obtain ⟨rfl, Nq50, hs50⟩ := hQ50
    have N52 := Fr.app N46 Nq50
    refine OFin.to (S' := T50.setTop (mkF m 66 #[.val (.int p0), .val (.int p1), .val (.int p2), .val (.int p3), .val (.int p4), .val (.int (1 : Int32)), .val (.int p0), .val (.int p3), .val (.ref b30), .unset, .unset] [(.int (own_by p0 p1 p0 p3))])) st50 ?_
    refine OFin.of (S' := T50.setTop (mkF m 70 #[.val (.int p0), .val (.int p1), .val (.int p2), .val (.int p3), .val (.int p4), .val (.int (1 : Int32)), .val (.int p0), .val (.int p3), .val (.ref b30), .val (.int (own_by p0 p1 p0 p3)), .unset] [(.int p1), (.int p0)])) (fun t ht => ?_) ?_
    · refine XS.istore X50.here hx rfl (hb hby at_66) rfl (l' := #[.val (.int p0), .val (.int p1), .val (.int p2), .val (.int p3), .val (.int p4), .val (.int (1 : Int32)), .val (.int p0), .val (.int p3), .val (.ref b30), .val (.int (own_by p0 p1 p0 p3)), .unset]) rfl ?_
      show Steps p.tables e below (T50.setTop (mkF m 68 #[.val (.int p0), .val (.int p1), .val (.int p2), .val (.int p3), .val (.int p4), .val (.int (1 : Int32)), .val (.int p0), .val (.int p3), .val (.ref b30), .val (.int (own_by p0 p1 p0 p3)), .unset] [])) _
      refine XS.iloadN X50.here hx rfl (hb hby at_68) rfl ?_
      show Steps p.tables e below (T50.setTop (mkF m 69 _ [(.int p0)])) _
      refine XS.iloadN X50.here hx rfl (hb hby at_69) rfl ?_
      exact ht
    obtain ⟨_, _, ⟨T53, L53, k53, n53⟩, -, X53, ⟨Lc53, hQ53, l53, y53, z53⟩, st53⟩ := Jvm.LawKit.callS X50 hx (y := (⟨"com/example/kindred/kindred/marc/FaultByThenPinLaw", "key", "(II)J"⟩ : MethodName)) hown36 (mvT hZ36 (hw _ (List.mem_of_getElem? (i := 33) rfl))) (mvT hZ36 (hw _ (List.mem_of_getElem? (i := 34) rfl))) (mvT hZ36 (hw _ (List.mem_of_getElem? (i := 35) rfl))) (mvT hZ36 (hw _ (List.mem_of_getElem? (i := 36) rfl))) (by decide) (backOf (W := 0) (rmKy l Z _ hw [] p0 p1 T42.heap n0 Z48 ) hZ36 (hw _ (List.mem_of_getElem? (i := 36) rfl)) (hw _ (List.mem_of_getElem? (i := 35) rfl)) (by decide) (by decide)) (g := (mkF m 70 #[.val (.int p0), .val (.int p1), .val (.int p2), .val (.int p3), .val (.int p4), .val (.int (1 : Int32)), .val (.int p0), .val (.int p3), .val (.ref b30), .val (.int (own_by p0 p1 p0 p3)), .unset] [(.int p1), (.int p0)])) rfl (by rw [hml]; rfl) (argsL := [(.int p0), (.int p1)]) (rest := []) (lenOf pd_3 rfl) rfl (by show 2 * 0 + _ ≤ _; exact Nat.le_of_eq rfl) (hb hby at_70) (fun _ _ => ⟨rfl, hs50, (by decide : 3 + 0 ≤ _), (by decide : 11 + 0 ≤ _)⟩)
    dsimp only [Pt.U, Pt.locs, Pt.cells, Pt.slots] at X53 l53 y53 z53 st53 hQ53
    subst l53 y53 z53
    obtain ⟨rfl, Nq53, hs53⟩ := hQ53
    have N54 := Fr.app N52 Nq53
    refine OFin.of (S' := T53.setTop (mkF m 73 #[.val (.int p0), .val (.int p1), .val (.int p2), .val (.int p3), .val (.int p4), .val (.int (1 : Int32)), .val (.int p0), .val (.int p3), .val (.ref b30), .val (.int (own_by p0 p1 p0 p3)), .unset] [(.long (own_key p0 p1))])) (fun t ht => st53 t ht) ?_
    refine OFin.of (S' := T53.setTop (mkF m 77 #[.val (.int p0), .val (.int p1), .val (.int p2), .val (.int p3), .val (.int p4), .val (.int (1 : Int32)), .val (.int p0), .val (.int p3), .val (.ref b30), .val (.int (own_by p0 p1 p0 p3)), .unset] [(.int p3), (.int p0), (.long (own_key p0 p1))])) (fun t ht => ?_) ?_
    · refine XS.iload X53.here hx rfl (hb hby at_73) rfl ?_
      show Steps p.tables e below (T53.setTop (mkF m 75 _ [(.int p0), (.long (own_key p0 p1))])) _
      refine XS.iload X53.here hx rfl (hb hby at_75) rfl ?_
      exact ht
    obtain ⟨_, _, ⟨T55, L55, k55, n55⟩, -, X55, ⟨Lc55, hQ55, l55, y55, z55⟩, st55⟩ := Jvm.LawKit.callS X53 hx (y := (⟨"com/example/kindred/kindred/marc/FaultByThenPinLaw", "key", "(II)J"⟩ : MethodName)) hown36 (mvT hZ36 (hw _ (List.mem_of_getElem? (i := 33) rfl))) (mvT hZ36 (hw _ (List.mem_of_getElem? (i := 34) rfl))) (mvT hZ36 (hw _ (List.mem_of_getElem? (i := 35) rfl))) (mvT hZ36 (hw _ (List.mem_of_getElem? (i := 36) rfl))) (by decide) (backOf (W := 2) (rmKy l Z _ hw [] p0 p3 T42.heap n0 Z48 ) hZ36 (hw _ (List.mem_of_getElem? (i := 36) rfl)) (hw _ (List.mem_of_getElem? (i := 35) rfl)) (by decide) (by decide)) (g := (mkF m 77 #[.val (.int p0), .val (.int p1), .val (.int p2), .val (.int p3), .val (.int p4), .val (.int (1 : Int32)), .val (.int p0), .val (.int p3), .val (.ref b30), .val (.int (own_by p0 p1 p0 p3)), .unset] [(.int p3), (.int p0), (.long (own_key p0 p1))])) rfl (by rw [hml]; rfl) (argsL := [(.int p0), (.int p3)]) (rest := [(.long (own_key p0 p1))]) (lenOf pd_3 rfl) rfl (by show 2 * 0 + _ ≤ _; exact Nat.le_of_eq rfl) (hb hby at_77) (fun _ _ => ⟨rfl, hs53, (by decide : 3 + 0 ≤ _), (by decide : 11 + 0 ≤ _)⟩)
    dsimp only [Pt.U, Pt.locs, Pt.cells, Pt.slots] at X55 l55 y55 z55 st55 hQ55
    subst l55 y55 z55
    obtain ⟨rfl, Nq55, hs55⟩ := hQ55
    have N56 := Fr.app N54 Nq55
    refine OFin.of (S' := T55.setTop (mkF m 80 #[.val (.int p0), .val (.int p1), .val (.int p2), .val (.int p3), .val (.int p4), .val (.int (1 : Int32)), .val (.int p0), .val (.int p3), .val (.ref b30), .val (.int (own_by p0 p1 p0 p3)), .unset] [(.long (own_key p0 p3)), (.long (own_key p0 p1))])) (fun t ht => st55 t ht) ?_
    refine OFin.of (S' := T55.setTop (mkF m 81 #[.val (.int p0), .val (.int p1), .val (.int p2), .val (.int p3), .val (.int p4), .val (.int (1 : Int32)), .val (.int p0), .val (.int p3), .val (.ref b30), .val (.int (own_by p0 p1 p0 p3)), .unset] [(.int (lcmpW (own_key p0 p1) (own_key p0 p3)))])) (fun t ht => ?_) ?_
    · refine XS.lcmp X55.here hx rfl (hb hby at_80) rfl ?_
      exact ht
    by_cases hc57 : (0 : Int32) < (lcmpW (own_key p0 p1) (own_key p0 p3))
    · refine OFin.of (S' := T55.setTop (mkF m 103 #[.val (.int p0), .val (.int p1), .val (.int p2), .val (.int p3), .val (.int p4), .val (.int (1 : Int32)), .val (.int p0), .val (.int p3), .val (.ref b30), .val (.int (own_by p0 p1 p0 p3)), .val (.int (0 : Int32))] [(.int (1 : Int32))])) (fun t ht => ?_) ?_
      · refine XS.ifYes X55.here hx rfl (pc0 := 81) (pc' := 88) rfl (hb hby at_81) rfl ((if0 _ _).trans (tlt (hc57 : (0 : Int32) < (lcmpW (own_key p0 p1) (own_key p0 p3)))).2.2.1) (by decide) (by decide) ?_
        show Steps p.tables e below (T55.setTop (mkF m 88 _ [])) _
        refine XS.iconst X55.here hx rfl (hb hby at_88) ?_
        show Steps p.tables e below (T55.setTop (mkF m 89 _ [(.int (0 : Int32))])) _
        refine XS.istore X55.here hx rfl (hb hby at_89) rfl (l' := #[.val (.int p0), .val (.int p1), .val (.int p2), .val (.int p3), .val (.int p4), .val (.int (1 : Int32)), .val (.int p0), .val (.int p3), .val (.ref b30), .val (.int (own_by p0 p1 p0 p3)), .val (.int (0 : Int32))]) rfl ?_
        show Steps p.tables e below (T55.setTop (mkF m 91 #[.val (.int p0), .val (.int p1), .val (.int p2), .val (.int p3), .val (.int p4), .val (.int (1 : Int32)), .val (.int p0), .val (.int p3), .val (.ref b30), .val (.int (own_by p0 p1 p0 p3)), .val (.int (0 : Int32))] [])) _
        refine XS.iload X55.here hx rfl (hb hby at_91) rfl ?_
        show Steps p.tables e below (T55.setTop (mkF m 93 _ [(.int (own_by p0 p1 p0 p3))])) _
        refine XS.iload X55.here hx rfl (hb hby at_93) rfl ?_
        show Steps p.tables e below (T55.setTop (mkF m 95 _ [(.int (0 : Int32)), (.int (own_by p0 p1 p0 p3))])) _
        refine XS.icmpNo X55.here hx rfl (hb hby at_95) rfl (teq (own_g0 hc57 : (own_by p0 p1 p0 p3) = (0 : Int32))).2 ?_
        show Steps p.tables e below (T55.setTop (mkF m 98 _ [])) _
        refine XS.iconst X55.here hx rfl (hb hby at_98) ?_
        show Steps p.tables e below (T55.setTop (mkF m 99 _ [(.int (1 : Int32))])) _
        refine XS.goto X55.here hx rfl (pc0 := 99) (pc' := 103) rfl (hb hby at_99) (by decide) (by decide) ?_
        exact ht
      exact OFin.retBW (s := s) (vm₁ := T36.vm) X55 S36 (by rw [hs55]; exact kk49) hx hlk (t := .boolean) (by simp) hret (hb hby at_103) (by decide) (by decide) (by rw [hs55]; exact ⟨rfl, N56⟩)
    · refine OFin.of (S' := T55.setTop (mkF m 103 #[.val (.int p0), .val (.int p1), .val (.int p2), .val (.int p3), .val (.int p4), .val (.int (1 : Int32)), .val (.int p0), .val (.int p3), .val (.ref b30), .val (.int (own_by p0 p1 p0 p3)), .val (.int (1 : Int32))] [(.int (1 : Int32))])) (fun t ht => ?_) ?_
      · refine XS.ifNo X55.here hx rfl (hb hby at_81) rfl ((if0 _ _).trans (flt (hc57 : ¬ ((0 : Int32) < (lcmpW (own_key p0 p1) (own_key p0 p3))))).2.2.1) ?_
        show Steps p.tables e below (T55.setTop (mkF m 84 _ [])) _
        refine XS.iconst X55.here hx rfl (hb hby at_84) ?_
        show Steps p.tables e below (T55.setTop (mkF m 85 _ [(.int (1 : Int32))])) _
        refine XS.goto X55.here hx rfl (pc0 := 85) (pc' := 89) rfl (hb hby at_85) (by decide) (by decide) ?_
        show Steps p.tables e below (T55.setTop (mkF m 89 _ [(.int (1 : Int32))])) _
        refine XS.istore X55.here hx rfl (hb hby at_89) rfl (l' := #[.val (.int p0), .val (.int p1), .val (.int p2), .val (.int p3), .val (.int p4), .val (.int (1 : Int32)), .val (.int p0), .val (.int p3), .val (.ref b30), .val (.int (own_by p0 p1 p0 p3)), .val (.int (1 : Int32))]) rfl ?_
        show Steps p.tables e below (T55.setTop (mkF m 91 #[.val (.int p0), .val (.int p1), .val (.int p2), .val (.int p3), .val (.int p4), .val (.int (1 : Int32)), .val (.int p0), .val (.int p3), .val (.ref b30), .val (.int (own_by p0 p1 p0 p3)), .val (.int (1 : Int32))] [])) _
        refine XS.iload X55.here hx rfl (hb hby at_91) rfl ?_
        show Steps p.tables e below (T55.setTop (mkF m 93 _ [(.int (own_by p0 p1 p0 p3))])) _
        refine XS.iload X55.here hx rfl (hb hby at_93) rfl ?_
        show Steps p.tables e below (T55.setTop (mkF m 95 _ [(.int (1 : Int32)), (.int (own_by p0 p1 p0 p3))])) _
        refine XS.icmpNo X55.here hx rfl (hb hby at_95) rfl (teq (own_g1 hc57 : (own_by p0 p1 p0 p3) = (1 : Int32))).2 ?_
        show Steps p.tables e below (T55.setTop (mkF m 98 _ [])) _
        refine XS.iconst X55.here hx rfl (hb hby at_98) ?_
        show Steps p.tables e below (T55.setTop (mkF m 99 _ [(.int (1 : Int32))])) _
        refine XS.goto X55.here hx rfl (pc0 := 99) (pc' := 103) rfl (hb hby at_99) (by decide) (by decide) ?_
        exact ht
      exact OFin.retBW (s := s) (vm₁ := T36.vm) X55 S36 (by rw [hs55]; exact kk49) hx hlk (t := .boolean) (by simp) hret (hb hby at_103) (by decide) (by decide) (by rw [hs55]; exact ⟨rfl, N56⟩)
  · rw [hq1]
    refine OFin.of (S' := s₁.setTop (mkF m 44 #[.val (.int p0), .val (.int p1), .val (.int p2), .val (.int p3), .val (.int p4), .val (.int (2 : Int32)), .val (.int p0), .val (.int p1), .unset, .unset, .unset] [])) (fun t ht => ?_) ?_
    · refine XS.istore X0.here hx rfl (hb hby at_4) rfl (l' := #[.val (.int p0), .val (.int p1), .val (.int p2), .val (.int p3), .val (.int p4), .val (.int (2 : Int32)), .unset, .unset, .unset, .unset, .unset]) rfl ?_
      show Steps p.tables e below (s₁.setTop (mkF m 6 #[.val (.int p0), .val (.int p1), .val (.int p2), .val (.int p3), .val (.int p4), .val (.int (2 : Int32)), .unset, .unset, .unset, .unset, .unset] [])) _
      refine XS.iload X0.here hx rfl (hb hby at_6) rfl ?_
      show Steps p.tables e below (s₁.setTop (mkF m 8 _ [(.int (2 : Int32))])) _
      refine XS.iconst X0.here hx rfl (hb hby at_8) ?_
      show Steps p.tables e below (s₁.setTop (mkF m 9 _ [(.int (1 : Int32)), (.int (2 : Int32))])) _
      refine XS.icmpNo X0.here hx rfl (hb hby at_9) rfl (feq (by decide : ¬ ((2 : Int32) = (1 : Int32)))).1 ?_
      show Steps p.tables e below (s₁.setTop (mkF m 12 _ [])) _
      refine XS.iload X0.here hx rfl (hb hby at_12) rfl ?_
      show Steps p.tables e below (s₁.setTop (mkF m 14 _ [(.int (2 : Int32))])) _
      refine XS.iconst X0.here hx rfl (hb hby at_14) ?_
      show Steps p.tables e below (s₁.setTop (mkF m 15 _ [(.int (2 : Int32)), (.int (2 : Int32))])) _
      refine XS.icmpNo X0.here hx rfl (hb hby at_15) rfl (teq (by decide : (2 : Int32) = (2 : Int32))).2 ?_
      show Steps p.tables e below (s₁.setTop (mkF m 18 _ [])) _
      refine XS.iloadN X0.here hx rfl (hb hby at_18) rfl ?_
      show Steps p.tables e below (s₁.setTop (mkF m 19 _ [(.int p0)])) _
      refine XS.goto X0.here hx rfl (pc0 := 19) (pc' := 23) rfl (hb hby at_19) (by decide) (by decide) ?_
      show Steps p.tables e below (s₁.setTop (mkF m 23 _ [(.int p0)])) _
      refine XS.istore X0.here hx rfl (hb hby at_23) rfl (l' := #[.val (.int p0), .val (.int p1), .val (.int p2), .val (.int p3), .val (.int p4), .val (.int (2 : Int32)), .val (.int p0), .unset, .unset, .unset, .unset]) rfl ?_
      show Steps p.tables e below (s₁.setTop (mkF m 25 #[.val (.int p0), .val (.int p1), .val (.int p2), .val (.int p3), .val (.int p4), .val (.int (2 : Int32)), .val (.int p0), .unset, .unset, .unset, .unset] [])) _
      refine XS.iload X0.here hx rfl (hb hby at_25) rfl ?_
      show Steps p.tables e below (s₁.setTop (mkF m 27 _ [(.int (2 : Int32))])) _
      refine XS.iconst X0.here hx rfl (hb hby at_27) ?_
      show Steps p.tables e below (s₁.setTop (mkF m 28 _ [(.int (2 : Int32)), (.int (2 : Int32))])) _
      refine XS.icmpYes X0.here hx rfl (pc0 := 28) (pc' := 37) rfl (hb hby at_28) rfl (teq (by decide : (2 : Int32) = (2 : Int32))).1 (by decide) (by decide) ?_
      show Steps p.tables e below (s₁.setTop (mkF m 37 _ [])) _
      refine XS.iloadN X0.here hx rfl (hb hby at_37) rfl ?_
      show Steps p.tables e below (s₁.setTop (mkF m 38 _ [(.int p1)])) _
      refine XS.goto X0.here hx rfl (pc0 := 38) (pc' := 42) rfl (hb hby at_38) (by decide) (by decide) ?_
      show Steps p.tables e below (s₁.setTop (mkF m 42 _ [(.int p1)])) _
      refine XS.istore X0.here hx rfl (hb hby at_42) rfl (l' := #[.val (.int p0), .val (.int p1), .val (.int p2), .val (.int p3), .val (.int p4), .val (.int (2 : Int32)), .val (.int p0), .val (.int p1), .unset, .unset, .unset]) rfl ?_
      exact ht
    obtain ⟨T58, h58, X58, e58, E58, A58, D58, -, st58⟩ := newO X0 hx hZ hown (hw _ (List.mem_of_getElem? (i := 0) rfl)) (hw _ (List.mem_of_getElem? (i := 1) rfl)) (hw _ (List.mem_of_getElem? (i := 2) rfl)) e0 (g := (mkF m 44 #[.val (.int p0), .val (.int p1), .val (.int p2), .val (.int p3), .val (.int p4), .val (.int (2 : Int32)), .val (.int p0), .val (.int p1), .unset, .unset, .unset] [])) rfl (hb hby at_44) (by decide) (by decide)
    obtain ⟨b58, gq58⟩ : ∃ z, z = h0.size := ⟨_, rfl⟩
    rw [← gq58] at A58 D58 st58
    have g59 : n0 ≤ b58 := (Nat.le_trans Z0 (Nat.le_of_eq gq58.symm))
    have Z60 : n0 ≤ h58.size := (Nat.le_trans Z0 E58.1)
    have f61 : Fld Z h58 b58 "com/example/kindred/kindred/marc/XmlText$Fault" "line" "I" (.int (0 : Int32)) := D58 (Or.inr (hw _ (List.mem_of_getElem? (i := 23) rfl))) (ty := .int) (by decide)
    have f62 : Fld Z h58 b58 "com/example/kindred/kindred/marc/XmlText$Fault" "column" "I" (.int (0 : Int32)) := D58 (Or.inr (hw _ (List.mem_of_getElem? (i := 25) rfl))) (ty := .int) (by decide)
    have f63 : Fld Z h58 b58 "com/example/kindred/kindred/marc/XmlText$Fault" "reason" "Ljava/lang/String;" .null := D58 (Or.inr (hw _ (List.mem_of_getElem? (i := 27) rfl))) (ty := (.object "java/lang/String")) (by decide)
    refine OFin.of (S' := T58.setTop (mkF m 47 #[.val (.int p0), .val (.int p1), .val (.int p2), .val (.int p3), .val (.int p4), .val (.int (2 : Int32)), .val (.int p0), .val (.int p1), .unset, .unset, .unset] [(.ref b58)])) (fun t ht => st58 t ht) ?_
    refine OFin.of (S' := T58.setTop (mkF m 50 #[.val (.int p0), .val (.int p1), .val (.int p2), .val (.int p3), .val (.int p4), .val (.int (2 : Int32)), .val (.int p0), .val (.int p1), .unset, .unset, .unset] [(.int p1), (.int p0), (.ref b58), (.ref b58)])) (fun t ht => ?_) ?_
    · refine XS.dup X58.here hx rfl (hb hby at_47) rfl rfl ?_
      show Steps p.tables e below (T58.setTop (mkF m 48 _ [(.ref b58), (.ref b58)])) _
      refine XS.iloadN X58.here hx rfl (hb hby at_48) rfl ?_
      show Steps p.tables e below (T58.setTop (mkF m 49 _ [(.int p0), (.ref b58), (.ref b58)])) _
      refine XS.iloadN X58.here hx rfl (hb hby at_49) rfl ?_
      exact ht
    obtain ⟨a64, T64, h64, k64, X64, e64, E64, S64, K64, hZ64, hown64, st64⟩ := ldcS (s := s) (vm0 := s.vm) X58 hx hZ hown (hw _ (List.mem_of_getElem? (i := 3) rfl)) (own_strAtoms hw) e58 ((State.WarmedH.refl s).since h58.size) (Nat.le_refl _) (g := (mkF m 50 #[.val (.int p0), .val (.int p1), .val (.int p2), .val (.int p3), .val (.int p4), .val (.int (2 : Int32)), .val (.int p0), .val (.int p1), .unset, .unset, .unset] [(.int p1), (.int p0), (.ref b58), (.ref b58)])) rfl (hb hby at_50) (n := 4) (by decide) (by decide) (by decide) (by decide)
    have f65 := A58.ext E64
    have f66 := f61.ext E64
    have f67 := f62.ext E64
    have f68 := f63.ext E64
    have Z69 : n0 ≤ h64.size := (Nat.le_trans Z60 E64.1)
    refine OFin.of (S' := T64.setTop (mkF m 52 #[.val (.int p0), .val (.int p1), .val (.int p2), .val (.int p3), .val (.int p4), .val (.int (2 : Int32)), .val (.int p0), .val (.int p1), .unset, .unset, .unset] [(.ref a64), (.int p1), (.int p0), (.ref b58), (.ref b58)])) (fun t ht => st64 t ht) ?_
    obtain ⟨_, _, ⟨T70, L70, k70, n70⟩, -, X70, ⟨Lc70, hQ70, l70, y70, z70⟩, st70⟩ := X64.specialBack hx (y := (⟨"com/example/kindred/kindred/marc/XmlText$Fault", "<init>", "(IILjava/lang/String;)V"⟩ : MethodName)) rfl hown64 (mvT hZ64 (hw _ (List.mem_of_getElem? (i := 11) rfl))) (mvT hZ64 (hw _ (List.mem_of_getElem? (i := 12) rfl))) (mvT hZ64 (hw _ (List.mem_of_getElem? (i := 13) rfl))) (by decide) (backOf (W := 1) (rmIni l Z _ hw [] b58 p0 p1 a64 h64 n0 Z69 f65 f66 f67 f68 g59) hZ64 (hw _ (List.mem_of_getElem? (i := 13) rfl)) (hw _ (List.mem_of_getElem? (i := 2) rfl)) (by decide) (by decide)) (g := (mkF m 52 #[.val (.int p0), .val (.int p1), .val (.int p2), .val (.int p3), .val (.int p4), .val (.int (2 : Int32)), .val (.int p0), .val (.int p1), .unset, .unset, .unset] [(.ref a64), (.int p1), (.int p0), (.ref b58), (.ref b58)])) rfl (by rw [hml]; rfl) (Steps.refl _) (a := b58) (argsL := [(.int p0), (.int p1), (.ref a64)]) (rest := [(.ref b58)]) (lenOf pd_1 rfl) rfl (by show 2 * 0 + _ ≤ _; exact Nat.le_of_eq rfl) (hb hby at_52) (fun _ _ => ⟨rfl, e64, (by decide : 3 + 0 ≤ _), (by decide : 11 + 0 ≤ _)⟩)
    dsimp only [Pt.U, Pt.locs, Pt.cells, Pt.slots] at X70 l70 y70 z70 st70 hQ70
    subst l70 y70 z70
    obtain ⟨rfl, Nq70, Kq70, f71, f72, f73⟩ := hQ70
    have N74 := Fr.app N0 Nq70
    have f75 := (f65.keep Kq70)
    have Z76 : n0 ≤ T70.heap.size := (Nat.le_trans Z69 Kq70.1)
    have kk77 : k64 ≤ T70.heap.size := (Nat.le_trans K64 Kq70.1)
    refine OFin.to (S' := T70.setTop (mkF m 55 #[.val (.int p0), .val (.int p1), .val (.int p2), .val (.int p3), .val (.int p4), .val (.int (2 : Int32)), .val (.int p0), .val (.int p1), .unset, .unset, .unset] [(.ref b58)])) st70 ?_
    refine OFin.of (S' := T70.setTop (mkF m 63 #[.val (.int p0), .val (.int p1), .val (.int p2), .val (.int p3), .val (.int p4), .val (.int (2 : Int32)), .val (.int p0), .val (.int p1), .val (.ref b58), .unset, .unset] [(.int p1), (.int p0), (.ref b58)])) (fun t ht => ?_) ?_
    · refine XS.astore X70.here hx rfl (hb hby at_55) rfl rfl (l' := #[.val (.int p0), .val (.int p1), .val (.int p2), .val (.int p3), .val (.int p4), .val (.int (2 : Int32)), .val (.int p0), .val (.int p1), .val (.ref b58), .unset, .unset]) rfl ?_
      show Steps p.tables e below (T70.setTop (mkF m 57 #[.val (.int p0), .val (.int p1), .val (.int p2), .val (.int p3), .val (.int p4), .val (.int (2 : Int32)), .val (.int p0), .val (.int p1), .val (.ref b58), .unset, .unset] [])) _
      refine XS.aload X70.here hx rfl (hb hby at_57) rfl rfl ?_
      show Steps p.tables e below (T70.setTop (mkF m 59 _ [(.ref b58)])) _
      refine XS.iload X70.here hx rfl (hb hby at_59) rfl ?_
      show Steps p.tables e below (T70.setTop (mkF m 61 _ [(.int p0), (.ref b58)])) _
      refine XS.iload X70.here hx rfl (hb hby at_61) rfl ?_
      exact ht
    obtain ⟨cq79, kq79, q79a, q79b, q79c⟩ := isOf hZ64 (rfl : T70.heap = T70.heap) f75
    obtain ⟨_, _, ⟨T78, L78, k78, n78⟩, -, X78, ⟨Lc78, hQ78, l78, y78, z78⟩, st78⟩ := X70.virtualBack hx (y := (⟨"com/example/kindred/kindred/marc/XmlText$Fault", "byThen", "(II)Z"⟩ : MethodName)) (z := (⟨"com/example/kindred/kindred/marc/XmlText$Fault", "byThen", "(II)Z"⟩ : MethodName)) hown64 (mvT hZ64 (hw _ (List.mem_of_getElem? (i := 28) rfl))) (mvT hZ64 (hw _ (List.mem_of_getElem? (i := 29) rfl))) (notFace_of_selects (args := #[]) (mvT hZ64 (hw _ (List.mem_of_getElem? (i := 31) rfl)))) (mvT hZ64 (hw _ (List.mem_of_getElem? (i := 31) rfl))) (mvT hZ64 (hw _ (List.mem_of_getElem? (i := 30) rfl))) (by decide) (backOf (W := 0) (rmBy l Z _ hw [] b58 p0 p1 p0 p1 T70.heap n0 Z76 f71 f72) hZ64 (hw _ (List.mem_of_getElem? (i := 32) rfl)) (hw _ (List.mem_of_getElem? (i := 2) rfl)) (by decide) (by decide)) q79a q79c (g := (mkF m 63 #[.val (.int p0), .val (.int p1), .val (.int p2), .val (.int p3), .val (.int p4), .val (.int (2 : Int32)), .val (.int p0), .val (.int p1), .val (.ref b58), .unset, .unset] [(.int p1), (.int p0), (.ref b58)])) rfl (by rw [hml]; rfl) (Steps.refl _) (argsL := [(.int p0), (.int p1)]) (rest := []) (lenOf pd_2 rfl) rfl (by show 2 * 0 + _ ≤ _; exact Nat.le_of_eq rfl) (hb hby at_63) (fun _ _ => ⟨rfl, (rfl : T70.heap = T70.heap), (by decide : 3 + 0 ≤ _), (by decide : 11 + 0 ≤ _)⟩)
    dsimp only [Pt.U, Pt.locs, Pt.cells, Pt.slots] at X78 l78 y78 z78 st78 hQ78
    subst l78 y78 z78
    obtain ⟨rfl, Nq78, hs78⟩ := hQ78
    have N80 := Fr.app N74 Nq78
    refine OFin.to (S' := T78.setTop (mkF m 66 #[.val (.int p0), .val (.int p1), .val (.int p2), .val (.int p3), .val (.int p4), .val (.int (2 : Int32)), .val (.int p0), .val (.int p1), .val (.ref b58), .unset, .unset] [(.int (own_by p0 p1 p0 p1))])) st78 ?_
    refine OFin.of (S' := T78.setTop (mkF m 70 #[.val (.int p0), .val (.int p1), .val (.int p2), .val (.int p3), .val (.int p4), .val (.int (2 : Int32)), .val (.int p0), .val (.int p1), .val (.ref b58), .val (.int (own_by p0 p1 p0 p1)), .unset] [(.int p1), (.int p0)])) (fun t ht => ?_) ?_
    · refine XS.istore X78.here hx rfl (hb hby at_66) rfl (l' := #[.val (.int p0), .val (.int p1), .val (.int p2), .val (.int p3), .val (.int p4), .val (.int (2 : Int32)), .val (.int p0), .val (.int p1), .val (.ref b58), .val (.int (own_by p0 p1 p0 p1)), .unset]) rfl ?_
      show Steps p.tables e below (T78.setTop (mkF m 68 #[.val (.int p0), .val (.int p1), .val (.int p2), .val (.int p3), .val (.int p4), .val (.int (2 : Int32)), .val (.int p0), .val (.int p1), .val (.ref b58), .val (.int (own_by p0 p1 p0 p1)), .unset] [])) _
      refine XS.iloadN X78.here hx rfl (hb hby at_68) rfl ?_
      show Steps p.tables e below (T78.setTop (mkF m 69 _ [(.int p0)])) _
      refine XS.iloadN X78.here hx rfl (hb hby at_69) rfl ?_
      exact ht
    obtain ⟨_, _, ⟨T81, L81, k81, n81⟩, -, X81, ⟨Lc81, hQ81, l81, y81, z81⟩, st81⟩ := Jvm.LawKit.callS X78 hx (y := (⟨"com/example/kindred/kindred/marc/FaultByThenPinLaw", "key", "(II)J"⟩ : MethodName)) hown64 (mvT hZ64 (hw _ (List.mem_of_getElem? (i := 33) rfl))) (mvT hZ64 (hw _ (List.mem_of_getElem? (i := 34) rfl))) (mvT hZ64 (hw _ (List.mem_of_getElem? (i := 35) rfl))) (mvT hZ64 (hw _ (List.mem_of_getElem? (i := 36) rfl))) (by decide) (backOf (W := 0) (rmKy l Z _ hw [] p0 p1 T70.heap n0 Z76 ) hZ64 (hw _ (List.mem_of_getElem? (i := 36) rfl)) (hw _ (List.mem_of_getElem? (i := 35) rfl)) (by decide) (by decide)) (g := (mkF m 70 #[.val (.int p0), .val (.int p1), .val (.int p2), .val (.int p3), .val (.int p4), .val (.int (2 : Int32)), .val (.int p0), .val (.int p1), .val (.ref b58), .val (.int (own_by p0 p1 p0 p1)), .unset] [(.int p1), (.int p0)])) rfl (by rw [hml]; rfl) (argsL := [(.int p0), (.int p1)]) (rest := []) (lenOf pd_3 rfl) rfl (by show 2 * 0 + _ ≤ _; exact Nat.le_of_eq rfl) (hb hby at_70) (fun _ _ => ⟨rfl, hs78, (by decide : 3 + 0 ≤ _), (by decide : 11 + 0 ≤ _)⟩)
    dsimp only [Pt.U, Pt.locs, Pt.cells, Pt.slots] at X81 l81 y81 z81 st81 hQ81
    subst l81 y81 z81
    obtain ⟨rfl, Nq81, hs81⟩ := hQ81
    have N82 := Fr.app N80 Nq81
    refine OFin.of (S' := T81.setTop (mkF m 73 #[.val (.int p0), .val (.int p1), .val (.int p2), .val (.int p3), .val (.int p4), .val (.int (2 : Int32)), .val (.int p0), .val (.int p1), .val (.ref b58), .val (.int (own_by p0 p1 p0 p1)), .unset] [(.long (own_key p0 p1))])) (fun t ht => st81 t ht) ?_
    refine OFin.of (S' := T81.setTop (mkF m 77 #[.val (.int p0), .val (.int p1), .val (.int p2), .val (.int p3), .val (.int p4), .val (.int (2 : Int32)), .val (.int p0), .val (.int p1), .val (.ref b58), .val (.int (own_by p0 p1 p0 p1)), .unset] [(.int p1), (.int p0), (.long (own_key p0 p1))])) (fun t ht => ?_) ?_
    · refine XS.iload X81.here hx rfl (hb hby at_73) rfl ?_
      show Steps p.tables e below (T81.setTop (mkF m 75 _ [(.int p0), (.long (own_key p0 p1))])) _
      refine XS.iload X81.here hx rfl (hb hby at_75) rfl ?_
      exact ht
    obtain ⟨_, _, ⟨T83, L83, k83, n83⟩, -, X83, ⟨Lc83, hQ83, l83, y83, z83⟩, st83⟩ := Jvm.LawKit.callS X81 hx (y := (⟨"com/example/kindred/kindred/marc/FaultByThenPinLaw", "key", "(II)J"⟩ : MethodName)) hown64 (mvT hZ64 (hw _ (List.mem_of_getElem? (i := 33) rfl))) (mvT hZ64 (hw _ (List.mem_of_getElem? (i := 34) rfl))) (mvT hZ64 (hw _ (List.mem_of_getElem? (i := 35) rfl))) (mvT hZ64 (hw _ (List.mem_of_getElem? (i := 36) rfl))) (by decide) (backOf (W := 2) (rmKy l Z _ hw [] p0 p1 T70.heap n0 Z76 ) hZ64 (hw _ (List.mem_of_getElem? (i := 36) rfl)) (hw _ (List.mem_of_getElem? (i := 35) rfl)) (by decide) (by decide)) (g := (mkF m 77 #[.val (.int p0), .val (.int p1), .val (.int p2), .val (.int p3), .val (.int p4), .val (.int (2 : Int32)), .val (.int p0), .val (.int p1), .val (.ref b58), .val (.int (own_by p0 p1 p0 p1)), .unset] [(.int p1), (.int p0), (.long (own_key p0 p1))])) rfl (by rw [hml]; rfl) (argsL := [(.int p0), (.int p1)]) (rest := [(.long (own_key p0 p1))]) (lenOf pd_3 rfl) rfl (by show 2 * 0 + _ ≤ _; exact Nat.le_of_eq rfl) (hb hby at_77) (fun _ _ => ⟨rfl, hs81, (by decide : 3 + 0 ≤ _), (by decide : 11 + 0 ≤ _)⟩)
    dsimp only [Pt.U, Pt.locs, Pt.cells, Pt.slots] at X83 l83 y83 z83 st83 hQ83
    subst l83 y83 z83
    obtain ⟨rfl, Nq83, hs83⟩ := hQ83
    have N84 := Fr.app N82 Nq83
    refine OFin.of (S' := T83.setTop (mkF m 80 #[.val (.int p0), .val (.int p1), .val (.int p2), .val (.int p3), .val (.int p4), .val (.int (2 : Int32)), .val (.int p0), .val (.int p1), .val (.ref b58), .val (.int (own_by p0 p1 p0 p1)), .unset] [(.long (own_key p0 p1)), (.long (own_key p0 p1))])) (fun t ht => st83 t ht) ?_
    refine OFin.of (S' := T83.setTop (mkF m 81 #[.val (.int p0), .val (.int p1), .val (.int p2), .val (.int p3), .val (.int p4), .val (.int (2 : Int32)), .val (.int p0), .val (.int p1), .val (.ref b58), .val (.int (own_by p0 p1 p0 p1)), .unset] [(.int (lcmpW (own_key p0 p1) (own_key p0 p1)))])) (fun t ht => ?_) ?_
    · refine XS.lcmp X83.here hx rfl (hb hby at_80) rfl ?_
      exact ht
    by_cases hc85 : (0 : Int32) < (lcmpW (own_key p0 p1) (own_key p0 p1))
    · refine OFin.of (S' := T83.setTop (mkF m 103 #[.val (.int p0), .val (.int p1), .val (.int p2), .val (.int p3), .val (.int p4), .val (.int (2 : Int32)), .val (.int p0), .val (.int p1), .val (.ref b58), .val (.int (own_by p0 p1 p0 p1)), .val (.int (0 : Int32))] [(.int (1 : Int32))])) (fun t ht => ?_) ?_
      · refine XS.ifYes X83.here hx rfl (pc0 := 81) (pc' := 88) rfl (hb hby at_81) rfl ((if0 _ _).trans (tlt (hc85 : (0 : Int32) < (lcmpW (own_key p0 p1) (own_key p0 p1)))).2.2.1) (by decide) (by decide) ?_
        show Steps p.tables e below (T83.setTop (mkF m 88 _ [])) _
        refine XS.iconst X83.here hx rfl (hb hby at_88) ?_
        show Steps p.tables e below (T83.setTop (mkF m 89 _ [(.int (0 : Int32))])) _
        refine XS.istore X83.here hx rfl (hb hby at_89) rfl (l' := #[.val (.int p0), .val (.int p1), .val (.int p2), .val (.int p3), .val (.int p4), .val (.int (2 : Int32)), .val (.int p0), .val (.int p1), .val (.ref b58), .val (.int (own_by p0 p1 p0 p1)), .val (.int (0 : Int32))]) rfl ?_
        show Steps p.tables e below (T83.setTop (mkF m 91 #[.val (.int p0), .val (.int p1), .val (.int p2), .val (.int p3), .val (.int p4), .val (.int (2 : Int32)), .val (.int p0), .val (.int p1), .val (.ref b58), .val (.int (own_by p0 p1 p0 p1)), .val (.int (0 : Int32))] [])) _
        refine XS.iload X83.here hx rfl (hb hby at_91) rfl ?_
        show Steps p.tables e below (T83.setTop (mkF m 93 _ [(.int (own_by p0 p1 p0 p1))])) _
        refine XS.iload X83.here hx rfl (hb hby at_93) rfl ?_
        show Steps p.tables e below (T83.setTop (mkF m 95 _ [(.int (0 : Int32)), (.int (own_by p0 p1 p0 p1))])) _
        refine XS.icmpNo X83.here hx rfl (hb hby at_95) rfl (teq (own_g0 hc85 : (own_by p0 p1 p0 p1) = (0 : Int32))).2 ?_
        show Steps p.tables e below (T83.setTop (mkF m 98 _ [])) _
        refine XS.iconst X83.here hx rfl (hb hby at_98) ?_
        show Steps p.tables e below (T83.setTop (mkF m 99 _ [(.int (1 : Int32))])) _
        refine XS.goto X83.here hx rfl (pc0 := 99) (pc' := 103) rfl (hb hby at_99) (by decide) (by decide) ?_
        exact ht
      exact OFin.retBW (s := s) (vm₁ := T64.vm) X83 S64 (by rw [hs83]; exact kk77) hx hlk (t := .boolean) (by simp) hret (hb hby at_103) (by decide) (by decide) (by rw [hs83]; exact ⟨rfl, N84⟩)
    · refine OFin.of (S' := T83.setTop (mkF m 103 #[.val (.int p0), .val (.int p1), .val (.int p2), .val (.int p3), .val (.int p4), .val (.int (2 : Int32)), .val (.int p0), .val (.int p1), .val (.ref b58), .val (.int (own_by p0 p1 p0 p1)), .val (.int (1 : Int32))] [(.int (1 : Int32))])) (fun t ht => ?_) ?_
      · refine XS.ifNo X83.here hx rfl (hb hby at_81) rfl ((if0 _ _).trans (flt (hc85 : ¬ ((0 : Int32) < (lcmpW (own_key p0 p1) (own_key p0 p1))))).2.2.1) ?_
        show Steps p.tables e below (T83.setTop (mkF m 84 _ [])) _
        refine XS.iconst X83.here hx rfl (hb hby at_84) ?_
        show Steps p.tables e below (T83.setTop (mkF m 85 _ [(.int (1 : Int32))])) _
        refine XS.goto X83.here hx rfl (pc0 := 85) (pc' := 89) rfl (hb hby at_85) (by decide) (by decide) ?_
        show Steps p.tables e below (T83.setTop (mkF m 89 _ [(.int (1 : Int32))])) _
        refine XS.istore X83.here hx rfl (hb hby at_89) rfl (l' := #[.val (.int p0), .val (.int p1), .val (.int p2), .val (.int p3), .val (.int p4), .val (.int (2 : Int32)), .val (.int p0), .val (.int p1), .val (.ref b58), .val (.int (own_by p0 p1 p0 p1)), .val (.int (1 : Int32))]) rfl ?_
        show Steps p.tables e below (T83.setTop (mkF m 91 #[.val (.int p0), .val (.int p1), .val (.int p2), .val (.int p3), .val (.int p4), .val (.int (2 : Int32)), .val (.int p0), .val (.int p1), .val (.ref b58), .val (.int (own_by p0 p1 p0 p1)), .val (.int (1 : Int32))] [])) _
        refine XS.iload X83.here hx rfl (hb hby at_91) rfl ?_
        show Steps p.tables e below (T83.setTop (mkF m 93 _ [(.int (own_by p0 p1 p0 p1))])) _
        refine XS.iload X83.here hx rfl (hb hby at_93) rfl ?_
        show Steps p.tables e below (T83.setTop (mkF m 95 _ [(.int (1 : Int32)), (.int (own_by p0 p1 p0 p1))])) _
        refine XS.icmpNo X83.here hx rfl (hb hby at_95) rfl (teq (own_g1 hc85 : (own_by p0 p1 p0 p1) = (1 : Int32))).2 ?_
        show Steps p.tables e below (T83.setTop (mkF m 98 _ [])) _
        refine XS.iconst X83.here hx rfl (hb hby at_98) ?_
        show Steps p.tables e below (T83.setTop (mkF m 99 _ [(.int (1 : Int32))])) _
        refine XS.goto X83.here hx rfl (pc0 := 99) (pc' := 103) rfl (hb hby at_99) (by decide) (by decide) ?_
        exact ht
      exact OFin.retBW (s := s) (vm₁ := T64.vm) X83 S64 (by rw [hs83]; exact kk77) hx hlk (t := .boolean) (by simp) hret (hb hby at_103) (by decide) (by decide) (by rw [hs83]; exact ⟨rfl, N84⟩)
  · rw [hq1]
    refine OFin.of (S' := s₁.setTop (mkF m 44 #[.val (.int p0), .val (.int p1), .val (.int p2), .val (.int p3), .val (.int p4), .val (.int (3 : Int32)), .val (.int p2), .val (.int p1), .unset, .unset, .unset] [])) (fun t ht => ?_) ?_
    · refine XS.istore X0.here hx rfl (hb hby at_4) rfl (l' := #[.val (.int p0), .val (.int p1), .val (.int p2), .val (.int p3), .val (.int p4), .val (.int (3 : Int32)), .unset, .unset, .unset, .unset, .unset]) rfl ?_
      show Steps p.tables e below (s₁.setTop (mkF m 6 #[.val (.int p0), .val (.int p1), .val (.int p2), .val (.int p3), .val (.int p4), .val (.int (3 : Int32)), .unset, .unset, .unset, .unset, .unset] [])) _
      refine XS.iload X0.here hx rfl (hb hby at_6) rfl ?_
      show Steps p.tables e below (s₁.setTop (mkF m 8 _ [(.int (3 : Int32))])) _
      refine XS.iconst X0.here hx rfl (hb hby at_8) ?_
      show Steps p.tables e below (s₁.setTop (mkF m 9 _ [(.int (1 : Int32)), (.int (3 : Int32))])) _
      refine XS.icmpNo X0.here hx rfl (hb hby at_9) rfl (feq (by decide : ¬ ((3 : Int32) = (1 : Int32)))).1 ?_
      show Steps p.tables e below (s₁.setTop (mkF m 12 _ [])) _
      refine XS.iload X0.here hx rfl (hb hby at_12) rfl ?_
      show Steps p.tables e below (s₁.setTop (mkF m 14 _ [(.int (3 : Int32))])) _
      refine XS.iconst X0.here hx rfl (hb hby at_14) ?_
      show Steps p.tables e below (s₁.setTop (mkF m 15 _ [(.int (2 : Int32)), (.int (3 : Int32))])) _
      refine XS.icmpYes X0.here hx rfl (pc0 := 15) (pc' := 22) rfl (hb hby at_15) rfl (feq (by decide : ¬ ((3 : Int32) = (2 : Int32)))).2 (by decide) (by decide) ?_
      show Steps p.tables e below (s₁.setTop (mkF m 22 _ [])) _
      refine XS.iloadN X0.here hx rfl (hb hby at_22) rfl ?_
      show Steps p.tables e below (s₁.setTop (mkF m 23 _ [(.int p2)])) _
      refine XS.istore X0.here hx rfl (hb hby at_23) rfl (l' := #[.val (.int p0), .val (.int p1), .val (.int p2), .val (.int p3), .val (.int p4), .val (.int (3 : Int32)), .val (.int p2), .unset, .unset, .unset, .unset]) rfl ?_
      show Steps p.tables e below (s₁.setTop (mkF m 25 #[.val (.int p0), .val (.int p1), .val (.int p2), .val (.int p3), .val (.int p4), .val (.int (3 : Int32)), .val (.int p2), .unset, .unset, .unset, .unset] [])) _
      refine XS.iload X0.here hx rfl (hb hby at_25) rfl ?_
      show Steps p.tables e below (s₁.setTop (mkF m 27 _ [(.int (3 : Int32))])) _
      refine XS.iconst X0.here hx rfl (hb hby at_27) ?_
      show Steps p.tables e below (s₁.setTop (mkF m 28 _ [(.int (2 : Int32)), (.int (3 : Int32))])) _
      refine XS.icmpNo X0.here hx rfl (hb hby at_28) rfl (feq (by decide : ¬ ((3 : Int32) = (2 : Int32)))).1 ?_
      show Steps p.tables e below (s₁.setTop (mkF m 31 _ [])) _
      refine XS.iload X0.here hx rfl (hb hby at_31) rfl ?_
      show Steps p.tables e below (s₁.setTop (mkF m 33 _ [(.int (3 : Int32))])) _
      refine XS.iconst X0.here hx rfl (hb hby at_33) ?_
      show Steps p.tables e below (s₁.setTop (mkF m 34 _ [(.int (3 : Int32)), (.int (3 : Int32))])) _
      refine XS.icmpNo X0.here hx rfl (hb hby at_34) rfl (teq (by decide : (3 : Int32) = (3 : Int32))).2 ?_
      show Steps p.tables e below (s₁.setTop (mkF m 37 _ [])) _
      refine XS.iloadN X0.here hx rfl (hb hby at_37) rfl ?_
      show Steps p.tables e below (s₁.setTop (mkF m 38 _ [(.int p1)])) _
      refine XS.goto X0.here hx rfl (pc0 := 38) (pc' := 42) rfl (hb hby at_38) (by decide) (by decide) ?_
      show Steps p.tables e below (s₁.setTop (mkF m 42 _ [(.int p1)])) _
      refine XS.istore X0.here hx rfl (hb hby at_42) rfl (l' := #[.val (.int p0), .val (.int p1), .val (.int p2), .val (.int p3), .val (.int p4), .val (.int (3 : Int32)), .val (.int p2), .val (.int p1), .unset, .unset, .unset]) rfl ?_
      exact ht
    obtain ⟨T86, h86, X86, e86, E86, A86, D86, -, st86⟩ := newO X0 hx hZ hown (hw _ (List.mem_of_getElem? (i := 0) rfl)) (hw _ (List.mem_of_getElem? (i := 1) rfl)) (hw _ (List.mem_of_getElem? (i := 2) rfl)) e0 (g := (mkF m 44 #[.val (.int p0), .val (.int p1), .val (.int p2), .val (.int p3), .val (.int p4), .val (.int (3 : Int32)), .val (.int p2), .val (.int p1), .unset, .unset, .unset] [])) rfl (hb hby at_44) (by decide) (by decide)
    obtain ⟨b86, gq86⟩ : ∃ z, z = h0.size := ⟨_, rfl⟩
    rw [← gq86] at A86 D86 st86
    have g87 : n0 ≤ b86 := (Nat.le_trans Z0 (Nat.le_of_eq gq86.symm))
    have Z88 : n0 ≤ h86.size := (Nat.le_trans Z0 E86.1)
    have f89 : Fld Z h86 b86 "com/example/kindred/kindred/marc/XmlText$Fault" "line" "I" (.int (0 : Int32)) := D86 (Or.inr (hw _ (List.mem_of_getElem? (i := 23) rfl))) (ty := .int) (by decide)
    have f90 : Fld Z h86 b86 "com/example/kindred/kindred/marc/XmlText$Fault" "column" "I" (.int (0 : Int32)) := D86 (Or.inr (hw _ (List.mem_of_getElem? (i := 25) rfl))) (ty := .int) (by decide)
    have f91 : Fld Z h86 b86 "com/example/kindred/kindred/marc/XmlText$Fault" "reason" "Ljava/lang/String;" .null := D86 (Or.inr (hw _ (List.mem_of_getElem? (i := 27) rfl))) (ty := (.object "java/lang/String")) (by decide)
    refine OFin.of (S' := T86.setTop (mkF m 47 #[.val (.int p0), .val (.int p1), .val (.int p2), .val (.int p3), .val (.int p4), .val (.int (3 : Int32)), .val (.int p2), .val (.int p1), .unset, .unset, .unset] [(.ref b86)])) (fun t ht => st86 t ht) ?_
    refine OFin.of (S' := T86.setTop (mkF m 50 #[.val (.int p0), .val (.int p1), .val (.int p2), .val (.int p3), .val (.int p4), .val (.int (3 : Int32)), .val (.int p2), .val (.int p1), .unset, .unset, .unset] [(.int p1), (.int p0), (.ref b86), (.ref b86)])) (fun t ht => ?_) ?_
    · refine XS.dup X86.here hx rfl (hb hby at_47) rfl rfl ?_
      show Steps p.tables e below (T86.setTop (mkF m 48 _ [(.ref b86), (.ref b86)])) _
      refine XS.iloadN X86.here hx rfl (hb hby at_48) rfl ?_
      show Steps p.tables e below (T86.setTop (mkF m 49 _ [(.int p0), (.ref b86), (.ref b86)])) _
      refine XS.iloadN X86.here hx rfl (hb hby at_49) rfl ?_
      exact ht
    obtain ⟨a92, T92, h92, k92, X92, e92, E92, S92, K92, hZ92, hown92, st92⟩ := ldcS (s := s) (vm0 := s.vm) X86 hx hZ hown (hw _ (List.mem_of_getElem? (i := 3) rfl)) (own_strAtoms hw) e86 ((State.WarmedH.refl s).since h86.size) (Nat.le_refl _) (g := (mkF m 50 #[.val (.int p0), .val (.int p1), .val (.int p2), .val (.int p3), .val (.int p4), .val (.int (3 : Int32)), .val (.int p2), .val (.int p1), .unset, .unset, .unset] [(.int p1), (.int p0), (.ref b86), (.ref b86)])) rfl (hb hby at_50) (n := 4) (by decide) (by decide) (by decide) (by decide)
    have f93 := A86.ext E92
    have f94 := f89.ext E92
    have f95 := f90.ext E92
    have f96 := f91.ext E92
    have Z97 : n0 ≤ h92.size := (Nat.le_trans Z88 E92.1)
    refine OFin.of (S' := T92.setTop (mkF m 52 #[.val (.int p0), .val (.int p1), .val (.int p2), .val (.int p3), .val (.int p4), .val (.int (3 : Int32)), .val (.int p2), .val (.int p1), .unset, .unset, .unset] [(.ref a92), (.int p1), (.int p0), (.ref b86), (.ref b86)])) (fun t ht => st92 t ht) ?_
    obtain ⟨_, _, ⟨T98, L98, k98, n98⟩, -, X98, ⟨Lc98, hQ98, l98, y98, z98⟩, st98⟩ := X92.specialBack hx (y := (⟨"com/example/kindred/kindred/marc/XmlText$Fault", "<init>", "(IILjava/lang/String;)V"⟩ : MethodName)) rfl hown92 (mvT hZ92 (hw _ (List.mem_of_getElem? (i := 11) rfl))) (mvT hZ92 (hw _ (List.mem_of_getElem? (i := 12) rfl))) (mvT hZ92 (hw _ (List.mem_of_getElem? (i := 13) rfl))) (by decide) (backOf (W := 1) (rmIni l Z _ hw [] b86 p0 p1 a92 h92 n0 Z97 f93 f94 f95 f96 g87) hZ92 (hw _ (List.mem_of_getElem? (i := 13) rfl)) (hw _ (List.mem_of_getElem? (i := 2) rfl)) (by decide) (by decide)) (g := (mkF m 52 #[.val (.int p0), .val (.int p1), .val (.int p2), .val (.int p3), .val (.int p4), .val (.int (3 : Int32)), .val (.int p2), .val (.int p1), .unset, .unset, .unset] [(.ref a92), (.int p1), (.int p0), (.ref b86), (.ref b86)])) rfl (by rw [hml]; rfl) (Steps.refl _) (a := b86) (argsL := [(.int p0), (.int p1), (.ref a92)]) (rest := [(.ref b86)]) (lenOf pd_1 rfl) rfl (by show 2 * 0 + _ ≤ _; exact Nat.le_of_eq rfl) (hb hby at_52) (fun _ _ => ⟨rfl, e92, (by decide : 3 + 0 ≤ _), (by decide : 11 + 0 ≤ _)⟩)
    dsimp only [Pt.U, Pt.locs, Pt.cells, Pt.slots] at X98 l98 y98 z98 st98 hQ98
    subst l98 y98 z98
    obtain ⟨rfl, Nq98, Kq98, f99, f100, f101⟩ := hQ98
    have N102 := Fr.app N0 Nq98
    have f103 := (f93.keep Kq98)
    have Z104 : n0 ≤ T98.heap.size := (Nat.le_trans Z97 Kq98.1)
    have kk105 : k92 ≤ T98.heap.size := (Nat.le_trans K92 Kq98.1)
    refine OFin.to (S' := T98.setTop (mkF m 55 #[.val (.int p0), .val (.int p1), .val (.int p2), .val (.int p3), .val (.int p4), .val (.int (3 : Int32)), .val (.int p2), .val (.int p1), .unset, .unset, .unset] [(.ref b86)])) st98 ?_
    refine OFin.of (S' := T98.setTop (mkF m 63 #[.val (.int p0), .val (.int p1), .val (.int p2), .val (.int p3), .val (.int p4), .val (.int (3 : Int32)), .val (.int p2), .val (.int p1), .val (.ref b86), .unset, .unset] [(.int p1), (.int p2), (.ref b86)])) (fun t ht => ?_) ?_
    · refine XS.astore X98.here hx rfl (hb hby at_55) rfl rfl (l' := #[.val (.int p0), .val (.int p1), .val (.int p2), .val (.int p3), .val (.int p4), .val (.int (3 : Int32)), .val (.int p2), .val (.int p1), .val (.ref b86), .unset, .unset]) rfl ?_
      show Steps p.tables e below (T98.setTop (mkF m 57 #[.val (.int p0), .val (.int p1), .val (.int p2), .val (.int p3), .val (.int p4), .val (.int (3 : Int32)), .val (.int p2), .val (.int p1), .val (.ref b86), .unset, .unset] [])) _
      refine XS.aload X98.here hx rfl (hb hby at_57) rfl rfl ?_
      show Steps p.tables e below (T98.setTop (mkF m 59 _ [(.ref b86)])) _
      refine XS.iload X98.here hx rfl (hb hby at_59) rfl ?_
      show Steps p.tables e below (T98.setTop (mkF m 61 _ [(.int p2), (.ref b86)])) _
      refine XS.iload X98.here hx rfl (hb hby at_61) rfl ?_
      exact ht
    obtain ⟨cq107, kq107, q107a, q107b, q107c⟩ := isOf hZ92 (rfl : T98.heap = T98.heap) f103
    obtain ⟨_, _, ⟨T106, L106, k106, n106⟩, -, X106, ⟨Lc106, hQ106, l106, y106, z106⟩, st106⟩ := X98.virtualBack hx (y := (⟨"com/example/kindred/kindred/marc/XmlText$Fault", "byThen", "(II)Z"⟩ : MethodName)) (z := (⟨"com/example/kindred/kindred/marc/XmlText$Fault", "byThen", "(II)Z"⟩ : MethodName)) hown92 (mvT hZ92 (hw _ (List.mem_of_getElem? (i := 28) rfl))) (mvT hZ92 (hw _ (List.mem_of_getElem? (i := 29) rfl))) (notFace_of_selects (args := #[]) (mvT hZ92 (hw _ (List.mem_of_getElem? (i := 31) rfl)))) (mvT hZ92 (hw _ (List.mem_of_getElem? (i := 31) rfl))) (mvT hZ92 (hw _ (List.mem_of_getElem? (i := 30) rfl))) (by decide) (backOf (W := 0) (rmBy l Z _ hw [] b86 p2 p1 p0 p1 T98.heap n0 Z104 f99 f100) hZ92 (hw _ (List.mem_of_getElem? (i := 32) rfl)) (hw _ (List.mem_of_getElem? (i := 2) rfl)) (by decide) (by decide)) q107a q107c (g := (mkF m 63 #[.val (.int p0), .val (.int p1), .val (.int p2), .val (.int p3), .val (.int p4), .val (.int (3 : Int32)), .val (.int p2), .val (.int p1), .val (.ref b86), .unset, .unset] [(.int p1), (.int p2), (.ref b86)])) rfl (by rw [hml]; rfl) (Steps.refl _) (argsL := [(.int p2), (.int p1)]) (rest := []) (lenOf pd_2 rfl) rfl (by show 2 * 0 + _ ≤ _; exact Nat.le_of_eq rfl) (hb hby at_63) (fun _ _ => ⟨rfl, (rfl : T98.heap = T98.heap), (by decide : 3 + 0 ≤ _), (by decide : 11 + 0 ≤ _)⟩)
    dsimp only [Pt.U, Pt.locs, Pt.cells, Pt.slots] at X106 l106 y106 z106 st106 hQ106
    subst l106 y106 z106
    obtain ⟨rfl, Nq106, hs106⟩ := hQ106
    have N108 := Fr.app N102 Nq106
    refine OFin.to (S' := T106.setTop (mkF m 66 #[.val (.int p0), .val (.int p1), .val (.int p2), .val (.int p3), .val (.int p4), .val (.int (3 : Int32)), .val (.int p2), .val (.int p1), .val (.ref b86), .unset, .unset] [(.int (own_by p0 p1 p2 p1))])) st106 ?_
    refine OFin.of (S' := T106.setTop (mkF m 70 #[.val (.int p0), .val (.int p1), .val (.int p2), .val (.int p3), .val (.int p4), .val (.int (3 : Int32)), .val (.int p2), .val (.int p1), .val (.ref b86), .val (.int (own_by p0 p1 p2 p1)), .unset] [(.int p1), (.int p0)])) (fun t ht => ?_) ?_
    · refine XS.istore X106.here hx rfl (hb hby at_66) rfl (l' := #[.val (.int p0), .val (.int p1), .val (.int p2), .val (.int p3), .val (.int p4), .val (.int (3 : Int32)), .val (.int p2), .val (.int p1), .val (.ref b86), .val (.int (own_by p0 p1 p2 p1)), .unset]) rfl ?_
      show Steps p.tables e below (T106.setTop (mkF m 68 #[.val (.int p0), .val (.int p1), .val (.int p2), .val (.int p3), .val (.int p4), .val (.int (3 : Int32)), .val (.int p2), .val (.int p1), .val (.ref b86), .val (.int (own_by p0 p1 p2 p1)), .unset] [])) _
      refine XS.iloadN X106.here hx rfl (hb hby at_68) rfl ?_
      show Steps p.tables e below (T106.setTop (mkF m 69 _ [(.int p0)])) _
      refine XS.iloadN X106.here hx rfl (hb hby at_69) rfl ?_
      exact ht
    obtain ⟨_, _, ⟨T109, L109, k109, n109⟩, -, X109, ⟨Lc109, hQ109, l109, y109, z109⟩, st109⟩ := Jvm.LawKit.callS X106 hx (y := (⟨"com/example/kindred/kindred/marc/FaultByThenPinLaw", "key", "(II)J"⟩ : MethodName)) hown92 (mvT hZ92 (hw _ (List.mem_of_getElem? (i := 33) rfl))) (mvT hZ92 (hw _ (List.mem_of_getElem? (i := 34) rfl))) (mvT hZ92 (hw _ (List.mem_of_getElem? (i := 35) rfl))) (mvT hZ92 (hw _ (List.mem_of_getElem? (i := 36) rfl))) (by decide) (backOf (W := 0) (rmKy l Z _ hw [] p0 p1 T98.heap n0 Z104 ) hZ92 (hw _ (List.mem_of_getElem? (i := 36) rfl)) (hw _ (List.mem_of_getElem? (i := 35) rfl)) (by decide) (by decide)) (g := (mkF m 70 #[.val (.int p0), .val (.int p1), .val (.int p2), .val (.int p3), .val (.int p4), .val (.int (3 : Int32)), .val (.int p2), .val (.int p1), .val (.ref b86), .val (.int (own_by p0 p1 p2 p1)), .unset] [(.int p1), (.int p0)])) rfl (by rw [hml]; rfl) (argsL := [(.int p0), (.int p1)]) (rest := []) (lenOf pd_3 rfl) rfl (by show 2 * 0 + _ ≤ _; exact Nat.le_of_eq rfl) (hb hby at_70) (fun _ _ => ⟨rfl, hs106, (by decide : 3 + 0 ≤ _), (by decide : 11 + 0 ≤ _)⟩)
    dsimp only [Pt.U, Pt.locs, Pt.cells, Pt.slots] at X109 l109 y109 z109 st109 hQ109
    subst l109 y109 z109
    obtain ⟨rfl, Nq109, hs109⟩ := hQ109
    have N110 := Fr.app N108 Nq109
    refine OFin.of (S' := T109.setTop (mkF m 73 #[.val (.int p0), .val (.int p1), .val (.int p2), .val (.int p3), .val (.int p4), .val (.int (3 : Int32)), .val (.int p2), .val (.int p1), .val (.ref b86), .val (.int (own_by p0 p1 p2 p1)), .unset] [(.long (own_key p0 p1))])) (fun t ht => st109 t ht) ?_
    refine OFin.of (S' := T109.setTop (mkF m 77 #[.val (.int p0), .val (.int p1), .val (.int p2), .val (.int p3), .val (.int p4), .val (.int (3 : Int32)), .val (.int p2), .val (.int p1), .val (.ref b86), .val (.int (own_by p0 p1 p2 p1)), .unset] [(.int p1), (.int p2), (.long (own_key p0 p1))])) (fun t ht => ?_) ?_
    · refine XS.iload X109.here hx rfl (hb hby at_73) rfl ?_
      show Steps p.tables e below (T109.setTop (mkF m 75 _ [(.int p2), (.long (own_key p0 p1))])) _
      refine XS.iload X109.here hx rfl (hb hby at_75) rfl ?_
      exact ht
    obtain ⟨_, _, ⟨T111, L111, k111, n111⟩, -, X111, ⟨Lc111, hQ111, l111, y111, z111⟩, st111⟩ := Jvm.LawKit.callS X109 hx (y := (⟨"com/example/kindred/kindred/marc/FaultByThenPinLaw", "key", "(II)J"⟩ : MethodName)) hown92 (mvT hZ92 (hw _ (List.mem_of_getElem? (i := 33) rfl))) (mvT hZ92 (hw _ (List.mem_of_getElem? (i := 34) rfl))) (mvT hZ92 (hw _ (List.mem_of_getElem? (i := 35) rfl))) (mvT hZ92 (hw _ (List.mem_of_getElem? (i := 36) rfl))) (by decide) (backOf (W := 2) (rmKy l Z _ hw [] p2 p1 T98.heap n0 Z104 ) hZ92 (hw _ (List.mem_of_getElem? (i := 36) rfl)) (hw _ (List.mem_of_getElem? (i := 35) rfl)) (by decide) (by decide)) (g := (mkF m 77 #[.val (.int p0), .val (.int p1), .val (.int p2), .val (.int p3), .val (.int p4), .val (.int (3 : Int32)), .val (.int p2), .val (.int p1), .val (.ref b86), .val (.int (own_by p0 p1 p2 p1)), .unset] [(.int p1), (.int p2), (.long (own_key p0 p1))])) rfl (by rw [hml]; rfl) (argsL := [(.int p2), (.int p1)]) (rest := [(.long (own_key p0 p1))]) (lenOf pd_3 rfl) rfl (by show 2 * 0 + _ ≤ _; exact Nat.le_of_eq rfl) (hb hby at_77) (fun _ _ => ⟨rfl, hs109, (by decide : 3 + 0 ≤ _), (by decide : 11 + 0 ≤ _)⟩)
    dsimp only [Pt.U, Pt.locs, Pt.cells, Pt.slots] at X111 l111 y111 z111 st111 hQ111
    subst l111 y111 z111
    obtain ⟨rfl, Nq111, hs111⟩ := hQ111
    have N112 := Fr.app N110 Nq111
    refine OFin.of (S' := T111.setTop (mkF m 80 #[.val (.int p0), .val (.int p1), .val (.int p2), .val (.int p3), .val (.int p4), .val (.int (3 : Int32)), .val (.int p2), .val (.int p1), .val (.ref b86), .val (.int (own_by p0 p1 p2 p1)), .unset] [(.long (own_key p2 p1)), (.long (own_key p0 p1))])) (fun t ht => st111 t ht) ?_
    refine OFin.of (S' := T111.setTop (mkF m 81 #[.val (.int p0), .val (.int p1), .val (.int p2), .val (.int p3), .val (.int p4), .val (.int (3 : Int32)), .val (.int p2), .val (.int p1), .val (.ref b86), .val (.int (own_by p0 p1 p2 p1)), .unset] [(.int (lcmpW (own_key p0 p1) (own_key p2 p1)))])) (fun t ht => ?_) ?_
    · refine XS.lcmp X111.here hx rfl (hb hby at_80) rfl ?_
      exact ht
    by_cases hc113 : (0 : Int32) < (lcmpW (own_key p0 p1) (own_key p2 p1))
    · refine OFin.of (S' := T111.setTop (mkF m 103 #[.val (.int p0), .val (.int p1), .val (.int p2), .val (.int p3), .val (.int p4), .val (.int (3 : Int32)), .val (.int p2), .val (.int p1), .val (.ref b86), .val (.int (own_by p0 p1 p2 p1)), .val (.int (0 : Int32))] [(.int (1 : Int32))])) (fun t ht => ?_) ?_
      · refine XS.ifYes X111.here hx rfl (pc0 := 81) (pc' := 88) rfl (hb hby at_81) rfl ((if0 _ _).trans (tlt (hc113 : (0 : Int32) < (lcmpW (own_key p0 p1) (own_key p2 p1)))).2.2.1) (by decide) (by decide) ?_
        show Steps p.tables e below (T111.setTop (mkF m 88 _ [])) _
        refine XS.iconst X111.here hx rfl (hb hby at_88) ?_
        show Steps p.tables e below (T111.setTop (mkF m 89 _ [(.int (0 : Int32))])) _
        refine XS.istore X111.here hx rfl (hb hby at_89) rfl (l' := #[.val (.int p0), .val (.int p1), .val (.int p2), .val (.int p3), .val (.int p4), .val (.int (3 : Int32)), .val (.int p2), .val (.int p1), .val (.ref b86), .val (.int (own_by p0 p1 p2 p1)), .val (.int (0 : Int32))]) rfl ?_
        show Steps p.tables e below (T111.setTop (mkF m 91 #[.val (.int p0), .val (.int p1), .val (.int p2), .val (.int p3), .val (.int p4), .val (.int (3 : Int32)), .val (.int p2), .val (.int p1), .val (.ref b86), .val (.int (own_by p0 p1 p2 p1)), .val (.int (0 : Int32))] [])) _
        refine XS.iload X111.here hx rfl (hb hby at_91) rfl ?_
        show Steps p.tables e below (T111.setTop (mkF m 93 _ [(.int (own_by p0 p1 p2 p1))])) _
        refine XS.iload X111.here hx rfl (hb hby at_93) rfl ?_
        show Steps p.tables e below (T111.setTop (mkF m 95 _ [(.int (0 : Int32)), (.int (own_by p0 p1 p2 p1))])) _
        refine XS.icmpNo X111.here hx rfl (hb hby at_95) rfl (teq (own_g0 hc113 : (own_by p0 p1 p2 p1) = (0 : Int32))).2 ?_
        show Steps p.tables e below (T111.setTop (mkF m 98 _ [])) _
        refine XS.iconst X111.here hx rfl (hb hby at_98) ?_
        show Steps p.tables e below (T111.setTop (mkF m 99 _ [(.int (1 : Int32))])) _
        refine XS.goto X111.here hx rfl (pc0 := 99) (pc' := 103) rfl (hb hby at_99) (by decide) (by decide) ?_
        exact ht
      exact OFin.retBW (s := s) (vm₁ := T92.vm) X111 S92 (by rw [hs111]; exact kk105) hx hlk (t := .boolean) (by simp) hret (hb hby at_103) (by decide) (by decide) (by rw [hs111]; exact ⟨rfl, N112⟩)
    · refine OFin.of (S' := T111.setTop (mkF m 103 #[.val (.int p0), .val (.int p1), .val (.int p2), .val (.int p3), .val (.int p4), .val (.int (3 : Int32)), .val (.int p2), .val (.int p1), .val (.ref b86), .val (.int (own_by p0 p1 p2 p1)), .val (.int (1 : Int32))] [(.int (1 : Int32))])) (fun t ht => ?_) ?_
      · refine XS.ifNo X111.here hx rfl (hb hby at_81) rfl ((if0 _ _).trans (flt (hc113 : ¬ ((0 : Int32) < (lcmpW (own_key p0 p1) (own_key p2 p1))))).2.2.1) ?_
        show Steps p.tables e below (T111.setTop (mkF m 84 _ [])) _
        refine XS.iconst X111.here hx rfl (hb hby at_84) ?_
        show Steps p.tables e below (T111.setTop (mkF m 85 _ [(.int (1 : Int32))])) _
        refine XS.goto X111.here hx rfl (pc0 := 85) (pc' := 89) rfl (hb hby at_85) (by decide) (by decide) ?_
        show Steps p.tables e below (T111.setTop (mkF m 89 _ [(.int (1 : Int32))])) _
        refine XS.istore X111.here hx rfl (hb hby at_89) rfl (l' := #[.val (.int p0), .val (.int p1), .val (.int p2), .val (.int p3), .val (.int p4), .val (.int (3 : Int32)), .val (.int p2), .val (.int p1), .val (.ref b86), .val (.int (own_by p0 p1 p2 p1)), .val (.int (1 : Int32))]) rfl ?_
        show Steps p.tables e below (T111.setTop (mkF m 91 #[.val (.int p0), .val (.int p1), .val (.int p2), .val (.int p3), .val (.int p4), .val (.int (3 : Int32)), .val (.int p2), .val (.int p1), .val (.ref b86), .val (.int (own_by p0 p1 p2 p1)), .val (.int (1 : Int32))] [])) _
        refine XS.iload X111.here hx rfl (hb hby at_91) rfl ?_
        show Steps p.tables e below (T111.setTop (mkF m 93 _ [(.int (own_by p0 p1 p2 p1))])) _
        refine XS.iload X111.here hx rfl (hb hby at_93) rfl ?_
        show Steps p.tables e below (T111.setTop (mkF m 95 _ [(.int (1 : Int32)), (.int (own_by p0 p1 p2 p1))])) _
        refine XS.icmpNo X111.here hx rfl (hb hby at_95) rfl (teq (own_g1 hc113 : (own_by p0 p1 p2 p1) = (1 : Int32))).2 ?_
        show Steps p.tables e below (T111.setTop (mkF m 98 _ [])) _
        refine XS.iconst X111.here hx rfl (hb hby at_98) ?_
        show Steps p.tables e below (T111.setTop (mkF m 99 _ [(.int (1 : Int32))])) _
        refine XS.goto X111.here hx rfl (pc0 := 99) (pc' := 103) rfl (hb hby at_99) (by decide) (by decide) ?_
        exact ht
      exact OFin.retBW (s := s) (vm₁ := T92.vm) X111 S92 (by rw [hs111]; exact kk105) hx hlk (t := .boolean) (by simp) hret (hb hby at_103) (by decide) (by decide) (by rw [hs111]; exact ⟨rfl, N112⟩)
set_option maxRecDepth 65536 in
set_option maxHeartbeats 40000000 in
theorem comes_1 {Post : Tables → Env → Array Value → State → Outcome → State → Prop} (hpost : ∀ tb e args s v u, (limb_1_1.after args s (.returned v) u = true ∧ limb_1_2.after args s (.returned v) u = true ∧ True) → FramedW s (.returned v) u (Jvm.fieldLocs frame_1_writes args s ++ Jvm.arrayLocs frame_1_arrays args s ++ Jvm.staticLocs frame_1_statics s) 16 1152 → Post tb e args s (.returned v) u) :
    ArmFor flags0 classFile x code maxLocals ret World_1 tables_1 room_1 Calls_1 rest_1 Pre_1 Post := by
  intro l hfl _ _ p e ha hc hk s m args below hf hA hF happ hP
  obtain ⟨hcalls, hrest, hpre⟩ := hP
  obtain ⟨-, -, -, hnamed, -, -, -, hat⟩ := (Spec.applies_iff hf).mp happ
  obtain ⟨hg, hn⟩ := and_e (Cond.before_iff.mp (show (Jvm.Cond.and given_1 narrow_1).before args s = true from hpre))
  obtain ⟨gg0, hg0⟩ := and_e hg
  obtain ⟨gg1, hg1⟩ := and_e hg0
  obtain ⟨gg2, hg2⟩ := and_e hg1
  obtain ⟨gg3, hg3⟩ := and_e hg2
  obtain ⟨gg4, hg4⟩ := and_e hg3
  obtain ⟨w0, w1, w2, w3, w4, rfl⟩ : ∃ w0 w1 w2 w3 w4 : Value, args = #[w0, w1, w2, w3, w4] := by
    have hs : args.size = 5 := by simpa [Cond.value, given_1] using gg0
    obtain ⟨L⟩ := args
    match L, hs with
    | [w0, w1, w2, w3, w4], _ => exact ⟨w0, w1, w2, w3, w4, rfl⟩
  have hw := fun d (hd : d ∈ tables_1) => atoms_spec (ws := Jvm.Cond.code x code maxLocals ret :: tables_1) hat d (List.mem_cons_of_mem _ hd)
  have hfit : Fit s := fun {y c} hc i hi => by
    obtain ⟨ha, rfl⟩ := Array.getElem?_eq_some_iff.mp hc
    have q := List.all_eq_true.mp ((Array.all_eq_true_iff_forall_mem.mp hF) _ (Array.getElem_mem ha)) i (List.mem_range.mpr hi)
    simpa [Array.getElem?_eq_getElem hi] using q
  obtain ⟨i0, ei0⟩ := is_v gg1
  obtain rfl : w0 = (.int i0) := Option.some.inj ei0
  obtain ⟨i1, ei1⟩ := is_v gg2
  obtain rfl : w1 = (.int i1) := Option.some.inj ei1
  obtain ⟨i2, ei2⟩ := is_v gg3
  obtain rfl : w2 = (.int i2) := Option.some.inj ei2
  obtain ⟨i3, ei3⟩ := is_v gg4
  obtain rfl : w3 = (.int i3) := Option.some.inj ei3
  obtain ⟨i4, ei4⟩ := is_v hg4
  obtain rfl : w4 = (.int i4) := Option.some.inj ei4

  obtain ⟨n, o, h1, h2, h3, _, L, rfl, ⟨rfl, N⟩, hq⟩ := rm0 l s _ hw tables_1 i0 i1 i2 i3 i4  s.heap s.heap.size (Nat.le_refl _)  p e ha hc hk s m _ below hf ((Spec.applies_iff_loose hf).mp happ).1 ⟨rfl, State.Warmed39.refl s, rfl⟩ trivial
  refine ⟨n, _, h1, h2, h3, hpost _ _ _ _ _ _ ⟨Cond.after_iff.mpr rfl, Cond.after_iff.mpr (eq_i res_at (Term.int_eval (1)) rfl), trivial⟩ ⟨hq.1, hq.2.1, hq.2.2.1, (hq.2.2.2.sift fun y hy => Or.inr (N y hy)).mono (by decide) (by decide)⟩⟩
theorem main_1_1 : Claimed_1_1 := comes_1 fun _ _ _ _ _ _ h hF => ⟨h.1, hF⟩
theorem main_1_2 : Claimed_1_2 := comes_1 fun _ _ _ _ _ _ h hF => ⟨h.2.1, hF⟩
end Jvm.Pilot.@@N@@
namespace Jvm.Pilot.@@N@@
open Jvm Jvm.ClassFile Sem Op Lib Jvm.Free Jvm.Stand Jvm.Pilot.@@N@@.Jvm.D
/-! MADE BY PROGRAM (witnessworld.py) out of the Statement's table words and the real class files: 15 classes; the members and pool entries that the words name. The judged class is class 1, her method 1. -/
namespace start1
open Jvm.ClassFile
def u (s : String) : CpInfo := .utf8 (stringToUtf16 s)
/-- a pool by its gaps: so many unusable entries, then the entry; so many at the end -/
def gap : Nat → List CpInfo → List CpInfo
  | 0, r => r
  | n + 1, r => .unusable :: gap n r
def poolList (es : List (Nat × CpInfo)) (last : Nat) : List CpInfo := es.foldr (fun e r => gap e.1 (e.2 :: r)) (gap last [])
def pool (es : List (Nat × CpInfo)) (last : Nat) : Array CpInfo := ⟨poolList es last⟩
def fileOf (pool : Array CpInfo) (this : Nat) (attrs : Array Attribute := #[]) (ms : Array MethodInfo := #[]) (fl : Nat := 33) (sup : Nat := 0) (ifs : Array Nat := #[]) (fds : Array FieldInfo := #[]) : ClassFile where
  minorVersion := 0
  majorVersion := 65
  constantPool := pool
  accessFlags := fl
  thisClass := this
  superClass := sup
  interfaces := ifs
  fields := fds
  methods := ms
  attributes := attrs
def plain (name : String) (sup : Option ClassId) : Class where
  name := name
  kind := .ordinary
  loader := none
  accessFlags := 33
  super := sup
  interfaces := #[]
  cf := none
  fields := #[]
  methods := #[]
  instanceTypes := #[]
  staticTypes := #[]
  resolved := #[]
  callSites := []
  init := .initialized
  statics := none
  mirror := none

def pool0 : Array CpInfo := pool [(5, u "<init>"), (0, u "()V"), (1, .class_ 10), (1, u "java/lang/Object")] 113

def k0c0 : Code := { maxStack := 0, maxLocals := 1, code := object_method_1_code, exceptionTable := #[], attributes := #[] }
def k0m0 : Method := { name := "<init>", desc := "()V", sig := { parameters := [], returnType := none }, accessFlags := 1, code := some k0c0 }
/-- java/lang/Object -/
def k0 : Class := { plain "java/lang/Object" none with
  accessFlags := 33
  interfaces := #[]
  cf := some (fileOf pool0 8 #[] #[{ accessFlags := 1, nameIndex := 5, descriptorIndex := 6, attributes := #[] }] 33 0 #[] #[])
  fields := #[]
  methods := #[k0m0]
  instanceTypes := #[]
  staticTypes := #[]
  resolved := Array.replicate 124 none
  statics := none }

def pool1 : Array CpInfo := pool [(2, .class_ 4), (1, u "java/lang/Object"), (0, u "<init>"), (0, u "()V"), (0, .class_ 8), (0, u "com/example/kindred/kindred/marc/XmlText$Fault"), (0, .string 10), (0, u "x"), (0, .methodref 7 12), (0, .nameAndType 5 13), (0, u "(IILjava/lang/String;)V"), (0, .methodref 7 15), (0, .nameAndType 16 17), (0, u "byThen"), (0, u "(II)Z"), (0, .methodref 19 20), (0, .class_ 21), (0, .nameAndType 22 23), (0, u "com/example/kindred/kindred/marc/FaultByThenPinLaw"), (0, u "key"), (0, u "(II)J"), (2, .long 18446744071562067968), (3, u "law"), (0, u "(IIIII)Z")] 7

def k1m0 : Method := { name := "<init>", desc := "()V", sig := { parameters := [], returnType := none }, accessFlags := 1, code := none }
def k1c1 : Code := { maxStack := 5, maxLocals := 11, code := code, exceptionTable := #[], attributes := #[] }
def k1m1 : Method := { name := "law", desc := "(IIIII)Z", sig := { parameters := [.int, .int, .int, .int, .int], returnType := some .boolean }, accessFlags := 9, code := some k1c1 }
def k1c2 : Code := { maxStack := 6, maxLocals := 2, code := method_3_code, exceptionTable := #[], attributes := #[] }
def k1m2 : Method := { name := "key", desc := "(II)J", sig := { parameters := [.int, .int], returnType := some .long }, accessFlags := 10, code := some k1c2 }
/-- com/example/kindred/kindred/marc/FaultByThenPinLaw -/
def k1 : Class := { plain "com/example/kindred/kindred/marc/FaultByThenPinLaw" (some 0) with
  accessFlags := 49
  interfaces := #[]
  cf := some (fileOf pool1 19 #[] #[{ accessFlags := 1, nameIndex := 5, descriptorIndex := 6, attributes := #[] }, { accessFlags := 9, nameIndex := 30, descriptorIndex := 31, attributes := #[] }, { accessFlags := 10, nameIndex := 22, descriptorIndex := 23, attributes := #[] }] 49 2 #[] #[])
  fields := #[]
  methods := #[k1m0, k1m1, k1m2]
  instanceTypes := #[]
  staticTypes := #[]
  resolved := Array.replicate 39 none
  statics := none }

def pool2 : Array CpInfo := pool [(1, .methodref 2 3), (0, .class_ 4), (0, .nameAndType 5 6), (0, u "java/lang/Object"), (0, u "<init>"), (0, u "()V"), (0, .class_ 8), (0, u "java/lang/Record")] 13

def k2c0 : Code := { maxStack := 1, maxLocals := 1, code := jdk_30_method_1_code, exceptionTable := #[], attributes := #[] }
def k2m0 : Method := { name := "<init>", desc := "()V", sig := { parameters := [], returnType := none }, accessFlags := 4, code := some k2c0 }
/-- java/lang/Record -/
def k2 : Class := { plain "java/lang/Record" (some 0) with
  accessFlags := 1057
  interfaces := #[]
  cf := some (fileOf pool2 7 #[] #[{ accessFlags := 4, nameIndex := 5, descriptorIndex := 6, attributes := #[] }] 1057 2 #[] #[])
  fields := #[]
  methods := #[k2m0]
  instanceTypes := #[]
  staticTypes := #[]
  resolved := Array.replicate 22 none
  statics := none }

def pool3 : Array CpInfo := pool [(1, .methodref 2 3), (0, .class_ 4), (0, .nameAndType 5 6), (0, u "java/lang/Record"), (0, u "<init>"), (0, u "()V"), (0, .fieldref 8 9), (0, .class_ 10), (0, .nameAndType 11 12), (0, u "com/example/kindred/kindred/marc/XmlText$Fault"), (0, u "line"), (0, u "I"), (0, .fieldref 8 14), (0, .nameAndType 15 12), (0, u "column"), (0, .fieldref 8 17), (0, .nameAndType 18 19), (0, u "reason"), (0, u "Ljava/lang/String;"), (12, u "(IILjava/lang/String;)V"), (3, u "byThen"), (0, u "(II)Z"), (7, .class_ 46), (0, u "com/example/kindred/kindred/marc/XmlText")] 21

def k3c0 : Code := { maxStack := 2, maxLocals := 4, code := prog_61_method_1_code, exceptionTable := #[], attributes := #[] }
def k3m0 : Method := { name := "<init>", desc := "(IILjava/lang/String;)V", sig := { parameters := [.int, .int, (.object "java/lang/String")], returnType := none }, accessFlags := 0, code := some k3c0 }
def k3c1 : Code := { maxStack := 2, maxLocals := 3, code := prog_61_method_2_code, exceptionTable := #[], attributes := #[] }
def k3m1 : Method := { name := "byThen", desc := "(II)Z", sig := { parameters := [.int, .int], returnType := some .boolean }, accessFlags := 0, code := some k3c1 }
/-- com/example/kindred/kindred/marc/XmlText$Fault -/
def k3 : Class := { plain "com/example/kindred/kindred/marc/XmlText$Fault" (some 2) with
  accessFlags := 48
  interfaces := #[]
  cf := some (fileOf pool3 8 #[.nestHost 45] #[{ accessFlags := 0, nameIndex := 5, descriptorIndex := 32, attributes := #[] }, { accessFlags := 0, nameIndex := 36, descriptorIndex := 37, attributes := #[] }] 48 2 #[] #[{ accessFlags := 18, nameIndex := 11, descriptorIndex := 12, attributes := #[] }, { accessFlags := 18, nameIndex := 15, descriptorIndex := 12, attributes := #[] }, { accessFlags := 18, nameIndex := 18, descriptorIndex := 19, attributes := #[] }])
  fields := #[{ name := "line", type := .int, accessFlags := 18, slot := 0, constantValue := 0 }, { name := "column", type := .int, accessFlags := 18, slot := 1, constantValue := 0 }, { name := "reason", type := (.object "java/lang/String"), accessFlags := 18, slot := 2, constantValue := 0 }]
  methods := #[k3m0, k3m1]
  instanceTypes := #[.int, .int, (.object "java/lang/String")]
  staticTypes := #[]
  resolved := Array.replicate 68 none
  statics := none }

def pool4 : Array CpInfo := pool [(1, .class_ 2), (0, u "java/io/Serializable"), (0, .class_ 4), (0, u "java/lang/Object")] 2

/-- java/io/Serializable -/
def k4 : Class := { plain "java/io/Serializable" (some 0) with
  accessFlags := 1537
  interfaces := #[]
  cf := some (fileOf pool4 1 #[] #[] 1537 3 #[] #[])
  fields := #[]
  methods := #[]
  instanceTypes := #[]
  staticTypes := #[]
  resolved := Array.replicate 7 none
  statics := none }

def pool5 : Array CpInfo := pool [(1, .class_ 2), (0, u "java/lang/Comparable"), (0, .class_ 4), (0, u "java/lang/Object")] 7

/-- java/lang/Comparable -/
def k5 : Class := { plain "java/lang/Comparable" (some 0) with
  accessFlags := 1537
  interfaces := #[]
  cf := some (fileOf pool5 1 #[] #[] 1537 3 #[] #[])
  fields := #[]
  methods := #[]
  instanceTypes := #[]
  staticTypes := #[]
  resolved := Array.replicate 12 none
  statics := none }

def pool6 : Array CpInfo := pool [(2, .class_ 4), (1, u "java/lang/CharSequence"), (42, .class_ 48), (0, u "java/lang/CharSequence$1CodePointIterator"), (10, .class_ 60), (0, u "java/lang/CharSequence$1CharIterator"), (5, .class_ 67), (0, u "java/lang/Object")] 63

/-- java/lang/CharSequence -/
def k6 : Class := { plain "java/lang/CharSequence" (some 0) with
  accessFlags := 1537
  interfaces := #[]
  cf := some (fileOf pool6 2 #[.nestMembers #[47, 59]] #[] 1537 66 #[] #[])
  fields := #[]
  methods := #[]
  instanceTypes := #[]
  staticTypes := #[]
  resolved := Array.replicate 131 none
  statics := none }

def pool7 : Array CpInfo := pool [(1, .class_ 2), (0, u "java/lang/constant/Constable"), (0, .class_ 4), (0, u "java/lang/Object")] 6

/-- java/lang/constant/Constable -/
def k7 : Class := { plain "java/lang/constant/Constable" (some 0) with
  accessFlags := 1537
  interfaces := #[]
  cf := some (fileOf pool7 1 #[] #[] 1537 3 #[] #[])
  fields := #[]
  methods := #[]
  instanceTypes := #[]
  staticTypes := #[]
  resolved := Array.replicate 11 none
  statics := none }

def pool8 : Array CpInfo := pool [(1, .class_ 2), (0, u "java/lang/constant/ConstantDesc"), (0, .class_ 4), (0, u "java/lang/Object")] 32

/-- java/lang/constant/ConstantDesc -/
def k8 : Class := { plain "java/lang/constant/ConstantDesc" (some 0) with
  accessFlags := 1537
  interfaces := #[]
  cf := some (fileOf pool8 1 #[] #[] 1537 3 #[] #[])
  fields := #[]
  methods := #[]
  instanceTypes := #[]
  staticTypes := #[]
  resolved := Array.replicate 37 none
  statics := none }

def pool9 : Array CpInfo := pool [(2, .class_ 4), (1, u "java/lang/Object"), (0, u "<init>"), (0, u "()V"), (3, .class_ 12), (1, u "java/lang/String"), (0, u "value"), (0, u "[B"), (2, u "coder"), (0, u "B"), (2, u "hash"), (0, u "I"), (2, u "hashIsZero"), (0, u "Z"), (13, u "COMPACT_STRINGS"), (534, .class_ 576), (0, u "java/lang/CharSequence"), (22, u "CASE_INSENSITIVE_ORDER"), (0, u "Ljava/util/Comparator;"), (500, u "serialPersistentFields"), (0, u "[Ljava/io/ObjectStreamField;"), (0, .class_ 1104), (0, u "java/lang/String$CaseInsensitiveComparator"), (1, .class_ 1107), (0, u "java/io/Serializable"), (0, .class_ 1109), (0, u "java/lang/Comparable"), (0, .class_ 1111), (0, u "java/lang/constant/Constable"), (0, .class_ 1113), (0, u "java/lang/constant/ConstantDesc"), (2, u "serialVersionUID"), (0, u "J"), (3, u "REPL"), (0, u "C"), (2, u "LATIN1"), (1, u "UTF16")] 323

def k9m0 : Method := { name := "<init>", desc := "()V", sig := { parameters := [], returnType := none }, accessFlags := 1, code := none }
/-- java/lang/String -/
def k9 : Class := { plain "java/lang/String" (some 0) with
  accessFlags := 49
  interfaces := #[4, 5, 6, 7, 8]
  cf := some (fileOf pool9 10 #[.nestMembers #[1103]] #[{ accessFlags := 1, nameIndex := 5, descriptorIndex := 6, attributes := #[] }] 49 2 #[1106, 1108, 575, 1110, 1112] #[{ accessFlags := 18, nameIndex := 13, descriptorIndex := 14, attributes := #[] }, { accessFlags := 18, nameIndex := 17, descriptorIndex := 18, attributes := #[] }, { accessFlags := 2, nameIndex := 21, descriptorIndex := 22, attributes := #[] }, { accessFlags := 2, nameIndex := 25, descriptorIndex := 26, attributes := #[] }, { accessFlags := 26, nameIndex := 1116, descriptorIndex := 1117, attributes := #[] }, { accessFlags := 24, nameIndex := 40, descriptorIndex := 26, attributes := #[] }, { accessFlags := 26, nameIndex := 1101, descriptorIndex := 1102, attributes := #[] }, { accessFlags := 26, nameIndex := 1121, descriptorIndex := 1122, attributes := #[] }, { accessFlags := 25, nameIndex := 599, descriptorIndex := 600, attributes := #[] }, { accessFlags := 24, nameIndex := 1125, descriptorIndex := 18, attributes := #[] }, { accessFlags := 24, nameIndex := 1127, descriptorIndex := 18, attributes := #[] }])
  fields := #[{ name := "value", type := (.array .byte), accessFlags := 18, slot := 0, constantValue := 0 }, { name := "coder", type := .byte, accessFlags := 18, slot := 1, constantValue := 0 }, { name := "hash", type := .int, accessFlags := 2, slot := 2, constantValue := 0 }, { name := "hashIsZero", type := .boolean, accessFlags := 2, slot := 3, constantValue := 0 }, { name := "serialVersionUID", type := .long, accessFlags := 26, slot := 0, constantValue := 0 }, { name := "COMPACT_STRINGS", type := .boolean, accessFlags := 24, slot := 1, constantValue := 0 }, { name := "serialPersistentFields", type := (.array (.object "java/io/ObjectStreamField")), accessFlags := 26, slot := 2, constantValue := 0 }, { name := "REPL", type := .char, accessFlags := 26, slot := 3, constantValue := 0 }, { name := "CASE_INSENSITIVE_ORDER", type := (.object "java/util/Comparator"), accessFlags := 25, slot := 4, constantValue := 0 }, { name := "LATIN1", type := .byte, accessFlags := 24, slot := 5, constantValue := 0 }, { name := "UTF16", type := .byte, accessFlags := 24, slot := 6, constantValue := 0 }]
  methods := #[k9m0]
  instanceTypes := #[(.array .byte), .byte, .int, .boolean]
  staticTypes := #[.long, .boolean, (.array (.object "java/io/ObjectStreamField")), .char, (.object "java/util/Comparator"), .byte, .byte]
  resolved := Array.replicate 1451 none
  statics := none }

def pool10 : Array CpInfo := pool [(1, u "java/lang/Cloneable"), (0, .class_ 1), (0, u "java/lang/Object"), (0, .class_ 3)] 3

/-- java/lang/Cloneable -/
def k10 : Class := { plain "java/lang/Cloneable" (some 0) with
  accessFlags := 1537
  interfaces := #[]
  cf := some (fileOf pool10 2 #[] #[] 1537 4 #[] #[])
  fields := #[]
  methods := #[]
  instanceTypes := #[]
  staticTypes := #[]
  resolved := Array.replicate 8 none
  statics := none }

/-- the primitive byte -/
def k11 : Class := { plain "byte" none with kind := .primitive 'B', accessFlags := 0x411 }
/-- [B -/
def k12 : Class := { plain "[B" (some 0) with kind := .array 11 .byte, interfaces := #[10, 4], accessFlags := 1041 }

/-- the primitive int -/
def k13 : Class := { plain "int" none with kind := .primitive 'I', accessFlags := 0x411 }
/-- [I -/
def k14 : Class := { plain "[I" (some 0) with kind := .array 13 .int, interfaces := #[10, 4], accessFlags := 1041 }

def heap : Heap := #[]
def classes : Array Class := #[k0, k1, k2, k3, k4, k5, k6, k7, k8, k9, k10, k11, k12, k13, k14]
def interned : List (Array UInt16 × Addr) := []
def slotsUsed : Nat := 0
def theMethod : MethodId := ⟨1, 1⟩
def args0 : Array Value := #[.int 5, .int 5, .int 5, .int 5, .int 5]
def aboutOver (below : List Frame) : State where
  vm := { classes := classes, interned := interned.toArray }
  heap := heap
  slotsUsed := slotsUsed
  threads := #[{ frames := .invoking theMethod args0 :: below }]
def below0 : List Frame := [.native { method := ⟨0, 0⟩, args := #[] }]
def about1 : State := aboutOver below0
def p0 : Program := .bare "" "" ""
def e0 : Env := launch0.env 0 0 0
theorem w_frames : about1.frames = Frame.invoking theMethod args0 :: below0 := rfl
set_option maxRecDepth 65536 in
theorem w_args : argsFit about1.vm theMethod args0 = true := by decide +kernel
set_option maxRecDepth 65536 in
theorem w_heap : heapFits about1 = true := by decide +kernel
set_option maxRecDepth 65536 in
theorem w_runnable : about1.curStatus? = some .runnable := by decide +kernel
set_option maxRecDepth 65536 in
theorem w_alone : about1.alone = true := by decide +kernel
set_option maxRecDepth 65536 in
theorem w_named : about1.methodNamed? x = some theMethod := by decide +kernel
set_option maxRecDepth 65536 in
theorem w_hears : about1.hears theMethod below0 = true := by decide +kernel
set_option maxRecDepth 65536 in
theorem w_ripe : about1.ripe theMethod args0 below0 = true := by decide +kernel
theorem w_running : about1.status = .running := rfl
set_option maxRecDepth 65536 in
theorem w_room : about1.hasRoom e0.platform room_1 = true :=
  launch0.hasRoom_least _ room_1 (by decide +kernel) (by decide +kernel) (by decide +kernel) (by decide +kernel) (by decide +kernel) (by decide +kernel)
theorem allAtoms_all (ts : List Jvm.Cond) (a : Array Jvm.Value) (st : Jvm.State) : (allAtoms ts).before a st = ts.all (fun c => c.before a st) := by
  induction ts with
  | nil => rfl
  | cons c t ih =>
    show (Jvm.Cond.and c (allAtoms t)).before a st = _
    rw [Jvm.Cond.before_and, ih, List.all_cons]
def words1 : List Jvm.Cond := Jvm.Cond.code x code maxLocals ret :: tables_1
/-- a 'code' word, met by the world's own term for the bytes: nothing is compared byte by byte -/
theorem code_word {y : MethodName} {bytes : ByteArray} {mx : Nat} {rt : Option FieldType} {a : Array Value} {s : State} {m : MethodId} {meth : Method} {c : Code} (h1 : s.methodNamed? y = some m) (h2 : s.vm.method? m = some meth) (h3 : meth.code = some c) (h4 : c.code = bytes)
    (h5 : (c.maxLocals == mx && c.exceptionTable.isEmpty && decide (c.maxStack ≤ mostOperands) && decide (meth.sig.returnType = rt) && !meth.locks && decide (parseMethodDescriptor y.desc = some meth.sig)) = true) : (Jvm.Cond.code y bytes mx rt).before a s = true := by
  simp only [Bool.and_eq_true, beq_iff_eq, Bool.not_eq_true', decide_eq_true_eq] at h5
  obtain ⟨⟨⟨⟨⟨g1, g2⟩, g3⟩, g4⟩, g5⟩, g6⟩ := h5
  simp [Cond.before, Cond.holds, Cond.value, h1, h2, h3, h4, g1, g2, g3, g4, g5, g6]
def isCode : Jvm.Cond → Bool
  | .code _ _ _ _ => true
  | _ => false
theorem all_split {L : List Jvm.Cond} {P : Jvm.Cond → Bool} (h1 : L.all (fun c => isCode c || P c) = true) (h2 : ∀ c ∈ L.filter isCode, P c = true) : L.all P = true := by
  refine List.all_eq_true.mpr fun c hc => ?_
  have h := List.all_eq_true.mp h1 c hc
  rcases Bool.eq_false_or_eq_true (isCode c) with hi | hi
  · exact h2 c (List.mem_filter.mpr ⟨hc, hi⟩)
  · simpa [hi] using h
set_option maxRecDepth 65536 in
theorem w_c0 : (Jvm.Cond.code x code maxLocals ret).before args0 about1 = true := code_word (m := ⟨1, 1⟩) (meth := k1m1) (c := k1c1) (by decide +kernel) rfl rfl rfl (by decide +kernel)
set_option maxRecDepth 65536 in
theorem w_c1 : (Jvm.Cond.code ({ cls := "com/example/kindred/kindred/marc/XmlText$Fault", name := "<init>", desc := "(IILjava/lang/String;)V" } : Jvm.MethodName) prog_61_method_1_code (4 : Nat) (Option.none : Option Jvm.ClassFile.FieldType)).before args0 about1 = true := code_word (m := ⟨3, 0⟩) (meth := k3m0) (c := k3c0) (by decide +kernel) rfl rfl rfl (by decide +kernel)
set_option maxRecDepth 65536 in
theorem w_c2 : (Jvm.Cond.code ({ cls := "java/lang/Record", name := "<init>", desc := "()V" } : Jvm.MethodName) jdk_30_method_1_code (1 : Nat) (Option.none : Option Jvm.ClassFile.FieldType)).before args0 about1 = true := code_word (m := ⟨2, 0⟩) (meth := k2m0) (c := k2c0) (by decide +kernel) rfl rfl rfl (by decide +kernel)
set_option maxRecDepth 65536 in
theorem w_c3 : (Jvm.Cond.code ({ cls := "java/lang/Object", name := "<init>", desc := "()V" } : Jvm.MethodName) object_method_1_code (1 : Nat) (Option.none : Option Jvm.ClassFile.FieldType)).before args0 about1 = true := code_word (m := ⟨0, 0⟩) (meth := k0m0) (c := k0c0) (by decide +kernel) rfl rfl rfl (by decide +kernel)
set_option maxRecDepth 65536 in
theorem w_c4 : (Jvm.Cond.code ({ cls := "com/example/kindred/kindred/marc/XmlText$Fault", name := "byThen", desc := "(II)Z" } : Jvm.MethodName) prog_61_method_2_code (3 : Nat) (Option.some Jvm.ClassFile.FieldType.boolean)).before args0 about1 = true := code_word (m := ⟨3, 1⟩) (meth := k3m1) (c := k3c1) (by decide +kernel) rfl rfl rfl (by decide +kernel)
set_option maxRecDepth 65536 in
theorem w_c5 : (Jvm.Cond.code ({ cls := "com/example/kindred/kindred/marc/FaultByThenPinLaw", name := "key", desc := "(II)J" } : Jvm.MethodName) method_3_code (2 : Nat) (Option.some Jvm.ClassFile.FieldType.long)).before args0 about1 = true := code_word (m := ⟨1, 2⟩) (meth := k1m2) (c := k1c2) (by decide +kernel) rfl rfl rfl (by decide +kernel)
def codes1 : List Jvm.Cond := [Jvm.Cond.code x code maxLocals ret, Jvm.Cond.code ({ cls := "com/example/kindred/kindred/marc/XmlText$Fault", name := "<init>", desc := "(IILjava/lang/String;)V" } : Jvm.MethodName) prog_61_method_1_code (4 : Nat) (Option.none : Option Jvm.ClassFile.FieldType), Jvm.Cond.code ({ cls := "java/lang/Record", name := "<init>", desc := "()V" } : Jvm.MethodName) jdk_30_method_1_code (1 : Nat) (Option.none : Option Jvm.ClassFile.FieldType), Jvm.Cond.code ({ cls := "java/lang/Object", name := "<init>", desc := "()V" } : Jvm.MethodName) object_method_1_code (1 : Nat) (Option.none : Option Jvm.ClassFile.FieldType), Jvm.Cond.code ({ cls := "com/example/kindred/kindred/marc/XmlText$Fault", name := "byThen", desc := "(II)Z" } : Jvm.MethodName) prog_61_method_2_code (3 : Nat) (Option.some Jvm.ClassFile.FieldType.boolean), Jvm.Cond.code ({ cls := "com/example/kindred/kindred/marc/FaultByThenPinLaw", name := "key", desc := "(II)J" } : Jvm.MethodName) method_3_code (2 : Nat) (Option.some Jvm.ClassFile.FieldType.long)]
set_option maxRecDepth 65536 in
theorem codes_eq : words1.filter isCode = codes1 := rfl
theorem w_codes : ∀ c ∈ words1.filter isCode, c.before args0 about1 = true := by
  rw [codes_eq]
  intro c hc
  simp only [codes1, List.mem_cons, List.not_mem_nil, or_false] at hc
  rcases hc with rfl | rfl | rfl | rfl | rfl | rfl
  · exact w_c0
  · exact w_c1
  · exact w_c2
  · exact w_c3
  · exact w_c4
  · exact w_c5
set_option maxRecDepth 65536 in
theorem w_t1 : (words1.take 24).all (fun c => isCode c || c.before args0 about1) = true := by decide +kernel
set_option maxRecDepth 65536 in
theorem w_t2 : (words1.drop 24).all (fun c => isCode c || c.before args0 about1) = true := by decide +kernel
theorem w_tables : (allAtoms (Jvm.Cond.code x code maxLocals ret :: tables_1)).before args0 about1 = true := by
  rw [allAtoms_all]
  show words1.all (fun c => c.before args0 about1) = true
  refine all_split ?_ w_codes
  rw [← List.take_append_drop 24 words1, List.all_append, w_t1, w_t2]
  rfl
set_option maxRecDepth 65536 in
theorem w_case : (Jvm.Cond.and given_1 narrow_1).before args0 about1 = true := by decide +kernel
theorem w_applies : (headSpec (Jvm.Cond.code x code maxLocals ret :: tables_1) room_1).applies x e0.platform about1 = true :=
  (Spec.applies_iff w_frames).mpr ⟨w_running, w_runnable, w_alone, w_named, w_hears, w_ripe, w_room, w_tables⟩
theorem atStart : AtStart classFile x code maxLocals ret World_1 tables_1 room_1 Calls_1 rest_1 Pre_1 launch0 p0 e0 about1 theMethod args0 below0 :=
  ⟨lists_1, trivial, launch0.admits_env _ _ _, launch0.least_env, fairChoices_fair.cas, fairChoices_fair.clock, w_frames, w_args, w_heap, w_applies, trivial, trivial, w_case⟩
end start1
theorem witness_1 : WitnessClaimed_1 := ⟨start1.p0, start1.e0, start1.about1, start1.theMethod, start1.args0, start1.below0, start1.atStart⟩
end Jvm.Pilot.@@N@@
