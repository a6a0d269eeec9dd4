import JvmDerived
import JvmDerived.Pilot.@@N@@Statement
import JvmDerived.Pilot.@@N@@Code
set_option linter.unusedVariables false
set_option linter.unusedSimpArgs false
namespace Jvm.RoadKit
open Sem ClassFile Op Lib Jvm.Stand Jvm.Free Jvm.LawKit
section OwnNew
variable {p : Program} {l : Launch} {e : Env} {R : Room} {s : State} {m : MethodId} {args : Array Value} {below : List Frame} {meth : Method} {c : Code} {T : State} {locs : List Loc} {cells slots : Nat}
theorem retI (X : Stand p l e R s m args below meth c T locs cells slots) (hx : p.tables.exec = Jvm.exec) {pc : Nat} {Ls : Array Slot} {z : Int32} {rest : List Value} (hret : meth.sig.returnType = some .int) (hd : decode c.code pc = .ok (.ireturn, 1)) {fs : List Frame}
    (hl : ∀ (f : JFrame) (acts : List Action), f.method = m → f.locked = none → f.entered = [] → (doReturn e (T.setTop f) acts (some (.int z))).1 = T.setFrames fs) : Steps p.tables e below (T.setTop (mkF m pc Ls (.int z :: rest))) (T.setFrames fs) := by
  have hm' : T.vm.method? m = some meth := X.method'
  have hn : narrow .int (.int z) = .int z := rfl
  show Steps p.tables e below (T.setTop { method := m, pc := pc, locals := Ls, stack := _ :: rest, locked := none }) _
  jvm_step X.here [X.here.top, hx, hd, hm', hret, hn]
  first | (intro acts; rw [hl _ acts rfl rfl rfl]) | rw [hl _ _ rfl rfl rfl]
  exact Steps.refl _
/-- from S the run comes to an end of this invocation at which K holds -/
def OFin (p : Program) (e : Env) (below : List Frame) (K : Outcome → State → Prop) (S : State) : Prop := ∃ s₂ o, Steps p.tables e below S s₂ ∧ s₂.status = .running ∧ Ended s₂ below o ∧ K o s₂
theorem OFin.of {K : Outcome → State → Prop} {S S' : State} (h : ∀ t, Steps p.tables e below S' t → Steps p.tables e below S t) (k : OFin p e below K S') : OFin p e below K S := by
  obtain ⟨t, o, a, b⟩ := k; exact ⟨t, o, h t a, b⟩
theorem OFin.to {K : Outcome → State → Prop} {S S' : State} (h : Steps p.tables e below S S') (k : OFin p e below K S') : OFin p e below K S := by
  obtain ⟨t, o, a, b⟩ := k; exact ⟨t, o, h.trans a, b⟩
abbrev KPost (s : State) (Q : Option Value → Heap → List Loc → Prop) (C D : Nat) : Outcome → State → Prop := fun o U' => ∃ v L, o = .returned v ∧ Q v U'.heap L ∧ FrameEnd s o U' L C D
theorem OFin.retI (X : Stand p l e R s m args below meth c T locs cells slots) (hx : p.tables.exec = Jvm.exec) (hlk : meth.locks = false) {pc : Nat} {Ls : Array Slot} {z : Int32} {rest : List Value} {Q : Option Value → Heap → List Loc → Prop} {C D : Nat} (hret : meth.sig.returnType = some .int) (hd : decode c.code pc = .ok (.ireturn, 1)) (hC : cells ≤ C) (hD : slots ≤ D) (hQ : Q (some (.int z)) T.heap locs) :
    OFin p e below (KPost s Q C D) (T.setTop (mkF m pc Ls (.int z :: rest))) := by
  obtain ⟨fs, hr, hrun, hended, hW, hsame⟩ := X.leave (v := some (.int z)) (fun h => by rw [hret] at h; cases h) hlk
  exact ⟨_, _, Jvm.RoadKit.retI X hx hret hd hr, hrun, hended, _, _, rfl, hQ, ⟨_, rfl⟩, hW, hsame.mono hC hD⟩
theorem OFin.retB (X : Stand p l e R s m args below meth c T locs cells slots) (hx : p.tables.exec = Jvm.exec) (hlk : meth.locks = false) {pc : Nat} {Ls : Array Slot} {z : Int32} {rest : List Value} {Q : Option Value → Heap → List Loc → Prop} {C D : Nat} {t : FieldType} (ht : t = .boolean ∨ t = .byte ∨ t = .char ∨ t = .short) (hret : meth.sig.returnType = some t) (hd : decode c.code pc = .ok (.ireturn, 1)) (hC : cells ≤ C) (hD : slots ≤ D) (hQ : Q (some (.int (nar t z))) T.heap locs) :
    OFin p e below (KPost s Q C D) (T.setTop (mkF m pc Ls (.int z :: rest))) := by
  obtain ⟨fs, hr, hrun, hended, hW, hsame⟩ := X.leave (v := some (.int (nar t z))) (fun h => by rw [hret] at h; cases h) hlk
  exact ⟨_, _, retN X hx hret ht hd hr, hrun, hended, _, _, rfl, hQ, ⟨_, rfl⟩, hW, hsame.mono hC hD⟩
theorem OFin.retJ (X : Stand p l e R s m args below meth c T locs cells slots) (hx : p.tables.exec = Jvm.exec) (hlk : meth.locks = false) {pc : Nat} {Ls : Array Slot} {z : Int64} {Q : Option Value → Heap → List Loc → Prop} {C D : Nat} (hret : meth.sig.returnType = some .long) (hd : decode c.code pc = .ok (.lreturn, 1)) (hC : cells ≤ C) (hD : slots ≤ D) (hQ : Q (some (.long z)) T.heap locs) :
    OFin p e below (KPost s Q C D) (T.setTop (mkF m pc Ls [.long z])) := by
  obtain ⟨fs, hr, hrun, hended, hW, hsame⟩ := X.leave (v := some (.long z)) (fun h => by rw [hret] at h; cases h) hlk
  exact ⟨_, _, X.lreturnOut hx hret hd hr, hrun, hended, _, _, rfl, hQ, ⟨_, rfl⟩, hW, hsame.mono hC hD⟩
theorem OFin.retA (X : Stand p l e R s m args below meth c T locs cells slots) (hx : p.tables.exec = Jvm.exec) (hlk : meth.locks = false) {pc : Nat} {Ls : Array Slot} {z : Value} {Q : Option Value → Heap → List Loc → Prop} {C D : Nat} {t : FieldType} (ht : t.isReference = true) (hz : z.isRef = true) (hret : meth.sig.returnType = some t) (hd : decode c.code pc = .ok (.areturn, 1)) (hC : cells ≤ C) (hD : slots ≤ D) (hQ : Q (some z) T.heap locs) :
    OFin p e below (KPost s Q C D) (T.setTop (mkF m pc Ls [z])) := by
  obtain ⟨fs, hr, hrun, hended, hW, hsame⟩ := X.leave (v := some z) (fun h => by rw [hret] at h; cases h) hlk
  exact ⟨_, _, X.areturnOut hx hz hret ht hd hr, hrun, hended, _, _, rfl, hQ, ⟨_, rfl⟩, hW, hsame.mono hC hD⟩
theorem OFin.retD (X : Stand p l e R s m args below meth c T locs cells slots) (hx : p.tables.exec = Jvm.exec) (hlk : meth.locks = false) {pc : Nat} {Ls : Array Slot} {z : UInt64} {rest : List Value} {Q : Option Value → Heap → List Loc → Prop} {C D : Nat} (hret : meth.sig.returnType = some .double) (hd : decode c.code pc = .ok (.dreturn, 1)) (hC : cells ≤ C) (hD : slots ≤ D) (hQ : Q (some (.double z)) T.heap locs) :
    OFin p e below (KPost s Q C D) (T.setTop (mkF m pc Ls (.double z :: rest))) := by
  obtain ⟨fs, hr, hrun, hended, hW, hsame⟩ := X.leave (v := some (.double z)) (fun h => by rw [hret] at h; cases h) hlk
  exact ⟨_, _, retOut X hx hret rfl (Or.inr (Or.inr (Or.inl ⟨rfl, rfl, z, rfl⟩))) hd hr, hrun, hended, _, _, rfl, hQ, ⟨_, rfl⟩, hW, hsame.mono hC hD⟩
theorem OFin.retV (X : Stand p l e R s m args below meth c T locs cells slots) (hx : p.tables.exec = Jvm.exec) (hlk : meth.locks = false) {pc : Nat} {Ls : Array Slot} {Q : Option Value → Heap → List Loc → Prop} {C D : Nat} (hret : meth.sig.returnType = none) (hd : decode c.code pc = .ok (.return_, 1)) (hC : cells ≤ C) (hD : slots ≤ D) (hQ : Q none T.heap locs) :
    OFin p e below (KPost s Q C D) (T.setTop (mkF m pc Ls [])) := by
  obtain ⟨fs, hr, hrun, hended, hW, hsame⟩ := X.leave (v := none) (fun _ => rfl) hlk
  exact ⟨_, _, X.returnOut hx hret hd hr, hrun, hended, _, _, rfl, hQ, ⟨_, rfl⟩, hW, hsame.mono hC hD⟩
abbrev KPostW (s : State) (Q : Option Value → Heap → List Loc → Prop) (C D : Nat) : Outcome → State → Prop := fun o U' => ∃ v L, o = .returned v ∧ Q v U'.heap L ∧ ReturnedEndW s o U' L C D
theorem OFin.retBW {vm₁ : Vm} {k : Nat} (X : Stand p l e R (s.setVm vm₁) m args below meth c T locs cells slots) (hS : s.Since vm₁ k) (hk : k ≤ T.heap.size) (hx : p.tables.exec = Jvm.exec) (hlk : meth.locks = false) {pc : Nat} {Ls : Array Slot} {z : Int32} {rest : List Value} {Q : Option Value → Heap → List Loc → Prop} {C D : Nat} {t : FieldType} (ht : t = .boolean ∨ t = .byte ∨ t = .char ∨ t = .short) (hret : meth.sig.returnType = some t) (hd : decode c.code pc = .ok (.ireturn, 1)) (hC : cells ≤ C) (hD : slots ≤ D) (hQ : Q (some (.int (nar t z))) T.heap locs) :
    OFin p e below (KPostW s Q C D) (T.setTop (mkF m pc Ls (.int z :: rest))) := by
  obtain ⟨fs, hr, hrun, hended, h1, h2, h3, h4⟩ := X.leaveW hS hk (v := some (.int (nar t z))) (fun h => by rw [hret] at h; cases h) hlk
  exact ⟨_, _, retN X hx hret ht hd hr, hrun, hended, _, _, rfl, hQ, ⟨_, rfl⟩, h2, h3, h4.mono hC hD⟩
theorem own_alen {Z : State} {h : Heap} {a : Addr} {cl : Cell} {ty : FieldType} {z : Int32} {g : JFrame} {rest : List Value} {target : State} (X : Stand p l e R s m args below meth c T locs cells slots) (hx : p.tables.exec = Jvm.exec) (hZ : Z.Warmed39 s.vm) (eT : T.heap = h) (A : Arr Z h a cl ty) (S : cl.slots.size = z.toNatClampNeg) (q : ¬ z < 0) (hg : g.method = m) (hs : g.stack = .ref a :: rest) (hd : decode c.code g.pc = .ok (.arraylength, 1))
    (hr : Steps p.tables e below (T.setTop { g with pc := g.pc + 1, stack := .int z :: rest }) target) : Steps p.tables e below (T.setTop g) target := by
  refine X.arraylength hx (by rw [eT]; exact A.1) (State.isArrayOf_alike hZ.alike A.2.1) hg hs hd _ ?_
  rw [len_of S q]; exact hr
def OwnNoSta (h : Heap) (ws : List Addr) : Prop := ∀ x ∈ ws, ∀ cell : Cell, h[x]? = some cell → cell.vm.isStatics = false
theorem own_sn0 {h : Heap} : OwnNoSta h [] := fun _ q => nomatch q
theorem own_snS {Z : State} {h : Heap} {a : Addr} {C : String} {ws : List Addr} (E : Exa Z h a C) (r : OwnNoSta h ws) : OwnNoSta h (a :: ws) := fun x q cell hc => by
  rcases List.mem_cons.mp q with rfl | q
  · obtain ⟨c', _, h1, -, -, h4, -⟩ := E; cases h1.symm.trans hc; exact h4
  · exact r x q cell hc
theorem own_snV {Z : State} {h : Heap} {a : Addr} {k : ClassId} {ty : FieldType} {z : Int32} {vs : List Value} {dv : Value} {ws : List Addr} (F : Arv Z h a k ty z vs dv) (r : OwnNoSta h ws) : OwnNoSta h (a :: ws) := fun x q cell hc => by
  rcases List.mem_cons.mp q with rfl | q
  · obtain ⟨c', A, -⟩ := F; cases A.1.symm.trans hc; exact A.plain
  · exact r x q cell hc
theorem own_staKeep {Z : State} {h h' : Heap} {C n d : String} {v : Value} {ws : List Addr} (F : Sta Z h C n d v) (K : Keep h h' ws) (q : OwnNoSta h ws) : Sta Z h' C n d v := by
  obtain ⟨cf, i, k, f, st, cell, h1, h2, h3, h4, h5, h6, h7⟩ := F
  refine ⟨cf, i, k, f, st, cell, h1, h2, h3, h4, K.2.1 st cell h5 (fun z => ?_), h6, h7⟩
  have := q st z cell h5
  rw [this] at h6; cases h6
theorem own_pop2L {tb : Tables} [Ours tb] {e : Env} {below : List Frame} {T target : State} {m : MethodId} {c : Code} {g : JFrame} (h : At T m c below) (hx : tb.exec = Jvm.exec) (hg : g.method = m) {x : Int64} {rest : List Value} (hd : decode c.code g.pc = .ok (.pop2, 1)) (hs : g.stack = .long x :: rest)
    (hr : Steps tb e below (T.setTop { g with pc := g.pc + 1, stack := rest }) target) : Steps tb e below (T.setTop g) target := by
  subst hg
  jvm_step h [h.top, hx, hd, hs, Value.category]
  exact hr
end OwnNew
end Jvm.RoadKit
namespace Jvm.Pilot.@@N@@
open Jvm Jvm.ClassFile Sem Op Lib Jvm.Free Jvm.Stand Jvm.LawKit Jvm.RoadKit Bundle Jvm.Pilot.@@N@@.Jvm.D
theorem pd_0 : parseMethodDescriptor "(Ljava/lang/String;Lcom/example/greylag/greylag/model/Capacity;I)V" = some ⟨[(.object "java/lang/String"), (.object "com/example/greylag/greylag/model/Capacity"), .int], none⟩ := by decide +kernel
theorem pd_1 : parseMethodDescriptor "(I)Z" = some ⟨[.int], some .boolean⟩ := by decide +kernel
theorem pd_2 : parseMethodDescriptor "()I" = some ⟨[], some .int⟩ := by decide +kernel
theorem own_strAtoms {Z : State} {a0 : Array Value} (hw : ∀ d ∈ tables_1, d.before a0 Z = true) : ∀ a ∈ Bundle.stringAtoms, a.before a0 Z = true := fun a ha => by
  simp only [Bundle.stringAtoms, List.mem_cons, List.not_mem_nil, or_false] at ha
  rcases ha with rfl | rfl | rfl | rfl | rfl | rfl | rfl
  · exact (hw _ (List.mem_of_getElem? (i := 4) rfl))
  · exact (hw _ (List.mem_of_getElem? (i := 5) rfl))
  · exact (hw _ (List.mem_of_getElem? (i := 6) rfl))
  · exact (hw _ (List.mem_of_getElem? (i := 7) rfl))
  · exact (hw _ (List.mem_of_getElem? (i := 8) rfl))
  · exact (hw _ (List.mem_of_getElem? (i := 9) rfl))
  · exact (hw _ (List.mem_of_getElem? (i := 10) rfl))
def own_live (j c : Int32) : Int32 := if c < j then 0 else 1
theorem own_dif (c j : Int32) : lcmpW (c.toInt64 - j.toInt64) (0 : Int64) < (0 : Int32) ↔ c < j := by
  rw [lw_lt, Int64.lt_iff_toInt_lt, Int32.lt_iff_toInt_lt]
  have h := c_lsub c.toInt64 j.toInt64
  rw [c_i2l, c_i2l] at h
  have h1 := rng32 c
  have h2 := rng32 j
  have h3 := rng64 (c.toInt64 - j.toInt64)
  have e0 : (0 : Int64).toInt = 0 := by decide
  omega
theorem own_l0 {c j : Int32} (h : lcmpW (c.toInt64 - j.toInt64) (0 : Int64) < (0 : Int32)) : own_live j c = 0 := by unfold own_live; rw [if_pos ((own_dif c j).mp h)]
theorem own_l1 {c j : Int32} (h : ¬ lcmpW (c.toInt64 - j.toInt64) (0 : Int64) < (0 : Int32)) : own_live j c = 1 := by unfold own_live; rw [if_neg (fun q => h ((own_dif c j).mpr q))]
theorem own_self (j : Int32) : ¬ own_live j j = 0 := by unfold own_live; rw [if_neg (by rw [Int32.lt_iff_toInt_lt]; omega)]; decide
theorem own_before {j : Int32} (h : ¬ j = (-2147483648 : Int32)) : own_live j (j - (1 : Int32)) = 0 := by
  unfold own_live
  rw [if_pos]
  rw [Int32.lt_iff_toInt_lt]
  have h1 := c_isub j 1
  have h2 := rng32 j
  have h3 := rng32 (j - 1)
  have e1 : (1 : Int32).toInt = 1 := by decide
  have h4 : j.toInt ≠ -2147483648 := fun q => h (Int32.toInt_inj.mp (by rw [q]; decide))
  omega
theorem dIni_0 : decode prog_40_method_1_code 0 = .ok (.aload_n 0, 1) := by decide +kernel
theorem dIni_1 : decode prog_40_method_1_code 1 = .ok (.invokespecial 1, 3) := by decide +kernel
theorem dIni_4 : decode prog_40_method_1_code 4 = .ok (.aload_n 0, 1) := by decide +kernel
theorem dIni_5 : decode prog_40_method_1_code 5 = .ok (.aload_n 1, 1) := by decide +kernel
theorem dIni_6 : decode prog_40_method_1_code 6 = .ok (.putfield 7, 3) := by decide +kernel
theorem dIni_9 : decode prog_40_method_1_code 9 = .ok (.aload_n 0, 1) := by decide +kernel
theorem dIni_10 : decode prog_40_method_1_code 10 = .ok (.aload_n 2, 1) := by decide +kernel
theorem dIni_11 : decode prog_40_method_1_code 11 = .ok (.putfield 13, 3) := by decide +kernel
theorem dIni_14 : decode prog_40_method_1_code 14 = .ok (.aload_n 0, 1) := by decide +kernel
theorem dIni_15 : decode prog_40_method_1_code 15 = .ok (.iload_n 3, 1) := by decide +kernel
theorem dIni_16 : decode prog_40_method_1_code 16 = .ok (.putfield 17, 3) := by decide +kernel
theorem dIni_19 : decode prog_40_method_1_code 19 = .ok (.return_, 1) := by decide +kernel
theorem pnIni : plainName "com/example/greylag/greylag/model/Scenario$Broker" = true := by first | (simp [plainName, overriddenIn]; done) | decide +kernel
theorem efIni (m : MethodId) (a0 : Addr) (a1 : Addr) (p3 : Int32) : entryFrame m #[(.ref a0), (.ref a1), .null, (.int p3)] 4 = mkF m 0 #[.val (.ref a0), .val (.ref a1), .val .null, .val (.int p3)] [] := by first | (simp [entryFrame, mkF, argsToLocals, Value.category]; done) | rfl
def QIni (Z : State) (a0 : Addr) (a1 : Addr) (p3 : Int32) (h0 : Heap) (n0 : Nat) (v : Option Value) (h : Heap) (L : List Loc) : Prop := v = none ∧ Fr n0 L ∧ Keep h0 h [a0] ∧ Fld Z h a0 "com/example/greylag/greylag/model/Scenario$Broker" "name" "Ljava/lang/String;" (.ref a1) ∧ Fld Z h a0 "com/example/greylag/greylag/model/Scenario$Broker" "capacity" "Lcom/example/greylag/greylag/model/Capacity;" .null ∧ Fld Z h a0 "com/example/greylag/greylag/model/Scenario$Broker" "joinCycle" "I" (.int p3)
set_option maxRecDepth 65536 in
set_option maxHeartbeats 40000000 in
theorem rmIni (l : Launch) (Z : State) (a0 : Array Value) (hw : ∀ d ∈ tables_1, d.before a0 Z = true) (ws : List Jvm.Cond) (a0 : Addr) (a1 : Addr) (p3 : Int32) (h0 : Heap) (n0 : Nat) (Z0 : n0 ≤ h0.size) (E0 : Exa Z h0 a0 "com/example/greylag/greylag/model/Scenario$Broker") (F_name : Fld Z h0 a0 "com/example/greylag/greylag/model/Scenario$Broker" "name" "Ljava/lang/String;" .null) (F_capacity : Fld Z h0 a0 "com/example/greylag/greylag/model/Scenario$Broker" "capacity" "Lcom/example/greylag/greylag/model/Capacity;" .null) (F_joinCycle : Fld Z h0 a0 "com/example/greylag/greylag/model/Scenario$Broker" "joinCycle" "I" (.int (0 : Int32))) (g0 : n0 ≤ a0) :
    MetFree l (⟨"com/example/greylag/greylag/model/Scenario$Broker", "<init>", "(Ljava/lang/String;Lcom/example/greylag/greylag/model/Capacity;I)V"⟩ : MethodName) (head1 (Jvm.Cond.code (⟨"com/example/greylag/greylag/model/Scenario$Broker", "<init>", "(Ljava/lang/String;Lcom/example/greylag/greylag/model/Capacity;I)V"⟩ : MethodName) prog_40_method_1_code 4 none :: ws) ({ frames := 1, cells := 0, slots := 0, locals := 12 } : Room)) (fun a U => a = #[(.ref a0), (.ref a1), .null, (.int p3)] ∧ Z.Warmed39 U.vm ∧ U.heap = h0) (fun _ _ _ _ _ => True) (fun _ U o U' => ∃ v L, o = .returned v ∧ QIni Z a0 a1 p3 h0 n0 v U'.heap L ∧ FrameEnd U o U' L ({ frames := 1, cells := 0, slots := 0, locals := 12 } : Room).cells ({ frames := 1, cells := 0, slots := 0, locals := 12 } : Room).slots) := by
  refine MetFree.of_bodySF (plainFor_of_name pnIni) hisR ?_
  intro p e s m args below meth c s₁ Bd hml0 hP hK
  obtain ⟨rfl, hZ, hh⟩ := hP
  have hx := Bd.exec
  have hby := Bd.bytes
  have hlk := BodyLoose.notSynchronized Bd
  have hret := Bd.returns
  have hml : c.maxLocals = 4 := hml0
  have hown : s.vm.findClass "com/example/greylag/greylag/model/Scenario$Broker" = some m.cls := findClass_of_methodNamed Bd.named
  have hnm := (name_of_methodNamed Bd.named Bd.method).1
  have X0 : Stand p l e ({ frames := 1, cells := 0, slots := 0, locals := 12 } : Room) s m #[(.ref a0), (.ref a1), .null, (.int p3)] below meth c s₁ [] 0 0 := Stand.of_body Bd
  have e0 : s₁.heap = h0 := by rw [← hh, Bd.state]; rfl
  have N0 := Fr.nil n0
  show OFin p e below (KPost s (QIni Z a0 a1 p3 h0 n0) ({ frames := 1, cells := 0, slots := 0, locals := 12 } : Room).cells ({ frames := 1, cells := 0, slots := 0, locals := 12 } : Room).slots) _
  rw [efIni m a0 a1 p3]
  have K0 : Keep h0 h0 [a0] := Keep.refl _ _
  refine OFin.of (S' := s₁.setTop (mkF m 1 #[.val (.ref a0), .val (.ref a1), .val .null, .val (.int p3)] [(.ref a0)])) (fun t ht => ?_) ?_
  · refine XS.aloadN X0.here hx rfl (hb hby dIni_0) rfl rfl ?_
    exact ht
  obtain ⟨T1, X1, e1, st1⟩ := initO X0 hx hZ hown (hw _ (List.mem_of_getElem? (i := 14) rfl)) (hw _ (List.mem_of_getElem? (i := 15) rfl)) (hw _ (List.mem_of_getElem? (i := 16) rfl)) e0 (g := (mkF m 1 #[.val (.ref a0), .val (.ref a1), .val .null, .val (.int p3)] [(.ref a0)])) rfl (by rw [hml]; rfl) rfl (hb hby dIni_1) (by decide) (W := 0) (by show 2 * 0 + _ ≤ _; exact Nat.le_of_eq rfl) (by decide)
  refine OFin.of (S' := T1.setTop (mkF m 4 #[.val (.ref a0), .val (.ref a1), .val .null, .val (.int p3)] [])) (fun t ht => st1 t ht) ?_
  refine OFin.of (S' := T1.setTop (mkF m 6 #[.val (.ref a0), .val (.ref a1), .val .null, .val (.int p3)] [(.ref a1), (.ref a0)])) (fun t ht => ?_) ?_
  · refine XS.aloadN X1.here hx rfl (hb hby dIni_4) rfl rfl ?_
    show Steps p.tables e below (T1.setTop (mkF m 5 _ [(.ref a0)])) _
    refine XS.aloadN X1.here hx rfl (hb hby dIni_5) rfl rfl ?_
    exact ht
  obtain ⟨T2, h2, X2, e2, W2, st2⟩ := putF X1 hx hZ hown (host := "") (Or.inl (hw _ (List.mem_of_getElem? (i := 17) rfl))) Via.refl e1 F_name E0 (Or.inr ⟨(hw _ (List.mem_of_getElem? (i := 18) rfl)), rfl, hnm⟩) (hw _ (List.mem_of_getElem? (i := 1) rfl)) (ty := (.object "java/lang/String")) (by decide) rfl rfl (g := (mkF m 6 #[.val (.ref a0), .val (.ref a1), .val .null, .val (.int p3)] [(.ref a1), (.ref a0)])) rfl rfl (hb hby dIni_6)
  have f3 := (E0.wr W2)
  have f4 := (F_capacity.other W2 (Or.inr (slot_ne (Or.inr (hw _ (List.mem_of_getElem? (i := 20) rfl))) (Or.inr (hw _ (List.mem_of_getElem? (i := 18) rfl))) (by decide) (t := (.object "com/example/greylag/greylag/model/Capacity")) (t' := (.object "java/lang/String")) (by decide) (by decide))))
  have f5 := (F_joinCycle.other W2 (Or.inr (slot_ne (Or.inr (hw _ (List.mem_of_getElem? (i := 22) rfl))) (Or.inr (hw _ (List.mem_of_getElem? (i := 18) rfl))) (by decide) (t := .int) (t' := (.object "java/lang/String")) (by decide) (by decide))))
  have Z6 : n0 ≤ h2.size := (Nat.le_trans Z0 (Keep.of_wr W2).1)
  have K7 : Keep h0 h2 [a0] := (K0.wr W2 (Or.inl (List.mem_of_getElem? (i := 0) rfl)))
  have N8 := Fr.snoc X2 N0 g0
  have f9 : Fld Z h2 a0 "com/example/greylag/greylag/model/Scenario$Broker" "name" "Ljava/lang/String;" (.ref a1) := (F_name.same W2)
  refine OFin.of (S' := T2.setTop (mkF m 9 #[.val (.ref a0), .val (.ref a1), .val .null, .val (.int p3)] [])) (fun t ht => st2 t ht) ?_
  refine OFin.of (S' := T2.setTop (mkF m 11 #[.val (.ref a0), .val (.ref a1), .val .null, .val (.int p3)] [.null, (.ref a0)])) (fun t ht => ?_) ?_
  · refine XS.aloadN X2.here hx rfl (hb hby dIni_9) rfl rfl ?_
    show Steps p.tables e below (T2.setTop (mkF m 10 _ [(.ref a0)])) _
    refine XS.aloadN X2.here hx rfl (hb hby dIni_10) rfl rfl ?_
    exact ht
  obtain ⟨T10, h10, X10, e10, W10, st10⟩ := putF X2 hx hZ hown (host := "") (Or.inl (hw _ (List.mem_of_getElem? (i := 19) rfl))) Via.refl e2 f4 f3 (Or.inr ⟨(hw _ (List.mem_of_getElem? (i := 20) rfl)), rfl, hnm⟩) (hw _ (List.mem_of_getElem? (i := 1) rfl)) (ty := (.object "com/example/greylag/greylag/model/Capacity")) (by decide) rfl rfl (g := (mkF m 11 #[.val (.ref a0), .val (.ref a1), .val .null, .val (.int p3)] [.null, (.ref a0)])) rfl rfl (hb hby dIni_11)
  have f11 := (f3.wr W10)
  have f12 := (f5.other W10 (Or.inr (slot_ne (Or.inr (hw _ (List.mem_of_getElem? (i := 22) rfl))) (Or.inr (hw _ (List.mem_of_getElem? (i := 20) rfl))) (by decide) (t := .int) (t' := (.object "com/example/greylag/greylag/model/Capacity")) (by decide) (by decide))))
  have f13 := (f9.other W10 (Or.inr (slot_ne (Or.inr (hw _ (List.mem_of_getElem? (i := 18) rfl))) (Or.inr (hw _ (List.mem_of_getElem? (i := 20) rfl))) (by decide) (t := (.object "java/lang/String")) (t' := (.object "com/example/greylag/greylag/model/Capacity")) (by decide) (by decide))))
  have Z14 : n0 ≤ h10.size := (Nat.le_trans Z6 (Keep.of_wr W10).1)
  have K15 : Keep h0 h10 [a0] := (K7.wr W10 (Or.inl (List.mem_of_getElem? (i := 0) rfl)))
  have N16 := Fr.snoc X10 N8 g0
  have f17 : Fld Z h10 a0 "com/example/greylag/greylag/model/Scenario$Broker" "capacity" "Lcom/example/greylag/greylag/model/Capacity;" .null := (f4.same W10)
  refine OFin.of (S' := T10.setTop (mkF m 14 #[.val (.ref a0), .val (.ref a1), .val .null, .val (.int p3)] [])) (fun t ht => st10 t ht) ?_
  refine OFin.of (S' := T10.setTop (mkF m 16 #[.val (.ref a0), .val (.ref a1), .val .null, .val (.int p3)] [(.int p3), (.ref a0)])) (fun t ht => ?_) ?_
  · refine XS.aloadN X10.here hx rfl (hb hby dIni_14) rfl rfl ?_
    show Steps p.tables e below (T10.setTop (mkF m 15 _ [(.ref a0)])) _
    refine XS.iloadN X10.here hx rfl (hb hby dIni_15) rfl ?_
    exact ht
  obtain ⟨T18, h18, X18, e18, W18, st18⟩ := putF X10 hx hZ hown (host := "") (Or.inl (hw _ (List.mem_of_getElem? (i := 21) rfl))) Via.refl e10 f12 f11 (Or.inr ⟨(hw _ (List.mem_of_getElem? (i := 22) rfl)), rfl, hnm⟩) (hw _ (List.mem_of_getElem? (i := 1) rfl)) (ty := .int) (by decide) rfl rfl (g := (mkF m 16 #[.val (.ref a0), .val (.ref a1), .val .null, .val (.int p3)] [(.int p3), (.ref a0)])) rfl rfl (hb hby dIni_16)
  have f19 := (f11.wr W18)
  have f20 := (f13.other W18 (Or.inr (slot_ne (Or.inr (hw _ (List.mem_of_getElem? (i := 18) rfl))) (Or.inr (hw _ (List.mem_of_getElem? (i := 22) rfl))) (by decide) (t := (.object "java/lang/String")) (t' := .int) (by decide) (by decide))))
  have f21 := (f17.other W18 (Or.inr (slot_ne (Or.inr (hw _ (List.mem_of_getElem? (i := 20) rfl))) (Or.inr (hw _ (List.mem_of_getElem? (i := 22) rfl))) (by decide) (t := (.object "com/example/greylag/greylag/model/Capacity")) (t' := .int) (by decide) (by decide))))
  have Z22 : n0 ≤ h18.size := (Nat.le_trans Z14 (Keep.of_wr W18).1)
  have K23 : Keep h0 h18 [a0] := (K15.wr W18 (Or.inl (List.mem_of_getElem? (i := 0) rfl)))
  have N24 := Fr.snoc X18 N16 g0
  have f25 : Fld Z h18 a0 "com/example/greylag/greylag/model/Scenario$Broker" "joinCycle" "I" (.int p3) := (f12.same W18)
  refine OFin.of (S' := T18.setTop (mkF m 19 #[.val (.ref a0), .val (.ref a1), .val .null, .val (.int p3)] [])) (fun t ht => st18 t ht) ?_
  exact OFin.retV X18 hx hlk hret (hb hby dIni_19) (by decide) (by decide) (by rw [e18]; exact ⟨rfl, N24, K23, f20, f21, f25⟩)
theorem dLv_0 : decode prog_40_method_5_code 0 = .ok (.iload_n 1, 1) := by decide +kernel
theorem dLv_1 : decode prog_40_method_5_code 1 = .ok (.aload_n 0, 1) := by decide +kernel
theorem dLv_2 : decode prog_40_method_5_code 2 = .ok (.getfield 17, 3) := by decide +kernel
theorem dLv_5 : decode prog_40_method_5_code 5 = .ok (.if_icmp .lt 7, 3) := by decide +kernel
theorem dLv_8 : decode prog_40_method_5_code 8 = .ok (.iconst 1, 1) := by decide +kernel
theorem dLv_9 : decode prog_40_method_5_code 9 = .ok (.goto 4, 3) := by decide +kernel
theorem dLv_12 : decode prog_40_method_5_code 12 = .ok (.iconst 0, 1) := by decide +kernel
theorem dLv_13 : decode prog_40_method_5_code 13 = .ok (.ireturn, 1) := by decide +kernel
theorem pnLv : plainName "com/example/greylag/greylag/model/Scenario$Broker" = true := by first | (simp [plainName, overriddenIn]; done) | decide +kernel
theorem efLv (m : MethodId) (a0 : Addr) (p1 : Int32) : entryFrame m #[(.ref a0), (.int p1)] 2 = mkF m 0 #[.val (.ref a0), .val (.int p1)] [] := by first | (simp [entryFrame, mkF, argsToLocals, Value.category]; done) | rfl
def QLv (Z : State) (a0 : Addr) (p1 : Int32) (j : Int32) (h0 : Heap) (n0 : Nat) (v : Option Value) (h : Heap) (L : List Loc) : Prop := v = some (.int (own_live j p1)) ∧ Fr n0 L ∧ h = h0
set_option maxRecDepth 65536 in
set_option maxHeartbeats 40000000 in
theorem rmLv (l : Launch) (Z : State) (a0 : Array Value) (hw : ∀ d ∈ tables_1, d.before a0 Z = true) (ws : List Jvm.Cond) (a0 : Addr) (p1 : Int32) (j : Int32) (h0 : Heap) (n0 : Nat) (Z0 : n0 ≤ h0.size) (F1 : Fld Z h0 a0 "com/example/greylag/greylag/model/Scenario$Broker" "joinCycle" "I" (.int j)) :
    MetFree l (⟨"com/example/greylag/greylag/model/Scenario$Broker", "isLiveAt", "(I)Z"⟩ : MethodName) (head1 (Jvm.Cond.code (⟨"com/example/greylag/greylag/model/Scenario$Broker", "isLiveAt", "(I)Z"⟩ : MethodName) prog_40_method_5_code 2 (some .boolean) :: ws) ({ frames := 0, cells := 0, slots := 0, locals := 0 } : Room)) (fun a U => a = #[(.ref a0), (.int p1)] ∧ Z.Warmed39 U.vm ∧ U.heap = h0) (fun _ _ _ _ _ => True) (fun _ U o U' => ∃ v L, o = .returned v ∧ QLv Z a0 p1 j h0 n0 v U'.heap L ∧ FrameEnd U o U' L ({ frames := 0, cells := 0, slots := 0, locals := 0 } : Room).cells ({ frames := 0, cells := 0, slots := 0, locals := 0 } : Room).slots) := by
  refine MetFree.of_bodySF (plainFor_of_name pnLv) hisR ?_
  intro p e s m args below meth c s₁ Bd hml0 hP hK
  obtain ⟨rfl, hZ, hh⟩ := hP
  have hx := Bd.exec
  have hby := Bd.bytes
  have hlk := BodyLoose.notSynchronized Bd
  have hret := Bd.returns
  have hml : c.maxLocals = 2 := hml0
  have hown : s.vm.findClass "com/example/greylag/greylag/model/Scenario$Broker" = some m.cls := findClass_of_methodNamed Bd.named
  have hnm := (name_of_methodNamed Bd.named Bd.method).1
  have X0 : Stand p l e ({ frames := 0, cells := 0, slots := 0, locals := 0 } : Room) s m #[(.ref a0), (.int p1)] below meth c s₁ [] 0 0 := Stand.of_body Bd
  have e0 : s₁.heap = h0 := by rw [← hh, Bd.state]; rfl
  have N0 := Fr.nil n0
  show OFin p e below (KPost s (QLv Z a0 p1 j h0 n0) ({ frames := 0, cells := 0, slots := 0, locals := 0 } : Room).cells ({ frames := 0, cells := 0, slots := 0, locals := 0 } : Room).slots) _
  rw [efLv m a0 p1]
  refine OFin.of (S' := s₁.setTop (mkF m 2 #[.val (.ref a0), .val (.int p1)] [(.ref a0), (.int p1)])) (fun t ht => ?_) ?_
  · refine XS.iloadN X0.here hx rfl (hb hby dLv_0) rfl ?_
    show Steps p.tables e below (s₁.setTop (mkF m 1 _ [(.int p1)])) _
    refine XS.aloadN X0.here hx rfl (hb hby dLv_1) rfl rfl ?_
    exact ht
  obtain ⟨T1, X1, e1, st1⟩ := getF X0 hx hZ hown (host := "") (Or.inl (hw _ (List.mem_of_getElem? (i := 21) rfl))) Via.refl e0 F1 (g := (mkF m 2 #[.val (.ref a0), .val (.int p1)] [(.ref a0), (.int p1)])) rfl rfl (hb hby dLv_2)
  refine OFin.of (S' := T1.setTop (mkF m 5 #[.val (.ref a0), .val (.int p1)] [(.int j), (.int p1)])) (fun t ht => st1 t ht) ?_
  by_cases hc2 : p1 < j
  · refine OFin.of (S' := T1.setTop (mkF m 13 #[.val (.ref a0), .val (.int p1)] [(.int (0 : Int32))])) (fun t ht => ?_) ?_
    · refine XS.icmpYes X1.here hx rfl (pc0 := 5) (pc' := 12) rfl (hb hby dLv_5) rfl (tlt (hc2 : p1 < j)).1 (by decide) (by decide) ?_
      show Steps p.tables e below (T1.setTop (mkF m 12 _ [])) _
      refine XS.iconst X1.here hx rfl (hb hby dLv_12) ?_
      exact ht
    exact OFin.retB X1 hx hlk (t := .boolean) (by simp) hret (hb hby dLv_13) (by decide) (by decide) (by rw [e1]; exact ⟨(by show some (Value.int (0 : Int32)) = _; simp [own_live, hc2]), N0, rfl⟩)
  · refine OFin.of (S' := T1.setTop (mkF m 13 #[.val (.ref a0), .val (.int p1)] [(.int (1 : Int32))])) (fun t ht => ?_) ?_
    · refine XS.icmpNo X1.here hx rfl (hb hby dLv_5) rfl (flt (hc2 : ¬ (p1 < j))).1 ?_
      show Steps p.tables e below (T1.setTop (mkF m 8 _ [])) _
      refine XS.iconst X1.here hx rfl (hb hby dLv_8) ?_
      show Steps p.tables e below (T1.setTop (mkF m 9 _ [(.int (1 : Int32))])) _
      refine XS.goto X1.here hx rfl (pc0 := 9) (pc' := 13) rfl (hb hby dLv_9) (by decide) (by decide) ?_
      exact ht
    exact OFin.retB X1 hx hlk (t := .boolean) (by simp) hret (hb hby dLv_13) (by decide) (by decide) (by rw [e1]; exact ⟨(by show some (Value.int (1 : Int32)) = _; simp [own_live, hc2]), N0, rfl⟩)
theorem dJc_0 : decode prog_40_method_4_code 0 = .ok (.aload_n 0, 1) := by decide +kernel
theorem dJc_1 : decode prog_40_method_4_code 1 = .ok (.getfield 17, 3) := by decide +kernel
theorem dJc_4 : decode prog_40_method_4_code 4 = .ok (.ireturn, 1) := by decide +kernel
theorem pnJc : plainName "com/example/greylag/greylag/model/Scenario$Broker" = true := by first | (simp [plainName, overriddenIn]; done) | decide +kernel
theorem efJc (m : MethodId) (a0 : Addr) : entryFrame m #[(.ref a0)] 1 = mkF m 0 #[.val (.ref a0)] [] := by first | (simp [entryFrame, mkF, argsToLocals, Value.category]; done) | rfl
def QJc (Z : State) (a0 : Addr) (j : Int32) (h0 : Heap) (n0 : Nat) (v : Option Value) (h : Heap) (L : List Loc) : Prop := v = some (.int j) ∧ Fr n0 L ∧ h = h0
set_option maxRecDepth 65536 in
set_option maxHeartbeats 40000000 in
theorem rmJc (l : Launch) (Z : State) (a0 : Array Value) (hw : ∀ d ∈ tables_1, d.before a0 Z = true) (ws : List Jvm.Cond) (a0 : Addr) (j : Int32) (h0 : Heap) (n0 : Nat) (Z0 : n0 ≤ h0.size) (F1 : Fld Z h0 a0 "com/example/greylag/greylag/model/Scenario$Broker" "joinCycle" "I" (.int j)) :
    MetFree l (⟨"com/example/greylag/greylag/model/Scenario$Broker", "joinCycle", "()I"⟩ : MethodName) (head1 (Jvm.Cond.code (⟨"com/example/greylag/greylag/model/Scenario$Broker", "joinCycle", "()I"⟩ : MethodName) prog_40_method_4_code 1 (some .int) :: ws) ({ frames := 0, cells := 0, slots := 0, locals := 0 } : Room)) (fun a U => a = #[(.ref a0)] ∧ Z.Warmed39 U.vm ∧ U.heap = h0) (fun _ _ _ _ _ => True) (fun _ U o U' => ∃ v L, o = .returned v ∧ QJc Z a0 j h0 n0 v U'.heap L ∧ FrameEnd U o U' L ({ frames := 0, cells := 0, slots := 0, locals := 0 } : Room).cells ({ frames := 0, cells := 0, slots := 0, locals := 0 } : Room).slots) := by
  refine MetFree.of_bodySF (plainFor_of_name pnJc) hisR ?_
  intro p e s m args below meth c s₁ Bd hml0 hP hK
  obtain ⟨rfl, hZ, hh⟩ := hP
  have hx := Bd.exec
  have hby := Bd.bytes
  have hlk := BodyLoose.notSynchronized Bd
  have hret := Bd.returns
  have hml : c.maxLocals = 1 := hml0
  have hown : s.vm.findClass "com/example/greylag/greylag/model/Scenario$Broker" = some m.cls := findClass_of_methodNamed Bd.named
  have hnm := (name_of_methodNamed Bd.named Bd.method).1
  have X0 : Stand p l e ({ frames := 0, cells := 0, slots := 0, locals := 0 } : Room) s m #[(.ref a0)] below meth c s₁ [] 0 0 := Stand.of_body Bd
  have e0 : s₁.heap = h0 := by rw [← hh, Bd.state]; rfl
  have N0 := Fr.nil n0
  show OFin p e below (KPost s (QJc Z a0 j h0 n0) ({ frames := 0, cells := 0, slots := 0, locals := 0 } : Room).cells ({ frames := 0, cells := 0, slots := 0, locals := 0 } : Room).slots) _
  rw [efJc m a0]
  refine OFin.of (S' := s₁.setTop (mkF m 1 #[.val (.ref a0)] [(.ref a0)])) (fun t ht => ?_) ?_
  · refine XS.aloadN X0.here hx rfl (hb hby dJc_0) rfl rfl ?_
    exact ht
  obtain ⟨T1, X1, e1, st1⟩ := getF X0 hx hZ hown (host := "") (Or.inl (hw _ (List.mem_of_getElem? (i := 21) rfl))) Via.refl e0 F1 (g := (mkF m 1 #[.val (.ref a0)] [(.ref a0)])) rfl rfl (hb hby dJc_1)
  refine OFin.of (S' := T1.setTop (mkF m 4 #[.val (.ref a0)] [(.int j)])) (fun t ht => st1 t ht) ?_
  exact OFin.retI X1 hx hlk hret (hb hby dJc_4) (by decide) (by decide) (by rw [e1]; exact ⟨rfl, N0, rfl⟩)
theorem pn0 : plainName "com/example/greylag/greylag/model/BrokerIsLiveAtPinLaw" = true := by first | (simp [plainName, overriddenIn]; done) | decide +kernel
theorem ef0 (m : MethodId) (p0 : Int32) (p1 : Int32) : entryFrame m #[(.int p0), (.int p1)] maxLocals = mkF m 0 #[.val (.int p0), .val (.int p1), .unset, .unset, .unset, .unset, .unset] [] := by first | (simp [entryFrame, mkF, argsToLocals, Value.category, maxLocals]; done) | rfl
def Q0 (Z : State) (p0 : Int32) (p1 : Int32) (h0 : Heap) (n0 : Nat) (v : Option Value) (h : Heap) (L : List Loc) : Prop := v = some (.int (1 : Int32)) ∧ Fr n0 L
set_option maxRecDepth 65536 in
set_option maxHeartbeats 40000000 in
theorem rm0 (l : Launch) (Z : State) (a0 : Array Value) (hw : ∀ d ∈ tables_1, d.before a0 Z = true) (ws : List Jvm.Cond) (p0 : Int32) (p1 : Int32) (h0 : Heap) (n0 : Nat) (Z0 : n0 ≤ h0.size)  :
    MetFree l x (head1 (Jvm.Cond.code x code maxLocals ret :: ws) room_1) (fun a U => a = #[(.int p0), (.int p1)] ∧ Z.Warmed39 U.vm ∧ U.heap = h0) (fun _ _ _ _ _ => True) (fun _ U o U' => ∃ v L, o = .returned v ∧ Q0 Z p0 p1 h0 n0 v U'.heap L ∧ ReturnedEndW U o U' L room_1.cells room_1.slots) := by
  refine MetFree.of_bodySF (plainFor_of_name pn0) hisR ?_
  intro p e s m args below meth c s₁ Bd hml0 hP hK
  obtain ⟨rfl, hZ, hh⟩ := hP
  have hx := Bd.exec
  have hby := Bd.bytes
  have hlk := BodyLoose.notSynchronized Bd
  have hret := Bd.returns
  have hml : c.maxLocals = 7 := hml0
  have hown : s.vm.findClass "com/example/greylag/greylag/model/BrokerIsLiveAtPinLaw" = some m.cls := findClass_of_methodNamed Bd.named
  have hnm := (name_of_methodNamed Bd.named Bd.method).1
  have X0 : Stand p l e room_1 s m #[(.int p0), (.int p1)] below meth c s₁ [] 0 0 := Stand.of_body Bd
  have e0 : s₁.heap = h0 := by rw [← hh, Bd.state]; rfl
  have N0 := Fr.nil n0
  show OFin p e below (KPostW s (Q0 Z p0 p1 h0 n0) room_1.cells room_1.slots) _
  rw [ef0 m p0 p1]
  obtain ⟨T1, h1, X1, e1, E1, A1, D1, -, st1⟩ := newO X0 hx hZ hown (hw _ (List.mem_of_getElem? (i := 0) rfl)) (hw _ (List.mem_of_getElem? (i := 1) rfl)) (hw _ (List.mem_of_getElem? (i := 2) rfl)) e0 (g := (mkF m 0 #[.val (.int p0), .val (.int p1), .unset, .unset, .unset, .unset, .unset] [])) rfl (hb hby at_0) (by decide) (by decide)
  obtain ⟨b1, gq1⟩ : ∃ z, z = h0.size := ⟨_, rfl⟩
  rw [← gq1] at A1 D1 st1
  have g2 : n0 ≤ b1 := (Nat.le_trans Z0 (Nat.le_of_eq gq1.symm))
  have Z3 : n0 ≤ h1.size := (Nat.le_trans Z0 E1.1)
  have f4 : Fld Z h1 b1 "com/example/greylag/greylag/model/Scenario$Broker" "name" "Ljava/lang/String;" .null := D1 (Or.inr (hw _ (List.mem_of_getElem? (i := 18) rfl))) (ty := (.object "java/lang/String")) (by decide)
  have f5 : Fld Z h1 b1 "com/example/greylag/greylag/model/Scenario$Broker" "capacity" "Lcom/example/greylag/greylag/model/Capacity;" .null := D1 (Or.inr (hw _ (List.mem_of_getElem? (i := 20) rfl))) (ty := (.object "com/example/greylag/greylag/model/Capacity")) (by decide)
  have f6 : Fld Z h1 b1 "com/example/greylag/greylag/model/Scenario$Broker" "joinCycle" "I" (.int (0 : Int32)) := D1 (Or.inr (hw _ (List.mem_of_getElem? (i := 22) rfl))) (ty := .int) (by decide)
  refine OFin.of (S' := T1.setTop (mkF m 3 #[.val (.int p0), .val (.int p1), .unset, .unset, .unset, .unset, .unset] [(.ref b1)])) (fun t ht => st1 t ht) ?_
  refine OFin.of (S' := T1.setTop (mkF m 4 #[.val (.int p0), .val (.int p1), .unset, .unset, .unset, .unset, .unset] [(.ref b1), (.ref b1)])) (fun t ht => ?_) ?_
  · refine XS.dup X1.here hx rfl (hb hby at_3) rfl rfl ?_
    exact ht
  obtain ⟨a7, T7, h7, k7, X7, e7, E7, S7, K7, hZ7, hown7, st7⟩ := ldcS (s := s) (vm0 := s.vm) X1 hx hZ hown (hw _ (List.mem_of_getElem? (i := 3) rfl)) (own_strAtoms hw) e1 ((State.WarmedH.refl s).since h1.size) (Nat.le_refl _) (g := (mkF m 4 #[.val (.int p0), .val (.int p1), .unset, .unset, .unset, .unset, .unset] [(.ref b1), (.ref b1)])) rfl (hb hby at_4) (n := 4) (by decide) (by decide) (by decide) (by decide)
  have f8 := A1.ext E7
  have f9 := f4.ext E7
  have f10 := f5.ext E7
  have f11 := f6.ext E7
  have Z12 : n0 ≤ h7.size := (Nat.le_trans Z3 E7.1)
  refine OFin.of (S' := T7.setTop (mkF m 6 #[.val (.int p0), .val (.int p1), .unset, .unset, .unset, .unset, .unset] [(.ref a7), (.ref b1), (.ref b1)])) (fun t ht => st7 t ht) ?_
  refine OFin.of (S' := T7.setTop (mkF m 8 #[.val (.int p0), .val (.int p1), .unset, .unset, .unset, .unset, .unset] [(.int p0), .null, (.ref a7), (.ref b1), (.ref b1)])) (fun t ht => ?_) ?_
  · refine XS.aconstNull X7.here hx rfl (hb hby at_6) ?_
    show Steps p.tables e below (T7.setTop (mkF m 7 _ [.null, (.ref a7), (.ref b1), (.ref b1)])) _
    refine XS.iloadN X7.here hx rfl (hb hby at_7) rfl ?_
    exact ht
  obtain ⟨_, _, ⟨T13, L13, k13, n13⟩, -, X13, ⟨Lc13, hQ13, l13, y13, z13⟩, st13⟩ := X7.specialBack hx (y := (⟨"com/example/greylag/greylag/model/Scenario$Broker", "<init>", "(Ljava/lang/String;Lcom/example/greylag/greylag/model/Capacity;I)V"⟩ : MethodName)) rfl hown7 (mvT hZ7 (hw _ (List.mem_of_getElem? (i := 11) rfl))) (mvT hZ7 (hw _ (List.mem_of_getElem? (i := 12) rfl))) (mvT hZ7 (hw _ (List.mem_of_getElem? (i := 13) rfl))) (by decide) (backOf (W := 1) (rmIni l Z _ hw [] b1 a7 p0 h7 n0 Z12 f8 f9 f10 f11 g2) hZ7 (hw _ (List.mem_of_getElem? (i := 13) rfl)) (hw _ (List.mem_of_getElem? (i := 2) rfl)) (by decide) (by decide)) (g := (mkF m 8 #[.val (.int p0), .val (.int p1), .unset, .unset, .unset, .unset, .unset] [(.int p0), .null, (.ref a7), (.ref b1), (.ref b1)])) rfl (by rw [hml]; rfl) (Steps.refl _) (a := b1) (argsL := [(.ref a7), .null, (.int p0)]) (rest := [(.ref b1)]) (lenOf pd_0 rfl) rfl (by show 2 * 0 + _ ≤ _; exact Nat.le_of_eq rfl) (hb hby at_8) (fun _ _ => ⟨rfl, e7, (by decide : 3 + 0 ≤ _), (by decide : 11 + 0 ≤ _)⟩)
  dsimp only [Pt.U, Pt.locs, Pt.cells, Pt.slots] at X13 l13 y13 z13 st13 hQ13
  subst l13 y13 z13
  obtain ⟨rfl, Nq13, Kq13, f14, f15, f16⟩ := hQ13
  have N17 := Fr.app N0 Nq13
  have f18 := (f8.keep Kq13)
  have Z19 : n0 ≤ T13.heap.size := (Nat.le_trans Z12 Kq13.1)
  have kk20 : k7 ≤ T13.heap.size := (Nat.le_trans K7 Kq13.1)
  refine OFin.to (S' := T13.setTop (mkF m 11 #[.val (.int p0), .val (.int p1), .unset, .unset, .unset, .unset, .unset] [(.ref b1)])) st13 ?_
  refine OFin.of (S' := T13.setTop (mkF m 14 #[.val (.int p0), .val (.int p1), .val (.ref b1), .unset, .unset, .unset, .unset] [(.int p1), (.ref b1)])) (fun t ht => ?_) ?_
  · refine XS.astoreN X13.here hx rfl (hb hby at_11) rfl rfl (l' := #[.val (.int p0), .val (.int p1), .val (.ref b1), .unset, .unset, .unset, .unset]) rfl ?_
    show Steps p.tables e below (T13.setTop (mkF m 12 #[.val (.int p0), .val (.int p1), .val (.ref b1), .unset, .unset, .unset, .unset] [])) _
    refine XS.aloadN X13.here hx rfl (hb hby at_12) rfl rfl ?_
    show Steps p.tables e below (T13.setTop (mkF m 13 _ [(.ref b1)])) _
    refine XS.iloadN X13.here hx rfl (hb hby at_13) rfl ?_
    exact ht
  obtain ⟨cq22, kq22, q22a, q22b, q22c⟩ := isOf hZ7 (rfl : T13.heap = T13.heap) f18
  obtain ⟨_, _, ⟨T21, L21, k21, n21⟩, -, X21, ⟨Lc21, hQ21, l21, y21, z21⟩, st21⟩ := X13.virtualBack hx (y := (⟨"com/example/greylag/greylag/model/Scenario$Broker", "isLiveAt", "(I)Z"⟩ : MethodName)) (z := (⟨"com/example/greylag/greylag/model/Scenario$Broker", "isLiveAt", "(I)Z"⟩ : MethodName)) hown7 (mvT hZ7 (hw _ (List.mem_of_getElem? (i := 23) rfl))) (mvT hZ7 (hw _ (List.mem_of_getElem? (i := 24) rfl))) (notFace_of_selects (args := #[]) (mvT hZ7 (hw _ (List.mem_of_getElem? (i := 26) rfl)))) (mvT hZ7 (hw _ (List.mem_of_getElem? (i := 26) rfl))) (mvT hZ7 (hw _ (List.mem_of_getElem? (i := 25) rfl))) (by decide) (backOf (W := 0) (rmLv l Z _ hw [] b1 p1 p0 T13.heap n0 Z19 f16) hZ7 (hw _ (List.mem_of_getElem? (i := 27) rfl)) (hw _ (List.mem_of_getElem? (i := 2) rfl)) (by decide) (by decide)) q22a q22c (g := (mkF m 14 #[.val (.int p0), .val (.int p1), .val (.ref b1), .unset, .unset, .unset, .unset] [(.int p1), (.ref b1)])) rfl (by rw [hml]; rfl) (Steps.refl _) (argsL := [(.int p1)]) (rest := []) (lenOf pd_1 rfl) rfl (by show 2 * 0 + _ ≤ _; exact Nat.le_of_eq rfl) (hb hby at_14) (fun _ _ => ⟨rfl, (rfl : T13.heap = T13.heap), (by decide : 3 + 0 ≤ _), (by decide : 11 + 0 ≤ _)⟩)
  dsimp only [Pt.U, Pt.locs, Pt.cells, Pt.slots] at X21 l21 y21 z21 st21 hQ21
  subst l21 y21 z21
  obtain ⟨rfl, Nq21, hs21⟩ := hQ21
  have N23 := Fr.app N17 Nq21
  refine OFin.to (S' := T21.setTop (mkF m 17 #[.val (.int p0), .val (.int p1), .val (.ref b1), .unset, .unset, .unset, .unset] [(.int (own_live p0 p1))])) st21 ?_
  refine OFin.of (S' := T21.setTop (mkF m 25 #[.val (.int p0), .val (.int p1), .val (.ref b1), .val (.int (own_live p0 p1)), .unset, .unset, .unset] [(.int (lcmpW ((p1.toInt64) - (p0.toInt64)) (0 : Int64)))])) (fun t ht => ?_) ?_
  · refine XS.istoreN X21.here hx rfl (hb hby at_17) rfl (l' := #[.val (.int p0), .val (.int p1), .val (.ref b1), .val (.int (own_live p0 p1)), .unset, .unset, .unset]) rfl ?_
    show Steps p.tables e below (T21.setTop (mkF m 18 #[.val (.int p0), .val (.int p1), .val (.ref b1), .val (.int (own_live p0 p1)), .unset, .unset, .unset] [])) _
    refine XS.iloadN X21.here hx rfl (hb hby at_18) rfl ?_
    show Steps p.tables e below (T21.setTop (mkF m 19 _ [(.int p1)])) _
    refine XS.i2l X21.here hx rfl (hb hby at_19) rfl ?_
    show Steps p.tables e below (T21.setTop (mkF m 20 _ [(.long (p1.toInt64))])) _
    refine XS.iloadN X21.here hx rfl (hb hby at_20) rfl ?_
    show Steps p.tables e below (T21.setTop (mkF m 21 _ [(.int p0), (.long (p1.toInt64))])) _
    refine XS.i2l X21.here hx rfl (hb hby at_21) rfl ?_
    show Steps p.tables e below (T21.setTop (mkF m 22 _ [(.long (p0.toInt64)), (.long (p1.toInt64))])) _
    refine XS.lsub X21.here hx rfl (hb hby at_22) rfl ?_
    show Steps p.tables e below (T21.setTop (mkF m 23 _ [(.long ((p1.toInt64) - (p0.toInt64)))])) _
    refine XS.lconst X21.here hx rfl (hb hby at_23) ?_
    show Steps p.tables e below (T21.setTop (mkF m 24 _ [(.long (0 : Int64)), (.long ((p1.toInt64) - (p0.toInt64)))])) _
    refine XS.lcmp X21.here hx rfl (hb hby at_24) rfl ?_
    exact ht
  by_cases hc24 : (lcmpW ((p1.toInt64) - (p0.toInt64)) (0 : Int64)) < (0 : Int32)
  · refine OFin.of (S' := T21.setTop (mkF m 37 #[.val (.int p0), .val (.int p1), .val (.ref b1), .val (.int (own_live p0 p1)), .val (.int (0 : Int32)), .unset, .unset] [(.int p0), (.ref b1)])) (fun t ht => ?_) ?_
    · refine XS.ifYes X21.here hx rfl (pc0 := 25) (pc' := 32) rfl (hb hby at_25) rfl ((if0 _ _).trans (tlt (hc24 : (lcmpW ((p1.toInt64) - (p0.toInt64)) (0 : Int64)) < (0 : Int32))).1) (by decide) (by decide) ?_
      show Steps p.tables e below (T21.setTop (mkF m 32 _ [])) _
      refine XS.iconst X21.here hx rfl (hb hby at_32) ?_
      show Steps p.tables e below (T21.setTop (mkF m 33 _ [(.int (0 : Int32))])) _
      refine XS.istore X21.here hx rfl (hb hby at_33) rfl (l' := #[.val (.int p0), .val (.int p1), .val (.ref b1), .val (.int (own_live p0 p1)), .val (.int (0 : Int32)), .unset, .unset]) rfl ?_
      show Steps p.tables e below (T21.setTop (mkF m 35 #[.val (.int p0), .val (.int p1), .val (.ref b1), .val (.int (own_live p0 p1)), .val (.int (0 : Int32)), .unset, .unset] [])) _
      refine XS.aloadN X21.here hx rfl (hb hby at_35) rfl rfl ?_
      show Steps p.tables e below (T21.setTop (mkF m 36 _ [(.ref b1)])) _
      refine XS.iloadN X21.here hx rfl (hb hby at_36) rfl ?_
      exact ht
    obtain ⟨cq26, kq26, q26a, q26b, q26c⟩ := isOf hZ7 hs21 f18
    obtain ⟨_, _, ⟨T25, L25, k25, n25⟩, -, X25, ⟨Lc25, hQ25, l25, y25, z25⟩, st25⟩ := X21.virtualBack hx (y := (⟨"com/example/greylag/greylag/model/Scenario$Broker", "isLiveAt", "(I)Z"⟩ : MethodName)) (z := (⟨"com/example/greylag/greylag/model/Scenario$Broker", "isLiveAt", "(I)Z"⟩ : MethodName)) hown7 (mvT hZ7 (hw _ (List.mem_of_getElem? (i := 23) rfl))) (mvT hZ7 (hw _ (List.mem_of_getElem? (i := 24) rfl))) (notFace_of_selects (args := #[]) (mvT hZ7 (hw _ (List.mem_of_getElem? (i := 26) rfl)))) (mvT hZ7 (hw _ (List.mem_of_getElem? (i := 26) rfl))) (mvT hZ7 (hw _ (List.mem_of_getElem? (i := 25) rfl))) (by decide) (backOf (W := 0) (rmLv l Z _ hw [] b1 p0 p0 T13.heap n0 Z19 f16) hZ7 (hw _ (List.mem_of_getElem? (i := 27) rfl)) (hw _ (List.mem_of_getElem? (i := 2) rfl)) (by decide) (by decide)) q26a q26c (g := (mkF m 37 #[.val (.int p0), .val (.int p1), .val (.ref b1), .val (.int (own_live p0 p1)), .val (.int (0 : Int32)), .unset, .unset] [(.int p0), (.ref b1)])) rfl (by rw [hml]; rfl) (Steps.refl _) (argsL := [(.int p0)]) (rest := []) (lenOf pd_1 rfl) rfl (by show 2 * 0 + _ ≤ _; exact Nat.le_of_eq rfl) (hb hby at_37) (fun _ _ => ⟨rfl, hs21, (by decide : 3 + 0 ≤ _), (by decide : 11 + 0 ≤ _)⟩)
    dsimp only [Pt.U, Pt.locs, Pt.cells, Pt.slots] at X25 l25 y25 z25 st25 hQ25
    subst l25 y25 z25
    obtain ⟨rfl, Nq25, hs25⟩ := hQ25
    have N27 := Fr.app N23 Nq25
    refine OFin.to (S' := T25.setTop (mkF m 40 #[.val (.int p0), .val (.int p1), .val (.ref b1), .val (.int (own_live p0 p1)), .val (.int (0 : Int32)), .unset, .unset] [(.int (own_live p0 p0))])) st25 ?_
    refine OFin.of (S' := T25.setTop (mkF m 45 #[.val (.int p0), .val (.int p1), .val (.ref b1), .val (.int (own_live p0 p1)), .val (.int (0 : Int32)), .val (.int (own_live p0 p0)), .unset] [(.int (-2147483648 : Int32)), (.int p0)])) (fun t ht => ?_) ?_
    · refine XS.istore X25.here hx rfl (hb hby at_40) rfl (l' := #[.val (.int p0), .val (.int p1), .val (.ref b1), .val (.int (own_live p0 p1)), .val (.int (0 : Int32)), .val (.int (own_live p0 p0)), .unset]) rfl ?_
      show Steps p.tables e below (T25.setTop (mkF m 42 #[.val (.int p0), .val (.int p1), .val (.ref b1), .val (.int (own_live p0 p1)), .val (.int (0 : Int32)), .val (.int (own_live p0 p0)), .unset] [])) _
      refine XS.iloadN X25.here hx rfl (hb hby at_42) rfl ?_
      show Steps p.tables e below (T25.setTop (mkF m 43 _ [(.int p0)])) _
      refine X25.ldcInt hx hown7 (mvT hZ7 (hw _ (List.mem_of_getElem? (i := 28) rfl))) (g := (mkF m 43 #[.val (.int p0), .val (.int p1), .val (.ref b1), .val (.int (own_live p0 p1)), .val (.int (0 : Int32)), .val (.int (own_live p0 p0)), .unset] [(.int p0)])) rfl (hb hby at_43) _ ?_
      exact ht
    by_cases hc28 : p0 = (-2147483648 : Int32)
    · refine OFin.of (S' := T25.setTop (mkF m 82 #[.val (.int p0), .val (.int p1), .val (.ref b1), .val (.int (own_live p0 p1)), .val (.int (0 : Int32)), .val (.int (own_live p0 p0)), .val (.int (0 : Int32))] [(.ref b1)])) (fun t ht => ?_) ?_
      · refine XS.icmpYes X25.here hx rfl (pc0 := 45) (pc' := 62) rfl (hb hby at_45) rfl (teq (hc28 : p0 = (-2147483648 : Int32))).1 (by decide) (by decide) ?_
        show Steps p.tables e below (T25.setTop (mkF m 62 _ [])) _
        refine XS.iconst X25.here hx rfl (hb hby at_62) ?_
        show Steps p.tables e below (T25.setTop (mkF m 63 _ [(.int (0 : Int32))])) _
        refine XS.istore X25.here hx rfl (hb hby at_63) rfl (l' := #[.val (.int p0), .val (.int p1), .val (.ref b1), .val (.int (own_live p0 p1)), .val (.int (0 : Int32)), .val (.int (own_live p0 p0)), .val (.int (0 : Int32))]) rfl ?_
        show Steps p.tables e below (T25.setTop (mkF m 65 #[.val (.int p0), .val (.int p1), .val (.ref b1), .val (.int (own_live p0 p1)), .val (.int (0 : Int32)), .val (.int (own_live p0 p0)), .val (.int (0 : Int32))] [])) _
        refine XS.iloadN X25.here hx rfl (hb hby at_65) rfl ?_
        show Steps p.tables e below (T25.setTop (mkF m 66 _ [(.int (own_live p0 p1))])) _
        refine XS.iload X25.here hx rfl (hb hby at_66) rfl ?_
        show Steps p.tables e below (T25.setTop (mkF m 68 _ [(.int (0 : Int32)), (.int (own_live p0 p1))])) _
        refine XS.icmpNo X25.here hx rfl (hb hby at_68) rfl (teq (own_l0 hc24 : (own_live p0 p1) = (0 : Int32))).2 ?_
        show Steps p.tables e below (T25.setTop (mkF m 71 _ [])) _
        refine XS.iload X25.here hx rfl (hb hby at_71) rfl ?_
        show Steps p.tables e below (T25.setTop (mkF m 73 _ [(.int (own_live p0 p0))])) _
        refine XS.ifNo X25.here hx rfl (hb hby at_73) rfl ((if0 _ _).trans (feq (own_self _ : ¬ ((own_live p0 p0) = (0 : Int32)))).1) ?_
        show Steps p.tables e below (T25.setTop (mkF m 76 _ [])) _
        refine XS.iload X25.here hx rfl (hb hby at_76) rfl ?_
        show Steps p.tables e below (T25.setTop (mkF m 78 _ [(.int (0 : Int32))])) _
        refine XS.ifNo X25.here hx rfl (hb hby at_78) rfl ((if0 _ _).trans (teq (by decide : (0 : Int32) = (0 : Int32))).2) ?_
        show Steps p.tables e below (T25.setTop (mkF m 81 _ [])) _
        refine XS.aloadN X25.here hx rfl (hb hby at_81) rfl rfl ?_
        exact ht
      obtain ⟨cq30, kq30, q30a, q30b, q30c⟩ := isOf hZ7 hs25 f18
      obtain ⟨_, _, ⟨T29, L29, k29, n29⟩, -, X29, ⟨Lc29, hQ29, l29, y29, z29⟩, st29⟩ := X25.virtualBack hx (y := (⟨"com/example/greylag/greylag/model/Scenario$Broker", "joinCycle", "()I"⟩ : MethodName)) (z := (⟨"com/example/greylag/greylag/model/Scenario$Broker", "joinCycle", "()I"⟩ : MethodName)) hown7 (mvT hZ7 (hw _ (List.mem_of_getElem? (i := 29) rfl))) (mvT hZ7 (hw _ (List.mem_of_getElem? (i := 30) rfl))) (notFace_of_selects (args := #[]) (mvT hZ7 (hw _ (List.mem_of_getElem? (i := 32) rfl)))) (mvT hZ7 (hw _ (List.mem_of_getElem? (i := 32) rfl))) (mvT hZ7 (hw _ (List.mem_of_getElem? (i := 31) rfl))) (by decide) (backOf (W := 0) (rmJc l Z _ hw [] b1 p0 T13.heap n0 Z19 f16) hZ7 (hw _ (List.mem_of_getElem? (i := 33) rfl)) (hw _ (List.mem_of_getElem? (i := 2) rfl)) (by decide) (by decide)) q30a q30c (g := (mkF m 82 #[.val (.int p0), .val (.int p1), .val (.ref b1), .val (.int (own_live p0 p1)), .val (.int (0 : Int32)), .val (.int (own_live p0 p0)), .val (.int (0 : Int32))] [(.ref b1)])) rfl (by rw [hml]; rfl) (Steps.refl _) (argsL := []) (rest := []) (lenOf pd_2 rfl) rfl (by show 2 * 0 + _ ≤ _; exact Nat.le_of_eq rfl) (hb hby at_82) (fun _ _ => ⟨rfl, hs25, (by decide : 3 + 0 ≤ _), (by decide : 11 + 0 ≤ _)⟩)
      dsimp only [Pt.U, Pt.locs, Pt.cells, Pt.slots] at X29 l29 y29 z29 st29 hQ29
      subst l29 y29 z29
      obtain ⟨rfl, Nq29, hs29⟩ := hQ29
      have N31 := Fr.app N27 Nq29
      refine OFin.to (S' := T29.setTop (mkF m 85 #[.val (.int p0), .val (.int p1), .val (.ref b1), .val (.int (own_live p0 p1)), .val (.int (0 : Int32)), .val (.int (own_live p0 p0)), .val (.int (0 : Int32))] [(.int p0)])) st29 ?_
      refine OFin.of (S' := T29.setTop (mkF m 94 #[.val (.int p0), .val (.int p1), .val (.ref b1), .val (.int (own_live p0 p1)), .val (.int (0 : Int32)), .val (.int (own_live p0 p0)), .val (.int (0 : Int32))] [(.int (1 : Int32))])) (fun t ht => ?_) ?_
      · refine XS.iloadN X29.here hx rfl (hb hby at_85) rfl ?_
        show Steps p.tables e below (T29.setTop (mkF m 86 _ [(.int p0), (.int p0)])) _
        refine XS.icmpNo X29.here hx rfl (hb hby at_86) rfl (teq (rfl : p0 = p0)).2 ?_
        show Steps p.tables e below (T29.setTop (mkF m 89 _ [])) _
        refine XS.iconst X29.here hx rfl (hb hby at_89) ?_
        show Steps p.tables e below (T29.setTop (mkF m 90 _ [(.int (1 : Int32))])) _
        refine XS.goto X29.here hx rfl (pc0 := 90) (pc' := 94) rfl (hb hby at_90) (by decide) (by decide) ?_
        exact ht
      exact OFin.retBW (s := s) (vm₁ := T7.vm) X29 S7 (by rw [hs29]; exact kk20) hx hlk (t := .boolean) (by simp) hret (hb hby at_94) (by decide) (by decide) (by rw [hs29]; exact ⟨rfl, N31⟩)
    · refine OFin.of (S' := T25.setTop (mkF m 52 #[.val (.int p0), .val (.int p1), .val (.ref b1), .val (.int (own_live p0 p1)), .val (.int (0 : Int32)), .val (.int (own_live p0 p0)), .unset] [(.int (p0 - (1 : Int32))), (.ref b1)])) (fun t ht => ?_) ?_
      · refine XS.icmpNo X25.here hx rfl (hb hby at_45) rfl (feq (hc28 : ¬ (p0 = (-2147483648 : Int32)))).1 ?_
        show Steps p.tables e below (T25.setTop (mkF m 48 _ [])) _
        refine XS.aloadN X25.here hx rfl (hb hby at_48) rfl rfl ?_
        show Steps p.tables e below (T25.setTop (mkF m 49 _ [(.ref b1)])) _
        refine XS.iloadN X25.here hx rfl (hb hby at_49) rfl ?_
        show Steps p.tables e below (T25.setTop (mkF m 50 _ [(.int p0), (.ref b1)])) _
        refine XS.iconst X25.here hx rfl (hb hby at_50) ?_
        show Steps p.tables e below (T25.setTop (mkF m 51 _ [(.int (1 : Int32)), (.int p0), (.ref b1)])) _
        refine XS.isub X25.here hx rfl (hb hby at_51) rfl ?_
        exact ht
      obtain ⟨cq33, kq33, q33a, q33b, q33c⟩ := isOf hZ7 hs25 f18
      obtain ⟨_, _, ⟨T32, L32, k32, n32⟩, -, X32, ⟨Lc32, hQ32, l32, y32, z32⟩, st32⟩ := X25.virtualBack hx (y := (⟨"com/example/greylag/greylag/model/Scenario$Broker", "isLiveAt", "(I)Z"⟩ : MethodName)) (z := (⟨"com/example/greylag/greylag/model/Scenario$Broker", "isLiveAt", "(I)Z"⟩ : MethodName)) hown7 (mvT hZ7 (hw _ (List.mem_of_getElem? (i := 23) rfl))) (mvT hZ7 (hw _ (List.mem_of_getElem? (i := 24) rfl))) (notFace_of_selects (args := #[]) (mvT hZ7 (hw _ (List.mem_of_getElem? (i := 26) rfl)))) (mvT hZ7 (hw _ (List.mem_of_getElem? (i := 26) rfl))) (mvT hZ7 (hw _ (List.mem_of_getElem? (i := 25) rfl))) (by decide) (backOf (W := 0) (rmLv l Z _ hw [] b1 (p0 - (1 : Int32)) p0 T13.heap n0 Z19 f16) hZ7 (hw _ (List.mem_of_getElem? (i := 27) rfl)) (hw _ (List.mem_of_getElem? (i := 2) rfl)) (by decide) (by decide)) q33a q33c (g := (mkF m 52 #[.val (.int p0), .val (.int p1), .val (.ref b1), .val (.int (own_live p0 p1)), .val (.int (0 : Int32)), .val (.int (own_live p0 p0)), .unset] [(.int (p0 - (1 : Int32))), (.ref b1)])) rfl (by rw [hml]; rfl) (Steps.refl _) (argsL := [(.int (p0 - (1 : Int32)))]) (rest := []) (lenOf pd_1 rfl) rfl (by show 2 * 0 + _ ≤ _; exact Nat.le_of_eq rfl) (hb hby at_52) (fun _ _ => ⟨rfl, hs25, (by decide : 3 + 0 ≤ _), (by decide : 11 + 0 ≤ _)⟩)
      dsimp only [Pt.U, Pt.locs, Pt.cells, Pt.slots] at X32 l32 y32 z32 st32 hQ32
      subst l32 y32 z32
      obtain ⟨rfl, Nq32, hs32⟩ := hQ32
      have N34 := Fr.app N27 Nq32
      refine OFin.to (S' := T32.setTop (mkF m 55 #[.val (.int p0), .val (.int p1), .val (.ref b1), .val (.int (own_live p0 p1)), .val (.int (0 : Int32)), .val (.int (own_live p0 p0)), .unset] [(.int (own_live p0 (p0 - (1 : Int32))))])) st32 ?_
      refine OFin.of (S' := T32.setTop (mkF m 82 #[.val (.int p0), .val (.int p1), .val (.ref b1), .val (.int (own_live p0 p1)), .val (.int (0 : Int32)), .val (.int (own_live p0 p0)), .val (.int (0 : Int32))] [(.ref b1)])) (fun t ht => ?_) ?_
      · refine XS.ifYes X32.here hx rfl (pc0 := 55) (pc' := 62) rfl (hb hby at_55) rfl ((if0 _ _).trans (teq (own_before hc28 : (own_live p0 (p0 - (1 : Int32))) = (0 : Int32))).1) (by decide) (by decide) ?_
        show Steps p.tables e below (T32.setTop (mkF m 62 _ [])) _
        refine XS.iconst X32.here hx rfl (hb hby at_62) ?_
        show Steps p.tables e below (T32.setTop (mkF m 63 _ [(.int (0 : Int32))])) _
        refine XS.istore X32.here hx rfl (hb hby at_63) rfl (l' := #[.val (.int p0), .val (.int p1), .val (.ref b1), .val (.int (own_live p0 p1)), .val (.int (0 : Int32)), .val (.int (own_live p0 p0)), .val (.int (0 : Int32))]) rfl ?_
        show Steps p.tables e below (T32.setTop (mkF m 65 #[.val (.int p0), .val (.int p1), .val (.ref b1), .val (.int (own_live p0 p1)), .val (.int (0 : Int32)), .val (.int (own_live p0 p0)), .val (.int (0 : Int32))] [])) _
        refine XS.iloadN X32.here hx rfl (hb hby at_65) rfl ?_
        show Steps p.tables e below (T32.setTop (mkF m 66 _ [(.int (own_live p0 p1))])) _
        refine XS.iload X32.here hx rfl (hb hby at_66) rfl ?_
        show Steps p.tables e below (T32.setTop (mkF m 68 _ [(.int (0 : Int32)), (.int (own_live p0 p1))])) _
        refine XS.icmpNo X32.here hx rfl (hb hby at_68) rfl (teq (own_l0 hc24 : (own_live p0 p1) = (0 : Int32))).2 ?_
        show Steps p.tables e below (T32.setTop (mkF m 71 _ [])) _
        refine XS.iload X32.here hx rfl (hb hby at_71) rfl ?_
        show Steps p.tables e below (T32.setTop (mkF m 73 _ [(.int (own_live p0 p0))])) _
        refine XS.ifNo X32.here hx rfl (hb hby at_73) rfl ((if0 _ _).trans (feq (own_self _ : ¬ ((own_live p0 p0) = (0 : Int32)))).1) ?_
        show Steps p.tables e below (T32.setTop (mkF m 76 _ [])) _
        refine XS.iload X32.here hx rfl (hb hby at_76) rfl ?_
        show Steps p.tables e below (T32.setTop (mkF m 78 _ [(.int (0 : Int32))])) _
        refine XS.ifNo X32.here hx rfl (hb hby at_78) rfl ((if0 _ _).trans (teq (by decide : (0 : Int32) = (0 : Int32))).2) ?_
        show Steps p.tables e below (T32.setTop (mkF m 81 _ [])) _
        refine XS.aloadN X32.here hx rfl (hb hby at_81) rfl rfl ?_
        exact ht
      obtain ⟨cq36, kq36, q36a, q36b, q36c⟩ := isOf hZ7 hs32 f18
      obtain ⟨_, _, ⟨T35, L35, k35, n35⟩, -, X35, ⟨Lc35, hQ35, l35, y35, z35⟩, st35⟩ := X32.virtualBack hx (y := (⟨"com/example/greylag/greylag/model/Scenario$Broker", "joinCycle", "()I"⟩ : MethodName)) (z := (⟨"com/example/greylag/greylag/model/Scenario$Broker", "joinCycle", "()I"⟩ : MethodName)) hown7 (mvT hZ7 (hw _ (List.mem_of_getElem? (i := 29) rfl))) (mvT hZ7 (hw _ (List.mem_of_getElem? (i := 30) rfl))) (notFace_of_selects (args := #[]) (mvT hZ7 (hw _ (List.mem_of_getElem? (i := 32) rfl)))) (mvT hZ7 (hw _ (List.mem_of_getElem? (i := 32) rfl))) (mvT hZ7 (hw _ (List.mem_of_getElem? (i := 31) rfl))) (by decide) (backOf (W := 0) (rmJc l Z _ hw [] b1 p0 T13.heap n0 Z19 f16) hZ7 (hw _ (List.mem_of_getElem? (i := 33) rfl)) (hw _ (List.mem_of_getElem? (i := 2) rfl)) (by decide) (by decide)) q36a q36c (g := (mkF m 82 #[.val (.int p0), .val (.int p1), .val (.ref b1), .val (.int (own_live p0 p1)), .val (.int (0 : Int32)), .val (.int (own_live p0 p0)), .val (.int (0 : Int32))] [(.ref b1)])) rfl (by rw [hml]; rfl) (Steps.refl _) (argsL := []) (rest := []) (lenOf pd_2 rfl) rfl (by show 2 * 0 + _ ≤ _; exact Nat.le_of_eq rfl) (hb hby at_82) (fun _ _ => ⟨rfl, hs32, (by decide : 3 + 0 ≤ _), (by decide : 11 + 0 ≤ _)⟩)
      dsimp only [Pt.U, Pt.locs, Pt.cells, Pt.slots] at X35 l35 y35 z35 st35 hQ35
      subst l35 y35 z35
      obtain ⟨rfl, Nq35, hs35⟩ := hQ35
      have N37 := Fr.app N34 Nq35
      refine OFin.to (S' := T35.setTop (mkF m 85 #[.val (.int p0), .val (.int p1), .val (.ref b1), .val (.int (own_live p0 p1)), .val (.int (0 : Int32)), .val (.int (own_live p0 p0)), .val (.int (0 : Int32))] [(.int p0)])) st35 ?_
      refine OFin.of (S' := T35.setTop (mkF m 94 #[.val (.int p0), .val (.int p1), .val (.ref b1), .val (.int (own_live p0 p1)), .val (.int (0 : Int32)), .val (.int (own_live p0 p0)), .val (.int (0 : Int32))] [(.int (1 : Int32))])) (fun t ht => ?_) ?_
      · refine XS.iloadN X35.here hx rfl (hb hby at_85) rfl ?_
        show Steps p.tables e below (T35.setTop (mkF m 86 _ [(.int p0), (.int p0)])) _
        refine XS.icmpNo X35.here hx rfl (hb hby at_86) rfl (teq (rfl : p0 = p0)).2 ?_
        show Steps p.tables e below (T35.setTop (mkF m 89 _ [])) _
        refine XS.iconst X35.here hx rfl (hb hby at_89) ?_
        show Steps p.tables e below (T35.setTop (mkF m 90 _ [(.int (1 : Int32))])) _
        refine XS.goto X35.here hx rfl (pc0 := 90) (pc' := 94) rfl (hb hby at_90) (by decide) (by decide) ?_
        exact ht
      exact OFin.retBW (s := s) (vm₁ := T7.vm) X35 S7 (by rw [hs35]; exact kk20) hx hlk (t := .boolean) (by simp) hret (hb hby at_94) (by decide) (by decide) (by rw [hs35]; exact ⟨rfl, N37⟩)
  · refine OFin.of (S' := T21.setTop (mkF m 37 #[.val (.int p0), .val (.int p1), .val (.ref b1), .val (.int (own_live p0 p1)), .val (.int (1 : Int32)), .unset, .unset] [(.int p0), (.ref b1)])) (fun t ht => ?_) ?_
    · refine XS.ifNo X21.here hx rfl (hb hby at_25) rfl ((if0 _ _).trans (flt (hc24 : ¬ ((lcmpW ((p1.toInt64) - (p0.toInt64)) (0 : Int64)) < (0 : Int32)))).1) ?_
      show Steps p.tables e below (T21.setTop (mkF m 28 _ [])) _
      refine XS.iconst X21.here hx rfl (hb hby at_28) ?_
      show Steps p.tables e below (T21.setTop (mkF m 29 _ [(.int (1 : Int32))])) _
      refine XS.goto X21.here hx rfl (pc0 := 29) (pc' := 33) rfl (hb hby at_29) (by decide) (by decide) ?_
      show Steps p.tables e below (T21.setTop (mkF m 33 _ [(.int (1 : Int32))])) _
      refine XS.istore X21.here hx rfl (hb hby at_33) rfl (l' := #[.val (.int p0), .val (.int p1), .val (.ref b1), .val (.int (own_live p0 p1)), .val (.int (1 : Int32)), .unset, .unset]) rfl ?_
      show Steps p.tables e below (T21.setTop (mkF m 35 #[.val (.int p0), .val (.int p1), .val (.ref b1), .val (.int (own_live p0 p1)), .val (.int (1 : Int32)), .unset, .unset] [])) _
      refine XS.aloadN X21.here hx rfl (hb hby at_35) rfl rfl ?_
      show Steps p.tables e below (T21.setTop (mkF m 36 _ [(.ref b1)])) _
      refine XS.iloadN X21.here hx rfl (hb hby at_36) rfl ?_
      exact ht
    obtain ⟨cq39, kq39, q39a, q39b, q39c⟩ := isOf hZ7 hs21 f18
    obtain ⟨_, _, ⟨T38, L38, k38, n38⟩, -, X38, ⟨Lc38, hQ38, l38, y38, z38⟩, st38⟩ := X21.virtualBack hx (y := (⟨"com/example/greylag/greylag/model/Scenario$Broker", "isLiveAt", "(I)Z"⟩ : MethodName)) (z := (⟨"com/example/greylag/greylag/model/Scenario$Broker", "isLiveAt", "(I)Z"⟩ : MethodName)) hown7 (mvT hZ7 (hw _ (List.mem_of_getElem? (i := 23) rfl))) (mvT hZ7 (hw _ (List.mem_of_getElem? (i := 24) rfl))) (notFace_of_selects (args := #[]) (mvT hZ7 (hw _ (List.mem_of_getElem? (i := 26) rfl)))) (mvT hZ7 (hw _ (List.mem_of_getElem? (i := 26) rfl))) (mvT hZ7 (hw _ (List.mem_of_getElem? (i := 25) rfl))) (by decide) (backOf (W := 0) (rmLv l Z _ hw [] b1 p0 p0 T13.heap n0 Z19 f16) hZ7 (hw _ (List.mem_of_getElem? (i := 27) rfl)) (hw _ (List.mem_of_getElem? (i := 2) rfl)) (by decide) (by decide)) q39a q39c (g := (mkF m 37 #[.val (.int p0), .val (.int p1), .val (.ref b1), .val (.int (own_live p0 p1)), .val (.int (1 : Int32)), .unset, .unset] [(.int p0), (.ref b1)])) rfl (by rw [hml]; rfl) (Steps.refl _) (argsL := [(.int p0)]) (rest := []) (lenOf pd_1 rfl) rfl (by show 2 * 0 + _ ≤ _; exact Nat.le_of_eq rfl) (hb hby at_37) (fun _ _ => ⟨rfl, hs21, (by decide : 3 + 0 ≤ _), (by decide : 11 + 0 ≤ _)⟩)
    dsimp only [Pt.U, Pt.locs, Pt.cells, Pt.slots] at X38 l38 y38 z38 st38 hQ38
    subst l38 y38 z38
    obtain ⟨rfl, Nq38, hs38⟩ := hQ38
    have N40 := Fr.app N23 Nq38
    refine OFin.to (S' := T38.setTop (mkF m 40 #[.val (.int p0), .val (.int p1), .val (.ref b1), .val (.int (own_live p0 p1)), .val (.int (1 : Int32)), .unset, .unset] [(.int (own_live p0 p0))])) st38 ?_
    refine OFin.of (S' := T38.setTop (mkF m 45 #[.val (.int p0), .val (.int p1), .val (.ref b1), .val (.int (own_live p0 p1)), .val (.int (1 : Int32)), .val (.int (own_live p0 p0)), .unset] [(.int (-2147483648 : Int32)), (.int p0)])) (fun t ht => ?_) ?_
    · refine XS.istore X38.here hx rfl (hb hby at_40) rfl (l' := #[.val (.int p0), .val (.int p1), .val (.ref b1), .val (.int (own_live p0 p1)), .val (.int (1 : Int32)), .val (.int (own_live p0 p0)), .unset]) rfl ?_
      show Steps p.tables e below (T38.setTop (mkF m 42 #[.val (.int p0), .val (.int p1), .val (.ref b1), .val (.int (own_live p0 p1)), .val (.int (1 : Int32)), .val (.int (own_live p0 p0)), .unset] [])) _
      refine XS.iloadN X38.here hx rfl (hb hby at_42) rfl ?_
      show Steps p.tables e below (T38.setTop (mkF m 43 _ [(.int p0)])) _
      refine X38.ldcInt hx hown7 (mvT hZ7 (hw _ (List.mem_of_getElem? (i := 28) rfl))) (g := (mkF m 43 #[.val (.int p0), .val (.int p1), .val (.ref b1), .val (.int (own_live p0 p1)), .val (.int (1 : Int32)), .val (.int (own_live p0 p0)), .unset] [(.int p0)])) rfl (hb hby at_43) _ ?_
      exact ht
    by_cases hc41 : p0 = (-2147483648 : Int32)
    · refine OFin.of (S' := T38.setTop (mkF m 82 #[.val (.int p0), .val (.int p1), .val (.ref b1), .val (.int (own_live p0 p1)), .val (.int (1 : Int32)), .val (.int (own_live p0 p0)), .val (.int (0 : Int32))] [(.ref b1)])) (fun t ht => ?_) ?_
      · refine XS.icmpYes X38.here hx rfl (pc0 := 45) (pc' := 62) rfl (hb hby at_45) rfl (teq (hc41 : p0 = (-2147483648 : Int32))).1 (by decide) (by decide) ?_
        show Steps p.tables e below (T38.setTop (mkF m 62 _ [])) _
        refine XS.iconst X38.here hx rfl (hb hby at_62) ?_
        show Steps p.tables e below (T38.setTop (mkF m 63 _ [(.int (0 : Int32))])) _
        refine XS.istore X38.here hx rfl (hb hby at_63) rfl (l' := #[.val (.int p0), .val (.int p1), .val (.ref b1), .val (.int (own_live p0 p1)), .val (.int (1 : Int32)), .val (.int (own_live p0 p0)), .val (.int (0 : Int32))]) rfl ?_
        show Steps p.tables e below (T38.setTop (mkF m 65 #[.val (.int p0), .val (.int p1), .val (.ref b1), .val (.int (own_live p0 p1)), .val (.int (1 : Int32)), .val (.int (own_live p0 p0)), .val (.int (0 : Int32))] [])) _
        refine XS.iloadN X38.here hx rfl (hb hby at_65) rfl ?_
        show Steps p.tables e below (T38.setTop (mkF m 66 _ [(.int (own_live p0 p1))])) _
        refine XS.iload X38.here hx rfl (hb hby at_66) rfl ?_
        show Steps p.tables e below (T38.setTop (mkF m 68 _ [(.int (1 : Int32)), (.int (own_live p0 p1))])) _
        refine XS.icmpNo X38.here hx rfl (hb hby at_68) rfl (teq (own_l1 hc24 : (own_live p0 p1) = (1 : Int32))).2 ?_
        show Steps p.tables e below (T38.setTop (mkF m 71 _ [])) _
        refine XS.iload X38.here hx rfl (hb hby at_71) rfl ?_
        show Steps p.tables e below (T38.setTop (mkF m 73 _ [(.int (own_live p0 p0))])) _
        refine XS.ifNo X38.here hx rfl (hb hby at_73) rfl ((if0 _ _).trans (feq (own_self _ : ¬ ((own_live p0 p0) = (0 : Int32)))).1) ?_
        show Steps p.tables e below (T38.setTop (mkF m 76 _ [])) _
        refine XS.iload X38.here hx rfl (hb hby at_76) rfl ?_
        show Steps p.tables e below (T38.setTop (mkF m 78 _ [(.int (0 : Int32))])) _
        refine XS.ifNo X38.here hx rfl (hb hby at_78) rfl ((if0 _ _).trans (teq (by decide : (0 : Int32) = (0 : Int32))).2) ?_
        show Steps p.tables e below (T38.setTop (mkF m 81 _ [])) _
        refine XS.aloadN X38.here hx rfl (hb hby at_81) rfl rfl ?_
        exact ht
      obtain ⟨cq43, kq43, q43a, q43b, q43c⟩ := isOf hZ7 hs38 f18
      obtain ⟨_, _, ⟨T42, L42, k42, n42⟩, -, X42, ⟨Lc42, hQ42, l42, y42, z42⟩, st42⟩ := X38.virtualBack hx (y := (⟨"com/example/greylag/greylag/model/Scenario$Broker", "joinCycle", "()I"⟩ : MethodName)) (z := (⟨"com/example/greylag/greylag/model/Scenario$Broker", "joinCycle", "()I"⟩ : MethodName)) hown7 (mvT hZ7 (hw _ (List.mem_of_getElem? (i := 29) rfl))) (mvT hZ7 (hw _ (List.mem_of_getElem? (i := 30) rfl))) (notFace_of_selects (args := #[]) (mvT hZ7 (hw _ (List.mem_of_getElem? (i := 32) rfl)))) (mvT hZ7 (hw _ (List.mem_of_getElem? (i := 32) rfl))) (mvT hZ7 (hw _ (List.mem_of_getElem? (i := 31) rfl))) (by decide) (backOf (W := 0) (rmJc l Z _ hw [] b1 p0 T13.heap n0 Z19 f16) hZ7 (hw _ (List.mem_of_getElem? (i := 33) rfl)) (hw _ (List.mem_of_getElem? (i := 2) rfl)) (by decide) (by decide)) q43a q43c (g := (mkF m 82 #[.val (.int p0), .val (.int p1), .val (.ref b1), .val (.int (own_live p0 p1)), .val (.int (1 : Int32)), .val (.int (own_live p0 p0)), .val (.int (0 : Int32))] [(.ref b1)])) rfl (by rw [hml]; rfl) (Steps.refl _) (argsL := []) (rest := []) (lenOf pd_2 rfl) rfl (by show 2 * 0 + _ ≤ _; exact Nat.le_of_eq rfl) (hb hby at_82) (fun _ _ => ⟨rfl, hs38, (by decide : 3 + 0 ≤ _), (by decide : 11 + 0 ≤ _)⟩)
      dsimp only [Pt.U, Pt.locs, Pt.cells, Pt.slots] at X42 l42 y42 z42 st42 hQ42
      subst l42 y42 z42
      obtain ⟨rfl, Nq42, hs42⟩ := hQ42
      have N44 := Fr.app N40 Nq42
      refine OFin.to (S' := T42.setTop (mkF m 85 #[.val (.int p0), .val (.int p1), .val (.ref b1), .val (.int (own_live p0 p1)), .val (.int (1 : Int32)), .val (.int (own_live p0 p0)), .val (.int (0 : Int32))] [(.int p0)])) st42 ?_
      refine OFin.of (S' := T42.setTop (mkF m 94 #[.val (.int p0), .val (.int p1), .val (.ref b1), .val (.int (own_live p0 p1)), .val (.int (1 : Int32)), .val (.int (own_live p0 p0)), .val (.int (0 : Int32))] [(.int (1 : Int32))])) (fun t ht => ?_) ?_
      · refine XS.iloadN X42.here hx rfl (hb hby at_85) rfl ?_
        show Steps p.tables e below (T42.setTop (mkF m 86 _ [(.int p0), (.int p0)])) _
        refine XS.icmpNo X42.here hx rfl (hb hby at_86) rfl (teq (rfl : p0 = p0)).2 ?_
        show Steps p.tables e below (T42.setTop (mkF m 89 _ [])) _
        refine XS.iconst X42.here hx rfl (hb hby at_89) ?_
        show Steps p.tables e below (T42.setTop (mkF m 90 _ [(.int (1 : Int32))])) _
        refine XS.goto X42.here hx rfl (pc0 := 90) (pc' := 94) rfl (hb hby at_90) (by decide) (by decide) ?_
        exact ht
      exact OFin.retBW (s := s) (vm₁ := T7.vm) X42 S7 (by rw [hs42]; exact kk20) hx hlk (t := .boolean) (by simp) hret (hb hby at_94) (by decide) (by decide) (by rw [hs42]; exact ⟨rfl, N44⟩)
    · refine OFin.of (S' := T38.setTop (mkF m 52 #[.val (.int p0), .val (.int p1), .val (.ref b1), .val (.int (own_live p0 p1)), .val (.int (1 : Int32)), .val (.int (own_live p0 p0)), .unset] [(.int (p0 - (1 : Int32))), (.ref b1)])) (fun t ht => ?_) ?_
      · refine XS.icmpNo X38.here hx rfl (hb hby at_45) rfl (feq (hc41 : ¬ (p0 = (-2147483648 : Int32)))).1 ?_
        show Steps p.tables e below (T38.setTop (mkF m 48 _ [])) _
        refine XS.aloadN X38.here hx rfl (hb hby at_48) rfl rfl ?_
        show Steps p.tables e below (T38.setTop (mkF m 49 _ [(.ref b1)])) _
        refine XS.iloadN X38.here hx rfl (hb hby at_49) rfl ?_
        show Steps p.tables e below (T38.setTop (mkF m 50 _ [(.int p0), (.ref b1)])) _
        refine XS.iconst X38.here hx rfl (hb hby at_50) ?_
        show Steps p.tables e below (T38.setTop (mkF m 51 _ [(.int (1 : Int32)), (.int p0), (.ref b1)])) _
        refine XS.isub X38.here hx rfl (hb hby at_51) rfl ?_
        exact ht
      obtain ⟨cq46, kq46, q46a, q46b, q46c⟩ := isOf hZ7 hs38 f18
      obtain ⟨_, _, ⟨T45, L45, k45, n45⟩, -, X45, ⟨Lc45, hQ45, l45, y45, z45⟩, st45⟩ := X38.virtualBack hx (y := (⟨"com/example/greylag/greylag/model/Scenario$Broker", "isLiveAt", "(I)Z"⟩ : MethodName)) (z := (⟨"com/example/greylag/greylag/model/Scenario$Broker", "isLiveAt", "(I)Z"⟩ : MethodName)) hown7 (mvT hZ7 (hw _ (List.mem_of_getElem? (i := 23) rfl))) (mvT hZ7 (hw _ (List.mem_of_getElem? (i := 24) rfl))) (notFace_of_selects (args := #[]) (mvT hZ7 (hw _ (List.mem_of_getElem? (i := 26) rfl)))) (mvT hZ7 (hw _ (List.mem_of_getElem? (i := 26) rfl))) (mvT hZ7 (hw _ (List.mem_of_getElem? (i := 25) rfl))) (by decide) (backOf (W := 0) (rmLv l Z _ hw [] b1 (p0 - (1 : Int32)) p0 T13.heap n0 Z19 f16) hZ7 (hw _ (List.mem_of_getElem? (i := 27) rfl)) (hw _ (List.mem_of_getElem? (i := 2) rfl)) (by decide) (by decide)) q46a q46c (g := (mkF m 52 #[.val (.int p0), .val (.int p1), .val (.ref b1), .val (.int (own_live p0 p1)), .val (.int (1 : Int32)), .val (.int (own_live p0 p0)), .unset] [(.int (p0 - (1 : Int32))), (.ref b1)])) rfl (by rw [hml]; rfl) (Steps.refl _) (argsL := [(.int (p0 - (1 : Int32)))]) (rest := []) (lenOf pd_1 rfl) rfl (by show 2 * 0 + _ ≤ _; exact Nat.le_of_eq rfl) (hb hby at_52) (fun _ _ => ⟨rfl, hs38, (by decide : 3 + 0 ≤ _), (by decide : 11 + 0 ≤ _)⟩)
      dsimp only [Pt.U, Pt.locs, Pt.cells, Pt.slots] at X45 l45 y45 z45 st45 hQ45
      subst l45 y45 z45
      obtain ⟨rfl, Nq45, hs45⟩ := hQ45
      have N47 := Fr.app N40 Nq45
      refine OFin.to (S' := T45.setTop (mkF m 55 #[.val (.int p0), .val (.int p1), .val (.ref b1), .val (.int (own_live p0 p1)), .val (.int (1 : Int32)), .val (.int (own_live p0 p0)), .unset] [(.int (own_live p0 (p0 - (1 : Int32))))])) st45 ?_
      refine OFin.of (S' := T45.setTop (mkF m 82 #[.val (.int p0), .val (.int p1), .val (.ref b1), .val (.int (own_live p0 p1)), .val (.int (1 : Int32)), .val (.int (own_live p0 p0)), .val (.int (0 : Int32))] [(.ref b1)])) (fun t ht => ?_) ?_
      · refine XS.ifYes X45.here hx rfl (pc0 := 55) (pc' := 62) rfl (hb hby at_55) rfl ((if0 _ _).trans (teq (own_before hc41 : (own_live p0 (p0 - (1 : Int32))) = (0 : Int32))).1) (by decide) (by decide) ?_
        show Steps p.tables e below (T45.setTop (mkF m 62 _ [])) _
        refine XS.iconst X45.here hx rfl (hb hby at_62) ?_
        show Steps p.tables e below (T45.setTop (mkF m 63 _ [(.int (0 : Int32))])) _
        refine XS.istore X45.here hx rfl (hb hby at_63) rfl (l' := #[.val (.int p0), .val (.int p1), .val (.ref b1), .val (.int (own_live p0 p1)), .val (.int (1 : Int32)), .val (.int (own_live p0 p0)), .val (.int (0 : Int32))]) rfl ?_
        show Steps p.tables e below (T45.setTop (mkF m 65 #[.val (.int p0), .val (.int p1), .val (.ref b1), .val (.int (own_live p0 p1)), .val (.int (1 : Int32)), .val (.int (own_live p0 p0)), .val (.int (0 : Int32))] [])) _
        refine XS.iloadN X45.here hx rfl (hb hby at_65) rfl ?_
        show Steps p.tables e below (T45.setTop (mkF m 66 _ [(.int (own_live p0 p1))])) _
        refine XS.iload X45.here hx rfl (hb hby at_66) rfl ?_
        show Steps p.tables e below (T45.setTop (mkF m 68 _ [(.int (1 : Int32)), (.int (own_live p0 p1))])) _
        refine XS.icmpNo X45.here hx rfl (hb hby at_68) rfl (teq (own_l1 hc24 : (own_live p0 p1) = (1 : Int32))).2 ?_
        show Steps p.tables e below (T45.setTop (mkF m 71 _ [])) _
        refine XS.iload X45.here hx rfl (hb hby at_71) rfl ?_
        show Steps p.tables e below (T45.setTop (mkF m 73 _ [(.int (own_live p0 p0))])) _
        refine XS.ifNo X45.here hx rfl (hb hby at_73) rfl ((if0 _ _).trans (feq (own_self _ : ¬ ((own_live p0 p0) = (0 : Int32)))).1) ?_
        show Steps p.tables e below (T45.setTop (mkF m 76 _ [])) _
        refine XS.iload X45.here hx rfl (hb hby at_76) rfl ?_
        show Steps p.tables e below (T45.setTop (mkF m 78 _ [(.int (0 : Int32))])) _
        refine XS.ifNo X45.here hx rfl (hb hby at_78) rfl ((if0 _ _).trans (teq (by decide : (0 : Int32) = (0 : Int32))).2) ?_
        show Steps p.tables e below (T45.setTop (mkF m 81 _ [])) _
        refine XS.aloadN X45.here hx rfl (hb hby at_81) rfl rfl ?_
        exact ht
      obtain ⟨cq49, kq49, q49a, q49b, q49c⟩ := isOf hZ7 hs45 f18
      obtain ⟨_, _, ⟨T48, L48, k48, n48⟩, -, X48, ⟨Lc48, hQ48, l48, y48, z48⟩, st48⟩ := X45.virtualBack hx (y := (⟨"com/example/greylag/greylag/model/Scenario$Broker", "joinCycle", "()I"⟩ : MethodName)) (z := (⟨"com/example/greylag/greylag/model/Scenario$Broker", "joinCycle", "()I"⟩ : MethodName)) hown7 (mvT hZ7 (hw _ (List.mem_of_getElem? (i := 29) rfl))) (mvT hZ7 (hw _ (List.mem_of_getElem? (i := 30) rfl))) (notFace_of_selects (args := #[]) (mvT hZ7 (hw _ (List.mem_of_getElem? (i := 32) rfl)))) (mvT hZ7 (hw _ (List.mem_of_getElem? (i := 32) rfl))) (mvT hZ7 (hw _ (List.mem_of_getElem? (i := 31) rfl))) (by decide) (backOf (W := 0) (rmJc l Z _ hw [] b1 p0 T13.heap n0 Z19 f16) hZ7 (hw _ (List.mem_of_getElem? (i := 33) rfl)) (hw _ (List.mem_of_getElem? (i := 2) rfl)) (by decide) (by decide)) q49a q49c (g := (mkF m 82 #[.val (.int p0), .val (.int p1), .val (.ref b1), .val (.int (own_live p0 p1)), .val (.int (1 : Int32)), .val (.int (own_live p0 p0)), .val (.int (0 : Int32))] [(.ref b1)])) rfl (by rw [hml]; rfl) (Steps.refl _) (argsL := []) (rest := []) (lenOf pd_2 rfl) rfl (by show 2 * 0 + _ ≤ _; exact Nat.le_of_eq rfl) (hb hby at_82) (fun _ _ => ⟨rfl, hs45, (by decide : 3 + 0 ≤ _), (by decide : 11 + 0 ≤ _)⟩)
      dsimp only [Pt.U, Pt.locs, Pt.cells, Pt.slots] at X48 l48 y48 z48 st48 hQ48
      subst l48 y48 z48
      obtain ⟨rfl, Nq48, hs48⟩ := hQ48
      have N50 := Fr.app N47 Nq48
      refine OFin.to (S' := T48.setTop (mkF m 85 #[.val (.int p0), .val (.int p1), .val (.ref b1), .val (.int (own_live p0 p1)), .val (.int (1 : Int32)), .val (.int (own_live p0 p0)), .val (.int (0 : Int32))] [(.int p0)])) st48 ?_
      refine OFin.of (S' := T48.setTop (mkF m 94 #[.val (.int p0), .val (.int p1), .val (.ref b1), .val (.int (own_live p0 p1)), .val (.int (1 : Int32)), .val (.int (own_live p0 p0)), .val (.int (0 : Int32))] [(.int (1 : Int32))])) (fun t ht => ?_) ?_
      · refine XS.iloadN X48.here hx rfl (hb hby at_85) rfl ?_
        show Steps p.tables e below (T48.setTop (mkF m 86 _ [(.int p0), (.int p0)])) _
        refine XS.icmpNo X48.here hx rfl (hb hby at_86) rfl (teq (rfl : p0 = p0)).2 ?_
        show Steps p.tables e below (T48.setTop (mkF m 89 _ [])) _
        refine XS.iconst X48.here hx rfl (hb hby at_89) ?_
        show Steps p.tables e below (T48.setTop (mkF m 90 _ [(.int (1 : Int32))])) _
        refine XS.goto X48.here hx rfl (pc0 := 90) (pc' := 94) rfl (hb hby at_90) (by decide) (by decide) ?_
        exact ht
      exact OFin.retBW (s := s) (vm₁ := T7.vm) X48 S7 (by rw [hs48]; exact kk20) hx hlk (t := .boolean) (by simp) hret (hb hby at_94) (by decide) (by decide) (by rw [hs48]; exact ⟨rfl, N50⟩)
set_option maxRecDepth 65536 in
set_option maxHeartbeats 40000000 in
theorem comes_1 {Post : Tables → Env → Array Value → State → Outcome → State → Prop} (hpost : ∀ tb e args s v u, (limb_1_1.after args s (.returned v) u = true ∧ limb_1_2.after args s (.returned v) u = true ∧ True) → FramedW s (.returned v) u (Jvm.fieldLocs frame_1_writes args s ++ Jvm.arrayLocs frame_1_arrays args s ++ Jvm.staticLocs frame_1_statics s) 16 1152 → Post tb e args s (.returned v) u) :
    ArmFor flags0 classFile x code maxLocals ret World_1 tables_1 room_1 Calls_1 rest_1 Pre_1 Post := by
  intro l hfl _ _ p e ha hc hk s m args below hf hA hF happ hP
  obtain ⟨hcalls, hrest, hpre⟩ := hP
  obtain ⟨-, -, -, hnamed, -, -, -, hat⟩ := (Spec.applies_iff hf).mp happ
  obtain ⟨hg, hn⟩ := and_e (Cond.before_iff.mp (show (Jvm.Cond.and given_1 narrow_1).before args s = true from hpre))
  obtain ⟨gg0, hg0⟩ := and_e hg
  obtain ⟨gg1, hg1⟩ := and_e hg0
  obtain ⟨w0, w1, rfl⟩ : ∃ w0 w1 : Value, args = #[w0, w1] := by
    have hs : args.size = 2 := by simpa [Cond.value, given_1] using gg0
    obtain ⟨L⟩ := args
    match L, hs with
    | [w0, w1], _ => exact ⟨w0, w1, rfl⟩
  have hw := fun d (hd : d ∈ tables_1) => atoms_spec (ws := Jvm.Cond.code x code maxLocals ret :: tables_1) hat d (List.mem_cons_of_mem _ hd)
  have hfit : Fit s := fun {y c} hc i hi => by
    obtain ⟨ha, rfl⟩ := Array.getElem?_eq_some_iff.mp hc
    have q := List.all_eq_true.mp ((Array.all_eq_true_iff_forall_mem.mp hF) _ (Array.getElem_mem ha)) i (List.mem_range.mpr hi)
    simpa [Array.getElem?_eq_getElem hi] using q
  obtain ⟨i0, ei0⟩ := is_v gg1
  obtain rfl : w0 = (.int i0) := Option.some.inj ei0
  obtain ⟨i1, ei1⟩ := is_v hg1
  obtain rfl : w1 = (.int i1) := Option.some.inj ei1

  obtain ⟨n, o, h1, h2, h3, _, L, rfl, ⟨rfl, N⟩, hq⟩ := rm0 l s _ hw tables_1 i0 i1  s.heap s.heap.size (Nat.le_refl _)  p e ha hc hk s m _ below hf ((Spec.applies_iff_loose hf).mp happ).1 ⟨rfl, State.Warmed39.refl s, rfl⟩ trivial
  refine ⟨n, _, h1, h2, h3, hpost _ _ _ _ _ _ ⟨Cond.after_iff.mpr rfl, Cond.after_iff.mpr (eq_i res_at (Term.int_eval (1)) rfl), trivial⟩ ⟨hq.1, hq.2.1, hq.2.2.1, (hq.2.2.2.sift fun y hy => Or.inr (N y hy)).mono (by decide) (by decide)⟩⟩
theorem main_1_1 : Claimed_1_1 := comes_1 fun _ _ _ _ _ _ h hF => ⟨h.1, hF⟩
theorem main_1_2 : Claimed_1_2 := comes_1 fun _ _ _ _ _ _ h hF => ⟨h.2.1, hF⟩
end Jvm.Pilot.@@N@@
namespace Jvm.Pilot.@@N@@
open Jvm Jvm.ClassFile Sem Op Lib Jvm.Free Jvm.Stand Jvm.Pilot.@@N@@.Jvm.D
/-! MADE BY PROGRAM (witnessworld.py) out of the Statement's table words and the real class files: 14 classes; the members and pool entries that the words name. The judged class is class 1, her method 1. -/
namespace start1
open Jvm.ClassFile
def u (s : String) : CpInfo := .utf8 (stringToUtf16 s)
/-- a pool by its gaps: so many unusable entries, then the entry; so many at the end -/
def gap : Nat → List CpInfo → List CpInfo
  | 0, r => r
  | n + 1, r => .unusable :: gap n r
def poolList (es : List (Nat × CpInfo)) (last : Nat) : List CpInfo := es.foldr (fun e r => gap e.1 (e.2 :: r)) (gap last [])
def pool (es : List (Nat × CpInfo)) (last : Nat) : Array CpInfo := ⟨poolList es last⟩
def fileOf (pool : Array CpInfo) (this : Nat) (attrs : Array Attribute := #[]) (ms : Array MethodInfo := #[]) (fl : Nat := 33) (sup : Nat := 0) (ifs : Array Nat := #[]) (fds : Array FieldInfo := #[]) : ClassFile where
  minorVersion := 0
  majorVersion := 65
  constantPool := pool
  accessFlags := fl
  thisClass := this
  superClass := sup
  interfaces := ifs
  fields := fds
  methods := ms
  attributes := attrs
def plain (name : String) (sup : Option ClassId) : Class where
  name := name
  kind := .ordinary
  loader := none
  accessFlags := 33
  super := sup
  interfaces := #[]
  cf := none
  fields := #[]
  methods := #[]
  instanceTypes := #[]
  staticTypes := #[]
  resolved := #[]
  callSites := []
  init := .initialized
  statics := none
  mirror := none

def pool0 : Array CpInfo := pool [(5, u "<init>"), (0, u "()V"), (1, .class_ 10), (1, u "java/lang/Object")] 113

def k0c0 : Code := { maxStack := 0, maxLocals := 1, code := object_method_1_code, exceptionTable := #[], attributes := #[] }
def k0m0 : Method := { name := "<init>", desc := "()V", sig := { parameters := [], returnType := none }, accessFlags := 1, code := some k0c0 }
/-- java/lang/Object -/
def k0 : Class := { plain "java/lang/Object" none with
  accessFlags := 33
  interfaces := #[]
  cf := some (fileOf pool0 8 #[] #[{ accessFlags := 1, nameIndex := 5, descriptorIndex := 6, attributes := #[] }] 33 0 #[] #[])
  fields := #[]
  methods := #[k0m0]
  instanceTypes := #[]
  staticTypes := #[]
  resolved := Array.replicate 124 none
  statics := none }

def pool1 : Array CpInfo := pool [(2, .class_ 4), (1, u "java/lang/Object"), (0, u "<init>"), (0, u "()V"), (0, .class_ 8), (0, u "com/example/greylag/greylag/model/Scenario$Broker"), (0, .string 10), (0, u "b"), (0, .methodref 7 12), (0, .nameAndType 5 13), (0, u "(Ljava/lang/String;Lcom/example/greylag/greylag/model/Capacity;I)V"), (0, .methodref 7 15), (0, .nameAndType 16 17), (0, u "isLiveAt"), (0, u "(I)Z"), (2, .integer 2147483648), (0, .methodref 7 22), (0, .nameAndType 23 24), (0, u "joinCycle"), (0, u "()I"), (0, .class_ 26), (0, u "com/example/greylag/greylag/model/BrokerIsLiveAtPinLaw"), (2, u "law"), (0, u "(II)Z")] 7

def k1m0 : Method := { name := "<init>", desc := "()V", sig := { parameters := [], returnType := none }, accessFlags := 1, code := none }
def k1c1 : Code := { maxStack := 5, maxLocals := 7, code := code, exceptionTable := #[], attributes := #[] }
def k1m1 : Method := { name := "law", desc := "(II)Z", sig := { parameters := [.int, .int], returnType := some .boolean }, accessFlags := 9, code := some k1c1 }
/-- com/example/greylag/greylag/model/BrokerIsLiveAtPinLaw -/
def k1 : Class := { plain "com/example/greylag/greylag/model/BrokerIsLiveAtPinLaw" (some 0) with
  accessFlags := 49
  interfaces := #[]
  cf := some (fileOf pool1 25 #[] #[{ accessFlags := 1, nameIndex := 5, descriptorIndex := 6, attributes := #[] }, { accessFlags := 9, nameIndex := 29, descriptorIndex := 30, attributes := #[] }] 49 2 #[] #[])
  fields := #[]
  methods := #[k1m0, k1m1]
  instanceTypes := #[]
  staticTypes := #[]
  resolved := Array.replicate 38 none
  statics := none }

def pool2 : Array CpInfo := pool [(1, .methodref 2 3), (0, .class_ 4), (0, .nameAndType 5 6), (0, u "java/lang/Object"), (0, u "<init>"), (0, u "()V"), (0, .fieldref 8 9), (0, .class_ 10), (0, .nameAndType 11 12), (0, u "com/example/greylag/greylag/model/Scenario$Broker"), (0, u "name"), (0, u "Ljava/lang/String;"), (0, .fieldref 8 14), (0, .nameAndType 15 16), (0, u "capacity"), (0, u "Lcom/example/greylag/greylag/model/Capacity;"), (0, .fieldref 8 18), (0, .nameAndType 19 20), (0, u "joinCycle"), (0, u "I"), (0, u "(Ljava/lang/String;Lcom/example/greylag/greylag/model/Capacity;I)V"), (4, u "()I"), (0, u "isLiveAt"), (0, u "(I)Z"), (4, .class_ 34), (0, u "com/example/greylag/greylag/model/Scenario")] 2

def k2c0 : Code := { maxStack := 2, maxLocals := 4, code := prog_40_method_1_code, exceptionTable := #[], attributes := #[] }
def k2m0 : Method := { name := "<init>", desc := "(Ljava/lang/String;Lcom/example/greylag/greylag/model/Capacity;I)V", sig := { parameters := [(.object "java/lang/String"), (.object "com/example/greylag/greylag/model/Capacity"), .int], returnType := none }, accessFlags := 1, code := some k2c0 }
def k2c1 : Code := { maxStack := 1, maxLocals := 1, code := prog_40_method_4_code, exceptionTable := #[], attributes := #[] }
def k2m1 : Method := { name := "joinCycle", desc := "()I", sig := { parameters := [], returnType := some .int }, accessFlags := 1, code := some k2c1 }
def k2c2 : Code := { maxStack := 2, maxLocals := 2, code := prog_40_method_5_code, exceptionTable := #[], attributes := #[] }
def k2m2 : Method := { name := "isLiveAt", desc := "(I)Z", sig := { parameters := [.int], returnType := some .boolean }, accessFlags := 1, code := some k2c2 }
/-- com/example/greylag/greylag/model/Scenario$Broker -/
def k2 : Class := { plain "com/example/greylag/greylag/model/Scenario$Broker" (some 0) with
  accessFlags := 49
  interfaces := #[]
  cf := some (fileOf pool2 8 #[.nestHost 33] #[{ accessFlags := 1, nameIndex := 5, descriptorIndex := 21, attributes := #[] }, { accessFlags := 1, nameIndex := 19, descriptorIndex := 26, attributes := #[] }, { accessFlags := 1, nameIndex := 27, descriptorIndex := 28, attributes := #[] }] 49 2 #[] #[{ accessFlags := 18, nameIndex := 11, descriptorIndex := 12, attributes := #[] }, { accessFlags := 18, nameIndex := 15, descriptorIndex := 16, attributes := #[] }, { accessFlags := 18, nameIndex := 19, descriptorIndex := 20, attributes := #[] }])
  fields := #[{ name := "name", type := (.object "java/lang/String"), accessFlags := 18, slot := 0, constantValue := 0 }, { name := "capacity", type := (.object "com/example/greylag/greylag/model/Capacity"), accessFlags := 18, slot := 1, constantValue := 0 }, { name := "joinCycle", type := .int, accessFlags := 18, slot := 2, constantValue := 0 }]
  methods := #[k2m0, k2m1, k2m2]
  instanceTypes := #[(.object "java/lang/String"), (.object "com/example/greylag/greylag/model/Capacity"), .int]
  staticTypes := #[]
  resolved := Array.replicate 37 none
  statics := none }

def pool3 : Array CpInfo := pool [(1, .class_ 2), (0, u "java/io/Serializable"), (0, .class_ 4), (0, u "java/lang/Object")] 2

/-- java/io/Serializable -/
def k3 : Class := { plain "java/io/Serializable" (some 0) with
  accessFlags := 1537
  interfaces := #[]
  cf := some (fileOf pool3 1 #[] #[] 1537 3 #[] #[])
  fields := #[]
  methods := #[]
  instanceTypes := #[]
  staticTypes := #[]
  resolved := Array.replicate 7 none
  statics := none }

def pool4 : Array CpInfo := pool [(1, .class_ 2), (0, u "java/lang/Comparable"), (0, .class_ 4), (0, u "java/lang/Object")] 7

/-- java/lang/Comparable -/
def k4 : Class := { plain "java/lang/Comparable" (some 0) with
  accessFlags := 1537
  interfaces := #[]
  cf := some (fileOf pool4 1 #[] #[] 1537 3 #[] #[])
  fields := #[]
  methods := #[]
  instanceTypes := #[]
  staticTypes := #[]
  resolved := Array.replicate 12 none
  statics := none }

def pool5 : Array CpInfo := pool [(2, .class_ 4), (1, u "java/lang/CharSequence"), (42, .class_ 48), (0, u "java/lang/CharSequence$1CodePointIterator"), (10, .class_ 60), (0, u "java/lang/CharSequence$1CharIterator"), (5, .class_ 67), (0, u "java/lang/Object")] 63

/-- java/lang/CharSequence -/
def k5 : Class := { plain "java/lang/CharSequence" (some 0) with
  accessFlags := 1537
  interfaces := #[]
  cf := some (fileOf pool5 2 #[.nestMembers #[47, 59]] #[] 1537 66 #[] #[])
  fields := #[]
  methods := #[]
  instanceTypes := #[]
  staticTypes := #[]
  resolved := Array.replicate 131 none
  statics := none }

def pool6 : Array CpInfo := pool [(1, .class_ 2), (0, u "java/lang/constant/Constable"), (0, .class_ 4), (0, u "java/lang/Object")] 6

/-- java/lang/constant/Constable -/
def k6 : Class := { plain "java/lang/constant/Constable" (some 0) with
  accessFlags := 1537
  interfaces := #[]
  cf := some (fileOf pool6 1 #[] #[] 1537 3 #[] #[])
  fields := #[]
  methods := #[]
  instanceTypes := #[]
  staticTypes := #[]
  resolved := Array.replicate 11 none
  statics := none }

def pool7 : Array CpInfo := pool [(1, .class_ 2), (0, u "java/lang/constant/ConstantDesc"), (0, .class_ 4), (0, u "java/lang/Object")] 32

/-- java/lang/constant/ConstantDesc -/
def k7 : Class := { plain "java/lang/constant/ConstantDesc" (some 0) with
  accessFlags := 1537
  interfaces := #[]
  cf := some (fileOf pool7 1 #[] #[] 1537 3 #[] #[])
  fields := #[]
  methods := #[]
  instanceTypes := #[]
  staticTypes := #[]
  resolved := Array.replicate 37 none
  statics := none }

def pool8 : Array CpInfo := pool [(2, .class_ 4), (1, u "java/lang/Object"), (0, u "<init>"), (0, u "()V"), (3, .class_ 12), (1, u "java/lang/String"), (0, u "value"), (0, u "[B"), (2, u "coder"), (0, u "B"), (2, u "hash"), (0, u "I"), (2, u "hashIsZero"), (0, u "Z"), (13, u "COMPACT_STRINGS"), (534, .class_ 576), (0, u "java/lang/CharSequence"), (22, u "CASE_INSENSITIVE_ORDER"), (0, u "Ljava/util/Comparator;"), (500, u "serialPersistentFields"), (0, u "[Ljava/io/ObjectStreamField;"), (0, .class_ 1104), (0, u "java/lang/String$CaseInsensitiveComparator"), (1, .class_ 1107), (0, u "java/io/Serializable"), (0, .class_ 1109), (0, u "java/lang/Comparable"), (0, .class_ 1111), (0, u "java/lang/constant/Constable"), (0, .class_ 1113), (0, u "java/lang/constant/ConstantDesc"), (2, u "serialVersionUID"), (0, u "J"), (3, u "REPL"), (0, u "C"), (2, u "LATIN1"), (1, u "UTF16")] 323

def k8m0 : Method := { name := "<init>", desc := "()V", sig := { parameters := [], returnType := none }, accessFlags := 1, code := none }
/-- java/lang/String -/
def k8 : Class := { plain "java/lang/String" (some 0) with
  accessFlags := 49
  interfaces := #[3, 4, 5, 6, 7]
  cf := some (fileOf pool8 10 #[.nestMembers #[1103]] #[{ accessFlags := 1, nameIndex := 5, descriptorIndex := 6, attributes := #[] }] 49 2 #[1106, 1108, 575, 1110, 1112] #[{ accessFlags := 18, nameIndex := 13, descriptorIndex := 14, attributes := #[] }, { accessFlags := 18, nameIndex := 17, descriptorIndex := 18, attributes := #[] }, { accessFlags := 2, nameIndex := 21, descriptorIndex := 22, attributes := #[] }, { accessFlags := 2, nameIndex := 25, descriptorIndex := 26, attributes := #[] }, { accessFlags := 26, nameIndex := 1116, descriptorIndex := 1117, attributes := #[] }, { accessFlags := 24, nameIndex := 40, descriptorIndex := 26, attributes := #[] }, { accessFlags := 26, nameIndex := 1101, descriptorIndex := 1102, attributes := #[] }, { accessFlags := 26, nameIndex := 1121, descriptorIndex := 1122, attributes := #[] }, { accessFlags := 25, nameIndex := 599, descriptorIndex := 600, attributes := #[] }, { accessFlags := 24, nameIndex := 1125, descriptorIndex := 18, attributes := #[] }, { accessFlags := 24, nameIndex := 1127, descriptorIndex := 18, attributes := #[] }])
  fields := #[{ name := "value", type := (.array .byte), accessFlags := 18, slot := 0, constantValue := 0 }, { name := "coder", type := .byte, accessFlags := 18, slot := 1, constantValue := 0 }, { name := "hash", type := .int, accessFlags := 2, slot := 2, constantValue := 0 }, { name := "hashIsZero", type := .boolean, accessFlags := 2, slot := 3, constantValue := 0 }, { name := "serialVersionUID", type := .long, accessFlags := 26, slot := 0, constantValue := 0 }, { name := "COMPACT_STRINGS", type := .boolean, accessFlags := 24, slot := 1, constantValue := 0 }, { name := "serialPersistentFields", type := (.array (.object "java/io/ObjectStreamField")), accessFlags := 26, slot := 2, constantValue := 0 }, { name := "REPL", type := .char, accessFlags := 26, slot := 3, constantValue := 0 }, { name := "CASE_INSENSITIVE_ORDER", type := (.object "java/util/Comparator"), accessFlags := 25, slot := 4, constantValue := 0 }, { name := "LATIN1", type := .byte, accessFlags := 24, slot := 5, constantValue := 0 }, { name := "UTF16", type := .byte, accessFlags := 24, slot := 6, constantValue := 0 }]
  methods := #[k8m0]
  instanceTypes := #[(.array .byte), .byte, .int, .boolean]
  staticTypes := #[.long, .boolean, (.array (.object "java/io/ObjectStreamField")), .char, (.object "java/util/Comparator"), .byte, .byte]
  resolved := Array.replicate 1451 none
  statics := none }

def pool9 : Array CpInfo := pool [(1, u "java/lang/Cloneable"), (0, .class_ 1), (0, u "java/lang/Object"), (0, .class_ 3)] 3

/-- java/lang/Cloneable -/
def k9 : Class := { plain "java/lang/Cloneable" (some 0) with
  accessFlags := 1537
  interfaces := #[]
  cf := some (fileOf pool9 2 #[] #[] 1537 4 #[] #[])
  fields := #[]
  methods := #[]
  instanceTypes := #[]
  staticTypes := #[]
  resolved := Array.replicate 8 none
  statics := none }

/-- the primitive byte -/
def k10 : Class := { plain "byte" none with kind := .primitive 'B', accessFlags := 0x411 }
/-- [B -/
def k11 : Class := { plain "[B" (some 0) with kind := .array 10 .byte, interfaces := #[9, 3], accessFlags := 1041 }

/-- the primitive int -/
def k12 : Class := { plain "int" none with kind := .primitive 'I', accessFlags := 0x411 }
/-- [I -/
def k13 : Class := { plain "[I" (some 0) with kind := .array 12 .int, interfaces := #[9, 3], accessFlags := 1041 }

def heap : Heap := #[]
def classes : Array Class := #[k0, k1, k2, k3, k4, k5, k6, k7, k8, k9, k10, k11, k12, k13]
def interned : List (Array UInt16 × Addr) := []
def slotsUsed : Nat := 0
def theMethod : MethodId := ⟨1, 1⟩
def args0 : Array Value := #[.int 5, .int 5]
def aboutOver (below : List Frame) : State where
  vm := { classes := classes, interned := interned.toArray }
  heap := heap
  slotsUsed := slotsUsed
  threads := #[{ frames := .invoking theMethod args0 :: below }]
def below0 : List Frame := [.native { method := ⟨0, 0⟩, args := #[] }]
def about1 : State := aboutOver below0
def p0 : Program := .bare "" "" ""
def e0 : Env := launch0.env 0 0 0
theorem w_frames : about1.frames = Frame.invoking theMethod args0 :: below0 := rfl
set_option maxRecDepth 65536 in
theorem w_args : argsFit about1.vm theMethod args0 = true := by decide +kernel
set_option maxRecDepth 65536 in
theorem w_heap : heapFits about1 = true := by decide +kernel
set_option maxRecDepth 65536 in
theorem w_runnable : about1.curStatus? = some .runnable := by decide +kernel
set_option maxRecDepth 65536 in
theorem w_alone : about1.alone = true := by decide +kernel
set_option maxRecDepth 65536 in
theorem w_named : about1.methodNamed? x = some theMethod := by decide +kernel
set_option maxRecDepth 65536 in
theorem w_hears : about1.hears theMethod below0 = true := by decide +kernel
set_option maxRecDepth 65536 in
theorem w_ripe : about1.ripe theMethod args0 below0 = true := by decide +kernel
theorem w_running : about1.status = .running := rfl
set_option maxRecDepth 65536 in
theorem w_room : about1.hasRoom e0.platform room_1 = true :=
  launch0.hasRoom_least _ room_1 (by decide +kernel) (by decide +kernel) (by decide +kernel) (by decide +kernel) (by decide +kernel) (by decide +kernel)
theorem allAtoms_all (ts : List Jvm.Cond) (a : Array Jvm.Value) (st : Jvm.State) : (allAtoms ts).before a st = ts.all (fun c => c.before a st) := by
  induction ts with
  | nil => rfl
  | cons c t ih =>
    show (Jvm.Cond.and c (allAtoms t)).before a st = _
    rw [Jvm.Cond.before_and, ih, List.all_cons]
def words1 : List Jvm.Cond := Jvm.Cond.code x code maxLocals ret :: tables_1
/-- a 'code' word, met by the world's own term for the bytes: nothing is compared byte by byte -/
theorem code_word {y : MethodName} {bytes : ByteArray} {mx : Nat} {rt : Option FieldType} {a : Array Value} {s : State} {m : MethodId} {meth : Method} {c : Code} (h1 : s.methodNamed? y = some m) (h2 : s.vm.method? m = some meth) (h3 : meth.code = some c) (h4 : c.code = bytes)
    (h5 : (c.maxLocals == mx && c.exceptionTable.isEmpty && decide (c.maxStack ≤ mostOperands) && decide (meth.sig.returnType = rt) && !meth.locks && decide (parseMethodDescriptor y.desc = some meth.sig)) = true) : (Jvm.Cond.code y bytes mx rt).before a s = true := by
  simp only [Bool.and_eq_true, beq_iff_eq, Bool.not_eq_true', decide_eq_true_eq] at h5
  obtain ⟨⟨⟨⟨⟨g1, g2⟩, g3⟩, g4⟩, g5⟩, g6⟩ := h5
  simp [Cond.before, Cond.holds, Cond.value, h1, h2, h3, h4, g1, g2, g3, g4, g5, g6]
def isCode : Jvm.Cond → Bool
  | .code _ _ _ _ => true
  | _ => false
theorem all_split {L : List Jvm.Cond} {P : Jvm.Cond → Bool} (h1 : L.all (fun c => isCode c || P c) = true) (h2 : ∀ c ∈ L.filter isCode, P c = true) : L.all P = true := by
  refine List.all_eq_true.mpr fun c hc => ?_
  have h := List.all_eq_true.mp h1 c hc
  rcases Bool.eq_false_or_eq_true (isCode c) with hi | hi
  · exact h2 c (List.mem_filter.mpr ⟨hc, hi⟩)
  · simpa [hi] using h
set_option maxRecDepth 65536 in
theorem w_c0 : (Jvm.Cond.code x code maxLocals ret).before args0 about1 = true := code_word (m := ⟨1, 1⟩) (meth := k1m1) (c := k1c1) (by decide +kernel) rfl rfl rfl (by decide +kernel)
set_option maxRecDepth 65536 in
theorem w_c1 : (Jvm.Cond.code ({ cls := "com/example/greylag/greylag/model/Scenario$Broker", name := "<init>", desc := "(Ljava/lang/String;Lcom/example/greylag/greylag/model/Capacity;I)V" } : Jvm.MethodName) prog_40_method_1_code (4 : Nat) (Option.none : Option Jvm.ClassFile.FieldType)).before args0 about1 = true := code_word (m := ⟨2, 0⟩) (meth := k2m0) (c := k2c0) (by decide +kernel) rfl rfl rfl (by decide +kernel)
set_option maxRecDepth 65536 in
theorem w_c2 : (Jvm.Cond.code ({ cls := "java/lang/Object", name := "<init>", desc := "()V" } : Jvm.MethodName) object_method_1_code (1 : Nat) (Option.none : Option Jvm.ClassFile.FieldType)).before args0 about1 = true := code_word (m := ⟨0, 0⟩) (meth := k0m0) (c := k0c0) (by decide +kernel) rfl rfl rfl (by decide +kernel)
set_option maxRecDepth 65536 in
theorem w_c3 : (Jvm.Cond.code ({ cls := "com/example/greylag/greylag/model/Scenario$Broker", name := "isLiveAt", desc := "(I)Z" } : Jvm.MethodName) prog_40_method_5_code (2 : Nat) (Option.some Jvm.ClassFile.FieldType.boolean)).before args0 about1 = true := code_word (m := ⟨2, 2⟩) (meth := k2m2) (c := k2c2) (by decide +kernel) rfl rfl rfl (by decide +kernel)
set_option maxRecDepth 65536 in
theorem w_c4 : (Jvm.Cond.code ({ cls := "com/example/greylag/greylag/model/Scenario$Broker", name := "joinCycle", desc := "()I" } : Jvm.MethodName) prog_40_method_4_code (1 : Nat) (Option.some Jvm.ClassFile.FieldType.int)).before args0 about1 = true := code_word (m := ⟨2, 1⟩) (meth := k2m1) (c := k2c1) (by decide +kernel) rfl rfl rfl (by decide +kernel)
def codes1 : List Jvm.Cond := [Jvm.Cond.code x code maxLocals ret, Jvm.Cond.code ({ cls := "com/example/greylag/greylag/model/Scenario$Broker", name := "<init>", desc := "(Ljava/lang/String;Lcom/example/greylag/greylag/model/Capacity;I)V" } : Jvm.MethodName) prog_40_method_1_code (4 : Nat) (Option.none : Option Jvm.ClassFile.FieldType), Jvm.Cond.code ({ cls := "java/lang/Object", name := "<init>", desc := "()V" } : Jvm.MethodName) object_method_1_code (1 : Nat) (Option.none : Option Jvm.ClassFile.FieldType), Jvm.Cond.code ({ cls := "com/example/greylag/greylag/model/Scenario$Broker", name := "isLiveAt", desc := "(I)Z" } : Jvm.MethodName) prog_40_method_5_code (2 : Nat) (Option.some Jvm.ClassFile.FieldType.boolean), Jvm.Cond.code ({ cls := "com/example/greylag/greylag/model/Scenario$Broker", name := "joinCycle", desc := "()I" } : Jvm.MethodName) prog_40_method_4_code (1 : Nat) (Option.some Jvm.ClassFile.FieldType.int)]
set_option maxRecDepth 65536 in
theorem codes_eq : words1.filter isCode = codes1 := rfl
theorem w_codes : ∀ c ∈ words1.filter isCode, c.before args0 about1 = true := by
  rw [codes_eq]
  intro c hc
  simp only [codes1, List.mem_cons, List.not_mem_nil, or_false] at hc
  rcases hc with rfl | rfl | rfl | rfl | rfl
  · exact w_c0
  · exact w_c1
  · exact w_c2
  · exact w_c3
  · exact w_c4
set_option maxRecDepth 65536 in
theorem w_t1 : (words1.take 24).all (fun c => isCode c || c.before args0 about1) = true := by decide +kernel
set_option maxRecDepth 65536 in
theorem w_t2 : (words1.drop 24).all (fun c => isCode c || c.before args0 about1) = true := by decide +kernel
theorem w_tables : (allAtoms (Jvm.Cond.code x code maxLocals ret :: tables_1)).before args0 about1 = true := by
  rw [allAtoms_all]
  show words1.all (fun c => c.before args0 about1) = true
  refine all_split ?_ w_codes
  rw [← List.take_append_drop 24 words1, List.all_append, w_t1, w_t2]
  rfl
set_option maxRecDepth 65536 in
theorem w_case : (Jvm.Cond.and given_1 narrow_1).before args0 about1 = true := by decide +kernel
theorem w_applies : (headSpec (Jvm.Cond.code x code maxLocals ret :: tables_1) room_1).applies x e0.platform about1 = true :=
  (Spec.applies_iff w_frames).mpr ⟨w_running, w_runnable, w_alone, w_named, w_hears, w_ripe, w_room, w_tables⟩
theorem atStart : AtStart classFile x code maxLocals ret World_1 tables_1 room_1 Calls_1 rest_1 Pre_1 launch0 p0 e0 about1 theMethod args0 below0 :=
  ⟨lists_1, trivial, launch0.admits_env _ _ _, launch0.least_env, fairChoices_fair.cas, fairChoices_fair.clock, w_frames, w_args, w_heap, w_applies, trivial, trivial, w_case⟩
end start1
theorem witness_1 : WitnessClaimed_1 := ⟨start1.p0, start1.e0, start1.about1, start1.theMethod, start1.args0, start1.below0, start1.atStart⟩
end Jvm.Pilot.@@N@@
