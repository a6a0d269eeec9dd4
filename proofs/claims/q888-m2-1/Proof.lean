import JvmDerived
import JvmDerived.Pilot.@@N@@Statement
import JvmDerived.Pilot.@@N@@Code
set_option linter.unusedVariables false
set_option linter.unusedSimpArgs false
namespace Jvm.RoadKit
open Sem ClassFile Op Lib Jvm.Stand Jvm.Free Jvm.LawKit
section OwnNew
variable {p : Program} {l : Launch} {e : Env} {R : Room} {s : State} {m : MethodId} {args : Array Value} {below : List Frame} {meth : Method} {c : Code} {T : State} {locs : List Loc} {cells slots : Nat}
theorem retI (X : Stand p l e R s m args below meth c T locs cells slots) (hx : p.tables.exec = Jvm.exec) {pc : Nat} {Ls : Array Slot} {z : Int32} {rest : List Value} (hret : meth.sig.returnType = some .int) (hd : decode c.code pc = .ok (.ireturn, 1)) {fs : List Frame}
    (hl : ∀ (f : JFrame) (acts : List Action), f.method = m → f.locked = none → f.entered = [] → (doReturn e (T.setTop f) acts (some (.int z))).1 = T.setFrames fs) : Steps p.tables e below (T.setTop (mkF m pc Ls (.int z :: rest))) (T.setFrames fs) := by
  have hm' : T.vm.method? m = some meth := X.method'
  have hn : narrow .int (.int z) = .int z := rfl
  show Steps p.tables e below (T.setTop { method := m, pc := pc, locals := Ls, stack := _ :: rest, locked := none }) _
  jvm_step X.here [X.here.top, hx, hd, hm', hret, hn]
  first | (intro acts; rw [hl _ acts rfl rfl rfl]) | rw [hl _ _ rfl rfl rfl]
  exact Steps.refl _
/-- from S the run comes to an end of this invocation at which K holds -/
def OFin (p : Program) (e : Env) (below : List Frame) (K : Outcome → State → Prop) (S : State) : Prop := ∃ s₂ o, Steps p.tables e below S s₂ ∧ s₂.status = .running ∧ Ended s₂ below o ∧ K o s₂
theorem OFin.of {K : Outcome → State → Prop} {S S' : State} (h : ∀ t, Steps p.tables e below S' t → Steps p.tables e below S t) (k : OFin p e below K S') : OFin p e below K S := by
  obtain ⟨t, o, a, b⟩ := k; exact ⟨t, o, h t a, b⟩
theorem OFin.to {K : Outcome → State → Prop} {S S' : State} (h : Steps p.tables e below S S') (k : OFin p e below K S') : OFin p e below K S := by
  obtain ⟨t, o, a, b⟩ := k; exact ⟨t, o, h.trans a, b⟩
abbrev KPost (s : State) (Q : Option Value → Heap → List Loc → Prop) (C D : Nat) : Outcome → State → Prop := fun o U' => ∃ v L, o = .returned v ∧ Q v U'.heap L ∧ FrameEnd s o U' L C D
theorem OFin.retI (X : Stand p l e R s m args below meth c T locs cells slots) (hx : p.tables.exec = Jvm.exec) (hlk : meth.locks = false) {pc : Nat} {Ls : Array Slot} {z : Int32} {rest : List Value} {Q : Option Value → Heap → List Loc → Prop} {C D : Nat} (hret : meth.sig.returnType = some .int) (hd : decode c.code pc = .ok (.ireturn, 1)) (hC : cells ≤ C) (hD : slots ≤ D) (hQ : Q (some (.int z)) T.heap locs) :
    OFin p e below (KPost s Q C D) (T.setTop (mkF m pc Ls (.int z :: rest))) := by
  obtain ⟨fs, hr, hrun, hended, hW, hsame⟩ := X.leave (v := some (.int z)) (fun h => by rw [hret] at h; cases h) hlk
  exact ⟨_, _, Jvm.RoadKit.retI X hx hret hd hr, hrun, hended, _, _, rfl, hQ, ⟨_, rfl⟩, hW, hsame.mono hC hD⟩
theorem OFin.retB (X : Stand p l e R s m args below meth c T locs cells slots) (hx : p.tables.exec = Jvm.exec) (hlk : meth.locks = false) {pc : Nat} {Ls : Array Slot} {z : Int32} {rest : List Value} {Q : Option Value → Heap → List Loc → Prop} {C D : Nat} {t : FieldType} (ht : t = .boolean ∨ t = .byte ∨ t = .char ∨ t = .short) (hret : meth.sig.returnType = some t) (hd : decode c.code pc = .ok (.ireturn, 1)) (hC : cells ≤ C) (hD : slots ≤ D) (hQ : Q (some (.int (nar t z))) T.heap locs) :
    OFin p e below (KPost s Q C D) (T.setTop (mkF m pc Ls (.int z :: rest))) := by
  obtain ⟨fs, hr, hrun, hended, hW, hsame⟩ := X.leave (v := some (.int (nar t z))) (fun h => by rw [hret] at h; cases h) hlk
  exact ⟨_, _, retN X hx hret ht hd hr, hrun, hended, _, _, rfl, hQ, ⟨_, rfl⟩, hW, hsame.mono hC hD⟩
theorem OFin.retJ (X : Stand p l e R s m args below meth c T locs cells slots) (hx : p.tables.exec = Jvm.exec) (hlk : meth.locks = false) {pc : Nat} {Ls : Array Slot} {z : Int64} {Q : Option Value → Heap → List Loc → Prop} {C D : Nat} (hret : meth.sig.returnType = some .long) (hd : decode c.code pc = .ok (.lreturn, 1)) (hC : cells ≤ C) (hD : slots ≤ D) (hQ : Q (some (.long z)) T.heap locs) :
    OFin p e below (KPost s Q C D) (T.setTop (mkF m pc Ls [.long z])) := by
  obtain ⟨fs, hr, hrun, hended, hW, hsame⟩ := X.leave (v := some (.long z)) (fun h => by rw [hret] at h; cases h) hlk
  exact ⟨_, _, X.lreturnOut hx hret hd hr, hrun, hended, _, _, rfl, hQ, ⟨_, rfl⟩, hW, hsame.mono hC hD⟩
theorem OFin.retA (X : Stand p l e R s m args below meth c T locs cells slots) (hx : p.tables.exec = Jvm.exec) (hlk : meth.locks = false) {pc : Nat} {Ls : Array Slot} {z : Value} {Q : Option Value → Heap → List Loc → Prop} {C D : Nat} {t : FieldType} (ht : t.isReference = true) (hz : z.isRef = true) (hret : meth.sig.returnType = some t) (hd : decode c.code pc = .ok (.areturn, 1)) (hC : cells ≤ C) (hD : slots ≤ D) (hQ : Q (some z) T.heap locs) :
    OFin p e below (KPost s Q C D) (T.setTop (mkF m pc Ls [z])) := by
  obtain ⟨fs, hr, hrun, hended, hW, hsame⟩ := X.leave (v := some z) (fun h => by rw [hret] at h; cases h) hlk
  exact ⟨_, _, X.areturnOut hx hz hret ht hd hr, hrun, hended, _, _, rfl, hQ, ⟨_, rfl⟩, hW, hsame.mono hC hD⟩
theorem OFin.retD (X : Stand p l e R s m args below meth c T locs cells slots) (hx : p.tables.exec = Jvm.exec) (hlk : meth.locks = false) {pc : Nat} {Ls : Array Slot} {z : UInt64} {rest : List Value} {Q : Option Value → Heap → List Loc → Prop} {C D : Nat} (hret : meth.sig.returnType = some .double) (hd : decode c.code pc = .ok (.dreturn, 1)) (hC : cells ≤ C) (hD : slots ≤ D) (hQ : Q (some (.double z)) T.heap locs) :
    OFin p e below (KPost s Q C D) (T.setTop (mkF m pc Ls (.double z :: rest))) := by
  obtain ⟨fs, hr, hrun, hended, hW, hsame⟩ := X.leave (v := some (.double z)) (fun h => by rw [hret] at h; cases h) hlk
  exact ⟨_, _, retOut X hx hret rfl (Or.inr (Or.inr (Or.inl ⟨rfl, rfl, z, rfl⟩))) hd hr, hrun, hended, _, _, rfl, hQ, ⟨_, rfl⟩, hW, hsame.mono hC hD⟩
theorem OFin.retV (X : Stand p l e R s m args below meth c T locs cells slots) (hx : p.tables.exec = Jvm.exec) (hlk : meth.locks = false) {pc : Nat} {Ls : Array Slot} {Q : Option Value → Heap → List Loc → Prop} {C D : Nat} (hret : meth.sig.returnType = none) (hd : decode c.code pc = .ok (.return_, 1)) (hC : cells ≤ C) (hD : slots ≤ D) (hQ : Q none T.heap locs) :
    OFin p e below (KPost s Q C D) (T.setTop (mkF m pc Ls [])) := by
  obtain ⟨fs, hr, hrun, hended, hW, hsame⟩ := X.leave (v := none) (fun _ => rfl) hlk
  exact ⟨_, _, X.returnOut hx hret hd hr, hrun, hended, _, _, rfl, hQ, ⟨_, rfl⟩, hW, hsame.mono hC hD⟩
abbrev KPostW (s : State) (Q : Option Value → Heap → List Loc → Prop) (C D : Nat) : Outcome → State → Prop := fun o U' => ∃ v L, o = .returned v ∧ Q v U'.heap L ∧ ReturnedEndW s o U' L C D
theorem OFin.retBW {vm₁ : Vm} {k : Nat} (X : Stand p l e R (s.setVm vm₁) m args below meth c T locs cells slots) (hS : s.Since vm₁ k) (hk : k ≤ T.heap.size) (hx : p.tables.exec = Jvm.exec) (hlk : meth.locks = false) {pc : Nat} {Ls : Array Slot} {z : Int32} {rest : List Value} {Q : Option Value → Heap → List Loc → Prop} {C D : Nat} {t : FieldType} (ht : t = .boolean ∨ t = .byte ∨ t = .char ∨ t = .short) (hret : meth.sig.returnType = some t) (hd : decode c.code pc = .ok (.ireturn, 1)) (hC : cells ≤ C) (hD : slots ≤ D) (hQ : Q (some (.int (nar t z))) T.heap locs) :
    OFin p e below (KPostW s Q C D) (T.setTop (mkF m pc Ls (.int z :: rest))) := by
  obtain ⟨fs, hr, hrun, hended, h1, h2, h3, h4⟩ := X.leaveW hS hk (v := some (.int (nar t z))) (fun h => by rw [hret] at h; cases h) hlk
  exact ⟨_, _, retN X hx hret ht hd hr, hrun, hended, _, _, rfl, hQ, ⟨_, rfl⟩, h2, h3, h4.mono hC hD⟩
theorem own_alen {Z : State} {h : Heap} {a : Addr} {cl : Cell} {ty : FieldType} {z : Int32} {g : JFrame} {rest : List Value} {target : State} (X : Stand p l e R s m args below meth c T locs cells slots) (hx : p.tables.exec = Jvm.exec) (hZ : Z.Warmed39 s.vm) (eT : T.heap = h) (A : Arr Z h a cl ty) (S : cl.slots.size = z.toNatClampNeg) (q : ¬ z < 0) (hg : g.method = m) (hs : g.stack = .ref a :: rest) (hd : decode c.code g.pc = .ok (.arraylength, 1))
    (hr : Steps p.tables e below (T.setTop { g with pc := g.pc + 1, stack := .int z :: rest }) target) : Steps p.tables e below (T.setTop g) target := by
  refine X.arraylength hx (by rw [eT]; exact A.1) (State.isArrayOf_alike hZ.alike A.2.1) hg hs hd _ ?_
  rw [len_of S q]; exact hr
def OwnNoSta (h : Heap) (ws : List Addr) : Prop := ∀ x ∈ ws, ∀ cell : Cell, h[x]? = some cell → cell.vm.isStatics = false
theorem own_sn0 {h : Heap} : OwnNoSta h [] := fun _ q => nomatch q
theorem own_snS {Z : State} {h : Heap} {a : Addr} {C : String} {ws : List Addr} (E : Exa Z h a C) (r : OwnNoSta h ws) : OwnNoSta h (a :: ws) := fun x q cell hc => by
  rcases List.mem_cons.mp q with rfl | q
  · obtain ⟨c', _, h1, -, -, h4, -⟩ := E; cases h1.symm.trans hc; exact h4
  · exact r x q cell hc
theorem own_snV {Z : State} {h : Heap} {a : Addr} {k : ClassId} {ty : FieldType} {z : Int32} {vs : List Value} {dv : Value} {ws : List Addr} (F : Arv Z h a k ty z vs dv) (r : OwnNoSta h ws) : OwnNoSta h (a :: ws) := fun x q cell hc => by
  rcases List.mem_cons.mp q with rfl | q
  · obtain ⟨c', A, -⟩ := F; cases A.1.symm.trans hc; exact A.plain
  · exact r x q cell hc
theorem own_staKeep {Z : State} {h h' : Heap} {C n d : String} {v : Value} {ws : List Addr} (F : Sta Z h C n d v) (K : Keep h h' ws) (q : OwnNoSta h ws) : Sta Z h' C n d v := by
  obtain ⟨cf, i, k, f, st, cell, h1, h2, h3, h4, h5, h6, h7⟩ := F
  refine ⟨cf, i, k, f, st, cell, h1, h2, h3, h4, K.2.1 st cell h5 (fun z => ?_), h6, h7⟩
  have := q st z cell h5
  rw [this] at h6; cases h6
theorem own_pop2L {tb : Tables} [Ours tb] {e : Env} {below : List Frame} {T target : State} {m : MethodId} {c : Code} {g : JFrame} (h : At T m c below) (hx : tb.exec = Jvm.exec) (hg : g.method = m) {x : Int64} {rest : List Value} (hd : decode c.code g.pc = .ok (.pop2, 1)) (hs : g.stack = .long x :: rest)
    (hr : Steps tb e below (T.setTop { g with pc := g.pc + 1, stack := rest }) target) : Steps tb e below (T.setTop g) target := by
  subst hg
  jvm_step h [h.top, hx, hd, hs, Value.category]
  exact hr
end OwnNew
end Jvm.RoadKit
namespace Jvm.Pilot.@@N@@
open Jvm Jvm.ClassFile Sem Op Lib Jvm.Free Jvm.Stand Jvm.LawKit Jvm.RoadKit Bundle Jvm.Pilot.@@N@@.Jvm.D
theorem pd_0 : parseMethodDescriptor "(Lcom/example/long_lock/longlock/LockMode;)Z" = some ⟨[(.object "com/example/long_lock/longlock/LockMode")], some .boolean⟩ := by decide +kernel
theorem own_fldEq {args : Array Value} {Z : State} {t : Term} {C n d : String} {x : Addr} {k : Int32} (ev : t.eval args Z none [] Z = some (.ref x)) (h : (Jvm.Cond.eq (Term.field t C n d) (Term.int k)).value args Z none Z [] = some true) : Fld Z Z.heap x C n d (.int k) := by
  obtain ⟨u, w, e1, e2, -, -⟩ := cmp_v (Or.inl h)
  have e3 : w = .int k := (Option.some.inj e2).symm
  subst e3
  have e4 : u = .int k := by
    cases u <;> simp [Jvm.Cond.value, e1, e2] at h ⊢
    exact h
  subst e4
  exact Fld.start ((fld_at ev).symm.trans e1)
theorem own_and1 (x : Int32) : x &&& (1 : Int32) = (0 : Int32) ∨ x &&& (1 : Int32) = (1 : Int32) := and_one x
theorem dA00_0 : decode prog_16_method_7_code 0 = .ok (.aload_n 0, 1) := by decide +kernel
theorem dA00_1 : decode prog_16_method_7_code 1 = .ok (.getstatic 3, 3) := by decide +kernel
theorem dA00_4 : decode prog_16_method_7_code 4 = .ok (.if_acmp .eq 8, 3) := by decide +kernel
theorem dA00_12 : decode prog_16_method_7_code 12 = .ok (.iconst 1, 1) := by decide +kernel
theorem dA00_13 : decode prog_16_method_7_code 13 = .ok (.goto 4, 3) := by decide +kernel
theorem dA00_17 : decode prog_16_method_7_code 17 = .ok (.ireturn, 1) := by decide +kernel
theorem pnA00 : plainName "com/example/long_lock/longlock/LockMode" = true := by first | (simp [plainName, overriddenIn]; done) | decide +kernel
theorem efA00 (m : MethodId) (x_EXCLUSIVE : Addr) (x_SHARED : Addr) : entryFrame m #[(.ref x_EXCLUSIVE), (.ref x_EXCLUSIVE)] 2 = mkF m 0 #[.val (.ref x_EXCLUSIVE), .val (.ref x_EXCLUSIVE)] [] := by first | (simp [entryFrame, mkF, argsToLocals, Value.category]; done) | rfl
def QA00 (Z : State) (x_EXCLUSIVE : Addr) (x_SHARED : Addr) (h0 : Heap) (n0 : Nat) (v : Option Value) (h : Heap) (L : List Loc) : Prop := v = some (.int (1 : Int32)) ∧ Fr n0 L ∧ h = h0
set_option maxRecDepth 65536 in
set_option maxHeartbeats 40000000 in
theorem rmA00 (l : Launch) (Z : State) (a0 : Array Value) (hw : ∀ d ∈ tables_1, d.before a0 Z = true) (ws : List Jvm.Cond) (x_EXCLUSIVE : Addr) (x_SHARED : Addr) (h0 : Heap) (n0 : Nat) (Z0 : n0 ≤ h0.size) (S_EXCLUSIVE : Sta Z h0 "com/example/long_lock/longlock/LockMode" "EXCLUSIVE" "Lcom/example/long_lock/longlock/LockMode;" (.ref x_EXCLUSIVE)) (S_SHARED : Sta Z h0 "com/example/long_lock/longlock/LockMode" "SHARED" "Lcom/example/long_lock/longlock/LockMode;" (.ref x_SHARED)) (hne : x_EXCLUSIVE ≠ x_SHARED) :
    MetFree l (⟨"com/example/long_lock/longlock/LockMode", "covers", "(Lcom/example/long_lock/longlock/LockMode;)Z"⟩ : MethodName) (head1 (Jvm.Cond.code (⟨"com/example/long_lock/longlock/LockMode", "covers", "(Lcom/example/long_lock/longlock/LockMode;)Z"⟩ : MethodName) prog_16_method_7_code 2 (some .boolean) :: ws) ({ frames := 0, cells := 0, slots := 0, locals := 0 } : Room)) (fun a U => a = #[(.ref x_EXCLUSIVE), (.ref x_EXCLUSIVE)] ∧ Z.Warmed39 U.vm ∧ U.heap = h0) (fun _ _ _ _ _ => True) (fun _ U o U' => ∃ v L, o = .returned v ∧ QA00 Z x_EXCLUSIVE x_SHARED h0 n0 v U'.heap L ∧ FrameEnd U o U' L ({ frames := 0, cells := 0, slots := 0, locals := 0 } : Room).cells ({ frames := 0, cells := 0, slots := 0, locals := 0 } : Room).slots) := by
  refine MetFree.of_bodySF (plainFor_of_name pnA00) hisR ?_
  intro p e s m args below meth c s₁ Bd hml0 hP hK
  obtain ⟨rfl, hZ, hh⟩ := hP
  have hx := Bd.exec
  have hby := Bd.bytes
  have hlk := BodyLoose.notSynchronized Bd
  have hret := Bd.returns
  have hml : c.maxLocals = 2 := hml0
  have hown : s.vm.findClass "com/example/long_lock/longlock/LockMode" = some m.cls := findClass_of_methodNamed Bd.named
  have hnm := (name_of_methodNamed Bd.named Bd.method).1
  have X0 : Stand p l e ({ frames := 0, cells := 0, slots := 0, locals := 0 } : Room) s m #[(.ref x_EXCLUSIVE), (.ref x_EXCLUSIVE)] below meth c s₁ [] 0 0 := Stand.of_body Bd
  have e0 : s₁.heap = h0 := by rw [← hh, Bd.state]; rfl
  have N0 := Fr.nil n0
  show OFin p e below (KPost s (QA00 Z x_EXCLUSIVE x_SHARED h0 n0) ({ frames := 0, cells := 0, slots := 0, locals := 0 } : Room).cells ({ frames := 0, cells := 0, slots := 0, locals := 0 } : Room).slots) _
  rw [efA00 m x_EXCLUSIVE x_SHARED]
  refine OFin.of (S' := s₁.setTop (mkF m 1 #[.val (.ref x_EXCLUSIVE), .val (.ref x_EXCLUSIVE)] [(.ref x_EXCLUSIVE)])) (fun t ht => ?_) ?_
  · refine XS.aloadN X0.here hx rfl (hb hby dA00_0) rfl rfl ?_
    exact ht
  obtain ⟨T1, X1, e1, st1⟩ := getS (host := "") X0 hx hZ hown (hw _ (List.mem_of_getElem? (i := 10) rfl)) Via.refl e0 S_EXCLUSIVE (g := (mkF m 1 #[.val (.ref x_EXCLUSIVE), .val (.ref x_EXCLUSIVE)] [(.ref x_EXCLUSIVE)])) rfl (hb hby dA00_1)
  refine OFin.of (S' := T1.setTop (mkF m 4 #[.val (.ref x_EXCLUSIVE), .val (.ref x_EXCLUSIVE)] [(.ref x_EXCLUSIVE), (.ref x_EXCLUSIVE)])) (fun t ht => st1 t ht) ?_
  refine OFin.of (S' := T1.setTop (mkF m 17 #[.val (.ref x_EXCLUSIVE), .val (.ref x_EXCLUSIVE)] [(.int (1 : Int32))])) (fun t ht => ?_) ?_
  · refine acmp X1 hx rfl (cd := .eq) (x := (.ref x_EXCLUSIVE)) (y := (.ref x_EXCLUSIVE)) rfl rfl (pc0 := 4) (pc' := 12) (same := true) rfl (hb hby dA00_4) rfl (decide_eq_true rfl) (by decide) (by decide) ?_
    show Steps p.tables e below (T1.setTop (mkF m 12 _ [])) _
    refine XS.iconst X1.here hx rfl (hb hby dA00_12) ?_
    show Steps p.tables e below (T1.setTop (mkF m 13 _ [(.int (1 : Int32))])) _
    refine XS.goto X1.here hx rfl (pc0 := 13) (pc' := 17) rfl (hb hby dA00_13) (by decide) (by decide) ?_
    exact ht
  exact OFin.retB X1 hx hlk (t := .boolean) (by simp) hret (hb hby dA00_17) (by decide) (by decide) (by rw [e1]; exact ⟨rfl, N0, rfl⟩)
theorem dA01_0 : decode prog_16_method_7_code 0 = .ok (.aload_n 0, 1) := by decide +kernel
theorem dA01_1 : decode prog_16_method_7_code 1 = .ok (.getstatic 3, 3) := by decide +kernel
theorem dA01_4 : decode prog_16_method_7_code 4 = .ok (.if_acmp .eq 8, 3) := by decide +kernel
theorem dA01_12 : decode prog_16_method_7_code 12 = .ok (.iconst 1, 1) := by decide +kernel
theorem dA01_13 : decode prog_16_method_7_code 13 = .ok (.goto 4, 3) := by decide +kernel
theorem dA01_17 : decode prog_16_method_7_code 17 = .ok (.ireturn, 1) := by decide +kernel
theorem pnA01 : plainName "com/example/long_lock/longlock/LockMode" = true := by first | (simp [plainName, overriddenIn]; done) | decide +kernel
theorem efA01 (m : MethodId) (x_EXCLUSIVE : Addr) (x_SHARED : Addr) : entryFrame m #[(.ref x_EXCLUSIVE), (.ref x_SHARED)] 2 = mkF m 0 #[.val (.ref x_EXCLUSIVE), .val (.ref x_SHARED)] [] := by first | (simp [entryFrame, mkF, argsToLocals, Value.category]; done) | rfl
def QA01 (Z : State) (x_EXCLUSIVE : Addr) (x_SHARED : Addr) (h0 : Heap) (n0 : Nat) (v : Option Value) (h : Heap) (L : List Loc) : Prop := v = some (.int (1 : Int32)) ∧ Fr n0 L ∧ h = h0
set_option maxRecDepth 65536 in
set_option maxHeartbeats 40000000 in
theorem rmA01 (l : Launch) (Z : State) (a0 : Array Value) (hw : ∀ d ∈ tables_1, d.before a0 Z = true) (ws : List Jvm.Cond) (x_EXCLUSIVE : Addr) (x_SHARED : Addr) (h0 : Heap) (n0 : Nat) (Z0 : n0 ≤ h0.size) (S_EXCLUSIVE : Sta Z h0 "com/example/long_lock/longlock/LockMode" "EXCLUSIVE" "Lcom/example/long_lock/longlock/LockMode;" (.ref x_EXCLUSIVE)) (S_SHARED : Sta Z h0 "com/example/long_lock/longlock/LockMode" "SHARED" "Lcom/example/long_lock/longlock/LockMode;" (.ref x_SHARED)) (hne : x_EXCLUSIVE ≠ x_SHARED) :
    MetFree l (⟨"com/example/long_lock/longlock/LockMode", "covers", "(Lcom/example/long_lock/longlock/LockMode;)Z"⟩ : MethodName) (head1 (Jvm.Cond.code (⟨"com/example/long_lock/longlock/LockMode", "covers", "(Lcom/example/long_lock/longlock/LockMode;)Z"⟩ : MethodName) prog_16_method_7_code 2 (some .boolean) :: ws) ({ frames := 0, cells := 0, slots := 0, locals := 0 } : Room)) (fun a U => a = #[(.ref x_EXCLUSIVE), (.ref x_SHARED)] ∧ Z.Warmed39 U.vm ∧ U.heap = h0) (fun _ _ _ _ _ => True) (fun _ U o U' => ∃ v L, o = .returned v ∧ QA01 Z x_EXCLUSIVE x_SHARED h0 n0 v U'.heap L ∧ FrameEnd U o U' L ({ frames := 0, cells := 0, slots := 0, locals := 0 } : Room).cells ({ frames := 0, cells := 0, slots := 0, locals := 0 } : Room).slots) := by
  refine MetFree.of_bodySF (plainFor_of_name pnA01) hisR ?_
  intro p e s m args below meth c s₁ Bd hml0 hP hK
  obtain ⟨rfl, hZ, hh⟩ := hP
  have hx := Bd.exec
  have hby := Bd.bytes
  have hlk := BodyLoose.notSynchronized Bd
  have hret := Bd.returns
  have hml : c.maxLocals = 2 := hml0
  have hown : s.vm.findClass "com/example/long_lock/longlock/LockMode" = some m.cls := findClass_of_methodNamed Bd.named
  have hnm := (name_of_methodNamed Bd.named Bd.method).1
  have X0 : Stand p l e ({ frames := 0, cells := 0, slots := 0, locals := 0 } : Room) s m #[(.ref x_EXCLUSIVE), (.ref x_SHARED)] below meth c s₁ [] 0 0 := Stand.of_body Bd
  have e0 : s₁.heap = h0 := by rw [← hh, Bd.state]; rfl
  have N0 := Fr.nil n0
  show OFin p e below (KPost s (QA01 Z x_EXCLUSIVE x_SHARED h0 n0) ({ frames := 0, cells := 0, slots := 0, locals := 0 } : Room).cells ({ frames := 0, cells := 0, slots := 0, locals := 0 } : Room).slots) _
  rw [efA01 m x_EXCLUSIVE x_SHARED]
  refine OFin.of (S' := s₁.setTop (mkF m 1 #[.val (.ref x_EXCLUSIVE), .val (.ref x_SHARED)] [(.ref x_EXCLUSIVE)])) (fun t ht => ?_) ?_
  · refine XS.aloadN X0.here hx rfl (hb hby dA01_0) rfl rfl ?_
    exact ht
  obtain ⟨T1, X1, e1, st1⟩ := getS (host := "") X0 hx hZ hown (hw _ (List.mem_of_getElem? (i := 10) rfl)) Via.refl e0 S_EXCLUSIVE (g := (mkF m 1 #[.val (.ref x_EXCLUSIVE), .val (.ref x_SHARED)] [(.ref x_EXCLUSIVE)])) rfl (hb hby dA01_1)
  refine OFin.of (S' := T1.setTop (mkF m 4 #[.val (.ref x_EXCLUSIVE), .val (.ref x_SHARED)] [(.ref x_EXCLUSIVE), (.ref x_EXCLUSIVE)])) (fun t ht => st1 t ht) ?_
  refine OFin.of (S' := T1.setTop (mkF m 17 #[.val (.ref x_EXCLUSIVE), .val (.ref x_SHARED)] [(.int (1 : Int32))])) (fun t ht => ?_) ?_
  · refine acmp X1 hx rfl (cd := .eq) (x := (.ref x_EXCLUSIVE)) (y := (.ref x_EXCLUSIVE)) rfl rfl (pc0 := 4) (pc' := 12) (same := true) rfl (hb hby dA01_4) rfl (decide_eq_true rfl) (by decide) (by decide) ?_
    show Steps p.tables e below (T1.setTop (mkF m 12 _ [])) _
    refine XS.iconst X1.here hx rfl (hb hby dA01_12) ?_
    show Steps p.tables e below (T1.setTop (mkF m 13 _ [(.int (1 : Int32))])) _
    refine XS.goto X1.here hx rfl (pc0 := 13) (pc' := 17) rfl (hb hby dA01_13) (by decide) (by decide) ?_
    exact ht
  exact OFin.retB X1 hx hlk (t := .boolean) (by simp) hret (hb hby dA01_17) (by decide) (by decide) (by rw [e1]; exact ⟨rfl, N0, rfl⟩)
theorem dA10_0 : decode prog_16_method_7_code 0 = .ok (.aload_n 0, 1) := by decide +kernel
theorem dA10_1 : decode prog_16_method_7_code 1 = .ok (.getstatic 3, 3) := by decide +kernel
theorem dA10_4 : decode prog_16_method_7_code 4 = .ok (.if_acmp .eq 8, 3) := by decide +kernel
theorem dA10_7 : decode prog_16_method_7_code 7 = .ok (.aload_n 1, 1) := by decide +kernel
theorem dA10_8 : decode prog_16_method_7_code 8 = .ok (.aload_n 0, 1) := by decide +kernel
theorem dA10_9 : decode prog_16_method_7_code 9 = .ok (.if_acmp .ne 7, 3) := by decide +kernel
theorem dA10_16 : decode prog_16_method_7_code 16 = .ok (.iconst 0, 1) := by decide +kernel
theorem dA10_17 : decode prog_16_method_7_code 17 = .ok (.ireturn, 1) := by decide +kernel
theorem pnA10 : plainName "com/example/long_lock/longlock/LockMode" = true := by first | (simp [plainName, overriddenIn]; done) | decide +kernel
theorem efA10 (m : MethodId) (x_EXCLUSIVE : Addr) (x_SHARED : Addr) : entryFrame m #[(.ref x_SHARED), (.ref x_EXCLUSIVE)] 2 = mkF m 0 #[.val (.ref x_SHARED), .val (.ref x_EXCLUSIVE)] [] := by first | (simp [entryFrame, mkF, argsToLocals, Value.category]; done) | rfl
def QA10 (Z : State) (x_EXCLUSIVE : Addr) (x_SHARED : Addr) (h0 : Heap) (n0 : Nat) (v : Option Value) (h : Heap) (L : List Loc) : Prop := v = some (.int (0 : Int32)) ∧ Fr n0 L ∧ h = h0
set_option maxRecDepth 65536 in
set_option maxHeartbeats 40000000 in
theorem rmA10 (l : Launch) (Z : State) (a0 : Array Value) (hw : ∀ d ∈ tables_1, d.before a0 Z = true) (ws : List Jvm.Cond) (x_EXCLUSIVE : Addr) (x_SHARED : Addr) (h0 : Heap) (n0 : Nat) (Z0 : n0 ≤ h0.size) (S_EXCLUSIVE : Sta Z h0 "com/example/long_lock/longlock/LockMode" "EXCLUSIVE" "Lcom/example/long_lock/longlock/LockMode;" (.ref x_EXCLUSIVE)) (S_SHARED : Sta Z h0 "com/example/long_lock/longlock/LockMode" "SHARED" "Lcom/example/long_lock/longlock/LockMode;" (.ref x_SHARED)) (hne : x_EXCLUSIVE ≠ x_SHARED) :
    MetFree l (⟨"com/example/long_lock/longlock/LockMode", "covers", "(Lcom/example/long_lock/longlock/LockMode;)Z"⟩ : MethodName) (head1 (Jvm.Cond.code (⟨"com/example/long_lock/longlock/LockMode", "covers", "(Lcom/example/long_lock/longlock/LockMode;)Z"⟩ : MethodName) prog_16_method_7_code 2 (some .boolean) :: ws) ({ frames := 0, cells := 0, slots := 0, locals := 0 } : Room)) (fun a U => a = #[(.ref x_SHARED), (.ref x_EXCLUSIVE)] ∧ Z.Warmed39 U.vm ∧ U.heap = h0) (fun _ _ _ _ _ => True) (fun _ U o U' => ∃ v L, o = .returned v ∧ QA10 Z x_EXCLUSIVE x_SHARED h0 n0 v U'.heap L ∧ FrameEnd U o U' L ({ frames := 0, cells := 0, slots := 0, locals := 0 } : Room).cells ({ frames := 0, cells := 0, slots := 0, locals := 0 } : Room).slots) := by
  refine MetFree.of_bodySF (plainFor_of_name pnA10) hisR ?_
  intro p e s m args below meth c s₁ Bd hml0 hP hK
  obtain ⟨rfl, hZ, hh⟩ := hP
  have hx := Bd.exec
  have hby := Bd.bytes
  have hlk := BodyLoose.notSynchronized Bd
  have hret := Bd.returns
  have hml : c.maxLocals = 2 := hml0
  have hown : s.vm.findClass "com/example/long_lock/longlock/LockMode" = some m.cls := findClass_of_methodNamed Bd.named
  have hnm := (name_of_methodNamed Bd.named Bd.method).1
  have X0 : Stand p l e ({ frames := 0, cells := 0, slots := 0, locals := 0 } : Room) s m #[(.ref x_SHARED), (.ref x_EXCLUSIVE)] below meth c s₁ [] 0 0 := Stand.of_body Bd
  have e0 : s₁.heap = h0 := by rw [← hh, Bd.state]; rfl
  have N0 := Fr.nil n0
  show OFin p e below (KPost s (QA10 Z x_EXCLUSIVE x_SHARED h0 n0) ({ frames := 0, cells := 0, slots := 0, locals := 0 } : Room).cells ({ frames := 0, cells := 0, slots := 0, locals := 0 } : Room).slots) _
  rw [efA10 m x_EXCLUSIVE x_SHARED]
  refine OFin.of (S' := s₁.setTop (mkF m 1 #[.val (.ref x_SHARED), .val (.ref x_EXCLUSIVE)] [(.ref x_SHARED)])) (fun t ht => ?_) ?_
  · refine XS.aloadN X0.here hx rfl (hb hby dA10_0) rfl rfl ?_
    exact ht
  obtain ⟨T1, X1, e1, st1⟩ := getS (host := "") X0 hx hZ hown (hw _ (List.mem_of_getElem? (i := 10) rfl)) Via.refl e0 S_EXCLUSIVE (g := (mkF m 1 #[.val (.ref x_SHARED), .val (.ref x_EXCLUSIVE)] [(.ref x_SHARED)])) rfl (hb hby dA10_1)
  refine OFin.of (S' := T1.setTop (mkF m 4 #[.val (.ref x_SHARED), .val (.ref x_EXCLUSIVE)] [(.ref x_EXCLUSIVE), (.ref x_SHARED)])) (fun t ht => st1 t ht) ?_
  refine OFin.of (S' := T1.setTop (mkF m 17 #[.val (.ref x_SHARED), .val (.ref x_EXCLUSIVE)] [(.int (0 : Int32))])) (fun t ht => ?_) ?_
  · refine acmp X1 hx rfl (cd := .eq) (x := (.ref x_SHARED)) (y := (.ref x_EXCLUSIVE)) rfl rfl (pc0 := 4) (pc' := 7) (same := false) rfl (hb hby dA10_4) rfl (decide_eq_false (fun q => (Ne.symm hne) (Value.ref.inj q))) (by decide) (by decide) ?_
    show Steps p.tables e below (T1.setTop (mkF m 7 _ [])) _
    refine XS.aloadN X1.here hx rfl (hb hby dA10_7) rfl rfl ?_
    show Steps p.tables e below (T1.setTop (mkF m 8 _ [(.ref x_EXCLUSIVE)])) _
    refine XS.aloadN X1.here hx rfl (hb hby dA10_8) rfl rfl ?_
    show Steps p.tables e below (T1.setTop (mkF m 9 _ [(.ref x_SHARED), (.ref x_EXCLUSIVE)])) _
    refine acmp X1 hx rfl (cd := .ne) (x := (.ref x_EXCLUSIVE)) (y := (.ref x_SHARED)) rfl rfl (pc0 := 9) (pc' := 16) (same := false) rfl (hb hby dA10_9) rfl (decide_eq_false (fun q => hne (Value.ref.inj q))) (by decide) (by decide) ?_
    show Steps p.tables e below (T1.setTop (mkF m 16 _ [])) _
    refine XS.iconst X1.here hx rfl (hb hby dA10_16) ?_
    exact ht
  exact OFin.retB X1 hx hlk (t := .boolean) (by simp) hret (hb hby dA10_17) (by decide) (by decide) (by rw [e1]; exact ⟨rfl, N0, rfl⟩)
theorem dA11_0 : decode prog_16_method_7_code 0 = .ok (.aload_n 0, 1) := by decide +kernel
theorem dA11_1 : decode prog_16_method_7_code 1 = .ok (.getstatic 3, 3) := by decide +kernel
theorem dA11_4 : decode prog_16_method_7_code 4 = .ok (.if_acmp .eq 8, 3) := by decide +kernel
theorem dA11_7 : decode prog_16_method_7_code 7 = .ok (.aload_n 1, 1) := by decide +kernel
theorem dA11_8 : decode prog_16_method_7_code 8 = .ok (.aload_n 0, 1) := by decide +kernel
theorem dA11_9 : decode prog_16_method_7_code 9 = .ok (.if_acmp .ne 7, 3) := by decide +kernel
theorem dA11_12 : decode prog_16_method_7_code 12 = .ok (.iconst 1, 1) := by decide +kernel
theorem dA11_13 : decode prog_16_method_7_code 13 = .ok (.goto 4, 3) := by decide +kernel
theorem dA11_17 : decode prog_16_method_7_code 17 = .ok (.ireturn, 1) := by decide +kernel
theorem pnA11 : plainName "com/example/long_lock/longlock/LockMode" = true := by first | (simp [plainName, overriddenIn]; done) | decide +kernel
theorem efA11 (m : MethodId) (x_EXCLUSIVE : Addr) (x_SHARED : Addr) : entryFrame m #[(.ref x_SHARED), (.ref x_SHARED)] 2 = mkF m 0 #[.val (.ref x_SHARED), .val (.ref x_SHARED)] [] := by first | (simp [entryFrame, mkF, argsToLocals, Value.category]; done) | rfl
def QA11 (Z : State) (x_EXCLUSIVE : Addr) (x_SHARED : Addr) (h0 : Heap) (n0 : Nat) (v : Option Value) (h : Heap) (L : List Loc) : Prop := v = some (.int (1 : Int32)) ∧ Fr n0 L ∧ h = h0
set_option maxRecDepth 65536 in
set_option maxHeartbeats 40000000 in
theorem rmA11 (l : Launch) (Z : State) (a0 : Array Value) (hw : ∀ d ∈ tables_1, d.before a0 Z = true) (ws : List Jvm.Cond) (x_EXCLUSIVE : Addr) (x_SHARED : Addr) (h0 : Heap) (n0 : Nat) (Z0 : n0 ≤ h0.size) (S_EXCLUSIVE : Sta Z h0 "com/example/long_lock/longlock/LockMode" "EXCLUSIVE" "Lcom/example/long_lock/longlock/LockMode;" (.ref x_EXCLUSIVE)) (S_SHARED : Sta Z h0 "com/example/long_lock/longlock/LockMode" "SHARED" "Lcom/example/long_lock/longlock/LockMode;" (.ref x_SHARED)) (hne : x_EXCLUSIVE ≠ x_SHARED) :
    MetFree l (⟨"com/example/long_lock/longlock/LockMode", "covers", "(Lcom/example/long_lock/longlock/LockMode;)Z"⟩ : MethodName) (head1 (Jvm.Cond.code (⟨"com/example/long_lock/longlock/LockMode", "covers", "(Lcom/example/long_lock/longlock/LockMode;)Z"⟩ : MethodName) prog_16_method_7_code 2 (some .boolean) :: ws) ({ frames := 0, cells := 0, slots := 0, locals := 0 } : Room)) (fun a U => a = #[(.ref x_SHARED), (.ref x_SHARED)] ∧ Z.Warmed39 U.vm ∧ U.heap = h0) (fun _ _ _ _ _ => True) (fun _ U o U' => ∃ v L, o = .returned v ∧ QA11 Z x_EXCLUSIVE x_SHARED h0 n0 v U'.heap L ∧ FrameEnd U o U' L ({ frames := 0, cells := 0, slots := 0, locals := 0 } : Room).cells ({ frames := 0, cells := 0, slots := 0, locals := 0 } : Room).slots) := by
  refine MetFree.of_bodySF (plainFor_of_name pnA11) hisR ?_
  intro p e s m args below meth c s₁ Bd hml0 hP hK
  obtain ⟨rfl, hZ, hh⟩ := hP
  have hx := Bd.exec
  have hby := Bd.bytes
  have hlk := BodyLoose.notSynchronized Bd
  have hret := Bd.returns
  have hml : c.maxLocals = 2 := hml0
  have hown : s.vm.findClass "com/example/long_lock/longlock/LockMode" = some m.cls := findClass_of_methodNamed Bd.named
  have hnm := (name_of_methodNamed Bd.named Bd.method).1
  have X0 : Stand p l e ({ frames := 0, cells := 0, slots := 0, locals := 0 } : Room) s m #[(.ref x_SHARED), (.ref x_SHARED)] below meth c s₁ [] 0 0 := Stand.of_body Bd
  have e0 : s₁.heap = h0 := by rw [← hh, Bd.state]; rfl
  have N0 := Fr.nil n0
  show OFin p e below (KPost s (QA11 Z x_EXCLUSIVE x_SHARED h0 n0) ({ frames := 0, cells := 0, slots := 0, locals := 0 } : Room).cells ({ frames := 0, cells := 0, slots := 0, locals := 0 } : Room).slots) _
  rw [efA11 m x_EXCLUSIVE x_SHARED]
  refine OFin.of (S' := s₁.setTop (mkF m 1 #[.val (.ref x_SHARED), .val (.ref x_SHARED)] [(.ref x_SHARED)])) (fun t ht => ?_) ?_
  · refine XS.aloadN X0.here hx rfl (hb hby dA11_0) rfl rfl ?_
    exact ht
  obtain ⟨T1, X1, e1, st1⟩ := getS (host := "") X0 hx hZ hown (hw _ (List.mem_of_getElem? (i := 10) rfl)) Via.refl e0 S_EXCLUSIVE (g := (mkF m 1 #[.val (.ref x_SHARED), .val (.ref x_SHARED)] [(.ref x_SHARED)])) rfl (hb hby dA11_1)
  refine OFin.of (S' := T1.setTop (mkF m 4 #[.val (.ref x_SHARED), .val (.ref x_SHARED)] [(.ref x_EXCLUSIVE), (.ref x_SHARED)])) (fun t ht => st1 t ht) ?_
  refine OFin.of (S' := T1.setTop (mkF m 17 #[.val (.ref x_SHARED), .val (.ref x_SHARED)] [(.int (1 : Int32))])) (fun t ht => ?_) ?_
  · refine acmp X1 hx rfl (cd := .eq) (x := (.ref x_SHARED)) (y := (.ref x_EXCLUSIVE)) rfl rfl (pc0 := 4) (pc' := 7) (same := false) rfl (hb hby dA11_4) rfl (decide_eq_false (fun q => (Ne.symm hne) (Value.ref.inj q))) (by decide) (by decide) ?_
    show Steps p.tables e below (T1.setTop (mkF m 7 _ [])) _
    refine XS.aloadN X1.here hx rfl (hb hby dA11_7) rfl rfl ?_
    show Steps p.tables e below (T1.setTop (mkF m 8 _ [(.ref x_SHARED)])) _
    refine XS.aloadN X1.here hx rfl (hb hby dA11_8) rfl rfl ?_
    show Steps p.tables e below (T1.setTop (mkF m 9 _ [(.ref x_SHARED), (.ref x_SHARED)])) _
    refine acmp X1 hx rfl (cd := .ne) (x := (.ref x_SHARED)) (y := (.ref x_SHARED)) rfl rfl (pc0 := 9) (pc' := 12) (same := true) rfl (hb hby dA11_9) rfl (decide_eq_true rfl) (by decide) (by decide) ?_
    show Steps p.tables e below (T1.setTop (mkF m 12 _ [])) _
    refine XS.iconst X1.here hx rfl (hb hby dA11_12) ?_
    show Steps p.tables e below (T1.setTop (mkF m 13 _ [(.int (1 : Int32))])) _
    refine XS.goto X1.here hx rfl (pc0 := 13) (pc' := 17) rfl (hb hby dA11_13) (by decide) (by decide) ?_
    exact ht
  exact OFin.retB X1 hx hlk (t := .boolean) (by simp) hret (hb hby dA11_17) (by decide) (by decide) (by rw [e1]; exact ⟨rfl, N0, rfl⟩)
theorem pn0 : plainName "com/example/long_lock/longlock/LockModeCoversPinLaw" = true := by first | (simp [plainName, overriddenIn]; done) | decide +kernel
theorem ef0 (m : MethodId) (p0 : Int32) (p1 : Int32) : entryFrame m #[(.int p0), (.int p1)] maxLocals = mkF m 0 #[.val (.int p0), .val (.int p1), .unset, .unset, .unset, .unset, .unset] [] := by first | (simp [entryFrame, mkF, argsToLocals, Value.category, maxLocals]; done) | rfl
def Q0 (Z : State) (p0 : Int32) (p1 : Int32) (x_EXCLUSIVE : Addr) (x_SHARED : Addr) (h0 : Heap) (n0 : Nat) (v : Option Value) (h : Heap) (L : List Loc) : Prop := v = some (.int (1 : Int32)) ∧ Fr n0 L
set_option maxRecDepth 65536 in
set_option maxHeartbeats 40000000 in
theorem rm0 (l : Launch) (Z : State) (a0 : Array Value) (hw : ∀ d ∈ tables_1, d.before a0 Z = true) (ws : List Jvm.Cond) (p0 : Int32) (p1 : Int32) (x_EXCLUSIVE : Addr) (x_SHARED : Addr) (h0 : Heap) (n0 : Nat) (Z0 : n0 ≤ h0.size) (S_EXCLUSIVE : Sta Z h0 "com/example/long_lock/longlock/LockMode" "EXCLUSIVE" "Lcom/example/long_lock/longlock/LockMode;" (.ref x_EXCLUSIVE)) (S_SHARED : Sta Z h0 "com/example/long_lock/longlock/LockMode" "SHARED" "Lcom/example/long_lock/longlock/LockMode;" (.ref x_SHARED)) (E_EXCLUSIVE : Exa Z h0 x_EXCLUSIVE "com/example/long_lock/longlock/LockMode") (E_SHARED : Exa Z h0 x_SHARED "com/example/long_lock/longlock/LockMode") (hne : x_EXCLUSIVE ≠ x_SHARED) :
    MetFree l x (head1 (Jvm.Cond.code x code maxLocals ret :: ws) room_1) (fun a U => a = #[(.int p0), (.int p1)] ∧ Z.Warmed39 U.vm ∧ U.heap = h0) (fun _ _ _ _ _ => True) (fun _ U o U' => ∃ v L, o = .returned v ∧ Q0 Z p0 p1 x_EXCLUSIVE x_SHARED h0 n0 v U'.heap L ∧ FrameEnd U o U' L room_1.cells room_1.slots) := by
  refine MetFree.of_bodySF (plainFor_of_name pn0) hisR ?_
  intro p e s m args below meth c s₁ Bd hml0 hP hK
  obtain ⟨rfl, hZ, hh⟩ := hP
  have hx := Bd.exec
  have hby := Bd.bytes
  have hlk := BodyLoose.notSynchronized Bd
  have hret := Bd.returns
  have hml : c.maxLocals = 7 := hml0
  have hown : s.vm.findClass "com/example/long_lock/longlock/LockModeCoversPinLaw" = some m.cls := findClass_of_methodNamed Bd.named
  have hnm := (name_of_methodNamed Bd.named Bd.method).1
  have X0 : Stand p l e room_1 s m #[(.int p0), (.int p1)] below meth c s₁ [] 0 0 := Stand.of_body Bd
  have e0 : s₁.heap = h0 := by rw [← hh, Bd.state]; rfl
  have N0 := Fr.nil n0
  show OFin p e below (KPost s (Q0 Z p0 p1 x_EXCLUSIVE x_SHARED h0 n0) room_1.cells room_1.slots) _
  rw [ef0 m p0 p1]
  refine OFin.of (S' := s₁.setTop (mkF m 3 #[.val (.int p0), .val (.int p1), .unset, .unset, .unset, .unset, .unset] [(.int (p0 &&& (1 : Int32)))])) (fun t ht => ?_) ?_
  · refine XS.iloadN X0.here hx rfl (hb hby at_0) rfl ?_
    show Steps p.tables e below (s₁.setTop (mkF m 1 _ [(.int p0)])) _
    refine XS.iconst X0.here hx rfl (hb hby at_1) ?_
    show Steps p.tables e below (s₁.setTop (mkF m 2 _ [(.int (1 : Int32)), (.int p0)])) _
    refine XS.iand X0.here hx rfl (hb hby at_2) rfl ?_
    exact ht
  rcases (own_and1 _ : (p0 &&& (1 : Int32)) = (0 : Int32) ∨ (p0 &&& (1 : Int32)) = (1 : Int32)) with hq1 | hq1
  · rw [hq1]
    refine OFin.of (S' := s₁.setTop (mkF m 15 #[.val (.int p0), .val (.int p1), .val (.int (0 : Int32)), .unset, .unset, .unset, .unset] [(.int (p1 &&& (1 : Int32)))])) (fun t ht => ?_) ?_
    · refine XS.ifYes X0.here hx rfl (pc0 := 3) (pc' := 10) rfl (hb hby at_3) rfl ((if0 _ _).trans (teq (by decide : (0 : Int32) = (0 : Int32))).1) (by decide) (by decide) ?_
      show Steps p.tables e below (s₁.setTop (mkF m 10 _ [])) _
      refine XS.iconst X0.here hx rfl (hb hby at_10) ?_
      show Steps p.tables e below (s₁.setTop (mkF m 11 _ [(.int (0 : Int32))])) _
      refine XS.istoreN X0.here hx rfl (hb hby at_11) rfl (l' := #[.val (.int p0), .val (.int p1), .val (.int (0 : Int32)), .unset, .unset, .unset, .unset]) rfl ?_
      show Steps p.tables e below (s₁.setTop (mkF m 12 #[.val (.int p0), .val (.int p1), .val (.int (0 : Int32)), .unset, .unset, .unset, .unset] [])) _
      refine XS.iloadN X0.here hx rfl (hb hby at_12) rfl ?_
      show Steps p.tables e below (s₁.setTop (mkF m 13 _ [(.int p1)])) _
      refine XS.iconst X0.here hx rfl (hb hby at_13) ?_
      show Steps p.tables e below (s₁.setTop (mkF m 14 _ [(.int (1 : Int32)), (.int p1)])) _
      refine XS.iand X0.here hx rfl (hb hby at_14) rfl ?_
      exact ht
    rcases (own_and1 _ : (p1 &&& (1 : Int32)) = (0 : Int32) ∨ (p1 &&& (1 : Int32)) = (1 : Int32)) with hq2 | hq2
    · rw [hq2]
      refine OFin.of (S' := s₁.setTop (mkF m 34 #[.val (.int p0), .val (.int p1), .val (.int (0 : Int32)), .val (.int (0 : Int32)), .unset, .unset, .unset] [])) (fun t ht => ?_) ?_
      · refine XS.ifYes X0.here hx rfl (pc0 := 15) (pc' := 22) rfl (hb hby at_15) rfl ((if0 _ _).trans (teq (by decide : (0 : Int32) = (0 : Int32))).1) (by decide) (by decide) ?_
        show Steps p.tables e below (s₁.setTop (mkF m 22 _ [])) _
        refine XS.iconst X0.here hx rfl (hb hby at_22) ?_
        show Steps p.tables e below (s₁.setTop (mkF m 23 _ [(.int (0 : Int32))])) _
        refine XS.istoreN X0.here hx rfl (hb hby at_23) rfl (l' := #[.val (.int p0), .val (.int p1), .val (.int (0 : Int32)), .val (.int (0 : Int32)), .unset, .unset, .unset]) rfl ?_
        show Steps p.tables e below (s₁.setTop (mkF m 24 #[.val (.int p0), .val (.int p1), .val (.int (0 : Int32)), .val (.int (0 : Int32)), .unset, .unset, .unset] [])) _
        refine XS.iloadN X0.here hx rfl (hb hby at_24) rfl ?_
        show Steps p.tables e below (s₁.setTop (mkF m 25 _ [(.int (0 : Int32))])) _
        refine XS.ifYes X0.here hx rfl (pc0 := 25) (pc' := 34) rfl (hb hby at_25) rfl ((if0 _ _).trans (teq (by decide : (0 : Int32) = (0 : Int32))).1) (by decide) (by decide) ?_
        exact ht
      obtain ⟨T3, X3, e3, st3⟩ := getS (host := "") X0 hx hZ hown (hw _ (List.mem_of_getElem? (i := 0) rfl)) Via.refl e0 S_EXCLUSIVE (g := (mkF m 34 #[.val (.int p0), .val (.int p1), .val (.int (0 : Int32)), .val (.int (0 : Int32)), .unset, .unset, .unset] [])) rfl (hb hby at_34)
      refine OFin.of (S' := T3.setTop (mkF m 37 #[.val (.int p0), .val (.int p1), .val (.int (0 : Int32)), .val (.int (0 : Int32)), .unset, .unset, .unset] [(.ref x_EXCLUSIVE)])) (fun t ht => st3 t ht) ?_
      refine OFin.of (S' := T3.setTop (mkF m 49 #[.val (.int p0), .val (.int p1), .val (.int (0 : Int32)), .val (.int (0 : Int32)), .val (.ref x_EXCLUSIVE), .unset, .unset] [])) (fun t ht => ?_) ?_
      · refine XS.astore X3.here hx rfl (hb hby at_37) rfl rfl (l' := #[.val (.int p0), .val (.int p1), .val (.int (0 : Int32)), .val (.int (0 : Int32)), .val (.ref x_EXCLUSIVE), .unset, .unset]) rfl ?_
        show Steps p.tables e below (T3.setTop (mkF m 39 #[.val (.int p0), .val (.int p1), .val (.int (0 : Int32)), .val (.int (0 : Int32)), .val (.ref x_EXCLUSIVE), .unset, .unset] [])) _
        refine XS.iloadN X3.here hx rfl (hb hby at_39) rfl ?_
        show Steps p.tables e below (T3.setTop (mkF m 40 _ [(.int (0 : Int32))])) _
        refine XS.ifYes X3.here hx rfl (pc0 := 40) (pc' := 49) rfl (hb hby at_40) rfl ((if0 _ _).trans (teq (by decide : (0 : Int32) = (0 : Int32))).1) (by decide) (by decide) ?_
        exact ht
      obtain ⟨T4, X4, e4, st4⟩ := getS (host := "") X3 hx hZ hown (hw _ (List.mem_of_getElem? (i := 0) rfl)) Via.refl e3 S_EXCLUSIVE (g := (mkF m 49 #[.val (.int p0), .val (.int p1), .val (.int (0 : Int32)), .val (.int (0 : Int32)), .val (.ref x_EXCLUSIVE), .unset, .unset] [])) rfl (hb hby at_49)
      refine OFin.of (S' := T4.setTop (mkF m 52 #[.val (.int p0), .val (.int p1), .val (.int (0 : Int32)), .val (.int (0 : Int32)), .val (.ref x_EXCLUSIVE), .unset, .unset] [(.ref x_EXCLUSIVE)])) (fun t ht => st4 t ht) ?_
      refine OFin.of (S' := T4.setTop (mkF m 71 #[.val (.int p0), .val (.int p1), .val (.int (0 : Int32)), .val (.int (0 : Int32)), .val (.ref x_EXCLUSIVE), .val (.ref x_EXCLUSIVE), .val (.int (1 : Int32))] [(.ref x_EXCLUSIVE), (.ref x_EXCLUSIVE)])) (fun t ht => ?_) ?_
      · refine XS.astore X4.here hx rfl (hb hby at_52) rfl rfl (l' := #[.val (.int p0), .val (.int p1), .val (.int (0 : Int32)), .val (.int (0 : Int32)), .val (.ref x_EXCLUSIVE), .val (.ref x_EXCLUSIVE), .unset]) rfl ?_
        show Steps p.tables e below (T4.setTop (mkF m 54 #[.val (.int p0), .val (.int p1), .val (.int (0 : Int32)), .val (.int (0 : Int32)), .val (.ref x_EXCLUSIVE), .val (.ref x_EXCLUSIVE), .unset] [])) _
        refine XS.iloadN X4.here hx rfl (hb hby at_54) rfl ?_
        show Steps p.tables e below (T4.setTop (mkF m 55 _ [(.int (0 : Int32))])) _
        refine XS.ifNo X4.here hx rfl (hb hby at_55) rfl ((if0 _ _).trans (teq (by decide : (0 : Int32) = (0 : Int32))).2) ?_
        show Steps p.tables e below (T4.setTop (mkF m 58 _ [])) _
        refine XS.iconst X4.here hx rfl (hb hby at_58) ?_
        show Steps p.tables e below (T4.setTop (mkF m 59 _ [(.int (1 : Int32))])) _
        refine XS.istore X4.here hx rfl (hb hby at_59) rfl (l' := #[.val (.int p0), .val (.int p1), .val (.int (0 : Int32)), .val (.int (0 : Int32)), .val (.ref x_EXCLUSIVE), .val (.ref x_EXCLUSIVE), .val (.int (1 : Int32))]) rfl ?_
        show Steps p.tables e below (T4.setTop (mkF m 61 #[.val (.int p0), .val (.int p1), .val (.int (0 : Int32)), .val (.int (0 : Int32)), .val (.ref x_EXCLUSIVE), .val (.ref x_EXCLUSIVE), .val (.int (1 : Int32))] [])) _
        refine XS.goto X4.here hx rfl (pc0 := 61) (pc' := 67) rfl (hb hby at_61) (by decide) (by decide) ?_
        show Steps p.tables e below (T4.setTop (mkF m 67 _ [])) _
        refine XS.aload X4.here hx rfl (hb hby at_67) rfl rfl ?_
        show Steps p.tables e below (T4.setTop (mkF m 69 _ [(.ref x_EXCLUSIVE)])) _
        refine XS.aload X4.here hx rfl (hb hby at_69) rfl rfl ?_
        exact ht
      obtain ⟨cq6, kq6, q6a, q6b, q6c⟩ := isOf hZ e4 E_EXCLUSIVE
      obtain ⟨_, _, ⟨T5, L5, k5, n5⟩, -, X5, ⟨Lc5, hQ5, l5, y5, z5⟩, st5⟩ := X4.virtualBack hx (y := (⟨"com/example/long_lock/longlock/LockMode", "covers", "(Lcom/example/long_lock/longlock/LockMode;)Z"⟩ : MethodName)) (z := (⟨"com/example/long_lock/longlock/LockMode", "covers", "(Lcom/example/long_lock/longlock/LockMode;)Z"⟩ : MethodName)) hown (mvT hZ (hw _ (List.mem_of_getElem? (i := 5) rfl))) (mvT hZ (hw _ (List.mem_of_getElem? (i := 6) rfl))) (notFace_of_selects (args := #[]) (mvT hZ (hw _ (List.mem_of_getElem? (i := 8) rfl)))) (mvT hZ (hw _ (List.mem_of_getElem? (i := 8) rfl))) (mvT hZ (hw _ (List.mem_of_getElem? (i := 7) rfl))) (by decide) (backOf (W := 0) (rmA00 l Z _ hw [] x_EXCLUSIVE x_SHARED h0 n0 Z0 S_EXCLUSIVE S_SHARED hne) hZ (hw _ (List.mem_of_getElem? (i := 9) rfl)) (hw _ (List.mem_of_getElem? (i := 1) rfl)) (by decide) (by decide)) q6a q6c (g := (mkF m 71 #[.val (.int p0), .val (.int p1), .val (.int (0 : Int32)), .val (.int (0 : Int32)), .val (.ref x_EXCLUSIVE), .val (.ref x_EXCLUSIVE), .val (.int (1 : Int32))] [(.ref x_EXCLUSIVE), (.ref x_EXCLUSIVE)])) rfl (by rw [hml]; rfl) (Steps.refl _) (argsL := [(.ref x_EXCLUSIVE)]) (rest := []) (lenOf pd_0 rfl) rfl (by show 2 * 0 + _ ≤ _; exact Nat.le_of_eq rfl) (hb hby at_71) (fun _ _ => ⟨rfl, e4, (by decide : 0 + 0 ≤ _), (by decide : 0 + 0 ≤ _)⟩)
      dsimp only [Pt.U, Pt.locs, Pt.cells, Pt.slots] at X5 l5 y5 z5 st5 hQ5
      subst l5 y5 z5
      obtain ⟨rfl, Nq5, hs5⟩ := hQ5
      have N7 := Fr.app N0 Nq5
      refine OFin.to (S' := T5.setTop (mkF m 74 #[.val (.int p0), .val (.int p1), .val (.int (0 : Int32)), .val (.int (0 : Int32)), .val (.ref x_EXCLUSIVE), .val (.ref x_EXCLUSIVE), .val (.int (1 : Int32))] [(.int (1 : Int32))])) st5 ?_
      refine OFin.of (S' := T5.setTop (mkF m 84 #[.val (.int p0), .val (.int p1), .val (.int (0 : Int32)), .val (.int (0 : Int32)), .val (.ref x_EXCLUSIVE), .val (.ref x_EXCLUSIVE), .val (.int (1 : Int32))] [(.int (1 : Int32))])) (fun t ht => ?_) ?_
      · refine XS.iload X5.here hx rfl (hb hby at_74) rfl ?_
        show Steps p.tables e below (T5.setTop (mkF m 76 _ [(.int (1 : Int32)), (.int (1 : Int32))])) _
        refine XS.icmpNo X5.here hx rfl (hb hby at_76) rfl (teq (by decide : (1 : Int32) = (1 : Int32))).2 ?_
        show Steps p.tables e below (T5.setTop (mkF m 79 _ [])) _
        refine XS.iconst X5.here hx rfl (hb hby at_79) ?_
        show Steps p.tables e below (T5.setTop (mkF m 80 _ [(.int (1 : Int32))])) _
        refine XS.goto X5.here hx rfl (pc0 := 80) (pc' := 84) rfl (hb hby at_80) (by decide) (by decide) ?_
        exact ht
      exact OFin.retB X5 hx hlk (t := .boolean) (by simp) hret (hb hby at_84) (by decide) (by decide) (by rw [hs5]; exact ⟨rfl, N7⟩)
    · rw [hq2]
      refine OFin.of (S' := s₁.setTop (mkF m 34 #[.val (.int p0), .val (.int p1), .val (.int (0 : Int32)), .val (.int (1 : Int32)), .unset, .unset, .unset] [])) (fun t ht => ?_) ?_
      · refine XS.ifNo X0.here hx rfl (hb hby at_15) rfl ((if0 _ _).trans (feq (by decide : ¬ ((1 : Int32) = (0 : Int32)))).1) ?_
        show Steps p.tables e below (s₁.setTop (mkF m 18 _ [])) _
        refine XS.iconst X0.here hx rfl (hb hby at_18) ?_
        show Steps p.tables e below (s₁.setTop (mkF m 19 _ [(.int (1 : Int32))])) _
        refine XS.goto X0.here hx rfl (pc0 := 19) (pc' := 23) rfl (hb hby at_19) (by decide) (by decide) ?_
        show Steps p.tables e below (s₁.setTop (mkF m 23 _ [(.int (1 : Int32))])) _
        refine XS.istoreN X0.here hx rfl (hb hby at_23) rfl (l' := #[.val (.int p0), .val (.int p1), .val (.int (0 : Int32)), .val (.int (1 : Int32)), .unset, .unset, .unset]) rfl ?_
        show Steps p.tables e below (s₁.setTop (mkF m 24 #[.val (.int p0), .val (.int p1), .val (.int (0 : Int32)), .val (.int (1 : Int32)), .unset, .unset, .unset] [])) _
        refine XS.iloadN X0.here hx rfl (hb hby at_24) rfl ?_
        show Steps p.tables e below (s₁.setTop (mkF m 25 _ [(.int (0 : Int32))])) _
        refine XS.ifYes X0.here hx rfl (pc0 := 25) (pc' := 34) rfl (hb hby at_25) rfl ((if0 _ _).trans (teq (by decide : (0 : Int32) = (0 : Int32))).1) (by decide) (by decide) ?_
        exact ht
      obtain ⟨T8, X8, e8, st8⟩ := getS (host := "") X0 hx hZ hown (hw _ (List.mem_of_getElem? (i := 0) rfl)) Via.refl e0 S_EXCLUSIVE (g := (mkF m 34 #[.val (.int p0), .val (.int p1), .val (.int (0 : Int32)), .val (.int (1 : Int32)), .unset, .unset, .unset] [])) rfl (hb hby at_34)
      refine OFin.of (S' := T8.setTop (mkF m 37 #[.val (.int p0), .val (.int p1), .val (.int (0 : Int32)), .val (.int (1 : Int32)), .unset, .unset, .unset] [(.ref x_EXCLUSIVE)])) (fun t ht => st8 t ht) ?_
      refine OFin.of (S' := T8.setTop (mkF m 43 #[.val (.int p0), .val (.int p1), .val (.int (0 : Int32)), .val (.int (1 : Int32)), .val (.ref x_EXCLUSIVE), .unset, .unset] [])) (fun t ht => ?_) ?_
      · refine XS.astore X8.here hx rfl (hb hby at_37) rfl rfl (l' := #[.val (.int p0), .val (.int p1), .val (.int (0 : Int32)), .val (.int (1 : Int32)), .val (.ref x_EXCLUSIVE), .unset, .unset]) rfl ?_
        show Steps p.tables e below (T8.setTop (mkF m 39 #[.val (.int p0), .val (.int p1), .val (.int (0 : Int32)), .val (.int (1 : Int32)), .val (.ref x_EXCLUSIVE), .unset, .unset] [])) _
        refine XS.iloadN X8.here hx rfl (hb hby at_39) rfl ?_
        show Steps p.tables e below (T8.setTop (mkF m 40 _ [(.int (1 : Int32))])) _
        refine XS.ifNo X8.here hx rfl (hb hby at_40) rfl ((if0 _ _).trans (feq (by decide : ¬ ((1 : Int32) = (0 : Int32)))).1) ?_
        exact ht
      obtain ⟨T9, X9, e9, st9⟩ := getS (host := "") X8 hx hZ hown (hw _ (List.mem_of_getElem? (i := 3) rfl)) Via.refl e8 S_SHARED (g := (mkF m 43 #[.val (.int p0), .val (.int p1), .val (.int (0 : Int32)), .val (.int (1 : Int32)), .val (.ref x_EXCLUSIVE), .unset, .unset] [])) rfl (hb hby at_43)
      refine OFin.of (S' := T9.setTop (mkF m 46 #[.val (.int p0), .val (.int p1), .val (.int (0 : Int32)), .val (.int (1 : Int32)), .val (.ref x_EXCLUSIVE), .unset, .unset] [(.ref x_SHARED)])) (fun t ht => st9 t ht) ?_
      refine OFin.of (S' := T9.setTop (mkF m 71 #[.val (.int p0), .val (.int p1), .val (.int (0 : Int32)), .val (.int (1 : Int32)), .val (.ref x_EXCLUSIVE), .val (.ref x_SHARED), .val (.int (1 : Int32))] [(.ref x_SHARED), (.ref x_EXCLUSIVE)])) (fun t ht => ?_) ?_
      · refine XS.goto X9.here hx rfl (pc0 := 46) (pc' := 52) rfl (hb hby at_46) (by decide) (by decide) ?_
        show Steps p.tables e below (T9.setTop (mkF m 52 _ [(.ref x_SHARED)])) _
        refine XS.astore X9.here hx rfl (hb hby at_52) rfl rfl (l' := #[.val (.int p0), .val (.int p1), .val (.int (0 : Int32)), .val (.int (1 : Int32)), .val (.ref x_EXCLUSIVE), .val (.ref x_SHARED), .unset]) rfl ?_
        show Steps p.tables e below (T9.setTop (mkF m 54 #[.val (.int p0), .val (.int p1), .val (.int (0 : Int32)), .val (.int (1 : Int32)), .val (.ref x_EXCLUSIVE), .val (.ref x_SHARED), .unset] [])) _
        refine XS.iloadN X9.here hx rfl (hb hby at_54) rfl ?_
        show Steps p.tables e below (T9.setTop (mkF m 55 _ [(.int (0 : Int32))])) _
        refine XS.ifNo X9.here hx rfl (hb hby at_55) rfl ((if0 _ _).trans (teq (by decide : (0 : Int32) = (0 : Int32))).2) ?_
        show Steps p.tables e below (T9.setTop (mkF m 58 _ [])) _
        refine XS.iconst X9.here hx rfl (hb hby at_58) ?_
        show Steps p.tables e below (T9.setTop (mkF m 59 _ [(.int (1 : Int32))])) _
        refine XS.istore X9.here hx rfl (hb hby at_59) rfl (l' := #[.val (.int p0), .val (.int p1), .val (.int (0 : Int32)), .val (.int (1 : Int32)), .val (.ref x_EXCLUSIVE), .val (.ref x_SHARED), .val (.int (1 : Int32))]) rfl ?_
        show Steps p.tables e below (T9.setTop (mkF m 61 #[.val (.int p0), .val (.int p1), .val (.int (0 : Int32)), .val (.int (1 : Int32)), .val (.ref x_EXCLUSIVE), .val (.ref x_SHARED), .val (.int (1 : Int32))] [])) _
        refine XS.goto X9.here hx rfl (pc0 := 61) (pc' := 67) rfl (hb hby at_61) (by decide) (by decide) ?_
        show Steps p.tables e below (T9.setTop (mkF m 67 _ [])) _
        refine XS.aload X9.here hx rfl (hb hby at_67) rfl rfl ?_
        show Steps p.tables e below (T9.setTop (mkF m 69 _ [(.ref x_EXCLUSIVE)])) _
        refine XS.aload X9.here hx rfl (hb hby at_69) rfl rfl ?_
        exact ht
      obtain ⟨cq11, kq11, q11a, q11b, q11c⟩ := isOf hZ e9 E_EXCLUSIVE
      obtain ⟨_, _, ⟨T10, L10, k10, n10⟩, -, X10, ⟨Lc10, hQ10, l10, y10, z10⟩, st10⟩ := X9.virtualBack hx (y := (⟨"com/example/long_lock/longlock/LockMode", "covers", "(Lcom/example/long_lock/longlock/LockMode;)Z"⟩ : MethodName)) (z := (⟨"com/example/long_lock/longlock/LockMode", "covers", "(Lcom/example/long_lock/longlock/LockMode;)Z"⟩ : MethodName)) hown (mvT hZ (hw _ (List.mem_of_getElem? (i := 5) rfl))) (mvT hZ (hw _ (List.mem_of_getElem? (i := 6) rfl))) (notFace_of_selects (args := #[]) (mvT hZ (hw _ (List.mem_of_getElem? (i := 8) rfl)))) (mvT hZ (hw _ (List.mem_of_getElem? (i := 8) rfl))) (mvT hZ (hw _ (List.mem_of_getElem? (i := 7) rfl))) (by decide) (backOf (W := 0) (rmA01 l Z _ hw [] x_EXCLUSIVE x_SHARED h0 n0 Z0 S_EXCLUSIVE S_SHARED hne) hZ (hw _ (List.mem_of_getElem? (i := 9) rfl)) (hw _ (List.mem_of_getElem? (i := 1) rfl)) (by decide) (by decide)) q11a q11c (g := (mkF m 71 #[.val (.int p0), .val (.int p1), .val (.int (0 : Int32)), .val (.int (1 : Int32)), .val (.ref x_EXCLUSIVE), .val (.ref x_SHARED), .val (.int (1 : Int32))] [(.ref x_SHARED), (.ref x_EXCLUSIVE)])) rfl (by rw [hml]; rfl) (Steps.refl _) (argsL := [(.ref x_SHARED)]) (rest := []) (lenOf pd_0 rfl) rfl (by show 2 * 0 + _ ≤ _; exact Nat.le_of_eq rfl) (hb hby at_71) (fun _ _ => ⟨rfl, e9, (by decide : 0 + 0 ≤ _), (by decide : 0 + 0 ≤ _)⟩)
      dsimp only [Pt.U, Pt.locs, Pt.cells, Pt.slots] at X10 l10 y10 z10 st10 hQ10
      subst l10 y10 z10
      obtain ⟨rfl, Nq10, hs10⟩ := hQ10
      have N12 := Fr.app N0 Nq10
      refine OFin.to (S' := T10.setTop (mkF m 74 #[.val (.int p0), .val (.int p1), .val (.int (0 : Int32)), .val (.int (1 : Int32)), .val (.ref x_EXCLUSIVE), .val (.ref x_SHARED), .val (.int (1 : Int32))] [(.int (1 : Int32))])) st10 ?_
      refine OFin.of (S' := T10.setTop (mkF m 84 #[.val (.int p0), .val (.int p1), .val (.int (0 : Int32)), .val (.int (1 : Int32)), .val (.ref x_EXCLUSIVE), .val (.ref x_SHARED), .val (.int (1 : Int32))] [(.int (1 : Int32))])) (fun t ht => ?_) ?_
      · refine XS.iload X10.here hx rfl (hb hby at_74) rfl ?_
        show Steps p.tables e below (T10.setTop (mkF m 76 _ [(.int (1 : Int32)), (.int (1 : Int32))])) _
        refine XS.icmpNo X10.here hx rfl (hb hby at_76) rfl (teq (by decide : (1 : Int32) = (1 : Int32))).2 ?_
        show Steps p.tables e below (T10.setTop (mkF m 79 _ [])) _
        refine XS.iconst X10.here hx rfl (hb hby at_79) ?_
        show Steps p.tables e below (T10.setTop (mkF m 80 _ [(.int (1 : Int32))])) _
        refine XS.goto X10.here hx rfl (pc0 := 80) (pc' := 84) rfl (hb hby at_80) (by decide) (by decide) ?_
        exact ht
      exact OFin.retB X10 hx hlk (t := .boolean) (by simp) hret (hb hby at_84) (by decide) (by decide) (by rw [hs10]; exact ⟨rfl, N12⟩)
  · rw [hq1]
    refine OFin.of (S' := s₁.setTop (mkF m 15 #[.val (.int p0), .val (.int p1), .val (.int (1 : Int32)), .unset, .unset, .unset, .unset] [(.int (p1 &&& (1 : Int32)))])) (fun t ht => ?_) ?_
    · refine XS.ifNo X0.here hx rfl (hb hby at_3) rfl ((if0 _ _).trans (feq (by decide : ¬ ((1 : Int32) = (0 : Int32)))).1) ?_
      show Steps p.tables e below (s₁.setTop (mkF m 6 _ [])) _
      refine XS.iconst X0.here hx rfl (hb hby at_6) ?_
      show Steps p.tables e below (s₁.setTop (mkF m 7 _ [(.int (1 : Int32))])) _
      refine XS.goto X0.here hx rfl (pc0 := 7) (pc' := 11) rfl (hb hby at_7) (by decide) (by decide) ?_
      show Steps p.tables e below (s₁.setTop (mkF m 11 _ [(.int (1 : Int32))])) _
      refine XS.istoreN X0.here hx rfl (hb hby at_11) rfl (l' := #[.val (.int p0), .val (.int p1), .val (.int (1 : Int32)), .unset, .unset, .unset, .unset]) rfl ?_
      show Steps p.tables e below (s₁.setTop (mkF m 12 #[.val (.int p0), .val (.int p1), .val (.int (1 : Int32)), .unset, .unset, .unset, .unset] [])) _
      refine XS.iloadN X0.here hx rfl (hb hby at_12) rfl ?_
      show Steps p.tables e below (s₁.setTop (mkF m 13 _ [(.int p1)])) _
      refine XS.iconst X0.here hx rfl (hb hby at_13) ?_
      show Steps p.tables e below (s₁.setTop (mkF m 14 _ [(.int (1 : Int32)), (.int p1)])) _
      refine XS.iand X0.here hx rfl (hb hby at_14) rfl ?_
      exact ht
    rcases (own_and1 _ : (p1 &&& (1 : Int32)) = (0 : Int32) ∨ (p1 &&& (1 : Int32)) = (1 : Int32)) with hq13 | hq13
    · rw [hq13]
      refine OFin.of (S' := s₁.setTop (mkF m 28 #[.val (.int p0), .val (.int p1), .val (.int (1 : Int32)), .val (.int (0 : Int32)), .unset, .unset, .unset] [])) (fun t ht => ?_) ?_
      · refine XS.ifYes X0.here hx rfl (pc0 := 15) (pc' := 22) rfl (hb hby at_15) rfl ((if0 _ _).trans (teq (by decide : (0 : Int32) = (0 : Int32))).1) (by decide) (by decide) ?_
        show Steps p.tables e below (s₁.setTop (mkF m 22 _ [])) _
        refine XS.iconst X0.here hx rfl (hb hby at_22) ?_
        show Steps p.tables e below (s₁.setTop (mkF m 23 _ [(.int (0 : Int32))])) _
        refine XS.istoreN X0.here hx rfl (hb hby at_23) rfl (l' := #[.val (.int p0), .val (.int p1), .val (.int (1 : Int32)), .val (.int (0 : Int32)), .unset, .unset, .unset]) rfl ?_
        show Steps p.tables e below (s₁.setTop (mkF m 24 #[.val (.int p0), .val (.int p1), .val (.int (1 : Int32)), .val (.int (0 : Int32)), .unset, .unset, .unset] [])) _
        refine XS.iloadN X0.here hx rfl (hb hby at_24) rfl ?_
        show Steps p.tables e below (s₁.setTop (mkF m 25 _ [(.int (1 : Int32))])) _
        refine XS.ifNo X0.here hx rfl (hb hby at_25) rfl ((if0 _ _).trans (feq (by decide : ¬ ((1 : Int32) = (0 : Int32)))).1) ?_
        exact ht
      obtain ⟨T14, X14, e14, st14⟩ := getS (host := "") X0 hx hZ hown (hw _ (List.mem_of_getElem? (i := 3) rfl)) Via.refl e0 S_SHARED (g := (mkF m 28 #[.val (.int p0), .val (.int p1), .val (.int (1 : Int32)), .val (.int (0 : Int32)), .unset, .unset, .unset] [])) rfl (hb hby at_28)
      refine OFin.of (S' := T14.setTop (mkF m 31 #[.val (.int p0), .val (.int p1), .val (.int (1 : Int32)), .val (.int (0 : Int32)), .unset, .unset, .unset] [(.ref x_SHARED)])) (fun t ht => st14 t ht) ?_
      refine OFin.of (S' := T14.setTop (mkF m 49 #[.val (.int p0), .val (.int p1), .val (.int (1 : Int32)), .val (.int (0 : Int32)), .val (.ref x_SHARED), .unset, .unset] [])) (fun t ht => ?_) ?_
      · refine XS.goto X14.here hx rfl (pc0 := 31) (pc' := 37) rfl (hb hby at_31) (by decide) (by decide) ?_
        show Steps p.tables e below (T14.setTop (mkF m 37 _ [(.ref x_SHARED)])) _
        refine XS.astore X14.here hx rfl (hb hby at_37) rfl rfl (l' := #[.val (.int p0), .val (.int p1), .val (.int (1 : Int32)), .val (.int (0 : Int32)), .val (.ref x_SHARED), .unset, .unset]) rfl ?_
        show Steps p.tables e below (T14.setTop (mkF m 39 #[.val (.int p0), .val (.int p1), .val (.int (1 : Int32)), .val (.int (0 : Int32)), .val (.ref x_SHARED), .unset, .unset] [])) _
        refine XS.iloadN X14.here hx rfl (hb hby at_39) rfl ?_
        show Steps p.tables e below (T14.setTop (mkF m 40 _ [(.int (0 : Int32))])) _
        refine XS.ifYes X14.here hx rfl (pc0 := 40) (pc' := 49) rfl (hb hby at_40) rfl ((if0 _ _).trans (teq (by decide : (0 : Int32) = (0 : Int32))).1) (by decide) (by decide) ?_
        exact ht
      obtain ⟨T15, X15, e15, st15⟩ := getS (host := "") X14 hx hZ hown (hw _ (List.mem_of_getElem? (i := 0) rfl)) Via.refl e14 S_EXCLUSIVE (g := (mkF m 49 #[.val (.int p0), .val (.int p1), .val (.int (1 : Int32)), .val (.int (0 : Int32)), .val (.ref x_SHARED), .unset, .unset] [])) rfl (hb hby at_49)
      refine OFin.of (S' := T15.setTop (mkF m 52 #[.val (.int p0), .val (.int p1), .val (.int (1 : Int32)), .val (.int (0 : Int32)), .val (.ref x_SHARED), .unset, .unset] [(.ref x_EXCLUSIVE)])) (fun t ht => st15 t ht) ?_
      refine OFin.of (S' := T15.setTop (mkF m 71 #[.val (.int p0), .val (.int p1), .val (.int (1 : Int32)), .val (.int (0 : Int32)), .val (.ref x_SHARED), .val (.ref x_EXCLUSIVE), .val (.int (0 : Int32))] [(.ref x_EXCLUSIVE), (.ref x_SHARED)])) (fun t ht => ?_) ?_
      · refine XS.astore X15.here hx rfl (hb hby at_52) rfl rfl (l' := #[.val (.int p0), .val (.int p1), .val (.int (1 : Int32)), .val (.int (0 : Int32)), .val (.ref x_SHARED), .val (.ref x_EXCLUSIVE), .unset]) rfl ?_
        show Steps p.tables e below (T15.setTop (mkF m 54 #[.val (.int p0), .val (.int p1), .val (.int (1 : Int32)), .val (.int (0 : Int32)), .val (.ref x_SHARED), .val (.ref x_EXCLUSIVE), .unset] [])) _
        refine XS.iloadN X15.here hx rfl (hb hby at_54) rfl ?_
        show Steps p.tables e below (T15.setTop (mkF m 55 _ [(.int (1 : Int32))])) _
        refine XS.ifYes X15.here hx rfl (pc0 := 55) (pc' := 64) rfl (hb hby at_55) rfl ((if0 _ _).trans (feq (by decide : ¬ ((1 : Int32) = (0 : Int32)))).2) (by decide) (by decide) ?_
        show Steps p.tables e below (T15.setTop (mkF m 64 _ [])) _
        refine XS.iloadN X15.here hx rfl (hb hby at_64) rfl ?_
        show Steps p.tables e below (T15.setTop (mkF m 65 _ [(.int (0 : Int32))])) _
        refine XS.istore X15.here hx rfl (hb hby at_65) rfl (l' := #[.val (.int p0), .val (.int p1), .val (.int (1 : Int32)), .val (.int (0 : Int32)), .val (.ref x_SHARED), .val (.ref x_EXCLUSIVE), .val (.int (0 : Int32))]) rfl ?_
        show Steps p.tables e below (T15.setTop (mkF m 67 #[.val (.int p0), .val (.int p1), .val (.int (1 : Int32)), .val (.int (0 : Int32)), .val (.ref x_SHARED), .val (.ref x_EXCLUSIVE), .val (.int (0 : Int32))] [])) _
        refine XS.aload X15.here hx rfl (hb hby at_67) rfl rfl ?_
        show Steps p.tables e below (T15.setTop (mkF m 69 _ [(.ref x_SHARED)])) _
        refine XS.aload X15.here hx rfl (hb hby at_69) rfl rfl ?_
        exact ht
      obtain ⟨cq17, kq17, q17a, q17b, q17c⟩ := isOf hZ e15 E_SHARED
      obtain ⟨_, _, ⟨T16, L16, k16, n16⟩, -, X16, ⟨Lc16, hQ16, l16, y16, z16⟩, st16⟩ := X15.virtualBack hx (y := (⟨"com/example/long_lock/longlock/LockMode", "covers", "(Lcom/example/long_lock/longlock/LockMode;)Z"⟩ : MethodName)) (z := (⟨"com/example/long_lock/longlock/LockMode", "covers", "(Lcom/example/long_lock/longlock/LockMode;)Z"⟩ : MethodName)) hown (mvT hZ (hw _ (List.mem_of_getElem? (i := 5) rfl))) (mvT hZ (hw _ (List.mem_of_getElem? (i := 6) rfl))) (notFace_of_selects (args := #[]) (mvT hZ (hw _ (List.mem_of_getElem? (i := 8) rfl)))) (mvT hZ (hw _ (List.mem_of_getElem? (i := 8) rfl))) (mvT hZ (hw _ (List.mem_of_getElem? (i := 7) rfl))) (by decide) (backOf (W := 0) (rmA10 l Z _ hw [] x_EXCLUSIVE x_SHARED h0 n0 Z0 S_EXCLUSIVE S_SHARED hne) hZ (hw _ (List.mem_of_getElem? (i := 9) rfl)) (hw _ (List.mem_of_getElem? (i := 1) rfl)) (by decide) (by decide)) q17a q17c (g := (mkF m 71 #[.val (.int p0), .val (.int p1), .val (.int (1 : Int32)), .val (.int (0 : Int32)), .val (.ref x_SHARED), .val (.ref x_EXCLUSIVE), .val (.int (0 : Int32))] [(.ref x_EXCLUSIVE), (.ref x_SHARED)])) rfl (by rw [hml]; rfl) (Steps.refl _) (argsL := [(.ref x_EXCLUSIVE)]) (rest := []) (lenOf pd_0 rfl) rfl (by show 2 * 0 + _ ≤ _; exact Nat.le_of_eq rfl) (hb hby at_71) (fun _ _ => ⟨rfl, e15, (by decide : 0 + 0 ≤ _), (by decide : 0 + 0 ≤ _)⟩)
      dsimp only [Pt.U, Pt.locs, Pt.cells, Pt.slots] at X16 l16 y16 z16 st16 hQ16
      subst l16 y16 z16
      obtain ⟨rfl, Nq16, hs16⟩ := hQ16
      have N18 := Fr.app N0 Nq16
      refine OFin.to (S' := T16.setTop (mkF m 74 #[.val (.int p0), .val (.int p1), .val (.int (1 : Int32)), .val (.int (0 : Int32)), .val (.ref x_SHARED), .val (.ref x_EXCLUSIVE), .val (.int (0 : Int32))] [(.int (0 : Int32))])) st16 ?_
      refine OFin.of (S' := T16.setTop (mkF m 84 #[.val (.int p0), .val (.int p1), .val (.int (1 : Int32)), .val (.int (0 : Int32)), .val (.ref x_SHARED), .val (.ref x_EXCLUSIVE), .val (.int (0 : Int32))] [(.int (1 : Int32))])) (fun t ht => ?_) ?_
      · refine XS.iload X16.here hx rfl (hb hby at_74) rfl ?_
        show Steps p.tables e below (T16.setTop (mkF m 76 _ [(.int (0 : Int32)), (.int (0 : Int32))])) _
        refine XS.icmpNo X16.here hx rfl (hb hby at_76) rfl (teq (by decide : (0 : Int32) = (0 : Int32))).2 ?_
        show Steps p.tables e below (T16.setTop (mkF m 79 _ [])) _
        refine XS.iconst X16.here hx rfl (hb hby at_79) ?_
        show Steps p.tables e below (T16.setTop (mkF m 80 _ [(.int (1 : Int32))])) _
        refine XS.goto X16.here hx rfl (pc0 := 80) (pc' := 84) rfl (hb hby at_80) (by decide) (by decide) ?_
        exact ht
      exact OFin.retB X16 hx hlk (t := .boolean) (by simp) hret (hb hby at_84) (by decide) (by decide) (by rw [hs16]; exact ⟨rfl, N18⟩)
    · rw [hq13]
      refine OFin.of (S' := s₁.setTop (mkF m 28 #[.val (.int p0), .val (.int p1), .val (.int (1 : Int32)), .val (.int (1 : Int32)), .unset, .unset, .unset] [])) (fun t ht => ?_) ?_
      · refine XS.ifNo X0.here hx rfl (hb hby at_15) rfl ((if0 _ _).trans (feq (by decide : ¬ ((1 : Int32) = (0 : Int32)))).1) ?_
        show Steps p.tables e below (s₁.setTop (mkF m 18 _ [])) _
        refine XS.iconst X0.here hx rfl (hb hby at_18) ?_
        show Steps p.tables e below (s₁.setTop (mkF m 19 _ [(.int (1 : Int32))])) _
        refine XS.goto X0.here hx rfl (pc0 := 19) (pc' := 23) rfl (hb hby at_19) (by decide) (by decide) ?_
        show Steps p.tables e below (s₁.setTop (mkF m 23 _ [(.int (1 : Int32))])) _
        refine XS.istoreN X0.here hx rfl (hb hby at_23) rfl (l' := #[.val (.int p0), .val (.int p1), .val (.int (1 : Int32)), .val (.int (1 : Int32)), .unset, .unset, .unset]) rfl ?_
        show Steps p.tables e below (s₁.setTop (mkF m 24 #[.val (.int p0), .val (.int p1), .val (.int (1 : Int32)), .val (.int (1 : Int32)), .unset, .unset, .unset] [])) _
        refine XS.iloadN X0.here hx rfl (hb hby at_24) rfl ?_
        show Steps p.tables e below (s₁.setTop (mkF m 25 _ [(.int (1 : Int32))])) _
        refine XS.ifNo X0.here hx rfl (hb hby at_25) rfl ((if0 _ _).trans (feq (by decide : ¬ ((1 : Int32) = (0 : Int32)))).1) ?_
        exact ht
      obtain ⟨T19, X19, e19, st19⟩ := getS (host := "") X0 hx hZ hown (hw _ (List.mem_of_getElem? (i := 3) rfl)) Via.refl e0 S_SHARED (g := (mkF m 28 #[.val (.int p0), .val (.int p1), .val (.int (1 : Int32)), .val (.int (1 : Int32)), .unset, .unset, .unset] [])) rfl (hb hby at_28)
      refine OFin.of (S' := T19.setTop (mkF m 31 #[.val (.int p0), .val (.int p1), .val (.int (1 : Int32)), .val (.int (1 : Int32)), .unset, .unset, .unset] [(.ref x_SHARED)])) (fun t ht => st19 t ht) ?_
      refine OFin.of (S' := T19.setTop (mkF m 43 #[.val (.int p0), .val (.int p1), .val (.int (1 : Int32)), .val (.int (1 : Int32)), .val (.ref x_SHARED), .unset, .unset] [])) (fun t ht => ?_) ?_
      · refine XS.goto X19.here hx rfl (pc0 := 31) (pc' := 37) rfl (hb hby at_31) (by decide) (by decide) ?_
        show Steps p.tables e below (T19.setTop (mkF m 37 _ [(.ref x_SHARED)])) _
        refine XS.astore X19.here hx rfl (hb hby at_37) rfl rfl (l' := #[.val (.int p0), .val (.int p1), .val (.int (1 : Int32)), .val (.int (1 : Int32)), .val (.ref x_SHARED), .unset, .unset]) rfl ?_
        show Steps p.tables e below (T19.setTop (mkF m 39 #[.val (.int p0), .val (.int p1), .val (.int (1 : Int32)), .val (.int (1 : Int32)), .val (.ref x_SHARED), .unset, .unset] [])) _
        refine XS.iloadN X19.here hx rfl (hb hby at_39) rfl ?_
        show Steps p.tables e below (T19.setTop (mkF m 40 _ [(.int (1 : Int32))])) _
        refine XS.ifNo X19.here hx rfl (hb hby at_40) rfl ((if0 _ _).trans (feq (by decide : ¬ ((1 : Int32) = (0 : Int32)))).1) ?_
        exact ht
      obtain ⟨T20, X20, e20, st20⟩ := getS (host := "") X19 hx hZ hown (hw _ (List.mem_of_getElem? (i := 3) rfl)) Via.refl e19 S_SHARED (g := (mkF m 43 #[.val (.int p0), .val (.int p1), .val (.int (1 : Int32)), .val (.int (1 : Int32)), .val (.ref x_SHARED), .unset, .unset] [])) rfl (hb hby at_43)
      refine OFin.of (S' := T20.setTop (mkF m 46 #[.val (.int p0), .val (.int p1), .val (.int (1 : Int32)), .val (.int (1 : Int32)), .val (.ref x_SHARED), .unset, .unset] [(.ref x_SHARED)])) (fun t ht => st20 t ht) ?_
      refine OFin.of (S' := T20.setTop (mkF m 71 #[.val (.int p0), .val (.int p1), .val (.int (1 : Int32)), .val (.int (1 : Int32)), .val (.ref x_SHARED), .val (.ref x_SHARED), .val (.int (1 : Int32))] [(.ref x_SHARED), (.ref x_SHARED)])) (fun t ht => ?_) ?_
      · refine XS.goto X20.here hx rfl (pc0 := 46) (pc' := 52) rfl (hb hby at_46) (by decide) (by decide) ?_
        show Steps p.tables e below (T20.setTop (mkF m 52 _ [(.ref x_SHARED)])) _
        refine XS.astore X20.here hx rfl (hb hby at_52) rfl rfl (l' := #[.val (.int p0), .val (.int p1), .val (.int (1 : Int32)), .val (.int (1 : Int32)), .val (.ref x_SHARED), .val (.ref x_SHARED), .unset]) rfl ?_
        show Steps p.tables e below (T20.setTop (mkF m 54 #[.val (.int p0), .val (.int p1), .val (.int (1 : Int32)), .val (.int (1 : Int32)), .val (.ref x_SHARED), .val (.ref x_SHARED), .unset] [])) _
        refine XS.iloadN X20.here hx rfl (hb hby at_54) rfl ?_
        show Steps p.tables e below (T20.setTop (mkF m 55 _ [(.int (1 : Int32))])) _
        refine XS.ifYes X20.here hx rfl (pc0 := 55) (pc' := 64) rfl (hb hby at_55) rfl ((if0 _ _).trans (feq (by decide : ¬ ((1 : Int32) = (0 : Int32)))).2) (by decide) (by decide) ?_
        show Steps p.tables e below (T20.setTop (mkF m 64 _ [])) _
        refine XS.iloadN X20.here hx rfl (hb hby at_64) rfl ?_
        show Steps p.tables e below (T20.setTop (mkF m 65 _ [(.int (1 : Int32))])) _
        refine XS.istore X20.here hx rfl (hb hby at_65) rfl (l' := #[.val (.int p0), .val (.int p1), .val (.int (1 : Int32)), .val (.int (1 : Int32)), .val (.ref x_SHARED), .val (.ref x_SHARED), .val (.int (1 : Int32))]) rfl ?_
        show Steps p.tables e below (T20.setTop (mkF m 67 #[.val (.int p0), .val (.int p1), .val (.int (1 : Int32)), .val (.int (1 : Int32)), .val (.ref x_SHARED), .val (.ref x_SHARED), .val (.int (1 : Int32))] [])) _
        refine XS.aload X20.here hx rfl (hb hby at_67) rfl rfl ?_
        show Steps p.tables e below (T20.setTop (mkF m 69 _ [(.ref x_SHARED)])) _
        refine XS.aload X20.here hx rfl (hb hby at_69) rfl rfl ?_
        exact ht
      obtain ⟨cq22, kq22, q22a, q22b, q22c⟩ := isOf hZ e20 E_SHARED
      obtain ⟨_, _, ⟨T21, L21, k21, n21⟩, -, X21, ⟨Lc21, hQ21, l21, y21, z21⟩, st21⟩ := X20.virtualBack hx (y := (⟨"com/example/long_lock/longlock/LockMode", "covers", "(Lcom/example/long_lock/longlock/LockMode;)Z"⟩ : MethodName)) (z := (⟨"com/example/long_lock/longlock/LockMode", "covers", "(Lcom/example/long_lock/longlock/LockMode;)Z"⟩ : MethodName)) hown (mvT hZ (hw _ (List.mem_of_getElem? (i := 5) rfl))) (mvT hZ (hw _ (List.mem_of_getElem? (i := 6) rfl))) (notFace_of_selects (args := #[]) (mvT hZ (hw _ (List.mem_of_getElem? (i := 8) rfl)))) (mvT hZ (hw _ (List.mem_of_getElem? (i := 8) rfl))) (mvT hZ (hw _ (List.mem_of_getElem? (i := 7) rfl))) (by decide) (backOf (W := 0) (rmA11 l Z _ hw [] x_EXCLUSIVE x_SHARED h0 n0 Z0 S_EXCLUSIVE S_SHARED hne) hZ (hw _ (List.mem_of_getElem? (i := 9) rfl)) (hw _ (List.mem_of_getElem? (i := 1) rfl)) (by decide) (by decide)) q22a q22c (g := (mkF m 71 #[.val (.int p0), .val (.int p1), .val (.int (1 : Int32)), .val (.int (1 : Int32)), .val (.ref x_SHARED), .val (.ref x_SHARED), .val (.int (1 : Int32))] [(.ref x_SHARED), (.ref x_SHARED)])) rfl (by rw [hml]; rfl) (Steps.refl _) (argsL := [(.ref x_SHARED)]) (rest := []) (lenOf pd_0 rfl) rfl (by show 2 * 0 + _ ≤ _; exact Nat.le_of_eq rfl) (hb hby at_71) (fun _ _ => ⟨rfl, e20, (by decide : 0 + 0 ≤ _), (by decide : 0 + 0 ≤ _)⟩)
      dsimp only [Pt.U, Pt.locs, Pt.cells, Pt.slots] at X21 l21 y21 z21 st21 hQ21
      subst l21 y21 z21
      obtain ⟨rfl, Nq21, hs21⟩ := hQ21
      have N23 := Fr.app N0 Nq21
      refine OFin.to (S' := T21.setTop (mkF m 74 #[.val (.int p0), .val (.int p1), .val (.int (1 : Int32)), .val (.int (1 : Int32)), .val (.ref x_SHARED), .val (.ref x_SHARED), .val (.int (1 : Int32))] [(.int (1 : Int32))])) st21 ?_
      refine OFin.of (S' := T21.setTop (mkF m 84 #[.val (.int p0), .val (.int p1), .val (.int (1 : Int32)), .val (.int (1 : Int32)), .val (.ref x_SHARED), .val (.ref x_SHARED), .val (.int (1 : Int32))] [(.int (1 : Int32))])) (fun t ht => ?_) ?_
      · refine XS.iload X21.here hx rfl (hb hby at_74) rfl ?_
        show Steps p.tables e below (T21.setTop (mkF m 76 _ [(.int (1 : Int32)), (.int (1 : Int32))])) _
        refine XS.icmpNo X21.here hx rfl (hb hby at_76) rfl (teq (by decide : (1 : Int32) = (1 : Int32))).2 ?_
        show Steps p.tables e below (T21.setTop (mkF m 79 _ [])) _
        refine XS.iconst X21.here hx rfl (hb hby at_79) ?_
        show Steps p.tables e below (T21.setTop (mkF m 80 _ [(.int (1 : Int32))])) _
        refine XS.goto X21.here hx rfl (pc0 := 80) (pc' := 84) rfl (hb hby at_80) (by decide) (by decide) ?_
        exact ht
      exact OFin.retB X21 hx hlk (t := .boolean) (by simp) hret (hb hby at_84) (by decide) (by decide) (by rw [hs21]; exact ⟨rfl, N23⟩)
set_option maxRecDepth 65536 in
set_option maxHeartbeats 40000000 in
theorem comes_1 {Post : Tables → Env → Array Value → State → Outcome → State → Prop} (hpost : ∀ tb e args s v u, (limb_1_1.after args s (.returned v) u = true ∧ limb_1_2.after args s (.returned v) u = true ∧ True) → FrameEnd s (.returned v) u (Jvm.fieldLocs frame_1_writes args s ++ Jvm.arrayLocs frame_1_arrays args s ++ Jvm.staticLocs frame_1_statics s) 0 0 → Post tb e args s (.returned v) u) :
    ArmFor flags0 classFile x code maxLocals ret World_1 tables_1 room_1 Calls_1 rest_1 Pre_1 Post := by
  intro l hfl _ _ p e ha hc hk s m args below hf hA hF happ hP
  obtain ⟨hcalls, hrest, hpre⟩ := hP
  obtain ⟨-, -, -, hnamed, -, -, -, hat⟩ := (Spec.applies_iff hf).mp happ
  obtain ⟨hg, hn⟩ := and_e (Cond.before_iff.mp (show (Jvm.Cond.and given_1 narrow_1).before args s = true from hpre))
  obtain ⟨gg0, hg0⟩ := and_e hg
  obtain ⟨gg1, hg1⟩ := and_e hg0
  obtain ⟨w0, w1, rfl⟩ : ∃ w0 w1 : Value, args = #[w0, w1] := by
    have hs : args.size = 2 := by simpa [Cond.value, given_1] using gg0
    obtain ⟨L⟩ := args
    match L, hs with
    | [w0, w1], _ => exact ⟨w0, w1, rfl⟩
  have hw := fun d (hd : d ∈ tables_1) => atoms_spec (ws := Jvm.Cond.code x code maxLocals ret :: tables_1) hat d (List.mem_cons_of_mem _ hd)
  have hfit : Fit s := fun {y c} hc i hi => by
    obtain ⟨ha, rfl⟩ := Array.getElem?_eq_some_iff.mp hc
    have q := List.all_eq_true.mp ((Array.all_eq_true_iff_forall_mem.mp hF) _ (Array.getElem_mem ha)) i (List.mem_range.mpr hi)
    simpa [Array.getElem?_eq_getElem hi] using q
  obtain ⟨i0, ei0⟩ := is_v gg1
  obtain rfl : w0 = (.int i0) := Option.some.inj ei0
  obtain ⟨i1, ei1⟩ := is_v hg1
  obtain rfl : w1 = (.int i1) := Option.some.inj ei1
  obtain ⟨na0, hn0⟩ := and_e hn
  obtain ⟨na1, hn1⟩ := and_e hn0
  obtain ⟨na2, hn2⟩ := and_e hn1
  obtain ⟨x_EXCLUSIVE, ev_EXCLUSIVE⟩ := exa_v na0
  have E_EXCLUSIVE := Exa.start ev_EXCLUSIVE na0
  have S_EXCLUSIVE := Sta.start ev_EXCLUSIVE (Or.inr ⟨(hw _ (List.mem_of_getElem? (i := 1) rfl)), (hw _ (List.mem_of_getElem? (i := 2) rfl))⟩)
  obtain ⟨x_SHARED, ev_SHARED⟩ := exa_v na1
  have E_SHARED := Exa.start ev_SHARED na1
  have S_SHARED := Sta.start ev_SHARED (Or.inr ⟨(hw _ (List.mem_of_getElem? (i := 1) rfl)), (hw _ (List.mem_of_getElem? (i := 4) rfl))⟩)
  have O_SHARED := own_fldEq ev_SHARED na2
  have O_EXCLUSIVE := own_fldEq ev_EXCLUSIVE hn2
  have hne : x_EXCLUSIVE ≠ x_SHARED := Fld.ne O_EXCLUSIVE O_SHARED (by decide)
  obtain ⟨n, o, h1, h2, h3, _, L, rfl, ⟨rfl, N⟩, hq⟩ := rm0 l s _ hw tables_1 i0 i1 x_EXCLUSIVE x_SHARED s.heap s.heap.size (Nat.le_refl _) S_EXCLUSIVE S_SHARED E_EXCLUSIVE E_SHARED hne p e ha hc hk s m _ below hf ((Spec.applies_iff_loose hf).mp happ).1 ⟨rfl, State.Warmed39.refl s, rfl⟩ trivial
  refine ⟨n, _, h1, h2, h3, hpost _ _ _ _ _ _ ⟨Cond.after_iff.mpr rfl, Cond.after_iff.mpr (eq_i res_at (Term.int_eval (1)) rfl), trivial⟩ ⟨hq.1, hq.2.1, (hq.2.2.sift fun y hy => Or.inr (N y hy)).mono (by decide) (by decide)⟩⟩
theorem main_1_1 : Claimed_1_1 := comes_1 fun _ _ _ _ _ _ h hF => ⟨h.1, hF⟩
theorem main_1_2 : Claimed_1_2 := comes_1 fun _ _ _ _ _ _ h hF => ⟨h.2.1, hF⟩
end Jvm.Pilot.@@N@@
namespace Jvm.Pilot.@@N@@
open Jvm Jvm.ClassFile Sem Op Lib Jvm.Free Jvm.Stand Jvm.Pilot.@@N@@.Jvm.D
/-! MADE BY PROGRAM (witnessworld.py) out of the Statement's table words and the real class files: 12 classes; the members and pool entries that the words name. The judged class is class 1, her method 1. -/
namespace start1
open Jvm.ClassFile
def u (s : String) : CpInfo := .utf8 (stringToUtf16 s)
/-- a pool by its gaps: so many unusable entries, then the entry; so many at the end -/
def gap : Nat → List CpInfo → List CpInfo
  | 0, r => r
  | n + 1, r => .unusable :: gap n r
def poolList (es : List (Nat × CpInfo)) (last : Nat) : List CpInfo := es.foldr (fun e r => gap e.1 (e.2 :: r)) (gap last [])
def pool (es : List (Nat × CpInfo)) (last : Nat) : Array CpInfo := ⟨poolList es last⟩
def fileOf (pool : Array CpInfo) (this : Nat) (attrs : Array Attribute := #[]) (ms : Array MethodInfo := #[]) (fl : Nat := 33) (sup : Nat := 0) (ifs : Array Nat := #[]) (fds : Array FieldInfo := #[]) : ClassFile where
  minorVersion := 0
  majorVersion := 65
  constantPool := pool
  accessFlags := fl
  thisClass := this
  superClass := sup
  interfaces := ifs
  fields := fds
  methods := ms
  attributes := attrs
def plain (name : String) (sup : Option ClassId) : Class where
  name := name
  kind := .ordinary
  loader := none
  accessFlags := 33
  super := sup
  interfaces := #[]
  cf := none
  fields := #[]
  methods := #[]
  instanceTypes := #[]
  staticTypes := #[]
  resolved := #[]
  callSites := []
  init := .initialized
  statics := none
  mirror := none

def pool0 : Array CpInfo := pool [(5, u "<init>"), (0, u "()V"), (1, .class_ 10), (1, u "java/lang/Object")] 113

def k0m0 : Method := { name := "<init>", desc := "()V", sig := { parameters := [], returnType := none }, accessFlags := 1, code := none }
/-- java/lang/Object -/
def k0 : Class := { plain "java/lang/Object" none with
  accessFlags := 33
  interfaces := #[]
  cf := some (fileOf pool0 8 #[] #[{ accessFlags := 1, nameIndex := 5, descriptorIndex := 6, attributes := #[] }] 33 0 #[] #[])
  fields := #[]
  methods := #[k0m0]
  instanceTypes := #[]
  staticTypes := #[]
  resolved := Array.replicate 124 none
  statics := none }

def pool1 : Array CpInfo := pool [(2, .class_ 4), (1, u "java/lang/Object"), (0, u "<init>"), (0, u "()V"), (0, .fieldref 8 9), (0, .class_ 10), (0, .nameAndType 11 12), (0, u "com/example/long_lock/longlock/LockMode"), (0, u "SHARED"), (0, u "Lcom/example/long_lock/longlock/LockMode;"), (0, .fieldref 8 14), (0, .nameAndType 15 12), (0, u "EXCLUSIVE"), (0, .methodref 8 17), (0, .nameAndType 18 19), (0, u "covers"), (0, u "(Lcom/example/long_lock/longlock/LockMode;)Z"), (0, .class_ 21), (0, u "com/example/long_lock/longlock/LockModeCoversPinLaw"), (2, u "law"), (0, u "(II)Z")] 3

def k1m0 : Method := { name := "<init>", desc := "()V", sig := { parameters := [], returnType := none }, accessFlags := 1, code := none }
def k1c1 : Code := { maxStack := 2, maxLocals := 7, code := code, exceptionTable := #[], attributes := #[] }
def k1m1 : Method := { name := "law", desc := "(II)Z", sig := { parameters := [.int, .int], returnType := some .boolean }, accessFlags := 9, code := some k1c1 }
/-- com/example/long_lock/longlock/LockModeCoversPinLaw -/
def k1 : Class := { plain "com/example/long_lock/longlock/LockModeCoversPinLaw" (some 0) with
  accessFlags := 49
  interfaces := #[]
  cf := some (fileOf pool1 20 #[] #[{ accessFlags := 1, nameIndex := 5, descriptorIndex := 6, attributes := #[] }, { accessFlags := 9, nameIndex := 24, descriptorIndex := 25, attributes := #[] }] 49 2 #[] #[])
  fields := #[]
  methods := #[k1m0, k1m1]
  instanceTypes := #[]
  staticTypes := #[]
  resolved := Array.replicate 29 none
  statics := none }

def pool2 : Array CpInfo := pool [(1, .class_ 2), (0, u "java/lang/constant/Constable"), (0, .class_ 4), (0, u "java/lang/Object")] 6

/-- java/lang/constant/Constable -/
def k2 : Class := { plain "java/lang/constant/Constable" (some 0) with
  accessFlags := 1537
  interfaces := #[]
  cf := some (fileOf pool2 1 #[] #[] 1537 3 #[] #[])
  fields := #[]
  methods := #[]
  instanceTypes := #[]
  staticTypes := #[]
  resolved := Array.replicate 11 none
  statics := none }

def pool3 : Array CpInfo := pool [(1, .class_ 2), (0, u "java/lang/Comparable"), (0, .class_ 4), (0, u "java/lang/Object")] 7

/-- java/lang/Comparable -/
def k3 : Class := { plain "java/lang/Comparable" (some 0) with
  accessFlags := 1537
  interfaces := #[]
  cf := some (fileOf pool3 1 #[] #[] 1537 3 #[] #[])
  fields := #[]
  methods := #[]
  instanceTypes := #[]
  staticTypes := #[]
  resolved := Array.replicate 12 none
  statics := none }

def pool4 : Array CpInfo := pool [(1, .class_ 2), (0, u "java/io/Serializable"), (0, .class_ 4), (0, u "java/lang/Object")] 2

/-- java/io/Serializable -/
def k4 : Class := { plain "java/io/Serializable" (some 0) with
  accessFlags := 1537
  interfaces := #[]
  cf := some (fileOf pool4 1 #[] #[] 1537 3 #[] #[])
  fields := #[]
  methods := #[]
  instanceTypes := #[]
  staticTypes := #[]
  resolved := Array.replicate 7 none
  statics := none }

def pool5 : Array CpInfo := pool [(2, .class_ 4), (1, u "java/lang/Enum"), (0, u "name"), (0, u "Ljava/lang/String;"), (2, u "ordinal"), (0, u "I"), (1, .class_ 14), (1, u "java/lang/Object"), (4, u "hash"), (86, .class_ 108), (1, u "java/lang/Enum$EnumDesc"), (2, .class_ 112), (0, u "java/lang/constant/Constable"), (0, .class_ 114), (0, u "java/lang/Comparable"), (0, .class_ 116), (0, u "java/io/Serializable")] 87

/-- java/lang/Enum -/
def k5 : Class := { plain "java/lang/Enum" (some 0) with
  accessFlags := 1057
  interfaces := #[2, 3, 4]
  cf := some (fileOf pool5 2 #[.nestMembers #[106]] #[] 1057 12 #[111, 113, 115] #[{ accessFlags := 18, nameIndex := 5, descriptorIndex := 6, attributes := #[] }, { accessFlags := 18, nameIndex := 9, descriptorIndex := 10, attributes := #[] }, { accessFlags := 2, nameIndex := 19, descriptorIndex := 10, attributes := #[] }])
  fields := #[{ name := "name", type := (.object "java/lang/String"), accessFlags := 18, slot := 0, constantValue := 0 }, { name := "ordinal", type := .int, accessFlags := 18, slot := 1, constantValue := 0 }, { name := "hash", type := .int, accessFlags := 2, slot := 2, constantValue := 0 }]
  methods := #[]
  instanceTypes := #[(.object "java/lang/String"), .int, .int]
  staticTypes := #[]
  resolved := Array.replicate 204 none
  statics := none }

def pool6 : Array CpInfo := pool [(1, .class_ 2), (0, u "com/example/long_lock/longlock/LockMode"), (0, .fieldref 1 4), (0, .nameAndType 5 6), (0, u "EXCLUSIVE"), (0, u "Lcom/example/long_lock/longlock/LockMode;"), (2, u "SHARED"), (2, u "$VALUES"), (0, u "[Lcom/example/long_lock/longlock/LockMode;"), (6, .class_ 22), (1, u "java/lang/Enum"), (8, u "text"), (0, u "Ljava/lang/String;"), (54, u "(Lcom/example/long_lock/longlock/LockMode;)Z"), (0, u "covers")] 20

def k6c0 : Code := { maxStack := 2, maxLocals := 2, code := prog_16_method_7_code, exceptionTable := #[], attributes := #[] }
def k6m0 : Method := { name := "covers", desc := "(Lcom/example/long_lock/longlock/LockMode;)Z", sig := { parameters := [(.object "com/example/long_lock/longlock/LockMode")], returnType := some .boolean }, accessFlags := 0, code := some k6c0 }
/-- com/example/long_lock/longlock/LockMode -/
def k6 : Class := { plain "com/example/long_lock/longlock/LockMode" (some 5) with
  accessFlags := 16433
  interfaces := #[]
  cf := some (fileOf pool6 1 #[] #[{ accessFlags := 0, nameIndex := 88, descriptorIndex := 87, attributes := #[] }] 16433 20 #[] #[{ accessFlags := 16409, nameIndex := 5, descriptorIndex := 6, attributes := #[] }, { accessFlags := 16409, nameIndex := 9, descriptorIndex := 6, attributes := #[] }, { accessFlags := 18, nameIndex := 31, descriptorIndex := 32, attributes := #[] }, { accessFlags := 4122, nameIndex := 12, descriptorIndex := 13, attributes := #[] }])
  fields := #[{ name := "EXCLUSIVE", type := (.object "com/example/long_lock/longlock/LockMode"), accessFlags := 16409, slot := 0, constantValue := 0 }, { name := "SHARED", type := (.object "com/example/long_lock/longlock/LockMode"), accessFlags := 16409, slot := 1, constantValue := 0 }, { name := "text", type := (.object "java/lang/String"), accessFlags := 18, slot := 3, constantValue := 0 }, { name := "$VALUES", type := (.array (.object "com/example/long_lock/longlock/LockMode")), accessFlags := 4122, slot := 2, constantValue := 0 }]
  methods := #[k6m0]
  instanceTypes := #[(.object "java/lang/String"), .int, .int, (.object "java/lang/String")]
  staticTypes := #[(.object "com/example/long_lock/longlock/LockMode"), (.object "com/example/long_lock/longlock/LockMode"), (.array (.object "com/example/long_lock/longlock/LockMode"))]
  resolved := Array.replicate 109 none
  statics := some 0 }

def pool7 : Array CpInfo := pool [(1, u "java/lang/Cloneable"), (0, .class_ 1), (0, u "java/lang/Object"), (0, .class_ 3)] 3

/-- java/lang/Cloneable -/
def k7 : Class := { plain "java/lang/Cloneable" (some 0) with
  accessFlags := 1537
  interfaces := #[]
  cf := some (fileOf pool7 2 #[] #[] 1537 4 #[] #[])
  fields := #[]
  methods := #[]
  instanceTypes := #[]
  staticTypes := #[]
  resolved := Array.replicate 8 none
  statics := none }

/-- the primitive byte -/
def k8 : Class := { plain "byte" none with kind := .primitive 'B', accessFlags := 0x411 }
/-- [B -/
def k9 : Class := { plain "[B" (some 0) with kind := .array 8 .byte, interfaces := #[7, 4], accessFlags := 1041 }

/-- the primitive int -/
def k10 : Class := { plain "int" none with kind := .primitive 'I', accessFlags := 0x411 }
/-- [I -/
def k11 : Class := { plain "[I" (some 0) with kind := .array 10 .int, interfaces := #[7, 4], accessFlags := 1041 }

def heap : Heap := #[{ cls := 6, slots := #[.ref 1, .ref 2, .null], vm := .statics 6 },
  { cls := 6, slots := #[.null, .int 0, .int 0, .null], vm := .none },
  { cls := 6, slots := #[.null, .int 1, .int 0, .null], vm := .none }]
def classes : Array Class := #[k0, k1, k2, k3, k4, k5, k6, k7, k8, k9, k10, k11]
def interned : List (Array UInt16 × Addr) := []
def slotsUsed : Nat := 11
def theMethod : MethodId := ⟨1, 1⟩
def args0 : Array Value := #[.int 5, .int 5]
def aboutOver (below : List Frame) : State where
  vm := { classes := classes, interned := interned.toArray }
  heap := heap
  slotsUsed := slotsUsed
  threads := #[{ frames := .invoking theMethod args0 :: below }]
def below0 : List Frame := [.native { method := ⟨0, 0⟩, args := #[] }]
def about1 : State := aboutOver below0
def p0 : Program := .bare "" "" ""
def e0 : Env := launch0.env 0 0 0
theorem w_frames : about1.frames = Frame.invoking theMethod args0 :: below0 := rfl
set_option maxRecDepth 65536 in
theorem w_args : argsFit about1.vm theMethod args0 = true := by decide +kernel
set_option maxRecDepth 65536 in
theorem w_heap : heapFits about1 = true := by decide +kernel
set_option maxRecDepth 65536 in
theorem w_runnable : about1.curStatus? = some .runnable := by decide +kernel
set_option maxRecDepth 65536 in
theorem w_alone : about1.alone = true := by decide +kernel
set_option maxRecDepth 65536 in
theorem w_named : about1.methodNamed? x = some theMethod := by decide +kernel
set_option maxRecDepth 65536 in
theorem w_hears : about1.hears theMethod below0 = true := by decide +kernel
set_option maxRecDepth 65536 in
theorem w_ripe : about1.ripe theMethod args0 below0 = true := by decide +kernel
theorem w_running : about1.status = .running := rfl
set_option maxRecDepth 65536 in
theorem w_room : about1.hasRoom e0.platform room_1 = true :=
  launch0.hasRoom_least _ room_1 (by decide +kernel) (by decide +kernel) (by decide +kernel) (by decide +kernel) (by decide +kernel) (by decide +kernel)
theorem allAtoms_all (ts : List Jvm.Cond) (a : Array Jvm.Value) (st : Jvm.State) : (allAtoms ts).before a st = ts.all (fun c => c.before a st) := by
  induction ts with
  | nil => rfl
  | cons c t ih =>
    show (Jvm.Cond.and c (allAtoms t)).before a st = _
    rw [Jvm.Cond.before_and, ih, List.all_cons]
def words1 : List Jvm.Cond := Jvm.Cond.code x code maxLocals ret :: tables_1
/-- a 'code' word, met by the world's own term for the bytes: nothing is compared byte by byte -/
theorem code_word {y : MethodName} {bytes : ByteArray} {mx : Nat} {rt : Option FieldType} {a : Array Value} {s : State} {m : MethodId} {meth : Method} {c : Code} (h1 : s.methodNamed? y = some m) (h2 : s.vm.method? m = some meth) (h3 : meth.code = some c) (h4 : c.code = bytes)
    (h5 : (c.maxLocals == mx && c.exceptionTable.isEmpty && decide (c.maxStack ≤ mostOperands) && decide (meth.sig.returnType = rt) && !meth.locks && decide (parseMethodDescriptor y.desc = some meth.sig)) = true) : (Jvm.Cond.code y bytes mx rt).before a s = true := by
  simp only [Bool.and_eq_true, beq_iff_eq, Bool.not_eq_true', decide_eq_true_eq] at h5
  obtain ⟨⟨⟨⟨⟨g1, g2⟩, g3⟩, g4⟩, g5⟩, g6⟩ := h5
  simp [Cond.before, Cond.holds, Cond.value, h1, h2, h3, h4, g1, g2, g3, g4, g5, g6]
def isCode : Jvm.Cond → Bool
  | .code _ _ _ _ => true
  | _ => false
theorem all_split {L : List Jvm.Cond} {P : Jvm.Cond → Bool} (h1 : L.all (fun c => isCode c || P c) = true) (h2 : ∀ c ∈ L.filter isCode, P c = true) : L.all P = true := by
  refine List.all_eq_true.mpr fun c hc => ?_
  have h := List.all_eq_true.mp h1 c hc
  rcases Bool.eq_false_or_eq_true (isCode c) with hi | hi
  · exact h2 c (List.mem_filter.mpr ⟨hc, hi⟩)
  · simpa [hi] using h
set_option maxRecDepth 65536 in
theorem w_c0 : (Jvm.Cond.code x code maxLocals ret).before args0 about1 = true := code_word (m := ⟨1, 1⟩) (meth := k1m1) (c := k1c1) (by decide +kernel) rfl rfl rfl (by decide +kernel)
set_option maxRecDepth 65536 in
theorem w_c1 : (Jvm.Cond.code ({ cls := "com/example/long_lock/longlock/LockMode", name := "covers", desc := "(Lcom/example/long_lock/longlock/LockMode;)Z" } : Jvm.MethodName) prog_16_method_7_code (2 : Nat) (Option.some Jvm.ClassFile.FieldType.boolean)).before args0 about1 = true := code_word (m := ⟨6, 0⟩) (meth := k6m0) (c := k6c0) (by decide +kernel) rfl rfl rfl (by decide +kernel)
def codes1 : List Jvm.Cond := [Jvm.Cond.code x code maxLocals ret, Jvm.Cond.code ({ cls := "com/example/long_lock/longlock/LockMode", name := "covers", desc := "(Lcom/example/long_lock/longlock/LockMode;)Z" } : Jvm.MethodName) prog_16_method_7_code (2 : Nat) (Option.some Jvm.ClassFile.FieldType.boolean)]
set_option maxRecDepth 65536 in
theorem codes_eq : words1.filter isCode = codes1 := rfl
theorem w_codes : ∀ c ∈ words1.filter isCode, c.before args0 about1 = true := by
  rw [codes_eq]
  intro c hc
  simp only [codes1, List.mem_cons, List.not_mem_nil, or_false] at hc
  rcases hc with rfl | rfl
  · exact w_c0
  · exact w_c1
set_option maxRecDepth 65536 in
theorem w_t1 : words1.all (fun c => isCode c || c.before args0 about1) = true := by decide +kernel
theorem w_tables : (allAtoms (Jvm.Cond.code x code maxLocals ret :: tables_1)).before args0 about1 = true := by
  rw [allAtoms_all]
  show words1.all (fun c => c.before args0 about1) = true
  refine all_split ?_ w_codes
  rw [w_t1]
set_option maxRecDepth 65536 in
theorem w_case : (Jvm.Cond.and given_1 narrow_1).before args0 about1 = true := by decide +kernel
theorem w_applies : (headSpec (Jvm.Cond.code x code maxLocals ret :: tables_1) room_1).applies x e0.platform about1 = true :=
  (Spec.applies_iff w_frames).mpr ⟨w_running, w_runnable, w_alone, w_named, w_hears, w_ripe, w_room, w_tables⟩
theorem atStart : AtStart classFile x code maxLocals ret World_1 tables_1 room_1 Calls_1 rest_1 Pre_1 launch0 p0 e0 about1 theMethod args0 below0 :=
  ⟨lists_1, trivial, launch0.admits_env _ _ _, launch0.least_env, fairChoices_fair.cas, fairChoices_fair.clock, w_frames, w_args, w_heap, w_applies, trivial, trivial, w_case⟩
end start1
theorem witness_1 : WitnessClaimed_1 := ⟨start1.p0, start1.e0, start1.about1, start1.theMethod, start1.args0, start1.below0, start1.atStart⟩
end Jvm.Pilot.@@N@@
