import JvmDerived
import JvmDerived.Pilot.@@N@@Statement
import JvmDerived.Pilot.@@N@@Code
set_option linter.unusedVariables false
set_option linter.unusedSimpArgs false
namespace Jvm.RoadKit
open Sem ClassFile Op Lib Jvm.Stand Jvm.Free Jvm.LawKit
section OwnNew
variable {p : Program} {l : Launch} {e : Env} {R : Room} {s : State} {m : MethodId} {args : Array Value} {below : List Frame} {meth : Method} {c : Code} {T : State} {locs : List Loc} {cells slots : Nat}
theorem retI (X : Stand p l e R s m args below meth c T locs cells slots) (hx : p.tables.exec = Jvm.exec) {pc : Nat} {Ls : Array Slot} {z : Int32} {rest : List Value} (hret : meth.sig.returnType = some .int) (hd : decode c.code pc = .ok (.ireturn, 1)) {fs : List Frame}
    (hl : ∀ (f : JFrame) (acts : List Action), f.method = m → f.locked = none → f.entered = [] → (doReturn e (T.setTop f) acts (some (.int z))).1 = T.setFrames fs) : Steps p.tables e below (T.setTop (mkF m pc Ls (.int z :: rest))) (T.setFrames fs) := by
  have hm' : T.vm.method? m = some meth := X.method'
  have hn : narrow .int (.int z) = .int z := rfl
  show Steps p.tables e below (T.setTop { method := m, pc := pc, locals := Ls, stack := _ :: rest, locked := none }) _
  jvm_step X.here [X.here.top, hx, hd, hm', hret, hn]
  first | (intro acts; rw [hl _ acts rfl rfl rfl]) | rw [hl _ _ rfl rfl rfl]
  exact Steps.refl _
/-- from S the run comes to an end of this invocation at which K holds -/
def OFin (p : Program) (e : Env) (below : List Frame) (K : Outcome → State → Prop) (S : State) : Prop := ∃ s₂ o, Steps p.tables e below S s₂ ∧ s₂.status = .running ∧ Ended s₂ below o ∧ K o s₂
theorem OFin.of {K : Outcome → State → Prop} {S S' : State} (h : ∀ t, Steps p.tables e below S' t → Steps p.tables e below S t) (k : OFin p e below K S') : OFin p e below K S := by
  obtain ⟨t, o, a, b⟩ := k; exact ⟨t, o, h t a, b⟩
theorem OFin.to {K : Outcome → State → Prop} {S S' : State} (h : Steps p.tables e below S S') (k : OFin p e below K S') : OFin p e below K S := by
  obtain ⟨t, o, a, b⟩ := k; exact ⟨t, o, h.trans a, b⟩
abbrev KPost (s : State) (Q : Option Value → Heap → List Loc → Prop) (C D : Nat) : Outcome → State → Prop := fun o U' => ∃ v L, o = .returned v ∧ Q v U'.heap L ∧ FrameEnd s o U' L C D
theorem OFin.retI (X : Stand p l e R s m args below meth c T locs cells slots) (hx : p.tables.exec = Jvm.exec) (hlk : meth.locks = false) {pc : Nat} {Ls : Array Slot} {z : Int32} {rest : List Value} {Q : Option Value → Heap → List Loc → Prop} {C D : Nat} (hret : meth.sig.returnType = some .int) (hd : decode c.code pc = .ok (.ireturn, 1)) (hC : cells ≤ C) (hD : slots ≤ D) (hQ : Q (some (.int z)) T.heap locs) :
    OFin p e below (KPost s Q C D) (T.setTop (mkF m pc Ls (.int z :: rest))) := by
  obtain ⟨fs, hr, hrun, hended, hW, hsame⟩ := X.leave (v := some (.int z)) (fun h => by rw [hret] at h; cases h) hlk
  exact ⟨_, _, Jvm.RoadKit.retI X hx hret hd hr, hrun, hended, _, _, rfl, hQ, ⟨_, rfl⟩, hW, hsame.mono hC hD⟩
theorem OFin.retB (X : Stand p l e R s m args below meth c T locs cells slots) (hx : p.tables.exec = Jvm.exec) (hlk : meth.locks = false) {pc : Nat} {Ls : Array Slot} {z : Int32} {rest : List Value} {Q : Option Value → Heap → List Loc → Prop} {C D : Nat} {t : FieldType} (ht : t = .boolean ∨ t = .byte ∨ t = .char ∨ t = .short) (hret : meth.sig.returnType = some t) (hd : decode c.code pc = .ok (.ireturn, 1)) (hC : cells ≤ C) (hD : slots ≤ D) (hQ : Q (some (.int (nar t z))) T.heap locs) :
    OFin p e below (KPost s Q C D) (T.setTop (mkF m pc Ls (.int z :: rest))) := by
  obtain ⟨fs, hr, hrun, hended, hW, hsame⟩ := X.leave (v := some (.int (nar t z))) (fun h => by rw [hret] at h; cases h) hlk
  exact ⟨_, _, retN X hx hret ht hd hr, hrun, hended, _, _, rfl, hQ, ⟨_, rfl⟩, hW, hsame.mono hC hD⟩
theorem OFin.retJ (X : Stand p l e R s m args below meth c T locs cells slots) (hx : p.tables.exec = Jvm.exec) (hlk : meth.locks = false) {pc : Nat} {Ls : Array Slot} {z : Int64} {Q : Option Value → Heap → List Loc → Prop} {C D : Nat} (hret : meth.sig.returnType = some .long) (hd : decode c.code pc = .ok (.lreturn, 1)) (hC : cells ≤ C) (hD : slots ≤ D) (hQ : Q (some (.long z)) T.heap locs) :
    OFin p e below (KPost s Q C D) (T.setTop (mkF m pc Ls [.long z])) := by
  obtain ⟨fs, hr, hrun, hended, hW, hsame⟩ := X.leave (v := some (.long z)) (fun h => by rw [hret] at h; cases h) hlk
  exact ⟨_, _, X.lreturnOut hx hret hd hr, hrun, hended, _, _, rfl, hQ, ⟨_, rfl⟩, hW, hsame.mono hC hD⟩
theorem OFin.retA (X : Stand p l e R s m args below meth c T locs cells slots) (hx : p.tables.exec = Jvm.exec) (hlk : meth.locks = false) {pc : Nat} {Ls : Array Slot} {z : Value} {Q : Option Value → Heap → List Loc → Prop} {C D : Nat} {t : FieldType} (ht : t.isReference = true) (hz : z.isRef = true) (hret : meth.sig.returnType = some t) (hd : decode c.code pc = .ok (.areturn, 1)) (hC : cells ≤ C) (hD : slots ≤ D) (hQ : Q (some z) T.heap locs) :
    OFin p e below (KPost s Q C D) (T.setTop (mkF m pc Ls [z])) := by
  obtain ⟨fs, hr, hrun, hended, hW, hsame⟩ := X.leave (v := some z) (fun h => by rw [hret] at h; cases h) hlk
  exact ⟨_, _, X.areturnOut hx hz hret ht hd hr, hrun, hended, _, _, rfl, hQ, ⟨_, rfl⟩, hW, hsame.mono hC hD⟩
theorem OFin.retD (X : Stand p l e R s m args below meth c T locs cells slots) (hx : p.tables.exec = Jvm.exec) (hlk : meth.locks = false) {pc : Nat} {Ls : Array Slot} {z : UInt64} {rest : List Value} {Q : Option Value → Heap → List Loc → Prop} {C D : Nat} (hret : meth.sig.returnType = some .double) (hd : decode c.code pc = .ok (.dreturn, 1)) (hC : cells ≤ C) (hD : slots ≤ D) (hQ : Q (some (.double z)) T.heap locs) :
    OFin p e below (KPost s Q C D) (T.setTop (mkF m pc Ls (.double z :: rest))) := by
  obtain ⟨fs, hr, hrun, hended, hW, hsame⟩ := X.leave (v := some (.double z)) (fun h => by rw [hret] at h; cases h) hlk
  exact ⟨_, _, retOut X hx hret rfl (Or.inr (Or.inr (Or.inl ⟨rfl, rfl, z, rfl⟩))) hd hr, hrun, hended, _, _, rfl, hQ, ⟨_, rfl⟩, hW, hsame.mono hC hD⟩
theorem OFin.retV (X : Stand p l e R s m args below meth c T locs cells slots) (hx : p.tables.exec = Jvm.exec) (hlk : meth.locks = false) {pc : Nat} {Ls : Array Slot} {Q : Option Value → Heap → List Loc → Prop} {C D : Nat} (hret : meth.sig.returnType = none) (hd : decode c.code pc = .ok (.return_, 1)) (hC : cells ≤ C) (hD : slots ≤ D) (hQ : Q none T.heap locs) :
    OFin p e below (KPost s Q C D) (T.setTop (mkF m pc Ls [])) := by
  obtain ⟨fs, hr, hrun, hended, hW, hsame⟩ := X.leave (v := none) (fun _ => rfl) hlk
  exact ⟨_, _, X.returnOut hx hret hd hr, hrun, hended, _, _, rfl, hQ, ⟨_, rfl⟩, hW, hsame.mono hC hD⟩
abbrev KPostW (s : State) (Q : Option Value → Heap → List Loc → Prop) (C D : Nat) : Outcome → State → Prop := fun o U' => ∃ v L, o = .returned v ∧ Q v U'.heap L ∧ ReturnedEndW s o U' L C D
theorem OFin.retBW {vm₁ : Vm} {k : Nat} (X : Stand p l e R (s.setVm vm₁) m args below meth c T locs cells slots) (hS : s.Since vm₁ k) (hk : k ≤ T.heap.size) (hx : p.tables.exec = Jvm.exec) (hlk : meth.locks = false) {pc : Nat} {Ls : Array Slot} {z : Int32} {rest : List Value} {Q : Option Value → Heap → List Loc → Prop} {C D : Nat} {t : FieldType} (ht : t = .boolean ∨ t = .byte ∨ t = .char ∨ t = .short) (hret : meth.sig.returnType = some t) (hd : decode c.code pc = .ok (.ireturn, 1)) (hC : cells ≤ C) (hD : slots ≤ D) (hQ : Q (some (.int (nar t z))) T.heap locs) :
    OFin p e below (KPostW s Q C D) (T.setTop (mkF m pc Ls (.int z :: rest))) := by
  obtain ⟨fs, hr, hrun, hended, h1, h2, h3, h4⟩ := X.leaveW hS hk (v := some (.int (nar t z))) (fun h => by rw [hret] at h; cases h) hlk
  exact ⟨_, _, retN X hx hret ht hd hr, hrun, hended, _, _, rfl, hQ, ⟨_, rfl⟩, h2, h3, h4.mono hC hD⟩
theorem own_alen {Z : State} {h : Heap} {a : Addr} {cl : Cell} {ty : FieldType} {z : Int32} {g : JFrame} {rest : List Value} {target : State} (X : Stand p l e R s m args below meth c T locs cells slots) (hx : p.tables.exec = Jvm.exec) (hZ : Z.Warmed39 s.vm) (eT : T.heap = h) (A : Arr Z h a cl ty) (S : cl.slots.size = z.toNatClampNeg) (q : ¬ z < 0) (hg : g.method = m) (hs : g.stack = .ref a :: rest) (hd : decode c.code g.pc = .ok (.arraylength, 1))
    (hr : Steps p.tables e below (T.setTop { g with pc := g.pc + 1, stack := .int z :: rest }) target) : Steps p.tables e below (T.setTop g) target := by
  refine X.arraylength hx (by rw [eT]; exact A.1) (State.isArrayOf_alike hZ.alike A.2.1) hg hs hd _ ?_
  rw [len_of S q]; exact hr
def OwnNoSta (h : Heap) (ws : List Addr) : Prop := ∀ x ∈ ws, ∀ cell : Cell, h[x]? = some cell → cell.vm.isStatics = false
theorem own_sn0 {h : Heap} : OwnNoSta h [] := fun _ q => nomatch q
theorem own_snS {Z : State} {h : Heap} {a : Addr} {C : String} {ws : List Addr} (E : Exa Z h a C) (r : OwnNoSta h ws) : OwnNoSta h (a :: ws) := fun x q cell hc => by
  rcases List.mem_cons.mp q with rfl | q
  · obtain ⟨c', _, h1, -, -, h4, -⟩ := E; cases h1.symm.trans hc; exact h4
  · exact r x q cell hc
theorem own_snV {Z : State} {h : Heap} {a : Addr} {k : ClassId} {ty : FieldType} {z : Int32} {vs : List Value} {dv : Value} {ws : List Addr} (F : Arv Z h a k ty z vs dv) (r : OwnNoSta h ws) : OwnNoSta h (a :: ws) := fun x q cell hc => by
  rcases List.mem_cons.mp q with rfl | q
  · obtain ⟨c', A, -⟩ := F; cases A.1.symm.trans hc; exact A.plain
  · exact r x q cell hc
theorem own_staKeep {Z : State} {h h' : Heap} {C n d : String} {v : Value} {ws : List Addr} (F : Sta Z h C n d v) (K : Keep h h' ws) (q : OwnNoSta h ws) : Sta Z h' C n d v := by
  obtain ⟨cf, i, k, f, st, cell, h1, h2, h3, h4, h5, h6, h7⟩ := F
  refine ⟨cf, i, k, f, st, cell, h1, h2, h3, h4, K.2.1 st cell h5 (fun z => ?_), h6, h7⟩
  have := q st z cell h5
  rw [this] at h6; cases h6
theorem own_pop2L {tb : Tables} [Ours tb] {e : Env} {below : List Frame} {T target : State} {m : MethodId} {c : Code} {g : JFrame} (h : At T m c below) (hx : tb.exec = Jvm.exec) (hg : g.method = m) {x : Int64} {rest : List Value} (hd : decode c.code g.pc = .ok (.pop2, 1)) (hs : g.stack = .long x :: rest)
    (hr : Steps tb e below (T.setTop { g with pc := g.pc + 1, stack := rest }) target) : Steps tb e below (T.setTop g) target := by
  subst hg
  jvm_step h [h.top, hx, hd, hs, Value.category]
  exact hr
end OwnNew
end Jvm.RoadKit
namespace Jvm.Pilot.@@N@@
open Jvm Jvm.ClassFile Sem Op Lib Jvm.Free Jvm.Stand Jvm.LawKit Jvm.RoadKit Bundle Jvm.Pilot.@@N@@.Jvm.D
theorem pd_0 : parseMethodDescriptor "()I" = some ⟨[], some .int⟩ := by decide +kernel
theorem pd_1 : parseMethodDescriptor "(I)Lcom/example/kindred/kindred/core/LinkKind;" = some ⟨[.int], some (.object "com/example/kindred/kindred/core/LinkKind")⟩ := by decide +kernel
theorem pd_2 : parseMethodDescriptor "()Z" = some ⟨[], some .boolean⟩ := by decide +kernel
theorem pd_3 : parseMethodDescriptor "()Lcom/example/kindred/kindred/core/LinkKind;" = some ⟨[], some (.object "com/example/kindred/kindred/core/LinkKind")⟩ := by decide +kernel
theorem own_fldEq {args : Array Value} {Z : State} {t : Term} {C n d : String} {x : Addr} {k : Int32} (ev : t.eval args Z none [] Z = some (.ref x)) (h : (Jvm.Cond.eq (Term.field t C n d) (Term.int k)).value args Z none Z [] = some true) : Fld Z Z.heap x C n d (.int k) := by
  obtain ⟨u, w, e1, e2, -, -⟩ := cmp_v (Or.inl h)
  have e3 : w = .int k := (Option.some.inj e2).symm
  subst e3
  have e4 : u = .int k := by
    cases u <;> simp [Jvm.Cond.value, e1, e2] at h ⊢
    exact h
  subst e4
  exact Fld.start ((fld_at ev).symm.trans e1)
theorem own_mod7 (x : Int32) : (x &&& (2147483647 : Int32)) % (7 : Int32) = (0 : Int32) ∨ (x &&& (2147483647 : Int32)) % (7 : Int32) = (1 : Int32) ∨ (x &&& (2147483647 : Int32)) % (7 : Int32) = (2 : Int32) ∨ (x &&& (2147483647 : Int32)) % (7 : Int32) = (3 : Int32) ∨ (x &&& (2147483647 : Int32)) % (7 : Int32) = (4 : Int32) ∨ (x &&& (2147483647 : Int32)) % (7 : Int32) = (5 : Int32) ∨ (x &&& (2147483647 : Int32)) % (7 : Int32) = (6 : Int32) := by
  have h1 := c_mask x 2147483647 31 (by decide) (by decide)
  have h2 := (c_irem (x &&& 2147483647) 7 7 (by decide)).1 (by omega)
  generalize (x &&& 2147483647) % 7 = z at h2
  have h3 : z.toInt = 0 ∨ z.toInt = 1 ∨ z.toInt = 2 ∨ z.toInt = 3 ∨ z.toInt = 4 ∨ z.toInt = 5 ∨ z.toInt = 6 := by omega
  have e : ∀ k : Int32, z.toInt = k.toInt → z = k := fun k => Int32.toInt_inj.mp
  rcases h3 with h | h | h | h | h | h | h
  · exact Or.inl (e _ h)
  · exact Or.inr (Or.inl (e _ h))
  · exact Or.inr (Or.inr (Or.inl (e _ h)))
  · exact Or.inr (Or.inr (Or.inr (Or.inl (e _ h))))
  · exact Or.inr (Or.inr (Or.inr (Or.inr (Or.inl (e _ h)))))
  · exact Or.inr (Or.inr (Or.inr (Or.inr (Or.inr (Or.inl (e _ h))))))
  · exact Or.inr (Or.inr (Or.inr (Or.inr (Or.inr (Or.inr (e _ h))))))
theorem dOrd_0 : decode jdk_37_method_2_code 0 = .ok (.aload_n 0, 1) := by decide +kernel
theorem dOrd_1 : decode jdk_37_method_2_code 1 = .ok (.getfield 7, 3) := by decide +kernel
theorem dOrd_4 : decode jdk_37_method_2_code 4 = .ok (.ireturn, 1) := by decide +kernel
theorem pnOrd : plainName "java/lang/Enum" = true := by first | (simp [plainName, overriddenIn]; done) | decide +kernel
theorem efOrd (m : MethodId) (a0 : Addr) : entryFrame m #[(.ref a0)] 1 = mkF m 0 #[.val (.ref a0)] [] := by first | (simp [entryFrame, mkF, argsToLocals, Value.category]; done) | rfl
def QOrd (Z : State) (a0 : Addr) (w : Int32) (h0 : Heap) (n0 : Nat) (v : Option Value) (h : Heap) (L : List Loc) : Prop := v = some (.int w) ∧ Fr n0 L ∧ h = h0
set_option maxRecDepth 65536 in
set_option maxHeartbeats 40000000 in
theorem rmOrd (l : Launch) (Z : State) (a0 : Array Value) (hw : ∀ d ∈ tables_1, d.before a0 Z = true) (ws : List Jvm.Cond) (a0 : Addr) (w : Int32) (h0 : Heap) (n0 : Nat) (Z0 : n0 ≤ h0.size) (F1 : Fld Z h0 a0 "java/lang/Enum" "ordinal" "I" (.int w)) :
    MetFree l (⟨"java/lang/Enum", "ordinal", "()I"⟩ : MethodName) (head1 (Jvm.Cond.code (⟨"java/lang/Enum", "ordinal", "()I"⟩ : MethodName) jdk_37_method_2_code 1 (some .int) :: ws) ({ frames := 0, cells := 0, slots := 0, locals := 0 } : Room)) (fun a U => a = #[(.ref a0)] ∧ Z.Warmed39 U.vm ∧ U.heap = h0) (fun _ _ _ _ _ => True) (fun _ U o U' => ∃ v L, o = .returned v ∧ QOrd Z a0 w h0 n0 v U'.heap L ∧ FrameEnd U o U' L ({ frames := 0, cells := 0, slots := 0, locals := 0 } : Room).cells ({ frames := 0, cells := 0, slots := 0, locals := 0 } : Room).slots) := by
  refine MetFree.of_bodySF (plainFor_of_name pnOrd) hisR ?_
  intro p e s m args below meth c s₁ Bd hml0 hP hK
  obtain ⟨rfl, hZ, hh⟩ := hP
  have hx := Bd.exec
  have hby := Bd.bytes
  have hlk := BodyLoose.notSynchronized Bd
  have hret := Bd.returns
  have hml : c.maxLocals = 1 := hml0
  have hown : s.vm.findClass "java/lang/Enum" = some m.cls := findClass_of_methodNamed Bd.named
  have hnm := (name_of_methodNamed Bd.named Bd.method).1
  have X0 : Stand p l e ({ frames := 0, cells := 0, slots := 0, locals := 0 } : Room) s m #[(.ref a0)] below meth c s₁ [] 0 0 := Stand.of_body Bd
  have e0 : s₁.heap = h0 := by rw [← hh, Bd.state]; rfl
  have N0 := Fr.nil n0
  show OFin p e below (KPost s (QOrd Z a0 w h0 n0) ({ frames := 0, cells := 0, slots := 0, locals := 0 } : Room).cells ({ frames := 0, cells := 0, slots := 0, locals := 0 } : Room).slots) _
  rw [efOrd m a0]
  refine OFin.of (S' := s₁.setTop (mkF m 1 #[.val (.ref a0)] [(.ref a0)])) (fun t ht => ?_) ?_
  · refine XS.aloadN X0.here hx rfl (hb hby dOrd_0) rfl rfl ?_
    exact ht
  obtain ⟨T1, X1, e1, st1⟩ := getF X0 hx hZ hown (host := "") (Or.inl (hw _ (List.mem_of_getElem? (i := 20) rfl))) Via.refl e0 F1 (g := (mkF m 1 #[.val (.ref a0)] [(.ref a0)])) rfl rfl (hb hby dOrd_1)
  refine OFin.of (S' := T1.setTop (mkF m 4 #[.val (.ref a0)] [(.int w)])) (fun t ht => st1 t ht) ?_
  exact OFin.retI X1 hx hlk hret (hb hby dOrd_4) (by decide) (by decide) (by rw [e1]; exact ⟨rfl, N0, rfl⟩)
theorem dP0_0 : decode method_2_code 0 = .ok (.iload_n 0, 1) := by decide +kernel
theorem dP0_1 : decode method_2_code 1 = .ok (.ifCond .ne 7, 3) := by decide +kernel
theorem dP0_4 : decode method_2_code 4 = .ok (.getstatic 7, 3) := by decide +kernel
theorem dP0_7 : decode method_2_code 7 = .ok (.areturn, 1) := by decide +kernel
theorem pnP0 : plainName "com/example/kindred/kindred/core/LinkKindNotedPinLaw" = true := by first | (simp [plainName, overriddenIn]; done) | decide +kernel
theorem efP0 (m : MethodId)  : entryFrame m #[(.int (0 : Int32))] 1 = mkF m 0 #[.val (.int (0 : Int32))] [] := by first | (simp [entryFrame, mkF, argsToLocals, Value.category]; done) | rfl
def QP0 (Z : State) (x1 : Addr) (h0 : Heap) (n0 : Nat) (v : Option Value) (h : Heap) (L : List Loc) : Prop := v = some (.ref x1) ∧ Fr n0 L ∧ h = h0
set_option maxRecDepth 65536 in
set_option maxHeartbeats 40000000 in
theorem rmP0 (l : Launch) (Z : State) (a0 : Array Value) (hw : ∀ d ∈ tables_1, d.before a0 Z = true) (ws : List Jvm.Cond) (x1 : Addr) (h0 : Heap) (n0 : Nat) (Z0 : n0 ≤ h0.size) (S1 : Sta Z h0 "com/example/kindred/kindred/core/LinkKind" "PART_OF" "Lcom/example/kindred/kindred/core/LinkKind;" (.ref x1)) :
    MetFree l (⟨"com/example/kindred/kindred/core/LinkKindNotedPinLaw", "pick", "(I)Lcom/example/kindred/kindred/core/LinkKind;"⟩ : MethodName) (head1 (Jvm.Cond.code (⟨"com/example/kindred/kindred/core/LinkKindNotedPinLaw", "pick", "(I)Lcom/example/kindred/kindred/core/LinkKind;"⟩ : MethodName) method_2_code 1 (some (.object "com/example/kindred/kindred/core/LinkKind")) :: ws) ({ frames := 0, cells := 0, slots := 0, locals := 0 } : Room)) (fun a U => a = #[(.int (0 : Int32))] ∧ Z.Warmed39 U.vm ∧ U.heap = h0) (fun _ _ _ _ _ => True) (fun _ U o U' => ∃ v L, o = .returned v ∧ QP0 Z x1 h0 n0 v U'.heap L ∧ FrameEnd U o U' L ({ frames := 0, cells := 0, slots := 0, locals := 0 } : Room).cells ({ frames := 0, cells := 0, slots := 0, locals := 0 } : Room).slots) := by
  refine MetFree.of_bodySF (plainFor_of_name pnP0) hisR ?_
  intro p e s m args below meth c s₁ Bd hml0 hP hK
  obtain ⟨rfl, hZ, hh⟩ := hP
  have hx := Bd.exec
  have hby := Bd.bytes
  have hlk := BodyLoose.notSynchronized Bd
  have hret := Bd.returns
  have hml : c.maxLocals = 1 := hml0
  have hown : s.vm.findClass "com/example/kindred/kindred/core/LinkKindNotedPinLaw" = some m.cls := findClass_of_methodNamed Bd.named
  have hnm := (name_of_methodNamed Bd.named Bd.method).1
  have X0 : Stand p l e ({ frames := 0, cells := 0, slots := 0, locals := 0 } : Room) s m #[(.int (0 : Int32))] below meth c s₁ [] 0 0 := Stand.of_body Bd
  have e0 : s₁.heap = h0 := by rw [← hh, Bd.state]; rfl
  have N0 := Fr.nil n0
  show OFin p e below (KPost s (QP0 Z x1 h0 n0) ({ frames := 0, cells := 0, slots := 0, locals := 0 } : Room).cells ({ frames := 0, cells := 0, slots := 0, locals := 0 } : Room).slots) _
  rw [efP0 m ]
  refine OFin.of (S' := s₁.setTop (mkF m 4 #[.val (.int (0 : Int32))] [])) (fun t ht => ?_) ?_
  · refine XS.iloadN X0.here hx rfl (hb hby dP0_0) rfl ?_
    show Steps p.tables e below (s₁.setTop (mkF m 1 _ [(.int (0 : Int32))])) _
    refine XS.ifNo X0.here hx rfl (hb hby dP0_1) rfl ((if0 _ _).trans (teq (by decide : (0 : Int32) = (0 : Int32))).2) ?_
    exact ht
  obtain ⟨T1, X1, e1, st1⟩ := getS (host := "") X0 hx hZ hown (hw _ (List.mem_of_getElem? (i := 5) rfl)) Via.refl e0 S1 (g := (mkF m 4 #[.val (.int (0 : Int32))] [])) rfl (hb hby dP0_4)
  refine OFin.of (S' := T1.setTop (mkF m 7 #[.val (.int (0 : Int32))] [(.ref x1)])) (fun t ht => st1 t ht) ?_
  exact OFin.retA X1 hx hlk (t := (.object "com/example/kindred/kindred/core/LinkKind")) rfl rfl hret (hb hby dP0_7) (by decide) (by decide) (by rw [e1]; exact ⟨rfl, N0, rfl⟩)
theorem dV0_0 : decode prog_8_method_4_code 0 = .ok (.aload_n 0, 1) := by decide +kernel
theorem dV0_1 : decode prog_8_method_4_code 1 = .ok (.invokevirtual 44, 3) := by decide +kernel
theorem dV0_4 : decode prog_8_method_4_code 4 = .ok (.tableswitch 44 0 6 #[54, 60, 66, 72, 78, 78, 78], 44) := by decide +kernel
theorem dV0_58 : decode prog_8_method_4_code 58 = .ok (.getstatic 7, 3) := by decide +kernel
theorem dV0_61 : decode prog_8_method_4_code 61 = .ok (.goto 22, 3) := by decide +kernel
theorem dV0_83 : decode prog_8_method_4_code 83 = .ok (.areturn, 1) := by decide +kernel
theorem pnV0 : plainName "com/example/kindred/kindred/core/LinkKind" = true := by first | (simp [plainName, overriddenIn]; done) | decide +kernel
theorem efV0 (m : MethodId) (a0 : Addr) : entryFrame m #[(.ref a0)] 1 = mkF m 0 #[.val (.ref a0)] [] := by first | (simp [entryFrame, mkF, argsToLocals, Value.category]; done) | rfl
def QV0 (Z : State) (a0 : Addr) (x1 : Addr) (h0 : Heap) (n0 : Nat) (v : Option Value) (h : Heap) (L : List Loc) : Prop := v = some (.ref x1) ∧ Fr n0 L ∧ h = h0
set_option maxRecDepth 65536 in
set_option maxHeartbeats 40000000 in
theorem rmV0 (l : Launch) (Z : State) (a0 : Array Value) (hw : ∀ d ∈ tables_1, d.before a0 Z = true) (ws : List Jvm.Cond) (a0 : Addr) (x1 : Addr) (h0 : Heap) (n0 : Nat) (Z0 : n0 ≤ h0.size) (S1 : Sta Z h0 "com/example/kindred/kindred/core/LinkKind" "PARTS" "Lcom/example/kindred/kindred/core/LinkKind;" (.ref x1)) (F1 : Fld Z h0 a0 "java/lang/Enum" "ordinal" "I" (.int (0 : Int32))) (E1 : Exa Z h0 a0 "com/example/kindred/kindred/core/LinkKind") :
    MetFree l (⟨"com/example/kindred/kindred/core/LinkKind", "inverse", "()Lcom/example/kindred/kindred/core/LinkKind;"⟩ : MethodName) (head1 (Jvm.Cond.code (⟨"com/example/kindred/kindred/core/LinkKind", "inverse", "()Lcom/example/kindred/kindred/core/LinkKind;"⟩ : MethodName) prog_8_method_4_code 1 (some (.object "com/example/kindred/kindred/core/LinkKind")) :: ws) ({ frames := 1, cells := 0, slots := 0, locals := 12 } : Room)) (fun a U => a = #[(.ref a0)] ∧ Z.Warmed39 U.vm ∧ U.heap = h0) (fun _ _ _ _ _ => True) (fun _ U o U' => ∃ v L, o = .returned v ∧ QV0 Z a0 x1 h0 n0 v U'.heap L ∧ FrameEnd U o U' L ({ frames := 1, cells := 0, slots := 0, locals := 12 } : Room).cells ({ frames := 1, cells := 0, slots := 0, locals := 12 } : Room).slots) := by
  refine MetFree.of_bodySF (plainFor_of_name pnV0) hisR ?_
  intro p e s m args below meth c s₁ Bd hml0 hP hK
  obtain ⟨rfl, hZ, hh⟩ := hP
  have hx := Bd.exec
  have hby := Bd.bytes
  have hlk := BodyLoose.notSynchronized Bd
  have hret := Bd.returns
  have hml : c.maxLocals = 1 := hml0
  have hown : s.vm.findClass "com/example/kindred/kindred/core/LinkKind" = some m.cls := findClass_of_methodNamed Bd.named
  have hnm := (name_of_methodNamed Bd.named Bd.method).1
  have X0 : Stand p l e ({ frames := 1, cells := 0, slots := 0, locals := 12 } : Room) s m #[(.ref a0)] below meth c s₁ [] 0 0 := Stand.of_body Bd
  have e0 : s₁.heap = h0 := by rw [← hh, Bd.state]; rfl
  have N0 := Fr.nil n0
  show OFin p e below (KPost s (QV0 Z a0 x1 h0 n0) ({ frames := 1, cells := 0, slots := 0, locals := 12 } : Room).cells ({ frames := 1, cells := 0, slots := 0, locals := 12 } : Room).slots) _
  rw [efV0 m a0]
  refine OFin.of (S' := s₁.setTop (mkF m 1 #[.val (.ref a0)] [(.ref a0)])) (fun t ht => ?_) ?_
  · refine XS.aloadN X0.here hx rfl (hb hby dV0_0) rfl rfl ?_
    exact ht
  obtain ⟨cq2, kq2, q2a, q2b, q2c⟩ := isOf hZ e0 E1
  obtain ⟨_, _, ⟨T1, L1, k1, n1⟩, -, X1, ⟨Lc1, hQ1, l1, y1, z1⟩, st1⟩ := X0.virtualBackUp hx (owner := "java/lang/Enum") (x := (⟨"com/example/kindred/kindred/core/LinkKind", "ordinal", "()I"⟩ : MethodName)) (y := (⟨"java/lang/Enum", "ordinal", "()I"⟩ : MethodName)) hown (mvT hZ (hw _ (List.mem_of_getElem? (i := 13) rfl))) (mvT hZ (hw _ (List.mem_of_getElem? (i := 14) rfl))) (mvT hZ (hw _ (List.mem_of_getElem? (i := 15) rfl))) (by decide) (mvT hZ (hw _ (List.mem_of_getElem? (i := 17) rfl))) (mvT hZ (hw _ (List.mem_of_getElem? (i := 16) rfl))) (backOf (W := 0) (rmOrd l Z _ hw [] a0 (0 : Int32) h0 n0 Z0 F1) hZ (hw _ (List.mem_of_getElem? (i := 19) rfl)) (hw _ (List.mem_of_getElem? (i := 18) rfl)) (by decide) (by decide)) q2a q2c (g := (mkF m 1 #[.val (.ref a0)] [(.ref a0)])) rfl (by rw [hml]; rfl) (Steps.refl _) (argsL := []) (rest := []) (lenOf pd_0 rfl) rfl (by show 2 * 0 + _ ≤ _; exact Nat.le_of_eq rfl) (hb hby dV0_1) (fun _ _ => ⟨rfl, e0, (by decide : 0 + 0 ≤ _), (by decide : 0 + 0 ≤ _)⟩)
  dsimp only [Pt.U, Pt.locs, Pt.cells, Pt.slots] at X1 l1 y1 z1 st1 hQ1
  subst l1 y1 z1
  obtain ⟨rfl, Nq1, hs1⟩ := hQ1
  have N3 := Fr.app N0 Nq1
  refine OFin.to (S' := T1.setTop (mkF m 4 #[.val (.ref a0)] [(.int (0 : Int32))])) st1 ?_
  refine OFin.of (S' := T1.setTop (mkF m 58 #[.val (.ref a0)] [])) (fun t ht => ?_) ?_
  · refine XS.tswIn X1.here hx rfl (pc0 := 4) (pc' := 58) (o := 54) rfl (hb hby dV0_4) rfl (by decide) (by decide) (by decide) (by decide) ?_
    exact ht
  obtain ⟨T4, X4, e4, st4⟩ := getS (host := "") X1 hx hZ hown (hw _ (List.mem_of_getElem? (i := 27) rfl)) Via.refl hs1 S1 (g := (mkF m 58 #[.val (.ref a0)] [])) rfl (hb hby dV0_58)
  refine OFin.of (S' := T4.setTop (mkF m 61 #[.val (.ref a0)] [(.ref x1)])) (fun t ht => st4 t ht) ?_
  refine OFin.of (S' := T4.setTop (mkF m 83 #[.val (.ref a0)] [(.ref x1)])) (fun t ht => ?_) ?_
  · refine XS.goto X4.here hx rfl (pc0 := 61) (pc' := 83) rfl (hb hby dV0_61) (by decide) (by decide) ?_
    exact ht
  exact OFin.retA X4 hx hlk (t := (.object "com/example/kindred/kindred/core/LinkKind")) rfl rfl hret (hb hby dV0_83) (by decide) (by decide) (by rw [e4]; exact ⟨rfl, N3, rfl⟩)
theorem dN0_0 : decode prog_8_method_5_code 0 = .ok (.aload_n 0, 1) := by decide +kernel
theorem dN0_1 : decode prog_8_method_5_code 1 = .ok (.invokevirtual 44, 3) := by decide +kernel
theorem dN0_4 : decode prog_8_method_5_code 4 = .ok (.tableswitch 44 0 6 #[58, 58, 58, 58, 54, 54, 54], 44) := by decide +kernel
theorem dN0_62 : decode prog_8_method_5_code 62 = .ok (.iconst 0, 1) := by decide +kernel
theorem dN0_63 : decode prog_8_method_5_code 63 = .ok (.ireturn, 1) := by decide +kernel
theorem pnN0 : plainName "com/example/kindred/kindred/core/LinkKind" = true := by first | (simp [plainName, overriddenIn]; done) | decide +kernel
theorem efN0 (m : MethodId) (a0 : Addr) : entryFrame m #[(.ref a0)] 1 = mkF m 0 #[.val (.ref a0)] [] := by first | (simp [entryFrame, mkF, argsToLocals, Value.category]; done) | rfl
def QN0 (Z : State) (a0 : Addr) (h0 : Heap) (n0 : Nat) (v : Option Value) (h : Heap) (L : List Loc) : Prop := v = some (.int (0 : Int32)) ∧ Fr n0 L ∧ h = h0
set_option maxRecDepth 65536 in
set_option maxHeartbeats 40000000 in
theorem rmN0 (l : Launch) (Z : State) (a0 : Array Value) (hw : ∀ d ∈ tables_1, d.before a0 Z = true) (ws : List Jvm.Cond) (a0 : Addr) (h0 : Heap) (n0 : Nat) (Z0 : n0 ≤ h0.size) (F1 : Fld Z h0 a0 "java/lang/Enum" "ordinal" "I" (.int (0 : Int32))) (E1 : Exa Z h0 a0 "com/example/kindred/kindred/core/LinkKind") :
    MetFree l (⟨"com/example/kindred/kindred/core/LinkKind", "noted", "()Z"⟩ : MethodName) (head1 (Jvm.Cond.code (⟨"com/example/kindred/kindred/core/LinkKind", "noted", "()Z"⟩ : MethodName) prog_8_method_5_code 1 (some .boolean) :: ws) ({ frames := 1, cells := 0, slots := 0, locals := 12 } : Room)) (fun a U => a = #[(.ref a0)] ∧ Z.Warmed39 U.vm ∧ U.heap = h0) (fun _ _ _ _ _ => True) (fun _ U o U' => ∃ v L, o = .returned v ∧ QN0 Z a0 h0 n0 v U'.heap L ∧ FrameEnd U o U' L ({ frames := 1, cells := 0, slots := 0, locals := 12 } : Room).cells ({ frames := 1, cells := 0, slots := 0, locals := 12 } : Room).slots) := by
  refine MetFree.of_bodySF (plainFor_of_name pnN0) hisR ?_
  intro p e s m args below meth c s₁ Bd hml0 hP hK
  obtain ⟨rfl, hZ, hh⟩ := hP
  have hx := Bd.exec
  have hby := Bd.bytes
  have hlk := BodyLoose.notSynchronized Bd
  have hret := Bd.returns
  have hml : c.maxLocals = 1 := hml0
  have hown : s.vm.findClass "com/example/kindred/kindred/core/LinkKind" = some m.cls := findClass_of_methodNamed Bd.named
  have hnm := (name_of_methodNamed Bd.named Bd.method).1
  have X0 : Stand p l e ({ frames := 1, cells := 0, slots := 0, locals := 12 } : Room) s m #[(.ref a0)] below meth c s₁ [] 0 0 := Stand.of_body Bd
  have e0 : s₁.heap = h0 := by rw [← hh, Bd.state]; rfl
  have N0 := Fr.nil n0
  show OFin p e below (KPost s (QN0 Z a0 h0 n0) ({ frames := 1, cells := 0, slots := 0, locals := 12 } : Room).cells ({ frames := 1, cells := 0, slots := 0, locals := 12 } : Room).slots) _
  rw [efN0 m a0]
  refine OFin.of (S' := s₁.setTop (mkF m 1 #[.val (.ref a0)] [(.ref a0)])) (fun t ht => ?_) ?_
  · refine XS.aloadN X0.here hx rfl (hb hby dN0_0) rfl rfl ?_
    exact ht
  obtain ⟨cq2, kq2, q2a, q2b, q2c⟩ := isOf hZ e0 E1
  obtain ⟨_, _, ⟨T1, L1, k1, n1⟩, -, X1, ⟨Lc1, hQ1, l1, y1, z1⟩, st1⟩ := X0.virtualBackUp hx (owner := "java/lang/Enum") (x := (⟨"com/example/kindred/kindred/core/LinkKind", "ordinal", "()I"⟩ : MethodName)) (y := (⟨"java/lang/Enum", "ordinal", "()I"⟩ : MethodName)) hown (mvT hZ (hw _ (List.mem_of_getElem? (i := 13) rfl))) (mvT hZ (hw _ (List.mem_of_getElem? (i := 14) rfl))) (mvT hZ (hw _ (List.mem_of_getElem? (i := 15) rfl))) (by decide) (mvT hZ (hw _ (List.mem_of_getElem? (i := 17) rfl))) (mvT hZ (hw _ (List.mem_of_getElem? (i := 16) rfl))) (backOf (W := 0) (rmOrd l Z _ hw [] a0 (0 : Int32) h0 n0 Z0 F1) hZ (hw _ (List.mem_of_getElem? (i := 19) rfl)) (hw _ (List.mem_of_getElem? (i := 18) rfl)) (by decide) (by decide)) q2a q2c (g := (mkF m 1 #[.val (.ref a0)] [(.ref a0)])) rfl (by rw [hml]; rfl) (Steps.refl _) (argsL := []) (rest := []) (lenOf pd_0 rfl) rfl (by show 2 * 0 + _ ≤ _; exact Nat.le_of_eq rfl) (hb hby dN0_1) (fun _ _ => ⟨rfl, e0, (by decide : 0 + 0 ≤ _), (by decide : 0 + 0 ≤ _)⟩)
  dsimp only [Pt.U, Pt.locs, Pt.cells, Pt.slots] at X1 l1 y1 z1 st1 hQ1
  subst l1 y1 z1
  obtain ⟨rfl, Nq1, hs1⟩ := hQ1
  have N3 := Fr.app N0 Nq1
  refine OFin.to (S' := T1.setTop (mkF m 4 #[.val (.ref a0)] [(.int (0 : Int32))])) st1 ?_
  refine OFin.of (S' := T1.setTop (mkF m 63 #[.val (.ref a0)] [(.int (0 : Int32))])) (fun t ht => ?_) ?_
  · refine XS.tswIn X1.here hx rfl (pc0 := 4) (pc' := 62) (o := 58) rfl (hb hby dN0_4) rfl (by decide) (by decide) (by decide) (by decide) ?_
    show Steps p.tables e below (T1.setTop (mkF m 62 _ [])) _
    refine XS.iconst X1.here hx rfl (hb hby dN0_62) ?_
    exact ht
  exact OFin.retB X1 hx hlk (t := .boolean) (by simp) hret (hb hby dN0_63) (by decide) (by decide) (by rw [hs1]; exact ⟨rfl, N3, rfl⟩)
theorem dP1_0 : decode method_2_code 0 = .ok (.iload_n 0, 1) := by decide +kernel
theorem dP1_1 : decode method_2_code 1 = .ok (.ifCond .ne 7, 3) := by decide +kernel
theorem dP1_8 : decode method_2_code 8 = .ok (.iload_n 0, 1) := by decide +kernel
theorem dP1_9 : decode method_2_code 9 = .ok (.iconst 1, 1) := by decide +kernel
theorem dP1_10 : decode method_2_code 10 = .ok (.if_icmp .ne 7, 3) := by decide +kernel
theorem dP1_13 : decode method_2_code 13 = .ok (.getstatic 13, 3) := by decide +kernel
theorem dP1_16 : decode method_2_code 16 = .ok (.areturn, 1) := by decide +kernel
theorem pnP1 : plainName "com/example/kindred/kindred/core/LinkKindNotedPinLaw" = true := by first | (simp [plainName, overriddenIn]; done) | decide +kernel
theorem efP1 (m : MethodId)  : entryFrame m #[(.int (1 : Int32))] 1 = mkF m 0 #[.val (.int (1 : Int32))] [] := by first | (simp [entryFrame, mkF, argsToLocals, Value.category]; done) | rfl
def QP1 (Z : State) (x1 : Addr) (h0 : Heap) (n0 : Nat) (v : Option Value) (h : Heap) (L : List Loc) : Prop := v = some (.ref x1) ∧ Fr n0 L ∧ h = h0
set_option maxRecDepth 65536 in
set_option maxHeartbeats 40000000 in
theorem rmP1 (l : Launch) (Z : State) (a0 : Array Value) (hw : ∀ d ∈ tables_1, d.before a0 Z = true) (ws : List Jvm.Cond) (x1 : Addr) (h0 : Heap) (n0 : Nat) (Z0 : n0 ≤ h0.size) (S1 : Sta Z h0 "com/example/kindred/kindred/core/LinkKind" "PARTS" "Lcom/example/kindred/kindred/core/LinkKind;" (.ref x1)) :
    MetFree l (⟨"com/example/kindred/kindred/core/LinkKindNotedPinLaw", "pick", "(I)Lcom/example/kindred/kindred/core/LinkKind;"⟩ : MethodName) (head1 (Jvm.Cond.code (⟨"com/example/kindred/kindred/core/LinkKindNotedPinLaw", "pick", "(I)Lcom/example/kindred/kindred/core/LinkKind;"⟩ : MethodName) method_2_code 1 (some (.object "com/example/kindred/kindred/core/LinkKind")) :: ws) ({ frames := 0, cells := 0, slots := 0, locals := 0 } : Room)) (fun a U => a = #[(.int (1 : Int32))] ∧ Z.Warmed39 U.vm ∧ U.heap = h0) (fun _ _ _ _ _ => True) (fun _ U o U' => ∃ v L, o = .returned v ∧ QP1 Z x1 h0 n0 v U'.heap L ∧ FrameEnd U o U' L ({ frames := 0, cells := 0, slots := 0, locals := 0 } : Room).cells ({ frames := 0, cells := 0, slots := 0, locals := 0 } : Room).slots) := by
  refine MetFree.of_bodySF (plainFor_of_name pnP1) hisR ?_
  intro p e s m args below meth c s₁ Bd hml0 hP hK
  obtain ⟨rfl, hZ, hh⟩ := hP
  have hx := Bd.exec
  have hby := Bd.bytes
  have hlk := BodyLoose.notSynchronized Bd
  have hret := Bd.returns
  have hml : c.maxLocals = 1 := hml0
  have hown : s.vm.findClass "com/example/kindred/kindred/core/LinkKindNotedPinLaw" = some m.cls := findClass_of_methodNamed Bd.named
  have hnm := (name_of_methodNamed Bd.named Bd.method).1
  have X0 : Stand p l e ({ frames := 0, cells := 0, slots := 0, locals := 0 } : Room) s m #[(.int (1 : Int32))] below meth c s₁ [] 0 0 := Stand.of_body Bd
  have e0 : s₁.heap = h0 := by rw [← hh, Bd.state]; rfl
  have N0 := Fr.nil n0
  show OFin p e below (KPost s (QP1 Z x1 h0 n0) ({ frames := 0, cells := 0, slots := 0, locals := 0 } : Room).cells ({ frames := 0, cells := 0, slots := 0, locals := 0 } : Room).slots) _
  rw [efP1 m ]
  refine OFin.of (S' := s₁.setTop (mkF m 13 #[.val (.int (1 : Int32))] [])) (fun t ht => ?_) ?_
  · refine XS.iloadN X0.here hx rfl (hb hby dP1_0) rfl ?_
    show Steps p.tables e below (s₁.setTop (mkF m 1 _ [(.int (1 : Int32))])) _
    refine XS.ifYes X0.here hx rfl (pc0 := 1) (pc' := 8) rfl (hb hby dP1_1) rfl ((if0 _ _).trans (feq (by decide : ¬ ((1 : Int32) = (0 : Int32)))).2) (by decide) (by decide) ?_
    show Steps p.tables e below (s₁.setTop (mkF m 8 _ [])) _
    refine XS.iloadN X0.here hx rfl (hb hby dP1_8) rfl ?_
    show Steps p.tables e below (s₁.setTop (mkF m 9 _ [(.int (1 : Int32))])) _
    refine XS.iconst X0.here hx rfl (hb hby dP1_9) ?_
    show Steps p.tables e below (s₁.setTop (mkF m 10 _ [(.int (1 : Int32)), (.int (1 : Int32))])) _
    refine XS.icmpNo X0.here hx rfl (hb hby dP1_10) rfl (teq (by decide : (1 : Int32) = (1 : Int32))).2 ?_
    exact ht
  obtain ⟨T1, X1, e1, st1⟩ := getS (host := "") X0 hx hZ hown (hw _ (List.mem_of_getElem? (i := 41) rfl)) Via.refl e0 S1 (g := (mkF m 13 #[.val (.int (1 : Int32))] [])) rfl (hb hby dP1_13)
  refine OFin.of (S' := T1.setTop (mkF m 16 #[.val (.int (1 : Int32))] [(.ref x1)])) (fun t ht => st1 t ht) ?_
  exact OFin.retA X1 hx hlk (t := (.object "com/example/kindred/kindred/core/LinkKind")) rfl rfl hret (hb hby dP1_16) (by decide) (by decide) (by rw [e1]; exact ⟨rfl, N0, rfl⟩)
theorem dV1_0 : decode prog_8_method_4_code 0 = .ok (.aload_n 0, 1) := by decide +kernel
theorem dV1_1 : decode prog_8_method_4_code 1 = .ok (.invokevirtual 44, 3) := by decide +kernel
theorem dV1_4 : decode prog_8_method_4_code 4 = .ok (.tableswitch 44 0 6 #[54, 60, 66, 72, 78, 78, 78], 44) := by decide +kernel
theorem dV1_64 : decode prog_8_method_4_code 64 = .ok (.getstatic 3, 3) := by decide +kernel
theorem dV1_67 : decode prog_8_method_4_code 67 = .ok (.goto 16, 3) := by decide +kernel
theorem dV1_83 : decode prog_8_method_4_code 83 = .ok (.areturn, 1) := by decide +kernel
theorem pnV1 : plainName "com/example/kindred/kindred/core/LinkKind" = true := by first | (simp [plainName, overriddenIn]; done) | decide +kernel
theorem efV1 (m : MethodId) (a0 : Addr) : entryFrame m #[(.ref a0)] 1 = mkF m 0 #[.val (.ref a0)] [] := by first | (simp [entryFrame, mkF, argsToLocals, Value.category]; done) | rfl
def QV1 (Z : State) (a0 : Addr) (x1 : Addr) (h0 : Heap) (n0 : Nat) (v : Option Value) (h : Heap) (L : List Loc) : Prop := v = some (.ref x1) ∧ Fr n0 L ∧ h = h0
set_option maxRecDepth 65536 in
set_option maxHeartbeats 40000000 in
theorem rmV1 (l : Launch) (Z : State) (a0 : Array Value) (hw : ∀ d ∈ tables_1, d.before a0 Z = true) (ws : List Jvm.Cond) (a0 : Addr) (x1 : Addr) (h0 : Heap) (n0 : Nat) (Z0 : n0 ≤ h0.size) (S1 : Sta Z h0 "com/example/kindred/kindred/core/LinkKind" "PART_OF" "Lcom/example/kindred/kindred/core/LinkKind;" (.ref x1)) (F1 : Fld Z h0 a0 "java/lang/Enum" "ordinal" "I" (.int (1 : Int32))) (E1 : Exa Z h0 a0 "com/example/kindred/kindred/core/LinkKind") :
    MetFree l (⟨"com/example/kindred/kindred/core/LinkKind", "inverse", "()Lcom/example/kindred/kindred/core/LinkKind;"⟩ : MethodName) (head1 (Jvm.Cond.code (⟨"com/example/kindred/kindred/core/LinkKind", "inverse", "()Lcom/example/kindred/kindred/core/LinkKind;"⟩ : MethodName) prog_8_method_4_code 1 (some (.object "com/example/kindred/kindred/core/LinkKind")) :: ws) ({ frames := 1, cells := 0, slots := 0, locals := 12 } : Room)) (fun a U => a = #[(.ref a0)] ∧ Z.Warmed39 U.vm ∧ U.heap = h0) (fun _ _ _ _ _ => True) (fun _ U o U' => ∃ v L, o = .returned v ∧ QV1 Z a0 x1 h0 n0 v U'.heap L ∧ FrameEnd U o U' L ({ frames := 1, cells := 0, slots := 0, locals := 12 } : Room).cells ({ frames := 1, cells := 0, slots := 0, locals := 12 } : Room).slots) := by
  refine MetFree.of_bodySF (plainFor_of_name pnV1) hisR ?_
  intro p e s m args below meth c s₁ Bd hml0 hP hK
  obtain ⟨rfl, hZ, hh⟩ := hP
  have hx := Bd.exec
  have hby := Bd.bytes
  have hlk := BodyLoose.notSynchronized Bd
  have hret := Bd.returns
  have hml : c.maxLocals = 1 := hml0
  have hown : s.vm.findClass "com/example/kindred/kindred/core/LinkKind" = some m.cls := findClass_of_methodNamed Bd.named
  have hnm := (name_of_methodNamed Bd.named Bd.method).1
  have X0 : Stand p l e ({ frames := 1, cells := 0, slots := 0, locals := 12 } : Room) s m #[(.ref a0)] below meth c s₁ [] 0 0 := Stand.of_body Bd
  have e0 : s₁.heap = h0 := by rw [← hh, Bd.state]; rfl
  have N0 := Fr.nil n0
  show OFin p e below (KPost s (QV1 Z a0 x1 h0 n0) ({ frames := 1, cells := 0, slots := 0, locals := 12 } : Room).cells ({ frames := 1, cells := 0, slots := 0, locals := 12 } : Room).slots) _
  rw [efV1 m a0]
  refine OFin.of (S' := s₁.setTop (mkF m 1 #[.val (.ref a0)] [(.ref a0)])) (fun t ht => ?_) ?_
  · refine XS.aloadN X0.here hx rfl (hb hby dV1_0) rfl rfl ?_
    exact ht
  obtain ⟨cq2, kq2, q2a, q2b, q2c⟩ := isOf hZ e0 E1
  obtain ⟨_, _, ⟨T1, L1, k1, n1⟩, -, X1, ⟨Lc1, hQ1, l1, y1, z1⟩, st1⟩ := X0.virtualBackUp hx (owner := "java/lang/Enum") (x := (⟨"com/example/kindred/kindred/core/LinkKind", "ordinal", "()I"⟩ : MethodName)) (y := (⟨"java/lang/Enum", "ordinal", "()I"⟩ : MethodName)) hown (mvT hZ (hw _ (List.mem_of_getElem? (i := 13) rfl))) (mvT hZ (hw _ (List.mem_of_getElem? (i := 14) rfl))) (mvT hZ (hw _ (List.mem_of_getElem? (i := 15) rfl))) (by decide) (mvT hZ (hw _ (List.mem_of_getElem? (i := 17) rfl))) (mvT hZ (hw _ (List.mem_of_getElem? (i := 16) rfl))) (backOf (W := 0) (rmOrd l Z _ hw [] a0 (1 : Int32) h0 n0 Z0 F1) hZ (hw _ (List.mem_of_getElem? (i := 19) rfl)) (hw _ (List.mem_of_getElem? (i := 18) rfl)) (by decide) (by decide)) q2a q2c (g := (mkF m 1 #[.val (.ref a0)] [(.ref a0)])) rfl (by rw [hml]; rfl) (Steps.refl _) (argsL := []) (rest := []) (lenOf pd_0 rfl) rfl (by show 2 * 0 + _ ≤ _; exact Nat.le_of_eq rfl) (hb hby dV1_1) (fun _ _ => ⟨rfl, e0, (by decide : 0 + 0 ≤ _), (by decide : 0 + 0 ≤ _)⟩)
  dsimp only [Pt.U, Pt.locs, Pt.cells, Pt.slots] at X1 l1 y1 z1 st1 hQ1
  subst l1 y1 z1
  obtain ⟨rfl, Nq1, hs1⟩ := hQ1
  have N3 := Fr.app N0 Nq1
  refine OFin.to (S' := T1.setTop (mkF m 4 #[.val (.ref a0)] [(.int (1 : Int32))])) st1 ?_
  refine OFin.of (S' := T1.setTop (mkF m 64 #[.val (.ref a0)] [])) (fun t ht => ?_) ?_
  · refine XS.tswIn X1.here hx rfl (pc0 := 4) (pc' := 64) (o := 60) rfl (hb hby dV1_4) rfl (by decide) (by decide) (by decide) (by decide) ?_
    exact ht
  obtain ⟨T4, X4, e4, st4⟩ := getS (host := "") X1 hx hZ hown (hw _ (List.mem_of_getElem? (i := 42) rfl)) Via.refl hs1 S1 (g := (mkF m 64 #[.val (.ref a0)] [])) rfl (hb hby dV1_64)
  refine OFin.of (S' := T4.setTop (mkF m 67 #[.val (.ref a0)] [(.ref x1)])) (fun t ht => st4 t ht) ?_
  refine OFin.of (S' := T4.setTop (mkF m 83 #[.val (.ref a0)] [(.ref x1)])) (fun t ht => ?_) ?_
  · refine XS.goto X4.here hx rfl (pc0 := 67) (pc' := 83) rfl (hb hby dV1_67) (by decide) (by decide) ?_
    exact ht
  exact OFin.retA X4 hx hlk (t := (.object "com/example/kindred/kindred/core/LinkKind")) rfl rfl hret (hb hby dV1_83) (by decide) (by decide) (by rw [e4]; exact ⟨rfl, N3, rfl⟩)
theorem dN1_0 : decode prog_8_method_5_code 0 = .ok (.aload_n 0, 1) := by decide +kernel
theorem dN1_1 : decode prog_8_method_5_code 1 = .ok (.invokevirtual 44, 3) := by decide +kernel
theorem dN1_4 : decode prog_8_method_5_code 4 = .ok (.tableswitch 44 0 6 #[58, 58, 58, 58, 54, 54, 54], 44) := by decide +kernel
theorem dN1_62 : decode prog_8_method_5_code 62 = .ok (.iconst 0, 1) := by decide +kernel
theorem dN1_63 : decode prog_8_method_5_code 63 = .ok (.ireturn, 1) := by decide +kernel
theorem pnN1 : plainName "com/example/kindred/kindred/core/LinkKind" = true := by first | (simp [plainName, overriddenIn]; done) | decide +kernel
theorem efN1 (m : MethodId) (a0 : Addr) : entryFrame m #[(.ref a0)] 1 = mkF m 0 #[.val (.ref a0)] [] := by first | (simp [entryFrame, mkF, argsToLocals, Value.category]; done) | rfl
def QN1 (Z : State) (a0 : Addr) (h0 : Heap) (n0 : Nat) (v : Option Value) (h : Heap) (L : List Loc) : Prop := v = some (.int (0 : Int32)) ∧ Fr n0 L ∧ h = h0
set_option maxRecDepth 65536 in
set_option maxHeartbeats 40000000 in
theorem rmN1 (l : Launch) (Z : State) (a0 : Array Value) (hw : ∀ d ∈ tables_1, d.before a0 Z = true) (ws : List Jvm.Cond) (a0 : Addr) (h0 : Heap) (n0 : Nat) (Z0 : n0 ≤ h0.size) (F1 : Fld Z h0 a0 "java/lang/Enum" "ordinal" "I" (.int (1 : Int32))) (E1 : Exa Z h0 a0 "com/example/kindred/kindred/core/LinkKind") :
    MetFree l (⟨"com/example/kindred/kindred/core/LinkKind", "noted", "()Z"⟩ : MethodName) (head1 (Jvm.Cond.code (⟨"com/example/kindred/kindred/core/LinkKind", "noted", "()Z"⟩ : MethodName) prog_8_method_5_code 1 (some .boolean) :: ws) ({ frames := 1, cells := 0, slots := 0, locals := 12 } : Room)) (fun a U => a = #[(.ref a0)] ∧ Z.Warmed39 U.vm ∧ U.heap = h0) (fun _ _ _ _ _ => True) (fun _ U o U' => ∃ v L, o = .returned v ∧ QN1 Z a0 h0 n0 v U'.heap L ∧ FrameEnd U o U' L ({ frames := 1, cells := 0, slots := 0, locals := 12 } : Room).cells ({ frames := 1, cells := 0, slots := 0, locals := 12 } : Room).slots) := by
  refine MetFree.of_bodySF (plainFor_of_name pnN1) hisR ?_
  intro p e s m args below meth c s₁ Bd hml0 hP hK
  obtain ⟨rfl, hZ, hh⟩ := hP
  have hx := Bd.exec
  have hby := Bd.bytes
  have hlk := BodyLoose.notSynchronized Bd
  have hret := Bd.returns
  have hml : c.maxLocals = 1 := hml0
  have hown : s.vm.findClass "com/example/kindred/kindred/core/LinkKind" = some m.cls := findClass_of_methodNamed Bd.named
  have hnm := (name_of_methodNamed Bd.named Bd.method).1
  have X0 : Stand p l e ({ frames := 1, cells := 0, slots := 0, locals := 12 } : Room) s m #[(.ref a0)] below meth c s₁ [] 0 0 := Stand.of_body Bd
  have e0 : s₁.heap = h0 := by rw [← hh, Bd.state]; rfl
  have N0 := Fr.nil n0
  show OFin p e below (KPost s (QN1 Z a0 h0 n0) ({ frames := 1, cells := 0, slots := 0, locals := 12 } : Room).cells ({ frames := 1, cells := 0, slots := 0, locals := 12 } : Room).slots) _
  rw [efN1 m a0]
  refine OFin.of (S' := s₁.setTop (mkF m 1 #[.val (.ref a0)] [(.ref a0)])) (fun t ht => ?_) ?_
  · refine XS.aloadN X0.here hx rfl (hb hby dN1_0) rfl rfl ?_
    exact ht
  obtain ⟨cq2, kq2, q2a, q2b, q2c⟩ := isOf hZ e0 E1
  obtain ⟨_, _, ⟨T1, L1, k1, n1⟩, -, X1, ⟨Lc1, hQ1, l1, y1, z1⟩, st1⟩ := X0.virtualBackUp hx (owner := "java/lang/Enum") (x := (⟨"com/example/kindred/kindred/core/LinkKind", "ordinal", "()I"⟩ : MethodName)) (y := (⟨"java/lang/Enum", "ordinal", "()I"⟩ : MethodName)) hown (mvT hZ (hw _ (List.mem_of_getElem? (i := 13) rfl))) (mvT hZ (hw _ (List.mem_of_getElem? (i := 14) rfl))) (mvT hZ (hw _ (List.mem_of_getElem? (i := 15) rfl))) (by decide) (mvT hZ (hw _ (List.mem_of_getElem? (i := 17) rfl))) (mvT hZ (hw _ (List.mem_of_getElem? (i := 16) rfl))) (backOf (W := 0) (rmOrd l Z _ hw [] a0 (1 : Int32) h0 n0 Z0 F1) hZ (hw _ (List.mem_of_getElem? (i := 19) rfl)) (hw _ (List.mem_of_getElem? (i := 18) rfl)) (by decide) (by decide)) q2a q2c (g := (mkF m 1 #[.val (.ref a0)] [(.ref a0)])) rfl (by rw [hml]; rfl) (Steps.refl _) (argsL := []) (rest := []) (lenOf pd_0 rfl) rfl (by show 2 * 0 + _ ≤ _; exact Nat.le_of_eq rfl) (hb hby dN1_1) (fun _ _ => ⟨rfl, e0, (by decide : 0 + 0 ≤ _), (by decide : 0 + 0 ≤ _)⟩)
  dsimp only [Pt.U, Pt.locs, Pt.cells, Pt.slots] at X1 l1 y1 z1 st1 hQ1
  subst l1 y1 z1
  obtain ⟨rfl, Nq1, hs1⟩ := hQ1
  have N3 := Fr.app N0 Nq1
  refine OFin.to (S' := T1.setTop (mkF m 4 #[.val (.ref a0)] [(.int (1 : Int32))])) st1 ?_
  refine OFin.of (S' := T1.setTop (mkF m 63 #[.val (.ref a0)] [(.int (0 : Int32))])) (fun t ht => ?_) ?_
  · refine XS.tswIn X1.here hx rfl (pc0 := 4) (pc' := 62) (o := 58) rfl (hb hby dN1_4) rfl (by decide) (by decide) (by decide) (by decide) ?_
    show Steps p.tables e below (T1.setTop (mkF m 62 _ [])) _
    refine XS.iconst X1.here hx rfl (hb hby dN1_62) ?_
    exact ht
  exact OFin.retB X1 hx hlk (t := .boolean) (by simp) hret (hb hby dN1_63) (by decide) (by decide) (by rw [hs1]; exact ⟨rfl, N3, rfl⟩)
theorem dP2_0 : decode method_2_code 0 = .ok (.iload_n 0, 1) := by decide +kernel
theorem dP2_1 : decode method_2_code 1 = .ok (.ifCond .ne 7, 3) := by decide +kernel
theorem dP2_8 : decode method_2_code 8 = .ok (.iload_n 0, 1) := by decide +kernel
theorem dP2_9 : decode method_2_code 9 = .ok (.iconst 1, 1) := by decide +kernel
theorem dP2_10 : decode method_2_code 10 = .ok (.if_icmp .ne 7, 3) := by decide +kernel
theorem dP2_17 : decode method_2_code 17 = .ok (.iload_n 0, 1) := by decide +kernel
theorem dP2_18 : decode method_2_code 18 = .ok (.iconst 2, 1) := by decide +kernel
theorem dP2_19 : decode method_2_code 19 = .ok (.if_icmp .ne 7, 3) := by decide +kernel
theorem dP2_22 : decode method_2_code 22 = .ok (.getstatic 16, 3) := by decide +kernel
theorem dP2_25 : decode method_2_code 25 = .ok (.areturn, 1) := by decide +kernel
theorem pnP2 : plainName "com/example/kindred/kindred/core/LinkKindNotedPinLaw" = true := by first | (simp [plainName, overriddenIn]; done) | decide +kernel
theorem efP2 (m : MethodId)  : entryFrame m #[(.int (2 : Int32))] 1 = mkF m 0 #[.val (.int (2 : Int32))] [] := by first | (simp [entryFrame, mkF, argsToLocals, Value.category]; done) | rfl
def QP2 (Z : State) (x1 : Addr) (h0 : Heap) (n0 : Nat) (v : Option Value) (h : Heap) (L : List Loc) : Prop := v = some (.ref x1) ∧ Fr n0 L ∧ h = h0
set_option maxRecDepth 65536 in
set_option maxHeartbeats 40000000 in
theorem rmP2 (l : Launch) (Z : State) (a0 : Array Value) (hw : ∀ d ∈ tables_1, d.before a0 Z = true) (ws : List Jvm.Cond) (x1 : Addr) (h0 : Heap) (n0 : Nat) (Z0 : n0 ≤ h0.size) (S1 : Sta Z h0 "com/example/kindred/kindred/core/LinkKind" "PRECEDED_BY" "Lcom/example/kindred/kindred/core/LinkKind;" (.ref x1)) :
    MetFree l (⟨"com/example/kindred/kindred/core/LinkKindNotedPinLaw", "pick", "(I)Lcom/example/kindred/kindred/core/LinkKind;"⟩ : MethodName) (head1 (Jvm.Cond.code (⟨"com/example/kindred/kindred/core/LinkKindNotedPinLaw", "pick", "(I)Lcom/example/kindred/kindred/core/LinkKind;"⟩ : MethodName) method_2_code 1 (some (.object "com/example/kindred/kindred/core/LinkKind")) :: ws) ({ frames := 0, cells := 0, slots := 0, locals := 0 } : Room)) (fun a U => a = #[(.int (2 : Int32))] ∧ Z.Warmed39 U.vm ∧ U.heap = h0) (fun _ _ _ _ _ => True) (fun _ U o U' => ∃ v L, o = .returned v ∧ QP2 Z x1 h0 n0 v U'.heap L ∧ FrameEnd U o U' L ({ frames := 0, cells := 0, slots := 0, locals := 0 } : Room).cells ({ frames := 0, cells := 0, slots := 0, locals := 0 } : Room).slots) := by
  refine MetFree.of_bodySF (plainFor_of_name pnP2) hisR ?_
  intro p e s m args below meth c s₁ Bd hml0 hP hK
  obtain ⟨rfl, hZ, hh⟩ := hP
  have hx := Bd.exec
  have hby := Bd.bytes
  have hlk := BodyLoose.notSynchronized Bd
  have hret := Bd.returns
  have hml : c.maxLocals = 1 := hml0
  have hown : s.vm.findClass "com/example/kindred/kindred/core/LinkKindNotedPinLaw" = some m.cls := findClass_of_methodNamed Bd.named
  have hnm := (name_of_methodNamed Bd.named Bd.method).1
  have X0 : Stand p l e ({ frames := 0, cells := 0, slots := 0, locals := 0 } : Room) s m #[(.int (2 : Int32))] below meth c s₁ [] 0 0 := Stand.of_body Bd
  have e0 : s₁.heap = h0 := by rw [← hh, Bd.state]; rfl
  have N0 := Fr.nil n0
  show OFin p e below (KPost s (QP2 Z x1 h0 n0) ({ frames := 0, cells := 0, slots := 0, locals := 0 } : Room).cells ({ frames := 0, cells := 0, slots := 0, locals := 0 } : Room).slots) _
  rw [efP2 m ]
  refine OFin.of (S' := s₁.setTop (mkF m 22 #[.val (.int (2 : Int32))] [])) (fun t ht => ?_) ?_
  · refine XS.iloadN X0.here hx rfl (hb hby dP2_0) rfl ?_
    show Steps p.tables e below (s₁.setTop (mkF m 1 _ [(.int (2 : Int32))])) _
    refine XS.ifYes X0.here hx rfl (pc0 := 1) (pc' := 8) rfl (hb hby dP2_1) rfl ((if0 _ _).trans (feq (by decide : ¬ ((2 : Int32) = (0 : Int32)))).2) (by decide) (by decide) ?_
    show Steps p.tables e below (s₁.setTop (mkF m 8 _ [])) _
    refine XS.iloadN X0.here hx rfl (hb hby dP2_8) rfl ?_
    show Steps p.tables e below (s₁.setTop (mkF m 9 _ [(.int (2 : Int32))])) _
    refine XS.iconst X0.here hx rfl (hb hby dP2_9) ?_
    show Steps p.tables e below (s₁.setTop (mkF m 10 _ [(.int (1 : Int32)), (.int (2 : Int32))])) _
    refine XS.icmpYes X0.here hx rfl (pc0 := 10) (pc' := 17) rfl (hb hby dP2_10) rfl (feq (by decide : ¬ ((2 : Int32) = (1 : Int32)))).2 (by decide) (by decide) ?_
    show Steps p.tables e below (s₁.setTop (mkF m 17 _ [])) _
    refine XS.iloadN X0.here hx rfl (hb hby dP2_17) rfl ?_
    show Steps p.tables e below (s₁.setTop (mkF m 18 _ [(.int (2 : Int32))])) _
    refine XS.iconst X0.here hx rfl (hb hby dP2_18) ?_
    show Steps p.tables e below (s₁.setTop (mkF m 19 _ [(.int (2 : Int32)), (.int (2 : Int32))])) _
    refine XS.icmpNo X0.here hx rfl (hb hby dP2_19) rfl (teq (by decide : (2 : Int32) = (2 : Int32))).2 ?_
    exact ht
  obtain ⟨T1, X1, e1, st1⟩ := getS (host := "") X0 hx hZ hown (hw _ (List.mem_of_getElem? (i := 39) rfl)) Via.refl e0 S1 (g := (mkF m 22 #[.val (.int (2 : Int32))] [])) rfl (hb hby dP2_22)
  refine OFin.of (S' := T1.setTop (mkF m 25 #[.val (.int (2 : Int32))] [(.ref x1)])) (fun t ht => st1 t ht) ?_
  exact OFin.retA X1 hx hlk (t := (.object "com/example/kindred/kindred/core/LinkKind")) rfl rfl hret (hb hby dP2_25) (by decide) (by decide) (by rw [e1]; exact ⟨rfl, N0, rfl⟩)
theorem dV2_0 : decode prog_8_method_4_code 0 = .ok (.aload_n 0, 1) := by decide +kernel
theorem dV2_1 : decode prog_8_method_4_code 1 = .ok (.invokevirtual 44, 3) := by decide +kernel
theorem dV2_4 : decode prog_8_method_4_code 4 = .ok (.tableswitch 44 0 6 #[54, 60, 66, 72, 78, 78, 78], 44) := by decide +kernel
theorem dV2_70 : decode prog_8_method_4_code 70 = .ok (.getstatic 13, 3) := by decide +kernel
theorem dV2_73 : decode prog_8_method_4_code 73 = .ok (.goto 10, 3) := by decide +kernel
theorem dV2_83 : decode prog_8_method_4_code 83 = .ok (.areturn, 1) := by decide +kernel
theorem pnV2 : plainName "com/example/kindred/kindred/core/LinkKind" = true := by first | (simp [plainName, overriddenIn]; done) | decide +kernel
theorem efV2 (m : MethodId) (a0 : Addr) : entryFrame m #[(.ref a0)] 1 = mkF m 0 #[.val (.ref a0)] [] := by first | (simp [entryFrame, mkF, argsToLocals, Value.category]; done) | rfl
def QV2 (Z : State) (a0 : Addr) (x1 : Addr) (h0 : Heap) (n0 : Nat) (v : Option Value) (h : Heap) (L : List Loc) : Prop := v = some (.ref x1) ∧ Fr n0 L ∧ h = h0
set_option maxRecDepth 65536 in
set_option maxHeartbeats 40000000 in
theorem rmV2 (l : Launch) (Z : State) (a0 : Array Value) (hw : ∀ d ∈ tables_1, d.before a0 Z = true) (ws : List Jvm.Cond) (a0 : Addr) (x1 : Addr) (h0 : Heap) (n0 : Nat) (Z0 : n0 ≤ h0.size) (S1 : Sta Z h0 "com/example/kindred/kindred/core/LinkKind" "SUCCEEDED_BY" "Lcom/example/kindred/kindred/core/LinkKind;" (.ref x1)) (F1 : Fld Z h0 a0 "java/lang/Enum" "ordinal" "I" (.int (2 : Int32))) (E1 : Exa Z h0 a0 "com/example/kindred/kindred/core/LinkKind") :
    MetFree l (⟨"com/example/kindred/kindred/core/LinkKind", "inverse", "()Lcom/example/kindred/kindred/core/LinkKind;"⟩ : MethodName) (head1 (Jvm.Cond.code (⟨"com/example/kindred/kindred/core/LinkKind", "inverse", "()Lcom/example/kindred/kindred/core/LinkKind;"⟩ : MethodName) prog_8_method_4_code 1 (some (.object "com/example/kindred/kindred/core/LinkKind")) :: ws) ({ frames := 1, cells := 0, slots := 0, locals := 12 } : Room)) (fun a U => a = #[(.ref a0)] ∧ Z.Warmed39 U.vm ∧ U.heap = h0) (fun _ _ _ _ _ => True) (fun _ U o U' => ∃ v L, o = .returned v ∧ QV2 Z a0 x1 h0 n0 v U'.heap L ∧ FrameEnd U o U' L ({ frames := 1, cells := 0, slots := 0, locals := 12 } : Room).cells ({ frames := 1, cells := 0, slots := 0, locals := 12 } : Room).slots) := by
  refine MetFree.of_bodySF (plainFor_of_name pnV2) hisR ?_
  intro p e s m args below meth c s₁ Bd hml0 hP hK
  obtain ⟨rfl, hZ, hh⟩ := hP
  have hx := Bd.exec
  have hby := Bd.bytes
  have hlk := BodyLoose.notSynchronized Bd
  have hret := Bd.returns
  have hml : c.maxLocals = 1 := hml0
  have hown : s.vm.findClass "com/example/kindred/kindred/core/LinkKind" = some m.cls := findClass_of_methodNamed Bd.named
  have hnm := (name_of_methodNamed Bd.named Bd.method).1
  have X0 : Stand p l e ({ frames := 1, cells := 0, slots := 0, locals := 12 } : Room) s m #[(.ref a0)] below meth c s₁ [] 0 0 := Stand.of_body Bd
  have e0 : s₁.heap = h0 := by rw [← hh, Bd.state]; rfl
  have N0 := Fr.nil n0
  show OFin p e below (KPost s (QV2 Z a0 x1 h0 n0) ({ frames := 1, cells := 0, slots := 0, locals := 12 } : Room).cells ({ frames := 1, cells := 0, slots := 0, locals := 12 } : Room).slots) _
  rw [efV2 m a0]
  refine OFin.of (S' := s₁.setTop (mkF m 1 #[.val (.ref a0)] [(.ref a0)])) (fun t ht => ?_) ?_
  · refine XS.aloadN X0.here hx rfl (hb hby dV2_0) rfl rfl ?_
    exact ht
  obtain ⟨cq2, kq2, q2a, q2b, q2c⟩ := isOf hZ e0 E1
  obtain ⟨_, _, ⟨T1, L1, k1, n1⟩, -, X1, ⟨Lc1, hQ1, l1, y1, z1⟩, st1⟩ := X0.virtualBackUp hx (owner := "java/lang/Enum") (x := (⟨"com/example/kindred/kindred/core/LinkKind", "ordinal", "()I"⟩ : MethodName)) (y := (⟨"java/lang/Enum", "ordinal", "()I"⟩ : MethodName)) hown (mvT hZ (hw _ (List.mem_of_getElem? (i := 13) rfl))) (mvT hZ (hw _ (List.mem_of_getElem? (i := 14) rfl))) (mvT hZ (hw _ (List.mem_of_getElem? (i := 15) rfl))) (by decide) (mvT hZ (hw _ (List.mem_of_getElem? (i := 17) rfl))) (mvT hZ (hw _ (List.mem_of_getElem? (i := 16) rfl))) (backOf (W := 0) (rmOrd l Z _ hw [] a0 (2 : Int32) h0 n0 Z0 F1) hZ (hw _ (List.mem_of_getElem? (i := 19) rfl)) (hw _ (List.mem_of_getElem? (i := 18) rfl)) (by decide) (by decide)) q2a q2c (g := (mkF m 1 #[.val (.ref a0)] [(.ref a0)])) rfl (by rw [hml]; rfl) (Steps.refl _) (argsL := []) (rest := []) (lenOf pd_0 rfl) rfl (by show 2 * 0 + _ ≤ _; exact Nat.le_of_eq rfl) (hb hby dV2_1) (fun _ _ => ⟨rfl, e0, (by decide : 0 + 0 ≤ _), (by decide : 0 + 0 ≤ _)⟩)
  dsimp only [Pt.U, Pt.locs, Pt.cells, Pt.slots] at X1 l1 y1 z1 st1 hQ1
  subst l1 y1 z1
  obtain ⟨rfl, Nq1, hs1⟩ := hQ1
  have N3 := Fr.app N0 Nq1
  refine OFin.to (S' := T1.setTop (mkF m 4 #[.val (.ref a0)] [(.int (2 : Int32))])) st1 ?_
  refine OFin.of (S' := T1.setTop (mkF m 70 #[.val (.ref a0)] [])) (fun t ht => ?_) ?_
  · refine XS.tswIn X1.here hx rfl (pc0 := 4) (pc' := 70) (o := 66) rfl (hb hby dV2_4) rfl (by decide) (by decide) (by decide) (by decide) ?_
    exact ht
  obtain ⟨T4, X4, e4, st4⟩ := getS (host := "") X1 hx hZ hown (hw _ (List.mem_of_getElem? (i := 40) rfl)) Via.refl hs1 S1 (g := (mkF m 70 #[.val (.ref a0)] [])) rfl (hb hby dV2_70)
  refine OFin.of (S' := T4.setTop (mkF m 73 #[.val (.ref a0)] [(.ref x1)])) (fun t ht => st4 t ht) ?_
  refine OFin.of (S' := T4.setTop (mkF m 83 #[.val (.ref a0)] [(.ref x1)])) (fun t ht => ?_) ?_
  · refine XS.goto X4.here hx rfl (pc0 := 73) (pc' := 83) rfl (hb hby dV2_73) (by decide) (by decide) ?_
    exact ht
  exact OFin.retA X4 hx hlk (t := (.object "com/example/kindred/kindred/core/LinkKind")) rfl rfl hret (hb hby dV2_83) (by decide) (by decide) (by rw [e4]; exact ⟨rfl, N3, rfl⟩)
theorem dN2_0 : decode prog_8_method_5_code 0 = .ok (.aload_n 0, 1) := by decide +kernel
theorem dN2_1 : decode prog_8_method_5_code 1 = .ok (.invokevirtual 44, 3) := by decide +kernel
theorem dN2_4 : decode prog_8_method_5_code 4 = .ok (.tableswitch 44 0 6 #[58, 58, 58, 58, 54, 54, 54], 44) := by decide +kernel
theorem dN2_62 : decode prog_8_method_5_code 62 = .ok (.iconst 0, 1) := by decide +kernel
theorem dN2_63 : decode prog_8_method_5_code 63 = .ok (.ireturn, 1) := by decide +kernel
theorem pnN2 : plainName "com/example/kindred/kindred/core/LinkKind" = true := by first | (simp [plainName, overriddenIn]; done) | decide +kernel
theorem efN2 (m : MethodId) (a0 : Addr) : entryFrame m #[(.ref a0)] 1 = mkF m 0 #[.val (.ref a0)] [] := by first | (simp [entryFrame, mkF, argsToLocals, Value.category]; done) | rfl
def QN2 (Z : State) (a0 : Addr) (h0 : Heap) (n0 : Nat) (v : Option Value) (h : Heap) (L : List Loc) : Prop := v = some (.int (0 : Int32)) ∧ Fr n0 L ∧ h = h0
set_option maxRecDepth 65536 in
set_option maxHeartbeats 40000000 in
theorem rmN2 (l : Launch) (Z : State) (a0 : Array Value) (hw : ∀ d ∈ tables_1, d.before a0 Z = true) (ws : List Jvm.Cond) (a0 : Addr) (h0 : Heap) (n0 : Nat) (Z0 : n0 ≤ h0.size) (F1 : Fld Z h0 a0 "java/lang/Enum" "ordinal" "I" (.int (2 : Int32))) (E1 : Exa Z h0 a0 "com/example/kindred/kindred/core/LinkKind") :
    MetFree l (⟨"com/example/kindred/kindred/core/LinkKind", "noted", "()Z"⟩ : MethodName) (head1 (Jvm.Cond.code (⟨"com/example/kindred/kindred/core/LinkKind", "noted", "()Z"⟩ : MethodName) prog_8_method_5_code 1 (some .boolean) :: ws) ({ frames := 1, cells := 0, slots := 0, locals := 12 } : Room)) (fun a U => a = #[(.ref a0)] ∧ Z.Warmed39 U.vm ∧ U.heap = h0) (fun _ _ _ _ _ => True) (fun _ U o U' => ∃ v L, o = .returned v ∧ QN2 Z a0 h0 n0 v U'.heap L ∧ FrameEnd U o U' L ({ frames := 1, cells := 0, slots := 0, locals := 12 } : Room).cells ({ frames := 1, cells := 0, slots := 0, locals := 12 } : Room).slots) := by
  refine MetFree.of_bodySF (plainFor_of_name pnN2) hisR ?_
  intro p e s m args below meth c s₁ Bd hml0 hP hK
  obtain ⟨rfl, hZ, hh⟩ := hP
  have hx := Bd.exec
  have hby := Bd.bytes
  have hlk := BodyLoose.notSynchronized Bd
  have hret := Bd.returns
  have hml : c.maxLocals = 1 := hml0
  have hown : s.vm.findClass "com/example/kindred/kindred/core/LinkKind" = some m.cls := findClass_of_methodNamed Bd.named
  have hnm := (name_of_methodNamed Bd.named Bd.method).1
  have X0 : Stand p l e ({ frames := 1, cells := 0, slots := 0, locals := 12 } : Room) s m #[(.ref a0)] below meth c s₁ [] 0 0 := Stand.of_body Bd
  have e0 : s₁.heap = h0 := by rw [← hh, Bd.state]; rfl
  have N0 := Fr.nil n0
  show OFin p e below (KPost s (QN2 Z a0 h0 n0) ({ frames := 1, cells := 0, slots := 0, locals := 12 } : Room).cells ({ frames := 1, cells := 0, slots := 0, locals := 12 } : Room).slots) _
  rw [efN2 m a0]
  refine OFin.of (S' := s₁.setTop (mkF m 1 #[.val (.ref a0)] [(.ref a0)])) (fun t ht => ?_) ?_
  · refine XS.aloadN X0.here hx rfl (hb hby dN2_0) rfl rfl ?_
    exact ht
  obtain ⟨cq2, kq2, q2a, q2b, q2c⟩ := isOf hZ e0 E1
  obtain ⟨_, _, ⟨T1, L1, k1, n1⟩, -, X1, ⟨Lc1, hQ1, l1, y1, z1⟩, st1⟩ := X0.virtualBackUp hx (owner := "java/lang/Enum") (x := (⟨"com/example/kindred/kindred/core/LinkKind", "ordinal", "()I"⟩ : MethodName)) (y := (⟨"java/lang/Enum", "ordinal", "()I"⟩ : MethodName)) hown (mvT hZ (hw _ (List.mem_of_getElem? (i := 13) rfl))) (mvT hZ (hw _ (List.mem_of_getElem? (i := 14) rfl))) (mvT hZ (hw _ (List.mem_of_getElem? (i := 15) rfl))) (by decide) (mvT hZ (hw _ (List.mem_of_getElem? (i := 17) rfl))) (mvT hZ (hw _ (List.mem_of_getElem? (i := 16) rfl))) (backOf (W := 0) (rmOrd l Z _ hw [] a0 (2 : Int32) h0 n0 Z0 F1) hZ (hw _ (List.mem_of_getElem? (i := 19) rfl)) (hw _ (List.mem_of_getElem? (i := 18) rfl)) (by decide) (by decide)) q2a q2c (g := (mkF m 1 #[.val (.ref a0)] [(.ref a0)])) rfl (by rw [hml]; rfl) (Steps.refl _) (argsL := []) (rest := []) (lenOf pd_0 rfl) rfl (by show 2 * 0 + _ ≤ _; exact Nat.le_of_eq rfl) (hb hby dN2_1) (fun _ _ => ⟨rfl, e0, (by decide : 0 + 0 ≤ _), (by decide : 0 + 0 ≤ _)⟩)
  dsimp only [Pt.U, Pt.locs, Pt.cells, Pt.slots] at X1 l1 y1 z1 st1 hQ1
  subst l1 y1 z1
  obtain ⟨rfl, Nq1, hs1⟩ := hQ1
  have N3 := Fr.app N0 Nq1
  refine OFin.to (S' := T1.setTop (mkF m 4 #[.val (.ref a0)] [(.int (2 : Int32))])) st1 ?_
  refine OFin.of (S' := T1.setTop (mkF m 63 #[.val (.ref a0)] [(.int (0 : Int32))])) (fun t ht => ?_) ?_
  · refine XS.tswIn X1.here hx rfl (pc0 := 4) (pc' := 62) (o := 58) rfl (hb hby dN2_4) rfl (by decide) (by decide) (by decide) (by decide) ?_
    show Steps p.tables e below (T1.setTop (mkF m 62 _ [])) _
    refine XS.iconst X1.here hx rfl (hb hby dN2_62) ?_
    exact ht
  exact OFin.retB X1 hx hlk (t := .boolean) (by simp) hret (hb hby dN2_63) (by decide) (by decide) (by rw [hs1]; exact ⟨rfl, N3, rfl⟩)
theorem dP3_0 : decode method_2_code 0 = .ok (.iload_n 0, 1) := by decide +kernel
theorem dP3_1 : decode method_2_code 1 = .ok (.ifCond .ne 7, 3) := by decide +kernel
theorem dP3_8 : decode method_2_code 8 = .ok (.iload_n 0, 1) := by decide +kernel
theorem dP3_9 : decode method_2_code 9 = .ok (.iconst 1, 1) := by decide +kernel
theorem dP3_10 : decode method_2_code 10 = .ok (.if_icmp .ne 7, 3) := by decide +kernel
theorem dP3_17 : decode method_2_code 17 = .ok (.iload_n 0, 1) := by decide +kernel
theorem dP3_18 : decode method_2_code 18 = .ok (.iconst 2, 1) := by decide +kernel
theorem dP3_19 : decode method_2_code 19 = .ok (.if_icmp .ne 7, 3) := by decide +kernel
theorem dP3_26 : decode method_2_code 26 = .ok (.iload_n 0, 1) := by decide +kernel
theorem dP3_27 : decode method_2_code 27 = .ok (.iconst 3, 1) := by decide +kernel
theorem dP3_28 : decode method_2_code 28 = .ok (.if_icmp .ne 7, 3) := by decide +kernel
theorem dP3_31 : decode method_2_code 31 = .ok (.getstatic 19, 3) := by decide +kernel
theorem dP3_34 : decode method_2_code 34 = .ok (.areturn, 1) := by decide +kernel
theorem pnP3 : plainName "com/example/kindred/kindred/core/LinkKindNotedPinLaw" = true := by first | (simp [plainName, overriddenIn]; done) | decide +kernel
theorem efP3 (m : MethodId)  : entryFrame m #[(.int (3 : Int32))] 1 = mkF m 0 #[.val (.int (3 : Int32))] [] := by first | (simp [entryFrame, mkF, argsToLocals, Value.category]; done) | rfl
def QP3 (Z : State) (x1 : Addr) (h0 : Heap) (n0 : Nat) (v : Option Value) (h : Heap) (L : List Loc) : Prop := v = some (.ref x1) ∧ Fr n0 L ∧ h = h0
set_option maxRecDepth 65536 in
set_option maxHeartbeats 40000000 in
theorem rmP3 (l : Launch) (Z : State) (a0 : Array Value) (hw : ∀ d ∈ tables_1, d.before a0 Z = true) (ws : List Jvm.Cond) (x1 : Addr) (h0 : Heap) (n0 : Nat) (Z0 : n0 ≤ h0.size) (S1 : Sta Z h0 "com/example/kindred/kindred/core/LinkKind" "SUCCEEDED_BY" "Lcom/example/kindred/kindred/core/LinkKind;" (.ref x1)) :
    MetFree l (⟨"com/example/kindred/kindred/core/LinkKindNotedPinLaw", "pick", "(I)Lcom/example/kindred/kindred/core/LinkKind;"⟩ : MethodName) (head1 (Jvm.Cond.code (⟨"com/example/kindred/kindred/core/LinkKindNotedPinLaw", "pick", "(I)Lcom/example/kindred/kindred/core/LinkKind;"⟩ : MethodName) method_2_code 1 (some (.object "com/example/kindred/kindred/core/LinkKind")) :: ws) ({ frames := 0, cells := 0, slots := 0, locals := 0 } : Room)) (fun a U => a = #[(.int (3 : Int32))] ∧ Z.Warmed39 U.vm ∧ U.heap = h0) (fun _ _ _ _ _ => True) (fun _ U o U' => ∃ v L, o = .returned v ∧ QP3 Z x1 h0 n0 v U'.heap L ∧ FrameEnd U o U' L ({ frames := 0, cells := 0, slots := 0, locals := 0 } : Room).cells ({ frames := 0, cells := 0, slots := 0, locals := 0 } : Room).slots) := by
  refine MetFree.of_bodySF (plainFor_of_name pnP3) hisR ?_
  intro p e s m args below meth c s₁ Bd hml0 hP hK
  obtain ⟨rfl, hZ, hh⟩ := hP
  have hx := Bd.exec
  have hby := Bd.bytes
  have hlk := BodyLoose.notSynchronized Bd
  have hret := Bd.returns
  have hml : c.maxLocals = 1 := hml0
  have hown : s.vm.findClass "com/example/kindred/kindred/core/LinkKindNotedPinLaw" = some m.cls := findClass_of_methodNamed Bd.named
  have hnm := (name_of_methodNamed Bd.named Bd.method).1
  have X0 : Stand p l e ({ frames := 0, cells := 0, slots := 0, locals := 0 } : Room) s m #[(.int (3 : Int32))] below meth c s₁ [] 0 0 := Stand.of_body Bd
  have e0 : s₁.heap = h0 := by rw [← hh, Bd.state]; rfl
  have N0 := Fr.nil n0
  show OFin p e below (KPost s (QP3 Z x1 h0 n0) ({ frames := 0, cells := 0, slots := 0, locals := 0 } : Room).cells ({ frames := 0, cells := 0, slots := 0, locals := 0 } : Room).slots) _
  rw [efP3 m ]
  refine OFin.of (S' := s₁.setTop (mkF m 31 #[.val (.int (3 : Int32))] [])) (fun t ht => ?_) ?_
  · refine XS.iloadN X0.here hx rfl (hb hby dP3_0) rfl ?_
    show Steps p.tables e below (s₁.setTop (mkF m 1 _ [(.int (3 : Int32))])) _
    refine XS.ifYes X0.here hx rfl (pc0 := 1) (pc' := 8) rfl (hb hby dP3_1) rfl ((if0 _ _).trans (feq (by decide : ¬ ((3 : Int32) = (0 : Int32)))).2) (by decide) (by decide) ?_
    show Steps p.tables e below (s₁.setTop (mkF m 8 _ [])) _
    refine XS.iloadN X0.here hx rfl (hb hby dP3_8) rfl ?_
    show Steps p.tables e below (s₁.setTop (mkF m 9 _ [(.int (3 : Int32))])) _
    refine XS.iconst X0.here hx rfl (hb hby dP3_9) ?_
    show Steps p.tables e below (s₁.setTop (mkF m 10 _ [(.int (1 : Int32)), (.int (3 : Int32))])) _
    refine XS.icmpYes X0.here hx rfl (pc0 := 10) (pc' := 17) rfl (hb hby dP3_10) rfl (feq (by decide : ¬ ((3 : Int32) = (1 : Int32)))).2 (by decide) (by decide) ?_
    show Steps p.tables e below (s₁.setTop (mkF m 17 _ [])) _
    refine XS.iloadN X0.here hx rfl (hb hby dP3_17) rfl ?_
    show Steps p.tables e below (s₁.setTop (mkF m 18 _ [(.int (3 : Int32))])) _
    refine XS.iconst X0.here hx rfl (hb hby dP3_18) ?_
    show Steps p.tables e below (s₁.setTop (mkF m 19 _ [(.int (2 : Int32)), (.int (3 : Int32))])) _
    refine XS.icmpYes X0.here hx rfl (pc0 := 19) (pc' := 26) rfl (hb hby dP3_19) rfl (feq (by decide : ¬ ((3 : Int32) = (2 : Int32)))).2 (by decide) (by decide) ?_
    show Steps p.tables e below (s₁.setTop (mkF m 26 _ [])) _
    refine XS.iloadN X0.here hx rfl (hb hby dP3_26) rfl ?_
    show Steps p.tables e below (s₁.setTop (mkF m 27 _ [(.int (3 : Int32))])) _
    refine XS.iconst X0.here hx rfl (hb hby dP3_27) ?_
    show Steps p.tables e below (s₁.setTop (mkF m 28 _ [(.int (3 : Int32)), (.int (3 : Int32))])) _
    refine XS.icmpNo X0.here hx rfl (hb hby dP3_28) rfl (teq (by decide : (3 : Int32) = (3 : Int32))).2 ?_
    exact ht
  obtain ⟨T1, X1, e1, st1⟩ := getS (host := "") X0 hx hZ hown (hw _ (List.mem_of_getElem? (i := 29) rfl)) Via.refl e0 S1 (g := (mkF m 31 #[.val (.int (3 : Int32))] [])) rfl (hb hby dP3_31)
  refine OFin.of (S' := T1.setTop (mkF m 34 #[.val (.int (3 : Int32))] [(.ref x1)])) (fun t ht => st1 t ht) ?_
  exact OFin.retA X1 hx hlk (t := (.object "com/example/kindred/kindred/core/LinkKind")) rfl rfl hret (hb hby dP3_34) (by decide) (by decide) (by rw [e1]; exact ⟨rfl, N0, rfl⟩)
theorem dV3_0 : decode prog_8_method_4_code 0 = .ok (.aload_n 0, 1) := by decide +kernel
theorem dV3_1 : decode prog_8_method_4_code 1 = .ok (.invokevirtual 44, 3) := by decide +kernel
theorem dV3_4 : decode prog_8_method_4_code 4 = .ok (.tableswitch 44 0 6 #[54, 60, 66, 72, 78, 78, 78], 44) := by decide +kernel
theorem dV3_76 : decode prog_8_method_4_code 76 = .ok (.getstatic 10, 3) := by decide +kernel
theorem dV3_79 : decode prog_8_method_4_code 79 = .ok (.goto 4, 3) := by decide +kernel
theorem dV3_83 : decode prog_8_method_4_code 83 = .ok (.areturn, 1) := by decide +kernel
theorem pnV3 : plainName "com/example/kindred/kindred/core/LinkKind" = true := by first | (simp [plainName, overriddenIn]; done) | decide +kernel
theorem efV3 (m : MethodId) (a0 : Addr) : entryFrame m #[(.ref a0)] 1 = mkF m 0 #[.val (.ref a0)] [] := by first | (simp [entryFrame, mkF, argsToLocals, Value.category]; done) | rfl
def QV3 (Z : State) (a0 : Addr) (x1 : Addr) (h0 : Heap) (n0 : Nat) (v : Option Value) (h : Heap) (L : List Loc) : Prop := v = some (.ref x1) ∧ Fr n0 L ∧ h = h0
set_option maxRecDepth 65536 in
set_option maxHeartbeats 40000000 in
theorem rmV3 (l : Launch) (Z : State) (a0 : Array Value) (hw : ∀ d ∈ tables_1, d.before a0 Z = true) (ws : List Jvm.Cond) (a0 : Addr) (x1 : Addr) (h0 : Heap) (n0 : Nat) (Z0 : n0 ≤ h0.size) (S1 : Sta Z h0 "com/example/kindred/kindred/core/LinkKind" "PRECEDED_BY" "Lcom/example/kindred/kindred/core/LinkKind;" (.ref x1)) (F1 : Fld Z h0 a0 "java/lang/Enum" "ordinal" "I" (.int (3 : Int32))) (E1 : Exa Z h0 a0 "com/example/kindred/kindred/core/LinkKind") :
    MetFree l (⟨"com/example/kindred/kindred/core/LinkKind", "inverse", "()Lcom/example/kindred/kindred/core/LinkKind;"⟩ : MethodName) (head1 (Jvm.Cond.code (⟨"com/example/kindred/kindred/core/LinkKind", "inverse", "()Lcom/example/kindred/kindred/core/LinkKind;"⟩ : MethodName) prog_8_method_4_code 1 (some (.object "com/example/kindred/kindred/core/LinkKind")) :: ws) ({ frames := 1, cells := 0, slots := 0, locals := 12 } : Room)) (fun a U => a = #[(.ref a0)] ∧ Z.Warmed39 U.vm ∧ U.heap = h0) (fun _ _ _ _ _ => True) (fun _ U o U' => ∃ v L, o = .returned v ∧ QV3 Z a0 x1 h0 n0 v U'.heap L ∧ FrameEnd U o U' L ({ frames := 1, cells := 0, slots := 0, locals := 12 } : Room).cells ({ frames := 1, cells := 0, slots := 0, locals := 12 } : Room).slots) := by
  refine MetFree.of_bodySF (plainFor_of_name pnV3) hisR ?_
  intro p e s m args below meth c s₁ Bd hml0 hP hK
  obtain ⟨rfl, hZ, hh⟩ := hP
  have hx := Bd.exec
  have hby := Bd.bytes
  have hlk := BodyLoose.notSynchronized Bd
  have hret := Bd.returns
  have hml : c.maxLocals = 1 := hml0
  have hown : s.vm.findClass "com/example/kindred/kindred/core/LinkKind" = some m.cls := findClass_of_methodNamed Bd.named
  have hnm := (name_of_methodNamed Bd.named Bd.method).1
  have X0 : Stand p l e ({ frames := 1, cells := 0, slots := 0, locals := 12 } : Room) s m #[(.ref a0)] below meth c s₁ [] 0 0 := Stand.of_body Bd
  have e0 : s₁.heap = h0 := by rw [← hh, Bd.state]; rfl
  have N0 := Fr.nil n0
  show OFin p e below (KPost s (QV3 Z a0 x1 h0 n0) ({ frames := 1, cells := 0, slots := 0, locals := 12 } : Room).cells ({ frames := 1, cells := 0, slots := 0, locals := 12 } : Room).slots) _
  rw [efV3 m a0]
  refine OFin.of (S' := s₁.setTop (mkF m 1 #[.val (.ref a0)] [(.ref a0)])) (fun t ht => ?_) ?_
  · refine XS.aloadN X0.here hx rfl (hb hby dV3_0) rfl rfl ?_
    exact ht
  obtain ⟨cq2, kq2, q2a, q2b, q2c⟩ := isOf hZ e0 E1
  obtain ⟨_, _, ⟨T1, L1, k1, n1⟩, -, X1, ⟨Lc1, hQ1, l1, y1, z1⟩, st1⟩ := X0.virtualBackUp hx (owner := "java/lang/Enum") (x := (⟨"com/example/kindred/kindred/core/LinkKind", "ordinal", "()I"⟩ : MethodName)) (y := (⟨"java/lang/Enum", "ordinal", "()I"⟩ : MethodName)) hown (mvT hZ (hw _ (List.mem_of_getElem? (i := 13) rfl))) (mvT hZ (hw _ (List.mem_of_getElem? (i := 14) rfl))) (mvT hZ (hw _ (List.mem_of_getElem? (i := 15) rfl))) (by decide) (mvT hZ (hw _ (List.mem_of_getElem? (i := 17) rfl))) (mvT hZ (hw _ (List.mem_of_getElem? (i := 16) rfl))) (backOf (W := 0) (rmOrd l Z _ hw [] a0 (3 : Int32) h0 n0 Z0 F1) hZ (hw _ (List.mem_of_getElem? (i := 19) rfl)) (hw _ (List.mem_of_getElem? (i := 18) rfl)) (by decide) (by decide)) q2a q2c (g := (mkF m 1 #[.val (.ref a0)] [(.ref a0)])) rfl (by rw [hml]; rfl) (Steps.refl _) (argsL := []) (rest := []) (lenOf pd_0 rfl) rfl (by show 2 * 0 + _ ≤ _; exact Nat.le_of_eq rfl) (hb hby dV3_1) (fun _ _ => ⟨rfl, e0, (by decide : 0 + 0 ≤ _), (by decide : 0 + 0 ≤ _)⟩)
  dsimp only [Pt.U, Pt.locs, Pt.cells, Pt.slots] at X1 l1 y1 z1 st1 hQ1
  subst l1 y1 z1
  obtain ⟨rfl, Nq1, hs1⟩ := hQ1
  have N3 := Fr.app N0 Nq1
  refine OFin.to (S' := T1.setTop (mkF m 4 #[.val (.ref a0)] [(.int (3 : Int32))])) st1 ?_
  refine OFin.of (S' := T1.setTop (mkF m 76 #[.val (.ref a0)] [])) (fun t ht => ?_) ?_
  · refine XS.tswIn X1.here hx rfl (pc0 := 4) (pc' := 76) (o := 72) rfl (hb hby dV3_4) rfl (by decide) (by decide) (by decide) (by decide) ?_
    exact ht
  obtain ⟨T4, X4, e4, st4⟩ := getS (host := "") X1 hx hZ hown (hw _ (List.mem_of_getElem? (i := 31) rfl)) Via.refl hs1 S1 (g := (mkF m 76 #[.val (.ref a0)] [])) rfl (hb hby dV3_76)
  refine OFin.of (S' := T4.setTop (mkF m 79 #[.val (.ref a0)] [(.ref x1)])) (fun t ht => st4 t ht) ?_
  refine OFin.of (S' := T4.setTop (mkF m 83 #[.val (.ref a0)] [(.ref x1)])) (fun t ht => ?_) ?_
  · refine XS.goto X4.here hx rfl (pc0 := 79) (pc' := 83) rfl (hb hby dV3_79) (by decide) (by decide) ?_
    exact ht
  exact OFin.retA X4 hx hlk (t := (.object "com/example/kindred/kindred/core/LinkKind")) rfl rfl hret (hb hby dV3_83) (by decide) (by decide) (by rw [e4]; exact ⟨rfl, N3, rfl⟩)
theorem dN3_0 : decode prog_8_method_5_code 0 = .ok (.aload_n 0, 1) := by decide +kernel
theorem dN3_1 : decode prog_8_method_5_code 1 = .ok (.invokevirtual 44, 3) := by decide +kernel
theorem dN3_4 : decode prog_8_method_5_code 4 = .ok (.tableswitch 44 0 6 #[58, 58, 58, 58, 54, 54, 54], 44) := by decide +kernel
theorem dN3_62 : decode prog_8_method_5_code 62 = .ok (.iconst 0, 1) := by decide +kernel
theorem dN3_63 : decode prog_8_method_5_code 63 = .ok (.ireturn, 1) := by decide +kernel
theorem pnN3 : plainName "com/example/kindred/kindred/core/LinkKind" = true := by first | (simp [plainName, overriddenIn]; done) | decide +kernel
theorem efN3 (m : MethodId) (a0 : Addr) : entryFrame m #[(.ref a0)] 1 = mkF m 0 #[.val (.ref a0)] [] := by first | (simp [entryFrame, mkF, argsToLocals, Value.category]; done) | rfl
def QN3 (Z : State) (a0 : Addr) (h0 : Heap) (n0 : Nat) (v : Option Value) (h : Heap) (L : List Loc) : Prop := v = some (.int (0 : Int32)) ∧ Fr n0 L ∧ h = h0
set_option maxRecDepth 65536 in
set_option maxHeartbeats 40000000 in
theorem rmN3 (l : Launch) (Z : State) (a0 : Array Value) (hw : ∀ d ∈ tables_1, d.before a0 Z = true) (ws : List Jvm.Cond) (a0 : Addr) (h0 : Heap) (n0 : Nat) (Z0 : n0 ≤ h0.size) (F1 : Fld Z h0 a0 "java/lang/Enum" "ordinal" "I" (.int (3 : Int32))) (E1 : Exa Z h0 a0 "com/example/kindred/kindred/core/LinkKind") :
    MetFree l (⟨"com/example/kindred/kindred/core/LinkKind", "noted", "()Z"⟩ : MethodName) (head1 (Jvm.Cond.code (⟨"com/example/kindred/kindred/core/LinkKind", "noted", "()Z"⟩ : MethodName) prog_8_method_5_code 1 (some .boolean) :: ws) ({ frames := 1, cells := 0, slots := 0, locals := 12 } : Room)) (fun a U => a = #[(.ref a0)] ∧ Z.Warmed39 U.vm ∧ U.heap = h0) (fun _ _ _ _ _ => True) (fun _ U o U' => ∃ v L, o = .returned v ∧ QN3 Z a0 h0 n0 v U'.heap L ∧ FrameEnd U o U' L ({ frames := 1, cells := 0, slots := 0, locals := 12 } : Room).cells ({ frames := 1, cells := 0, slots := 0, locals := 12 } : Room).slots) := by
  refine MetFree.of_bodySF (plainFor_of_name pnN3) hisR ?_
  intro p e s m args below meth c s₁ Bd hml0 hP hK
  obtain ⟨rfl, hZ, hh⟩ := hP
  have hx := Bd.exec
  have hby := Bd.bytes
  have hlk := BodyLoose.notSynchronized Bd
  have hret := Bd.returns
  have hml : c.maxLocals = 1 := hml0
  have hown : s.vm.findClass "com/example/kindred/kindred/core/LinkKind" = some m.cls := findClass_of_methodNamed Bd.named
  have hnm := (name_of_methodNamed Bd.named Bd.method).1
  have X0 : Stand p l e ({ frames := 1, cells := 0, slots := 0, locals := 12 } : Room) s m #[(.ref a0)] below meth c s₁ [] 0 0 := Stand.of_body Bd
  have e0 : s₁.heap = h0 := by rw [← hh, Bd.state]; rfl
  have N0 := Fr.nil n0
  show OFin p e below (KPost s (QN3 Z a0 h0 n0) ({ frames := 1, cells := 0, slots := 0, locals := 12 } : Room).cells ({ frames := 1, cells := 0, slots := 0, locals := 12 } : Room).slots) _
  rw [efN3 m a0]
  refine OFin.of (S' := s₁.setTop (mkF m 1 #[.val (.ref a0)] [(.ref a0)])) (fun t ht => ?_) ?_
  · refine XS.aloadN X0.here hx rfl (hb hby dN3_0) rfl rfl ?_
    exact ht
  obtain ⟨cq2, kq2, q2a, q2b, q2c⟩ := isOf hZ e0 E1
  obtain ⟨_, _, ⟨T1, L1, k1, n1⟩, -, X1, ⟨Lc1, hQ1, l1, y1, z1⟩, st1⟩ := X0.virtualBackUp hx (owner := "java/lang/Enum") (x := (⟨"com/example/kindred/kindred/core/LinkKind", "ordinal", "()I"⟩ : MethodName)) (y := (⟨"java/lang/Enum", "ordinal", "()I"⟩ : MethodName)) hown (mvT hZ (hw _ (List.mem_of_getElem? (i := 13) rfl))) (mvT hZ (hw _ (List.mem_of_getElem? (i := 14) rfl))) (mvT hZ (hw _ (List.mem_of_getElem? (i := 15) rfl))) (by decide) (mvT hZ (hw _ (List.mem_of_getElem? (i := 17) rfl))) (mvT hZ (hw _ (List.mem_of_getElem? (i := 16) rfl))) (backOf (W := 0) (rmOrd l Z _ hw [] a0 (3 : Int32) h0 n0 Z0 F1) hZ (hw _ (List.mem_of_getElem? (i := 19) rfl)) (hw _ (List.mem_of_getElem? (i := 18) rfl)) (by decide) (by decide)) q2a q2c (g := (mkF m 1 #[.val (.ref a0)] [(.ref a0)])) rfl (by rw [hml]; rfl) (Steps.refl _) (argsL := []) (rest := []) (lenOf pd_0 rfl) rfl (by show 2 * 0 + _ ≤ _; exact Nat.le_of_eq rfl) (hb hby dN3_1) (fun _ _ => ⟨rfl, e0, (by decide : 0 + 0 ≤ _), (by decide : 0 + 0 ≤ _)⟩)
  dsimp only [Pt.U, Pt.locs, Pt.cells, Pt.slots] at X1 l1 y1 z1 st1 hQ1
  subst l1 y1 z1
  obtain ⟨rfl, Nq1, hs1⟩ := hQ1
  have N3 := Fr.app N0 Nq1
  refine OFin.to (S' := T1.setTop (mkF m 4 #[.val (.ref a0)] [(.int (3 : Int32))])) st1 ?_
  refine OFin.of (S' := T1.setTop (mkF m 63 #[.val (.ref a0)] [(.int (0 : Int32))])) (fun t ht => ?_) ?_
  · refine XS.tswIn X1.here hx rfl (pc0 := 4) (pc' := 62) (o := 58) rfl (hb hby dN3_4) rfl (by decide) (by decide) (by decide) (by decide) ?_
    show Steps p.tables e below (T1.setTop (mkF m 62 _ [])) _
    refine XS.iconst X1.here hx rfl (hb hby dN3_62) ?_
    exact ht
  exact OFin.retB X1 hx hlk (t := .boolean) (by simp) hret (hb hby dN3_63) (by decide) (by decide) (by rw [hs1]; exact ⟨rfl, N3, rfl⟩)
theorem dP4_0 : decode method_2_code 0 = .ok (.iload_n 0, 1) := by decide +kernel
theorem dP4_1 : decode method_2_code 1 = .ok (.ifCond .ne 7, 3) := by decide +kernel
theorem dP4_8 : decode method_2_code 8 = .ok (.iload_n 0, 1) := by decide +kernel
theorem dP4_9 : decode method_2_code 9 = .ok (.iconst 1, 1) := by decide +kernel
theorem dP4_10 : decode method_2_code 10 = .ok (.if_icmp .ne 7, 3) := by decide +kernel
theorem dP4_17 : decode method_2_code 17 = .ok (.iload_n 0, 1) := by decide +kernel
theorem dP4_18 : decode method_2_code 18 = .ok (.iconst 2, 1) := by decide +kernel
theorem dP4_19 : decode method_2_code 19 = .ok (.if_icmp .ne 7, 3) := by decide +kernel
theorem dP4_26 : decode method_2_code 26 = .ok (.iload_n 0, 1) := by decide +kernel
theorem dP4_27 : decode method_2_code 27 = .ok (.iconst 3, 1) := by decide +kernel
theorem dP4_28 : decode method_2_code 28 = .ok (.if_icmp .ne 7, 3) := by decide +kernel
theorem dP4_35 : decode method_2_code 35 = .ok (.iload_n 0, 1) := by decide +kernel
theorem dP4_36 : decode method_2_code 36 = .ok (.iconst 4, 1) := by decide +kernel
theorem dP4_37 : decode method_2_code 37 = .ok (.if_icmp .ne 7, 3) := by decide +kernel
theorem dP4_40 : decode method_2_code 40 = .ok (.getstatic 22, 3) := by decide +kernel
theorem dP4_43 : decode method_2_code 43 = .ok (.areturn, 1) := by decide +kernel
theorem pnP4 : plainName "com/example/kindred/kindred/core/LinkKindNotedPinLaw" = true := by first | (simp [plainName, overriddenIn]; done) | decide +kernel
theorem efP4 (m : MethodId)  : entryFrame m #[(.int (4 : Int32))] 1 = mkF m 0 #[.val (.int (4 : Int32))] [] := by first | (simp [entryFrame, mkF, argsToLocals, Value.category]; done) | rfl
def QP4 (Z : State) (x1 : Addr) (h0 : Heap) (n0 : Nat) (v : Option Value) (h : Heap) (L : List Loc) : Prop := v = some (.ref x1) ∧ Fr n0 L ∧ h = h0
set_option maxRecDepth 65536 in
set_option maxHeartbeats 40000000 in
theorem rmP4 (l : Launch) (Z : State) (a0 : Array Value) (hw : ∀ d ∈ tables_1, d.before a0 Z = true) (ws : List Jvm.Cond) (x1 : Addr) (h0 : Heap) (n0 : Nat) (Z0 : n0 ≤ h0.size) (S1 : Sta Z h0 "com/example/kindred/kindred/core/LinkKind" "OTHER_EDITIONS" "Lcom/example/kindred/kindred/core/LinkKind;" (.ref x1)) :
    MetFree l (⟨"com/example/kindred/kindred/core/LinkKindNotedPinLaw", "pick", "(I)Lcom/example/kindred/kindred/core/LinkKind;"⟩ : MethodName) (head1 (Jvm.Cond.code (⟨"com/example/kindred/kindred/core/LinkKindNotedPinLaw", "pick", "(I)Lcom/example/kindred/kindred/core/LinkKind;"⟩ : MethodName) method_2_code 1 (some (.object "com/example/kindred/kindred/core/LinkKind")) :: ws) ({ frames := 0, cells := 0, slots := 0, locals := 0 } : Room)) (fun a U => a = #[(.int (4 : Int32))] ∧ Z.Warmed39 U.vm ∧ U.heap = h0) (fun _ _ _ _ _ => True) (fun _ U o U' => ∃ v L, o = .returned v ∧ QP4 Z x1 h0 n0 v U'.heap L ∧ FrameEnd U o U' L ({ frames := 0, cells := 0, slots := 0, locals := 0 } : Room).cells ({ frames := 0, cells := 0, slots := 0, locals := 0 } : Room).slots) := by
  refine MetFree.of_bodySF (plainFor_of_name pnP4) hisR ?_
  intro p e s m args below meth c s₁ Bd hml0 hP hK
  obtain ⟨rfl, hZ, hh⟩ := hP
  have hx := Bd.exec
  have hby := Bd.bytes
  have hlk := BodyLoose.notSynchronized Bd
  have hret := Bd.returns
  have hml : c.maxLocals = 1 := hml0
  have hown : s.vm.findClass "com/example/kindred/kindred/core/LinkKindNotedPinLaw" = some m.cls := findClass_of_methodNamed Bd.named
  have hnm := (name_of_methodNamed Bd.named Bd.method).1
  have X0 : Stand p l e ({ frames := 0, cells := 0, slots := 0, locals := 0 } : Room) s m #[(.int (4 : Int32))] below meth c s₁ [] 0 0 := Stand.of_body Bd
  have e0 : s₁.heap = h0 := by rw [← hh, Bd.state]; rfl
  have N0 := Fr.nil n0
  show OFin p e below (KPost s (QP4 Z x1 h0 n0) ({ frames := 0, cells := 0, slots := 0, locals := 0 } : Room).cells ({ frames := 0, cells := 0, slots := 0, locals := 0 } : Room).slots) _
  rw [efP4 m ]
  refine OFin.of (S' := s₁.setTop (mkF m 40 #[.val (.int (4 : Int32))] [])) (fun t ht => ?_) ?_
  · refine XS.iloadN X0.here hx rfl (hb hby dP4_0) rfl ?_
    show Steps p.tables e below (s₁.setTop (mkF m 1 _ [(.int (4 : Int32))])) _
    refine XS.ifYes X0.here hx rfl (pc0 := 1) (pc' := 8) rfl (hb hby dP4_1) rfl ((if0 _ _).trans (feq (by decide : ¬ ((4 : Int32) = (0 : Int32)))).2) (by decide) (by decide) ?_
    show Steps p.tables e below (s₁.setTop (mkF m 8 _ [])) _
    refine XS.iloadN X0.here hx rfl (hb hby dP4_8) rfl ?_
    show Steps p.tables e below (s₁.setTop (mkF m 9 _ [(.int (4 : Int32))])) _
    refine XS.iconst X0.here hx rfl (hb hby dP4_9) ?_
    show Steps p.tables e below (s₁.setTop (mkF m 10 _ [(.int (1 : Int32)), (.int (4 : Int32))])) _
    refine XS.icmpYes X0.here hx rfl (pc0 := 10) (pc' := 17) rfl (hb hby dP4_10) rfl (feq (by decide : ¬ ((4 : Int32) = (1 : Int32)))).2 (by decide) (by decide) ?_
    show Steps p.tables e below (s₁.setTop (mkF m 17 _ [])) _
    refine XS.iloadN X0.here hx rfl (hb hby dP4_17) rfl ?_
    show Steps p.tables e below (s₁.setTop (mkF m 18 _ [(.int (4 : Int32))])) _
    refine XS.iconst X0.here hx rfl (hb hby dP4_18) ?_
    show Steps p.tables e below (s₁.setTop (mkF m 19 _ [(.int (2 : Int32)), (.int (4 : Int32))])) _
    refine XS.icmpYes X0.here hx rfl (pc0 := 19) (pc' := 26) rfl (hb hby dP4_19) rfl (feq (by decide : ¬ ((4 : Int32) = (2 : Int32)))).2 (by decide) (by decide) ?_
    show Steps p.tables e below (s₁.setTop (mkF m 26 _ [])) _
    refine XS.iloadN X0.here hx rfl (hb hby dP4_26) rfl ?_
    show Steps p.tables e below (s₁.setTop (mkF m 27 _ [(.int (4 : Int32))])) _
    refine XS.iconst X0.here hx rfl (hb hby dP4_27) ?_
    show Steps p.tables e below (s₁.setTop (mkF m 28 _ [(.int (3 : Int32)), (.int (4 : Int32))])) _
    refine XS.icmpYes X0.here hx rfl (pc0 := 28) (pc' := 35) rfl (hb hby dP4_28) rfl (feq (by decide : ¬ ((4 : Int32) = (3 : Int32)))).2 (by decide) (by decide) ?_
    show Steps p.tables e below (s₁.setTop (mkF m 35 _ [])) _
    refine XS.iloadN X0.here hx rfl (hb hby dP4_35) rfl ?_
    show Steps p.tables e below (s₁.setTop (mkF m 36 _ [(.int (4 : Int32))])) _
    refine XS.iconst X0.here hx rfl (hb hby dP4_36) ?_
    show Steps p.tables e below (s₁.setTop (mkF m 37 _ [(.int (4 : Int32)), (.int (4 : Int32))])) _
    refine XS.icmpNo X0.here hx rfl (hb hby dP4_37) rfl (teq (by decide : (4 : Int32) = (4 : Int32))).2 ?_
    exact ht
  obtain ⟨T1, X1, e1, st1⟩ := getS (host := "") X0 hx hZ hown (hw _ (List.mem_of_getElem? (i := 37) rfl)) Via.refl e0 S1 (g := (mkF m 40 #[.val (.int (4 : Int32))] [])) rfl (hb hby dP4_40)
  refine OFin.of (S' := T1.setTop (mkF m 43 #[.val (.int (4 : Int32))] [(.ref x1)])) (fun t ht => st1 t ht) ?_
  exact OFin.retA X1 hx hlk (t := (.object "com/example/kindred/kindred/core/LinkKind")) rfl rfl hret (hb hby dP4_43) (by decide) (by decide) (by rw [e1]; exact ⟨rfl, N0, rfl⟩)
theorem dV4_0 : decode prog_8_method_4_code 0 = .ok (.aload_n 0, 1) := by decide +kernel
theorem dV4_1 : decode prog_8_method_4_code 1 = .ok (.invokevirtual 44, 3) := by decide +kernel
theorem dV4_4 : decode prog_8_method_4_code 4 = .ok (.tableswitch 44 0 6 #[54, 60, 66, 72, 78, 78, 78], 44) := by decide +kernel
theorem dV4_82 : decode prog_8_method_4_code 82 = .ok (.aload_n 0, 1) := by decide +kernel
theorem dV4_83 : decode prog_8_method_4_code 83 = .ok (.areturn, 1) := by decide +kernel
theorem pnV4 : plainName "com/example/kindred/kindred/core/LinkKind" = true := by first | (simp [plainName, overriddenIn]; done) | decide +kernel
theorem efV4 (m : MethodId) (a0 : Addr) : entryFrame m #[(.ref a0)] 1 = mkF m 0 #[.val (.ref a0)] [] := by first | (simp [entryFrame, mkF, argsToLocals, Value.category]; done) | rfl
def QV4 (Z : State) (a0 : Addr) (h0 : Heap) (n0 : Nat) (v : Option Value) (h : Heap) (L : List Loc) : Prop := v = some (.ref a0) ∧ Fr n0 L ∧ h = h0
set_option maxRecDepth 65536 in
set_option maxHeartbeats 40000000 in
theorem rmV4 (l : Launch) (Z : State) (a0 : Array Value) (hw : ∀ d ∈ tables_1, d.before a0 Z = true) (ws : List Jvm.Cond) (a0 : Addr) (h0 : Heap) (n0 : Nat) (Z0 : n0 ≤ h0.size) (F1 : Fld Z h0 a0 "java/lang/Enum" "ordinal" "I" (.int (4 : Int32))) (E1 : Exa Z h0 a0 "com/example/kindred/kindred/core/LinkKind") :
    MetFree l (⟨"com/example/kindred/kindred/core/LinkKind", "inverse", "()Lcom/example/kindred/kindred/core/LinkKind;"⟩ : MethodName) (head1 (Jvm.Cond.code (⟨"com/example/kindred/kindred/core/LinkKind", "inverse", "()Lcom/example/kindred/kindred/core/LinkKind;"⟩ : MethodName) prog_8_method_4_code 1 (some (.object "com/example/kindred/kindred/core/LinkKind")) :: ws) ({ frames := 1, cells := 0, slots := 0, locals := 12 } : Room)) (fun a U => a = #[(.ref a0)] ∧ Z.Warmed39 U.vm ∧ U.heap = h0) (fun _ _ _ _ _ => True) (fun _ U o U' => ∃ v L, o = .returned v ∧ QV4 Z a0 h0 n0 v U'.heap L ∧ FrameEnd U o U' L ({ frames := 1, cells := 0, slots := 0, locals := 12 } : Room).cells ({ frames := 1, cells := 0, slots := 0, locals := 12 } : Room).slots) := by
  refine MetFree.of_bodySF (plainFor_of_name pnV4) hisR ?_
  intro p e s m args below meth c s₁ Bd hml0 hP hK
  obtain ⟨rfl, hZ, hh⟩ := hP
  have hx := Bd.exec
  have hby := Bd.bytes
  have hlk := BodyLoose.notSynchronized Bd
  have hret := Bd.returns
  have hml : c.maxLocals = 1 := hml0
  have hown : s.vm.findClass "com/example/kindred/kindred/core/LinkKind" = some m.cls := findClass_of_methodNamed Bd.named
  have hnm := (name_of_methodNamed Bd.named Bd.method).1
  have X0 : Stand p l e ({ frames := 1, cells := 0, slots := 0, locals := 12 } : Room) s m #[(.ref a0)] below meth c s₁ [] 0 0 := Stand.of_body Bd
  have e0 : s₁.heap = h0 := by rw [← hh, Bd.state]; rfl
  have N0 := Fr.nil n0
  show OFin p e below (KPost s (QV4 Z a0 h0 n0) ({ frames := 1, cells := 0, slots := 0, locals := 12 } : Room).cells ({ frames := 1, cells := 0, slots := 0, locals := 12 } : Room).slots) _
  rw [efV4 m a0]
  refine OFin.of (S' := s₁.setTop (mkF m 1 #[.val (.ref a0)] [(.ref a0)])) (fun t ht => ?_) ?_
  · refine XS.aloadN X0.here hx rfl (hb hby dV4_0) rfl rfl ?_
    exact ht
  obtain ⟨cq2, kq2, q2a, q2b, q2c⟩ := isOf hZ e0 E1
  obtain ⟨_, _, ⟨T1, L1, k1, n1⟩, -, X1, ⟨Lc1, hQ1, l1, y1, z1⟩, st1⟩ := X0.virtualBackUp hx (owner := "java/lang/Enum") (x := (⟨"com/example/kindred/kindred/core/LinkKind", "ordinal", "()I"⟩ : MethodName)) (y := (⟨"java/lang/Enum", "ordinal", "()I"⟩ : MethodName)) hown (mvT hZ (hw _ (List.mem_of_getElem? (i := 13) rfl))) (mvT hZ (hw _ (List.mem_of_getElem? (i := 14) rfl))) (mvT hZ (hw _ (List.mem_of_getElem? (i := 15) rfl))) (by decide) (mvT hZ (hw _ (List.mem_of_getElem? (i := 17) rfl))) (mvT hZ (hw _ (List.mem_of_getElem? (i := 16) rfl))) (backOf (W := 0) (rmOrd l Z _ hw [] a0 (4 : Int32) h0 n0 Z0 F1) hZ (hw _ (List.mem_of_getElem? (i := 19) rfl)) (hw _ (List.mem_of_getElem? (i := 18) rfl)) (by decide) (by decide)) q2a q2c (g := (mkF m 1 #[.val (.ref a0)] [(.ref a0)])) rfl (by rw [hml]; rfl) (Steps.refl _) (argsL := []) (rest := []) (lenOf pd_0 rfl) rfl (by show 2 * 0 + _ ≤ _; exact Nat.le_of_eq rfl) (hb hby dV4_1) (fun _ _ => ⟨rfl, e0, (by decide : 0 + 0 ≤ _), (by decide : 0 + 0 ≤ _)⟩)
  dsimp only [Pt.U, Pt.locs, Pt.cells, Pt.slots] at X1 l1 y1 z1 st1 hQ1
  subst l1 y1 z1
  obtain ⟨rfl, Nq1, hs1⟩ := hQ1
  have N3 := Fr.app N0 Nq1
  refine OFin.to (S' := T1.setTop (mkF m 4 #[.val (.ref a0)] [(.int (4 : Int32))])) st1 ?_
  refine OFin.of (S' := T1.setTop (mkF m 83 #[.val (.ref a0)] [(.ref a0)])) (fun t ht => ?_) ?_
  · refine XS.tswIn X1.here hx rfl (pc0 := 4) (pc' := 82) (o := 78) rfl (hb hby dV4_4) rfl (by decide) (by decide) (by decide) (by decide) ?_
    show Steps p.tables e below (T1.setTop (mkF m 82 _ [])) _
    refine XS.aloadN X1.here hx rfl (hb hby dV4_82) rfl rfl ?_
    exact ht
  exact OFin.retA X1 hx hlk (t := (.object "com/example/kindred/kindred/core/LinkKind")) rfl rfl hret (hb hby dV4_83) (by decide) (by decide) (by rw [hs1]; exact ⟨rfl, N3, rfl⟩)
theorem dN4_0 : decode prog_8_method_5_code 0 = .ok (.aload_n 0, 1) := by decide +kernel
theorem dN4_1 : decode prog_8_method_5_code 1 = .ok (.invokevirtual 44, 3) := by decide +kernel
theorem dN4_4 : decode prog_8_method_5_code 4 = .ok (.tableswitch 44 0 6 #[58, 58, 58, 58, 54, 54, 54], 44) := by decide +kernel
theorem dN4_58 : decode prog_8_method_5_code 58 = .ok (.iconst 1, 1) := by decide +kernel
theorem dN4_59 : decode prog_8_method_5_code 59 = .ok (.goto 4, 3) := by decide +kernel
theorem dN4_63 : decode prog_8_method_5_code 63 = .ok (.ireturn, 1) := by decide +kernel
theorem pnN4 : plainName "com/example/kindred/kindred/core/LinkKind" = true := by first | (simp [plainName, overriddenIn]; done) | decide +kernel
theorem efN4 (m : MethodId) (a0 : Addr) : entryFrame m #[(.ref a0)] 1 = mkF m 0 #[.val (.ref a0)] [] := by first | (simp [entryFrame, mkF, argsToLocals, Value.category]; done) | rfl
def QN4 (Z : State) (a0 : Addr) (h0 : Heap) (n0 : Nat) (v : Option Value) (h : Heap) (L : List Loc) : Prop := v = some (.int (1 : Int32)) ∧ Fr n0 L ∧ h = h0
set_option maxRecDepth 65536 in
set_option maxHeartbeats 40000000 in
theorem rmN4 (l : Launch) (Z : State) (a0 : Array Value) (hw : ∀ d ∈ tables_1, d.before a0 Z = true) (ws : List Jvm.Cond) (a0 : Addr) (h0 : Heap) (n0 : Nat) (Z0 : n0 ≤ h0.size) (F1 : Fld Z h0 a0 "java/lang/Enum" "ordinal" "I" (.int (4 : Int32))) (E1 : Exa Z h0 a0 "com/example/kindred/kindred/core/LinkKind") :
    MetFree l (⟨"com/example/kindred/kindred/core/LinkKind", "noted", "()Z"⟩ : MethodName) (head1 (Jvm.Cond.code (⟨"com/example/kindred/kindred/core/LinkKind", "noted", "()Z"⟩ : MethodName) prog_8_method_5_code 1 (some .boolean) :: ws) ({ frames := 1, cells := 0, slots := 0, locals := 12 } : Room)) (fun a U => a = #[(.ref a0)] ∧ Z.Warmed39 U.vm ∧ U.heap = h0) (fun _ _ _ _ _ => True) (fun _ U o U' => ∃ v L, o = .returned v ∧ QN4 Z a0 h0 n0 v U'.heap L ∧ FrameEnd U o U' L ({ frames := 1, cells := 0, slots := 0, locals := 12 } : Room).cells ({ frames := 1, cells := 0, slots := 0, locals := 12 } : Room).slots) := by
  refine MetFree.of_bodySF (plainFor_of_name pnN4) hisR ?_
  intro p e s m args below meth c s₁ Bd hml0 hP hK
  obtain ⟨rfl, hZ, hh⟩ := hP
  have hx := Bd.exec
  have hby := Bd.bytes
  have hlk := BodyLoose.notSynchronized Bd
  have hret := Bd.returns
  have hml : c.maxLocals = 1 := hml0
  have hown : s.vm.findClass "com/example/kindred/kindred/core/LinkKind" = some m.cls := findClass_of_methodNamed Bd.named
  have hnm := (name_of_methodNamed Bd.named Bd.method).1
  have X0 : Stand p l e ({ frames := 1, cells := 0, slots := 0, locals := 12 } : Room) s m #[(.ref a0)] below meth c s₁ [] 0 0 := Stand.of_body Bd
  have e0 : s₁.heap = h0 := by rw [← hh, Bd.state]; rfl
  have N0 := Fr.nil n0
  show OFin p e below (KPost s (QN4 Z a0 h0 n0) ({ frames := 1, cells := 0, slots := 0, locals := 12 } : Room).cells ({ frames := 1, cells := 0, slots := 0, locals := 12 } : Room).slots) _
  rw [efN4 m a0]
  refine OFin.of (S' := s₁.setTop (mkF m 1 #[.val (.ref a0)] [(.ref a0)])) (fun t ht => ?_) ?_
  · refine XS.aloadN X0.here hx rfl (hb hby dN4_0) rfl rfl ?_
    exact ht
  obtain ⟨cq2, kq2, q2a, q2b, q2c⟩ := isOf hZ e0 E1
  obtain ⟨_, _, ⟨T1, L1, k1, n1⟩, -, X1, ⟨Lc1, hQ1, l1, y1, z1⟩, st1⟩ := X0.virtualBackUp hx (owner := "java/lang/Enum") (x := (⟨"com/example/kindred/kindred/core/LinkKind", "ordinal", "()I"⟩ : MethodName)) (y := (⟨"java/lang/Enum", "ordinal", "()I"⟩ : MethodName)) hown (mvT hZ (hw _ (List.mem_of_getElem? (i := 13) rfl))) (mvT hZ (hw _ (List.mem_of_getElem? (i := 14) rfl))) (mvT hZ (hw _ (List.mem_of_getElem? (i := 15) rfl))) (by decide) (mvT hZ (hw _ (List.mem_of_getElem? (i := 17) rfl))) (mvT hZ (hw _ (List.mem_of_getElem? (i := 16) rfl))) (backOf (W := 0) (rmOrd l Z _ hw [] a0 (4 : Int32) h0 n0 Z0 F1) hZ (hw _ (List.mem_of_getElem? (i := 19) rfl)) (hw _ (List.mem_of_getElem? (i := 18) rfl)) (by decide) (by decide)) q2a q2c (g := (mkF m 1 #[.val (.ref a0)] [(.ref a0)])) rfl (by rw [hml]; rfl) (Steps.refl _) (argsL := []) (rest := []) (lenOf pd_0 rfl) rfl (by show 2 * 0 + _ ≤ _; exact Nat.le_of_eq rfl) (hb hby dN4_1) (fun _ _ => ⟨rfl, e0, (by decide : 0 + 0 ≤ _), (by decide : 0 + 0 ≤ _)⟩)
  dsimp only [Pt.U, Pt.locs, Pt.cells, Pt.slots] at X1 l1 y1 z1 st1 hQ1
  subst l1 y1 z1
  obtain ⟨rfl, Nq1, hs1⟩ := hQ1
  have N3 := Fr.app N0 Nq1
  refine OFin.to (S' := T1.setTop (mkF m 4 #[.val (.ref a0)] [(.int (4 : Int32))])) st1 ?_
  refine OFin.of (S' := T1.setTop (mkF m 63 #[.val (.ref a0)] [(.int (1 : Int32))])) (fun t ht => ?_) ?_
  · refine XS.tswIn X1.here hx rfl (pc0 := 4) (pc' := 58) (o := 54) rfl (hb hby dN4_4) rfl (by decide) (by decide) (by decide) (by decide) ?_
    show Steps p.tables e below (T1.setTop (mkF m 58 _ [])) _
    refine XS.iconst X1.here hx rfl (hb hby dN4_58) ?_
    show Steps p.tables e below (T1.setTop (mkF m 59 _ [(.int (1 : Int32))])) _
    refine XS.goto X1.here hx rfl (pc0 := 59) (pc' := 63) rfl (hb hby dN4_59) (by decide) (by decide) ?_
    exact ht
  exact OFin.retB X1 hx hlk (t := .boolean) (by simp) hret (hb hby dN4_63) (by decide) (by decide) (by rw [hs1]; exact ⟨rfl, N3, rfl⟩)
theorem dP5_0 : decode method_2_code 0 = .ok (.iload_n 0, 1) := by decide +kernel
theorem dP5_1 : decode method_2_code 1 = .ok (.ifCond .ne 7, 3) := by decide +kernel
theorem dP5_8 : decode method_2_code 8 = .ok (.iload_n 0, 1) := by decide +kernel
theorem dP5_9 : decode method_2_code 9 = .ok (.iconst 1, 1) := by decide +kernel
theorem dP5_10 : decode method_2_code 10 = .ok (.if_icmp .ne 7, 3) := by decide +kernel
theorem dP5_17 : decode method_2_code 17 = .ok (.iload_n 0, 1) := by decide +kernel
theorem dP5_18 : decode method_2_code 18 = .ok (.iconst 2, 1) := by decide +kernel
theorem dP5_19 : decode method_2_code 19 = .ok (.if_icmp .ne 7, 3) := by decide +kernel
theorem dP5_26 : decode method_2_code 26 = .ok (.iload_n 0, 1) := by decide +kernel
theorem dP5_27 : decode method_2_code 27 = .ok (.iconst 3, 1) := by decide +kernel
theorem dP5_28 : decode method_2_code 28 = .ok (.if_icmp .ne 7, 3) := by decide +kernel
theorem dP5_35 : decode method_2_code 35 = .ok (.iload_n 0, 1) := by decide +kernel
theorem dP5_36 : decode method_2_code 36 = .ok (.iconst 4, 1) := by decide +kernel
theorem dP5_37 : decode method_2_code 37 = .ok (.if_icmp .ne 7, 3) := by decide +kernel
theorem dP5_44 : decode method_2_code 44 = .ok (.iload_n 0, 1) := by decide +kernel
theorem dP5_45 : decode method_2_code 45 = .ok (.iconst 5, 1) := by decide +kernel
theorem dP5_46 : decode method_2_code 46 = .ok (.if_icmp .ne 7, 3) := by decide +kernel
theorem dP5_49 : decode method_2_code 49 = .ok (.getstatic 25, 3) := by decide +kernel
theorem dP5_52 : decode method_2_code 52 = .ok (.areturn, 1) := by decide +kernel
theorem pnP5 : plainName "com/example/kindred/kindred/core/LinkKindNotedPinLaw" = true := by first | (simp [plainName, overriddenIn]; done) | decide +kernel
theorem efP5 (m : MethodId)  : entryFrame m #[(.int (5 : Int32))] 1 = mkF m 0 #[.val (.int (5 : Int32))] [] := by first | (simp [entryFrame, mkF, argsToLocals, Value.category]; done) | rfl
def QP5 (Z : State) (x1 : Addr) (h0 : Heap) (n0 : Nat) (v : Option Value) (h : Heap) (L : List Loc) : Prop := v = some (.ref x1) ∧ Fr n0 L ∧ h = h0
set_option maxRecDepth 65536 in
set_option maxHeartbeats 40000000 in
theorem rmP5 (l : Launch) (Z : State) (a0 : Array Value) (hw : ∀ d ∈ tables_1, d.before a0 Z = true) (ws : List Jvm.Cond) (x1 : Addr) (h0 : Heap) (n0 : Nat) (Z0 : n0 ≤ h0.size) (S1 : Sta Z h0 "com/example/kindred/kindred/core/LinkKind" "OTHER_FORMATS" "Lcom/example/kindred/kindred/core/LinkKind;" (.ref x1)) :
    MetFree l (⟨"com/example/kindred/kindred/core/LinkKindNotedPinLaw", "pick", "(I)Lcom/example/kindred/kindred/core/LinkKind;"⟩ : MethodName) (head1 (Jvm.Cond.code (⟨"com/example/kindred/kindred/core/LinkKindNotedPinLaw", "pick", "(I)Lcom/example/kindred/kindred/core/LinkKind;"⟩ : MethodName) method_2_code 1 (some (.object "com/example/kindred/kindred/core/LinkKind")) :: ws) ({ frames := 0, cells := 0, slots := 0, locals := 0 } : Room)) (fun a U => a = #[(.int (5 : Int32))] ∧ Z.Warmed39 U.vm ∧ U.heap = h0) (fun _ _ _ _ _ => True) (fun _ U o U' => ∃ v L, o = .returned v ∧ QP5 Z x1 h0 n0 v U'.heap L ∧ FrameEnd U o U' L ({ frames := 0, cells := 0, slots := 0, locals := 0 } : Room).cells ({ frames := 0, cells := 0, slots := 0, locals := 0 } : Room).slots) := by
  refine MetFree.of_bodySF (plainFor_of_name pnP5) hisR ?_
  intro p e s m args below meth c s₁ Bd hml0 hP hK
  obtain ⟨rfl, hZ, hh⟩ := hP
  have hx := Bd.exec
  have hby := Bd.bytes
  have hlk := BodyLoose.notSynchronized Bd
  have hret := Bd.returns
  have hml : c.maxLocals = 1 := hml0
  have hown : s.vm.findClass "com/example/kindred/kindred/core/LinkKindNotedPinLaw" = some m.cls := findClass_of_methodNamed Bd.named
  have hnm := (name_of_methodNamed Bd.named Bd.method).1
  have X0 : Stand p l e ({ frames := 0, cells := 0, slots := 0, locals := 0 } : Room) s m #[(.int (5 : Int32))] below meth c s₁ [] 0 0 := Stand.of_body Bd
  have e0 : s₁.heap = h0 := by rw [← hh, Bd.state]; rfl
  have N0 := Fr.nil n0
  show OFin p e below (KPost s (QP5 Z x1 h0 n0) ({ frames := 0, cells := 0, slots := 0, locals := 0 } : Room).cells ({ frames := 0, cells := 0, slots := 0, locals := 0 } : Room).slots) _
  rw [efP5 m ]
  refine OFin.of (S' := s₁.setTop (mkF m 49 #[.val (.int (5 : Int32))] [])) (fun t ht => ?_) ?_
  · refine XS.iloadN X0.here hx rfl (hb hby dP5_0) rfl ?_
    show Steps p.tables e below (s₁.setTop (mkF m 1 _ [(.int (5 : Int32))])) _
    refine XS.ifYes X0.here hx rfl (pc0 := 1) (pc' := 8) rfl (hb hby dP5_1) rfl ((if0 _ _).trans (feq (by decide : ¬ ((5 : Int32) = (0 : Int32)))).2) (by decide) (by decide) ?_
    show Steps p.tables e below (s₁.setTop (mkF m 8 _ [])) _
    refine XS.iloadN X0.here hx rfl (hb hby dP5_8) rfl ?_
    show Steps p.tables e below (s₁.setTop (mkF m 9 _ [(.int (5 : Int32))])) _
    refine XS.iconst X0.here hx rfl (hb hby dP5_9) ?_
    show Steps p.tables e below (s₁.setTop (mkF m 10 _ [(.int (1 : Int32)), (.int (5 : Int32))])) _
    refine XS.icmpYes X0.here hx rfl (pc0 := 10) (pc' := 17) rfl (hb hby dP5_10) rfl (feq (by decide : ¬ ((5 : Int32) = (1 : Int32)))).2 (by decide) (by decide) ?_
    show Steps p.tables e below (s₁.setTop (mkF m 17 _ [])) _
    refine XS.iloadN X0.here hx rfl (hb hby dP5_17) rfl ?_
    show Steps p.tables e below (s₁.setTop (mkF m 18 _ [(.int (5 : Int32))])) _
    refine XS.iconst X0.here hx rfl (hb hby dP5_18) ?_
    show Steps p.tables e below (s₁.setTop (mkF m 19 _ [(.int (2 : Int32)), (.int (5 : Int32))])) _
    refine XS.icmpYes X0.here hx rfl (pc0 := 19) (pc' := 26) rfl (hb hby dP5_19) rfl (feq (by decide : ¬ ((5 : Int32) = (2 : Int32)))).2 (by decide) (by decide) ?_
    show Steps p.tables e below (s₁.setTop (mkF m 26 _ [])) _
    refine XS.iloadN X0.here hx rfl (hb hby dP5_26) rfl ?_
    show Steps p.tables e below (s₁.setTop (mkF m 27 _ [(.int (5 : Int32))])) _
    refine XS.iconst X0.here hx rfl (hb hby dP5_27) ?_
    show Steps p.tables e below (s₁.setTop (mkF m 28 _ [(.int (3 : Int32)), (.int (5 : Int32))])) _
    refine XS.icmpYes X0.here hx rfl (pc0 := 28) (pc' := 35) rfl (hb hby dP5_28) rfl (feq (by decide : ¬ ((5 : Int32) = (3 : Int32)))).2 (by decide) (by decide) ?_
    show Steps p.tables e below (s₁.setTop (mkF m 35 _ [])) _
    refine XS.iloadN X0.here hx rfl (hb hby dP5_35) rfl ?_
    show Steps p.tables e below (s₁.setTop (mkF m 36 _ [(.int (5 : Int32))])) _
    refine XS.iconst X0.here hx rfl (hb hby dP5_36) ?_
    show Steps p.tables e below (s₁.setTop (mkF m 37 _ [(.int (4 : Int32)), (.int (5 : Int32))])) _
    refine XS.icmpYes X0.here hx rfl (pc0 := 37) (pc' := 44) rfl (hb hby dP5_37) rfl (feq (by decide : ¬ ((5 : Int32) = (4 : Int32)))).2 (by decide) (by decide) ?_
    show Steps p.tables e below (s₁.setTop (mkF m 44 _ [])) _
    refine XS.iloadN X0.here hx rfl (hb hby dP5_44) rfl ?_
    show Steps p.tables e below (s₁.setTop (mkF m 45 _ [(.int (5 : Int32))])) _
    refine XS.iconst X0.here hx rfl (hb hby dP5_45) ?_
    show Steps p.tables e below (s₁.setTop (mkF m 46 _ [(.int (5 : Int32)), (.int (5 : Int32))])) _
    refine XS.icmpNo X0.here hx rfl (hb hby dP5_46) rfl (teq (by decide : (5 : Int32) = (5 : Int32))).2 ?_
    exact ht
  obtain ⟨T1, X1, e1, st1⟩ := getS (host := "") X0 hx hZ hown (hw _ (List.mem_of_getElem? (i := 33) rfl)) Via.refl e0 S1 (g := (mkF m 49 #[.val (.int (5 : Int32))] [])) rfl (hb hby dP5_49)
  refine OFin.of (S' := T1.setTop (mkF m 52 #[.val (.int (5 : Int32))] [(.ref x1)])) (fun t ht => st1 t ht) ?_
  exact OFin.retA X1 hx hlk (t := (.object "com/example/kindred/kindred/core/LinkKind")) rfl rfl hret (hb hby dP5_52) (by decide) (by decide) (by rw [e1]; exact ⟨rfl, N0, rfl⟩)
theorem dV5_0 : decode prog_8_method_4_code 0 = .ok (.aload_n 0, 1) := by decide +kernel
theorem dV5_1 : decode prog_8_method_4_code 1 = .ok (.invokevirtual 44, 3) := by decide +kernel
theorem dV5_4 : decode prog_8_method_4_code 4 = .ok (.tableswitch 44 0 6 #[54, 60, 66, 72, 78, 78, 78], 44) := by decide +kernel
theorem dV5_82 : decode prog_8_method_4_code 82 = .ok (.aload_n 0, 1) := by decide +kernel
theorem dV5_83 : decode prog_8_method_4_code 83 = .ok (.areturn, 1) := by decide +kernel
theorem pnV5 : plainName "com/example/kindred/kindred/core/LinkKind" = true := by first | (simp [plainName, overriddenIn]; done) | decide +kernel
theorem efV5 (m : MethodId) (a0 : Addr) : entryFrame m #[(.ref a0)] 1 = mkF m 0 #[.val (.ref a0)] [] := by first | (simp [entryFrame, mkF, argsToLocals, Value.category]; done) | rfl
def QV5 (Z : State) (a0 : Addr) (h0 : Heap) (n0 : Nat) (v : Option Value) (h : Heap) (L : List Loc) : Prop := v = some (.ref a0) ∧ Fr n0 L ∧ h = h0
set_option maxRecDepth 65536 in
set_option maxHeartbeats 40000000 in
theorem rmV5 (l : Launch) (Z : State) (a0 : Array Value) (hw : ∀ d ∈ tables_1, d.before a0 Z = true) (ws : List Jvm.Cond) (a0 : Addr) (h0 : Heap) (n0 : Nat) (Z0 : n0 ≤ h0.size) (F1 : Fld Z h0 a0 "java/lang/Enum" "ordinal" "I" (.int (5 : Int32))) (E1 : Exa Z h0 a0 "com/example/kindred/kindred/core/LinkKind") :
    MetFree l (⟨"com/example/kindred/kindred/core/LinkKind", "inverse", "()Lcom/example/kindred/kindred/core/LinkKind;"⟩ : MethodName) (head1 (Jvm.Cond.code (⟨"com/example/kindred/kindred/core/LinkKind", "inverse", "()Lcom/example/kindred/kindred/core/LinkKind;"⟩ : MethodName) prog_8_method_4_code 1 (some (.object "com/example/kindred/kindred/core/LinkKind")) :: ws) ({ frames := 1, cells := 0, slots := 0, locals := 12 } : Room)) (fun a U => a = #[(.ref a0)] ∧ Z.Warmed39 U.vm ∧ U.heap = h0) (fun _ _ _ _ _ => True) (fun _ U o U' => ∃ v L, o = .returned v ∧ QV5 Z a0 h0 n0 v U'.heap L ∧ FrameEnd U o U' L ({ frames := 1, cells := 0, slots := 0, locals := 12 } : Room).cells ({ frames := 1, cells := 0, slots := 0, locals := 12 } : Room).slots) := by
  refine MetFree.of_bodySF (plainFor_of_name pnV5) hisR ?_
  intro p e s m args below meth c s₁ Bd hml0 hP hK
  obtain ⟨rfl, hZ, hh⟩ := hP
  have hx := Bd.exec
  have hby := Bd.bytes
  have hlk := BodyLoose.notSynchronized Bd
  have hret := Bd.returns
  have hml : c.maxLocals = 1 := hml0
  have hown : s.vm.findClass "com/example/kindred/kindred/core/LinkKind" = some m.cls := findClass_of_methodNamed Bd.named
  have hnm := (name_of_methodNamed Bd.named Bd.method).1
  have X0 : Stand p l e ({ frames := 1, cells := 0, slots := 0, locals := 12 } : Room) s m #[(.ref a0)] below meth c s₁ [] 0 0 := Stand.of_body Bd
  have e0 : s₁.heap = h0 := by rw [← hh, Bd.state]; rfl
  have N0 := Fr.nil n0
  show OFin p e below (KPost s (QV5 Z a0 h0 n0) ({ frames := 1, cells := 0, slots := 0, locals := 12 } : Room).cells ({ frames := 1, cells := 0, slots := 0, locals := 12 } : Room).slots) _
  rw [efV5 m a0]
  refine OFin.of (S' := s₁.setTop (mkF m 1 #[.val (.ref a0)] [(.ref a0)])) (fun t ht => ?_) ?_
  · refine XS.aloadN X0.here hx rfl (hb hby dV5_0) rfl rfl ?_
    exact ht
  obtain ⟨cq2, kq2, q2a, q2b, q2c⟩ := isOf hZ e0 E1
  obtain ⟨_, _, ⟨T1, L1, k1, n1⟩, -, X1, ⟨Lc1, hQ1, l1, y1, z1⟩, st1⟩ := X0.virtualBackUp hx (owner := "java/lang/Enum") (x := (⟨"com/example/kindred/kindred/core/LinkKind", "ordinal", "()I"⟩ : MethodName)) (y := (⟨"java/lang/Enum", "ordinal", "()I"⟩ : MethodName)) hown (mvT hZ (hw _ (List.mem_of_getElem? (i := 13) rfl))) (mvT hZ (hw _ (List.mem_of_getElem? (i := 14) rfl))) (mvT hZ (hw _ (List.mem_of_getElem? (i := 15) rfl))) (by decide) (mvT hZ (hw _ (List.mem_of_getElem? (i := 17) rfl))) (mvT hZ (hw _ (List.mem_of_getElem? (i := 16) rfl))) (backOf (W := 0) (rmOrd l Z _ hw [] a0 (5 : Int32) h0 n0 Z0 F1) hZ (hw _ (List.mem_of_getElem? (i := 19) rfl)) (hw _ (List.mem_of_getElem? (i := 18) rfl)) (by decide) (by decide)) q2a q2c (g := (mkF m 1 #[.val (.ref a0)] [(.ref a0)])) rfl (by rw [hml]; rfl) (Steps.refl _) (argsL := []) (rest := []) (lenOf pd_0 rfl) rfl (by show 2 * 0 + _ ≤ _; exact Nat.le_of_eq rfl) (hb hby dV5_1) (fun _ _ => ⟨rfl, e0, (by decide : 0 + 0 ≤ _), (by decide : 0 + 0 ≤ _)⟩)
  dsimp only [Pt.U, Pt.locs, Pt.cells, Pt.slots] at X1 l1 y1 z1 st1 hQ1
  subst l1 y1 z1
  obtain ⟨rfl, Nq1, hs1⟩ := hQ1
  have N3 := Fr.app N0 Nq1
  refine OFin.to (S' := T1.setTop (mkF m 4 #[.val (.ref a0)] [(.int (5 : Int32))])) st1 ?_
  refine OFin.of (S' := T1.setTop (mkF m 83 #[.val (.ref a0)] [(.ref a0)])) (fun t ht => ?_) ?_
  · refine XS.tswIn X1.here hx rfl (pc0 := 4) (pc' := 82) (o := 78) rfl (hb hby dV5_4) rfl (by decide) (by decide) (by decide) (by decide) ?_
    show Steps p.tables e below (T1.setTop (mkF m 82 _ [])) _
    refine XS.aloadN X1.here hx rfl (hb hby dV5_82) rfl rfl ?_
    exact ht
  exact OFin.retA X1 hx hlk (t := (.object "com/example/kindred/kindred/core/LinkKind")) rfl rfl hret (hb hby dV5_83) (by decide) (by decide) (by rw [hs1]; exact ⟨rfl, N3, rfl⟩)
theorem dN5_0 : decode prog_8_method_5_code 0 = .ok (.aload_n 0, 1) := by decide +kernel
theorem dN5_1 : decode prog_8_method_5_code 1 = .ok (.invokevirtual 44, 3) := by decide +kernel
theorem dN5_4 : decode prog_8_method_5_code 4 = .ok (.tableswitch 44 0 6 #[58, 58, 58, 58, 54, 54, 54], 44) := by decide +kernel
theorem dN5_58 : decode prog_8_method_5_code 58 = .ok (.iconst 1, 1) := by decide +kernel
theorem dN5_59 : decode prog_8_method_5_code 59 = .ok (.goto 4, 3) := by decide +kernel
theorem dN5_63 : decode prog_8_method_5_code 63 = .ok (.ireturn, 1) := by decide +kernel
theorem pnN5 : plainName "com/example/kindred/kindred/core/LinkKind" = true := by first | (simp [plainName, overriddenIn]; done) | decide +kernel
theorem efN5 (m : MethodId) (a0 : Addr) : entryFrame m #[(.ref a0)] 1 = mkF m 0 #[.val (.ref a0)] [] := by first | (simp [entryFrame, mkF, argsToLocals, Value.category]; done) | rfl
def QN5 (Z : State) (a0 : Addr) (h0 : Heap) (n0 : Nat) (v : Option Value) (h : Heap) (L : List Loc) : Prop := v = some (.int (1 : Int32)) ∧ Fr n0 L ∧ h = h0
set_option maxRecDepth 65536 in
set_option maxHeartbeats 40000000 in
theorem rmN5 (l : Launch) (Z : State) (a0 : Array Value) (hw : ∀ d ∈ tables_1, d.before a0 Z = true) (ws : List Jvm.Cond) (a0 : Addr) (h0 : Heap) (n0 : Nat) (Z0 : n0 ≤ h0.size) (F1 : Fld Z h0 a0 "java/lang/Enum" "ordinal" "I" (.int (5 : Int32))) (E1 : Exa Z h0 a0 "com/example/kindred/kindred/core/LinkKind") :
    MetFree l (⟨"com/example/kindred/kindred/core/LinkKind", "noted", "()Z"⟩ : MethodName) (head1 (Jvm.Cond.code (⟨"com/example/kindred/kindred/core/LinkKind", "noted", "()Z"⟩ : MethodName) prog_8_method_5_code 1 (some .boolean) :: ws) ({ frames := 1, cells := 0, slots := 0, locals := 12 } : Room)) (fun a U => a = #[(.ref a0)] ∧ Z.Warmed39 U.vm ∧ U.heap = h0) (fun _ _ _ _ _ => True) (fun _ U o U' => ∃ v L, o = .returned v ∧ QN5 Z a0 h0 n0 v U'.heap L ∧ FrameEnd U o U' L ({ frames := 1, cells := 0, slots := 0, locals := 12 } : Room).cells ({ frames := 1, cells := 0, slots := 0, locals := 12 } : Room).slots) := by
  refine MetFree.of_bodySF (plainFor_of_name pnN5) hisR ?_
  intro p e s m args below meth c s₁ Bd hml0 hP hK
  obtain ⟨rfl, hZ, hh⟩ := hP
  have hx := Bd.exec
  have hby := Bd.bytes
  have hlk := BodyLoose.notSynchronized Bd
  have hret := Bd.returns
  have hml : c.maxLocals = 1 := hml0
  have hown : s.vm.findClass "com/example/kindred/kindred/core/LinkKind" = some m.cls := findClass_of_methodNamed Bd.named
  have hnm := (name_of_methodNamed Bd.named Bd.method).1
  have X0 : Stand p l e ({ frames := 1, cells := 0, slots := 0, locals := 12 } : Room) s m #[(.ref a0)] below meth c s₁ [] 0 0 := Stand.of_body Bd
  have e0 : s₁.heap = h0 := by rw [← hh, Bd.state]; rfl
  have N0 := Fr.nil n0
  show OFin p e below (KPost s (QN5 Z a0 h0 n0) ({ frames := 1, cells := 0, slots := 0, locals := 12 } : Room).cells ({ frames := 1, cells := 0, slots := 0, locals := 12 } : Room).slots) _
  rw [efN5 m a0]
  refine OFin.of (S' := s₁.setTop (mkF m 1 #[.val (.ref a0)] [(.ref a0)])) (fun t ht => ?_) ?_
  · refine XS.aloadN X0.here hx rfl (hb hby dN5_0) rfl rfl ?_
    exact ht
  obtain ⟨cq2, kq2, q2a, q2b, q2c⟩ := isOf hZ e0 E1
  obtain ⟨_, _, ⟨T1, L1, k1, n1⟩, -, X1, ⟨Lc1, hQ1, l1, y1, z1⟩, st1⟩ := X0.virtualBackUp hx (owner := "java/lang/Enum") (x := (⟨"com/example/kindred/kindred/core/LinkKind", "ordinal", "()I"⟩ : MethodName)) (y := (⟨"java/lang/Enum", "ordinal", "()I"⟩ : MethodName)) hown (mvT hZ (hw _ (List.mem_of_getElem? (i := 13) rfl))) (mvT hZ (hw _ (List.mem_of_getElem? (i := 14) rfl))) (mvT hZ (hw _ (List.mem_of_getElem? (i := 15) rfl))) (by decide) (mvT hZ (hw _ (List.mem_of_getElem? (i := 17) rfl))) (mvT hZ (hw _ (List.mem_of_getElem? (i := 16) rfl))) (backOf (W := 0) (rmOrd l Z _ hw [] a0 (5 : Int32) h0 n0 Z0 F1) hZ (hw _ (List.mem_of_getElem? (i := 19) rfl)) (hw _ (List.mem_of_getElem? (i := 18) rfl)) (by decide) (by decide)) q2a q2c (g := (mkF m 1 #[.val (.ref a0)] [(.ref a0)])) rfl (by rw [hml]; rfl) (Steps.refl _) (argsL := []) (rest := []) (lenOf pd_0 rfl) rfl (by show 2 * 0 + _ ≤ _; exact Nat.le_of_eq rfl) (hb hby dN5_1) (fun _ _ => ⟨rfl, e0, (by decide : 0 + 0 ≤ _), (by decide : 0 + 0 ≤ _)⟩)
  dsimp only [Pt.U, Pt.locs, Pt.cells, Pt.slots] at X1 l1 y1 z1 st1 hQ1
  subst l1 y1 z1
  obtain ⟨rfl, Nq1, hs1⟩ := hQ1
  have N3 := Fr.app N0 Nq1
  refine OFin.to (S' := T1.setTop (mkF m 4 #[.val (.ref a0)] [(.int (5 : Int32))])) st1 ?_
  refine OFin.of (S' := T1.setTop (mkF m 63 #[.val (.ref a0)] [(.int (1 : Int32))])) (fun t ht => ?_) ?_
  · refine XS.tswIn X1.here hx rfl (pc0 := 4) (pc' := 58) (o := 54) rfl (hb hby dN5_4) rfl (by decide) (by decide) (by decide) (by decide) ?_
    show Steps p.tables e below (T1.setTop (mkF m 58 _ [])) _
    refine XS.iconst X1.here hx rfl (hb hby dN5_58) ?_
    show Steps p.tables e below (T1.setTop (mkF m 59 _ [(.int (1 : Int32))])) _
    refine XS.goto X1.here hx rfl (pc0 := 59) (pc' := 63) rfl (hb hby dN5_59) (by decide) (by decide) ?_
    exact ht
  exact OFin.retB X1 hx hlk (t := .boolean) (by simp) hret (hb hby dN5_63) (by decide) (by decide) (by rw [hs1]; exact ⟨rfl, N3, rfl⟩)
theorem dP6_0 : decode method_2_code 0 = .ok (.iload_n 0, 1) := by decide +kernel
theorem dP6_1 : decode method_2_code 1 = .ok (.ifCond .ne 7, 3) := by decide +kernel
theorem dP6_8 : decode method_2_code 8 = .ok (.iload_n 0, 1) := by decide +kernel
theorem dP6_9 : decode method_2_code 9 = .ok (.iconst 1, 1) := by decide +kernel
theorem dP6_10 : decode method_2_code 10 = .ok (.if_icmp .ne 7, 3) := by decide +kernel
theorem dP6_17 : decode method_2_code 17 = .ok (.iload_n 0, 1) := by decide +kernel
theorem dP6_18 : decode method_2_code 18 = .ok (.iconst 2, 1) := by decide +kernel
theorem dP6_19 : decode method_2_code 19 = .ok (.if_icmp .ne 7, 3) := by decide +kernel
theorem dP6_26 : decode method_2_code 26 = .ok (.iload_n 0, 1) := by decide +kernel
theorem dP6_27 : decode method_2_code 27 = .ok (.iconst 3, 1) := by decide +kernel
theorem dP6_28 : decode method_2_code 28 = .ok (.if_icmp .ne 7, 3) := by decide +kernel
theorem dP6_35 : decode method_2_code 35 = .ok (.iload_n 0, 1) := by decide +kernel
theorem dP6_36 : decode method_2_code 36 = .ok (.iconst 4, 1) := by decide +kernel
theorem dP6_37 : decode method_2_code 37 = .ok (.if_icmp .ne 7, 3) := by decide +kernel
theorem dP6_44 : decode method_2_code 44 = .ok (.iload_n 0, 1) := by decide +kernel
theorem dP6_45 : decode method_2_code 45 = .ok (.iconst 5, 1) := by decide +kernel
theorem dP6_46 : decode method_2_code 46 = .ok (.if_icmp .ne 7, 3) := by decide +kernel
theorem dP6_53 : decode method_2_code 53 = .ok (.getstatic 28, 3) := by decide +kernel
theorem dP6_56 : decode method_2_code 56 = .ok (.areturn, 1) := by decide +kernel
theorem pnP6 : plainName "com/example/kindred/kindred/core/LinkKindNotedPinLaw" = true := by first | (simp [plainName, overriddenIn]; done) | decide +kernel
theorem efP6 (m : MethodId)  : entryFrame m #[(.int (6 : Int32))] 1 = mkF m 0 #[.val (.int (6 : Int32))] [] := by first | (simp [entryFrame, mkF, argsToLocals, Value.category]; done) | rfl
def QP6 (Z : State) (x1 : Addr) (h0 : Heap) (n0 : Nat) (v : Option Value) (h : Heap) (L : List Loc) : Prop := v = some (.ref x1) ∧ Fr n0 L ∧ h = h0
set_option maxRecDepth 65536 in
set_option maxHeartbeats 40000000 in
theorem rmP6 (l : Launch) (Z : State) (a0 : Array Value) (hw : ∀ d ∈ tables_1, d.before a0 Z = true) (ws : List Jvm.Cond) (x1 : Addr) (h0 : Heap) (n0 : Nat) (Z0 : n0 ≤ h0.size) (S1 : Sta Z h0 "com/example/kindred/kindred/core/LinkKind" "RELATED" "Lcom/example/kindred/kindred/core/LinkKind;" (.ref x1)) :
    MetFree l (⟨"com/example/kindred/kindred/core/LinkKindNotedPinLaw", "pick", "(I)Lcom/example/kindred/kindred/core/LinkKind;"⟩ : MethodName) (head1 (Jvm.Cond.code (⟨"com/example/kindred/kindred/core/LinkKindNotedPinLaw", "pick", "(I)Lcom/example/kindred/kindred/core/LinkKind;"⟩ : MethodName) method_2_code 1 (some (.object "com/example/kindred/kindred/core/LinkKind")) :: ws) ({ frames := 0, cells := 0, slots := 0, locals := 0 } : Room)) (fun a U => a = #[(.int (6 : Int32))] ∧ Z.Warmed39 U.vm ∧ U.heap = h0) (fun _ _ _ _ _ => True) (fun _ U o U' => ∃ v L, o = .returned v ∧ QP6 Z x1 h0 n0 v U'.heap L ∧ FrameEnd U o U' L ({ frames := 0, cells := 0, slots := 0, locals := 0 } : Room).cells ({ frames := 0, cells := 0, slots := 0, locals := 0 } : Room).slots) := by
  refine MetFree.of_bodySF (plainFor_of_name pnP6) hisR ?_
  intro p e s m args below meth c s₁ Bd hml0 hP hK
  obtain ⟨rfl, hZ, hh⟩ := hP
  have hx := Bd.exec
  have hby := Bd.bytes
  have hlk := BodyLoose.notSynchronized Bd
  have hret := Bd.returns
  have hml : c.maxLocals = 1 := hml0
  have hown : s.vm.findClass "com/example/kindred/kindred/core/LinkKindNotedPinLaw" = some m.cls := findClass_of_methodNamed Bd.named
  have hnm := (name_of_methodNamed Bd.named Bd.method).1
  have X0 : Stand p l e ({ frames := 0, cells := 0, slots := 0, locals := 0 } : Room) s m #[(.int (6 : Int32))] below meth c s₁ [] 0 0 := Stand.of_body Bd
  have e0 : s₁.heap = h0 := by rw [← hh, Bd.state]; rfl
  have N0 := Fr.nil n0
  show OFin p e below (KPost s (QP6 Z x1 h0 n0) ({ frames := 0, cells := 0, slots := 0, locals := 0 } : Room).cells ({ frames := 0, cells := 0, slots := 0, locals := 0 } : Room).slots) _
  rw [efP6 m ]
  refine OFin.of (S' := s₁.setTop (mkF m 53 #[.val (.int (6 : Int32))] [])) (fun t ht => ?_) ?_
  · refine XS.iloadN X0.here hx rfl (hb hby dP6_0) rfl ?_
    show Steps p.tables e below (s₁.setTop (mkF m 1 _ [(.int (6 : Int32))])) _
    refine XS.ifYes X0.here hx rfl (pc0 := 1) (pc' := 8) rfl (hb hby dP6_1) rfl ((if0 _ _).trans (feq (by decide : ¬ ((6 : Int32) = (0 : Int32)))).2) (by decide) (by decide) ?_
    show Steps p.tables e below (s₁.setTop (mkF m 8 _ [])) _
    refine XS.iloadN X0.here hx rfl (hb hby dP6_8) rfl ?_
    show Steps p.tables e below (s₁.setTop (mkF m 9 _ [(.int (6 : Int32))])) _
    refine XS.iconst X0.here hx rfl (hb hby dP6_9) ?_
    show Steps p.tables e below (s₁.setTop (mkF m 10 _ [(.int (1 : Int32)), (.int (6 : Int32))])) _
    refine XS.icmpYes X0.here hx rfl (pc0 := 10) (pc' := 17) rfl (hb hby dP6_10) rfl (feq (by decide : ¬ ((6 : Int32) = (1 : Int32)))).2 (by decide) (by decide) ?_
    show Steps p.tables e below (s₁.setTop (mkF m 17 _ [])) _
    refine XS.iloadN X0.here hx rfl (hb hby dP6_17) rfl ?_
    show Steps p.tables e below (s₁.setTop (mkF m 18 _ [(.int (6 : Int32))])) _
    refine XS.iconst X0.here hx rfl (hb hby dP6_18) ?_
    show Steps p.tables e below (s₁.setTop (mkF m 19 _ [(.int (2 : Int32)), (.int (6 : Int32))])) _
    refine XS.icmpYes X0.here hx rfl (pc0 := 19) (pc' := 26) rfl (hb hby dP6_19) rfl (feq (by decide : ¬ ((6 : Int32) = (2 : Int32)))).2 (by decide) (by decide) ?_
    show Steps p.tables e below (s₁.setTop (mkF m 26 _ [])) _
    refine XS.iloadN X0.here hx rfl (hb hby dP6_26) rfl ?_
    show Steps p.tables e below (s₁.setTop (mkF m 27 _ [(.int (6 : Int32))])) _
    refine XS.iconst X0.here hx rfl (hb hby dP6_27) ?_
    show Steps p.tables e below (s₁.setTop (mkF m 28 _ [(.int (3 : Int32)), (.int (6 : Int32))])) _
    refine XS.icmpYes X0.here hx rfl (pc0 := 28) (pc' := 35) rfl (hb hby dP6_28) rfl (feq (by decide : ¬ ((6 : Int32) = (3 : Int32)))).2 (by decide) (by decide) ?_
    show Steps p.tables e below (s₁.setTop (mkF m 35 _ [])) _
    refine XS.iloadN X0.here hx rfl (hb hby dP6_35) rfl ?_
    show Steps p.tables e below (s₁.setTop (mkF m 36 _ [(.int (6 : Int32))])) _
    refine XS.iconst X0.here hx rfl (hb hby dP6_36) ?_
    show Steps p.tables e below (s₁.setTop (mkF m 37 _ [(.int (4 : Int32)), (.int (6 : Int32))])) _
    refine XS.icmpYes X0.here hx rfl (pc0 := 37) (pc' := 44) rfl (hb hby dP6_37) rfl (feq (by decide : ¬ ((6 : Int32) = (4 : Int32)))).2 (by decide) (by decide) ?_
    show Steps p.tables e below (s₁.setTop (mkF m 44 _ [])) _
    refine XS.iloadN X0.here hx rfl (hb hby dP6_44) rfl ?_
    show Steps p.tables e below (s₁.setTop (mkF m 45 _ [(.int (6 : Int32))])) _
    refine XS.iconst X0.here hx rfl (hb hby dP6_45) ?_
    show Steps p.tables e below (s₁.setTop (mkF m 46 _ [(.int (5 : Int32)), (.int (6 : Int32))])) _
    refine XS.icmpYes X0.here hx rfl (pc0 := 46) (pc' := 53) rfl (hb hby dP6_46) rfl (feq (by decide : ¬ ((6 : Int32) = (5 : Int32)))).2 (by decide) (by decide) ?_
    exact ht
  obtain ⟨T1, X1, e1, st1⟩ := getS (host := "") X0 hx hZ hown (hw _ (List.mem_of_getElem? (i := 35) rfl)) Via.refl e0 S1 (g := (mkF m 53 #[.val (.int (6 : Int32))] [])) rfl (hb hby dP6_53)
  refine OFin.of (S' := T1.setTop (mkF m 56 #[.val (.int (6 : Int32))] [(.ref x1)])) (fun t ht => st1 t ht) ?_
  exact OFin.retA X1 hx hlk (t := (.object "com/example/kindred/kindred/core/LinkKind")) rfl rfl hret (hb hby dP6_56) (by decide) (by decide) (by rw [e1]; exact ⟨rfl, N0, rfl⟩)
theorem dV6_0 : decode prog_8_method_4_code 0 = .ok (.aload_n 0, 1) := by decide +kernel
theorem dV6_1 : decode prog_8_method_4_code 1 = .ok (.invokevirtual 44, 3) := by decide +kernel
theorem dV6_4 : decode prog_8_method_4_code 4 = .ok (.tableswitch 44 0 6 #[54, 60, 66, 72, 78, 78, 78], 44) := by decide +kernel
theorem dV6_82 : decode prog_8_method_4_code 82 = .ok (.aload_n 0, 1) := by decide +kernel
theorem dV6_83 : decode prog_8_method_4_code 83 = .ok (.areturn, 1) := by decide +kernel
theorem pnV6 : plainName "com/example/kindred/kindred/core/LinkKind" = true := by first | (simp [plainName, overriddenIn]; done) | decide +kernel
theorem efV6 (m : MethodId) (a0 : Addr) : entryFrame m #[(.ref a0)] 1 = mkF m 0 #[.val (.ref a0)] [] := by first | (simp [entryFrame, mkF, argsToLocals, Value.category]; done) | rfl
def QV6 (Z : State) (a0 : Addr) (h0 : Heap) (n0 : Nat) (v : Option Value) (h : Heap) (L : List Loc) : Prop := v = some (.ref a0) ∧ Fr n0 L ∧ h = h0
set_option maxRecDepth 65536 in
set_option maxHeartbeats 40000000 in
theorem rmV6 (l : Launch) (Z : State) (a0 : Array Value) (hw : ∀ d ∈ tables_1, d.before a0 Z = true) (ws : List Jvm.Cond) (a0 : Addr) (h0 : Heap) (n0 : Nat) (Z0 : n0 ≤ h0.size) (F1 : Fld Z h0 a0 "java/lang/Enum" "ordinal" "I" (.int (6 : Int32))) (E1 : Exa Z h0 a0 "com/example/kindred/kindred/core/LinkKind") :
    MetFree l (⟨"com/example/kindred/kindred/core/LinkKind", "inverse", "()Lcom/example/kindred/kindred/core/LinkKind;"⟩ : MethodName) (head1 (Jvm.Cond.code (⟨"com/example/kindred/kindred/core/LinkKind", "inverse", "()Lcom/example/kindred/kindred/core/LinkKind;"⟩ : MethodName) prog_8_method_4_code 1 (some (.object "com/example/kindred/kindred/core/LinkKind")) :: ws) ({ frames := 1, cells := 0, slots := 0, locals := 12 } : Room)) (fun a U => a = #[(.ref a0)] ∧ Z.Warmed39 U.vm ∧ U.heap = h0) (fun _ _ _ _ _ => True) (fun _ U o U' => ∃ v L, o = .returned v ∧ QV6 Z a0 h0 n0 v U'.heap L ∧ FrameEnd U o U' L ({ frames := 1, cells := 0, slots := 0, locals := 12 } : Room).cells ({ frames := 1, cells := 0, slots := 0, locals := 12 } : Room).slots) := by
  refine MetFree.of_bodySF (plainFor_of_name pnV6) hisR ?_
  intro p e s m args below meth c s₁ Bd hml0 hP hK
  obtain ⟨rfl, hZ, hh⟩ := hP
  have hx := Bd.exec
  have hby := Bd.bytes
  have hlk := BodyLoose.notSynchronized Bd
  have hret := Bd.returns
  have hml : c.maxLocals = 1 := hml0
  have hown : s.vm.findClass "com/example/kindred/kindred/core/LinkKind" = some m.cls := findClass_of_methodNamed Bd.named
  have hnm := (name_of_methodNamed Bd.named Bd.method).1
  have X0 : Stand p l e ({ frames := 1, cells := 0, slots := 0, locals := 12 } : Room) s m #[(.ref a0)] below meth c s₁ [] 0 0 := Stand.of_body Bd
  have e0 : s₁.heap = h0 := by rw [← hh, Bd.state]; rfl
  have N0 := Fr.nil n0
  show OFin p e below (KPost s (QV6 Z a0 h0 n0) ({ frames := 1, cells := 0, slots := 0, locals := 12 } : Room).cells ({ frames := 1, cells := 0, slots := 0, locals := 12 } : Room).slots) _
  rw [efV6 m a0]
  refine OFin.of (S' := s₁.setTop (mkF m 1 #[.val (.ref a0)] [(.ref a0)])) (fun t ht => ?_) ?_
  · refine XS.aloadN X0.here hx rfl (hb hby dV6_0) rfl rfl ?_
    exact ht
  obtain ⟨cq2, kq2, q2a, q2b, q2c⟩ := isOf hZ e0 E1
  obtain ⟨_, _, ⟨T1, L1, k1, n1⟩, -, X1, ⟨Lc1, hQ1, l1, y1, z1⟩, st1⟩ := X0.virtualBackUp hx (owner := "java/lang/Enum") (x := (⟨"com/example/kindred/kindred/core/LinkKind", "ordinal", "()I"⟩ : MethodName)) (y := (⟨"java/lang/Enum", "ordinal", "()I"⟩ : MethodName)) hown (mvT hZ (hw _ (List.mem_of_getElem? (i := 13) rfl))) (mvT hZ (hw _ (List.mem_of_getElem? (i := 14) rfl))) (mvT hZ (hw _ (List.mem_of_getElem? (i := 15) rfl))) (by decide) (mvT hZ (hw _ (List.mem_of_getElem? (i := 17) rfl))) (mvT hZ (hw _ (List.mem_of_getElem? (i := 16) rfl))) (backOf (W := 0) (rmOrd l Z _ hw [] a0 (6 : Int32) h0 n0 Z0 F1) hZ (hw _ (List.mem_of_getElem? (i := 19) rfl)) (hw _ (List.mem_of_getElem? (i := 18) rfl)) (by decide) (by decide)) q2a q2c (g := (mkF m 1 #[.val (.ref a0)] [(.ref a0)])) rfl (by rw [hml]; rfl) (Steps.refl _) (argsL := []) (rest := []) (lenOf pd_0 rfl) rfl (by show 2 * 0 + _ ≤ _; exact Nat.le_of_eq rfl) (hb hby dV6_1) (fun _ _ => ⟨rfl, e0, (by decide : 0 + 0 ≤ _), (by decide : 0 + 0 ≤ _)⟩)
  dsimp only [Pt.U, Pt.locs, Pt.cells, Pt.slots] at X1 l1 y1 z1 st1 hQ1
  subst l1 y1 z1
  obtain ⟨rfl, Nq1, hs1⟩ := hQ1
  have N3 := Fr.app N0 Nq1
  refine OFin.to (S' := T1.setTop (mkF m 4 #[.val (.ref a0)] [(.int (6 : Int32))])) st1 ?_
  refine OFin.of (S' := T1.setTop (mkF m 83 #[.val (.ref a0)] [(.ref a0)])) (fun t ht => ?_) ?_
  · refine XS.tswIn X1.here hx rfl (pc0 := 4) (pc' := 82) (o := 78) rfl (hb hby dV6_4) rfl (by decide) (by decide) (by decide) (by decide) ?_
    show Steps p.tables e below (T1.setTop (mkF m 82 _ [])) _
    refine XS.aloadN X1.here hx rfl (hb hby dV6_82) rfl rfl ?_
    exact ht
  exact OFin.retA X1 hx hlk (t := (.object "com/example/kindred/kindred/core/LinkKind")) rfl rfl hret (hb hby dV6_83) (by decide) (by decide) (by rw [hs1]; exact ⟨rfl, N3, rfl⟩)
theorem dN6_0 : decode prog_8_method_5_code 0 = .ok (.aload_n 0, 1) := by decide +kernel
theorem dN6_1 : decode prog_8_method_5_code 1 = .ok (.invokevirtual 44, 3) := by decide +kernel
theorem dN6_4 : decode prog_8_method_5_code 4 = .ok (.tableswitch 44 0 6 #[58, 58, 58, 58, 54, 54, 54], 44) := by decide +kernel
theorem dN6_58 : decode prog_8_method_5_code 58 = .ok (.iconst 1, 1) := by decide +kernel
theorem dN6_59 : decode prog_8_method_5_code 59 = .ok (.goto 4, 3) := by decide +kernel
theorem dN6_63 : decode prog_8_method_5_code 63 = .ok (.ireturn, 1) := by decide +kernel
theorem pnN6 : plainName "com/example/kindred/kindred/core/LinkKind" = true := by first | (simp [plainName, overriddenIn]; done) | decide +kernel
theorem efN6 (m : MethodId) (a0 : Addr) : entryFrame m #[(.ref a0)] 1 = mkF m 0 #[.val (.ref a0)] [] := by first | (simp [entryFrame, mkF, argsToLocals, Value.category]; done) | rfl
def QN6 (Z : State) (a0 : Addr) (h0 : Heap) (n0 : Nat) (v : Option Value) (h : Heap) (L : List Loc) : Prop := v = some (.int (1 : Int32)) ∧ Fr n0 L ∧ h = h0
set_option maxRecDepth 65536 in
set_option maxHeartbeats 40000000 in
theorem rmN6 (l : Launch) (Z : State) (a0 : Array Value) (hw : ∀ d ∈ tables_1, d.before a0 Z = true) (ws : List Jvm.Cond) (a0 : Addr) (h0 : Heap) (n0 : Nat) (Z0 : n0 ≤ h0.size) (F1 : Fld Z h0 a0 "java/lang/Enum" "ordinal" "I" (.int (6 : Int32))) (E1 : Exa Z h0 a0 "com/example/kindred/kindred/core/LinkKind") :
    MetFree l (⟨"com/example/kindred/kindred/core/LinkKind", "noted", "()Z"⟩ : MethodName) (head1 (Jvm.Cond.code (⟨"com/example/kindred/kindred/core/LinkKind", "noted", "()Z"⟩ : MethodName) prog_8_method_5_code 1 (some .boolean) :: ws) ({ frames := 1, cells := 0, slots := 0, locals := 12 } : Room)) (fun a U => a = #[(.ref a0)] ∧ Z.Warmed39 U.vm ∧ U.heap = h0) (fun _ _ _ _ _ => True) (fun _ U o U' => ∃ v L, o = .returned v ∧ QN6 Z a0 h0 n0 v U'.heap L ∧ FrameEnd U o U' L ({ frames := 1, cells := 0, slots := 0, locals := 12 } : Room).cells ({ frames := 1, cells := 0, slots := 0, locals := 12 } : Room).slots) := by
  refine MetFree.of_bodySF (plainFor_of_name pnN6) hisR ?_
  intro p e s m args below meth c s₁ Bd hml0 hP hK
  obtain ⟨rfl, hZ, hh⟩ := hP
  have hx := Bd.exec
  have hby := Bd.bytes
  have hlk := BodyLoose.notSynchronized Bd
  have hret := Bd.returns
  have hml : c.maxLocals = 1 := hml0
  have hown : s.vm.findClass "com/example/kindred/kindred/core/LinkKind" = some m.cls := findClass_of_methodNamed Bd.named
  have hnm := (name_of_methodNamed Bd.named Bd.method).1
  have X0 : Stand p l e ({ frames := 1, cells := 0, slots := 0, locals := 12 } : Room) s m #[(.ref a0)] below meth c s₁ [] 0 0 := Stand.of_body Bd
  have e0 : s₁.heap = h0 := by rw [← hh, Bd.state]; rfl
  have N0 := Fr.nil n0
  show OFin p e below (KPost s (QN6 Z a0 h0 n0) ({ frames := 1, cells := 0, slots := 0, locals := 12 } : Room).cells ({ frames := 1, cells := 0, slots := 0, locals := 12 } : Room).slots) _
  rw [efN6 m a0]
  refine OFin.of (S' := s₁.setTop (mkF m 1 #[.val (.ref a0)] [(.ref a0)])) (fun t ht => ?_) ?_
  · refine XS.aloadN X0.here hx rfl (hb hby dN6_0) rfl rfl ?_
    exact ht
  obtain ⟨cq2, kq2, q2a, q2b, q2c⟩ := isOf hZ e0 E1
  obtain ⟨_, _, ⟨T1, L1, k1, n1⟩, -, X1, ⟨Lc1, hQ1, l1, y1, z1⟩, st1⟩ := X0.virtualBackUp hx (owner := "java/lang/Enum") (x := (⟨"com/example/kindred/kindred/core/LinkKind", "ordinal", "()I"⟩ : MethodName)) (y := (⟨"java/lang/Enum", "ordinal", "()I"⟩ : MethodName)) hown (mvT hZ (hw _ (List.mem_of_getElem? (i := 13) rfl))) (mvT hZ (hw _ (List.mem_of_getElem? (i := 14) rfl))) (mvT hZ (hw _ (List.mem_of_getElem? (i := 15) rfl))) (by decide) (mvT hZ (hw _ (List.mem_of_getElem? (i := 17) rfl))) (mvT hZ (hw _ (List.mem_of_getElem? (i := 16) rfl))) (backOf (W := 0) (rmOrd l Z _ hw [] a0 (6 : Int32) h0 n0 Z0 F1) hZ (hw _ (List.mem_of_getElem? (i := 19) rfl)) (hw _ (List.mem_of_getElem? (i := 18) rfl)) (by decide) (by decide)) q2a q2c (g := (mkF m 1 #[.val (.ref a0)] [(.ref a0)])) rfl (by rw [hml]; rfl) (Steps.refl _) (argsL := []) (rest := []) (lenOf pd_0 rfl) rfl (by show 2 * 0 + _ ≤ _; exact Nat.le_of_eq rfl) (hb hby dN6_1) (fun _ _ => ⟨rfl, e0, (by decide : 0 + 0 ≤ _), (by decide : 0 + 0 ≤ _)⟩)
  dsimp only [Pt.U, Pt.locs, Pt.cells, Pt.slots] at X1 l1 y1 z1 st1 hQ1
  subst l1 y1 z1
  obtain ⟨rfl, Nq1, hs1⟩ := hQ1
  have N3 := Fr.app N0 Nq1
  refine OFin.to (S' := T1.setTop (mkF m 4 #[.val (.ref a0)] [(.int (6 : Int32))])) st1 ?_
  refine OFin.of (S' := T1.setTop (mkF m 63 #[.val (.ref a0)] [(.int (1 : Int32))])) (fun t ht => ?_) ?_
  · refine XS.tswIn X1.here hx rfl (pc0 := 4) (pc' := 58) (o := 54) rfl (hb hby dN6_4) rfl (by decide) (by decide) (by decide) (by decide) ?_
    show Steps p.tables e below (T1.setTop (mkF m 58 _ [])) _
    refine XS.iconst X1.here hx rfl (hb hby dN6_58) ?_
    show Steps p.tables e below (T1.setTop (mkF m 59 _ [(.int (1 : Int32))])) _
    refine XS.goto X1.here hx rfl (pc0 := 59) (pc' := 63) rfl (hb hby dN6_59) (by decide) (by decide) ?_
    exact ht
  exact OFin.retB X1 hx hlk (t := .boolean) (by simp) hret (hb hby dN6_63) (by decide) (by decide) (by rw [hs1]; exact ⟨rfl, N3, rfl⟩)
theorem pn0 : plainName "com/example/kindred/kindred/core/LinkKindNotedPinLaw" = true := by first | (simp [plainName, overriddenIn]; done) | decide +kernel
theorem ef0 (m : MethodId) (p0 : Int32) : entryFrame m #[(.int p0)] maxLocals = mkF m 0 #[.val (.int p0), .unset, .unset, .unset, .unset, .unset] [] := by first | (simp [entryFrame, mkF, argsToLocals, Value.category, maxLocals]; done) | rfl
def Q0 (Z : State) (p0 : Int32) (x_PART_OF : Addr) (x_PARTS : Addr) (x_PRECEDED_BY : Addr) (x_SUCCEEDED_BY : Addr) (x_OTHER_EDITIONS : Addr) (x_OTHER_FORMATS : Addr) (x_RELATED : Addr) (h0 : Heap) (n0 : Nat) (v : Option Value) (h : Heap) (L : List Loc) : Prop := v = some (.int (1 : Int32)) ∧ Fr n0 L
set_option maxRecDepth 65536 in
set_option maxHeartbeats 40000000 in
theorem rm0 (l : Launch) (Z : State) (a0 : Array Value) (hw : ∀ d ∈ tables_1, d.before a0 Z = true) (ws : List Jvm.Cond) (p0 : Int32) (x_PART_OF : Addr) (x_PARTS : Addr) (x_PRECEDED_BY : Addr) (x_SUCCEEDED_BY : Addr) (x_OTHER_EDITIONS : Addr) (x_OTHER_FORMATS : Addr) (x_RELATED : Addr) (h0 : Heap) (n0 : Nat) (Z0 : n0 ≤ h0.size) (S_PART_OF : Sta Z h0 "com/example/kindred/kindred/core/LinkKind" "PART_OF" "Lcom/example/kindred/kindred/core/LinkKind;" (.ref x_PART_OF)) (S_PARTS : Sta Z h0 "com/example/kindred/kindred/core/LinkKind" "PARTS" "Lcom/example/kindred/kindred/core/LinkKind;" (.ref x_PARTS)) (S_PRECEDED_BY : Sta Z h0 "com/example/kindred/kindred/core/LinkKind" "PRECEDED_BY" "Lcom/example/kindred/kindred/core/LinkKind;" (.ref x_PRECEDED_BY)) (S_SUCCEEDED_BY : Sta Z h0 "com/example/kindred/kindred/core/LinkKind" "SUCCEEDED_BY" "Lcom/example/kindred/kindred/core/LinkKind;" (.ref x_SUCCEEDED_BY)) (S_OTHER_EDITIONS : Sta Z h0 "com/example/kindred/kindred/core/LinkKind" "OTHER_EDITIONS" "Lcom/example/kindred/kindred/core/LinkKind;" (.ref x_OTHER_EDITIONS)) (S_OTHER_FORMATS : Sta Z h0 "com/example/kindred/kindred/core/LinkKind" "OTHER_FORMATS" "Lcom/example/kindred/kindred/core/LinkKind;" (.ref x_OTHER_FORMATS)) (S_RELATED : Sta Z h0 "com/example/kindred/kindred/core/LinkKind" "RELATED" "Lcom/example/kindred/kindred/core/LinkKind;" (.ref x_RELATED)) (E_PART_OF : Exa Z h0 x_PART_OF "com/example/kindred/kindred/core/LinkKind") (E_PARTS : Exa Z h0 x_PARTS "com/example/kindred/kindred/core/LinkKind") (E_PRECEDED_BY : Exa Z h0 x_PRECEDED_BY "com/example/kindred/kindred/core/LinkKind") (E_SUCCEEDED_BY : Exa Z h0 x_SUCCEEDED_BY "com/example/kindred/kindred/core/LinkKind") (E_OTHER_EDITIONS : Exa Z h0 x_OTHER_EDITIONS "com/example/kindred/kindred/core/LinkKind") (E_OTHER_FORMATS : Exa Z h0 x_OTHER_FORMATS "com/example/kindred/kindred/core/LinkKind") (E_RELATED : Exa Z h0 x_RELATED "com/example/kindred/kindred/core/LinkKind") (O_PART_OF : Fld Z h0 x_PART_OF "java/lang/Enum" "ordinal" "I" (.int (0 : Int32))) (O_PARTS : Fld Z h0 x_PARTS "java/lang/Enum" "ordinal" "I" (.int (1 : Int32))) (O_PRECEDED_BY : Fld Z h0 x_PRECEDED_BY "java/lang/Enum" "ordinal" "I" (.int (2 : Int32))) (O_SUCCEEDED_BY : Fld Z h0 x_SUCCEEDED_BY "java/lang/Enum" "ordinal" "I" (.int (3 : Int32))) (O_OTHER_EDITIONS : Fld Z h0 x_OTHER_EDITIONS "java/lang/Enum" "ordinal" "I" (.int (4 : Int32))) (O_OTHER_FORMATS : Fld Z h0 x_OTHER_FORMATS "java/lang/Enum" "ordinal" "I" (.int (5 : Int32))) (O_RELATED : Fld Z h0 x_RELATED "java/lang/Enum" "ordinal" "I" (.int (6 : Int32))) :
    MetFree l x (head1 (Jvm.Cond.code x code maxLocals ret :: ws) room_1) (fun a U => a = #[(.int p0)] ∧ Z.Warmed39 U.vm ∧ U.heap = h0) (fun _ _ _ _ _ => True) (fun _ U o U' => ∃ v L, o = .returned v ∧ Q0 Z p0 x_PART_OF x_PARTS x_PRECEDED_BY x_SUCCEEDED_BY x_OTHER_EDITIONS x_OTHER_FORMATS x_RELATED h0 n0 v U'.heap L ∧ FrameEnd U o U' L room_1.cells room_1.slots) := by
  refine MetFree.of_bodySF (plainFor_of_name pn0) hisR ?_
  intro p e s m args below meth c s₁ Bd hml0 hP hK
  obtain ⟨rfl, hZ, hh⟩ := hP
  have hx := Bd.exec
  have hby := Bd.bytes
  have hlk := BodyLoose.notSynchronized Bd
  have hret := Bd.returns
  have hml : c.maxLocals = 6 := hml0
  have hown : s.vm.findClass "com/example/kindred/kindred/core/LinkKindNotedPinLaw" = some m.cls := findClass_of_methodNamed Bd.named
  have hnm := (name_of_methodNamed Bd.named Bd.method).1
  have X0 : Stand p l e room_1 s m #[(.int p0)] below meth c s₁ [] 0 0 := Stand.of_body Bd
  have e0 : s₁.heap = h0 := by rw [← hh, Bd.state]; rfl
  have N0 := Fr.nil n0
  show OFin p e below (KPost s (Q0 Z p0 x_PART_OF x_PARTS x_PRECEDED_BY x_SUCCEEDED_BY x_OTHER_EDITIONS x_OTHER_FORMATS x_RELATED h0 n0) room_1.cells room_1.slots) _
  rw [ef0 m p0]
  refine OFin.of (S' := s₁.setTop (mkF m 7 #[.val (.int p0), .unset, .unset, .unset, .unset, .unset] [(.int ((p0 &&& (2147483647 : Int32)) % (7 : Int32)))])) (fun t ht => ?_) ?_
  · refine XS.iloadN X0.here hx rfl (hb hby at_0) rfl ?_
    show Steps p.tables e below (s₁.setTop (mkF m 1 _ [(.int p0)])) _
    refine X0.ldcInt hx hown (mvT hZ (hw _ (List.mem_of_getElem? (i := 0) rfl))) (g := (mkF m 1 #[.val (.int p0), .unset, .unset, .unset, .unset, .unset] [(.int p0)])) rfl (hb hby at_1) _ ?_
    show Steps p.tables e below (s₁.setTop (mkF m 3 _ [(.int (2147483647 : Int32)), (.int p0)])) _
    refine XS.iand X0.here hx rfl (hb hby at_3) rfl ?_
    show Steps p.tables e below (s₁.setTop (mkF m 4 _ [(.int (p0 &&& (2147483647 : Int32)))])) _
    refine XS.bipush X0.here hx rfl (hb hby at_4) ?_
    show Steps p.tables e below (s₁.setTop (mkF m 6 _ [(.int (7 : Int32)), (.int (p0 &&& (2147483647 : Int32)))])) _
    refine iremM X0 hx rfl (hb hby at_6) rfl (by decide) ?_
    exact ht
  rcases (own_mod7 _ : ((p0 &&& (2147483647 : Int32)) % (7 : Int32)) = (0 : Int32) ∨ ((p0 &&& (2147483647 : Int32)) % (7 : Int32)) = (1 : Int32) ∨ ((p0 &&& (2147483647 : Int32)) % (7 : Int32)) = (2 : Int32) ∨ ((p0 &&& (2147483647 : Int32)) % (7 : Int32)) = (3 : Int32) ∨ ((p0 &&& (2147483647 : Int32)) % (7 : Int32)) = (4 : Int32) ∨ ((p0 &&& (2147483647 : Int32)) % (7 : Int32)) = (5 : Int32) ∨ ((p0 &&& (2147483647 : Int32)) % (7 : Int32)) = (6 : Int32)) with hq1 | hq1 | hq1 | hq1 | hq1 | hq1 | hq1
  · rw [hq1]
    refine OFin.of (S' := s₁.setTop (mkF m 9 #[.val (.int p0), .val (.int (0 : Int32)), .unset, .unset, .unset, .unset] [(.int (0 : Int32))])) (fun t ht => ?_) ?_
    · refine XS.istoreN X0.here hx rfl (hb hby at_7) rfl (l' := #[.val (.int p0), .val (.int (0 : Int32)), .unset, .unset, .unset, .unset]) rfl ?_
      show Steps p.tables e below (s₁.setTop (mkF m 8 #[.val (.int p0), .val (.int (0 : Int32)), .unset, .unset, .unset, .unset] [])) _
      refine XS.iloadN X0.here hx rfl (hb hby at_8) rfl ?_
      exact ht
    obtain ⟨_, _, ⟨T2, L2, k2, n2⟩, -, X2, ⟨Lc2, hQ2, l2, y2, z2⟩, st2⟩ := Jvm.LawKit.callS X0 hx (y := (⟨"com/example/kindred/kindred/core/LinkKindNotedPinLaw", "pick", "(I)Lcom/example/kindred/kindred/core/LinkKind;"⟩ : MethodName)) hown (mvT hZ (hw _ (List.mem_of_getElem? (i := 1) rfl))) (mvT hZ (hw _ (List.mem_of_getElem? (i := 2) rfl))) (mvT hZ (hw _ (List.mem_of_getElem? (i := 3) rfl))) (mvT hZ (hw _ (List.mem_of_getElem? (i := 4) rfl))) (by decide) (backOf (W := 0) (rmP0 l Z _ hw [] x_PART_OF h0 n0 Z0 S_PART_OF) hZ (hw _ (List.mem_of_getElem? (i := 4) rfl)) (hw _ (List.mem_of_getElem? (i := 3) rfl)) (by decide) (by decide)) (g := (mkF m 9 #[.val (.int p0), .val (.int (0 : Int32)), .unset, .unset, .unset, .unset] [(.int (0 : Int32))])) rfl (by rw [hml]; rfl) (argsL := [(.int (0 : Int32))]) (rest := []) (lenOf pd_1 rfl) rfl (by show 2 * 0 + _ ≤ _; exact Nat.le_of_eq rfl) (hb hby at_9) (fun _ _ => ⟨rfl, e0, (by decide : 0 + 0 ≤ _), (by decide : 0 + 0 ≤ _)⟩)
    dsimp only [Pt.U, Pt.locs, Pt.cells, Pt.slots] at X2 l2 y2 z2 st2 hQ2
    subst l2 y2 z2
    obtain ⟨rfl, Nq2, hs2⟩ := hQ2
    have N3 := Fr.app N0 Nq2
    refine OFin.of (S' := T2.setTop (mkF m 12 #[.val (.int p0), .val (.int (0 : Int32)), .unset, .unset, .unset, .unset] [(.ref x_PART_OF)])) (fun t ht => st2 t ht) ?_
    refine OFin.of (S' := T2.setTop (mkF m 25 #[.val (.int p0), .val (.int (0 : Int32)), .val (.ref x_PART_OF), .val (.int (0 : Int32)), .unset, .unset] [(.ref x_PART_OF)])) (fun t ht => ?_) ?_
    · refine XS.astoreN X2.here hx rfl (hb hby at_12) rfl rfl (l' := #[.val (.int p0), .val (.int (0 : Int32)), .val (.ref x_PART_OF), .unset, .unset, .unset]) rfl ?_
      show Steps p.tables e below (T2.setTop (mkF m 13 #[.val (.int p0), .val (.int (0 : Int32)), .val (.ref x_PART_OF), .unset, .unset, .unset] [])) _
      refine XS.iloadN X2.here hx rfl (hb hby at_13) rfl ?_
      show Steps p.tables e below (T2.setTop (mkF m 14 _ [(.int (0 : Int32))])) _
      refine XS.iconst X2.here hx rfl (hb hby at_14) ?_
      show Steps p.tables e below (T2.setTop (mkF m 15 _ [(.int (4 : Int32)), (.int (0 : Int32))])) _
      refine XS.icmpYes X2.here hx rfl (pc0 := 15) (pc' := 22) rfl (hb hby at_15) rfl (tlt (by decide : (0 : Int32) < (4 : Int32))).1 (by decide) (by decide) ?_
      show Steps p.tables e below (T2.setTop (mkF m 22 _ [])) _
      refine XS.iconst X2.here hx rfl (hb hby at_22) ?_
      show Steps p.tables e below (T2.setTop (mkF m 23 _ [(.int (0 : Int32))])) _
      refine XS.istoreN X2.here hx rfl (hb hby at_23) rfl (l' := #[.val (.int p0), .val (.int (0 : Int32)), .val (.ref x_PART_OF), .val (.int (0 : Int32)), .unset, .unset]) rfl ?_
      show Steps p.tables e below (T2.setTop (mkF m 24 #[.val (.int p0), .val (.int (0 : Int32)), .val (.ref x_PART_OF), .val (.int (0 : Int32)), .unset, .unset] [])) _
      refine XS.aloadN X2.here hx rfl (hb hby at_24) rfl rfl ?_
      exact ht
    obtain ⟨cq5, kq5, q5a, q5b, q5c⟩ := isOf hZ hs2 E_PART_OF
    obtain ⟨_, _, ⟨T4, L4, k4, n4⟩, -, X4, ⟨Lc4, hQ4, l4, y4, z4⟩, st4⟩ := X2.virtualBack hx (y := (⟨"com/example/kindred/kindred/core/LinkKind", "noted", "()Z"⟩ : MethodName)) (z := (⟨"com/example/kindred/kindred/core/LinkKind", "noted", "()Z"⟩ : MethodName)) hown (mvT hZ (hw _ (List.mem_of_getElem? (i := 8) rfl))) (mvT hZ (hw _ (List.mem_of_getElem? (i := 9) rfl))) (notFace_of_selects (args := #[]) (mvT hZ (hw _ (List.mem_of_getElem? (i := 11) rfl)))) (mvT hZ (hw _ (List.mem_of_getElem? (i := 11) rfl))) (mvT hZ (hw _ (List.mem_of_getElem? (i := 10) rfl))) (by decide) (backOf (W := 0) (rmN0 l Z _ hw [] x_PART_OF h0 n0 Z0 O_PART_OF E_PART_OF) hZ (hw _ (List.mem_of_getElem? (i := 12) rfl)) (hw _ (List.mem_of_getElem? (i := 6) rfl)) (by decide) (by decide)) q5a q5c (g := (mkF m 25 #[.val (.int p0), .val (.int (0 : Int32)), .val (.ref x_PART_OF), .val (.int (0 : Int32)), .unset, .unset] [(.ref x_PART_OF)])) rfl (by rw [hml]; rfl) (Steps.refl _) (argsL := []) (rest := []) (lenOf pd_2 rfl) rfl (by show 2 * 0 + _ ≤ _; exact Nat.le_of_eq rfl) (hb hby at_25) (fun _ _ => ⟨rfl, hs2, (by decide : 0 + 0 ≤ _), (by decide : 0 + 0 ≤ _)⟩)
    dsimp only [Pt.U, Pt.locs, Pt.cells, Pt.slots] at X4 l4 y4 z4 st4 hQ4
    subst l4 y4 z4
    obtain ⟨rfl, Nq4, hs4⟩ := hQ4
    have N6 := Fr.app N3 Nq4
    refine OFin.to (S' := T4.setTop (mkF m 28 #[.val (.int p0), .val (.int (0 : Int32)), .val (.ref x_PART_OF), .val (.int (0 : Int32)), .unset, .unset] [(.int (0 : Int32))])) st4 ?_
    refine OFin.of (S' := T4.setTop (mkF m 31 #[.val (.int p0), .val (.int (0 : Int32)), .val (.ref x_PART_OF), .val (.int (0 : Int32)), .val (.int (0 : Int32)), .unset] [(.ref x_PART_OF)])) (fun t ht => ?_) ?_
    · refine XS.istore X4.here hx rfl (hb hby at_28) rfl (l' := #[.val (.int p0), .val (.int (0 : Int32)), .val (.ref x_PART_OF), .val (.int (0 : Int32)), .val (.int (0 : Int32)), .unset]) rfl ?_
      show Steps p.tables e below (T4.setTop (mkF m 30 #[.val (.int p0), .val (.int (0 : Int32)), .val (.ref x_PART_OF), .val (.int (0 : Int32)), .val (.int (0 : Int32)), .unset] [])) _
      refine XS.aloadN X4.here hx rfl (hb hby at_30) rfl rfl ?_
      exact ht
    obtain ⟨cq8, kq8, q8a, q8b, q8c⟩ := isOf hZ hs4 E_PART_OF
    obtain ⟨_, _, ⟨T7, L7, k7, n7⟩, -, X7, ⟨Lc7, hQ7, l7, y7, z7⟩, st7⟩ := X4.virtualBack hx (y := (⟨"com/example/kindred/kindred/core/LinkKind", "inverse", "()Lcom/example/kindred/kindred/core/LinkKind;"⟩ : MethodName)) (z := (⟨"com/example/kindred/kindred/core/LinkKind", "inverse", "()Lcom/example/kindred/kindred/core/LinkKind;"⟩ : MethodName)) hown (mvT hZ (hw _ (List.mem_of_getElem? (i := 22) rfl))) (mvT hZ (hw _ (List.mem_of_getElem? (i := 23) rfl))) (notFace_of_selects (args := #[]) (mvT hZ (hw _ (List.mem_of_getElem? (i := 25) rfl)))) (mvT hZ (hw _ (List.mem_of_getElem? (i := 25) rfl))) (mvT hZ (hw _ (List.mem_of_getElem? (i := 24) rfl))) (by decide) (backOf (W := 0) (rmV0 l Z _ hw [] x_PART_OF x_PARTS h0 n0 Z0 S_PARTS O_PART_OF E_PART_OF) hZ (hw _ (List.mem_of_getElem? (i := 26) rfl)) (hw _ (List.mem_of_getElem? (i := 6) rfl)) (by decide) (by decide)) q8a q8c (g := (mkF m 31 #[.val (.int p0), .val (.int (0 : Int32)), .val (.ref x_PART_OF), .val (.int (0 : Int32)), .val (.int (0 : Int32)), .unset] [(.ref x_PART_OF)])) rfl (by rw [hml]; rfl) (Steps.refl _) (argsL := []) (rest := []) (lenOf pd_3 rfl) rfl (by show 2 * 0 + _ ≤ _; exact Nat.le_of_eq rfl) (hb hby at_31) (fun _ _ => ⟨rfl, hs4, (by decide : 0 + 0 ≤ _), (by decide : 0 + 0 ≤ _)⟩)
    dsimp only [Pt.U, Pt.locs, Pt.cells, Pt.slots] at X7 l7 y7 z7 st7 hQ7
    subst l7 y7 z7
    obtain ⟨rfl, Nq7, hs7⟩ := hQ7
    have N9 := Fr.app N6 Nq7
    refine OFin.to (S' := T7.setTop (mkF m 34 #[.val (.int p0), .val (.int (0 : Int32)), .val (.ref x_PART_OF), .val (.int (0 : Int32)), .val (.int (0 : Int32)), .unset] [(.ref x_PARTS)])) st7 ?_
    obtain ⟨cq11, kq11, q11a, q11b, q11c⟩ := isOf hZ hs7 E_PARTS
    obtain ⟨_, _, ⟨T10, L10, k10, n10⟩, -, X10, ⟨Lc10, hQ10, l10, y10, z10⟩, st10⟩ := X7.virtualBack hx (y := (⟨"com/example/kindred/kindred/core/LinkKind", "noted", "()Z"⟩ : MethodName)) (z := (⟨"com/example/kindred/kindred/core/LinkKind", "noted", "()Z"⟩ : MethodName)) hown (mvT hZ (hw _ (List.mem_of_getElem? (i := 8) rfl))) (mvT hZ (hw _ (List.mem_of_getElem? (i := 9) rfl))) (notFace_of_selects (args := #[]) (mvT hZ (hw _ (List.mem_of_getElem? (i := 11) rfl)))) (mvT hZ (hw _ (List.mem_of_getElem? (i := 11) rfl))) (mvT hZ (hw _ (List.mem_of_getElem? (i := 10) rfl))) (by decide) (backOf (W := 0) (rmN1 l Z _ hw [] x_PARTS h0 n0 Z0 O_PARTS E_PARTS) hZ (hw _ (List.mem_of_getElem? (i := 12) rfl)) (hw _ (List.mem_of_getElem? (i := 6) rfl)) (by decide) (by decide)) q11a q11c (g := (mkF m 34 #[.val (.int p0), .val (.int (0 : Int32)), .val (.ref x_PART_OF), .val (.int (0 : Int32)), .val (.int (0 : Int32)), .unset] [(.ref x_PARTS)])) rfl (by rw [hml]; rfl) (Steps.refl _) (argsL := []) (rest := []) (lenOf pd_2 rfl) rfl (by show 2 * 0 + _ ≤ _; exact Nat.le_of_eq rfl) (hb hby at_34) (fun _ _ => ⟨rfl, hs7, (by decide : 0 + 0 ≤ _), (by decide : 0 + 0 ≤ _)⟩)
    dsimp only [Pt.U, Pt.locs, Pt.cells, Pt.slots] at X10 l10 y10 z10 st10 hQ10
    subst l10 y10 z10
    obtain ⟨rfl, Nq10, hs10⟩ := hQ10
    have N12 := Fr.app N9 Nq10
    refine OFin.to (S' := T10.setTop (mkF m 37 #[.val (.int p0), .val (.int (0 : Int32)), .val (.ref x_PART_OF), .val (.int (0 : Int32)), .val (.int (0 : Int32)), .unset] [(.int (0 : Int32))])) st10 ?_
    refine OFin.of (S' := T10.setTop (mkF m 56 #[.val (.int p0), .val (.int (0 : Int32)), .val (.ref x_PART_OF), .val (.int (0 : Int32)), .val (.int (0 : Int32)), .val (.int (0 : Int32))] [(.int (1 : Int32))])) (fun t ht => ?_) ?_
    · refine XS.istore X10.here hx rfl (hb hby at_37) rfl (l' := #[.val (.int p0), .val (.int (0 : Int32)), .val (.ref x_PART_OF), .val (.int (0 : Int32)), .val (.int (0 : Int32)), .val (.int (0 : Int32))]) rfl ?_
      show Steps p.tables e below (T10.setTop (mkF m 39 #[.val (.int p0), .val (.int (0 : Int32)), .val (.ref x_PART_OF), .val (.int (0 : Int32)), .val (.int (0 : Int32)), .val (.int (0 : Int32))] [])) _
      refine XS.iload X10.here hx rfl (hb hby at_39) rfl ?_
      show Steps p.tables e below (T10.setTop (mkF m 41 _ [(.int (0 : Int32))])) _
      refine XS.iloadN X10.here hx rfl (hb hby at_41) rfl ?_
      show Steps p.tables e below (T10.setTop (mkF m 42 _ [(.int (0 : Int32)), (.int (0 : Int32))])) _
      refine XS.icmpNo X10.here hx rfl (hb hby at_42) rfl (teq (by decide : (0 : Int32) = (0 : Int32))).2 ?_
      show Steps p.tables e below (T10.setTop (mkF m 45 _ [])) _
      refine XS.iload X10.here hx rfl (hb hby at_45) rfl ?_
      show Steps p.tables e below (T10.setTop (mkF m 47 _ [(.int (0 : Int32))])) _
      refine XS.iloadN X10.here hx rfl (hb hby at_47) rfl ?_
      show Steps p.tables e below (T10.setTop (mkF m 48 _ [(.int (0 : Int32)), (.int (0 : Int32))])) _
      refine XS.icmpNo X10.here hx rfl (hb hby at_48) rfl (teq (by decide : (0 : Int32) = (0 : Int32))).2 ?_
      show Steps p.tables e below (T10.setTop (mkF m 51 _ [])) _
      refine XS.iconst X10.here hx rfl (hb hby at_51) ?_
      show Steps p.tables e below (T10.setTop (mkF m 52 _ [(.int (1 : Int32))])) _
      refine XS.goto X10.here hx rfl (pc0 := 52) (pc' := 56) rfl (hb hby at_52) (by decide) (by decide) ?_
      exact ht
    exact OFin.retB X10 hx hlk (t := .boolean) (by simp) hret (hb hby at_56) (by decide) (by decide) (by rw [hs10]; exact ⟨rfl, N12⟩)
  · rw [hq1]
    refine OFin.of (S' := s₁.setTop (mkF m 9 #[.val (.int p0), .val (.int (1 : Int32)), .unset, .unset, .unset, .unset] [(.int (1 : Int32))])) (fun t ht => ?_) ?_
    · refine XS.istoreN X0.here hx rfl (hb hby at_7) rfl (l' := #[.val (.int p0), .val (.int (1 : Int32)), .unset, .unset, .unset, .unset]) rfl ?_
      show Steps p.tables e below (s₁.setTop (mkF m 8 #[.val (.int p0), .val (.int (1 : Int32)), .unset, .unset, .unset, .unset] [])) _
      refine XS.iloadN X0.here hx rfl (hb hby at_8) rfl ?_
      exact ht
    obtain ⟨_, _, ⟨T13, L13, k13, n13⟩, -, X13, ⟨Lc13, hQ13, l13, y13, z13⟩, st13⟩ := Jvm.LawKit.callS X0 hx (y := (⟨"com/example/kindred/kindred/core/LinkKindNotedPinLaw", "pick", "(I)Lcom/example/kindred/kindred/core/LinkKind;"⟩ : MethodName)) hown (mvT hZ (hw _ (List.mem_of_getElem? (i := 1) rfl))) (mvT hZ (hw _ (List.mem_of_getElem? (i := 2) rfl))) (mvT hZ (hw _ (List.mem_of_getElem? (i := 3) rfl))) (mvT hZ (hw _ (List.mem_of_getElem? (i := 4) rfl))) (by decide) (backOf (W := 0) (rmP1 l Z _ hw [] x_PARTS h0 n0 Z0 S_PARTS) hZ (hw _ (List.mem_of_getElem? (i := 4) rfl)) (hw _ (List.mem_of_getElem? (i := 3) rfl)) (by decide) (by decide)) (g := (mkF m 9 #[.val (.int p0), .val (.int (1 : Int32)), .unset, .unset, .unset, .unset] [(.int (1 : Int32))])) rfl (by rw [hml]; rfl) (argsL := [(.int (1 : Int32))]) (rest := []) (lenOf pd_1 rfl) rfl (by show 2 * 0 + _ ≤ _; exact Nat.le_of_eq rfl) (hb hby at_9) (fun _ _ => ⟨rfl, e0, (by decide : 0 + 0 ≤ _), (by decide : 0 + 0 ≤ _)⟩)
    dsimp only [Pt.U, Pt.locs, Pt.cells, Pt.slots] at X13 l13 y13 z13 st13 hQ13
    subst l13 y13 z13
    obtain ⟨rfl, Nq13, hs13⟩ := hQ13
    have N14 := Fr.app N0 Nq13
    refine OFin.of (S' := T13.setTop (mkF m 12 #[.val (.int p0), .val (.int (1 : Int32)), .unset, .unset, .unset, .unset] [(.ref x_PARTS)])) (fun t ht => st13 t ht) ?_
    refine OFin.of (S' := T13.setTop (mkF m 25 #[.val (.int p0), .val (.int (1 : Int32)), .val (.ref x_PARTS), .val (.int (0 : Int32)), .unset, .unset] [(.ref x_PARTS)])) (fun t ht => ?_) ?_
    · refine XS.astoreN X13.here hx rfl (hb hby at_12) rfl rfl (l' := #[.val (.int p0), .val (.int (1 : Int32)), .val (.ref x_PARTS), .unset, .unset, .unset]) rfl ?_
      show Steps p.tables e below (T13.setTop (mkF m 13 #[.val (.int p0), .val (.int (1 : Int32)), .val (.ref x_PARTS), .unset, .unset, .unset] [])) _
      refine XS.iloadN X13.here hx rfl (hb hby at_13) rfl ?_
      show Steps p.tables e below (T13.setTop (mkF m 14 _ [(.int (1 : Int32))])) _
      refine XS.iconst X13.here hx rfl (hb hby at_14) ?_
      show Steps p.tables e below (T13.setTop (mkF m 15 _ [(.int (4 : Int32)), (.int (1 : Int32))])) _
      refine XS.icmpYes X13.here hx rfl (pc0 := 15) (pc' := 22) rfl (hb hby at_15) rfl (tlt (by decide : (1 : Int32) < (4 : Int32))).1 (by decide) (by decide) ?_
      show Steps p.tables e below (T13.setTop (mkF m 22 _ [])) _
      refine XS.iconst X13.here hx rfl (hb hby at_22) ?_
      show Steps p.tables e below (T13.setTop (mkF m 23 _ [(.int (0 : Int32))])) _
      refine XS.istoreN X13.here hx rfl (hb hby at_23) rfl (l' := #[.val (.int p0), .val (.int (1 : Int32)), .val (.ref x_PARTS), .val (.int (0 : Int32)), .unset, .unset]) rfl ?_
      show Steps p.tables e below (T13.setTop (mkF m 24 #[.val (.int p0), .val (.int (1 : Int32)), .val (.ref x_PARTS), .val (.int (0 : Int32)), .unset, .unset] [])) _
      refine XS.aloadN X13.here hx rfl (hb hby at_24) rfl rfl ?_
      exact ht
    obtain ⟨cq16, kq16, q16a, q16b, q16c⟩ := isOf hZ hs13 E_PARTS
    obtain ⟨_, _, ⟨T15, L15, k15, n15⟩, -, X15, ⟨Lc15, hQ15, l15, y15, z15⟩, st15⟩ := X13.virtualBack hx (y := (⟨"com/example/kindred/kindred/core/LinkKind", "noted", "()Z"⟩ : MethodName)) (z := (⟨"com/example/kindred/kindred/core/LinkKind", "noted", "()Z"⟩ : MethodName)) hown (mvT hZ (hw _ (List.mem_of_getElem? (i := 8) rfl))) (mvT hZ (hw _ (List.mem_of_getElem? (i := 9) rfl))) (notFace_of_selects (args := #[]) (mvT hZ (hw _ (List.mem_of_getElem? (i := 11) rfl)))) (mvT hZ (hw _ (List.mem_of_getElem? (i := 11) rfl))) (mvT hZ (hw _ (List.mem_of_getElem? (i := 10) rfl))) (by decide) (backOf (W := 0) (rmN1 l Z _ hw [] x_PARTS h0 n0 Z0 O_PARTS E_PARTS) hZ (hw _ (List.mem_of_getElem? (i := 12) rfl)) (hw _ (List.mem_of_getElem? (i := 6) rfl)) (by decide) (by decide)) q16a q16c (g := (mkF m 25 #[.val (.int p0), .val (.int (1 : Int32)), .val (.ref x_PARTS), .val (.int (0 : Int32)), .unset, .unset] [(.ref x_PARTS)])) rfl (by rw [hml]; rfl) (Steps.refl _) (argsL := []) (rest := []) (lenOf pd_2 rfl) rfl (by show 2 * 0 + _ ≤ _; exact Nat.le_of_eq rfl) (hb hby at_25) (fun _ _ => ⟨rfl, hs13, (by decide : 0 + 0 ≤ _), (by decide : 0 + 0 ≤ _)⟩)
    dsimp only [Pt.U, Pt.locs, Pt.cells, Pt.slots] at X15 l15 y15 z15 st15 hQ15
    subst l15 y15 z15
    obtain ⟨rfl, Nq15, hs15⟩ := hQ15
    have N17 := Fr.app N14 Nq15
    refine OFin.to (S' := T15.setTop (mkF m 28 #[.val (.int p0), .val (.int (1 : Int32)), .val (.ref x_PARTS), .val (.int (0 : Int32)), .unset, .unset] [(.int (0 : Int32))])) st15 ?_
    refine OFin.of (S' := T15.setTop (mkF m 31 #[.val (.int p0), .val (.int (1 : Int32)), .val (.ref x_PARTS), .val (.int (0 : Int32)), .val (.int (0 : Int32)), .unset] [(.ref x_PARTS)])) (fun t ht => ?_) ?_
    · refine XS.istore X15.here hx rfl (hb hby at_28) rfl (l' := #[.val (.int p0), .val (.int (1 : Int32)), .val (.ref x_PARTS), .val (.int (0 : Int32)), .val (.int (0 : Int32)), .unset]) rfl ?_
      show Steps p.tables e below (T15.setTop (mkF m 30 #[.val (.int p0), .val (.int (1 : Int32)), .val (.ref x_PARTS), .val (.int (0 : Int32)), .val (.int (0 : Int32)), .unset] [])) _
      refine XS.aloadN X15.here hx rfl (hb hby at_30) rfl rfl ?_
      exact ht
    obtain ⟨cq19, kq19, q19a, q19b, q19c⟩ := isOf hZ hs15 E_PARTS
    obtain ⟨_, _, ⟨T18, L18, k18, n18⟩, -, X18, ⟨Lc18, hQ18, l18, y18, z18⟩, st18⟩ := X15.virtualBack hx (y := (⟨"com/example/kindred/kindred/core/LinkKind", "inverse", "()Lcom/example/kindred/kindred/core/LinkKind;"⟩ : MethodName)) (z := (⟨"com/example/kindred/kindred/core/LinkKind", "inverse", "()Lcom/example/kindred/kindred/core/LinkKind;"⟩ : MethodName)) hown (mvT hZ (hw _ (List.mem_of_getElem? (i := 22) rfl))) (mvT hZ (hw _ (List.mem_of_getElem? (i := 23) rfl))) (notFace_of_selects (args := #[]) (mvT hZ (hw _ (List.mem_of_getElem? (i := 25) rfl)))) (mvT hZ (hw _ (List.mem_of_getElem? (i := 25) rfl))) (mvT hZ (hw _ (List.mem_of_getElem? (i := 24) rfl))) (by decide) (backOf (W := 0) (rmV1 l Z _ hw [] x_PARTS x_PART_OF h0 n0 Z0 S_PART_OF O_PARTS E_PARTS) hZ (hw _ (List.mem_of_getElem? (i := 26) rfl)) (hw _ (List.mem_of_getElem? (i := 6) rfl)) (by decide) (by decide)) q19a q19c (g := (mkF m 31 #[.val (.int p0), .val (.int (1 : Int32)), .val (.ref x_PARTS), .val (.int (0 : Int32)), .val (.int (0 : Int32)), .unset] [(.ref x_PARTS)])) rfl (by rw [hml]; rfl) (Steps.refl _) (argsL := []) (rest := []) (lenOf pd_3 rfl) rfl (by show 2 * 0 + _ ≤ _; exact Nat.le_of_eq rfl) (hb hby at_31) (fun _ _ => ⟨rfl, hs15, (by decide : 0 + 0 ≤ _), (by decide : 0 + 0 ≤ _)⟩)
    dsimp only [Pt.U, Pt.locs, Pt.cells, Pt.slots] at X18 l18 y18 z18 st18 hQ18
    subst l18 y18 z18
    obtain ⟨rfl, Nq18, hs18⟩ := hQ18
    have N20 := Fr.app N17 Nq18
    refine OFin.to (S' := T18.setTop (mkF m 34 #[.val (.int p0), .val (.int (1 : Int32)), .val (.ref x_PARTS), .val (.int (0 : Int32)), .val (.int (0 : Int32)), .unset] [(.ref x_PART_OF)])) st18 ?_
    obtain ⟨cq22, kq22, q22a, q22b, q22c⟩ := isOf hZ hs18 E_PART_OF
    obtain ⟨_, _, ⟨T21, L21, k21, n21⟩, -, X21, ⟨Lc21, hQ21, l21, y21, z21⟩, st21⟩ := X18.virtualBack hx (y := (⟨"com/example/kindred/kindred/core/LinkKind", "noted", "()Z"⟩ : MethodName)) (z := (⟨"com/example/kindred/kindred/core/LinkKind", "noted", "()Z"⟩ : MethodName)) hown (mvT hZ (hw _ (List.mem_of_getElem? (i := 8) rfl))) (mvT hZ (hw _ (List.mem_of_getElem? (i := 9) rfl))) (notFace_of_selects (args := #[]) (mvT hZ (hw _ (List.mem_of_getElem? (i := 11) rfl)))) (mvT hZ (hw _ (List.mem_of_getElem? (i := 11) rfl))) (mvT hZ (hw _ (List.mem_of_getElem? (i := 10) rfl))) (by decide) (backOf (W := 0) (rmN0 l Z _ hw [] x_PART_OF h0 n0 Z0 O_PART_OF E_PART_OF) hZ (hw _ (List.mem_of_getElem? (i := 12) rfl)) (hw _ (List.mem_of_getElem? (i := 6) rfl)) (by decide) (by decide)) q22a q22c (g := (mkF m 34 #[.val (.int p0), .val (.int (1 : Int32)), .val (.ref x_PARTS), .val (.int (0 : Int32)), .val (.int (0 : Int32)), .unset] [(.ref x_PART_OF)])) rfl (by rw [hml]; rfl) (Steps.refl _) (argsL := []) (rest := []) (lenOf pd_2 rfl) rfl (by show 2 * 0 + _ ≤ _; exact Nat.le_of_eq rfl) (hb hby at_34) (fun _ _ => ⟨rfl, hs18, (by decide : 0 + 0 ≤ _), (by decide : 0 + 0 ≤ _)⟩)
    dsimp only [Pt.U, Pt.locs, Pt.cells, Pt.slots] at X21 l21 y21 z21 st21 hQ21
    subst l21 y21 z21
    obtain ⟨rfl, Nq21, hs21⟩ := hQ21
    have N23 := Fr.app N20 Nq21
    refine OFin.to (S' := T21.setTop (mkF m 37 #[.val (.int p0), .val (.int (1 : Int32)), .val (.ref x_PARTS), .val (.int (0 : Int32)), .val (.int (0 : Int32)), .unset] [(.int (0 : Int32))])) st21 ?_
    refine OFin.of (S' := T21.setTop (mkF m 56 #[.val (.int p0), .val (.int (1 : Int32)), .val (.ref x_PARTS), .val (.int (0 : Int32)), .val (.int (0 : Int32)), .val (.int (0 : Int32))] [(.int (1 : Int32))])) (fun t ht => ?_) ?_
    · refine XS.istore X21.here hx rfl (hb hby at_37) rfl (l' := #[.val (.int p0), .val (.int (1 : Int32)), .val (.ref x_PARTS), .val (.int (0 : Int32)), .val (.int (0 : Int32)), .val (.int (0 : Int32))]) rfl ?_
      show Steps p.tables e below (T21.setTop (mkF m 39 #[.val (.int p0), .val (.int (1 : Int32)), .val (.ref x_PARTS), .val (.int (0 : Int32)), .val (.int (0 : Int32)), .val (.int (0 : Int32))] [])) _
      refine XS.iload X21.here hx rfl (hb hby at_39) rfl ?_
      show Steps p.tables e below (T21.setTop (mkF m 41 _ [(.int (0 : Int32))])) _
      refine XS.iloadN X21.here hx rfl (hb hby at_41) rfl ?_
      show Steps p.tables e below (T21.setTop (mkF m 42 _ [(.int (0 : Int32)), (.int (0 : Int32))])) _
      refine XS.icmpNo X21.here hx rfl (hb hby at_42) rfl (teq (by decide : (0 : Int32) = (0 : Int32))).2 ?_
      show Steps p.tables e below (T21.setTop (mkF m 45 _ [])) _
      refine XS.iload X21.here hx rfl (hb hby at_45) rfl ?_
      show Steps p.tables e below (T21.setTop (mkF m 47 _ [(.int (0 : Int32))])) _
      refine XS.iloadN X21.here hx rfl (hb hby at_47) rfl ?_
      show Steps p.tables e below (T21.setTop (mkF m 48 _ [(.int (0 : Int32)), (.int (0 : Int32))])) _
      refine XS.icmpNo X21.here hx rfl (hb hby at_48) rfl (teq (by decide : (0 : Int32) = (0 : Int32))).2 ?_
      show Steps p.tables e below (T21.setTop (mkF m 51 _ [])) _
      refine XS.iconst X21.here hx rfl (hb hby at_51) ?_
      show Steps p.tables e below (T21.setTop (mkF m 52 _ [(.int (1 : Int32))])) _
      refine XS.goto X21.here hx rfl (pc0 := 52) (pc' := 56) rfl (hb hby at_52) (by decide) (by decide) ?_
      exact ht
    exact OFin.retB X21 hx hlk (t := .boolean) (by simp) hret (hb hby at_56) (by decide) (by decide) (by rw [hs21]; exact ⟨rfl, N23⟩)
  · rw [hq1]
    refine OFin.of (S' := s₁.setTop (mkF m 9 #[.val (.int p0), .val (.int (2 : Int32)), .unset, .unset, .unset, .unset] [(.int (2 : Int32))])) (fun t ht => ?_) ?_
    · refine XS.istoreN X0.here hx rfl (hb hby at_7) rfl (l' := #[.val (.int p0), .val (.int (2 : Int32)), .unset, .unset, .unset, .unset]) rfl ?_
      show Steps p.tables e below (s₁.setTop (mkF m 8 #[.val (.int p0), .val (.int (2 : Int32)), .unset, .unset, .unset, .unset] [])) _
      refine XS.iloadN X0.here hx rfl (hb hby at_8) rfl ?_
      exact ht
    obtain ⟨_, _, ⟨T24, L24, k24, n24⟩, -, X24, ⟨Lc24, hQ24, l24, y24, z24⟩, st24⟩ := Jvm.LawKit.callS X0 hx (y := (⟨"com/example/kindred/kindred/core/LinkKindNotedPinLaw", "pick", "(I)Lcom/example/kindred/kindred/core/LinkKind;"⟩ : MethodName)) hown (mvT hZ (hw _ (List.mem_of_getElem? (i := 1) rfl))) (mvT hZ (hw _ (List.mem_of_getElem? (i := 2) rfl))) (mvT hZ (hw _ (List.mem_of_getElem? (i := 3) rfl))) (mvT hZ (hw _ (List.mem_of_getElem? (i := 4) rfl))) (by decide) (backOf (W := 0) (rmP2 l Z _ hw [] x_PRECEDED_BY h0 n0 Z0 S_PRECEDED_BY) hZ (hw _ (List.mem_of_getElem? (i := 4) rfl)) (hw _ (List.mem_of_getElem? (i := 3) rfl)) (by decide) (by decide)) (g := (mkF m 9 #[.val (.int p0), .val (.int (2 : Int32)), .unset, .unset, .unset, .unset] [(.int (2 : Int32))])) rfl (by rw [hml]; rfl) (argsL := [(.int (2 : Int32))]) (rest := []) (lenOf pd_1 rfl) rfl (by show 2 * 0 + _ ≤ _; exact Nat.le_of_eq rfl) (hb hby at_9) (fun _ _ => ⟨rfl, e0, (by decide : 0 + 0 ≤ _), (by decide : 0 + 0 ≤ _)⟩)
    dsimp only [Pt.U, Pt.locs, Pt.cells, Pt.slots] at X24 l24 y24 z24 st24 hQ24
    subst l24 y24 z24
    obtain ⟨rfl, Nq24, hs24⟩ := hQ24
    have N25 := Fr.app N0 Nq24
    refine OFin.of (S' := T24.setTop (mkF m 12 #[.val (.int p0), .val (.int (2 : Int32)), .unset, .unset, .unset, .unset] [(.ref x_PRECEDED_BY)])) (fun t ht => st24 t ht) ?_
    refine OFin.of (S' := T24.setTop (mkF m 25 #[.val (.int p0), .val (.int (2 : Int32)), .val (.ref x_PRECEDED_BY), .val (.int (0 : Int32)), .unset, .unset] [(.ref x_PRECEDED_BY)])) (fun t ht => ?_) ?_
    · refine XS.astoreN X24.here hx rfl (hb hby at_12) rfl rfl (l' := #[.val (.int p0), .val (.int (2 : Int32)), .val (.ref x_PRECEDED_BY), .unset, .unset, .unset]) rfl ?_
      show Steps p.tables e below (T24.setTop (mkF m 13 #[.val (.int p0), .val (.int (2 : Int32)), .val (.ref x_PRECEDED_BY), .unset, .unset, .unset] [])) _
      refine XS.iloadN X24.here hx rfl (hb hby at_13) rfl ?_
      show Steps p.tables e below (T24.setTop (mkF m 14 _ [(.int (2 : Int32))])) _
      refine XS.iconst X24.here hx rfl (hb hby at_14) ?_
      show Steps p.tables e below (T24.setTop (mkF m 15 _ [(.int (4 : Int32)), (.int (2 : Int32))])) _
      refine XS.icmpYes X24.here hx rfl (pc0 := 15) (pc' := 22) rfl (hb hby at_15) rfl (tlt (by decide : (2 : Int32) < (4 : Int32))).1 (by decide) (by decide) ?_
      show Steps p.tables e below (T24.setTop (mkF m 22 _ [])) _
      refine XS.iconst X24.here hx rfl (hb hby at_22) ?_
      show Steps p.tables e below (T24.setTop (mkF m 23 _ [(.int (0 : Int32))])) _
      refine XS.istoreN X24.here hx rfl (hb hby at_23) rfl (l' := #[.val (.int p0), .val (.int (2 : Int32)), .val (.ref x_PRECEDED_BY), .val (.int (0 : Int32)), .unset, .unset]) rfl ?_
      show Steps p.tables e below (T24.setTop (mkF m 24 #[.val (.int p0), .val (.int (2 : Int32)), .val (.ref x_PRECEDED_BY), .val (.int (0 : Int32)), .unset, .unset] [])) _
      refine XS.aloadN X24.here hx rfl (hb hby at_24) rfl rfl ?_
      exact ht
    obtain ⟨cq27, kq27, q27a, q27b, q27c⟩ := isOf hZ hs24 E_PRECEDED_BY
    obtain ⟨_, _, ⟨T26, L26, k26, n26⟩, -, X26, ⟨Lc26, hQ26, l26, y26, z26⟩, st26⟩ := X24.virtualBack hx (y := (⟨"com/example/kindred/kindred/core/LinkKind", "noted", "()Z"⟩ : MethodName)) (z := (⟨"com/example/kindred/kindred/core/LinkKind", "noted", "()Z"⟩ : MethodName)) hown (mvT hZ (hw _ (List.mem_of_getElem? (i := 8) rfl))) (mvT hZ (hw _ (List.mem_of_getElem? (i := 9) rfl))) (notFace_of_selects (args := #[]) (mvT hZ (hw _ (List.mem_of_getElem? (i := 11) rfl)))) (mvT hZ (hw _ (List.mem_of_getElem? (i := 11) rfl))) (mvT hZ (hw _ (List.mem_of_getElem? (i := 10) rfl))) (by decide) (backOf (W := 0) (rmN2 l Z _ hw [] x_PRECEDED_BY h0 n0 Z0 O_PRECEDED_BY E_PRECEDED_BY) hZ (hw _ (List.mem_of_getElem? (i := 12) rfl)) (hw _ (List.mem_of_getElem? (i := 6) rfl)) (by decide) (by decide)) q27a q27c (g := (mkF m 25 #[.val (.int p0), .val (.int (2 : Int32)), .val (.ref x_PRECEDED_BY), .val (.int (0 : Int32)), .unset, .unset] [(.ref x_PRECEDED_BY)])) rfl (by rw [hml]; rfl) (Steps.refl _) (argsL := []) (rest := []) (lenOf pd_2 rfl) rfl (by show 2 * 0 + _ ≤ _; exact Nat.le_of_eq rfl) (hb hby at_25) (fun _ _ => ⟨rfl, hs24, (by decide : 0 + 0 ≤ _), (by decide : 0 + 0 ≤ _)⟩)
    dsimp only [Pt.U, Pt.locs, Pt.cells, Pt.slots] at X26 l26 y26 z26 st26 hQ26
    subst l26 y26 z26
    obtain ⟨rfl, Nq26, hs26⟩ := hQ26
    have N28 := Fr.app N25 Nq26
    refine OFin.to (S' := T26.setTop (mkF m 28 #[.val (.int p0), .val (.int (2 : Int32)), .val (.ref x_PRECEDED_BY), .val (.int (0 : Int32)), .unset, .unset] [(.int (0 : Int32))])) st26 ?_
    refine OFin.of (S' := T26.setTop (mkF m 31 #[.val (.int p0), .val (.int (2 : Int32)), .val (.ref x_PRECEDED_BY), .val (.int (0 : Int32)), .val (.int (0 : Int32)), .unset] [(.ref x_PRECEDED_BY)])) (fun t ht => ?_) ?_
    · refine XS.istore X26.here hx rfl (hb hby at_28) rfl (l' := #[.val (.int p0), .val (.int (2 : Int32)), .val (.ref x_PRECEDED_BY), .val (.int (0 : Int32)), .val (.int (0 : Int32)), .unset]) rfl ?_
      show Steps p.tables e below (T26.setTop (mkF m 30 #[.val (.int p0), .val (.int (2 : Int32)), .val (.ref x_PRECEDED_BY), .val (.int (0 : Int32)), .val (.int (0 : Int32)), .unset] [])) _
      refine XS.aloadN X26.here hx rfl (hb hby at_30) rfl rfl ?_
      exact ht
    obtain ⟨cq30, kq30, q30a, q30b, q30c⟩ := isOf hZ hs26 E_PRECEDED_BY
    obtain ⟨_, _, ⟨T29, L29, k29, n29⟩, -, X29, ⟨Lc29, hQ29, l29, y29, z29⟩, st29⟩ := X26.virtualBack hx (y := (⟨"com/example/kindred/kindred/core/LinkKind", "inverse", "()Lcom/example/kindred/kindred/core/LinkKind;"⟩ : MethodName)) (z := (⟨"com/example/kindred/kindred/core/LinkKind", "inverse", "()Lcom/example/kindred/kindred/core/LinkKind;"⟩ : MethodName)) hown (mvT hZ (hw _ (List.mem_of_getElem? (i := 22) rfl))) (mvT hZ (hw _ (List.mem_of_getElem? (i := 23) rfl))) (notFace_of_selects (args := #[]) (mvT hZ (hw _ (List.mem_of_getElem? (i := 25) rfl)))) (mvT hZ (hw _ (List.mem_of_getElem? (i := 25) rfl))) (mvT hZ (hw _ (List.mem_of_getElem? (i := 24) rfl))) (by decide) (backOf (W := 0) (rmV2 l Z _ hw [] x_PRECEDED_BY x_SUCCEEDED_BY h0 n0 Z0 S_SUCCEEDED_BY O_PRECEDED_BY E_PRECEDED_BY) hZ (hw _ (List.mem_of_getElem? (i := 26) rfl)) (hw _ (List.mem_of_getElem? (i := 6) rfl)) (by decide) (by decide)) q30a q30c (g := (mkF m 31 #[.val (.int p0), .val (.int (2 : Int32)), .val (.ref x_PRECEDED_BY), .val (.int (0 : Int32)), .val (.int (0 : Int32)), .unset] [(.ref x_PRECEDED_BY)])) rfl (by rw [hml]; rfl) (Steps.refl _) (argsL := []) (rest := []) (lenOf pd_3 rfl) rfl (by show 2 * 0 + _ ≤ _; exact Nat.le_of_eq rfl) (hb hby at_31) (fun _ _ => ⟨rfl, hs26, (by decide : 0 + 0 ≤ _), (by decide : 0 + 0 ≤ _)⟩)
    dsimp only [Pt.U, Pt.locs, Pt.cells, Pt.slots] at X29 l29 y29 z29 st29 hQ29
    subst l29 y29 z29
    obtain ⟨rfl, Nq29, hs29⟩ := hQ29
    have N31 := Fr.app N28 Nq29
    refine OFin.to (S' := T29.setTop (mkF m 34 #[.val (.int p0), .val (.int (2 : Int32)), .val (.ref x_PRECEDED_BY), .val (.int (0 : Int32)), .val (.int (0 : Int32)), .unset] [(.ref x_SUCCEEDED_BY)])) st29 ?_
    obtain ⟨cq33, kq33, q33a, q33b, q33c⟩ := isOf hZ hs29 E_SUCCEEDED_BY
    obtain ⟨_, _, ⟨T32, L32, k32, n32⟩, -, X32, ⟨Lc32, hQ32, l32, y32, z32⟩, st32⟩ := X29.virtualBack hx (y := (⟨"com/example/kindred/kindred/core/LinkKind", "noted", "()Z"⟩ : MethodName)) (z := (⟨"com/example/kindred/kindred/core/LinkKind", "noted", "()Z"⟩ : MethodName)) hown (mvT hZ (hw _ (List.mem_of_getElem? (i := 8) rfl))) (mvT hZ (hw _ (List.mem_of_getElem? (i := 9) rfl))) (notFace_of_selects (args := #[]) (mvT hZ (hw _ (List.mem_of_getElem? (i := 11) rfl)))) (mvT hZ (hw _ (List.mem_of_getElem? (i := 11) rfl))) (mvT hZ (hw _ (List.mem_of_getElem? (i := 10) rfl))) (by decide) (backOf (W := 0) (rmN3 l Z _ hw [] x_SUCCEEDED_BY h0 n0 Z0 O_SUCCEEDED_BY E_SUCCEEDED_BY) hZ (hw _ (List.mem_of_getElem? (i := 12) rfl)) (hw _ (List.mem_of_getElem? (i := 6) rfl)) (by decide) (by decide)) q33a q33c (g := (mkF m 34 #[.val (.int p0), .val (.int (2 : Int32)), .val (.ref x_PRECEDED_BY), .val (.int (0 : Int32)), .val (.int (0 : Int32)), .unset] [(.ref x_SUCCEEDED_BY)])) rfl (by rw [hml]; rfl) (Steps.refl _) (argsL := []) (rest := []) (lenOf pd_2 rfl) rfl (by show 2 * 0 + _ ≤ _; exact Nat.le_of_eq rfl) (hb hby at_34) (fun _ _ => ⟨rfl, hs29, (by decide : 0 + 0 ≤ _), (by decide : 0 + 0 ≤ _)⟩)
    dsimp only [Pt.U, Pt.locs, Pt.cells, Pt.slots] at X32 l32 y32 z32 st32 hQ32
    subst l32 y32 z32
    obtain ⟨rfl, Nq32, hs32⟩ := hQ32
    have N34 := Fr.app N31 Nq32
    refine OFin.to (S' := T32.setTop (mkF m 37 #[.val (.int p0), .val (.int (2 : Int32)), .val (.ref x_PRECEDED_BY), .val (.int (0 : Int32)), .val (.int (0 : Int32)), .unset] [(.int (0 : Int32))])) st32 ?_
    refine OFin.of (S' := T32.setTop (mkF m 56 #[.val (.int p0), .val (.int (2 : Int32)), .val (.ref x_PRECEDED_BY), .val (.int (0 : Int32)), .val (.int (0 : Int32)), .val (.int (0 : Int32))] [(.int (1 : Int32))])) (fun t ht => ?_) ?_
    · refine XS.istore X32.here hx rfl (hb hby at_37) rfl (l' := #[.val (.int p0), .val (.int (2 : Int32)), .val (.ref x_PRECEDED_BY), .val (.int (0 : Int32)), .val (.int (0 : Int32)), .val (.int (0 : Int32))]) rfl ?_
      show Steps p.tables e below (T32.setTop (mkF m 39 #[.val (.int p0), .val (.int (2 : Int32)), .val (.ref x_PRECEDED_BY), .val (.int (0 : Int32)), .val (.int (0 : Int32)), .val (.int (0 : Int32))] [])) _
      refine XS.iload X32.here hx rfl (hb hby at_39) rfl ?_
      show Steps p.tables e below (T32.setTop (mkF m 41 _ [(.int (0 : Int32))])) _
      refine XS.iloadN X32.here hx rfl (hb hby at_41) rfl ?_
      show Steps p.tables e below (T32.setTop (mkF m 42 _ [(.int (0 : Int32)), (.int (0 : Int32))])) _
      refine XS.icmpNo X32.here hx rfl (hb hby at_42) rfl (teq (by decide : (0 : Int32) = (0 : Int32))).2 ?_
      show Steps p.tables e below (T32.setTop (mkF m 45 _ [])) _
      refine XS.iload X32.here hx rfl (hb hby at_45) rfl ?_
      show Steps p.tables e below (T32.setTop (mkF m 47 _ [(.int (0 : Int32))])) _
      refine XS.iloadN X32.here hx rfl (hb hby at_47) rfl ?_
      show Steps p.tables e below (T32.setTop (mkF m 48 _ [(.int (0 : Int32)), (.int (0 : Int32))])) _
      refine XS.icmpNo X32.here hx rfl (hb hby at_48) rfl (teq (by decide : (0 : Int32) = (0 : Int32))).2 ?_
      show Steps p.tables e below (T32.setTop (mkF m 51 _ [])) _
      refine XS.iconst X32.here hx rfl (hb hby at_51) ?_
      show Steps p.tables e below (T32.setTop (mkF m 52 _ [(.int (1 : Int32))])) _
      refine XS.goto X32.here hx rfl (pc0 := 52) (pc' := 56) rfl (hb hby at_52) (by decide) (by decide) ?_
      exact ht
    exact OFin.retB X32 hx hlk (t := .boolean) (by simp) hret (hb hby at_56) (by decide) (by decide) (by rw [hs32]; exact ⟨rfl, N34⟩)
  · rw [hq1]
    refine OFin.of (S' := s₁.setTop (mkF m 9 #[.val (.int p0), .val (.int (3 : Int32)), .unset, .unset, .unset, .unset] [(.int (3 : Int32))])) (fun t ht => ?_) ?_
    · refine XS.istoreN X0.here hx rfl (hb hby at_7) rfl (l' := #[.val (.int p0), .val (.int (3 : Int32)), .unset, .unset, .unset, .unset]) rfl ?_
      show Steps p.tables e below (s₁.setTop (mkF m 8 #[.val (.int p0), .val (.int (3 : Int32)), .unset, .unset, .unset, .unset] [])) _
      refine XS.iloadN X0.here hx rfl (hb hby at_8) rfl ?_
      exact ht
    obtain ⟨_, _, ⟨T35, L35, k35, n35⟩, -, X35, ⟨Lc35, hQ35, l35, y35, z35⟩, st35⟩ := Jvm.LawKit.callS X0 hx (y := (⟨"com/example/kindred/kindred/core/LinkKindNotedPinLaw", "pick", "(I)Lcom/example/kindred/kindred/core/LinkKind;"⟩ : MethodName)) hown (mvT hZ (hw _ (List.mem_of_getElem? (i := 1) rfl))) (mvT hZ (hw _ (List.mem_of_getElem? (i := 2) rfl))) (mvT hZ (hw _ (List.mem_of_getElem? (i := 3) rfl))) (mvT hZ (hw _ (List.mem_of_getElem? (i := 4) rfl))) (by decide) (backOf (W := 0) (rmP3 l Z _ hw [] x_SUCCEEDED_BY h0 n0 Z0 S_SUCCEEDED_BY) hZ (hw _ (List.mem_of_getElem? (i := 4) rfl)) (hw _ (List.mem_of_getElem? (i := 3) rfl)) (by decide) (by decide)) (g := (mkF m 9 #[.val (.int p0), .val (.int (3 : Int32)), .unset, .unset, .unset, .unset] [(.int (3 : Int32))])) rfl (by rw [hml]; rfl) (argsL := [(.int (3 : Int32))]) (rest := []) (lenOf pd_1 rfl) rfl (by show 2 * 0 + _ ≤ _; exact Nat.le_of_eq rfl) (hb hby at_9) (fun _ _ => ⟨rfl, e0, (by decide : 0 + 0 ≤ _), (by decide : 0 + 0 ≤ _)⟩)
    dsimp only [Pt.U, Pt.locs, Pt.cells, Pt.slots] at X35 l35 y35 z35 st35 hQ35
    subst l35 y35 z35
    obtain ⟨rfl, Nq35, hs35⟩ := hQ35
    have N36 := Fr.app N0 Nq35
    refine OFin.of (S' := T35.setTop (mkF m 12 #[.val (.int p0), .val (.int (3 : Int32)), .unset, .unset, .unset, .unset] [(.ref x_SUCCEEDED_BY)])) (fun t ht => st35 t ht) ?_
    refine OFin.of (S' := T35.setTop (mkF m 25 #[.val (.int p0), .val (.int (3 : Int32)), .val (.ref x_SUCCEEDED_BY), .val (.int (0 : Int32)), .unset, .unset] [(.ref x_SUCCEEDED_BY)])) (fun t ht => ?_) ?_
    · refine XS.astoreN X35.here hx rfl (hb hby at_12) rfl rfl (l' := #[.val (.int p0), .val (.int (3 : Int32)), .val (.ref x_SUCCEEDED_BY), .unset, .unset, .unset]) rfl ?_
      show Steps p.tables e below (T35.setTop (mkF m 13 #[.val (.int p0), .val (.int (3 : Int32)), .val (.ref x_SUCCEEDED_BY), .unset, .unset, .unset] [])) _
      refine XS.iloadN X35.here hx rfl (hb hby at_13) rfl ?_
      show Steps p.tables e below (T35.setTop (mkF m 14 _ [(.int (3 : Int32))])) _
      refine XS.iconst X35.here hx rfl (hb hby at_14) ?_
      show Steps p.tables e below (T35.setTop (mkF m 15 _ [(.int (4 : Int32)), (.int (3 : Int32))])) _
      refine XS.icmpYes X35.here hx rfl (pc0 := 15) (pc' := 22) rfl (hb hby at_15) rfl (tlt (by decide : (3 : Int32) < (4 : Int32))).1 (by decide) (by decide) ?_
      show Steps p.tables e below (T35.setTop (mkF m 22 _ [])) _
      refine XS.iconst X35.here hx rfl (hb hby at_22) ?_
      show Steps p.tables e below (T35.setTop (mkF m 23 _ [(.int (0 : Int32))])) _
      refine XS.istoreN X35.here hx rfl (hb hby at_23) rfl (l' := #[.val (.int p0), .val (.int (3 : Int32)), .val (.ref x_SUCCEEDED_BY), .val (.int (0 : Int32)), .unset, .unset]) rfl ?_
      show Steps p.tables e below (T35.setTop (mkF m 24 #[.val (.int p0), .val (.int (3 : Int32)), .val (.ref x_SUCCEEDED_BY), .val (.int (0 : Int32)), .unset, .unset] [])) _
      refine XS.aloadN X35.here hx rfl (hb hby at_24) rfl rfl ?_
      exact ht
    obtain ⟨cq38, kq38, q38a, q38b, q38c⟩ := isOf hZ hs35 E_SUCCEEDED_BY
    obtain ⟨_, _, ⟨T37, L37, k37, n37⟩, -, X37, ⟨Lc37, hQ37, l37, y37, z37⟩, st37⟩ := X35.virtualBack hx (y := (⟨"com/example/kindred/kindred/core/LinkKind", "noted", "()Z"⟩ : MethodName)) (z := (⟨"com/example/kindred/kindred/core/LinkKind", "noted", "()Z"⟩ : MethodName)) hown (mvT hZ (hw _ (List.mem_of_getElem? (i := 8) rfl))) (mvT hZ (hw _ (List.mem_of_getElem? (i := 9) rfl))) (notFace_of_selects (args := #[]) (mvT hZ (hw _ (List.mem_of_getElem? (i := 11) rfl)))) (mvT hZ (hw _ (List.mem_of_getElem? (i := 11) rfl))) (mvT hZ (hw _ (List.mem_of_getElem? (i := 10) rfl))) (by decide) (backOf (W := 0) (rmN3 l Z _ hw [] x_SUCCEEDED_BY h0 n0 Z0 O_SUCCEEDED_BY E_SUCCEEDED_BY) hZ (hw _ (List.mem_of_getElem? (i := 12) rfl)) (hw _ (List.mem_of_getElem? (i := 6) rfl)) (by decide) (by decide)) q38a q38c (g := (mkF m 25 #[.val (.int p0), .val (.int (3 : Int32)), .val (.ref x_SUCCEEDED_BY), .val (.int (0 : Int32)), .unset, .unset] [(.ref x_SUCCEEDED_BY)])) rfl (by rw [hml]; rfl) (Steps.refl _) (argsL := []) (rest := []) (lenOf pd_2 rfl) rfl (by show 2 * 0 + _ ≤ _; exact Nat.le_of_eq rfl) (hb hby at_25) (fun _ _ => ⟨rfl, hs35, (by decide : 0 + 0 ≤ _), (by decide : 0 + 0 ≤ _)⟩)
    dsimp only [Pt.U, Pt.locs, Pt.cells, Pt.slots] at X37 l37 y37 z37 st37 hQ37
    subst l37 y37 z37
    obtain ⟨rfl, Nq37, hs37⟩ := hQ37
    have N39 := Fr.app N36 Nq37
    refine OFin.to (S' := T37.setTop (mkF m 28 #[.val (.int p0), .val (.int (3 : Int32)), .val (.ref x_SUCCEEDED_BY), .val (.int (0 : Int32)), .unset, .unset] [(.int (0 : Int32))])) st37 ?_
    refine OFin.of (S' := T37.setTop (mkF m 31 #[.val (.int p0), .val (.int (3 : Int32)), .val (.ref x_SUCCEEDED_BY), .val (.int (0 : Int32)), .val (.int (0 : Int32)), .unset] [(.ref x_SUCCEEDED_BY)])) (fun t ht => ?_) ?_
    · refine XS.istore X37.here hx rfl (hb hby at_28) rfl (l' := #[.val (.int p0), .val (.int (3 : Int32)), .val (.ref x_SUCCEEDED_BY), .val (.int (0 : Int32)), .val (.int (0 : Int32)), .unset]) rfl ?_
      show Steps p.tables e below (T37.setTop (mkF m 30 #[.val (.int p0), .val (.int (3 : Int32)), .val (.ref x_SUCCEEDED_BY), .val (.int (0 : Int32)), .val (.int (0 : Int32)), .unset] [])) _
      refine XS.aloadN X37.here hx rfl (hb hby at_30) rfl rfl ?_
      exact ht
    obtain ⟨cq41, kq41, q41a, q41b, q41c⟩ := isOf hZ hs37 E_SUCCEEDED_BY
    obtain ⟨_, _, ⟨T40, L40, k40, n40⟩, -, X40, ⟨Lc40, hQ40, l40, y40, z40⟩, st40⟩ := X37.virtualBack hx (y := (⟨"com/example/kindred/kindred/core/LinkKind", "inverse", "()Lcom/example/kindred/kindred/core/LinkKind;"⟩ : MethodName)) (z := (⟨"com/example/kindred/kindred/core/LinkKind", "inverse", "()Lcom/example/kindred/kindred/core/LinkKind;"⟩ : MethodName)) hown (mvT hZ (hw _ (List.mem_of_getElem? (i := 22) rfl))) (mvT hZ (hw _ (List.mem_of_getElem? (i := 23) rfl))) (notFace_of_selects (args := #[]) (mvT hZ (hw _ (List.mem_of_getElem? (i := 25) rfl)))) (mvT hZ (hw _ (List.mem_of_getElem? (i := 25) rfl))) (mvT hZ (hw _ (List.mem_of_getElem? (i := 24) rfl))) (by decide) (backOf (W := 0) (rmV3 l Z _ hw [] x_SUCCEEDED_BY x_PRECEDED_BY h0 n0 Z0 S_PRECEDED_BY O_SUCCEEDED_BY E_SUCCEEDED_BY) hZ (hw _ (List.mem_of_getElem? (i := 26) rfl)) (hw _ (List.mem_of_getElem? (i := 6) rfl)) (by decide) (by decide)) q41a q41c (g := (mkF m 31 #[.val (.int p0), .val (.int (3 : Int32)), .val (.ref x_SUCCEEDED_BY), .val (.int (0 : Int32)), .val (.int (0 : Int32)), .unset] [(.ref x_SUCCEEDED_BY)])) rfl (by rw [hml]; rfl) (Steps.refl _) (argsL := []) (rest := []) (lenOf pd_3 rfl) rfl (by show 2 * 0 + _ ≤ _; exact Nat.le_of_eq rfl) (hb hby at_31) (fun _ _ => ⟨rfl, hs37, (by decide : 0 + 0 ≤ _), (by decide : 0 + 0 ≤ _)⟩)
    dsimp only [Pt.U, Pt.locs, Pt.cells, Pt.slots] at X40 l40 y40 z40 st40 hQ40
    subst l40 y40 z40
    obtain ⟨rfl, Nq40, hs40⟩ := hQ40
    have N42 := Fr.app N39 Nq40
    refine OFin.to (S' := T40.setTop (mkF m 34 #[.val (.int p0), .val (.int (3 : Int32)), .val (.ref x_SUCCEEDED_BY), .val (.int (0 : Int32)), .val (.int (0 : Int32)), .unset] [(.ref x_PRECEDED_BY)])) st40 ?_
    obtain ⟨cq44, kq44, q44a, q44b, q44c⟩ := isOf hZ hs40 E_PRECEDED_BY
    obtain ⟨_, _, ⟨T43, L43, k43, n43⟩, -, X43, ⟨Lc43, hQ43, l43, y43, z43⟩, st43⟩ := X40.virtualBack hx (y := (⟨"com/example/kindred/kindred/core/LinkKind", "noted", "()Z"⟩ : MethodName)) (z := (⟨"com/example/kindred/kindred/core/LinkKind", "noted", "()Z"⟩ : MethodName)) hown (mvT hZ (hw _ (List.mem_of_getElem? (i := 8) rfl))) (mvT hZ (hw _ (List.mem_of_getElem? (i := 9) rfl))) (notFace_of_selects (args := #[]) (mvT hZ (hw _ (List.mem_of_getElem? (i := 11) rfl)))) (mvT hZ (hw _ (List.mem_of_getElem? (i := 11) rfl))) (mvT hZ (hw _ (List.mem_of_getElem? (i := 10) rfl))) (by decide) (backOf (W := 0) (rmN2 l Z _ hw [] x_PRECEDED_BY h0 n0 Z0 O_PRECEDED_BY E_PRECEDED_BY) hZ (hw _ (List.mem_of_getElem? (i := 12) rfl)) (hw _ (List.mem_of_getElem? (i := 6) rfl)) (by decide) (by decide)) q44a q44c (g := (mkF m 34 #[.val (.int p0), .val (.int (3 : Int32)), .val (.ref x_SUCCEEDED_BY), .val (.int (0 : Int32)), .val (.int (0 : Int32)), .unset] [(.ref x_PRECEDED_BY)])) rfl (by rw [hml]; rfl) (Steps.refl _) (argsL := []) (rest := []) (lenOf pd_2 rfl) rfl (by show 2 * 0 + _ ≤ _; exact Nat.le_of_eq rfl) (hb hby at_34) (fun _ _ => ⟨rfl, hs40, (by decide : 0 + 0 ≤ _), (by decide : 0 + 0 ≤ _)⟩)
    dsimp only [Pt.U, Pt.locs, Pt.cells, Pt.slots] at X43 l43 y43 z43 st43 hQ43
    subst l43 y43 z43
    obtain ⟨rfl, Nq43, hs43⟩ := hQ43
    have N45 := Fr.app N42 Nq43
    refine OFin.to (S' := T43.setTop (mkF m 37 #[.val (.int p0), .val (.int (3 : Int32)), .val (.ref x_SUCCEEDED_BY), .val (.int (0 : Int32)), .val (.int (0 : Int32)), .unset] [(.int (0 : Int32))])) st43 ?_
    refine OFin.of (S' := T43.setTop (mkF m 56 #[.val (.int p0), .val (.int (3 : Int32)), .val (.ref x_SUCCEEDED_BY), .val (.int (0 : Int32)), .val (.int (0 : Int32)), .val (.int (0 : Int32))] [(.int (1 : Int32))])) (fun t ht => ?_) ?_
    · refine XS.istore X43.here hx rfl (hb hby at_37) rfl (l' := #[.val (.int p0), .val (.int (3 : Int32)), .val (.ref x_SUCCEEDED_BY), .val (.int (0 : Int32)), .val (.int (0 : Int32)), .val (.int (0 : Int32))]) rfl ?_
      show Steps p.tables e below (T43.setTop (mkF m 39 #[.val (.int p0), .val (.int (3 : Int32)), .val (.ref x_SUCCEEDED_BY), .val (.int (0 : Int32)), .val (.int (0 : Int32)), .val (.int (0 : Int32))] [])) _
      refine XS.iload X43.here hx rfl (hb hby at_39) rfl ?_
      show Steps p.tables e below (T43.setTop (mkF m 41 _ [(.int (0 : Int32))])) _
      refine XS.iloadN X43.here hx rfl (hb hby at_41) rfl ?_
      show Steps p.tables e below (T43.setTop (mkF m 42 _ [(.int (0 : Int32)), (.int (0 : Int32))])) _
      refine XS.icmpNo X43.here hx rfl (hb hby at_42) rfl (teq (by decide : (0 : Int32) = (0 : Int32))).2 ?_
      show Steps p.tables e below (T43.setTop (mkF m 45 _ [])) _
      refine XS.iload X43.here hx rfl (hb hby at_45) rfl ?_
      show Steps p.tables e below (T43.setTop (mkF m 47 _ [(.int (0 : Int32))])) _
      refine XS.iloadN X43.here hx rfl (hb hby at_47) rfl ?_
      show Steps p.tables e below (T43.setTop (mkF m 48 _ [(.int (0 : Int32)), (.int (0 : Int32))])) _
      refine XS.icmpNo X43.here hx rfl (hb hby at_48) rfl (teq (by decide : (0 : Int32) = (0 : Int32))).2 ?_
      show Steps p.tables e below (T43.setTop (mkF m 51 _ [])) _
      refine XS.iconst X43.here hx rfl (hb hby at_51) ?_
      show Steps p.tables e below (T43.setTop (mkF m 52 _ [(.int (1 : Int32))])) _
      refine XS.goto X43.here hx rfl (pc0 := 52) (pc' := 56) rfl (hb hby at_52) (by decide) (by decide) ?_
      exact ht
    exact OFin.retB X43 hx hlk (t := .boolean) (by simp) hret (hb hby at_56) (by decide) (by decide) (by rw [hs43]; exact ⟨rfl, N45⟩)
  · rw [hq1]
    refine OFin.of (S' := s₁.setTop (mkF m 9 #[.val (.int p0), .val (.int (4 : Int32)), .unset, .unset, .unset, .unset] [(.int (4 : Int32))])) (fun t ht => ?_) ?_
    · refine XS.istoreN X0.here hx rfl (hb hby at_7) rfl (l' := #[.val (.int p0), .val (.int (4 : Int32)), .unset, .unset, .unset, .unset]) rfl ?_
      show Steps p.tables e below (s₁.setTop (mkF m 8 #[.val (.int p0), .val (.int (4 : Int32)), .unset, .unset, .unset, .unset] [])) _
      refine XS.iloadN X0.here hx rfl (hb hby at_8) rfl ?_
      exact ht
    obtain ⟨_, _, ⟨T46, L46, k46, n46⟩, -, X46, ⟨Lc46, hQ46, l46, y46, z46⟩, st46⟩ := Jvm.LawKit.callS X0 hx (y := (⟨"com/example/kindred/kindred/core/LinkKindNotedPinLaw", "pick", "(I)Lcom/example/kindred/kindred/core/LinkKind;"⟩ : MethodName)) hown (mvT hZ (hw _ (List.mem_of_getElem? (i := 1) rfl))) (mvT hZ (hw _ (List.mem_of_getElem? (i := 2) rfl))) (mvT hZ (hw _ (List.mem_of_getElem? (i := 3) rfl))) (mvT hZ (hw _ (List.mem_of_getElem? (i := 4) rfl))) (by decide) (backOf (W := 0) (rmP4 l Z _ hw [] x_OTHER_EDITIONS h0 n0 Z0 S_OTHER_EDITIONS) hZ (hw _ (List.mem_of_getElem? (i := 4) rfl)) (hw _ (List.mem_of_getElem? (i := 3) rfl)) (by decide) (by decide)) (g := (mkF m 9 #[.val (.int p0), .val (.int (4 : Int32)), .unset, .unset, .unset, .unset] [(.int (4 : Int32))])) rfl (by rw [hml]; rfl) (argsL := [(.int (4 : Int32))]) (rest := []) (lenOf pd_1 rfl) rfl (by show 2 * 0 + _ ≤ _; exact Nat.le_of_eq rfl) (hb hby at_9) (fun _ _ => ⟨rfl, e0, (by decide : 0 + 0 ≤ _), (by decide : 0 + 0 ≤ _)⟩)
    dsimp only [Pt.U, Pt.locs, Pt.cells, Pt.slots] at X46 l46 y46 z46 st46 hQ46
    subst l46 y46 z46
    obtain ⟨rfl, Nq46, hs46⟩ := hQ46
    have N47 := Fr.app N0 Nq46
    refine OFin.of (S' := T46.setTop (mkF m 12 #[.val (.int p0), .val (.int (4 : Int32)), .unset, .unset, .unset, .unset] [(.ref x_OTHER_EDITIONS)])) (fun t ht => st46 t ht) ?_
    refine OFin.of (S' := T46.setTop (mkF m 25 #[.val (.int p0), .val (.int (4 : Int32)), .val (.ref x_OTHER_EDITIONS), .val (.int (1 : Int32)), .unset, .unset] [(.ref x_OTHER_EDITIONS)])) (fun t ht => ?_) ?_
    · refine XS.astoreN X46.here hx rfl (hb hby at_12) rfl rfl (l' := #[.val (.int p0), .val (.int (4 : Int32)), .val (.ref x_OTHER_EDITIONS), .unset, .unset, .unset]) rfl ?_
      show Steps p.tables e below (T46.setTop (mkF m 13 #[.val (.int p0), .val (.int (4 : Int32)), .val (.ref x_OTHER_EDITIONS), .unset, .unset, .unset] [])) _
      refine XS.iloadN X46.here hx rfl (hb hby at_13) rfl ?_
      show Steps p.tables e below (T46.setTop (mkF m 14 _ [(.int (4 : Int32))])) _
      refine XS.iconst X46.here hx rfl (hb hby at_14) ?_
      show Steps p.tables e below (T46.setTop (mkF m 15 _ [(.int (4 : Int32)), (.int (4 : Int32))])) _
      refine XS.icmpNo X46.here hx rfl (hb hby at_15) rfl (flt (by decide : ¬ ((4 : Int32) < (4 : Int32)))).1 ?_
      show Steps p.tables e below (T46.setTop (mkF m 18 _ [])) _
      refine XS.iconst X46.here hx rfl (hb hby at_18) ?_
      show Steps p.tables e below (T46.setTop (mkF m 19 _ [(.int (1 : Int32))])) _
      refine XS.goto X46.here hx rfl (pc0 := 19) (pc' := 23) rfl (hb hby at_19) (by decide) (by decide) ?_
      show Steps p.tables e below (T46.setTop (mkF m 23 _ [(.int (1 : Int32))])) _
      refine XS.istoreN X46.here hx rfl (hb hby at_23) rfl (l' := #[.val (.int p0), .val (.int (4 : Int32)), .val (.ref x_OTHER_EDITIONS), .val (.int (1 : Int32)), .unset, .unset]) rfl ?_
      show Steps p.tables e below (T46.setTop (mkF m 24 #[.val (.int p0), .val (.int (4 : Int32)), .val (.ref x_OTHER_EDITIONS), .val (.int (1 : Int32)), .unset, .unset] [])) _
      refine XS.aloadN X46.here hx rfl (hb hby at_24) rfl rfl ?_
      exact ht
    obtain ⟨cq49, kq49, q49a, q49b, q49c⟩ := isOf hZ hs46 E_OTHER_EDITIONS
    obtain ⟨_, _, ⟨T48, L48, k48, n48⟩, -, X48, ⟨Lc48, hQ48, l48, y48, z48⟩, st48⟩ := X46.virtualBack hx (y := (⟨"com/example/kindred/kindred/core/LinkKind", "noted", "()Z"⟩ : MethodName)) (z := (⟨"com/example/kindred/kindred/core/LinkKind", "noted", "()Z"⟩ : MethodName)) hown (mvT hZ (hw _ (List.mem_of_getElem? (i := 8) rfl))) (mvT hZ (hw _ (List.mem_of_getElem? (i := 9) rfl))) (notFace_of_selects (args := #[]) (mvT hZ (hw _ (List.mem_of_getElem? (i := 11) rfl)))) (mvT hZ (hw _ (List.mem_of_getElem? (i := 11) rfl))) (mvT hZ (hw _ (List.mem_of_getElem? (i := 10) rfl))) (by decide) (backOf (W := 0) (rmN4 l Z _ hw [] x_OTHER_EDITIONS h0 n0 Z0 O_OTHER_EDITIONS E_OTHER_EDITIONS) hZ (hw _ (List.mem_of_getElem? (i := 12) rfl)) (hw _ (List.mem_of_getElem? (i := 6) rfl)) (by decide) (by decide)) q49a q49c (g := (mkF m 25 #[.val (.int p0), .val (.int (4 : Int32)), .val (.ref x_OTHER_EDITIONS), .val (.int (1 : Int32)), .unset, .unset] [(.ref x_OTHER_EDITIONS)])) rfl (by rw [hml]; rfl) (Steps.refl _) (argsL := []) (rest := []) (lenOf pd_2 rfl) rfl (by show 2 * 0 + _ ≤ _; exact Nat.le_of_eq rfl) (hb hby at_25) (fun _ _ => ⟨rfl, hs46, (by decide : 0 + 0 ≤ _), (by decide : 0 + 0 ≤ _)⟩)
    dsimp only [Pt.U, Pt.locs, Pt.cells, Pt.slots] at X48 l48 y48 z48 st48 hQ48
    subst l48 y48 z48
    obtain ⟨rfl, Nq48, hs48⟩ := hQ48
    have N50 := Fr.app N47 Nq48
    refine OFin.to (S' := T48.setTop (mkF m 28 #[.val (.int p0), .val (.int (4 : Int32)), .val (.ref x_OTHER_EDITIONS), .val (.int (1 : Int32)), .unset, .unset] [(.int (1 : Int32))])) st48 ?_
    refine OFin.of (S' := T48.setTop (mkF m 31 #[.val (.int p0), .val (.int (4 : Int32)), .val (.ref x_OTHER_EDITIONS), .val (.int (1 : Int32)), .val (.int (1 : Int32)), .unset] [(.ref x_OTHER_EDITIONS)])) (fun t ht => ?_) ?_
    · refine XS.istore X48.here hx rfl (hb hby at_28) rfl (l' := #[.val (.int p0), .val (.int (4 : Int32)), .val (.ref x_OTHER_EDITIONS), .val (.int (1 : Int32)), .val (.int (1 : Int32)), .unset]) rfl ?_
      show Steps p.tables e below (T48.setTop (mkF m 30 #[.val (.int p0), .val (.int (4 : Int32)), .val (.ref x_OTHER_EDITIONS), .val (.int (1 : Int32)), .val (.int (1 : Int32)), .unset] [])) _
      refine XS.aloadN X48.here hx rfl (hb hby at_30) rfl rfl ?_
      exact ht
    obtain ⟨cq52, kq52, q52a, q52b, q52c⟩ := isOf hZ hs48 E_OTHER_EDITIONS
    obtain ⟨_, _, ⟨T51, L51, k51, n51⟩, -, X51, ⟨Lc51, hQ51, l51, y51, z51⟩, st51⟩ := X48.virtualBack hx (y := (⟨"com/example/kindred/kindred/core/LinkKind", "inverse", "()Lcom/example/kindred/kindred/core/LinkKind;"⟩ : MethodName)) (z := (⟨"com/example/kindred/kindred/core/LinkKind", "inverse", "()Lcom/example/kindred/kindred/core/LinkKind;"⟩ : MethodName)) hown (mvT hZ (hw _ (List.mem_of_getElem? (i := 22) rfl))) (mvT hZ (hw _ (List.mem_of_getElem? (i := 23) rfl))) (notFace_of_selects (args := #[]) (mvT hZ (hw _ (List.mem_of_getElem? (i := 25) rfl)))) (mvT hZ (hw _ (List.mem_of_getElem? (i := 25) rfl))) (mvT hZ (hw _ (List.mem_of_getElem? (i := 24) rfl))) (by decide) (backOf (W := 0) (rmV4 l Z _ hw [] x_OTHER_EDITIONS h0 n0 Z0 O_OTHER_EDITIONS E_OTHER_EDITIONS) hZ (hw _ (List.mem_of_getElem? (i := 26) rfl)) (hw _ (List.mem_of_getElem? (i := 6) rfl)) (by decide) (by decide)) q52a q52c (g := (mkF m 31 #[.val (.int p0), .val (.int (4 : Int32)), .val (.ref x_OTHER_EDITIONS), .val (.int (1 : Int32)), .val (.int (1 : Int32)), .unset] [(.ref x_OTHER_EDITIONS)])) rfl (by rw [hml]; rfl) (Steps.refl _) (argsL := []) (rest := []) (lenOf pd_3 rfl) rfl (by show 2 * 0 + _ ≤ _; exact Nat.le_of_eq rfl) (hb hby at_31) (fun _ _ => ⟨rfl, hs48, (by decide : 0 + 0 ≤ _), (by decide : 0 + 0 ≤ _)⟩)
    dsimp only [Pt.U, Pt.locs, Pt.cells, Pt.slots] at X51 l51 y51 z51 st51 hQ51
    subst l51 y51 z51
    obtain ⟨rfl, Nq51, hs51⟩ := hQ51
    have N53 := Fr.app N50 Nq51
    refine OFin.to (S' := T51.setTop (mkF m 34 #[.val (.int p0), .val (.int (4 : Int32)), .val (.ref x_OTHER_EDITIONS), .val (.int (1 : Int32)), .val (.int (1 : Int32)), .unset] [(.ref x_OTHER_EDITIONS)])) st51 ?_
    obtain ⟨cq55, kq55, q55a, q55b, q55c⟩ := isOf hZ hs51 E_OTHER_EDITIONS
    obtain ⟨_, _, ⟨T54, L54, k54, n54⟩, -, X54, ⟨Lc54, hQ54, l54, y54, z54⟩, st54⟩ := X51.virtualBack hx (y := (⟨"com/example/kindred/kindred/core/LinkKind", "noted", "()Z"⟩ : MethodName)) (z := (⟨"com/example/kindred/kindred/core/LinkKind", "noted", "()Z"⟩ : MethodName)) hown (mvT hZ (hw _ (List.mem_of_getElem? (i := 8) rfl))) (mvT hZ (hw _ (List.mem_of_getElem? (i := 9) rfl))) (notFace_of_selects (args := #[]) (mvT hZ (hw _ (List.mem_of_getElem? (i := 11) rfl)))) (mvT hZ (hw _ (List.mem_of_getElem? (i := 11) rfl))) (mvT hZ (hw _ (List.mem_of_getElem? (i := 10) rfl))) (by decide) (backOf (W := 0) (rmN4 l Z _ hw [] x_OTHER_EDITIONS h0 n0 Z0 O_OTHER_EDITIONS E_OTHER_EDITIONS) hZ (hw _ (List.mem_of_getElem? (i := 12) rfl)) (hw _ (List.mem_of_getElem? (i := 6) rfl)) (by decide) (by decide)) q55a q55c (g := (mkF m 34 #[.val (.int p0), .val (.int (4 : Int32)), .val (.ref x_OTHER_EDITIONS), .val (.int (1 : Int32)), .val (.int (1 : Int32)), .unset] [(.ref x_OTHER_EDITIONS)])) rfl (by rw [hml]; rfl) (Steps.refl _) (argsL := []) (rest := []) (lenOf pd_2 rfl) rfl (by show 2 * 0 + _ ≤ _; exact Nat.le_of_eq rfl) (hb hby at_34) (fun _ _ => ⟨rfl, hs51, (by decide : 0 + 0 ≤ _), (by decide : 0 + 0 ≤ _)⟩)
    dsimp only [Pt.U, Pt.locs, Pt.cells, Pt.slots] at X54 l54 y54 z54 st54 hQ54
    subst l54 y54 z54
    obtain ⟨rfl, Nq54, hs54⟩ := hQ54
    have N56 := Fr.app N53 Nq54
    refine OFin.to (S' := T54.setTop (mkF m 37 #[.val (.int p0), .val (.int (4 : Int32)), .val (.ref x_OTHER_EDITIONS), .val (.int (1 : Int32)), .val (.int (1 : Int32)), .unset] [(.int (1 : Int32))])) st54 ?_
    refine OFin.of (S' := T54.setTop (mkF m 56 #[.val (.int p0), .val (.int (4 : Int32)), .val (.ref x_OTHER_EDITIONS), .val (.int (1 : Int32)), .val (.int (1 : Int32)), .val (.int (1 : Int32))] [(.int (1 : Int32))])) (fun t ht => ?_) ?_
    · refine XS.istore X54.here hx rfl (hb hby at_37) rfl (l' := #[.val (.int p0), .val (.int (4 : Int32)), .val (.ref x_OTHER_EDITIONS), .val (.int (1 : Int32)), .val (.int (1 : Int32)), .val (.int (1 : Int32))]) rfl ?_
      show Steps p.tables e below (T54.setTop (mkF m 39 #[.val (.int p0), .val (.int (4 : Int32)), .val (.ref x_OTHER_EDITIONS), .val (.int (1 : Int32)), .val (.int (1 : Int32)), .val (.int (1 : Int32))] [])) _
      refine XS.iload X54.here hx rfl (hb hby at_39) rfl ?_
      show Steps p.tables e below (T54.setTop (mkF m 41 _ [(.int (1 : Int32))])) _
      refine XS.iloadN X54.here hx rfl (hb hby at_41) rfl ?_
      show Steps p.tables e below (T54.setTop (mkF m 42 _ [(.int (1 : Int32)), (.int (1 : Int32))])) _
      refine XS.icmpNo X54.here hx rfl (hb hby at_42) rfl (teq (by decide : (1 : Int32) = (1 : Int32))).2 ?_
      show Steps p.tables e below (T54.setTop (mkF m 45 _ [])) _
      refine XS.iload X54.here hx rfl (hb hby at_45) rfl ?_
      show Steps p.tables e below (T54.setTop (mkF m 47 _ [(.int (1 : Int32))])) _
      refine XS.iloadN X54.here hx rfl (hb hby at_47) rfl ?_
      show Steps p.tables e below (T54.setTop (mkF m 48 _ [(.int (1 : Int32)), (.int (1 : Int32))])) _
      refine XS.icmpNo X54.here hx rfl (hb hby at_48) rfl (teq (by decide : (1 : Int32) = (1 : Int32))).2 ?_
      show Steps p.tables e below (T54.setTop (mkF m 51 _ [])) _
      refine XS.iconst X54.here hx rfl (hb hby at_51) ?_
      show Steps p.tables e below (T54.setTop (mkF m 52 _ [(.int (1 : Int32))])) _
      refine XS.goto X54.here hx rfl (pc0 := 52) (pc' := 56) rfl (hb hby at_52) (by decide) (by decide) ?_
      exact ht
    exact OFin.retB X54 hx hlk (t := .boolean) (by simp) hret (hb hby at_56) (by decide) (by decide) (by rw [hs54]; exact ⟨rfl, N56⟩)
  · rw [hq1]
    refine OFin.of (S' := s₁.setTop (mkF m 9 #[.val (.int p0), .val (.int (5 : Int32)), .unset, .unset, .unset, .unset] [(.int (5 : Int32))])) (fun t ht => ?_) ?_
    · refine XS.istoreN X0.here hx rfl (hb hby at_7) rfl (l' := #[.val (.int p0), .val (.int (5 : Int32)), .unset, .unset, .unset, .unset]) rfl ?_
      show Steps p.tables e below (s₁.setTop (mkF m 8 #[.val (.int p0), .val (.int (5 : Int32)), .unset, .unset, .unset, .unset] [])) _
      refine XS.iloadN X0.here hx rfl (hb hby at_8) rfl ?_
      exact ht
    obtain ⟨_, _, ⟨T57, L57, k57, n57⟩, -, X57, ⟨Lc57, hQ57, l57, y57, z57⟩, st57⟩ := Jvm.LawKit.callS X0 hx (y := (⟨"com/example/kindred/kindred/core/LinkKindNotedPinLaw", "pick", "(I)Lcom/example/kindred/kindred/core/LinkKind;"⟩ : MethodName)) hown (mvT hZ (hw _ (List.mem_of_getElem? (i := 1) rfl))) (mvT hZ (hw _ (List.mem_of_getElem? (i := 2) rfl))) (mvT hZ (hw _ (List.mem_of_getElem? (i := 3) rfl))) (mvT hZ (hw _ (List.mem_of_getElem? (i := 4) rfl))) (by decide) (backOf (W := 0) (rmP5 l Z _ hw [] x_OTHER_FORMATS h0 n0 Z0 S_OTHER_FORMATS) hZ (hw _ (List.mem_of_getElem? (i := 4) rfl)) (hw _ (List.mem_of_getElem? (i := 3) rfl)) (by decide) (by decide)) (g := (mkF m 9 #[.val (.int p0), .val (.int (5 : Int32)), .unset, .unset, .unset, .unset] [(.int (5 : Int32))])) rfl (by rw [hml]; rfl) (argsL := [(.int (5 : Int32))]) (rest := []) (lenOf pd_1 rfl) rfl (by show 2 * 0 + _ ≤ _; exact Nat.le_of_eq rfl) (hb hby at_9) (fun _ _ => ⟨rfl, e0, (by decide : 0 + 0 ≤ _), (by decide : 0 + 0 ≤ _)⟩)
    dsimp only [Pt.U, Pt.locs, Pt.cells, Pt.slots] at X57 l57 y57 z57 st57 hQ57
    subst l57 y57 z57
    obtain ⟨rfl, Nq57, hs57⟩ := hQ57
    have N58 := Fr.app N0 Nq57
    refine OFin.of (S' := T57.setTop (mkF m 12 #[.val (.int p0), .val (.int (5 : Int32)), .unset, .unset, .unset, .unset] [(.ref x_OTHER_FORMATS)])) (fun t ht => st57 t ht) ?_
    refine OFin.of (S' := T57.setTop (mkF m 25 #[.val (.int p0), .val (.int (5 : Int32)), .val (.ref x_OTHER_FORMATS), .val (.int (1 : Int32)), .unset, .unset] [(.ref x_OTHER_FORMATS)])) (fun t ht => ?_) ?_
    · refine XS.astoreN X57.here hx rfl (hb hby at_12) rfl rfl (l' := #[.val (.int p0), .val (.int (5 : Int32)), .val (.ref x_OTHER_FORMATS), .unset, .unset, .unset]) rfl ?_
      show Steps p.tables e below (T57.setTop (mkF m 13 #[.val (.int p0), .val (.int (5 : Int32)), .val (.ref x_OTHER_FORMATS), .unset, .unset, .unset] [])) _
      refine XS.iloadN X57.here hx rfl (hb hby at_13) rfl ?_
      show Steps p.tables e below (T57.setTop (mkF m 14 _ [(.int (5 : Int32))])) _
      refine XS.iconst X57.here hx rfl (hb hby at_14) ?_
      show Steps p.tables e below (T57.setTop (mkF m 15 _ [(.int (4 : Int32)), (.int (5 : Int32))])) _
      refine XS.icmpNo X57.here hx rfl (hb hby at_15) rfl (flt (by decide : ¬ ((5 : Int32) < (4 : Int32)))).1 ?_
      show Steps p.tables e below (T57.setTop (mkF m 18 _ [])) _
      refine XS.iconst X57.here hx rfl (hb hby at_18) ?_
      show Steps p.tables e below (T57.setTop (mkF m 19 _ [(.int (1 : Int32))])) _
      refine XS.goto X57.here hx rfl (pc0 := 19) (pc' := 23) rfl (hb hby at_19) (by decide) (by decide) ?_
      show Steps p.tables e below (T57.setTop (mkF m 23 _ [(.int (1 : Int32))])) _
      refine XS.istoreN X57.here hx rfl (hb hby at_23) rfl (l' := #[.val (.int p0), .val (.int (5 : Int32)), .val (.ref x_OTHER_FORMATS), .val (.int (1 : Int32)), .unset, .unset]) rfl ?_
      show Steps p.tables e below (T57.setTop (mkF m 24 #[.val (.int p0), .val (.int (5 : Int32)), .val (.ref x_OTHER_FORMATS), .val (.int (1 : Int32)), .unset, .unset] [])) _
      refine XS.aloadN X57.here hx rfl (hb hby at_24) rfl rfl ?_
      exact ht
    obtain ⟨cq60, kq60, q60a, q60b, q60c⟩ := isOf hZ hs57 E_OTHER_FORMATS
    obtain ⟨_, _, ⟨T59, L59, k59, n59⟩, -, X59, ⟨Lc59, hQ59, l59, y59, z59⟩, st59⟩ := X57.virtualBack hx (y := (⟨"com/example/kindred/kindred/core/LinkKind", "noted", "()Z"⟩ : MethodName)) (z := (⟨"com/example/kindred/kindred/core/LinkKind", "noted", "()Z"⟩ : MethodName)) hown (mvT hZ (hw _ (List.mem_of_getElem? (i := 8) rfl))) (mvT hZ (hw _ (List.mem_of_getElem? (i := 9) rfl))) (notFace_of_selects (args := #[]) (mvT hZ (hw _ (List.mem_of_getElem? (i := 11) rfl)))) (mvT hZ (hw _ (List.mem_of_getElem? (i := 11) rfl))) (mvT hZ (hw _ (List.mem_of_getElem? (i := 10) rfl))) (by decide) (backOf (W := 0) (rmN5 l Z _ hw [] x_OTHER_FORMATS h0 n0 Z0 O_OTHER_FORMATS E_OTHER_FORMATS) hZ (hw _ (List.mem_of_getElem? (i := 12) rfl)) (hw _ (List.mem_of_getElem? (i := 6) rfl)) (by decide) (by decide)) q60a q60c (g := (mkF m 25 #[.val (.int p0), .val (.int (5 : Int32)), .val (.ref x_OTHER_FORMATS), .val (.int (1 : Int32)), .unset, .unset] [(.ref x_OTHER_FORMATS)])) rfl (by rw [hml]; rfl) (Steps.refl _) (argsL := []) (rest := []) (lenOf pd_2 rfl) rfl (by show 2 * 0 + _ ≤ _; exact Nat.le_of_eq rfl) (hb hby at_25) (fun _ _ => ⟨rfl, hs57, (by decide : 0 + 0 ≤ _), (by decide : 0 + 0 ≤ _)⟩)
    dsimp only [Pt.U, Pt.locs, Pt.cells, Pt.slots] at X59 l59 y59 z59 st59 hQ59
    subst l59 y59 z59
    obtain ⟨rfl, Nq59, hs59⟩ := hQ59
    have N61 := Fr.app N58 Nq59
    refine OFin.to (S' := T59.setTop (mkF m 28 #[.val (.int p0), .val (.int (5 : Int32)), .val (.ref x_OTHER_FORMATS), .val (.int (1 : Int32)), .unset, .unset] [(.int (1 : Int32))])) st59 ?_
    refine OFin.of (S' := T59.setTop (mkF m 31 #[.val (.int p0), .val (.int (5 : Int32)), .val (.ref x_OTHER_FORMATS), .val (.int (1 : Int32)), .val (.int (1 : Int32)), .unset] [(.ref x_OTHER_FORMATS)])) (fun t ht => ?_) ?_
    · refine XS.istore X59.here hx rfl (hb hby at_28) rfl (l' := #[.val (.int p0), .val (.int (5 : Int32)), .val (.ref x_OTHER_FORMATS), .val (.int (1 : Int32)), .val (.int (1 : Int32)), .unset]) rfl ?_
      show Steps p.tables e below (T59.setTop (mkF m 30 #[.val (.int p0), .val (.int (5 : Int32)), .val (.ref x_OTHER_FORMATS), .val (.int (1 : Int32)), .val (.int (1 : Int32)), .unset] [])) _
      refine XS.aloadN X59.here hx rfl (hb hby at_30) rfl rfl ?_
      exact ht
    obtain ⟨cq63, kq63, q63a, q63b, q63c⟩ := isOf hZ hs59 E_OTHER_FORMATS
    obtain ⟨_, _, ⟨T62, L62, k62, n62⟩, -, X62, ⟨Lc62, hQ62, l62, y62, z62⟩, st62⟩ := X59.virtualBack hx (y := (⟨"com/example/kindred/kindred/core/LinkKind", "inverse", "()Lcom/example/kindred/kindred/core/LinkKind;"⟩ : MethodName)) (z := (⟨"com/example/kindred/kindred/core/LinkKind", "inverse", "()Lcom/example/kindred/kindred/core/LinkKind;"⟩ : MethodName)) hown (mvT hZ (hw _ (List.mem_of_getElem? (i := 22) rfl))) (mvT hZ (hw _ (List.mem_of_getElem? (i := 23) rfl))) (notFace_of_selects (args := #[]) (mvT hZ (hw _ (List.mem_of_getElem? (i := 25) rfl)))) (mvT hZ (hw _ (List.mem_of_getElem? (i := 25) rfl))) (mvT hZ (hw _ (List.mem_of_getElem? (i := 24) rfl))) (by decide) (backOf (W := 0) (rmV5 l Z _ hw [] x_OTHER_FORMATS h0 n0 Z0 O_OTHER_FORMATS E_OTHER_FORMATS) hZ (hw _ (List.mem_of_getElem? (i := 26) rfl)) (hw _ (List.mem_of_getElem? (i := 6) rfl)) (by decide) (by decide)) q63a q63c (g := (mkF m 31 #[.val (.int p0), .val (.int (5 : Int32)), .val (.ref x_OTHER_FORMATS), .val (.int (1 : Int32)), .val (.int (1 : Int32)), .unset] [(.ref x_OTHER_FORMATS)])) rfl (by rw [hml]; rfl) (Steps.refl _) (argsL := []) (rest := []) (lenOf pd_3 rfl) rfl (by show 2 * 0 + _ ≤ _; exact Nat.le_of_eq rfl) (hb hby at_31) (fun _ _ => ⟨rfl, hs59, (by decide : 0 + 0 ≤ _), (by decide : 0 + 0 ≤ _)⟩)
    dsimp only [Pt.U, Pt.locs, Pt.cells, Pt.slots] at X62 l62 y62 z62 st62 hQ62
    subst l62 y62 z62
    obtain ⟨rfl, Nq62, hs62⟩ := hQ62
    have N64 := Fr.app N61 Nq62
    refine OFin.to (S' := T62.setTop (mkF m 34 #[.val (.int p0), .val (.int (5 : Int32)), .val (.ref x_OTHER_FORMATS), .val (.int (1 : Int32)), .val (.int (1 : Int32)), .unset] [(.ref x_OTHER_FORMATS)])) st62 ?_
    obtain ⟨cq66, kq66, q66a, q66b, q66c⟩ := isOf hZ hs62 E_OTHER_FORMATS
    obtain ⟨_, _, ⟨T65, L65, k65, n65⟩, -, X65, ⟨Lc65, hQ65, l65, y65, z65⟩, st65⟩ := X62.virtualBack hx (y := (⟨"com/example/kindred/kindred/core/LinkKind", "noted", "()Z"⟩ : MethodName)) (z := (⟨"com/example/kindred/kindred/core/LinkKind", "noted", "()Z"⟩ : MethodName)) hown (mvT hZ (hw _ (List.mem_of_getElem? (i := 8) rfl))) (mvT hZ (hw _ (List.mem_of_getElem? (i := 9) rfl))) (notFace_of_selects (args := #[]) (mvT hZ (hw _ (List.mem_of_getElem? (i := 11) rfl)))) (mvT hZ (hw _ (List.mem_of_getElem? (i := 11) rfl))) (mvT hZ (hw _ (List.mem_of_getElem? (i := 10) rfl))) (by decide) (backOf (W := 0) (rmN5 l Z _ hw [] x_OTHER_FORMATS h0 n0 Z0 O_OTHER_FORMATS E_OTHER_FORMATS) hZ (hw _ (List.mem_of_getElem? (i := 12) rfl)) (hw _ (List.mem_of_getElem? (i := 6) rfl)) (by decide) (by decide)) q66a q66c (g := (mkF m 34 #[.val (.int p0), .val (.int (5 : Int32)), .val (.ref x_OTHER_FORMATS), .val (.int (1 : Int32)), .val (.int (1 : Int32)), .unset] [(.ref x_OTHER_FORMATS)])) rfl (by rw [hml]; rfl) (Steps.refl _) (argsL := []) (rest := []) (lenOf pd_2 rfl) rfl (by show 2 * 0 + _ ≤ _; exact Nat.le_of_eq rfl) (hb hby at_34) (fun _ _ => ⟨rfl, hs62, (by decide : 0 + 0 ≤ _), (by decide : 0 + 0 ≤ _)⟩)
    dsimp only [Pt.U, Pt.locs, Pt.cells, Pt.slots] at X65 l65 y65 z65 st65 hQ65
    subst l65 y65 z65
    obtain ⟨rfl, Nq65, hs65⟩ := hQ65
    have N67 := Fr.app N64 Nq65
    refine OFin.to (S' := T65.setTop (mkF m 37 #[.val (.int p0), .val (.int (5 : Int32)), .val (.ref x_OTHER_FORMATS), .val (.int (1 : Int32)), .val (.int (1 : Int32)), .unset] [(.int (1 : Int32))])) st65 ?_
    refine OFin.of (S' := T65.setTop (mkF m 56 #[.val (.int p0), .val (.int (5 : Int32)), .val (.ref x_OTHER_FORMATS), .val (.int (1 : Int32)), .val (.int (1 : Int32)), .val (.int (1 : Int32))] [(.int (1 : Int32))])) (fun t ht => ?_) ?_
    · refine XS.istore X65.here hx rfl (hb hby at_37) rfl (l' := #[.val (.int p0), .val (.int (5 : Int32)), .val (.ref x_OTHER_FORMATS), .val (.int (1 : Int32)), .val (.int (1 : Int32)), .val (.int (1 : Int32))]) rfl ?_
      show Steps p.tables e below (T65.setTop (mkF m 39 #[.val (.int p0), .val (.int (5 : Int32)), .val (.ref x_OTHER_FORMATS), .val (.int (1 : Int32)), .val (.int (1 : Int32)), .val (.int (1 : Int32))] [])) _
      refine XS.iload X65.here hx rfl (hb hby at_39) rfl ?_
      show Steps p.tables e below (T65.setTop (mkF m 41 _ [(.int (1 : Int32))])) _
      refine XS.iloadN X65.here hx rfl (hb hby at_41) rfl ?_
      show Steps p.tables e below (T65.setTop (mkF m 42 _ [(.int (1 : Int32)), (.int (1 : Int32))])) _
      refine XS.icmpNo X65.here hx rfl (hb hby at_42) rfl (teq (by decide : (1 : Int32) = (1 : Int32))).2 ?_
      show Steps p.tables e below (T65.setTop (mkF m 45 _ [])) _
      refine XS.iload X65.here hx rfl (hb hby at_45) rfl ?_
      show Steps p.tables e below (T65.setTop (mkF m 47 _ [(.int (1 : Int32))])) _
      refine XS.iloadN X65.here hx rfl (hb hby at_47) rfl ?_
      show Steps p.tables e below (T65.setTop (mkF m 48 _ [(.int (1 : Int32)), (.int (1 : Int32))])) _
      refine XS.icmpNo X65.here hx rfl (hb hby at_48) rfl (teq (by decide : (1 : Int32) = (1 : Int32))).2 ?_
      show Steps p.tables e below (T65.setTop (mkF m 51 _ [])) _
      refine XS.iconst X65.here hx rfl (hb hby at_51) ?_
      show Steps p.tables e below (T65.setTop (mkF m 52 _ [(.int (1 : Int32))])) _
      refine XS.goto X65.here hx rfl (pc0 := 52) (pc' := 56) rfl (hb hby at_52) (by decide) (by decide) ?_
      exact ht
    exact OFin.retB X65 hx hlk (t := .boolean) (by simp) hret (hb hby at_56) (by decide) (by decide) (by rw [hs65]; exact ⟨rfl, N67⟩)
  · rw [hq1]
    refine OFin.of (S' := s₁.setTop (mkF m 9 #[.val (.int p0), .val (.int (6 : Int32)), .unset, .unset, .unset, .unset] [(.int (6 : Int32))])) (fun t ht => ?_) ?_
    · refine XS.istoreN X0.here hx rfl (hb hby at_7) rfl (l' := #[.val (.int p0), .val (.int (6 : Int32)), .unset, .unset, .unset, .unset]) rfl ?_
      show Steps p.tables e below (s₁.setTop (mkF m 8 #[.val (.int p0), .val (.int (6 : Int32)), .unset, .unset, .unset, .unset] [])) _
      refine XS.iloadN X0.here hx rfl (hb hby at_8) rfl ?_
      exact ht
    obtain ⟨_, _, ⟨T68, L68, k68, n68⟩, -, X68, ⟨Lc68, hQ68, l68, y68, z68⟩, st68⟩ := Jvm.LawKit.callS X0 hx (y := (⟨"com/example/kindred/kindred/core/LinkKindNotedPinLaw", "pick", "(I)Lcom/example/kindred/kindred/core/LinkKind;"⟩ : MethodName)) hown (mvT hZ (hw _ (List.mem_of_getElem? (i := 1) rfl))) (mvT hZ (hw _ (List.mem_of_getElem? (i := 2) rfl))) (mvT hZ (hw _ (List.mem_of_getElem? (i := 3) rfl))) (mvT hZ (hw _ (List.mem_of_getElem? (i := 4) rfl))) (by decide) (backOf (W := 0) (rmP6 l Z _ hw [] x_RELATED h0 n0 Z0 S_RELATED) hZ (hw _ (List.mem_of_getElem? (i := 4) rfl)) (hw _ (List.mem_of_getElem? (i := 3) rfl)) (by decide) (by decide)) (g := (mkF m 9 #[.val (.int p0), .val (.int (6 : Int32)), .unset, .unset, .unset, .unset] [(.int (6 : Int32))])) rfl (by rw [hml]; rfl) (argsL := [(.int (6 : Int32))]) (rest := []) (lenOf pd_1 rfl) rfl (by show 2 * 0 + _ ≤ _; exact Nat.le_of_eq rfl) (hb hby at_9) (fun _ _ => ⟨rfl, e0, (by decide : 0 + 0 ≤ _), (by decide : 0 + 0 ≤ _)⟩)
    dsimp only [Pt.U, Pt.locs, Pt.cells, Pt.slots] at X68 l68 y68 z68 st68 hQ68
    subst l68 y68 z68
    obtain ⟨rfl, Nq68, hs68⟩ := hQ68
    have N69 := Fr.app N0 Nq68
    refine OFin.of (S' := T68.setTop (mkF m 12 #[.val (.int p0), .val (.int (6 : Int32)), .unset, .unset, .unset, .unset] [(.ref x_RELATED)])) (fun t ht => st68 t ht) ?_
    refine OFin.of (S' := T68.setTop (mkF m 25 #[.val (.int p0), .val (.int (6 : Int32)), .val (.ref x_RELATED), .val (.int (1 : Int32)), .unset, .unset] [(.ref x_RELATED)])) (fun t ht => ?_) ?_
    · refine XS.astoreN X68.here hx rfl (hb hby at_12) rfl rfl (l' := #[.val (.int p0), .val (.int (6 : Int32)), .val (.ref x_RELATED), .unset, .unset, .unset]) rfl ?_
      show Steps p.tables e below (T68.setTop (mkF m 13 #[.val (.int p0), .val (.int (6 : Int32)), .val (.ref x_RELATED), .unset, .unset, .unset] [])) _
      refine XS.iloadN X68.here hx rfl (hb hby at_13) rfl ?_
      show Steps p.tables e below (T68.setTop (mkF m 14 _ [(.int (6 : Int32))])) _
      refine XS.iconst X68.here hx rfl (hb hby at_14) ?_
      show Steps p.tables e below (T68.setTop (mkF m 15 _ [(.int (4 : Int32)), (.int (6 : Int32))])) _
      refine XS.icmpNo X68.here hx rfl (hb hby at_15) rfl (flt (by decide : ¬ ((6 : Int32) < (4 : Int32)))).1 ?_
      show Steps p.tables e below (T68.setTop (mkF m 18 _ [])) _
      refine XS.iconst X68.here hx rfl (hb hby at_18) ?_
      show Steps p.tables e below (T68.setTop (mkF m 19 _ [(.int (1 : Int32))])) _
      refine XS.goto X68.here hx rfl (pc0 := 19) (pc' := 23) rfl (hb hby at_19) (by decide) (by decide) ?_
      show Steps p.tables e below (T68.setTop (mkF m 23 _ [(.int (1 : Int32))])) _
      refine XS.istoreN X68.here hx rfl (hb hby at_23) rfl (l' := #[.val (.int p0), .val (.int (6 : Int32)), .val (.ref x_RELATED), .val (.int (1 : Int32)), .unset, .unset]) rfl ?_
      show Steps p.tables e below (T68.setTop (mkF m 24 #[.val (.int p0), .val (.int (6 : Int32)), .val (.ref x_RELATED), .val (.int (1 : Int32)), .unset, .unset] [])) _
      refine XS.aloadN X68.here hx rfl (hb hby at_24) rfl rfl ?_
      exact ht
    obtain ⟨cq71, kq71, q71a, q71b, q71c⟩ := isOf hZ hs68 E_RELATED
    obtain ⟨_, _, ⟨T70, L70, k70, n70⟩, -, X70, ⟨Lc70, hQ70, l70, y70, z70⟩, st70⟩ := X68.virtualBack hx (y := (⟨"com/example/kindred/kindred/core/LinkKind", "noted", "()Z"⟩ : MethodName)) (z := (⟨"com/example/kindred/kindred/core/LinkKind", "noted", "()Z"⟩ : MethodName)) hown (mvT hZ (hw _ (List.mem_of_getElem? (i := 8) rfl))) (mvT hZ (hw _ (List.mem_of_getElem? (i := 9) rfl))) (notFace_of_selects (args := #[]) (mvT hZ (hw _ (List.mem_of_getElem? (i := 11) rfl)))) (mvT hZ (hw _ (List.mem_of_getElem? (i := 11) rfl))) (mvT hZ (hw _ (List.mem_of_getElem? (i := 10) rfl))) (by decide) (backOf (W := 0) (rmN6 l Z _ hw [] x_RELATED h0 n0 Z0 O_RELATED E_RELATED) hZ (hw _ (List.mem_of_getElem? (i := 12) rfl)) (hw _ (List.mem_of_getElem? (i := 6) rfl)) (by decide) (by decide)) q71a q71c (g := (mkF m 25 #[.val (.int p0), .val (.int (6 : Int32)), .val (.ref x_RELATED), .val (.int (1 : Int32)), .unset, .unset] [(.ref x_RELATED)])) rfl (by rw [hml]; rfl) (Steps.refl _) (argsL := []) (rest := []) (lenOf pd_2 rfl) rfl (by show 2 * 0 + _ ≤ _; exact Nat.le_of_eq rfl) (hb hby at_25) (fun _ _ => ⟨rfl, hs68, (by decide : 0 + 0 ≤ _), (by decide : 0 + 0 ≤ _)⟩)
    dsimp only [Pt.U, Pt.locs, Pt.cells, Pt.slots] at X70 l70 y70 z70 st70 hQ70
    subst l70 y70 z70
    obtain ⟨rfl, Nq70, hs70⟩ := hQ70
    have N72 := Fr.app N69 Nq70
    refine OFin.to (S' := T70.setTop (mkF m 28 #[.val (.int p0), .val (.int (6 : Int32)), .val (.ref x_RELATED), .val (.int (1 : Int32)), .unset, .unset] [(.int (1 : Int32))])) st70 ?_
    refine OFin.of (S' := T70.setTop (mkF m 31 #[.val (.int p0), .val (.int (6 : Int32)), .val (.ref x_RELATED), .val (.int (1 : Int32)), .val (.int (1 : Int32)), .unset] [(.ref x_RELATED)])) (fun t ht => ?_) ?_
    · refine XS.istore X70.here hx rfl (hb hby at_28) rfl (l' := #[.val (.int p0), .val (.int (6 : Int32)), .val (.ref x_RELATED), .val (.int (1 : Int32)), .val (.int (1 : Int32)), .unset]) rfl ?_
      show Steps p.tables e below (T70.setTop (mkF m 30 #[.val (.int p0), .val (.int (6 : Int32)), .val (.ref x_RELATED), .val (.int (1 : Int32)), .val (.int (1 : Int32)), .unset] [])) _
      refine XS.aloadN X70.here hx rfl (hb hby at_30) rfl rfl ?_
      exact ht
    obtain ⟨cq74, kq74, q74a, q74b, q74c⟩ := isOf hZ hs70 E_RELATED
    obtain ⟨_, _, ⟨T73, L73, k73, n73⟩, -, X73, ⟨Lc73, hQ73, l73, y73, z73⟩, st73⟩ := X70.virtualBack hx (y := (⟨"com/example/kindred/kindred/core/LinkKind", "inverse", "()Lcom/example/kindred/kindred/core/LinkKind;"⟩ : MethodName)) (z := (⟨"com/example/kindred/kindred/core/LinkKind", "inverse", "()Lcom/example/kindred/kindred/core/LinkKind;"⟩ : MethodName)) hown (mvT hZ (hw _ (List.mem_of_getElem? (i := 22) rfl))) (mvT hZ (hw _ (List.mem_of_getElem? (i := 23) rfl))) (notFace_of_selects (args := #[]) (mvT hZ (hw _ (List.mem_of_getElem? (i := 25) rfl)))) (mvT hZ (hw _ (List.mem_of_getElem? (i := 25) rfl))) (mvT hZ (hw _ (List.mem_of_getElem? (i := 24) rfl))) (by decide) (backOf (W := 0) (rmV6 l Z _ hw [] x_RELATED h0 n0 Z0 O_RELATED E_RELATED) hZ (hw _ (List.mem_of_getElem? (i := 26) rfl)) (hw _ (List.mem_of_getElem? (i := 6) rfl)) (by decide) (by decide)) q74a q74c (g := (mkF m 31 #[.val (.int p0), .val (.int (6 : Int32)), .val (.ref x_RELATED), .val (.int (1 : Int32)), .val (.int (1 : Int32)), .unset] [(.ref x_RELATED)])) rfl (by rw [hml]; rfl) (Steps.refl _) (argsL := []) (rest := []) (lenOf pd_3 rfl) rfl (by show 2 * 0 + _ ≤ _; exact Nat.le_of_eq rfl) (hb hby at_31) (fun _ _ => ⟨rfl, hs70, (by decide : 0 + 0 ≤ _), (by decide : 0 + 0 ≤ _)⟩)
    dsimp only [Pt.U, Pt.locs, Pt.cells, Pt.slots] at X73 l73 y73 z73 st73 hQ73
    subst l73 y73 z73
    obtain ⟨rfl, Nq73, hs73⟩ := hQ73
    have N75 := Fr.app N72 Nq73
    refine OFin.to (S' := T73.setTop (mkF m 34 #[.val (.int p0), .val (.int (6 : Int32)), .val (.ref x_RELATED), .val (.int (1 : Int32)), .val (.int (1 : Int32)), .unset] [(.ref x_RELATED)])) st73 ?_
    obtain ⟨cq77, kq77, q77a, q77b, q77c⟩ := isOf hZ hs73 E_RELATED
    obtain ⟨_, _, ⟨T76, L76, k76, n76⟩, -, X76, ⟨Lc76, hQ76, l76, y76, z76⟩, st76⟩ := X73.virtualBack hx (y := (⟨"com/example/kindred/kindred/core/LinkKind", "noted", "()Z"⟩ : MethodName)) (z := (⟨"com/example/kindred/kindred/core/LinkKind", "noted", "()Z"⟩ : MethodName)) hown (mvT hZ (hw _ (List.mem_of_getElem? (i := 8) rfl))) (mvT hZ (hw _ (List.mem_of_getElem? (i := 9) rfl))) (notFace_of_selects (args := #[]) (mvT hZ (hw _ (List.mem_of_getElem? (i := 11) rfl)))) (mvT hZ (hw _ (List.mem_of_getElem? (i := 11) rfl))) (mvT hZ (hw _ (List.mem_of_getElem? (i := 10) rfl))) (by decide) (backOf (W := 0) (rmN6 l Z _ hw [] x_RELATED h0 n0 Z0 O_RELATED E_RELATED) hZ (hw _ (List.mem_of_getElem? (i := 12) rfl)) (hw _ (List.mem_of_getElem? (i := 6) rfl)) (by decide) (by decide)) q77a q77c (g := (mkF m 34 #[.val (.int p0), .val (.int (6 : Int32)), .val (.ref x_RELATED), .val (.int (1 : Int32)), .val (.int (1 : Int32)), .unset] [(.ref x_RELATED)])) rfl (by rw [hml]; rfl) (Steps.refl _) (argsL := []) (rest := []) (lenOf pd_2 rfl) rfl (by show 2 * 0 + _ ≤ _; exact Nat.le_of_eq rfl) (hb hby at_34) (fun _ _ => ⟨rfl, hs73, (by decide : 0 + 0 ≤ _), (by decide : 0 + 0 ≤ _)⟩)
    dsimp only [Pt.U, Pt.locs, Pt.cells, Pt.slots] at X76 l76 y76 z76 st76 hQ76
    subst l76 y76 z76
    obtain ⟨rfl, Nq76, hs76⟩ := hQ76
    have N78 := Fr.app N75 Nq76
    refine OFin.to (S' := T76.setTop (mkF m 37 #[.val (.int p0), .val (.int (6 : Int32)), .val (.ref x_RELATED), .val (.int (1 : Int32)), .val (.int (1 : Int32)), .unset] [(.int (1 : Int32))])) st76 ?_
    refine OFin.of (S' := T76.setTop (mkF m 56 #[.val (.int p0), .val (.int (6 : Int32)), .val (.ref x_RELATED), .val (.int (1 : Int32)), .val (.int (1 : Int32)), .val (.int (1 : Int32))] [(.int (1 : Int32))])) (fun t ht => ?_) ?_
    · refine XS.istore X76.here hx rfl (hb hby at_37) rfl (l' := #[.val (.int p0), .val (.int (6 : Int32)), .val (.ref x_RELATED), .val (.int (1 : Int32)), .val (.int (1 : Int32)), .val (.int (1 : Int32))]) rfl ?_
      show Steps p.tables e below (T76.setTop (mkF m 39 #[.val (.int p0), .val (.int (6 : Int32)), .val (.ref x_RELATED), .val (.int (1 : Int32)), .val (.int (1 : Int32)), .val (.int (1 : Int32))] [])) _
      refine XS.iload X76.here hx rfl (hb hby at_39) rfl ?_
      show Steps p.tables e below (T76.setTop (mkF m 41 _ [(.int (1 : Int32))])) _
      refine XS.iloadN X76.here hx rfl (hb hby at_41) rfl ?_
      show Steps p.tables e below (T76.setTop (mkF m 42 _ [(.int (1 : Int32)), (.int (1 : Int32))])) _
      refine XS.icmpNo X76.here hx rfl (hb hby at_42) rfl (teq (by decide : (1 : Int32) = (1 : Int32))).2 ?_
      show Steps p.tables e below (T76.setTop (mkF m 45 _ [])) _
      refine XS.iload X76.here hx rfl (hb hby at_45) rfl ?_
      show Steps p.tables e below (T76.setTop (mkF m 47 _ [(.int (1 : Int32))])) _
      refine XS.iloadN X76.here hx rfl (hb hby at_47) rfl ?_
      show Steps p.tables e below (T76.setTop (mkF m 48 _ [(.int (1 : Int32)), (.int (1 : Int32))])) _
      refine XS.icmpNo X76.here hx rfl (hb hby at_48) rfl (teq (by decide : (1 : Int32) = (1 : Int32))).2 ?_
      show Steps p.tables e below (T76.setTop (mkF m 51 _ [])) _
      refine XS.iconst X76.here hx rfl (hb hby at_51) ?_
      show Steps p.tables e below (T76.setTop (mkF m 52 _ [(.int (1 : Int32))])) _
      refine XS.goto X76.here hx rfl (pc0 := 52) (pc' := 56) rfl (hb hby at_52) (by decide) (by decide) ?_
      exact ht
    exact OFin.retB X76 hx hlk (t := .boolean) (by simp) hret (hb hby at_56) (by decide) (by decide) (by rw [hs76]; exact ⟨rfl, N78⟩)
set_option maxRecDepth 65536 in
set_option maxHeartbeats 40000000 in
theorem comes_1 {Post : Tables → Env → Array Value → State → Outcome → State → Prop} (hpost : ∀ tb e args s v u, (limb_1_1.after args s (.returned v) u = true ∧ limb_1_2.after args s (.returned v) u = true ∧ True) → FrameEnd s (.returned v) u (Jvm.fieldLocs frame_1_writes args s ++ Jvm.arrayLocs frame_1_arrays args s ++ Jvm.staticLocs frame_1_statics s) 0 0 → Post tb e args s (.returned v) u) :
    ArmFor flags0 classFile x code maxLocals ret World_1 tables_1 room_1 Calls_1 rest_1 Pre_1 Post := by
  intro l hfl _ _ p e ha hc hk s m args below hf hA hF happ hP
  obtain ⟨hcalls, hrest, hpre⟩ := hP
  obtain ⟨-, -, -, hnamed, -, -, -, hat⟩ := (Spec.applies_iff hf).mp happ
  obtain ⟨hg, hn⟩ := and_e (Cond.before_iff.mp (show (Jvm.Cond.and given_1 narrow_1).before args s = true from hpre))
  obtain ⟨gg0, hg0⟩ := and_e hg
  obtain ⟨w0, rfl⟩ : ∃ w0 : Value, args = #[w0] := by
    have hs : args.size = 1 := by simpa [Cond.value, given_1] using gg0
    obtain ⟨L⟩ := args
    match L, hs with
    | [w0], _ => exact ⟨w0, rfl⟩
  have hw := fun d (hd : d ∈ tables_1) => atoms_spec (ws := Jvm.Cond.code x code maxLocals ret :: tables_1) hat d (List.mem_cons_of_mem _ hd)
  have hfit : Fit s := fun {y c} hc i hi => by
    obtain ⟨ha, rfl⟩ := Array.getElem?_eq_some_iff.mp hc
    have q := List.all_eq_true.mp ((Array.all_eq_true_iff_forall_mem.mp hF) _ (Array.getElem_mem ha)) i (List.mem_range.mpr hi)
    simpa [Array.getElem?_eq_getElem hi] using q
  obtain ⟨i0, ei0⟩ := is_v hg0
  obtain rfl : w0 = (.int i0) := Option.some.inj ei0
  obtain ⟨na0, hn0⟩ := and_e hn
  obtain ⟨na1, hn1⟩ := and_e hn0
  obtain ⟨na2, hn2⟩ := and_e hn1
  obtain ⟨na3, hn3⟩ := and_e hn2
  obtain ⟨na4, hn4⟩ := and_e hn3
  obtain ⟨na5, hn5⟩ := and_e hn4
  obtain ⟨na6, hn6⟩ := and_e hn5
  obtain ⟨na7, hn7⟩ := and_e hn6
  obtain ⟨na8, hn8⟩ := and_e hn7
  obtain ⟨na9, hn9⟩ := and_e hn8
  obtain ⟨na10, hn10⟩ := and_e hn9
  obtain ⟨na11, hn11⟩ := and_e hn10
  obtain ⟨na12, hn12⟩ := and_e hn11
  obtain ⟨x_PART_OF, ev_PART_OF⟩ := exa_v na0
  have E_PART_OF := Exa.start ev_PART_OF na0
  have S_PART_OF := Sta.start ev_PART_OF (Or.inr ⟨(hw _ (List.mem_of_getElem? (i := 6) rfl)), (hw _ (List.mem_of_getElem? (i := 7) rfl))⟩)
  obtain ⟨x_PARTS, ev_PARTS⟩ := exa_v na2
  have E_PARTS := Exa.start ev_PARTS na2
  have S_PARTS := Sta.start ev_PARTS (Or.inr ⟨(hw _ (List.mem_of_getElem? (i := 6) rfl)), (hw _ (List.mem_of_getElem? (i := 28) rfl))⟩)
  obtain ⟨x_SUCCEEDED_BY, ev_SUCCEEDED_BY⟩ := exa_v na4
  have E_SUCCEEDED_BY := Exa.start ev_SUCCEEDED_BY na4
  have S_SUCCEEDED_BY := Sta.start ev_SUCCEEDED_BY (Or.inr ⟨(hw _ (List.mem_of_getElem? (i := 6) rfl)), (hw _ (List.mem_of_getElem? (i := 30) rfl))⟩)
  obtain ⟨x_PRECEDED_BY, ev_PRECEDED_BY⟩ := exa_v na6
  have E_PRECEDED_BY := Exa.start ev_PRECEDED_BY na6
  have S_PRECEDED_BY := Sta.start ev_PRECEDED_BY (Or.inr ⟨(hw _ (List.mem_of_getElem? (i := 6) rfl)), (hw _ (List.mem_of_getElem? (i := 32) rfl))⟩)
  obtain ⟨x_OTHER_FORMATS, ev_OTHER_FORMATS⟩ := exa_v na8
  have E_OTHER_FORMATS := Exa.start ev_OTHER_FORMATS na8
  have S_OTHER_FORMATS := Sta.start ev_OTHER_FORMATS (Or.inr ⟨(hw _ (List.mem_of_getElem? (i := 6) rfl)), (hw _ (List.mem_of_getElem? (i := 34) rfl))⟩)
  obtain ⟨x_RELATED, ev_RELATED⟩ := exa_v na10
  have E_RELATED := Exa.start ev_RELATED na10
  have S_RELATED := Sta.start ev_RELATED (Or.inr ⟨(hw _ (List.mem_of_getElem? (i := 6) rfl)), (hw _ (List.mem_of_getElem? (i := 36) rfl))⟩)
  obtain ⟨x_OTHER_EDITIONS, ev_OTHER_EDITIONS⟩ := exa_v na12
  have E_OTHER_EDITIONS := Exa.start ev_OTHER_EDITIONS na12
  have S_OTHER_EDITIONS := Sta.start ev_OTHER_EDITIONS (Or.inr ⟨(hw _ (List.mem_of_getElem? (i := 6) rfl)), (hw _ (List.mem_of_getElem? (i := 38) rfl))⟩)
  have O_PART_OF := own_fldEq ev_PART_OF na1
  have O_PARTS := own_fldEq ev_PARTS na3
  have O_SUCCEEDED_BY := own_fldEq ev_SUCCEEDED_BY na5
  have O_PRECEDED_BY := own_fldEq ev_PRECEDED_BY na7
  have O_OTHER_FORMATS := own_fldEq ev_OTHER_FORMATS na9
  have O_RELATED := own_fldEq ev_RELATED na11
  have O_OTHER_EDITIONS := own_fldEq ev_OTHER_EDITIONS hn12
  obtain ⟨n, o, h1, h2, h3, _, L, rfl, ⟨rfl, N⟩, hq⟩ := rm0 l s _ hw tables_1 i0 x_PART_OF x_PARTS x_PRECEDED_BY x_SUCCEEDED_BY x_OTHER_EDITIONS x_OTHER_FORMATS x_RELATED s.heap s.heap.size (Nat.le_refl _) S_PART_OF S_PARTS S_PRECEDED_BY S_SUCCEEDED_BY S_OTHER_EDITIONS S_OTHER_FORMATS S_RELATED E_PART_OF E_PARTS E_PRECEDED_BY E_SUCCEEDED_BY E_OTHER_EDITIONS E_OTHER_FORMATS E_RELATED O_PART_OF O_PARTS O_PRECEDED_BY O_SUCCEEDED_BY O_OTHER_EDITIONS O_OTHER_FORMATS O_RELATED p e ha hc hk s m _ below hf ((Spec.applies_iff_loose hf).mp happ).1 ⟨rfl, State.Warmed39.refl s, rfl⟩ trivial
  refine ⟨n, _, h1, h2, h3, hpost _ _ _ _ _ _ ⟨Cond.after_iff.mpr rfl, Cond.after_iff.mpr (eq_i res_at (Term.int_eval (1)) rfl), trivial⟩ ⟨hq.1, hq.2.1, (hq.2.2.sift fun y hy => Or.inr (N y hy)).mono (by decide) (by decide)⟩⟩
theorem main_1_1 : Claimed_1_1 := comes_1 fun _ _ _ _ _ _ h hF => ⟨h.1, hF⟩
theorem main_1_2 : Claimed_1_2 := comes_1 fun _ _ _ _ _ _ h hF => ⟨h.2.1, hF⟩
end Jvm.Pilot.@@N@@
namespace Jvm.Pilot.@@N@@
open Jvm Jvm.ClassFile Sem Op Lib Jvm.Free Jvm.Stand Jvm.Pilot.@@N@@.Jvm.D
/-! MADE BY PROGRAM (witnessworld.py) out of the Statement's table words and the real class files: 12 classes; the members and pool entries that the words name. The judged class is class 1, her method 2. -/
namespace start1
open Jvm.ClassFile
def u (s : String) : CpInfo := .utf8 (stringToUtf16 s)
/-- a pool by its gaps: so many unusable entries, then the entry; so many at the end -/
def gap : Nat → List CpInfo → List CpInfo
  | 0, r => r
  | n + 1, r => .unusable :: gap n r
def poolList (es : List (Nat × CpInfo)) (last : Nat) : List CpInfo := es.foldr (fun e r => gap e.1 (e.2 :: r)) (gap last [])
def pool (es : List (Nat × CpInfo)) (last : Nat) : Array CpInfo := ⟨poolList es last⟩
def fileOf (pool : Array CpInfo) (this : Nat) (attrs : Array Attribute := #[]) (ms : Array MethodInfo := #[]) (fl : Nat := 33) (sup : Nat := 0) (ifs : Array Nat := #[]) (fds : Array FieldInfo := #[]) : ClassFile where
  minorVersion := 0
  majorVersion := 65
  constantPool := pool
  accessFlags := fl
  thisClass := this
  superClass := sup
  interfaces := ifs
  fields := fds
  methods := ms
  attributes := attrs
def plain (name : String) (sup : Option ClassId) : Class where
  name := name
  kind := .ordinary
  loader := none
  accessFlags := 33
  super := sup
  interfaces := #[]
  cf := none
  fields := #[]
  methods := #[]
  instanceTypes := #[]
  staticTypes := #[]
  resolved := #[]
  callSites := []
  init := .initialized
  statics := none
  mirror := none

def pool0 : Array CpInfo := pool [(5, u "<init>"), (0, u "()V"), (1, .class_ 10), (1, u "java/lang/Object")] 113

def k0m0 : Method := { name := "<init>", desc := "()V", sig := { parameters := [], returnType := none }, accessFlags := 1, code := none }
/-- java/lang/Object -/
def k0 : Class := { plain "java/lang/Object" none with
  accessFlags := 33
  interfaces := #[]
  cf := some (fileOf pool0 8 #[] #[{ accessFlags := 1, nameIndex := 5, descriptorIndex := 6, attributes := #[] }] 33 0 #[] #[])
  fields := #[]
  methods := #[k0m0]
  instanceTypes := #[]
  staticTypes := #[]
  resolved := Array.replicate 124 none
  statics := none }

def pool1 : Array CpInfo := pool [(2, .class_ 4), (1, u "java/lang/Object"), (0, u "<init>"), (0, u "()V"), (0, .fieldref 8 9), (0, .class_ 10), (0, .nameAndType 11 12), (0, u "com/example/kindred/kindred/core/LinkKind"), (0, u "PART_OF"), (0, u "Lcom/example/kindred/kindred/core/LinkKind;"), (0, .fieldref 8 14), (0, .nameAndType 15 12), (0, u "PARTS"), (0, .fieldref 8 17), (0, .nameAndType 18 12), (0, u "PRECEDED_BY"), (0, .fieldref 8 20), (0, .nameAndType 21 12), (0, u "SUCCEEDED_BY"), (0, .fieldref 8 23), (0, .nameAndType 24 12), (0, u "OTHER_EDITIONS"), (0, .fieldref 8 26), (0, .nameAndType 27 12), (0, u "OTHER_FORMATS"), (0, .fieldref 8 29), (0, .nameAndType 30 12), (0, u "RELATED"), (0, .integer 2147483647), (0, .methodref 33 34), (0, .class_ 35), (0, .nameAndType 36 37), (0, u "com/example/kindred/kindred/core/LinkKindNotedPinLaw"), (0, u "pick"), (0, u "(I)Lcom/example/kindred/kindred/core/LinkKind;"), (0, .methodref 8 39), (0, .nameAndType 40 41), (0, u "noted"), (0, u "()Z"), (0, .methodref 8 43), (0, .nameAndType 44 45), (0, u "inverse"), (0, u "()Lcom/example/kindred/kindred/core/LinkKind;"), (3, u "law"), (0, u "(I)Z")] 2

def k1m0 : Method := { name := "<init>", desc := "()V", sig := { parameters := [], returnType := none }, accessFlags := 1, code := none }
def k1c1 : Code := { maxStack := 2, maxLocals := 1, code := method_2_code, exceptionTable := #[], attributes := #[] }
def k1m1 : Method := { name := "pick", desc := "(I)Lcom/example/kindred/kindred/core/LinkKind;", sig := { parameters := [.int], returnType := some (.object "com/example/kindred/kindred/core/LinkKind") }, accessFlags := 10, code := some k1c1 }
def k1c2 : Code := { maxStack := 2, maxLocals := 6, code := code, exceptionTable := #[], attributes := #[] }
def k1m2 : Method := { name := "law", desc := "(I)Z", sig := { parameters := [.int], returnType := some .boolean }, accessFlags := 9, code := some k1c2 }
/-- com/example/kindred/kindred/core/LinkKindNotedPinLaw -/
def k1 : Class := { plain "com/example/kindred/kindred/core/LinkKindNotedPinLaw" (some 0) with
  accessFlags := 49
  interfaces := #[]
  cf := some (fileOf pool1 33 #[] #[{ accessFlags := 1, nameIndex := 5, descriptorIndex := 6, attributes := #[] }, { accessFlags := 10, nameIndex := 36, descriptorIndex := 37, attributes := #[] }, { accessFlags := 9, nameIndex := 49, descriptorIndex := 50, attributes := #[] }] 49 2 #[] #[])
  fields := #[]
  methods := #[k1m0, k1m1, k1m2]
  instanceTypes := #[]
  staticTypes := #[]
  resolved := Array.replicate 53 none
  statics := none }

def pool2 : Array CpInfo := pool [(1, .class_ 2), (0, u "java/lang/constant/Constable"), (0, .class_ 4), (0, u "java/lang/Object")] 6

/-- java/lang/constant/Constable -/
def k2 : Class := { plain "java/lang/constant/Constable" (some 0) with
  accessFlags := 1537
  interfaces := #[]
  cf := some (fileOf pool2 1 #[] #[] 1537 3 #[] #[])
  fields := #[]
  methods := #[]
  instanceTypes := #[]
  staticTypes := #[]
  resolved := Array.replicate 11 none
  statics := none }

def pool3 : Array CpInfo := pool [(1, .class_ 2), (0, u "java/lang/Comparable"), (0, .class_ 4), (0, u "java/lang/Object")] 7

/-- java/lang/Comparable -/
def k3 : Class := { plain "java/lang/Comparable" (some 0) with
  accessFlags := 1537
  interfaces := #[]
  cf := some (fileOf pool3 1 #[] #[] 1537 3 #[] #[])
  fields := #[]
  methods := #[]
  instanceTypes := #[]
  staticTypes := #[]
  resolved := Array.replicate 12 none
  statics := none }

def pool4 : Array CpInfo := pool [(1, .class_ 2), (0, u "java/io/Serializable"), (0, .class_ 4), (0, u "java/lang/Object")] 2

/-- java/io/Serializable -/
def k4 : Class := { plain "java/io/Serializable" (some 0) with
  accessFlags := 1537
  interfaces := #[]
  cf := some (fileOf pool4 1 #[] #[] 1537 3 #[] #[])
  fields := #[]
  methods := #[]
  instanceTypes := #[]
  staticTypes := #[]
  resolved := Array.replicate 7 none
  statics := none }

def pool5 : Array CpInfo := pool [(2, .class_ 4), (1, u "java/lang/Enum"), (0, u "name"), (0, u "Ljava/lang/String;"), (0, .fieldref 2 8), (0, .nameAndType 9 10), (0, u "ordinal"), (0, u "I"), (1, .class_ 14), (1, u "java/lang/Object"), (4, u "hash"), (86, .class_ 108), (1, u "java/lang/Enum$EnumDesc"), (2, .class_ 112), (0, u "java/lang/constant/Constable"), (0, .class_ 114), (0, u "java/lang/Comparable"), (0, .class_ 116), (0, u "java/io/Serializable"), (9, u "()I")] 77

def k5c0 : Code := { maxStack := 1, maxLocals := 1, code := jdk_37_method_2_code, exceptionTable := #[], attributes := #[] }
def k5m0 : Method := { name := "ordinal", desc := "()I", sig := { parameters := [], returnType := some .int }, accessFlags := 17, code := some k5c0 }
/-- java/lang/Enum -/
def k5 : Class := { plain "java/lang/Enum" (some 0) with
  accessFlags := 1057
  interfaces := #[2, 3, 4]
  cf := some (fileOf pool5 2 #[.nestMembers #[106]] #[{ accessFlags := 17, nameIndex := 9, descriptorIndex := 126, attributes := #[] }] 1057 12 #[111, 113, 115] #[{ accessFlags := 18, nameIndex := 5, descriptorIndex := 6, attributes := #[] }, { accessFlags := 18, nameIndex := 9, descriptorIndex := 10, attributes := #[] }, { accessFlags := 2, nameIndex := 19, descriptorIndex := 10, attributes := #[] }])
  fields := #[{ name := "name", type := (.object "java/lang/String"), accessFlags := 18, slot := 0, constantValue := 0 }, { name := "ordinal", type := .int, accessFlags := 18, slot := 1, constantValue := 0 }, { name := "hash", type := .int, accessFlags := 2, slot := 2, constantValue := 0 }]
  methods := #[k5m0]
  instanceTypes := #[(.object "java/lang/String"), .int, .int]
  staticTypes := #[]
  resolved := Array.replicate 204 none
  statics := none }

def pool6 : Array CpInfo := pool [(1, .class_ 2), (0, u "com/example/kindred/kindred/core/LinkKind"), (0, .fieldref 1 4), (0, .nameAndType 5 6), (0, u "PART_OF"), (0, u "Lcom/example/kindred/kindred/core/LinkKind;"), (0, .fieldref 1 8), (0, .nameAndType 9 6), (0, u "PARTS"), (0, .fieldref 1 11), (0, .nameAndType 12 6), (0, u "PRECEDED_BY"), (0, .fieldref 1 14), (0, .nameAndType 15 6), (0, u "SUCCEEDED_BY"), (2, u "OTHER_EDITIONS"), (2, u "OTHER_FORMATS"), (2, u "RELATED"), (2, u "$VALUES"), (0, u "[Lcom/example/kindred/kindred/core/LinkKind;"), (6, .class_ 37), (1, u "java/lang/Enum"), (6, .methodref 1 45), (0, .nameAndType 46 47), (0, u "ordinal"), (0, u "()I"), (24, u "inverse"), (0, u "()Lcom/example/kindred/kindred/core/LinkKind;"), (1, u "noted"), (0, u "()Z")] 4

def k6c0 : Code := { maxStack := 4, maxLocals := 1, code := prog_8_method_4_code, exceptionTable := #[], attributes := #[] }
def k6m0 : Method := { name := "inverse", desc := "()Lcom/example/kindred/kindred/core/LinkKind;", sig := { parameters := [], returnType := some (.object "com/example/kindred/kindred/core/LinkKind") }, accessFlags := 1, code := some k6c0 }
def k6c1 : Code := { maxStack := 4, maxLocals := 1, code := prog_8_method_5_code, exceptionTable := #[], attributes := #[] }
def k6m1 : Method := { name := "noted", desc := "()Z", sig := { parameters := [], returnType := some .boolean }, accessFlags := 1, code := some k6c1 }
/-- com/example/kindred/kindred/core/LinkKind -/
def k6 : Class := { plain "com/example/kindred/kindred/core/LinkKind" (some 5) with
  accessFlags := 16433
  interfaces := #[]
  cf := some (fileOf pool6 1 #[] #[{ accessFlags := 1, nameIndex := 72, descriptorIndex := 73, attributes := #[] }, { accessFlags := 1, nameIndex := 75, descriptorIndex := 76, attributes := #[] }] 16433 35 #[] #[{ accessFlags := 16409, nameIndex := 5, descriptorIndex := 6, attributes := #[] }, { accessFlags := 16409, nameIndex := 9, descriptorIndex := 6, attributes := #[] }, { accessFlags := 16409, nameIndex := 12, descriptorIndex := 6, attributes := #[] }, { accessFlags := 16409, nameIndex := 15, descriptorIndex := 6, attributes := #[] }, { accessFlags := 16409, nameIndex := 18, descriptorIndex := 6, attributes := #[] }, { accessFlags := 16409, nameIndex := 21, descriptorIndex := 6, attributes := #[] }, { accessFlags := 16409, nameIndex := 24, descriptorIndex := 6, attributes := #[] }, { accessFlags := 4122, nameIndex := 27, descriptorIndex := 28, attributes := #[] }])
  fields := #[{ name := "PART_OF", type := (.object "com/example/kindred/kindred/core/LinkKind"), accessFlags := 16409, slot := 0, constantValue := 0 }, { name := "PARTS", type := (.object "com/example/kindred/kindred/core/LinkKind"), accessFlags := 16409, slot := 1, constantValue := 0 }, { name := "PRECEDED_BY", type := (.object "com/example/kindred/kindred/core/LinkKind"), accessFlags := 16409, slot := 2, constantValue := 0 }, { name := "SUCCEEDED_BY", type := (.object "com/example/kindred/kindred/core/LinkKind"), accessFlags := 16409, slot := 3, constantValue := 0 }, { name := "OTHER_EDITIONS", type := (.object "com/example/kindred/kindred/core/LinkKind"), accessFlags := 16409, slot := 4, constantValue := 0 }, { name := "OTHER_FORMATS", type := (.object "com/example/kindred/kindred/core/LinkKind"), accessFlags := 16409, slot := 5, constantValue := 0 }, { name := "RELATED", type := (.object "com/example/kindred/kindred/core/LinkKind"), accessFlags := 16409, slot := 6, constantValue := 0 }, { name := "$VALUES", type := (.array (.object "com/example/kindred/kindred/core/LinkKind")), accessFlags := 4122, slot := 7, constantValue := 0 }]
  methods := #[k6m0, k6m1]
  instanceTypes := #[(.object "java/lang/String"), .int, .int]
  staticTypes := #[(.object "com/example/kindred/kindred/core/LinkKind"), (.object "com/example/kindred/kindred/core/LinkKind"), (.object "com/example/kindred/kindred/core/LinkKind"), (.object "com/example/kindred/kindred/core/LinkKind"), (.object "com/example/kindred/kindred/core/LinkKind"), (.object "com/example/kindred/kindred/core/LinkKind"), (.object "com/example/kindred/kindred/core/LinkKind"), (.array (.object "com/example/kindred/kindred/core/LinkKind"))]
  resolved := Array.replicate 81 none
  statics := some 0 }

def pool7 : Array CpInfo := pool [(1, u "java/lang/Cloneable"), (0, .class_ 1), (0, u "java/lang/Object"), (0, .class_ 3)] 3

/-- java/lang/Cloneable -/
def k7 : Class := { plain "java/lang/Cloneable" (some 0) with
  accessFlags := 1537
  interfaces := #[]
  cf := some (fileOf pool7 2 #[] #[] 1537 4 #[] #[])
  fields := #[]
  methods := #[]
  instanceTypes := #[]
  staticTypes := #[]
  resolved := Array.replicate 8 none
  statics := none }

/-- the primitive byte -/
def k8 : Class := { plain "byte" none with kind := .primitive 'B', accessFlags := 0x411 }
/-- [B -/
def k9 : Class := { plain "[B" (some 0) with kind := .array 8 .byte, interfaces := #[7, 4], accessFlags := 1041 }

/-- the primitive int -/
def k10 : Class := { plain "int" none with kind := .primitive 'I', accessFlags := 0x411 }
/-- [I -/
def k11 : Class := { plain "[I" (some 0) with kind := .array 10 .int, interfaces := #[7, 4], accessFlags := 1041 }

def heap : Heap := #[{ cls := 6, slots := #[.ref 1, .ref 2, .ref 4, .ref 3, .ref 7, .ref 5, .ref 6, .null], vm := .statics 6 },
  { cls := 6, slots := #[.null, .int 0, .int 0], vm := .none },
  { cls := 6, slots := #[.null, .int 1, .int 0], vm := .none },
  { cls := 6, slots := #[.null, .int 3, .int 0], vm := .none },
  { cls := 6, slots := #[.null, .int 2, .int 0], vm := .none },
  { cls := 6, slots := #[.null, .int 5, .int 0], vm := .none },
  { cls := 6, slots := #[.null, .int 6, .int 0], vm := .none },
  { cls := 6, slots := #[.null, .int 4, .int 0], vm := .none }]
def classes : Array Class := #[k0, k1, k2, k3, k4, k5, k6, k7, k8, k9, k10, k11]
def interned : List (Array UInt16 × Addr) := []
def slotsUsed : Nat := 29
def theMethod : MethodId := ⟨1, 2⟩
def args0 : Array Value := #[.int 5]
def aboutOver (below : List Frame) : State where
  vm := { classes := classes, interned := interned.toArray }
  heap := heap
  slotsUsed := slotsUsed
  threads := #[{ frames := .invoking theMethod args0 :: below }]
def below0 : List Frame := [.native { method := ⟨0, 0⟩, args := #[] }]
def about1 : State := aboutOver below0
def p0 : Program := .bare "" "" ""
def e0 : Env := launch0.env 0 0 0
theorem w_frames : about1.frames = Frame.invoking theMethod args0 :: below0 := rfl
set_option maxRecDepth 65536 in
theorem w_args : argsFit about1.vm theMethod args0 = true := by decide +kernel
set_option maxRecDepth 65536 in
theorem w_heap : heapFits about1 = true := by decide +kernel
set_option maxRecDepth 65536 in
theorem w_runnable : about1.curStatus? = some .runnable := by decide +kernel
set_option maxRecDepth 65536 in
theorem w_alone : about1.alone = true := by decide +kernel
set_option maxRecDepth 65536 in
theorem w_named : about1.methodNamed? x = some theMethod := by decide +kernel
set_option maxRecDepth 65536 in
theorem w_hears : about1.hears theMethod below0 = true := by decide +kernel
set_option maxRecDepth 65536 in
theorem w_ripe : about1.ripe theMethod args0 below0 = true := by decide +kernel
theorem w_running : about1.status = .running := rfl
set_option maxRecDepth 65536 in
theorem w_room : about1.hasRoom e0.platform room_1 = true :=
  launch0.hasRoom_least _ room_1 (by decide +kernel) (by decide +kernel) (by decide +kernel) (by decide +kernel) (by decide +kernel) (by decide +kernel)
theorem allAtoms_all (ts : List Jvm.Cond) (a : Array Jvm.Value) (st : Jvm.State) : (allAtoms ts).before a st = ts.all (fun c => c.before a st) := by
  induction ts with
  | nil => rfl
  | cons c t ih =>
    show (Jvm.Cond.and c (allAtoms t)).before a st = _
    rw [Jvm.Cond.before_and, ih, List.all_cons]
def words1 : List Jvm.Cond := Jvm.Cond.code x code maxLocals ret :: tables_1
/-- a 'code' word, met by the world's own term for the bytes: nothing is compared byte by byte -/
theorem code_word {y : MethodName} {bytes : ByteArray} {mx : Nat} {rt : Option FieldType} {a : Array Value} {s : State} {m : MethodId} {meth : Method} {c : Code} (h1 : s.methodNamed? y = some m) (h2 : s.vm.method? m = some meth) (h3 : meth.code = some c) (h4 : c.code = bytes)
    (h5 : (c.maxLocals == mx && c.exceptionTable.isEmpty && decide (c.maxStack ≤ mostOperands) && decide (meth.sig.returnType = rt) && !meth.locks && decide (parseMethodDescriptor y.desc = some meth.sig)) = true) : (Jvm.Cond.code y bytes mx rt).before a s = true := by
  simp only [Bool.and_eq_true, beq_iff_eq, Bool.not_eq_true', decide_eq_true_eq] at h5
  obtain ⟨⟨⟨⟨⟨g1, g2⟩, g3⟩, g4⟩, g5⟩, g6⟩ := h5
  simp [Cond.before, Cond.holds, Cond.value, h1, h2, h3, h4, g1, g2, g3, g4, g5, g6]
def isCode : Jvm.Cond → Bool
  | .code _ _ _ _ => true
  | _ => false
theorem all_split {L : List Jvm.Cond} {P : Jvm.Cond → Bool} (h1 : L.all (fun c => isCode c || P c) = true) (h2 : ∀ c ∈ L.filter isCode, P c = true) : L.all P = true := by
  refine List.all_eq_true.mpr fun c hc => ?_
  have h := List.all_eq_true.mp h1 c hc
  rcases Bool.eq_false_or_eq_true (isCode c) with hi | hi
  · exact h2 c (List.mem_filter.mpr ⟨hc, hi⟩)
  · simpa [hi] using h
set_option maxRecDepth 65536 in
theorem w_c0 : (Jvm.Cond.code x code maxLocals ret).before args0 about1 = true := code_word (m := ⟨1, 2⟩) (meth := k1m2) (c := k1c2) (by decide +kernel) rfl rfl rfl (by decide +kernel)
set_option maxRecDepth 65536 in
theorem w_c1 : (Jvm.Cond.code ({ cls := "com/example/kindred/kindred/core/LinkKindNotedPinLaw", name := "pick", desc := "(I)Lcom/example/kindred/kindred/core/LinkKind;" } : Jvm.MethodName) method_2_code (1 : Nat) (Option.some (Jvm.ClassFile.FieldType.object "com/example/kindred/kindred/core/LinkKind"))).before args0 about1 = true := code_word (m := ⟨1, 1⟩) (meth := k1m1) (c := k1c1) (by decide +kernel) rfl rfl rfl (by decide +kernel)
set_option maxRecDepth 65536 in
theorem w_c2 : (Jvm.Cond.code ({ cls := "com/example/kindred/kindred/core/LinkKind", name := "noted", desc := "()Z" } : Jvm.MethodName) prog_8_method_5_code (1 : Nat) (Option.some Jvm.ClassFile.FieldType.boolean)).before args0 about1 = true := code_word (m := ⟨6, 1⟩) (meth := k6m1) (c := k6c1) (by decide +kernel) rfl rfl rfl (by decide +kernel)
set_option maxRecDepth 65536 in
theorem w_c3 : (Jvm.Cond.code ({ cls := "java/lang/Enum", name := "ordinal", desc := "()I" } : Jvm.MethodName) jdk_37_method_2_code (1 : Nat) (Option.some Jvm.ClassFile.FieldType.int)).before args0 about1 = true := code_word (m := ⟨5, 0⟩) (meth := k5m0) (c := k5c0) (by decide +kernel) rfl rfl rfl (by decide +kernel)
set_option maxRecDepth 65536 in
theorem w_c4 : (Jvm.Cond.code ({ cls := "com/example/kindred/kindred/core/LinkKind", name := "inverse", desc := "()Lcom/example/kindred/kindred/core/LinkKind;" } : Jvm.MethodName) prog_8_method_4_code (1 : Nat) (Option.some (Jvm.ClassFile.FieldType.object "com/example/kindred/kindred/core/LinkKind"))).before args0 about1 = true := code_word (m := ⟨6, 0⟩) (meth := k6m0) (c := k6c0) (by decide +kernel) rfl rfl rfl (by decide +kernel)
def codes1 : List Jvm.Cond := [Jvm.Cond.code x code maxLocals ret, Jvm.Cond.code ({ cls := "com/example/kindred/kindred/core/LinkKindNotedPinLaw", name := "pick", desc := "(I)Lcom/example/kindred/kindred/core/LinkKind;" } : Jvm.MethodName) method_2_code (1 : Nat) (Option.some (Jvm.ClassFile.FieldType.object "com/example/kindred/kindred/core/LinkKind")), Jvm.Cond.code ({ cls := "com/example/kindred/kindred/core/LinkKind", name := "noted", desc := "()Z" } : Jvm.MethodName) prog_8_method_5_code (1 : Nat) (Option.some Jvm.ClassFile.FieldType.boolean), Jvm.Cond.code ({ cls := "java/lang/Enum", name := "ordinal", desc := "()I" } : Jvm.MethodName) jdk_37_method_2_code (1 : Nat) (Option.some Jvm.ClassFile.FieldType.int), Jvm.Cond.code ({ cls := "com/example/kindred/kindred/core/LinkKind", name := "inverse", desc := "()Lcom/example/kindred/kindred/core/LinkKind;" } : Jvm.MethodName) prog_8_method_4_code (1 : Nat) (Option.some (Jvm.ClassFile.FieldType.object "com/example/kindred/kindred/core/LinkKind"))]
set_option maxRecDepth 65536 in
theorem codes_eq : words1.filter isCode = codes1 := rfl
theorem w_codes : ∀ c ∈ words1.filter isCode, c.before args0 about1 = true := by
  rw [codes_eq]
  intro c hc
  simp only [codes1, List.mem_cons, List.not_mem_nil, or_false] at hc
  rcases hc with rfl | rfl | rfl | rfl | rfl
  · exact w_c0
  · exact w_c1
  · exact w_c2
  · exact w_c3
  · exact w_c4
set_option maxRecDepth 65536 in
theorem w_t1 : (words1.take 24).all (fun c => isCode c || c.before args0 about1) = true := by decide +kernel
set_option maxRecDepth 65536 in
theorem w_t2 : (words1.drop 24).all (fun c => isCode c || c.before args0 about1) = true := by decide +kernel
theorem w_tables : (allAtoms (Jvm.Cond.code x code maxLocals ret :: tables_1)).before args0 about1 = true := by
  rw [allAtoms_all]
  show words1.all (fun c => c.before args0 about1) = true
  refine all_split ?_ w_codes
  rw [← List.take_append_drop 24 words1, List.all_append, w_t1, w_t2]
  rfl
set_option maxRecDepth 65536 in
theorem w_case : (Jvm.Cond.and given_1 narrow_1).before args0 about1 = true := by decide +kernel
theorem w_applies : (headSpec (Jvm.Cond.code x code maxLocals ret :: tables_1) room_1).applies x e0.platform about1 = true :=
  (Spec.applies_iff w_frames).mpr ⟨w_running, w_runnable, w_alone, w_named, w_hears, w_ripe, w_room, w_tables⟩
theorem atStart : AtStart classFile x code maxLocals ret World_1 tables_1 room_1 Calls_1 rest_1 Pre_1 launch0 p0 e0 about1 theMethod args0 below0 :=
  ⟨lists_1, trivial, launch0.admits_env _ _ _, launch0.least_env, fairChoices_fair.cas, fairChoices_fair.clock, w_frames, w_args, w_heap, w_applies, trivial, trivial, w_case⟩
end start1
theorem witness_1 : WitnessClaimed_1 := ⟨start1.p0, start1.e0, start1.about1, start1.theMethod, start1.args0, start1.below0, start1.atStart⟩
end Jvm.Pilot.@@N@@
