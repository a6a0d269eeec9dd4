import JvmDerived
import JvmDerived.Pilot.@@N@@Statement
import JvmDerived.Pilot.@@N@@Code
set_option linter.unusedVariables false
set_option linter.unusedSimpArgs false
namespace Jvm.RoadKit
open Sem ClassFile Op Lib Jvm.Stand Jvm.Free Jvm.LawKit
section OwnNew
variable {p : Program} {l : Launch} {e : Env} {R : Room} {s : State} {m : MethodId} {args : Array Value} {below : List Frame} {meth : Method} {c : Code} {T : State} {locs : List Loc} {cells slots : Nat}
theorem retI (X : Stand p l e R s m args below meth c T locs cells slots) (hx : p.tables.exec = Jvm.exec) {pc : Nat} {Ls : Array Slot} {z : Int32} {rest : List Value} (hret : meth.sig.returnType = some .int) (hd : decode c.code pc = .ok (.ireturn, 1)) {fs : List Frame}
    (hl : ∀ (f : JFrame) (acts : List Action), f.method = m → f.locked = none → f.entered = [] → (doReturn e (T.setTop f) acts (some (.int z))).1 = T.setFrames fs) : Steps p.tables e below (T.setTop (mkF m pc Ls (.int z :: rest))) (T.setFrames fs) := by
  have hm' : T.vm.method? m = some meth := X.method'
  have hn : narrow .int (.int z) = .int z := rfl
  show Steps p.tables e below (T.setTop { method := m, pc := pc, locals := Ls, stack := _ :: rest, locked := none }) _
  jvm_step X.here [X.here.top, hx, hd, hm', hret, hn]
  first | (intro acts; rw [hl _ acts rfl rfl rfl]) | rw [hl _ _ rfl rfl rfl]
  exact Steps.refl _
/-- from S the run comes to an end of this invocation at which K holds -/
def OFin (p : Program) (e : Env) (below : List Frame) (K : Outcome → State → Prop) (S : State) : Prop := ∃ s₂ o, Steps p.tables e below S s₂ ∧ s₂.status = .running ∧ Ended s₂ below o ∧ K o s₂
theorem OFin.of {K : Outcome → State → Prop} {S S' : State} (h : ∀ t, Steps p.tables e below S' t → Steps p.tables e below S t) (k : OFin p e below K S') : OFin p e below K S := by
  obtain ⟨t, o, a, b⟩ := k; exact ⟨t, o, h t a, b⟩
theorem OFin.to {K : Outcome → State → Prop} {S S' : State} (h : Steps p.tables e below S S') (k : OFin p e below K S') : OFin p e below K S := by
  obtain ⟨t, o, a, b⟩ := k; exact ⟨t, o, h.trans a, b⟩
abbrev KPost (s : State) (Q : Option Value → Heap → List Loc → Prop) (C D : Nat) : Outcome → State → Prop := fun o U' => ∃ v L, o = .returned v ∧ Q v U'.heap L ∧ FrameEnd s o U' L C D
theorem OFin.retI (X : Stand p l e R s m args below meth c T locs cells slots) (hx : p.tables.exec = Jvm.exec) (hlk : meth.locks = false) {pc : Nat} {Ls : Array Slot} {z : Int32} {rest : List Value} {Q : Option Value → Heap → List Loc → Prop} {C D : Nat} (hret : meth.sig.returnType = some .int) (hd : decode c.code pc = .ok (.ireturn, 1)) (hC : cells ≤ C) (hD : slots ≤ D) (hQ : Q (some (.int z)) T.heap locs) :
    OFin p e below (KPost s Q C D) (T.setTop (mkF m pc Ls (.int z :: rest))) := by
  obtain ⟨fs, hr, hrun, hended, hW, hsame⟩ := X.leave (v := some (.int z)) (fun h => by rw [hret] at h; cases h) hlk
  exact ⟨_, _, Jvm.RoadKit.retI X hx hret hd hr, hrun, hended, _, _, rfl, hQ, ⟨_, rfl⟩, hW, hsame.mono hC hD⟩
theorem OFin.retB (X : Stand p l e R s m args below meth c T locs cells slots) (hx : p.tables.exec = Jvm.exec) (hlk : meth.locks = false) {pc : Nat} {Ls : Array Slot} {z : Int32} {rest : List Value} {Q : Option Value → Heap → List Loc → Prop} {C D : Nat} {t : FieldType} (ht : t = .boolean ∨ t = .byte ∨ t = .char ∨ t = .short) (hret : meth.sig.returnType = some t) (hd : decode c.code pc = .ok (.ireturn, 1)) (hC : cells ≤ C) (hD : slots ≤ D) (hQ : Q (some (.int (nar t z))) T.heap locs) :
    OFin p e below (KPost s Q C D) (T.setTop (mkF m pc Ls (.int z :: rest))) := by
  obtain ⟨fs, hr, hrun, hended, hW, hsame⟩ := X.leave (v := some (.int (nar t z))) (fun h => by rw [hret] at h; cases h) hlk
  exact ⟨_, _, retN X hx hret ht hd hr, hrun, hended, _, _, rfl, hQ, ⟨_, rfl⟩, hW, hsame.mono hC hD⟩
theorem OFin.retJ (X : Stand p l e R s m args below meth c T locs cells slots) (hx : p.tables.exec = Jvm.exec) (hlk : meth.locks = false) {pc : Nat} {Ls : Array Slot} {z : Int64} {Q : Option Value → Heap → List Loc → Prop} {C D : Nat} (hret : meth.sig.returnType = some .long) (hd : decode c.code pc = .ok (.lreturn, 1)) (hC : cells ≤ C) (hD : slots ≤ D) (hQ : Q (some (.long z)) T.heap locs) :
    OFin p e below (KPost s Q C D) (T.setTop (mkF m pc Ls [.long z])) := by
  obtain ⟨fs, hr, hrun, hended, hW, hsame⟩ := X.leave (v := some (.long z)) (fun h => by rw [hret] at h; cases h) hlk
  exact ⟨_, _, X.lreturnOut hx hret hd hr, hrun, hended, _, _, rfl, hQ, ⟨_, rfl⟩, hW, hsame.mono hC hD⟩
theorem OFin.retA (X : Stand p l e R s m args below meth c T locs cells slots) (hx : p.tables.exec = Jvm.exec) (hlk : meth.locks = false) {pc : Nat} {Ls : Array Slot} {z : Value} {Q : Option Value → Heap → List Loc → Prop} {C D : Nat} {t : FieldType} (ht : t.isReference = true) (hz : z.isRef = true) (hret : meth.sig.returnType = some t) (hd : decode c.code pc = .ok (.areturn, 1)) (hC : cells ≤ C) (hD : slots ≤ D) (hQ : Q (some z) T.heap locs) :
    OFin p e below (KPost s Q C D) (T.setTop (mkF m pc Ls [z])) := by
  obtain ⟨fs, hr, hrun, hended, hW, hsame⟩ := X.leave (v := some z) (fun h => by rw [hret] at h; cases h) hlk
  exact ⟨_, _, X.areturnOut hx hz hret ht hd hr, hrun, hended, _, _, rfl, hQ, ⟨_, rfl⟩, hW, hsame.mono hC hD⟩
theorem OFin.retD (X : Stand p l e R s m args below meth c T locs cells slots) (hx : p.tables.exec = Jvm.exec) (hlk : meth.locks = false) {pc : Nat} {Ls : Array Slot} {z : UInt64} {rest : List Value} {Q : Option Value → Heap → List Loc → Prop} {C D : Nat} (hret : meth.sig.returnType = some .double) (hd : decode c.code pc = .ok (.dreturn, 1)) (hC : cells ≤ C) (hD : slots ≤ D) (hQ : Q (some (.double z)) T.heap locs) :
    OFin p e below (KPost s Q C D) (T.setTop (mkF m pc Ls (.double z :: rest))) := by
  obtain ⟨fs, hr, hrun, hended, hW, hsame⟩ := X.leave (v := some (.double z)) (fun h => by rw [hret] at h; cases h) hlk
  exact ⟨_, _, retOut X hx hret rfl (Or.inr (Or.inr (Or.inl ⟨rfl, rfl, z, rfl⟩))) hd hr, hrun, hended, _, _, rfl, hQ, ⟨_, rfl⟩, hW, hsame.mono hC hD⟩
theorem OFin.retV (X : Stand p l e R s m args below meth c T locs cells slots) (hx : p.tables.exec = Jvm.exec) (hlk : meth.locks = false) {pc : Nat} {Ls : Array Slot} {Q : Option Value → Heap → List Loc → Prop} {C D : Nat} (hret : meth.sig.returnType = none) (hd : decode c.code pc = .ok (.return_, 1)) (hC : cells ≤ C) (hD : slots ≤ D) (hQ : Q none T.heap locs) :
    OFin p e below (KPost s Q C D) (T.setTop (mkF m pc Ls [])) := by
  obtain ⟨fs, hr, hrun, hended, hW, hsame⟩ := X.leave (v := none) (fun _ => rfl) hlk
  exact ⟨_, _, X.returnOut hx hret hd hr, hrun, hended, _, _, rfl, hQ, ⟨_, rfl⟩, hW, hsame.mono hC hD⟩
abbrev KPostW (s : State) (Q : Option Value → Heap → List Loc → Prop) (C D : Nat) : Outcome → State → Prop := fun o U' => ∃ v L, o = .returned v ∧ Q v U'.heap L ∧ ReturnedEndW s o U' L C D
theorem OFin.retBW {vm₁ : Vm} {k : Nat} (X : Stand p l e R (s.setVm vm₁) m args below meth c T locs cells slots) (hS : s.Since vm₁ k) (hk : k ≤ T.heap.size) (hx : p.tables.exec = Jvm.exec) (hlk : meth.locks = false) {pc : Nat} {Ls : Array Slot} {z : Int32} {rest : List Value} {Q : Option Value → Heap → List Loc → Prop} {C D : Nat} {t : FieldType} (ht : t = .boolean ∨ t = .byte ∨ t = .char ∨ t = .short) (hret : meth.sig.returnType = some t) (hd : decode c.code pc = .ok (.ireturn, 1)) (hC : cells ≤ C) (hD : slots ≤ D) (hQ : Q (some (.int (nar t z))) T.heap locs) :
    OFin p e below (KPostW s Q C D) (T.setTop (mkF m pc Ls (.int z :: rest))) := by
  obtain ⟨fs, hr, hrun, hended, h1, h2, h3, h4⟩ := X.leaveW hS hk (v := some (.int (nar t z))) (fun h => by rw [hret] at h; cases h) hlk
  exact ⟨_, _, retN X hx hret ht hd hr, hrun, hended, _, _, rfl, hQ, ⟨_, rfl⟩, h2, h3, h4.mono hC hD⟩
theorem own_alen {Z : State} {h : Heap} {a : Addr} {cl : Cell} {ty : FieldType} {z : Int32} {g : JFrame} {rest : List Value} {target : State} (X : Stand p l e R s m args below meth c T locs cells slots) (hx : p.tables.exec = Jvm.exec) (hZ : Z.Warmed39 s.vm) (eT : T.heap = h) (A : Arr Z h a cl ty) (S : cl.slots.size = z.toNatClampNeg) (q : ¬ z < 0) (hg : g.method = m) (hs : g.stack = .ref a :: rest) (hd : decode c.code g.pc = .ok (.arraylength, 1))
    (hr : Steps p.tables e below (T.setTop { g with pc := g.pc + 1, stack := .int z :: rest }) target) : Steps p.tables e below (T.setTop g) target := by
  refine X.arraylength hx (by rw [eT]; exact A.1) (State.isArrayOf_alike hZ.alike A.2.1) hg hs hd _ ?_
  rw [len_of S q]; exact hr
def OwnNoSta (h : Heap) (ws : List Addr) : Prop := ∀ x ∈ ws, ∀ cell : Cell, h[x]? = some cell → cell.vm.isStatics = false
theorem own_sn0 {h : Heap} : OwnNoSta h [] := fun _ q => nomatch q
theorem own_snS {Z : State} {h : Heap} {a : Addr} {C : String} {ws : List Addr} (E : Exa Z h a C) (r : OwnNoSta h ws) : OwnNoSta h (a :: ws) := fun x q cell hc => by
  rcases List.mem_cons.mp q with rfl | q
  · obtain ⟨c', _, h1, -, -, h4, -⟩ := E; cases h1.symm.trans hc; exact h4
  · exact r x q cell hc
theorem own_snV {Z : State} {h : Heap} {a : Addr} {k : ClassId} {ty : FieldType} {z : Int32} {vs : List Value} {dv : Value} {ws : List Addr} (F : Arv Z h a k ty z vs dv) (r : OwnNoSta h ws) : OwnNoSta h (a :: ws) := fun x q cell hc => by
  rcases List.mem_cons.mp q with rfl | q
  · obtain ⟨c', A, -⟩ := F; cases A.1.symm.trans hc; exact A.plain
  · exact r x q cell hc
theorem own_staKeep {Z : State} {h h' : Heap} {C n d : String} {v : Value} {ws : List Addr} (F : Sta Z h C n d v) (K : Keep h h' ws) (q : OwnNoSta h ws) : Sta Z h' C n d v := by
  obtain ⟨cf, i, k, f, st, cell, h1, h2, h3, h4, h5, h6, h7⟩ := F
  refine ⟨cf, i, k, f, st, cell, h1, h2, h3, h4, K.2.1 st cell h5 (fun z => ?_), h6, h7⟩
  have := q st z cell h5
  rw [this] at h6; cases h6
theorem own_pop2L {tb : Tables} [Ours tb] {e : Env} {below : List Frame} {T target : State} {m : MethodId} {c : Code} {g : JFrame} (h : At T m c below) (hx : tb.exec = Jvm.exec) (hg : g.method = m) {x : Int64} {rest : List Value} (hd : decode c.code g.pc = .ok (.pop2, 1)) (hs : g.stack = .long x :: rest)
    (hr : Steps tb e below (T.setTop { g with pc := g.pc + 1, stack := rest }) target) : Steps tb e below (T.setTop g) target := by
  subst hg
  jvm_step h [h.top, hx, hd, hs, Value.category]
  exact hr
def OwnMet (E : Int32) (h0 : Heap) (n0 : Nat) (v : Option Value) (h : Heap) (L : List Loc) : Prop := v = some (.int E) ∧ Fr n0 L ∧ h = h0
end OwnNew
end Jvm.RoadKit
namespace Jvm.Pilot.@@N@@
open Jvm Jvm.ClassFile Sem Op Lib Jvm.Free Jvm.Stand Jvm.LawKit Jvm.RoadKit Bundle Jvm.Pilot.@@N@@.Jvm.D
theorem pd_0 : parseMethodDescriptor "([CIILjava/lang/Void;)V" = some ⟨[(.array .char), .int, .int, (.object "java/lang/Void")], none⟩ := by decide +kernel
theorem pd_1 : parseMethodDescriptor "([C)V" = some ⟨[(.array .char)], none⟩ := by decide +kernel
theorem pd_2 : parseMethodDescriptor "([CI[BII)I" = some ⟨[(.array .char), .int, (.array .byte), .int, .int], some .int⟩ := by decide +kernel
theorem pd_3 : parseMethodDescriptor "([CII)[B" = some ⟨[(.array .char), .int, .int], some (.array .byte)⟩ := by decide +kernel
theorem pd_4 : parseMethodDescriptor "([BI)B" = some ⟨[(.array .byte), .int], some .byte⟩ := by decide +kernel
theorem pd_5 : parseMethodDescriptor "()V" = some ⟨[], none⟩ := by decide +kernel
theorem pd_6 : parseMethodDescriptor "(J)V" = some ⟨[.long], none⟩ := by decide +kernel
theorem pd_7 : parseMethodDescriptor "(Ljava/lang/Object;)Z" = some ⟨[(.object "java/lang/Object")], some .boolean⟩ := by decide +kernel
theorem pd_8 : parseMethodDescriptor "([B[B)Z" = some ⟨[(.array .byte), (.array .byte)], some .boolean⟩ := by decide +kernel
theorem pd_9 : parseMethodDescriptor "(ICC)Ljava/lang/String;" = some ⟨[.int, .char, .char], some (.object "java/lang/String")⟩ := by decide +kernel
theorem pd_10 : parseMethodDescriptor "(Ljava/lang/String;JJ)V" = some ⟨[(.object "java/lang/String"), .long, .long], none⟩ := by decide +kernel
theorem pd_11 : parseMethodDescriptor "(J)Ljava/lang/Long;" = some ⟨[.long], some (.object "java/lang/Long")⟩ := by decide +kernel
theorem own_strAtoms {Z : State} {a0 : Array Value} (hw : ∀ d ∈ tables_1, d.before a0 Z = true) : ∀ a ∈ Bundle.stringAtoms, a.before a0 Z = true := fun a ha => by
  simp only [Bundle.stringAtoms, List.mem_cons, List.not_mem_nil, or_false] at ha
  rcases ha with rfl | rfl | rfl | rfl | rfl | rfl | rfl
  · exact (hw _ (List.mem_of_getElem? (i := 9) rfl))
  · exact (hw _ (List.mem_of_getElem? (i := 8) rfl))
  · exact (hw _ (List.mem_of_getElem? (i := 22) rfl))
  · exact (hw _ (List.mem_of_getElem? (i := 23) rfl))
  · exact (hw _ (List.mem_of_getElem? (i := 24) rfl))
  · exact (hw _ (List.mem_of_getElem? (i := 25) rfl))
  · exact (hw _ (List.mem_of_getElem? (i := 26) rfl))
section OwnHeld
open Jvm.Free.SB Jvm.Free.SBG
variable {p : Program} {l : Launch} {e : Env} {R : Room} {s : State} {m : MethodId} {args : Array Value} {below : List Frame} {meth : Method} {c : Code} {T : State} {locs : List Loc} {cells slots : Nat} {Z : State} {EL : List (String × Nat)}
abbrev KPostH (Z : State) (EL : List (String × Nat)) (s : State) (Q : Option Value → Heap → List Loc → Prop) (C D : Nat) : Outcome → State → Prop := fun o U' => ∃ v L, o = .returned v ∧ Q v U'.heap L ∧ CHr Z EL s.vm s.heap U'.vm U'.heap ∧ ReturnedEndW s o U' L C D
theorem own_retAH {vm₁ : Vm} {k : Nat} (X : Stand p l e R (s.setVm vm₁) m args below meth c T locs cells slots) (hS : s.Since vm₁ k) (hk : k ≤ T.heap.size) (hR : CHr Z EL s.vm s.heap T.vm T.heap) (hx : p.tables.exec = Jvm.exec) (hlk : meth.locks = false) {pc : Nat} {Ls : Array Slot} {z : Value} {Q : Option Value → Heap → List Loc → Prop} {C D : Nat} {t : FieldType} (ht : t.isReference = true) (hz : z.isRef = true) (hret : meth.sig.returnType = some t) (hd : decode c.code pc = .ok (.areturn, 1)) (hC : cells ≤ C) (hD : slots ≤ D) (hQ : Q (some z) T.heap locs) :
    OFin p e below (KPostH Z EL s Q C D) (T.setTop (mkF m pc Ls [z])) := by
  obtain ⟨fs, hr, hrun, hended, h1, h2, h3, h4⟩ := X.leaveW hS hk (v := some z) (fun h => by rw [hret] at h; cases h) hlk
  exact ⟨_, _, X.areturnOut hx hz hret ht hd hr, hrun, hended, _, _, rfl, hQ, hR, ⟨_, rfl⟩, h2, h3, h4.mono hC hD⟩
theorem own_retVH {vm₁ : Vm} {k : Nat} (X : Stand p l e R (s.setVm vm₁) m args below meth c T locs cells slots) (hS : s.Since vm₁ k) (hk : k ≤ T.heap.size) (hR : CHr Z EL s.vm s.heap T.vm T.heap) (hx : p.tables.exec = Jvm.exec) (hlk : meth.locks = false) {pc : Nat} {Ls : Array Slot} {Q : Option Value → Heap → List Loc → Prop} {C D : Nat} (hret : meth.sig.returnType = none) (hd : decode c.code pc = .ok (.return_, 1)) (hC : cells ≤ C) (hD : slots ≤ D) (hQ : Q none T.heap locs) :
    OFin p e below (KPostH Z EL s Q C D) (T.setTop (mkF m pc Ls [])) := by
  obtain ⟨fs, hr, hrun, hended, h1, h2, h3, h4⟩ := X.leaveW hS hk (v := none) (fun _ => rfl) hlk
  exact ⟨_, _, X.returnOut hx hret hd hr, hrun, hended, _, _, rfl, hQ, hR, ⟨_, rfl⟩, h2, h3, h4.mono hC hD⟩
theorem own_safeNull {vm : Vm} {h : Heap} {x : Addr} (hal : Z.vm.Alike vm) (E : Exa Z h x "java/lang/String") (F : Fld Z h x "java/lang/String" "value" "[B" .null) : Safe Z EL vm h x := fun B => by
  obtain ⟨cell, k, e1, e2, -, -, -⟩ := E
  obtain ⟨p, -, u, a, -, q, -, F', rfl | rfl⟩ := B
  · obtain ⟨cell', cf, k', i, f, h1, h2, h3, h4, h5, h6, h7⟩ := F
    obtain ⟨cS, ⟨⟨s1, -, -, ⟨c1, k1, i1, f1, -⟩, -, -, -, v1, -⟩, -⟩, -⟩ := F'
    cases (show h[q.sa]? = some q.sC from s1).symm.trans h1
    obtain ⟨k3, e3, -⟩ := State.fieldFound?_setVm (s := ({ Z with heap := h } : State)) hal (show ({ Z with heap := h } : State).fieldFound? _ _ _ = _ from h2)
    have e4 := (show (Wst Z vm h).fieldFound? _ _ _ = _ from e3).symm.trans f1
    simp only [Option.some.injEq, Prod.mk.injEq] at e4
    rw [← e4.2.2.2, h7] at v1
    cases v1
  · cases (show h[q.sd]? = some q.SA from F'.hd).symm.trans e1
    obtain ⟨cS, -, -, f, -⟩ := F'
    have f2 : vm.findClass "[B" = some q.SA.cls := f
    rw [hal.findClass] at f2
    exact ids_ne (Z := Z) f2 e2 (by decide) rfl
theorem own_nsRoot {a0 : Array Value} {O K : String} {n : Nat} (w : (Cond.noSuperclass O).before a0 Z = true) (wk : (Cond.instantiable K n).before a0 Z = true) (hn : O ≠ K) : NS Z O K := by
  obtain ⟨c, k, h1, h2, h3, -, -⟩ := Cond.noSuperclass_spec w
  obtain ⟨t, -, g1, -⟩ := Cond.instantiable_spec wk
  have ne := ids_ne h1 g1 hn
  refine ⟨c, t, h1, g1, fun fuel => ?_⟩
  cases fuel with
  | zero => rfl
  | succ f => simp [Vm.isSubclassAux, ne, h2, h3]
theorem own_nsI {a0 : Array Value} {C S K : String} {n : Nat} (w : (Cond.superclass C S).before a0 Z = true) (wk : (Cond.instantiable K n).before a0 Z = true) (ns : NS Z C K) (hn : C ≠ K) : ∃ c t, Z.vm.findClass C = some c ∧ Z.vm.findClass K = some t ∧ Z.vm.assignable c t = false := by
  obtain ⟨c, t, h0, g0, n3⟩ := ns
  obtain ⟨p, k, kp, h1, h2, h3, h4, h5, -, h7⟩ := Cond.superclass_spec h0 w
  obtain ⟨t', k', g1, g2, g3, g4, -⟩ := Cond.instantiable_spec wk
  cases g0.symm.trans g1
  have ne := ids_ne h0 g0 hn
  have g7 : k'.isInterface = false := by simp at g4; exact g4.1
  refine ⟨c, t, h0, g0, ?_⟩
  show Z.vm.assignableAux (255 + 1) c t = false
  simp [Vm.assignableAux, ne, h2, g2, h5, g3, g7, Vm.isSubclass, n3]
end OwnHeld
theorem own_EW {Z : State} {a0 : Array Value} (hw : ∀ d ∈ tables_1, d.before a0 Z = true) : EW Z a0 consts_1 := EW.cons (text := "") (hw _ (List.mem_of_getElem? (i := 21) rfl)) (by simp) EW.nil
def own_beq (E : Int32) (l1 u1 l2 u2 : Int64) : Int32 := if E = 0 then 0 else if lcmpW l1 l2 = (0 : Int32) then (if lcmpW u1 u2 = (0 : Int32) then 1 else 0) else 0
def OwnOk (c : Int32) : Prop := 0 ≤ c.toInt ∧ c.toInt ≤ 255
theorem own_ok (x : Int32) : OwnOk ((x &&& (255 : Int32)).toUInt32.toUInt16.toUInt32.toInt32) := by
  have h := c_and x 255 (by decide)
  have e : (255 : Int32).toInt = 255 := by decide
  have i := c_i2c (x &&& 255)
  unfold OwnOk
  omega
theorem own_nard {c : Int32} (h : OwnOk c) : nar .char c = c := by
  have i := c_i2c c
  obtain ⟨h1, h2⟩ := h
  show c.toUInt32.toUInt16.toUInt32.toInt32 = c
  apply Int32.toInt_inj.mp
  omega
theorem own_hpc {c : Int32} (h : OwnOk c) : ¬ (255 : Int32) < nar .char c := by
  rw [own_nard h, Int32.lt_iff_toInt_lt]
  have e : (255 : Int32).toInt = 255 := by decide
  obtain ⟨h1, h2⟩ := h
  omega
theorem own_byt {c d : Int32} (h : OwnOk c) (k : OwnOk d) : ((((nar .char c).toInt8.toInt32).toInt8.toInt32) = (((nar .char d).toInt8.toInt32).toInt8.toInt32)) ↔ c = d := by
  rw [own_nard h, own_nard k]
  refine ⟨fun q => ?_, fun q => by rw [q]⟩
  have q' := congrArg Int32.toInt q
  have a1 := c_i2b c; have a2 := c_i2b c.toInt8.toInt32; have b1 := c_i2b d; have b2 := c_i2b d.toInt8.toInt32
  obtain ⟨h1, h2⟩ := h; obtain ⟨k1, k2⟩ := k
  apply Int32.toInt_inj.mp
  omega
theorem own_lwn {x y : Int64} (h : ¬ (lcmpW x y = (0 : Int32))) : ¬ x = y := fun q => h ((lw_eq x y).mpr q)
theorem own_rem3 (p : Int32) : ((p.toUInt32 >>> ((16 : Int32) &&& 31).toUInt32).toInt32) % (3 : Int32) = (0 : Int32) ∨ ((p.toUInt32 >>> ((16 : Int32) &&& 31).toUInt32).toInt32) % (3 : Int32) = (1 : Int32) ∨ ((p.toUInt32 >>> ((16 : Int32) &&& 31).toUInt32).toInt32) % (3 : Int32) = (2 : Int32) := by
  have h1 := c_iushr p 16 16 (by decide) (by decide)
  have h2 := (c_irem ((p.toUInt32 >>> ((16 : Int32) &&& 31).toUInt32).toInt32) 3 3 (by decide)).1 (by omega)
  have e0 : (0 : Int32).toInt = 0 := by decide
  have e1 : (1 : Int32).toInt = 1 := by decide
  have e2 : (2 : Int32).toInt = 2 := by decide
  rw [← Int32.toInt_inj, ← Int32.toInt_inj, ← Int32.toInt_inj]
  omega
def OwnLC (Z : State) (h : Heap) (ac : Addr) : Prop := ∃ cA : Cell, Arr Z h ac cA (.object "java/lang/Long") ∧ ∀ w : Int64, ¬ w < -128 → ¬ 127 < w → ∃ x : Addr, ¬ ((w.toInt32 + (128 : Int32)) < 0 ∨ cA.slots.size ≤ (w.toInt32 + (128 : Int32)).toNatClampNeg) ∧ cA.slots[(w.toInt32 + (128 : Int32)).toNatClampNeg]? = some (.ref x) ∧ Exa Z h x "java/lang/Long"
theorem OwnLC.keep {Z : State} {h h' : Heap} {ac : Addr} (F : OwnLC Z h ac) (K : Keep h h' []) : OwnLC Z h' ac := by
  obtain ⟨cA, ⟨a1, a2, a3⟩, r⟩ := F
  refine ⟨cA, ⟨K.2.1 _ _ a1 (fun q => nomatch q), a2, a3⟩, fun w h1 h2 => ?_⟩
  obtain ⟨x, x1, x2, x3⟩ := r w h1 h2
  exact ⟨x, x1, x2, x3.keep K⟩
theorem own_sets6 {d : Jvm.Cond} (h : d ∈ Jvm.Free.LongBox.longClinit) : d ∈ jdkStatics_1 := List.mem_of_mem_take (i := 6) (show d ∈ jdkStatics_1.take 6 from h)
open Jvm.Free.LongBox in
theorem own_cache {s : State} {args : Array Value} (at_ : ∀ d ∈ longClinit, d.before args s = true) : ∃ ac, (Term.static "java/lang/Long$LongCache" "cache" "[Ljava/lang/Long;").eval args s none [] s = some (.ref ac) ∧ OwnLC s s.heap ac := by
  obtain ⟨c, k, i, fCa, st, cellS, hc, hfCa, hsCa, hkst, hS, hvmS, -, hslotC, -⟩ := Cond.laysStatic_spec (show (Cond.laysStatic LCC "cache" LAD).holds args s none s [] = true from at_ _ (by simp [longClinit]))
  have evalC0 := IntBox.static_eval (args := args) (idx := []) hfCa hsCa hkst hS hvmS
  have evalC : cacheT.eval args s none [] s = some (cellS.slots[fCa.slot]'hslotC) := by rw [cacheT, evalC0]; exact Array.getElem?_eq_getElem hslotC
  obtain ⟨arr, cellA, hvC, hA, harr, hvmA⟩ := IntBox.arrayOf_fwd (at_ (.arrayOf cacheT (.object LC)) (by simp [longClinit])) evalC
  rw [hvC] at evalC
  have hCa : cellS.slots[fCa.slot]? = some (.ref arr) := by rw [Array.getElem?_eq_getElem hslotC, hvC]
  have hat := IntBox.arrayAt_of hA harr hvmA
  obtain ⟨hsz, hsize⟩ := IntBox.length_fwd (at_ (.eq (.length cacheT) (.int 256)) (by simp [longClinit])) evalC hA harr hvmA
  have hsz256 : cellA.slots.size = 256 := by
    have e : (cellA.slots.size.toInt32).toInt = cellA.slots.size := by
      have : (cellA.slots.size.toInt32).toInt = (cellA.slots.size : Int).bmod (2 ^ 32) := by simp [Nat.toInt32, Int32.size]
      rw [this]; simp [Int.bmod]; omega
    rw [hsize] at e
    have : ((256 : Int32)).toInt = 256 := by decide
    omega
  have hallAtom : (Cond.all cacheT (.and (.exactly (.elem cacheT (.index 0)) LC) (.eq (.field (.elem cacheT (.index 0)) LC "value" "J") (.op1 .i2l (.sub (.index 0) (.int 128)))))).holds args s none s [] = true :=
    at_ (Cond.all cacheT (.and (.exactly (.elem cacheT (.index 0)) LC) (.eq (.field (.elem cacheT (.index 0)) LC "value" "J") (.op1 .i2l (.sub (.index 0) (.int 128)))))) (by simp [longClinit])
  have hall := Cond.all_elim (c := .and (.exactly (.elem cacheT (.index 0)) LC) (.eq (.field (.elem cacheT (.index 0)) LC "value" "J") (.op1 .i2l (.sub (.index 0) (.int 128))))) evalC hat (by simpa [Cond.holds] using hallAtom)
  refine ⟨arr, evalC, cellA, ⟨hA, harr, hvmA⟩, fun w hw1 hw2 => ?_⟩
  obtain ⟨hbnd, hlt⟩ := place_okL w hw1 hw2
  have hj := hall _ (by rw [hsz256]; exact hlt)
  have hval : (Cond.and (.exactly (.elem cacheT (.index 0)) LC) (.eq (.field (.elem cacheT (.index 0)) LC "value" "J") (.op1 .i2l (.sub (.index 0) (.int 128))))).holds args s none s [(w.toInt32 + 128).toNatClampNeg] = true := by simpa [Cond.holds] using hj
  rw [Cond.holds_and, Bool.and_eq_true] at hval
  obtain ⟨hex, -⟩ := hval
  obtain ⟨hnn, hback⟩ := IntBox.place_nonneg _ hlt
  have evalCi : cacheT.eval args s none [(w.toInt32 + 128).toNatClampNeg] s = some (.ref arr) := by rw [cacheT, IntBox.static_eval (args := args) (idx := [(w.toInt32 + 128).toNatClampNeg]) hfCa hsCa hkst hS hvmS, hCa]
  have hltA : (w.toInt32 + 128).toNatClampNeg < cellA.slots.size := by rw [hsz256]; exact hlt
  have evalE0 : (Term.elem cacheT (.index 0)).eval args s none [(w.toInt32 + 128).toNatClampNeg] s = cellA.slots[(w.toInt32 + 128).toNatClampNeg]? := by
    simp [Term.eval, evalCi, hnn, hat, hback]
  have evalE : (Term.elem cacheT (.index 0)).eval args s none [(w.toInt32 + 128).toNatClampNeg] s = some (cellA.slots[(w.toInt32 + 128).toNatClampNeg]'hltA) := by
    rw [evalE0]; exact Array.getElem?_eq_getElem hltA
  obtain ⟨box, cB, cellB, kB, heB, hcB, hcellB, hkB, hnsB, hclsB, hk⟩ := Cond.exactly_spec hex
  rw [evalE] at heB
  have hslot : cellA.slots[(w.toInt32 + 128).toNatClampNeg]? = some (.ref box) := by rw [Array.getElem?_eq_getElem hltA, Option.some.inj heB]
  subst hclsB
  exact ⟨box, by rw [hsz256]; exact hbnd, hslot, cellB, kB, hcellB, hcB, hkB, hnsB, hk⟩
theorem own_rem3' {i p : Int32} (h : i = ((p.toUInt32 >>> ((16 : Int32) &&& 31).toUInt32).toInt32) % (3 : Int32)) : i = (0 : Int32) ∨ i = (1 : Int32) ∨ i = (2 : Int32) := by rw [h]; exact own_rem3 p
theorem own_ok' {c x : Int32} (h : c = ((x &&& (255 : Int32)).toUInt32.toUInt16.toUInt32.toInt32)) : OwnOk c := by rw [h]; exact own_ok x
def own_t (i9 cA1 cB1 : Int32) : Int32 := if i9 < (2 : Int32) then 1 else if cA1 = cB1 then 1 else 0
def own_e24 (i9 i13 cA0 cB0 cA1 cB1 : Int32) : Int32 := if i9 = i13 then (if i9 < (1 : Int32) then own_t i9 cA1 cB1 else if cA0 = cB0 then own_t i9 cA1 cB1 else 0) else 0
section
variable {i9 i13 cA0 cB0 cA1 cB1 : Int32}
theorem own_t_1 (h : i9 < (2 : Int32)) : own_t i9 cA1 cB1 = 1 := by unfold own_t; rw [if_pos h]
theorem own_t_c1 (h : ¬ i9 < (2 : Int32)) (h4 : ¬ cA1 = cB1) : own_t i9 cA1 cB1 = 0 := by unfold own_t; rw [if_neg h, if_neg h4]
theorem own_t_2 (h : ¬ i9 < (2 : Int32)) (h4 : cA1 = cB1) : own_t i9 cA1 cB1 = 1 := by unfold own_t; rw [if_neg h, if_pos h4]
theorem own_e_ne (h : ¬ i9 = i13) : own_e24 i9 i13 cA0 cB0 cA1 cB1 = 0 := by unfold own_e24; rw [if_neg h]
theorem own_e_0 (h : i9 = i13) (h1 : i9 < (1 : Int32)) : own_e24 i9 i13 cA0 cB0 cA1 cB1 = own_t i9 cA1 cB1 := by unfold own_e24; rw [if_pos h, if_pos h1]
theorem own_e_c0 (h : i9 = i13) (h1 : ¬ i9 < (1 : Int32)) (h2 : ¬ cA0 = cB0) : own_e24 i9 i13 cA0 cB0 cA1 cB1 = 0 := by unfold own_e24; rw [if_pos h, if_neg h1, if_neg h2]
theorem own_e_1 (h : i9 = i13) (h1 : ¬ i9 < (1 : Int32)) (h2 : cA0 = cB0) : own_e24 i9 i13 cA0 cB0 cA1 cB1 = own_t i9 cA1 cB1 := by unfold own_e24; rw [if_pos h, if_neg h1, if_pos h2]
theorem own_ez (h : ¬ i9 = i13) : (0 : Int32) = own_e24 i9 i13 cA0 cB0 cA1 cB1 := (own_e_ne h).symm
theorem own_e00 : (1 : Int32) = own_e24 0 0 cA0 cB0 cA1 cB1 := ((own_e_0 rfl (by decide)).trans (own_t_1 (by decide))).symm
theorem own_e11g (x y : Int32) (h : x = y ↔ cA0 = cB0) : (if x = y then ((1 : Int32)) else 0) = own_e24 1 1 cA0 cB0 cA1 cB1 := by
  by_cases k : cA0 = cB0
  · rw [own_e_1 rfl (by decide) k, own_t_1 (by decide), if_pos (h.mpr k)]
  · rw [own_e_c0 rfl (by decide) k, if_neg (fun z => k (h.mp z))]
theorem own_e22g (x y z w : Int32) (h : x = y ↔ cA0 = cB0) (h' : z = w ↔ cA1 = cB1) : (if x = y then (if z = w then ((1 : Int32)) else 0) else 0) = own_e24 2 2 cA0 cB0 cA1 cB1 := by
  by_cases k : cA0 = cB0
  · by_cases k' : cA1 = cB1
    · rw [own_e_1 rfl (by decide) k, own_t_2 (by decide) k', if_pos (h.mpr k), if_pos (h'.mpr k')]
    · rw [own_e_1 rfl (by decide) k, own_t_c1 (by decide) k', if_pos (h.mpr k), if_neg (fun z => k' (h'.mp z))]
  · rw [own_e_c0 rfl (by decide) k, if_neg (fun z => k (h.mp z))]
end
section
variable {E : Int32} {l1 u1 l2 u2 : Int64}
theorem own_beq_e (h : E = 0) : own_beq E l1 u1 l2 u2 = 0 := by unfold own_beq; rw [if_pos h]
theorem own_beq_l (h : E = 1) (h1 : ¬ lcmpW l1 l2 = (0 : Int32)) : own_beq E l1 u1 l2 u2 = 0 := by unfold own_beq; rw [if_neg (by rw [h]; decide), if_neg h1]
theorem own_beq_u (h : E = 1) (h1 : lcmpW l1 l2 = (0 : Int32)) (h2 : ¬ lcmpW u1 u2 = (0 : Int32)) : own_beq E l1 u1 l2 u2 = 0 := by unfold own_beq; rw [if_neg (by rw [h]; decide), if_pos h1, if_neg h2]
theorem own_beq_1 (h : E = 1) (h1 : lcmpW l1 l2 = (0 : Int32)) (h2 : lcmpW u1 u2 = (0 : Int32)) : own_beq E l1 u1 l2 u2 = 1 := by unfold own_beq; rw [if_neg (by rw [h]; decide), if_pos h1, if_pos h2]
end
theorem own_lws {x y : Int64} (h : lcmpW x y = (0 : Int32)) : lcmpW y x = (0 : Int32) := (lw_eq y x).mpr ((lw_eq x y).mp h).symm
theorem own_lwsn {x y : Int64} (h : ¬ lcmpW x y = (0 : Int32)) : ¬ lcmpW y x = (0 : Int32) := fun q => h (own_lws q)
theorem dZ4_0 : decode jdk_42_method_149_code 0 = .ok (.aload_n 0, 1) := by decide +kernel
theorem dZ4_1 : decode jdk_42_method_149_code 1 = .ok (.invokespecial 1, 3) := by decide +kernel
theorem dZ4_4 : decode jdk_42_method_149_code 4 = .ok (.iload_n 3, 1) := by decide +kernel
theorem dZ4_5 : decode jdk_42_method_149_code 5 = .ok (.ifCond .ne 22, 3) := by decide +kernel
theorem dZ4_8 : decode jdk_42_method_149_code 8 = .ok (.aload_n 0, 1) := by decide +kernel
theorem dZ4_9 : decode jdk_42_method_149_code 9 = .ok (.ldc 7, 2) := by decide +kernel
theorem dZ4_11 : decode jdk_42_method_149_code 11 = .ok (.getfield 9, 3) := by decide +kernel
theorem dZ4_14 : decode jdk_42_method_149_code 14 = .ok (.putfield 9, 3) := by decide +kernel
theorem dZ4_17 : decode jdk_42_method_149_code 17 = .ok (.aload_n 0, 1) := by decide +kernel
theorem dZ4_18 : decode jdk_42_method_149_code 18 = .ok (.ldc 7, 2) := by decide +kernel
theorem dZ4_20 : decode jdk_42_method_149_code 20 = .ok (.getfield 15, 3) := by decide +kernel
theorem dZ4_23 : decode jdk_42_method_149_code 23 = .ok (.putfield 15, 3) := by decide +kernel
theorem dZ4_26 : decode jdk_42_method_149_code 26 = .ok (.return_, 1) := by decide +kernel
theorem pnZ4 : plainName "java/lang/String" = true := by first | (simp [plainName, overriddenIn]; done) | decide +kernel
theorem efZ4 (m : MethodId) (a0 : Addr) (a1 : Addr) : entryFrame m #[(.ref a0), (.ref a1), (.int (0 : Int32)), (.int (0 : Int32)), .null] 6 = mkF m 0 #[.val (.ref a0), .val (.ref a1), .val (.int (0 : Int32)), .val (.int (0 : Int32)), .val .null, .unset] [] := by first | (simp [entryFrame, mkF, argsToLocals, Value.category]; done) | rfl
def QZ4 (Z : State) (a0 : Addr) (a1 : Addr) (xs : Addr) (h0 : Heap) (n0 : Nat) (v : Option Value) (h : Heap) (L : List Loc) : Prop := v = none ∧ Fr n0 L ∧ Keep h0 h [a0] ∧ ∃ (t : Addr) (kb : ClassId), Fld Z h a0 "java/lang/String" "coder" "B" (.int (0 : Int32)) ∧ Fld Z h a0 "java/lang/String" "value" "[B" (.ref t) ∧ Arv Z h t kb .byte (0 : Int32) [] (.int (0 : Int32)) ∧ xs ≠ t
set_option maxRecDepth 65536 in
set_option maxHeartbeats 40000000 in
theorem rmZ4 (l : Launch) (Z : State) (a0 : Array Value) (hw : ∀ d ∈ tables_1, d.before a0 Z = true) (ws : List Jvm.Cond) (a0 : Addr) (a1 : Addr) (xs : Addr) (h0 : Heap) (n0 : Nat) (Z0 : n0 ≤ h0.size) (E0 : Exa Z h0 a0 "java/lang/String") (Fc : Fld Z h0 a0 "java/lang/String" "coder" "B" (.int (0 : Int32))) (Fv : Fld Z h0 a0 "java/lang/String" "value" "[B" .null) (g0 : n0 ≤ a0) (Ex : Exa Z h0 xs "com/example/greylag/greylag/model/Bundle") :
    MetFree l (⟨"java/lang/String", "<init>", "([CIILjava/lang/Void;)V"⟩ : MethodName) (head1 (Jvm.Cond.code (⟨"java/lang/String", "<init>", "([CIILjava/lang/Void;)V"⟩ : MethodName) jdk_42_method_149_code 6 none :: ws) ({ frames := 1, cells := 4, slots := 8, locals := 12 } : Room)) (fun a U => a = #[(.ref a0), (.ref a1), (.int (0 : Int32)), (.int (0 : Int32)), .null] ∧ Z.Warmed39 U.vm ∧ U.heap = h0 ∧ CHv Z consts_1 U.vm h0) (fun _ _ _ _ _ => True) (fun _ U o U' => ∃ v L, o = .returned v ∧ QZ4 Z a0 a1 xs h0 n0 v U'.heap L ∧ CHr Z consts_1 U.vm U.heap U'.vm U'.heap ∧ ReturnedEndW U o U' L ({ frames := 1, cells := 4, slots := 8, locals := 12 } : Room).cells ({ frames := 1, cells := 4, slots := 8, locals := 12 } : Room).slots) := by
  refine MetFree.of_bodySF (plainFor_of_name pnZ4) hisR ?_
  intro p e s m args below meth c s₁ Bd hml0 hP hK
  obtain ⟨rfl, hZ, hh, hC0⟩ := hP
  have hx := Bd.exec
  have hby := Bd.bytes
  have hlk := BodyLoose.notSynchronized Bd
  have hret := Bd.returns
  have hml : c.maxLocals = 6 := hml0
  have hown : s.vm.findClass "java/lang/String" = some m.cls := findClass_of_methodNamed Bd.named
  have hnm := (name_of_methodNamed Bd.named Bd.method).1
  have X0 : Stand p l e ({ frames := 1, cells := 4, slots := 8, locals := 12 } : Room) s m #[(.ref a0), (.ref a1), (.int (0 : Int32)), (.int (0 : Int32)), .null] below meth c s₁ [] 0 0 := Stand.of_body Bd
  have e0 : s₁.heap = h0 := by rw [← hh, Bd.state]; rfl
  have N0 := Fr.nil n0
  show OFin p e below (KPostH Z consts_1 s (QZ4 Z a0 a1 xs h0 n0) ({ frames := 1, cells := 4, slots := 8, locals := 12 } : Room).cells ({ frames := 1, cells := 4, slots := 8, locals := 12 } : Room).slots) _
  have hR0 : CHr Z consts_1 s.vm h0 s.vm h0 := CHr.refl hC0
  have hEL := own_EW hw
  rw [efZ4 m a0 a1]
  have K0 : Keep h0 h0 [a0] := Keep.refl _ _
  refine OFin.of (S' := s₁.setTop (mkF m 1 #[.val (.ref a0), .val (.ref a1), .val (.int (0 : Int32)), .val (.int (0 : Int32)), .val .null, .unset] [(.ref a0)])) (fun t ht => ?_) ?_
  · refine XS.aloadN X0.here hx rfl (hb hby dZ4_0) rfl rfl ?_
    exact ht
  obtain ⟨T1, X1, e1, st1⟩ := initO X0 hx hZ hown (hw _ (List.mem_of_getElem? (i := 18) rfl)) (hw _ (List.mem_of_getElem? (i := 19) rfl)) (hw _ (List.mem_of_getElem? (i := 20) rfl)) e0 (g := (mkF m 1 #[.val (.ref a0), .val (.ref a1), .val (.int (0 : Int32)), .val (.int (0 : Int32)), .val .null, .unset] [(.ref a0)])) rfl (by rw [hml]; rfl) rfl (hb hby dZ4_1) (by decide) (W := 0) (by show 2 * 0 + _ ≤ _; exact Nat.le_of_eq rfl) (by decide)
  refine OFin.of (S' := T1.setTop (mkF m 4 #[.val (.ref a0), .val (.ref a1), .val (.int (0 : Int32)), .val (.int (0 : Int32)), .val .null, .unset] [])) (fun t ht => st1 t ht) ?_
  refine OFin.of (S' := T1.setTop (mkF m 9 #[.val (.ref a0), .val (.ref a1), .val (.int (0 : Int32)), .val (.int (0 : Int32)), .val .null, .unset] [(.ref a0)])) (fun t ht => ?_) ?_
  · refine XS.iloadN X1.here hx rfl (hb hby dZ4_4) rfl ?_
    show Steps p.tables e below (T1.setTop (mkF m 5 _ [(.int (0 : Int32))])) _
    refine XS.ifNo X1.here hx rfl (hb hby dZ4_5) rfl ((if0 _ _).trans (teq (by decide : (0 : Int32) = (0 : Int32))).2) ?_
    show Steps p.tables e below (T1.setTop (mkF m 8 _ [])) _
    refine XS.aloadN X1.here hx rfl (hb hby dZ4_8) rfl rfl ?_
    exact ht
  obtain ⟨a2, T2, h2, k2, v2, c2, X2, e2, E2, S2, K2, hZ2, hown2, Ax2, Fc2, Fv2, Va2, -, -, CH2, -, nx2, st2⟩ := ldcCH (s := s) (vm0 := s.vm) X1 hx hZ hown (hw _ (List.mem_of_getElem? (i := 21) rfl)) (own_strAtoms hw) e1 ((State.WarmedH.refl s).since h0.size) (Nat.le_refl _) hEL (List.mem_of_getElem? (i := 0) rfl) hR0.1 (vs := []) (z := (0 : Int32)) ⟨by decide, rfl⟩ (by decide) (by decide) (g := (mkF m 9 #[.val (.ref a0), .val (.ref a1), .val (.int (0 : Int32)), .val (.int (0 : Int32)), .val .null, .unset] [(.ref a0)])) rfl (hb hby dZ4_9) (n := 0) (by decide) (by decide) (by decide) (by decide)
  have hA3 := CH2
  have sf4 := hA3.safe E0.lt (own_safeNull hZ.alike E0 Fv)
  have hR5 := hR0.trans hA3
  have f6 := E0.ext E2
  have f7 := Fc.ext E2
  have f8 := Fv.ext E2
  have f9 := Ex.ext E2
  have Z10 : n0 ≤ h2.size := (Nat.le_trans Z0 E2.1)
  have K11 : Keep h0 h2 [a0] := (K0.ext E2)
  have ns12 := nx2 a0 sf4
  have ns13 := nx2 xs (Safe.exa hZ2.alike f9 (by decide) (by decide))
  refine OFin.of (S' := T2.setTop (mkF m 11 #[.val (.ref a0), .val (.ref a1), .val (.int (0 : Int32)), .val (.int (0 : Int32)), .val .null, .unset] [(.ref a2), (.ref a0)])) (fun t ht => st2 t ht) ?_
  obtain ⟨T14, X14, e14, st14⟩ := getF X2 hx hZ2 hown2 (host := "") (Or.inl (hw _ (List.mem_of_getElem? (i := 27) rfl))) Via.refl e2 Fv2 (g := (mkF m 11 #[.val (.ref a0), .val (.ref a1), .val (.int (0 : Int32)), .val (.int (0 : Int32)), .val .null, .unset] [(.ref a2), (.ref a0)])) rfl rfl (hb hby dZ4_11)
  refine OFin.of (S' := T14.setTop (mkF m 14 #[.val (.ref a0), .val (.ref a1), .val (.int (0 : Int32)), .val (.int (0 : Int32)), .val .null, .unset] [(.ref v2), (.ref a0)])) (fun t ht => st14 t ht) ?_
  obtain ⟨T15, h15, X15, e15, W15, st15⟩ := putF X14 hx hZ2 hown2 (host := "") (Or.inl (hw _ (List.mem_of_getElem? (i := 27) rfl))) Via.refl e14 f8 f6 (Or.inr ⟨(hw _ (List.mem_of_getElem? (i := 23) rfl)), rfl, hnm⟩) (hw _ (List.mem_of_getElem? (i := 8) rfl)) (ty := (.array .byte)) (by decide) rfl rfl (g := (mkF m 14 #[.val (.ref a0), .val (.ref a1), .val (.int (0 : Int32)), .val (.int (0 : Int32)), .val .null, .unset] [(.ref v2), (.ref a0)])) rfl rfl (hb hby dZ4_14)
  have hA16 := CHr.wr W15 sf4 hR5.1
  have sf17 := hA16.safe f6.lt sf4
  have hR18 := hR5.trans hA16
  have f19 := (f6.wr W15)
  have f20 := (f7.other W15 (Or.inr (slot_ne (Or.inr (hw _ (List.mem_of_getElem? (i := 24) rfl))) (Or.inr (hw _ (List.mem_of_getElem? (i := 23) rfl))) (by decide) (t := .byte) (t' := (.array .byte)) (by decide) (by decide))))
  have f21 := (f9.wr W15)
  have f22 := (Ax2.wr W15)
  have f23 := (Fc2.other W15 (Or.inl (Ne.symm ns12.1)))
  have f24 := (Fv2.other W15 (Or.inl (Ne.symm ns12.1)))
  have f25 := (Va2.other W15 (Ne.symm ns12.2))
  have Z26 : n0 ≤ h15.size := (Nat.le_trans Z10 (Keep.of_wr W15).1)
  have K27 : Keep h0 h15 [a0] := (K11.wr W15 (Or.inl (List.mem_of_getElem? (i := 0) rfl)))
  have N28 := Fr.snoc X15 N0 g0
  have kk29 : k2 ≤ h15.size := (Nat.le_trans K2 (Keep.of_wr W15).1)
  have f30 : Fld Z h15 a0 "java/lang/String" "value" "[B" (.ref v2) := (f8.same W15)
  refine OFin.of (S' := T15.setTop (mkF m 17 #[.val (.ref a0), .val (.ref a1), .val (.int (0 : Int32)), .val (.int (0 : Int32)), .val .null, .unset] [])) (fun t ht => st15 t ht) ?_
  refine OFin.of (S' := T15.setTop (mkF m 18 #[.val (.ref a0), .val (.ref a1), .val (.int (0 : Int32)), .val (.int (0 : Int32)), .val .null, .unset] [(.ref a0)])) (fun t ht => ?_) ?_
  · refine XS.aloadN X15.here hx rfl (hb hby dZ4_17) rfl rfl ?_
    exact ht
  obtain ⟨a31, T31, h31, k31, v31, c31, X31, e31, E31, S31, K31, hZ31, hown31, Ax31, Fc31, Fv31, Va31, -, -, CH31, -, nx31, st31⟩ := ldcCH (s := s) (vm0 := T2.vm) X15 hx hZ2 hown2 (hw _ (List.mem_of_getElem? (i := 21) rfl)) (own_strAtoms hw) e15 S2 kk29 hEL (List.mem_of_getElem? (i := 0) rfl) hR18.1 (vs := []) (z := (0 : Int32)) ⟨by decide, rfl⟩ (by decide) (by decide) (g := (mkF m 18 #[.val (.ref a0), .val (.ref a1), .val (.int (0 : Int32)), .val (.int (0 : Int32)), .val .null, .unset] [(.ref a0)])) rfl (hb hby dZ4_18) (n := 0) (by decide) (by decide) (by decide) (by decide)
  have hA32 := CH31
  have sf33 := hA32.safe f19.lt sf17
  have hR34 := hR18.trans hA32
  have f35 := f19.ext E31
  have f36 := f20.ext E31
  have f37 := f21.ext E31
  have f38 := f22.ext E31
  have f39 := f23.ext E31
  have f40 := f24.ext E31
  have f41 := f25.ext E31
  have f42 := f30.ext E31
  have Z43 : n0 ≤ h31.size := (Nat.le_trans Z26 E31.1)
  have K44 : Keep h0 h31 [a0] := (K27.ext E31)
  have ns45 := nx31 a0 sf33
  have ns46 := nx31 xs (Safe.exa hZ31.alike f37 (by decide) (by decide))
  refine OFin.of (S' := T31.setTop (mkF m 20 #[.val (.ref a0), .val (.ref a1), .val (.int (0 : Int32)), .val (.int (0 : Int32)), .val .null, .unset] [(.ref a31), (.ref a0)])) (fun t ht => st31 t ht) ?_
  obtain ⟨T47, X47, e47, st47⟩ := getF X31 hx hZ31 hown31 (host := "") (Or.inl (hw _ (List.mem_of_getElem? (i := 28) rfl))) Via.refl e31 Fc31 (g := (mkF m 20 #[.val (.ref a0), .val (.ref a1), .val (.int (0 : Int32)), .val (.int (0 : Int32)), .val .null, .unset] [(.ref a31), (.ref a0)])) rfl rfl (hb hby dZ4_20)
  refine OFin.of (S' := T47.setTop (mkF m 23 #[.val (.ref a0), .val (.ref a1), .val (.int (0 : Int32)), .val (.int (0 : Int32)), .val .null, .unset] [(.int (0 : Int32)), (.ref a0)])) (fun t ht => st47 t ht) ?_
  obtain ⟨T48, h48, X48, e48, W48, st48⟩ := putFN X47 hx hZ31 hown31 (hw _ (List.mem_of_getElem? (i := 28) rfl)) Via.refl e47 f36 f35 (Or.inr ⟨(hw _ (List.mem_of_getElem? (i := 24) rfl)), rfl, hnm⟩) (hw _ (List.mem_of_getElem? (i := 8) rfl)) (ty := .byte) (v' := (.int (0 : Int32))) (by decide) rfl rfl (g := (mkF m 23 #[.val (.ref a0), .val (.ref a1), .val (.int (0 : Int32)), .val (.int (0 : Int32)), .val .null, .unset] [(.int (0 : Int32)), (.ref a0)])) rfl rfl (hb hby dZ4_23)
  have hA49 := CHr.wr W48 sf33 hR34.1
  have sf50 := hA49.safe f35.lt sf33
  have hR51 := hR34.trans hA49
  have f52 := (f35.wr W48)
  have f53 := (f37.wr W48)
  have f54 := (f38.wr W48)
  have f55 := (f39.other W48 (Or.inl (Ne.symm ns12.1)))
  have f56 := (f40.other W48 (Or.inl (Ne.symm ns12.1)))
  have f57 := (f41.other W48 (Ne.symm ns12.2))
  have f58 := (f42.other W48 (Or.inr (slot_ne (Or.inr (hw _ (List.mem_of_getElem? (i := 23) rfl))) (Or.inr (hw _ (List.mem_of_getElem? (i := 24) rfl))) (by decide) (t := (.array .byte)) (t' := .byte) (by decide) (by decide))))
  have f59 := (Ax31.wr W48)
  have f60 := (Fc31.other W48 (Or.inl (Ne.symm ns45.1)))
  have f61 := (Fv31.other W48 (Or.inl (Ne.symm ns45.1)))
  have f62 := (Va31.other W48 (Ne.symm ns45.2))
  have Z63 : n0 ≤ h48.size := (Nat.le_trans Z43 (Keep.of_wr W48).1)
  have K64 : Keep h0 h48 [a0] := (K44.wr W48 (Or.inl (List.mem_of_getElem? (i := 0) rfl)))
  have N65 := Fr.snoc X48 N28 g0
  have kk66 : k31 ≤ h48.size := (Nat.le_trans K31 (Keep.of_wr W48).1)
  have f67 : Fld Z h48 a0 "java/lang/String" "coder" "B" (.int (0 : Int32)) := (f36.same W48)
  refine OFin.of (S' := T48.setTop (mkF m 26 #[.val (.ref a0), .val (.ref a1), .val (.int (0 : Int32)), .val (.int (0 : Int32)), .val .null, .unset] [])) (fun t ht => st48 t ht) ?_
  have rH68 : CHr Z consts_1 s.vm s.heap T48.vm T48.heap := by rw [hh, e48]; exact hR51.trans (CHv.at (s := s) (vm0 := T31.vm) X48 hZ31 hEL hR51.1)
  exact own_retVH (s := s) (vm₁ := T31.vm) X48 S31 (by rw [e48]; exact kk66) rH68 hx hlk hret (hb hby dZ4_26) (by decide) (by decide) (by rw [e48]; exact ⟨rfl, N65, K64, v2, c2, f67, f58, f57, ns13.2⟩)
theorem dZ1_0 : decode jdk_42_method_3_code 0 = .ok (.aload_n 0, 1) := by decide +kernel
theorem dZ1_1 : decode jdk_42_method_3_code 1 = .ok (.aload_n 1, 1) := by decide +kernel
theorem dZ1_2 : decode jdk_42_method_3_code 2 = .ok (.iconst 0, 1) := by decide +kernel
theorem dZ1_3 : decode jdk_42_method_3_code 3 = .ok (.aload_n 1, 1) := by decide +kernel
theorem dZ1_4 : decode jdk_42_method_3_code 4 = .ok (.arraylength, 1) := by decide +kernel
theorem dZ1_5 : decode jdk_42_method_3_code 5 = .ok (.aconst_null, 1) := by decide +kernel
theorem dZ1_6 : decode jdk_42_method_3_code 6 = .ok (.invokespecial 27, 3) := by decide +kernel
theorem dZ1_9 : decode jdk_42_method_3_code 9 = .ok (.return_, 1) := by decide +kernel
theorem pnZ1 : plainName "java/lang/String" = true := by first | (simp [plainName, overriddenIn]; done) | decide +kernel
theorem efZ1 (m : MethodId) (a0 : Addr) (a1 : Addr) : entryFrame m #[(.ref a0), (.ref a1)] 2 = mkF m 0 #[.val (.ref a0), .val (.ref a1)] [] := by first | (simp [entryFrame, mkF, argsToLocals, Value.category]; done) | rfl
def QZ1 (Z : State) (a0 : Addr) (a1 : Addr) (kc : ClassId) (xs : Addr) (h0 : Heap) (n0 : Nat) (v : Option Value) (h : Heap) (L : List Loc) : Prop := v = none ∧ Fr n0 L ∧ Keep h0 h [a0] ∧ ∃ (t : Addr) (kb : ClassId), Fld Z h a0 "java/lang/String" "coder" "B" (.int (0 : Int32)) ∧ Fld Z h a0 "java/lang/String" "value" "[B" (.ref t) ∧ Arv Z h t kb .byte (0 : Int32) [] (.int (0 : Int32)) ∧ xs ≠ t
set_option maxRecDepth 65536 in
set_option maxHeartbeats 40000000 in
theorem rmZ1 (l : Launch) (Z : State) (a0 : Array Value) (hw : ∀ d ∈ tables_1, d.before a0 Z = true) (ws : List Jvm.Cond) (a0 : Addr) (a1 : Addr) (kc : ClassId) (xs : Addr) (h0 : Heap) (n0 : Nat) (Z0 : n0 ≤ h0.size) (E0 : Exa Z h0 a0 "java/lang/String") (Fc : Fld Z h0 a0 "java/lang/String" "coder" "B" (.int (0 : Int32))) (Fv : Fld Z h0 a0 "java/lang/String" "value" "[B" .null) (V1 : Arv Z h0 a1 kc .char (0 : Int32) [] (.int (0 : Int32))) (g0 : n0 ≤ a0) (hne : a1 ≠ a0) (Ex : Exa Z h0 xs "com/example/greylag/greylag/model/Bundle") :
    MetFree l (⟨"java/lang/String", "<init>", "([C)V"⟩ : MethodName) (head1 (Jvm.Cond.code (⟨"java/lang/String", "<init>", "([C)V"⟩ : MethodName) jdk_42_method_3_code 2 none :: ws) ({ frames := 2, cells := 4, slots := 8, locals := 29 } : Room)) (fun a U => a = #[(.ref a0), (.ref a1)] ∧ Z.Warmed39 U.vm ∧ U.heap = h0 ∧ CHv Z consts_1 U.vm h0) (fun _ _ _ _ _ => True) (fun _ U o U' => ∃ v L, o = .returned v ∧ QZ1 Z a0 a1 kc xs h0 n0 v U'.heap L ∧ CHr Z consts_1 U.vm U.heap U'.vm U'.heap ∧ ReturnedEndW U o U' L ({ frames := 2, cells := 4, slots := 8, locals := 29 } : Room).cells ({ frames := 2, cells := 4, slots := 8, locals := 29 } : Room).slots) := by
  refine MetFree.of_bodySF (plainFor_of_name pnZ1) hisR ?_
  intro p e s m args below meth c s₁ Bd hml0 hP hK
  obtain ⟨rfl, hZ, hh, hC0⟩ := hP
  have hx := Bd.exec
  have hby := Bd.bytes
  have hlk := BodyLoose.notSynchronized Bd
  have hret := Bd.returns
  have hml : c.maxLocals = 2 := hml0
  have hown : s.vm.findClass "java/lang/String" = some m.cls := findClass_of_methodNamed Bd.named
  have hnm := (name_of_methodNamed Bd.named Bd.method).1
  have X0 : Stand p l e ({ frames := 2, cells := 4, slots := 8, locals := 29 } : Room) s m #[(.ref a0), (.ref a1)] below meth c s₁ [] 0 0 := Stand.of_body Bd
  have e0 : s₁.heap = h0 := by rw [← hh, Bd.state]; rfl
  have N0 := Fr.nil n0
  show OFin p e below (KPostH Z consts_1 s (QZ1 Z a0 a1 kc xs h0 n0) ({ frames := 2, cells := 4, slots := 8, locals := 29 } : Room).cells ({ frames := 2, cells := 4, slots := 8, locals := 29 } : Room).slots) _
  have hR0 : CHr Z consts_1 s.vm h0 s.vm h0 := CHr.refl hC0
  have hEL := own_EW hw
  rw [efZ1 m a0 a1]
  have K0 : Keep h0 h0 [a0] := Keep.refl _ _
  refine OFin.of (S' := s₁.setTop (mkF m 4 #[.val (.ref a0), .val (.ref a1)] [(.ref a1), (.int (0 : Int32)), (.ref a1), (.ref a0)])) (fun t ht => ?_) ?_
  · refine XS.aloadN X0.here hx rfl (hb hby dZ1_0) rfl rfl ?_
    show Steps p.tables e below (s₁.setTop (mkF m 1 _ [(.ref a0)])) _
    refine XS.aloadN X0.here hx rfl (hb hby dZ1_1) rfl rfl ?_
    show Steps p.tables e below (s₁.setTop (mkF m 2 _ [(.ref a1), (.ref a0)])) _
    refine XS.iconst X0.here hx rfl (hb hby dZ1_2) ?_
    show Steps p.tables e below (s₁.setTop (mkF m 3 _ [(.int (0 : Int32)), (.ref a1), (.ref a0)])) _
    refine XS.aloadN X0.here hx rfl (hb hby dZ1_3) rfl rfl ?_
    exact ht
  obtain ⟨cl1, Ar1, q1, S1, Ng1, H1, G1⟩ := id V1
  refine OFin.of (S' := s₁.setTop (mkF m 5 #[.val (.ref a0), .val (.ref a1)] [(.int (0 : Int32)), (.int (0 : Int32)), (.ref a1), (.ref a0)])) (fun t ht => own_alen X0 hx hZ e0 Ar1 S1 Ng1 (g := (mkF m 4 #[.val (.ref a0), .val (.ref a1)] [(.ref a1), (.int (0 : Int32)), (.ref a1), (.ref a0)])) rfl rfl (hb hby dZ1_4) ht) ?_
  refine OFin.of (S' := s₁.setTop (mkF m 6 #[.val (.ref a0), .val (.ref a1)] [.null, (.int (0 : Int32)), (.int (0 : Int32)), (.ref a1), (.ref a0)])) (fun t ht => ?_) ?_
  · refine XS.aconstNull X0.here hx rfl (hb hby dZ1_5) ?_
    exact ht
  obtain ⟨_, _, ⟨T2, L2, k2, n2⟩, -, X2, Sq2, gr2, ⟨Lc2, hQ2, l2, y2, z2, CH2⟩, st2⟩ := X0.specialBackS hx (y := (⟨"java/lang/String", "<init>", "([CIILjava/lang/Void;)V"⟩ : MethodName)) rfl hown (mvT hZ (hw _ (List.mem_of_getElem? (i := 14) rfl))) (mvT hZ (hw _ (List.mem_of_getElem? (i := 15) rfl))) (mvT hZ (hw _ (List.mem_of_getElem? (i := 17) rfl))) (by decide) (backOfSH (s := s) (vm0 := s.vm) (W := 0) (rmZ4 l Z _ hw [] a0 a1 xs h0 n0 Z0 E0 Fc Fv g0 Ex) hZ (hw _ (List.mem_of_getElem? (i := 17) rfl)) (hw _ (List.mem_of_getElem? (i := 9) rfl)) (by decide) (by decide) hEL hR0.1) (g := (mkF m 6 #[.val (.ref a0), .val (.ref a1)] [.null, (.int (0 : Int32)), (.int (0 : Int32)), (.ref a1), (.ref a0)])) rfl (by rw [hml]; rfl) (Steps.refl _) (a := a0) (argsL := [(.ref a1), (.int (0 : Int32)), (.int (0 : Int32)), .null]) (rest := []) (lenOf pd_0 rfl) rfl (by show 2 * 0 + _ ≤ _; exact Nat.le_of_eq rfl) (hb hby dZ1_6) (fun _ _ => ⟨rfl, e0, (by decide : 0 + 4 ≤ _), (by decide : 0 + 8 ≤ _)⟩)
  dsimp only [Pt.U, Pt.locs, Pt.cells, Pt.slots] at X2 l2 y2 z2 st2 hQ2 Sq2 gr2 CH2
  subst l2 y2 z2
  have hZ2 : Z.Warmed39 (s.setVm T2.vm).vm := State.Warmed39.trans (t := s.setVm s.vm) hZ Sq2.1
  have hown2 : (s.setVm T2.vm).vm.findClass "java/lang/String" = some m.cls := by rw [show (s.setVm T2.vm).vm = T2.vm from rfl, Sq2.1.alike.findClass]; exact hown
  have S2 : s.Since T2.vm T2.heap.size := State.Since.trans (s := s) (vm₁ := s.vm) ((State.WarmedH.refl s).since h0.size) Sq2 (Nat.le_trans (Nat.le_refl _) (by rw [← e0]; exact gr2))
  obtain ⟨rfl, Nq2, Kq2, t2, kb2, f2a, f2b, f2c, nt2⟩ := hQ2
  have N3 := Fr.app N0 Nq2
  have hA4 := CH2
  have hR5 := hR0.trans hA4
  have f6 := (E0.keep Kq2)
  have f7 := (V1.keep Kq2 (ninS hne nin0))
  have f8 := (Ex.keep Kq2)
  have Z9 : n0 ≤ T2.heap.size := (Nat.le_trans Z0 Kq2.1)
  have K10 : Keep h0 T2.heap [a0] := (K0.trans Kq2 (allS (Or.inl (List.mem_of_getElem? (i := 0) rfl)) all0))
  refine OFin.to (S' := T2.setTop (mkF m 9 #[.val (.ref a0), .val (.ref a1)] [])) st2 ?_
  have rH11 : CHr Z consts_1 s.vm s.heap T2.vm T2.heap := by rw [hh]; exact hR5.trans (CHv.at (s := s) (vm0 := T2.vm) X2 hZ2 hEL hR5.1)
  exact own_retVH (s := s) (vm₁ := T2.vm) X2 S2 (Nat.le_refl _) rH11 hx hlk hret (hb hby dZ1_9) (by decide) (by decide) (by exact ⟨rfl, N3, K10, t2, kb2, f2a, f2b, f2c, nt2⟩)
theorem dSt0_0 : decode method_2_code 0 = .ok (.iload_n 0, 1) := by decide +kernel
theorem dSt0_1 : decode method_2_code 1 = .ok (.ifCond .ne 14, 3) := by decide +kernel
theorem dSt0_4 : decode method_2_code 4 = .ok (.new 7, 3) := by decide +kernel
theorem dSt0_7 : decode method_2_code 7 = .ok (.dup, 1) := by decide +kernel
theorem dSt0_8 : decode method_2_code 8 = .ok (.iconst 0, 1) := by decide +kernel
theorem dSt0_9 : decode method_2_code 9 = .ok (.newarray .char, 2) := by decide +kernel
theorem dSt0_11 : decode method_2_code 11 = .ok (.invokespecial 9, 3) := by decide +kernel
theorem dSt0_14 : decode method_2_code 14 = .ok (.areturn, 1) := by decide +kernel
theorem pnSt0 : plainName "com/example/greylag/greylag/model/BundleEqualsPinLaw" = true := by first | (simp [plainName, overriddenIn]; done) | decide +kernel
theorem efSt0 (m : MethodId) (p1 : Int32) (p2 : Int32) : entryFrame m #[(.int (0 : Int32)), (.int p1), (.int p2)] 3 = mkF m 0 #[.val (.int (0 : Int32)), .val (.int p1), .val (.int p2)] [] := by first | (simp [entryFrame, mkF, argsToLocals, Value.category]; done) | rfl
def QSt0 (Z : State) (p1 : Int32) (p2 : Int32) (xs : Addr) (h0 : Heap) (n0 : Nat) (v : Option Value) (h : Heap) (L : List Loc) : Prop := v = some (.ref h0.size) ∧ Fr n0 L ∧ Keep h0 h [] ∧ Exa Z h h0.size "java/lang/String" ∧ ∃ (t : Addr) (kb : ClassId), Fld Z h h0.size "java/lang/String" "coder" "B" (.int (0 : Int32)) ∧ Fld Z h h0.size "java/lang/String" "value" "[B" (.ref t) ∧ Arv Z h t kb .byte (0 : Int32) [] (.int (0 : Int32)) ∧ xs ≠ t
set_option maxRecDepth 65536 in
set_option maxHeartbeats 40000000 in
theorem rmSt0 (l : Launch) (Z : State) (a0 : Array Value) (hw : ∀ d ∈ tables_1, d.before a0 Z = true) (ws : List Jvm.Cond) (p1 : Int32) (p2 : Int32) (xs : Addr) (h0 : Heap) (n0 : Nat) (Z0 : n0 ≤ h0.size) (Ex : Exa Z h0 xs "com/example/greylag/greylag/model/Bundle") :
    MetFree l (⟨"com/example/greylag/greylag/model/BundleEqualsPinLaw", "str", "(ICC)Ljava/lang/String;"⟩ : MethodName) (head1 (Jvm.Cond.code (⟨"com/example/greylag/greylag/model/BundleEqualsPinLaw", "str", "(ICC)Ljava/lang/String;"⟩ : MethodName) method_2_code 3 (some (.object "java/lang/String")) :: ws) ({ frames := 3, cells := 6, slots := 12, locals := 43 } : Room)) (fun a U => a = #[(.int (0 : Int32)), (.int p1), (.int p2)] ∧ Z.Warmed39 U.vm ∧ U.heap = h0 ∧ CHv Z consts_1 U.vm h0) (fun _ _ _ _ _ => True) (fun _ U o U' => ∃ v L, o = .returned v ∧ QSt0 Z p1 p2 xs h0 n0 v U'.heap L ∧ CHr Z consts_1 U.vm U.heap U'.vm U'.heap ∧ ReturnedEndW U o U' L ({ frames := 3, cells := 6, slots := 12, locals := 43 } : Room).cells ({ frames := 3, cells := 6, slots := 12, locals := 43 } : Room).slots) := by
  refine MetFree.of_bodySF (plainFor_of_name pnSt0) hisR ?_
  intro p e s m args below meth c s₁ Bd hml0 hP hK
  obtain ⟨rfl, hZ, hh, hC0⟩ := hP
  have hx := Bd.exec
  have hby := Bd.bytes
  have hlk := BodyLoose.notSynchronized Bd
  have hret := Bd.returns
  have hml : c.maxLocals = 3 := hml0
  have hown : s.vm.findClass "com/example/greylag/greylag/model/BundleEqualsPinLaw" = some m.cls := findClass_of_methodNamed Bd.named
  have hnm := (name_of_methodNamed Bd.named Bd.method).1
  have X0 : Stand p l e ({ frames := 3, cells := 6, slots := 12, locals := 43 } : Room) s m #[(.int (0 : Int32)), (.int p1), (.int p2)] below meth c s₁ [] 0 0 := Stand.of_body Bd
  have e0 : s₁.heap = h0 := by rw [← hh, Bd.state]; rfl
  have N0 := Fr.nil n0
  show OFin p e below (KPostH Z consts_1 s (QSt0 Z p1 p2 xs h0 n0) ({ frames := 3, cells := 6, slots := 12, locals := 43 } : Room).cells ({ frames := 3, cells := 6, slots := 12, locals := 43 } : Room).slots) _
  have hR0 : CHr Z consts_1 s.vm h0 s.vm h0 := CHr.refl hC0
  have hEL := own_EW hw
  rw [efSt0 m p1 p2]
  have K0 : Keep h0 h0 [] := Keep.refl _ _
  refine OFin.of (S' := s₁.setTop (mkF m 4 #[.val (.int (0 : Int32)), .val (.int p1), .val (.int p2)] [])) (fun t ht => ?_) ?_
  · refine XS.iloadN X0.here hx rfl (hb hby dSt0_0) rfl ?_
    show Steps p.tables e below (s₁.setTop (mkF m 1 _ [(.int (0 : Int32))])) _
    refine XS.ifNo X0.here hx rfl (hb hby dSt0_1) rfl ((if0 _ _).trans (teq (by decide : (0 : Int32) = (0 : Int32))).2) ?_
    exact ht
  obtain ⟨T1, h1, X1, e1, E1, A1, D1, -, st1⟩ := newO X0 hx hZ hown (hw _ (List.mem_of_getElem? (i := 7) rfl)) (hw _ (List.mem_of_getElem? (i := 8) rfl)) (hw _ (List.mem_of_getElem? (i := 9) rfl)) e0 (g := (mkF m 4 #[.val (.int (0 : Int32)), .val (.int p1), .val (.int p2)] [])) rfl (hb hby dSt0_4) (by decide) (by decide)
  obtain ⟨b1, gq1⟩ : ∃ z, z = h0.size := ⟨_, rfl⟩
  rw [← gq1] at A1 D1 st1
  have g2 : n0 ≤ b1 := (Nat.le_trans Z0 (Nat.le_of_eq gq1.symm))
  have sz3 : h0.size ≤ b1 := (Nat.le_trans K0.1 (Nat.le_of_eq gq1.symm))
  have ne4 : xs ≠ b1 := (Nat.ne_of_lt (Nat.lt_of_lt_of_le Ex.lt (Nat.le_of_eq gq1.symm)))
  have hA5 := CHr.ext E1 hR0.1
  have hR6 := hR0.trans hA5
  have f7 := Ex.ext E1
  have Z8 : n0 ≤ h1.size := (Nat.le_trans Z0 E1.1)
  have K9 : Keep h0 h1 [] := (K0.ext E1)
  have f10 : Fld Z h1 b1 "java/lang/String" "value" "[B" .null := D1 (Or.inr (hw _ (List.mem_of_getElem? (i := 23) rfl))) (ty := (.array .byte)) (by decide)
  have f11 : Fld Z h1 b1 "java/lang/String" "coder" "B" (.int (0 : Int32)) := D1 (Or.inr (hw _ (List.mem_of_getElem? (i := 24) rfl))) (ty := .byte) (by decide)
  refine OFin.of (S' := T1.setTop (mkF m 7 #[.val (.int (0 : Int32)), .val (.int p1), .val (.int p2)] [(.ref b1)])) (fun t ht => st1 t ht) ?_
  refine OFin.of (S' := T1.setTop (mkF m 9 #[.val (.int (0 : Int32)), .val (.int p1), .val (.int p2)] [(.int (0 : Int32)), (.ref b1), (.ref b1)])) (fun t ht => ?_) ?_
  · refine XS.dup X1.here hx rfl (hb hby dSt0_7) rfl rfl ?_
    show Steps p.tables e below (T1.setTop (mkF m 8 _ [(.ref b1), (.ref b1)])) _
    refine XS.iconst X1.here hx rfl (hb hby dSt0_8) ?_
    exact ht
  obtain ⟨T12, h12, k12, X12, e12, E12, A12, st12⟩ := newP X1 hx hZ (hw _ (List.mem_of_getElem? (i := 10) rfl)) e1 (g := (mkF m 9 #[.val (.int (0 : Int32)), .val (.int p1), .val (.int p2)] [(.int (0 : Int32)), (.ref b1), (.ref b1)])) rfl (hb hby dSt0_9) rfl (by decide) (cap := 0) (by decide) (by decide) (by decide) (by decide)
  obtain ⟨b12, gq12⟩ : ∃ z, z = h1.size := ⟨_, rfl⟩
  rw [← gq12] at A12 st12
  have g13 : n0 ≤ b12 := (Nat.le_trans Z8 (Nat.le_of_eq gq12.symm))
  have sz14 : h0.size ≤ b12 := (Nat.le_trans K9.1 (Nat.le_of_eq gq12.symm))
  have ne15 : xs ≠ b12 := (Nat.ne_of_lt (Nat.lt_of_lt_of_le f7.lt (Nat.le_of_eq gq12.symm)))
  have ne16 : b1 ≠ b12 := (Nat.ne_of_lt (Nat.lt_of_lt_of_le A1.lt (Nat.le_of_eq gq12.symm)))
  have hA17 := CHr.ext E12 hR6.1
  have hR18 := hR6.trans hA17
  have f19 := f7.ext E12
  have f20 := A1.ext E12
  have f21 := f10.ext E12
  have f22 := f11.ext E12
  have Z23 : n0 ≤ h12.size := (Nat.le_trans Z8 E12.1)
  have K24 : Keep h0 h12 [] := (K9.ext E12)
  have f25 : Arv Z h12 b12 k12 .char (0 : Int32) [] (.int (0 : Int32)) := ((Arv.new A12 (by decide)).pad (pad_rep [] (.int (0 : Int32)) 0))
  refine OFin.of (S' := T12.setTop (mkF m 11 #[.val (.int (0 : Int32)), .val (.int p1), .val (.int p2)] [(.ref b12), (.ref b1), (.ref b1)])) (fun t ht => st12 t ht) ?_
  obtain ⟨_, _, ⟨T26, L26, k26, n26⟩, -, X26, Sq26, gr26, ⟨Lc26, hQ26, l26, y26, z26, CH26⟩, st26⟩ := X12.specialBackS hx (y := (⟨"java/lang/String", "<init>", "([C)V"⟩ : MethodName)) rfl hown (mvT hZ (hw _ (List.mem_of_getElem? (i := 11) rfl))) (mvT hZ (hw _ (List.mem_of_getElem? (i := 12) rfl))) (mvT hZ (hw _ (List.mem_of_getElem? (i := 13) rfl))) (by decide) (backOfSH (s := s) (vm0 := s.vm) (W := 1) (rmZ1 l Z _ hw [] b1 b12 k12 xs h12 n0 Z23 f20 f22 f21 f25 g2 (Ne.symm ne16) f19) hZ (hw _ (List.mem_of_getElem? (i := 13) rfl)) (hw _ (List.mem_of_getElem? (i := 9) rfl)) (by decide) (by decide) hEL hR18.1) (g := (mkF m 11 #[.val (.int (0 : Int32)), .val (.int p1), .val (.int p2)] [(.ref b12), (.ref b1), (.ref b1)])) rfl (by rw [hml]; rfl) (Steps.refl _) (a := b1) (argsL := [(.ref b12)]) (rest := [(.ref b1)]) (lenOf pd_1 rfl) rfl (by show 2 * 0 + _ ≤ _; exact Nat.le_of_eq rfl) (hb hby dSt0_11) (fun _ _ => ⟨rfl, e12, (by decide : 2 + 4 ≤ _), (by decide : 4 + 8 ≤ _)⟩)
  dsimp only [Pt.U, Pt.locs, Pt.cells, Pt.slots] at X26 l26 y26 z26 st26 hQ26 Sq26 gr26 CH26
  subst l26 y26 z26
  have hZ26 : Z.Warmed39 (s.setVm T26.vm).vm := State.Warmed39.trans (t := s.setVm s.vm) hZ Sq26.1
  have hown26 : (s.setVm T26.vm).vm.findClass "com/example/greylag/greylag/model/BundleEqualsPinLaw" = some m.cls := by rw [show (s.setVm T26.vm).vm = T26.vm from rfl, Sq26.1.alike.findClass]; exact hown
  have S26 : s.Since T26.vm T26.heap.size := State.Since.trans (s := s) (vm₁ := s.vm) ((State.WarmedH.refl s).since h12.size) Sq26 (Nat.le_trans (Nat.le_refl _) (by rw [← e12]; exact gr26))
  obtain ⟨rfl, Nq26, Kq26, t26, kb26, f26a, f26b, f26c, nt26⟩ := hQ26
  have N27 := Fr.app N0 Nq26
  have hA28 := CH26
  have hR29 := hR18.trans hA28
  have f30 := (f19.keep Kq26)
  have f31 := (f20.keep Kq26)
  have f32 := (f25.keep Kq26 (ninS (Ne.symm ne16) nin0))
  have Z33 : n0 ≤ T26.heap.size := (Nat.le_trans Z23 Kq26.1)
  have K34 : Keep h0 T26.heap [] := (K24.trans Kq26 (allS (Or.inr sz3) all0))
  refine OFin.to (S' := T26.setTop (mkF m 14 #[.val (.int (0 : Int32)), .val (.int p1), .val (.int p2)] [(.ref b1)])) st26 ?_
  have rH35 : CHr Z consts_1 s.vm s.heap T26.vm T26.heap := by rw [hh]; exact hR29.trans (CHv.at (s := s) (vm0 := T26.vm) X26 hZ26 hEL hR29.1)
  exact own_retAH (s := s) (vm₁ := T26.vm) X26 S26 (Nat.le_refl _) rH35 hx hlk (t := (.object "java/lang/String")) rfl rfl hret (hb hby dSt0_14) (by decide) (by decide) (by exact ⟨by rw [← gq1], N27, K34, by rw [← gq1]; exact f31, t26, kb26, by rw [← gq1]; exact f26a, by rw [← gq1]; exact f26b, f26c, nt26⟩)
theorem dCf1_0 : decode jdk_52_method_21_code 0 = .ok (.iconst 0, 1) := by decide +kernel
theorem dCf1_1 : decode jdk_52_method_21_code 1 = .ok (.istore 5, 2) := by decide +kernel
theorem dCf1_3 : decode jdk_52_method_21_code 3 = .ok (.iload 5, 2) := by decide +kernel
theorem dCf1_5 : decode jdk_52_method_21_code 5 = .ok (.iload 4, 2) := by decide +kernel
theorem dCf1_7 : decode jdk_52_method_21_code 7 = .ok (.if_icmp .ge 37, 3) := by decide +kernel
theorem dCf1_10 : decode jdk_52_method_21_code 10 = .ok (.aload_n 0, 1) := by decide +kernel
theorem dCf1_11 : decode jdk_52_method_21_code 11 = .ok (.iload_n 1, 1) := by decide +kernel
theorem dCf1_12 : decode jdk_52_method_21_code 12 = .ok (.caload, 1) := by decide +kernel
theorem dCf1_13 : decode jdk_52_method_21_code 13 = .ok (.istore 6, 2) := by decide +kernel
theorem dCf1_15 : decode jdk_52_method_21_code 15 = .ok (.iload 6, 2) := by decide +kernel
theorem dCf1_17 : decode jdk_52_method_21_code 17 = .ok (.sipush 255, 3) := by decide +kernel
theorem dCf1_20 : decode jdk_52_method_21_code 20 = .ok (.if_icmp .le 6, 3) := by decide +kernel
theorem dCf1_26 : decode jdk_52_method_21_code 26 = .ok (.aload_n 2, 1) := by decide +kernel
theorem dCf1_27 : decode jdk_52_method_21_code 27 = .ok (.iload_n 3, 1) := by decide +kernel
theorem dCf1_28 : decode jdk_52_method_21_code 28 = .ok (.iload 6, 2) := by decide +kernel
theorem dCf1_30 : decode jdk_52_method_21_code 30 = .ok (.i2b, 1) := by decide +kernel
theorem dCf1_31 : decode jdk_52_method_21_code 31 = .ok (.bastore, 1) := by decide +kernel
theorem dCf1_32 : decode jdk_52_method_21_code 32 = .ok (.iinc 1 1, 3) := by decide +kernel
theorem dCf1_35 : decode jdk_52_method_21_code 35 = .ok (.iinc 3 1, 3) := by decide +kernel
theorem dCf1_38 : decode jdk_52_method_21_code 38 = .ok (.iinc 5 1, 3) := by decide +kernel
theorem dCf1_41 : decode jdk_52_method_21_code 41 = .ok (.goto (-38), 3) := by decide +kernel
theorem dCf1_44 : decode jdk_52_method_21_code 44 = .ok (.iload 4, 2) := by decide +kernel
theorem dCf1_46 : decode jdk_52_method_21_code 46 = .ok (.ireturn, 1) := by decide +kernel
theorem pnCf1 : plainName "java/lang/StringUTF16" = true := by first | (simp [plainName, overriddenIn]; done) | decide +kernel
theorem efCf1 (m : MethodId) (a0 : Addr) (a2 : Addr) : entryFrame m #[(.ref a0), (.int (0 : Int32)), (.ref a2), (.int (0 : Int32)), (.int (1 : Int32))] 7 = mkF m 0 #[.val (.ref a0), .val (.int (0 : Int32)), .val (.ref a2), .val (.int (0 : Int32)), .val (.int (1 : Int32)), .unset, .unset] [] := by first | (simp [entryFrame, mkF, argsToLocals, Value.category]; done) | rfl
def QCf1 (Z : State) (a0 : Addr) (a2 : Addr) (kc : ClassId) (kb : ClassId) (c0 : Int32) (h0 : Heap) (n0 : Nat) (v : Option Value) (h : Heap) (L : List Loc) : Prop := v = some (.int (1 : Int32)) ∧ Fr n0 L ∧ Keep h0 h [a2] ∧ Arv Z h a2 kb .byte (1 : Int32) [(.int ((c0.toInt8.toInt32).toInt8.toInt32))] (.int (0 : Int32))
set_option maxRecDepth 65536 in
set_option maxHeartbeats 40000000 in
theorem rmCf1 (l : Launch) (Z : State) (a0 : Array Value) (hw : ∀ d ∈ tables_1, d.before a0 Z = true) (ws : List Jvm.Cond) (a0 : Addr) (a2 : Addr) (kc : ClassId) (kb : ClassId) (c0 : Int32) (h0 : Heap) (n0 : Nat) (Z0 : n0 ≤ h0.size) (V1 : Arv Z h0 a0 kc .char (1 : Int32) [(.int c0)] (.int (0 : Int32))) (V2 : Arv Z h0 a2 kb .byte (1 : Int32) [(.int (0 : Int32))] (.int (0 : Int32))) (g2 : n0 ≤ a2) (hne : a0 ≠ a2) (hp0 : ¬ (255 : Int32) < c0) :
    MetFree l (⟨"java/lang/StringUTF16", "compress", "([CI[BII)I"⟩ : MethodName) (head1 (Jvm.Cond.code (⟨"java/lang/StringUTF16", "compress", "([CI[BII)I"⟩ : MethodName) jdk_52_method_21_code 7 (some .int) :: ws) ({ frames := 0, cells := 0, slots := 0, locals := 0 } : Room)) (fun a U => a = #[(.ref a0), (.int (0 : Int32)), (.ref a2), (.int (0 : Int32)), (.int (1 : Int32))] ∧ Z.Warmed39 U.vm ∧ U.heap = h0) (fun _ _ _ _ _ => True) (fun _ U o U' => ∃ v L, o = .returned v ∧ QCf1 Z a0 a2 kc kb c0 h0 n0 v U'.heap L ∧ FrameEnd U o U' L ({ frames := 0, cells := 0, slots := 0, locals := 0 } : Room).cells ({ frames := 0, cells := 0, slots := 0, locals := 0 } : Room).slots) := by
  refine MetFree.of_bodySF (plainFor_of_name pnCf1) hisR ?_
  intro p e s m args below meth c s₁ Bd hml0 hP hK
  obtain ⟨rfl, hZ, hh⟩ := hP
  have hx := Bd.exec
  have hby := Bd.bytes
  have hlk := BodyLoose.notSynchronized Bd
  have hret := Bd.returns
  have hml : c.maxLocals = 7 := hml0
  have hown : s.vm.findClass "java/lang/StringUTF16" = some m.cls := findClass_of_methodNamed Bd.named
  have hnm := (name_of_methodNamed Bd.named Bd.method).1
  have X0 : Stand p l e ({ frames := 0, cells := 0, slots := 0, locals := 0 } : Room) s m #[(.ref a0), (.int (0 : Int32)), (.ref a2), (.int (0 : Int32)), (.int (1 : Int32))] below meth c s₁ [] 0 0 := Stand.of_body Bd
  have e0 : s₁.heap = h0 := by rw [← hh, Bd.state]; rfl
  have N0 := Fr.nil n0
  show OFin p e below (KPost s (QCf1 Z a0 a2 kc kb c0 h0 n0) ({ frames := 0, cells := 0, slots := 0, locals := 0 } : Room).cells ({ frames := 0, cells := 0, slots := 0, locals := 0 } : Room).slots) _
  rw [efCf1 m a0 a2]
  have K0 : Keep h0 h0 [a2] := Keep.refl _ _
  refine OFin.of (S' := s₁.setTop (mkF m 12 #[.val (.ref a0), .val (.int (0 : Int32)), .val (.ref a2), .val (.int (0 : Int32)), .val (.int (1 : Int32)), .val (.int (0 : Int32)), .unset] [(.int (0 : Int32)), (.ref a0)])) (fun t ht => ?_) ?_
  · refine XS.iconst X0.here hx rfl (hb hby dCf1_0) ?_
    show Steps p.tables e below (s₁.setTop (mkF m 1 _ [(.int (0 : Int32))])) _
    refine XS.istore X0.here hx rfl (hb hby dCf1_1) rfl (l' := #[.val (.ref a0), .val (.int (0 : Int32)), .val (.ref a2), .val (.int (0 : Int32)), .val (.int (1 : Int32)), .val (.int (0 : Int32)), .unset]) rfl ?_
    show Steps p.tables e below (s₁.setTop (mkF m 3 #[.val (.ref a0), .val (.int (0 : Int32)), .val (.ref a2), .val (.int (0 : Int32)), .val (.int (1 : Int32)), .val (.int (0 : Int32)), .unset] [])) _
    refine XS.iload X0.here hx rfl (hb hby dCf1_3) rfl ?_
    show Steps p.tables e below (s₁.setTop (mkF m 5 _ [(.int (0 : Int32))])) _
    refine XS.iload X0.here hx rfl (hb hby dCf1_5) rfl ?_
    show Steps p.tables e below (s₁.setTop (mkF m 7 _ [(.int (1 : Int32)), (.int (0 : Int32))])) _
    refine XS.icmpNo X0.here hx rfl (hb hby dCf1_7) rfl (tlt (by decide : (0 : Int32) < (1 : Int32))).2.1 ?_
    show Steps p.tables e below (s₁.setTop (mkF m 10 _ [])) _
    refine XS.aloadN X0.here hx rfl (hb hby dCf1_10) rfl rfl ?_
    show Steps p.tables e below (s₁.setTop (mkF m 11 _ [(.ref a0)])) _
    refine XS.iloadN X0.here hx rfl (hb hby dCf1_11) rfl ?_
    exact ht
  obtain ⟨cl1, Ar1, q1, S1, Ng1, H1, G1⟩ := id V1
  have hin1 := inb_of (j := (0 : Int32)) S1 ⟨by decide, by decide⟩
  have hat1 : cl1.slots[((0 : Int32)).toNatClampNeg]? = some (.int c0) := Has.at H1 hin1 rfl
  refine OFin.of (S' := s₁.setTop (mkF m 13 #[.val (.ref a0), .val (.int (0 : Int32)), .val (.ref a2), .val (.int (0 : Int32)), .val (.int (1 : Int32)), .val (.int (0 : Int32)), .unset] [(.int c0)])) (fun t ht => X0.caload hx (j := (0 : Int32)) (v := (.int c0)) (by rw [e0]; exact Ar1.1) (State.isArrayOf_alike hZ.alike Ar1.2.1) Ar1.2.2 hin1 hat1 (g := (mkF m 12 #[.val (.ref a0), .val (.int (0 : Int32)), .val (.ref a2), .val (.int (0 : Int32)), .val (.int (1 : Int32)), .val (.int (0 : Int32)), .unset] [(.int (0 : Int32)), (.ref a0)])) rfl rfl (hb hby dCf1_12) _ ht) ?_
  refine OFin.of (S' := s₁.setTop (mkF m 31 #[.val (.ref a0), .val (.int (0 : Int32)), .val (.ref a2), .val (.int (0 : Int32)), .val (.int (1 : Int32)), .val (.int (0 : Int32)), .val (.int c0)] [(.int (c0.toInt8.toInt32)), (.int (0 : Int32)), (.ref a2)])) (fun t ht => ?_) ?_
  · refine XS.istore X0.here hx rfl (hb hby dCf1_13) rfl (l' := #[.val (.ref a0), .val (.int (0 : Int32)), .val (.ref a2), .val (.int (0 : Int32)), .val (.int (1 : Int32)), .val (.int (0 : Int32)), .val (.int c0)]) rfl ?_
    show Steps p.tables e below (s₁.setTop (mkF m 15 #[.val (.ref a0), .val (.int (0 : Int32)), .val (.ref a2), .val (.int (0 : Int32)), .val (.int (1 : Int32)), .val (.int (0 : Int32)), .val (.int c0)] [])) _
    refine XS.iload X0.here hx rfl (hb hby dCf1_15) rfl ?_
    show Steps p.tables e below (s₁.setTop (mkF m 17 _ [(.int c0)])) _
    refine XS.sipush X0.here hx rfl (hb hby dCf1_17) ?_
    show Steps p.tables e below (s₁.setTop (mkF m 20 _ [(.int (255 : Int32)), (.int c0)])) _
    refine XS.icmpYes X0.here hx rfl (pc0 := 20) (pc' := 26) rfl (hb hby dCf1_20) rfl (flt (hp0 : ¬ ((255 : Int32) < c0))).2.2.2 (by decide) (by decide) ?_
    show Steps p.tables e below (s₁.setTop (mkF m 26 _ [])) _
    refine XS.aloadN X0.here hx rfl (hb hby dCf1_26) rfl rfl ?_
    show Steps p.tables e below (s₁.setTop (mkF m 27 _ [(.ref a2)])) _
    refine XS.iloadN X0.here hx rfl (hb hby dCf1_27) rfl ?_
    show Steps p.tables e below (s₁.setTop (mkF m 28 _ [(.int (0 : Int32)), (.ref a2)])) _
    refine XS.iload X0.here hx rfl (hb hby dCf1_28) rfl ?_
    show Steps p.tables e below (s₁.setTop (mkF m 30 _ [(.int c0), (.int (0 : Int32)), (.ref a2)])) _
    refine XS.i2b X0.here hx rfl (hb hby dCf1_30) rfl ?_
    exact ht
  obtain ⟨cl2, Ar2, q2, S2, Ng2, H2, G2⟩ := id V2
  have hin2 := inb_of (j := (0 : Int32)) S2 ⟨by decide, by decide⟩
  obtain ⟨T2, h2, X2, e2, W2, st2⟩ := stB X0 hx hZ e0 Ar2 (j := (0 : Int32)) hin2 (g := (mkF m 31 #[.val (.ref a0), .val (.int (0 : Int32)), .val (.ref a2), .val (.int (0 : Int32)), .val (.int (1 : Int32)), .val (.int (0 : Int32)), .val (.int c0)] [(.int (c0.toInt8.toInt32)), (.int (0 : Int32)), (.ref a2)])) rfl rfl (hb hby dCf1_31)
  have f3 := (V1.other W2 hne)
  have Z4 : n0 ≤ h2.size := (Nat.le_trans Z0 (Keep.of_wr W2).1)
  have K5 : Keep h0 h2 [a2] := (K0.wr W2 (Or.inl (List.mem_of_getElem? (i := 0) rfl)))
  have N6 := Fr.snoc X2 N0 g2
  have f7 : Arv Z h2 a2 kb .byte (1 : Int32) [(.int ((c0.toInt8.toInt32).toInt8.toInt32))] (.int (0 : Int32)) := Arv.set Ar2 q2 S2 Ng2 H2 G2 (fits_nar_byte _) W2 0 rfl (Nat.le_of_ble_eq_true rfl)
  refine OFin.of (S' := T2.setTop (mkF m 32 #[.val (.ref a0), .val (.int (0 : Int32)), .val (.ref a2), .val (.int (0 : Int32)), .val (.int (1 : Int32)), .val (.int (0 : Int32)), .val (.int c0)] [])) (fun t ht => st2 t ht) ?_
  refine OFin.of (S' := T2.setTop (mkF m 46 #[.val (.ref a0), .val (.int (1 : Int32)), .val (.ref a2), .val (.int (1 : Int32)), .val (.int (1 : Int32)), .val (.int (1 : Int32)), .val (.int c0)] [(.int (1 : Int32))])) (fun t ht => ?_) ?_
  · refine XS.iinc X2.here hx rfl (hb hby dCf1_32) rfl (l' := #[.val (.ref a0), .val (.int (1 : Int32)), .val (.ref a2), .val (.int (0 : Int32)), .val (.int (1 : Int32)), .val (.int (0 : Int32)), .val (.int c0)]) rfl ?_
    show Steps p.tables e below (T2.setTop (mkF m 35 #[.val (.ref a0), .val (.int (1 : Int32)), .val (.ref a2), .val (.int (0 : Int32)), .val (.int (1 : Int32)), .val (.int (0 : Int32)), .val (.int c0)] [])) _
    refine XS.iinc X2.here hx rfl (hb hby dCf1_35) rfl (l' := #[.val (.ref a0), .val (.int (1 : Int32)), .val (.ref a2), .val (.int (1 : Int32)), .val (.int (1 : Int32)), .val (.int (0 : Int32)), .val (.int c0)]) rfl ?_
    show Steps p.tables e below (T2.setTop (mkF m 38 #[.val (.ref a0), .val (.int (1 : Int32)), .val (.ref a2), .val (.int (1 : Int32)), .val (.int (1 : Int32)), .val (.int (0 : Int32)), .val (.int c0)] [])) _
    refine XS.iinc X2.here hx rfl (hb hby dCf1_38) rfl (l' := #[.val (.ref a0), .val (.int (1 : Int32)), .val (.ref a2), .val (.int (1 : Int32)), .val (.int (1 : Int32)), .val (.int (1 : Int32)), .val (.int c0)]) rfl ?_
    show Steps p.tables e below (T2.setTop (mkF m 41 #[.val (.ref a0), .val (.int (1 : Int32)), .val (.ref a2), .val (.int (1 : Int32)), .val (.int (1 : Int32)), .val (.int (1 : Int32)), .val (.int c0)] [])) _
    refine XS.goto X2.here hx rfl (pc0 := 41) (pc' := 3) rfl (hb hby dCf1_41) (by decide) (by decide) ?_
    show Steps p.tables e below (T2.setTop (mkF m 3 _ [])) _
    refine XS.iload X2.here hx rfl (hb hby dCf1_3) rfl ?_
    show Steps p.tables e below (T2.setTop (mkF m 5 _ [(.int (1 : Int32))])) _
    refine XS.iload X2.here hx rfl (hb hby dCf1_5) rfl ?_
    show Steps p.tables e below (T2.setTop (mkF m 7 _ [(.int (1 : Int32)), (.int (1 : Int32))])) _
    refine XS.icmpYes X2.here hx rfl (pc0 := 7) (pc' := 44) rfl (hb hby dCf1_7) rfl (flt (by decide : ¬ ((1 : Int32) < (1 : Int32)))).2.1 (by decide) (by decide) ?_
    show Steps p.tables e below (T2.setTop (mkF m 44 _ [])) _
    refine XS.iload X2.here hx rfl (hb hby dCf1_44) rfl ?_
    exact ht
  exact OFin.retI X2 hx hlk hret (hb hby dCf1_46) (by decide) (by decide) (by rw [e2]; exact ⟨rfl, N6, K5, f7⟩)
theorem dCt1_0 : decode jdk_52_method_16_code 0 = .ok (.iload_n 2, 1) := by decide +kernel
theorem dCt1_1 : decode jdk_52_method_16_code 1 = .ok (.newarray .byte, 2) := by decide +kernel
theorem dCt1_3 : decode jdk_52_method_16_code 3 = .ok (.astore_n 3, 1) := by decide +kernel
theorem dCt1_4 : decode jdk_52_method_16_code 4 = .ok (.aload_n 0, 1) := by decide +kernel
theorem dCt1_5 : decode jdk_52_method_16_code 5 = .ok (.iload_n 1, 1) := by decide +kernel
theorem dCt1_6 : decode jdk_52_method_16_code 6 = .ok (.aload_n 3, 1) := by decide +kernel
theorem dCt1_7 : decode jdk_52_method_16_code 7 = .ok (.iconst 0, 1) := by decide +kernel
theorem dCt1_8 : decode jdk_52_method_16_code 8 = .ok (.iload_n 2, 1) := by decide +kernel
theorem dCt1_9 : decode jdk_52_method_16_code 9 = .ok (.invokestatic 115, 3) := by decide +kernel
theorem dCt1_12 : decode jdk_52_method_16_code 12 = .ok (.istore 4, 2) := by decide +kernel
theorem dCt1_14 : decode jdk_52_method_16_code 14 = .ok (.iload 4, 2) := by decide +kernel
theorem dCt1_16 : decode jdk_52_method_16_code 16 = .ok (.iload_n 2, 1) := by decide +kernel
theorem dCt1_17 : decode jdk_52_method_16_code 17 = .ok (.if_icmp .eq 40, 3) := by decide +kernel
theorem dCt1_57 : decode jdk_52_method_16_code 57 = .ok (.aload_n 3, 1) := by decide +kernel
theorem dCt1_58 : decode jdk_52_method_16_code 58 = .ok (.areturn, 1) := by decide +kernel
theorem pnCt1 : plainName "java/lang/StringUTF16" = true := by first | (simp [plainName, overriddenIn]; done) | decide +kernel
theorem efCt1 (m : MethodId) (a0 : Addr) : entryFrame m #[(.ref a0), (.int (0 : Int32)), (.int (1 : Int32))] 6 = mkF m 0 #[.val (.ref a0), .val (.int (0 : Int32)), .val (.int (1 : Int32)), .unset, .unset, .unset] [] := by first | (simp [entryFrame, mkF, argsToLocals, Value.category]; done) | rfl
def QCt1 (Z : State) (a0 : Addr) (kc : ClassId) (c0 : Int32) (h0 : Heap) (n0 : Nat) (v : Option Value) (h : Heap) (L : List Loc) : Prop := v = some (.ref h0.size) ∧ Fr n0 L ∧ Keep h0 h [] ∧ ∃ kb, Arv Z h h0.size kb .byte (1 : Int32) [(.int ((c0.toInt8.toInt32).toInt8.toInt32))] (.int (0 : Int32))
set_option maxRecDepth 65536 in
set_option maxHeartbeats 40000000 in
theorem rmCt1 (l : Launch) (Z : State) (a0 : Array Value) (hw : ∀ d ∈ tables_1, d.before a0 Z = true) (ws : List Jvm.Cond) (a0 : Addr) (kc : ClassId) (c0 : Int32) (h0 : Heap) (n0 : Nat) (Z0 : n0 ≤ h0.size) (V1 : Arv Z h0 a0 kc .char (1 : Int32) [(.int c0)] (.int (0 : Int32))) (hp0 : ¬ (255 : Int32) < c0) :
    MetFree l (⟨"java/lang/StringUTF16", "compress", "([CII)[B"⟩ : MethodName) (head1 (Jvm.Cond.code (⟨"java/lang/StringUTF16", "compress", "([CII)[B"⟩ : MethodName) jdk_52_method_16_code 6 (some (.array .byte)) :: ws) ({ frames := 1, cells := 1, slots := 1, locals := 18 } : Room)) (fun a U => a = #[(.ref a0), (.int (0 : Int32)), (.int (1 : Int32))] ∧ Z.Warmed39 U.vm ∧ U.heap = h0) (fun _ _ _ _ _ => True) (fun _ U o U' => ∃ v L, o = .returned v ∧ QCt1 Z a0 kc c0 h0 n0 v U'.heap L ∧ FrameEnd U o U' L ({ frames := 1, cells := 1, slots := 1, locals := 18 } : Room).cells ({ frames := 1, cells := 1, slots := 1, locals := 18 } : Room).slots) := by
  refine MetFree.of_bodySF (plainFor_of_name pnCt1) hisR ?_
  intro p e s m args below meth c s₁ Bd hml0 hP hK
  obtain ⟨rfl, hZ, hh⟩ := hP
  have hx := Bd.exec
  have hby := Bd.bytes
  have hlk := BodyLoose.notSynchronized Bd
  have hret := Bd.returns
  have hml : c.maxLocals = 6 := hml0
  have hown : s.vm.findClass "java/lang/StringUTF16" = some m.cls := findClass_of_methodNamed Bd.named
  have hnm := (name_of_methodNamed Bd.named Bd.method).1
  have X0 : Stand p l e ({ frames := 1, cells := 1, slots := 1, locals := 18 } : Room) s m #[(.ref a0), (.int (0 : Int32)), (.int (1 : Int32))] below meth c s₁ [] 0 0 := Stand.of_body Bd
  have e0 : s₁.heap = h0 := by rw [← hh, Bd.state]; rfl
  have N0 := Fr.nil n0
  show OFin p e below (KPost s (QCt1 Z a0 kc c0 h0 n0) ({ frames := 1, cells := 1, slots := 1, locals := 18 } : Room).cells ({ frames := 1, cells := 1, slots := 1, locals := 18 } : Room).slots) _
  rw [efCt1 m a0]
  have K0 : Keep h0 h0 [] := Keep.refl _ _
  refine OFin.of (S' := s₁.setTop (mkF m 1 #[.val (.ref a0), .val (.int (0 : Int32)), .val (.int (1 : Int32)), .unset, .unset, .unset] [(.int (1 : Int32))])) (fun t ht => ?_) ?_
  · refine XS.iloadN X0.here hx rfl (hb hby dCt1_0) rfl ?_
    exact ht
  obtain ⟨T1, h1, k1, X1, e1, E1, A1, st1⟩ := newP X0 hx hZ (hw _ (List.mem_of_getElem? (i := 22) rfl)) e0 (g := (mkF m 1 #[.val (.ref a0), .val (.int (0 : Int32)), .val (.int (1 : Int32)), .unset, .unset, .unset] [(.int (1 : Int32))])) rfl (hb hby dCt1_1) rfl (by decide) (cap := 1) (by decide) (by decide) (by decide) (by decide)
  obtain ⟨b1, gq1⟩ : ∃ z, z = h0.size := ⟨_, rfl⟩
  rw [← gq1] at A1 st1
  have g2 : n0 ≤ b1 := (Nat.le_trans Z0 (Nat.le_of_eq gq1.symm))
  have sz3 : h0.size ≤ b1 := (Nat.le_trans K0.1 (Nat.le_of_eq gq1.symm))
  have ne4 : a0 ≠ b1 := (Nat.ne_of_lt (Nat.lt_of_lt_of_le V1.lt (Nat.le_of_eq gq1.symm)))
  have f5 := V1.ext E1
  have Z6 : n0 ≤ h1.size := (Nat.le_trans Z0 E1.1)
  have K7 : Keep h0 h1 [] := (K0.ext E1)
  have f8 : Arv Z h1 b1 k1 .byte (1 : Int32) [(.int (0 : Int32))] (.int (0 : Int32)) := ((Arv.new A1 (by decide)).pad (pad_rep [] (.int (0 : Int32)) 1))
  refine OFin.of (S' := T1.setTop (mkF m 3 #[.val (.ref a0), .val (.int (0 : Int32)), .val (.int (1 : Int32)), .unset, .unset, .unset] [(.ref b1)])) (fun t ht => st1 t ht) ?_
  refine OFin.of (S' := T1.setTop (mkF m 9 #[.val (.ref a0), .val (.int (0 : Int32)), .val (.int (1 : Int32)), .val (.ref b1), .unset, .unset] [(.int (1 : Int32)), (.int (0 : Int32)), (.ref b1), (.int (0 : Int32)), (.ref a0)])) (fun t ht => ?_) ?_
  · refine XS.astoreN X1.here hx rfl (hb hby dCt1_3) rfl rfl (l' := #[.val (.ref a0), .val (.int (0 : Int32)), .val (.int (1 : Int32)), .val (.ref b1), .unset, .unset]) rfl ?_
    show Steps p.tables e below (T1.setTop (mkF m 4 #[.val (.ref a0), .val (.int (0 : Int32)), .val (.int (1 : Int32)), .val (.ref b1), .unset, .unset] [])) _
    refine XS.aloadN X1.here hx rfl (hb hby dCt1_4) rfl rfl ?_
    show Steps p.tables e below (T1.setTop (mkF m 5 _ [(.ref a0)])) _
    refine XS.iloadN X1.here hx rfl (hb hby dCt1_5) rfl ?_
    show Steps p.tables e below (T1.setTop (mkF m 6 _ [(.int (0 : Int32)), (.ref a0)])) _
    refine XS.aloadN X1.here hx rfl (hb hby dCt1_6) rfl rfl ?_
    show Steps p.tables e below (T1.setTop (mkF m 7 _ [(.ref b1), (.int (0 : Int32)), (.ref a0)])) _
    refine XS.iconst X1.here hx rfl (hb hby dCt1_7) ?_
    show Steps p.tables e below (T1.setTop (mkF m 8 _ [(.int (0 : Int32)), (.ref b1), (.int (0 : Int32)), (.ref a0)])) _
    refine XS.iloadN X1.here hx rfl (hb hby dCt1_8) rfl ?_
    exact ht
  obtain ⟨_, _, ⟨T9, L9, k9, n9⟩, -, X9, ⟨Lc9, hQ9, l9, y9, z9⟩, st9⟩ := Jvm.LawKit.callS X1 hx (y := (⟨"java/lang/StringUTF16", "compress", "([CI[BII)I"⟩ : MethodName)) hown (mvT hZ (hw _ (List.mem_of_getElem? (i := 84) rfl))) (mvT hZ (hw _ (List.mem_of_getElem? (i := 85) rfl))) (mvT hZ (hw _ (List.mem_of_getElem? (i := 82) rfl))) (mvT hZ (hw _ (List.mem_of_getElem? (i := 86) rfl))) (by decide) (backOf (W := 0) (rmCf1 l Z _ hw [] a0 b1 kc k1 c0 h1 n0 Z6 f5 f8 g2 ne4 hp0) hZ (hw _ (List.mem_of_getElem? (i := 86) rfl)) (hw _ (List.mem_of_getElem? (i := 82) rfl)) (by decide) (by decide)) (g := (mkF m 9 #[.val (.ref a0), .val (.int (0 : Int32)), .val (.int (1 : Int32)), .val (.ref b1), .unset, .unset] [(.int (1 : Int32)), (.int (0 : Int32)), (.ref b1), (.int (0 : Int32)), (.ref a0)])) rfl (by rw [hml]; rfl) (argsL := [(.ref a0), (.int (0 : Int32)), (.ref b1), (.int (0 : Int32)), (.int (1 : Int32))]) (rest := []) (lenOf pd_2 rfl) rfl (by show 2 * 0 + _ ≤ _; exact Nat.le_of_eq rfl) (hb hby dCt1_9) (fun _ _ => ⟨rfl, e1, (by decide : 1 + 0 ≤ _), (by decide : 1 + 0 ≤ _)⟩)
  dsimp only [Pt.U, Pt.locs, Pt.cells, Pt.slots] at X9 l9 y9 z9 st9 hQ9
  subst l9 y9 z9
  obtain ⟨rfl, Nq9, Kq9, f10⟩ := hQ9
  have N11 := Fr.app N0 Nq9
  have f12 := (f5.keep Kq9 (ninS ne4 nin0))
  have Z13 : n0 ≤ T9.heap.size := (Nat.le_trans Z6 Kq9.1)
  have K14 : Keep h0 T9.heap [] := (K7.trans Kq9 (allS (Or.inr sz3) all0))
  refine OFin.of (S' := T9.setTop (mkF m 12 #[.val (.ref a0), .val (.int (0 : Int32)), .val (.int (1 : Int32)), .val (.ref b1), .unset, .unset] [(.int (1 : Int32))])) (fun t ht => st9 t ht) ?_
  refine OFin.of (S' := T9.setTop (mkF m 58 #[.val (.ref a0), .val (.int (0 : Int32)), .val (.int (1 : Int32)), .val (.ref b1), .val (.int (1 : Int32)), .unset] [(.ref b1)])) (fun t ht => ?_) ?_
  · refine XS.istore X9.here hx rfl (hb hby dCt1_12) rfl (l' := #[.val (.ref a0), .val (.int (0 : Int32)), .val (.int (1 : Int32)), .val (.ref b1), .val (.int (1 : Int32)), .unset]) rfl ?_
    show Steps p.tables e below (T9.setTop (mkF m 14 #[.val (.ref a0), .val (.int (0 : Int32)), .val (.int (1 : Int32)), .val (.ref b1), .val (.int (1 : Int32)), .unset] [])) _
    refine XS.iload X9.here hx rfl (hb hby dCt1_14) rfl ?_
    show Steps p.tables e below (T9.setTop (mkF m 16 _ [(.int (1 : Int32))])) _
    refine XS.iloadN X9.here hx rfl (hb hby dCt1_16) rfl ?_
    show Steps p.tables e below (T9.setTop (mkF m 17 _ [(.int (1 : Int32)), (.int (1 : Int32))])) _
    refine XS.icmpYes X9.here hx rfl (pc0 := 17) (pc' := 57) rfl (hb hby dCt1_17) rfl (teq (by decide : (1 : Int32) = (1 : Int32))).1 (by decide) (by decide) ?_
    show Steps p.tables e below (T9.setTop (mkF m 57 _ [])) _
    refine XS.aloadN X9.here hx rfl (hb hby dCt1_57) rfl rfl ?_
    exact ht
  exact OFin.retA X9 hx hlk (t := (.array .byte)) rfl rfl hret (hb hby dCt1_58) (by decide) (by decide) (by exact ⟨by rw [← gq1], N11, K14, k1, by rw [← gq1]; exact f10⟩)
theorem dCd1_0 : decode jdk_52_method_15_code 0 = .ok (.iload_n 1, 1) := by decide +kernel
theorem dCd1_1 : decode jdk_52_method_15_code 1 = .ok (.aload_n 0, 1) := by decide +kernel
theorem dCd1_2 : decode jdk_52_method_15_code 2 = .ok (.arraylength, 1) := by decide +kernel
theorem dCd1_3 : decode jdk_52_method_15_code 3 = .ok (.isub, 1) := by decide +kernel
theorem dCd1_4 : decode jdk_52_method_15_code 4 = .ok (.bipush 31, 2) := by decide +kernel
theorem dCd1_6 : decode jdk_52_method_15_code 6 = .ok (.iushr, 1) := by decide +kernel
theorem dCd1_7 : decode jdk_52_method_15_code 7 = .ok (.i2b, 1) := by decide +kernel
theorem dCd1_8 : decode jdk_52_method_15_code 8 = .ok (.ireturn, 1) := by decide +kernel
theorem pnCd1 : plainName "java/lang/StringUTF16" = true := by first | (simp [plainName, overriddenIn]; done) | decide +kernel
theorem efCd1 (m : MethodId) (a0 : Addr) : entryFrame m #[(.ref a0), (.int (1 : Int32))] 2 = mkF m 0 #[.val (.ref a0), .val (.int (1 : Int32))] [] := by first | (simp [entryFrame, mkF, argsToLocals, Value.category]; done) | rfl
def QCd1 (Z : State) (a0 : Addr) (k : ClassId) (x0 : Int32) (h0 : Heap) (n0 : Nat) (v : Option Value) (h : Heap) (L : List Loc) : Prop := v = some (.int (0 : Int32)) ∧ Fr n0 L ∧ h = h0
set_option maxRecDepth 65536 in
set_option maxHeartbeats 40000000 in
theorem rmCd1 (l : Launch) (Z : State) (a0 : Array Value) (hw : ∀ d ∈ tables_1, d.before a0 Z = true) (ws : List Jvm.Cond) (a0 : Addr) (k : ClassId) (x0 : Int32) (h0 : Heap) (n0 : Nat) (Z0 : n0 ≤ h0.size) (V1 : Arv Z h0 a0 k .byte (1 : Int32) [(.int x0)] (.int (0 : Int32))) :
    MetFree l (⟨"java/lang/StringUTF16", "coderFromArrayLen", "([BI)B"⟩ : MethodName) (head1 (Jvm.Cond.code (⟨"java/lang/StringUTF16", "coderFromArrayLen", "([BI)B"⟩ : MethodName) jdk_52_method_15_code 2 (some .byte) :: ws) ({ frames := 0, cells := 0, slots := 0, locals := 0 } : Room)) (fun a U => a = #[(.ref a0), (.int (1 : Int32))] ∧ Z.Warmed39 U.vm ∧ U.heap = h0) (fun _ _ _ _ _ => True) (fun _ U o U' => ∃ v L, o = .returned v ∧ QCd1 Z a0 k x0 h0 n0 v U'.heap L ∧ FrameEnd U o U' L ({ frames := 0, cells := 0, slots := 0, locals := 0 } : Room).cells ({ frames := 0, cells := 0, slots := 0, locals := 0 } : Room).slots) := by
  refine MetFree.of_bodySF (plainFor_of_name pnCd1) hisR ?_
  intro p e s m args below meth c s₁ Bd hml0 hP hK
  obtain ⟨rfl, hZ, hh⟩ := hP
  have hx := Bd.exec
  have hby := Bd.bytes
  have hlk := BodyLoose.notSynchronized Bd
  have hret := Bd.returns
  have hml : c.maxLocals = 2 := hml0
  have hown : s.vm.findClass "java/lang/StringUTF16" = some m.cls := findClass_of_methodNamed Bd.named
  have hnm := (name_of_methodNamed Bd.named Bd.method).1
  have X0 : Stand p l e ({ frames := 0, cells := 0, slots := 0, locals := 0 } : Room) s m #[(.ref a0), (.int (1 : Int32))] below meth c s₁ [] 0 0 := Stand.of_body Bd
  have e0 : s₁.heap = h0 := by rw [← hh, Bd.state]; rfl
  have N0 := Fr.nil n0
  show OFin p e below (KPost s (QCd1 Z a0 k x0 h0 n0) ({ frames := 0, cells := 0, slots := 0, locals := 0 } : Room).cells ({ frames := 0, cells := 0, slots := 0, locals := 0 } : Room).slots) _
  rw [efCd1 m a0]
  refine OFin.of (S' := s₁.setTop (mkF m 2 #[.val (.ref a0), .val (.int (1 : Int32))] [(.ref a0), (.int (1 : Int32))])) (fun t ht => ?_) ?_
  · refine XS.iloadN X0.here hx rfl (hb hby dCd1_0) rfl ?_
    show Steps p.tables e below (s₁.setTop (mkF m 1 _ [(.int (1 : Int32))])) _
    refine XS.aloadN X0.here hx rfl (hb hby dCd1_1) rfl rfl ?_
    exact ht
  obtain ⟨cl1, Ar1, q1, S1, Ng1, H1, G1⟩ := id V1
  refine OFin.of (S' := s₁.setTop (mkF m 3 #[.val (.ref a0), .val (.int (1 : Int32))] [(.int (1 : Int32)), (.int (1 : Int32))])) (fun t ht => own_alen X0 hx hZ e0 Ar1 S1 Ng1 (g := (mkF m 2 #[.val (.ref a0), .val (.int (1 : Int32))] [(.ref a0), (.int (1 : Int32))])) rfl rfl (hb hby dCd1_2) ht) ?_
  refine OFin.of (S' := s₁.setTop (mkF m 8 #[.val (.ref a0), .val (.int (1 : Int32))] [(.int ((((0 : Int32).toUInt32 >>> ((31 : Int32) &&& 31).toUInt32).toInt32).toInt8.toInt32))])) (fun t ht => ?_) ?_
  · refine XS.isub X0.here hx rfl (hb hby dCd1_3) rfl ?_
    show Steps p.tables e below (s₁.setTop (mkF m 4 _ [(.int (0 : Int32))])) _
    refine XS.bipush X0.here hx rfl (hb hby dCd1_4) ?_
    show Steps p.tables e below (s₁.setTop (mkF m 6 _ [(.int (31 : Int32)), (.int (0 : Int32))])) _
    refine XS.iushr X0.here hx rfl (hb hby dCd1_6) rfl ?_
    show Steps p.tables e below (s₁.setTop (mkF m 7 _ [(.int (((0 : Int32).toUInt32 >>> ((31 : Int32) &&& 31).toUInt32).toInt32))])) _
    refine XS.i2b X0.here hx rfl (hb hby dCd1_7) rfl ?_
    exact ht
  exact OFin.retB X0 hx hlk (t := .byte) (by simp) hret (hb hby dCd1_8) (by decide) (by decide) (by rw [e0]; exact ⟨(by show some (Value.int (nar .byte ((((0 : Int32).toUInt32 >>> ((31 : Int32) &&& 31).toUInt32).toInt32).toInt8.toInt32))) = _; rfl), N0, rfl⟩)
theorem dSf1_0 : decode jdk_42_method_149_code 0 = .ok (.aload_n 0, 1) := by decide +kernel
theorem dSf1_1 : decode jdk_42_method_149_code 1 = .ok (.invokespecial 1, 3) := by decide +kernel
theorem dSf1_4 : decode jdk_42_method_149_code 4 = .ok (.iload_n 3, 1) := by decide +kernel
theorem dSf1_5 : decode jdk_42_method_149_code 5 = .ok (.ifCond .ne 22, 3) := by decide +kernel
theorem dSf1_27 : decode jdk_42_method_149_code 27 = .ok (.getstatic 38, 3) := by decide +kernel
theorem dSf1_30 : decode jdk_42_method_149_code 30 = .ok (.ifCond .eq 28, 3) := by decide +kernel
theorem dSf1_33 : decode jdk_42_method_149_code 33 = .ok (.aload_n 1, 1) := by decide +kernel
theorem dSf1_34 : decode jdk_42_method_149_code 34 = .ok (.iload_n 2, 1) := by decide +kernel
theorem dSf1_35 : decode jdk_42_method_149_code 35 = .ok (.iload_n 3, 1) := by decide +kernel
theorem dSf1_36 : decode jdk_42_method_149_code 36 = .ok (.invokestatic 177, 3) := by decide +kernel
theorem dSf1_39 : decode jdk_42_method_149_code 39 = .ok (.astore 5, 2) := by decide +kernel
theorem dSf1_41 : decode jdk_42_method_149_code 41 = .ok (.aload_n 0, 1) := by decide +kernel
theorem dSf1_42 : decode jdk_42_method_149_code 42 = .ok (.aload 5, 2) := by decide +kernel
theorem dSf1_44 : decode jdk_42_method_149_code 44 = .ok (.iload_n 3, 1) := by decide +kernel
theorem dSf1_45 : decode jdk_42_method_149_code 45 = .ok (.invokestatic 47, 3) := by decide +kernel
theorem dSf1_48 : decode jdk_42_method_149_code 48 = .ok (.putfield 15, 3) := by decide +kernel
theorem dSf1_51 : decode jdk_42_method_149_code 51 = .ok (.aload_n 0, 1) := by decide +kernel
theorem dSf1_52 : decode jdk_42_method_149_code 52 = .ok (.aload 5, 2) := by decide +kernel
theorem dSf1_54 : decode jdk_42_method_149_code 54 = .ok (.putfield 9, 3) := by decide +kernel
theorem dSf1_57 : decode jdk_42_method_149_code 57 = .ok (.return_, 1) := by decide +kernel
theorem pnSf1 : plainName "java/lang/String" = true := by first | (simp [plainName, overriddenIn]; done) | decide +kernel
theorem efSf1 (m : MethodId) (a0 : Addr) (a1 : Addr) : entryFrame m #[(.ref a0), (.ref a1), (.int (0 : Int32)), (.int (1 : Int32)), .null] 6 = mkF m 0 #[.val (.ref a0), .val (.ref a1), .val (.int (0 : Int32)), .val (.int (1 : Int32)), .val .null, .unset] [] := by first | (simp [entryFrame, mkF, argsToLocals, Value.category]; done) | rfl
def QSf1 (Z : State) (a0 : Addr) (a1 : Addr) (kc : ClassId) (cs : Int32) (c0 : Int32) (h0 : Heap) (n0 : Nat) (v : Option Value) (h : Heap) (L : List Loc) : Prop := v = none ∧ Fr n0 L ∧ Keep h0 h [a0] ∧ Fld Z h a0 "java/lang/String" "coder" "B" (.int (0 : Int32)) ∧ Fld Z h a0 "java/lang/String" "value" "[B" (.ref h0.size) ∧ ∃ kb, Arv Z h h0.size kb .byte (1 : Int32) [(.int ((c0.toInt8.toInt32).toInt8.toInt32))] (.int (0 : Int32))
set_option maxRecDepth 65536 in
set_option maxHeartbeats 40000000 in
theorem rmSf1 (l : Launch) (Z : State) (a0 : Array Value) (hw : ∀ d ∈ tables_1, d.before a0 Z = true) (ws : List Jvm.Cond) (a0 : Addr) (a1 : Addr) (kc : ClassId) (cs : Int32) (c0 : Int32) (h0 : Heap) (n0 : Nat) (Z0 : n0 ≤ h0.size) (E0 : Exa Z h0 a0 "java/lang/String") (Fc : Fld Z h0 a0 "java/lang/String" "coder" "B" (.int (0 : Int32))) (Fv : Fld Z h0 a0 "java/lang/String" "value" "[B" .null) (V1 : Arv Z h0 a1 kc .char (1 : Int32) [(.int c0)] (.int (0 : Int32))) (g0 : n0 ≤ a0) (hne : a1 ≠ a0) (Scs : Sta Z h0 "java/lang/String" "COMPACT_STRINGS" "Z" (.int cs)) (hcs : ¬ cs = (0 : Int32)) (hp0 : ¬ (255 : Int32) < c0) :
    MetFree l (⟨"java/lang/String", "<init>", "([CIILjava/lang/Void;)V"⟩ : MethodName) (head1 (Jvm.Cond.code (⟨"java/lang/String", "<init>", "([CIILjava/lang/Void;)V"⟩ : MethodName) jdk_42_method_149_code 6 none :: ws) ({ frames := 2, cells := 1, slots := 1, locals := 35 } : Room)) (fun a U => a = #[(.ref a0), (.ref a1), (.int (0 : Int32)), (.int (1 : Int32)), .null] ∧ Z.Warmed39 U.vm ∧ U.heap = h0) (fun _ _ _ _ _ => True) (fun _ U o U' => ∃ v L, o = .returned v ∧ QSf1 Z a0 a1 kc cs c0 h0 n0 v U'.heap L ∧ FrameEnd U o U' L ({ frames := 2, cells := 1, slots := 1, locals := 35 } : Room).cells ({ frames := 2, cells := 1, slots := 1, locals := 35 } : Room).slots) := by
  refine MetFree.of_bodySF (plainFor_of_name pnSf1) hisR ?_
  intro p e s m args below meth c s₁ Bd hml0 hP hK
  obtain ⟨rfl, hZ, hh⟩ := hP
  have hx := Bd.exec
  have hby := Bd.bytes
  have hlk := BodyLoose.notSynchronized Bd
  have hret := Bd.returns
  have hml : c.maxLocals = 6 := hml0
  have hown : s.vm.findClass "java/lang/String" = some m.cls := findClass_of_methodNamed Bd.named
  have hnm := (name_of_methodNamed Bd.named Bd.method).1
  have X0 : Stand p l e ({ frames := 2, cells := 1, slots := 1, locals := 35 } : Room) s m #[(.ref a0), (.ref a1), (.int (0 : Int32)), (.int (1 : Int32)), .null] below meth c s₁ [] 0 0 := Stand.of_body Bd
  have e0 : s₁.heap = h0 := by rw [← hh, Bd.state]; rfl
  have N0 := Fr.nil n0
  show OFin p e below (KPost s (QSf1 Z a0 a1 kc cs c0 h0 n0) ({ frames := 2, cells := 1, slots := 1, locals := 35 } : Room).cells ({ frames := 2, cells := 1, slots := 1, locals := 35 } : Room).slots) _
  rw [efSf1 m a0 a1]
  have K0 : Keep h0 h0 [a0] := Keep.refl _ _
  refine OFin.of (S' := s₁.setTop (mkF m 1 #[.val (.ref a0), .val (.ref a1), .val (.int (0 : Int32)), .val (.int (1 : Int32)), .val .null, .unset] [(.ref a0)])) (fun t ht => ?_) ?_
  · refine XS.aloadN X0.here hx rfl (hb hby dSf1_0) rfl rfl ?_
    exact ht
  obtain ⟨T1, X1, e1, st1⟩ := initO X0 hx hZ hown (hw _ (List.mem_of_getElem? (i := 18) rfl)) (hw _ (List.mem_of_getElem? (i := 19) rfl)) (hw _ (List.mem_of_getElem? (i := 20) rfl)) e0 (g := (mkF m 1 #[.val (.ref a0), .val (.ref a1), .val (.int (0 : Int32)), .val (.int (1 : Int32)), .val .null, .unset] [(.ref a0)])) rfl (by rw [hml]; rfl) rfl (hb hby dSf1_1) (by decide) (W := 0) (by show 2 * 0 + _ ≤ _; exact Nat.le_of_eq rfl) (by decide)
  refine OFin.of (S' := T1.setTop (mkF m 4 #[.val (.ref a0), .val (.ref a1), .val (.int (0 : Int32)), .val (.int (1 : Int32)), .val .null, .unset] [])) (fun t ht => st1 t ht) ?_
  refine OFin.of (S' := T1.setTop (mkF m 27 #[.val (.ref a0), .val (.ref a1), .val (.int (0 : Int32)), .val (.int (1 : Int32)), .val .null, .unset] [])) (fun t ht => ?_) ?_
  · refine XS.iloadN X1.here hx rfl (hb hby dSf1_4) rfl ?_
    show Steps p.tables e below (T1.setTop (mkF m 5 _ [(.int (1 : Int32))])) _
    refine XS.ifYes X1.here hx rfl (pc0 := 5) (pc' := 27) rfl (hb hby dSf1_5) rfl ((if0 _ _).trans (feq (by decide : ¬ ((1 : Int32) = (0 : Int32)))).2) (by decide) (by decide) ?_
    exact ht
  obtain ⟨T2, X2, e2, st2⟩ := getS (host := "") X1 hx hZ hown (hw _ (List.mem_of_getElem? (i := 60) rfl)) Via.refl e1 Scs (g := (mkF m 27 #[.val (.ref a0), .val (.ref a1), .val (.int (0 : Int32)), .val (.int (1 : Int32)), .val .null, .unset] [])) rfl (hb hby dSf1_27)
  refine OFin.of (S' := T2.setTop (mkF m 30 #[.val (.ref a0), .val (.ref a1), .val (.int (0 : Int32)), .val (.int (1 : Int32)), .val .null, .unset] [(.int cs)])) (fun t ht => st2 t ht) ?_
  refine OFin.of (S' := T2.setTop (mkF m 36 #[.val (.ref a0), .val (.ref a1), .val (.int (0 : Int32)), .val (.int (1 : Int32)), .val .null, .unset] [(.int (1 : Int32)), (.int (0 : Int32)), (.ref a1)])) (fun t ht => ?_) ?_
  · refine XS.ifNo X2.here hx rfl (hb hby dSf1_30) rfl ((if0 _ _).trans (feq (hcs : ¬ (cs = (0 : Int32)))).1) ?_
    show Steps p.tables e below (T2.setTop (mkF m 33 _ [])) _
    refine XS.aloadN X2.here hx rfl (hb hby dSf1_33) rfl rfl ?_
    show Steps p.tables e below (T2.setTop (mkF m 34 _ [(.ref a1)])) _
    refine XS.iloadN X2.here hx rfl (hb hby dSf1_34) rfl ?_
    show Steps p.tables e below (T2.setTop (mkF m 35 _ [(.int (0 : Int32)), (.ref a1)])) _
    refine XS.iloadN X2.here hx rfl (hb hby dSf1_35) rfl ?_
    exact ht
  obtain ⟨_, _, ⟨T3, L3, k3, n3⟩, -, X3, ⟨Lc3, hQ3, l3, y3, z3⟩, st3⟩ := Jvm.LawKit.callS X2 hx (y := (⟨"java/lang/StringUTF16", "compress", "([CII)[B"⟩ : MethodName)) hown (mvT hZ (hw _ (List.mem_of_getElem? (i := 80) rfl))) (mvT hZ (hw _ (List.mem_of_getElem? (i := 81) rfl))) (mvT hZ (hw _ (List.mem_of_getElem? (i := 82) rfl))) (mvT hZ (hw _ (List.mem_of_getElem? (i := 83) rfl))) (by decide) (backOf (W := 0) (rmCt1 l Z _ hw [] a1 kc c0 h0 n0 Z0 V1 hp0) hZ (hw _ (List.mem_of_getElem? (i := 83) rfl)) (hw _ (List.mem_of_getElem? (i := 82) rfl)) (by decide) (by decide)) (g := (mkF m 36 #[.val (.ref a0), .val (.ref a1), .val (.int (0 : Int32)), .val (.int (1 : Int32)), .val .null, .unset] [(.int (1 : Int32)), (.int (0 : Int32)), (.ref a1)])) rfl (by rw [hml]; rfl) (argsL := [(.ref a1), (.int (0 : Int32)), (.int (1 : Int32))]) (rest := []) (lenOf pd_3 rfl) rfl (by show 2 * 0 + _ ≤ _; exact Nat.le_of_eq rfl) (hb hby dSf1_36) (fun _ _ => ⟨rfl, e2, (by decide : 0 + 1 ≤ _), (by decide : 0 + 1 ≤ _)⟩)
  dsimp only [Pt.U, Pt.locs, Pt.cells, Pt.slots] at X3 l3 y3 z3 st3 hQ3
  subst l3 y3 z3
  obtain ⟨rfl, Nq3, Kq3, ⟨kb_3, f4⟩⟩ := hQ3
  have N5 := Fr.app N0 Nq3
  obtain ⟨b3, gq3⟩ : ∃ z, z = h0.size := ⟨_, rfl⟩
  rw [← gq3] at f4 st3
  have g6 : n0 ≤ b3 := (Nat.le_trans Z0 (Nat.le_of_eq gq3.symm))
  have sz7 : h0.size ≤ b3 := (Nat.le_trans K0.1 (Nat.le_of_eq gq3.symm))
  have ne8 : a0 ≠ b3 := (Nat.ne_of_lt (Nat.lt_of_lt_of_le E0.lt (Nat.le_of_eq gq3.symm)))
  have ne9 : a1 ≠ b3 := (Nat.ne_of_lt (Nat.lt_of_lt_of_le V1.lt (Nat.le_of_eq gq3.symm)))
  have f10 := (E0.keep Kq3)
  have f11 := (Fc.keep Kq3 nin0)
  have f12 := (Fv.keep Kq3 nin0)
  have f13 := (V1.keep Kq3 nin0)
  have f14 := (own_staKeep Scs Kq3 own_sn0)
  have Z15 : n0 ≤ T3.heap.size := (Nat.le_trans Z0 Kq3.1)
  have K16 : Keep h0 T3.heap [a0] := (K0.trans Kq3 all0)
  refine OFin.of (S' := T3.setTop (mkF m 39 #[.val (.ref a0), .val (.ref a1), .val (.int (0 : Int32)), .val (.int (1 : Int32)), .val .null, .unset] [(.ref b3)])) (fun t ht => st3 t ht) ?_
  refine OFin.of (S' := T3.setTop (mkF m 45 #[.val (.ref a0), .val (.ref a1), .val (.int (0 : Int32)), .val (.int (1 : Int32)), .val .null, .val (.ref b3)] [(.int (1 : Int32)), (.ref b3), (.ref a0)])) (fun t ht => ?_) ?_
  · refine XS.astore X3.here hx rfl (hb hby dSf1_39) rfl rfl (l' := #[.val (.ref a0), .val (.ref a1), .val (.int (0 : Int32)), .val (.int (1 : Int32)), .val .null, .val (.ref b3)]) rfl ?_
    show Steps p.tables e below (T3.setTop (mkF m 41 #[.val (.ref a0), .val (.ref a1), .val (.int (0 : Int32)), .val (.int (1 : Int32)), .val .null, .val (.ref b3)] [])) _
    refine XS.aloadN X3.here hx rfl (hb hby dSf1_41) rfl rfl ?_
    show Steps p.tables e below (T3.setTop (mkF m 42 _ [(.ref a0)])) _
    refine XS.aload X3.here hx rfl (hb hby dSf1_42) rfl rfl ?_
    show Steps p.tables e below (T3.setTop (mkF m 44 _ [(.ref b3), (.ref a0)])) _
    refine XS.iloadN X3.here hx rfl (hb hby dSf1_44) rfl ?_
    exact ht
  obtain ⟨_, _, ⟨T17, L17, k17, n17⟩, -, X17, ⟨Lc17, hQ17, l17, y17, z17⟩, st17⟩ := Jvm.LawKit.callS X3 hx (y := (⟨"java/lang/StringUTF16", "coderFromArrayLen", "([BI)B"⟩ : MethodName)) hown (mvT hZ (hw _ (List.mem_of_getElem? (i := 87) rfl))) (mvT hZ (hw _ (List.mem_of_getElem? (i := 88) rfl))) (mvT hZ (hw _ (List.mem_of_getElem? (i := 82) rfl))) (mvT hZ (hw _ (List.mem_of_getElem? (i := 89) rfl))) (by decide) (backOf (W := 1) (rmCd1 l Z _ hw [] b3 kb_3 ((c0.toInt8.toInt32).toInt8.toInt32) T3.heap n0 Z15 f4) hZ (hw _ (List.mem_of_getElem? (i := 89) rfl)) (hw _ (List.mem_of_getElem? (i := 82) rfl)) (by decide) (by decide)) (g := (mkF m 45 #[.val (.ref a0), .val (.ref a1), .val (.int (0 : Int32)), .val (.int (1 : Int32)), .val .null, .val (.ref b3)] [(.int (1 : Int32)), (.ref b3), (.ref a0)])) rfl (by rw [hml]; rfl) (argsL := [(.ref b3), (.int (1 : Int32))]) (rest := [(.ref a0)]) (lenOf pd_4 rfl) rfl (by show 2 * 0 + _ ≤ _; exact Nat.le_of_eq rfl) (hb hby dSf1_45) (fun _ _ => ⟨rfl, (rfl : T3.heap = T3.heap), (by decide : 1 + 0 ≤ _), (by decide : 1 + 0 ≤ _)⟩)
  dsimp only [Pt.U, Pt.locs, Pt.cells, Pt.slots] at X17 l17 y17 z17 st17 hQ17
  subst l17 y17 z17
  obtain ⟨rfl, Nq17, hs17⟩ := hQ17
  have N18 := Fr.app N5 Nq17
  refine OFin.of (S' := T17.setTop (mkF m 48 #[.val (.ref a0), .val (.ref a1), .val (.int (0 : Int32)), .val (.int (1 : Int32)), .val .null, .val (.ref b3)] [(.int (0 : Int32)), (.ref a0)])) (fun t ht => st17 t ht) ?_
  obtain ⟨T19, h19, X19, e19, W19, st19⟩ := putFN X17 hx hZ hown (hw _ (List.mem_of_getElem? (i := 28) rfl)) Via.refl hs17 f11 f10 (Or.inr ⟨(hw _ (List.mem_of_getElem? (i := 24) rfl)), rfl, hnm⟩) (hw _ (List.mem_of_getElem? (i := 8) rfl)) (ty := .byte) (v' := (.int (0 : Int32))) (by decide) rfl rfl (g := (mkF m 48 #[.val (.ref a0), .val (.ref a1), .val (.int (0 : Int32)), .val (.int (1 : Int32)), .val .null, .val (.ref b3)] [(.int (0 : Int32)), (.ref a0)])) rfl rfl (hb hby dSf1_48)
  have f20 := (f10.wr W19)
  have f21 := (f12.other W19 (Or.inr (slot_ne (Or.inr (hw _ (List.mem_of_getElem? (i := 23) rfl))) (Or.inr (hw _ (List.mem_of_getElem? (i := 24) rfl))) (by decide) (t := (.array .byte)) (t' := .byte) (by decide) (by decide))))
  have f22 := (f13.other W19 hne)
  have f23 := (f14.wr W19)
  have f24 := (f4.other W19 (Ne.symm ne8))
  have Z25 : n0 ≤ h19.size := (Nat.le_trans Z15 (Keep.of_wr W19).1)
  have K26 : Keep h0 h19 [a0] := (K16.wr W19 (Or.inl (List.mem_of_getElem? (i := 0) rfl)))
  have N27 := Fr.snoc X19 N18 g0
  have f28 : Fld Z h19 a0 "java/lang/String" "coder" "B" (.int (0 : Int32)) := (f11.same W19)
  refine OFin.of (S' := T19.setTop (mkF m 51 #[.val (.ref a0), .val (.ref a1), .val (.int (0 : Int32)), .val (.int (1 : Int32)), .val .null, .val (.ref b3)] [])) (fun t ht => st19 t ht) ?_
  refine OFin.of (S' := T19.setTop (mkF m 54 #[.val (.ref a0), .val (.ref a1), .val (.int (0 : Int32)), .val (.int (1 : Int32)), .val .null, .val (.ref b3)] [(.ref b3), (.ref a0)])) (fun t ht => ?_) ?_
  · refine XS.aloadN X19.here hx rfl (hb hby dSf1_51) rfl rfl ?_
    show Steps p.tables e below (T19.setTop (mkF m 52 _ [(.ref a0)])) _
    refine XS.aload X19.here hx rfl (hb hby dSf1_52) rfl rfl ?_
    exact ht
  obtain ⟨T29, h29, X29, e29, W29, st29⟩ := putF X19 hx hZ hown (host := "") (Or.inl (hw _ (List.mem_of_getElem? (i := 27) rfl))) Via.refl e19 f21 f20 (Or.inr ⟨(hw _ (List.mem_of_getElem? (i := 23) rfl)), rfl, hnm⟩) (hw _ (List.mem_of_getElem? (i := 8) rfl)) (ty := (.array .byte)) (by decide) rfl rfl (g := (mkF m 54 #[.val (.ref a0), .val (.ref a1), .val (.int (0 : Int32)), .val (.int (1 : Int32)), .val .null, .val (.ref b3)] [(.ref b3), (.ref a0)])) rfl rfl (hb hby dSf1_54)
  have f30 := (f20.wr W29)
  have f31 := (f22.other W29 hne)
  have f32 := (f23.wr W29)
  have f33 := (f24.other W29 (Ne.symm ne8))
  have f34 := (f28.other W29 (Or.inr (slot_ne (Or.inr (hw _ (List.mem_of_getElem? (i := 24) rfl))) (Or.inr (hw _ (List.mem_of_getElem? (i := 23) rfl))) (by decide) (t := .byte) (t' := (.array .byte)) (by decide) (by decide))))
  have Z35 : n0 ≤ h29.size := (Nat.le_trans Z25 (Keep.of_wr W29).1)
  have K36 : Keep h0 h29 [a0] := (K26.wr W29 (Or.inl (List.mem_of_getElem? (i := 0) rfl)))
  have N37 := Fr.snoc X29 N27 g0
  have f38 : Fld Z h29 a0 "java/lang/String" "value" "[B" (.ref b3) := (f21.same W29)
  refine OFin.of (S' := T29.setTop (mkF m 57 #[.val (.ref a0), .val (.ref a1), .val (.int (0 : Int32)), .val (.int (1 : Int32)), .val .null, .val (.ref b3)] [])) (fun t ht => st29 t ht) ?_
  exact OFin.retV X29 hx hlk hret (hb hby dSf1_57) (by decide) (by decide) (by rw [e29]; exact ⟨rfl, N37, K36, f34, by rw [← gq3]; exact f38, kb_3, by rw [← gq3]; exact f33⟩)
theorem dSi1_0 : decode jdk_42_method_3_code 0 = .ok (.aload_n 0, 1) := by decide +kernel
theorem dSi1_1 : decode jdk_42_method_3_code 1 = .ok (.aload_n 1, 1) := by decide +kernel
theorem dSi1_2 : decode jdk_42_method_3_code 2 = .ok (.iconst 0, 1) := by decide +kernel
theorem dSi1_3 : decode jdk_42_method_3_code 3 = .ok (.aload_n 1, 1) := by decide +kernel
theorem dSi1_4 : decode jdk_42_method_3_code 4 = .ok (.arraylength, 1) := by decide +kernel
theorem dSi1_5 : decode jdk_42_method_3_code 5 = .ok (.aconst_null, 1) := by decide +kernel
theorem dSi1_6 : decode jdk_42_method_3_code 6 = .ok (.invokespecial 27, 3) := by decide +kernel
theorem dSi1_9 : decode jdk_42_method_3_code 9 = .ok (.return_, 1) := by decide +kernel
theorem pnSi1 : plainName "java/lang/String" = true := by first | (simp [plainName, overriddenIn]; done) | decide +kernel
theorem efSi1 (m : MethodId) (a0 : Addr) (a1 : Addr) : entryFrame m #[(.ref a0), (.ref a1)] 2 = mkF m 0 #[.val (.ref a0), .val (.ref a1)] [] := by first | (simp [entryFrame, mkF, argsToLocals, Value.category]; done) | rfl
def QSi1 (Z : State) (a0 : Addr) (a1 : Addr) (kc : ClassId) (cs : Int32) (c0 : Int32) (h0 : Heap) (n0 : Nat) (v : Option Value) (h : Heap) (L : List Loc) : Prop := v = none ∧ Fr n0 L ∧ Keep h0 h [a0] ∧ Fld Z h a0 "java/lang/String" "coder" "B" (.int (0 : Int32)) ∧ Fld Z h a0 "java/lang/String" "value" "[B" (.ref h0.size) ∧ ∃ kb, Arv Z h h0.size kb .byte (1 : Int32) [(.int ((c0.toInt8.toInt32).toInt8.toInt32))] (.int (0 : Int32))
set_option maxRecDepth 65536 in
set_option maxHeartbeats 40000000 in
theorem rmSi1 (l : Launch) (Z : State) (a0 : Array Value) (hw : ∀ d ∈ tables_1, d.before a0 Z = true) (ws : List Jvm.Cond) (a0 : Addr) (a1 : Addr) (kc : ClassId) (cs : Int32) (c0 : Int32) (h0 : Heap) (n0 : Nat) (Z0 : n0 ≤ h0.size) (E0 : Exa Z h0 a0 "java/lang/String") (Fc : Fld Z h0 a0 "java/lang/String" "coder" "B" (.int (0 : Int32))) (Fv : Fld Z h0 a0 "java/lang/String" "value" "[B" .null) (V1 : Arv Z h0 a1 kc .char (1 : Int32) [(.int c0)] (.int (0 : Int32))) (g0 : n0 ≤ a0) (hne : a1 ≠ a0) (Scs : Sta Z h0 "java/lang/String" "COMPACT_STRINGS" "Z" (.int cs)) (hcs : ¬ cs = (0 : Int32)) (hp0 : ¬ (255 : Int32) < c0) :
    MetFree l (⟨"java/lang/String", "<init>", "([C)V"⟩ : MethodName) (head1 (Jvm.Cond.code (⟨"java/lang/String", "<init>", "([C)V"⟩ : MethodName) jdk_42_method_3_code 2 none :: ws) ({ frames := 3, cells := 1, slots := 1, locals := 52 } : Room)) (fun a U => a = #[(.ref a0), (.ref a1)] ∧ Z.Warmed39 U.vm ∧ U.heap = h0) (fun _ _ _ _ _ => True) (fun _ U o U' => ∃ v L, o = .returned v ∧ QSi1 Z a0 a1 kc cs c0 h0 n0 v U'.heap L ∧ FrameEnd U o U' L ({ frames := 3, cells := 1, slots := 1, locals := 52 } : Room).cells ({ frames := 3, cells := 1, slots := 1, locals := 52 } : Room).slots) := by
  refine MetFree.of_bodySF (plainFor_of_name pnSi1) hisR ?_
  intro p e s m args below meth c s₁ Bd hml0 hP hK
  obtain ⟨rfl, hZ, hh⟩ := hP
  have hx := Bd.exec
  have hby := Bd.bytes
  have hlk := BodyLoose.notSynchronized Bd
  have hret := Bd.returns
  have hml : c.maxLocals = 2 := hml0
  have hown : s.vm.findClass "java/lang/String" = some m.cls := findClass_of_methodNamed Bd.named
  have hnm := (name_of_methodNamed Bd.named Bd.method).1
  have X0 : Stand p l e ({ frames := 3, cells := 1, slots := 1, locals := 52 } : Room) s m #[(.ref a0), (.ref a1)] below meth c s₁ [] 0 0 := Stand.of_body Bd
  have e0 : s₁.heap = h0 := by rw [← hh, Bd.state]; rfl
  have N0 := Fr.nil n0
  show OFin p e below (KPost s (QSi1 Z a0 a1 kc cs c0 h0 n0) ({ frames := 3, cells := 1, slots := 1, locals := 52 } : Room).cells ({ frames := 3, cells := 1, slots := 1, locals := 52 } : Room).slots) _
  rw [efSi1 m a0 a1]
  have K0 : Keep h0 h0 [a0] := Keep.refl _ _
  refine OFin.of (S' := s₁.setTop (mkF m 4 #[.val (.ref a0), .val (.ref a1)] [(.ref a1), (.int (0 : Int32)), (.ref a1), (.ref a0)])) (fun t ht => ?_) ?_
  · refine XS.aloadN X0.here hx rfl (hb hby dSi1_0) rfl rfl ?_
    show Steps p.tables e below (s₁.setTop (mkF m 1 _ [(.ref a0)])) _
    refine XS.aloadN X0.here hx rfl (hb hby dSi1_1) rfl rfl ?_
    show Steps p.tables e below (s₁.setTop (mkF m 2 _ [(.ref a1), (.ref a0)])) _
    refine XS.iconst X0.here hx rfl (hb hby dSi1_2) ?_
    show Steps p.tables e below (s₁.setTop (mkF m 3 _ [(.int (0 : Int32)), (.ref a1), (.ref a0)])) _
    refine XS.aloadN X0.here hx rfl (hb hby dSi1_3) rfl rfl ?_
    exact ht
  obtain ⟨cl1, Ar1, q1, S1, Ng1, H1, G1⟩ := id V1
  refine OFin.of (S' := s₁.setTop (mkF m 5 #[.val (.ref a0), .val (.ref a1)] [(.int (1 : Int32)), (.int (0 : Int32)), (.ref a1), (.ref a0)])) (fun t ht => own_alen X0 hx hZ e0 Ar1 S1 Ng1 (g := (mkF m 4 #[.val (.ref a0), .val (.ref a1)] [(.ref a1), (.int (0 : Int32)), (.ref a1), (.ref a0)])) rfl rfl (hb hby dSi1_4) ht) ?_
  refine OFin.of (S' := s₁.setTop (mkF m 6 #[.val (.ref a0), .val (.ref a1)] [.null, (.int (1 : Int32)), (.int (0 : Int32)), (.ref a1), (.ref a0)])) (fun t ht => ?_) ?_
  · refine XS.aconstNull X0.here hx rfl (hb hby dSi1_5) ?_
    exact ht
  obtain ⟨_, _, ⟨T2, L2, k2, n2⟩, -, X2, ⟨Lc2, hQ2, l2, y2, z2⟩, st2⟩ := X0.specialBack hx (y := (⟨"java/lang/String", "<init>", "([CIILjava/lang/Void;)V"⟩ : MethodName)) rfl hown (mvT hZ (hw _ (List.mem_of_getElem? (i := 14) rfl))) (mvT hZ (hw _ (List.mem_of_getElem? (i := 15) rfl))) (mvT hZ (hw _ (List.mem_of_getElem? (i := 17) rfl))) (by decide) (backOf (W := 0) (rmSf1 l Z _ hw [] a0 a1 kc cs c0 h0 n0 Z0 E0 Fc Fv V1 g0 hne Scs hcs hp0) hZ (hw _ (List.mem_of_getElem? (i := 17) rfl)) (hw _ (List.mem_of_getElem? (i := 9) rfl)) (by decide) (by decide)) (g := (mkF m 6 #[.val (.ref a0), .val (.ref a1)] [.null, (.int (1 : Int32)), (.int (0 : Int32)), (.ref a1), (.ref a0)])) rfl (by rw [hml]; rfl) (Steps.refl _) (a := a0) (argsL := [(.ref a1), (.int (0 : Int32)), (.int (1 : Int32)), .null]) (rest := []) (lenOf pd_0 rfl) rfl (by show 2 * 0 + _ ≤ _; exact Nat.le_of_eq rfl) (hb hby dSi1_6) (fun _ _ => ⟨rfl, e0, (by decide : 0 + 1 ≤ _), (by decide : 0 + 1 ≤ _)⟩)
  dsimp only [Pt.U, Pt.locs, Pt.cells, Pt.slots] at X2 l2 y2 z2 st2 hQ2
  subst l2 y2 z2
  obtain ⟨rfl, Nq2, Kq2, f3, f4, ⟨kb_2, f5⟩⟩ := hQ2
  have N6 := Fr.app N0 Nq2
  obtain ⟨b2, gq2⟩ : ∃ z, z = h0.size := ⟨_, rfl⟩
  rw [← gq2] at f4 f5
  have g7 : n0 ≤ b2 := (Nat.le_trans Z0 (Nat.le_of_eq gq2.symm))
  have sz8 : h0.size ≤ b2 := (Nat.le_trans K0.1 (Nat.le_of_eq gq2.symm))
  have ne9 : a0 ≠ b2 := (Nat.ne_of_lt (Nat.lt_of_lt_of_le E0.lt (Nat.le_of_eq gq2.symm)))
  have ne10 : a1 ≠ b2 := (Nat.ne_of_lt (Nat.lt_of_lt_of_le V1.lt (Nat.le_of_eq gq2.symm)))
  have f11 := (E0.keep Kq2)
  have f12 := (V1.keep Kq2 (ninS hne nin0))
  have f13 := (own_staKeep Scs Kq2 (own_snS E0 own_sn0))
  have Z14 : n0 ≤ T2.heap.size := (Nat.le_trans Z0 Kq2.1)
  have K15 : Keep h0 T2.heap [a0] := (K0.trans Kq2 (allS (Or.inl (List.mem_of_getElem? (i := 0) rfl)) all0))
  refine OFin.to (S' := T2.setTop (mkF m 9 #[.val (.ref a0), .val (.ref a1)] [])) st2 ?_
  exact OFin.retV X2 hx hlk hret (hb hby dSi1_9) (by decide) (by decide) (by exact ⟨rfl, N6, K15, f3, by rw [← gq2]; exact f4, kb_2, by rw [← gq2]; exact f5⟩)
theorem dCf2_0 : decode jdk_52_method_21_code 0 = .ok (.iconst 0, 1) := by decide +kernel
theorem dCf2_1 : decode jdk_52_method_21_code 1 = .ok (.istore 5, 2) := by decide +kernel
theorem dCf2_3 : decode jdk_52_method_21_code 3 = .ok (.iload 5, 2) := by decide +kernel
theorem dCf2_5 : decode jdk_52_method_21_code 5 = .ok (.iload 4, 2) := by decide +kernel
theorem dCf2_7 : decode jdk_52_method_21_code 7 = .ok (.if_icmp .ge 37, 3) := by decide +kernel
theorem dCf2_10 : decode jdk_52_method_21_code 10 = .ok (.aload_n 0, 1) := by decide +kernel
theorem dCf2_11 : decode jdk_52_method_21_code 11 = .ok (.iload_n 1, 1) := by decide +kernel
theorem dCf2_12 : decode jdk_52_method_21_code 12 = .ok (.caload, 1) := by decide +kernel
theorem dCf2_13 : decode jdk_52_method_21_code 13 = .ok (.istore 6, 2) := by decide +kernel
theorem dCf2_15 : decode jdk_52_method_21_code 15 = .ok (.iload 6, 2) := by decide +kernel
theorem dCf2_17 : decode jdk_52_method_21_code 17 = .ok (.sipush 255, 3) := by decide +kernel
theorem dCf2_20 : decode jdk_52_method_21_code 20 = .ok (.if_icmp .le 6, 3) := by decide +kernel
theorem dCf2_26 : decode jdk_52_method_21_code 26 = .ok (.aload_n 2, 1) := by decide +kernel
theorem dCf2_27 : decode jdk_52_method_21_code 27 = .ok (.iload_n 3, 1) := by decide +kernel
theorem dCf2_28 : decode jdk_52_method_21_code 28 = .ok (.iload 6, 2) := by decide +kernel
theorem dCf2_30 : decode jdk_52_method_21_code 30 = .ok (.i2b, 1) := by decide +kernel
theorem dCf2_31 : decode jdk_52_method_21_code 31 = .ok (.bastore, 1) := by decide +kernel
theorem dCf2_32 : decode jdk_52_method_21_code 32 = .ok (.iinc 1 1, 3) := by decide +kernel
theorem dCf2_35 : decode jdk_52_method_21_code 35 = .ok (.iinc 3 1, 3) := by decide +kernel
theorem dCf2_38 : decode jdk_52_method_21_code 38 = .ok (.iinc 5 1, 3) := by decide +kernel
theorem dCf2_41 : decode jdk_52_method_21_code 41 = .ok (.goto (-38), 3) := by decide +kernel
theorem dCf2_44 : decode jdk_52_method_21_code 44 = .ok (.iload 4, 2) := by decide +kernel
theorem dCf2_46 : decode jdk_52_method_21_code 46 = .ok (.ireturn, 1) := by decide +kernel
theorem pnCf2 : plainName "java/lang/StringUTF16" = true := by first | (simp [plainName, overriddenIn]; done) | decide +kernel
theorem efCf2 (m : MethodId) (a0 : Addr) (a2 : Addr) : entryFrame m #[(.ref a0), (.int (0 : Int32)), (.ref a2), (.int (0 : Int32)), (.int (2 : Int32))] 7 = mkF m 0 #[.val (.ref a0), .val (.int (0 : Int32)), .val (.ref a2), .val (.int (0 : Int32)), .val (.int (2 : Int32)), .unset, .unset] [] := by first | (simp [entryFrame, mkF, argsToLocals, Value.category]; done) | rfl
def QCf2 (Z : State) (a0 : Addr) (a2 : Addr) (kc : ClassId) (kb : ClassId) (c0 : Int32) (c1 : Int32) (h0 : Heap) (n0 : Nat) (v : Option Value) (h : Heap) (L : List Loc) : Prop := v = some (.int (2 : Int32)) ∧ Fr n0 L ∧ Keep h0 h [a2] ∧ Arv Z h a2 kb .byte (2 : Int32) [(.int ((c0.toInt8.toInt32).toInt8.toInt32)), (.int ((c1.toInt8.toInt32).toInt8.toInt32))] (.int (0 : Int32))
set_option maxRecDepth 65536 in
set_option maxHeartbeats 40000000 in
theorem rmCf2 (l : Launch) (Z : State) (a0 : Array Value) (hw : ∀ d ∈ tables_1, d.before a0 Z = true) (ws : List Jvm.Cond) (a0 : Addr) (a2 : Addr) (kc : ClassId) (kb : ClassId) (c0 : Int32) (c1 : Int32) (h0 : Heap) (n0 : Nat) (Z0 : n0 ≤ h0.size) (V1 : Arv Z h0 a0 kc .char (2 : Int32) [(.int c0), (.int c1)] (.int (0 : Int32))) (V2 : Arv Z h0 a2 kb .byte (2 : Int32) [(.int (0 : Int32)), (.int (0 : Int32))] (.int (0 : Int32))) (g2 : n0 ≤ a2) (hne : a0 ≠ a2) (hp0 : ¬ (255 : Int32) < c0) (hp1 : ¬ (255 : Int32) < c1) :
    MetFree l (⟨"java/lang/StringUTF16", "compress", "([CI[BII)I"⟩ : MethodName) (head1 (Jvm.Cond.code (⟨"java/lang/StringUTF16", "compress", "([CI[BII)I"⟩ : MethodName) jdk_52_method_21_code 7 (some .int) :: ws) ({ frames := 0, cells := 0, slots := 0, locals := 0 } : Room)) (fun a U => a = #[(.ref a0), (.int (0 : Int32)), (.ref a2), (.int (0 : Int32)), (.int (2 : Int32))] ∧ Z.Warmed39 U.vm ∧ U.heap = h0) (fun _ _ _ _ _ => True) (fun _ U o U' => ∃ v L, o = .returned v ∧ QCf2 Z a0 a2 kc kb c0 c1 h0 n0 v U'.heap L ∧ FrameEnd U o U' L ({ frames := 0, cells := 0, slots := 0, locals := 0 } : Room).cells ({ frames := 0, cells := 0, slots := 0, locals := 0 } : Room).slots) := by
  refine MetFree.of_bodySF (plainFor_of_name pnCf2) hisR ?_
  intro p e s m args below meth c s₁ Bd hml0 hP hK
  obtain ⟨rfl, hZ, hh⟩ := hP
  have hx := Bd.exec
  have hby := Bd.bytes
  have hlk := BodyLoose.notSynchronized Bd
  have hret := Bd.returns
  have hml : c.maxLocals = 7 := hml0
  have hown : s.vm.findClass "java/lang/StringUTF16" = some m.cls := findClass_of_methodNamed Bd.named
  have hnm := (name_of_methodNamed Bd.named Bd.method).1
  have X0 : Stand p l e ({ frames := 0, cells := 0, slots := 0, locals := 0 } : Room) s m #[(.ref a0), (.int (0 : Int32)), (.ref a2), (.int (0 : Int32)), (.int (2 : Int32))] below meth c s₁ [] 0 0 := Stand.of_body Bd
  have e0 : s₁.heap = h0 := by rw [← hh, Bd.state]; rfl
  have N0 := Fr.nil n0
  show OFin p e below (KPost s (QCf2 Z a0 a2 kc kb c0 c1 h0 n0) ({ frames := 0, cells := 0, slots := 0, locals := 0 } : Room).cells ({ frames := 0, cells := 0, slots := 0, locals := 0 } : Room).slots) _
  rw [efCf2 m a0 a2]
  have K0 : Keep h0 h0 [a2] := Keep.refl _ _
  refine OFin.of (S' := s₁.setTop (mkF m 12 #[.val (.ref a0), .val (.int (0 : Int32)), .val (.ref a2), .val (.int (0 : Int32)), .val (.int (2 : Int32)), .val (.int (0 : Int32)), .unset] [(.int (0 : Int32)), (.ref a0)])) (fun t ht => ?_) ?_
  · refine XS.iconst X0.here hx rfl (hb hby dCf2_0) ?_
    show Steps p.tables e below (s₁.setTop (mkF m 1 _ [(.int (0 : Int32))])) _
    refine XS.istore X0.here hx rfl (hb hby dCf2_1) rfl (l' := #[.val (.ref a0), .val (.int (0 : Int32)), .val (.ref a2), .val (.int (0 : Int32)), .val (.int (2 : Int32)), .val (.int (0 : Int32)), .unset]) rfl ?_
    show Steps p.tables e below (s₁.setTop (mkF m 3 #[.val (.ref a0), .val (.int (0 : Int32)), .val (.ref a2), .val (.int (0 : Int32)), .val (.int (2 : Int32)), .val (.int (0 : Int32)), .unset] [])) _
    refine XS.iload X0.here hx rfl (hb hby dCf2_3) rfl ?_
    show Steps p.tables e below (s₁.setTop (mkF m 5 _ [(.int (0 : Int32))])) _
    refine XS.iload X0.here hx rfl (hb hby dCf2_5) rfl ?_
    show Steps p.tables e below (s₁.setTop (mkF m 7 _ [(.int (2 : Int32)), (.int (0 : Int32))])) _
    refine XS.icmpNo X0.here hx rfl (hb hby dCf2_7) rfl (tlt (by decide : (0 : Int32) < (2 : Int32))).2.1 ?_
    show Steps p.tables e below (s₁.setTop (mkF m 10 _ [])) _
    refine XS.aloadN X0.here hx rfl (hb hby dCf2_10) rfl rfl ?_
    show Steps p.tables e below (s₁.setTop (mkF m 11 _ [(.ref a0)])) _
    refine XS.iloadN X0.here hx rfl (hb hby dCf2_11) rfl ?_
    exact ht
  obtain ⟨cl1, Ar1, q1, S1, Ng1, H1, G1⟩ := id V1
  have hin1 := inb_of (j := (0 : Int32)) S1 ⟨by decide, by decide⟩
  have hat1 : cl1.slots[((0 : Int32)).toNatClampNeg]? = some (.int c0) := Has.at H1 hin1 rfl
  refine OFin.of (S' := s₁.setTop (mkF m 13 #[.val (.ref a0), .val (.int (0 : Int32)), .val (.ref a2), .val (.int (0 : Int32)), .val (.int (2 : Int32)), .val (.int (0 : Int32)), .unset] [(.int c0)])) (fun t ht => X0.caload hx (j := (0 : Int32)) (v := (.int c0)) (by rw [e0]; exact Ar1.1) (State.isArrayOf_alike hZ.alike Ar1.2.1) Ar1.2.2 hin1 hat1 (g := (mkF m 12 #[.val (.ref a0), .val (.int (0 : Int32)), .val (.ref a2), .val (.int (0 : Int32)), .val (.int (2 : Int32)), .val (.int (0 : Int32)), .unset] [(.int (0 : Int32)), (.ref a0)])) rfl rfl (hb hby dCf2_12) _ ht) ?_
  refine OFin.of (S' := s₁.setTop (mkF m 31 #[.val (.ref a0), .val (.int (0 : Int32)), .val (.ref a2), .val (.int (0 : Int32)), .val (.int (2 : Int32)), .val (.int (0 : Int32)), .val (.int c0)] [(.int (c0.toInt8.toInt32)), (.int (0 : Int32)), (.ref a2)])) (fun t ht => ?_) ?_
  · refine XS.istore X0.here hx rfl (hb hby dCf2_13) rfl (l' := #[.val (.ref a0), .val (.int (0 : Int32)), .val (.ref a2), .val (.int (0 : Int32)), .val (.int (2 : Int32)), .val (.int (0 : Int32)), .val (.int c0)]) rfl ?_
    show Steps p.tables e below (s₁.setTop (mkF m 15 #[.val (.ref a0), .val (.int (0 : Int32)), .val (.ref a2), .val (.int (0 : Int32)), .val (.int (2 : Int32)), .val (.int (0 : Int32)), .val (.int c0)] [])) _
    refine XS.iload X0.here hx rfl (hb hby dCf2_15) rfl ?_
    show Steps p.tables e below (s₁.setTop (mkF m 17 _ [(.int c0)])) _
    refine XS.sipush X0.here hx rfl (hb hby dCf2_17) ?_
    show Steps p.tables e below (s₁.setTop (mkF m 20 _ [(.int (255 : Int32)), (.int c0)])) _
    refine XS.icmpYes X0.here hx rfl (pc0 := 20) (pc' := 26) rfl (hb hby dCf2_20) rfl (flt (hp0 : ¬ ((255 : Int32) < c0))).2.2.2 (by decide) (by decide) ?_
    show Steps p.tables e below (s₁.setTop (mkF m 26 _ [])) _
    refine XS.aloadN X0.here hx rfl (hb hby dCf2_26) rfl rfl ?_
    show Steps p.tables e below (s₁.setTop (mkF m 27 _ [(.ref a2)])) _
    refine XS.iloadN X0.here hx rfl (hb hby dCf2_27) rfl ?_
    show Steps p.tables e below (s₁.setTop (mkF m 28 _ [(.int (0 : Int32)), (.ref a2)])) _
    refine XS.iload X0.here hx rfl (hb hby dCf2_28) rfl ?_
    show Steps p.tables e below (s₁.setTop (mkF m 30 _ [(.int c0), (.int (0 : Int32)), (.ref a2)])) _
    refine XS.i2b X0.here hx rfl (hb hby dCf2_30) rfl ?_
    exact ht
  obtain ⟨cl2, Ar2, q2, S2, Ng2, H2, G2⟩ := id V2
  have hin2 := inb_of (j := (0 : Int32)) S2 ⟨by decide, by decide⟩
  obtain ⟨T2, h2, X2, e2, W2, st2⟩ := stB X0 hx hZ e0 Ar2 (j := (0 : Int32)) hin2 (g := (mkF m 31 #[.val (.ref a0), .val (.int (0 : Int32)), .val (.ref a2), .val (.int (0 : Int32)), .val (.int (2 : Int32)), .val (.int (0 : Int32)), .val (.int c0)] [(.int (c0.toInt8.toInt32)), (.int (0 : Int32)), (.ref a2)])) rfl rfl (hb hby dCf2_31)
  have f3 := (V1.other W2 hne)
  have Z4 : n0 ≤ h2.size := (Nat.le_trans Z0 (Keep.of_wr W2).1)
  have K5 : Keep h0 h2 [a2] := (K0.wr W2 (Or.inl (List.mem_of_getElem? (i := 0) rfl)))
  have N6 := Fr.snoc X2 N0 g2
  have f7 : Arv Z h2 a2 kb .byte (2 : Int32) [(.int ((c0.toInt8.toInt32).toInt8.toInt32)), (.int (0 : Int32))] (.int (0 : Int32)) := Arv.set Ar2 q2 S2 Ng2 H2 G2 (fits_nar_byte _) W2 0 rfl (Nat.le_of_ble_eq_true rfl)
  refine OFin.of (S' := T2.setTop (mkF m 32 #[.val (.ref a0), .val (.int (0 : Int32)), .val (.ref a2), .val (.int (0 : Int32)), .val (.int (2 : Int32)), .val (.int (0 : Int32)), .val (.int c0)] [])) (fun t ht => st2 t ht) ?_
  refine OFin.of (S' := T2.setTop (mkF m 12 #[.val (.ref a0), .val (.int (1 : Int32)), .val (.ref a2), .val (.int (1 : Int32)), .val (.int (2 : Int32)), .val (.int (1 : Int32)), .val (.int c0)] [(.int (1 : Int32)), (.ref a0)])) (fun t ht => ?_) ?_
  · refine XS.iinc X2.here hx rfl (hb hby dCf2_32) rfl (l' := #[.val (.ref a0), .val (.int (1 : Int32)), .val (.ref a2), .val (.int (0 : Int32)), .val (.int (2 : Int32)), .val (.int (0 : Int32)), .val (.int c0)]) rfl ?_
    show Steps p.tables e below (T2.setTop (mkF m 35 #[.val (.ref a0), .val (.int (1 : Int32)), .val (.ref a2), .val (.int (0 : Int32)), .val (.int (2 : Int32)), .val (.int (0 : Int32)), .val (.int c0)] [])) _
    refine XS.iinc X2.here hx rfl (hb hby dCf2_35) rfl (l' := #[.val (.ref a0), .val (.int (1 : Int32)), .val (.ref a2), .val (.int (1 : Int32)), .val (.int (2 : Int32)), .val (.int (0 : Int32)), .val (.int c0)]) rfl ?_
    show Steps p.tables e below (T2.setTop (mkF m 38 #[.val (.ref a0), .val (.int (1 : Int32)), .val (.ref a2), .val (.int (1 : Int32)), .val (.int (2 : Int32)), .val (.int (0 : Int32)), .val (.int c0)] [])) _
    refine XS.iinc X2.here hx rfl (hb hby dCf2_38) rfl (l' := #[.val (.ref a0), .val (.int (1 : Int32)), .val (.ref a2), .val (.int (1 : Int32)), .val (.int (2 : Int32)), .val (.int (1 : Int32)), .val (.int c0)]) rfl ?_
    show Steps p.tables e below (T2.setTop (mkF m 41 #[.val (.ref a0), .val (.int (1 : Int32)), .val (.ref a2), .val (.int (1 : Int32)), .val (.int (2 : Int32)), .val (.int (1 : Int32)), .val (.int c0)] [])) _
    refine XS.goto X2.here hx rfl (pc0 := 41) (pc' := 3) rfl (hb hby dCf2_41) (by decide) (by decide) ?_
    show Steps p.tables e below (T2.setTop (mkF m 3 _ [])) _
    refine XS.iload X2.here hx rfl (hb hby dCf2_3) rfl ?_
    show Steps p.tables e below (T2.setTop (mkF m 5 _ [(.int (1 : Int32))])) _
    refine XS.iload X2.here hx rfl (hb hby dCf2_5) rfl ?_
    show Steps p.tables e below (T2.setTop (mkF m 7 _ [(.int (2 : Int32)), (.int (1 : Int32))])) _
    refine XS.icmpNo X2.here hx rfl (hb hby dCf2_7) rfl (tlt (by decide : (1 : Int32) < (2 : Int32))).2.1 ?_
    show Steps p.tables e below (T2.setTop (mkF m 10 _ [])) _
    refine XS.aloadN X2.here hx rfl (hb hby dCf2_10) rfl rfl ?_
    show Steps p.tables e below (T2.setTop (mkF m 11 _ [(.ref a0)])) _
    refine XS.iloadN X2.here hx rfl (hb hby dCf2_11) rfl ?_
    exact ht
  obtain ⟨cl8, Ar8, q8, S8, Ng8, H8, G8⟩ := id f3
  have hin8 := inb_of (j := (1 : Int32)) S8 ⟨by decide, by decide⟩
  have hat8 : cl8.slots[((1 : Int32)).toNatClampNeg]? = some (.int c1) := Has.at H8 hin8 rfl
  refine OFin.of (S' := T2.setTop (mkF m 13 #[.val (.ref a0), .val (.int (1 : Int32)), .val (.ref a2), .val (.int (1 : Int32)), .val (.int (2 : Int32)), .val (.int (1 : Int32)), .val (.int c0)] [(.int c1)])) (fun t ht => X2.caload hx (j := (1 : Int32)) (v := (.int c1)) (by rw [e2]; exact Ar8.1) (State.isArrayOf_alike hZ.alike Ar8.2.1) Ar8.2.2 hin8 hat8 (g := (mkF m 12 #[.val (.ref a0), .val (.int (1 : Int32)), .val (.ref a2), .val (.int (1 : Int32)), .val (.int (2 : Int32)), .val (.int (1 : Int32)), .val (.int c0)] [(.int (1 : Int32)), (.ref a0)])) rfl rfl (hb hby dCf2_12) _ ht) ?_
  refine OFin.of (S' := T2.setTop (mkF m 31 #[.val (.ref a0), .val (.int (1 : Int32)), .val (.ref a2), .val (.int (1 : Int32)), .val (.int (2 : Int32)), .val (.int (1 : Int32)), .val (.int c1)] [(.int (c1.toInt8.toInt32)), (.int (1 : Int32)), (.ref a2)])) (fun t ht => ?_) ?_
  · refine XS.istore X2.here hx rfl (hb hby dCf2_13) rfl (l' := #[.val (.ref a0), .val (.int (1 : Int32)), .val (.ref a2), .val (.int (1 : Int32)), .val (.int (2 : Int32)), .val (.int (1 : Int32)), .val (.int c1)]) rfl ?_
    show Steps p.tables e below (T2.setTop (mkF m 15 #[.val (.ref a0), .val (.int (1 : Int32)), .val (.ref a2), .val (.int (1 : Int32)), .val (.int (2 : Int32)), .val (.int (1 : Int32)), .val (.int c1)] [])) _
    refine XS.iload X2.here hx rfl (hb hby dCf2_15) rfl ?_
    show Steps p.tables e below (T2.setTop (mkF m 17 _ [(.int c1)])) _
    refine XS.sipush X2.here hx rfl (hb hby dCf2_17) ?_
    show Steps p.tables e below (T2.setTop (mkF m 20 _ [(.int (255 : Int32)), (.int c1)])) _
    refine XS.icmpYes X2.here hx rfl (pc0 := 20) (pc' := 26) rfl (hb hby dCf2_20) rfl (flt (hp1 : ¬ ((255 : Int32) < c1))).2.2.2 (by decide) (by decide) ?_
    show Steps p.tables e below (T2.setTop (mkF m 26 _ [])) _
    refine XS.aloadN X2.here hx rfl (hb hby dCf2_26) rfl rfl ?_
    show Steps p.tables e below (T2.setTop (mkF m 27 _ [(.ref a2)])) _
    refine XS.iloadN X2.here hx rfl (hb hby dCf2_27) rfl ?_
    show Steps p.tables e below (T2.setTop (mkF m 28 _ [(.int (1 : Int32)), (.ref a2)])) _
    refine XS.iload X2.here hx rfl (hb hby dCf2_28) rfl ?_
    show Steps p.tables e below (T2.setTop (mkF m 30 _ [(.int c1), (.int (1 : Int32)), (.ref a2)])) _
    refine XS.i2b X2.here hx rfl (hb hby dCf2_30) rfl ?_
    exact ht
  obtain ⟨cl9, Ar9, q9, S9, Ng9, H9, G9⟩ := id f7
  have hin9 := inb_of (j := (1 : Int32)) S9 ⟨by decide, by decide⟩
  obtain ⟨T9, h9, X9, e9, W9, st9⟩ := stB X2 hx hZ e2 Ar9 (j := (1 : Int32)) hin9 (g := (mkF m 31 #[.val (.ref a0), .val (.int (1 : Int32)), .val (.ref a2), .val (.int (1 : Int32)), .val (.int (2 : Int32)), .val (.int (1 : Int32)), .val (.int c1)] [(.int (c1.toInt8.toInt32)), (.int (1 : Int32)), (.ref a2)])) rfl rfl (hb hby dCf2_31)
  have f10 := (f3.other W9 hne)
  have Z11 : n0 ≤ h9.size := (Nat.le_trans Z4 (Keep.of_wr W9).1)
  have K12 : Keep h0 h9 [a2] := (K5.wr W9 (Or.inl (List.mem_of_getElem? (i := 0) rfl)))
  have N13 := Fr.snoc X9 N6 g2
  have f14 : Arv Z h9 a2 kb .byte (2 : Int32) [(.int ((c0.toInt8.toInt32).toInt8.toInt32)), (.int ((c1.toInt8.toInt32).toInt8.toInt32))] (.int (0 : Int32)) := Arv.set Ar9 q9 S9 Ng9 H9 G9 (fits_nar_byte _) W9 1 rfl (Nat.le_of_ble_eq_true rfl)
  refine OFin.of (S' := T9.setTop (mkF m 32 #[.val (.ref a0), .val (.int (1 : Int32)), .val (.ref a2), .val (.int (1 : Int32)), .val (.int (2 : Int32)), .val (.int (1 : Int32)), .val (.int c1)] [])) (fun t ht => st9 t ht) ?_
  refine OFin.of (S' := T9.setTop (mkF m 46 #[.val (.ref a0), .val (.int (2 : Int32)), .val (.ref a2), .val (.int (2 : Int32)), .val (.int (2 : Int32)), .val (.int (2 : Int32)), .val (.int c1)] [(.int (2 : Int32))])) (fun t ht => ?_) ?_
  · refine XS.iinc X9.here hx rfl (hb hby dCf2_32) rfl (l' := #[.val (.ref a0), .val (.int (2 : Int32)), .val (.ref a2), .val (.int (1 : Int32)), .val (.int (2 : Int32)), .val (.int (1 : Int32)), .val (.int c1)]) rfl ?_
    show Steps p.tables e below (T9.setTop (mkF m 35 #[.val (.ref a0), .val (.int (2 : Int32)), .val (.ref a2), .val (.int (1 : Int32)), .val (.int (2 : Int32)), .val (.int (1 : Int32)), .val (.int c1)] [])) _
    refine XS.iinc X9.here hx rfl (hb hby dCf2_35) rfl (l' := #[.val (.ref a0), .val (.int (2 : Int32)), .val (.ref a2), .val (.int (2 : Int32)), .val (.int (2 : Int32)), .val (.int (1 : Int32)), .val (.int c1)]) rfl ?_
    show Steps p.tables e below (T9.setTop (mkF m 38 #[.val (.ref a0), .val (.int (2 : Int32)), .val (.ref a2), .val (.int (2 : Int32)), .val (.int (2 : Int32)), .val (.int (1 : Int32)), .val (.int c1)] [])) _
    refine XS.iinc X9.here hx rfl (hb hby dCf2_38) rfl (l' := #[.val (.ref a0), .val (.int (2 : Int32)), .val (.ref a2), .val (.int (2 : Int32)), .val (.int (2 : Int32)), .val (.int (2 : Int32)), .val (.int c1)]) rfl ?_
    show Steps p.tables e below (T9.setTop (mkF m 41 #[.val (.ref a0), .val (.int (2 : Int32)), .val (.ref a2), .val (.int (2 : Int32)), .val (.int (2 : Int32)), .val (.int (2 : Int32)), .val (.int c1)] [])) _
    refine XS.goto X9.here hx rfl (pc0 := 41) (pc' := 3) rfl (hb hby dCf2_41) (by decide) (by decide) ?_
    show Steps p.tables e below (T9.setTop (mkF m 3 _ [])) _
    refine XS.iload X9.here hx rfl (hb hby dCf2_3) rfl ?_
    show Steps p.tables e below (T9.setTop (mkF m 5 _ [(.int (2 : Int32))])) _
    refine XS.iload X9.here hx rfl (hb hby dCf2_5) rfl ?_
    show Steps p.tables e below (T9.setTop (mkF m 7 _ [(.int (2 : Int32)), (.int (2 : Int32))])) _
    refine XS.icmpYes X9.here hx rfl (pc0 := 7) (pc' := 44) rfl (hb hby dCf2_7) rfl (flt (by decide : ¬ ((2 : Int32) < (2 : Int32)))).2.1 (by decide) (by decide) ?_
    show Steps p.tables e below (T9.setTop (mkF m 44 _ [])) _
    refine XS.iload X9.here hx rfl (hb hby dCf2_44) rfl ?_
    exact ht
  exact OFin.retI X9 hx hlk hret (hb hby dCf2_46) (by decide) (by decide) (by rw [e9]; exact ⟨rfl, N13, K12, f14⟩)
theorem dCt2_0 : decode jdk_52_method_16_code 0 = .ok (.iload_n 2, 1) := by decide +kernel
theorem dCt2_1 : decode jdk_52_method_16_code 1 = .ok (.newarray .byte, 2) := by decide +kernel
theorem dCt2_3 : decode jdk_52_method_16_code 3 = .ok (.astore_n 3, 1) := by decide +kernel
theorem dCt2_4 : decode jdk_52_method_16_code 4 = .ok (.aload_n 0, 1) := by decide +kernel
theorem dCt2_5 : decode jdk_52_method_16_code 5 = .ok (.iload_n 1, 1) := by decide +kernel
theorem dCt2_6 : decode jdk_52_method_16_code 6 = .ok (.aload_n 3, 1) := by decide +kernel
theorem dCt2_7 : decode jdk_52_method_16_code 7 = .ok (.iconst 0, 1) := by decide +kernel
theorem dCt2_8 : decode jdk_52_method_16_code 8 = .ok (.iload_n 2, 1) := by decide +kernel
theorem dCt2_9 : decode jdk_52_method_16_code 9 = .ok (.invokestatic 115, 3) := by decide +kernel
theorem dCt2_12 : decode jdk_52_method_16_code 12 = .ok (.istore 4, 2) := by decide +kernel
theorem dCt2_14 : decode jdk_52_method_16_code 14 = .ok (.iload 4, 2) := by decide +kernel
theorem dCt2_16 : decode jdk_52_method_16_code 16 = .ok (.iload_n 2, 1) := by decide +kernel
theorem dCt2_17 : decode jdk_52_method_16_code 17 = .ok (.if_icmp .eq 40, 3) := by decide +kernel
theorem dCt2_57 : decode jdk_52_method_16_code 57 = .ok (.aload_n 3, 1) := by decide +kernel
theorem dCt2_58 : decode jdk_52_method_16_code 58 = .ok (.areturn, 1) := by decide +kernel
theorem pnCt2 : plainName "java/lang/StringUTF16" = true := by first | (simp [plainName, overriddenIn]; done) | decide +kernel
theorem efCt2 (m : MethodId) (a0 : Addr) : entryFrame m #[(.ref a0), (.int (0 : Int32)), (.int (2 : Int32))] 6 = mkF m 0 #[.val (.ref a0), .val (.int (0 : Int32)), .val (.int (2 : Int32)), .unset, .unset, .unset] [] := by first | (simp [entryFrame, mkF, argsToLocals, Value.category]; done) | rfl
def QCt2 (Z : State) (a0 : Addr) (kc : ClassId) (c0 : Int32) (c1 : Int32) (h0 : Heap) (n0 : Nat) (v : Option Value) (h : Heap) (L : List Loc) : Prop := v = some (.ref h0.size) ∧ Fr n0 L ∧ Keep h0 h [] ∧ ∃ kb, Arv Z h h0.size kb .byte (2 : Int32) [(.int ((c0.toInt8.toInt32).toInt8.toInt32)), (.int ((c1.toInt8.toInt32).toInt8.toInt32))] (.int (0 : Int32))
set_option maxRecDepth 65536 in
set_option maxHeartbeats 40000000 in
theorem rmCt2 (l : Launch) (Z : State) (a0 : Array Value) (hw : ∀ d ∈ tables_1, d.before a0 Z = true) (ws : List Jvm.Cond) (a0 : Addr) (kc : ClassId) (c0 : Int32) (c1 : Int32) (h0 : Heap) (n0 : Nat) (Z0 : n0 ≤ h0.size) (V1 : Arv Z h0 a0 kc .char (2 : Int32) [(.int c0), (.int c1)] (.int (0 : Int32))) (hp0 : ¬ (255 : Int32) < c0) (hp1 : ¬ (255 : Int32) < c1) :
    MetFree l (⟨"java/lang/StringUTF16", "compress", "([CII)[B"⟩ : MethodName) (head1 (Jvm.Cond.code (⟨"java/lang/StringUTF16", "compress", "([CII)[B"⟩ : MethodName) jdk_52_method_16_code 6 (some (.array .byte)) :: ws) ({ frames := 1, cells := 1, slots := 2, locals := 18 } : Room)) (fun a U => a = #[(.ref a0), (.int (0 : Int32)), (.int (2 : Int32))] ∧ Z.Warmed39 U.vm ∧ U.heap = h0) (fun _ _ _ _ _ => True) (fun _ U o U' => ∃ v L, o = .returned v ∧ QCt2 Z a0 kc c0 c1 h0 n0 v U'.heap L ∧ FrameEnd U o U' L ({ frames := 1, cells := 1, slots := 2, locals := 18 } : Room).cells ({ frames := 1, cells := 1, slots := 2, locals := 18 } : Room).slots) := by
  refine MetFree.of_bodySF (plainFor_of_name pnCt2) hisR ?_
  intro p e s m args below meth c s₁ Bd hml0 hP hK
  obtain ⟨rfl, hZ, hh⟩ := hP
  have hx := Bd.exec
  have hby := Bd.bytes
  have hlk := BodyLoose.notSynchronized Bd
  have hret := Bd.returns
  have hml : c.maxLocals = 6 := hml0
  have hown : s.vm.findClass "java/lang/StringUTF16" = some m.cls := findClass_of_methodNamed Bd.named
  have hnm := (name_of_methodNamed Bd.named Bd.method).1
  have X0 : Stand p l e ({ frames := 1, cells := 1, slots := 2, locals := 18 } : Room) s m #[(.ref a0), (.int (0 : Int32)), (.int (2 : Int32))] below meth c s₁ [] 0 0 := Stand.of_body Bd
  have e0 : s₁.heap = h0 := by rw [← hh, Bd.state]; rfl
  have N0 := Fr.nil n0
  show OFin p e below (KPost s (QCt2 Z a0 kc c0 c1 h0 n0) ({ frames := 1, cells := 1, slots := 2, locals := 18 } : Room).cells ({ frames := 1, cells := 1, slots := 2, locals := 18 } : Room).slots) _
  rw [efCt2 m a0]
  have K0 : Keep h0 h0 [] := Keep.refl _ _
  refine OFin.of (S' := s₁.setTop (mkF m 1 #[.val (.ref a0), .val (.int (0 : Int32)), .val (.int (2 : Int32)), .unset, .unset, .unset] [(.int (2 : Int32))])) (fun t ht => ?_) ?_
  · refine XS.iloadN X0.here hx rfl (hb hby dCt2_0) rfl ?_
    exact ht
  obtain ⟨T1, h1, k1, X1, e1, E1, A1, st1⟩ := newP X0 hx hZ (hw _ (List.mem_of_getElem? (i := 22) rfl)) e0 (g := (mkF m 1 #[.val (.ref a0), .val (.int (0 : Int32)), .val (.int (2 : Int32)), .unset, .unset, .unset] [(.int (2 : Int32))])) rfl (hb hby dCt2_1) rfl (by decide) (cap := 2) (by decide) (by decide) (by decide) (by decide)
  obtain ⟨b1, gq1⟩ : ∃ z, z = h0.size := ⟨_, rfl⟩
  rw [← gq1] at A1 st1
  have g2 : n0 ≤ b1 := (Nat.le_trans Z0 (Nat.le_of_eq gq1.symm))
  have sz3 : h0.size ≤ b1 := (Nat.le_trans K0.1 (Nat.le_of_eq gq1.symm))
  have ne4 : a0 ≠ b1 := (Nat.ne_of_lt (Nat.lt_of_lt_of_le V1.lt (Nat.le_of_eq gq1.symm)))
  have f5 := V1.ext E1
  have Z6 : n0 ≤ h1.size := (Nat.le_trans Z0 E1.1)
  have K7 : Keep h0 h1 [] := (K0.ext E1)
  have f8 : Arv Z h1 b1 k1 .byte (2 : Int32) [(.int (0 : Int32)), (.int (0 : Int32))] (.int (0 : Int32)) := ((Arv.new A1 (by decide)).pad (pad_rep [] (.int (0 : Int32)) 2))
  refine OFin.of (S' := T1.setTop (mkF m 3 #[.val (.ref a0), .val (.int (0 : Int32)), .val (.int (2 : Int32)), .unset, .unset, .unset] [(.ref b1)])) (fun t ht => st1 t ht) ?_
  refine OFin.of (S' := T1.setTop (mkF m 9 #[.val (.ref a0), .val (.int (0 : Int32)), .val (.int (2 : Int32)), .val (.ref b1), .unset, .unset] [(.int (2 : Int32)), (.int (0 : Int32)), (.ref b1), (.int (0 : Int32)), (.ref a0)])) (fun t ht => ?_) ?_
  · refine XS.astoreN X1.here hx rfl (hb hby dCt2_3) rfl rfl (l' := #[.val (.ref a0), .val (.int (0 : Int32)), .val (.int (2 : Int32)), .val (.ref b1), .unset, .unset]) rfl ?_
    show Steps p.tables e below (T1.setTop (mkF m 4 #[.val (.ref a0), .val (.int (0 : Int32)), .val (.int (2 : Int32)), .val (.ref b1), .unset, .unset] [])) _
    refine XS.aloadN X1.here hx rfl (hb hby dCt2_4) rfl rfl ?_
    show Steps p.tables e below (T1.setTop (mkF m 5 _ [(.ref a0)])) _
    refine XS.iloadN X1.here hx rfl (hb hby dCt2_5) rfl ?_
    show Steps p.tables e below (T1.setTop (mkF m 6 _ [(.int (0 : Int32)), (.ref a0)])) _
    refine XS.aloadN X1.here hx rfl (hb hby dCt2_6) rfl rfl ?_
    show Steps p.tables e below (T1.setTop (mkF m 7 _ [(.ref b1), (.int (0 : Int32)), (.ref a0)])) _
    refine XS.iconst X1.here hx rfl (hb hby dCt2_7) ?_
    show Steps p.tables e below (T1.setTop (mkF m 8 _ [(.int (0 : Int32)), (.ref b1), (.int (0 : Int32)), (.ref a0)])) _
    refine XS.iloadN X1.here hx rfl (hb hby dCt2_8) rfl ?_
    exact ht
  obtain ⟨_, _, ⟨T9, L9, k9, n9⟩, -, X9, ⟨Lc9, hQ9, l9, y9, z9⟩, st9⟩ := Jvm.LawKit.callS X1 hx (y := (⟨"java/lang/StringUTF16", "compress", "([CI[BII)I"⟩ : MethodName)) hown (mvT hZ (hw _ (List.mem_of_getElem? (i := 84) rfl))) (mvT hZ (hw _ (List.mem_of_getElem? (i := 85) rfl))) (mvT hZ (hw _ (List.mem_of_getElem? (i := 82) rfl))) (mvT hZ (hw _ (List.mem_of_getElem? (i := 86) rfl))) (by decide) (backOf (W := 0) (rmCf2 l Z _ hw [] a0 b1 kc k1 c0 c1 h1 n0 Z6 f5 f8 g2 ne4 hp0 hp1) hZ (hw _ (List.mem_of_getElem? (i := 86) rfl)) (hw _ (List.mem_of_getElem? (i := 82) rfl)) (by decide) (by decide)) (g := (mkF m 9 #[.val (.ref a0), .val (.int (0 : Int32)), .val (.int (2 : Int32)), .val (.ref b1), .unset, .unset] [(.int (2 : Int32)), (.int (0 : Int32)), (.ref b1), (.int (0 : Int32)), (.ref a0)])) rfl (by rw [hml]; rfl) (argsL := [(.ref a0), (.int (0 : Int32)), (.ref b1), (.int (0 : Int32)), (.int (2 : Int32))]) (rest := []) (lenOf pd_2 rfl) rfl (by show 2 * 0 + _ ≤ _; exact Nat.le_of_eq rfl) (hb hby dCt2_9) (fun _ _ => ⟨rfl, e1, (by decide : 1 + 0 ≤ _), (by decide : 2 + 0 ≤ _)⟩)
  dsimp only [Pt.U, Pt.locs, Pt.cells, Pt.slots] at X9 l9 y9 z9 st9 hQ9
  subst l9 y9 z9
  obtain ⟨rfl, Nq9, Kq9, f10⟩ := hQ9
  have N11 := Fr.app N0 Nq9
  have f12 := (f5.keep Kq9 (ninS ne4 nin0))
  have Z13 : n0 ≤ T9.heap.size := (Nat.le_trans Z6 Kq9.1)
  have K14 : Keep h0 T9.heap [] := (K7.trans Kq9 (allS (Or.inr sz3) all0))
  refine OFin.of (S' := T9.setTop (mkF m 12 #[.val (.ref a0), .val (.int (0 : Int32)), .val (.int (2 : Int32)), .val (.ref b1), .unset, .unset] [(.int (2 : Int32))])) (fun t ht => st9 t ht) ?_
  refine OFin.of (S' := T9.setTop (mkF m 58 #[.val (.ref a0), .val (.int (0 : Int32)), .val (.int (2 : Int32)), .val (.ref b1), .val (.int (2 : Int32)), .unset] [(.ref b1)])) (fun t ht => ?_) ?_
  · refine XS.istore X9.here hx rfl (hb hby dCt2_12) rfl (l' := #[.val (.ref a0), .val (.int (0 : Int32)), .val (.int (2 : Int32)), .val (.ref b1), .val (.int (2 : Int32)), .unset]) rfl ?_
    show Steps p.tables e below (T9.setTop (mkF m 14 #[.val (.ref a0), .val (.int (0 : Int32)), .val (.int (2 : Int32)), .val (.ref b1), .val (.int (2 : Int32)), .unset] [])) _
    refine XS.iload X9.here hx rfl (hb hby dCt2_14) rfl ?_
    show Steps p.tables e below (T9.setTop (mkF m 16 _ [(.int (2 : Int32))])) _
    refine XS.iloadN X9.here hx rfl (hb hby dCt2_16) rfl ?_
    show Steps p.tables e below (T9.setTop (mkF m 17 _ [(.int (2 : Int32)), (.int (2 : Int32))])) _
    refine XS.icmpYes X9.here hx rfl (pc0 := 17) (pc' := 57) rfl (hb hby dCt2_17) rfl (teq (by decide : (2 : Int32) = (2 : Int32))).1 (by decide) (by decide) ?_
    show Steps p.tables e below (T9.setTop (mkF m 57 _ [])) _
    refine XS.aloadN X9.here hx rfl (hb hby dCt2_57) rfl rfl ?_
    exact ht
  exact OFin.retA X9 hx hlk (t := (.array .byte)) rfl rfl hret (hb hby dCt2_58) (by decide) (by decide) (by exact ⟨by rw [← gq1], N11, K14, k1, by rw [← gq1]; exact f10⟩)
theorem dCd2_0 : decode jdk_52_method_15_code 0 = .ok (.iload_n 1, 1) := by decide +kernel
theorem dCd2_1 : decode jdk_52_method_15_code 1 = .ok (.aload_n 0, 1) := by decide +kernel
theorem dCd2_2 : decode jdk_52_method_15_code 2 = .ok (.arraylength, 1) := by decide +kernel
theorem dCd2_3 : decode jdk_52_method_15_code 3 = .ok (.isub, 1) := by decide +kernel
theorem dCd2_4 : decode jdk_52_method_15_code 4 = .ok (.bipush 31, 2) := by decide +kernel
theorem dCd2_6 : decode jdk_52_method_15_code 6 = .ok (.iushr, 1) := by decide +kernel
theorem dCd2_7 : decode jdk_52_method_15_code 7 = .ok (.i2b, 1) := by decide +kernel
theorem dCd2_8 : decode jdk_52_method_15_code 8 = .ok (.ireturn, 1) := by decide +kernel
theorem pnCd2 : plainName "java/lang/StringUTF16" = true := by first | (simp [plainName, overriddenIn]; done) | decide +kernel
theorem efCd2 (m : MethodId) (a0 : Addr) : entryFrame m #[(.ref a0), (.int (2 : Int32))] 2 = mkF m 0 #[.val (.ref a0), .val (.int (2 : Int32))] [] := by first | (simp [entryFrame, mkF, argsToLocals, Value.category]; done) | rfl
def QCd2 (Z : State) (a0 : Addr) (k : ClassId) (x0 : Int32) (x1 : Int32) (h0 : Heap) (n0 : Nat) (v : Option Value) (h : Heap) (L : List Loc) : Prop := v = some (.int (0 : Int32)) ∧ Fr n0 L ∧ h = h0
set_option maxRecDepth 65536 in
set_option maxHeartbeats 40000000 in
theorem rmCd2 (l : Launch) (Z : State) (a0 : Array Value) (hw : ∀ d ∈ tables_1, d.before a0 Z = true) (ws : List Jvm.Cond) (a0 : Addr) (k : ClassId) (x0 : Int32) (x1 : Int32) (h0 : Heap) (n0 : Nat) (Z0 : n0 ≤ h0.size) (V1 : Arv Z h0 a0 k .byte (2 : Int32) [(.int x0), (.int x1)] (.int (0 : Int32))) :
    MetFree l (⟨"java/lang/StringUTF16", "coderFromArrayLen", "([BI)B"⟩ : MethodName) (head1 (Jvm.Cond.code (⟨"java/lang/StringUTF16", "coderFromArrayLen", "([BI)B"⟩ : MethodName) jdk_52_method_15_code 2 (some .byte) :: ws) ({ frames := 0, cells := 0, slots := 0, locals := 0 } : Room)) (fun a U => a = #[(.ref a0), (.int (2 : Int32))] ∧ Z.Warmed39 U.vm ∧ U.heap = h0) (fun _ _ _ _ _ => True) (fun _ U o U' => ∃ v L, o = .returned v ∧ QCd2 Z a0 k x0 x1 h0 n0 v U'.heap L ∧ FrameEnd U o U' L ({ frames := 0, cells := 0, slots := 0, locals := 0 } : Room).cells ({ frames := 0, cells := 0, slots := 0, locals := 0 } : Room).slots) := by
  refine MetFree.of_bodySF (plainFor_of_name pnCd2) hisR ?_
  intro p e s m args below meth c s₁ Bd hml0 hP hK
  obtain ⟨rfl, hZ, hh⟩ := hP
  have hx := Bd.exec
  have hby := Bd.bytes
  have hlk := BodyLoose.notSynchronized Bd
  have hret := Bd.returns
  have hml : c.maxLocals = 2 := hml0
  have hown : s.vm.findClass "java/lang/StringUTF16" = some m.cls := findClass_of_methodNamed Bd.named
  have hnm := (name_of_methodNamed Bd.named Bd.method).1
  have X0 : Stand p l e ({ frames := 0, cells := 0, slots := 0, locals := 0 } : Room) s m #[(.ref a0), (.int (2 : Int32))] below meth c s₁ [] 0 0 := Stand.of_body Bd
  have e0 : s₁.heap = h0 := by rw [← hh, Bd.state]; rfl
  have N0 := Fr.nil n0
  show OFin p e below (KPost s (QCd2 Z a0 k x0 x1 h0 n0) ({ frames := 0, cells := 0, slots := 0, locals := 0 } : Room).cells ({ frames := 0, cells := 0, slots := 0, locals := 0 } : Room).slots) _
  rw [efCd2 m a0]
  refine OFin.of (S' := s₁.setTop (mkF m 2 #[.val (.ref a0), .val (.int (2 : Int32))] [(.ref a0), (.int (2 : Int32))])) (fun t ht => ?_) ?_
  · refine XS.iloadN X0.here hx rfl (hb hby dCd2_0) rfl ?_
    show Steps p.tables e below (s₁.setTop (mkF m 1 _ [(.int (2 : Int32))])) _
    refine XS.aloadN X0.here hx rfl (hb hby dCd2_1) rfl rfl ?_
    exact ht
  obtain ⟨cl1, Ar1, q1, S1, Ng1, H1, G1⟩ := id V1
  refine OFin.of (S' := s₁.setTop (mkF m 3 #[.val (.ref a0), .val (.int (2 : Int32))] [(.int (2 : Int32)), (.int (2 : Int32))])) (fun t ht => own_alen X0 hx hZ e0 Ar1 S1 Ng1 (g := (mkF m 2 #[.val (.ref a0), .val (.int (2 : Int32))] [(.ref a0), (.int (2 : Int32))])) rfl rfl (hb hby dCd2_2) ht) ?_
  refine OFin.of (S' := s₁.setTop (mkF m 8 #[.val (.ref a0), .val (.int (2 : Int32))] [(.int ((((0 : Int32).toUInt32 >>> ((31 : Int32) &&& 31).toUInt32).toInt32).toInt8.toInt32))])) (fun t ht => ?_) ?_
  · refine XS.isub X0.here hx rfl (hb hby dCd2_3) rfl ?_
    show Steps p.tables e below (s₁.setTop (mkF m 4 _ [(.int (0 : Int32))])) _
    refine XS.bipush X0.here hx rfl (hb hby dCd2_4) ?_
    show Steps p.tables e below (s₁.setTop (mkF m 6 _ [(.int (31 : Int32)), (.int (0 : Int32))])) _
    refine XS.iushr X0.here hx rfl (hb hby dCd2_6) rfl ?_
    show Steps p.tables e below (s₁.setTop (mkF m 7 _ [(.int (((0 : Int32).toUInt32 >>> ((31 : Int32) &&& 31).toUInt32).toInt32))])) _
    refine XS.i2b X0.here hx rfl (hb hby dCd2_7) rfl ?_
    exact ht
  exact OFin.retB X0 hx hlk (t := .byte) (by simp) hret (hb hby dCd2_8) (by decide) (by decide) (by rw [e0]; exact ⟨(by show some (Value.int (nar .byte ((((0 : Int32).toUInt32 >>> ((31 : Int32) &&& 31).toUInt32).toInt32).toInt8.toInt32))) = _; rfl), N0, rfl⟩)
theorem dSf2_0 : decode jdk_42_method_149_code 0 = .ok (.aload_n 0, 1) := by decide +kernel
theorem dSf2_1 : decode jdk_42_method_149_code 1 = .ok (.invokespecial 1, 3) := by decide +kernel
theorem dSf2_4 : decode jdk_42_method_149_code 4 = .ok (.iload_n 3, 1) := by decide +kernel
theorem dSf2_5 : decode jdk_42_method_149_code 5 = .ok (.ifCond .ne 22, 3) := by decide +kernel
theorem dSf2_27 : decode jdk_42_method_149_code 27 = .ok (.getstatic 38, 3) := by decide +kernel
theorem dSf2_30 : decode jdk_42_method_149_code 30 = .ok (.ifCond .eq 28, 3) := by decide +kernel
theorem dSf2_33 : decode jdk_42_method_149_code 33 = .ok (.aload_n 1, 1) := by decide +kernel
theorem dSf2_34 : decode jdk_42_method_149_code 34 = .ok (.iload_n 2, 1) := by decide +kernel
theorem dSf2_35 : decode jdk_42_method_149_code 35 = .ok (.iload_n 3, 1) := by decide +kernel
theorem dSf2_36 : decode jdk_42_method_149_code 36 = .ok (.invokestatic 177, 3) := by decide +kernel
theorem dSf2_39 : decode jdk_42_method_149_code 39 = .ok (.astore 5, 2) := by decide +kernel
theorem dSf2_41 : decode jdk_42_method_149_code 41 = .ok (.aload_n 0, 1) := by decide +kernel
theorem dSf2_42 : decode jdk_42_method_149_code 42 = .ok (.aload 5, 2) := by decide +kernel
theorem dSf2_44 : decode jdk_42_method_149_code 44 = .ok (.iload_n 3, 1) := by decide +kernel
theorem dSf2_45 : decode jdk_42_method_149_code 45 = .ok (.invokestatic 47, 3) := by decide +kernel
theorem dSf2_48 : decode jdk_42_method_149_code 48 = .ok (.putfield 15, 3) := by decide +kernel
theorem dSf2_51 : decode jdk_42_method_149_code 51 = .ok (.aload_n 0, 1) := by decide +kernel
theorem dSf2_52 : decode jdk_42_method_149_code 52 = .ok (.aload 5, 2) := by decide +kernel
theorem dSf2_54 : decode jdk_42_method_149_code 54 = .ok (.putfield 9, 3) := by decide +kernel
theorem dSf2_57 : decode jdk_42_method_149_code 57 = .ok (.return_, 1) := by decide +kernel
theorem pnSf2 : plainName "java/lang/String" = true := by first | (simp [plainName, overriddenIn]; done) | decide +kernel
theorem efSf2 (m : MethodId) (a0 : Addr) (a1 : Addr) : entryFrame m #[(.ref a0), (.ref a1), (.int (0 : Int32)), (.int (2 : Int32)), .null] 6 = mkF m 0 #[.val (.ref a0), .val (.ref a1), .val (.int (0 : Int32)), .val (.int (2 : Int32)), .val .null, .unset] [] := by first | (simp [entryFrame, mkF, argsToLocals, Value.category]; done) | rfl
def QSf2 (Z : State) (a0 : Addr) (a1 : Addr) (kc : ClassId) (cs : Int32) (c0 : Int32) (c1 : Int32) (h0 : Heap) (n0 : Nat) (v : Option Value) (h : Heap) (L : List Loc) : Prop := v = none ∧ Fr n0 L ∧ Keep h0 h [a0] ∧ Fld Z h a0 "java/lang/String" "coder" "B" (.int (0 : Int32)) ∧ Fld Z h a0 "java/lang/String" "value" "[B" (.ref h0.size) ∧ ∃ kb, Arv Z h h0.size kb .byte (2 : Int32) [(.int ((c0.toInt8.toInt32).toInt8.toInt32)), (.int ((c1.toInt8.toInt32).toInt8.toInt32))] (.int (0 : Int32))
set_option maxRecDepth 65536 in
set_option maxHeartbeats 40000000 in
theorem rmSf2 (l : Launch) (Z : State) (a0 : Array Value) (hw : ∀ d ∈ tables_1, d.before a0 Z = true) (ws : List Jvm.Cond) (a0 : Addr) (a1 : Addr) (kc : ClassId) (cs : Int32) (c0 : Int32) (c1 : Int32) (h0 : Heap) (n0 : Nat) (Z0 : n0 ≤ h0.size) (E0 : Exa Z h0 a0 "java/lang/String") (Fc : Fld Z h0 a0 "java/lang/String" "coder" "B" (.int (0 : Int32))) (Fv : Fld Z h0 a0 "java/lang/String" "value" "[B" .null) (V1 : Arv Z h0 a1 kc .char (2 : Int32) [(.int c0), (.int c1)] (.int (0 : Int32))) (g0 : n0 ≤ a0) (hne : a1 ≠ a0) (Scs : Sta Z h0 "java/lang/String" "COMPACT_STRINGS" "Z" (.int cs)) (hcs : ¬ cs = (0 : Int32)) (hp0 : ¬ (255 : Int32) < c0) (hp1 : ¬ (255 : Int32) < c1) :
    MetFree l (⟨"java/lang/String", "<init>", "([CIILjava/lang/Void;)V"⟩ : MethodName) (head1 (Jvm.Cond.code (⟨"java/lang/String", "<init>", "([CIILjava/lang/Void;)V"⟩ : MethodName) jdk_42_method_149_code 6 none :: ws) ({ frames := 2, cells := 1, slots := 2, locals := 35 } : Room)) (fun a U => a = #[(.ref a0), (.ref a1), (.int (0 : Int32)), (.int (2 : Int32)), .null] ∧ Z.Warmed39 U.vm ∧ U.heap = h0) (fun _ _ _ _ _ => True) (fun _ U o U' => ∃ v L, o = .returned v ∧ QSf2 Z a0 a1 kc cs c0 c1 h0 n0 v U'.heap L ∧ FrameEnd U o U' L ({ frames := 2, cells := 1, slots := 2, locals := 35 } : Room).cells ({ frames := 2, cells := 1, slots := 2, locals := 35 } : Room).slots) := by
  refine MetFree.of_bodySF (plainFor_of_name pnSf2) hisR ?_
  intro p e s m args below meth c s₁ Bd hml0 hP hK
  obtain ⟨rfl, hZ, hh⟩ := hP
  have hx := Bd.exec
  have hby := Bd.bytes
  have hlk := BodyLoose.notSynchronized Bd
  have hret := Bd.returns
  have hml : c.maxLocals = 6 := hml0
  have hown : s.vm.findClass "java/lang/String" = some m.cls := findClass_of_methodNamed Bd.named
  have hnm := (name_of_methodNamed Bd.named Bd.method).1
  have X0 : Stand p l e ({ frames := 2, cells := 1, slots := 2, locals := 35 } : Room) s m #[(.ref a0), (.ref a1), (.int (0 : Int32)), (.int (2 : Int32)), .null] below meth c s₁ [] 0 0 := Stand.of_body Bd
  have e0 : s₁.heap = h0 := by rw [← hh, Bd.state]; rfl
  have N0 := Fr.nil n0
  show OFin p e below (KPost s (QSf2 Z a0 a1 kc cs c0 c1 h0 n0) ({ frames := 2, cells := 1, slots := 2, locals := 35 } : Room).cells ({ frames := 2, cells := 1, slots := 2, locals := 35 } : Room).slots) _
  rw [efSf2 m a0 a1]
  have K0 : Keep h0 h0 [a0] := Keep.refl _ _
  refine OFin.of (S' := s₁.setTop (mkF m 1 #[.val (.ref a0), .val (.ref a1), .val (.int (0 : Int32)), .val (.int (2 : Int32)), .val .null, .unset] [(.ref a0)])) (fun t ht => ?_) ?_
  · refine XS.aloadN X0.here hx rfl (hb hby dSf2_0) rfl rfl ?_
    exact ht
  obtain ⟨T1, X1, e1, st1⟩ := initO X0 hx hZ hown (hw _ (List.mem_of_getElem? (i := 18) rfl)) (hw _ (List.mem_of_getElem? (i := 19) rfl)) (hw _ (List.mem_of_getElem? (i := 20) rfl)) e0 (g := (mkF m 1 #[.val (.ref a0), .val (.ref a1), .val (.int (0 : Int32)), .val (.int (2 : Int32)), .val .null, .unset] [(.ref a0)])) rfl (by rw [hml]; rfl) rfl (hb hby dSf2_1) (by decide) (W := 0) (by show 2 * 0 + _ ≤ _; exact Nat.le_of_eq rfl) (by decide)
  refine OFin.of (S' := T1.setTop (mkF m 4 #[.val (.ref a0), .val (.ref a1), .val (.int (0 : Int32)), .val (.int (2 : Int32)), .val .null, .unset] [])) (fun t ht => st1 t ht) ?_
  refine OFin.of (S' := T1.setTop (mkF m 27 #[.val (.ref a0), .val (.ref a1), .val (.int (0 : Int32)), .val (.int (2 : Int32)), .val .null, .unset] [])) (fun t ht => ?_) ?_
  · refine XS.iloadN X1.here hx rfl (hb hby dSf2_4) rfl ?_
    show Steps p.tables e below (T1.setTop (mkF m 5 _ [(.int (2 : Int32))])) _
    refine XS.ifYes X1.here hx rfl (pc0 := 5) (pc' := 27) rfl (hb hby dSf2_5) rfl ((if0 _ _).trans (feq (by decide : ¬ ((2 : Int32) = (0 : Int32)))).2) (by decide) (by decide) ?_
    exact ht
  obtain ⟨T2, X2, e2, st2⟩ := getS (host := "") X1 hx hZ hown (hw _ (List.mem_of_getElem? (i := 60) rfl)) Via.refl e1 Scs (g := (mkF m 27 #[.val (.ref a0), .val (.ref a1), .val (.int (0 : Int32)), .val (.int (2 : Int32)), .val .null, .unset] [])) rfl (hb hby dSf2_27)
  refine OFin.of (S' := T2.setTop (mkF m 30 #[.val (.ref a0), .val (.ref a1), .val (.int (0 : Int32)), .val (.int (2 : Int32)), .val .null, .unset] [(.int cs)])) (fun t ht => st2 t ht) ?_
  refine OFin.of (S' := T2.setTop (mkF m 36 #[.val (.ref a0), .val (.ref a1), .val (.int (0 : Int32)), .val (.int (2 : Int32)), .val .null, .unset] [(.int (2 : Int32)), (.int (0 : Int32)), (.ref a1)])) (fun t ht => ?_) ?_
  · refine XS.ifNo X2.here hx rfl (hb hby dSf2_30) rfl ((if0 _ _).trans (feq (hcs : ¬ (cs = (0 : Int32)))).1) ?_
    show Steps p.tables e below (T2.setTop (mkF m 33 _ [])) _
    refine XS.aloadN X2.here hx rfl (hb hby dSf2_33) rfl rfl ?_
    show Steps p.tables e below (T2.setTop (mkF m 34 _ [(.ref a1)])) _
    refine XS.iloadN X2.here hx rfl (hb hby dSf2_34) rfl ?_
    show Steps p.tables e below (T2.setTop (mkF m 35 _ [(.int (0 : Int32)), (.ref a1)])) _
    refine XS.iloadN X2.here hx rfl (hb hby dSf2_35) rfl ?_
    exact ht
  obtain ⟨_, _, ⟨T3, L3, k3, n3⟩, -, X3, ⟨Lc3, hQ3, l3, y3, z3⟩, st3⟩ := Jvm.LawKit.callS X2 hx (y := (⟨"java/lang/StringUTF16", "compress", "([CII)[B"⟩ : MethodName)) hown (mvT hZ (hw _ (List.mem_of_getElem? (i := 80) rfl))) (mvT hZ (hw _ (List.mem_of_getElem? (i := 81) rfl))) (mvT hZ (hw _ (List.mem_of_getElem? (i := 82) rfl))) (mvT hZ (hw _ (List.mem_of_getElem? (i := 83) rfl))) (by decide) (backOf (W := 0) (rmCt2 l Z _ hw [] a1 kc c0 c1 h0 n0 Z0 V1 hp0 hp1) hZ (hw _ (List.mem_of_getElem? (i := 83) rfl)) (hw _ (List.mem_of_getElem? (i := 82) rfl)) (by decide) (by decide)) (g := (mkF m 36 #[.val (.ref a0), .val (.ref a1), .val (.int (0 : Int32)), .val (.int (2 : Int32)), .val .null, .unset] [(.int (2 : Int32)), (.int (0 : Int32)), (.ref a1)])) rfl (by rw [hml]; rfl) (argsL := [(.ref a1), (.int (0 : Int32)), (.int (2 : Int32))]) (rest := []) (lenOf pd_3 rfl) rfl (by show 2 * 0 + _ ≤ _; exact Nat.le_of_eq rfl) (hb hby dSf2_36) (fun _ _ => ⟨rfl, e2, (by decide : 0 + 1 ≤ _), (by decide : 0 + 2 ≤ _)⟩)
  dsimp only [Pt.U, Pt.locs, Pt.cells, Pt.slots] at X3 l3 y3 z3 st3 hQ3
  subst l3 y3 z3
  obtain ⟨rfl, Nq3, Kq3, ⟨kb_3, f4⟩⟩ := hQ3
  have N5 := Fr.app N0 Nq3
  obtain ⟨b3, gq3⟩ : ∃ z, z = h0.size := ⟨_, rfl⟩
  rw [← gq3] at f4 st3
  have g6 : n0 ≤ b3 := (Nat.le_trans Z0 (Nat.le_of_eq gq3.symm))
  have sz7 : h0.size ≤ b3 := (Nat.le_trans K0.1 (Nat.le_of_eq gq3.symm))
  have ne8 : a0 ≠ b3 := (Nat.ne_of_lt (Nat.lt_of_lt_of_le E0.lt (Nat.le_of_eq gq3.symm)))
  have ne9 : a1 ≠ b3 := (Nat.ne_of_lt (Nat.lt_of_lt_of_le V1.lt (Nat.le_of_eq gq3.symm)))
  have f10 := (E0.keep Kq3)
  have f11 := (Fc.keep Kq3 nin0)
  have f12 := (Fv.keep Kq3 nin0)
  have f13 := (V1.keep Kq3 nin0)
  have f14 := (own_staKeep Scs Kq3 own_sn0)
  have Z15 : n0 ≤ T3.heap.size := (Nat.le_trans Z0 Kq3.1)
  have K16 : Keep h0 T3.heap [a0] := (K0.trans Kq3 all0)
  refine OFin.of (S' := T3.setTop (mkF m 39 #[.val (.ref a0), .val (.ref a1), .val (.int (0 : Int32)), .val (.int (2 : Int32)), .val .null, .unset] [(.ref b3)])) (fun t ht => st3 t ht) ?_
  refine OFin.of (S' := T3.setTop (mkF m 45 #[.val (.ref a0), .val (.ref a1), .val (.int (0 : Int32)), .val (.int (2 : Int32)), .val .null, .val (.ref b3)] [(.int (2 : Int32)), (.ref b3), (.ref a0)])) (fun t ht => ?_) ?_
  · refine XS.astore X3.here hx rfl (hb hby dSf2_39) rfl rfl (l' := #[.val (.ref a0), .val (.ref a1), .val (.int (0 : Int32)), .val (.int (2 : Int32)), .val .null, .val (.ref b3)]) rfl ?_
    show Steps p.tables e below (T3.setTop (mkF m 41 #[.val (.ref a0), .val (.ref a1), .val (.int (0 : Int32)), .val (.int (2 : Int32)), .val .null, .val (.ref b3)] [])) _
    refine XS.aloadN X3.here hx rfl (hb hby dSf2_41) rfl rfl ?_
    show Steps p.tables e below (T3.setTop (mkF m 42 _ [(.ref a0)])) _
    refine XS.aload X3.here hx rfl (hb hby dSf2_42) rfl rfl ?_
    show Steps p.tables e below (T3.setTop (mkF m 44 _ [(.ref b3), (.ref a0)])) _
    refine XS.iloadN X3.here hx rfl (hb hby dSf2_44) rfl ?_
    exact ht
  obtain ⟨_, _, ⟨T17, L17, k17, n17⟩, -, X17, ⟨Lc17, hQ17, l17, y17, z17⟩, st17⟩ := Jvm.LawKit.callS X3 hx (y := (⟨"java/lang/StringUTF16", "coderFromArrayLen", "([BI)B"⟩ : MethodName)) hown (mvT hZ (hw _ (List.mem_of_getElem? (i := 87) rfl))) (mvT hZ (hw _ (List.mem_of_getElem? (i := 88) rfl))) (mvT hZ (hw _ (List.mem_of_getElem? (i := 82) rfl))) (mvT hZ (hw _ (List.mem_of_getElem? (i := 89) rfl))) (by decide) (backOf (W := 1) (rmCd2 l Z _ hw [] b3 kb_3 ((c0.toInt8.toInt32).toInt8.toInt32) ((c1.toInt8.toInt32).toInt8.toInt32) T3.heap n0 Z15 f4) hZ (hw _ (List.mem_of_getElem? (i := 89) rfl)) (hw _ (List.mem_of_getElem? (i := 82) rfl)) (by decide) (by decide)) (g := (mkF m 45 #[.val (.ref a0), .val (.ref a1), .val (.int (0 : Int32)), .val (.int (2 : Int32)), .val .null, .val (.ref b3)] [(.int (2 : Int32)), (.ref b3), (.ref a0)])) rfl (by rw [hml]; rfl) (argsL := [(.ref b3), (.int (2 : Int32))]) (rest := [(.ref a0)]) (lenOf pd_4 rfl) rfl (by show 2 * 0 + _ ≤ _; exact Nat.le_of_eq rfl) (hb hby dSf2_45) (fun _ _ => ⟨rfl, (rfl : T3.heap = T3.heap), (by decide : 1 + 0 ≤ _), (by decide : 2 + 0 ≤ _)⟩)
  dsimp only [Pt.U, Pt.locs, Pt.cells, Pt.slots] at X17 l17 y17 z17 st17 hQ17
  subst l17 y17 z17
  obtain ⟨rfl, Nq17, hs17⟩ := hQ17
  have N18 := Fr.app N5 Nq17
  refine OFin.of (S' := T17.setTop (mkF m 48 #[.val (.ref a0), .val (.ref a1), .val (.int (0 : Int32)), .val (.int (2 : Int32)), .val .null, .val (.ref b3)] [(.int (0 : Int32)), (.ref a0)])) (fun t ht => st17 t ht) ?_
  obtain ⟨T19, h19, X19, e19, W19, st19⟩ := putFN X17 hx hZ hown (hw _ (List.mem_of_getElem? (i := 28) rfl)) Via.refl hs17 f11 f10 (Or.inr ⟨(hw _ (List.mem_of_getElem? (i := 24) rfl)), rfl, hnm⟩) (hw _ (List.mem_of_getElem? (i := 8) rfl)) (ty := .byte) (v' := (.int (0 : Int32))) (by decide) rfl rfl (g := (mkF m 48 #[.val (.ref a0), .val (.ref a1), .val (.int (0 : Int32)), .val (.int (2 : Int32)), .val .null, .val (.ref b3)] [(.int (0 : Int32)), (.ref a0)])) rfl rfl (hb hby dSf2_48)
  have f20 := (f10.wr W19)
  have f21 := (f12.other W19 (Or.inr (slot_ne (Or.inr (hw _ (List.mem_of_getElem? (i := 23) rfl))) (Or.inr (hw _ (List.mem_of_getElem? (i := 24) rfl))) (by decide) (t := (.array .byte)) (t' := .byte) (by decide) (by decide))))
  have f22 := (f13.other W19 hne)
  have f23 := (f14.wr W19)
  have f24 := (f4.other W19 (Ne.symm ne8))
  have Z25 : n0 ≤ h19.size := (Nat.le_trans Z15 (Keep.of_wr W19).1)
  have K26 : Keep h0 h19 [a0] := (K16.wr W19 (Or.inl (List.mem_of_getElem? (i := 0) rfl)))
  have N27 := Fr.snoc X19 N18 g0
  have f28 : Fld Z h19 a0 "java/lang/String" "coder" "B" (.int (0 : Int32)) := (f11.same W19)
  refine OFin.of (S' := T19.setTop (mkF m 51 #[.val (.ref a0), .val (.ref a1), .val (.int (0 : Int32)), .val (.int (2 : Int32)), .val .null, .val (.ref b3)] [])) (fun t ht => st19 t ht) ?_
  refine OFin.of (S' := T19.setTop (mkF m 54 #[.val (.ref a0), .val (.ref a1), .val (.int (0 : Int32)), .val (.int (2 : Int32)), .val .null, .val (.ref b3)] [(.ref b3), (.ref a0)])) (fun t ht => ?_) ?_
  · refine XS.aloadN X19.here hx rfl (hb hby dSf2_51) rfl rfl ?_
    show Steps p.tables e below (T19.setTop (mkF m 52 _ [(.ref a0)])) _
    refine XS.aload X19.here hx rfl (hb hby dSf2_52) rfl rfl ?_
    exact ht
  obtain ⟨T29, h29, X29, e29, W29, st29⟩ := putF X19 hx hZ hown (host := "") (Or.inl (hw _ (List.mem_of_getElem? (i := 27) rfl))) Via.refl e19 f21 f20 (Or.inr ⟨(hw _ (List.mem_of_getElem? (i := 23) rfl)), rfl, hnm⟩) (hw _ (List.mem_of_getElem? (i := 8) rfl)) (ty := (.array .byte)) (by decide) rfl rfl (g := (mkF m 54 #[.val (.ref a0), .val (.ref a1), .val (.int (0 : Int32)), .val (.int (2 : Int32)), .val .null, .val (.ref b3)] [(.ref b3), (.ref a0)])) rfl rfl (hb hby dSf2_54)
  have f30 := (f20.wr W29)
  have f31 := (f22.other W29 hne)
  have f32 := (f23.wr W29)
  have f33 := (f24.other W29 (Ne.symm ne8))
  have f34 := (f28.other W29 (Or.inr (slot_ne (Or.inr (hw _ (List.mem_of_getElem? (i := 24) rfl))) (Or.inr (hw _ (List.mem_of_getElem? (i := 23) rfl))) (by decide) (t := .byte) (t' := (.array .byte)) (by decide) (by decide))))
  have Z35 : n0 ≤ h29.size := (Nat.le_trans Z25 (Keep.of_wr W29).1)
  have K36 : Keep h0 h29 [a0] := (K26.wr W29 (Or.inl (List.mem_of_getElem? (i := 0) rfl)))
  have N37 := Fr.snoc X29 N27 g0
  have f38 : Fld Z h29 a0 "java/lang/String" "value" "[B" (.ref b3) := (f21.same W29)
  refine OFin.of (S' := T29.setTop (mkF m 57 #[.val (.ref a0), .val (.ref a1), .val (.int (0 : Int32)), .val (.int (2 : Int32)), .val .null, .val (.ref b3)] [])) (fun t ht => st29 t ht) ?_
  exact OFin.retV X29 hx hlk hret (hb hby dSf2_57) (by decide) (by decide) (by rw [e29]; exact ⟨rfl, N37, K36, f34, by rw [← gq3]; exact f38, kb_3, by rw [← gq3]; exact f33⟩)
theorem dSi2_0 : decode jdk_42_method_3_code 0 = .ok (.aload_n 0, 1) := by decide +kernel
theorem dSi2_1 : decode jdk_42_method_3_code 1 = .ok (.aload_n 1, 1) := by decide +kernel
theorem dSi2_2 : decode jdk_42_method_3_code 2 = .ok (.iconst 0, 1) := by decide +kernel
theorem dSi2_3 : decode jdk_42_method_3_code 3 = .ok (.aload_n 1, 1) := by decide +kernel
theorem dSi2_4 : decode jdk_42_method_3_code 4 = .ok (.arraylength, 1) := by decide +kernel
theorem dSi2_5 : decode jdk_42_method_3_code 5 = .ok (.aconst_null, 1) := by decide +kernel
theorem dSi2_6 : decode jdk_42_method_3_code 6 = .ok (.invokespecial 27, 3) := by decide +kernel
theorem dSi2_9 : decode jdk_42_method_3_code 9 = .ok (.return_, 1) := by decide +kernel
theorem pnSi2 : plainName "java/lang/String" = true := by first | (simp [plainName, overriddenIn]; done) | decide +kernel
theorem efSi2 (m : MethodId) (a0 : Addr) (a1 : Addr) : entryFrame m #[(.ref a0), (.ref a1)] 2 = mkF m 0 #[.val (.ref a0), .val (.ref a1)] [] := by first | (simp [entryFrame, mkF, argsToLocals, Value.category]; done) | rfl
def QSi2 (Z : State) (a0 : Addr) (a1 : Addr) (kc : ClassId) (cs : Int32) (c0 : Int32) (c1 : Int32) (h0 : Heap) (n0 : Nat) (v : Option Value) (h : Heap) (L : List Loc) : Prop := v = none ∧ Fr n0 L ∧ Keep h0 h [a0] ∧ Fld Z h a0 "java/lang/String" "coder" "B" (.int (0 : Int32)) ∧ Fld Z h a0 "java/lang/String" "value" "[B" (.ref h0.size) ∧ ∃ kb, Arv Z h h0.size kb .byte (2 : Int32) [(.int ((c0.toInt8.toInt32).toInt8.toInt32)), (.int ((c1.toInt8.toInt32).toInt8.toInt32))] (.int (0 : Int32))
set_option maxRecDepth 65536 in
set_option maxHeartbeats 40000000 in
theorem rmSi2 (l : Launch) (Z : State) (a0 : Array Value) (hw : ∀ d ∈ tables_1, d.before a0 Z = true) (ws : List Jvm.Cond) (a0 : Addr) (a1 : Addr) (kc : ClassId) (cs : Int32) (c0 : Int32) (c1 : Int32) (h0 : Heap) (n0 : Nat) (Z0 : n0 ≤ h0.size) (E0 : Exa Z h0 a0 "java/lang/String") (Fc : Fld Z h0 a0 "java/lang/String" "coder" "B" (.int (0 : Int32))) (Fv : Fld Z h0 a0 "java/lang/String" "value" "[B" .null) (V1 : Arv Z h0 a1 kc .char (2 : Int32) [(.int c0), (.int c1)] (.int (0 : Int32))) (g0 : n0 ≤ a0) (hne : a1 ≠ a0) (Scs : Sta Z h0 "java/lang/String" "COMPACT_STRINGS" "Z" (.int cs)) (hcs : ¬ cs = (0 : Int32)) (hp0 : ¬ (255 : Int32) < c0) (hp1 : ¬ (255 : Int32) < c1) :
    MetFree l (⟨"java/lang/String", "<init>", "([C)V"⟩ : MethodName) (head1 (Jvm.Cond.code (⟨"java/lang/String", "<init>", "([C)V"⟩ : MethodName) jdk_42_method_3_code 2 none :: ws) ({ frames := 3, cells := 1, slots := 2, locals := 52 } : Room)) (fun a U => a = #[(.ref a0), (.ref a1)] ∧ Z.Warmed39 U.vm ∧ U.heap = h0) (fun _ _ _ _ _ => True) (fun _ U o U' => ∃ v L, o = .returned v ∧ QSi2 Z a0 a1 kc cs c0 c1 h0 n0 v U'.heap L ∧ FrameEnd U o U' L ({ frames := 3, cells := 1, slots := 2, locals := 52 } : Room).cells ({ frames := 3, cells := 1, slots := 2, locals := 52 } : Room).slots) := by
  refine MetFree.of_bodySF (plainFor_of_name pnSi2) hisR ?_
  intro p e s m args below meth c s₁ Bd hml0 hP hK
  obtain ⟨rfl, hZ, hh⟩ := hP
  have hx := Bd.exec
  have hby := Bd.bytes
  have hlk := BodyLoose.notSynchronized Bd
  have hret := Bd.returns
  have hml : c.maxLocals = 2 := hml0
  have hown : s.vm.findClass "java/lang/String" = some m.cls := findClass_of_methodNamed Bd.named
  have hnm := (name_of_methodNamed Bd.named Bd.method).1
  have X0 : Stand p l e ({ frames := 3, cells := 1, slots := 2, locals := 52 } : Room) s m #[(.ref a0), (.ref a1)] below meth c s₁ [] 0 0 := Stand.of_body Bd
  have e0 : s₁.heap = h0 := by rw [← hh, Bd.state]; rfl
  have N0 := Fr.nil n0
  show OFin p e below (KPost s (QSi2 Z a0 a1 kc cs c0 c1 h0 n0) ({ frames := 3, cells := 1, slots := 2, locals := 52 } : Room).cells ({ frames := 3, cells := 1, slots := 2, locals := 52 } : Room).slots) _
  rw [efSi2 m a0 a1]
  have K0 : Keep h0 h0 [a0] := Keep.refl _ _
  refine OFin.of (S' := s₁.setTop (mkF m 4 #[.val (.ref a0), .val (.ref a1)] [(.ref a1), (.int (0 : Int32)), (.ref a1), (.ref a0)])) (fun t ht => ?_) ?_
  · refine XS.aloadN X0.here hx rfl (hb hby dSi2_0) rfl rfl ?_
    show Steps p.tables e below (s₁.setTop (mkF m 1 _ [(.ref a0)])) _
    refine XS.aloadN X0.here hx rfl (hb hby dSi2_1) rfl rfl ?_
    show Steps p.tables e below (s₁.setTop (mkF m 2 _ [(.ref a1), (.ref a0)])) _
    refine XS.iconst X0.here hx rfl (hb hby dSi2_2) ?_
    show Steps p.tables e below (s₁.setTop (mkF m 3 _ [(.int (0 : Int32)), (.ref a1), (.ref a0)])) _
    refine XS.aloadN X0.here hx rfl (hb hby dSi2_3) rfl rfl ?_
    exact ht
  obtain ⟨cl1, Ar1, q1, S1, Ng1, H1, G1⟩ := id V1
  refine OFin.of (S' := s₁.setTop (mkF m 5 #[.val (.ref a0), .val (.ref a1)] [(.int (2 : Int32)), (.int (0 : Int32)), (.ref a1), (.ref a0)])) (fun t ht => own_alen X0 hx hZ e0 Ar1 S1 Ng1 (g := (mkF m 4 #[.val (.ref a0), .val (.ref a1)] [(.ref a1), (.int (0 : Int32)), (.ref a1), (.ref a0)])) rfl rfl (hb hby dSi2_4) ht) ?_
  refine OFin.of (S' := s₁.setTop (mkF m 6 #[.val (.ref a0), .val (.ref a1)] [.null, (.int (2 : Int32)), (.int (0 : Int32)), (.ref a1), (.ref a0)])) (fun t ht => ?_) ?_
  · refine XS.aconstNull X0.here hx rfl (hb hby dSi2_5) ?_
    exact ht
  obtain ⟨_, _, ⟨T2, L2, k2, n2⟩, -, X2, ⟨Lc2, hQ2, l2, y2, z2⟩, st2⟩ := X0.specialBack hx (y := (⟨"java/lang/String", "<init>", "([CIILjava/lang/Void;)V"⟩ : MethodName)) rfl hown (mvT hZ (hw _ (List.mem_of_getElem? (i := 14) rfl))) (mvT hZ (hw _ (List.mem_of_getElem? (i := 15) rfl))) (mvT hZ (hw _ (List.mem_of_getElem? (i := 17) rfl))) (by decide) (backOf (W := 0) (rmSf2 l Z _ hw [] a0 a1 kc cs c0 c1 h0 n0 Z0 E0 Fc Fv V1 g0 hne Scs hcs hp0 hp1) hZ (hw _ (List.mem_of_getElem? (i := 17) rfl)) (hw _ (List.mem_of_getElem? (i := 9) rfl)) (by decide) (by decide)) (g := (mkF m 6 #[.val (.ref a0), .val (.ref a1)] [.null, (.int (2 : Int32)), (.int (0 : Int32)), (.ref a1), (.ref a0)])) rfl (by rw [hml]; rfl) (Steps.refl _) (a := a0) (argsL := [(.ref a1), (.int (0 : Int32)), (.int (2 : Int32)), .null]) (rest := []) (lenOf pd_0 rfl) rfl (by show 2 * 0 + _ ≤ _; exact Nat.le_of_eq rfl) (hb hby dSi2_6) (fun _ _ => ⟨rfl, e0, (by decide : 0 + 1 ≤ _), (by decide : 0 + 2 ≤ _)⟩)
  dsimp only [Pt.U, Pt.locs, Pt.cells, Pt.slots] at X2 l2 y2 z2 st2 hQ2
  subst l2 y2 z2
  obtain ⟨rfl, Nq2, Kq2, f3, f4, ⟨kb_2, f5⟩⟩ := hQ2
  have N6 := Fr.app N0 Nq2
  obtain ⟨b2, gq2⟩ : ∃ z, z = h0.size := ⟨_, rfl⟩
  rw [← gq2] at f4 f5
  have g7 : n0 ≤ b2 := (Nat.le_trans Z0 (Nat.le_of_eq gq2.symm))
  have sz8 : h0.size ≤ b2 := (Nat.le_trans K0.1 (Nat.le_of_eq gq2.symm))
  have ne9 : a0 ≠ b2 := (Nat.ne_of_lt (Nat.lt_of_lt_of_le E0.lt (Nat.le_of_eq gq2.symm)))
  have ne10 : a1 ≠ b2 := (Nat.ne_of_lt (Nat.lt_of_lt_of_le V1.lt (Nat.le_of_eq gq2.symm)))
  have f11 := (E0.keep Kq2)
  have f12 := (V1.keep Kq2 (ninS hne nin0))
  have f13 := (own_staKeep Scs Kq2 (own_snS E0 own_sn0))
  have Z14 : n0 ≤ T2.heap.size := (Nat.le_trans Z0 Kq2.1)
  have K15 : Keep h0 T2.heap [a0] := (K0.trans Kq2 (allS (Or.inl (List.mem_of_getElem? (i := 0) rfl)) all0))
  refine OFin.to (S' := T2.setTop (mkF m 9 #[.val (.ref a0), .val (.ref a1)] [])) st2 ?_
  exact OFin.retV X2 hx hlk hret (hb hby dSi2_9) (by decide) (by decide) (by exact ⟨rfl, N6, K15, f3, by rw [← gq2]; exact f4, kb_2, by rw [← gq2]; exact f5⟩)
theorem dSt1_0 : decode method_2_code 0 = .ok (.iload_n 0, 1) := by decide +kernel
theorem dSt1_1 : decode method_2_code 1 = .ok (.ifCond .ne 14, 3) := by decide +kernel
theorem dSt1_15 : decode method_2_code 15 = .ok (.iload_n 0, 1) := by decide +kernel
theorem dSt1_16 : decode method_2_code 16 = .ok (.iconst 1, 1) := by decide +kernel
theorem dSt1_17 : decode method_2_code 17 = .ok (.if_icmp .ne 18, 3) := by decide +kernel
theorem dSt1_20 : decode method_2_code 20 = .ok (.new 7, 3) := by decide +kernel
theorem dSt1_23 : decode method_2_code 23 = .ok (.dup, 1) := by decide +kernel
theorem dSt1_24 : decode method_2_code 24 = .ok (.iconst 1, 1) := by decide +kernel
theorem dSt1_25 : decode method_2_code 25 = .ok (.newarray .char, 2) := by decide +kernel
theorem dSt1_27 : decode method_2_code 27 = .ok (.dup, 1) := by decide +kernel
theorem dSt1_28 : decode method_2_code 28 = .ok (.iconst 0, 1) := by decide +kernel
theorem dSt1_29 : decode method_2_code 29 = .ok (.iload_n 1, 1) := by decide +kernel
theorem dSt1_30 : decode method_2_code 30 = .ok (.castore, 1) := by decide +kernel
theorem dSt1_31 : decode method_2_code 31 = .ok (.invokespecial 9, 3) := by decide +kernel
theorem dSt1_34 : decode method_2_code 34 = .ok (.areturn, 1) := by decide +kernel
theorem pnSt1 : plainName "com/example/greylag/greylag/model/BundleEqualsPinLaw" = true := by first | (simp [plainName, overriddenIn]; done) | decide +kernel
theorem efSt1 (m : MethodId) (p1 : Int32) (p2 : Int32) : entryFrame m #[(.int (1 : Int32)), (.int p1), (.int p2)] 3 = mkF m 0 #[.val (.int (1 : Int32)), .val (.int p1), .val (.int p2)] [] := by first | (simp [entryFrame, mkF, argsToLocals, Value.category]; done) | rfl
def QSt1 (Z : State) (p1 : Int32) (p2 : Int32) (xs : Addr) (cs : Int32) (h0 : Heap) (n0 : Nat) (v : Option Value) (h : Heap) (L : List Loc) : Prop := v = some (.ref h0.size) ∧ Fr n0 L ∧ Keep h0 h [] ∧ Exa Z h h0.size "java/lang/String" ∧ ∃ (t : Addr) (kb : ClassId), Fld Z h h0.size "java/lang/String" "coder" "B" (.int (0 : Int32)) ∧ Fld Z h h0.size "java/lang/String" "value" "[B" (.ref t) ∧ Arv Z h t kb .byte (1 : Int32) [(.int (((nar .char p1).toInt8.toInt32).toInt8.toInt32))] (.int (0 : Int32)) ∧ xs ≠ t
set_option maxRecDepth 65536 in
set_option maxHeartbeats 40000000 in
theorem rmSt1 (l : Launch) (Z : State) (a0 : Array Value) (hw : ∀ d ∈ tables_1, d.before a0 Z = true) (ws : List Jvm.Cond) (p1 : Int32) (p2 : Int32) (xs : Addr) (cs : Int32) (h0 : Heap) (n0 : Nat) (Z0 : n0 ≤ h0.size) (Ex : Exa Z h0 xs "com/example/greylag/greylag/model/Bundle") (Scs : Sta Z h0 "java/lang/String" "COMPACT_STRINGS" "Z" (.int cs)) (hcs : ¬ cs = (0 : Int32)) (hp0 : ¬ (255 : Int32) < nar .char p1) :
    MetFree l (⟨"com/example/greylag/greylag/model/BundleEqualsPinLaw", "str", "(ICC)Ljava/lang/String;"⟩ : MethodName) (head1 (Jvm.Cond.code (⟨"com/example/greylag/greylag/model/BundleEqualsPinLaw", "str", "(ICC)Ljava/lang/String;"⟩ : MethodName) method_2_code 3 (some (.object "java/lang/String")) :: ws) ({ frames := 4, cells := 3, slots := 6, locals := 66 } : Room)) (fun a U => a = #[(.int (1 : Int32)), (.int p1), (.int p2)] ∧ Z.Warmed39 U.vm ∧ U.heap = h0) (fun _ _ _ _ _ => True) (fun _ U o U' => ∃ v L, o = .returned v ∧ QSt1 Z p1 p2 xs cs h0 n0 v U'.heap L ∧ FrameEnd U o U' L ({ frames := 4, cells := 3, slots := 6, locals := 66 } : Room).cells ({ frames := 4, cells := 3, slots := 6, locals := 66 } : Room).slots) := by
  refine MetFree.of_bodySF (plainFor_of_name pnSt1) hisR ?_
  intro p e s m args below meth c s₁ Bd hml0 hP hK
  obtain ⟨rfl, hZ, hh⟩ := hP
  have hx := Bd.exec
  have hby := Bd.bytes
  have hlk := BodyLoose.notSynchronized Bd
  have hret := Bd.returns
  have hml : c.maxLocals = 3 := hml0
  have hown : s.vm.findClass "com/example/greylag/greylag/model/BundleEqualsPinLaw" = some m.cls := findClass_of_methodNamed Bd.named
  have hnm := (name_of_methodNamed Bd.named Bd.method).1
  have X0 : Stand p l e ({ frames := 4, cells := 3, slots := 6, locals := 66 } : Room) s m #[(.int (1 : Int32)), (.int p1), (.int p2)] below meth c s₁ [] 0 0 := Stand.of_body Bd
  have e0 : s₁.heap = h0 := by rw [← hh, Bd.state]; rfl
  have N0 := Fr.nil n0
  show OFin p e below (KPost s (QSt1 Z p1 p2 xs cs h0 n0) ({ frames := 4, cells := 3, slots := 6, locals := 66 } : Room).cells ({ frames := 4, cells := 3, slots := 6, locals := 66 } : Room).slots) _
  rw [efSt1 m p1 p2]
  have K0 : Keep h0 h0 [] := Keep.refl _ _
  refine OFin.of (S' := s₁.setTop (mkF m 20 #[.val (.int (1 : Int32)), .val (.int p1), .val (.int p2)] [])) (fun t ht => ?_) ?_
  · refine XS.iloadN X0.here hx rfl (hb hby dSt1_0) rfl ?_
    show Steps p.tables e below (s₁.setTop (mkF m 1 _ [(.int (1 : Int32))])) _
    refine XS.ifYes X0.here hx rfl (pc0 := 1) (pc' := 15) rfl (hb hby dSt1_1) rfl ((if0 _ _).trans (feq (by decide : ¬ ((1 : Int32) = (0 : Int32)))).2) (by decide) (by decide) ?_
    show Steps p.tables e below (s₁.setTop (mkF m 15 _ [])) _
    refine XS.iloadN X0.here hx rfl (hb hby dSt1_15) rfl ?_
    show Steps p.tables e below (s₁.setTop (mkF m 16 _ [(.int (1 : Int32))])) _
    refine XS.iconst X0.here hx rfl (hb hby dSt1_16) ?_
    show Steps p.tables e below (s₁.setTop (mkF m 17 _ [(.int (1 : Int32)), (.int (1 : Int32))])) _
    refine XS.icmpNo X0.here hx rfl (hb hby dSt1_17) rfl (teq (by decide : (1 : Int32) = (1 : Int32))).2 ?_
    exact ht
  obtain ⟨T1, h1, X1, e1, E1, A1, D1, -, st1⟩ := newO X0 hx hZ hown (hw _ (List.mem_of_getElem? (i := 7) rfl)) (hw _ (List.mem_of_getElem? (i := 8) rfl)) (hw _ (List.mem_of_getElem? (i := 9) rfl)) e0 (g := (mkF m 20 #[.val (.int (1 : Int32)), .val (.int p1), .val (.int p2)] [])) rfl (hb hby dSt1_20) (by decide) (by decide)
  obtain ⟨b1, gq1⟩ : ∃ z, z = h0.size := ⟨_, rfl⟩
  rw [← gq1] at A1 D1 st1
  have g2 : n0 ≤ b1 := (Nat.le_trans Z0 (Nat.le_of_eq gq1.symm))
  have sz3 : h0.size ≤ b1 := (Nat.le_trans K0.1 (Nat.le_of_eq gq1.symm))
  have ne4 : xs ≠ b1 := (Nat.ne_of_lt (Nat.lt_of_lt_of_le Ex.lt (Nat.le_of_eq gq1.symm)))
  have f5 := Ex.ext E1
  have f6 := Scs.ext E1
  have Z7 : n0 ≤ h1.size := (Nat.le_trans Z0 E1.1)
  have K8 : Keep h0 h1 [] := (K0.ext E1)
  have f9 : Fld Z h1 b1 "java/lang/String" "value" "[B" .null := D1 (Or.inr (hw _ (List.mem_of_getElem? (i := 23) rfl))) (ty := (.array .byte)) (by decide)
  have f10 : Fld Z h1 b1 "java/lang/String" "coder" "B" (.int (0 : Int32)) := D1 (Or.inr (hw _ (List.mem_of_getElem? (i := 24) rfl))) (ty := .byte) (by decide)
  refine OFin.of (S' := T1.setTop (mkF m 23 #[.val (.int (1 : Int32)), .val (.int p1), .val (.int p2)] [(.ref b1)])) (fun t ht => st1 t ht) ?_
  refine OFin.of (S' := T1.setTop (mkF m 25 #[.val (.int (1 : Int32)), .val (.int p1), .val (.int p2)] [(.int (1 : Int32)), (.ref b1), (.ref b1)])) (fun t ht => ?_) ?_
  · refine XS.dup X1.here hx rfl (hb hby dSt1_23) rfl rfl ?_
    show Steps p.tables e below (T1.setTop (mkF m 24 _ [(.ref b1), (.ref b1)])) _
    refine XS.iconst X1.here hx rfl (hb hby dSt1_24) ?_
    exact ht
  obtain ⟨T11, h11, k11, X11, e11, E11, A11, st11⟩ := newP X1 hx hZ (hw _ (List.mem_of_getElem? (i := 10) rfl)) e1 (g := (mkF m 25 #[.val (.int (1 : Int32)), .val (.int p1), .val (.int p2)] [(.int (1 : Int32)), (.ref b1), (.ref b1)])) rfl (hb hby dSt1_25) rfl (by decide) (cap := 1) (by decide) (by decide) (by decide) (by decide)
  obtain ⟨b11, gq11⟩ : ∃ z, z = h1.size := ⟨_, rfl⟩
  rw [← gq11] at A11 st11
  have g12 : n0 ≤ b11 := (Nat.le_trans Z7 (Nat.le_of_eq gq11.symm))
  have sz13 : h0.size ≤ b11 := (Nat.le_trans K8.1 (Nat.le_of_eq gq11.symm))
  have ne14 : xs ≠ b11 := (Nat.ne_of_lt (Nat.lt_of_lt_of_le f5.lt (Nat.le_of_eq gq11.symm)))
  have ne15 : b1 ≠ b11 := (Nat.ne_of_lt (Nat.lt_of_lt_of_le A1.lt (Nat.le_of_eq gq11.symm)))
  have f16 := f5.ext E11
  have f17 := f6.ext E11
  have f18 := A1.ext E11
  have f19 := f9.ext E11
  have f20 := f10.ext E11
  have Z21 : n0 ≤ h11.size := (Nat.le_trans Z7 E11.1)
  have K22 : Keep h0 h11 [] := (K8.ext E11)
  have f23 : Arv Z h11 b11 k11 .char (1 : Int32) [(.int (0 : Int32))] (.int (0 : Int32)) := ((Arv.new A11 (by decide)).pad (pad_rep [] (.int (0 : Int32)) 1))
  refine OFin.of (S' := T11.setTop (mkF m 27 #[.val (.int (1 : Int32)), .val (.int p1), .val (.int p2)] [(.ref b11), (.ref b1), (.ref b1)])) (fun t ht => st11 t ht) ?_
  refine OFin.of (S' := T11.setTop (mkF m 30 #[.val (.int (1 : Int32)), .val (.int p1), .val (.int p2)] [(.int p1), (.int (0 : Int32)), (.ref b11), (.ref b11), (.ref b1), (.ref b1)])) (fun t ht => ?_) ?_
  · refine XS.dup X11.here hx rfl (hb hby dSt1_27) rfl rfl ?_
    show Steps p.tables e below (T11.setTop (mkF m 28 _ [(.ref b11), (.ref b11), (.ref b1), (.ref b1)])) _
    refine XS.iconst X11.here hx rfl (hb hby dSt1_28) ?_
    show Steps p.tables e below (T11.setTop (mkF m 29 _ [(.int (0 : Int32)), (.ref b11), (.ref b11), (.ref b1), (.ref b1)])) _
    refine XS.iloadN X11.here hx rfl (hb hby dSt1_29) rfl ?_
    exact ht
  obtain ⟨cl24, Ar24, q24, S24, Ng24, H24, G24⟩ := id f23
  have hin24 := inb_of (j := (0 : Int32)) S24 ⟨by decide, by decide⟩
  obtain ⟨T24, h24, X24, e24, W24, st24⟩ := stC X11 hx hZ e11 Ar24 (j := (0 : Int32)) hin24 (g := (mkF m 30 #[.val (.int (1 : Int32)), .val (.int p1), .val (.int p2)] [(.int p1), (.int (0 : Int32)), (.ref b11), (.ref b11), (.ref b1), (.ref b1)])) rfl rfl (hb hby dSt1_30)
  have f25 := (f16.wr W24)
  have f26 := (f17.wr W24)
  have f27 := (f18.wr W24)
  have f28 := (f19.other W24 (Or.inl ne15))
  have f29 := (f20.other W24 (Or.inl ne15))
  have Z30 : n0 ≤ h24.size := (Nat.le_trans Z21 (Keep.of_wr W24).1)
  have K31 : Keep h0 h24 [] := (K22.wr W24 (Or.inr sz13))
  have N32 := Fr.snoc X24 N0 g12
  have f33 : Arv Z h24 b11 k11 .char (1 : Int32) [(.int (nar .char p1))] (.int (0 : Int32)) := Arv.set Ar24 q24 S24 Ng24 H24 G24 (fits_nar_char _) W24 0 rfl (Nat.le_of_ble_eq_true rfl)
  refine OFin.of (S' := T24.setTop (mkF m 31 #[.val (.int (1 : Int32)), .val (.int p1), .val (.int p2)] [(.ref b11), (.ref b1), (.ref b1)])) (fun t ht => st24 t ht) ?_
  obtain ⟨_, _, ⟨T34, L34, k34, n34⟩, -, X34, ⟨Lc34, hQ34, l34, y34, z34⟩, st34⟩ := X24.specialBack hx (y := (⟨"java/lang/String", "<init>", "([C)V"⟩ : MethodName)) rfl hown (mvT hZ (hw _ (List.mem_of_getElem? (i := 11) rfl))) (mvT hZ (hw _ (List.mem_of_getElem? (i := 12) rfl))) (mvT hZ (hw _ (List.mem_of_getElem? (i := 13) rfl))) (by decide) (backOf (W := 1) (rmSi1 l Z _ hw [] b1 b11 k11 cs (nar .char p1) h24 n0 Z30 f27 f29 f28 f33 g2 (Ne.symm ne15) f26 hcs hp0) hZ (hw _ (List.mem_of_getElem? (i := 13) rfl)) (hw _ (List.mem_of_getElem? (i := 9) rfl)) (by decide) (by decide)) (g := (mkF m 31 #[.val (.int (1 : Int32)), .val (.int p1), .val (.int p2)] [(.ref b11), (.ref b1), (.ref b1)])) rfl (by rw [hml]; rfl) (Steps.refl _) (a := b1) (argsL := [(.ref b11)]) (rest := [(.ref b1)]) (lenOf pd_1 rfl) rfl (by show 2 * 0 + _ ≤ _; exact Nat.le_of_eq rfl) (hb hby dSt1_31) (fun _ _ => ⟨rfl, e24, (by decide : 2 + 1 ≤ _), (by decide : 5 + 1 ≤ _)⟩)
  dsimp only [Pt.U, Pt.locs, Pt.cells, Pt.slots] at X34 l34 y34 z34 st34 hQ34
  subst l34 y34 z34
  obtain ⟨rfl, Nq34, Kq34, f35, f36, ⟨kb_34, f37⟩⟩ := hQ34
  have N38 := Fr.app N32 Nq34
  obtain ⟨b34, gq34⟩ : ∃ z, z = h24.size := ⟨_, rfl⟩
  rw [← gq34] at f36 f37
  have g39 : n0 ≤ b34 := (Nat.le_trans Z30 (Nat.le_of_eq gq34.symm))
  have sz40 : h0.size ≤ b34 := (Nat.le_trans K31.1 (Nat.le_of_eq gq34.symm))
  have ne41 : xs ≠ b34 := (Nat.ne_of_lt (Nat.lt_of_lt_of_le f25.lt (Nat.le_of_eq gq34.symm)))
  have ne42 : b1 ≠ b34 := (Nat.ne_of_lt (Nat.lt_of_lt_of_le f27.lt (Nat.le_of_eq gq34.symm)))
  have ne43 : b11 ≠ b34 := (Nat.ne_of_lt (Nat.lt_of_lt_of_le f33.lt (Nat.le_of_eq gq34.symm)))
  have f44 := (f25.keep Kq34)
  have f45 := (own_staKeep f26 Kq34 (own_snS f27 own_sn0))
  have f46 := (f27.keep Kq34)
  have f47 := (f33.keep Kq34 (ninS (Ne.symm ne15) nin0))
  have Z48 : n0 ≤ T34.heap.size := (Nat.le_trans Z30 Kq34.1)
  have K49 : Keep h0 T34.heap [] := (K31.trans Kq34 (allS (Or.inr sz3) all0))
  refine OFin.to (S' := T34.setTop (mkF m 34 #[.val (.int (1 : Int32)), .val (.int p1), .val (.int p2)] [(.ref b1)])) st34 ?_
  exact OFin.retA X34 hx hlk (t := (.object "java/lang/String")) rfl rfl hret (hb hby dSt1_34) (by decide) (by decide) (by exact ⟨by rw [← gq1], N38, K49, by rw [← gq1]; exact f46, b34, kb_34, by rw [← gq1]; exact f35, by rw [← gq1]; exact f36, f37, ne41⟩)
theorem dSt2_0 : decode method_2_code 0 = .ok (.iload_n 0, 1) := by decide +kernel
theorem dSt2_1 : decode method_2_code 1 = .ok (.ifCond .ne 14, 3) := by decide +kernel
theorem dSt2_15 : decode method_2_code 15 = .ok (.iload_n 0, 1) := by decide +kernel
theorem dSt2_16 : decode method_2_code 16 = .ok (.iconst 1, 1) := by decide +kernel
theorem dSt2_17 : decode method_2_code 17 = .ok (.if_icmp .ne 18, 3) := by decide +kernel
theorem dSt2_35 : decode method_2_code 35 = .ok (.new 7, 3) := by decide +kernel
theorem dSt2_38 : decode method_2_code 38 = .ok (.dup, 1) := by decide +kernel
theorem dSt2_39 : decode method_2_code 39 = .ok (.iconst 2, 1) := by decide +kernel
theorem dSt2_40 : decode method_2_code 40 = .ok (.newarray .char, 2) := by decide +kernel
theorem dSt2_42 : decode method_2_code 42 = .ok (.dup, 1) := by decide +kernel
theorem dSt2_43 : decode method_2_code 43 = .ok (.iconst 0, 1) := by decide +kernel
theorem dSt2_44 : decode method_2_code 44 = .ok (.iload_n 1, 1) := by decide +kernel
theorem dSt2_45 : decode method_2_code 45 = .ok (.castore, 1) := by decide +kernel
theorem dSt2_46 : decode method_2_code 46 = .ok (.dup, 1) := by decide +kernel
theorem dSt2_47 : decode method_2_code 47 = .ok (.iconst 1, 1) := by decide +kernel
theorem dSt2_48 : decode method_2_code 48 = .ok (.iload_n 2, 1) := by decide +kernel
theorem dSt2_49 : decode method_2_code 49 = .ok (.castore, 1) := by decide +kernel
theorem dSt2_50 : decode method_2_code 50 = .ok (.invokespecial 9, 3) := by decide +kernel
theorem dSt2_53 : decode method_2_code 53 = .ok (.areturn, 1) := by decide +kernel
theorem pnSt2 : plainName "com/example/greylag/greylag/model/BundleEqualsPinLaw" = true := by first | (simp [plainName, overriddenIn]; done) | decide +kernel
theorem efSt2 (m : MethodId) (p1 : Int32) (p2 : Int32) : entryFrame m #[(.int (2 : Int32)), (.int p1), (.int p2)] 3 = mkF m 0 #[.val (.int (2 : Int32)), .val (.int p1), .val (.int p2)] [] := by first | (simp [entryFrame, mkF, argsToLocals, Value.category]; done) | rfl
def QSt2 (Z : State) (p1 : Int32) (p2 : Int32) (xs : Addr) (cs : Int32) (h0 : Heap) (n0 : Nat) (v : Option Value) (h : Heap) (L : List Loc) : Prop := v = some (.ref h0.size) ∧ Fr n0 L ∧ Keep h0 h [] ∧ Exa Z h h0.size "java/lang/String" ∧ ∃ (t : Addr) (kb : ClassId), Fld Z h h0.size "java/lang/String" "coder" "B" (.int (0 : Int32)) ∧ Fld Z h h0.size "java/lang/String" "value" "[B" (.ref t) ∧ Arv Z h t kb .byte (2 : Int32) [(.int (((nar .char p1).toInt8.toInt32).toInt8.toInt32)), (.int (((nar .char p2).toInt8.toInt32).toInt8.toInt32))] (.int (0 : Int32)) ∧ xs ≠ t
set_option maxRecDepth 65536 in
set_option maxHeartbeats 40000000 in
theorem rmSt2 (l : Launch) (Z : State) (a0 : Array Value) (hw : ∀ d ∈ tables_1, d.before a0 Z = true) (ws : List Jvm.Cond) (p1 : Int32) (p2 : Int32) (xs : Addr) (cs : Int32) (h0 : Heap) (n0 : Nat) (Z0 : n0 ≤ h0.size) (Ex : Exa Z h0 xs "com/example/greylag/greylag/model/Bundle") (Scs : Sta Z h0 "java/lang/String" "COMPACT_STRINGS" "Z" (.int cs)) (hcs : ¬ cs = (0 : Int32)) (hp0 : ¬ (255 : Int32) < nar .char p1) (hp1 : ¬ (255 : Int32) < nar .char p2) :
    MetFree l (⟨"com/example/greylag/greylag/model/BundleEqualsPinLaw", "str", "(ICC)Ljava/lang/String;"⟩ : MethodName) (head1 (Jvm.Cond.code (⟨"com/example/greylag/greylag/model/BundleEqualsPinLaw", "str", "(ICC)Ljava/lang/String;"⟩ : MethodName) method_2_code 3 (some (.object "java/lang/String")) :: ws) ({ frames := 4, cells := 3, slots := 8, locals := 66 } : Room)) (fun a U => a = #[(.int (2 : Int32)), (.int p1), (.int p2)] ∧ Z.Warmed39 U.vm ∧ U.heap = h0) (fun _ _ _ _ _ => True) (fun _ U o U' => ∃ v L, o = .returned v ∧ QSt2 Z p1 p2 xs cs h0 n0 v U'.heap L ∧ FrameEnd U o U' L ({ frames := 4, cells := 3, slots := 8, locals := 66 } : Room).cells ({ frames := 4, cells := 3, slots := 8, locals := 66 } : Room).slots) := by
  refine MetFree.of_bodySF (plainFor_of_name pnSt2) hisR ?_
  intro p e s m args below meth c s₁ Bd hml0 hP hK
  obtain ⟨rfl, hZ, hh⟩ := hP
  have hx := Bd.exec
  have hby := Bd.bytes
  have hlk := BodyLoose.notSynchronized Bd
  have hret := Bd.returns
  have hml : c.maxLocals = 3 := hml0
  have hown : s.vm.findClass "com/example/greylag/greylag/model/BundleEqualsPinLaw" = some m.cls := findClass_of_methodNamed Bd.named
  have hnm := (name_of_methodNamed Bd.named Bd.method).1
  have X0 : Stand p l e ({ frames := 4, cells := 3, slots := 8, locals := 66 } : Room) s m #[(.int (2 : Int32)), (.int p1), (.int p2)] below meth c s₁ [] 0 0 := Stand.of_body Bd
  have e0 : s₁.heap = h0 := by rw [← hh, Bd.state]; rfl
  have N0 := Fr.nil n0
  show OFin p e below (KPost s (QSt2 Z p1 p2 xs cs h0 n0) ({ frames := 4, cells := 3, slots := 8, locals := 66 } : Room).cells ({ frames := 4, cells := 3, slots := 8, locals := 66 } : Room).slots) _
  rw [efSt2 m p1 p2]
  have K0 : Keep h0 h0 [] := Keep.refl _ _
  refine OFin.of (S' := s₁.setTop (mkF m 35 #[.val (.int (2 : Int32)), .val (.int p1), .val (.int p2)] [])) (fun t ht => ?_) ?_
  · refine XS.iloadN X0.here hx rfl (hb hby dSt2_0) rfl ?_
    show Steps p.tables e below (s₁.setTop (mkF m 1 _ [(.int (2 : Int32))])) _
    refine XS.ifYes X0.here hx rfl (pc0 := 1) (pc' := 15) rfl (hb hby dSt2_1) rfl ((if0 _ _).trans (feq (by decide : ¬ ((2 : Int32) = (0 : Int32)))).2) (by decide) (by decide) ?_
    show Steps p.tables e below (s₁.setTop (mkF m 15 _ [])) _
    refine XS.iloadN X0.here hx rfl (hb hby dSt2_15) rfl ?_
    show Steps p.tables e below (s₁.setTop (mkF m 16 _ [(.int (2 : Int32))])) _
    refine XS.iconst X0.here hx rfl (hb hby dSt2_16) ?_
    show Steps p.tables e below (s₁.setTop (mkF m 17 _ [(.int (1 : Int32)), (.int (2 : Int32))])) _
    refine XS.icmpYes X0.here hx rfl (pc0 := 17) (pc' := 35) rfl (hb hby dSt2_17) rfl (feq (by decide : ¬ ((2 : Int32) = (1 : Int32)))).2 (by decide) (by decide) ?_
    exact ht
  obtain ⟨T1, h1, X1, e1, E1, A1, D1, -, st1⟩ := newO X0 hx hZ hown (hw _ (List.mem_of_getElem? (i := 7) rfl)) (hw _ (List.mem_of_getElem? (i := 8) rfl)) (hw _ (List.mem_of_getElem? (i := 9) rfl)) e0 (g := (mkF m 35 #[.val (.int (2 : Int32)), .val (.int p1), .val (.int p2)] [])) rfl (hb hby dSt2_35) (by decide) (by decide)
  obtain ⟨b1, gq1⟩ : ∃ z, z = h0.size := ⟨_, rfl⟩
  rw [← gq1] at A1 D1 st1
  have g2 : n0 ≤ b1 := (Nat.le_trans Z0 (Nat.le_of_eq gq1.symm))
  have sz3 : h0.size ≤ b1 := (Nat.le_trans K0.1 (Nat.le_of_eq gq1.symm))
  have ne4 : xs ≠ b1 := (Nat.ne_of_lt (Nat.lt_of_lt_of_le Ex.lt (Nat.le_of_eq gq1.symm)))
  have f5 := Ex.ext E1
  have f6 := Scs.ext E1
  have Z7 : n0 ≤ h1.size := (Nat.le_trans Z0 E1.1)
  have K8 : Keep h0 h1 [] := (K0.ext E1)
  have f9 : Fld Z h1 b1 "java/lang/String" "value" "[B" .null := D1 (Or.inr (hw _ (List.mem_of_getElem? (i := 23) rfl))) (ty := (.array .byte)) (by decide)
  have f10 : Fld Z h1 b1 "java/lang/String" "coder" "B" (.int (0 : Int32)) := D1 (Or.inr (hw _ (List.mem_of_getElem? (i := 24) rfl))) (ty := .byte) (by decide)
  refine OFin.of (S' := T1.setTop (mkF m 38 #[.val (.int (2 : Int32)), .val (.int p1), .val (.int p2)] [(.ref b1)])) (fun t ht => st1 t ht) ?_
  refine OFin.of (S' := T1.setTop (mkF m 40 #[.val (.int (2 : Int32)), .val (.int p1), .val (.int p2)] [(.int (2 : Int32)), (.ref b1), (.ref b1)])) (fun t ht => ?_) ?_
  · refine XS.dup X1.here hx rfl (hb hby dSt2_38) rfl rfl ?_
    show Steps p.tables e below (T1.setTop (mkF m 39 _ [(.ref b1), (.ref b1)])) _
    refine XS.iconst X1.here hx rfl (hb hby dSt2_39) ?_
    exact ht
  obtain ⟨T11, h11, k11, X11, e11, E11, A11, st11⟩ := newP X1 hx hZ (hw _ (List.mem_of_getElem? (i := 10) rfl)) e1 (g := (mkF m 40 #[.val (.int (2 : Int32)), .val (.int p1), .val (.int p2)] [(.int (2 : Int32)), (.ref b1), (.ref b1)])) rfl (hb hby dSt2_40) rfl (by decide) (cap := 2) (by decide) (by decide) (by decide) (by decide)
  obtain ⟨b11, gq11⟩ : ∃ z, z = h1.size := ⟨_, rfl⟩
  rw [← gq11] at A11 st11
  have g12 : n0 ≤ b11 := (Nat.le_trans Z7 (Nat.le_of_eq gq11.symm))
  have sz13 : h0.size ≤ b11 := (Nat.le_trans K8.1 (Nat.le_of_eq gq11.symm))
  have ne14 : xs ≠ b11 := (Nat.ne_of_lt (Nat.lt_of_lt_of_le f5.lt (Nat.le_of_eq gq11.symm)))
  have ne15 : b1 ≠ b11 := (Nat.ne_of_lt (Nat.lt_of_lt_of_le A1.lt (Nat.le_of_eq gq11.symm)))
  have f16 := f5.ext E11
  have f17 := f6.ext E11
  have f18 := A1.ext E11
  have f19 := f9.ext E11
  have f20 := f10.ext E11
  have Z21 : n0 ≤ h11.size := (Nat.le_trans Z7 E11.1)
  have K22 : Keep h0 h11 [] := (K8.ext E11)
  have f23 : Arv Z h11 b11 k11 .char (2 : Int32) [(.int (0 : Int32)), (.int (0 : Int32))] (.int (0 : Int32)) := ((Arv.new A11 (by decide)).pad (pad_rep [] (.int (0 : Int32)) 2))
  refine OFin.of (S' := T11.setTop (mkF m 42 #[.val (.int (2 : Int32)), .val (.int p1), .val (.int p2)] [(.ref b11), (.ref b1), (.ref b1)])) (fun t ht => st11 t ht) ?_
  refine OFin.of (S' := T11.setTop (mkF m 45 #[.val (.int (2 : Int32)), .val (.int p1), .val (.int p2)] [(.int p1), (.int (0 : Int32)), (.ref b11), (.ref b11), (.ref b1), (.ref b1)])) (fun t ht => ?_) ?_
  · refine XS.dup X11.here hx rfl (hb hby dSt2_42) rfl rfl ?_
    show Steps p.tables e below (T11.setTop (mkF m 43 _ [(.ref b11), (.ref b11), (.ref b1), (.ref b1)])) _
    refine XS.iconst X11.here hx rfl (hb hby dSt2_43) ?_
    show Steps p.tables e below (T11.setTop (mkF m 44 _ [(.int (0 : Int32)), (.ref b11), (.ref b11), (.ref b1), (.ref b1)])) _
    refine XS.iloadN X11.here hx rfl (hb hby dSt2_44) rfl ?_
    exact ht
  obtain ⟨cl24, Ar24, q24, S24, Ng24, H24, G24⟩ := id f23
  have hin24 := inb_of (j := (0 : Int32)) S24 ⟨by decide, by decide⟩
  obtain ⟨T24, h24, X24, e24, W24, st24⟩ := stC X11 hx hZ e11 Ar24 (j := (0 : Int32)) hin24 (g := (mkF m 45 #[.val (.int (2 : Int32)), .val (.int p1), .val (.int p2)] [(.int p1), (.int (0 : Int32)), (.ref b11), (.ref b11), (.ref b1), (.ref b1)])) rfl rfl (hb hby dSt2_45)
  have f25 := (f16.wr W24)
  have f26 := (f17.wr W24)
  have f27 := (f18.wr W24)
  have f28 := (f19.other W24 (Or.inl ne15))
  have f29 := (f20.other W24 (Or.inl ne15))
  have Z30 : n0 ≤ h24.size := (Nat.le_trans Z21 (Keep.of_wr W24).1)
  have K31 : Keep h0 h24 [] := (K22.wr W24 (Or.inr sz13))
  have N32 := Fr.snoc X24 N0 g12
  have f33 : Arv Z h24 b11 k11 .char (2 : Int32) [(.int (nar .char p1)), (.int (0 : Int32))] (.int (0 : Int32)) := Arv.set Ar24 q24 S24 Ng24 H24 G24 (fits_nar_char _) W24 0 rfl (Nat.le_of_ble_eq_true rfl)
  refine OFin.of (S' := T24.setTop (mkF m 46 #[.val (.int (2 : Int32)), .val (.int p1), .val (.int p2)] [(.ref b11), (.ref b1), (.ref b1)])) (fun t ht => st24 t ht) ?_
  refine OFin.of (S' := T24.setTop (mkF m 49 #[.val (.int (2 : Int32)), .val (.int p1), .val (.int p2)] [(.int p2), (.int (1 : Int32)), (.ref b11), (.ref b11), (.ref b1), (.ref b1)])) (fun t ht => ?_) ?_
  · refine XS.dup X24.here hx rfl (hb hby dSt2_46) rfl rfl ?_
    show Steps p.tables e below (T24.setTop (mkF m 47 _ [(.ref b11), (.ref b11), (.ref b1), (.ref b1)])) _
    refine XS.iconst X24.here hx rfl (hb hby dSt2_47) ?_
    show Steps p.tables e below (T24.setTop (mkF m 48 _ [(.int (1 : Int32)), (.ref b11), (.ref b11), (.ref b1), (.ref b1)])) _
    refine XS.iloadN X24.here hx rfl (hb hby dSt2_48) rfl ?_
    exact ht
  obtain ⟨cl34, Ar34, q34, S34, Ng34, H34, G34⟩ := id f33
  have hin34 := inb_of (j := (1 : Int32)) S34 ⟨by decide, by decide⟩
  obtain ⟨T34, h34, X34, e34, W34, st34⟩ := stC X24 hx hZ e24 Ar34 (j := (1 : Int32)) hin34 (g := (mkF m 49 #[.val (.int (2 : Int32)), .val (.int p1), .val (.int p2)] [(.int p2), (.int (1 : Int32)), (.ref b11), (.ref b11), (.ref b1), (.ref b1)])) rfl rfl (hb hby dSt2_49)
  have f35 := (f25.wr W34)
  have f36 := (f26.wr W34)
  have f37 := (f27.wr W34)
  have f38 := (f28.other W34 (Or.inl ne15))
  have f39 := (f29.other W34 (Or.inl ne15))
  have Z40 : n0 ≤ h34.size := (Nat.le_trans Z30 (Keep.of_wr W34).1)
  have K41 : Keep h0 h34 [] := (K31.wr W34 (Or.inr sz13))
  have N42 := Fr.snoc X34 N32 g12
  have f43 : Arv Z h34 b11 k11 .char (2 : Int32) [(.int (nar .char p1)), (.int (nar .char p2))] (.int (0 : Int32)) := Arv.set Ar34 q34 S34 Ng34 H34 G34 (fits_nar_char _) W34 1 rfl (Nat.le_of_ble_eq_true rfl)
  refine OFin.of (S' := T34.setTop (mkF m 50 #[.val (.int (2 : Int32)), .val (.int p1), .val (.int p2)] [(.ref b11), (.ref b1), (.ref b1)])) (fun t ht => st34 t ht) ?_
  obtain ⟨_, _, ⟨T44, L44, k44, n44⟩, -, X44, ⟨Lc44, hQ44, l44, y44, z44⟩, st44⟩ := X34.specialBack hx (y := (⟨"java/lang/String", "<init>", "([C)V"⟩ : MethodName)) rfl hown (mvT hZ (hw _ (List.mem_of_getElem? (i := 11) rfl))) (mvT hZ (hw _ (List.mem_of_getElem? (i := 12) rfl))) (mvT hZ (hw _ (List.mem_of_getElem? (i := 13) rfl))) (by decide) (backOf (W := 1) (rmSi2 l Z _ hw [] b1 b11 k11 cs (nar .char p1) (nar .char p2) h34 n0 Z40 f37 f39 f38 f43 g2 (Ne.symm ne15) f36 hcs hp0 hp1) hZ (hw _ (List.mem_of_getElem? (i := 13) rfl)) (hw _ (List.mem_of_getElem? (i := 9) rfl)) (by decide) (by decide)) (g := (mkF m 50 #[.val (.int (2 : Int32)), .val (.int p1), .val (.int p2)] [(.ref b11), (.ref b1), (.ref b1)])) rfl (by rw [hml]; rfl) (Steps.refl _) (a := b1) (argsL := [(.ref b11)]) (rest := [(.ref b1)]) (lenOf pd_1 rfl) rfl (by show 2 * 0 + _ ≤ _; exact Nat.le_of_eq rfl) (hb hby dSt2_50) (fun _ _ => ⟨rfl, e34, (by decide : 2 + 1 ≤ _), (by decide : 6 + 2 ≤ _)⟩)
  dsimp only [Pt.U, Pt.locs, Pt.cells, Pt.slots] at X44 l44 y44 z44 st44 hQ44
  subst l44 y44 z44
  obtain ⟨rfl, Nq44, Kq44, f45, f46, ⟨kb_44, f47⟩⟩ := hQ44
  have N48 := Fr.app N42 Nq44
  obtain ⟨b44, gq44⟩ : ∃ z, z = h34.size := ⟨_, rfl⟩
  rw [← gq44] at f46 f47
  have g49 : n0 ≤ b44 := (Nat.le_trans Z40 (Nat.le_of_eq gq44.symm))
  have sz50 : h0.size ≤ b44 := (Nat.le_trans K41.1 (Nat.le_of_eq gq44.symm))
  have ne51 : xs ≠ b44 := (Nat.ne_of_lt (Nat.lt_of_lt_of_le f35.lt (Nat.le_of_eq gq44.symm)))
  have ne52 : b1 ≠ b44 := (Nat.ne_of_lt (Nat.lt_of_lt_of_le f37.lt (Nat.le_of_eq gq44.symm)))
  have ne53 : b11 ≠ b44 := (Nat.ne_of_lt (Nat.lt_of_lt_of_le f43.lt (Nat.le_of_eq gq44.symm)))
  have f54 := (f35.keep Kq44)
  have f55 := (own_staKeep f36 Kq44 (own_snS f37 own_sn0))
  have f56 := (f37.keep Kq44)
  have f57 := (f43.keep Kq44 (ninS (Ne.symm ne15) nin0))
  have Z58 : n0 ≤ T44.heap.size := (Nat.le_trans Z40 Kq44.1)
  have K59 : Keep h0 T44.heap [] := (K41.trans Kq44 (allS (Or.inr sz3) all0))
  refine OFin.to (S' := T44.setTop (mkF m 53 #[.val (.int (2 : Int32)), .val (.int p1), .val (.int p2)] [(.ref b1)])) st44 ?_
  exact OFin.retA X44 hx hlk (t := (.object "java/lang/String")) rfl rfl hret (hb hby dSt2_53) (by decide) (by decide) (by exact ⟨by rw [← gq1], N48, K59, by rw [← gq1]; exact f56, b44, kb_44, by rw [← gq1]; exact f45, by rw [← gq1]; exact f46, f47, ne51⟩)
theorem dIni_0 : decode prog_27_method_1_code 0 = .ok (.aload_n 0, 1) := by decide +kernel
theorem dIni_1 : decode prog_27_method_1_code 1 = .ok (.invokespecial 1, 3) := by decide +kernel
theorem dIni_4 : decode prog_27_method_1_code 4 = .ok (.aload_n 0, 1) := by decide +kernel
theorem dIni_5 : decode prog_27_method_1_code 5 = .ok (.aload_n 1, 1) := by decide +kernel
theorem dIni_6 : decode prog_27_method_1_code 6 = .ok (.putfield 7, 3) := by decide +kernel
theorem dIni_9 : decode prog_27_method_1_code 9 = .ok (.aload_n 0, 1) := by decide +kernel
theorem dIni_10 : decode prog_27_method_1_code 10 = .ok (.lload_n 2, 1) := by decide +kernel
theorem dIni_11 : decode prog_27_method_1_code 11 = .ok (.putfield 13, 3) := by decide +kernel
theorem dIni_14 : decode prog_27_method_1_code 14 = .ok (.aload_n 0, 1) := by decide +kernel
theorem dIni_15 : decode prog_27_method_1_code 15 = .ok (.lload 4, 2) := by decide +kernel
theorem dIni_17 : decode prog_27_method_1_code 17 = .ok (.putfield 17, 3) := by decide +kernel
theorem dIni_20 : decode prog_27_method_1_code 20 = .ok (.return_, 1) := by decide +kernel
theorem pnIni : plainName "com/example/greylag/greylag/model/Bundle" = true := by first | (simp [plainName, overriddenIn]; done) | decide +kernel
theorem efIni (m : MethodId) (a0 : Addr) (a1 : Addr) (q2 : Int64) (q3 : Int64) : entryFrame m #[(.ref a0), (.ref a1), (.long q2), (.long q3)] 6 = mkF m 0 #[.val (.ref a0), .val (.ref a1), .val (.long q2), .second, .val (.long q3), .second] [] := by first | (simp [entryFrame, mkF, argsToLocals, Value.category]; done) | rfl
def QIni (Z : State) (a0 : Addr) (a1 : Addr) (q2 : Int64) (q3 : Int64) (h0 : Heap) (n0 : Nat) (v : Option Value) (h : Heap) (L : List Loc) : Prop := v = none ∧ Fr n0 L ∧ Keep h0 h [a0] ∧ Fld Z h a0 "com/example/greylag/greylag/model/Bundle" "namespace" "Ljava/lang/String;" (.ref a1) ∧ Fld Z h a0 "com/example/greylag/greylag/model/Bundle" "lower" "J" (.long q2) ∧ Fld Z h a0 "com/example/greylag/greylag/model/Bundle" "upper" "J" (.long q3)
set_option maxRecDepth 65536 in
set_option maxHeartbeats 40000000 in
theorem rmIni (l : Launch) (Z : State) (a0 : Array Value) (hw : ∀ d ∈ tables_1, d.before a0 Z = true) (ws : List Jvm.Cond) (a0 : Addr) (a1 : Addr) (q2 : Int64) (q3 : Int64) (h0 : Heap) (n0 : Nat) (Z0 : n0 ≤ h0.size) (E0 : Exa Z h0 a0 "com/example/greylag/greylag/model/Bundle") (F_namespace : Fld Z h0 a0 "com/example/greylag/greylag/model/Bundle" "namespace" "Ljava/lang/String;" .null) (F_lower : Fld Z h0 a0 "com/example/greylag/greylag/model/Bundle" "lower" "J" (.long (0 : Int64))) (F_upper : Fld Z h0 a0 "com/example/greylag/greylag/model/Bundle" "upper" "J" (.long (0 : Int64))) (g0 : n0 ≤ a0) :
    MetFree l (⟨"com/example/greylag/greylag/model/Bundle", "<init>", "(Ljava/lang/String;JJ)V"⟩ : MethodName) (head1 (Jvm.Cond.code (⟨"com/example/greylag/greylag/model/Bundle", "<init>", "(Ljava/lang/String;JJ)V"⟩ : MethodName) prog_27_method_1_code 6 none :: ws) ({ frames := 1, cells := 0, slots := 0, locals := 12 } : Room)) (fun a U => a = #[(.ref a0), (.ref a1), (.long q2), (.long q3)] ∧ Z.Warmed39 U.vm ∧ U.heap = h0) (fun _ _ _ _ _ => True) (fun _ U o U' => ∃ v L, o = .returned v ∧ QIni Z a0 a1 q2 q3 h0 n0 v U'.heap L ∧ FrameEnd U o U' L ({ frames := 1, cells := 0, slots := 0, locals := 12 } : Room).cells ({ frames := 1, cells := 0, slots := 0, locals := 12 } : Room).slots) := by
  refine MetFree.of_bodySF (plainFor_of_name pnIni) hisR ?_
  intro p e s m args below meth c s₁ Bd hml0 hP hK
  obtain ⟨rfl, hZ, hh⟩ := hP
  have hx := Bd.exec
  have hby := Bd.bytes
  have hlk := BodyLoose.notSynchronized Bd
  have hret := Bd.returns
  have hml : c.maxLocals = 6 := hml0
  have hown : s.vm.findClass "com/example/greylag/greylag/model/Bundle" = some m.cls := findClass_of_methodNamed Bd.named
  have hnm := (name_of_methodNamed Bd.named Bd.method).1
  have X0 : Stand p l e ({ frames := 1, cells := 0, slots := 0, locals := 12 } : Room) s m #[(.ref a0), (.ref a1), (.long q2), (.long q3)] below meth c s₁ [] 0 0 := Stand.of_body Bd
  have e0 : s₁.heap = h0 := by rw [← hh, Bd.state]; rfl
  have N0 := Fr.nil n0
  show OFin p e below (KPost s (QIni Z a0 a1 q2 q3 h0 n0) ({ frames := 1, cells := 0, slots := 0, locals := 12 } : Room).cells ({ frames := 1, cells := 0, slots := 0, locals := 12 } : Room).slots) _
  rw [efIni m a0 a1 q2 q3]
  have K0 : Keep h0 h0 [a0] := Keep.refl _ _
  refine OFin.of (S' := s₁.setTop (mkF m 1 #[.val (.ref a0), .val (.ref a1), .val (.long q2), .second, .val (.long q3), .second] [(.ref a0)])) (fun t ht => ?_) ?_
  · refine XS.aloadN X0.here hx rfl (hb hby dIni_0) rfl rfl ?_
    exact ht
  obtain ⟨T1, X1, e1, st1⟩ := initO X0 hx hZ hown (hw _ (List.mem_of_getElem? (i := 32) rfl)) (hw _ (List.mem_of_getElem? (i := 19) rfl)) (hw _ (List.mem_of_getElem? (i := 20) rfl)) e0 (g := (mkF m 1 #[.val (.ref a0), .val (.ref a1), .val (.long q2), .second, .val (.long q3), .second] [(.ref a0)])) rfl (by rw [hml]; rfl) rfl (hb hby dIni_1) (by decide) (W := 0) (by show 2 * 0 + _ ≤ _; exact Nat.le_of_eq rfl) (by decide)
  refine OFin.of (S' := T1.setTop (mkF m 4 #[.val (.ref a0), .val (.ref a1), .val (.long q2), .second, .val (.long q3), .second] [])) (fun t ht => st1 t ht) ?_
  refine OFin.of (S' := T1.setTop (mkF m 6 #[.val (.ref a0), .val (.ref a1), .val (.long q2), .second, .val (.long q3), .second] [(.ref a1), (.ref a0)])) (fun t ht => ?_) ?_
  · refine XS.aloadN X1.here hx rfl (hb hby dIni_4) rfl rfl ?_
    show Steps p.tables e below (T1.setTop (mkF m 5 _ [(.ref a0)])) _
    refine XS.aloadN X1.here hx rfl (hb hby dIni_5) rfl rfl ?_
    exact ht
  obtain ⟨T2, h2, X2, e2, W2, st2⟩ := putF X1 hx hZ hown (host := "") (Or.inl (hw _ (List.mem_of_getElem? (i := 33) rfl))) Via.refl e1 F_namespace E0 (Or.inr ⟨(hw _ (List.mem_of_getElem? (i := 34) rfl)), rfl, hnm⟩) (hw _ (List.mem_of_getElem? (i := 1) rfl)) (ty := (.object "java/lang/String")) (by decide) rfl rfl (g := (mkF m 6 #[.val (.ref a0), .val (.ref a1), .val (.long q2), .second, .val (.long q3), .second] [(.ref a1), (.ref a0)])) rfl rfl (hb hby dIni_6)
  have f3 := (E0.wr W2)
  have f4 := (F_lower.other W2 (Or.inr (slot_ne (Or.inr (hw _ (List.mem_of_getElem? (i := 36) rfl))) (Or.inr (hw _ (List.mem_of_getElem? (i := 34) rfl))) (by decide) (t := .long) (t' := (.object "java/lang/String")) (by decide) (by decide))))
  have f5 := (F_upper.other W2 (Or.inr (slot_ne (Or.inr (hw _ (List.mem_of_getElem? (i := 38) rfl))) (Or.inr (hw _ (List.mem_of_getElem? (i := 34) rfl))) (by decide) (t := .long) (t' := (.object "java/lang/String")) (by decide) (by decide))))
  have Z6 : n0 ≤ h2.size := (Nat.le_trans Z0 (Keep.of_wr W2).1)
  have K7 : Keep h0 h2 [a0] := (K0.wr W2 (Or.inl (List.mem_of_getElem? (i := 0) rfl)))
  have N8 := Fr.snoc X2 N0 g0
  have f9 : Fld Z h2 a0 "com/example/greylag/greylag/model/Bundle" "namespace" "Ljava/lang/String;" (.ref a1) := (F_namespace.same W2)
  refine OFin.of (S' := T2.setTop (mkF m 9 #[.val (.ref a0), .val (.ref a1), .val (.long q2), .second, .val (.long q3), .second] [])) (fun t ht => st2 t ht) ?_
  refine OFin.of (S' := T2.setTop (mkF m 11 #[.val (.ref a0), .val (.ref a1), .val (.long q2), .second, .val (.long q3), .second] [(.long q2), (.ref a0)])) (fun t ht => ?_) ?_
  · refine XS.aloadN X2.here hx rfl (hb hby dIni_9) rfl rfl ?_
    show Steps p.tables e below (T2.setTop (mkF m 10 _ [(.ref a0)])) _
    refine XS.lloadN X2.here hx rfl (hb hby dIni_10) rfl ?_
    exact ht
  obtain ⟨T10, h10, X10, e10, W10, st10⟩ := putF X2 hx hZ hown (host := "") (Or.inl (hw _ (List.mem_of_getElem? (i := 35) rfl))) Via.refl e2 f4 f3 (Or.inr ⟨(hw _ (List.mem_of_getElem? (i := 36) rfl)), rfl, hnm⟩) (hw _ (List.mem_of_getElem? (i := 1) rfl)) (ty := .long) (by decide) rfl rfl (g := (mkF m 11 #[.val (.ref a0), .val (.ref a1), .val (.long q2), .second, .val (.long q3), .second] [(.long q2), (.ref a0)])) rfl rfl (hb hby dIni_11)
  have f11 := (f3.wr W10)
  have f12 := (f5.other W10 (Or.inr (slot_ne (Or.inr (hw _ (List.mem_of_getElem? (i := 38) rfl))) (Or.inr (hw _ (List.mem_of_getElem? (i := 36) rfl))) (by decide) (t := .long) (t' := .long) (by decide) (by decide))))
  have f13 := (f9.other W10 (Or.inr (slot_ne (Or.inr (hw _ (List.mem_of_getElem? (i := 34) rfl))) (Or.inr (hw _ (List.mem_of_getElem? (i := 36) rfl))) (by decide) (t := (.object "java/lang/String")) (t' := .long) (by decide) (by decide))))
  have Z14 : n0 ≤ h10.size := (Nat.le_trans Z6 (Keep.of_wr W10).1)
  have K15 : Keep h0 h10 [a0] := (K7.wr W10 (Or.inl (List.mem_of_getElem? (i := 0) rfl)))
  have N16 := Fr.snoc X10 N8 g0
  have f17 : Fld Z h10 a0 "com/example/greylag/greylag/model/Bundle" "lower" "J" (.long q2) := (f4.same W10)
  refine OFin.of (S' := T10.setTop (mkF m 14 #[.val (.ref a0), .val (.ref a1), .val (.long q2), .second, .val (.long q3), .second] [])) (fun t ht => st10 t ht) ?_
  refine OFin.of (S' := T10.setTop (mkF m 17 #[.val (.ref a0), .val (.ref a1), .val (.long q2), .second, .val (.long q3), .second] [(.long q3), (.ref a0)])) (fun t ht => ?_) ?_
  · refine XS.aloadN X10.here hx rfl (hb hby dIni_14) rfl rfl ?_
    show Steps p.tables e below (T10.setTop (mkF m 15 _ [(.ref a0)])) _
    refine XS.lload X10.here hx rfl (hb hby dIni_15) rfl ?_
    exact ht
  obtain ⟨T18, h18, X18, e18, W18, st18⟩ := putF X10 hx hZ hown (host := "") (Or.inl (hw _ (List.mem_of_getElem? (i := 37) rfl))) Via.refl e10 f12 f11 (Or.inr ⟨(hw _ (List.mem_of_getElem? (i := 38) rfl)), rfl, hnm⟩) (hw _ (List.mem_of_getElem? (i := 1) rfl)) (ty := .long) (by decide) rfl rfl (g := (mkF m 17 #[.val (.ref a0), .val (.ref a1), .val (.long q2), .second, .val (.long q3), .second] [(.long q3), (.ref a0)])) rfl rfl (hb hby dIni_17)
  have f19 := (f11.wr W18)
  have f20 := (f13.other W18 (Or.inr (slot_ne (Or.inr (hw _ (List.mem_of_getElem? (i := 34) rfl))) (Or.inr (hw _ (List.mem_of_getElem? (i := 38) rfl))) (by decide) (t := (.object "java/lang/String")) (t' := .long) (by decide) (by decide))))
  have f21 := (f17.other W18 (Or.inr (slot_ne (Or.inr (hw _ (List.mem_of_getElem? (i := 36) rfl))) (Or.inr (hw _ (List.mem_of_getElem? (i := 38) rfl))) (by decide) (t := .long) (t' := .long) (by decide) (by decide))))
  have Z22 : n0 ≤ h18.size := (Nat.le_trans Z14 (Keep.of_wr W18).1)
  have K23 : Keep h0 h18 [a0] := (K15.wr W18 (Or.inl (List.mem_of_getElem? (i := 0) rfl)))
  have N24 := Fr.snoc X18 N16 g0
  have f25 : Fld Z h18 a0 "com/example/greylag/greylag/model/Bundle" "upper" "J" (.long q3) := (f12.same W18)
  refine OFin.of (S' := T18.setTop (mkF m 20 #[.val (.ref a0), .val (.ref a1), .val (.long q2), .second, .val (.long q3), .second] [])) (fun t ht => st18 t ht) ?_
  exact OFin.retV X18 hx hlk hret (hb hby dIni_20) (by decide) (by decide) (by rw [e18]; exact ⟨rfl, N24, K23, f20, f21, f25⟩)
theorem dNum_0 : decode jdk_18_method_1_code 0 = .ok (.aload_n 0, 1) := by decide +kernel
theorem dNum_1 : decode jdk_18_method_1_code 1 = .ok (.invokespecial 1, 3) := by decide +kernel
theorem dNum_4 : decode jdk_18_method_1_code 4 = .ok (.return_, 1) := by decide +kernel
theorem pnNum : plainName "java/lang/Number" = true := by first | (simp [plainName, overriddenIn]; done) | decide +kernel
theorem efNum (m : MethodId) (a0 : Addr) : entryFrame m #[(.ref a0)] 1 = mkF m 0 #[.val (.ref a0)] [] := by first | (simp [entryFrame, mkF, argsToLocals, Value.category]; done) | rfl
def QNum (Z : State) (a0 : Addr) (h0 : Heap) (n0 : Nat) (v : Option Value) (h : Heap) (L : List Loc) : Prop := v = none ∧ Fr n0 L ∧ h = h0
set_option maxRecDepth 65536 in
set_option maxHeartbeats 40000000 in
theorem rmNum (l : Launch) (Z : State) (a0 : Array Value) (hw : ∀ d ∈ tables_1, d.before a0 Z = true) (ws : List Jvm.Cond) (a0 : Addr) (h0 : Heap) (n0 : Nat) (Z0 : n0 ≤ h0.size)  :
    MetFree l (⟨"java/lang/Number", "<init>", "()V"⟩ : MethodName) (head1 (Jvm.Cond.code (⟨"java/lang/Number", "<init>", "()V"⟩ : MethodName) jdk_18_method_1_code 1 none :: ws) ({ frames := 1, cells := 0, slots := 0, locals := 12 } : Room)) (fun a U => a = #[(.ref a0)] ∧ Z.Warmed39 U.vm ∧ U.heap = h0) (fun _ _ _ _ _ => True) (fun _ U o U' => ∃ v L, o = .returned v ∧ QNum Z a0 h0 n0 v U'.heap L ∧ FrameEnd U o U' L ({ frames := 1, cells := 0, slots := 0, locals := 12 } : Room).cells ({ frames := 1, cells := 0, slots := 0, locals := 12 } : Room).slots) := by
  refine MetFree.of_bodySF (plainFor_of_name pnNum) hisR ?_
  intro p e s m args below meth c s₁ Bd hml0 hP hK
  obtain ⟨rfl, hZ, hh⟩ := hP
  have hx := Bd.exec
  have hby := Bd.bytes
  have hlk := BodyLoose.notSynchronized Bd
  have hret := Bd.returns
  have hml : c.maxLocals = 1 := hml0
  have hown : s.vm.findClass "java/lang/Number" = some m.cls := findClass_of_methodNamed Bd.named
  have hnm := (name_of_methodNamed Bd.named Bd.method).1
  have X0 : Stand p l e ({ frames := 1, cells := 0, slots := 0, locals := 12 } : Room) s m #[(.ref a0)] below meth c s₁ [] 0 0 := Stand.of_body Bd
  have e0 : s₁.heap = h0 := by rw [← hh, Bd.state]; rfl
  have N0 := Fr.nil n0
  show OFin p e below (KPost s (QNum Z a0 h0 n0) ({ frames := 1, cells := 0, slots := 0, locals := 12 } : Room).cells ({ frames := 1, cells := 0, slots := 0, locals := 12 } : Room).slots) _
  rw [efNum m a0]
  refine OFin.of (S' := s₁.setTop (mkF m 1 #[.val (.ref a0)] [(.ref a0)])) (fun t ht => ?_) ?_
  · refine XS.aloadN X0.here hx rfl (hb hby dNum_0) rfl rfl ?_
    exact ht
  obtain ⟨T1, X1, e1, st1⟩ := initO X0 hx hZ hown (hw _ (List.mem_of_getElem? (i := 77) rfl)) (hw _ (List.mem_of_getElem? (i := 19) rfl)) (hw _ (List.mem_of_getElem? (i := 20) rfl)) e0 (g := (mkF m 1 #[.val (.ref a0)] [(.ref a0)])) rfl (by rw [hml]; rfl) rfl (hb hby dNum_1) (by decide) (W := 0) (by show 2 * 0 + _ ≤ _; exact Nat.le_of_eq rfl) (by decide)
  refine OFin.of (S' := T1.setTop (mkF m 4 #[.val (.ref a0)] [])) (fun t ht => st1 t ht) ?_
  exact OFin.retV X1 hx hlk hret (hb hby dNum_4) (by decide) (by decide) (by rw [e1]; exact ⟨rfl, N0, rfl⟩)
theorem dLin_0 : decode jdk_35_method_26_code 0 = .ok (.aload_n 0, 1) := by decide +kernel
theorem dLin_1 : decode jdk_35_method_26_code 1 = .ok (.invokespecial 270, 3) := by decide +kernel
theorem dLin_4 : decode jdk_35_method_26_code 4 = .ok (.aload_n 0, 1) := by decide +kernel
theorem dLin_5 : decode jdk_35_method_26_code 5 = .ok (.lload_n 1, 1) := by decide +kernel
theorem dLin_6 : decode jdk_35_method_26_code 6 = .ok (.putfield 273, 3) := by decide +kernel
theorem dLin_9 : decode jdk_35_method_26_code 9 = .ok (.return_, 1) := by decide +kernel
theorem pnLin : plainName "java/lang/Long" = true := by first | (simp [plainName, overriddenIn]; done) | decide +kernel
theorem efLin (m : MethodId) (a0 : Addr) (q1 : Int64) : entryFrame m #[(.ref a0), (.long q1)] 3 = mkF m 0 #[.val (.ref a0), .val (.long q1), .second] [] := by first | (simp [entryFrame, mkF, argsToLocals, Value.category]; done) | rfl
def QLin (Z : State) (a0 : Addr) (q1 : Int64) (h0 : Heap) (n0 : Nat) (v : Option Value) (h : Heap) (L : List Loc) : Prop := v = none ∧ Fr n0 L ∧ Keep h0 h [a0]
set_option maxRecDepth 65536 in
set_option maxHeartbeats 40000000 in
theorem rmLin (l : Launch) (Z : State) (a0 : Array Value) (hw : ∀ d ∈ tables_1, d.before a0 Z = true) (ws : List Jvm.Cond) (a0 : Addr) (q1 : Int64) (h0 : Heap) (n0 : Nat) (Z0 : n0 ≤ h0.size) (E0 : Exa Z h0 a0 "java/lang/Long") (Fw : Fld Z h0 a0 "java/lang/Long" "value" "J" (.long (0 : Int64))) (g0 : n0 ≤ a0) :
    MetFree l (⟨"java/lang/Long", "<init>", "(J)V"⟩ : MethodName) (head1 (Jvm.Cond.code (⟨"java/lang/Long", "<init>", "(J)V"⟩ : MethodName) jdk_35_method_26_code 3 none :: ws) ({ frames := 2, cells := 0, slots := 0, locals := 24 } : Room)) (fun a U => a = #[(.ref a0), (.long q1)] ∧ Z.Warmed39 U.vm ∧ U.heap = h0) (fun _ _ _ _ _ => True) (fun _ U o U' => ∃ v L, o = .returned v ∧ QLin Z a0 q1 h0 n0 v U'.heap L ∧ FrameEnd U o U' L ({ frames := 2, cells := 0, slots := 0, locals := 24 } : Room).cells ({ frames := 2, cells := 0, slots := 0, locals := 24 } : Room).slots) := by
  refine MetFree.of_bodySF (plainFor_of_name pnLin) hisR ?_
  intro p e s m args below meth c s₁ Bd hml0 hP hK
  obtain ⟨rfl, hZ, hh⟩ := hP
  have hx := Bd.exec
  have hby := Bd.bytes
  have hlk := BodyLoose.notSynchronized Bd
  have hret := Bd.returns
  have hml : c.maxLocals = 3 := hml0
  have hown : s.vm.findClass "java/lang/Long" = some m.cls := findClass_of_methodNamed Bd.named
  have hnm := (name_of_methodNamed Bd.named Bd.method).1
  have X0 : Stand p l e ({ frames := 2, cells := 0, slots := 0, locals := 24 } : Room) s m #[(.ref a0), (.long q1)] below meth c s₁ [] 0 0 := Stand.of_body Bd
  have e0 : s₁.heap = h0 := by rw [← hh, Bd.state]; rfl
  have N0 := Fr.nil n0
  show OFin p e below (KPost s (QLin Z a0 q1 h0 n0) ({ frames := 2, cells := 0, slots := 0, locals := 24 } : Room).cells ({ frames := 2, cells := 0, slots := 0, locals := 24 } : Room).slots) _
  rw [efLin m a0 q1]
  have K0 : Keep h0 h0 [a0] := Keep.refl _ _
  refine OFin.of (S' := s₁.setTop (mkF m 1 #[.val (.ref a0), .val (.long q1), .second] [(.ref a0)])) (fun t ht => ?_) ?_
  · refine XS.aloadN X0.here hx rfl (hb hby dLin_0) rfl rfl ?_
    exact ht
  obtain ⟨_, _, ⟨T1, L1, k1, n1⟩, -, X1, ⟨Lc1, hQ1, l1, y1, z1⟩, st1⟩ := X0.specialBack hx (y := (⟨"java/lang/Number", "<init>", "()V"⟩ : MethodName)) rfl hown (mvT hZ (hw _ (List.mem_of_getElem? (i := 71) rfl))) (mvT hZ (hw _ (List.mem_of_getElem? (i := 72) rfl))) (mvT hZ (hw _ (List.mem_of_getElem? (i := 76) rfl))) (by decide) (backOf (W := 0) (rmNum l Z _ hw [] a0 h0 n0 Z0 ) hZ (hw _ (List.mem_of_getElem? (i := 76) rfl)) (hw _ (List.mem_of_getElem? (i := 75) rfl)) (by decide) (by decide)) (g := (mkF m 1 #[.val (.ref a0), .val (.long q1), .second] [(.ref a0)])) rfl (by rw [hml]; rfl) (Steps.refl _) (a := a0) (argsL := []) (rest := []) (lenOf pd_5 rfl) rfl (by show 2 * 0 + _ ≤ _; exact Nat.le_of_eq rfl) (hb hby dLin_1) (fun _ _ => ⟨rfl, e0, (by decide : 0 + 0 ≤ _), (by decide : 0 + 0 ≤ _)⟩)
  dsimp only [Pt.U, Pt.locs, Pt.cells, Pt.slots] at X1 l1 y1 z1 st1 hQ1
  subst l1 y1 z1
  obtain ⟨rfl, Nq1, hs1⟩ := hQ1
  have N2 := Fr.app N0 Nq1
  refine OFin.to (S' := T1.setTop (mkF m 4 #[.val (.ref a0), .val (.long q1), .second] [])) st1 ?_
  refine OFin.of (S' := T1.setTop (mkF m 6 #[.val (.ref a0), .val (.long q1), .second] [(.long q1), (.ref a0)])) (fun t ht => ?_) ?_
  · refine XS.aloadN X1.here hx rfl (hb hby dLin_4) rfl rfl ?_
    show Steps p.tables e below (T1.setTop (mkF m 5 _ [(.ref a0)])) _
    refine XS.lloadN X1.here hx rfl (hb hby dLin_5) rfl ?_
    exact ht
  obtain ⟨T3, h3, X3, e3, W3, st3⟩ := putF X1 hx hZ hown (host := "") (Or.inl (hw _ (List.mem_of_getElem? (i := 78) rfl))) Via.refl hs1 Fw E0 (Or.inr ⟨(hw _ (List.mem_of_getElem? (i := 79) rfl)), rfl, hnm⟩) (hw _ (List.mem_of_getElem? (i := 66) rfl)) (ty := .long) (by decide) rfl rfl (g := (mkF m 6 #[.val (.ref a0), .val (.long q1), .second] [(.long q1), (.ref a0)])) rfl rfl (hb hby dLin_6)
  have f4 := (E0.wr W3)
  have Z5 : n0 ≤ h3.size := (Nat.le_trans Z0 (Keep.of_wr W3).1)
  have K6 : Keep h0 h3 [a0] := (K0.wr W3 (Or.inl (List.mem_of_getElem? (i := 0) rfl)))
  have N7 := Fr.snoc X3 N2 g0
  have f8 : Fld Z h3 a0 "java/lang/Long" "value" "J" (.long q1) := (Fw.same W3)
  refine OFin.of (S' := T3.setTop (mkF m 9 #[.val (.ref a0), .val (.long q1), .second] [])) (fun t ht => st3 t ht) ?_
  exact OFin.retV X3 hx hlk hret (hb hby dLin_9) (by decide) (by decide) (by rw [e3]; exact ⟨rfl, N7, K6⟩)
theorem dVo_0 : decode jdk_35_method_24_code 0 = .ok (.sipush 128, 3) := by decide +kernel
theorem dVo_3 : decode jdk_35_method_24_code 3 = .ok (.istore_n 2, 1) := by decide +kernel
theorem dVo_4 : decode jdk_35_method_24_code 4 = .ok (.lload_n 0, 1) := by decide +kernel
theorem dVo_5 : decode jdk_35_method_24_code 5 = .ok (.ldc2_w 230, 3) := by decide +kernel
theorem dVo_8 : decode jdk_35_method_24_code 8 = .ok (.lcmp, 1) := by decide +kernel
theorem dVo_9 : decode jdk_35_method_24_code 9 = .ok (.ifCond .lt 22, 3) := by decide +kernel
theorem dVo_12 : decode jdk_35_method_24_code 12 = .ok (.lload_n 0, 1) := by decide +kernel
theorem dVo_13 : decode jdk_35_method_24_code 13 = .ok (.ldc2_w 232, 3) := by decide +kernel
theorem dVo_16 : decode jdk_35_method_24_code 16 = .ok (.lcmp, 1) := by decide +kernel
theorem dVo_17 : decode jdk_35_method_24_code 17 = .ok (.ifCond .gt 14, 3) := by decide +kernel
theorem dVo_20 : decode jdk_35_method_24_code 20 = .ok (.getstatic 234, 3) := by decide +kernel
theorem dVo_23 : decode jdk_35_method_24_code 23 = .ok (.lload_n 0, 1) := by decide +kernel
theorem dVo_24 : decode jdk_35_method_24_code 24 = .ok (.l2i, 1) := by decide +kernel
theorem dVo_25 : decode jdk_35_method_24_code 25 = .ok (.sipush 128, 3) := by decide +kernel
theorem dVo_28 : decode jdk_35_method_24_code 28 = .ok (.iadd, 1) := by decide +kernel
theorem dVo_29 : decode jdk_35_method_24_code 29 = .ok (.aaload, 1) := by decide +kernel
theorem dVo_30 : decode jdk_35_method_24_code 30 = .ok (.areturn, 1) := by decide +kernel
theorem dVo_31 : decode jdk_35_method_24_code 31 = .ok (.new 1, 3) := by decide +kernel
theorem dVo_34 : decode jdk_35_method_24_code 34 = .ok (.dup, 1) := by decide +kernel
theorem dVo_35 : decode jdk_35_method_24_code 35 = .ok (.lload_n 0, 1) := by decide +kernel
theorem dVo_36 : decode jdk_35_method_24_code 36 = .ok (.invokespecial 240, 3) := by decide +kernel
theorem dVo_39 : decode jdk_35_method_24_code 39 = .ok (.areturn, 1) := by decide +kernel
theorem pnVo : plainName "java/lang/Long" = true := by first | (simp [plainName, overriddenIn]; done) | decide +kernel
theorem efVo (m : MethodId) (q0 : Int64) : entryFrame m #[(.long q0)] 3 = mkF m 0 #[.val (.long q0), .second, .unset] [] := by first | (simp [entryFrame, mkF, argsToLocals, Value.category]; done) | rfl
def QVo (Z : State) (q0 : Int64) (ac : Addr) (h0 : Heap) (n0 : Nat) (v : Option Value) (h : Heap) (L : List Loc) : Prop := ∃ r : Addr, v = some (.ref r) ∧ Fr n0 L ∧ Keep h0 h [] ∧ Exa Z h r "java/lang/Long"
set_option maxRecDepth 65536 in
set_option maxHeartbeats 40000000 in
theorem rmVo (l : Launch) (Z : State) (a0 : Array Value) (hw : ∀ d ∈ tables_1, d.before a0 Z = true) (ws : List Jvm.Cond) (q0 : Int64) (ac : Addr) (h0 : Heap) (n0 : Nat) (Z0 : n0 ≤ h0.size) (Scc : Sta Z h0 "java/lang/Long$LongCache" "cache" "[Ljava/lang/Long;" (.ref ac)) (hLC : OwnLC Z h0 ac) :
    MetFree l (⟨"java/lang/Long", "valueOf", "(J)Ljava/lang/Long;"⟩ : MethodName) (head1 (Jvm.Cond.code (⟨"java/lang/Long", "valueOf", "(J)Ljava/lang/Long;"⟩ : MethodName) jdk_35_method_24_code 3 (some (.object "java/lang/Long")) :: ws) ({ frames := 3, cells := 1, slots := 1, locals := 39 } : Room)) (fun a U => a = #[(.long q0)] ∧ Z.Warmed39 U.vm ∧ U.heap = h0) (fun _ _ _ _ _ => True) (fun _ U o U' => ∃ v L, o = .returned v ∧ QVo Z q0 ac h0 n0 v U'.heap L ∧ FrameEnd U o U' L ({ frames := 3, cells := 1, slots := 1, locals := 39 } : Room).cells ({ frames := 3, cells := 1, slots := 1, locals := 39 } : Room).slots) := by
  refine MetFree.of_bodySF (plainFor_of_name pnVo) hisR ?_
  intro p e s m args below meth c s₁ Bd hml0 hP hK
  obtain ⟨rfl, hZ, hh⟩ := hP
  have hx := Bd.exec
  have hby := Bd.bytes
  have hlk := BodyLoose.notSynchronized Bd
  have hret := Bd.returns
  have hml : c.maxLocals = 3 := hml0
  have hown : s.vm.findClass "java/lang/Long" = some m.cls := findClass_of_methodNamed Bd.named
  have hnm := (name_of_methodNamed Bd.named Bd.method).1
  have X0 : Stand p l e ({ frames := 3, cells := 1, slots := 1, locals := 39 } : Room) s m #[(.long q0)] below meth c s₁ [] 0 0 := Stand.of_body Bd
  have e0 : s₁.heap = h0 := by rw [← hh, Bd.state]; rfl
  have N0 := Fr.nil n0
  show OFin p e below (KPost s (QVo Z q0 ac h0 n0) ({ frames := 3, cells := 1, slots := 1, locals := 39 } : Room).cells ({ frames := 3, cells := 1, slots := 1, locals := 39 } : Room).slots) _
  rw [efVo m q0]
  have K0 : Keep h0 h0 [] := Keep.refl _ _
  refine OFin.of (S' := s₁.setTop (mkF m 9 #[.val (.long q0), .second, .val (.int (128 : Int32))] [(.int (lcmpW q0 (-128 : Int64)))])) (fun t ht => ?_) ?_
  · refine XS.sipush X0.here hx rfl (hb hby dVo_0) ?_
    show Steps p.tables e below (s₁.setTop (mkF m 3 _ [(.int (128 : Int32))])) _
    refine XS.istoreN X0.here hx rfl (hb hby dVo_3) rfl (l' := #[.val (.long q0), .second, .val (.int (128 : Int32))]) rfl ?_
    show Steps p.tables e below (s₁.setTop (mkF m 4 #[.val (.long q0), .second, .val (.int (128 : Int32))] [])) _
    refine XS.lloadN X0.here hx rfl (hb hby dVo_4) rfl ?_
    show Steps p.tables e below (s₁.setTop (mkF m 5 _ [(.long q0)])) _
    refine X0.ldc2Long hx hown (mvT hZ (hw _ (List.mem_of_getElem? (i := 43) rfl))) (g := (mkF m 5 #[.val (.long q0), .second, .val (.int (128 : Int32))] [(.long q0)])) rfl (hb hby dVo_5) _ ?_
    show Steps p.tables e below (s₁.setTop (mkF m 8 _ [(.long (-128 : Int64)), (.long q0)])) _
    refine XS.lcmp X0.here hx rfl (hb hby dVo_8) rfl ?_
    exact ht
  by_cases hc1 : (lcmpW q0 (-128 : Int64)) < (0 : Int32)
  · refine OFin.of (S' := s₁.setTop (mkF m 31 #[.val (.long q0), .second, .val (.int (128 : Int32))] [])) (fun t ht => ?_) ?_
    · refine XS.ifYes X0.here hx rfl (pc0 := 9) (pc' := 31) rfl (hb hby dVo_9) rfl ((if0 _ _).trans (tlt (hc1 : (lcmpW q0 (-128 : Int64)) < (0 : Int32))).1) (by decide) (by decide) ?_
      exact ht
    obtain ⟨T2, h2, X2, e2, E2, A2, D2, -, st2⟩ := newO X0 hx hZ hown (hw _ (List.mem_of_getElem? (i := 65) rfl)) (hw _ (List.mem_of_getElem? (i := 66) rfl)) (hw _ (List.mem_of_getElem? (i := 41) rfl)) e0 (g := (mkF m 31 #[.val (.long q0), .second, .val (.int (128 : Int32))] [])) rfl (hb hby dVo_31) (by decide) (by decide)
    obtain ⟨b2, gq2⟩ : ∃ z, z = h0.size := ⟨_, rfl⟩
    rw [← gq2] at A2 D2 st2
    have g3 : n0 ≤ b2 := (Nat.le_trans Z0 (Nat.le_of_eq gq2.symm))
    have sz4 : h0.size ≤ b2 := (Nat.le_trans K0.1 (Nat.le_of_eq gq2.symm))
    have f5 := Scc.ext E2
    have Z6 : n0 ≤ h2.size := (Nat.le_trans Z0 E2.1)
    have K7 : Keep h0 h2 [] := (K0.ext E2)
    have f8 : Fld Z h2 b2 "java/lang/Long" "value" "J" (.long (0 : Int64)) := D2 (Or.inr (hw _ (List.mem_of_getElem? (i := 79) rfl))) (ty := .long) (by decide)
    refine OFin.of (S' := T2.setTop (mkF m 34 #[.val (.long q0), .second, .val (.int (128 : Int32))] [(.ref b2)])) (fun t ht => st2 t ht) ?_
    refine OFin.of (S' := T2.setTop (mkF m 36 #[.val (.long q0), .second, .val (.int (128 : Int32))] [(.long q0), (.ref b2), (.ref b2)])) (fun t ht => ?_) ?_
    · refine XS.dup X2.here hx rfl (hb hby dVo_34) rfl rfl ?_
      show Steps p.tables e below (T2.setTop (mkF m 35 _ [(.ref b2), (.ref b2)])) _
      refine XS.lloadN X2.here hx rfl (hb hby dVo_35) rfl ?_
      exact ht
    obtain ⟨_, _, ⟨T9, L9, k9, n9⟩, -, X9, ⟨Lc9, hQ9, l9, y9, z9⟩, st9⟩ := X2.specialBack hx (y := (⟨"java/lang/Long", "<init>", "(J)V"⟩ : MethodName)) rfl hown (mvT hZ (hw _ (List.mem_of_getElem? (i := 67) rfl))) (mvT hZ (hw _ (List.mem_of_getElem? (i := 68) rfl))) (mvT hZ (hw _ (List.mem_of_getElem? (i := 70) rfl))) (by decide) (backOf (W := 1) (rmLin l Z _ hw [] b2 q0 h2 n0 Z6 A2 f8 g3) hZ (hw _ (List.mem_of_getElem? (i := 70) rfl)) (hw _ (List.mem_of_getElem? (i := 41) rfl)) (by decide) (by decide)) (g := (mkF m 36 #[.val (.long q0), .second, .val (.int (128 : Int32))] [(.long q0), (.ref b2), (.ref b2)])) rfl (by rw [hml]; rfl) (Steps.refl _) (a := b2) (argsL := [(.long q0)]) (rest := [(.ref b2)]) (lenOf pd_6 rfl) rfl (by show 2 * 0 + _ ≤ _; exact Nat.le_of_eq rfl) (hb hby dVo_36) (fun _ _ => ⟨rfl, e2, (by decide : 1 + 0 ≤ _), (by decide : 1 + 0 ≤ _)⟩)
    dsimp only [Pt.U, Pt.locs, Pt.cells, Pt.slots] at X9 l9 y9 z9 st9 hQ9
    subst l9 y9 z9
    obtain ⟨rfl, Nq9, Kq9⟩ := hQ9
    have N10 := Fr.app N0 Nq9
    have f11 := (own_staKeep f5 Kq9 (own_snS A2 own_sn0))
    have f12 := (A2.keep Kq9)
    have Z13 : n0 ≤ T9.heap.size := (Nat.le_trans Z6 Kq9.1)
    have K14 : Keep h0 T9.heap [] := (K7.trans Kq9 (allS (Or.inr sz4) all0))
    refine OFin.to (S' := T9.setTop (mkF m 39 #[.val (.long q0), .second, .val (.int (128 : Int32))] [(.ref b2)])) st9 ?_
    exact OFin.retA X9 hx hlk (t := (.object "java/lang/Long")) rfl rfl hret (hb hby dVo_39) (by decide) (by decide) (by exact ⟨b2, rfl, N10, K14, f12⟩)
  · refine OFin.of (S' := s₁.setTop (mkF m 17 #[.val (.long q0), .second, .val (.int (128 : Int32))] [(.int (lcmpW q0 (127 : Int64)))])) (fun t ht => ?_) ?_
    · refine XS.ifNo X0.here hx rfl (hb hby dVo_9) rfl ((if0 _ _).trans (flt (hc1 : ¬ ((lcmpW q0 (-128 : Int64)) < (0 : Int32)))).1) ?_
      show Steps p.tables e below (s₁.setTop (mkF m 12 _ [])) _
      refine XS.lloadN X0.here hx rfl (hb hby dVo_12) rfl ?_
      show Steps p.tables e below (s₁.setTop (mkF m 13 _ [(.long q0)])) _
      refine X0.ldc2Long hx hown (mvT hZ (hw _ (List.mem_of_getElem? (i := 44) rfl))) (g := (mkF m 13 #[.val (.long q0), .second, .val (.int (128 : Int32))] [(.long q0)])) rfl (hb hby dVo_13) _ ?_
      show Steps p.tables e below (s₁.setTop (mkF m 16 _ [(.long (127 : Int64)), (.long q0)])) _
      refine XS.lcmp X0.here hx rfl (hb hby dVo_16) rfl ?_
      exact ht
    by_cases hc15 : (0 : Int32) < (lcmpW q0 (127 : Int64))
    · refine OFin.of (S' := s₁.setTop (mkF m 31 #[.val (.long q0), .second, .val (.int (128 : Int32))] [])) (fun t ht => ?_) ?_
      · refine XS.ifYes X0.here hx rfl (pc0 := 17) (pc' := 31) rfl (hb hby dVo_17) rfl ((if0 _ _).trans (tlt (hc15 : (0 : Int32) < (lcmpW q0 (127 : Int64)))).2.2.1) (by decide) (by decide) ?_
        exact ht
      obtain ⟨T16, h16, X16, e16, E16, A16, D16, -, st16⟩ := newO X0 hx hZ hown (hw _ (List.mem_of_getElem? (i := 65) rfl)) (hw _ (List.mem_of_getElem? (i := 66) rfl)) (hw _ (List.mem_of_getElem? (i := 41) rfl)) e0 (g := (mkF m 31 #[.val (.long q0), .second, .val (.int (128 : Int32))] [])) rfl (hb hby dVo_31) (by decide) (by decide)
      obtain ⟨b16, gq16⟩ : ∃ z, z = h0.size := ⟨_, rfl⟩
      rw [← gq16] at A16 D16 st16
      have g17 : n0 ≤ b16 := (Nat.le_trans Z0 (Nat.le_of_eq gq16.symm))
      have sz18 : h0.size ≤ b16 := (Nat.le_trans K0.1 (Nat.le_of_eq gq16.symm))
      have f19 := Scc.ext E16
      have Z20 : n0 ≤ h16.size := (Nat.le_trans Z0 E16.1)
      have K21 : Keep h0 h16 [] := (K0.ext E16)
      have f22 : Fld Z h16 b16 "java/lang/Long" "value" "J" (.long (0 : Int64)) := D16 (Or.inr (hw _ (List.mem_of_getElem? (i := 79) rfl))) (ty := .long) (by decide)
      refine OFin.of (S' := T16.setTop (mkF m 34 #[.val (.long q0), .second, .val (.int (128 : Int32))] [(.ref b16)])) (fun t ht => st16 t ht) ?_
      refine OFin.of (S' := T16.setTop (mkF m 36 #[.val (.long q0), .second, .val (.int (128 : Int32))] [(.long q0), (.ref b16), (.ref b16)])) (fun t ht => ?_) ?_
      · refine XS.dup X16.here hx rfl (hb hby dVo_34) rfl rfl ?_
        show Steps p.tables e below (T16.setTop (mkF m 35 _ [(.ref b16), (.ref b16)])) _
        refine XS.lloadN X16.here hx rfl (hb hby dVo_35) rfl ?_
        exact ht
      obtain ⟨_, _, ⟨T23, L23, k23, n23⟩, -, X23, ⟨Lc23, hQ23, l23, y23, z23⟩, st23⟩ := X16.specialBack hx (y := (⟨"java/lang/Long", "<init>", "(J)V"⟩ : MethodName)) rfl hown (mvT hZ (hw _ (List.mem_of_getElem? (i := 67) rfl))) (mvT hZ (hw _ (List.mem_of_getElem? (i := 68) rfl))) (mvT hZ (hw _ (List.mem_of_getElem? (i := 70) rfl))) (by decide) (backOf (W := 1) (rmLin l Z _ hw [] b16 q0 h16 n0 Z20 A16 f22 g17) hZ (hw _ (List.mem_of_getElem? (i := 70) rfl)) (hw _ (List.mem_of_getElem? (i := 41) rfl)) (by decide) (by decide)) (g := (mkF m 36 #[.val (.long q0), .second, .val (.int (128 : Int32))] [(.long q0), (.ref b16), (.ref b16)])) rfl (by rw [hml]; rfl) (Steps.refl _) (a := b16) (argsL := [(.long q0)]) (rest := [(.ref b16)]) (lenOf pd_6 rfl) rfl (by show 2 * 0 + _ ≤ _; exact Nat.le_of_eq rfl) (hb hby dVo_36) (fun _ _ => ⟨rfl, e16, (by decide : 1 + 0 ≤ _), (by decide : 1 + 0 ≤ _)⟩)
      dsimp only [Pt.U, Pt.locs, Pt.cells, Pt.slots] at X23 l23 y23 z23 st23 hQ23
      subst l23 y23 z23
      obtain ⟨rfl, Nq23, Kq23⟩ := hQ23
      have N24 := Fr.app N0 Nq23
      have f25 := (own_staKeep f19 Kq23 (own_snS A16 own_sn0))
      have f26 := (A16.keep Kq23)
      have Z27 : n0 ≤ T23.heap.size := (Nat.le_trans Z20 Kq23.1)
      have K28 : Keep h0 T23.heap [] := (K21.trans Kq23 (allS (Or.inr sz18) all0))
      refine OFin.to (S' := T23.setTop (mkF m 39 #[.val (.long q0), .second, .val (.int (128 : Int32))] [(.ref b16)])) st23 ?_
      exact OFin.retA X23 hx hlk (t := (.object "java/lang/Long")) rfl rfl hret (hb hby dVo_39) (by decide) (by decide) (by exact ⟨b16, rfl, N24, K28, f26⟩)
    · refine OFin.of (S' := s₁.setTop (mkF m 20 #[.val (.long q0), .second, .val (.int (128 : Int32))] [])) (fun t ht => ?_) ?_
      · refine XS.ifNo X0.here hx rfl (hb hby dVo_17) rfl ((if0 _ _).trans (flt (hc15 : ¬ ((0 : Int32) < (lcmpW q0 (127 : Int64))))).2.2.1) ?_
        exact ht
      obtain ⟨T29, X29, e29, st29⟩ := getS (host := "") X0 hx hZ hown (hw _ (List.mem_of_getElem? (i := 45) rfl)) Via.refl e0 Scc (g := (mkF m 20 #[.val (.long q0), .second, .val (.int (128 : Int32))] [])) rfl (hb hby dVo_20)
      refine OFin.of (S' := T29.setTop (mkF m 23 #[.val (.long q0), .second, .val (.int (128 : Int32))] [(.ref ac)])) (fun t ht => st29 t ht) ?_
      refine OFin.of (S' := T29.setTop (mkF m 29 #[.val (.long q0), .second, .val (.int (128 : Int32))] [(.int ((q0.toInt32) + (128 : Int32))), (.ref ac)])) (fun t ht => ?_) ?_
      · refine XS.lloadN X29.here hx rfl (hb hby dVo_23) rfl ?_
        show Steps p.tables e below (T29.setTop (mkF m 24 _ [(.long q0), (.ref ac)])) _
        refine XS.l2i X29.here hx rfl (hb hby dVo_24) rfl ?_
        show Steps p.tables e below (T29.setTop (mkF m 25 _ [(.int (q0.toInt32)), (.ref ac)])) _
        refine XS.sipush X29.here hx rfl (hb hby dVo_25) ?_
        show Steps p.tables e below (T29.setTop (mkF m 28 _ [(.int (128 : Int32)), (.int (q0.toInt32)), (.ref ac)])) _
        refine XS.iadd X29.here hx rfl (hb hby dVo_28) rfl ?_
        exact ht
      obtain ⟨cA30, Ar30, hca30⟩ := hLC
      obtain ⟨x30, hin30, hat30, Ex30⟩ := hca30 q0 (fun z => hc1 ((lw_lt _ _).mpr z)) (fun z => hc15 ((lw_gt _ _).mpr z))
      refine OFin.of (S' := T29.setTop (mkF m 30 #[.val (.long q0), .second, .val (.int (128 : Int32))] [(.ref x30)])) (fun t ht => X29.aaload hx (j := ((q0.toInt32) + (128 : Int32))) (v := .ref x30) (by rw [e29]; exact Ar30.1) (State.isArrayOf_alike hZ.alike Ar30.2.1) rfl Ar30.2.2 hin30 hat30 (g := (mkF m 29 #[.val (.long q0), .second, .val (.int (128 : Int32))] [(.int ((q0.toInt32) + (128 : Int32))), (.ref ac)])) rfl rfl (hb hby dVo_29) _ ht) ?_
      exact OFin.retA X29 hx hlk (t := (.object "java/lang/Long")) rfl rfl hret (hb hby dVo_30) (by decide) (by decide) (by rw [e29]; exact ⟨x30, rfl, N0, K0, Ex30⟩)
theorem dEqN_0 : decode prog_27_method_12_code 0 = .ok (.aload_n 1, 1) := by decide +kernel
theorem dEqN_1 : decode prog_27_method_12_code 1 = .ok (.instanceof 8, 3) := by decide +kernel
theorem dEqN_4 : decode prog_27_method_12_code 4 = .ok (.ifCond .eq 50, 3) := by decide +kernel
theorem dEqN_54 : decode prog_27_method_12_code 54 = .ok (.iconst 0, 1) := by decide +kernel
theorem dEqN_55 : decode prog_27_method_12_code 55 = .ok (.ireturn, 1) := by decide +kernel
theorem pnEqN : plainName "com/example/greylag/greylag/model/Bundle" = true := by first | (simp [plainName, overriddenIn]; done) | decide +kernel
theorem efEqN (m : MethodId) (a0 : Addr) : entryFrame m #[(.ref a0), .null] 3 = mkF m 0 #[.val (.ref a0), .val .null, .unset] [] := by first | (simp [entryFrame, mkF, argsToLocals, Value.category]; done) | rfl
def QEqN (Z : State) (a0 : Addr) (h0 : Heap) (n0 : Nat) (v : Option Value) (h : Heap) (L : List Loc) : Prop := v = some (.int (0 : Int32)) ∧ Fr n0 L ∧ h = h0
set_option maxRecDepth 65536 in
set_option maxHeartbeats 40000000 in
theorem rmEqN (l : Launch) (Z : State) (a0 : Array Value) (hw : ∀ d ∈ tables_1, d.before a0 Z = true) (ws : List Jvm.Cond) (a0 : Addr) (h0 : Heap) (n0 : Nat) (Z0 : n0 ≤ h0.size)  :
    MetFree l (⟨"com/example/greylag/greylag/model/Bundle", "equals", "(Ljava/lang/Object;)Z"⟩ : MethodName) (head1 (Jvm.Cond.code (⟨"com/example/greylag/greylag/model/Bundle", "equals", "(Ljava/lang/Object;)Z"⟩ : MethodName) prog_27_method_12_code 3 (some .boolean) :: ws) ({ frames := 0, cells := 0, slots := 0, locals := 0 } : Room)) (fun a U => a = #[(.ref a0), .null] ∧ Z.Warmed39 U.vm ∧ U.heap = h0) (fun _ _ _ _ _ => True) (fun _ U o U' => ∃ v L, o = .returned v ∧ QEqN Z a0 h0 n0 v U'.heap L ∧ FrameEnd U o U' L ({ frames := 0, cells := 0, slots := 0, locals := 0 } : Room).cells ({ frames := 0, cells := 0, slots := 0, locals := 0 } : Room).slots) := by
  refine MetFree.of_bodySF (plainFor_of_name pnEqN) hisR ?_
  intro p e s m args below meth c s₁ Bd hml0 hP hK
  obtain ⟨rfl, hZ, hh⟩ := hP
  have hx := Bd.exec
  have hby := Bd.bytes
  have hlk := BodyLoose.notSynchronized Bd
  have hret := Bd.returns
  have hml : c.maxLocals = 3 := hml0
  have hown : s.vm.findClass "com/example/greylag/greylag/model/Bundle" = some m.cls := findClass_of_methodNamed Bd.named
  have hnm := (name_of_methodNamed Bd.named Bd.method).1
  have X0 : Stand p l e ({ frames := 0, cells := 0, slots := 0, locals := 0 } : Room) s m #[(.ref a0), .null] below meth c s₁ [] 0 0 := Stand.of_body Bd
  have e0 : s₁.heap = h0 := by rw [← hh, Bd.state]; rfl
  have N0 := Fr.nil n0
  show OFin p e below (KPost s (QEqN Z a0 h0 n0) ({ frames := 0, cells := 0, slots := 0, locals := 0 } : Room).cells ({ frames := 0, cells := 0, slots := 0, locals := 0 } : Room).slots) _
  rw [efEqN m a0]
  refine OFin.of (S' := s₁.setTop (mkF m 1 #[.val (.ref a0), .val .null, .unset] [.null])) (fun t ht => ?_) ?_
  · refine XS.aloadN X0.here hx rfl (hb hby dEqN_0) rfl rfl ?_
    exact ht
  refine OFin.of (S' := s₁.setTop (mkF m 4 #[.val (.ref a0), .val .null, .unset] [(.int (0 : Int32))])) (fun t ht => X0.instanceofNull hx (g := (mkF m 1 #[.val (.ref a0), .val .null, .unset] [.null])) rfl rfl (hb hby dEqN_1) _ ht) ?_
  refine OFin.of (S' := s₁.setTop (mkF m 55 #[.val (.ref a0), .val .null, .unset] [(.int (0 : Int32))])) (fun t ht => ?_) ?_
  · refine XS.ifYes X0.here hx rfl (pc0 := 4) (pc' := 54) rfl (hb hby dEqN_4) rfl ((if0 _ _).trans (teq (by decide : (0 : Int32) = (0 : Int32))).1) (by decide) (by decide) ?_
    show Steps p.tables e below (s₁.setTop (mkF m 54 _ [])) _
    refine XS.iconst X0.here hx rfl (hb hby dEqN_54) ?_
    exact ht
  exact OFin.retB X0 hx hlk (t := .boolean) (by simp) hret (hb hby dEqN_55) (by decide) (by decide) (by rw [e0]; exact ⟨(by show some (Value.int (nar .boolean (0 : Int32))) = _; rfl), N0, rfl⟩)
theorem dEqL_0 : decode prog_27_method_12_code 0 = .ok (.aload_n 1, 1) := by decide +kernel
theorem dEqL_1 : decode prog_27_method_12_code 1 = .ok (.instanceof 8, 3) := by decide +kernel
theorem dEqL_4 : decode prog_27_method_12_code 4 = .ok (.ifCond .eq 50, 3) := by decide +kernel
theorem dEqL_54 : decode prog_27_method_12_code 54 = .ok (.iconst 0, 1) := by decide +kernel
theorem dEqL_55 : decode prog_27_method_12_code 55 = .ok (.ireturn, 1) := by decide +kernel
theorem pnEqL : plainName "com/example/greylag/greylag/model/Bundle" = true := by first | (simp [plainName, overriddenIn]; done) | decide +kernel
theorem efEqL (m : MethodId) (a0 : Addr) (a1 : Addr) : entryFrame m #[(.ref a0), (.ref a1)] 3 = mkF m 0 #[.val (.ref a0), .val (.ref a1), .unset] [] := by first | (simp [entryFrame, mkF, argsToLocals, Value.category]; done) | rfl
def QEqL (Z : State) (a0 : Addr) (a1 : Addr) (h0 : Heap) (n0 : Nat) (v : Option Value) (h : Heap) (L : List Loc) : Prop := v = some (.int (0 : Int32)) ∧ Fr n0 L ∧ h = h0
set_option maxRecDepth 65536 in
set_option maxHeartbeats 40000000 in
theorem rmEqL (l : Launch) (Z : State) (a0 : Array Value) (hw : ∀ d ∈ tables_1, d.before a0 Z = true) (ws : List Jvm.Cond) (a0 : Addr) (a1 : Addr) (h0 : Heap) (n0 : Nat) (Z0 : n0 ≤ h0.size) (EL1 : Exa Z h0 a1 "java/lang/Long") :
    MetFree l (⟨"com/example/greylag/greylag/model/Bundle", "equals", "(Ljava/lang/Object;)Z"⟩ : MethodName) (head1 (Jvm.Cond.code (⟨"com/example/greylag/greylag/model/Bundle", "equals", "(Ljava/lang/Object;)Z"⟩ : MethodName) prog_27_method_12_code 3 (some .boolean) :: ws) ({ frames := 0, cells := 0, slots := 0, locals := 0 } : Room)) (fun a U => a = #[(.ref a0), (.ref a1)] ∧ Z.Warmed39 U.vm ∧ U.heap = h0) (fun _ _ _ _ _ => True) (fun _ U o U' => ∃ v L, o = .returned v ∧ QEqL Z a0 a1 h0 n0 v U'.heap L ∧ FrameEnd U o U' L ({ frames := 0, cells := 0, slots := 0, locals := 0 } : Room).cells ({ frames := 0, cells := 0, slots := 0, locals := 0 } : Room).slots) := by
  refine MetFree.of_bodySF (plainFor_of_name pnEqL) hisR ?_
  intro p e s m args below meth c s₁ Bd hml0 hP hK
  obtain ⟨rfl, hZ, hh⟩ := hP
  have hx := Bd.exec
  have hby := Bd.bytes
  have hlk := BodyLoose.notSynchronized Bd
  have hret := Bd.returns
  have hml : c.maxLocals = 3 := hml0
  have hown : s.vm.findClass "com/example/greylag/greylag/model/Bundle" = some m.cls := findClass_of_methodNamed Bd.named
  have hnm := (name_of_methodNamed Bd.named Bd.method).1
  have X0 : Stand p l e ({ frames := 0, cells := 0, slots := 0, locals := 0 } : Room) s m #[(.ref a0), (.ref a1)] below meth c s₁ [] 0 0 := Stand.of_body Bd
  have e0 : s₁.heap = h0 := by rw [← hh, Bd.state]; rfl
  have N0 := Fr.nil n0
  show OFin p e below (KPost s (QEqL Z a0 a1 h0 n0) ({ frames := 0, cells := 0, slots := 0, locals := 0 } : Room).cells ({ frames := 0, cells := 0, slots := 0, locals := 0 } : Room).slots) _
  rw [efEqL m a0 a1]
  refine OFin.of (S' := s₁.setTop (mkF m 1 #[.val (.ref a0), .val (.ref a1), .unset] [(.ref a1)])) (fun t ht => ?_) ?_
  · refine XS.aloadN X0.here hx rfl (hb hby dEqL_0) rfl rfl ?_
    exact ht
  obtain ⟨T1, X1, e1, st1⟩ := instNo X0 hx hZ hown (hw _ (List.mem_of_getElem? (i := 52) rfl)) e0 EL1 (own_nsI (hw _ (List.mem_of_getElem? (i := 90) rfl)) (hw _ (List.mem_of_getElem? (i := 1) rfl)) (NS.step (hw _ (List.mem_of_getElem? (i := 90) rfl)) (NS.step (hw _ (List.mem_of_getElem? (i := 91) rfl)) (own_nsRoot (hw _ (List.mem_of_getElem? (i := 92) rfl)) (hw _ (List.mem_of_getElem? (i := 1) rfl)) (by decide)) (by decide)) (by decide)) (by decide)) (g := (mkF m 1 #[.val (.ref a0), .val (.ref a1), .unset] [(.ref a1)])) rfl rfl (hb hby dEqL_1)
  refine OFin.of (S' := T1.setTop (mkF m 4 #[.val (.ref a0), .val (.ref a1), .unset] [(.int (0 : Int32))])) (fun t ht => st1 t ht) ?_
  refine OFin.of (S' := T1.setTop (mkF m 55 #[.val (.ref a0), .val (.ref a1), .unset] [(.int (0 : Int32))])) (fun t ht => ?_) ?_
  · refine XS.ifYes X1.here hx rfl (pc0 := 4) (pc' := 54) rfl (hb hby dEqL_4) rfl ((if0 _ _).trans (teq (by decide : (0 : Int32) = (0 : Int32))).1) (by decide) (by decide) ?_
    show Steps p.tables e below (T1.setTop (mkF m 54 _ [])) _
    refine XS.iconst X1.here hx rfl (hb hby dEqL_54) ?_
    exact ht
  exact OFin.retB X1 hx hlk (t := .boolean) (by simp) hret (hb hby dEqL_55) (by decide) (by decide) (by rw [e1]; exact ⟨(by show some (Value.int (nar .boolean (0 : Int32))) = _; rfl), N0, rfl⟩)
theorem dEs_0 : decode jdk_42_method_66_code 0 = .ok (.aload_n 0, 1) := by decide +kernel
theorem dEs_1 : decode jdk_42_method_66_code 1 = .ok (.aload_n 1, 1) := by decide +kernel
theorem dEs_2 : decode jdk_42_method_66_code 2 = .ok (.if_acmp .ne 5, 3) := by decide +kernel
theorem dEs_5 : decode jdk_42_method_66_code 5 = .ok (.iconst 1, 1) := by decide +kernel
theorem dEs_6 : decode jdk_42_method_66_code 6 = .ok (.ireturn, 1) := by decide +kernel
theorem pnEs : plainName "java/lang/String" = true := by first | (simp [plainName, overriddenIn]; done) | decide +kernel
theorem efEs (m : MethodId) (a0 : Addr) : entryFrame m #[(.ref a0), (.ref a0)] 3 = mkF m 0 #[.val (.ref a0), .val (.ref a0), .unset] [] := by first | (simp [entryFrame, mkF, argsToLocals, Value.category]; done) | rfl
def QEs (Z : State) (a0 : Addr) (h0 : Heap) (n0 : Nat) (v : Option Value) (h : Heap) (L : List Loc) : Prop := v = some (.int (1 : Int32)) ∧ Fr n0 L ∧ h = h0
set_option maxRecDepth 65536 in
set_option maxHeartbeats 40000000 in
theorem rmEs (l : Launch) (Z : State) (a0 : Array Value) (hw : ∀ d ∈ tables_1, d.before a0 Z = true) (ws : List Jvm.Cond) (a0 : Addr) (h0 : Heap) (n0 : Nat) (Z0 : n0 ≤ h0.size)  :
    MetFree l (⟨"java/lang/String", "equals", "(Ljava/lang/Object;)Z"⟩ : MethodName) (head1 (Jvm.Cond.code (⟨"java/lang/String", "equals", "(Ljava/lang/Object;)Z"⟩ : MethodName) jdk_42_method_66_code 3 (some .boolean) :: ws) ({ frames := 0, cells := 0, slots := 0, locals := 0 } : Room)) (fun a U => a = #[(.ref a0), (.ref a0)] ∧ Z.Warmed39 U.vm ∧ U.heap = h0) (fun _ _ _ _ _ => True) (fun _ U o U' => ∃ v L, o = .returned v ∧ QEs Z a0 h0 n0 v U'.heap L ∧ FrameEnd U o U' L ({ frames := 0, cells := 0, slots := 0, locals := 0 } : Room).cells ({ frames := 0, cells := 0, slots := 0, locals := 0 } : Room).slots) := by
  refine MetFree.of_bodySF (plainFor_of_name pnEs) hisR ?_
  intro p e s m args below meth c s₁ Bd hml0 hP hK
  obtain ⟨rfl, hZ, hh⟩ := hP
  have hx := Bd.exec
  have hby := Bd.bytes
  have hlk := BodyLoose.notSynchronized Bd
  have hret := Bd.returns
  have hml : c.maxLocals = 3 := hml0
  have hown : s.vm.findClass "java/lang/String" = some m.cls := findClass_of_methodNamed Bd.named
  have hnm := (name_of_methodNamed Bd.named Bd.method).1
  have X0 : Stand p l e ({ frames := 0, cells := 0, slots := 0, locals := 0 } : Room) s m #[(.ref a0), (.ref a0)] below meth c s₁ [] 0 0 := Stand.of_body Bd
  have e0 : s₁.heap = h0 := by rw [← hh, Bd.state]; rfl
  have N0 := Fr.nil n0
  show OFin p e below (KPost s (QEs Z a0 h0 n0) ({ frames := 0, cells := 0, slots := 0, locals := 0 } : Room).cells ({ frames := 0, cells := 0, slots := 0, locals := 0 } : Room).slots) _
  rw [efEs m a0]
  refine OFin.of (S' := s₁.setTop (mkF m 6 #[.val (.ref a0), .val (.ref a0), .unset] [(.int (1 : Int32))])) (fun t ht => ?_) ?_
  · refine XS.aloadN X0.here hx rfl (hb hby dEs_0) rfl rfl ?_
    show Steps p.tables e below (s₁.setTop (mkF m 1 _ [(.ref a0)])) _
    refine XS.aloadN X0.here hx rfl (hb hby dEs_1) rfl rfl ?_
    show Steps p.tables e below (s₁.setTop (mkF m 2 _ [(.ref a0), (.ref a0)])) _
    refine acmp X0 hx rfl (cd := .ne) (x := (.ref a0)) (y := (.ref a0)) rfl rfl (pc0 := 2) (pc' := 5) (same := true) rfl (hb hby dEs_2) rfl (decide_eq_true rfl) (by decide) (by decide) ?_
    show Steps p.tables e below (s₁.setTop (mkF m 5 _ [])) _
    refine XS.iconst X0.here hx rfl (hb hby dEs_5) ?_
    exact ht
  exact OFin.retB X0 hx hlk (t := .boolean) (by simp) hret (hb hby dEs_6) (by decide) (by decide) (by rw [e0]; exact ⟨rfl, N0, rfl⟩)
theorem dEqS_0 : decode prog_27_method_12_code 0 = .ok (.aload_n 1, 1) := by decide +kernel
theorem dEqS_1 : decode prog_27_method_12_code 1 = .ok (.instanceof 8, 3) := by decide +kernel
theorem dEqS_4 : decode prog_27_method_12_code 4 = .ok (.ifCond .eq 50, 3) := by decide +kernel
theorem dEqS_7 : decode prog_27_method_12_code 7 = .ok (.aload_n 1, 1) := by decide +kernel
theorem dEqS_8 : decode prog_27_method_12_code 8 = .ok (.checkcast 8, 3) := by decide +kernel
theorem dEqS_11 : decode prog_27_method_12_code 11 = .ok (.astore_n 2, 1) := by decide +kernel
theorem dEqS_12 : decode prog_27_method_12_code 12 = .ok (.aload_n 0, 1) := by decide +kernel
theorem dEqS_13 : decode prog_27_method_12_code 13 = .ok (.getfield 7, 3) := by decide +kernel
theorem dEqS_16 : decode prog_27_method_12_code 16 = .ok (.aload_n 2, 1) := by decide +kernel
theorem dEqS_17 : decode prog_27_method_12_code 17 = .ok (.getfield 7, 3) := by decide +kernel
theorem dEqS_20 : decode prog_27_method_12_code 20 = .ok (.invokevirtual 93, 3) := by decide +kernel
theorem dEqS_23 : decode prog_27_method_12_code 23 = .ok (.ifCond .eq 31, 3) := by decide +kernel
theorem dEqS_26 : decode prog_27_method_12_code 26 = .ok (.aload_n 0, 1) := by decide +kernel
theorem dEqS_27 : decode prog_27_method_12_code 27 = .ok (.getfield 13, 3) := by decide +kernel
theorem dEqS_30 : decode prog_27_method_12_code 30 = .ok (.aload_n 2, 1) := by decide +kernel
theorem dEqS_31 : decode prog_27_method_12_code 31 = .ok (.getfield 13, 3) := by decide +kernel
theorem dEqS_34 : decode prog_27_method_12_code 34 = .ok (.lcmp, 1) := by decide +kernel
theorem dEqS_35 : decode prog_27_method_12_code 35 = .ok (.ifCond .ne 19, 3) := by decide +kernel
theorem dEqS_38 : decode prog_27_method_12_code 38 = .ok (.aload_n 0, 1) := by decide +kernel
theorem dEqS_39 : decode prog_27_method_12_code 39 = .ok (.getfield 17, 3) := by decide +kernel
theorem dEqS_42 : decode prog_27_method_12_code 42 = .ok (.aload_n 2, 1) := by decide +kernel
theorem dEqS_43 : decode prog_27_method_12_code 43 = .ok (.getfield 17, 3) := by decide +kernel
theorem dEqS_46 : decode prog_27_method_12_code 46 = .ok (.lcmp, 1) := by decide +kernel
theorem dEqS_47 : decode prog_27_method_12_code 47 = .ok (.ifCond .ne 7, 3) := by decide +kernel
theorem dEqS_50 : decode prog_27_method_12_code 50 = .ok (.iconst 1, 1) := by decide +kernel
theorem dEqS_51 : decode prog_27_method_12_code 51 = .ok (.goto 4, 3) := by decide +kernel
theorem dEqS_55 : decode prog_27_method_12_code 55 = .ok (.ireturn, 1) := by decide +kernel
theorem pnEqS : plainName "com/example/greylag/greylag/model/Bundle" = true := by first | (simp [plainName, overriddenIn]; done) | decide +kernel
theorem efEqS (m : MethodId) (a0 : Addr) : entryFrame m #[(.ref a0), (.ref a0)] 3 = mkF m 0 #[.val (.ref a0), .val (.ref a0), .unset] [] := by first | (simp [entryFrame, mkF, argsToLocals, Value.category]; done) | rfl
def QEqS (Z : State) (a0 : Addr) (s1 : Addr) (l1 : Int64) (u1 : Int64) (h0 : Heap) (n0 : Nat) (v : Option Value) (h : Heap) (L : List Loc) : Prop := v = some (.int (1 : Int32)) ∧ Fr n0 L ∧ h = h0
set_option maxRecDepth 65536 in
set_option maxHeartbeats 40000000 in
theorem rmEqS (l : Launch) (Z : State) (a0 : Array Value) (hw : ∀ d ∈ tables_1, d.before a0 Z = true) (ws : List Jvm.Cond) (a0 : Addr) (s1 : Addr) (l1 : Int64) (u1 : Int64) (h0 : Heap) (n0 : Nat) (Z0 : n0 ≤ h0.size) (EB : Exa Z h0 a0 "com/example/greylag/greylag/model/Bundle") (Es : Exa Z h0 s1 "java/lang/String") (N0a : Fld Z h0 a0 "com/example/greylag/greylag/model/Bundle" "namespace" "Ljava/lang/String;" (.ref s1)) (L0a : Fld Z h0 a0 "com/example/greylag/greylag/model/Bundle" "lower" "J" (.long l1)) (U0a : Fld Z h0 a0 "com/example/greylag/greylag/model/Bundle" "upper" "J" (.long u1)) :
    MetFree l (⟨"com/example/greylag/greylag/model/Bundle", "equals", "(Ljava/lang/Object;)Z"⟩ : MethodName) (head1 (Jvm.Cond.code (⟨"com/example/greylag/greylag/model/Bundle", "equals", "(Ljava/lang/Object;)Z"⟩ : MethodName) prog_27_method_12_code 3 (some .boolean) :: ws) ({ frames := 1, cells := 0, slots := 0, locals := 14 } : Room)) (fun a U => a = #[(.ref a0), (.ref a0)] ∧ Z.Warmed39 U.vm ∧ U.heap = h0) (fun _ _ _ _ _ => True) (fun _ U o U' => ∃ v L, o = .returned v ∧ QEqS Z a0 s1 l1 u1 h0 n0 v U'.heap L ∧ FrameEnd U o U' L ({ frames := 1, cells := 0, slots := 0, locals := 14 } : Room).cells ({ frames := 1, cells := 0, slots := 0, locals := 14 } : Room).slots) := by
  refine MetFree.of_bodySF (plainFor_of_name pnEqS) hisR ?_
  intro p e s m args below meth c s₁ Bd hml0 hP hK
  obtain ⟨rfl, hZ, hh⟩ := hP
  have hx := Bd.exec
  have hby := Bd.bytes
  have hlk := BodyLoose.notSynchronized Bd
  have hret := Bd.returns
  have hml : c.maxLocals = 3 := hml0
  have hown : s.vm.findClass "com/example/greylag/greylag/model/Bundle" = some m.cls := findClass_of_methodNamed Bd.named
  have hnm := (name_of_methodNamed Bd.named Bd.method).1
  have X0 : Stand p l e ({ frames := 1, cells := 0, slots := 0, locals := 14 } : Room) s m #[(.ref a0), (.ref a0)] below meth c s₁ [] 0 0 := Stand.of_body Bd
  have e0 : s₁.heap = h0 := by rw [← hh, Bd.state]; rfl
  have N0 := Fr.nil n0
  show OFin p e below (KPost s (QEqS Z a0 s1 l1 u1 h0 n0) ({ frames := 1, cells := 0, slots := 0, locals := 14 } : Room).cells ({ frames := 1, cells := 0, slots := 0, locals := 14 } : Room).slots) _
  rw [efEqS m a0]
  refine OFin.of (S' := s₁.setTop (mkF m 1 #[.val (.ref a0), .val (.ref a0), .unset] [(.ref a0)])) (fun t ht => ?_) ?_
  · refine XS.aloadN X0.here hx rfl (hb hby dEqS_0) rfl rfl ?_
    exact ht
  obtain ⟨T1, X1, e1, st1⟩ := instY X0 hx hZ hown (hw _ (List.mem_of_getElem? (i := 52) rfl)) e0 (Ins.self EB) (g := (mkF m 1 #[.val (.ref a0), .val (.ref a0), .unset] [(.ref a0)])) rfl rfl (hb hby dEqS_1)
  refine OFin.of (S' := T1.setTop (mkF m 4 #[.val (.ref a0), .val (.ref a0), .unset] [(.int (1 : Int32))])) (fun t ht => st1 t ht) ?_
  refine OFin.of (S' := T1.setTop (mkF m 8 #[.val (.ref a0), .val (.ref a0), .unset] [(.ref a0)])) (fun t ht => ?_) ?_
  · refine XS.ifNo X1.here hx rfl (hb hby dEqS_4) rfl ((if0 _ _).trans (feq (by decide : ¬ ((1 : Int32) = (0 : Int32)))).1) ?_
    show Steps p.tables e below (T1.setTop (mkF m 7 _ [])) _
    refine XS.aloadN X1.here hx rfl (hb hby dEqS_7) rfl rfl ?_
    exact ht
  obtain ⟨T2, X2, e2, st2⟩ := castY X1 hx hZ hown (hw _ (List.mem_of_getElem? (i := 52) rfl)) e1 (Ins.self EB) (g := (mkF m 8 #[.val (.ref a0), .val (.ref a0), .unset] [(.ref a0)])) rfl rfl (hb hby dEqS_8)
  refine OFin.of (S' := T2.setTop (mkF m 11 #[.val (.ref a0), .val (.ref a0), .unset] [(.ref a0)])) (fun t ht => st2 t ht) ?_
  refine OFin.of (S' := T2.setTop (mkF m 13 #[.val (.ref a0), .val (.ref a0), .val (.ref a0)] [(.ref a0)])) (fun t ht => ?_) ?_
  · refine XS.astoreN X2.here hx rfl (hb hby dEqS_11) rfl rfl (l' := #[.val (.ref a0), .val (.ref a0), .val (.ref a0)]) rfl ?_
    show Steps p.tables e below (T2.setTop (mkF m 12 #[.val (.ref a0), .val (.ref a0), .val (.ref a0)] [])) _
    refine XS.aloadN X2.here hx rfl (hb hby dEqS_12) rfl rfl ?_
    exact ht
  obtain ⟨T3, X3, e3, st3⟩ := getF X2 hx hZ hown (host := "") (Or.inl (hw _ (List.mem_of_getElem? (i := 33) rfl))) Via.refl e2 N0a (g := (mkF m 13 #[.val (.ref a0), .val (.ref a0), .val (.ref a0)] [(.ref a0)])) rfl rfl (hb hby dEqS_13)
  refine OFin.of (S' := T3.setTop (mkF m 16 #[.val (.ref a0), .val (.ref a0), .val (.ref a0)] [(.ref s1)])) (fun t ht => st3 t ht) ?_
  refine OFin.of (S' := T3.setTop (mkF m 17 #[.val (.ref a0), .val (.ref a0), .val (.ref a0)] [(.ref a0), (.ref s1)])) (fun t ht => ?_) ?_
  · refine XS.aloadN X3.here hx rfl (hb hby dEqS_16) rfl rfl ?_
    exact ht
  obtain ⟨T4, X4, e4, st4⟩ := getF X3 hx hZ hown (host := "") (Or.inl (hw _ (List.mem_of_getElem? (i := 33) rfl))) Via.refl e3 N0a (g := (mkF m 17 #[.val (.ref a0), .val (.ref a0), .val (.ref a0)] [(.ref a0), (.ref s1)])) rfl rfl (hb hby dEqS_17)
  refine OFin.of (S' := T4.setTop (mkF m 20 #[.val (.ref a0), .val (.ref a0), .val (.ref a0)] [(.ref s1), (.ref s1)])) (fun t ht => st4 t ht) ?_
  obtain ⟨cq6, kq6, q6a, q6b, q6c⟩ := isOf hZ e4 Es
  obtain ⟨_, _, ⟨T5, L5, k5, n5⟩, -, X5, ⟨Lc5, hQ5, l5, y5, z5⟩, st5⟩ := X4.virtualBack hx (y := (⟨"java/lang/String", "equals", "(Ljava/lang/Object;)Z"⟩ : MethodName)) (z := (⟨"java/lang/String", "equals", "(Ljava/lang/Object;)Z"⟩ : MethodName)) hown (mvT hZ (hw _ (List.mem_of_getElem? (i := 54) rfl))) (mvT hZ (hw _ (List.mem_of_getElem? (i := 55) rfl))) (notFace_of_selects (args := #[]) (mvT hZ (hw _ (List.mem_of_getElem? (i := 57) rfl)))) (mvT hZ (hw _ (List.mem_of_getElem? (i := 57) rfl))) (mvT hZ (hw _ (List.mem_of_getElem? (i := 56) rfl))) (by decide) (backOf (W := 0) (rmEs l Z _ hw [] s1 h0 n0 Z0 ) hZ (hw _ (List.mem_of_getElem? (i := 58) rfl)) (hw _ (List.mem_of_getElem? (i := 9) rfl)) (by decide) (by decide)) q6a q6c (g := (mkF m 20 #[.val (.ref a0), .val (.ref a0), .val (.ref a0)] [(.ref s1), (.ref s1)])) rfl (by rw [hml]; rfl) (Steps.refl _) (argsL := [(.ref s1)]) (rest := []) (lenOf pd_7 rfl) rfl (by show 2 * 0 + _ ≤ _; exact Nat.le_of_eq rfl) (hb hby dEqS_20) (fun _ _ => ⟨rfl, e4, (by decide : 0 + 0 ≤ _), (by decide : 0 + 0 ≤ _)⟩)
  dsimp only [Pt.U, Pt.locs, Pt.cells, Pt.slots] at X5 l5 y5 z5 st5 hQ5
  subst l5 y5 z5
  obtain ⟨rfl, Nq5, hs5⟩ := hQ5
  have N7 := Fr.app N0 Nq5
  refine OFin.to (S' := T5.setTop (mkF m 23 #[.val (.ref a0), .val (.ref a0), .val (.ref a0)] [(.int (1 : Int32))])) st5 ?_
  refine OFin.of (S' := T5.setTop (mkF m 27 #[.val (.ref a0), .val (.ref a0), .val (.ref a0)] [(.ref a0)])) (fun t ht => ?_) ?_
  · refine XS.ifNo X5.here hx rfl (hb hby dEqS_23) rfl ((if0 _ _).trans (feq (by decide : ¬ ((1 : Int32) = (0 : Int32)))).1) ?_
    show Steps p.tables e below (T5.setTop (mkF m 26 _ [])) _
    refine XS.aloadN X5.here hx rfl (hb hby dEqS_26) rfl rfl ?_
    exact ht
  obtain ⟨T8, X8, e8, st8⟩ := getF X5 hx hZ hown (host := "") (Or.inl (hw _ (List.mem_of_getElem? (i := 35) rfl))) Via.refl hs5 L0a (g := (mkF m 27 #[.val (.ref a0), .val (.ref a0), .val (.ref a0)] [(.ref a0)])) rfl rfl (hb hby dEqS_27)
  refine OFin.of (S' := T8.setTop (mkF m 30 #[.val (.ref a0), .val (.ref a0), .val (.ref a0)] [(.long l1)])) (fun t ht => st8 t ht) ?_
  refine OFin.of (S' := T8.setTop (mkF m 31 #[.val (.ref a0), .val (.ref a0), .val (.ref a0)] [(.ref a0), (.long l1)])) (fun t ht => ?_) ?_
  · refine XS.aloadN X8.here hx rfl (hb hby dEqS_30) rfl rfl ?_
    exact ht
  obtain ⟨T9, X9, e9, st9⟩ := getF X8 hx hZ hown (host := "") (Or.inl (hw _ (List.mem_of_getElem? (i := 35) rfl))) Via.refl e8 L0a (g := (mkF m 31 #[.val (.ref a0), .val (.ref a0), .val (.ref a0)] [(.ref a0), (.long l1)])) rfl rfl (hb hby dEqS_31)
  refine OFin.of (S' := T9.setTop (mkF m 34 #[.val (.ref a0), .val (.ref a0), .val (.ref a0)] [(.long l1), (.long l1)])) (fun t ht => st9 t ht) ?_
  refine OFin.of (S' := T9.setTop (mkF m 39 #[.val (.ref a0), .val (.ref a0), .val (.ref a0)] [(.ref a0)])) (fun t ht => ?_) ?_
  · refine XS.lcmp X9.here hx rfl (hb hby dEqS_34) rfl ?_
    show Steps p.tables e below (T9.setTop (mkF m 35 _ [(.int (lcmpW l1 l1))])) _
    refine XS.ifNo X9.here hx rfl (hb hby dEqS_35) rfl ((if0 _ _).trans (teq ((lw_eq _ _).mpr rfl : (lcmpW l1 l1) = (0 : Int32))).2) ?_
    show Steps p.tables e below (T9.setTop (mkF m 38 _ [])) _
    refine XS.aloadN X9.here hx rfl (hb hby dEqS_38) rfl rfl ?_
    exact ht
  obtain ⟨T10, X10, e10, st10⟩ := getF X9 hx hZ hown (host := "") (Or.inl (hw _ (List.mem_of_getElem? (i := 37) rfl))) Via.refl e9 U0a (g := (mkF m 39 #[.val (.ref a0), .val (.ref a0), .val (.ref a0)] [(.ref a0)])) rfl rfl (hb hby dEqS_39)
  refine OFin.of (S' := T10.setTop (mkF m 42 #[.val (.ref a0), .val (.ref a0), .val (.ref a0)] [(.long u1)])) (fun t ht => st10 t ht) ?_
  refine OFin.of (S' := T10.setTop (mkF m 43 #[.val (.ref a0), .val (.ref a0), .val (.ref a0)] [(.ref a0), (.long u1)])) (fun t ht => ?_) ?_
  · refine XS.aloadN X10.here hx rfl (hb hby dEqS_42) rfl rfl ?_
    exact ht
  obtain ⟨T11, X11, e11, st11⟩ := getF X10 hx hZ hown (host := "") (Or.inl (hw _ (List.mem_of_getElem? (i := 37) rfl))) Via.refl e10 U0a (g := (mkF m 43 #[.val (.ref a0), .val (.ref a0), .val (.ref a0)] [(.ref a0), (.long u1)])) rfl rfl (hb hby dEqS_43)
  refine OFin.of (S' := T11.setTop (mkF m 46 #[.val (.ref a0), .val (.ref a0), .val (.ref a0)] [(.long u1), (.long u1)])) (fun t ht => st11 t ht) ?_
  refine OFin.of (S' := T11.setTop (mkF m 55 #[.val (.ref a0), .val (.ref a0), .val (.ref a0)] [(.int (1 : Int32))])) (fun t ht => ?_) ?_
  · refine XS.lcmp X11.here hx rfl (hb hby dEqS_46) rfl ?_
    show Steps p.tables e below (T11.setTop (mkF m 47 _ [(.int (lcmpW u1 u1))])) _
    refine XS.ifNo X11.here hx rfl (hb hby dEqS_47) rfl ((if0 _ _).trans (teq ((lw_eq _ _).mpr rfl : (lcmpW u1 u1) = (0 : Int32))).2) ?_
    show Steps p.tables e below (T11.setTop (mkF m 50 _ [])) _
    refine XS.iconst X11.here hx rfl (hb hby dEqS_50) ?_
    show Steps p.tables e below (T11.setTop (mkF m 51 _ [(.int (1 : Int32))])) _
    refine XS.goto X11.here hx rfl (pc0 := 51) (pc' := 55) rfl (hb hby dEqS_51) (by decide) (by decide) ?_
    exact ht
  exact OFin.retB X11 hx hlk (t := .boolean) (by simp) hret (hb hby dEqS_55) (by decide) (by decide) (by rw [e11]; exact ⟨(by show some (Value.int (nar .boolean (1 : Int32))) = _; rfl), N7, rfl⟩)
theorem dLe00_0 : decode jdk_43_method_13_code 0 = .ok (.aload_n 0, 1) := by decide +kernel
theorem dLe00_1 : decode jdk_43_method_13_code 1 = .ok (.arraylength, 1) := by decide +kernel
theorem dLe00_2 : decode jdk_43_method_13_code 2 = .ok (.aload_n 1, 1) := by decide +kernel
theorem dLe00_3 : decode jdk_43_method_13_code 3 = .ok (.arraylength, 1) := by decide +kernel
theorem dLe00_4 : decode jdk_43_method_13_code 4 = .ok (.if_icmp .ne 30, 3) := by decide +kernel
theorem dLe00_7 : decode jdk_43_method_13_code 7 = .ok (.iconst 0, 1) := by decide +kernel
theorem dLe00_8 : decode jdk_43_method_13_code 8 = .ok (.istore_n 2, 1) := by decide +kernel
theorem dLe00_9 : decode jdk_43_method_13_code 9 = .ok (.iload_n 2, 1) := by decide +kernel
theorem dLe00_10 : decode jdk_43_method_13_code 10 = .ok (.aload_n 0, 1) := by decide +kernel
theorem dLe00_11 : decode jdk_43_method_13_code 11 = .ok (.arraylength, 1) := by decide +kernel
theorem dLe00_12 : decode jdk_43_method_13_code 12 = .ok (.if_icmp .ge 20, 3) := by decide +kernel
theorem dLe00_32 : decode jdk_43_method_13_code 32 = .ok (.iconst 1, 1) := by decide +kernel
theorem dLe00_33 : decode jdk_43_method_13_code 33 = .ok (.ireturn, 1) := by decide +kernel
theorem pnLe00 : plainName "java/lang/StringLatin1" = true := by first | (simp [plainName, overriddenIn]; done) | decide +kernel
theorem efLe00 (m : MethodId) (a0 : Addr) (a1 : Addr) : entryFrame m #[(.ref a0), (.ref a1)] 3 = mkF m 0 #[.val (.ref a0), .val (.ref a1), .unset] [] := by first | (simp [entryFrame, mkF, argsToLocals, Value.category]; done) | rfl
def QLe00 (Z : State) (a0 : Addr) (a1 : Addr) (k0 : ClassId) (k1 : ClassId) (h0 : Heap) (n0 : Nat) (v : Option Value) (h : Heap) (L : List Loc) : Prop := v = some (.int (1 : Int32)) ∧ Fr n0 L ∧ h = h0
set_option maxRecDepth 65536 in
set_option maxHeartbeats 40000000 in
theorem rmLe00 (l : Launch) (Z : State) (a0 : Array Value) (hw : ∀ d ∈ tables_1, d.before a0 Z = true) (ws : List Jvm.Cond) (a0 : Addr) (a1 : Addr) (k0 : ClassId) (k1 : ClassId) (h0 : Heap) (n0 : Nat) (Z0 : n0 ≤ h0.size) (V1 : Arv Z h0 a0 k0 .byte (0 : Int32) [] (.int (0 : Int32))) (V2 : Arv Z h0 a1 k1 .byte (0 : Int32) [] (.int (0 : Int32))) :
    MetFree l (⟨"java/lang/StringLatin1", "equals", "([B[B)Z"⟩ : MethodName) (head1 (Jvm.Cond.code (⟨"java/lang/StringLatin1", "equals", "([B[B)Z"⟩ : MethodName) jdk_43_method_13_code 3 (some .boolean) :: ws) ({ frames := 0, cells := 0, slots := 0, locals := 0 } : Room)) (fun a U => a = #[(.ref a0), (.ref a1)] ∧ Z.Warmed39 U.vm ∧ U.heap = h0) (fun _ _ _ _ _ => True) (fun _ U o U' => ∃ v L, o = .returned v ∧ QLe00 Z a0 a1 k0 k1 h0 n0 v U'.heap L ∧ FrameEnd U o U' L ({ frames := 0, cells := 0, slots := 0, locals := 0 } : Room).cells ({ frames := 0, cells := 0, slots := 0, locals := 0 } : Room).slots) := by
  refine MetFree.of_bodySF (plainFor_of_name pnLe00) hisR ?_
  intro p e s m args below meth c s₁ Bd hml0 hP hK
  obtain ⟨rfl, hZ, hh⟩ := hP
  have hx := Bd.exec
  have hby := Bd.bytes
  have hlk := BodyLoose.notSynchronized Bd
  have hret := Bd.returns
  have hml : c.maxLocals = 3 := hml0
  have hown : s.vm.findClass "java/lang/StringLatin1" = some m.cls := findClass_of_methodNamed Bd.named
  have hnm := (name_of_methodNamed Bd.named Bd.method).1
  have X0 : Stand p l e ({ frames := 0, cells := 0, slots := 0, locals := 0 } : Room) s m #[(.ref a0), (.ref a1)] below meth c s₁ [] 0 0 := Stand.of_body Bd
  have e0 : s₁.heap = h0 := by rw [← hh, Bd.state]; rfl
  have N0 := Fr.nil n0
  show OFin p e below (KPost s (QLe00 Z a0 a1 k0 k1 h0 n0) ({ frames := 0, cells := 0, slots := 0, locals := 0 } : Room).cells ({ frames := 0, cells := 0, slots := 0, locals := 0 } : Room).slots) _
  rw [efLe00 m a0 a1]
  refine OFin.of (S' := s₁.setTop (mkF m 1 #[.val (.ref a0), .val (.ref a1), .unset] [(.ref a0)])) (fun t ht => ?_) ?_
  · refine XS.aloadN X0.here hx rfl (hb hby dLe00_0) rfl rfl ?_
    exact ht
  obtain ⟨cl1, Ar1, q1, S1, Ng1, H1, G1⟩ := id V1
  refine OFin.of (S' := s₁.setTop (mkF m 2 #[.val (.ref a0), .val (.ref a1), .unset] [(.int (0 : Int32))])) (fun t ht => own_alen X0 hx hZ e0 Ar1 S1 Ng1 (g := (mkF m 1 #[.val (.ref a0), .val (.ref a1), .unset] [(.ref a0)])) rfl rfl (hb hby dLe00_1) ht) ?_
  refine OFin.of (S' := s₁.setTop (mkF m 3 #[.val (.ref a0), .val (.ref a1), .unset] [(.ref a1), (.int (0 : Int32))])) (fun t ht => ?_) ?_
  · refine XS.aloadN X0.here hx rfl (hb hby dLe00_2) rfl rfl ?_
    exact ht
  obtain ⟨cl2, Ar2, q2, S2, Ng2, H2, G2⟩ := id V2
  refine OFin.of (S' := s₁.setTop (mkF m 4 #[.val (.ref a0), .val (.ref a1), .unset] [(.int (0 : Int32)), (.int (0 : Int32))])) (fun t ht => own_alen X0 hx hZ e0 Ar2 S2 Ng2 (g := (mkF m 3 #[.val (.ref a0), .val (.ref a1), .unset] [(.ref a1), (.int (0 : Int32))])) rfl rfl (hb hby dLe00_3) ht) ?_
  refine OFin.of (S' := s₁.setTop (mkF m 11 #[.val (.ref a0), .val (.ref a1), .val (.int (0 : Int32))] [(.ref a0), (.int (0 : Int32))])) (fun t ht => ?_) ?_
  · refine XS.icmpNo X0.here hx rfl (hb hby dLe00_4) rfl (teq (by decide : (0 : Int32) = (0 : Int32))).2 ?_
    show Steps p.tables e below (s₁.setTop (mkF m 7 _ [])) _
    refine XS.iconst X0.here hx rfl (hb hby dLe00_7) ?_
    show Steps p.tables e below (s₁.setTop (mkF m 8 _ [(.int (0 : Int32))])) _
    refine XS.istoreN X0.here hx rfl (hb hby dLe00_8) rfl (l' := #[.val (.ref a0), .val (.ref a1), .val (.int (0 : Int32))]) rfl ?_
    show Steps p.tables e below (s₁.setTop (mkF m 9 #[.val (.ref a0), .val (.ref a1), .val (.int (0 : Int32))] [])) _
    refine XS.iloadN X0.here hx rfl (hb hby dLe00_9) rfl ?_
    show Steps p.tables e below (s₁.setTop (mkF m 10 _ [(.int (0 : Int32))])) _
    refine XS.aloadN X0.here hx rfl (hb hby dLe00_10) rfl rfl ?_
    exact ht
  obtain ⟨cl3, Ar3, q3, S3, Ng3, H3, G3⟩ := id V1
  refine OFin.of (S' := s₁.setTop (mkF m 12 #[.val (.ref a0), .val (.ref a1), .val (.int (0 : Int32))] [(.int (0 : Int32)), (.int (0 : Int32))])) (fun t ht => own_alen X0 hx hZ e0 Ar3 S3 Ng3 (g := (mkF m 11 #[.val (.ref a0), .val (.ref a1), .val (.int (0 : Int32))] [(.ref a0), (.int (0 : Int32))])) rfl rfl (hb hby dLe00_11) ht) ?_
  refine OFin.of (S' := s₁.setTop (mkF m 33 #[.val (.ref a0), .val (.ref a1), .val (.int (0 : Int32))] [(.int (1 : Int32))])) (fun t ht => ?_) ?_
  · refine XS.icmpYes X0.here hx rfl (pc0 := 12) (pc' := 32) rfl (hb hby dLe00_12) rfl (flt (by decide : ¬ ((0 : Int32) < (0 : Int32)))).2.1 (by decide) (by decide) ?_
    show Steps p.tables e below (s₁.setTop (mkF m 32 _ [])) _
    refine XS.iconst X0.here hx rfl (hb hby dLe00_32) ?_
    exact ht
  exact OFin.retB X0 hx hlk (t := .boolean) (by simp) hret (hb hby dLe00_33) (by decide) (by decide) (by rw [e0]; exact ⟨(by show some (Value.int (1 : Int32)) = _; rfl), N0, rfl⟩)
def own_leq1 (x0 y0 : Int32) : Int32 := if x0 = y0 then (1) else 0
theorem dLe11_0 : decode jdk_43_method_13_code 0 = .ok (.aload_n 0, 1) := by decide +kernel
theorem dLe11_1 : decode jdk_43_method_13_code 1 = .ok (.arraylength, 1) := by decide +kernel
theorem dLe11_2 : decode jdk_43_method_13_code 2 = .ok (.aload_n 1, 1) := by decide +kernel
theorem dLe11_3 : decode jdk_43_method_13_code 3 = .ok (.arraylength, 1) := by decide +kernel
theorem dLe11_4 : decode jdk_43_method_13_code 4 = .ok (.if_icmp .ne 30, 3) := by decide +kernel
theorem dLe11_7 : decode jdk_43_method_13_code 7 = .ok (.iconst 0, 1) := by decide +kernel
theorem dLe11_8 : decode jdk_43_method_13_code 8 = .ok (.istore_n 2, 1) := by decide +kernel
theorem dLe11_9 : decode jdk_43_method_13_code 9 = .ok (.iload_n 2, 1) := by decide +kernel
theorem dLe11_10 : decode jdk_43_method_13_code 10 = .ok (.aload_n 0, 1) := by decide +kernel
theorem dLe11_11 : decode jdk_43_method_13_code 11 = .ok (.arraylength, 1) := by decide +kernel
theorem dLe11_12 : decode jdk_43_method_13_code 12 = .ok (.if_icmp .ge 20, 3) := by decide +kernel
theorem dLe11_15 : decode jdk_43_method_13_code 15 = .ok (.aload_n 0, 1) := by decide +kernel
theorem dLe11_16 : decode jdk_43_method_13_code 16 = .ok (.iload_n 2, 1) := by decide +kernel
theorem dLe11_17 : decode jdk_43_method_13_code 17 = .ok (.baload, 1) := by decide +kernel
theorem dLe11_18 : decode jdk_43_method_13_code 18 = .ok (.aload_n 1, 1) := by decide +kernel
theorem dLe11_19 : decode jdk_43_method_13_code 19 = .ok (.iload_n 2, 1) := by decide +kernel
theorem dLe11_20 : decode jdk_43_method_13_code 20 = .ok (.baload, 1) := by decide +kernel
theorem dLe11_21 : decode jdk_43_method_13_code 21 = .ok (.if_icmp .eq 5, 3) := by decide +kernel
theorem dLe11_24 : decode jdk_43_method_13_code 24 = .ok (.iconst 0, 1) := by decide +kernel
theorem dLe11_25 : decode jdk_43_method_13_code 25 = .ok (.ireturn, 1) := by decide +kernel
theorem dLe11_26 : decode jdk_43_method_13_code 26 = .ok (.iinc 2 1, 3) := by decide +kernel
theorem dLe11_29 : decode jdk_43_method_13_code 29 = .ok (.goto (-20), 3) := by decide +kernel
theorem dLe11_32 : decode jdk_43_method_13_code 32 = .ok (.iconst 1, 1) := by decide +kernel
theorem dLe11_33 : decode jdk_43_method_13_code 33 = .ok (.ireturn, 1) := by decide +kernel
theorem pnLe11 : plainName "java/lang/StringLatin1" = true := by first | (simp [plainName, overriddenIn]; done) | decide +kernel
theorem efLe11 (m : MethodId) (a0 : Addr) (a1 : Addr) : entryFrame m #[(.ref a0), (.ref a1)] 3 = mkF m 0 #[.val (.ref a0), .val (.ref a1), .unset] [] := by first | (simp [entryFrame, mkF, argsToLocals, Value.category]; done) | rfl
def QLe11 (Z : State) (a0 : Addr) (a1 : Addr) (k0 : ClassId) (k1 : ClassId) (x0 : Int32) (y0 : Int32) (h0 : Heap) (n0 : Nat) (v : Option Value) (h : Heap) (L : List Loc) : Prop := v = some (.int (own_leq1 x0 y0)) ∧ Fr n0 L ∧ h = h0
set_option maxRecDepth 65536 in
set_option maxHeartbeats 40000000 in
theorem rmLe11 (l : Launch) (Z : State) (a0 : Array Value) (hw : ∀ d ∈ tables_1, d.before a0 Z = true) (ws : List Jvm.Cond) (a0 : Addr) (a1 : Addr) (k0 : ClassId) (k1 : ClassId) (x0 : Int32) (y0 : Int32) (h0 : Heap) (n0 : Nat) (Z0 : n0 ≤ h0.size) (V1 : Arv Z h0 a0 k0 .byte (1 : Int32) [(.int x0)] (.int (0 : Int32))) (V2 : Arv Z h0 a1 k1 .byte (1 : Int32) [(.int y0)] (.int (0 : Int32))) :
    MetFree l (⟨"java/lang/StringLatin1", "equals", "([B[B)Z"⟩ : MethodName) (head1 (Jvm.Cond.code (⟨"java/lang/StringLatin1", "equals", "([B[B)Z"⟩ : MethodName) jdk_43_method_13_code 3 (some .boolean) :: ws) ({ frames := 0, cells := 0, slots := 0, locals := 0 } : Room)) (fun a U => a = #[(.ref a0), (.ref a1)] ∧ Z.Warmed39 U.vm ∧ U.heap = h0) (fun _ _ _ _ _ => True) (fun _ U o U' => ∃ v L, o = .returned v ∧ QLe11 Z a0 a1 k0 k1 x0 y0 h0 n0 v U'.heap L ∧ FrameEnd U o U' L ({ frames := 0, cells := 0, slots := 0, locals := 0 } : Room).cells ({ frames := 0, cells := 0, slots := 0, locals := 0 } : Room).slots) := by
  refine MetFree.of_bodySF (plainFor_of_name pnLe11) hisR ?_
  intro p e s m args below meth c s₁ Bd hml0 hP hK
  obtain ⟨rfl, hZ, hh⟩ := hP
  have hx := Bd.exec
  have hby := Bd.bytes
  have hlk := BodyLoose.notSynchronized Bd
  have hret := Bd.returns
  have hml : c.maxLocals = 3 := hml0
  have hown : s.vm.findClass "java/lang/StringLatin1" = some m.cls := findClass_of_methodNamed Bd.named
  have hnm := (name_of_methodNamed Bd.named Bd.method).1
  have X0 : Stand p l e ({ frames := 0, cells := 0, slots := 0, locals := 0 } : Room) s m #[(.ref a0), (.ref a1)] below meth c s₁ [] 0 0 := Stand.of_body Bd
  have e0 : s₁.heap = h0 := by rw [← hh, Bd.state]; rfl
  have N0 := Fr.nil n0
  show OFin p e below (KPost s (QLe11 Z a0 a1 k0 k1 x0 y0 h0 n0) ({ frames := 0, cells := 0, slots := 0, locals := 0 } : Room).cells ({ frames := 0, cells := 0, slots := 0, locals := 0 } : Room).slots) _
  rw [efLe11 m a0 a1]
  refine OFin.of (S' := s₁.setTop (mkF m 1 #[.val (.ref a0), .val (.ref a1), .unset] [(.ref a0)])) (fun t ht => ?_) ?_
  · refine XS.aloadN X0.here hx rfl (hb hby dLe11_0) rfl rfl ?_
    exact ht
  obtain ⟨cl1, Ar1, q1, S1, Ng1, H1, G1⟩ := id V1
  refine OFin.of (S' := s₁.setTop (mkF m 2 #[.val (.ref a0), .val (.ref a1), .unset] [(.int (1 : Int32))])) (fun t ht => own_alen X0 hx hZ e0 Ar1 S1 Ng1 (g := (mkF m 1 #[.val (.ref a0), .val (.ref a1), .unset] [(.ref a0)])) rfl rfl (hb hby dLe11_1) ht) ?_
  refine OFin.of (S' := s₁.setTop (mkF m 3 #[.val (.ref a0), .val (.ref a1), .unset] [(.ref a1), (.int (1 : Int32))])) (fun t ht => ?_) ?_
  · refine XS.aloadN X0.here hx rfl (hb hby dLe11_2) rfl rfl ?_
    exact ht
  obtain ⟨cl2, Ar2, q2, S2, Ng2, H2, G2⟩ := id V2
  refine OFin.of (S' := s₁.setTop (mkF m 4 #[.val (.ref a0), .val (.ref a1), .unset] [(.int (1 : Int32)), (.int (1 : Int32))])) (fun t ht => own_alen X0 hx hZ e0 Ar2 S2 Ng2 (g := (mkF m 3 #[.val (.ref a0), .val (.ref a1), .unset] [(.ref a1), (.int (1 : Int32))])) rfl rfl (hb hby dLe11_3) ht) ?_
  refine OFin.of (S' := s₁.setTop (mkF m 11 #[.val (.ref a0), .val (.ref a1), .val (.int (0 : Int32))] [(.ref a0), (.int (0 : Int32))])) (fun t ht => ?_) ?_
  · refine XS.icmpNo X0.here hx rfl (hb hby dLe11_4) rfl (teq (by decide : (1 : Int32) = (1 : Int32))).2 ?_
    show Steps p.tables e below (s₁.setTop (mkF m 7 _ [])) _
    refine XS.iconst X0.here hx rfl (hb hby dLe11_7) ?_
    show Steps p.tables e below (s₁.setTop (mkF m 8 _ [(.int (0 : Int32))])) _
    refine XS.istoreN X0.here hx rfl (hb hby dLe11_8) rfl (l' := #[.val (.ref a0), .val (.ref a1), .val (.int (0 : Int32))]) rfl ?_
    show Steps p.tables e below (s₁.setTop (mkF m 9 #[.val (.ref a0), .val (.ref a1), .val (.int (0 : Int32))] [])) _
    refine XS.iloadN X0.here hx rfl (hb hby dLe11_9) rfl ?_
    show Steps p.tables e below (s₁.setTop (mkF m 10 _ [(.int (0 : Int32))])) _
    refine XS.aloadN X0.here hx rfl (hb hby dLe11_10) rfl rfl ?_
    exact ht
  obtain ⟨cl3, Ar3, q3, S3, Ng3, H3, G3⟩ := id V1
  refine OFin.of (S' := s₁.setTop (mkF m 12 #[.val (.ref a0), .val (.ref a1), .val (.int (0 : Int32))] [(.int (1 : Int32)), (.int (0 : Int32))])) (fun t ht => own_alen X0 hx hZ e0 Ar3 S3 Ng3 (g := (mkF m 11 #[.val (.ref a0), .val (.ref a1), .val (.int (0 : Int32))] [(.ref a0), (.int (0 : Int32))])) rfl rfl (hb hby dLe11_11) ht) ?_
  refine OFin.of (S' := s₁.setTop (mkF m 17 #[.val (.ref a0), .val (.ref a1), .val (.int (0 : Int32))] [(.int (0 : Int32)), (.ref a0)])) (fun t ht => ?_) ?_
  · refine XS.icmpNo X0.here hx rfl (hb hby dLe11_12) rfl (tlt (by decide : (0 : Int32) < (1 : Int32))).2.1 ?_
    show Steps p.tables e below (s₁.setTop (mkF m 15 _ [])) _
    refine XS.aloadN X0.here hx rfl (hb hby dLe11_15) rfl rfl ?_
    show Steps p.tables e below (s₁.setTop (mkF m 16 _ [(.ref a0)])) _
    refine XS.iloadN X0.here hx rfl (hb hby dLe11_16) rfl ?_
    exact ht
  obtain ⟨cl4, Ar4, q4, S4, Ng4, H4, G4⟩ := id V1
  have hin4 := inb_of (j := (0 : Int32)) S4 ⟨by decide, by decide⟩
  have hat4 : cl4.slots[((0 : Int32)).toNatClampNeg]? = some (.int x0) := Has.at H4 hin4 rfl
  refine OFin.of (S' := s₁.setTop (mkF m 18 #[.val (.ref a0), .val (.ref a1), .val (.int (0 : Int32))] [(.int x0)])) (fun t ht => X0.baloadBytes hx (j := (0 : Int32)) (v := (.int x0)) (by rw [e0]; exact Ar4.1) (State.isArrayOf_alike hZ.alike Ar4.2.1) Ar4.2.2 hin4 hat4 (g := (mkF m 17 #[.val (.ref a0), .val (.ref a1), .val (.int (0 : Int32))] [(.int (0 : Int32)), (.ref a0)])) rfl rfl (hb hby dLe11_17) _ ht) ?_
  refine OFin.of (S' := s₁.setTop (mkF m 20 #[.val (.ref a0), .val (.ref a1), .val (.int (0 : Int32))] [(.int (0 : Int32)), (.ref a1), (.int x0)])) (fun t ht => ?_) ?_
  · refine XS.aloadN X0.here hx rfl (hb hby dLe11_18) rfl rfl ?_
    show Steps p.tables e below (s₁.setTop (mkF m 19 _ [(.ref a1), (.int x0)])) _
    refine XS.iloadN X0.here hx rfl (hb hby dLe11_19) rfl ?_
    exact ht
  obtain ⟨cl5, Ar5, q5, S5, Ng5, H5, G5⟩ := id V2
  have hin5 := inb_of (j := (0 : Int32)) S5 ⟨by decide, by decide⟩
  have hat5 : cl5.slots[((0 : Int32)).toNatClampNeg]? = some (.int y0) := Has.at H5 hin5 rfl
  refine OFin.of (S' := s₁.setTop (mkF m 21 #[.val (.ref a0), .val (.ref a1), .val (.int (0 : Int32))] [(.int y0), (.int x0)])) (fun t ht => X0.baloadBytes hx (j := (0 : Int32)) (v := (.int y0)) (by rw [e0]; exact Ar5.1) (State.isArrayOf_alike hZ.alike Ar5.2.1) Ar5.2.2 hin5 hat5 (g := (mkF m 20 #[.val (.ref a0), .val (.ref a1), .val (.int (0 : Int32))] [(.int (0 : Int32)), (.ref a1), (.int x0)])) rfl rfl (hb hby dLe11_20) _ ht) ?_
  by_cases hc6 : x0 = y0
  · refine OFin.of (S' := s₁.setTop (mkF m 11 #[.val (.ref a0), .val (.ref a1), .val (.int (1 : Int32))] [(.ref a0), (.int (1 : Int32))])) (fun t ht => ?_) ?_
    · refine XS.icmpYes X0.here hx rfl (pc0 := 21) (pc' := 26) rfl (hb hby dLe11_21) rfl (teq (hc6 : x0 = y0)).1 (by decide) (by decide) ?_
      show Steps p.tables e below (s₁.setTop (mkF m 26 _ [])) _
      refine XS.iinc X0.here hx rfl (hb hby dLe11_26) rfl (l' := #[.val (.ref a0), .val (.ref a1), .val (.int (1 : Int32))]) rfl ?_
      show Steps p.tables e below (s₁.setTop (mkF m 29 #[.val (.ref a0), .val (.ref a1), .val (.int (1 : Int32))] [])) _
      refine XS.goto X0.here hx rfl (pc0 := 29) (pc' := 9) rfl (hb hby dLe11_29) (by decide) (by decide) ?_
      show Steps p.tables e below (s₁.setTop (mkF m 9 _ [])) _
      refine XS.iloadN X0.here hx rfl (hb hby dLe11_9) rfl ?_
      show Steps p.tables e below (s₁.setTop (mkF m 10 _ [(.int (1 : Int32))])) _
      refine XS.aloadN X0.here hx rfl (hb hby dLe11_10) rfl rfl ?_
      exact ht
    obtain ⟨cl7, Ar7, q7, S7, Ng7, H7, G7⟩ := id V1
    refine OFin.of (S' := s₁.setTop (mkF m 12 #[.val (.ref a0), .val (.ref a1), .val (.int (1 : Int32))] [(.int (1 : Int32)), (.int (1 : Int32))])) (fun t ht => own_alen X0 hx hZ e0 Ar7 S7 Ng7 (g := (mkF m 11 #[.val (.ref a0), .val (.ref a1), .val (.int (1 : Int32))] [(.ref a0), (.int (1 : Int32))])) rfl rfl (hb hby dLe11_11) ht) ?_
    refine OFin.of (S' := s₁.setTop (mkF m 33 #[.val (.ref a0), .val (.ref a1), .val (.int (1 : Int32))] [(.int (1 : Int32))])) (fun t ht => ?_) ?_
    · refine XS.icmpYes X0.here hx rfl (pc0 := 12) (pc' := 32) rfl (hb hby dLe11_12) rfl (flt (by decide : ¬ ((1 : Int32) < (1 : Int32)))).2.1 (by decide) (by decide) ?_
      show Steps p.tables e below (s₁.setTop (mkF m 32 _ [])) _
      refine XS.iconst X0.here hx rfl (hb hby dLe11_32) ?_
      exact ht
    exact OFin.retB X0 hx hlk (t := .boolean) (by simp) hret (hb hby dLe11_33) (by decide) (by decide) (by rw [e0]; exact ⟨(by show some (Value.int (1 : Int32)) = _; simp [own_leq1, hc6]), N0, rfl⟩)
  · refine OFin.of (S' := s₁.setTop (mkF m 25 #[.val (.ref a0), .val (.ref a1), .val (.int (0 : Int32))] [(.int (0 : Int32))])) (fun t ht => ?_) ?_
    · refine XS.icmpNo X0.here hx rfl (hb hby dLe11_21) rfl (feq (hc6 : ¬ (x0 = y0))).1 ?_
      show Steps p.tables e below (s₁.setTop (mkF m 24 _ [])) _
      refine XS.iconst X0.here hx rfl (hb hby dLe11_24) ?_
      exact ht
    exact OFin.retB X0 hx hlk (t := .boolean) (by simp) hret (hb hby dLe11_25) (by decide) (by decide) (by rw [e0]; exact ⟨(by show some (Value.int (0 : Int32)) = _; simp [own_leq1, hc6]), N0, rfl⟩)
def own_leq2 (x0 x1 y0 y1 : Int32) : Int32 := if x0 = y0 then (if x1 = y1 then (1) else 0) else 0
theorem dLe22_0 : decode jdk_43_method_13_code 0 = .ok (.aload_n 0, 1) := by decide +kernel
theorem dLe22_1 : decode jdk_43_method_13_code 1 = .ok (.arraylength, 1) := by decide +kernel
theorem dLe22_2 : decode jdk_43_method_13_code 2 = .ok (.aload_n 1, 1) := by decide +kernel
theorem dLe22_3 : decode jdk_43_method_13_code 3 = .ok (.arraylength, 1) := by decide +kernel
theorem dLe22_4 : decode jdk_43_method_13_code 4 = .ok (.if_icmp .ne 30, 3) := by decide +kernel
theorem dLe22_7 : decode jdk_43_method_13_code 7 = .ok (.iconst 0, 1) := by decide +kernel
theorem dLe22_8 : decode jdk_43_method_13_code 8 = .ok (.istore_n 2, 1) := by decide +kernel
theorem dLe22_9 : decode jdk_43_method_13_code 9 = .ok (.iload_n 2, 1) := by decide +kernel
theorem dLe22_10 : decode jdk_43_method_13_code 10 = .ok (.aload_n 0, 1) := by decide +kernel
theorem dLe22_11 : decode jdk_43_method_13_code 11 = .ok (.arraylength, 1) := by decide +kernel
theorem dLe22_12 : decode jdk_43_method_13_code 12 = .ok (.if_icmp .ge 20, 3) := by decide +kernel
theorem dLe22_15 : decode jdk_43_method_13_code 15 = .ok (.aload_n 0, 1) := by decide +kernel
theorem dLe22_16 : decode jdk_43_method_13_code 16 = .ok (.iload_n 2, 1) := by decide +kernel
theorem dLe22_17 : decode jdk_43_method_13_code 17 = .ok (.baload, 1) := by decide +kernel
theorem dLe22_18 : decode jdk_43_method_13_code 18 = .ok (.aload_n 1, 1) := by decide +kernel
theorem dLe22_19 : decode jdk_43_method_13_code 19 = .ok (.iload_n 2, 1) := by decide +kernel
theorem dLe22_20 : decode jdk_43_method_13_code 20 = .ok (.baload, 1) := by decide +kernel
theorem dLe22_21 : decode jdk_43_method_13_code 21 = .ok (.if_icmp .eq 5, 3) := by decide +kernel
theorem dLe22_24 : decode jdk_43_method_13_code 24 = .ok (.iconst 0, 1) := by decide +kernel
theorem dLe22_25 : decode jdk_43_method_13_code 25 = .ok (.ireturn, 1) := by decide +kernel
theorem dLe22_26 : decode jdk_43_method_13_code 26 = .ok (.iinc 2 1, 3) := by decide +kernel
theorem dLe22_29 : decode jdk_43_method_13_code 29 = .ok (.goto (-20), 3) := by decide +kernel
theorem dLe22_32 : decode jdk_43_method_13_code 32 = .ok (.iconst 1, 1) := by decide +kernel
theorem dLe22_33 : decode jdk_43_method_13_code 33 = .ok (.ireturn, 1) := by decide +kernel
theorem pnLe22 : plainName "java/lang/StringLatin1" = true := by first | (simp [plainName, overriddenIn]; done) | decide +kernel
theorem efLe22 (m : MethodId) (a0 : Addr) (a1 : Addr) : entryFrame m #[(.ref a0), (.ref a1)] 3 = mkF m 0 #[.val (.ref a0), .val (.ref a1), .unset] [] := by first | (simp [entryFrame, mkF, argsToLocals, Value.category]; done) | rfl
def QLe22 (Z : State) (a0 : Addr) (a1 : Addr) (k0 : ClassId) (k1 : ClassId) (x0 : Int32) (x1 : Int32) (y0 : Int32) (y1 : Int32) (h0 : Heap) (n0 : Nat) (v : Option Value) (h : Heap) (L : List Loc) : Prop := v = some (.int (own_leq2 x0 x1 y0 y1)) ∧ Fr n0 L ∧ h = h0
set_option maxRecDepth 65536 in
set_option maxHeartbeats 40000000 in
theorem rmLe22 (l : Launch) (Z : State) (a0 : Array Value) (hw : ∀ d ∈ tables_1, d.before a0 Z = true) (ws : List Jvm.Cond) (a0 : Addr) (a1 : Addr) (k0 : ClassId) (k1 : ClassId) (x0 : Int32) (x1 : Int32) (y0 : Int32) (y1 : Int32) (h0 : Heap) (n0 : Nat) (Z0 : n0 ≤ h0.size) (V1 : Arv Z h0 a0 k0 .byte (2 : Int32) [(.int x0), (.int x1)] (.int (0 : Int32))) (V2 : Arv Z h0 a1 k1 .byte (2 : Int32) [(.int y0), (.int y1)] (.int (0 : Int32))) :
    MetFree l (⟨"java/lang/StringLatin1", "equals", "([B[B)Z"⟩ : MethodName) (head1 (Jvm.Cond.code (⟨"java/lang/StringLatin1", "equals", "([B[B)Z"⟩ : MethodName) jdk_43_method_13_code 3 (some .boolean) :: ws) ({ frames := 0, cells := 0, slots := 0, locals := 0 } : Room)) (fun a U => a = #[(.ref a0), (.ref a1)] ∧ Z.Warmed39 U.vm ∧ U.heap = h0) (fun _ _ _ _ _ => True) (fun _ U o U' => ∃ v L, o = .returned v ∧ QLe22 Z a0 a1 k0 k1 x0 x1 y0 y1 h0 n0 v U'.heap L ∧ FrameEnd U o U' L ({ frames := 0, cells := 0, slots := 0, locals := 0 } : Room).cells ({ frames := 0, cells := 0, slots := 0, locals := 0 } : Room).slots) := by
  refine MetFree.of_bodySF (plainFor_of_name pnLe22) hisR ?_
  intro p e s m args below meth c s₁ Bd hml0 hP hK
  obtain ⟨rfl, hZ, hh⟩ := hP
  have hx := Bd.exec
  have hby := Bd.bytes
  have hlk := BodyLoose.notSynchronized Bd
  have hret := Bd.returns
  have hml : c.maxLocals = 3 := hml0
  have hown : s.vm.findClass "java/lang/StringLatin1" = some m.cls := findClass_of_methodNamed Bd.named
  have hnm := (name_of_methodNamed Bd.named Bd.method).1
  have X0 : Stand p l e ({ frames := 0, cells := 0, slots := 0, locals := 0 } : Room) s m #[(.ref a0), (.ref a1)] below meth c s₁ [] 0 0 := Stand.of_body Bd
  have e0 : s₁.heap = h0 := by rw [← hh, Bd.state]; rfl
  have N0 := Fr.nil n0
  show OFin p e below (KPost s (QLe22 Z a0 a1 k0 k1 x0 x1 y0 y1 h0 n0) ({ frames := 0, cells := 0, slots := 0, locals := 0 } : Room).cells ({ frames := 0, cells := 0, slots := 0, locals := 0 } : Room).slots) _
  rw [efLe22 m a0 a1]
  refine OFin.of (S' := s₁.setTop (mkF m 1 #[.val (.ref a0), .val (.ref a1), .unset] [(.ref a0)])) (fun t ht => ?_) ?_
  · refine XS.aloadN X0.here hx rfl (hb hby dLe22_0) rfl rfl ?_
    exact ht
  obtain ⟨cl1, Ar1, q1, S1, Ng1, H1, G1⟩ := id V1
  refine OFin.of (S' := s₁.setTop (mkF m 2 #[.val (.ref a0), .val (.ref a1), .unset] [(.int (2 : Int32))])) (fun t ht => own_alen X0 hx hZ e0 Ar1 S1 Ng1 (g := (mkF m 1 #[.val (.ref a0), .val (.ref a1), .unset] [(.ref a0)])) rfl rfl (hb hby dLe22_1) ht) ?_
  refine OFin.of (S' := s₁.setTop (mkF m 3 #[.val (.ref a0), .val (.ref a1), .unset] [(.ref a1), (.int (2 : Int32))])) (fun t ht => ?_) ?_
  · refine XS.aloadN X0.here hx rfl (hb hby dLe22_2) rfl rfl ?_
    exact ht
  obtain ⟨cl2, Ar2, q2, S2, Ng2, H2, G2⟩ := id V2
  refine OFin.of (S' := s₁.setTop (mkF m 4 #[.val (.ref a0), .val (.ref a1), .unset] [(.int (2 : Int32)), (.int (2 : Int32))])) (fun t ht => own_alen X0 hx hZ e0 Ar2 S2 Ng2 (g := (mkF m 3 #[.val (.ref a0), .val (.ref a1), .unset] [(.ref a1), (.int (2 : Int32))])) rfl rfl (hb hby dLe22_3) ht) ?_
  refine OFin.of (S' := s₁.setTop (mkF m 11 #[.val (.ref a0), .val (.ref a1), .val (.int (0 : Int32))] [(.ref a0), (.int (0 : Int32))])) (fun t ht => ?_) ?_
  · refine XS.icmpNo X0.here hx rfl (hb hby dLe22_4) rfl (teq (by decide : (2 : Int32) = (2 : Int32))).2 ?_
    show Steps p.tables e below (s₁.setTop (mkF m 7 _ [])) _
    refine XS.iconst X0.here hx rfl (hb hby dLe22_7) ?_
    show Steps p.tables e below (s₁.setTop (mkF m 8 _ [(.int (0 : Int32))])) _
    refine XS.istoreN X0.here hx rfl (hb hby dLe22_8) rfl (l' := #[.val (.ref a0), .val (.ref a1), .val (.int (0 : Int32))]) rfl ?_
    show Steps p.tables e below (s₁.setTop (mkF m 9 #[.val (.ref a0), .val (.ref a1), .val (.int (0 : Int32))] [])) _
    refine XS.iloadN X0.here hx rfl (hb hby dLe22_9) rfl ?_
    show Steps p.tables e below (s₁.setTop (mkF m 10 _ [(.int (0 : Int32))])) _
    refine XS.aloadN X0.here hx rfl (hb hby dLe22_10) rfl rfl ?_
    exact ht
  obtain ⟨cl3, Ar3, q3, S3, Ng3, H3, G3⟩ := id V1
  refine OFin.of (S' := s₁.setTop (mkF m 12 #[.val (.ref a0), .val (.ref a1), .val (.int (0 : Int32))] [(.int (2 : Int32)), (.int (0 : Int32))])) (fun t ht => own_alen X0 hx hZ e0 Ar3 S3 Ng3 (g := (mkF m 11 #[.val (.ref a0), .val (.ref a1), .val (.int (0 : Int32))] [(.ref a0), (.int (0 : Int32))])) rfl rfl (hb hby dLe22_11) ht) ?_
  refine OFin.of (S' := s₁.setTop (mkF m 17 #[.val (.ref a0), .val (.ref a1), .val (.int (0 : Int32))] [(.int (0 : Int32)), (.ref a0)])) (fun t ht => ?_) ?_
  · refine XS.icmpNo X0.here hx rfl (hb hby dLe22_12) rfl (tlt (by decide : (0 : Int32) < (2 : Int32))).2.1 ?_
    show Steps p.tables e below (s₁.setTop (mkF m 15 _ [])) _
    refine XS.aloadN X0.here hx rfl (hb hby dLe22_15) rfl rfl ?_
    show Steps p.tables e below (s₁.setTop (mkF m 16 _ [(.ref a0)])) _
    refine XS.iloadN X0.here hx rfl (hb hby dLe22_16) rfl ?_
    exact ht
  obtain ⟨cl4, Ar4, q4, S4, Ng4, H4, G4⟩ := id V1
  have hin4 := inb_of (j := (0 : Int32)) S4 ⟨by decide, by decide⟩
  have hat4 : cl4.slots[((0 : Int32)).toNatClampNeg]? = some (.int x0) := Has.at H4 hin4 rfl
  refine OFin.of (S' := s₁.setTop (mkF m 18 #[.val (.ref a0), .val (.ref a1), .val (.int (0 : Int32))] [(.int x0)])) (fun t ht => X0.baloadBytes hx (j := (0 : Int32)) (v := (.int x0)) (by rw [e0]; exact Ar4.1) (State.isArrayOf_alike hZ.alike Ar4.2.1) Ar4.2.2 hin4 hat4 (g := (mkF m 17 #[.val (.ref a0), .val (.ref a1), .val (.int (0 : Int32))] [(.int (0 : Int32)), (.ref a0)])) rfl rfl (hb hby dLe22_17) _ ht) ?_
  refine OFin.of (S' := s₁.setTop (mkF m 20 #[.val (.ref a0), .val (.ref a1), .val (.int (0 : Int32))] [(.int (0 : Int32)), (.ref a1), (.int x0)])) (fun t ht => ?_) ?_
  · refine XS.aloadN X0.here hx rfl (hb hby dLe22_18) rfl rfl ?_
    show Steps p.tables e below (s₁.setTop (mkF m 19 _ [(.ref a1), (.int x0)])) _
    refine XS.iloadN X0.here hx rfl (hb hby dLe22_19) rfl ?_
    exact ht
  obtain ⟨cl5, Ar5, q5, S5, Ng5, H5, G5⟩ := id V2
  have hin5 := inb_of (j := (0 : Int32)) S5 ⟨by decide, by decide⟩
  have hat5 : cl5.slots[((0 : Int32)).toNatClampNeg]? = some (.int y0) := Has.at H5 hin5 rfl
  refine OFin.of (S' := s₁.setTop (mkF m 21 #[.val (.ref a0), .val (.ref a1), .val (.int (0 : Int32))] [(.int y0), (.int x0)])) (fun t ht => X0.baloadBytes hx (j := (0 : Int32)) (v := (.int y0)) (by rw [e0]; exact Ar5.1) (State.isArrayOf_alike hZ.alike Ar5.2.1) Ar5.2.2 hin5 hat5 (g := (mkF m 20 #[.val (.ref a0), .val (.ref a1), .val (.int (0 : Int32))] [(.int (0 : Int32)), (.ref a1), (.int x0)])) rfl rfl (hb hby dLe22_20) _ ht) ?_
  by_cases hc6 : x0 = y0
  · refine OFin.of (S' := s₁.setTop (mkF m 11 #[.val (.ref a0), .val (.ref a1), .val (.int (1 : Int32))] [(.ref a0), (.int (1 : Int32))])) (fun t ht => ?_) ?_
    · refine XS.icmpYes X0.here hx rfl (pc0 := 21) (pc' := 26) rfl (hb hby dLe22_21) rfl (teq (hc6 : x0 = y0)).1 (by decide) (by decide) ?_
      show Steps p.tables e below (s₁.setTop (mkF m 26 _ [])) _
      refine XS.iinc X0.here hx rfl (hb hby dLe22_26) rfl (l' := #[.val (.ref a0), .val (.ref a1), .val (.int (1 : Int32))]) rfl ?_
      show Steps p.tables e below (s₁.setTop (mkF m 29 #[.val (.ref a0), .val (.ref a1), .val (.int (1 : Int32))] [])) _
      refine XS.goto X0.here hx rfl (pc0 := 29) (pc' := 9) rfl (hb hby dLe22_29) (by decide) (by decide) ?_
      show Steps p.tables e below (s₁.setTop (mkF m 9 _ [])) _
      refine XS.iloadN X0.here hx rfl (hb hby dLe22_9) rfl ?_
      show Steps p.tables e below (s₁.setTop (mkF m 10 _ [(.int (1 : Int32))])) _
      refine XS.aloadN X0.here hx rfl (hb hby dLe22_10) rfl rfl ?_
      exact ht
    obtain ⟨cl7, Ar7, q7, S7, Ng7, H7, G7⟩ := id V1
    refine OFin.of (S' := s₁.setTop (mkF m 12 #[.val (.ref a0), .val (.ref a1), .val (.int (1 : Int32))] [(.int (2 : Int32)), (.int (1 : Int32))])) (fun t ht => own_alen X0 hx hZ e0 Ar7 S7 Ng7 (g := (mkF m 11 #[.val (.ref a0), .val (.ref a1), .val (.int (1 : Int32))] [(.ref a0), (.int (1 : Int32))])) rfl rfl (hb hby dLe22_11) ht) ?_
    refine OFin.of (S' := s₁.setTop (mkF m 17 #[.val (.ref a0), .val (.ref a1), .val (.int (1 : Int32))] [(.int (1 : Int32)), (.ref a0)])) (fun t ht => ?_) ?_
    · refine XS.icmpNo X0.here hx rfl (hb hby dLe22_12) rfl (tlt (by decide : (1 : Int32) < (2 : Int32))).2.1 ?_
      show Steps p.tables e below (s₁.setTop (mkF m 15 _ [])) _
      refine XS.aloadN X0.here hx rfl (hb hby dLe22_15) rfl rfl ?_
      show Steps p.tables e below (s₁.setTop (mkF m 16 _ [(.ref a0)])) _
      refine XS.iloadN X0.here hx rfl (hb hby dLe22_16) rfl ?_
      exact ht
    obtain ⟨cl8, Ar8, q8, S8, Ng8, H8, G8⟩ := id V1
    have hin8 := inb_of (j := (1 : Int32)) S8 ⟨by decide, by decide⟩
    have hat8 : cl8.slots[((1 : Int32)).toNatClampNeg]? = some (.int x1) := Has.at H8 hin8 rfl
    refine OFin.of (S' := s₁.setTop (mkF m 18 #[.val (.ref a0), .val (.ref a1), .val (.int (1 : Int32))] [(.int x1)])) (fun t ht => X0.baloadBytes hx (j := (1 : Int32)) (v := (.int x1)) (by rw [e0]; exact Ar8.1) (State.isArrayOf_alike hZ.alike Ar8.2.1) Ar8.2.2 hin8 hat8 (g := (mkF m 17 #[.val (.ref a0), .val (.ref a1), .val (.int (1 : Int32))] [(.int (1 : Int32)), (.ref a0)])) rfl rfl (hb hby dLe22_17) _ ht) ?_
    refine OFin.of (S' := s₁.setTop (mkF m 20 #[.val (.ref a0), .val (.ref a1), .val (.int (1 : Int32))] [(.int (1 : Int32)), (.ref a1), (.int x1)])) (fun t ht => ?_) ?_
    · refine XS.aloadN X0.here hx rfl (hb hby dLe22_18) rfl rfl ?_
      show Steps p.tables e below (s₁.setTop (mkF m 19 _ [(.ref a1), (.int x1)])) _
      refine XS.iloadN X0.here hx rfl (hb hby dLe22_19) rfl ?_
      exact ht
    obtain ⟨cl9, Ar9, q9, S9, Ng9, H9, G9⟩ := id V2
    have hin9 := inb_of (j := (1 : Int32)) S9 ⟨by decide, by decide⟩
    have hat9 : cl9.slots[((1 : Int32)).toNatClampNeg]? = some (.int y1) := Has.at H9 hin9 rfl
    refine OFin.of (S' := s₁.setTop (mkF m 21 #[.val (.ref a0), .val (.ref a1), .val (.int (1 : Int32))] [(.int y1), (.int x1)])) (fun t ht => X0.baloadBytes hx (j := (1 : Int32)) (v := (.int y1)) (by rw [e0]; exact Ar9.1) (State.isArrayOf_alike hZ.alike Ar9.2.1) Ar9.2.2 hin9 hat9 (g := (mkF m 20 #[.val (.ref a0), .val (.ref a1), .val (.int (1 : Int32))] [(.int (1 : Int32)), (.ref a1), (.int x1)])) rfl rfl (hb hby dLe22_20) _ ht) ?_
    by_cases hc10 : x1 = y1
    · refine OFin.of (S' := s₁.setTop (mkF m 11 #[.val (.ref a0), .val (.ref a1), .val (.int (2 : Int32))] [(.ref a0), (.int (2 : Int32))])) (fun t ht => ?_) ?_
      · refine XS.icmpYes X0.here hx rfl (pc0 := 21) (pc' := 26) rfl (hb hby dLe22_21) rfl (teq (hc10 : x1 = y1)).1 (by decide) (by decide) ?_
        show Steps p.tables e below (s₁.setTop (mkF m 26 _ [])) _
        refine XS.iinc X0.here hx rfl (hb hby dLe22_26) rfl (l' := #[.val (.ref a0), .val (.ref a1), .val (.int (2 : Int32))]) rfl ?_
        show Steps p.tables e below (s₁.setTop (mkF m 29 #[.val (.ref a0), .val (.ref a1), .val (.int (2 : Int32))] [])) _
        refine XS.goto X0.here hx rfl (pc0 := 29) (pc' := 9) rfl (hb hby dLe22_29) (by decide) (by decide) ?_
        show Steps p.tables e below (s₁.setTop (mkF m 9 _ [])) _
        refine XS.iloadN X0.here hx rfl (hb hby dLe22_9) rfl ?_
        show Steps p.tables e below (s₁.setTop (mkF m 10 _ [(.int (2 : Int32))])) _
        refine XS.aloadN X0.here hx rfl (hb hby dLe22_10) rfl rfl ?_
        exact ht
      obtain ⟨cl11, Ar11, q11, S11, Ng11, H11, G11⟩ := id V1
      refine OFin.of (S' := s₁.setTop (mkF m 12 #[.val (.ref a0), .val (.ref a1), .val (.int (2 : Int32))] [(.int (2 : Int32)), (.int (2 : Int32))])) (fun t ht => own_alen X0 hx hZ e0 Ar11 S11 Ng11 (g := (mkF m 11 #[.val (.ref a0), .val (.ref a1), .val (.int (2 : Int32))] [(.ref a0), (.int (2 : Int32))])) rfl rfl (hb hby dLe22_11) ht) ?_
      refine OFin.of (S' := s₁.setTop (mkF m 33 #[.val (.ref a0), .val (.ref a1), .val (.int (2 : Int32))] [(.int (1 : Int32))])) (fun t ht => ?_) ?_
      · refine XS.icmpYes X0.here hx rfl (pc0 := 12) (pc' := 32) rfl (hb hby dLe22_12) rfl (flt (by decide : ¬ ((2 : Int32) < (2 : Int32)))).2.1 (by decide) (by decide) ?_
        show Steps p.tables e below (s₁.setTop (mkF m 32 _ [])) _
        refine XS.iconst X0.here hx rfl (hb hby dLe22_32) ?_
        exact ht
      exact OFin.retB X0 hx hlk (t := .boolean) (by simp) hret (hb hby dLe22_33) (by decide) (by decide) (by rw [e0]; exact ⟨(by show some (Value.int (1 : Int32)) = _; simp [own_leq2, hc6, hc10]), N0, rfl⟩)
    · refine OFin.of (S' := s₁.setTop (mkF m 25 #[.val (.ref a0), .val (.ref a1), .val (.int (1 : Int32))] [(.int (0 : Int32))])) (fun t ht => ?_) ?_
      · refine XS.icmpNo X0.here hx rfl (hb hby dLe22_21) rfl (feq (hc10 : ¬ (x1 = y1))).1 ?_
        show Steps p.tables e below (s₁.setTop (mkF m 24 _ [])) _
        refine XS.iconst X0.here hx rfl (hb hby dLe22_24) ?_
        exact ht
      exact OFin.retB X0 hx hlk (t := .boolean) (by simp) hret (hb hby dLe22_25) (by decide) (by decide) (by rw [e0]; exact ⟨(by show some (Value.int (0 : Int32)) = _; simp [own_leq2, hc6, hc10]), N0, rfl⟩)
  · refine OFin.of (S' := s₁.setTop (mkF m 25 #[.val (.ref a0), .val (.ref a1), .val (.int (0 : Int32))] [(.int (0 : Int32))])) (fun t ht => ?_) ?_
    · refine XS.icmpNo X0.here hx rfl (hb hby dLe22_21) rfl (feq (hc6 : ¬ (x0 = y0))).1 ?_
      show Steps p.tables e below (s₁.setTop (mkF m 24 _ [])) _
      refine XS.iconst X0.here hx rfl (hb hby dLe22_24) ?_
      exact ht
    exact OFin.retB X0 hx hlk (t := .boolean) (by simp) hret (hb hby dLe22_25) (by decide) (by decide) (by rw [e0]; exact ⟨(by show some (Value.int (0 : Int32)) = _; simp [own_leq2, hc6]), N0, rfl⟩)
theorem dLeN_0 : decode jdk_43_method_13_code 0 = .ok (.aload_n 0, 1) := by decide +kernel
theorem dLeN_1 : decode jdk_43_method_13_code 1 = .ok (.arraylength, 1) := by decide +kernel
theorem dLeN_2 : decode jdk_43_method_13_code 2 = .ok (.aload_n 1, 1) := by decide +kernel
theorem dLeN_3 : decode jdk_43_method_13_code 3 = .ok (.arraylength, 1) := by decide +kernel
theorem dLeN_4 : decode jdk_43_method_13_code 4 = .ok (.if_icmp .ne 30, 3) := by decide +kernel
theorem dLeN_34 : decode jdk_43_method_13_code 34 = .ok (.iconst 0, 1) := by decide +kernel
theorem dLeN_35 : decode jdk_43_method_13_code 35 = .ok (.ireturn, 1) := by decide +kernel
theorem pnLeN : plainName "java/lang/StringLatin1" = true := by first | (simp [plainName, overriddenIn]; done) | decide +kernel
theorem efLeN (m : MethodId) (a0 : Addr) (a1 : Addr) : entryFrame m #[(.ref a0), (.ref a1)] 3 = mkF m 0 #[.val (.ref a0), .val (.ref a1), .unset] [] := by first | (simp [entryFrame, mkF, argsToLocals, Value.category]; done) | rfl
def QLeN (Z : State) (a0 : Addr) (a1 : Addr) (k0 : ClassId) (k1 : ClassId) (z1 : Int32) (z2 : Int32) (vs1 : List Value) (vs2 : List Value) (h0 : Heap) (n0 : Nat) (v : Option Value) (h : Heap) (L : List Loc) : Prop := v = some (.int (0 : Int32)) ∧ Fr n0 L ∧ h = h0
set_option maxRecDepth 65536 in
set_option maxHeartbeats 40000000 in
theorem rmLeN (l : Launch) (Z : State) (a0 : Array Value) (hw : ∀ d ∈ tables_1, d.before a0 Z = true) (ws : List Jvm.Cond) (a0 : Addr) (a1 : Addr) (k0 : ClassId) (k1 : ClassId) (z1 : Int32) (z2 : Int32) (vs1 : List Value) (vs2 : List Value) (h0 : Heap) (n0 : Nat) (Z0 : n0 ≤ h0.size) (V1 : Arv Z h0 a0 k0 .byte z1 vs1 (.int (0 : Int32))) (V2 : Arv Z h0 a1 k1 .byte z2 vs2 (.int (0 : Int32))) (hz : ¬ z1 = z2) :
    MetFree l (⟨"java/lang/StringLatin1", "equals", "([B[B)Z"⟩ : MethodName) (head1 (Jvm.Cond.code (⟨"java/lang/StringLatin1", "equals", "([B[B)Z"⟩ : MethodName) jdk_43_method_13_code 3 (some .boolean) :: ws) ({ frames := 0, cells := 0, slots := 0, locals := 0 } : Room)) (fun a U => a = #[(.ref a0), (.ref a1)] ∧ Z.Warmed39 U.vm ∧ U.heap = h0) (fun _ _ _ _ _ => True) (fun _ U o U' => ∃ v L, o = .returned v ∧ QLeN Z a0 a1 k0 k1 z1 z2 vs1 vs2 h0 n0 v U'.heap L ∧ FrameEnd U o U' L ({ frames := 0, cells := 0, slots := 0, locals := 0 } : Room).cells ({ frames := 0, cells := 0, slots := 0, locals := 0 } : Room).slots) := by
  refine MetFree.of_bodySF (plainFor_of_name pnLeN) hisR ?_
  intro p e s m args below meth c s₁ Bd hml0 hP hK
  obtain ⟨rfl, hZ, hh⟩ := hP
  have hx := Bd.exec
  have hby := Bd.bytes
  have hlk := BodyLoose.notSynchronized Bd
  have hret := Bd.returns
  have hml : c.maxLocals = 3 := hml0
  have hown : s.vm.findClass "java/lang/StringLatin1" = some m.cls := findClass_of_methodNamed Bd.named
  have hnm := (name_of_methodNamed Bd.named Bd.method).1
  have X0 : Stand p l e ({ frames := 0, cells := 0, slots := 0, locals := 0 } : Room) s m #[(.ref a0), (.ref a1)] below meth c s₁ [] 0 0 := Stand.of_body Bd
  have e0 : s₁.heap = h0 := by rw [← hh, Bd.state]; rfl
  have N0 := Fr.nil n0
  show OFin p e below (KPost s (QLeN Z a0 a1 k0 k1 z1 z2 vs1 vs2 h0 n0) ({ frames := 0, cells := 0, slots := 0, locals := 0 } : Room).cells ({ frames := 0, cells := 0, slots := 0, locals := 0 } : Room).slots) _
  rw [efLeN m a0 a1]
  refine OFin.of (S' := s₁.setTop (mkF m 1 #[.val (.ref a0), .val (.ref a1), .unset] [(.ref a0)])) (fun t ht => ?_) ?_
  · refine XS.aloadN X0.here hx rfl (hb hby dLeN_0) rfl rfl ?_
    exact ht
  obtain ⟨cl1, Ar1, q1, S1, Ng1, H1, G1⟩ := id V1
  refine OFin.of (S' := s₁.setTop (mkF m 2 #[.val (.ref a0), .val (.ref a1), .unset] [(.int z1)])) (fun t ht => own_alen X0 hx hZ e0 Ar1 S1 Ng1 (g := (mkF m 1 #[.val (.ref a0), .val (.ref a1), .unset] [(.ref a0)])) rfl rfl (hb hby dLeN_1) ht) ?_
  refine OFin.of (S' := s₁.setTop (mkF m 3 #[.val (.ref a0), .val (.ref a1), .unset] [(.ref a1), (.int z1)])) (fun t ht => ?_) ?_
  · refine XS.aloadN X0.here hx rfl (hb hby dLeN_2) rfl rfl ?_
    exact ht
  obtain ⟨cl2, Ar2, q2, S2, Ng2, H2, G2⟩ := id V2
  refine OFin.of (S' := s₁.setTop (mkF m 4 #[.val (.ref a0), .val (.ref a1), .unset] [(.int z2), (.int z1)])) (fun t ht => own_alen X0 hx hZ e0 Ar2 S2 Ng2 (g := (mkF m 3 #[.val (.ref a0), .val (.ref a1), .unset] [(.ref a1), (.int z1)])) rfl rfl (hb hby dLeN_3) ht) ?_
  refine OFin.of (S' := s₁.setTop (mkF m 35 #[.val (.ref a0), .val (.ref a1), .unset] [(.int (0 : Int32))])) (fun t ht => ?_) ?_
  · refine XS.icmpYes X0.here hx rfl (pc0 := 4) (pc' := 34) rfl (hb hby dLeN_4) rfl (feq (hz : ¬ (z1 = z2))).2 (by decide) (by decide) ?_
    show Steps p.tables e below (s₁.setTop (mkF m 34 _ [])) _
    refine XS.iconst X0.here hx rfl (hb hby dLeN_34) ?_
    exact ht
  exact OFin.retB X0 hx hlk (t := .boolean) (by simp) hret (hb hby dLeN_35) (by decide) (by decide) (by rw [e0]; exact ⟨(by show some (Value.int (nar .boolean (0 : Int32))) = _; rfl), N0, rfl⟩)
theorem dEqG_0 : decode jdk_42_method_66_code 0 = .ok (.aload_n 0, 1) := by decide +kernel
theorem dEqG_1 : decode jdk_42_method_66_code 1 = .ok (.aload_n 1, 1) := by decide +kernel
theorem dEqG_2 : decode jdk_42_method_66_code 2 = .ok (.if_acmp .ne 5, 3) := by decide +kernel
theorem dEqG_7 : decode jdk_42_method_66_code 7 = .ok (.aload_n 1, 1) := by decide +kernel
theorem dEqG_8 : decode jdk_42_method_66_code 8 = .ok (.instanceof 10, 3) := by decide +kernel
theorem dEqG_11 : decode jdk_42_method_66_code 11 = .ok (.ifCond .eq 43, 3) := by decide +kernel
theorem dEqG_14 : decode jdk_42_method_66_code 14 = .ok (.aload_n 1, 1) := by decide +kernel
theorem dEqG_15 : decode jdk_42_method_66_code 15 = .ok (.checkcast 10, 3) := by decide +kernel
theorem dEqG_18 : decode jdk_42_method_66_code 18 = .ok (.astore_n 2, 1) := by decide +kernel
theorem dEqG_19 : decode jdk_42_method_66_code 19 = .ok (.getstatic 38, 3) := by decide +kernel
theorem dEqG_22 : decode jdk_42_method_66_code 22 = .ok (.ifCond .eq 14, 3) := by decide +kernel
theorem dEqG_25 : decode jdk_42_method_66_code 25 = .ok (.aload_n 0, 1) := by decide +kernel
theorem dEqG_26 : decode jdk_42_method_66_code 26 = .ok (.getfield 15, 3) := by decide +kernel
theorem dEqG_29 : decode jdk_42_method_66_code 29 = .ok (.aload_n 2, 1) := by decide +kernel
theorem dEqG_30 : decode jdk_42_method_66_code 30 = .ok (.getfield 15, 3) := by decide +kernel
theorem dEqG_33 : decode jdk_42_method_66_code 33 = .ok (.if_icmp .ne 21, 3) := by decide +kernel
theorem dEqG_36 : decode jdk_42_method_66_code 36 = .ok (.aload_n 0, 1) := by decide +kernel
theorem dEqG_37 : decode jdk_42_method_66_code 37 = .ok (.getfield 9, 3) := by decide +kernel
theorem dEqG_40 : decode jdk_42_method_66_code 40 = .ok (.aload_n 2, 1) := by decide +kernel
theorem dEqG_41 : decode jdk_42_method_66_code 41 = .ok (.getfield 9, 3) := by decide +kernel
theorem dEqG_44 : decode jdk_42_method_66_code 44 = .ok (.invokestatic 541, 3) := by decide +kernel
theorem dEqG_47 : decode jdk_42_method_66_code 47 = .ok (.ifCond .eq 7, 3) := by decide +kernel
theorem dEqG_50 : decode jdk_42_method_66_code 50 = .ok (.iconst 1, 1) := by decide +kernel
theorem dEqG_51 : decode jdk_42_method_66_code 51 = .ok (.goto 4, 3) := by decide +kernel
theorem dEqG_54 : decode jdk_42_method_66_code 54 = .ok (.iconst 0, 1) := by decide +kernel
theorem dEqG_55 : decode jdk_42_method_66_code 55 = .ok (.ireturn, 1) := by decide +kernel
theorem pnEqG : plainName "java/lang/String" = true := by first | (simp [plainName, overriddenIn]; done) | decide +kernel
theorem efEqG (m : MethodId) (a0 : Addr) (a1 : Addr) : entryFrame m #[(.ref a0), (.ref a1)] 3 = mkF m 0 #[.val (.ref a0), .val (.ref a1), .unset] [] := by first | (simp [entryFrame, mkF, argsToLocals, Value.category]; done) | rfl
def QEqG (Z : State) (a0 : Addr) (a1 : Addr) (t0 : Addr) (t1 : Addr) (cs : Int32) (E : Int32) (h0 : Heap) (n0 : Nat) (v : Option Value) (h : Heap) (L : List Loc) : Prop := v = some (.int E) ∧ Fr n0 L ∧ h = h0
set_option maxRecDepth 65536 in
set_option maxHeartbeats 40000000 in
theorem rmEqG (l : Launch) (Z : State) (a0 : Array Value) (hw : ∀ d ∈ tables_1, d.before a0 Z = true) (ws : List Jvm.Cond) (a0 : Addr) (a1 : Addr) (t0 : Addr) (t1 : Addr) (cs : Int32) (E : Int32) (h0 : Heap) (n0 : Nat) (Z0 : n0 ≤ h0.size) (E1 : Exa Z h0 a1 "java/lang/String") (Fc0 : Fld Z h0 a0 "java/lang/String" "coder" "B" (.int (0 : Int32))) (Fc1 : Fld Z h0 a1 "java/lang/String" "coder" "B" (.int (0 : Int32))) (Fv0 : Fld Z h0 a0 "java/lang/String" "value" "[B" (.ref t0)) (Fv1 : Fld Z h0 a1 "java/lang/String" "value" "[B" (.ref t1)) (Scs : Sta Z h0 "java/lang/String" "COMPACT_STRINGS" "Z" (.int cs)) (hcs : ¬ cs = (0 : Int32)) (hne : a0 ≠ a1) (hE01 : E = (0 : Int32) ∨ E = (1 : Int32)) (hM : MetFree l (⟨"java/lang/StringLatin1", "equals", "([B[B)Z"⟩ : MethodName) (head1 [Jvm.Cond.code (⟨"java/lang/StringLatin1", "equals", "([B[B)Z"⟩ : MethodName) jdk_43_method_13_code 3 (some .boolean)] ({ frames := 0, cells := 0, slots := 0, locals := 0 } : Room)) (fun a U => a = #[(.ref t0), (.ref t1)] ∧ Z.Warmed39 U.vm ∧ U.heap = h0) (fun _ _ _ _ _ => True) (fun _ U o U' => ∃ v L, o = .returned v ∧ OwnMet E h0 n0 v U'.heap L ∧ FrameEnd U o U' L ({ frames := 0, cells := 0, slots := 0, locals := 0 } : Room).cells ({ frames := 0, cells := 0, slots := 0, locals := 0 } : Room).slots)) :
    MetFree l (⟨"java/lang/String", "equals", "(Ljava/lang/Object;)Z"⟩ : MethodName) (head1 (Jvm.Cond.code (⟨"java/lang/String", "equals", "(Ljava/lang/Object;)Z"⟩ : MethodName) jdk_42_method_66_code 3 (some .boolean) :: ws) ({ frames := 1, cells := 0, slots := 0, locals := 14 } : Room)) (fun a U => a = #[(.ref a0), (.ref a1)] ∧ Z.Warmed39 U.vm ∧ U.heap = h0) (fun _ _ _ _ _ => True) (fun _ U o U' => ∃ v L, o = .returned v ∧ QEqG Z a0 a1 t0 t1 cs E h0 n0 v U'.heap L ∧ FrameEnd U o U' L ({ frames := 1, cells := 0, slots := 0, locals := 14 } : Room).cells ({ frames := 1, cells := 0, slots := 0, locals := 14 } : Room).slots) := by
  refine MetFree.of_bodySF (plainFor_of_name pnEqG) hisR ?_
  intro p e s m args below meth c s₁ Bd hml0 hP hK
  obtain ⟨rfl, hZ, hh⟩ := hP
  have hx := Bd.exec
  have hby := Bd.bytes
  have hlk := BodyLoose.notSynchronized Bd
  have hret := Bd.returns
  have hml : c.maxLocals = 3 := hml0
  have hown : s.vm.findClass "java/lang/String" = some m.cls := findClass_of_methodNamed Bd.named
  have hnm := (name_of_methodNamed Bd.named Bd.method).1
  have X0 : Stand p l e ({ frames := 1, cells := 0, slots := 0, locals := 14 } : Room) s m #[(.ref a0), (.ref a1)] below meth c s₁ [] 0 0 := Stand.of_body Bd
  have e0 : s₁.heap = h0 := by rw [← hh, Bd.state]; rfl
  have N0 := Fr.nil n0
  show OFin p e below (KPost s (QEqG Z a0 a1 t0 t1 cs E h0 n0) ({ frames := 1, cells := 0, slots := 0, locals := 14 } : Room).cells ({ frames := 1, cells := 0, slots := 0, locals := 14 } : Room).slots) _
  rw [efEqG m a0 a1]
  refine OFin.of (S' := s₁.setTop (mkF m 8 #[.val (.ref a0), .val (.ref a1), .unset] [(.ref a1)])) (fun t ht => ?_) ?_
  · refine XS.aloadN X0.here hx rfl (hb hby dEqG_0) rfl rfl ?_
    show Steps p.tables e below (s₁.setTop (mkF m 1 _ [(.ref a0)])) _
    refine XS.aloadN X0.here hx rfl (hb hby dEqG_1) rfl rfl ?_
    show Steps p.tables e below (s₁.setTop (mkF m 2 _ [(.ref a1), (.ref a0)])) _
    refine acmp X0 hx rfl (cd := .ne) (x := (.ref a0)) (y := (.ref a1)) rfl rfl (pc0 := 2) (pc' := 7) (same := false) rfl (hb hby dEqG_2) rfl (decide_eq_false (fun q => hne (Value.ref.inj q))) (by decide) (by decide) ?_
    show Steps p.tables e below (s₁.setTop (mkF m 7 _ [])) _
    refine XS.aloadN X0.here hx rfl (hb hby dEqG_7) rfl rfl ?_
    exact ht
  obtain ⟨T1, X1, e1, st1⟩ := instY X0 hx hZ hown (hw _ (List.mem_of_getElem? (i := 59) rfl)) e0 (Ins.self E1) (g := (mkF m 8 #[.val (.ref a0), .val (.ref a1), .unset] [(.ref a1)])) rfl rfl (hb hby dEqG_8)
  refine OFin.of (S' := T1.setTop (mkF m 11 #[.val (.ref a0), .val (.ref a1), .unset] [(.int (1 : Int32))])) (fun t ht => st1 t ht) ?_
  refine OFin.of (S' := T1.setTop (mkF m 15 #[.val (.ref a0), .val (.ref a1), .unset] [(.ref a1)])) (fun t ht => ?_) ?_
  · refine XS.ifNo X1.here hx rfl (hb hby dEqG_11) rfl ((if0 _ _).trans (feq (by decide : ¬ ((1 : Int32) = (0 : Int32)))).1) ?_
    show Steps p.tables e below (T1.setTop (mkF m 14 _ [])) _
    refine XS.aloadN X1.here hx rfl (hb hby dEqG_14) rfl rfl ?_
    exact ht
  obtain ⟨T2, X2, e2, st2⟩ := castY X1 hx hZ hown (hw _ (List.mem_of_getElem? (i := 59) rfl)) e1 (Ins.self E1) (g := (mkF m 15 #[.val (.ref a0), .val (.ref a1), .unset] [(.ref a1)])) rfl rfl (hb hby dEqG_15)
  refine OFin.of (S' := T2.setTop (mkF m 18 #[.val (.ref a0), .val (.ref a1), .unset] [(.ref a1)])) (fun t ht => st2 t ht) ?_
  refine OFin.of (S' := T2.setTop (mkF m 19 #[.val (.ref a0), .val (.ref a1), .val (.ref a1)] [])) (fun t ht => ?_) ?_
  · refine XS.astoreN X2.here hx rfl (hb hby dEqG_18) rfl rfl (l' := #[.val (.ref a0), .val (.ref a1), .val (.ref a1)]) rfl ?_
    exact ht
  obtain ⟨T3, X3, e3, st3⟩ := getS (host := "") X2 hx hZ hown (hw _ (List.mem_of_getElem? (i := 60) rfl)) Via.refl e2 Scs (g := (mkF m 19 #[.val (.ref a0), .val (.ref a1), .val (.ref a1)] [])) rfl (hb hby dEqG_19)
  refine OFin.of (S' := T3.setTop (mkF m 22 #[.val (.ref a0), .val (.ref a1), .val (.ref a1)] [(.int cs)])) (fun t ht => st3 t ht) ?_
  refine OFin.of (S' := T3.setTop (mkF m 26 #[.val (.ref a0), .val (.ref a1), .val (.ref a1)] [(.ref a0)])) (fun t ht => ?_) ?_
  · refine XS.ifNo X3.here hx rfl (hb hby dEqG_22) rfl ((if0 _ _).trans (feq (hcs : ¬ (cs = (0 : Int32)))).1) ?_
    show Steps p.tables e below (T3.setTop (mkF m 25 _ [])) _
    refine XS.aloadN X3.here hx rfl (hb hby dEqG_25) rfl rfl ?_
    exact ht
  obtain ⟨T4, X4, e4, st4⟩ := getF X3 hx hZ hown (host := "") (Or.inl (hw _ (List.mem_of_getElem? (i := 28) rfl))) Via.refl e3 Fc0 (g := (mkF m 26 #[.val (.ref a0), .val (.ref a1), .val (.ref a1)] [(.ref a0)])) rfl rfl (hb hby dEqG_26)
  refine OFin.of (S' := T4.setTop (mkF m 29 #[.val (.ref a0), .val (.ref a1), .val (.ref a1)] [(.int (0 : Int32))])) (fun t ht => st4 t ht) ?_
  refine OFin.of (S' := T4.setTop (mkF m 30 #[.val (.ref a0), .val (.ref a1), .val (.ref a1)] [(.ref a1), (.int (0 : Int32))])) (fun t ht => ?_) ?_
  · refine XS.aloadN X4.here hx rfl (hb hby dEqG_29) rfl rfl ?_
    exact ht
  obtain ⟨T5, X5, e5, st5⟩ := getF X4 hx hZ hown (host := "") (Or.inl (hw _ (List.mem_of_getElem? (i := 28) rfl))) Via.refl e4 Fc1 (g := (mkF m 30 #[.val (.ref a0), .val (.ref a1), .val (.ref a1)] [(.ref a1), (.int (0 : Int32))])) rfl rfl (hb hby dEqG_30)
  refine OFin.of (S' := T5.setTop (mkF m 33 #[.val (.ref a0), .val (.ref a1), .val (.ref a1)] [(.int (0 : Int32)), (.int (0 : Int32))])) (fun t ht => st5 t ht) ?_
  refine OFin.of (S' := T5.setTop (mkF m 37 #[.val (.ref a0), .val (.ref a1), .val (.ref a1)] [(.ref a0)])) (fun t ht => ?_) ?_
  · refine XS.icmpNo X5.here hx rfl (hb hby dEqG_33) rfl (teq (by decide : (0 : Int32) = (0 : Int32))).2 ?_
    show Steps p.tables e below (T5.setTop (mkF m 36 _ [])) _
    refine XS.aloadN X5.here hx rfl (hb hby dEqG_36) rfl rfl ?_
    exact ht
  obtain ⟨T6, X6, e6, st6⟩ := getF X5 hx hZ hown (host := "") (Or.inl (hw _ (List.mem_of_getElem? (i := 27) rfl))) Via.refl e5 Fv0 (g := (mkF m 37 #[.val (.ref a0), .val (.ref a1), .val (.ref a1)] [(.ref a0)])) rfl rfl (hb hby dEqG_37)
  refine OFin.of (S' := T6.setTop (mkF m 40 #[.val (.ref a0), .val (.ref a1), .val (.ref a1)] [(.ref t0)])) (fun t ht => st6 t ht) ?_
  refine OFin.of (S' := T6.setTop (mkF m 41 #[.val (.ref a0), .val (.ref a1), .val (.ref a1)] [(.ref a1), (.ref t0)])) (fun t ht => ?_) ?_
  · refine XS.aloadN X6.here hx rfl (hb hby dEqG_40) rfl rfl ?_
    exact ht
  obtain ⟨T7, X7, e7, st7⟩ := getF X6 hx hZ hown (host := "") (Or.inl (hw _ (List.mem_of_getElem? (i := 27) rfl))) Via.refl e6 Fv1 (g := (mkF m 41 #[.val (.ref a0), .val (.ref a1), .val (.ref a1)] [(.ref a1), (.ref t0)])) rfl rfl (hb hby dEqG_41)
  refine OFin.of (S' := T7.setTop (mkF m 44 #[.val (.ref a0), .val (.ref a1), .val (.ref a1)] [(.ref t1), (.ref t0)])) (fun t ht => st7 t ht) ?_
  obtain ⟨_, _, ⟨T8, L8, k8, n8⟩, -, X8, ⟨Lc8, hQ8, l8, y8, z8⟩, st8⟩ := Jvm.LawKit.callS X7 hx (y := (⟨"java/lang/StringLatin1", "equals", "([B[B)Z"⟩ : MethodName)) hown (mvT hZ (hw _ (List.mem_of_getElem? (i := 61) rfl))) (mvT hZ (hw _ (List.mem_of_getElem? (i := 62) rfl))) (mvT hZ (hw _ (List.mem_of_getElem? (i := 63) rfl))) (mvT hZ (hw _ (List.mem_of_getElem? (i := 64) rfl))) (by decide) (backOf (W := 0) hM hZ (hw _ (List.mem_of_getElem? (i := 64) rfl)) (hw _ (List.mem_of_getElem? (i := 63) rfl)) (by decide) (by decide)) (g := (mkF m 44 #[.val (.ref a0), .val (.ref a1), .val (.ref a1)] [(.ref t1), (.ref t0)])) rfl (by rw [hml]; rfl) (argsL := [(.ref t0), (.ref t1)]) (rest := []) (lenOf pd_8 rfl) rfl (by show 2 * 0 + _ ≤ _; exact Nat.le_of_eq rfl) (hb hby dEqG_44) (fun _ _ => ⟨rfl, e7, (by decide : 0 + 0 ≤ _), (by decide : 0 + 0 ≤ _)⟩)
  dsimp only [Pt.U, Pt.locs, Pt.cells, Pt.slots] at X8 l8 y8 z8 st8 hQ8
  subst l8 y8 z8
  obtain ⟨rfl, Nq8, hs8⟩ := hQ8
  have N9 := Fr.app N0 Nq8
  refine OFin.of (S' := T8.setTop (mkF m 47 #[.val (.ref a0), .val (.ref a1), .val (.ref a1)] [(.int E)])) (fun t ht => st8 t ht) ?_
  by_cases hc10 : E = (0 : Int32)
  · refine OFin.of (S' := T8.setTop (mkF m 55 #[.val (.ref a0), .val (.ref a1), .val (.ref a1)] [(.int (0 : Int32))])) (fun t ht => ?_) ?_
    · refine XS.ifYes X8.here hx rfl (pc0 := 47) (pc' := 54) rfl (hb hby dEqG_47) rfl ((if0 _ _).trans (teq (hc10 : E = (0 : Int32))).1) (by decide) (by decide) ?_
      show Steps p.tables e below (T8.setTop (mkF m 54 _ [])) _
      refine XS.iconst X8.here hx rfl (hb hby dEqG_54) ?_
      exact ht
    exact OFin.retB X8 hx hlk (t := .boolean) (by simp) hret (hb hby dEqG_55) (by decide) (by decide) (by rw [hs8]; exact ⟨(by show some (Value.int (0 : Int32)) = _; rw [hc10]), N9, rfl⟩)
  · refine OFin.of (S' := T8.setTop (mkF m 55 #[.val (.ref a0), .val (.ref a1), .val (.ref a1)] [(.int (1 : Int32))])) (fun t ht => ?_) ?_
    · refine XS.ifNo X8.here hx rfl (hb hby dEqG_47) rfl ((if0 _ _).trans (feq (hc10 : ¬ (E = (0 : Int32)))).1) ?_
      show Steps p.tables e below (T8.setTop (mkF m 50 _ [])) _
      refine XS.iconst X8.here hx rfl (hb hby dEqG_50) ?_
      show Steps p.tables e below (T8.setTop (mkF m 51 _ [(.int (1 : Int32))])) _
      refine XS.goto X8.here hx rfl (pc0 := 51) (pc' := 55) rfl (hb hby dEqG_51) (by decide) (by decide) ?_
      exact ht
    exact OFin.retB X8 hx hlk (t := .boolean) (by simp) hret (hb hby dEqG_55) (by decide) (by decide) (by rw [hs8]; exact ⟨(by show some (Value.int (1 : Int32)) = _; rw [hE01.resolve_left hc10]), N9, rfl⟩)
theorem dEqx_0 : decode prog_27_method_12_code 0 = .ok (.aload_n 1, 1) := by decide +kernel
theorem dEqx_1 : decode prog_27_method_12_code 1 = .ok (.instanceof 8, 3) := by decide +kernel
theorem dEqx_4 : decode prog_27_method_12_code 4 = .ok (.ifCond .eq 50, 3) := by decide +kernel
theorem dEqx_7 : decode prog_27_method_12_code 7 = .ok (.aload_n 1, 1) := by decide +kernel
theorem dEqx_8 : decode prog_27_method_12_code 8 = .ok (.checkcast 8, 3) := by decide +kernel
theorem dEqx_11 : decode prog_27_method_12_code 11 = .ok (.astore_n 2, 1) := by decide +kernel
theorem dEqx_12 : decode prog_27_method_12_code 12 = .ok (.aload_n 0, 1) := by decide +kernel
theorem dEqx_13 : decode prog_27_method_12_code 13 = .ok (.getfield 7, 3) := by decide +kernel
theorem dEqx_16 : decode prog_27_method_12_code 16 = .ok (.aload_n 2, 1) := by decide +kernel
theorem dEqx_17 : decode prog_27_method_12_code 17 = .ok (.getfield 7, 3) := by decide +kernel
theorem dEqx_20 : decode prog_27_method_12_code 20 = .ok (.invokevirtual 93, 3) := by decide +kernel
theorem dEqx_23 : decode prog_27_method_12_code 23 = .ok (.ifCond .eq 31, 3) := by decide +kernel
theorem dEqx_26 : decode prog_27_method_12_code 26 = .ok (.aload_n 0, 1) := by decide +kernel
theorem dEqx_27 : decode prog_27_method_12_code 27 = .ok (.getfield 13, 3) := by decide +kernel
theorem dEqx_30 : decode prog_27_method_12_code 30 = .ok (.aload_n 2, 1) := by decide +kernel
theorem dEqx_31 : decode prog_27_method_12_code 31 = .ok (.getfield 13, 3) := by decide +kernel
theorem dEqx_34 : decode prog_27_method_12_code 34 = .ok (.lcmp, 1) := by decide +kernel
theorem dEqx_35 : decode prog_27_method_12_code 35 = .ok (.ifCond .ne 19, 3) := by decide +kernel
theorem dEqx_38 : decode prog_27_method_12_code 38 = .ok (.aload_n 0, 1) := by decide +kernel
theorem dEqx_39 : decode prog_27_method_12_code 39 = .ok (.getfield 17, 3) := by decide +kernel
theorem dEqx_42 : decode prog_27_method_12_code 42 = .ok (.aload_n 2, 1) := by decide +kernel
theorem dEqx_43 : decode prog_27_method_12_code 43 = .ok (.getfield 17, 3) := by decide +kernel
theorem dEqx_46 : decode prog_27_method_12_code 46 = .ok (.lcmp, 1) := by decide +kernel
theorem dEqx_47 : decode prog_27_method_12_code 47 = .ok (.ifCond .ne 7, 3) := by decide +kernel
theorem dEqx_50 : decode prog_27_method_12_code 50 = .ok (.iconst 1, 1) := by decide +kernel
theorem dEqx_51 : decode prog_27_method_12_code 51 = .ok (.goto 4, 3) := by decide +kernel
theorem dEqx_54 : decode prog_27_method_12_code 54 = .ok (.iconst 0, 1) := by decide +kernel
theorem dEqx_55 : decode prog_27_method_12_code 55 = .ok (.ireturn, 1) := by decide +kernel
theorem pnEqx : plainName "com/example/greylag/greylag/model/Bundle" = true := by first | (simp [plainName, overriddenIn]; done) | decide +kernel
theorem efEqx (m : MethodId) (a0 : Addr) (a1 : Addr) : entryFrame m #[(.ref a0), (.ref a1)] 3 = mkF m 0 #[.val (.ref a0), .val (.ref a1), .unset] [] := by first | (simp [entryFrame, mkF, argsToLocals, Value.category]; done) | rfl
def QEqx (Z : State) (a0 : Addr) (a1 : Addr) (s1 : Addr) (s2 : Addr) (l1 : Int64) (u1 : Int64) (l2 : Int64) (u2 : Int64) (E : Int32) (h0 : Heap) (n0 : Nat) (v : Option Value) (h : Heap) (L : List Loc) : Prop := v = some (.int (own_beq E l1 u1 l2 u2)) ∧ Fr n0 L ∧ h = h0
set_option maxRecDepth 65536 in
set_option maxHeartbeats 40000000 in
theorem rmEqx (l : Launch) (Z : State) (a0 : Array Value) (hw : ∀ d ∈ tables_1, d.before a0 Z = true) (ws : List Jvm.Cond) (a0 : Addr) (a1 : Addr) (s1 : Addr) (s2 : Addr) (l1 : Int64) (u1 : Int64) (l2 : Int64) (u2 : Int64) (E : Int32) (h0 : Heap) (n0 : Nat) (Z0 : n0 ≤ h0.size) (EB1 : Exa Z h0 a1 "com/example/greylag/greylag/model/Bundle") (Es : Exa Z h0 s1 "java/lang/String") (N0a : Fld Z h0 a0 "com/example/greylag/greylag/model/Bundle" "namespace" "Ljava/lang/String;" (.ref s1)) (N1a : Fld Z h0 a1 "com/example/greylag/greylag/model/Bundle" "namespace" "Ljava/lang/String;" (.ref s2)) (L0a : Fld Z h0 a0 "com/example/greylag/greylag/model/Bundle" "lower" "J" (.long l1)) (L1a : Fld Z h0 a1 "com/example/greylag/greylag/model/Bundle" "lower" "J" (.long l2)) (U0a : Fld Z h0 a0 "com/example/greylag/greylag/model/Bundle" "upper" "J" (.long u1)) (U1a : Fld Z h0 a1 "com/example/greylag/greylag/model/Bundle" "upper" "J" (.long u2)) (hM : MetFree l (⟨"java/lang/String", "equals", "(Ljava/lang/Object;)Z"⟩ : MethodName) (head1 [Jvm.Cond.code (⟨"java/lang/String", "equals", "(Ljava/lang/Object;)Z"⟩ : MethodName) jdk_42_method_66_code 3 (some .boolean)] ({ frames := 1, cells := 0, slots := 0, locals := 14 } : Room)) (fun a U => a = #[(.ref s1), (.ref s2)] ∧ Z.Warmed39 U.vm ∧ U.heap = h0) (fun _ _ _ _ _ => True) (fun _ U o U' => ∃ v L, o = .returned v ∧ OwnMet E h0 n0 v U'.heap L ∧ FrameEnd U o U' L ({ frames := 1, cells := 0, slots := 0, locals := 14 } : Room).cells ({ frames := 1, cells := 0, slots := 0, locals := 14 } : Room).slots)) :
    MetFree l (⟨"com/example/greylag/greylag/model/Bundle", "equals", "(Ljava/lang/Object;)Z"⟩ : MethodName) (head1 (Jvm.Cond.code (⟨"com/example/greylag/greylag/model/Bundle", "equals", "(Ljava/lang/Object;)Z"⟩ : MethodName) prog_27_method_12_code 3 (some .boolean) :: ws) ({ frames := 2, cells := 0, slots := 0, locals := 28 } : Room)) (fun a U => a = #[(.ref a0), (.ref a1)] ∧ Z.Warmed39 U.vm ∧ U.heap = h0) (fun _ _ _ _ _ => True) (fun _ U o U' => ∃ v L, o = .returned v ∧ QEqx Z a0 a1 s1 s2 l1 u1 l2 u2 E h0 n0 v U'.heap L ∧ FrameEnd U o U' L ({ frames := 2, cells := 0, slots := 0, locals := 28 } : Room).cells ({ frames := 2, cells := 0, slots := 0, locals := 28 } : Room).slots) := by
  refine MetFree.of_bodySF (plainFor_of_name pnEqx) hisR ?_
  intro p e s m args below meth c s₁ Bd hml0 hP hK
  obtain ⟨rfl, hZ, hh⟩ := hP
  have hx := Bd.exec
  have hby := Bd.bytes
  have hlk := BodyLoose.notSynchronized Bd
  have hret := Bd.returns
  have hml : c.maxLocals = 3 := hml0
  have hown : s.vm.findClass "com/example/greylag/greylag/model/Bundle" = some m.cls := findClass_of_methodNamed Bd.named
  have hnm := (name_of_methodNamed Bd.named Bd.method).1
  have X0 : Stand p l e ({ frames := 2, cells := 0, slots := 0, locals := 28 } : Room) s m #[(.ref a0), (.ref a1)] below meth c s₁ [] 0 0 := Stand.of_body Bd
  have e0 : s₁.heap = h0 := by rw [← hh, Bd.state]; rfl
  have N0 := Fr.nil n0
  show OFin p e below (KPost s (QEqx Z a0 a1 s1 s2 l1 u1 l2 u2 E h0 n0) ({ frames := 2, cells := 0, slots := 0, locals := 28 } : Room).cells ({ frames := 2, cells := 0, slots := 0, locals := 28 } : Room).slots) _
  rw [efEqx m a0 a1]
  refine OFin.of (S' := s₁.setTop (mkF m 1 #[.val (.ref a0), .val (.ref a1), .unset] [(.ref a1)])) (fun t ht => ?_) ?_
  · refine XS.aloadN X0.here hx rfl (hb hby dEqx_0) rfl rfl ?_
    exact ht
  obtain ⟨T1, X1, e1, st1⟩ := instY X0 hx hZ hown (hw _ (List.mem_of_getElem? (i := 52) rfl)) e0 (Ins.self EB1) (g := (mkF m 1 #[.val (.ref a0), .val (.ref a1), .unset] [(.ref a1)])) rfl rfl (hb hby dEqx_1)
  refine OFin.of (S' := T1.setTop (mkF m 4 #[.val (.ref a0), .val (.ref a1), .unset] [(.int (1 : Int32))])) (fun t ht => st1 t ht) ?_
  refine OFin.of (S' := T1.setTop (mkF m 8 #[.val (.ref a0), .val (.ref a1), .unset] [(.ref a1)])) (fun t ht => ?_) ?_
  · refine XS.ifNo X1.here hx rfl (hb hby dEqx_4) rfl ((if0 _ _).trans (feq (by decide : ¬ ((1 : Int32) = (0 : Int32)))).1) ?_
    show Steps p.tables e below (T1.setTop (mkF m 7 _ [])) _
    refine XS.aloadN X1.here hx rfl (hb hby dEqx_7) rfl rfl ?_
    exact ht
  obtain ⟨T2, X2, e2, st2⟩ := castY X1 hx hZ hown (hw _ (List.mem_of_getElem? (i := 52) rfl)) e1 (Ins.self EB1) (g := (mkF m 8 #[.val (.ref a0), .val (.ref a1), .unset] [(.ref a1)])) rfl rfl (hb hby dEqx_8)
  refine OFin.of (S' := T2.setTop (mkF m 11 #[.val (.ref a0), .val (.ref a1), .unset] [(.ref a1)])) (fun t ht => st2 t ht) ?_
  refine OFin.of (S' := T2.setTop (mkF m 13 #[.val (.ref a0), .val (.ref a1), .val (.ref a1)] [(.ref a0)])) (fun t ht => ?_) ?_
  · refine XS.astoreN X2.here hx rfl (hb hby dEqx_11) rfl rfl (l' := #[.val (.ref a0), .val (.ref a1), .val (.ref a1)]) rfl ?_
    show Steps p.tables e below (T2.setTop (mkF m 12 #[.val (.ref a0), .val (.ref a1), .val (.ref a1)] [])) _
    refine XS.aloadN X2.here hx rfl (hb hby dEqx_12) rfl rfl ?_
    exact ht
  obtain ⟨T3, X3, e3, st3⟩ := getF X2 hx hZ hown (host := "") (Or.inl (hw _ (List.mem_of_getElem? (i := 33) rfl))) Via.refl e2 N0a (g := (mkF m 13 #[.val (.ref a0), .val (.ref a1), .val (.ref a1)] [(.ref a0)])) rfl rfl (hb hby dEqx_13)
  refine OFin.of (S' := T3.setTop (mkF m 16 #[.val (.ref a0), .val (.ref a1), .val (.ref a1)] [(.ref s1)])) (fun t ht => st3 t ht) ?_
  refine OFin.of (S' := T3.setTop (mkF m 17 #[.val (.ref a0), .val (.ref a1), .val (.ref a1)] [(.ref a1), (.ref s1)])) (fun t ht => ?_) ?_
  · refine XS.aloadN X3.here hx rfl (hb hby dEqx_16) rfl rfl ?_
    exact ht
  obtain ⟨T4, X4, e4, st4⟩ := getF X3 hx hZ hown (host := "") (Or.inl (hw _ (List.mem_of_getElem? (i := 33) rfl))) Via.refl e3 N1a (g := (mkF m 17 #[.val (.ref a0), .val (.ref a1), .val (.ref a1)] [(.ref a1), (.ref s1)])) rfl rfl (hb hby dEqx_17)
  refine OFin.of (S' := T4.setTop (mkF m 20 #[.val (.ref a0), .val (.ref a1), .val (.ref a1)] [(.ref s2), (.ref s1)])) (fun t ht => st4 t ht) ?_
  obtain ⟨cq6, kq6, q6a, q6b, q6c⟩ := isOf hZ e4 Es
  obtain ⟨_, _, ⟨T5, L5, k5, n5⟩, -, X5, ⟨Lc5, hQ5, l5, y5, z5⟩, st5⟩ := X4.virtualBack hx (y := (⟨"java/lang/String", "equals", "(Ljava/lang/Object;)Z"⟩ : MethodName)) (z := (⟨"java/lang/String", "equals", "(Ljava/lang/Object;)Z"⟩ : MethodName)) hown (mvT hZ (hw _ (List.mem_of_getElem? (i := 54) rfl))) (mvT hZ (hw _ (List.mem_of_getElem? (i := 55) rfl))) (notFace_of_selects (args := #[]) (mvT hZ (hw _ (List.mem_of_getElem? (i := 57) rfl)))) (mvT hZ (hw _ (List.mem_of_getElem? (i := 57) rfl))) (mvT hZ (hw _ (List.mem_of_getElem? (i := 56) rfl))) (by decide) (backOf (W := 0) hM hZ (hw _ (List.mem_of_getElem? (i := 58) rfl)) (hw _ (List.mem_of_getElem? (i := 9) rfl)) (by decide) (by decide)) q6a q6c (g := (mkF m 20 #[.val (.ref a0), .val (.ref a1), .val (.ref a1)] [(.ref s2), (.ref s1)])) rfl (by rw [hml]; rfl) (Steps.refl _) (argsL := [(.ref s2)]) (rest := []) (lenOf pd_7 rfl) rfl (by show 2 * 0 + _ ≤ _; exact Nat.le_of_eq rfl) (hb hby dEqx_20) (fun _ _ => ⟨rfl, e4, (by decide : 0 + 0 ≤ _), (by decide : 0 + 0 ≤ _)⟩)
  dsimp only [Pt.U, Pt.locs, Pt.cells, Pt.slots] at X5 l5 y5 z5 st5 hQ5
  subst l5 y5 z5
  obtain ⟨rfl, Nq5, hs5⟩ := hQ5
  have N7 := Fr.app N0 Nq5
  refine OFin.to (S' := T5.setTop (mkF m 23 #[.val (.ref a0), .val (.ref a1), .val (.ref a1)] [(.int E)])) st5 ?_
  by_cases hc8 : E = (0 : Int32)
  · refine OFin.of (S' := T5.setTop (mkF m 55 #[.val (.ref a0), .val (.ref a1), .val (.ref a1)] [(.int (0 : Int32))])) (fun t ht => ?_) ?_
    · refine XS.ifYes X5.here hx rfl (pc0 := 23) (pc' := 54) rfl (hb hby dEqx_23) rfl ((if0 _ _).trans (teq (hc8 : E = (0 : Int32))).1) (by decide) (by decide) ?_
      show Steps p.tables e below (T5.setTop (mkF m 54 _ [])) _
      refine XS.iconst X5.here hx rfl (hb hby dEqx_54) ?_
      exact ht
    exact OFin.retB X5 hx hlk (t := .boolean) (by simp) hret (hb hby dEqx_55) (by decide) (by decide) (by rw [hs5]; exact ⟨(by show some (Value.int (0 : Int32)) = _; simp [own_beq, hc8]), N7, rfl⟩)
  · refine OFin.of (S' := T5.setTop (mkF m 27 #[.val (.ref a0), .val (.ref a1), .val (.ref a1)] [(.ref a0)])) (fun t ht => ?_) ?_
    · refine XS.ifNo X5.here hx rfl (hb hby dEqx_23) rfl ((if0 _ _).trans (feq (hc8 : ¬ (E = (0 : Int32)))).1) ?_
      show Steps p.tables e below (T5.setTop (mkF m 26 _ [])) _
      refine XS.aloadN X5.here hx rfl (hb hby dEqx_26) rfl rfl ?_
      exact ht
    obtain ⟨T9, X9, e9, st9⟩ := getF X5 hx hZ hown (host := "") (Or.inl (hw _ (List.mem_of_getElem? (i := 35) rfl))) Via.refl hs5 L0a (g := (mkF m 27 #[.val (.ref a0), .val (.ref a1), .val (.ref a1)] [(.ref a0)])) rfl rfl (hb hby dEqx_27)
    refine OFin.of (S' := T9.setTop (mkF m 30 #[.val (.ref a0), .val (.ref a1), .val (.ref a1)] [(.long l1)])) (fun t ht => st9 t ht) ?_
    refine OFin.of (S' := T9.setTop (mkF m 31 #[.val (.ref a0), .val (.ref a1), .val (.ref a1)] [(.ref a1), (.long l1)])) (fun t ht => ?_) ?_
    · refine XS.aloadN X9.here hx rfl (hb hby dEqx_30) rfl rfl ?_
      exact ht
    obtain ⟨T10, X10, e10, st10⟩ := getF X9 hx hZ hown (host := "") (Or.inl (hw _ (List.mem_of_getElem? (i := 35) rfl))) Via.refl e9 L1a (g := (mkF m 31 #[.val (.ref a0), .val (.ref a1), .val (.ref a1)] [(.ref a1), (.long l1)])) rfl rfl (hb hby dEqx_31)
    refine OFin.of (S' := T10.setTop (mkF m 34 #[.val (.ref a0), .val (.ref a1), .val (.ref a1)] [(.long l2), (.long l1)])) (fun t ht => st10 t ht) ?_
    refine OFin.of (S' := T10.setTop (mkF m 35 #[.val (.ref a0), .val (.ref a1), .val (.ref a1)] [(.int (lcmpW l1 l2))])) (fun t ht => ?_) ?_
    · refine XS.lcmp X10.here hx rfl (hb hby dEqx_34) rfl ?_
      exact ht
    by_cases hc11 : (lcmpW l1 l2) = (0 : Int32)
    · refine OFin.of (S' := T10.setTop (mkF m 39 #[.val (.ref a0), .val (.ref a1), .val (.ref a1)] [(.ref a0)])) (fun t ht => ?_) ?_
      · refine XS.ifNo X10.here hx rfl (hb hby dEqx_35) rfl ((if0 _ _).trans (teq (hc11 : (lcmpW l1 l2) = (0 : Int32))).2) ?_
        show Steps p.tables e below (T10.setTop (mkF m 38 _ [])) _
        refine XS.aloadN X10.here hx rfl (hb hby dEqx_38) rfl rfl ?_
        exact ht
      obtain ⟨T12, X12, e12, st12⟩ := getF X10 hx hZ hown (host := "") (Or.inl (hw _ (List.mem_of_getElem? (i := 37) rfl))) Via.refl e10 U0a (g := (mkF m 39 #[.val (.ref a0), .val (.ref a1), .val (.ref a1)] [(.ref a0)])) rfl rfl (hb hby dEqx_39)
      refine OFin.of (S' := T12.setTop (mkF m 42 #[.val (.ref a0), .val (.ref a1), .val (.ref a1)] [(.long u1)])) (fun t ht => st12 t ht) ?_
      refine OFin.of (S' := T12.setTop (mkF m 43 #[.val (.ref a0), .val (.ref a1), .val (.ref a1)] [(.ref a1), (.long u1)])) (fun t ht => ?_) ?_
      · refine XS.aloadN X12.here hx rfl (hb hby dEqx_42) rfl rfl ?_
        exact ht
      obtain ⟨T13, X13, e13, st13⟩ := getF X12 hx hZ hown (host := "") (Or.inl (hw _ (List.mem_of_getElem? (i := 37) rfl))) Via.refl e12 U1a (g := (mkF m 43 #[.val (.ref a0), .val (.ref a1), .val (.ref a1)] [(.ref a1), (.long u1)])) rfl rfl (hb hby dEqx_43)
      refine OFin.of (S' := T13.setTop (mkF m 46 #[.val (.ref a0), .val (.ref a1), .val (.ref a1)] [(.long u2), (.long u1)])) (fun t ht => st13 t ht) ?_
      refine OFin.of (S' := T13.setTop (mkF m 47 #[.val (.ref a0), .val (.ref a1), .val (.ref a1)] [(.int (lcmpW u1 u2))])) (fun t ht => ?_) ?_
      · refine XS.lcmp X13.here hx rfl (hb hby dEqx_46) rfl ?_
        exact ht
      by_cases hc14 : (lcmpW u1 u2) = (0 : Int32)
      · refine OFin.of (S' := T13.setTop (mkF m 55 #[.val (.ref a0), .val (.ref a1), .val (.ref a1)] [(.int (1 : Int32))])) (fun t ht => ?_) ?_
        · refine XS.ifNo X13.here hx rfl (hb hby dEqx_47) rfl ((if0 _ _).trans (teq (hc14 : (lcmpW u1 u2) = (0 : Int32))).2) ?_
          show Steps p.tables e below (T13.setTop (mkF m 50 _ [])) _
          refine XS.iconst X13.here hx rfl (hb hby dEqx_50) ?_
          show Steps p.tables e below (T13.setTop (mkF m 51 _ [(.int (1 : Int32))])) _
          refine XS.goto X13.here hx rfl (pc0 := 51) (pc' := 55) rfl (hb hby dEqx_51) (by decide) (by decide) ?_
          exact ht
        exact OFin.retB X13 hx hlk (t := .boolean) (by simp) hret (hb hby dEqx_55) (by decide) (by decide) (by rw [e13]; exact ⟨(by show some (Value.int (1 : Int32)) = _; simp [own_beq, hc8, hc11, hc14]), N7, rfl⟩)
      · refine OFin.of (S' := T13.setTop (mkF m 55 #[.val (.ref a0), .val (.ref a1), .val (.ref a1)] [(.int (0 : Int32))])) (fun t ht => ?_) ?_
        · refine XS.ifYes X13.here hx rfl (pc0 := 47) (pc' := 54) rfl (hb hby dEqx_47) rfl ((if0 _ _).trans (feq (hc14 : ¬ ((lcmpW u1 u2) = (0 : Int32)))).2) (by decide) (by decide) ?_
          show Steps p.tables e below (T13.setTop (mkF m 54 _ [])) _
          refine XS.iconst X13.here hx rfl (hb hby dEqx_54) ?_
          exact ht
        exact OFin.retB X13 hx hlk (t := .boolean) (by simp) hret (hb hby dEqx_55) (by decide) (by decide) (by rw [e13]; exact ⟨(by show some (Value.int (0 : Int32)) = _; simp [own_beq, hc8, hc11, hc14]), N7, rfl⟩)
    · refine OFin.of (S' := T10.setTop (mkF m 55 #[.val (.ref a0), .val (.ref a1), .val (.ref a1)] [(.int (0 : Int32))])) (fun t ht => ?_) ?_
      · refine XS.ifYes X10.here hx rfl (pc0 := 35) (pc' := 54) rfl (hb hby dEqx_35) rfl ((if0 _ _).trans (feq (hc11 : ¬ ((lcmpW l1 l2) = (0 : Int32)))).2) (by decide) (by decide) ?_
        show Steps p.tables e below (T10.setTop (mkF m 54 _ [])) _
        refine XS.iconst X10.here hx rfl (hb hby dEqx_54) ?_
        exact ht
      exact OFin.retB X10 hx hlk (t := .boolean) (by simp) hret (hb hby dEqx_55) (by decide) (by decide) (by rw [e10]; exact ⟨(by show some (Value.int (0 : Int32)) = _; simp [own_beq, hc8, hc11]), N7, rfl⟩)
theorem own_e11 {cA0 cB0 cA1 cB1 : Int32} (a0 : OwnOk cA0) (b0 : OwnOk cB0) (a1 : OwnOk cA1) (b1 : OwnOk cB1) : own_leq1 (((nar .char cA0).toInt8.toInt32).toInt8.toInt32) (((nar .char cB0).toInt8.toInt32).toInt8.toInt32) = own_e24 1 1 cA0 cB0 cA1 cB1 := own_e11g _ _ (own_byt a0 b0)
theorem own_e11r {cA0 cB0 cA1 cB1 : Int32} (a0 : OwnOk cA0) (b0 : OwnOk cB0) (a1 : OwnOk cA1) (b1 : OwnOk cB1) : own_leq1 (((nar .char cB0).toInt8.toInt32).toInt8.toInt32) (((nar .char cA0).toInt8.toInt32).toInt8.toInt32) = own_e24 1 1 cA0 cB0 cA1 cB1 := own_e11g _ _ ((own_byt b0 a0).trans ⟨Eq.symm, Eq.symm⟩)
theorem own_e22 {cA0 cB0 cA1 cB1 : Int32} (a0 : OwnOk cA0) (b0 : OwnOk cB0) (a1 : OwnOk cA1) (b1 : OwnOk cB1) : own_leq2 (((nar .char cA0).toInt8.toInt32).toInt8.toInt32) (((nar .char cA1).toInt8.toInt32).toInt8.toInt32) (((nar .char cB0).toInt8.toInt32).toInt8.toInt32) (((nar .char cB1).toInt8.toInt32).toInt8.toInt32) = own_e24 2 2 cA0 cB0 cA1 cB1 := own_e22g _ _ _ _ (own_byt a0 b0) (own_byt a1 b1)
theorem own_e22r {cA0 cB0 cA1 cB1 : Int32} (a0 : OwnOk cA0) (b0 : OwnOk cB0) (a1 : OwnOk cA1) (b1 : OwnOk cB1) : own_leq2 (((nar .char cB0).toInt8.toInt32).toInt8.toInt32) (((nar .char cB1).toInt8.toInt32).toInt8.toInt32) (((nar .char cA0).toInt8.toInt32).toInt8.toInt32) (((nar .char cA1).toInt8.toInt32).toInt8.toInt32) = own_e24 2 2 cA0 cB0 cA1 cB1 := own_e22g _ _ _ _ ((own_byt b0 a0).trans ⟨Eq.symm, Eq.symm⟩) ((own_byt b1 a1).trans ⟨Eq.symm, Eq.symm⟩)
theorem own_leqv1 (x0 y0 : Int32) : own_leq1 x0 y0 = 0 ∨ own_leq1 x0 y0 = 1 := by unfold own_leq1; (repeat' split) <;> simp
theorem own_leqv2 (x0 x1 y0 y1 : Int32) : own_leq2 x0 x1 y0 y1 = 0 ∨ own_leq2 x0 x1 y0 y1 = 1 := by unfold own_leq2; (repeat' split) <;> simp
set_option maxRecDepth 65536 in
set_option maxHeartbeats 40000000 in
theorem segT {p : Program} {l : Launch} {e : Env} {s : State} {m : MethodId} {args : Array Value} {below : List Frame} {meth : Method} {c : Code} {vm1 : Vm} (Z : State) (a0 : Array Value) (hw : ∀ d ∈ tables_1, d.before a0 Z = true) (hx : p.tables.exec = Jvm.exec) (hby : c.code = code) (hlk : meth.locks = false) (hret : meth.sig.returnType = some .boolean) (hml : c.maxLocals = 26) (hown : (s.setVm vm1).vm.findClass "com/example/greylag/greylag/model/BundleEqualsPinLaw" = some m.cls) (hZ : Z.Warmed39 (s.setVm vm1).vm) {Q : Option Value → Heap → List Loc → Prop} (n0 : Nat) (p0 : Int32) (p1 : Int32) (q2 : Int64) (q3 : Int64) (q4 : Int64) (p5 : Int32) (i9 : Int32) (cA0 : Int32) (cA1 : Int32) (i12 : Int32) (i13 : Int32) (cB0 : Int32) (cB1 : Int32) (j16 : Int64) (j18 : Int64) (i20 : Int32) (B1 : Addr) (B2 : Addr) (rl : Addr) (s1 : Addr) (s2 : Addr) (E1 : Int32) (E2 : Int32) {T0 : State} {locs : List Loc} {h0 : Heap} (X0 : Stand p l e room_1 (s.setVm vm1) m args below meth c T0 locs 15 40) (e0 : T0.heap = h0) (Z0 : n0 ≤ h0.size) (N0 : Fr n0 locs) (fa0 : Exa Z h0 B1 "com/example/greylag/greylag/model/Bundle") (fa1 : Exa Z h0 B2 "com/example/greylag/greylag/model/Bundle") (fa2 : Exa Z h0 s1 "java/lang/String") (fa3 : Exa Z h0 s2 "java/lang/String") (fa4 : Exa Z h0 rl "java/lang/Long") (fa5 : Fld Z h0 B1 "com/example/greylag/greylag/model/Bundle" "namespace" "Ljava/lang/String;" (.ref s1)) (fa6 : Fld Z h0 B1 "com/example/greylag/greylag/model/Bundle" "lower" "J" (.long q2)) (fa7 : Fld Z h0 B1 "com/example/greylag/greylag/model/Bundle" "upper" "J" (.long q3)) (fa8 : Fld Z h0 B2 "com/example/greylag/greylag/model/Bundle" "namespace" "Ljava/lang/String;" (.ref s2)) (fa9 : Fld Z h0 B2 "com/example/greylag/greylag/model/Bundle" "lower" "J" (.long j16)) (fa10 : Fld Z h0 B2 "com/example/greylag/greylag/model/Bundle" "upper" "J" (.long j18)) (hM1 : MetFree l (⟨"java/lang/String", "equals", "(Ljava/lang/Object;)Z"⟩ : MethodName) (head1 [Jvm.Cond.code (⟨"java/lang/String", "equals", "(Ljava/lang/Object;)Z"⟩ : MethodName) jdk_42_method_66_code 3 (some .boolean)] ({ frames := 1, cells := 0, slots := 0, locals := 14 } : Room)) (fun a U => a = #[(.ref s1), (.ref s2)] ∧ Z.Warmed39 U.vm ∧ U.heap = h0) (fun _ _ _ _ _ => True) (fun _ U o U' => ∃ v L, o = .returned v ∧ OwnMet E1 h0 n0 v U'.heap L ∧ FrameEnd U o U' L ({ frames := 1, cells := 0, slots := 0, locals := 14 } : Room).cells ({ frames := 1, cells := 0, slots := 0, locals := 14 } : Room).slots)) (hM2 : MetFree l (⟨"java/lang/String", "equals", "(Ljava/lang/Object;)Z"⟩ : MethodName) (head1 [Jvm.Cond.code (⟨"java/lang/String", "equals", "(Ljava/lang/Object;)Z"⟩ : MethodName) jdk_42_method_66_code 3 (some .boolean)] ({ frames := 1, cells := 0, slots := 0, locals := 14 } : Room)) (fun a U => a = #[(.ref s2), (.ref s1)] ∧ Z.Warmed39 U.vm ∧ U.heap = h0) (fun _ _ _ _ _ => True) (fun _ U o U' => ∃ v L, o = .returned v ∧ OwnMet E2 h0 n0 v U'.heap L ∧ FrameEnd U o U' L ({ frames := 1, cells := 0, slots := 0, locals := 14 } : Room).cells ({ frames := 1, cells := 0, slots := 0, locals := 14 } : Room).slots)) (hE1 : E1 = own_e24 i9 i13 cA0 cB0 cA1 cB1) (hE2 : E2 = own_e24 i9 i13 cA0 cB0 cA1 cB1) {k1 : Nat} (hS1 : s.Since vm1 k1) (hk1 : k1 ≤ h0.size) (hQ : ∀ (h' : Heap) (L : List Loc), Fr n0 L → Q (some (.int (1 : Int32))) h' L) :
    OFin p e below (KPostW s Q room_1.cells room_1.slots) (T0.setTop (mkF m 186 #[.val (.int p0), .val (.int p1), .val (.long q2), .second, .val (.long q3), .second, .val (.long q4), .second, .val (.int p5), .val (.int i9), .val (.int cA0), .val (.int cA1), .val (.int i12), .val (.int i13), .val (.int cB0), .val (.int cB1), .val (.long j16), .second, .val (.long j18), .second, .val (.int i20), .val (.ref B1), .val (.ref B2), .val (.ref rl), .unset, .unset] [])) := by
  have K0 : Keep h0 h0 [] := Keep.refl _ _
  refine OFin.of (S' := T0.setTop (mkF m 189 #[.val (.int p0), .val (.int p1), .val (.long q2), .second, .val (.long q3), .second, .val (.long q4), .second, .val (.int p5), .val (.int i9), .val (.int cA0), .val (.int cA1), .val (.int i12), .val (.int i13), .val (.int cB0), .val (.int cB1), .val (.long j16), .second, .val (.long j18), .second, .val (.int i20), .val (.ref B1), .val (.ref B2), .val (.ref rl), .unset, .unset] [(.int (1 : Int32)), (.int i20)])) (fun t ht => ?_) ?_
  · refine XS.iload X0.here hx rfl (hb hby at_186) rfl ?_
    show Steps p.tables e below (T0.setTop (mkF m 188 _ [(.int i20)])) _
    refine XS.iconst X0.here hx rfl (hb hby at_188) ?_
    exact ht
  by_cases hc148 : i20 = (1 : Int32)
  · refine OFin.of (S' := T0.setTop (mkF m 195 #[.val (.int p0), .val (.int p1), .val (.long q2), .second, .val (.long q3), .second, .val (.long q4), .second, .val (.int p5), .val (.int i9), .val (.int cA0), .val (.int cA1), .val (.int i12), .val (.int i13), .val (.int cB0), .val (.int cB1), .val (.long j16), .second, .val (.long j18), .second, .val (.int i20), .val (.ref B1), .val (.ref B2), .val (.ref rl), .unset, .unset] [.null, (.ref B1)])) (fun t ht => ?_) ?_
    · refine XS.icmpNo X0.here hx rfl (hb hby at_189) rfl (teq (hc148 : i20 = (1 : Int32))).2 ?_
      show Steps p.tables e below (T0.setTop (mkF m 192 _ [])) _
      refine XS.aload X0.here hx rfl (hb hby at_192) rfl rfl ?_
      show Steps p.tables e below (T0.setTop (mkF m 194 _ [(.ref B1)])) _
      refine XS.aconstNull X0.here hx rfl (hb hby at_194) ?_
      exact ht
    obtain ⟨cq150, kq150, q150a, q150b, q150c⟩ := isOf hZ e0 fa0
    obtain ⟨_, _, ⟨T149, L149, k149, n149⟩, -, X149, ⟨Lc149, hQ149, l149, y149, z149⟩, st149⟩ := X0.virtualBack hx (y := (⟨"com/example/greylag/greylag/model/Bundle", "equals", "(Ljava/lang/Object;)Z"⟩ : MethodName)) (z := (⟨"com/example/greylag/greylag/model/Bundle", "equals", "(Ljava/lang/Object;)Z"⟩ : MethodName)) hown (mvT hZ (hw _ (List.mem_of_getElem? (i := 47) rfl))) (mvT hZ (hw _ (List.mem_of_getElem? (i := 48) rfl))) (notFace_of_selects (args := #[]) (mvT hZ (hw _ (List.mem_of_getElem? (i := 50) rfl)))) (mvT hZ (hw _ (List.mem_of_getElem? (i := 50) rfl))) (mvT hZ (hw _ (List.mem_of_getElem? (i := 49) rfl))) (by decide) (backOf (W := 0) (rmEqN l Z _ hw [] B1 h0 n0 Z0 ) hZ (hw _ (List.mem_of_getElem? (i := 51) rfl)) (hw _ (List.mem_of_getElem? (i := 2) rfl)) (by decide) (by decide)) q150a q150c (g := (mkF m 195 #[.val (.int p0), .val (.int p1), .val (.long q2), .second, .val (.long q3), .second, .val (.long q4), .second, .val (.int p5), .val (.int i9), .val (.int cA0), .val (.int cA1), .val (.int i12), .val (.int i13), .val (.int cB0), .val (.int cB1), .val (.long j16), .second, .val (.long j18), .second, .val (.int i20), .val (.ref B1), .val (.ref B2), .val (.ref rl), .unset, .unset] [.null, (.ref B1)])) rfl (by rw [hml]; rfl) (Steps.refl _) (argsL := [.null]) (rest := []) (lenOf pd_7 rfl) rfl (by show 2 * 0 + _ ≤ _; exact Nat.le_of_eq rfl) (hb hby at_195) (fun _ _ => ⟨rfl, e0, (by decide : 15 + 0 ≤ _), (by decide : 40 + 0 ≤ _)⟩)
    dsimp only [Pt.U, Pt.locs, Pt.cells, Pt.slots] at X149 l149 y149 z149 st149 hQ149
    subst l149 y149 z149
    obtain ⟨rfl, Nq149, hs149⟩ := hQ149
    have N151 := Fr.app N0 Nq149
    refine OFin.to (S' := T149.setTop (mkF m 198 #[.val (.int p0), .val (.int p1), .val (.long q2), .second, .val (.long q3), .second, .val (.long q4), .second, .val (.int p5), .val (.int i9), .val (.int cA0), .val (.int cA1), .val (.int i12), .val (.int i13), .val (.int cB0), .val (.int cB1), .val (.long j16), .second, .val (.long j18), .second, .val (.int i20), .val (.ref B1), .val (.ref B2), .val (.ref rl), .unset, .unset] [(.int (0 : Int32))])) st149 ?_
    refine OFin.of (S' := T149.setTop (mkF m 206 #[.val (.int p0), .val (.int p1), .val (.long q2), .second, .val (.long q3), .second, .val (.long q4), .second, .val (.int p5), .val (.int i9), .val (.int cA0), .val (.int cA1), .val (.int i12), .val (.int i13), .val (.int cB0), .val (.int cB1), .val (.long j16), .second, .val (.long j18), .second, .val (.int i20), .val (.ref B1), .val (.ref B2), .val (.ref rl), .unset, .unset] [(.int (1 : Int32))])) (fun t ht => ?_) ?_
    · refine XS.ifNo X149.here hx rfl (hb hby at_198) rfl ((if0 _ _).trans (teq (by decide : (0 : Int32) = (0 : Int32))).2) ?_
      show Steps p.tables e below (T149.setTop (mkF m 201 _ [])) _
      refine XS.iconst X149.here hx rfl (hb hby at_201) ?_
      show Steps p.tables e below (T149.setTop (mkF m 202 _ [(.int (1 : Int32))])) _
      refine XS.goto X149.here hx rfl (pc0 := 202) (pc' := 206) rfl (hb hby at_202) (by decide) (by decide) ?_
      exact ht
    exact OFin.retBW (s := s) (vm₁ := vm1) X149 hS1 (by rw [hs149]; exact hk1) hx hlk (t := .boolean) (by simp) hret (hb hby at_206) (by decide) (by decide) (by rw [hs149]; exact hQ _ _ N151)
  · refine OFin.of (S' := T0.setTop (mkF m 210 #[.val (.int p0), .val (.int p1), .val (.long q2), .second, .val (.long q3), .second, .val (.long q4), .second, .val (.int p5), .val (.int i9), .val (.int cA0), .val (.int cA1), .val (.int i12), .val (.int i13), .val (.int cB0), .val (.int cB1), .val (.long j16), .second, .val (.long j18), .second, .val (.int i20), .val (.ref B1), .val (.ref B2), .val (.ref rl), .unset, .unset] [(.int (2 : Int32)), (.int i20)])) (fun t ht => ?_) ?_
    · refine XS.icmpYes X0.here hx rfl (pc0 := 189) (pc' := 207) rfl (hb hby at_189) rfl (feq (hc148 : ¬ (i20 = (1 : Int32)))).2 (by decide) (by decide) ?_
      show Steps p.tables e below (T0.setTop (mkF m 207 _ [])) _
      refine XS.iload X0.here hx rfl (hb hby at_207) rfl ?_
      show Steps p.tables e below (T0.setTop (mkF m 209 _ [(.int i20)])) _
      refine XS.iconst X0.here hx rfl (hb hby at_209) ?_
      exact ht
    by_cases hc152 : i20 = (2 : Int32)
    · refine OFin.of (S' := T0.setTop (mkF m 217 #[.val (.int p0), .val (.int p1), .val (.long q2), .second, .val (.long q3), .second, .val (.long q4), .second, .val (.int p5), .val (.int i9), .val (.int cA0), .val (.int cA1), .val (.int i12), .val (.int i13), .val (.int cB0), .val (.int cB1), .val (.long j16), .second, .val (.long j18), .second, .val (.int i20), .val (.ref B1), .val (.ref B2), .val (.ref rl), .unset, .unset] [(.ref rl), (.ref B1)])) (fun t ht => ?_) ?_
      · refine XS.icmpNo X0.here hx rfl (hb hby at_210) rfl (teq (hc152 : i20 = (2 : Int32))).2 ?_
        show Steps p.tables e below (T0.setTop (mkF m 213 _ [])) _
        refine XS.aload X0.here hx rfl (hb hby at_213) rfl rfl ?_
        show Steps p.tables e below (T0.setTop (mkF m 215 _ [(.ref B1)])) _
        refine XS.aload X0.here hx rfl (hb hby at_215) rfl rfl ?_
        exact ht
      obtain ⟨cq154, kq154, q154a, q154b, q154c⟩ := isOf hZ e0 fa0
      obtain ⟨_, _, ⟨T153, L153, k153, n153⟩, -, X153, ⟨Lc153, hQ153, l153, y153, z153⟩, st153⟩ := X0.virtualBack hx (y := (⟨"com/example/greylag/greylag/model/Bundle", "equals", "(Ljava/lang/Object;)Z"⟩ : MethodName)) (z := (⟨"com/example/greylag/greylag/model/Bundle", "equals", "(Ljava/lang/Object;)Z"⟩ : MethodName)) hown (mvT hZ (hw _ (List.mem_of_getElem? (i := 47) rfl))) (mvT hZ (hw _ (List.mem_of_getElem? (i := 48) rfl))) (notFace_of_selects (args := #[]) (mvT hZ (hw _ (List.mem_of_getElem? (i := 50) rfl)))) (mvT hZ (hw _ (List.mem_of_getElem? (i := 50) rfl))) (mvT hZ (hw _ (List.mem_of_getElem? (i := 49) rfl))) (by decide) (backOf (W := 0) (rmEqL l Z _ hw [] B1 rl h0 n0 Z0 fa4) hZ (hw _ (List.mem_of_getElem? (i := 51) rfl)) (hw _ (List.mem_of_getElem? (i := 2) rfl)) (by decide) (by decide)) q154a q154c (g := (mkF m 217 #[.val (.int p0), .val (.int p1), .val (.long q2), .second, .val (.long q3), .second, .val (.long q4), .second, .val (.int p5), .val (.int i9), .val (.int cA0), .val (.int cA1), .val (.int i12), .val (.int i13), .val (.int cB0), .val (.int cB1), .val (.long j16), .second, .val (.long j18), .second, .val (.int i20), .val (.ref B1), .val (.ref B2), .val (.ref rl), .unset, .unset] [(.ref rl), (.ref B1)])) rfl (by rw [hml]; rfl) (Steps.refl _) (argsL := [(.ref rl)]) (rest := []) (lenOf pd_7 rfl) rfl (by show 2 * 0 + _ ≤ _; exact Nat.le_of_eq rfl) (hb hby at_217) (fun _ _ => ⟨rfl, e0, (by decide : 15 + 0 ≤ _), (by decide : 40 + 0 ≤ _)⟩)
      dsimp only [Pt.U, Pt.locs, Pt.cells, Pt.slots] at X153 l153 y153 z153 st153 hQ153
      subst l153 y153 z153
      obtain ⟨rfl, Nq153, hs153⟩ := hQ153
      have N155 := Fr.app N0 Nq153
      refine OFin.to (S' := T153.setTop (mkF m 220 #[.val (.int p0), .val (.int p1), .val (.long q2), .second, .val (.long q3), .second, .val (.long q4), .second, .val (.int p5), .val (.int i9), .val (.int cA0), .val (.int cA1), .val (.int i12), .val (.int i13), .val (.int cB0), .val (.int cB1), .val (.long j16), .second, .val (.long j18), .second, .val (.int i20), .val (.ref B1), .val (.ref B2), .val (.ref rl), .unset, .unset] [(.int (0 : Int32))])) st153 ?_
      refine OFin.of (S' := T153.setTop (mkF m 228 #[.val (.int p0), .val (.int p1), .val (.long q2), .second, .val (.long q3), .second, .val (.long q4), .second, .val (.int p5), .val (.int i9), .val (.int cA0), .val (.int cA1), .val (.int i12), .val (.int i13), .val (.int cB0), .val (.int cB1), .val (.long j16), .second, .val (.long j18), .second, .val (.int i20), .val (.ref B1), .val (.ref B2), .val (.ref rl), .unset, .unset] [(.int (1 : Int32))])) (fun t ht => ?_) ?_
      · refine XS.ifNo X153.here hx rfl (hb hby at_220) rfl ((if0 _ _).trans (teq (by decide : (0 : Int32) = (0 : Int32))).2) ?_
        show Steps p.tables e below (T153.setTop (mkF m 223 _ [])) _
        refine XS.iconst X153.here hx rfl (hb hby at_223) ?_
        show Steps p.tables e below (T153.setTop (mkF m 224 _ [(.int (1 : Int32))])) _
        refine XS.goto X153.here hx rfl (pc0 := 224) (pc' := 228) rfl (hb hby at_224) (by decide) (by decide) ?_
        exact ht
      exact OFin.retBW (s := s) (vm₁ := vm1) X153 hS1 (by rw [hs153]; exact hk1) hx hlk (t := .boolean) (by simp) hret (hb hby at_228) (by decide) (by decide) (by rw [hs153]; exact hQ _ _ N155)
    · refine OFin.of (S' := T0.setTop (mkF m 232 #[.val (.int p0), .val (.int p1), .val (.long q2), .second, .val (.long q3), .second, .val (.long q4), .second, .val (.int p5), .val (.int i9), .val (.int cA0), .val (.int cA1), .val (.int i12), .val (.int i13), .val (.int cB0), .val (.int cB1), .val (.long j16), .second, .val (.long j18), .second, .val (.int i20), .val (.ref B1), .val (.ref B2), .val (.ref rl), .unset, .unset] [(.int (3 : Int32)), (.int i20)])) (fun t ht => ?_) ?_
      · refine XS.icmpYes X0.here hx rfl (pc0 := 210) (pc' := 229) rfl (hb hby at_210) rfl (feq (hc152 : ¬ (i20 = (2 : Int32)))).2 (by decide) (by decide) ?_
        show Steps p.tables e below (T0.setTop (mkF m 229 _ [])) _
        refine XS.iload X0.here hx rfl (hb hby at_229) rfl ?_
        show Steps p.tables e below (T0.setTop (mkF m 231 _ [(.int i20)])) _
        refine XS.iconst X0.here hx rfl (hb hby at_231) ?_
        exact ht
      by_cases hc156 : i20 = (3 : Int32)
      · refine OFin.of (S' := T0.setTop (mkF m 239 #[.val (.int p0), .val (.int p1), .val (.long q2), .second, .val (.long q3), .second, .val (.long q4), .second, .val (.int p5), .val (.int i9), .val (.int cA0), .val (.int cA1), .val (.int i12), .val (.int i13), .val (.int cB0), .val (.int cB1), .val (.long j16), .second, .val (.long j18), .second, .val (.int i20), .val (.ref B1), .val (.ref B2), .val (.ref rl), .unset, .unset] [(.ref B1), (.ref B1)])) (fun t ht => ?_) ?_
        · refine XS.icmpNo X0.here hx rfl (hb hby at_232) rfl (teq (hc156 : i20 = (3 : Int32))).2 ?_
          show Steps p.tables e below (T0.setTop (mkF m 235 _ [])) _
          refine XS.aload X0.here hx rfl (hb hby at_235) rfl rfl ?_
          show Steps p.tables e below (T0.setTop (mkF m 237 _ [(.ref B1)])) _
          refine XS.aload X0.here hx rfl (hb hby at_237) rfl rfl ?_
          exact ht
        obtain ⟨cq158, kq158, q158a, q158b, q158c⟩ := isOf hZ e0 fa0
        obtain ⟨_, _, ⟨T157, L157, k157, n157⟩, -, X157, ⟨Lc157, hQ157, l157, y157, z157⟩, st157⟩ := X0.virtualBack hx (y := (⟨"com/example/greylag/greylag/model/Bundle", "equals", "(Ljava/lang/Object;)Z"⟩ : MethodName)) (z := (⟨"com/example/greylag/greylag/model/Bundle", "equals", "(Ljava/lang/Object;)Z"⟩ : MethodName)) hown (mvT hZ (hw _ (List.mem_of_getElem? (i := 47) rfl))) (mvT hZ (hw _ (List.mem_of_getElem? (i := 48) rfl))) (notFace_of_selects (args := #[]) (mvT hZ (hw _ (List.mem_of_getElem? (i := 50) rfl)))) (mvT hZ (hw _ (List.mem_of_getElem? (i := 50) rfl))) (mvT hZ (hw _ (List.mem_of_getElem? (i := 49) rfl))) (by decide) (backOf (W := 0) (rmEqS l Z _ hw [] B1 s1 q2 q3 h0 n0 Z0 fa0 fa2 fa5 fa6 fa7) hZ (hw _ (List.mem_of_getElem? (i := 51) rfl)) (hw _ (List.mem_of_getElem? (i := 2) rfl)) (by decide) (by decide)) q158a q158c (g := (mkF m 239 #[.val (.int p0), .val (.int p1), .val (.long q2), .second, .val (.long q3), .second, .val (.long q4), .second, .val (.int p5), .val (.int i9), .val (.int cA0), .val (.int cA1), .val (.int i12), .val (.int i13), .val (.int cB0), .val (.int cB1), .val (.long j16), .second, .val (.long j18), .second, .val (.int i20), .val (.ref B1), .val (.ref B2), .val (.ref rl), .unset, .unset] [(.ref B1), (.ref B1)])) rfl (by rw [hml]; rfl) (Steps.refl _) (argsL := [(.ref B1)]) (rest := []) (lenOf pd_7 rfl) rfl (by show 2 * 0 + _ ≤ _; exact Nat.le_of_eq rfl) (hb hby at_239) (fun _ _ => ⟨rfl, e0, (by decide : 15 + 0 ≤ _), (by decide : 40 + 0 ≤ _)⟩)
        dsimp only [Pt.U, Pt.locs, Pt.cells, Pt.slots] at X157 l157 y157 z157 st157 hQ157
        subst l157 y157 z157
        obtain ⟨rfl, Nq157, hs157⟩ := hQ157
        have N159 := Fr.app N0 Nq157
        refine OFin.to (S' := T157.setTop (mkF m 242 #[.val (.int p0), .val (.int p1), .val (.long q2), .second, .val (.long q3), .second, .val (.long q4), .second, .val (.int p5), .val (.int i9), .val (.int cA0), .val (.int cA1), .val (.int i12), .val (.int i13), .val (.int cB0), .val (.int cB1), .val (.long j16), .second, .val (.long j18), .second, .val (.int i20), .val (.ref B1), .val (.ref B2), .val (.ref rl), .unset, .unset] [(.int (1 : Int32))])) st157 ?_
        exact OFin.retBW (s := s) (vm₁ := vm1) X157 hS1 (by rw [hs157]; exact hk1) hx hlk (t := .boolean) (by simp) hret (hb hby at_242) (by decide) (by decide) (by rw [hs157]; exact hQ _ _ N159)
      · refine OFin.of (S' := T0.setTop (mkF m 247 #[.val (.int p0), .val (.int p1), .val (.long q2), .second, .val (.long q3), .second, .val (.long q4), .second, .val (.int p5), .val (.int i9), .val (.int cA0), .val (.int cA1), .val (.int i12), .val (.int i13), .val (.int cB0), .val (.int cB1), .val (.long j16), .second, .val (.long j18), .second, .val (.int i20), .val (.ref B1), .val (.ref B2), .val (.ref rl), .unset, .unset] [(.int i13), (.int i9)])) (fun t ht => ?_) ?_
        · refine XS.icmpYes X0.here hx rfl (pc0 := 232) (pc' := 243) rfl (hb hby at_232) rfl (feq (hc156 : ¬ (i20 = (3 : Int32)))).2 (by decide) (by decide) ?_
          show Steps p.tables e below (T0.setTop (mkF m 243 _ [])) _
          refine XS.iload X0.here hx rfl (hb hby at_243) rfl ?_
          show Steps p.tables e below (T0.setTop (mkF m 245 _ [(.int i9)])) _
          refine XS.iload X0.here hx rfl (hb hby at_245) rfl ?_
          exact ht
        by_cases hc160 : i9 = i13
        · refine OFin.of (S' := T0.setTop (mkF m 253 #[.val (.int p0), .val (.int p1), .val (.long q2), .second, .val (.long q3), .second, .val (.long q4), .second, .val (.int p5), .val (.int i9), .val (.int cA0), .val (.int cA1), .val (.int i12), .val (.int i13), .val (.int cB0), .val (.int cB1), .val (.long j16), .second, .val (.long j18), .second, .val (.int i20), .val (.ref B1), .val (.ref B2), .val (.ref rl), .unset, .unset] [(.int (1 : Int32)), (.int i9)])) (fun t ht => ?_) ?_
          · refine XS.icmpNo X0.here hx rfl (hb hby at_247) rfl (teq (hc160 : i9 = i13)).2 ?_
            show Steps p.tables e below (T0.setTop (mkF m 250 _ [])) _
            refine XS.iload X0.here hx rfl (hb hby at_250) rfl ?_
            show Steps p.tables e below (T0.setTop (mkF m 252 _ [(.int i9)])) _
            refine XS.iconst X0.here hx rfl (hb hby at_252) ?_
            exact ht
          by_cases hc161 : i9 < (1 : Int32)
          · refine OFin.of (S' := T0.setTop (mkF m 266 #[.val (.int p0), .val (.int p1), .val (.long q2), .second, .val (.long q3), .second, .val (.long q4), .second, .val (.int p5), .val (.int i9), .val (.int cA0), .val (.int cA1), .val (.int i12), .val (.int i13), .val (.int cB0), .val (.int cB1), .val (.long j16), .second, .val (.long j18), .second, .val (.int i20), .val (.ref B1), .val (.ref B2), .val (.ref rl), .unset, .unset] [(.int (2 : Int32)), (.int i9)])) (fun t ht => ?_) ?_
            · refine XS.icmpYes X0.here hx rfl (pc0 := 253) (pc' := 263) rfl (hb hby at_253) rfl (tlt (hc161 : i9 < (1 : Int32))).1 (by decide) (by decide) ?_
              show Steps p.tables e below (T0.setTop (mkF m 263 _ [])) _
              refine XS.iload X0.here hx rfl (hb hby at_263) rfl ?_
              show Steps p.tables e below (T0.setTop (mkF m 265 _ [(.int i9)])) _
              refine XS.iconst X0.here hx rfl (hb hby at_265) ?_
              exact ht
            by_cases hc162 : i9 < (2 : Int32)
            · refine OFin.of (S' := T0.setTop (mkF m 292 #[.val (.int p0), .val (.int p1), .val (.long q2), .second, .val (.long q3), .second, .val (.long q4), .second, .val (.int p5), .val (.int i9), .val (.int cA0), .val (.int cA1), .val (.int i12), .val (.int i13), .val (.int cB0), .val (.int cB1), .val (.long j16), .second, .val (.long j18), .second, .val (.int i20), .val (.ref B1), .val (.ref B2), .val (.ref rl), .val (.int (1 : Int32)), .unset] [(.int (lcmpW q2 j16))])) (fun t ht => ?_) ?_
              · refine XS.icmpYes X0.here hx rfl (pc0 := 266) (pc' := 276) rfl (hb hby at_266) rfl (tlt (hc162 : i9 < (2 : Int32))).1 (by decide) (by decide) ?_
                show Steps p.tables e below (T0.setTop (mkF m 276 _ [])) _
                refine XS.iconst X0.here hx rfl (hb hby at_276) ?_
                show Steps p.tables e below (T0.setTop (mkF m 277 _ [(.int (1 : Int32))])) _
                refine XS.goto X0.here hx rfl (pc0 := 277) (pc' := 281) rfl (hb hby at_277) (by decide) (by decide) ?_
                show Steps p.tables e below (T0.setTop (mkF m 281 _ [(.int (1 : Int32))])) _
                refine XS.istore X0.here hx rfl (hb hby at_281) rfl (l' := #[.val (.int p0), .val (.int p1), .val (.long q2), .second, .val (.long q3), .second, .val (.long q4), .second, .val (.int p5), .val (.int i9), .val (.int cA0), .val (.int cA1), .val (.int i12), .val (.int i13), .val (.int cB0), .val (.int cB1), .val (.long j16), .second, .val (.long j18), .second, .val (.int i20), .val (.ref B1), .val (.ref B2), .val (.ref rl), .val (.int (1 : Int32)), .unset]) rfl ?_
                show Steps p.tables e below (T0.setTop (mkF m 283 #[.val (.int p0), .val (.int p1), .val (.long q2), .second, .val (.long q3), .second, .val (.long q4), .second, .val (.int p5), .val (.int i9), .val (.int cA0), .val (.int cA1), .val (.int i12), .val (.int i13), .val (.int cB0), .val (.int cB1), .val (.long j16), .second, .val (.long j18), .second, .val (.int i20), .val (.ref B1), .val (.ref B2), .val (.ref rl), .val (.int (1 : Int32)), .unset] [])) _
                refine XS.iload X0.here hx rfl (hb hby at_283) rfl ?_
                show Steps p.tables e below (T0.setTop (mkF m 285 _ [(.int (1 : Int32))])) _
                refine XS.ifNo X0.here hx rfl (hb hby at_285) rfl ((if0 _ _).trans (feq (by decide : ¬ ((1 : Int32) = (0 : Int32)))).1) ?_
                show Steps p.tables e below (T0.setTop (mkF m 288 _ [])) _
                refine XS.lloadN X0.here hx rfl (hb hby at_288) rfl ?_
                show Steps p.tables e below (T0.setTop (mkF m 289 _ [(.long q2)])) _
                refine XS.lload X0.here hx rfl (hb hby at_289) rfl ?_
                show Steps p.tables e below (T0.setTop (mkF m 291 _ [(.long j16), (.long q2)])) _
                refine XS.lcmp X0.here hx rfl (hb hby at_291) rfl ?_
                exact ht
              by_cases hc163 : (lcmpW q2 j16) = (0 : Int32)
              · refine OFin.of (S' := T0.setTop (mkF m 300 #[.val (.int p0), .val (.int p1), .val (.long q2), .second, .val (.long q3), .second, .val (.long q4), .second, .val (.int p5), .val (.int i9), .val (.int cA0), .val (.int cA1), .val (.int i12), .val (.int i13), .val (.int cB0), .val (.int cB1), .val (.long j16), .second, .val (.long j18), .second, .val (.int i20), .val (.ref B1), .val (.ref B2), .val (.ref rl), .val (.int (1 : Int32)), .unset] [(.int (lcmpW q3 j18))])) (fun t ht => ?_) ?_
                · refine XS.ifNo X0.here hx rfl (hb hby at_292) rfl ((if0 _ _).trans (teq (hc163 : (lcmpW q2 j16) = (0 : Int32))).2) ?_
                  show Steps p.tables e below (T0.setTop (mkF m 295 _ [])) _
                  refine XS.lload X0.here hx rfl (hb hby at_295) rfl ?_
                  show Steps p.tables e below (T0.setTop (mkF m 297 _ [(.long q3)])) _
                  refine XS.lload X0.here hx rfl (hb hby at_297) rfl ?_
                  show Steps p.tables e below (T0.setTop (mkF m 299 _ [(.long j18), (.long q3)])) _
                  refine XS.lcmp X0.here hx rfl (hb hby at_299) rfl ?_
                  exact ht
                by_cases hc164 : (lcmpW q3 j18) = (0 : Int32)
                · refine OFin.of (S' := T0.setTop (mkF m 314 #[.val (.int p0), .val (.int p1), .val (.long q2), .second, .val (.long q3), .second, .val (.long q4), .second, .val (.int p5), .val (.int i9), .val (.int cA0), .val (.int cA1), .val (.int i12), .val (.int i13), .val (.int cB0), .val (.int cB1), .val (.long j16), .second, .val (.long j18), .second, .val (.int i20), .val (.ref B1), .val (.ref B2), .val (.ref rl), .val (.int (1 : Int32)), .val (.int (1 : Int32))] [(.ref B2), (.ref B1)])) (fun t ht => ?_) ?_
                  · refine XS.ifNo X0.here hx rfl (hb hby at_300) rfl ((if0 _ _).trans (teq (hc164 : (lcmpW q3 j18) = (0 : Int32))).2) ?_
                    show Steps p.tables e below (T0.setTop (mkF m 303 _ [])) _
                    refine XS.iconst X0.here hx rfl (hb hby at_303) ?_
                    show Steps p.tables e below (T0.setTop (mkF m 304 _ [(.int (1 : Int32))])) _
                    refine XS.goto X0.here hx rfl (pc0 := 304) (pc' := 308) rfl (hb hby at_304) (by decide) (by decide) ?_
                    show Steps p.tables e below (T0.setTop (mkF m 308 _ [(.int (1 : Int32))])) _
                    refine XS.istore X0.here hx rfl (hb hby at_308) rfl (l' := #[.val (.int p0), .val (.int p1), .val (.long q2), .second, .val (.long q3), .second, .val (.long q4), .second, .val (.int p5), .val (.int i9), .val (.int cA0), .val (.int cA1), .val (.int i12), .val (.int i13), .val (.int cB0), .val (.int cB1), .val (.long j16), .second, .val (.long j18), .second, .val (.int i20), .val (.ref B1), .val (.ref B2), .val (.ref rl), .val (.int (1 : Int32)), .val (.int (1 : Int32))]) rfl ?_
                    show Steps p.tables e below (T0.setTop (mkF m 310 #[.val (.int p0), .val (.int p1), .val (.long q2), .second, .val (.long q3), .second, .val (.long q4), .second, .val (.int p5), .val (.int i9), .val (.int cA0), .val (.int cA1), .val (.int i12), .val (.int i13), .val (.int cB0), .val (.int cB1), .val (.long j16), .second, .val (.long j18), .second, .val (.int i20), .val (.ref B1), .val (.ref B2), .val (.ref rl), .val (.int (1 : Int32)), .val (.int (1 : Int32))] [])) _
                    refine XS.aload X0.here hx rfl (hb hby at_310) rfl rfl ?_
                    show Steps p.tables e below (T0.setTop (mkF m 312 _ [(.ref B1)])) _
                    refine XS.aload X0.here hx rfl (hb hby at_312) rfl rfl ?_
                    exact ht
                  obtain ⟨cq166, kq166, q166a, q166b, q166c⟩ := isOf hZ e0 fa0
                  obtain ⟨_, _, ⟨T165, L165, k165, n165⟩, -, X165, ⟨Lc165, hQ165, l165, y165, z165⟩, st165⟩ := X0.virtualBack hx (y := (⟨"com/example/greylag/greylag/model/Bundle", "equals", "(Ljava/lang/Object;)Z"⟩ : MethodName)) (z := (⟨"com/example/greylag/greylag/model/Bundle", "equals", "(Ljava/lang/Object;)Z"⟩ : MethodName)) hown (mvT hZ (hw _ (List.mem_of_getElem? (i := 47) rfl))) (mvT hZ (hw _ (List.mem_of_getElem? (i := 48) rfl))) (notFace_of_selects (args := #[]) (mvT hZ (hw _ (List.mem_of_getElem? (i := 50) rfl)))) (mvT hZ (hw _ (List.mem_of_getElem? (i := 50) rfl))) (mvT hZ (hw _ (List.mem_of_getElem? (i := 49) rfl))) (by decide) (backOf (W := 0) (rmEqx l Z _ hw [] B1 B2 s1 s2 q2 q3 j16 j18 E1 h0 n0 Z0 fa1 fa2 fa5 fa8 fa6 fa9 fa7 fa10 hM1) hZ (hw _ (List.mem_of_getElem? (i := 51) rfl)) (hw _ (List.mem_of_getElem? (i := 2) rfl)) (by decide) (by decide)) q166a q166c (g := (mkF m 314 #[.val (.int p0), .val (.int p1), .val (.long q2), .second, .val (.long q3), .second, .val (.long q4), .second, .val (.int p5), .val (.int i9), .val (.int cA0), .val (.int cA1), .val (.int i12), .val (.int i13), .val (.int cB0), .val (.int cB1), .val (.long j16), .second, .val (.long j18), .second, .val (.int i20), .val (.ref B1), .val (.ref B2), .val (.ref rl), .val (.int (1 : Int32)), .val (.int (1 : Int32))] [(.ref B2), (.ref B1)])) rfl (by rw [hml]; rfl) (Steps.refl _) (argsL := [(.ref B2)]) (rest := []) (lenOf pd_7 rfl) rfl (by show 2 * 0 + _ ≤ _; exact Nat.le_of_eq rfl) (hb hby at_314) (fun _ _ => ⟨rfl, e0, (by decide : 15 + 0 ≤ _), (by decide : 40 + 0 ≤ _)⟩)
                  dsimp only [Pt.U, Pt.locs, Pt.cells, Pt.slots] at X165 l165 y165 z165 st165 hQ165
                  subst l165 y165 z165
                  obtain ⟨rfl, Nq165, hs165⟩ := hQ165
                  have N167 := Fr.app N0 Nq165
                  refine OFin.to (S' := T165.setTop (mkF m 317 #[.val (.int p0), .val (.int p1), .val (.long q2), .second, .val (.long q3), .second, .val (.long q4), .second, .val (.int p5), .val (.int i9), .val (.int cA0), .val (.int cA1), .val (.int i12), .val (.int i13), .val (.int cB0), .val (.int cB1), .val (.long j16), .second, .val (.long j18), .second, .val (.int i20), .val (.ref B1), .val (.ref B2), .val (.ref rl), .val (.int (1 : Int32)), .val (.int (1 : Int32))] [(.int (own_beq E1 q2 q3 j16 j18))])) st165 ?_
                  refine OFin.of (S' := T165.setTop (mkF m 326 #[.val (.int p0), .val (.int p1), .val (.long q2), .second, .val (.long q3), .second, .val (.long q4), .second, .val (.int p5), .val (.int i9), .val (.int cA0), .val (.int cA1), .val (.int i12), .val (.int i13), .val (.int cB0), .val (.int cB1), .val (.long j16), .second, .val (.long j18), .second, .val (.int i20), .val (.ref B1), .val (.ref B2), .val (.ref rl), .val (.int (1 : Int32)), .val (.int (1 : Int32))] [(.ref B1), (.ref B2)])) (fun t ht => ?_) ?_
                  · refine XS.iload X165.here hx rfl (hb hby at_317) rfl ?_
                    show Steps p.tables e below (T165.setTop (mkF m 319 _ [(.int (1 : Int32)), (.int (own_beq E1 q2 q3 j16 j18))])) _
                    refine XS.icmpNo X165.here hx rfl (hb hby at_319) rfl (teq (own_beq_1 (hE1.trans ((own_e_0 hc160 hc161).trans (own_t_1 hc162))) hc163 hc164 : (own_beq E1 q2 q3 j16 j18) = (1 : Int32))).2 ?_
                    show Steps p.tables e below (T165.setTop (mkF m 322 _ [])) _
                    refine XS.aload X165.here hx rfl (hb hby at_322) rfl rfl ?_
                    show Steps p.tables e below (T165.setTop (mkF m 324 _ [(.ref B2)])) _
                    refine XS.aload X165.here hx rfl (hb hby at_324) rfl rfl ?_
                    exact ht
                  obtain ⟨cq169, kq169, q169a, q169b, q169c⟩ := isOf hZ hs165 fa1
                  obtain ⟨_, _, ⟨T168, L168, k168, n168⟩, -, X168, ⟨Lc168, hQ168, l168, y168, z168⟩, st168⟩ := X165.virtualBack hx (y := (⟨"com/example/greylag/greylag/model/Bundle", "equals", "(Ljava/lang/Object;)Z"⟩ : MethodName)) (z := (⟨"com/example/greylag/greylag/model/Bundle", "equals", "(Ljava/lang/Object;)Z"⟩ : MethodName)) hown (mvT hZ (hw _ (List.mem_of_getElem? (i := 47) rfl))) (mvT hZ (hw _ (List.mem_of_getElem? (i := 48) rfl))) (notFace_of_selects (args := #[]) (mvT hZ (hw _ (List.mem_of_getElem? (i := 50) rfl)))) (mvT hZ (hw _ (List.mem_of_getElem? (i := 50) rfl))) (mvT hZ (hw _ (List.mem_of_getElem? (i := 49) rfl))) (by decide) (backOf (W := 0) (rmEqx l Z _ hw [] B2 B1 s2 s1 j16 j18 q2 q3 E2 h0 n0 Z0 fa0 fa3 fa8 fa5 fa9 fa6 fa10 fa7 hM2) hZ (hw _ (List.mem_of_getElem? (i := 51) rfl)) (hw _ (List.mem_of_getElem? (i := 2) rfl)) (by decide) (by decide)) q169a q169c (g := (mkF m 326 #[.val (.int p0), .val (.int p1), .val (.long q2), .second, .val (.long q3), .second, .val (.long q4), .second, .val (.int p5), .val (.int i9), .val (.int cA0), .val (.int cA1), .val (.int i12), .val (.int i13), .val (.int cB0), .val (.int cB1), .val (.long j16), .second, .val (.long j18), .second, .val (.int i20), .val (.ref B1), .val (.ref B2), .val (.ref rl), .val (.int (1 : Int32)), .val (.int (1 : Int32))] [(.ref B1), (.ref B2)])) rfl (by rw [hml]; rfl) (Steps.refl _) (argsL := [(.ref B1)]) (rest := []) (lenOf pd_7 rfl) rfl (by show 2 * 0 + _ ≤ _; exact Nat.le_of_eq rfl) (hb hby at_326) (fun _ _ => ⟨rfl, hs165, (by decide : 15 + 0 ≤ _), (by decide : 40 + 0 ≤ _)⟩)
                  dsimp only [Pt.U, Pt.locs, Pt.cells, Pt.slots] at X168 l168 y168 z168 st168 hQ168
                  subst l168 y168 z168
                  obtain ⟨rfl, Nq168, hs168⟩ := hQ168
                  have N170 := Fr.app N167 Nq168
                  refine OFin.to (S' := T168.setTop (mkF m 329 #[.val (.int p0), .val (.int p1), .val (.long q2), .second, .val (.long q3), .second, .val (.long q4), .second, .val (.int p5), .val (.int i9), .val (.int cA0), .val (.int cA1), .val (.int i12), .val (.int i13), .val (.int cB0), .val (.int cB1), .val (.long j16), .second, .val (.long j18), .second, .val (.int i20), .val (.ref B1), .val (.ref B2), .val (.ref rl), .val (.int (1 : Int32)), .val (.int (1 : Int32))] [(.int (own_beq E2 j16 j18 q2 q3))])) st168 ?_
                  refine OFin.of (S' := T168.setTop (mkF m 339 #[.val (.int p0), .val (.int p1), .val (.long q2), .second, .val (.long q3), .second, .val (.long q4), .second, .val (.int p5), .val (.int i9), .val (.int cA0), .val (.int cA1), .val (.int i12), .val (.int i13), .val (.int cB0), .val (.int cB1), .val (.long j16), .second, .val (.long j18), .second, .val (.int i20), .val (.ref B1), .val (.ref B2), .val (.ref rl), .val (.int (1 : Int32)), .val (.int (1 : Int32))] [(.int (1 : Int32))])) (fun t ht => ?_) ?_
                  · refine XS.iload X168.here hx rfl (hb hby at_329) rfl ?_
                    show Steps p.tables e below (T168.setTop (mkF m 331 _ [(.int (1 : Int32)), (.int (own_beq E2 j16 j18 q2 q3))])) _
                    refine XS.icmpNo X168.here hx rfl (hb hby at_331) rfl (teq (own_beq_1 (hE2.trans ((own_e_0 hc160 hc161).trans (own_t_1 hc162))) (own_lws hc163) (own_lws hc164) : (own_beq E2 j16 j18 q2 q3) = (1 : Int32))).2 ?_
                    show Steps p.tables e below (T168.setTop (mkF m 334 _ [])) _
                    refine XS.iconst X168.here hx rfl (hb hby at_334) ?_
                    show Steps p.tables e below (T168.setTop (mkF m 335 _ [(.int (1 : Int32))])) _
                    refine XS.goto X168.here hx rfl (pc0 := 335) (pc' := 339) rfl (hb hby at_335) (by decide) (by decide) ?_
                    exact ht
                  exact OFin.retBW (s := s) (vm₁ := vm1) X168 hS1 (by rw [hs168]; exact hk1) hx hlk (t := .boolean) (by simp) hret (hb hby at_339) (by decide) (by decide) (by rw [hs168]; exact hQ _ _ N170)
                · refine OFin.of (S' := T0.setTop (mkF m 314 #[.val (.int p0), .val (.int p1), .val (.long q2), .second, .val (.long q3), .second, .val (.long q4), .second, .val (.int p5), .val (.int i9), .val (.int cA0), .val (.int cA1), .val (.int i12), .val (.int i13), .val (.int cB0), .val (.int cB1), .val (.long j16), .second, .val (.long j18), .second, .val (.int i20), .val (.ref B1), .val (.ref B2), .val (.ref rl), .val (.int (1 : Int32)), .val (.int (0 : Int32))] [(.ref B2), (.ref B1)])) (fun t ht => ?_) ?_
                  · refine XS.ifYes X0.here hx rfl (pc0 := 300) (pc' := 307) rfl (hb hby at_300) rfl ((if0 _ _).trans (feq (hc164 : ¬ ((lcmpW q3 j18) = (0 : Int32)))).2) (by decide) (by decide) ?_
                    show Steps p.tables e below (T0.setTop (mkF m 307 _ [])) _
                    refine XS.iconst X0.here hx rfl (hb hby at_307) ?_
                    show Steps p.tables e below (T0.setTop (mkF m 308 _ [(.int (0 : Int32))])) _
                    refine XS.istore X0.here hx rfl (hb hby at_308) rfl (l' := #[.val (.int p0), .val (.int p1), .val (.long q2), .second, .val (.long q3), .second, .val (.long q4), .second, .val (.int p5), .val (.int i9), .val (.int cA0), .val (.int cA1), .val (.int i12), .val (.int i13), .val (.int cB0), .val (.int cB1), .val (.long j16), .second, .val (.long j18), .second, .val (.int i20), .val (.ref B1), .val (.ref B2), .val (.ref rl), .val (.int (1 : Int32)), .val (.int (0 : Int32))]) rfl ?_
                    show Steps p.tables e below (T0.setTop (mkF m 310 #[.val (.int p0), .val (.int p1), .val (.long q2), .second, .val (.long q3), .second, .val (.long q4), .second, .val (.int p5), .val (.int i9), .val (.int cA0), .val (.int cA1), .val (.int i12), .val (.int i13), .val (.int cB0), .val (.int cB1), .val (.long j16), .second, .val (.long j18), .second, .val (.int i20), .val (.ref B1), .val (.ref B2), .val (.ref rl), .val (.int (1 : Int32)), .val (.int (0 : Int32))] [])) _
                    refine XS.aload X0.here hx rfl (hb hby at_310) rfl rfl ?_
                    show Steps p.tables e below (T0.setTop (mkF m 312 _ [(.ref B1)])) _
                    refine XS.aload X0.here hx rfl (hb hby at_312) rfl rfl ?_
                    exact ht
                  obtain ⟨cq172, kq172, q172a, q172b, q172c⟩ := isOf hZ e0 fa0
                  obtain ⟨_, _, ⟨T171, L171, k171, n171⟩, -, X171, ⟨Lc171, hQ171, l171, y171, z171⟩, st171⟩ := X0.virtualBack hx (y := (⟨"com/example/greylag/greylag/model/Bundle", "equals", "(Ljava/lang/Object;)Z"⟩ : MethodName)) (z := (⟨"com/example/greylag/greylag/model/Bundle", "equals", "(Ljava/lang/Object;)Z"⟩ : MethodName)) hown (mvT hZ (hw _ (List.mem_of_getElem? (i := 47) rfl))) (mvT hZ (hw _ (List.mem_of_getElem? (i := 48) rfl))) (notFace_of_selects (args := #[]) (mvT hZ (hw _ (List.mem_of_getElem? (i := 50) rfl)))) (mvT hZ (hw _ (List.mem_of_getElem? (i := 50) rfl))) (mvT hZ (hw _ (List.mem_of_getElem? (i := 49) rfl))) (by decide) (backOf (W := 0) (rmEqx l Z _ hw [] B1 B2 s1 s2 q2 q3 j16 j18 E1 h0 n0 Z0 fa1 fa2 fa5 fa8 fa6 fa9 fa7 fa10 hM1) hZ (hw _ (List.mem_of_getElem? (i := 51) rfl)) (hw _ (List.mem_of_getElem? (i := 2) rfl)) (by decide) (by decide)) q172a q172c (g := (mkF m 314 #[.val (.int p0), .val (.int p1), .val (.long q2), .second, .val (.long q3), .second, .val (.long q4), .second, .val (.int p5), .val (.int i9), .val (.int cA0), .val (.int cA1), .val (.int i12), .val (.int i13), .val (.int cB0), .val (.int cB1), .val (.long j16), .second, .val (.long j18), .second, .val (.int i20), .val (.ref B1), .val (.ref B2), .val (.ref rl), .val (.int (1 : Int32)), .val (.int (0 : Int32))] [(.ref B2), (.ref B1)])) rfl (by rw [hml]; rfl) (Steps.refl _) (argsL := [(.ref B2)]) (rest := []) (lenOf pd_7 rfl) rfl (by show 2 * 0 + _ ≤ _; exact Nat.le_of_eq rfl) (hb hby at_314) (fun _ _ => ⟨rfl, e0, (by decide : 15 + 0 ≤ _), (by decide : 40 + 0 ≤ _)⟩)
                  dsimp only [Pt.U, Pt.locs, Pt.cells, Pt.slots] at X171 l171 y171 z171 st171 hQ171
                  subst l171 y171 z171
                  obtain ⟨rfl, Nq171, hs171⟩ := hQ171
                  have N173 := Fr.app N0 Nq171
                  refine OFin.to (S' := T171.setTop (mkF m 317 #[.val (.int p0), .val (.int p1), .val (.long q2), .second, .val (.long q3), .second, .val (.long q4), .second, .val (.int p5), .val (.int i9), .val (.int cA0), .val (.int cA1), .val (.int i12), .val (.int i13), .val (.int cB0), .val (.int cB1), .val (.long j16), .second, .val (.long j18), .second, .val (.int i20), .val (.ref B1), .val (.ref B2), .val (.ref rl), .val (.int (1 : Int32)), .val (.int (0 : Int32))] [(.int (own_beq E1 q2 q3 j16 j18))])) st171 ?_
                  refine OFin.of (S' := T171.setTop (mkF m 326 #[.val (.int p0), .val (.int p1), .val (.long q2), .second, .val (.long q3), .second, .val (.long q4), .second, .val (.int p5), .val (.int i9), .val (.int cA0), .val (.int cA1), .val (.int i12), .val (.int i13), .val (.int cB0), .val (.int cB1), .val (.long j16), .second, .val (.long j18), .second, .val (.int i20), .val (.ref B1), .val (.ref B2), .val (.ref rl), .val (.int (1 : Int32)), .val (.int (0 : Int32))] [(.ref B1), (.ref B2)])) (fun t ht => ?_) ?_
                  · refine XS.iload X171.here hx rfl (hb hby at_317) rfl ?_
                    show Steps p.tables e below (T171.setTop (mkF m 319 _ [(.int (0 : Int32)), (.int (own_beq E1 q2 q3 j16 j18))])) _
                    refine XS.icmpNo X171.here hx rfl (hb hby at_319) rfl (teq (own_beq_u (hE1.trans ((own_e_0 hc160 hc161).trans (own_t_1 hc162))) hc163 hc164 : (own_beq E1 q2 q3 j16 j18) = (0 : Int32))).2 ?_
                    show Steps p.tables e below (T171.setTop (mkF m 322 _ [])) _
                    refine XS.aload X171.here hx rfl (hb hby at_322) rfl rfl ?_
                    show Steps p.tables e below (T171.setTop (mkF m 324 _ [(.ref B2)])) _
                    refine XS.aload X171.here hx rfl (hb hby at_324) rfl rfl ?_
                    exact ht
                  obtain ⟨cq175, kq175, q175a, q175b, q175c⟩ := isOf hZ hs171 fa1
                  obtain ⟨_, _, ⟨T174, L174, k174, n174⟩, -, X174, ⟨Lc174, hQ174, l174, y174, z174⟩, st174⟩ := X171.virtualBack hx (y := (⟨"com/example/greylag/greylag/model/Bundle", "equals", "(Ljava/lang/Object;)Z"⟩ : MethodName)) (z := (⟨"com/example/greylag/greylag/model/Bundle", "equals", "(Ljava/lang/Object;)Z"⟩ : MethodName)) hown (mvT hZ (hw _ (List.mem_of_getElem? (i := 47) rfl))) (mvT hZ (hw _ (List.mem_of_getElem? (i := 48) rfl))) (notFace_of_selects (args := #[]) (mvT hZ (hw _ (List.mem_of_getElem? (i := 50) rfl)))) (mvT hZ (hw _ (List.mem_of_getElem? (i := 50) rfl))) (mvT hZ (hw _ (List.mem_of_getElem? (i := 49) rfl))) (by decide) (backOf (W := 0) (rmEqx l Z _ hw [] B2 B1 s2 s1 j16 j18 q2 q3 E2 h0 n0 Z0 fa0 fa3 fa8 fa5 fa9 fa6 fa10 fa7 hM2) hZ (hw _ (List.mem_of_getElem? (i := 51) rfl)) (hw _ (List.mem_of_getElem? (i := 2) rfl)) (by decide) (by decide)) q175a q175c (g := (mkF m 326 #[.val (.int p0), .val (.int p1), .val (.long q2), .second, .val (.long q3), .second, .val (.long q4), .second, .val (.int p5), .val (.int i9), .val (.int cA0), .val (.int cA1), .val (.int i12), .val (.int i13), .val (.int cB0), .val (.int cB1), .val (.long j16), .second, .val (.long j18), .second, .val (.int i20), .val (.ref B1), .val (.ref B2), .val (.ref rl), .val (.int (1 : Int32)), .val (.int (0 : Int32))] [(.ref B1), (.ref B2)])) rfl (by rw [hml]; rfl) (Steps.refl _) (argsL := [(.ref B1)]) (rest := []) (lenOf pd_7 rfl) rfl (by show 2 * 0 + _ ≤ _; exact Nat.le_of_eq rfl) (hb hby at_326) (fun _ _ => ⟨rfl, hs171, (by decide : 15 + 0 ≤ _), (by decide : 40 + 0 ≤ _)⟩)
                  dsimp only [Pt.U, Pt.locs, Pt.cells, Pt.slots] at X174 l174 y174 z174 st174 hQ174
                  subst l174 y174 z174
                  obtain ⟨rfl, Nq174, hs174⟩ := hQ174
                  have N176 := Fr.app N173 Nq174
                  refine OFin.to (S' := T174.setTop (mkF m 329 #[.val (.int p0), .val (.int p1), .val (.long q2), .second, .val (.long q3), .second, .val (.long q4), .second, .val (.int p5), .val (.int i9), .val (.int cA0), .val (.int cA1), .val (.int i12), .val (.int i13), .val (.int cB0), .val (.int cB1), .val (.long j16), .second, .val (.long j18), .second, .val (.int i20), .val (.ref B1), .val (.ref B2), .val (.ref rl), .val (.int (1 : Int32)), .val (.int (0 : Int32))] [(.int (own_beq E2 j16 j18 q2 q3))])) st174 ?_
                  refine OFin.of (S' := T174.setTop (mkF m 339 #[.val (.int p0), .val (.int p1), .val (.long q2), .second, .val (.long q3), .second, .val (.long q4), .second, .val (.int p5), .val (.int i9), .val (.int cA0), .val (.int cA1), .val (.int i12), .val (.int i13), .val (.int cB0), .val (.int cB1), .val (.long j16), .second, .val (.long j18), .second, .val (.int i20), .val (.ref B1), .val (.ref B2), .val (.ref rl), .val (.int (1 : Int32)), .val (.int (0 : Int32))] [(.int (1 : Int32))])) (fun t ht => ?_) ?_
                  · refine XS.iload X174.here hx rfl (hb hby at_329) rfl ?_
                    show Steps p.tables e below (T174.setTop (mkF m 331 _ [(.int (0 : Int32)), (.int (own_beq E2 j16 j18 q2 q3))])) _
                    refine XS.icmpNo X174.here hx rfl (hb hby at_331) rfl (teq (own_beq_u (hE2.trans ((own_e_0 hc160 hc161).trans (own_t_1 hc162))) (own_lws hc163) (own_lwsn hc164) : (own_beq E2 j16 j18 q2 q3) = (0 : Int32))).2 ?_
                    show Steps p.tables e below (T174.setTop (mkF m 334 _ [])) _
                    refine XS.iconst X174.here hx rfl (hb hby at_334) ?_
                    show Steps p.tables e below (T174.setTop (mkF m 335 _ [(.int (1 : Int32))])) _
                    refine XS.goto X174.here hx rfl (pc0 := 335) (pc' := 339) rfl (hb hby at_335) (by decide) (by decide) ?_
                    exact ht
                  exact OFin.retBW (s := s) (vm₁ := vm1) X174 hS1 (by rw [hs174]; exact hk1) hx hlk (t := .boolean) (by simp) hret (hb hby at_339) (by decide) (by decide) (by rw [hs174]; exact hQ _ _ N176)
              · refine OFin.of (S' := T0.setTop (mkF m 314 #[.val (.int p0), .val (.int p1), .val (.long q2), .second, .val (.long q3), .second, .val (.long q4), .second, .val (.int p5), .val (.int i9), .val (.int cA0), .val (.int cA1), .val (.int i12), .val (.int i13), .val (.int cB0), .val (.int cB1), .val (.long j16), .second, .val (.long j18), .second, .val (.int i20), .val (.ref B1), .val (.ref B2), .val (.ref rl), .val (.int (1 : Int32)), .val (.int (0 : Int32))] [(.ref B2), (.ref B1)])) (fun t ht => ?_) ?_
                · refine XS.ifYes X0.here hx rfl (pc0 := 292) (pc' := 307) rfl (hb hby at_292) rfl ((if0 _ _).trans (feq (hc163 : ¬ ((lcmpW q2 j16) = (0 : Int32)))).2) (by decide) (by decide) ?_
                  show Steps p.tables e below (T0.setTop (mkF m 307 _ [])) _
                  refine XS.iconst X0.here hx rfl (hb hby at_307) ?_
                  show Steps p.tables e below (T0.setTop (mkF m 308 _ [(.int (0 : Int32))])) _
                  refine XS.istore X0.here hx rfl (hb hby at_308) rfl (l' := #[.val (.int p0), .val (.int p1), .val (.long q2), .second, .val (.long q3), .second, .val (.long q4), .second, .val (.int p5), .val (.int i9), .val (.int cA0), .val (.int cA1), .val (.int i12), .val (.int i13), .val (.int cB0), .val (.int cB1), .val (.long j16), .second, .val (.long j18), .second, .val (.int i20), .val (.ref B1), .val (.ref B2), .val (.ref rl), .val (.int (1 : Int32)), .val (.int (0 : Int32))]) rfl ?_
                  show Steps p.tables e below (T0.setTop (mkF m 310 #[.val (.int p0), .val (.int p1), .val (.long q2), .second, .val (.long q3), .second, .val (.long q4), .second, .val (.int p5), .val (.int i9), .val (.int cA0), .val (.int cA1), .val (.int i12), .val (.int i13), .val (.int cB0), .val (.int cB1), .val (.long j16), .second, .val (.long j18), .second, .val (.int i20), .val (.ref B1), .val (.ref B2), .val (.ref rl), .val (.int (1 : Int32)), .val (.int (0 : Int32))] [])) _
                  refine XS.aload X0.here hx rfl (hb hby at_310) rfl rfl ?_
                  show Steps p.tables e below (T0.setTop (mkF m 312 _ [(.ref B1)])) _
                  refine XS.aload X0.here hx rfl (hb hby at_312) rfl rfl ?_
                  exact ht
                obtain ⟨cq178, kq178, q178a, q178b, q178c⟩ := isOf hZ e0 fa0
                obtain ⟨_, _, ⟨T177, L177, k177, n177⟩, -, X177, ⟨Lc177, hQ177, l177, y177, z177⟩, st177⟩ := X0.virtualBack hx (y := (⟨"com/example/greylag/greylag/model/Bundle", "equals", "(Ljava/lang/Object;)Z"⟩ : MethodName)) (z := (⟨"com/example/greylag/greylag/model/Bundle", "equals", "(Ljava/lang/Object;)Z"⟩ : MethodName)) hown (mvT hZ (hw _ (List.mem_of_getElem? (i := 47) rfl))) (mvT hZ (hw _ (List.mem_of_getElem? (i := 48) rfl))) (notFace_of_selects (args := #[]) (mvT hZ (hw _ (List.mem_of_getElem? (i := 50) rfl)))) (mvT hZ (hw _ (List.mem_of_getElem? (i := 50) rfl))) (mvT hZ (hw _ (List.mem_of_getElem? (i := 49) rfl))) (by decide) (backOf (W := 0) (rmEqx l Z _ hw [] B1 B2 s1 s2 q2 q3 j16 j18 E1 h0 n0 Z0 fa1 fa2 fa5 fa8 fa6 fa9 fa7 fa10 hM1) hZ (hw _ (List.mem_of_getElem? (i := 51) rfl)) (hw _ (List.mem_of_getElem? (i := 2) rfl)) (by decide) (by decide)) q178a q178c (g := (mkF m 314 #[.val (.int p0), .val (.int p1), .val (.long q2), .second, .val (.long q3), .second, .val (.long q4), .second, .val (.int p5), .val (.int i9), .val (.int cA0), .val (.int cA1), .val (.int i12), .val (.int i13), .val (.int cB0), .val (.int cB1), .val (.long j16), .second, .val (.long j18), .second, .val (.int i20), .val (.ref B1), .val (.ref B2), .val (.ref rl), .val (.int (1 : Int32)), .val (.int (0 : Int32))] [(.ref B2), (.ref B1)])) rfl (by rw [hml]; rfl) (Steps.refl _) (argsL := [(.ref B2)]) (rest := []) (lenOf pd_7 rfl) rfl (by show 2 * 0 + _ ≤ _; exact Nat.le_of_eq rfl) (hb hby at_314) (fun _ _ => ⟨rfl, e0, (by decide : 15 + 0 ≤ _), (by decide : 40 + 0 ≤ _)⟩)
                dsimp only [Pt.U, Pt.locs, Pt.cells, Pt.slots] at X177 l177 y177 z177 st177 hQ177
                subst l177 y177 z177
                obtain ⟨rfl, Nq177, hs177⟩ := hQ177
                have N179 := Fr.app N0 Nq177
                refine OFin.to (S' := T177.setTop (mkF m 317 #[.val (.int p0), .val (.int p1), .val (.long q2), .second, .val (.long q3), .second, .val (.long q4), .second, .val (.int p5), .val (.int i9), .val (.int cA0), .val (.int cA1), .val (.int i12), .val (.int i13), .val (.int cB0), .val (.int cB1), .val (.long j16), .second, .val (.long j18), .second, .val (.int i20), .val (.ref B1), .val (.ref B2), .val (.ref rl), .val (.int (1 : Int32)), .val (.int (0 : Int32))] [(.int (own_beq E1 q2 q3 j16 j18))])) st177 ?_
                refine OFin.of (S' := T177.setTop (mkF m 326 #[.val (.int p0), .val (.int p1), .val (.long q2), .second, .val (.long q3), .second, .val (.long q4), .second, .val (.int p5), .val (.int i9), .val (.int cA0), .val (.int cA1), .val (.int i12), .val (.int i13), .val (.int cB0), .val (.int cB1), .val (.long j16), .second, .val (.long j18), .second, .val (.int i20), .val (.ref B1), .val (.ref B2), .val (.ref rl), .val (.int (1 : Int32)), .val (.int (0 : Int32))] [(.ref B1), (.ref B2)])) (fun t ht => ?_) ?_
                · refine XS.iload X177.here hx rfl (hb hby at_317) rfl ?_
                  show Steps p.tables e below (T177.setTop (mkF m 319 _ [(.int (0 : Int32)), (.int (own_beq E1 q2 q3 j16 j18))])) _
                  refine XS.icmpNo X177.here hx rfl (hb hby at_319) rfl (teq (own_beq_l (hE1.trans ((own_e_0 hc160 hc161).trans (own_t_1 hc162))) hc163 : (own_beq E1 q2 q3 j16 j18) = (0 : Int32))).2 ?_
                  show Steps p.tables e below (T177.setTop (mkF m 322 _ [])) _
                  refine XS.aload X177.here hx rfl (hb hby at_322) rfl rfl ?_
                  show Steps p.tables e below (T177.setTop (mkF m 324 _ [(.ref B2)])) _
                  refine XS.aload X177.here hx rfl (hb hby at_324) rfl rfl ?_
                  exact ht
                obtain ⟨cq181, kq181, q181a, q181b, q181c⟩ := isOf hZ hs177 fa1
                obtain ⟨_, _, ⟨T180, L180, k180, n180⟩, -, X180, ⟨Lc180, hQ180, l180, y180, z180⟩, st180⟩ := X177.virtualBack hx (y := (⟨"com/example/greylag/greylag/model/Bundle", "equals", "(Ljava/lang/Object;)Z"⟩ : MethodName)) (z := (⟨"com/example/greylag/greylag/model/Bundle", "equals", "(Ljava/lang/Object;)Z"⟩ : MethodName)) hown (mvT hZ (hw _ (List.mem_of_getElem? (i := 47) rfl))) (mvT hZ (hw _ (List.mem_of_getElem? (i := 48) rfl))) (notFace_of_selects (args := #[]) (mvT hZ (hw _ (List.mem_of_getElem? (i := 50) rfl)))) (mvT hZ (hw _ (List.mem_of_getElem? (i := 50) rfl))) (mvT hZ (hw _ (List.mem_of_getElem? (i := 49) rfl))) (by decide) (backOf (W := 0) (rmEqx l Z _ hw [] B2 B1 s2 s1 j16 j18 q2 q3 E2 h0 n0 Z0 fa0 fa3 fa8 fa5 fa9 fa6 fa10 fa7 hM2) hZ (hw _ (List.mem_of_getElem? (i := 51) rfl)) (hw _ (List.mem_of_getElem? (i := 2) rfl)) (by decide) (by decide)) q181a q181c (g := (mkF m 326 #[.val (.int p0), .val (.int p1), .val (.long q2), .second, .val (.long q3), .second, .val (.long q4), .second, .val (.int p5), .val (.int i9), .val (.int cA0), .val (.int cA1), .val (.int i12), .val (.int i13), .val (.int cB0), .val (.int cB1), .val (.long j16), .second, .val (.long j18), .second, .val (.int i20), .val (.ref B1), .val (.ref B2), .val (.ref rl), .val (.int (1 : Int32)), .val (.int (0 : Int32))] [(.ref B1), (.ref B2)])) rfl (by rw [hml]; rfl) (Steps.refl _) (argsL := [(.ref B1)]) (rest := []) (lenOf pd_7 rfl) rfl (by show 2 * 0 + _ ≤ _; exact Nat.le_of_eq rfl) (hb hby at_326) (fun _ _ => ⟨rfl, hs177, (by decide : 15 + 0 ≤ _), (by decide : 40 + 0 ≤ _)⟩)
                dsimp only [Pt.U, Pt.locs, Pt.cells, Pt.slots] at X180 l180 y180 z180 st180 hQ180
                subst l180 y180 z180
                obtain ⟨rfl, Nq180, hs180⟩ := hQ180
                have N182 := Fr.app N179 Nq180
                refine OFin.to (S' := T180.setTop (mkF m 329 #[.val (.int p0), .val (.int p1), .val (.long q2), .second, .val (.long q3), .second, .val (.long q4), .second, .val (.int p5), .val (.int i9), .val (.int cA0), .val (.int cA1), .val (.int i12), .val (.int i13), .val (.int cB0), .val (.int cB1), .val (.long j16), .second, .val (.long j18), .second, .val (.int i20), .val (.ref B1), .val (.ref B2), .val (.ref rl), .val (.int (1 : Int32)), .val (.int (0 : Int32))] [(.int (own_beq E2 j16 j18 q2 q3))])) st180 ?_
                refine OFin.of (S' := T180.setTop (mkF m 339 #[.val (.int p0), .val (.int p1), .val (.long q2), .second, .val (.long q3), .second, .val (.long q4), .second, .val (.int p5), .val (.int i9), .val (.int cA0), .val (.int cA1), .val (.int i12), .val (.int i13), .val (.int cB0), .val (.int cB1), .val (.long j16), .second, .val (.long j18), .second, .val (.int i20), .val (.ref B1), .val (.ref B2), .val (.ref rl), .val (.int (1 : Int32)), .val (.int (0 : Int32))] [(.int (1 : Int32))])) (fun t ht => ?_) ?_
                · refine XS.iload X180.here hx rfl (hb hby at_329) rfl ?_
                  show Steps p.tables e below (T180.setTop (mkF m 331 _ [(.int (0 : Int32)), (.int (own_beq E2 j16 j18 q2 q3))])) _
                  refine XS.icmpNo X180.here hx rfl (hb hby at_331) rfl (teq (own_beq_l (hE2.trans ((own_e_0 hc160 hc161).trans (own_t_1 hc162))) (own_lwsn hc163) : (own_beq E2 j16 j18 q2 q3) = (0 : Int32))).2 ?_
                  show Steps p.tables e below (T180.setTop (mkF m 334 _ [])) _
                  refine XS.iconst X180.here hx rfl (hb hby at_334) ?_
                  show Steps p.tables e below (T180.setTop (mkF m 335 _ [(.int (1 : Int32))])) _
                  refine XS.goto X180.here hx rfl (pc0 := 335) (pc' := 339) rfl (hb hby at_335) (by decide) (by decide) ?_
                  exact ht
                exact OFin.retBW (s := s) (vm₁ := vm1) X180 hS1 (by rw [hs180]; exact hk1) hx hlk (t := .boolean) (by simp) hret (hb hby at_339) (by decide) (by decide) (by rw [hs180]; exact hQ _ _ N182)
            · refine OFin.of (S' := T0.setTop (mkF m 273 #[.val (.int p0), .val (.int p1), .val (.long q2), .second, .val (.long q3), .second, .val (.long q4), .second, .val (.int p5), .val (.int i9), .val (.int cA0), .val (.int cA1), .val (.int i12), .val (.int i13), .val (.int cB0), .val (.int cB1), .val (.long j16), .second, .val (.long j18), .second, .val (.int i20), .val (.ref B1), .val (.ref B2), .val (.ref rl), .unset, .unset] [(.int cB1), (.int cA1)])) (fun t ht => ?_) ?_
              · refine XS.icmpNo X0.here hx rfl (hb hby at_266) rfl (flt (hc162 : ¬ (i9 < (2 : Int32)))).1 ?_
                show Steps p.tables e below (T0.setTop (mkF m 269 _ [])) _
                refine XS.iload X0.here hx rfl (hb hby at_269) rfl ?_
                show Steps p.tables e below (T0.setTop (mkF m 271 _ [(.int cA1)])) _
                refine XS.iload X0.here hx rfl (hb hby at_271) rfl ?_
                exact ht
              by_cases hc183 : cA1 = cB1
              · refine OFin.of (S' := T0.setTop (mkF m 292 #[.val (.int p0), .val (.int p1), .val (.long q2), .second, .val (.long q3), .second, .val (.long q4), .second, .val (.int p5), .val (.int i9), .val (.int cA0), .val (.int cA1), .val (.int i12), .val (.int i13), .val (.int cB0), .val (.int cB1), .val (.long j16), .second, .val (.long j18), .second, .val (.int i20), .val (.ref B1), .val (.ref B2), .val (.ref rl), .val (.int (1 : Int32)), .unset] [(.int (lcmpW q2 j16))])) (fun t ht => ?_) ?_
                · refine XS.icmpNo X0.here hx rfl (hb hby at_273) rfl (teq (hc183 : cA1 = cB1)).2 ?_
                  show Steps p.tables e below (T0.setTop (mkF m 276 _ [])) _
                  refine XS.iconst X0.here hx rfl (hb hby at_276) ?_
                  show Steps p.tables e below (T0.setTop (mkF m 277 _ [(.int (1 : Int32))])) _
                  refine XS.goto X0.here hx rfl (pc0 := 277) (pc' := 281) rfl (hb hby at_277) (by decide) (by decide) ?_
                  show Steps p.tables e below (T0.setTop (mkF m 281 _ [(.int (1 : Int32))])) _
                  refine XS.istore X0.here hx rfl (hb hby at_281) rfl (l' := #[.val (.int p0), .val (.int p1), .val (.long q2), .second, .val (.long q3), .second, .val (.long q4), .second, .val (.int p5), .val (.int i9), .val (.int cA0), .val (.int cA1), .val (.int i12), .val (.int i13), .val (.int cB0), .val (.int cB1), .val (.long j16), .second, .val (.long j18), .second, .val (.int i20), .val (.ref B1), .val (.ref B2), .val (.ref rl), .val (.int (1 : Int32)), .unset]) rfl ?_
                  show Steps p.tables e below (T0.setTop (mkF m 283 #[.val (.int p0), .val (.int p1), .val (.long q2), .second, .val (.long q3), .second, .val (.long q4), .second, .val (.int p5), .val (.int i9), .val (.int cA0), .val (.int cA1), .val (.int i12), .val (.int i13), .val (.int cB0), .val (.int cB1), .val (.long j16), .second, .val (.long j18), .second, .val (.int i20), .val (.ref B1), .val (.ref B2), .val (.ref rl), .val (.int (1 : Int32)), .unset] [])) _
                  refine XS.iload X0.here hx rfl (hb hby at_283) rfl ?_
                  show Steps p.tables e below (T0.setTop (mkF m 285 _ [(.int (1 : Int32))])) _
                  refine XS.ifNo X0.here hx rfl (hb hby at_285) rfl ((if0 _ _).trans (feq (by decide : ¬ ((1 : Int32) = (0 : Int32)))).1) ?_
                  show Steps p.tables e below (T0.setTop (mkF m 288 _ [])) _
                  refine XS.lloadN X0.here hx rfl (hb hby at_288) rfl ?_
                  show Steps p.tables e below (T0.setTop (mkF m 289 _ [(.long q2)])) _
                  refine XS.lload X0.here hx rfl (hb hby at_289) rfl ?_
                  show Steps p.tables e below (T0.setTop (mkF m 291 _ [(.long j16), (.long q2)])) _
                  refine XS.lcmp X0.here hx rfl (hb hby at_291) rfl ?_
                  exact ht
                by_cases hc184 : (lcmpW q2 j16) = (0 : Int32)
                · refine OFin.of (S' := T0.setTop (mkF m 300 #[.val (.int p0), .val (.int p1), .val (.long q2), .second, .val (.long q3), .second, .val (.long q4), .second, .val (.int p5), .val (.int i9), .val (.int cA0), .val (.int cA1), .val (.int i12), .val (.int i13), .val (.int cB0), .val (.int cB1), .val (.long j16), .second, .val (.long j18), .second, .val (.int i20), .val (.ref B1), .val (.ref B2), .val (.ref rl), .val (.int (1 : Int32)), .unset] [(.int (lcmpW q3 j18))])) (fun t ht => ?_) ?_
                  · refine XS.ifNo X0.here hx rfl (hb hby at_292) rfl ((if0 _ _).trans (teq (hc184 : (lcmpW q2 j16) = (0 : Int32))).2) ?_
                    show Steps p.tables e below (T0.setTop (mkF m 295 _ [])) _
                    refine XS.lload X0.here hx rfl (hb hby at_295) rfl ?_
                    show Steps p.tables e below (T0.setTop (mkF m 297 _ [(.long q3)])) _
                    refine XS.lload X0.here hx rfl (hb hby at_297) rfl ?_
                    show Steps p.tables e below (T0.setTop (mkF m 299 _ [(.long j18), (.long q3)])) _
                    refine XS.lcmp X0.here hx rfl (hb hby at_299) rfl ?_
                    exact ht
                  by_cases hc185 : (lcmpW q3 j18) = (0 : Int32)
                  · refine OFin.of (S' := T0.setTop (mkF m 314 #[.val (.int p0), .val (.int p1), .val (.long q2), .second, .val (.long q3), .second, .val (.long q4), .second, .val (.int p5), .val (.int i9), .val (.int cA0), .val (.int cA1), .val (.int i12), .val (.int i13), .val (.int cB0), .val (.int cB1), .val (.long j16), .second, .val (.long j18), .second, .val (.int i20), .val (.ref B1), .val (.ref B2), .val (.ref rl), .val (.int (1 : Int32)), .val (.int (1 : Int32))] [(.ref B2), (.ref B1)])) (fun t ht => ?_) ?_
                    · refine XS.ifNo X0.here hx rfl (hb hby at_300) rfl ((if0 _ _).trans (teq (hc185 : (lcmpW q3 j18) = (0 : Int32))).2) ?_
                      show Steps p.tables e below (T0.setTop (mkF m 303 _ [])) _
                      refine XS.iconst X0.here hx rfl (hb hby at_303) ?_
                      show Steps p.tables e below (T0.setTop (mkF m 304 _ [(.int (1 : Int32))])) _
                      refine XS.goto X0.here hx rfl (pc0 := 304) (pc' := 308) rfl (hb hby at_304) (by decide) (by decide) ?_
                      show Steps p.tables e below (T0.setTop (mkF m 308 _ [(.int (1 : Int32))])) _
                      refine XS.istore X0.here hx rfl (hb hby at_308) rfl (l' := #[.val (.int p0), .val (.int p1), .val (.long q2), .second, .val (.long q3), .second, .val (.long q4), .second, .val (.int p5), .val (.int i9), .val (.int cA0), .val (.int cA1), .val (.int i12), .val (.int i13), .val (.int cB0), .val (.int cB1), .val (.long j16), .second, .val (.long j18), .second, .val (.int i20), .val (.ref B1), .val (.ref B2), .val (.ref rl), .val (.int (1 : Int32)), .val (.int (1 : Int32))]) rfl ?_
                      show Steps p.tables e below (T0.setTop (mkF m 310 #[.val (.int p0), .val (.int p1), .val (.long q2), .second, .val (.long q3), .second, .val (.long q4), .second, .val (.int p5), .val (.int i9), .val (.int cA0), .val (.int cA1), .val (.int i12), .val (.int i13), .val (.int cB0), .val (.int cB1), .val (.long j16), .second, .val (.long j18), .second, .val (.int i20), .val (.ref B1), .val (.ref B2), .val (.ref rl), .val (.int (1 : Int32)), .val (.int (1 : Int32))] [])) _
                      refine XS.aload X0.here hx rfl (hb hby at_310) rfl rfl ?_
                      show Steps p.tables e below (T0.setTop (mkF m 312 _ [(.ref B1)])) _
                      refine XS.aload X0.here hx rfl (hb hby at_312) rfl rfl ?_
                      exact ht
                    obtain ⟨cq187, kq187, q187a, q187b, q187c⟩ := isOf hZ e0 fa0
                    obtain ⟨_, _, ⟨T186, L186, k186, n186⟩, -, X186, ⟨Lc186, hQ186, l186, y186, z186⟩, st186⟩ := X0.virtualBack hx (y := (⟨"com/example/greylag/greylag/model/Bundle", "equals", "(Ljava/lang/Object;)Z"⟩ : MethodName)) (z := (⟨"com/example/greylag/greylag/model/Bundle", "equals", "(Ljava/lang/Object;)Z"⟩ : MethodName)) hown (mvT hZ (hw _ (List.mem_of_getElem? (i := 47) rfl))) (mvT hZ (hw _ (List.mem_of_getElem? (i := 48) rfl))) (notFace_of_selects (args := #[]) (mvT hZ (hw _ (List.mem_of_getElem? (i := 50) rfl)))) (mvT hZ (hw _ (List.mem_of_getElem? (i := 50) rfl))) (mvT hZ (hw _ (List.mem_of_getElem? (i := 49) rfl))) (by decide) (backOf (W := 0) (rmEqx l Z _ hw [] B1 B2 s1 s2 q2 q3 j16 j18 E1 h0 n0 Z0 fa1 fa2 fa5 fa8 fa6 fa9 fa7 fa10 hM1) hZ (hw _ (List.mem_of_getElem? (i := 51) rfl)) (hw _ (List.mem_of_getElem? (i := 2) rfl)) (by decide) (by decide)) q187a q187c (g := (mkF m 314 #[.val (.int p0), .val (.int p1), .val (.long q2), .second, .val (.long q3), .second, .val (.long q4), .second, .val (.int p5), .val (.int i9), .val (.int cA0), .val (.int cA1), .val (.int i12), .val (.int i13), .val (.int cB0), .val (.int cB1), .val (.long j16), .second, .val (.long j18), .second, .val (.int i20), .val (.ref B1), .val (.ref B2), .val (.ref rl), .val (.int (1 : Int32)), .val (.int (1 : Int32))] [(.ref B2), (.ref B1)])) rfl (by rw [hml]; rfl) (Steps.refl _) (argsL := [(.ref B2)]) (rest := []) (lenOf pd_7 rfl) rfl (by show 2 * 0 + _ ≤ _; exact Nat.le_of_eq rfl) (hb hby at_314) (fun _ _ => ⟨rfl, e0, (by decide : 15 + 0 ≤ _), (by decide : 40 + 0 ≤ _)⟩)
                    dsimp only [Pt.U, Pt.locs, Pt.cells, Pt.slots] at X186 l186 y186 z186 st186 hQ186
                    subst l186 y186 z186
                    obtain ⟨rfl, Nq186, hs186⟩ := hQ186
                    have N188 := Fr.app N0 Nq186
                    refine OFin.to (S' := T186.setTop (mkF m 317 #[.val (.int p0), .val (.int p1), .val (.long q2), .second, .val (.long q3), .second, .val (.long q4), .second, .val (.int p5), .val (.int i9), .val (.int cA0), .val (.int cA1), .val (.int i12), .val (.int i13), .val (.int cB0), .val (.int cB1), .val (.long j16), .second, .val (.long j18), .second, .val (.int i20), .val (.ref B1), .val (.ref B2), .val (.ref rl), .val (.int (1 : Int32)), .val (.int (1 : Int32))] [(.int (own_beq E1 q2 q3 j16 j18))])) st186 ?_
                    refine OFin.of (S' := T186.setTop (mkF m 326 #[.val (.int p0), .val (.int p1), .val (.long q2), .second, .val (.long q3), .second, .val (.long q4), .second, .val (.int p5), .val (.int i9), .val (.int cA0), .val (.int cA1), .val (.int i12), .val (.int i13), .val (.int cB0), .val (.int cB1), .val (.long j16), .second, .val (.long j18), .second, .val (.int i20), .val (.ref B1), .val (.ref B2), .val (.ref rl), .val (.int (1 : Int32)), .val (.int (1 : Int32))] [(.ref B1), (.ref B2)])) (fun t ht => ?_) ?_
                    · refine XS.iload X186.here hx rfl (hb hby at_317) rfl ?_
                      show Steps p.tables e below (T186.setTop (mkF m 319 _ [(.int (1 : Int32)), (.int (own_beq E1 q2 q3 j16 j18))])) _
                      refine XS.icmpNo X186.here hx rfl (hb hby at_319) rfl (teq (own_beq_1 (hE1.trans ((own_e_0 hc160 hc161).trans (own_t_2 hc162 hc183))) hc184 hc185 : (own_beq E1 q2 q3 j16 j18) = (1 : Int32))).2 ?_
                      show Steps p.tables e below (T186.setTop (mkF m 322 _ [])) _
                      refine XS.aload X186.here hx rfl (hb hby at_322) rfl rfl ?_
                      show Steps p.tables e below (T186.setTop (mkF m 324 _ [(.ref B2)])) _
                      refine XS.aload X186.here hx rfl (hb hby at_324) rfl rfl ?_
                      exact ht
                    obtain ⟨cq190, kq190, q190a, q190b, q190c⟩ := isOf hZ hs186 fa1
                    obtain ⟨_, _, ⟨T189, L189, k189, n189⟩, -, X189, ⟨Lc189, hQ189, l189, y189, z189⟩, st189⟩ := X186.virtualBack hx (y := (⟨"com/example/greylag/greylag/model/Bundle", "equals", "(Ljava/lang/Object;)Z"⟩ : MethodName)) (z := (⟨"com/example/greylag/greylag/model/Bundle", "equals", "(Ljava/lang/Object;)Z"⟩ : MethodName)) hown (mvT hZ (hw _ (List.mem_of_getElem? (i := 47) rfl))) (mvT hZ (hw _ (List.mem_of_getElem? (i := 48) rfl))) (notFace_of_selects (args := #[]) (mvT hZ (hw _ (List.mem_of_getElem? (i := 50) rfl)))) (mvT hZ (hw _ (List.mem_of_getElem? (i := 50) rfl))) (mvT hZ (hw _ (List.mem_of_getElem? (i := 49) rfl))) (by decide) (backOf (W := 0) (rmEqx l Z _ hw [] B2 B1 s2 s1 j16 j18 q2 q3 E2 h0 n0 Z0 fa0 fa3 fa8 fa5 fa9 fa6 fa10 fa7 hM2) hZ (hw _ (List.mem_of_getElem? (i := 51) rfl)) (hw _ (List.mem_of_getElem? (i := 2) rfl)) (by decide) (by decide)) q190a q190c (g := (mkF m 326 #[.val (.int p0), .val (.int p1), .val (.long q2), .second, .val (.long q3), .second, .val (.long q4), .second, .val (.int p5), .val (.int i9), .val (.int cA0), .val (.int cA1), .val (.int i12), .val (.int i13), .val (.int cB0), .val (.int cB1), .val (.long j16), .second, .val (.long j18), .second, .val (.int i20), .val (.ref B1), .val (.ref B2), .val (.ref rl), .val (.int (1 : Int32)), .val (.int (1 : Int32))] [(.ref B1), (.ref B2)])) rfl (by rw [hml]; rfl) (Steps.refl _) (argsL := [(.ref B1)]) (rest := []) (lenOf pd_7 rfl) rfl (by show 2 * 0 + _ ≤ _; exact Nat.le_of_eq rfl) (hb hby at_326) (fun _ _ => ⟨rfl, hs186, (by decide : 15 + 0 ≤ _), (by decide : 40 + 0 ≤ _)⟩)
                    dsimp only [Pt.U, Pt.locs, Pt.cells, Pt.slots] at X189 l189 y189 z189 st189 hQ189
                    subst l189 y189 z189
                    obtain ⟨rfl, Nq189, hs189⟩ := hQ189
                    have N191 := Fr.app N188 Nq189
                    refine OFin.to (S' := T189.setTop (mkF m 329 #[.val (.int p0), .val (.int p1), .val (.long q2), .second, .val (.long q3), .second, .val (.long q4), .second, .val (.int p5), .val (.int i9), .val (.int cA0), .val (.int cA1), .val (.int i12), .val (.int i13), .val (.int cB0), .val (.int cB1), .val (.long j16), .second, .val (.long j18), .second, .val (.int i20), .val (.ref B1), .val (.ref B2), .val (.ref rl), .val (.int (1 : Int32)), .val (.int (1 : Int32))] [(.int (own_beq E2 j16 j18 q2 q3))])) st189 ?_
                    refine OFin.of (S' := T189.setTop (mkF m 339 #[.val (.int p0), .val (.int p1), .val (.long q2), .second, .val (.long q3), .second, .val (.long q4), .second, .val (.int p5), .val (.int i9), .val (.int cA0), .val (.int cA1), .val (.int i12), .val (.int i13), .val (.int cB0), .val (.int cB1), .val (.long j16), .second, .val (.long j18), .second, .val (.int i20), .val (.ref B1), .val (.ref B2), .val (.ref rl), .val (.int (1 : Int32)), .val (.int (1 : Int32))] [(.int (1 : Int32))])) (fun t ht => ?_) ?_
                    · refine XS.iload X189.here hx rfl (hb hby at_329) rfl ?_
                      show Steps p.tables e below (T189.setTop (mkF m 331 _ [(.int (1 : Int32)), (.int (own_beq E2 j16 j18 q2 q3))])) _
                      refine XS.icmpNo X189.here hx rfl (hb hby at_331) rfl (teq (own_beq_1 (hE2.trans ((own_e_0 hc160 hc161).trans (own_t_2 hc162 hc183))) (own_lws hc184) (own_lws hc185) : (own_beq E2 j16 j18 q2 q3) = (1 : Int32))).2 ?_
                      show Steps p.tables e below (T189.setTop (mkF m 334 _ [])) _
                      refine XS.iconst X189.here hx rfl (hb hby at_334) ?_
                      show Steps p.tables e below (T189.setTop (mkF m 335 _ [(.int (1 : Int32))])) _
                      refine XS.goto X189.here hx rfl (pc0 := 335) (pc' := 339) rfl (hb hby at_335) (by decide) (by decide) ?_
                      exact ht
                    exact OFin.retBW (s := s) (vm₁ := vm1) X189 hS1 (by rw [hs189]; exact hk1) hx hlk (t := .boolean) (by simp) hret (hb hby at_339) (by decide) (by decide) (by rw [hs189]; exact hQ _ _ N191)
                  · refine OFin.of (S' := T0.setTop (mkF m 314 #[.val (.int p0), .val (.int p1), .val (.long q2), .second, .val (.long q3), .second, .val (.long q4), .second, .val (.int p5), .val (.int i9), .val (.int cA0), .val (.int cA1), .val (.int i12), .val (.int i13), .val (.int cB0), .val (.int cB1), .val (.long j16), .second, .val (.long j18), .second, .val (.int i20), .val (.ref B1), .val (.ref B2), .val (.ref rl), .val (.int (1 : Int32)), .val (.int (0 : Int32))] [(.ref B2), (.ref B1)])) (fun t ht => ?_) ?_
                    · refine XS.ifYes X0.here hx rfl (pc0 := 300) (pc' := 307) rfl (hb hby at_300) rfl ((if0 _ _).trans (feq (hc185 : ¬ ((lcmpW q3 j18) = (0 : Int32)))).2) (by decide) (by decide) ?_
                      show Steps p.tables e below (T0.setTop (mkF m 307 _ [])) _
                      refine XS.iconst X0.here hx rfl (hb hby at_307) ?_
                      show Steps p.tables e below (T0.setTop (mkF m 308 _ [(.int (0 : Int32))])) _
                      refine XS.istore X0.here hx rfl (hb hby at_308) rfl (l' := #[.val (.int p0), .val (.int p1), .val (.long q2), .second, .val (.long q3), .second, .val (.long q4), .second, .val (.int p5), .val (.int i9), .val (.int cA0), .val (.int cA1), .val (.int i12), .val (.int i13), .val (.int cB0), .val (.int cB1), .val (.long j16), .second, .val (.long j18), .second, .val (.int i20), .val (.ref B1), .val (.ref B2), .val (.ref rl), .val (.int (1 : Int32)), .val (.int (0 : Int32))]) rfl ?_
                      show Steps p.tables e below (T0.setTop (mkF m 310 #[.val (.int p0), .val (.int p1), .val (.long q2), .second, .val (.long q3), .second, .val (.long q4), .second, .val (.int p5), .val (.int i9), .val (.int cA0), .val (.int cA1), .val (.int i12), .val (.int i13), .val (.int cB0), .val (.int cB1), .val (.long j16), .second, .val (.long j18), .second, .val (.int i20), .val (.ref B1), .val (.ref B2), .val (.ref rl), .val (.int (1 : Int32)), .val (.int (0 : Int32))] [])) _
                      refine XS.aload X0.here hx rfl (hb hby at_310) rfl rfl ?_
                      show Steps p.tables e below (T0.setTop (mkF m 312 _ [(.ref B1)])) _
                      refine XS.aload X0.here hx rfl (hb hby at_312) rfl rfl ?_
                      exact ht
                    obtain ⟨cq193, kq193, q193a, q193b, q193c⟩ := isOf hZ e0 fa0
                    obtain ⟨_, _, ⟨T192, L192, k192, n192⟩, -, X192, ⟨Lc192, hQ192, l192, y192, z192⟩, st192⟩ := X0.virtualBack hx (y := (⟨"com/example/greylag/greylag/model/Bundle", "equals", "(Ljava/lang/Object;)Z"⟩ : MethodName)) (z := (⟨"com/example/greylag/greylag/model/Bundle", "equals", "(Ljava/lang/Object;)Z"⟩ : MethodName)) hown (mvT hZ (hw _ (List.mem_of_getElem? (i := 47) rfl))) (mvT hZ (hw _ (List.mem_of_getElem? (i := 48) rfl))) (notFace_of_selects (args := #[]) (mvT hZ (hw _ (List.mem_of_getElem? (i := 50) rfl)))) (mvT hZ (hw _ (List.mem_of_getElem? (i := 50) rfl))) (mvT hZ (hw _ (List.mem_of_getElem? (i := 49) rfl))) (by decide) (backOf (W := 0) (rmEqx l Z _ hw [] B1 B2 s1 s2 q2 q3 j16 j18 E1 h0 n0 Z0 fa1 fa2 fa5 fa8 fa6 fa9 fa7 fa10 hM1) hZ (hw _ (List.mem_of_getElem? (i := 51) rfl)) (hw _ (List.mem_of_getElem? (i := 2) rfl)) (by decide) (by decide)) q193a q193c (g := (mkF m 314 #[.val (.int p0), .val (.int p1), .val (.long q2), .second, .val (.long q3), .second, .val (.long q4), .second, .val (.int p5), .val (.int i9), .val (.int cA0), .val (.int cA1), .val (.int i12), .val (.int i13), .val (.int cB0), .val (.int cB1), .val (.long j16), .second, .val (.long j18), .second, .val (.int i20), .val (.ref B1), .val (.ref B2), .val (.ref rl), .val (.int (1 : Int32)), .val (.int (0 : Int32))] [(.ref B2), (.ref B1)])) rfl (by rw [hml]; rfl) (Steps.refl _) (argsL := [(.ref B2)]) (rest := []) (lenOf pd_7 rfl) rfl (by show 2 * 0 + _ ≤ _; exact Nat.le_of_eq rfl) (hb hby at_314) (fun _ _ => ⟨rfl, e0, (by decide : 15 + 0 ≤ _), (by decide : 40 + 0 ≤ _)⟩)
                    dsimp only [Pt.U, Pt.locs, Pt.cells, Pt.slots] at X192 l192 y192 z192 st192 hQ192
                    subst l192 y192 z192
                    obtain ⟨rfl, Nq192, hs192⟩ := hQ192
                    have N194 := Fr.app N0 Nq192
                    refine OFin.to (S' := T192.setTop (mkF m 317 #[.val (.int p0), .val (.int p1), .val (.long q2), .second, .val (.long q3), .second, .val (.long q4), .second, .val (.int p5), .val (.int i9), .val (.int cA0), .val (.int cA1), .val (.int i12), .val (.int i13), .val (.int cB0), .val (.int cB1), .val (.long j16), .second, .val (.long j18), .second, .val (.int i20), .val (.ref B1), .val (.ref B2), .val (.ref rl), .val (.int (1 : Int32)), .val (.int (0 : Int32))] [(.int (own_beq E1 q2 q3 j16 j18))])) st192 ?_
                    refine OFin.of (S' := T192.setTop (mkF m 326 #[.val (.int p0), .val (.int p1), .val (.long q2), .second, .val (.long q3), .second, .val (.long q4), .second, .val (.int p5), .val (.int i9), .val (.int cA0), .val (.int cA1), .val (.int i12), .val (.int i13), .val (.int cB0), .val (.int cB1), .val (.long j16), .second, .val (.long j18), .second, .val (.int i20), .val (.ref B1), .val (.ref B2), .val (.ref rl), .val (.int (1 : Int32)), .val (.int (0 : Int32))] [(.ref B1), (.ref B2)])) (fun t ht => ?_) ?_
                    · refine XS.iload X192.here hx rfl (hb hby at_317) rfl ?_
                      show Steps p.tables e below (T192.setTop (mkF m 319 _ [(.int (0 : Int32)), (.int (own_beq E1 q2 q3 j16 j18))])) _
                      refine XS.icmpNo X192.here hx rfl (hb hby at_319) rfl (teq (own_beq_u (hE1.trans ((own_e_0 hc160 hc161).trans (own_t_2 hc162 hc183))) hc184 hc185 : (own_beq E1 q2 q3 j16 j18) = (0 : Int32))).2 ?_
                      show Steps p.tables e below (T192.setTop (mkF m 322 _ [])) _
                      refine XS.aload X192.here hx rfl (hb hby at_322) rfl rfl ?_
                      show Steps p.tables e below (T192.setTop (mkF m 324 _ [(.ref B2)])) _
                      refine XS.aload X192.here hx rfl (hb hby at_324) rfl rfl ?_
                      exact ht
                    obtain ⟨cq196, kq196, q196a, q196b, q196c⟩ := isOf hZ hs192 fa1
                    obtain ⟨_, _, ⟨T195, L195, k195, n195⟩, -, X195, ⟨Lc195, hQ195, l195, y195, z195⟩, st195⟩ := X192.virtualBack hx (y := (⟨"com/example/greylag/greylag/model/Bundle", "equals", "(Ljava/lang/Object;)Z"⟩ : MethodName)) (z := (⟨"com/example/greylag/greylag/model/Bundle", "equals", "(Ljava/lang/Object;)Z"⟩ : MethodName)) hown (mvT hZ (hw _ (List.mem_of_getElem? (i := 47) rfl))) (mvT hZ (hw _ (List.mem_of_getElem? (i := 48) rfl))) (notFace_of_selects (args := #[]) (mvT hZ (hw _ (List.mem_of_getElem? (i := 50) rfl)))) (mvT hZ (hw _ (List.mem_of_getElem? (i := 50) rfl))) (mvT hZ (hw _ (List.mem_of_getElem? (i := 49) rfl))) (by decide) (backOf (W := 0) (rmEqx l Z _ hw [] B2 B1 s2 s1 j16 j18 q2 q3 E2 h0 n0 Z0 fa0 fa3 fa8 fa5 fa9 fa6 fa10 fa7 hM2) hZ (hw _ (List.mem_of_getElem? (i := 51) rfl)) (hw _ (List.mem_of_getElem? (i := 2) rfl)) (by decide) (by decide)) q196a q196c (g := (mkF m 326 #[.val (.int p0), .val (.int p1), .val (.long q2), .second, .val (.long q3), .second, .val (.long q4), .second, .val (.int p5), .val (.int i9), .val (.int cA0), .val (.int cA1), .val (.int i12), .val (.int i13), .val (.int cB0), .val (.int cB1), .val (.long j16), .second, .val (.long j18), .second, .val (.int i20), .val (.ref B1), .val (.ref B2), .val (.ref rl), .val (.int (1 : Int32)), .val (.int (0 : Int32))] [(.ref B1), (.ref B2)])) rfl (by rw [hml]; rfl) (Steps.refl _) (argsL := [(.ref B1)]) (rest := []) (lenOf pd_7 rfl) rfl (by show 2 * 0 + _ ≤ _; exact Nat.le_of_eq rfl) (hb hby at_326) (fun _ _ => ⟨rfl, hs192, (by decide : 15 + 0 ≤ _), (by decide : 40 + 0 ≤ _)⟩)
                    dsimp only [Pt.U, Pt.locs, Pt.cells, Pt.slots] at X195 l195 y195 z195 st195 hQ195
                    subst l195 y195 z195
                    obtain ⟨rfl, Nq195, hs195⟩ := hQ195
                    have N197 := Fr.app N194 Nq195
                    refine OFin.to (S' := T195.setTop (mkF m 329 #[.val (.int p0), .val (.int p1), .val (.long q2), .second, .val (.long q3), .second, .val (.long q4), .second, .val (.int p5), .val (.int i9), .val (.int cA0), .val (.int cA1), .val (.int i12), .val (.int i13), .val (.int cB0), .val (.int cB1), .val (.long j16), .second, .val (.long j18), .second, .val (.int i20), .val (.ref B1), .val (.ref B2), .val (.ref rl), .val (.int (1 : Int32)), .val (.int (0 : Int32))] [(.int (own_beq E2 j16 j18 q2 q3))])) st195 ?_
                    refine OFin.of (S' := T195.setTop (mkF m 339 #[.val (.int p0), .val (.int p1), .val (.long q2), .second, .val (.long q3), .second, .val (.long q4), .second, .val (.int p5), .val (.int i9), .val (.int cA0), .val (.int cA1), .val (.int i12), .val (.int i13), .val (.int cB0), .val (.int cB1), .val (.long j16), .second, .val (.long j18), .second, .val (.int i20), .val (.ref B1), .val (.ref B2), .val (.ref rl), .val (.int (1 : Int32)), .val (.int (0 : Int32))] [(.int (1 : Int32))])) (fun t ht => ?_) ?_
                    · refine XS.iload X195.here hx rfl (hb hby at_329) rfl ?_
                      show Steps p.tables e below (T195.setTop (mkF m 331 _ [(.int (0 : Int32)), (.int (own_beq E2 j16 j18 q2 q3))])) _
                      refine XS.icmpNo X195.here hx rfl (hb hby at_331) rfl (teq (own_beq_u (hE2.trans ((own_e_0 hc160 hc161).trans (own_t_2 hc162 hc183))) (own_lws hc184) (own_lwsn hc185) : (own_beq E2 j16 j18 q2 q3) = (0 : Int32))).2 ?_
                      show Steps p.tables e below (T195.setTop (mkF m 334 _ [])) _
                      refine XS.iconst X195.here hx rfl (hb hby at_334) ?_
                      show Steps p.tables e below (T195.setTop (mkF m 335 _ [(.int (1 : Int32))])) _
                      refine XS.goto X195.here hx rfl (pc0 := 335) (pc' := 339) rfl (hb hby at_335) (by decide) (by decide) ?_
                      exact ht
                    exact OFin.retBW (s := s) (vm₁ := vm1) X195 hS1 (by rw [hs195]; exact hk1) hx hlk (t := .boolean) (by simp) hret (hb hby at_339) (by decide) (by decide) (by rw [hs195]; exact hQ _ _ N197)
                · refine OFin.of (S' := T0.setTop (mkF m 314 #[.val (.int p0), .val (.int p1), .val (.long q2), .second, .val (.long q3), .second, .val (.long q4), .second, .val (.int p5), .val (.int i9), .val (.int cA0), .val (.int cA1), .val (.int i12), .val (.int i13), .val (.int cB0), .val (.int cB1), .val (.long j16), .second, .val (.long j18), .second, .val (.int i20), .val (.ref B1), .val (.ref B2), .val (.ref rl), .val (.int (1 : Int32)), .val (.int (0 : Int32))] [(.ref B2), (.ref B1)])) (fun t ht => ?_) ?_
                  · refine XS.ifYes X0.here hx rfl (pc0 := 292) (pc' := 307) rfl (hb hby at_292) rfl ((if0 _ _).trans (feq (hc184 : ¬ ((lcmpW q2 j16) = (0 : Int32)))).2) (by decide) (by decide) ?_
                    show Steps p.tables e below (T0.setTop (mkF m 307 _ [])) _
                    refine XS.iconst X0.here hx rfl (hb hby at_307) ?_
                    show Steps p.tables e below (T0.setTop (mkF m 308 _ [(.int (0 : Int32))])) _
                    refine XS.istore X0.here hx rfl (hb hby at_308) rfl (l' := #[.val (.int p0), .val (.int p1), .val (.long q2), .second, .val (.long q3), .second, .val (.long q4), .second, .val (.int p5), .val (.int i9), .val (.int cA0), .val (.int cA1), .val (.int i12), .val (.int i13), .val (.int cB0), .val (.int cB1), .val (.long j16), .second, .val (.long j18), .second, .val (.int i20), .val (.ref B1), .val (.ref B2), .val (.ref rl), .val (.int (1 : Int32)), .val (.int (0 : Int32))]) rfl ?_
                    show Steps p.tables e below (T0.setTop (mkF m 310 #[.val (.int p0), .val (.int p1), .val (.long q2), .second, .val (.long q3), .second, .val (.long q4), .second, .val (.int p5), .val (.int i9), .val (.int cA0), .val (.int cA1), .val (.int i12), .val (.int i13), .val (.int cB0), .val (.int cB1), .val (.long j16), .second, .val (.long j18), .second, .val (.int i20), .val (.ref B1), .val (.ref B2), .val (.ref rl), .val (.int (1 : Int32)), .val (.int (0 : Int32))] [])) _
                    refine XS.aload X0.here hx rfl (hb hby at_310) rfl rfl ?_
                    show Steps p.tables e below (T0.setTop (mkF m 312 _ [(.ref B1)])) _
                    refine XS.aload X0.here hx rfl (hb hby at_312) rfl rfl ?_
                    exact ht
                  obtain ⟨cq199, kq199, q199a, q199b, q199c⟩ := isOf hZ e0 fa0
                  obtain ⟨_, _, ⟨T198, L198, k198, n198⟩, -, X198, ⟨Lc198, hQ198, l198, y198, z198⟩, st198⟩ := X0.virtualBack hx (y := (⟨"com/example/greylag/greylag/model/Bundle", "equals", "(Ljava/lang/Object;)Z"⟩ : MethodName)) (z := (⟨"com/example/greylag/greylag/model/Bundle", "equals", "(Ljava/lang/Object;)Z"⟩ : MethodName)) hown (mvT hZ (hw _ (List.mem_of_getElem? (i := 47) rfl))) (mvT hZ (hw _ (List.mem_of_getElem? (i := 48) rfl))) (notFace_of_selects (args := #[]) (mvT hZ (hw _ (List.mem_of_getElem? (i := 50) rfl)))) (mvT hZ (hw _ (List.mem_of_getElem? (i := 50) rfl))) (mvT hZ (hw _ (List.mem_of_getElem? (i := 49) rfl))) (by decide) (backOf (W := 0) (rmEqx l Z _ hw [] B1 B2 s1 s2 q2 q3 j16 j18 E1 h0 n0 Z0 fa1 fa2 fa5 fa8 fa6 fa9 fa7 fa10 hM1) hZ (hw _ (List.mem_of_getElem? (i := 51) rfl)) (hw _ (List.mem_of_getElem? (i := 2) rfl)) (by decide) (by decide)) q199a q199c (g := (mkF m 314 #[.val (.int p0), .val (.int p1), .val (.long q2), .second, .val (.long q3), .second, .val (.long q4), .second, .val (.int p5), .val (.int i9), .val (.int cA0), .val (.int cA1), .val (.int i12), .val (.int i13), .val (.int cB0), .val (.int cB1), .val (.long j16), .second, .val (.long j18), .second, .val (.int i20), .val (.ref B1), .val (.ref B2), .val (.ref rl), .val (.int (1 : Int32)), .val (.int (0 : Int32))] [(.ref B2), (.ref B1)])) rfl (by rw [hml]; rfl) (Steps.refl _) (argsL := [(.ref B2)]) (rest := []) (lenOf pd_7 rfl) rfl (by show 2 * 0 + _ ≤ _; exact Nat.le_of_eq rfl) (hb hby at_314) (fun _ _ => ⟨rfl, e0, (by decide : 15 + 0 ≤ _), (by decide : 40 + 0 ≤ _)⟩)
                  dsimp only [Pt.U, Pt.locs, Pt.cells, Pt.slots] at X198 l198 y198 z198 st198 hQ198
                  subst l198 y198 z198
                  obtain ⟨rfl, Nq198, hs198⟩ := hQ198
                  have N200 := Fr.app N0 Nq198
                  refine OFin.to (S' := T198.setTop (mkF m 317 #[.val (.int p0), .val (.int p1), .val (.long q2), .second, .val (.long q3), .second, .val (.long q4), .second, .val (.int p5), .val (.int i9), .val (.int cA0), .val (.int cA1), .val (.int i12), .val (.int i13), .val (.int cB0), .val (.int cB1), .val (.long j16), .second, .val (.long j18), .second, .val (.int i20), .val (.ref B1), .val (.ref B2), .val (.ref rl), .val (.int (1 : Int32)), .val (.int (0 : Int32))] [(.int (own_beq E1 q2 q3 j16 j18))])) st198 ?_
                  refine OFin.of (S' := T198.setTop (mkF m 326 #[.val (.int p0), .val (.int p1), .val (.long q2), .second, .val (.long q3), .second, .val (.long q4), .second, .val (.int p5), .val (.int i9), .val (.int cA0), .val (.int cA1), .val (.int i12), .val (.int i13), .val (.int cB0), .val (.int cB1), .val (.long j16), .second, .val (.long j18), .second, .val (.int i20), .val (.ref B1), .val (.ref B2), .val (.ref rl), .val (.int (1 : Int32)), .val (.int (0 : Int32))] [(.ref B1), (.ref B2)])) (fun t ht => ?_) ?_
                  · refine XS.iload X198.here hx rfl (hb hby at_317) rfl ?_
                    show Steps p.tables e below (T198.setTop (mkF m 319 _ [(.int (0 : Int32)), (.int (own_beq E1 q2 q3 j16 j18))])) _
                    refine XS.icmpNo X198.here hx rfl (hb hby at_319) rfl (teq (own_beq_l (hE1.trans ((own_e_0 hc160 hc161).trans (own_t_2 hc162 hc183))) hc184 : (own_beq E1 q2 q3 j16 j18) = (0 : Int32))).2 ?_
                    show Steps p.tables e below (T198.setTop (mkF m 322 _ [])) _
                    refine XS.aload X198.here hx rfl (hb hby at_322) rfl rfl ?_
                    show Steps p.tables e below (T198.setTop (mkF m 324 _ [(.ref B2)])) _
                    refine XS.aload X198.here hx rfl (hb hby at_324) rfl rfl ?_
                    exact ht
                  obtain ⟨cq202, kq202, q202a, q202b, q202c⟩ := isOf hZ hs198 fa1
                  obtain ⟨_, _, ⟨T201, L201, k201, n201⟩, -, X201, ⟨Lc201, hQ201, l201, y201, z201⟩, st201⟩ := X198.virtualBack hx (y := (⟨"com/example/greylag/greylag/model/Bundle", "equals", "(Ljava/lang/Object;)Z"⟩ : MethodName)) (z := (⟨"com/example/greylag/greylag/model/Bundle", "equals", "(Ljava/lang/Object;)Z"⟩ : MethodName)) hown (mvT hZ (hw _ (List.mem_of_getElem? (i := 47) rfl))) (mvT hZ (hw _ (List.mem_of_getElem? (i := 48) rfl))) (notFace_of_selects (args := #[]) (mvT hZ (hw _ (List.mem_of_getElem? (i := 50) rfl)))) (mvT hZ (hw _ (List.mem_of_getElem? (i := 50) rfl))) (mvT hZ (hw _ (List.mem_of_getElem? (i := 49) rfl))) (by decide) (backOf (W := 0) (rmEqx l Z _ hw [] B2 B1 s2 s1 j16 j18 q2 q3 E2 h0 n0 Z0 fa0 fa3 fa8 fa5 fa9 fa6 fa10 fa7 hM2) hZ (hw _ (List.mem_of_getElem? (i := 51) rfl)) (hw _ (List.mem_of_getElem? (i := 2) rfl)) (by decide) (by decide)) q202a q202c (g := (mkF m 326 #[.val (.int p0), .val (.int p1), .val (.long q2), .second, .val (.long q3), .second, .val (.long q4), .second, .val (.int p5), .val (.int i9), .val (.int cA0), .val (.int cA1), .val (.int i12), .val (.int i13), .val (.int cB0), .val (.int cB1), .val (.long j16), .second, .val (.long j18), .second, .val (.int i20), .val (.ref B1), .val (.ref B2), .val (.ref rl), .val (.int (1 : Int32)), .val (.int (0 : Int32))] [(.ref B1), (.ref B2)])) rfl (by rw [hml]; rfl) (Steps.refl _) (argsL := [(.ref B1)]) (rest := []) (lenOf pd_7 rfl) rfl (by show 2 * 0 + _ ≤ _; exact Nat.le_of_eq rfl) (hb hby at_326) (fun _ _ => ⟨rfl, hs198, (by decide : 15 + 0 ≤ _), (by decide : 40 + 0 ≤ _)⟩)
                  dsimp only [Pt.U, Pt.locs, Pt.cells, Pt.slots] at X201 l201 y201 z201 st201 hQ201
                  subst l201 y201 z201
                  obtain ⟨rfl, Nq201, hs201⟩ := hQ201
                  have N203 := Fr.app N200 Nq201
                  refine OFin.to (S' := T201.setTop (mkF m 329 #[.val (.int p0), .val (.int p1), .val (.long q2), .second, .val (.long q3), .second, .val (.long q4), .second, .val (.int p5), .val (.int i9), .val (.int cA0), .val (.int cA1), .val (.int i12), .val (.int i13), .val (.int cB0), .val (.int cB1), .val (.long j16), .second, .val (.long j18), .second, .val (.int i20), .val (.ref B1), .val (.ref B2), .val (.ref rl), .val (.int (1 : Int32)), .val (.int (0 : Int32))] [(.int (own_beq E2 j16 j18 q2 q3))])) st201 ?_
                  refine OFin.of (S' := T201.setTop (mkF m 339 #[.val (.int p0), .val (.int p1), .val (.long q2), .second, .val (.long q3), .second, .val (.long q4), .second, .val (.int p5), .val (.int i9), .val (.int cA0), .val (.int cA1), .val (.int i12), .val (.int i13), .val (.int cB0), .val (.int cB1), .val (.long j16), .second, .val (.long j18), .second, .val (.int i20), .val (.ref B1), .val (.ref B2), .val (.ref rl), .val (.int (1 : Int32)), .val (.int (0 : Int32))] [(.int (1 : Int32))])) (fun t ht => ?_) ?_
                  · refine XS.iload X201.here hx rfl (hb hby at_329) rfl ?_
                    show Steps p.tables e below (T201.setTop (mkF m 331 _ [(.int (0 : Int32)), (.int (own_beq E2 j16 j18 q2 q3))])) _
                    refine XS.icmpNo X201.here hx rfl (hb hby at_331) rfl (teq (own_beq_l (hE2.trans ((own_e_0 hc160 hc161).trans (own_t_2 hc162 hc183))) (own_lwsn hc184) : (own_beq E2 j16 j18 q2 q3) = (0 : Int32))).2 ?_
                    show Steps p.tables e below (T201.setTop (mkF m 334 _ [])) _
                    refine XS.iconst X201.here hx rfl (hb hby at_334) ?_
                    show Steps p.tables e below (T201.setTop (mkF m 335 _ [(.int (1 : Int32))])) _
                    refine XS.goto X201.here hx rfl (pc0 := 335) (pc' := 339) rfl (hb hby at_335) (by decide) (by decide) ?_
                    exact ht
                  exact OFin.retBW (s := s) (vm₁ := vm1) X201 hS1 (by rw [hs201]; exact hk1) hx hlk (t := .boolean) (by simp) hret (hb hby at_339) (by decide) (by decide) (by rw [hs201]; exact hQ _ _ N203)
              · refine OFin.of (S' := T0.setTop (mkF m 314 #[.val (.int p0), .val (.int p1), .val (.long q2), .second, .val (.long q3), .second, .val (.long q4), .second, .val (.int p5), .val (.int i9), .val (.int cA0), .val (.int cA1), .val (.int i12), .val (.int i13), .val (.int cB0), .val (.int cB1), .val (.long j16), .second, .val (.long j18), .second, .val (.int i20), .val (.ref B1), .val (.ref B2), .val (.ref rl), .val (.int (0 : Int32)), .val (.int (0 : Int32))] [(.ref B2), (.ref B1)])) (fun t ht => ?_) ?_
                · refine XS.icmpYes X0.here hx rfl (pc0 := 273) (pc' := 280) rfl (hb hby at_273) rfl (feq (hc183 : ¬ (cA1 = cB1))).2 (by decide) (by decide) ?_
                  show Steps p.tables e below (T0.setTop (mkF m 280 _ [])) _
                  refine XS.iconst X0.here hx rfl (hb hby at_280) ?_
                  show Steps p.tables e below (T0.setTop (mkF m 281 _ [(.int (0 : Int32))])) _
                  refine XS.istore X0.here hx rfl (hb hby at_281) rfl (l' := #[.val (.int p0), .val (.int p1), .val (.long q2), .second, .val (.long q3), .second, .val (.long q4), .second, .val (.int p5), .val (.int i9), .val (.int cA0), .val (.int cA1), .val (.int i12), .val (.int i13), .val (.int cB0), .val (.int cB1), .val (.long j16), .second, .val (.long j18), .second, .val (.int i20), .val (.ref B1), .val (.ref B2), .val (.ref rl), .val (.int (0 : Int32)), .unset]) rfl ?_
                  show Steps p.tables e below (T0.setTop (mkF m 283 #[.val (.int p0), .val (.int p1), .val (.long q2), .second, .val (.long q3), .second, .val (.long q4), .second, .val (.int p5), .val (.int i9), .val (.int cA0), .val (.int cA1), .val (.int i12), .val (.int i13), .val (.int cB0), .val (.int cB1), .val (.long j16), .second, .val (.long j18), .second, .val (.int i20), .val (.ref B1), .val (.ref B2), .val (.ref rl), .val (.int (0 : Int32)), .unset] [])) _
                  refine XS.iload X0.here hx rfl (hb hby at_283) rfl ?_
                  show Steps p.tables e below (T0.setTop (mkF m 285 _ [(.int (0 : Int32))])) _
                  refine XS.ifYes X0.here hx rfl (pc0 := 285) (pc' := 307) rfl (hb hby at_285) rfl ((if0 _ _).trans (teq (by decide : (0 : Int32) = (0 : Int32))).1) (by decide) (by decide) ?_
                  show Steps p.tables e below (T0.setTop (mkF m 307 _ [])) _
                  refine XS.iconst X0.here hx rfl (hb hby at_307) ?_
                  show Steps p.tables e below (T0.setTop (mkF m 308 _ [(.int (0 : Int32))])) _
                  refine XS.istore X0.here hx rfl (hb hby at_308) rfl (l' := #[.val (.int p0), .val (.int p1), .val (.long q2), .second, .val (.long q3), .second, .val (.long q4), .second, .val (.int p5), .val (.int i9), .val (.int cA0), .val (.int cA1), .val (.int i12), .val (.int i13), .val (.int cB0), .val (.int cB1), .val (.long j16), .second, .val (.long j18), .second, .val (.int i20), .val (.ref B1), .val (.ref B2), .val (.ref rl), .val (.int (0 : Int32)), .val (.int (0 : Int32))]) rfl ?_
                  show Steps p.tables e below (T0.setTop (mkF m 310 #[.val (.int p0), .val (.int p1), .val (.long q2), .second, .val (.long q3), .second, .val (.long q4), .second, .val (.int p5), .val (.int i9), .val (.int cA0), .val (.int cA1), .val (.int i12), .val (.int i13), .val (.int cB0), .val (.int cB1), .val (.long j16), .second, .val (.long j18), .second, .val (.int i20), .val (.ref B1), .val (.ref B2), .val (.ref rl), .val (.int (0 : Int32)), .val (.int (0 : Int32))] [])) _
                  refine XS.aload X0.here hx rfl (hb hby at_310) rfl rfl ?_
                  show Steps p.tables e below (T0.setTop (mkF m 312 _ [(.ref B1)])) _
                  refine XS.aload X0.here hx rfl (hb hby at_312) rfl rfl ?_
                  exact ht
                obtain ⟨cq205, kq205, q205a, q205b, q205c⟩ := isOf hZ e0 fa0
                obtain ⟨_, _, ⟨T204, L204, k204, n204⟩, -, X204, ⟨Lc204, hQ204, l204, y204, z204⟩, st204⟩ := X0.virtualBack hx (y := (⟨"com/example/greylag/greylag/model/Bundle", "equals", "(Ljava/lang/Object;)Z"⟩ : MethodName)) (z := (⟨"com/example/greylag/greylag/model/Bundle", "equals", "(Ljava/lang/Object;)Z"⟩ : MethodName)) hown (mvT hZ (hw _ (List.mem_of_getElem? (i := 47) rfl))) (mvT hZ (hw _ (List.mem_of_getElem? (i := 48) rfl))) (notFace_of_selects (args := #[]) (mvT hZ (hw _ (List.mem_of_getElem? (i := 50) rfl)))) (mvT hZ (hw _ (List.mem_of_getElem? (i := 50) rfl))) (mvT hZ (hw _ (List.mem_of_getElem? (i := 49) rfl))) (by decide) (backOf (W := 0) (rmEqx l Z _ hw [] B1 B2 s1 s2 q2 q3 j16 j18 E1 h0 n0 Z0 fa1 fa2 fa5 fa8 fa6 fa9 fa7 fa10 hM1) hZ (hw _ (List.mem_of_getElem? (i := 51) rfl)) (hw _ (List.mem_of_getElem? (i := 2) rfl)) (by decide) (by decide)) q205a q205c (g := (mkF m 314 #[.val (.int p0), .val (.int p1), .val (.long q2), .second, .val (.long q3), .second, .val (.long q4), .second, .val (.int p5), .val (.int i9), .val (.int cA0), .val (.int cA1), .val (.int i12), .val (.int i13), .val (.int cB0), .val (.int cB1), .val (.long j16), .second, .val (.long j18), .second, .val (.int i20), .val (.ref B1), .val (.ref B2), .val (.ref rl), .val (.int (0 : Int32)), .val (.int (0 : Int32))] [(.ref B2), (.ref B1)])) rfl (by rw [hml]; rfl) (Steps.refl _) (argsL := [(.ref B2)]) (rest := []) (lenOf pd_7 rfl) rfl (by show 2 * 0 + _ ≤ _; exact Nat.le_of_eq rfl) (hb hby at_314) (fun _ _ => ⟨rfl, e0, (by decide : 15 + 0 ≤ _), (by decide : 40 + 0 ≤ _)⟩)
                dsimp only [Pt.U, Pt.locs, Pt.cells, Pt.slots] at X204 l204 y204 z204 st204 hQ204
                subst l204 y204 z204
                obtain ⟨rfl, Nq204, hs204⟩ := hQ204
                have N206 := Fr.app N0 Nq204
                refine OFin.to (S' := T204.setTop (mkF m 317 #[.val (.int p0), .val (.int p1), .val (.long q2), .second, .val (.long q3), .second, .val (.long q4), .second, .val (.int p5), .val (.int i9), .val (.int cA0), .val (.int cA1), .val (.int i12), .val (.int i13), .val (.int cB0), .val (.int cB1), .val (.long j16), .second, .val (.long j18), .second, .val (.int i20), .val (.ref B1), .val (.ref B2), .val (.ref rl), .val (.int (0 : Int32)), .val (.int (0 : Int32))] [(.int (own_beq E1 q2 q3 j16 j18))])) st204 ?_
                refine OFin.of (S' := T204.setTop (mkF m 326 #[.val (.int p0), .val (.int p1), .val (.long q2), .second, .val (.long q3), .second, .val (.long q4), .second, .val (.int p5), .val (.int i9), .val (.int cA0), .val (.int cA1), .val (.int i12), .val (.int i13), .val (.int cB0), .val (.int cB1), .val (.long j16), .second, .val (.long j18), .second, .val (.int i20), .val (.ref B1), .val (.ref B2), .val (.ref rl), .val (.int (0 : Int32)), .val (.int (0 : Int32))] [(.ref B1), (.ref B2)])) (fun t ht => ?_) ?_
                · refine XS.iload X204.here hx rfl (hb hby at_317) rfl ?_
                  show Steps p.tables e below (T204.setTop (mkF m 319 _ [(.int (0 : Int32)), (.int (own_beq E1 q2 q3 j16 j18))])) _
                  refine XS.icmpNo X204.here hx rfl (hb hby at_319) rfl (teq (own_beq_e (hE1.trans ((own_e_0 hc160 hc161).trans (own_t_c1 hc162 hc183))) : (own_beq E1 q2 q3 j16 j18) = (0 : Int32))).2 ?_
                  show Steps p.tables e below (T204.setTop (mkF m 322 _ [])) _
                  refine XS.aload X204.here hx rfl (hb hby at_322) rfl rfl ?_
                  show Steps p.tables e below (T204.setTop (mkF m 324 _ [(.ref B2)])) _
                  refine XS.aload X204.here hx rfl (hb hby at_324) rfl rfl ?_
                  exact ht
                obtain ⟨cq208, kq208, q208a, q208b, q208c⟩ := isOf hZ hs204 fa1
                obtain ⟨_, _, ⟨T207, L207, k207, n207⟩, -, X207, ⟨Lc207, hQ207, l207, y207, z207⟩, st207⟩ := X204.virtualBack hx (y := (⟨"com/example/greylag/greylag/model/Bundle", "equals", "(Ljava/lang/Object;)Z"⟩ : MethodName)) (z := (⟨"com/example/greylag/greylag/model/Bundle", "equals", "(Ljava/lang/Object;)Z"⟩ : MethodName)) hown (mvT hZ (hw _ (List.mem_of_getElem? (i := 47) rfl))) (mvT hZ (hw _ (List.mem_of_getElem? (i := 48) rfl))) (notFace_of_selects (args := #[]) (mvT hZ (hw _ (List.mem_of_getElem? (i := 50) rfl)))) (mvT hZ (hw _ (List.mem_of_getElem? (i := 50) rfl))) (mvT hZ (hw _ (List.mem_of_getElem? (i := 49) rfl))) (by decide) (backOf (W := 0) (rmEqx l Z _ hw [] B2 B1 s2 s1 j16 j18 q2 q3 E2 h0 n0 Z0 fa0 fa3 fa8 fa5 fa9 fa6 fa10 fa7 hM2) hZ (hw _ (List.mem_of_getElem? (i := 51) rfl)) (hw _ (List.mem_of_getElem? (i := 2) rfl)) (by decide) (by decide)) q208a q208c (g := (mkF m 326 #[.val (.int p0), .val (.int p1), .val (.long q2), .second, .val (.long q3), .second, .val (.long q4), .second, .val (.int p5), .val (.int i9), .val (.int cA0), .val (.int cA1), .val (.int i12), .val (.int i13), .val (.int cB0), .val (.int cB1), .val (.long j16), .second, .val (.long j18), .second, .val (.int i20), .val (.ref B1), .val (.ref B2), .val (.ref rl), .val (.int (0 : Int32)), .val (.int (0 : Int32))] [(.ref B1), (.ref B2)])) rfl (by rw [hml]; rfl) (Steps.refl _) (argsL := [(.ref B1)]) (rest := []) (lenOf pd_7 rfl) rfl (by show 2 * 0 + _ ≤ _; exact Nat.le_of_eq rfl) (hb hby at_326) (fun _ _ => ⟨rfl, hs204, (by decide : 15 + 0 ≤ _), (by decide : 40 + 0 ≤ _)⟩)
                dsimp only [Pt.U, Pt.locs, Pt.cells, Pt.slots] at X207 l207 y207 z207 st207 hQ207
                subst l207 y207 z207
                obtain ⟨rfl, Nq207, hs207⟩ := hQ207
                have N209 := Fr.app N206 Nq207
                refine OFin.to (S' := T207.setTop (mkF m 329 #[.val (.int p0), .val (.int p1), .val (.long q2), .second, .val (.long q3), .second, .val (.long q4), .second, .val (.int p5), .val (.int i9), .val (.int cA0), .val (.int cA1), .val (.int i12), .val (.int i13), .val (.int cB0), .val (.int cB1), .val (.long j16), .second, .val (.long j18), .second, .val (.int i20), .val (.ref B1), .val (.ref B2), .val (.ref rl), .val (.int (0 : Int32)), .val (.int (0 : Int32))] [(.int (own_beq E2 j16 j18 q2 q3))])) st207 ?_
                refine OFin.of (S' := T207.setTop (mkF m 339 #[.val (.int p0), .val (.int p1), .val (.long q2), .second, .val (.long q3), .second, .val (.long q4), .second, .val (.int p5), .val (.int i9), .val (.int cA0), .val (.int cA1), .val (.int i12), .val (.int i13), .val (.int cB0), .val (.int cB1), .val (.long j16), .second, .val (.long j18), .second, .val (.int i20), .val (.ref B1), .val (.ref B2), .val (.ref rl), .val (.int (0 : Int32)), .val (.int (0 : Int32))] [(.int (1 : Int32))])) (fun t ht => ?_) ?_
                · refine XS.iload X207.here hx rfl (hb hby at_329) rfl ?_
                  show Steps p.tables e below (T207.setTop (mkF m 331 _ [(.int (0 : Int32)), (.int (own_beq E2 j16 j18 q2 q3))])) _
                  refine XS.icmpNo X207.here hx rfl (hb hby at_331) rfl (teq (own_beq_e (hE2.trans ((own_e_0 hc160 hc161).trans (own_t_c1 hc162 hc183))) : (own_beq E2 j16 j18 q2 q3) = (0 : Int32))).2 ?_
                  show Steps p.tables e below (T207.setTop (mkF m 334 _ [])) _
                  refine XS.iconst X207.here hx rfl (hb hby at_334) ?_
                  show Steps p.tables e below (T207.setTop (mkF m 335 _ [(.int (1 : Int32))])) _
                  refine XS.goto X207.here hx rfl (pc0 := 335) (pc' := 339) rfl (hb hby at_335) (by decide) (by decide) ?_
                  exact ht
                exact OFin.retBW (s := s) (vm₁ := vm1) X207 hS1 (by rw [hs207]; exact hk1) hx hlk (t := .boolean) (by simp) hret (hb hby at_339) (by decide) (by decide) (by rw [hs207]; exact hQ _ _ N209)
          · refine OFin.of (S' := T0.setTop (mkF m 260 #[.val (.int p0), .val (.int p1), .val (.long q2), .second, .val (.long q3), .second, .val (.long q4), .second, .val (.int p5), .val (.int i9), .val (.int cA0), .val (.int cA1), .val (.int i12), .val (.int i13), .val (.int cB0), .val (.int cB1), .val (.long j16), .second, .val (.long j18), .second, .val (.int i20), .val (.ref B1), .val (.ref B2), .val (.ref rl), .unset, .unset] [(.int cB0), (.int cA0)])) (fun t ht => ?_) ?_
            · refine XS.icmpNo X0.here hx rfl (hb hby at_253) rfl (flt (hc161 : ¬ (i9 < (1 : Int32)))).1 ?_
              show Steps p.tables e below (T0.setTop (mkF m 256 _ [])) _
              refine XS.iload X0.here hx rfl (hb hby at_256) rfl ?_
              show Steps p.tables e below (T0.setTop (mkF m 258 _ [(.int cA0)])) _
              refine XS.iload X0.here hx rfl (hb hby at_258) rfl ?_
              exact ht
            by_cases hc210 : cA0 = cB0
            · refine OFin.of (S' := T0.setTop (mkF m 266 #[.val (.int p0), .val (.int p1), .val (.long q2), .second, .val (.long q3), .second, .val (.long q4), .second, .val (.int p5), .val (.int i9), .val (.int cA0), .val (.int cA1), .val (.int i12), .val (.int i13), .val (.int cB0), .val (.int cB1), .val (.long j16), .second, .val (.long j18), .second, .val (.int i20), .val (.ref B1), .val (.ref B2), .val (.ref rl), .unset, .unset] [(.int (2 : Int32)), (.int i9)])) (fun t ht => ?_) ?_
              · refine XS.icmpNo X0.here hx rfl (hb hby at_260) rfl (teq (hc210 : cA0 = cB0)).2 ?_
                show Steps p.tables e below (T0.setTop (mkF m 263 _ [])) _
                refine XS.iload X0.here hx rfl (hb hby at_263) rfl ?_
                show Steps p.tables e below (T0.setTop (mkF m 265 _ [(.int i9)])) _
                refine XS.iconst X0.here hx rfl (hb hby at_265) ?_
                exact ht
              by_cases hc211 : i9 < (2 : Int32)
              · refine OFin.of (S' := T0.setTop (mkF m 292 #[.val (.int p0), .val (.int p1), .val (.long q2), .second, .val (.long q3), .second, .val (.long q4), .second, .val (.int p5), .val (.int i9), .val (.int cA0), .val (.int cA1), .val (.int i12), .val (.int i13), .val (.int cB0), .val (.int cB1), .val (.long j16), .second, .val (.long j18), .second, .val (.int i20), .val (.ref B1), .val (.ref B2), .val (.ref rl), .val (.int (1 : Int32)), .unset] [(.int (lcmpW q2 j16))])) (fun t ht => ?_) ?_
                · refine XS.icmpYes X0.here hx rfl (pc0 := 266) (pc' := 276) rfl (hb hby at_266) rfl (tlt (hc211 : i9 < (2 : Int32))).1 (by decide) (by decide) ?_
                  show Steps p.tables e below (T0.setTop (mkF m 276 _ [])) _
                  refine XS.iconst X0.here hx rfl (hb hby at_276) ?_
                  show Steps p.tables e below (T0.setTop (mkF m 277 _ [(.int (1 : Int32))])) _
                  refine XS.goto X0.here hx rfl (pc0 := 277) (pc' := 281) rfl (hb hby at_277) (by decide) (by decide) ?_
                  show Steps p.tables e below (T0.setTop (mkF m 281 _ [(.int (1 : Int32))])) _
                  refine XS.istore X0.here hx rfl (hb hby at_281) rfl (l' := #[.val (.int p0), .val (.int p1), .val (.long q2), .second, .val (.long q3), .second, .val (.long q4), .second, .val (.int p5), .val (.int i9), .val (.int cA0), .val (.int cA1), .val (.int i12), .val (.int i13), .val (.int cB0), .val (.int cB1), .val (.long j16), .second, .val (.long j18), .second, .val (.int i20), .val (.ref B1), .val (.ref B2), .val (.ref rl), .val (.int (1 : Int32)), .unset]) rfl ?_
                  show Steps p.tables e below (T0.setTop (mkF m 283 #[.val (.int p0), .val (.int p1), .val (.long q2), .second, .val (.long q3), .second, .val (.long q4), .second, .val (.int p5), .val (.int i9), .val (.int cA0), .val (.int cA1), .val (.int i12), .val (.int i13), .val (.int cB0), .val (.int cB1), .val (.long j16), .second, .val (.long j18), .second, .val (.int i20), .val (.ref B1), .val (.ref B2), .val (.ref rl), .val (.int (1 : Int32)), .unset] [])) _
                  refine XS.iload X0.here hx rfl (hb hby at_283) rfl ?_
                  show Steps p.tables e below (T0.setTop (mkF m 285 _ [(.int (1 : Int32))])) _
                  refine XS.ifNo X0.here hx rfl (hb hby at_285) rfl ((if0 _ _).trans (feq (by decide : ¬ ((1 : Int32) = (0 : Int32)))).1) ?_
                  show Steps p.tables e below (T0.setTop (mkF m 288 _ [])) _
                  refine XS.lloadN X0.here hx rfl (hb hby at_288) rfl ?_
                  show Steps p.tables e below (T0.setTop (mkF m 289 _ [(.long q2)])) _
                  refine XS.lload X0.here hx rfl (hb hby at_289) rfl ?_
                  show Steps p.tables e below (T0.setTop (mkF m 291 _ [(.long j16), (.long q2)])) _
                  refine XS.lcmp X0.here hx rfl (hb hby at_291) rfl ?_
                  exact ht
                by_cases hc212 : (lcmpW q2 j16) = (0 : Int32)
                · refine OFin.of (S' := T0.setTop (mkF m 300 #[.val (.int p0), .val (.int p1), .val (.long q2), .second, .val (.long q3), .second, .val (.long q4), .second, .val (.int p5), .val (.int i9), .val (.int cA0), .val (.int cA1), .val (.int i12), .val (.int i13), .val (.int cB0), .val (.int cB1), .val (.long j16), .second, .val (.long j18), .second, .val (.int i20), .val (.ref B1), .val (.ref B2), .val (.ref rl), .val (.int (1 : Int32)), .unset] [(.int (lcmpW q3 j18))])) (fun t ht => ?_) ?_
                  · refine XS.ifNo X0.here hx rfl (hb hby at_292) rfl ((if0 _ _).trans (teq (hc212 : (lcmpW q2 j16) = (0 : Int32))).2) ?_
                    show Steps p.tables e below (T0.setTop (mkF m 295 _ [])) _
                    refine XS.lload X0.here hx rfl (hb hby at_295) rfl ?_
                    show Steps p.tables e below (T0.setTop (mkF m 297 _ [(.long q3)])) _
                    refine XS.lload X0.here hx rfl (hb hby at_297) rfl ?_
                    show Steps p.tables e below (T0.setTop (mkF m 299 _ [(.long j18), (.long q3)])) _
                    refine XS.lcmp X0.here hx rfl (hb hby at_299) rfl ?_
                    exact ht
                  by_cases hc213 : (lcmpW q3 j18) = (0 : Int32)
                  · refine OFin.of (S' := T0.setTop (mkF m 314 #[.val (.int p0), .val (.int p1), .val (.long q2), .second, .val (.long q3), .second, .val (.long q4), .second, .val (.int p5), .val (.int i9), .val (.int cA0), .val (.int cA1), .val (.int i12), .val (.int i13), .val (.int cB0), .val (.int cB1), .val (.long j16), .second, .val (.long j18), .second, .val (.int i20), .val (.ref B1), .val (.ref B2), .val (.ref rl), .val (.int (1 : Int32)), .val (.int (1 : Int32))] [(.ref B2), (.ref B1)])) (fun t ht => ?_) ?_
                    · refine XS.ifNo X0.here hx rfl (hb hby at_300) rfl ((if0 _ _).trans (teq (hc213 : (lcmpW q3 j18) = (0 : Int32))).2) ?_
                      show Steps p.tables e below (T0.setTop (mkF m 303 _ [])) _
                      refine XS.iconst X0.here hx rfl (hb hby at_303) ?_
                      show Steps p.tables e below (T0.setTop (mkF m 304 _ [(.int (1 : Int32))])) _
                      refine XS.goto X0.here hx rfl (pc0 := 304) (pc' := 308) rfl (hb hby at_304) (by decide) (by decide) ?_
                      show Steps p.tables e below (T0.setTop (mkF m 308 _ [(.int (1 : Int32))])) _
                      refine XS.istore X0.here hx rfl (hb hby at_308) rfl (l' := #[.val (.int p0), .val (.int p1), .val (.long q2), .second, .val (.long q3), .second, .val (.long q4), .second, .val (.int p5), .val (.int i9), .val (.int cA0), .val (.int cA1), .val (.int i12), .val (.int i13), .val (.int cB0), .val (.int cB1), .val (.long j16), .second, .val (.long j18), .second, .val (.int i20), .val (.ref B1), .val (.ref B2), .val (.ref rl), .val (.int (1 : Int32)), .val (.int (1 : Int32))]) rfl ?_
                      show Steps p.tables e below (T0.setTop (mkF m 310 #[.val (.int p0), .val (.int p1), .val (.long q2), .second, .val (.long q3), .second, .val (.long q4), .second, .val (.int p5), .val (.int i9), .val (.int cA0), .val (.int cA1), .val (.int i12), .val (.int i13), .val (.int cB0), .val (.int cB1), .val (.long j16), .second, .val (.long j18), .second, .val (.int i20), .val (.ref B1), .val (.ref B2), .val (.ref rl), .val (.int (1 : Int32)), .val (.int (1 : Int32))] [])) _
                      refine XS.aload X0.here hx rfl (hb hby at_310) rfl rfl ?_
                      show Steps p.tables e below (T0.setTop (mkF m 312 _ [(.ref B1)])) _
                      refine XS.aload X0.here hx rfl (hb hby at_312) rfl rfl ?_
                      exact ht
                    obtain ⟨cq215, kq215, q215a, q215b, q215c⟩ := isOf hZ e0 fa0
                    obtain ⟨_, _, ⟨T214, L214, k214, n214⟩, -, X214, ⟨Lc214, hQ214, l214, y214, z214⟩, st214⟩ := X0.virtualBack hx (y := (⟨"com/example/greylag/greylag/model/Bundle", "equals", "(Ljava/lang/Object;)Z"⟩ : MethodName)) (z := (⟨"com/example/greylag/greylag/model/Bundle", "equals", "(Ljava/lang/Object;)Z"⟩ : MethodName)) hown (mvT hZ (hw _ (List.mem_of_getElem? (i := 47) rfl))) (mvT hZ (hw _ (List.mem_of_getElem? (i := 48) rfl))) (notFace_of_selects (args := #[]) (mvT hZ (hw _ (List.mem_of_getElem? (i := 50) rfl)))) (mvT hZ (hw _ (List.mem_of_getElem? (i := 50) rfl))) (mvT hZ (hw _ (List.mem_of_getElem? (i := 49) rfl))) (by decide) (backOf (W := 0) (rmEqx l Z _ hw [] B1 B2 s1 s2 q2 q3 j16 j18 E1 h0 n0 Z0 fa1 fa2 fa5 fa8 fa6 fa9 fa7 fa10 hM1) hZ (hw _ (List.mem_of_getElem? (i := 51) rfl)) (hw _ (List.mem_of_getElem? (i := 2) rfl)) (by decide) (by decide)) q215a q215c (g := (mkF m 314 #[.val (.int p0), .val (.int p1), .val (.long q2), .second, .val (.long q3), .second, .val (.long q4), .second, .val (.int p5), .val (.int i9), .val (.int cA0), .val (.int cA1), .val (.int i12), .val (.int i13), .val (.int cB0), .val (.int cB1), .val (.long j16), .second, .val (.long j18), .second, .val (.int i20), .val (.ref B1), .val (.ref B2), .val (.ref rl), .val (.int (1 : Int32)), .val (.int (1 : Int32))] [(.ref B2), (.ref B1)])) rfl (by rw [hml]; rfl) (Steps.refl _) (argsL := [(.ref B2)]) (rest := []) (lenOf pd_7 rfl) rfl (by show 2 * 0 + _ ≤ _; exact Nat.le_of_eq rfl) (hb hby at_314) (fun _ _ => ⟨rfl, e0, (by decide : 15 + 0 ≤ _), (by decide : 40 + 0 ≤ _)⟩)
                    dsimp only [Pt.U, Pt.locs, Pt.cells, Pt.slots] at X214 l214 y214 z214 st214 hQ214
                    subst l214 y214 z214
                    obtain ⟨rfl, Nq214, hs214⟩ := hQ214
                    have N216 := Fr.app N0 Nq214
                    refine OFin.to (S' := T214.setTop (mkF m 317 #[.val (.int p0), .val (.int p1), .val (.long q2), .second, .val (.long q3), .second, .val (.long q4), .second, .val (.int p5), .val (.int i9), .val (.int cA0), .val (.int cA1), .val (.int i12), .val (.int i13), .val (.int cB0), .val (.int cB1), .val (.long j16), .second, .val (.long j18), .second, .val (.int i20), .val (.ref B1), .val (.ref B2), .val (.ref rl), .val (.int (1 : Int32)), .val (.int (1 : Int32))] [(.int (own_beq E1 q2 q3 j16 j18))])) st214 ?_
                    refine OFin.of (S' := T214.setTop (mkF m 326 #[.val (.int p0), .val (.int p1), .val (.long q2), .second, .val (.long q3), .second, .val (.long q4), .second, .val (.int p5), .val (.int i9), .val (.int cA0), .val (.int cA1), .val (.int i12), .val (.int i13), .val (.int cB0), .val (.int cB1), .val (.long j16), .second, .val (.long j18), .second, .val (.int i20), .val (.ref B1), .val (.ref B2), .val (.ref rl), .val (.int (1 : Int32)), .val (.int (1 : Int32))] [(.ref B1), (.ref B2)])) (fun t ht => ?_) ?_
                    · refine XS.iload X214.here hx rfl (hb hby at_317) rfl ?_
                      show Steps p.tables e below (T214.setTop (mkF m 319 _ [(.int (1 : Int32)), (.int (own_beq E1 q2 q3 j16 j18))])) _
                      refine XS.icmpNo X214.here hx rfl (hb hby at_319) rfl (teq (own_beq_1 (hE1.trans ((own_e_1 hc160 hc161 hc210).trans (own_t_1 hc211))) hc212 hc213 : (own_beq E1 q2 q3 j16 j18) = (1 : Int32))).2 ?_
                      show Steps p.tables e below (T214.setTop (mkF m 322 _ [])) _
                      refine XS.aload X214.here hx rfl (hb hby at_322) rfl rfl ?_
                      show Steps p.tables e below (T214.setTop (mkF m 324 _ [(.ref B2)])) _
                      refine XS.aload X214.here hx rfl (hb hby at_324) rfl rfl ?_
                      exact ht
                    obtain ⟨cq218, kq218, q218a, q218b, q218c⟩ := isOf hZ hs214 fa1
                    obtain ⟨_, _, ⟨T217, L217, k217, n217⟩, -, X217, ⟨Lc217, hQ217, l217, y217, z217⟩, st217⟩ := X214.virtualBack hx (y := (⟨"com/example/greylag/greylag/model/Bundle", "equals", "(Ljava/lang/Object;)Z"⟩ : MethodName)) (z := (⟨"com/example/greylag/greylag/model/Bundle", "equals", "(Ljava/lang/Object;)Z"⟩ : MethodName)) hown (mvT hZ (hw _ (List.mem_of_getElem? (i := 47) rfl))) (mvT hZ (hw _ (List.mem_of_getElem? (i := 48) rfl))) (notFace_of_selects (args := #[]) (mvT hZ (hw _ (List.mem_of_getElem? (i := 50) rfl)))) (mvT hZ (hw _ (List.mem_of_getElem? (i := 50) rfl))) (mvT hZ (hw _ (List.mem_of_getElem? (i := 49) rfl))) (by decide) (backOf (W := 0) (rmEqx l Z _ hw [] B2 B1 s2 s1 j16 j18 q2 q3 E2 h0 n0 Z0 fa0 fa3 fa8 fa5 fa9 fa6 fa10 fa7 hM2) hZ (hw _ (List.mem_of_getElem? (i := 51) rfl)) (hw _ (List.mem_of_getElem? (i := 2) rfl)) (by decide) (by decide)) q218a q218c (g := (mkF m 326 #[.val (.int p0), .val (.int p1), .val (.long q2), .second, .val (.long q3), .second, .val (.long q4), .second, .val (.int p5), .val (.int i9), .val (.int cA0), .val (.int cA1), .val (.int i12), .val (.int i13), .val (.int cB0), .val (.int cB1), .val (.long j16), .second, .val (.long j18), .second, .val (.int i20), .val (.ref B1), .val (.ref B2), .val (.ref rl), .val (.int (1 : Int32)), .val (.int (1 : Int32))] [(.ref B1), (.ref B2)])) rfl (by rw [hml]; rfl) (Steps.refl _) (argsL := [(.ref B1)]) (rest := []) (lenOf pd_7 rfl) rfl (by show 2 * 0 + _ ≤ _; exact Nat.le_of_eq rfl) (hb hby at_326) (fun _ _ => ⟨rfl, hs214, (by decide : 15 + 0 ≤ _), (by decide : 40 + 0 ≤ _)⟩)
                    dsimp only [Pt.U, Pt.locs, Pt.cells, Pt.slots] at X217 l217 y217 z217 st217 hQ217
                    subst l217 y217 z217
                    obtain ⟨rfl, Nq217, hs217⟩ := hQ217
                    have N219 := Fr.app N216 Nq217
                    refine OFin.to (S' := T217.setTop (mkF m 329 #[.val (.int p0), .val (.int p1), .val (.long q2), .second, .val (.long q3), .second, .val (.long q4), .second, .val (.int p5), .val (.int i9), .val (.int cA0), .val (.int cA1), .val (.int i12), .val (.int i13), .val (.int cB0), .val (.int cB1), .val (.long j16), .second, .val (.long j18), .second, .val (.int i20), .val (.ref B1), .val (.ref B2), .val (.ref rl), .val (.int (1 : Int32)), .val (.int (1 : Int32))] [(.int (own_beq E2 j16 j18 q2 q3))])) st217 ?_
                    refine OFin.of (S' := T217.setTop (mkF m 339 #[.val (.int p0), .val (.int p1), .val (.long q2), .second, .val (.long q3), .second, .val (.long q4), .second, .val (.int p5), .val (.int i9), .val (.int cA0), .val (.int cA1), .val (.int i12), .val (.int i13), .val (.int cB0), .val (.int cB1), .val (.long j16), .second, .val (.long j18), .second, .val (.int i20), .val (.ref B1), .val (.ref B2), .val (.ref rl), .val (.int (1 : Int32)), .val (.int (1 : Int32))] [(.int (1 : Int32))])) (fun t ht => ?_) ?_
                    · refine XS.iload X217.here hx rfl (hb hby at_329) rfl ?_
                      show Steps p.tables e below (T217.setTop (mkF m 331 _ [(.int (1 : Int32)), (.int (own_beq E2 j16 j18 q2 q3))])) _
                      refine XS.icmpNo X217.here hx rfl (hb hby at_331) rfl (teq (own_beq_1 (hE2.trans ((own_e_1 hc160 hc161 hc210).trans (own_t_1 hc211))) (own_lws hc212) (own_lws hc213) : (own_beq E2 j16 j18 q2 q3) = (1 : Int32))).2 ?_
                      show Steps p.tables e below (T217.setTop (mkF m 334 _ [])) _
                      refine XS.iconst X217.here hx rfl (hb hby at_334) ?_
                      show Steps p.tables e below (T217.setTop (mkF m 335 _ [(.int (1 : Int32))])) _
                      refine XS.goto X217.here hx rfl (pc0 := 335) (pc' := 339) rfl (hb hby at_335) (by decide) (by decide) ?_
                      exact ht
                    exact OFin.retBW (s := s) (vm₁ := vm1) X217 hS1 (by rw [hs217]; exact hk1) hx hlk (t := .boolean) (by simp) hret (hb hby at_339) (by decide) (by decide) (by rw [hs217]; exact hQ _ _ N219)
                  · refine OFin.of (S' := T0.setTop (mkF m 314 #[.val (.int p0), .val (.int p1), .val (.long q2), .second, .val (.long q3), .second, .val (.long q4), .second, .val (.int p5), .val (.int i9), .val (.int cA0), .val (.int cA1), .val (.int i12), .val (.int i13), .val (.int cB0), .val (.int cB1), .val (.long j16), .second, .val (.long j18), .second, .val (.int i20), .val (.ref B1), .val (.ref B2), .val (.ref rl), .val (.int (1 : Int32)), .val (.int (0 : Int32))] [(.ref B2), (.ref B1)])) (fun t ht => ?_) ?_
                    · refine XS.ifYes X0.here hx rfl (pc0 := 300) (pc' := 307) rfl (hb hby at_300) rfl ((if0 _ _).trans (feq (hc213 : ¬ ((lcmpW q3 j18) = (0 : Int32)))).2) (by decide) (by decide) ?_
                      show Steps p.tables e below (T0.setTop (mkF m 307 _ [])) _
                      refine XS.iconst X0.here hx rfl (hb hby at_307) ?_
                      show Steps p.tables e below (T0.setTop (mkF m 308 _ [(.int (0 : Int32))])) _
                      refine XS.istore X0.here hx rfl (hb hby at_308) rfl (l' := #[.val (.int p0), .val (.int p1), .val (.long q2), .second, .val (.long q3), .second, .val (.long q4), .second, .val (.int p5), .val (.int i9), .val (.int cA0), .val (.int cA1), .val (.int i12), .val (.int i13), .val (.int cB0), .val (.int cB1), .val (.long j16), .second, .val (.long j18), .second, .val (.int i20), .val (.ref B1), .val (.ref B2), .val (.ref rl), .val (.int (1 : Int32)), .val (.int (0 : Int32))]) rfl ?_
                      show Steps p.tables e below (T0.setTop (mkF m 310 #[.val (.int p0), .val (.int p1), .val (.long q2), .second, .val (.long q3), .second, .val (.long q4), .second, .val (.int p5), .val (.int i9), .val (.int cA0), .val (.int cA1), .val (.int i12), .val (.int i13), .val (.int cB0), .val (.int cB1), .val (.long j16), .second, .val (.long j18), .second, .val (.int i20), .val (.ref B1), .val (.ref B2), .val (.ref rl), .val (.int (1 : Int32)), .val (.int (0 : Int32))] [])) _
                      refine XS.aload X0.here hx rfl (hb hby at_310) rfl rfl ?_
                      show Steps p.tables e below (T0.setTop (mkF m 312 _ [(.ref B1)])) _
                      refine XS.aload X0.here hx rfl (hb hby at_312) rfl rfl ?_
                      exact ht
                    obtain ⟨cq221, kq221, q221a, q221b, q221c⟩ := isOf hZ e0 fa0
                    obtain ⟨_, _, ⟨T220, L220, k220, n220⟩, -, X220, ⟨Lc220, hQ220, l220, y220, z220⟩, st220⟩ := X0.virtualBack hx (y := (⟨"com/example/greylag/greylag/model/Bundle", "equals", "(Ljava/lang/Object;)Z"⟩ : MethodName)) (z := (⟨"com/example/greylag/greylag/model/Bundle", "equals", "(Ljava/lang/Object;)Z"⟩ : MethodName)) hown (mvT hZ (hw _ (List.mem_of_getElem? (i := 47) rfl))) (mvT hZ (hw _ (List.mem_of_getElem? (i := 48) rfl))) (notFace_of_selects (args := #[]) (mvT hZ (hw _ (List.mem_of_getElem? (i := 50) rfl)))) (mvT hZ (hw _ (List.mem_of_getElem? (i := 50) rfl))) (mvT hZ (hw _ (List.mem_of_getElem? (i := 49) rfl))) (by decide) (backOf (W := 0) (rmEqx l Z _ hw [] B1 B2 s1 s2 q2 q3 j16 j18 E1 h0 n0 Z0 fa1 fa2 fa5 fa8 fa6 fa9 fa7 fa10 hM1) hZ (hw _ (List.mem_of_getElem? (i := 51) rfl)) (hw _ (List.mem_of_getElem? (i := 2) rfl)) (by decide) (by decide)) q221a q221c (g := (mkF m 314 #[.val (.int p0), .val (.int p1), .val (.long q2), .second, .val (.long q3), .second, .val (.long q4), .second, .val (.int p5), .val (.int i9), .val (.int cA0), .val (.int cA1), .val (.int i12), .val (.int i13), .val (.int cB0), .val (.int cB1), .val (.long j16), .second, .val (.long j18), .second, .val (.int i20), .val (.ref B1), .val (.ref B2), .val (.ref rl), .val (.int (1 : Int32)), .val (.int (0 : Int32))] [(.ref B2), (.ref B1)])) rfl (by rw [hml]; rfl) (Steps.refl _) (argsL := [(.ref B2)]) (rest := []) (lenOf pd_7 rfl) rfl (by show 2 * 0 + _ ≤ _; exact Nat.le_of_eq rfl) (hb hby at_314) (fun _ _ => ⟨rfl, e0, (by decide : 15 + 0 ≤ _), (by decide : 40 + 0 ≤ _)⟩)
                    dsimp only [Pt.U, Pt.locs, Pt.cells, Pt.slots] at X220 l220 y220 z220 st220 hQ220
                    subst l220 y220 z220
                    obtain ⟨rfl, Nq220, hs220⟩ := hQ220
                    have N222 := Fr.app N0 Nq220
                    refine OFin.to (S' := T220.setTop (mkF m 317 #[.val (.int p0), .val (.int p1), .val (.long q2), .second, .val (.long q3), .second, .val (.long q4), .second, .val (.int p5), .val (.int i9), .val (.int cA0), .val (.int cA1), .val (.int i12), .val (.int i13), .val (.int cB0), .val (.int cB1), .val (.long j16), .second, .val (.long j18), .second, .val (.int i20), .val (.ref B1), .val (.ref B2), .val (.ref rl), .val (.int (1 : Int32)), .val (.int (0 : Int32))] [(.int (own_beq E1 q2 q3 j16 j18))])) st220 ?_
                    refine OFin.of (S' := T220.setTop (mkF m 326 #[.val (.int p0), .val (.int p1), .val (.long q2), .second, .val (.long q3), .second, .val (.long q4), .second, .val (.int p5), .val (.int i9), .val (.int cA0), .val (.int cA1), .val (.int i12), .val (.int i13), .val (.int cB0), .val (.int cB1), .val (.long j16), .second, .val (.long j18), .second, .val (.int i20), .val (.ref B1), .val (.ref B2), .val (.ref rl), .val (.int (1 : Int32)), .val (.int (0 : Int32))] [(.ref B1), (.ref B2)])) (fun t ht => ?_) ?_
                    · refine XS.iload X220.here hx rfl (hb hby at_317) rfl ?_
                      show Steps p.tables e below (T220.setTop (mkF m 319 _ [(.int (0 : Int32)), (.int (own_beq E1 q2 q3 j16 j18))])) _
                      refine XS.icmpNo X220.here hx rfl (hb hby at_319) rfl (teq (own_beq_u (hE1.trans ((own_e_1 hc160 hc161 hc210).trans (own_t_1 hc211))) hc212 hc213 : (own_beq E1 q2 q3 j16 j18) = (0 : Int32))).2 ?_
                      show Steps p.tables e below (T220.setTop (mkF m 322 _ [])) _
                      refine XS.aload X220.here hx rfl (hb hby at_322) rfl rfl ?_
                      show Steps p.tables e below (T220.setTop (mkF m 324 _ [(.ref B2)])) _
                      refine XS.aload X220.here hx rfl (hb hby at_324) rfl rfl ?_
                      exact ht
                    obtain ⟨cq224, kq224, q224a, q224b, q224c⟩ := isOf hZ hs220 fa1
                    obtain ⟨_, _, ⟨T223, L223, k223, n223⟩, -, X223, ⟨Lc223, hQ223, l223, y223, z223⟩, st223⟩ := X220.virtualBack hx (y := (⟨"com/example/greylag/greylag/model/Bundle", "equals", "(Ljava/lang/Object;)Z"⟩ : MethodName)) (z := (⟨"com/example/greylag/greylag/model/Bundle", "equals", "(Ljava/lang/Object;)Z"⟩ : MethodName)) hown (mvT hZ (hw _ (List.mem_of_getElem? (i := 47) rfl))) (mvT hZ (hw _ (List.mem_of_getElem? (i := 48) rfl))) (notFace_of_selects (args := #[]) (mvT hZ (hw _ (List.mem_of_getElem? (i := 50) rfl)))) (mvT hZ (hw _ (List.mem_of_getElem? (i := 50) rfl))) (mvT hZ (hw _ (List.mem_of_getElem? (i := 49) rfl))) (by decide) (backOf (W := 0) (rmEqx l Z _ hw [] B2 B1 s2 s1 j16 j18 q2 q3 E2 h0 n0 Z0 fa0 fa3 fa8 fa5 fa9 fa6 fa10 fa7 hM2) hZ (hw _ (List.mem_of_getElem? (i := 51) rfl)) (hw _ (List.mem_of_getElem? (i := 2) rfl)) (by decide) (by decide)) q224a q224c (g := (mkF m 326 #[.val (.int p0), .val (.int p1), .val (.long q2), .second, .val (.long q3), .second, .val (.long q4), .second, .val (.int p5), .val (.int i9), .val (.int cA0), .val (.int cA1), .val (.int i12), .val (.int i13), .val (.int cB0), .val (.int cB1), .val (.long j16), .second, .val (.long j18), .second, .val (.int i20), .val (.ref B1), .val (.ref B2), .val (.ref rl), .val (.int (1 : Int32)), .val (.int (0 : Int32))] [(.ref B1), (.ref B2)])) rfl (by rw [hml]; rfl) (Steps.refl _) (argsL := [(.ref B1)]) (rest := []) (lenOf pd_7 rfl) rfl (by show 2 * 0 + _ ≤ _; exact Nat.le_of_eq rfl) (hb hby at_326) (fun _ _ => ⟨rfl, hs220, (by decide : 15 + 0 ≤ _), (by decide : 40 + 0 ≤ _)⟩)
                    dsimp only [Pt.U, Pt.locs, Pt.cells, Pt.slots] at X223 l223 y223 z223 st223 hQ223
                    subst l223 y223 z223
                    obtain ⟨rfl, Nq223, hs223⟩ := hQ223
                    have N225 := Fr.app N222 Nq223
                    refine OFin.to (S' := T223.setTop (mkF m 329 #[.val (.int p0), .val (.int p1), .val (.long q2), .second, .val (.long q3), .second, .val (.long q4), .second, .val (.int p5), .val (.int i9), .val (.int cA0), .val (.int cA1), .val (.int i12), .val (.int i13), .val (.int cB0), .val (.int cB1), .val (.long j16), .second, .val (.long j18), .second, .val (.int i20), .val (.ref B1), .val (.ref B2), .val (.ref rl), .val (.int (1 : Int32)), .val (.int (0 : Int32))] [(.int (own_beq E2 j16 j18 q2 q3))])) st223 ?_
                    refine OFin.of (S' := T223.setTop (mkF m 339 #[.val (.int p0), .val (.int p1), .val (.long q2), .second, .val (.long q3), .second, .val (.long q4), .second, .val (.int p5), .val (.int i9), .val (.int cA0), .val (.int cA1), .val (.int i12), .val (.int i13), .val (.int cB0), .val (.int cB1), .val (.long j16), .second, .val (.long j18), .second, .val (.int i20), .val (.ref B1), .val (.ref B2), .val (.ref rl), .val (.int (1 : Int32)), .val (.int (0 : Int32))] [(.int (1 : Int32))])) (fun t ht => ?_) ?_
                    · refine XS.iload X223.here hx rfl (hb hby at_329) rfl ?_
                      show Steps p.tables e below (T223.setTop (mkF m 331 _ [(.int (0 : Int32)), (.int (own_beq E2 j16 j18 q2 q3))])) _
                      refine XS.icmpNo X223.here hx rfl (hb hby at_331) rfl (teq (own_beq_u (hE2.trans ((own_e_1 hc160 hc161 hc210).trans (own_t_1 hc211))) (own_lws hc212) (own_lwsn hc213) : (own_beq E2 j16 j18 q2 q3) = (0 : Int32))).2 ?_
                      show Steps p.tables e below (T223.setTop (mkF m 334 _ [])) _
                      refine XS.iconst X223.here hx rfl (hb hby at_334) ?_
                      show Steps p.tables e below (T223.setTop (mkF m 335 _ [(.int (1 : Int32))])) _
                      refine XS.goto X223.here hx rfl (pc0 := 335) (pc' := 339) rfl (hb hby at_335) (by decide) (by decide) ?_
                      exact ht
                    exact OFin.retBW (s := s) (vm₁ := vm1) X223 hS1 (by rw [hs223]; exact hk1) hx hlk (t := .boolean) (by simp) hret (hb hby at_339) (by decide) (by decide) (by rw [hs223]; exact hQ _ _ N225)
                · refine OFin.of (S' := T0.setTop (mkF m 314 #[.val (.int p0), .val (.int p1), .val (.long q2), .second, .val (.long q3), .second, .val (.long q4), .second, .val (.int p5), .val (.int i9), .val (.int cA0), .val (.int cA1), .val (.int i12), .val (.int i13), .val (.int cB0), .val (.int cB1), .val (.long j16), .second, .val (.long j18), .second, .val (.int i20), .val (.ref B1), .val (.ref B2), .val (.ref rl), .val (.int (1 : Int32)), .val (.int (0 : Int32))] [(.ref B2), (.ref B1)])) (fun t ht => ?_) ?_
                  · refine XS.ifYes X0.here hx rfl (pc0 := 292) (pc' := 307) rfl (hb hby at_292) rfl ((if0 _ _).trans (feq (hc212 : ¬ ((lcmpW q2 j16) = (0 : Int32)))).2) (by decide) (by decide) ?_
                    show Steps p.tables e below (T0.setTop (mkF m 307 _ [])) _
                    refine XS.iconst X0.here hx rfl (hb hby at_307) ?_
                    show Steps p.tables e below (T0.setTop (mkF m 308 _ [(.int (0 : Int32))])) _
                    refine XS.istore X0.here hx rfl (hb hby at_308) rfl (l' := #[.val (.int p0), .val (.int p1), .val (.long q2), .second, .val (.long q3), .second, .val (.long q4), .second, .val (.int p5), .val (.int i9), .val (.int cA0), .val (.int cA1), .val (.int i12), .val (.int i13), .val (.int cB0), .val (.int cB1), .val (.long j16), .second, .val (.long j18), .second, .val (.int i20), .val (.ref B1), .val (.ref B2), .val (.ref rl), .val (.int (1 : Int32)), .val (.int (0 : Int32))]) rfl ?_
                    show Steps p.tables e below (T0.setTop (mkF m 310 #[.val (.int p0), .val (.int p1), .val (.long q2), .second, .val (.long q3), .second, .val (.long q4), .second, .val (.int p5), .val (.int i9), .val (.int cA0), .val (.int cA1), .val (.int i12), .val (.int i13), .val (.int cB0), .val (.int cB1), .val (.long j16), .second, .val (.long j18), .second, .val (.int i20), .val (.ref B1), .val (.ref B2), .val (.ref rl), .val (.int (1 : Int32)), .val (.int (0 : Int32))] [])) _
                    refine XS.aload X0.here hx rfl (hb hby at_310) rfl rfl ?_
                    show Steps p.tables e below (T0.setTop (mkF m 312 _ [(.ref B1)])) _
                    refine XS.aload X0.here hx rfl (hb hby at_312) rfl rfl ?_
                    exact ht
                  obtain ⟨cq227, kq227, q227a, q227b, q227c⟩ := isOf hZ e0 fa0
                  obtain ⟨_, _, ⟨T226, L226, k226, n226⟩, -, X226, ⟨Lc226, hQ226, l226, y226, z226⟩, st226⟩ := X0.virtualBack hx (y := (⟨"com/example/greylag/greylag/model/Bundle", "equals", "(Ljava/lang/Object;)Z"⟩ : MethodName)) (z := (⟨"com/example/greylag/greylag/model/Bundle", "equals", "(Ljava/lang/Object;)Z"⟩ : MethodName)) hown (mvT hZ (hw _ (List.mem_of_getElem? (i := 47) rfl))) (mvT hZ (hw _ (List.mem_of_getElem? (i := 48) rfl))) (notFace_of_selects (args := #[]) (mvT hZ (hw _ (List.mem_of_getElem? (i := 50) rfl)))) (mvT hZ (hw _ (List.mem_of_getElem? (i := 50) rfl))) (mvT hZ (hw _ (List.mem_of_getElem? (i := 49) rfl))) (by decide) (backOf (W := 0) (rmEqx l Z _ hw [] B1 B2 s1 s2 q2 q3 j16 j18 E1 h0 n0 Z0 fa1 fa2 fa5 fa8 fa6 fa9 fa7 fa10 hM1) hZ (hw _ (List.mem_of_getElem? (i := 51) rfl)) (hw _ (List.mem_of_getElem? (i := 2) rfl)) (by decide) (by decide)) q227a q227c (g := (mkF m 314 #[.val (.int p0), .val (.int p1), .val (.long q2), .second, .val (.long q3), .second, .val (.long q4), .second, .val (.int p5), .val (.int i9), .val (.int cA0), .val (.int cA1), .val (.int i12), .val (.int i13), .val (.int cB0), .val (.int cB1), .val (.long j16), .second, .val (.long j18), .second, .val (.int i20), .val (.ref B1), .val (.ref B2), .val (.ref rl), .val (.int (1 : Int32)), .val (.int (0 : Int32))] [(.ref B2), (.ref B1)])) rfl (by rw [hml]; rfl) (Steps.refl _) (argsL := [(.ref B2)]) (rest := []) (lenOf pd_7 rfl) rfl (by show 2 * 0 + _ ≤ _; exact Nat.le_of_eq rfl) (hb hby at_314) (fun _ _ => ⟨rfl, e0, (by decide : 15 + 0 ≤ _), (by decide : 40 + 0 ≤ _)⟩)
                  dsimp only [Pt.U, Pt.locs, Pt.cells, Pt.slots] at X226 l226 y226 z226 st226 hQ226
                  subst l226 y226 z226
                  obtain ⟨rfl, Nq226, hs226⟩ := hQ226
                  have N228 := Fr.app N0 Nq226
                  refine OFin.to (S' := T226.setTop (mkF m 317 #[.val (.int p0), .val (.int p1), .val (.long q2), .second, .val (.long q3), .second, .val (.long q4), .second, .val (.int p5), .val (.int i9), .val (.int cA0), .val (.int cA1), .val (.int i12), .val (.int i13), .val (.int cB0), .val (.int cB1), .val (.long j16), .second, .val (.long j18), .second, .val (.int i20), .val (.ref B1), .val (.ref B2), .val (.ref rl), .val (.int (1 : Int32)), .val (.int (0 : Int32))] [(.int (own_beq E1 q2 q3 j16 j18))])) st226 ?_
                  refine OFin.of (S' := T226.setTop (mkF m 326 #[.val (.int p0), .val (.int p1), .val (.long q2), .second, .val (.long q3), .second, .val (.long q4), .second, .val (.int p5), .val (.int i9), .val (.int cA0), .val (.int cA1), .val (.int i12), .val (.int i13), .val (.int cB0), .val (.int cB1), .val (.long j16), .second, .val (.long j18), .second, .val (.int i20), .val (.ref B1), .val (.ref B2), .val (.ref rl), .val (.int (1 : Int32)), .val (.int (0 : Int32))] [(.ref B1), (.ref B2)])) (fun t ht => ?_) ?_
                  · refine XS.iload X226.here hx rfl (hb hby at_317) rfl ?_
                    show Steps p.tables e below (T226.setTop (mkF m 319 _ [(.int (0 : Int32)), (.int (own_beq E1 q2 q3 j16 j18))])) _
                    refine XS.icmpNo X226.here hx rfl (hb hby at_319) rfl (teq (own_beq_l (hE1.trans ((own_e_1 hc160 hc161 hc210).trans (own_t_1 hc211))) hc212 : (own_beq E1 q2 q3 j16 j18) = (0 : Int32))).2 ?_
                    show Steps p.tables e below (T226.setTop (mkF m 322 _ [])) _
                    refine XS.aload X226.here hx rfl (hb hby at_322) rfl rfl ?_
                    show Steps p.tables e below (T226.setTop (mkF m 324 _ [(.ref B2)])) _
                    refine XS.aload X226.here hx rfl (hb hby at_324) rfl rfl ?_
                    exact ht
                  obtain ⟨cq230, kq230, q230a, q230b, q230c⟩ := isOf hZ hs226 fa1
                  obtain ⟨_, _, ⟨T229, L229, k229, n229⟩, -, X229, ⟨Lc229, hQ229, l229, y229, z229⟩, st229⟩ := X226.virtualBack hx (y := (⟨"com/example/greylag/greylag/model/Bundle", "equals", "(Ljava/lang/Object;)Z"⟩ : MethodName)) (z := (⟨"com/example/greylag/greylag/model/Bundle", "equals", "(Ljava/lang/Object;)Z"⟩ : MethodName)) hown (mvT hZ (hw _ (List.mem_of_getElem? (i := 47) rfl))) (mvT hZ (hw _ (List.mem_of_getElem? (i := 48) rfl))) (notFace_of_selects (args := #[]) (mvT hZ (hw _ (List.mem_of_getElem? (i := 50) rfl)))) (mvT hZ (hw _ (List.mem_of_getElem? (i := 50) rfl))) (mvT hZ (hw _ (List.mem_of_getElem? (i := 49) rfl))) (by decide) (backOf (W := 0) (rmEqx l Z _ hw [] B2 B1 s2 s1 j16 j18 q2 q3 E2 h0 n0 Z0 fa0 fa3 fa8 fa5 fa9 fa6 fa10 fa7 hM2) hZ (hw _ (List.mem_of_getElem? (i := 51) rfl)) (hw _ (List.mem_of_getElem? (i := 2) rfl)) (by decide) (by decide)) q230a q230c (g := (mkF m 326 #[.val (.int p0), .val (.int p1), .val (.long q2), .second, .val (.long q3), .second, .val (.long q4), .second, .val (.int p5), .val (.int i9), .val (.int cA0), .val (.int cA1), .val (.int i12), .val (.int i13), .val (.int cB0), .val (.int cB1), .val (.long j16), .second, .val (.long j18), .second, .val (.int i20), .val (.ref B1), .val (.ref B2), .val (.ref rl), .val (.int (1 : Int32)), .val (.int (0 : Int32))] [(.ref B1), (.ref B2)])) rfl (by rw [hml]; rfl) (Steps.refl _) (argsL := [(.ref B1)]) (rest := []) (lenOf pd_7 rfl) rfl (by show 2 * 0 + _ ≤ _; exact Nat.le_of_eq rfl) (hb hby at_326) (fun _ _ => ⟨rfl, hs226, (by decide : 15 + 0 ≤ _), (by decide : 40 + 0 ≤ _)⟩)
                  dsimp only [Pt.U, Pt.locs, Pt.cells, Pt.slots] at X229 l229 y229 z229 st229 hQ229
                  subst l229 y229 z229
                  obtain ⟨rfl, Nq229, hs229⟩ := hQ229
                  have N231 := Fr.app N228 Nq229
                  refine OFin.to (S' := T229.setTop (mkF m 329 #[.val (.int p0), .val (.int p1), .val (.long q2), .second, .val (.long q3), .second, .val (.long q4), .second, .val (.int p5), .val (.int i9), .val (.int cA0), .val (.int cA1), .val (.int i12), .val (.int i13), .val (.int cB0), .val (.int cB1), .val (.long j16), .second, .val (.long j18), .second, .val (.int i20), .val (.ref B1), .val (.ref B2), .val (.ref rl), .val (.int (1 : Int32)), .val (.int (0 : Int32))] [(.int (own_beq E2 j16 j18 q2 q3))])) st229 ?_
                  refine OFin.of (S' := T229.setTop (mkF m 339 #[.val (.int p0), .val (.int p1), .val (.long q2), .second, .val (.long q3), .second, .val (.long q4), .second, .val (.int p5), .val (.int i9), .val (.int cA0), .val (.int cA1), .val (.int i12), .val (.int i13), .val (.int cB0), .val (.int cB1), .val (.long j16), .second, .val (.long j18), .second, .val (.int i20), .val (.ref B1), .val (.ref B2), .val (.ref rl), .val (.int (1 : Int32)), .val (.int (0 : Int32))] [(.int (1 : Int32))])) (fun t ht => ?_) ?_
                  · refine XS.iload X229.here hx rfl (hb hby at_329) rfl ?_
                    show Steps p.tables e below (T229.setTop (mkF m 331 _ [(.int (0 : Int32)), (.int (own_beq E2 j16 j18 q2 q3))])) _
                    refine XS.icmpNo X229.here hx rfl (hb hby at_331) rfl (teq (own_beq_l (hE2.trans ((own_e_1 hc160 hc161 hc210).trans (own_t_1 hc211))) (own_lwsn hc212) : (own_beq E2 j16 j18 q2 q3) = (0 : Int32))).2 ?_
                    show Steps p.tables e below (T229.setTop (mkF m 334 _ [])) _
                    refine XS.iconst X229.here hx rfl (hb hby at_334) ?_
                    show Steps p.tables e below (T229.setTop (mkF m 335 _ [(.int (1 : Int32))])) _
                    refine XS.goto X229.here hx rfl (pc0 := 335) (pc' := 339) rfl (hb hby at_335) (by decide) (by decide) ?_
                    exact ht
                  exact OFin.retBW (s := s) (vm₁ := vm1) X229 hS1 (by rw [hs229]; exact hk1) hx hlk (t := .boolean) (by simp) hret (hb hby at_339) (by decide) (by decide) (by rw [hs229]; exact hQ _ _ N231)
              · refine OFin.of (S' := T0.setTop (mkF m 273 #[.val (.int p0), .val (.int p1), .val (.long q2), .second, .val (.long q3), .second, .val (.long q4), .second, .val (.int p5), .val (.int i9), .val (.int cA0), .val (.int cA1), .val (.int i12), .val (.int i13), .val (.int cB0), .val (.int cB1), .val (.long j16), .second, .val (.long j18), .second, .val (.int i20), .val (.ref B1), .val (.ref B2), .val (.ref rl), .unset, .unset] [(.int cB1), (.int cA1)])) (fun t ht => ?_) ?_
                · refine XS.icmpNo X0.here hx rfl (hb hby at_266) rfl (flt (hc211 : ¬ (i9 < (2 : Int32)))).1 ?_
                  show Steps p.tables e below (T0.setTop (mkF m 269 _ [])) _
                  refine XS.iload X0.here hx rfl (hb hby at_269) rfl ?_
                  show Steps p.tables e below (T0.setTop (mkF m 271 _ [(.int cA1)])) _
                  refine XS.iload X0.here hx rfl (hb hby at_271) rfl ?_
                  exact ht
                by_cases hc232 : cA1 = cB1
                · refine OFin.of (S' := T0.setTop (mkF m 292 #[.val (.int p0), .val (.int p1), .val (.long q2), .second, .val (.long q3), .second, .val (.long q4), .second, .val (.int p5), .val (.int i9), .val (.int cA0), .val (.int cA1), .val (.int i12), .val (.int i13), .val (.int cB0), .val (.int cB1), .val (.long j16), .second, .val (.long j18), .second, .val (.int i20), .val (.ref B1), .val (.ref B2), .val (.ref rl), .val (.int (1 : Int32)), .unset] [(.int (lcmpW q2 j16))])) (fun t ht => ?_) ?_
                  · refine XS.icmpNo X0.here hx rfl (hb hby at_273) rfl (teq (hc232 : cA1 = cB1)).2 ?_
                    show Steps p.tables e below (T0.setTop (mkF m 276 _ [])) _
                    refine XS.iconst X0.here hx rfl (hb hby at_276) ?_
                    show Steps p.tables e below (T0.setTop (mkF m 277 _ [(.int (1 : Int32))])) _
                    refine XS.goto X0.here hx rfl (pc0 := 277) (pc' := 281) rfl (hb hby at_277) (by decide) (by decide) ?_
                    show Steps p.tables e below (T0.setTop (mkF m 281 _ [(.int (1 : Int32))])) _
                    refine XS.istore X0.here hx rfl (hb hby at_281) rfl (l' := #[.val (.int p0), .val (.int p1), .val (.long q2), .second, .val (.long q3), .second, .val (.long q4), .second, .val (.int p5), .val (.int i9), .val (.int cA0), .val (.int cA1), .val (.int i12), .val (.int i13), .val (.int cB0), .val (.int cB1), .val (.long j16), .second, .val (.long j18), .second, .val (.int i20), .val (.ref B1), .val (.ref B2), .val (.ref rl), .val (.int (1 : Int32)), .unset]) rfl ?_
                    show Steps p.tables e below (T0.setTop (mkF m 283 #[.val (.int p0), .val (.int p1), .val (.long q2), .second, .val (.long q3), .second, .val (.long q4), .second, .val (.int p5), .val (.int i9), .val (.int cA0), .val (.int cA1), .val (.int i12), .val (.int i13), .val (.int cB0), .val (.int cB1), .val (.long j16), .second, .val (.long j18), .second, .val (.int i20), .val (.ref B1), .val (.ref B2), .val (.ref rl), .val (.int (1 : Int32)), .unset] [])) _
                    refine XS.iload X0.here hx rfl (hb hby at_283) rfl ?_
                    show Steps p.tables e below (T0.setTop (mkF m 285 _ [(.int (1 : Int32))])) _
                    refine XS.ifNo X0.here hx rfl (hb hby at_285) rfl ((if0 _ _).trans (feq (by decide : ¬ ((1 : Int32) = (0 : Int32)))).1) ?_
                    show Steps p.tables e below (T0.setTop (mkF m 288 _ [])) _
                    refine XS.lloadN X0.here hx rfl (hb hby at_288) rfl ?_
                    show Steps p.tables e below (T0.setTop (mkF m 289 _ [(.long q2)])) _
                    refine XS.lload X0.here hx rfl (hb hby at_289) rfl ?_
                    show Steps p.tables e below (T0.setTop (mkF m 291 _ [(.long j16), (.long q2)])) _
                    refine XS.lcmp X0.here hx rfl (hb hby at_291) rfl ?_
                    exact ht
                  by_cases hc233 : (lcmpW q2 j16) = (0 : Int32)
                  · refine OFin.of (S' := T0.setTop (mkF m 300 #[.val (.int p0), .val (.int p1), .val (.long q2), .second, .val (.long q3), .second, .val (.long q4), .second, .val (.int p5), .val (.int i9), .val (.int cA0), .val (.int cA1), .val (.int i12), .val (.int i13), .val (.int cB0), .val (.int cB1), .val (.long j16), .second, .val (.long j18), .second, .val (.int i20), .val (.ref B1), .val (.ref B2), .val (.ref rl), .val (.int (1 : Int32)), .unset] [(.int (lcmpW q3 j18))])) (fun t ht => ?_) ?_
                    · refine XS.ifNo X0.here hx rfl (hb hby at_292) rfl ((if0 _ _).trans (teq (hc233 : (lcmpW q2 j16) = (0 : Int32))).2) ?_
                      show Steps p.tables e below (T0.setTop (mkF m 295 _ [])) _
                      refine XS.lload X0.here hx rfl (hb hby at_295) rfl ?_
                      show Steps p.tables e below (T0.setTop (mkF m 297 _ [(.long q3)])) _
                      refine XS.lload X0.here hx rfl (hb hby at_297) rfl ?_
                      show Steps p.tables e below (T0.setTop (mkF m 299 _ [(.long j18), (.long q3)])) _
                      refine XS.lcmp X0.here hx rfl (hb hby at_299) rfl ?_
                      exact ht
                    by_cases hc234 : (lcmpW q3 j18) = (0 : Int32)
                    · refine OFin.of (S' := T0.setTop (mkF m 314 #[.val (.int p0), .val (.int p1), .val (.long q2), .second, .val (.long q3), .second, .val (.long q4), .second, .val (.int p5), .val (.int i9), .val (.int cA0), .val (.int cA1), .val (.int i12), .val (.int i13), .val (.int cB0), .val (.int cB1), .val (.long j16), .second, .val (.long j18), .second, .val (.int i20), .val (.ref B1), .val (.ref B2), .val (.ref rl), .val (.int (1 : Int32)), .val (.int (1 : Int32))] [(.ref B2), (.ref B1)])) (fun t ht => ?_) ?_
                      · refine XS.ifNo X0.here hx rfl (hb hby at_300) rfl ((if0 _ _).trans (teq (hc234 : (lcmpW q3 j18) = (0 : Int32))).2) ?_
                        show Steps p.tables e below (T0.setTop (mkF m 303 _ [])) _
                        refine XS.iconst X0.here hx rfl (hb hby at_303) ?_
                        show Steps p.tables e below (T0.setTop (mkF m 304 _ [(.int (1 : Int32))])) _
                        refine XS.goto X0.here hx rfl (pc0 := 304) (pc' := 308) rfl (hb hby at_304) (by decide) (by decide) ?_
                        show Steps p.tables e below (T0.setTop (mkF m 308 _ [(.int (1 : Int32))])) _
                        refine XS.istore X0.here hx rfl (hb hby at_308) rfl (l' := #[.val (.int p0), .val (.int p1), .val (.long q2), .second, .val (.long q3), .second, .val (.long q4), .second, .val (.int p5), .val (.int i9), .val (.int cA0), .val (.int cA1), .val (.int i12), .val (.int i13), .val (.int cB0), .val (.int cB1), .val (.long j16), .second, .val (.long j18), .second, .val (.int i20), .val (.ref B1), .val (.ref B2), .val (.ref rl), .val (.int (1 : Int32)), .val (.int (1 : Int32))]) rfl ?_
                        show Steps p.tables e below (T0.setTop (mkF m 310 #[.val (.int p0), .val (.int p1), .val (.long q2), .second, .val (.long q3), .second, .val (.long q4), .second, .val (.int p5), .val (.int i9), .val (.int cA0), .val (.int cA1), .val (.int i12), .val (.int i13), .val (.int cB0), .val (.int cB1), .val (.long j16), .second, .val (.long j18), .second, .val (.int i20), .val (.ref B1), .val (.ref B2), .val (.ref rl), .val (.int (1 : Int32)), .val (.int (1 : Int32))] [])) _
                        refine XS.aload X0.here hx rfl (hb hby at_310) rfl rfl ?_
                        show Steps p.tables e below (T0.setTop (mkF m 312 _ [(.ref B1)])) _
                        refine XS.aload X0.here hx rfl (hb hby at_312) rfl rfl ?_
                        exact ht
                      obtain ⟨cq236, kq236, q236a, q236b, q236c⟩ := isOf hZ e0 fa0
                      obtain ⟨_, _, ⟨T235, L235, k235, n235⟩, -, X235, ⟨Lc235, hQ235, l235, y235, z235⟩, st235⟩ := X0.virtualBack hx (y := (⟨"com/example/greylag/greylag/model/Bundle", "equals", "(Ljava/lang/Object;)Z"⟩ : MethodName)) (z := (⟨"com/example/greylag/greylag/model/Bundle", "equals", "(Ljava/lang/Object;)Z"⟩ : MethodName)) hown (mvT hZ (hw _ (List.mem_of_getElem? (i := 47) rfl))) (mvT hZ (hw _ (List.mem_of_getElem? (i := 48) rfl))) (notFace_of_selects (args := #[]) (mvT hZ (hw _ (List.mem_of_getElem? (i := 50) rfl)))) (mvT hZ (hw _ (List.mem_of_getElem? (i := 50) rfl))) (mvT hZ (hw _ (List.mem_of_getElem? (i := 49) rfl))) (by decide) (backOf (W := 0) (rmEqx l Z _ hw [] B1 B2 s1 s2 q2 q3 j16 j18 E1 h0 n0 Z0 fa1 fa2 fa5 fa8 fa6 fa9 fa7 fa10 hM1) hZ (hw _ (List.mem_of_getElem? (i := 51) rfl)) (hw _ (List.mem_of_getElem? (i := 2) rfl)) (by decide) (by decide)) q236a q236c (g := (mkF m 314 #[.val (.int p0), .val (.int p1), .val (.long q2), .second, .val (.long q3), .second, .val (.long q4), .second, .val (.int p5), .val (.int i9), .val (.int cA0), .val (.int cA1), .val (.int i12), .val (.int i13), .val (.int cB0), .val (.int cB1), .val (.long j16), .second, .val (.long j18), .second, .val (.int i20), .val (.ref B1), .val (.ref B2), .val (.ref rl), .val (.int (1 : Int32)), .val (.int (1 : Int32))] [(.ref B2), (.ref B1)])) rfl (by rw [hml]; rfl) (Steps.refl _) (argsL := [(.ref B2)]) (rest := []) (lenOf pd_7 rfl) rfl (by show 2 * 0 + _ ≤ _; exact Nat.le_of_eq rfl) (hb hby at_314) (fun _ _ => ⟨rfl, e0, (by decide : 15 + 0 ≤ _), (by decide : 40 + 0 ≤ _)⟩)
                      dsimp only [Pt.U, Pt.locs, Pt.cells, Pt.slots] at X235 l235 y235 z235 st235 hQ235
                      subst l235 y235 z235
                      obtain ⟨rfl, Nq235, hs235⟩ := hQ235
                      have N237 := Fr.app N0 Nq235
                      refine OFin.to (S' := T235.setTop (mkF m 317 #[.val (.int p0), .val (.int p1), .val (.long q2), .second, .val (.long q3), .second, .val (.long q4), .second, .val (.int p5), .val (.int i9), .val (.int cA0), .val (.int cA1), .val (.int i12), .val (.int i13), .val (.int cB0), .val (.int cB1), .val (.long j16), .second, .val (.long j18), .second, .val (.int i20), .val (.ref B1), .val (.ref B2), .val (.ref rl), .val (.int (1 : Int32)), .val (.int (1 : Int32))] [(.int (own_beq E1 q2 q3 j16 j18))])) st235 ?_
                      refine OFin.of (S' := T235.setTop (mkF m 326 #[.val (.int p0), .val (.int p1), .val (.long q2), .second, .val (.long q3), .second, .val (.long q4), .second, .val (.int p5), .val (.int i9), .val (.int cA0), .val (.int cA1), .val (.int i12), .val (.int i13), .val (.int cB0), .val (.int cB1), .val (.long j16), .second, .val (.long j18), .second, .val (.int i20), .val (.ref B1), .val (.ref B2), .val (.ref rl), .val (.int (1 : Int32)), .val (.int (1 : Int32))] [(.ref B1), (.ref B2)])) (fun t ht => ?_) ?_
                      · refine XS.iload X235.here hx rfl (hb hby at_317) rfl ?_
                        show Steps p.tables e below (T235.setTop (mkF m 319 _ [(.int (1 : Int32)), (.int (own_beq E1 q2 q3 j16 j18))])) _
                        refine XS.icmpNo X235.here hx rfl (hb hby at_319) rfl (teq (own_beq_1 (hE1.trans ((own_e_1 hc160 hc161 hc210).trans (own_t_2 hc211 hc232))) hc233 hc234 : (own_beq E1 q2 q3 j16 j18) = (1 : Int32))).2 ?_
                        show Steps p.tables e below (T235.setTop (mkF m 322 _ [])) _
                        refine XS.aload X235.here hx rfl (hb hby at_322) rfl rfl ?_
                        show Steps p.tables e below (T235.setTop (mkF m 324 _ [(.ref B2)])) _
                        refine XS.aload X235.here hx rfl (hb hby at_324) rfl rfl ?_
                        exact ht
                      obtain ⟨cq239, kq239, q239a, q239b, q239c⟩ := isOf hZ hs235 fa1
                      obtain ⟨_, _, ⟨T238, L238, k238, n238⟩, -, X238, ⟨Lc238, hQ238, l238, y238, z238⟩, st238⟩ := X235.virtualBack hx (y := (⟨"com/example/greylag/greylag/model/Bundle", "equals", "(Ljava/lang/Object;)Z"⟩ : MethodName)) (z := (⟨"com/example/greylag/greylag/model/Bundle", "equals", "(Ljava/lang/Object;)Z"⟩ : MethodName)) hown (mvT hZ (hw _ (List.mem_of_getElem? (i := 47) rfl))) (mvT hZ (hw _ (List.mem_of_getElem? (i := 48) rfl))) (notFace_of_selects (args := #[]) (mvT hZ (hw _ (List.mem_of_getElem? (i := 50) rfl)))) (mvT hZ (hw _ (List.mem_of_getElem? (i := 50) rfl))) (mvT hZ (hw _ (List.mem_of_getElem? (i := 49) rfl))) (by decide) (backOf (W := 0) (rmEqx l Z _ hw [] B2 B1 s2 s1 j16 j18 q2 q3 E2 h0 n0 Z0 fa0 fa3 fa8 fa5 fa9 fa6 fa10 fa7 hM2) hZ (hw _ (List.mem_of_getElem? (i := 51) rfl)) (hw _ (List.mem_of_getElem? (i := 2) rfl)) (by decide) (by decide)) q239a q239c (g := (mkF m 326 #[.val (.int p0), .val (.int p1), .val (.long q2), .second, .val (.long q3), .second, .val (.long q4), .second, .val (.int p5), .val (.int i9), .val (.int cA0), .val (.int cA1), .val (.int i12), .val (.int i13), .val (.int cB0), .val (.int cB1), .val (.long j16), .second, .val (.long j18), .second, .val (.int i20), .val (.ref B1), .val (.ref B2), .val (.ref rl), .val (.int (1 : Int32)), .val (.int (1 : Int32))] [(.ref B1), (.ref B2)])) rfl (by rw [hml]; rfl) (Steps.refl _) (argsL := [(.ref B1)]) (rest := []) (lenOf pd_7 rfl) rfl (by show 2 * 0 + _ ≤ _; exact Nat.le_of_eq rfl) (hb hby at_326) (fun _ _ => ⟨rfl, hs235, (by decide : 15 + 0 ≤ _), (by decide : 40 + 0 ≤ _)⟩)
                      dsimp only [Pt.U, Pt.locs, Pt.cells, Pt.slots] at X238 l238 y238 z238 st238 hQ238
                      subst l238 y238 z238
                      obtain ⟨rfl, Nq238, hs238⟩ := hQ238
                      have N240 := Fr.app N237 Nq238
                      refine OFin.to (S' := T238.setTop (mkF m 329 #[.val (.int p0), .val (.int p1), .val (.long q2), .second, .val (.long q3), .second, .val (.long q4), .second, .val (.int p5), .val (.int i9), .val (.int cA0), .val (.int cA1), .val (.int i12), .val (.int i13), .val (.int cB0), .val (.int cB1), .val (.long j16), .second, .val (.long j18), .second, .val (.int i20), .val (.ref B1), .val (.ref B2), .val (.ref rl), .val (.int (1 : Int32)), .val (.int (1 : Int32))] [(.int (own_beq E2 j16 j18 q2 q3))])) st238 ?_
                      refine OFin.of (S' := T238.setTop (mkF m 339 #[.val (.int p0), .val (.int p1), .val (.long q2), .second, .val (.long q3), .second, .val (.long q4), .second, .val (.int p5), .val (.int i9), .val (.int cA0), .val (.int cA1), .val (.int i12), .val (.int i13), .val (.int cB0), .val (.int cB1), .val (.long j16), .second, .val (.long j18), .second, .val (.int i20), .val (.ref B1), .val (.ref B2), .val (.ref rl), .val (.int (1 : Int32)), .val (.int (1 : Int32))] [(.int (1 : Int32))])) (fun t ht => ?_) ?_
                      · refine XS.iload X238.here hx rfl (hb hby at_329) rfl ?_
                        show Steps p.tables e below (T238.setTop (mkF m 331 _ [(.int (1 : Int32)), (.int (own_beq E2 j16 j18 q2 q3))])) _
                        refine XS.icmpNo X238.here hx rfl (hb hby at_331) rfl (teq (own_beq_1 (hE2.trans ((own_e_1 hc160 hc161 hc210).trans (own_t_2 hc211 hc232))) (own_lws hc233) (own_lws hc234) : (own_beq E2 j16 j18 q2 q3) = (1 : Int32))).2 ?_
                        show Steps p.tables e below (T238.setTop (mkF m 334 _ [])) _
                        refine XS.iconst X238.here hx rfl (hb hby at_334) ?_
                        show Steps p.tables e below (T238.setTop (mkF m 335 _ [(.int (1 : Int32))])) _
                        refine XS.goto X238.here hx rfl (pc0 := 335) (pc' := 339) rfl (hb hby at_335) (by decide) (by decide) ?_
                        exact ht
                      exact OFin.retBW (s := s) (vm₁ := vm1) X238 hS1 (by rw [hs238]; exact hk1) hx hlk (t := .boolean) (by simp) hret (hb hby at_339) (by decide) (by decide) (by rw [hs238]; exact hQ _ _ N240)
                    · refine OFin.of (S' := T0.setTop (mkF m 314 #[.val (.int p0), .val (.int p1), .val (.long q2), .second, .val (.long q3), .second, .val (.long q4), .second, .val (.int p5), .val (.int i9), .val (.int cA0), .val (.int cA1), .val (.int i12), .val (.int i13), .val (.int cB0), .val (.int cB1), .val (.long j16), .second, .val (.long j18), .second, .val (.int i20), .val (.ref B1), .val (.ref B2), .val (.ref rl), .val (.int (1 : Int32)), .val (.int (0 : Int32))] [(.ref B2), (.ref B1)])) (fun t ht => ?_) ?_
                      · refine XS.ifYes X0.here hx rfl (pc0 := 300) (pc' := 307) rfl (hb hby at_300) rfl ((if0 _ _).trans (feq (hc234 : ¬ ((lcmpW q3 j18) = (0 : Int32)))).2) (by decide) (by decide) ?_
                        show Steps p.tables e below (T0.setTop (mkF m 307 _ [])) _
                        refine XS.iconst X0.here hx rfl (hb hby at_307) ?_
                        show Steps p.tables e below (T0.setTop (mkF m 308 _ [(.int (0 : Int32))])) _
                        refine XS.istore X0.here hx rfl (hb hby at_308) rfl (l' := #[.val (.int p0), .val (.int p1), .val (.long q2), .second, .val (.long q3), .second, .val (.long q4), .second, .val (.int p5), .val (.int i9), .val (.int cA0), .val (.int cA1), .val (.int i12), .val (.int i13), .val (.int cB0), .val (.int cB1), .val (.long j16), .second, .val (.long j18), .second, .val (.int i20), .val (.ref B1), .val (.ref B2), .val (.ref rl), .val (.int (1 : Int32)), .val (.int (0 : Int32))]) rfl ?_
                        show Steps p.tables e below (T0.setTop (mkF m 310 #[.val (.int p0), .val (.int p1), .val (.long q2), .second, .val (.long q3), .second, .val (.long q4), .second, .val (.int p5), .val (.int i9), .val (.int cA0), .val (.int cA1), .val (.int i12), .val (.int i13), .val (.int cB0), .val (.int cB1), .val (.long j16), .second, .val (.long j18), .second, .val (.int i20), .val (.ref B1), .val (.ref B2), .val (.ref rl), .val (.int (1 : Int32)), .val (.int (0 : Int32))] [])) _
                        refine XS.aload X0.here hx rfl (hb hby at_310) rfl rfl ?_
                        show Steps p.tables e below (T0.setTop (mkF m 312 _ [(.ref B1)])) _
                        refine XS.aload X0.here hx rfl (hb hby at_312) rfl rfl ?_
                        exact ht
                      obtain ⟨cq242, kq242, q242a, q242b, q242c⟩ := isOf hZ e0 fa0
                      obtain ⟨_, _, ⟨T241, L241, k241, n241⟩, -, X241, ⟨Lc241, hQ241, l241, y241, z241⟩, st241⟩ := X0.virtualBack hx (y := (⟨"com/example/greylag/greylag/model/Bundle", "equals", "(Ljava/lang/Object;)Z"⟩ : MethodName)) (z := (⟨"com/example/greylag/greylag/model/Bundle", "equals", "(Ljava/lang/Object;)Z"⟩ : MethodName)) hown (mvT hZ (hw _ (List.mem_of_getElem? (i := 47) rfl))) (mvT hZ (hw _ (List.mem_of_getElem? (i := 48) rfl))) (notFace_of_selects (args := #[]) (mvT hZ (hw _ (List.mem_of_getElem? (i := 50) rfl)))) (mvT hZ (hw _ (List.mem_of_getElem? (i := 50) rfl))) (mvT hZ (hw _ (List.mem_of_getElem? (i := 49) rfl))) (by decide) (backOf (W := 0) (rmEqx l Z _ hw [] B1 B2 s1 s2 q2 q3 j16 j18 E1 h0 n0 Z0 fa1 fa2 fa5 fa8 fa6 fa9 fa7 fa10 hM1) hZ (hw _ (List.mem_of_getElem? (i := 51) rfl)) (hw _ (List.mem_of_getElem? (i := 2) rfl)) (by decide) (by decide)) q242a q242c (g := (mkF m 314 #[.val (.int p0), .val (.int p1), .val (.long q2), .second, .val (.long q3), .second, .val (.long q4), .second, .val (.int p5), .val (.int i9), .val (.int cA0), .val (.int cA1), .val (.int i12), .val (.int i13), .val (.int cB0), .val (.int cB1), .val (.long j16), .second, .val (.long j18), .second, .val (.int i20), .val (.ref B1), .val (.ref B2), .val (.ref rl), .val (.int (1 : Int32)), .val (.int (0 : Int32))] [(.ref B2), (.ref B1)])) rfl (by rw [hml]; rfl) (Steps.refl _) (argsL := [(.ref B2)]) (rest := []) (lenOf pd_7 rfl) rfl (by show 2 * 0 + _ ≤ _; exact Nat.le_of_eq rfl) (hb hby at_314) (fun _ _ => ⟨rfl, e0, (by decide : 15 + 0 ≤ _), (by decide : 40 + 0 ≤ _)⟩)
                      dsimp only [Pt.U, Pt.locs, Pt.cells, Pt.slots] at X241 l241 y241 z241 st241 hQ241
                      subst l241 y241 z241
                      obtain ⟨rfl, Nq241, hs241⟩ := hQ241
                      have N243 := Fr.app N0 Nq241
                      refine OFin.to (S' := T241.setTop (mkF m 317 #[.val (.int p0), .val (.int p1), .val (.long q2), .second, .val (.long q3), .second, .val (.long q4), .second, .val (.int p5), .val (.int i9), .val (.int cA0), .val (.int cA1), .val (.int i12), .val (.int i13), .val (.int cB0), .val (.int cB1), .val (.long j16), .second, .val (.long j18), .second, .val (.int i20), .val (.ref B1), .val (.ref B2), .val (.ref rl), .val (.int (1 : Int32)), .val (.int (0 : Int32))] [(.int (own_beq E1 q2 q3 j16 j18))])) st241 ?_
                      refine OFin.of (S' := T241.setTop (mkF m 326 #[.val (.int p0), .val (.int p1), .val (.long q2), .second, .val (.long q3), .second, .val (.long q4), .second, .val (.int p5), .val (.int i9), .val (.int cA0), .val (.int cA1), .val (.int i12), .val (.int i13), .val (.int cB0), .val (.int cB1), .val (.long j16), .second, .val (.long j18), .second, .val (.int i20), .val (.ref B1), .val (.ref B2), .val (.ref rl), .val (.int (1 : Int32)), .val (.int (0 : Int32))] [(.ref B1), (.ref B2)])) (fun t ht => ?_) ?_
                      · refine XS.iload X241.here hx rfl (hb hby at_317) rfl ?_
                        show Steps p.tables e below (T241.setTop (mkF m 319 _ [(.int (0 : Int32)), (.int (own_beq E1 q2 q3 j16 j18))])) _
                        refine XS.icmpNo X241.here hx rfl (hb hby at_319) rfl (teq (own_beq_u (hE1.trans ((own_e_1 hc160 hc161 hc210).trans (own_t_2 hc211 hc232))) hc233 hc234 : (own_beq E1 q2 q3 j16 j18) = (0 : Int32))).2 ?_
                        show Steps p.tables e below (T241.setTop (mkF m 322 _ [])) _
                        refine XS.aload X241.here hx rfl (hb hby at_322) rfl rfl ?_
                        show Steps p.tables e below (T241.setTop (mkF m 324 _ [(.ref B2)])) _
                        refine XS.aload X241.here hx rfl (hb hby at_324) rfl rfl ?_
                        exact ht
                      obtain ⟨cq245, kq245, q245a, q245b, q245c⟩ := isOf hZ hs241 fa1
                      obtain ⟨_, _, ⟨T244, L244, k244, n244⟩, -, X244, ⟨Lc244, hQ244, l244, y244, z244⟩, st244⟩ := X241.virtualBack hx (y := (⟨"com/example/greylag/greylag/model/Bundle", "equals", "(Ljava/lang/Object;)Z"⟩ : MethodName)) (z := (⟨"com/example/greylag/greylag/model/Bundle", "equals", "(Ljava/lang/Object;)Z"⟩ : MethodName)) hown (mvT hZ (hw _ (List.mem_of_getElem? (i := 47) rfl))) (mvT hZ (hw _ (List.mem_of_getElem? (i := 48) rfl))) (notFace_of_selects (args := #[]) (mvT hZ (hw _ (List.mem_of_getElem? (i := 50) rfl)))) (mvT hZ (hw _ (List.mem_of_getElem? (i := 50) rfl))) (mvT hZ (hw _ (List.mem_of_getElem? (i := 49) rfl))) (by decide) (backOf (W := 0) (rmEqx l Z _ hw [] B2 B1 s2 s1 j16 j18 q2 q3 E2 h0 n0 Z0 fa0 fa3 fa8 fa5 fa9 fa6 fa10 fa7 hM2) hZ (hw _ (List.mem_of_getElem? (i := 51) rfl)) (hw _ (List.mem_of_getElem? (i := 2) rfl)) (by decide) (by decide)) q245a q245c (g := (mkF m 326 #[.val (.int p0), .val (.int p1), .val (.long q2), .second, .val (.long q3), .second, .val (.long q4), .second, .val (.int p5), .val (.int i9), .val (.int cA0), .val (.int cA1), .val (.int i12), .val (.int i13), .val (.int cB0), .val (.int cB1), .val (.long j16), .second, .val (.long j18), .second, .val (.int i20), .val (.ref B1), .val (.ref B2), .val (.ref rl), .val (.int (1 : Int32)), .val (.int (0 : Int32))] [(.ref B1), (.ref B2)])) rfl (by rw [hml]; rfl) (Steps.refl _) (argsL := [(.ref B1)]) (rest := []) (lenOf pd_7 rfl) rfl (by show 2 * 0 + _ ≤ _; exact Nat.le_of_eq rfl) (hb hby at_326) (fun _ _ => ⟨rfl, hs241, (by decide : 15 + 0 ≤ _), (by decide : 40 + 0 ≤ _)⟩)
                      dsimp only [Pt.U, Pt.locs, Pt.cells, Pt.slots] at X244 l244 y244 z244 st244 hQ244
                      subst l244 y244 z244
                      obtain ⟨rfl, Nq244, hs244⟩ := hQ244
                      have N246 := Fr.app N243 Nq244
                      refine OFin.to (S' := T244.setTop (mkF m 329 #[.val (.int p0), .val (.int p1), .val (.long q2), .second, .val (.long q3), .second, .val (.long q4), .second, .val (.int p5), .val (.int i9), .val (.int cA0), .val (.int cA1), .val (.int i12), .val (.int i13), .val (.int cB0), .val (.int cB1), .val (.long j16), .second, .val (.long j18), .second, .val (.int i20), .val (.ref B1), .val (.ref B2), .val (.ref rl), .val (.int (1 : Int32)), .val (.int (0 : Int32))] [(.int (own_beq E2 j16 j18 q2 q3))])) st244 ?_
                      refine OFin.of (S' := T244.setTop (mkF m 339 #[.val (.int p0), .val (.int p1), .val (.long q2), .second, .val (.long q3), .second, .val (.long q4), .second, .val (.int p5), .val (.int i9), .val (.int cA0), .val (.int cA1), .val (.int i12), .val (.int i13), .val (.int cB0), .val (.int cB1), .val (.long j16), .second, .val (.long j18), .second, .val (.int i20), .val (.ref B1), .val (.ref B2), .val (.ref rl), .val (.int (1 : Int32)), .val (.int (0 : Int32))] [(.int (1 : Int32))])) (fun t ht => ?_) ?_
                      · refine XS.iload X244.here hx rfl (hb hby at_329) rfl ?_
                        show Steps p.tables e below (T244.setTop (mkF m 331 _ [(.int (0 : Int32)), (.int (own_beq E2 j16 j18 q2 q3))])) _
                        refine XS.icmpNo X244.here hx rfl (hb hby at_331) rfl (teq (own_beq_u (hE2.trans ((own_e_1 hc160 hc161 hc210).trans (own_t_2 hc211 hc232))) (own_lws hc233) (own_lwsn hc234) : (own_beq E2 j16 j18 q2 q3) = (0 : Int32))).2 ?_
                        show Steps p.tables e below (T244.setTop (mkF m 334 _ [])) _
                        refine XS.iconst X244.here hx rfl (hb hby at_334) ?_
                        show Steps p.tables e below (T244.setTop (mkF m 335 _ [(.int (1 : Int32))])) _
                        refine XS.goto X244.here hx rfl (pc0 := 335) (pc' := 339) rfl (hb hby at_335) (by decide) (by decide) ?_
                        exact ht
                      exact OFin.retBW (s := s) (vm₁ := vm1) X244 hS1 (by rw [hs244]; exact hk1) hx hlk (t := .boolean) (by simp) hret (hb hby at_339) (by decide) (by decide) (by rw [hs244]; exact hQ _ _ N246)
                  · refine OFin.of (S' := T0.setTop (mkF m 314 #[.val (.int p0), .val (.int p1), .val (.long q2), .second, .val (.long q3), .second, .val (.long q4), .second, .val (.int p5), .val (.int i9), .val (.int cA0), .val (.int cA1), .val (.int i12), .val (.int i13), .val (.int cB0), .val (.int cB1), .val (.long j16), .second, .val (.long j18), .second, .val (.int i20), .val (.ref B1), .val (.ref B2), .val (.ref rl), .val (.int (1 : Int32)), .val (.int (0 : Int32))] [(.ref B2), (.ref B1)])) (fun t ht => ?_) ?_
                    · refine XS.ifYes X0.here hx rfl (pc0 := 292) (pc' := 307) rfl (hb hby at_292) rfl ((if0 _ _).trans (feq (hc233 : ¬ ((lcmpW q2 j16) = (0 : Int32)))).2) (by decide) (by decide) ?_
                      show Steps p.tables e below (T0.setTop (mkF m 307 _ [])) _
                      refine XS.iconst X0.here hx rfl (hb hby at_307) ?_
                      show Steps p.tables e below (T0.setTop (mkF m 308 _ [(.int (0 : Int32))])) _
                      refine XS.istore X0.here hx rfl (hb hby at_308) rfl (l' := #[.val (.int p0), .val (.int p1), .val (.long q2), .second, .val (.long q3), .second, .val (.long q4), .second, .val (.int p5), .val (.int i9), .val (.int cA0), .val (.int cA1), .val (.int i12), .val (.int i13), .val (.int cB0), .val (.int cB1), .val (.long j16), .second, .val (.long j18), .second, .val (.int i20), .val (.ref B1), .val (.ref B2), .val (.ref rl), .val (.int (1 : Int32)), .val (.int (0 : Int32))]) rfl ?_
                      show Steps p.tables e below (T0.setTop (mkF m 310 #[.val (.int p0), .val (.int p1), .val (.long q2), .second, .val (.long q3), .second, .val (.long q4), .second, .val (.int p5), .val (.int i9), .val (.int cA0), .val (.int cA1), .val (.int i12), .val (.int i13), .val (.int cB0), .val (.int cB1), .val (.long j16), .second, .val (.long j18), .second, .val (.int i20), .val (.ref B1), .val (.ref B2), .val (.ref rl), .val (.int (1 : Int32)), .val (.int (0 : Int32))] [])) _
                      refine XS.aload X0.here hx rfl (hb hby at_310) rfl rfl ?_
                      show Steps p.tables e below (T0.setTop (mkF m 312 _ [(.ref B1)])) _
                      refine XS.aload X0.here hx rfl (hb hby at_312) rfl rfl ?_
                      exact ht
                    obtain ⟨cq248, kq248, q248a, q248b, q248c⟩ := isOf hZ e0 fa0
                    obtain ⟨_, _, ⟨T247, L247, k247, n247⟩, -, X247, ⟨Lc247, hQ247, l247, y247, z247⟩, st247⟩ := X0.virtualBack hx (y := (⟨"com/example/greylag/greylag/model/Bundle", "equals", "(Ljava/lang/Object;)Z"⟩ : MethodName)) (z := (⟨"com/example/greylag/greylag/model/Bundle", "equals", "(Ljava/lang/Object;)Z"⟩ : MethodName)) hown (mvT hZ (hw _ (List.mem_of_getElem? (i := 47) rfl))) (mvT hZ (hw _ (List.mem_of_getElem? (i := 48) rfl))) (notFace_of_selects (args := #[]) (mvT hZ (hw _ (List.mem_of_getElem? (i := 50) rfl)))) (mvT hZ (hw _ (List.mem_of_getElem? (i := 50) rfl))) (mvT hZ (hw _ (List.mem_of_getElem? (i := 49) rfl))) (by decide) (backOf (W := 0) (rmEqx l Z _ hw [] B1 B2 s1 s2 q2 q3 j16 j18 E1 h0 n0 Z0 fa1 fa2 fa5 fa8 fa6 fa9 fa7 fa10 hM1) hZ (hw _ (List.mem_of_getElem? (i := 51) rfl)) (hw _ (List.mem_of_getElem? (i := 2) rfl)) (by decide) (by decide)) q248a q248c (g := (mkF m 314 #[.val (.int p0), .val (.int p1), .val (.long q2), .second, .val (.long q3), .second, .val (.long q4), .second, .val (.int p5), .val (.int i9), .val (.int cA0), .val (.int cA1), .val (.int i12), .val (.int i13), .val (.int cB0), .val (.int cB1), .val (.long j16), .second, .val (.long j18), .second, .val (.int i20), .val (.ref B1), .val (.ref B2), .val (.ref rl), .val (.int (1 : Int32)), .val (.int (0 : Int32))] [(.ref B2), (.ref B1)])) rfl (by rw [hml]; rfl) (Steps.refl _) (argsL := [(.ref B2)]) (rest := []) (lenOf pd_7 rfl) rfl (by show 2 * 0 + _ ≤ _; exact Nat.le_of_eq rfl) (hb hby at_314) (fun _ _ => ⟨rfl, e0, (by decide : 15 + 0 ≤ _), (by decide : 40 + 0 ≤ _)⟩)
                    dsimp only [Pt.U, Pt.locs, Pt.cells, Pt.slots] at X247 l247 y247 z247 st247 hQ247
                    subst l247 y247 z247
                    obtain ⟨rfl, Nq247, hs247⟩ := hQ247
                    have N249 := Fr.app N0 Nq247
                    refine OFin.to (S' := T247.setTop (mkF m 317 #[.val (.int p0), .val (.int p1), .val (.long q2), .second, .val (.long q3), .second, .val (.long q4), .second, .val (.int p5), .val (.int i9), .val (.int cA0), .val (.int cA1), .val (.int i12), .val (.int i13), .val (.int cB0), .val (.int cB1), .val (.long j16), .second, .val (.long j18), .second, .val (.int i20), .val (.ref B1), .val (.ref B2), .val (.ref rl), .val (.int (1 : Int32)), .val (.int (0 : Int32))] [(.int (own_beq E1 q2 q3 j16 j18))])) st247 ?_
                    refine OFin.of (S' := T247.setTop (mkF m 326 #[.val (.int p0), .val (.int p1), .val (.long q2), .second, .val (.long q3), .second, .val (.long q4), .second, .val (.int p5), .val (.int i9), .val (.int cA0), .val (.int cA1), .val (.int i12), .val (.int i13), .val (.int cB0), .val (.int cB1), .val (.long j16), .second, .val (.long j18), .second, .val (.int i20), .val (.ref B1), .val (.ref B2), .val (.ref rl), .val (.int (1 : Int32)), .val (.int (0 : Int32))] [(.ref B1), (.ref B2)])) (fun t ht => ?_) ?_
                    · refine XS.iload X247.here hx rfl (hb hby at_317) rfl ?_
                      show Steps p.tables e below (T247.setTop (mkF m 319 _ [(.int (0 : Int32)), (.int (own_beq E1 q2 q3 j16 j18))])) _
                      refine XS.icmpNo X247.here hx rfl (hb hby at_319) rfl (teq (own_beq_l (hE1.trans ((own_e_1 hc160 hc161 hc210).trans (own_t_2 hc211 hc232))) hc233 : (own_beq E1 q2 q3 j16 j18) = (0 : Int32))).2 ?_
                      show Steps p.tables e below (T247.setTop (mkF m 322 _ [])) _
                      refine XS.aload X247.here hx rfl (hb hby at_322) rfl rfl ?_
                      show Steps p.tables e below (T247.setTop (mkF m 324 _ [(.ref B2)])) _
                      refine XS.aload X247.here hx rfl (hb hby at_324) rfl rfl ?_
                      exact ht
                    obtain ⟨cq251, kq251, q251a, q251b, q251c⟩ := isOf hZ hs247 fa1
                    obtain ⟨_, _, ⟨T250, L250, k250, n250⟩, -, X250, ⟨Lc250, hQ250, l250, y250, z250⟩, st250⟩ := X247.virtualBack hx (y := (⟨"com/example/greylag/greylag/model/Bundle", "equals", "(Ljava/lang/Object;)Z"⟩ : MethodName)) (z := (⟨"com/example/greylag/greylag/model/Bundle", "equals", "(Ljava/lang/Object;)Z"⟩ : MethodName)) hown (mvT hZ (hw _ (List.mem_of_getElem? (i := 47) rfl))) (mvT hZ (hw _ (List.mem_of_getElem? (i := 48) rfl))) (notFace_of_selects (args := #[]) (mvT hZ (hw _ (List.mem_of_getElem? (i := 50) rfl)))) (mvT hZ (hw _ (List.mem_of_getElem? (i := 50) rfl))) (mvT hZ (hw _ (List.mem_of_getElem? (i := 49) rfl))) (by decide) (backOf (W := 0) (rmEqx l Z _ hw [] B2 B1 s2 s1 j16 j18 q2 q3 E2 h0 n0 Z0 fa0 fa3 fa8 fa5 fa9 fa6 fa10 fa7 hM2) hZ (hw _ (List.mem_of_getElem? (i := 51) rfl)) (hw _ (List.mem_of_getElem? (i := 2) rfl)) (by decide) (by decide)) q251a q251c (g := (mkF m 326 #[.val (.int p0), .val (.int p1), .val (.long q2), .second, .val (.long q3), .second, .val (.long q4), .second, .val (.int p5), .val (.int i9), .val (.int cA0), .val (.int cA1), .val (.int i12), .val (.int i13), .val (.int cB0), .val (.int cB1), .val (.long j16), .second, .val (.long j18), .second, .val (.int i20), .val (.ref B1), .val (.ref B2), .val (.ref rl), .val (.int (1 : Int32)), .val (.int (0 : Int32))] [(.ref B1), (.ref B2)])) rfl (by rw [hml]; rfl) (Steps.refl _) (argsL := [(.ref B1)]) (rest := []) (lenOf pd_7 rfl) rfl (by show 2 * 0 + _ ≤ _; exact Nat.le_of_eq rfl) (hb hby at_326) (fun _ _ => ⟨rfl, hs247, (by decide : 15 + 0 ≤ _), (by decide : 40 + 0 ≤ _)⟩)
                    dsimp only [Pt.U, Pt.locs, Pt.cells, Pt.slots] at X250 l250 y250 z250 st250 hQ250
                    subst l250 y250 z250
                    obtain ⟨rfl, Nq250, hs250⟩ := hQ250
                    have N252 := Fr.app N249 Nq250
                    refine OFin.to (S' := T250.setTop (mkF m 329 #[.val (.int p0), .val (.int p1), .val (.long q2), .second, .val (.long q3), .second, .val (.long q4), .second, .val (.int p5), .val (.int i9), .val (.int cA0), .val (.int cA1), .val (.int i12), .val (.int i13), .val (.int cB0), .val (.int cB1), .val (.long j16), .second, .val (.long j18), .second, .val (.int i20), .val (.ref B1), .val (.ref B2), .val (.ref rl), .val (.int (1 : Int32)), .val (.int (0 : Int32))] [(.int (own_beq E2 j16 j18 q2 q3))])) st250 ?_
                    refine OFin.of (S' := T250.setTop (mkF m 339 #[.val (.int p0), .val (.int p1), .val (.long q2), .second, .val (.long q3), .second, .val (.long q4), .second, .val (.int p5), .val (.int i9), .val (.int cA0), .val (.int cA1), .val (.int i12), .val (.int i13), .val (.int cB0), .val (.int cB1), .val (.long j16), .second, .val (.long j18), .second, .val (.int i20), .val (.ref B1), .val (.ref B2), .val (.ref rl), .val (.int (1 : Int32)), .val (.int (0 : Int32))] [(.int (1 : Int32))])) (fun t ht => ?_) ?_
                    · refine XS.iload X250.here hx rfl (hb hby at_329) rfl ?_
                      show Steps p.tables e below (T250.setTop (mkF m 331 _ [(.int (0 : Int32)), (.int (own_beq E2 j16 j18 q2 q3))])) _
                      refine XS.icmpNo X250.here hx rfl (hb hby at_331) rfl (teq (own_beq_l (hE2.trans ((own_e_1 hc160 hc161 hc210).trans (own_t_2 hc211 hc232))) (own_lwsn hc233) : (own_beq E2 j16 j18 q2 q3) = (0 : Int32))).2 ?_
                      show Steps p.tables e below (T250.setTop (mkF m 334 _ [])) _
                      refine XS.iconst X250.here hx rfl (hb hby at_334) ?_
                      show Steps p.tables e below (T250.setTop (mkF m 335 _ [(.int (1 : Int32))])) _
                      refine XS.goto X250.here hx rfl (pc0 := 335) (pc' := 339) rfl (hb hby at_335) (by decide) (by decide) ?_
                      exact ht
                    exact OFin.retBW (s := s) (vm₁ := vm1) X250 hS1 (by rw [hs250]; exact hk1) hx hlk (t := .boolean) (by simp) hret (hb hby at_339) (by decide) (by decide) (by rw [hs250]; exact hQ _ _ N252)
                · refine OFin.of (S' := T0.setTop (mkF m 314 #[.val (.int p0), .val (.int p1), .val (.long q2), .second, .val (.long q3), .second, .val (.long q4), .second, .val (.int p5), .val (.int i9), .val (.int cA0), .val (.int cA1), .val (.int i12), .val (.int i13), .val (.int cB0), .val (.int cB1), .val (.long j16), .second, .val (.long j18), .second, .val (.int i20), .val (.ref B1), .val (.ref B2), .val (.ref rl), .val (.int (0 : Int32)), .val (.int (0 : Int32))] [(.ref B2), (.ref B1)])) (fun t ht => ?_) ?_
                  · refine XS.icmpYes X0.here hx rfl (pc0 := 273) (pc' := 280) rfl (hb hby at_273) rfl (feq (hc232 : ¬ (cA1 = cB1))).2 (by decide) (by decide) ?_
                    show Steps p.tables e below (T0.setTop (mkF m 280 _ [])) _
                    refine XS.iconst X0.here hx rfl (hb hby at_280) ?_
                    show Steps p.tables e below (T0.setTop (mkF m 281 _ [(.int (0 : Int32))])) _
                    refine XS.istore X0.here hx rfl (hb hby at_281) rfl (l' := #[.val (.int p0), .val (.int p1), .val (.long q2), .second, .val (.long q3), .second, .val (.long q4), .second, .val (.int p5), .val (.int i9), .val (.int cA0), .val (.int cA1), .val (.int i12), .val (.int i13), .val (.int cB0), .val (.int cB1), .val (.long j16), .second, .val (.long j18), .second, .val (.int i20), .val (.ref B1), .val (.ref B2), .val (.ref rl), .val (.int (0 : Int32)), .unset]) rfl ?_
                    show Steps p.tables e below (T0.setTop (mkF m 283 #[.val (.int p0), .val (.int p1), .val (.long q2), .second, .val (.long q3), .second, .val (.long q4), .second, .val (.int p5), .val (.int i9), .val (.int cA0), .val (.int cA1), .val (.int i12), .val (.int i13), .val (.int cB0), .val (.int cB1), .val (.long j16), .second, .val (.long j18), .second, .val (.int i20), .val (.ref B1), .val (.ref B2), .val (.ref rl), .val (.int (0 : Int32)), .unset] [])) _
                    refine XS.iload X0.here hx rfl (hb hby at_283) rfl ?_
                    show Steps p.tables e below (T0.setTop (mkF m 285 _ [(.int (0 : Int32))])) _
                    refine XS.ifYes X0.here hx rfl (pc0 := 285) (pc' := 307) rfl (hb hby at_285) rfl ((if0 _ _).trans (teq (by decide : (0 : Int32) = (0 : Int32))).1) (by decide) (by decide) ?_
                    show Steps p.tables e below (T0.setTop (mkF m 307 _ [])) _
                    refine XS.iconst X0.here hx rfl (hb hby at_307) ?_
                    show Steps p.tables e below (T0.setTop (mkF m 308 _ [(.int (0 : Int32))])) _
                    refine XS.istore X0.here hx rfl (hb hby at_308) rfl (l' := #[.val (.int p0), .val (.int p1), .val (.long q2), .second, .val (.long q3), .second, .val (.long q4), .second, .val (.int p5), .val (.int i9), .val (.int cA0), .val (.int cA1), .val (.int i12), .val (.int i13), .val (.int cB0), .val (.int cB1), .val (.long j16), .second, .val (.long j18), .second, .val (.int i20), .val (.ref B1), .val (.ref B2), .val (.ref rl), .val (.int (0 : Int32)), .val (.int (0 : Int32))]) rfl ?_
                    show Steps p.tables e below (T0.setTop (mkF m 310 #[.val (.int p0), .val (.int p1), .val (.long q2), .second, .val (.long q3), .second, .val (.long q4), .second, .val (.int p5), .val (.int i9), .val (.int cA0), .val (.int cA1), .val (.int i12), .val (.int i13), .val (.int cB0), .val (.int cB1), .val (.long j16), .second, .val (.long j18), .second, .val (.int i20), .val (.ref B1), .val (.ref B2), .val (.ref rl), .val (.int (0 : Int32)), .val (.int (0 : Int32))] [])) _
                    refine XS.aload X0.here hx rfl (hb hby at_310) rfl rfl ?_
                    show Steps p.tables e below (T0.setTop (mkF m 312 _ [(.ref B1)])) _
                    refine XS.aload X0.here hx rfl (hb hby at_312) rfl rfl ?_
                    exact ht
                  obtain ⟨cq254, kq254, q254a, q254b, q254c⟩ := isOf hZ e0 fa0
                  obtain ⟨_, _, ⟨T253, L253, k253, n253⟩, -, X253, ⟨Lc253, hQ253, l253, y253, z253⟩, st253⟩ := X0.virtualBack hx (y := (⟨"com/example/greylag/greylag/model/Bundle", "equals", "(Ljava/lang/Object;)Z"⟩ : MethodName)) (z := (⟨"com/example/greylag/greylag/model/Bundle", "equals", "(Ljava/lang/Object;)Z"⟩ : MethodName)) hown (mvT hZ (hw _ (List.mem_of_getElem? (i := 47) rfl))) (mvT hZ (hw _ (List.mem_of_getElem? (i := 48) rfl))) (notFace_of_selects (args := #[]) (mvT hZ (hw _ (List.mem_of_getElem? (i := 50) rfl)))) (mvT hZ (hw _ (List.mem_of_getElem? (i := 50) rfl))) (mvT hZ (hw _ (List.mem_of_getElem? (i := 49) rfl))) (by decide) (backOf (W := 0) (rmEqx l Z _ hw [] B1 B2 s1 s2 q2 q3 j16 j18 E1 h0 n0 Z0 fa1 fa2 fa5 fa8 fa6 fa9 fa7 fa10 hM1) hZ (hw _ (List.mem_of_getElem? (i := 51) rfl)) (hw _ (List.mem_of_getElem? (i := 2) rfl)) (by decide) (by decide)) q254a q254c (g := (mkF m 314 #[.val (.int p0), .val (.int p1), .val (.long q2), .second, .val (.long q3), .second, .val (.long q4), .second, .val (.int p5), .val (.int i9), .val (.int cA0), .val (.int cA1), .val (.int i12), .val (.int i13), .val (.int cB0), .val (.int cB1), .val (.long j16), .second, .val (.long j18), .second, .val (.int i20), .val (.ref B1), .val (.ref B2), .val (.ref rl), .val (.int (0 : Int32)), .val (.int (0 : Int32))] [(.ref B2), (.ref B1)])) rfl (by rw [hml]; rfl) (Steps.refl _) (argsL := [(.ref B2)]) (rest := []) (lenOf pd_7 rfl) rfl (by show 2 * 0 + _ ≤ _; exact Nat.le_of_eq rfl) (hb hby at_314) (fun _ _ => ⟨rfl, e0, (by decide : 15 + 0 ≤ _), (by decide : 40 + 0 ≤ _)⟩)
                  dsimp only [Pt.U, Pt.locs, Pt.cells, Pt.slots] at X253 l253 y253 z253 st253 hQ253
                  subst l253 y253 z253
                  obtain ⟨rfl, Nq253, hs253⟩ := hQ253
                  have N255 := Fr.app N0 Nq253
                  refine OFin.to (S' := T253.setTop (mkF m 317 #[.val (.int p0), .val (.int p1), .val (.long q2), .second, .val (.long q3), .second, .val (.long q4), .second, .val (.int p5), .val (.int i9), .val (.int cA0), .val (.int cA1), .val (.int i12), .val (.int i13), .val (.int cB0), .val (.int cB1), .val (.long j16), .second, .val (.long j18), .second, .val (.int i20), .val (.ref B1), .val (.ref B2), .val (.ref rl), .val (.int (0 : Int32)), .val (.int (0 : Int32))] [(.int (own_beq E1 q2 q3 j16 j18))])) st253 ?_
                  refine OFin.of (S' := T253.setTop (mkF m 326 #[.val (.int p0), .val (.int p1), .val (.long q2), .second, .val (.long q3), .second, .val (.long q4), .second, .val (.int p5), .val (.int i9), .val (.int cA0), .val (.int cA1), .val (.int i12), .val (.int i13), .val (.int cB0), .val (.int cB1), .val (.long j16), .second, .val (.long j18), .second, .val (.int i20), .val (.ref B1), .val (.ref B2), .val (.ref rl), .val (.int (0 : Int32)), .val (.int (0 : Int32))] [(.ref B1), (.ref B2)])) (fun t ht => ?_) ?_
                  · refine XS.iload X253.here hx rfl (hb hby at_317) rfl ?_
                    show Steps p.tables e below (T253.setTop (mkF m 319 _ [(.int (0 : Int32)), (.int (own_beq E1 q2 q3 j16 j18))])) _
                    refine XS.icmpNo X253.here hx rfl (hb hby at_319) rfl (teq (own_beq_e (hE1.trans ((own_e_1 hc160 hc161 hc210).trans (own_t_c1 hc211 hc232))) : (own_beq E1 q2 q3 j16 j18) = (0 : Int32))).2 ?_
                    show Steps p.tables e below (T253.setTop (mkF m 322 _ [])) _
                    refine XS.aload X253.here hx rfl (hb hby at_322) rfl rfl ?_
                    show Steps p.tables e below (T253.setTop (mkF m 324 _ [(.ref B2)])) _
                    refine XS.aload X253.here hx rfl (hb hby at_324) rfl rfl ?_
                    exact ht
                  obtain ⟨cq257, kq257, q257a, q257b, q257c⟩ := isOf hZ hs253 fa1
                  obtain ⟨_, _, ⟨T256, L256, k256, n256⟩, -, X256, ⟨Lc256, hQ256, l256, y256, z256⟩, st256⟩ := X253.virtualBack hx (y := (⟨"com/example/greylag/greylag/model/Bundle", "equals", "(Ljava/lang/Object;)Z"⟩ : MethodName)) (z := (⟨"com/example/greylag/greylag/model/Bundle", "equals", "(Ljava/lang/Object;)Z"⟩ : MethodName)) hown (mvT hZ (hw _ (List.mem_of_getElem? (i := 47) rfl))) (mvT hZ (hw _ (List.mem_of_getElem? (i := 48) rfl))) (notFace_of_selects (args := #[]) (mvT hZ (hw _ (List.mem_of_getElem? (i := 50) rfl)))) (mvT hZ (hw _ (List.mem_of_getElem? (i := 50) rfl))) (mvT hZ (hw _ (List.mem_of_getElem? (i := 49) rfl))) (by decide) (backOf (W := 0) (rmEqx l Z _ hw [] B2 B1 s2 s1 j16 j18 q2 q3 E2 h0 n0 Z0 fa0 fa3 fa8 fa5 fa9 fa6 fa10 fa7 hM2) hZ (hw _ (List.mem_of_getElem? (i := 51) rfl)) (hw _ (List.mem_of_getElem? (i := 2) rfl)) (by decide) (by decide)) q257a q257c (g := (mkF m 326 #[.val (.int p0), .val (.int p1), .val (.long q2), .second, .val (.long q3), .second, .val (.long q4), .second, .val (.int p5), .val (.int i9), .val (.int cA0), .val (.int cA1), .val (.int i12), .val (.int i13), .val (.int cB0), .val (.int cB1), .val (.long j16), .second, .val (.long j18), .second, .val (.int i20), .val (.ref B1), .val (.ref B2), .val (.ref rl), .val (.int (0 : Int32)), .val (.int (0 : Int32))] [(.ref B1), (.ref B2)])) rfl (by rw [hml]; rfl) (Steps.refl _) (argsL := [(.ref B1)]) (rest := []) (lenOf pd_7 rfl) rfl (by show 2 * 0 + _ ≤ _; exact Nat.le_of_eq rfl) (hb hby at_326) (fun _ _ => ⟨rfl, hs253, (by decide : 15 + 0 ≤ _), (by decide : 40 + 0 ≤ _)⟩)
                  dsimp only [Pt.U, Pt.locs, Pt.cells, Pt.slots] at X256 l256 y256 z256 st256 hQ256
                  subst l256 y256 z256
                  obtain ⟨rfl, Nq256, hs256⟩ := hQ256
                  have N258 := Fr.app N255 Nq256
                  refine OFin.to (S' := T256.setTop (mkF m 329 #[.val (.int p0), .val (.int p1), .val (.long q2), .second, .val (.long q3), .second, .val (.long q4), .second, .val (.int p5), .val (.int i9), .val (.int cA0), .val (.int cA1), .val (.int i12), .val (.int i13), .val (.int cB0), .val (.int cB1), .val (.long j16), .second, .val (.long j18), .second, .val (.int i20), .val (.ref B1), .val (.ref B2), .val (.ref rl), .val (.int (0 : Int32)), .val (.int (0 : Int32))] [(.int (own_beq E2 j16 j18 q2 q3))])) st256 ?_
                  refine OFin.of (S' := T256.setTop (mkF m 339 #[.val (.int p0), .val (.int p1), .val (.long q2), .second, .val (.long q3), .second, .val (.long q4), .second, .val (.int p5), .val (.int i9), .val (.int cA0), .val (.int cA1), .val (.int i12), .val (.int i13), .val (.int cB0), .val (.int cB1), .val (.long j16), .second, .val (.long j18), .second, .val (.int i20), .val (.ref B1), .val (.ref B2), .val (.ref rl), .val (.int (0 : Int32)), .val (.int (0 : Int32))] [(.int (1 : Int32))])) (fun t ht => ?_) ?_
                  · refine XS.iload X256.here hx rfl (hb hby at_329) rfl ?_
                    show Steps p.tables e below (T256.setTop (mkF m 331 _ [(.int (0 : Int32)), (.int (own_beq E2 j16 j18 q2 q3))])) _
                    refine XS.icmpNo X256.here hx rfl (hb hby at_331) rfl (teq (own_beq_e (hE2.trans ((own_e_1 hc160 hc161 hc210).trans (own_t_c1 hc211 hc232))) : (own_beq E2 j16 j18 q2 q3) = (0 : Int32))).2 ?_
                    show Steps p.tables e below (T256.setTop (mkF m 334 _ [])) _
                    refine XS.iconst X256.here hx rfl (hb hby at_334) ?_
                    show Steps p.tables e below (T256.setTop (mkF m 335 _ [(.int (1 : Int32))])) _
                    refine XS.goto X256.here hx rfl (pc0 := 335) (pc' := 339) rfl (hb hby at_335) (by decide) (by decide) ?_
                    exact ht
                  exact OFin.retBW (s := s) (vm₁ := vm1) X256 hS1 (by rw [hs256]; exact hk1) hx hlk (t := .boolean) (by simp) hret (hb hby at_339) (by decide) (by decide) (by rw [hs256]; exact hQ _ _ N258)
            · refine OFin.of (S' := T0.setTop (mkF m 314 #[.val (.int p0), .val (.int p1), .val (.long q2), .second, .val (.long q3), .second, .val (.long q4), .second, .val (.int p5), .val (.int i9), .val (.int cA0), .val (.int cA1), .val (.int i12), .val (.int i13), .val (.int cB0), .val (.int cB1), .val (.long j16), .second, .val (.long j18), .second, .val (.int i20), .val (.ref B1), .val (.ref B2), .val (.ref rl), .val (.int (0 : Int32)), .val (.int (0 : Int32))] [(.ref B2), (.ref B1)])) (fun t ht => ?_) ?_
              · refine XS.icmpYes X0.here hx rfl (pc0 := 260) (pc' := 280) rfl (hb hby at_260) rfl (feq (hc210 : ¬ (cA0 = cB0))).2 (by decide) (by decide) ?_
                show Steps p.tables e below (T0.setTop (mkF m 280 _ [])) _
                refine XS.iconst X0.here hx rfl (hb hby at_280) ?_
                show Steps p.tables e below (T0.setTop (mkF m 281 _ [(.int (0 : Int32))])) _
                refine XS.istore X0.here hx rfl (hb hby at_281) rfl (l' := #[.val (.int p0), .val (.int p1), .val (.long q2), .second, .val (.long q3), .second, .val (.long q4), .second, .val (.int p5), .val (.int i9), .val (.int cA0), .val (.int cA1), .val (.int i12), .val (.int i13), .val (.int cB0), .val (.int cB1), .val (.long j16), .second, .val (.long j18), .second, .val (.int i20), .val (.ref B1), .val (.ref B2), .val (.ref rl), .val (.int (0 : Int32)), .unset]) rfl ?_
                show Steps p.tables e below (T0.setTop (mkF m 283 #[.val (.int p0), .val (.int p1), .val (.long q2), .second, .val (.long q3), .second, .val (.long q4), .second, .val (.int p5), .val (.int i9), .val (.int cA0), .val (.int cA1), .val (.int i12), .val (.int i13), .val (.int cB0), .val (.int cB1), .val (.long j16), .second, .val (.long j18), .second, .val (.int i20), .val (.ref B1), .val (.ref B2), .val (.ref rl), .val (.int (0 : Int32)), .unset] [])) _
                refine XS.iload X0.here hx rfl (hb hby at_283) rfl ?_
                show Steps p.tables e below (T0.setTop (mkF m 285 _ [(.int (0 : Int32))])) _
                refine XS.ifYes X0.here hx rfl (pc0 := 285) (pc' := 307) rfl (hb hby at_285) rfl ((if0 _ _).trans (teq (by decide : (0 : Int32) = (0 : Int32))).1) (by decide) (by decide) ?_
                show Steps p.tables e below (T0.setTop (mkF m 307 _ [])) _
                refine XS.iconst X0.here hx rfl (hb hby at_307) ?_
                show Steps p.tables e below (T0.setTop (mkF m 308 _ [(.int (0 : Int32))])) _
                refine XS.istore X0.here hx rfl (hb hby at_308) rfl (l' := #[.val (.int p0), .val (.int p1), .val (.long q2), .second, .val (.long q3), .second, .val (.long q4), .second, .val (.int p5), .val (.int i9), .val (.int cA0), .val (.int cA1), .val (.int i12), .val (.int i13), .val (.int cB0), .val (.int cB1), .val (.long j16), .second, .val (.long j18), .second, .val (.int i20), .val (.ref B1), .val (.ref B2), .val (.ref rl), .val (.int (0 : Int32)), .val (.int (0 : Int32))]) rfl ?_
                show Steps p.tables e below (T0.setTop (mkF m 310 #[.val (.int p0), .val (.int p1), .val (.long q2), .second, .val (.long q3), .second, .val (.long q4), .second, .val (.int p5), .val (.int i9), .val (.int cA0), .val (.int cA1), .val (.int i12), .val (.int i13), .val (.int cB0), .val (.int cB1), .val (.long j16), .second, .val (.long j18), .second, .val (.int i20), .val (.ref B1), .val (.ref B2), .val (.ref rl), .val (.int (0 : Int32)), .val (.int (0 : Int32))] [])) _
                refine XS.aload X0.here hx rfl (hb hby at_310) rfl rfl ?_
                show Steps p.tables e below (T0.setTop (mkF m 312 _ [(.ref B1)])) _
                refine XS.aload X0.here hx rfl (hb hby at_312) rfl rfl ?_
                exact ht
              obtain ⟨cq260, kq260, q260a, q260b, q260c⟩ := isOf hZ e0 fa0
              obtain ⟨_, _, ⟨T259, L259, k259, n259⟩, -, X259, ⟨Lc259, hQ259, l259, y259, z259⟩, st259⟩ := X0.virtualBack hx (y := (⟨"com/example/greylag/greylag/model/Bundle", "equals", "(Ljava/lang/Object;)Z"⟩ : MethodName)) (z := (⟨"com/example/greylag/greylag/model/Bundle", "equals", "(Ljava/lang/Object;)Z"⟩ : MethodName)) hown (mvT hZ (hw _ (List.mem_of_getElem? (i := 47) rfl))) (mvT hZ (hw _ (List.mem_of_getElem? (i := 48) rfl))) (notFace_of_selects (args := #[]) (mvT hZ (hw _ (List.mem_of_getElem? (i := 50) rfl)))) (mvT hZ (hw _ (List.mem_of_getElem? (i := 50) rfl))) (mvT hZ (hw _ (List.mem_of_getElem? (i := 49) rfl))) (by decide) (backOf (W := 0) (rmEqx l Z _ hw [] B1 B2 s1 s2 q2 q3 j16 j18 E1 h0 n0 Z0 fa1 fa2 fa5 fa8 fa6 fa9 fa7 fa10 hM1) hZ (hw _ (List.mem_of_getElem? (i := 51) rfl)) (hw _ (List.mem_of_getElem? (i := 2) rfl)) (by decide) (by decide)) q260a q260c (g := (mkF m 314 #[.val (.int p0), .val (.int p1), .val (.long q2), .second, .val (.long q3), .second, .val (.long q4), .second, .val (.int p5), .val (.int i9), .val (.int cA0), .val (.int cA1), .val (.int i12), .val (.int i13), .val (.int cB0), .val (.int cB1), .val (.long j16), .second, .val (.long j18), .second, .val (.int i20), .val (.ref B1), .val (.ref B2), .val (.ref rl), .val (.int (0 : Int32)), .val (.int (0 : Int32))] [(.ref B2), (.ref B1)])) rfl (by rw [hml]; rfl) (Steps.refl _) (argsL := [(.ref B2)]) (rest := []) (lenOf pd_7 rfl) rfl (by show 2 * 0 + _ ≤ _; exact Nat.le_of_eq rfl) (hb hby at_314) (fun _ _ => ⟨rfl, e0, (by decide : 15 + 0 ≤ _), (by decide : 40 + 0 ≤ _)⟩)
              dsimp only [Pt.U, Pt.locs, Pt.cells, Pt.slots] at X259 l259 y259 z259 st259 hQ259
              subst l259 y259 z259
              obtain ⟨rfl, Nq259, hs259⟩ := hQ259
              have N261 := Fr.app N0 Nq259
              refine OFin.to (S' := T259.setTop (mkF m 317 #[.val (.int p0), .val (.int p1), .val (.long q2), .second, .val (.long q3), .second, .val (.long q4), .second, .val (.int p5), .val (.int i9), .val (.int cA0), .val (.int cA1), .val (.int i12), .val (.int i13), .val (.int cB0), .val (.int cB1), .val (.long j16), .second, .val (.long j18), .second, .val (.int i20), .val (.ref B1), .val (.ref B2), .val (.ref rl), .val (.int (0 : Int32)), .val (.int (0 : Int32))] [(.int (own_beq E1 q2 q3 j16 j18))])) st259 ?_
              refine OFin.of (S' := T259.setTop (mkF m 326 #[.val (.int p0), .val (.int p1), .val (.long q2), .second, .val (.long q3), .second, .val (.long q4), .second, .val (.int p5), .val (.int i9), .val (.int cA0), .val (.int cA1), .val (.int i12), .val (.int i13), .val (.int cB0), .val (.int cB1), .val (.long j16), .second, .val (.long j18), .second, .val (.int i20), .val (.ref B1), .val (.ref B2), .val (.ref rl), .val (.int (0 : Int32)), .val (.int (0 : Int32))] [(.ref B1), (.ref B2)])) (fun t ht => ?_) ?_
              · refine XS.iload X259.here hx rfl (hb hby at_317) rfl ?_
                show Steps p.tables e below (T259.setTop (mkF m 319 _ [(.int (0 : Int32)), (.int (own_beq E1 q2 q3 j16 j18))])) _
                refine XS.icmpNo X259.here hx rfl (hb hby at_319) rfl (teq (own_beq_e (hE1.trans (own_e_c0 hc160 hc161 hc210)) : (own_beq E1 q2 q3 j16 j18) = (0 : Int32))).2 ?_
                show Steps p.tables e below (T259.setTop (mkF m 322 _ [])) _
                refine XS.aload X259.here hx rfl (hb hby at_322) rfl rfl ?_
                show Steps p.tables e below (T259.setTop (mkF m 324 _ [(.ref B2)])) _
                refine XS.aload X259.here hx rfl (hb hby at_324) rfl rfl ?_
                exact ht
              obtain ⟨cq263, kq263, q263a, q263b, q263c⟩ := isOf hZ hs259 fa1
              obtain ⟨_, _, ⟨T262, L262, k262, n262⟩, -, X262, ⟨Lc262, hQ262, l262, y262, z262⟩, st262⟩ := X259.virtualBack hx (y := (⟨"com/example/greylag/greylag/model/Bundle", "equals", "(Ljava/lang/Object;)Z"⟩ : MethodName)) (z := (⟨"com/example/greylag/greylag/model/Bundle", "equals", "(Ljava/lang/Object;)Z"⟩ : MethodName)) hown (mvT hZ (hw _ (List.mem_of_getElem? (i := 47) rfl))) (mvT hZ (hw _ (List.mem_of_getElem? (i := 48) rfl))) (notFace_of_selects (args := #[]) (mvT hZ (hw _ (List.mem_of_getElem? (i := 50) rfl)))) (mvT hZ (hw _ (List.mem_of_getElem? (i := 50) rfl))) (mvT hZ (hw _ (List.mem_of_getElem? (i := 49) rfl))) (by decide) (backOf (W := 0) (rmEqx l Z _ hw [] B2 B1 s2 s1 j16 j18 q2 q3 E2 h0 n0 Z0 fa0 fa3 fa8 fa5 fa9 fa6 fa10 fa7 hM2) hZ (hw _ (List.mem_of_getElem? (i := 51) rfl)) (hw _ (List.mem_of_getElem? (i := 2) rfl)) (by decide) (by decide)) q263a q263c (g := (mkF m 326 #[.val (.int p0), .val (.int p1), .val (.long q2), .second, .val (.long q3), .second, .val (.long q4), .second, .val (.int p5), .val (.int i9), .val (.int cA0), .val (.int cA1), .val (.int i12), .val (.int i13), .val (.int cB0), .val (.int cB1), .val (.long j16), .second, .val (.long j18), .second, .val (.int i20), .val (.ref B1), .val (.ref B2), .val (.ref rl), .val (.int (0 : Int32)), .val (.int (0 : Int32))] [(.ref B1), (.ref B2)])) rfl (by rw [hml]; rfl) (Steps.refl _) (argsL := [(.ref B1)]) (rest := []) (lenOf pd_7 rfl) rfl (by show 2 * 0 + _ ≤ _; exact Nat.le_of_eq rfl) (hb hby at_326) (fun _ _ => ⟨rfl, hs259, (by decide : 15 + 0 ≤ _), (by decide : 40 + 0 ≤ _)⟩)
              dsimp only [Pt.U, Pt.locs, Pt.cells, Pt.slots] at X262 l262 y262 z262 st262 hQ262
              subst l262 y262 z262
              obtain ⟨rfl, Nq262, hs262⟩ := hQ262
              have N264 := Fr.app N261 Nq262
              refine OFin.to (S' := T262.setTop (mkF m 329 #[.val (.int p0), .val (.int p1), .val (.long q2), .second, .val (.long q3), .second, .val (.long q4), .second, .val (.int p5), .val (.int i9), .val (.int cA0), .val (.int cA1), .val (.int i12), .val (.int i13), .val (.int cB0), .val (.int cB1), .val (.long j16), .second, .val (.long j18), .second, .val (.int i20), .val (.ref B1), .val (.ref B2), .val (.ref rl), .val (.int (0 : Int32)), .val (.int (0 : Int32))] [(.int (own_beq E2 j16 j18 q2 q3))])) st262 ?_
              refine OFin.of (S' := T262.setTop (mkF m 339 #[.val (.int p0), .val (.int p1), .val (.long q2), .second, .val (.long q3), .second, .val (.long q4), .second, .val (.int p5), .val (.int i9), .val (.int cA0), .val (.int cA1), .val (.int i12), .val (.int i13), .val (.int cB0), .val (.int cB1), .val (.long j16), .second, .val (.long j18), .second, .val (.int i20), .val (.ref B1), .val (.ref B2), .val (.ref rl), .val (.int (0 : Int32)), .val (.int (0 : Int32))] [(.int (1 : Int32))])) (fun t ht => ?_) ?_
              · refine XS.iload X262.here hx rfl (hb hby at_329) rfl ?_
                show Steps p.tables e below (T262.setTop (mkF m 331 _ [(.int (0 : Int32)), (.int (own_beq E2 j16 j18 q2 q3))])) _
                refine XS.icmpNo X262.here hx rfl (hb hby at_331) rfl (teq (own_beq_e (hE2.trans (own_e_c0 hc160 hc161 hc210)) : (own_beq E2 j16 j18 q2 q3) = (0 : Int32))).2 ?_
                show Steps p.tables e below (T262.setTop (mkF m 334 _ [])) _
                refine XS.iconst X262.here hx rfl (hb hby at_334) ?_
                show Steps p.tables e below (T262.setTop (mkF m 335 _ [(.int (1 : Int32))])) _
                refine XS.goto X262.here hx rfl (pc0 := 335) (pc' := 339) rfl (hb hby at_335) (by decide) (by decide) ?_
                exact ht
              exact OFin.retBW (s := s) (vm₁ := vm1) X262 hS1 (by rw [hs262]; exact hk1) hx hlk (t := .boolean) (by simp) hret (hb hby at_339) (by decide) (by decide) (by rw [hs262]; exact hQ _ _ N264)
        · refine OFin.of (S' := T0.setTop (mkF m 314 #[.val (.int p0), .val (.int p1), .val (.long q2), .second, .val (.long q3), .second, .val (.long q4), .second, .val (.int p5), .val (.int i9), .val (.int cA0), .val (.int cA1), .val (.int i12), .val (.int i13), .val (.int cB0), .val (.int cB1), .val (.long j16), .second, .val (.long j18), .second, .val (.int i20), .val (.ref B1), .val (.ref B2), .val (.ref rl), .val (.int (0 : Int32)), .val (.int (0 : Int32))] [(.ref B2), (.ref B1)])) (fun t ht => ?_) ?_
          · refine XS.icmpYes X0.here hx rfl (pc0 := 247) (pc' := 280) rfl (hb hby at_247) rfl (feq (hc160 : ¬ (i9 = i13))).2 (by decide) (by decide) ?_
            show Steps p.tables e below (T0.setTop (mkF m 280 _ [])) _
            refine XS.iconst X0.here hx rfl (hb hby at_280) ?_
            show Steps p.tables e below (T0.setTop (mkF m 281 _ [(.int (0 : Int32))])) _
            refine XS.istore X0.here hx rfl (hb hby at_281) rfl (l' := #[.val (.int p0), .val (.int p1), .val (.long q2), .second, .val (.long q3), .second, .val (.long q4), .second, .val (.int p5), .val (.int i9), .val (.int cA0), .val (.int cA1), .val (.int i12), .val (.int i13), .val (.int cB0), .val (.int cB1), .val (.long j16), .second, .val (.long j18), .second, .val (.int i20), .val (.ref B1), .val (.ref B2), .val (.ref rl), .val (.int (0 : Int32)), .unset]) rfl ?_
            show Steps p.tables e below (T0.setTop (mkF m 283 #[.val (.int p0), .val (.int p1), .val (.long q2), .second, .val (.long q3), .second, .val (.long q4), .second, .val (.int p5), .val (.int i9), .val (.int cA0), .val (.int cA1), .val (.int i12), .val (.int i13), .val (.int cB0), .val (.int cB1), .val (.long j16), .second, .val (.long j18), .second, .val (.int i20), .val (.ref B1), .val (.ref B2), .val (.ref rl), .val (.int (0 : Int32)), .unset] [])) _
            refine XS.iload X0.here hx rfl (hb hby at_283) rfl ?_
            show Steps p.tables e below (T0.setTop (mkF m 285 _ [(.int (0 : Int32))])) _
            refine XS.ifYes X0.here hx rfl (pc0 := 285) (pc' := 307) rfl (hb hby at_285) rfl ((if0 _ _).trans (teq (by decide : (0 : Int32) = (0 : Int32))).1) (by decide) (by decide) ?_
            show Steps p.tables e below (T0.setTop (mkF m 307 _ [])) _
            refine XS.iconst X0.here hx rfl (hb hby at_307) ?_
            show Steps p.tables e below (T0.setTop (mkF m 308 _ [(.int (0 : Int32))])) _
            refine XS.istore X0.here hx rfl (hb hby at_308) rfl (l' := #[.val (.int p0), .val (.int p1), .val (.long q2), .second, .val (.long q3), .second, .val (.long q4), .second, .val (.int p5), .val (.int i9), .val (.int cA0), .val (.int cA1), .val (.int i12), .val (.int i13), .val (.int cB0), .val (.int cB1), .val (.long j16), .second, .val (.long j18), .second, .val (.int i20), .val (.ref B1), .val (.ref B2), .val (.ref rl), .val (.int (0 : Int32)), .val (.int (0 : Int32))]) rfl ?_
            show Steps p.tables e below (T0.setTop (mkF m 310 #[.val (.int p0), .val (.int p1), .val (.long q2), .second, .val (.long q3), .second, .val (.long q4), .second, .val (.int p5), .val (.int i9), .val (.int cA0), .val (.int cA1), .val (.int i12), .val (.int i13), .val (.int cB0), .val (.int cB1), .val (.long j16), .second, .val (.long j18), .second, .val (.int i20), .val (.ref B1), .val (.ref B2), .val (.ref rl), .val (.int (0 : Int32)), .val (.int (0 : Int32))] [])) _
            refine XS.aload X0.here hx rfl (hb hby at_310) rfl rfl ?_
            show Steps p.tables e below (T0.setTop (mkF m 312 _ [(.ref B1)])) _
            refine XS.aload X0.here hx rfl (hb hby at_312) rfl rfl ?_
            exact ht
          obtain ⟨cq266, kq266, q266a, q266b, q266c⟩ := isOf hZ e0 fa0
          obtain ⟨_, _, ⟨T265, L265, k265, n265⟩, -, X265, ⟨Lc265, hQ265, l265, y265, z265⟩, st265⟩ := X0.virtualBack hx (y := (⟨"com/example/greylag/greylag/model/Bundle", "equals", "(Ljava/lang/Object;)Z"⟩ : MethodName)) (z := (⟨"com/example/greylag/greylag/model/Bundle", "equals", "(Ljava/lang/Object;)Z"⟩ : MethodName)) hown (mvT hZ (hw _ (List.mem_of_getElem? (i := 47) rfl))) (mvT hZ (hw _ (List.mem_of_getElem? (i := 48) rfl))) (notFace_of_selects (args := #[]) (mvT hZ (hw _ (List.mem_of_getElem? (i := 50) rfl)))) (mvT hZ (hw _ (List.mem_of_getElem? (i := 50) rfl))) (mvT hZ (hw _ (List.mem_of_getElem? (i := 49) rfl))) (by decide) (backOf (W := 0) (rmEqx l Z _ hw [] B1 B2 s1 s2 q2 q3 j16 j18 E1 h0 n0 Z0 fa1 fa2 fa5 fa8 fa6 fa9 fa7 fa10 hM1) hZ (hw _ (List.mem_of_getElem? (i := 51) rfl)) (hw _ (List.mem_of_getElem? (i := 2) rfl)) (by decide) (by decide)) q266a q266c (g := (mkF m 314 #[.val (.int p0), .val (.int p1), .val (.long q2), .second, .val (.long q3), .second, .val (.long q4), .second, .val (.int p5), .val (.int i9), .val (.int cA0), .val (.int cA1), .val (.int i12), .val (.int i13), .val (.int cB0), .val (.int cB1), .val (.long j16), .second, .val (.long j18), .second, .val (.int i20), .val (.ref B1), .val (.ref B2), .val (.ref rl), .val (.int (0 : Int32)), .val (.int (0 : Int32))] [(.ref B2), (.ref B1)])) rfl (by rw [hml]; rfl) (Steps.refl _) (argsL := [(.ref B2)]) (rest := []) (lenOf pd_7 rfl) rfl (by show 2 * 0 + _ ≤ _; exact Nat.le_of_eq rfl) (hb hby at_314) (fun _ _ => ⟨rfl, e0, (by decide : 15 + 0 ≤ _), (by decide : 40 + 0 ≤ _)⟩)
          dsimp only [Pt.U, Pt.locs, Pt.cells, Pt.slots] at X265 l265 y265 z265 st265 hQ265
          subst l265 y265 z265
          obtain ⟨rfl, Nq265, hs265⟩ := hQ265
          have N267 := Fr.app N0 Nq265
          refine OFin.to (S' := T265.setTop (mkF m 317 #[.val (.int p0), .val (.int p1), .val (.long q2), .second, .val (.long q3), .second, .val (.long q4), .second, .val (.int p5), .val (.int i9), .val (.int cA0), .val (.int cA1), .val (.int i12), .val (.int i13), .val (.int cB0), .val (.int cB1), .val (.long j16), .second, .val (.long j18), .second, .val (.int i20), .val (.ref B1), .val (.ref B2), .val (.ref rl), .val (.int (0 : Int32)), .val (.int (0 : Int32))] [(.int (own_beq E1 q2 q3 j16 j18))])) st265 ?_
          refine OFin.of (S' := T265.setTop (mkF m 326 #[.val (.int p0), .val (.int p1), .val (.long q2), .second, .val (.long q3), .second, .val (.long q4), .second, .val (.int p5), .val (.int i9), .val (.int cA0), .val (.int cA1), .val (.int i12), .val (.int i13), .val (.int cB0), .val (.int cB1), .val (.long j16), .second, .val (.long j18), .second, .val (.int i20), .val (.ref B1), .val (.ref B2), .val (.ref rl), .val (.int (0 : Int32)), .val (.int (0 : Int32))] [(.ref B1), (.ref B2)])) (fun t ht => ?_) ?_
          · refine XS.iload X265.here hx rfl (hb hby at_317) rfl ?_
            show Steps p.tables e below (T265.setTop (mkF m 319 _ [(.int (0 : Int32)), (.int (own_beq E1 q2 q3 j16 j18))])) _
            refine XS.icmpNo X265.here hx rfl (hb hby at_319) rfl (teq (own_beq_e (hE1.trans (own_e_ne hc160)) : (own_beq E1 q2 q3 j16 j18) = (0 : Int32))).2 ?_
            show Steps p.tables e below (T265.setTop (mkF m 322 _ [])) _
            refine XS.aload X265.here hx rfl (hb hby at_322) rfl rfl ?_
            show Steps p.tables e below (T265.setTop (mkF m 324 _ [(.ref B2)])) _
            refine XS.aload X265.here hx rfl (hb hby at_324) rfl rfl ?_
            exact ht
          obtain ⟨cq269, kq269, q269a, q269b, q269c⟩ := isOf hZ hs265 fa1
          obtain ⟨_, _, ⟨T268, L268, k268, n268⟩, -, X268, ⟨Lc268, hQ268, l268, y268, z268⟩, st268⟩ := X265.virtualBack hx (y := (⟨"com/example/greylag/greylag/model/Bundle", "equals", "(Ljava/lang/Object;)Z"⟩ : MethodName)) (z := (⟨"com/example/greylag/greylag/model/Bundle", "equals", "(Ljava/lang/Object;)Z"⟩ : MethodName)) hown (mvT hZ (hw _ (List.mem_of_getElem? (i := 47) rfl))) (mvT hZ (hw _ (List.mem_of_getElem? (i := 48) rfl))) (notFace_of_selects (args := #[]) (mvT hZ (hw _ (List.mem_of_getElem? (i := 50) rfl)))) (mvT hZ (hw _ (List.mem_of_getElem? (i := 50) rfl))) (mvT hZ (hw _ (List.mem_of_getElem? (i := 49) rfl))) (by decide) (backOf (W := 0) (rmEqx l Z _ hw [] B2 B1 s2 s1 j16 j18 q2 q3 E2 h0 n0 Z0 fa0 fa3 fa8 fa5 fa9 fa6 fa10 fa7 hM2) hZ (hw _ (List.mem_of_getElem? (i := 51) rfl)) (hw _ (List.mem_of_getElem? (i := 2) rfl)) (by decide) (by decide)) q269a q269c (g := (mkF m 326 #[.val (.int p0), .val (.int p1), .val (.long q2), .second, .val (.long q3), .second, .val (.long q4), .second, .val (.int p5), .val (.int i9), .val (.int cA0), .val (.int cA1), .val (.int i12), .val (.int i13), .val (.int cB0), .val (.int cB1), .val (.long j16), .second, .val (.long j18), .second, .val (.int i20), .val (.ref B1), .val (.ref B2), .val (.ref rl), .val (.int (0 : Int32)), .val (.int (0 : Int32))] [(.ref B1), (.ref B2)])) rfl (by rw [hml]; rfl) (Steps.refl _) (argsL := [(.ref B1)]) (rest := []) (lenOf pd_7 rfl) rfl (by show 2 * 0 + _ ≤ _; exact Nat.le_of_eq rfl) (hb hby at_326) (fun _ _ => ⟨rfl, hs265, (by decide : 15 + 0 ≤ _), (by decide : 40 + 0 ≤ _)⟩)
          dsimp only [Pt.U, Pt.locs, Pt.cells, Pt.slots] at X268 l268 y268 z268 st268 hQ268
          subst l268 y268 z268
          obtain ⟨rfl, Nq268, hs268⟩ := hQ268
          have N270 := Fr.app N267 Nq268
          refine OFin.to (S' := T268.setTop (mkF m 329 #[.val (.int p0), .val (.int p1), .val (.long q2), .second, .val (.long q3), .second, .val (.long q4), .second, .val (.int p5), .val (.int i9), .val (.int cA0), .val (.int cA1), .val (.int i12), .val (.int i13), .val (.int cB0), .val (.int cB1), .val (.long j16), .second, .val (.long j18), .second, .val (.int i20), .val (.ref B1), .val (.ref B2), .val (.ref rl), .val (.int (0 : Int32)), .val (.int (0 : Int32))] [(.int (own_beq E2 j16 j18 q2 q3))])) st268 ?_
          refine OFin.of (S' := T268.setTop (mkF m 339 #[.val (.int p0), .val (.int p1), .val (.long q2), .second, .val (.long q3), .second, .val (.long q4), .second, .val (.int p5), .val (.int i9), .val (.int cA0), .val (.int cA1), .val (.int i12), .val (.int i13), .val (.int cB0), .val (.int cB1), .val (.long j16), .second, .val (.long j18), .second, .val (.int i20), .val (.ref B1), .val (.ref B2), .val (.ref rl), .val (.int (0 : Int32)), .val (.int (0 : Int32))] [(.int (1 : Int32))])) (fun t ht => ?_) ?_
          · refine XS.iload X268.here hx rfl (hb hby at_329) rfl ?_
            show Steps p.tables e below (T268.setTop (mkF m 331 _ [(.int (0 : Int32)), (.int (own_beq E2 j16 j18 q2 q3))])) _
            refine XS.icmpNo X268.here hx rfl (hb hby at_331) rfl (teq (own_beq_e (hE2.trans (own_e_ne hc160)) : (own_beq E2 j16 j18 q2 q3) = (0 : Int32))).2 ?_
            show Steps p.tables e below (T268.setTop (mkF m 334 _ [])) _
            refine XS.iconst X268.here hx rfl (hb hby at_334) ?_
            show Steps p.tables e below (T268.setTop (mkF m 335 _ [(.int (1 : Int32))])) _
            refine XS.goto X268.here hx rfl (pc0 := 335) (pc' := 339) rfl (hb hby at_335) (by decide) (by decide) ?_
            exact ht
          exact OFin.retBW (s := s) (vm₁ := vm1) X268 hS1 (by rw [hs268]; exact hk1) hx hlk (t := .boolean) (by simp) hret (hb hby at_339) (by decide) (by decide) (by rw [hs268]; exact hQ _ _ N270)
set_option maxRecDepth 65536 in
set_option maxHeartbeats 40000000 in
theorem seg00 {p : Program} {l : Launch} {e : Env} {s : State} {m : MethodId} {args : Array Value} {below : List Frame} {meth : Method} {c : Code} (Z : State) (a0 : Array Value) (hw : ∀ d ∈ tables_1, d.before a0 Z = true) (hx : p.tables.exec = Jvm.exec) (hby : c.code = code) (hlk : meth.locks = false) (hret : meth.sig.returnType = some .boolean) (hml : c.maxLocals = 26) (hown : s.vm.findClass "com/example/greylag/greylag/model/BundleEqualsPinLaw" = some m.cls) (hZ : Z.Warmed39 s.vm) {Q : Option Value → Heap → List Loc → Prop} (n0 : Nat) (p0 : Int32) (p1 : Int32) (q2 : Int64) (q3 : Int64) (q4 : Int64) (p5 : Int32) (cA0 : Int32) (cA1 : Int32) (i12 : Int32) (cB0 : Int32) (cB1 : Int32) (j16 : Int64) (j18 : Int64) (i20 : Int32) (cs : Int32) (ac : Addr) {T0 : State} {locs : List Loc} {h0 : Heap} (X0 : Stand p l e room_1 s m args below meth c T0 locs 0 0) (e0 : T0.heap = h0) (Z0 : n0 ≤ h0.size) (N0 : Fr n0 locs) (fa0 : Sta Z h0 "java/lang/String" "COMPACT_STRINGS" "Z" (.int cs)) (fa1 : Sta Z h0 "java/lang/Long$LongCache" "cache" "[Ljava/lang/Long;" (.ref ac)) (hcs : ¬ cs = (0 : Int32)) (hLC : OwnLC Z h0 ac) (okA0 : OwnOk cA0) (okA1 : OwnOk cA1) (okB0 : OwnOk cB0) (okB1 : OwnOk cB1) (hC0 : CHv Z consts_1 s.vm h0) (hQ : ∀ (h' : Heap) (L : List Loc), Fr n0 L → Q (some (.int (1 : Int32))) h' L) :
    OFin p e below (KPostW s Q room_1.cells room_1.slots) (T0.setTop (mkF m 137 #[.val (.int p0), .val (.int p1), .val (.long q2), .second, .val (.long q3), .second, .val (.long q4), .second, .val (.int p5), .val (.int (0 : Int32)), .val (.int cA0), .val (.int cA1), .val (.int i12), .val (.int (0 : Int32)), .val (.int cB0), .val (.int cB1), .val (.long j16), .second, .val (.long j18), .second, .val (.int i20), .unset, .unset, .unset, .unset, .unset] [])) := by
  have K0 : Keep h0 h0 [] := Keep.refl _ _
  have hR0 : CHr Z consts_1 s.vm h0 s.vm h0 := CHr.refl hC0
  have hEL := own_EW hw
  obtain ⟨T6, h6, X6, e6, E6, A6, D6, -, st6⟩ := newO X0 hx hZ hown (hw _ (List.mem_of_getElem? (i := 0) rfl)) (hw _ (List.mem_of_getElem? (i := 1) rfl)) (hw _ (List.mem_of_getElem? (i := 2) rfl)) e0 (g := (mkF m 137 #[.val (.int p0), .val (.int p1), .val (.long q2), .second, .val (.long q3), .second, .val (.long q4), .second, .val (.int p5), .val (.int (0 : Int32)), .val (.int cA0), .val (.int cA1), .val (.int i12), .val (.int (0 : Int32)), .val (.int cB0), .val (.int cB1), .val (.long j16), .second, .val (.long j18), .second, .val (.int i20), .unset, .unset, .unset, .unset, .unset] [])) rfl (hb hby at_137) (by decide) (by decide)
  obtain ⟨b6, gq6⟩ : ∃ z, z = h0.size := ⟨_, rfl⟩
  rw [← gq6] at A6 D6 st6
  have g7 : n0 ≤ b6 := (Nat.le_trans Z0 (Nat.le_of_eq gq6.symm))
  have sz8 : h0.size ≤ b6 := (Nat.le_trans K0.1 (Nat.le_of_eq gq6.symm))
  have hA9 := CHr.ext E6 hR0.1
  have hR10 := hR0.trans hA9
  have f11 := fa0.ext E6
  have f12 := fa1.ext E6
  have Z13 : n0 ≤ h6.size := (Nat.le_trans Z0 E6.1)
  have K14 : Keep h0 h6 [] := (K0.ext E6)
  have f15 : Fld Z h6 b6 "com/example/greylag/greylag/model/Bundle" "namespace" "Ljava/lang/String;" .null := D6 (Or.inr (hw _ (List.mem_of_getElem? (i := 34) rfl))) (ty := (.object "java/lang/String")) (by decide)
  have f16 : Fld Z h6 b6 "com/example/greylag/greylag/model/Bundle" "lower" "J" (.long (0 : Int64)) := D6 (Or.inr (hw _ (List.mem_of_getElem? (i := 36) rfl))) (ty := .long) (by decide)
  have f17 : Fld Z h6 b6 "com/example/greylag/greylag/model/Bundle" "upper" "J" (.long (0 : Int64)) := D6 (Or.inr (hw _ (List.mem_of_getElem? (i := 38) rfl))) (ty := .long) (by decide)
  refine OFin.of (S' := T6.setTop (mkF m 140 #[.val (.int p0), .val (.int p1), .val (.long q2), .second, .val (.long q3), .second, .val (.long q4), .second, .val (.int p5), .val (.int (0 : Int32)), .val (.int cA0), .val (.int cA1), .val (.int i12), .val (.int (0 : Int32)), .val (.int cB0), .val (.int cB1), .val (.long j16), .second, .val (.long j18), .second, .val (.int i20), .unset, .unset, .unset, .unset, .unset] [(.ref b6)])) (fun t ht => st6 t ht) ?_
  refine OFin.of (S' := T6.setTop (mkF m 147 #[.val (.int p0), .val (.int p1), .val (.long q2), .second, .val (.long q3), .second, .val (.long q4), .second, .val (.int p5), .val (.int (0 : Int32)), .val (.int cA0), .val (.int cA1), .val (.int i12), .val (.int (0 : Int32)), .val (.int cB0), .val (.int cB1), .val (.long j16), .second, .val (.long j18), .second, .val (.int i20), .unset, .unset, .unset, .unset, .unset] [(.int cA1), (.int cA0), (.int (0 : Int32)), (.ref b6), (.ref b6)])) (fun t ht => ?_) ?_
  · refine XS.dup X6.here hx rfl (hb hby at_140) rfl rfl ?_
    show Steps p.tables e below (T6.setTop (mkF m 141 _ [(.ref b6), (.ref b6)])) _
    refine XS.iload X6.here hx rfl (hb hby at_141) rfl ?_
    show Steps p.tables e below (T6.setTop (mkF m 143 _ [(.int (0 : Int32)), (.ref b6), (.ref b6)])) _
    refine XS.iload X6.here hx rfl (hb hby at_143) rfl ?_
    show Steps p.tables e below (T6.setTop (mkF m 145 _ [(.int cA0), (.int (0 : Int32)), (.ref b6), (.ref b6)])) _
    refine XS.iload X6.here hx rfl (hb hby at_145) rfl ?_
    exact ht
  obtain ⟨_, _, ⟨T18, L18, k18, n18⟩, -, X18, Sq18, gr18, ⟨Lc18, hQ18, l18, y18, z18, CH18⟩, st18⟩ := callSS X6 hx (y := (⟨"com/example/greylag/greylag/model/BundleEqualsPinLaw", "str", "(ICC)Ljava/lang/String;"⟩ : MethodName)) hown (mvT hZ (hw _ (List.mem_of_getElem? (i := 3) rfl))) (mvT hZ (hw _ (List.mem_of_getElem? (i := 4) rfl))) (mvT hZ (hw _ (List.mem_of_getElem? (i := 5) rfl))) (mvT hZ (hw _ (List.mem_of_getElem? (i := 6) rfl))) (by decide) (backOfSH (s := s) (vm0 := s.vm) (W := 2) (rmSt0 l Z _ hw [] cA0 cA1 b6 h6 n0 Z13 A6) hZ (hw _ (List.mem_of_getElem? (i := 6) rfl)) (hw _ (List.mem_of_getElem? (i := 5) rfl)) (by decide) (by decide) hEL hR10.1) (g := (mkF m 147 #[.val (.int p0), .val (.int p1), .val (.long q2), .second, .val (.long q3), .second, .val (.long q4), .second, .val (.int p5), .val (.int (0 : Int32)), .val (.int cA0), .val (.int cA1), .val (.int i12), .val (.int (0 : Int32)), .val (.int cB0), .val (.int cB1), .val (.long j16), .second, .val (.long j18), .second, .val (.int i20), .unset, .unset, .unset, .unset, .unset] [(.int cA1), (.int cA0), (.int (0 : Int32)), (.ref b6), (.ref b6)])) rfl (by rw [hml]; rfl) (argsL := [(.int (0 : Int32)), (.int cA0), (.int cA1)]) (rest := [(.ref b6), (.ref b6)]) (lenOf pd_9 rfl) rfl (by show 2 * 0 + _ ≤ _; exact Nat.le_of_eq rfl) (hb hby at_147) (fun _ _ => ⟨rfl, e6, (by decide : 1 + 6 ≤ _), (by decide : 3 + 12 ≤ _)⟩)
  dsimp only [Pt.U, Pt.locs, Pt.cells, Pt.slots] at X18 l18 y18 z18 st18 hQ18 Sq18 gr18 CH18
  subst l18 y18 z18
  have hZ18 : Z.Warmed39 (s.setVm T18.vm).vm := State.Warmed39.trans (t := s.setVm s.vm) hZ Sq18.1
  have hown18 : (s.setVm T18.vm).vm.findClass "com/example/greylag/greylag/model/BundleEqualsPinLaw" = some m.cls := by rw [show (s.setVm T18.vm).vm = T18.vm from rfl, Sq18.1.alike.findClass]; exact hown
  have S18 : s.Since T18.vm T18.heap.size := State.Since.trans (s := s) (vm₁ := s.vm) ((State.WarmedH.refl s).since h6.size) Sq18 (Nat.le_trans (Nat.le_refl _) (by rw [← e6]; exact gr18))
  obtain ⟨rfl, Nq18, Kq18, Es18, t18, kb18, f18a, f18b, f18c, nt18⟩ := hQ18
  have N19 := Fr.app N0 Nq18
  obtain ⟨b18, gq18⟩ : ∃ z, z = h6.size := ⟨_, rfl⟩
  rw [← gq18] at Es18 f18a f18b st18
  have g20 : n0 ≤ b18 := (Nat.le_trans Z13 (Nat.le_of_eq gq18.symm))
  have sz21 : h0.size ≤ b18 := (Nat.le_trans K14.1 (Nat.le_of_eq gq18.symm))
  have ne22 : b6 ≠ b18 := (Nat.ne_of_lt (Nat.lt_of_lt_of_le A6.lt (Nat.le_of_eq gq18.symm)))
  have hA23 := CH18
  have hR24 := hR10.trans hA23
  have f25 := (own_staKeep f11 Kq18 own_sn0)
  have f26 := (own_staKeep f12 Kq18 own_sn0)
  have f27 := (A6.keep Kq18)
  have f28 := (f15.keep Kq18 nin0)
  have f29 := (f16.keep Kq18 nin0)
  have f30 := (f17.keep Kq18 nin0)
  have Z31 : n0 ≤ T18.heap.size := (Nat.le_trans Z13 Kq18.1)
  have K32 : Keep h0 T18.heap [] := (K14.trans Kq18 all0)
  refine OFin.to (S' := T18.setTop (mkF m 150 #[.val (.int p0), .val (.int p1), .val (.long q2), .second, .val (.long q3), .second, .val (.long q4), .second, .val (.int p5), .val (.int (0 : Int32)), .val (.int cA0), .val (.int cA1), .val (.int i12), .val (.int (0 : Int32)), .val (.int cB0), .val (.int cB1), .val (.long j16), .second, .val (.long j18), .second, .val (.int i20), .unset, .unset, .unset, .unset, .unset] [(.ref b18), (.ref b6), (.ref b6)])) st18 ?_
  refine OFin.of (S' := T18.setTop (mkF m 153 #[.val (.int p0), .val (.int p1), .val (.long q2), .second, .val (.long q3), .second, .val (.long q4), .second, .val (.int p5), .val (.int (0 : Int32)), .val (.int cA0), .val (.int cA1), .val (.int i12), .val (.int (0 : Int32)), .val (.int cB0), .val (.int cB1), .val (.long j16), .second, .val (.long j18), .second, .val (.int i20), .unset, .unset, .unset, .unset, .unset] [(.long q3), (.long q2), (.ref b18), (.ref b6), (.ref b6)])) (fun t ht => ?_) ?_
  · refine XS.lloadN X18.here hx rfl (hb hby at_150) rfl ?_
    show Steps p.tables e below (T18.setTop (mkF m 151 _ [(.long q2), (.ref b18), (.ref b6), (.ref b6)])) _
    refine XS.lload X18.here hx rfl (hb hby at_151) rfl ?_
    exact ht
  obtain ⟨_, _, ⟨T33, L33, k33, n33⟩, -, X33, ⟨Lc33, hQ33, l33, y33, z33⟩, st33⟩ := X18.specialBack hx (y := (⟨"com/example/greylag/greylag/model/Bundle", "<init>", "(Ljava/lang/String;JJ)V"⟩ : MethodName)) rfl hown18 (mvT hZ18 (hw _ (List.mem_of_getElem? (i := 29) rfl))) (mvT hZ18 (hw _ (List.mem_of_getElem? (i := 30) rfl))) (mvT hZ18 (hw _ (List.mem_of_getElem? (i := 31) rfl))) (by decide) (backOf (W := 1) (rmIni l Z _ hw [] b6 b18 q2 q3 T18.heap n0 Z31 f27 f28 f29 f30 g7) hZ18 (hw _ (List.mem_of_getElem? (i := 31) rfl)) (hw _ (List.mem_of_getElem? (i := 2) rfl)) (by decide) (by decide)) (g := (mkF m 153 #[.val (.int p0), .val (.int p1), .val (.long q2), .second, .val (.long q3), .second, .val (.long q4), .second, .val (.int p5), .val (.int (0 : Int32)), .val (.int cA0), .val (.int cA1), .val (.int i12), .val (.int (0 : Int32)), .val (.int cB0), .val (.int cB1), .val (.long j16), .second, .val (.long j18), .second, .val (.int i20), .unset, .unset, .unset, .unset, .unset] [(.long q3), (.long q2), (.ref b18), (.ref b6), (.ref b6)])) rfl (by rw [hml]; rfl) (Steps.refl _) (a := b6) (argsL := [(.ref b18), (.long q2), (.long q3)]) (rest := [(.ref b6)]) (lenOf pd_10 rfl) rfl (by show 2 * 0 + _ ≤ _; exact Nat.le_of_eq rfl) (hb hby at_153) (fun _ _ => ⟨rfl, (rfl : T18.heap = T18.heap), (by decide : 7 + 0 ≤ _), (by decide : 15 + 0 ≤ _)⟩)
  dsimp only [Pt.U, Pt.locs, Pt.cells, Pt.slots] at X33 l33 y33 z33 st33 hQ33
  subst l33 y33 z33
  obtain ⟨rfl, Nq33, Kq33, f34, f35, f36⟩ := hQ33
  have N37 := Fr.app N19 Nq33
  have hA38 := CHr.keep Kq33 (sfS (Safe.exa hZ18.alike f27 (by decide) (by decide)) sf0) hR24.1
  have hR39 := hR24.trans hA38
  have f40 := (own_staKeep f25 Kq33 (own_snS f27 own_sn0))
  have f41 := (own_staKeep f26 Kq33 (own_snS f27 own_sn0))
  have f42 := (f27.keep Kq33)
  have f43 := (Es18.keep Kq33)
  have f44 := (f18a.keep Kq33 (ninS (Ne.symm ne22) nin0))
  have f45 := (f18b.keep Kq33 (ninS (Ne.symm ne22) nin0))
  have f46 := (f18c.keep Kq33 (ninS (Ne.symm nt18) nin0))
  have Z47 : n0 ≤ T33.heap.size := (Nat.le_trans Z31 Kq33.1)
  have K48 : Keep h0 T33.heap [] := (K32.trans Kq33 (allS (Or.inr sz8) all0))
  have kk49 : T18.heap.size ≤ T33.heap.size := (Nat.le_trans (Nat.le_refl _) Kq33.1)
  refine OFin.to (S' := T33.setTop (mkF m 156 #[.val (.int p0), .val (.int p1), .val (.long q2), .second, .val (.long q3), .second, .val (.long q4), .second, .val (.int p5), .val (.int (0 : Int32)), .val (.int cA0), .val (.int cA1), .val (.int i12), .val (.int (0 : Int32)), .val (.int cB0), .val (.int cB1), .val (.long j16), .second, .val (.long j18), .second, .val (.int i20), .unset, .unset, .unset, .unset, .unset] [(.ref b6)])) st33 ?_
  refine OFin.of (S' := T33.setTop (mkF m 158 #[.val (.int p0), .val (.int p1), .val (.long q2), .second, .val (.long q3), .second, .val (.long q4), .second, .val (.int p5), .val (.int (0 : Int32)), .val (.int cA0), .val (.int cA1), .val (.int i12), .val (.int (0 : Int32)), .val (.int cB0), .val (.int cB1), .val (.long j16), .second, .val (.long j18), .second, .val (.int i20), .val (.ref b6), .unset, .unset, .unset, .unset] [])) (fun t ht => ?_) ?_
  · refine XS.astore X33.here hx rfl (hb hby at_156) rfl rfl (l' := #[.val (.int p0), .val (.int p1), .val (.long q2), .second, .val (.long q3), .second, .val (.long q4), .second, .val (.int p5), .val (.int (0 : Int32)), .val (.int cA0), .val (.int cA1), .val (.int i12), .val (.int (0 : Int32)), .val (.int cB0), .val (.int cB1), .val (.long j16), .second, .val (.long j18), .second, .val (.int i20), .val (.ref b6), .unset, .unset, .unset, .unset]) rfl ?_
    exact ht
  obtain ⟨T50, h50, X50, e50, E50, A50, D50, -, st50⟩ := newO X33 hx hZ18 hown18 (hw _ (List.mem_of_getElem? (i := 0) rfl)) (hw _ (List.mem_of_getElem? (i := 1) rfl)) (hw _ (List.mem_of_getElem? (i := 2) rfl)) (rfl : T33.heap = T33.heap) (g := (mkF m 158 #[.val (.int p0), .val (.int p1), .val (.long q2), .second, .val (.long q3), .second, .val (.long q4), .second, .val (.int p5), .val (.int (0 : Int32)), .val (.int cA0), .val (.int cA1), .val (.int i12), .val (.int (0 : Int32)), .val (.int cB0), .val (.int cB1), .val (.long j16), .second, .val (.long j18), .second, .val (.int i20), .val (.ref b6), .unset, .unset, .unset, .unset] [])) rfl (hb hby at_158) (by decide) (by decide)
  obtain ⟨b50, gq50⟩ : ∃ z, z = T33.heap.size := ⟨_, rfl⟩
  rw [← gq50] at A50 D50 st50
  have g51 : n0 ≤ b50 := (Nat.le_trans Z47 (Nat.le_of_eq gq50.symm))
  have sz52 : h0.size ≤ b50 := (Nat.le_trans K48.1 (Nat.le_of_eq gq50.symm))
  have ne53 : b6 ≠ b50 := (Nat.ne_of_lt (Nat.lt_of_lt_of_le f42.lt (Nat.le_of_eq gq50.symm)))
  have ne54 : b18 ≠ b50 := (Nat.ne_of_lt (Nat.lt_of_lt_of_le f43.lt (Nat.le_of_eq gq50.symm)))
  have ne55 : t18 ≠ b50 := (Nat.ne_of_lt (Nat.lt_of_lt_of_le f46.lt (Nat.le_of_eq gq50.symm)))
  have hA56 := CHr.ext E50 hR39.1
  have hR57 := hR39.trans hA56
  have f58 := f40.ext E50
  have f59 := f41.ext E50
  have f60 := f42.ext E50
  have f61 := f43.ext E50
  have f62 := f44.ext E50
  have f63 := f45.ext E50
  have f64 := f46.ext E50
  have f65 := f34.ext E50
  have f66 := f35.ext E50
  have f67 := f36.ext E50
  have Z68 : n0 ≤ h50.size := (Nat.le_trans Z47 E50.1)
  have K69 : Keep h0 h50 [] := (K48.ext E50)
  have kk70 : T18.heap.size ≤ h50.size := (Nat.le_trans kk49 E50.1)
  have f71 : Fld Z h50 b50 "com/example/greylag/greylag/model/Bundle" "namespace" "Ljava/lang/String;" .null := D50 (Or.inr (hw _ (List.mem_of_getElem? (i := 34) rfl))) (ty := (.object "java/lang/String")) (by decide)
  have f72 : Fld Z h50 b50 "com/example/greylag/greylag/model/Bundle" "lower" "J" (.long (0 : Int64)) := D50 (Or.inr (hw _ (List.mem_of_getElem? (i := 36) rfl))) (ty := .long) (by decide)
  have f73 : Fld Z h50 b50 "com/example/greylag/greylag/model/Bundle" "upper" "J" (.long (0 : Int64)) := D50 (Or.inr (hw _ (List.mem_of_getElem? (i := 38) rfl))) (ty := .long) (by decide)
  refine OFin.of (S' := T50.setTop (mkF m 161 #[.val (.int p0), .val (.int p1), .val (.long q2), .second, .val (.long q3), .second, .val (.long q4), .second, .val (.int p5), .val (.int (0 : Int32)), .val (.int cA0), .val (.int cA1), .val (.int i12), .val (.int (0 : Int32)), .val (.int cB0), .val (.int cB1), .val (.long j16), .second, .val (.long j18), .second, .val (.int i20), .val (.ref b6), .unset, .unset, .unset, .unset] [(.ref b50)])) (fun t ht => st50 t ht) ?_
  refine OFin.of (S' := T50.setTop (mkF m 168 #[.val (.int p0), .val (.int p1), .val (.long q2), .second, .val (.long q3), .second, .val (.long q4), .second, .val (.int p5), .val (.int (0 : Int32)), .val (.int cA0), .val (.int cA1), .val (.int i12), .val (.int (0 : Int32)), .val (.int cB0), .val (.int cB1), .val (.long j16), .second, .val (.long j18), .second, .val (.int i20), .val (.ref b6), .unset, .unset, .unset, .unset] [(.int cB1), (.int cB0), (.int (0 : Int32)), (.ref b50), (.ref b50)])) (fun t ht => ?_) ?_
  · refine XS.dup X50.here hx rfl (hb hby at_161) rfl rfl ?_
    show Steps p.tables e below (T50.setTop (mkF m 162 _ [(.ref b50), (.ref b50)])) _
    refine XS.iload X50.here hx rfl (hb hby at_162) rfl ?_
    show Steps p.tables e below (T50.setTop (mkF m 164 _ [(.int (0 : Int32)), (.ref b50), (.ref b50)])) _
    refine XS.iload X50.here hx rfl (hb hby at_164) rfl ?_
    show Steps p.tables e below (T50.setTop (mkF m 166 _ [(.int cB0), (.int (0 : Int32)), (.ref b50), (.ref b50)])) _
    refine XS.iload X50.here hx rfl (hb hby at_166) rfl ?_
    exact ht
  obtain ⟨_, _, ⟨T74, L74, k74, n74⟩, -, X74, Sq74, gr74, ⟨Lc74, hQ74, l74, y74, z74, CH74⟩, st74⟩ := callSS X50 hx (y := (⟨"com/example/greylag/greylag/model/BundleEqualsPinLaw", "str", "(ICC)Ljava/lang/String;"⟩ : MethodName)) hown18 (mvT hZ18 (hw _ (List.mem_of_getElem? (i := 3) rfl))) (mvT hZ18 (hw _ (List.mem_of_getElem? (i := 4) rfl))) (mvT hZ18 (hw _ (List.mem_of_getElem? (i := 5) rfl))) (mvT hZ18 (hw _ (List.mem_of_getElem? (i := 6) rfl))) (by decide) (backOfSH (s := s) (vm0 := T18.vm) (W := 2) (rmSt0 l Z _ hw [] cB0 cB1 b50 h50 n0 Z68 A50) hZ18 (hw _ (List.mem_of_getElem? (i := 6) rfl)) (hw _ (List.mem_of_getElem? (i := 5) rfl)) (by decide) (by decide) hEL hR57.1) (g := (mkF m 168 #[.val (.int p0), .val (.int p1), .val (.long q2), .second, .val (.long q3), .second, .val (.long q4), .second, .val (.int p5), .val (.int (0 : Int32)), .val (.int cA0), .val (.int cA1), .val (.int i12), .val (.int (0 : Int32)), .val (.int cB0), .val (.int cB1), .val (.long j16), .second, .val (.long j18), .second, .val (.int i20), .val (.ref b6), .unset, .unset, .unset, .unset] [(.int cB1), (.int cB0), (.int (0 : Int32)), (.ref b50), (.ref b50)])) rfl (by rw [hml]; rfl) (argsL := [(.int (0 : Int32)), (.int cB0), (.int cB1)]) (rest := [(.ref b50), (.ref b50)]) (lenOf pd_9 rfl) rfl (by show 2 * 0 + _ ≤ _; exact Nat.le_of_eq rfl) (hb hby at_168) (fun _ _ => ⟨rfl, e50, (by decide : 8 + 6 ≤ _), (by decide : 18 + 12 ≤ _)⟩)
  dsimp only [Pt.U, Pt.locs, Pt.cells, Pt.slots] at X74 l74 y74 z74 st74 hQ74 Sq74 gr74 CH74
  subst l74 y74 z74
  have hZ74 : Z.Warmed39 (s.setVm T74.vm).vm := State.Warmed39.trans (t := s.setVm T18.vm) hZ18 Sq74.1
  have hown74 : (s.setVm T74.vm).vm.findClass "com/example/greylag/greylag/model/BundleEqualsPinLaw" = some m.cls := by rw [show (s.setVm T74.vm).vm = T74.vm from rfl, Sq74.1.alike.findClass]; exact hown18
  have S74 : s.Since T74.vm T74.heap.size := State.Since.trans (s := s) (vm₁ := T18.vm) S18 Sq74 (Nat.le_trans kk70 (by rw [← e50]; exact gr74))
  obtain ⟨rfl, Nq74, Kq74, Es74, t74, kb74, f74a, f74b, f74c, nt74⟩ := hQ74
  have N75 := Fr.app N37 Nq74
  obtain ⟨b74, gq74⟩ : ∃ z, z = h50.size := ⟨_, rfl⟩
  rw [← gq74] at Es74 f74a f74b st74
  have g76 : n0 ≤ b74 := (Nat.le_trans Z68 (Nat.le_of_eq gq74.symm))
  have sz77 : h0.size ≤ b74 := (Nat.le_trans K69.1 (Nat.le_of_eq gq74.symm))
  have ne78 : b6 ≠ b74 := (Nat.ne_of_lt (Nat.lt_of_lt_of_le f60.lt (Nat.le_of_eq gq74.symm)))
  have ne79 : b18 ≠ b74 := (Nat.ne_of_lt (Nat.lt_of_lt_of_le f61.lt (Nat.le_of_eq gq74.symm)))
  have ne80 : t18 ≠ b74 := (Nat.ne_of_lt (Nat.lt_of_lt_of_le f64.lt (Nat.le_of_eq gq74.symm)))
  have ne81 : b50 ≠ b74 := (Nat.ne_of_lt (Nat.lt_of_lt_of_le A50.lt (Nat.le_of_eq gq74.symm)))
  have hA82 := CH74
  have hR83 := hR57.trans hA82
  have f84 := (own_staKeep f58 Kq74 own_sn0)
  have f85 := (own_staKeep f59 Kq74 own_sn0)
  have f86 := (f60.keep Kq74)
  have f87 := (f61.keep Kq74)
  have f88 := (f62.keep Kq74 nin0)
  have f89 := (f63.keep Kq74 nin0)
  have f90 := (f64.keep Kq74 nin0)
  have f91 := (f65.keep Kq74 nin0)
  have f92 := (f66.keep Kq74 nin0)
  have f93 := (f67.keep Kq74 nin0)
  have f94 := (A50.keep Kq74)
  have f95 := (f71.keep Kq74 nin0)
  have f96 := (f72.keep Kq74 nin0)
  have f97 := (f73.keep Kq74 nin0)
  have Z98 : n0 ≤ T74.heap.size := (Nat.le_trans Z68 Kq74.1)
  have K99 : Keep h0 T74.heap [] := (K69.trans Kq74 all0)
  refine OFin.to (S' := T74.setTop (mkF m 171 #[.val (.int p0), .val (.int p1), .val (.long q2), .second, .val (.long q3), .second, .val (.long q4), .second, .val (.int p5), .val (.int (0 : Int32)), .val (.int cA0), .val (.int cA1), .val (.int i12), .val (.int (0 : Int32)), .val (.int cB0), .val (.int cB1), .val (.long j16), .second, .val (.long j18), .second, .val (.int i20), .val (.ref b6), .unset, .unset, .unset, .unset] [(.ref b74), (.ref b50), (.ref b50)])) st74 ?_
  refine OFin.of (S' := T74.setTop (mkF m 175 #[.val (.int p0), .val (.int p1), .val (.long q2), .second, .val (.long q3), .second, .val (.long q4), .second, .val (.int p5), .val (.int (0 : Int32)), .val (.int cA0), .val (.int cA1), .val (.int i12), .val (.int (0 : Int32)), .val (.int cB0), .val (.int cB1), .val (.long j16), .second, .val (.long j18), .second, .val (.int i20), .val (.ref b6), .unset, .unset, .unset, .unset] [(.long j18), (.long j16), (.ref b74), (.ref b50), (.ref b50)])) (fun t ht => ?_) ?_
  · refine XS.lload X74.here hx rfl (hb hby at_171) rfl ?_
    show Steps p.tables e below (T74.setTop (mkF m 173 _ [(.long j16), (.ref b74), (.ref b50), (.ref b50)])) _
    refine XS.lload X74.here hx rfl (hb hby at_173) rfl ?_
    exact ht
  obtain ⟨_, _, ⟨T100, L100, k100, n100⟩, -, X100, ⟨Lc100, hQ100, l100, y100, z100⟩, st100⟩ := X74.specialBack hx (y := (⟨"com/example/greylag/greylag/model/Bundle", "<init>", "(Ljava/lang/String;JJ)V"⟩ : MethodName)) rfl hown74 (mvT hZ74 (hw _ (List.mem_of_getElem? (i := 29) rfl))) (mvT hZ74 (hw _ (List.mem_of_getElem? (i := 30) rfl))) (mvT hZ74 (hw _ (List.mem_of_getElem? (i := 31) rfl))) (by decide) (backOf (W := 1) (rmIni l Z _ hw [] b50 b74 j16 j18 T74.heap n0 Z98 f94 f95 f96 f97 g51) hZ74 (hw _ (List.mem_of_getElem? (i := 31) rfl)) (hw _ (List.mem_of_getElem? (i := 2) rfl)) (by decide) (by decide)) (g := (mkF m 175 #[.val (.int p0), .val (.int p1), .val (.long q2), .second, .val (.long q3), .second, .val (.long q4), .second, .val (.int p5), .val (.int (0 : Int32)), .val (.int cA0), .val (.int cA1), .val (.int i12), .val (.int (0 : Int32)), .val (.int cB0), .val (.int cB1), .val (.long j16), .second, .val (.long j18), .second, .val (.int i20), .val (.ref b6), .unset, .unset, .unset, .unset] [(.long j18), (.long j16), (.ref b74), (.ref b50), (.ref b50)])) rfl (by rw [hml]; rfl) (Steps.refl _) (a := b50) (argsL := [(.ref b74), (.long j16), (.long j18)]) (rest := [(.ref b50)]) (lenOf pd_10 rfl) rfl (by show 2 * 0 + _ ≤ _; exact Nat.le_of_eq rfl) (hb hby at_175) (fun _ _ => ⟨rfl, (rfl : T74.heap = T74.heap), (by decide : 14 + 0 ≤ _), (by decide : 30 + 0 ≤ _)⟩)
  dsimp only [Pt.U, Pt.locs, Pt.cells, Pt.slots] at X100 l100 y100 z100 st100 hQ100
  subst l100 y100 z100
  obtain ⟨rfl, Nq100, Kq100, f101, f102, f103⟩ := hQ100
  have N104 := Fr.app N75 Nq100
  have hA105 := CHr.keep Kq100 (sfS (Safe.exa hZ74.alike f94 (by decide) (by decide)) sf0) hR83.1
  have hR106 := hR83.trans hA105
  have f107 := (own_staKeep f84 Kq100 (own_snS f94 own_sn0))
  have f108 := (own_staKeep f85 Kq100 (own_snS f94 own_sn0))
  have f109 := (f86.keep Kq100)
  have f110 := (f87.keep Kq100)
  have f111 := (f88.keep Kq100 (ninS ne54 nin0))
  have f112 := (f89.keep Kq100 (ninS ne54 nin0))
  have f113 := (f90.keep Kq100 (ninS ne55 nin0))
  have f114 := (f91.keep Kq100 (ninS ne53 nin0))
  have f115 := (f92.keep Kq100 (ninS ne53 nin0))
  have f116 := (f93.keep Kq100 (ninS ne53 nin0))
  have f117 := (f94.keep Kq100)
  have f118 := (Es74.keep Kq100)
  have f119 := (f74a.keep Kq100 (ninS (Ne.symm ne81) nin0))
  have f120 := (f74b.keep Kq100 (ninS (Ne.symm ne81) nin0))
  have f121 := (f74c.keep Kq100 (ninS (Ne.symm nt74) nin0))
  have Z122 : n0 ≤ T100.heap.size := (Nat.le_trans Z98 Kq100.1)
  have K123 : Keep h0 T100.heap [] := (K99.trans Kq100 (allS (Or.inr sz52) all0))
  have kk124 : T74.heap.size ≤ T100.heap.size := (Nat.le_trans (Nat.le_refl _) Kq100.1)
  refine OFin.to (S' := T100.setTop (mkF m 178 #[.val (.int p0), .val (.int p1), .val (.long q2), .second, .val (.long q3), .second, .val (.long q4), .second, .val (.int p5), .val (.int (0 : Int32)), .val (.int cA0), .val (.int cA1), .val (.int i12), .val (.int (0 : Int32)), .val (.int cB0), .val (.int cB1), .val (.long j16), .second, .val (.long j18), .second, .val (.int i20), .val (.ref b6), .unset, .unset, .unset, .unset] [(.ref b50)])) st100 ?_
  refine OFin.of (S' := T100.setTop (mkF m 181 #[.val (.int p0), .val (.int p1), .val (.long q2), .second, .val (.long q3), .second, .val (.long q4), .second, .val (.int p5), .val (.int (0 : Int32)), .val (.int cA0), .val (.int cA1), .val (.int i12), .val (.int (0 : Int32)), .val (.int cB0), .val (.int cB1), .val (.long j16), .second, .val (.long j18), .second, .val (.int i20), .val (.ref b6), .val (.ref b50), .unset, .unset, .unset] [(.long q2)])) (fun t ht => ?_) ?_
  · refine XS.astore X100.here hx rfl (hb hby at_178) rfl rfl (l' := #[.val (.int p0), .val (.int p1), .val (.long q2), .second, .val (.long q3), .second, .val (.long q4), .second, .val (.int p5), .val (.int (0 : Int32)), .val (.int cA0), .val (.int cA1), .val (.int i12), .val (.int (0 : Int32)), .val (.int cB0), .val (.int cB1), .val (.long j16), .second, .val (.long j18), .second, .val (.int i20), .val (.ref b6), .val (.ref b50), .unset, .unset, .unset]) rfl ?_
    show Steps p.tables e below (T100.setTop (mkF m 180 #[.val (.int p0), .val (.int p1), .val (.long q2), .second, .val (.long q3), .second, .val (.long q4), .second, .val (.int p5), .val (.int (0 : Int32)), .val (.int cA0), .val (.int cA1), .val (.int i12), .val (.int (0 : Int32)), .val (.int cB0), .val (.int cB1), .val (.long j16), .second, .val (.long j18), .second, .val (.int i20), .val (.ref b6), .val (.ref b50), .unset, .unset, .unset] [])) _
    refine XS.lloadN X100.here hx rfl (hb hby at_180) rfl ?_
    exact ht
  obtain ⟨_, _, ⟨T125, L125, k125, n125⟩, -, X125, ⟨Lc125, hQ125, l125, y125, z125⟩, st125⟩ := Jvm.LawKit.callS X100 hx (y := (⟨"java/lang/Long", "valueOf", "(J)Ljava/lang/Long;"⟩ : MethodName)) hown74 (mvT hZ74 (hw _ (List.mem_of_getElem? (i := 39) rfl))) (mvT hZ74 (hw _ (List.mem_of_getElem? (i := 40) rfl))) (mvT hZ74 (hw _ (List.mem_of_getElem? (i := 41) rfl))) (mvT hZ74 (hw _ (List.mem_of_getElem? (i := 42) rfl))) (by decide) (backOf (W := 0) (rmVo l Z _ hw [] q2 ac T100.heap n0 Z122 f108 (hLC.keep K123)) hZ74 (hw _ (List.mem_of_getElem? (i := 42) rfl)) (hw _ (List.mem_of_getElem? (i := 41) rfl)) (by decide) (by decide)) (g := (mkF m 181 #[.val (.int p0), .val (.int p1), .val (.long q2), .second, .val (.long q3), .second, .val (.long q4), .second, .val (.int p5), .val (.int (0 : Int32)), .val (.int cA0), .val (.int cA1), .val (.int i12), .val (.int (0 : Int32)), .val (.int cB0), .val (.int cB1), .val (.long j16), .second, .val (.long j18), .second, .val (.int i20), .val (.ref b6), .val (.ref b50), .unset, .unset, .unset] [(.long q2)])) rfl (by rw [hml]; rfl) (argsL := [(.long q2)]) (rest := []) (lenOf pd_11 rfl) rfl (by show 2 * 0 + _ ≤ _; exact Nat.le_of_eq rfl) (hb hby at_181) (fun _ _ => ⟨rfl, (rfl : T100.heap = T100.heap), (by decide : 14 + 1 ≤ _), (by decide : 30 + 1 ≤ _)⟩)
  dsimp only [Pt.U, Pt.locs, Pt.cells, Pt.slots] at X125 l125 y125 z125 st125 hQ125
  subst l125 y125 z125
  obtain ⟨r125, rfl, Nq125, Kq125, Er125⟩ := hQ125
  have N126 := Fr.app N104 Nq125
  have f127 := (own_staKeep f107 Kq125 own_sn0)
  have f128 := (own_staKeep f108 Kq125 own_sn0)
  have f129 := (f109.keep Kq125)
  have f130 := (f110.keep Kq125)
  have f131 := (f111.keep Kq125 nin0)
  have f132 := (f112.keep Kq125 nin0)
  have f133 := (f113.keep Kq125 nin0)
  have f134 := (f114.keep Kq125 nin0)
  have f135 := (f115.keep Kq125 nin0)
  have f136 := (f116.keep Kq125 nin0)
  have f137 := (f117.keep Kq125)
  have f138 := (f118.keep Kq125)
  have f139 := (f119.keep Kq125 nin0)
  have f140 := (f120.keep Kq125 nin0)
  have f141 := (f121.keep Kq125 nin0)
  have f142 := (f101.keep Kq125 nin0)
  have f143 := (f102.keep Kq125 nin0)
  have f144 := (f103.keep Kq125 nin0)
  have Z145 : n0 ≤ T125.heap.size := (Nat.le_trans Z122 Kq125.1)
  have K146 : Keep h0 T125.heap [] := (K123.trans Kq125 all0)
  have kk147 : T74.heap.size ≤ T125.heap.size := (Nat.le_trans kk124 Kq125.1)
  refine OFin.of (S' := T125.setTop (mkF m 184 #[.val (.int p0), .val (.int p1), .val (.long q2), .second, .val (.long q3), .second, .val (.long q4), .second, .val (.int p5), .val (.int (0 : Int32)), .val (.int cA0), .val (.int cA1), .val (.int i12), .val (.int (0 : Int32)), .val (.int cB0), .val (.int cB1), .val (.long j16), .second, .val (.long j18), .second, .val (.int i20), .val (.ref b6), .val (.ref b50), .unset, .unset, .unset] [(.ref r125)])) (fun t ht => st125 t ht) ?_
  refine OFin.of (S' := T125.setTop (mkF m 186 #[.val (.int p0), .val (.int p1), .val (.long q2), .second, .val (.long q3), .second, .val (.long q4), .second, .val (.int p5), .val (.int (0 : Int32)), .val (.int cA0), .val (.int cA1), .val (.int i12), .val (.int (0 : Int32)), .val (.int cB0), .val (.int cB1), .val (.long j16), .second, .val (.long j18), .second, .val (.int i20), .val (.ref b6), .val (.ref b50), .val (.ref r125), .unset, .unset] [])) (fun t ht => ?_) ?_
  · refine XS.astore X125.here hx rfl (hb hby at_184) rfl rfl (l' := #[.val (.int p0), .val (.int p1), .val (.long q2), .second, .val (.long q3), .second, .val (.long q4), .second, .val (.int p5), .val (.int (0 : Int32)), .val (.int cA0), .val (.int cA1), .val (.int i12), .val (.int (0 : Int32)), .val (.int cB0), .val (.int cB1), .val (.long j16), .second, .val (.long j18), .second, .val (.int i20), .val (.ref b6), .val (.ref b50), .val (.ref r125), .unset, .unset]) rfl ?_
    exact ht
  exact segT (s := s) (vm1 := T74.vm) Z _ hw hx hby hlk hret hml hown74 hZ74 n0 p0 p1 q2 q3 q4 p5 (0 : Int32) cA0 cA1 i12 (0 : Int32) cB0 cB1 j16 j18 i20 b6 b50 r125 b18 b74 (1 : Int32) (1 : Int32) (X125.more (by decide) (by decide)) (rfl : T125.heap = T125.heap) Z145 N126 f129 f137 f130 f138 Er125 f134 f135 f136 f142 f143 f144 (rmEqG l Z _ hw [] b18 b74 t18 t74 cs (1 : Int32) T125.heap n0 Z145 f138 f131 f139 f132 f140 f127 hcs ne79 (Or.inr rfl) (rmLe00 l Z _ hw [] t18 t74 kb18 kb74  T125.heap n0 Z145 f133 f141)) (rmEqG l Z _ hw [] b74 b18 t74 t18 cs (1 : Int32) T125.heap n0 Z145 f130 f139 f131 f140 f132 f127 hcs (Ne.symm ne79) (Or.inr rfl) (rmLe00 l Z _ hw [] t74 t18 kb74 kb18  T125.heap n0 Z145 f141 f133)) (own_e00) (own_e00) S74 kk147 hQ
set_option maxRecDepth 65536 in
set_option maxHeartbeats 40000000 in
theorem seg01 {p : Program} {l : Launch} {e : Env} {s : State} {m : MethodId} {args : Array Value} {below : List Frame} {meth : Method} {c : Code} (Z : State) (a0 : Array Value) (hw : ∀ d ∈ tables_1, d.before a0 Z = true) (hx : p.tables.exec = Jvm.exec) (hby : c.code = code) (hlk : meth.locks = false) (hret : meth.sig.returnType = some .boolean) (hml : c.maxLocals = 26) (hown : s.vm.findClass "com/example/greylag/greylag/model/BundleEqualsPinLaw" = some m.cls) (hZ : Z.Warmed39 s.vm) {Q : Option Value → Heap → List Loc → Prop} (n0 : Nat) (p0 : Int32) (p1 : Int32) (q2 : Int64) (q3 : Int64) (q4 : Int64) (p5 : Int32) (cA0 : Int32) (cA1 : Int32) (i12 : Int32) (cB0 : Int32) (cB1 : Int32) (j16 : Int64) (j18 : Int64) (i20 : Int32) (cs : Int32) (ac : Addr) {T0 : State} {locs : List Loc} {h0 : Heap} (X0 : Stand p l e room_1 s m args below meth c T0 locs 0 0) (e0 : T0.heap = h0) (Z0 : n0 ≤ h0.size) (N0 : Fr n0 locs) (fa0 : Sta Z h0 "java/lang/String" "COMPACT_STRINGS" "Z" (.int cs)) (fa1 : Sta Z h0 "java/lang/Long$LongCache" "cache" "[Ljava/lang/Long;" (.ref ac)) (hcs : ¬ cs = (0 : Int32)) (hLC : OwnLC Z h0 ac) (okA0 : OwnOk cA0) (okA1 : OwnOk cA1) (okB0 : OwnOk cB0) (okB1 : OwnOk cB1) (hC0 : CHv Z consts_1 s.vm h0) (hQ : ∀ (h' : Heap) (L : List Loc), Fr n0 L → Q (some (.int (1 : Int32))) h' L) :
    OFin p e below (KPostW s Q room_1.cells room_1.slots) (T0.setTop (mkF m 137 #[.val (.int p0), .val (.int p1), .val (.long q2), .second, .val (.long q3), .second, .val (.long q4), .second, .val (.int p5), .val (.int (0 : Int32)), .val (.int cA0), .val (.int cA1), .val (.int i12), .val (.int (1 : Int32)), .val (.int cB0), .val (.int cB1), .val (.long j16), .second, .val (.long j18), .second, .val (.int i20), .unset, .unset, .unset, .unset, .unset] [])) := by
  have K0 : Keep h0 h0 [] := Keep.refl _ _
  have hR0 : CHr Z consts_1 s.vm h0 s.vm h0 := CHr.refl hC0
  have hEL := own_EW hw
  obtain ⟨T271, h271, X271, e271, E271, A271, D271, -, st271⟩ := newO X0 hx hZ hown (hw _ (List.mem_of_getElem? (i := 0) rfl)) (hw _ (List.mem_of_getElem? (i := 1) rfl)) (hw _ (List.mem_of_getElem? (i := 2) rfl)) e0 (g := (mkF m 137 #[.val (.int p0), .val (.int p1), .val (.long q2), .second, .val (.long q3), .second, .val (.long q4), .second, .val (.int p5), .val (.int (0 : Int32)), .val (.int cA0), .val (.int cA1), .val (.int i12), .val (.int (1 : Int32)), .val (.int cB0), .val (.int cB1), .val (.long j16), .second, .val (.long j18), .second, .val (.int i20), .unset, .unset, .unset, .unset, .unset] [])) rfl (hb hby at_137) (by decide) (by decide)
  obtain ⟨b271, gq271⟩ : ∃ z, z = h0.size := ⟨_, rfl⟩
  rw [← gq271] at A271 D271 st271
  have g272 : n0 ≤ b271 := (Nat.le_trans Z0 (Nat.le_of_eq gq271.symm))
  have sz273 : h0.size ≤ b271 := (Nat.le_trans K0.1 (Nat.le_of_eq gq271.symm))
  have hA274 := CHr.ext E271 hR0.1
  have hR275 := hR0.trans hA274
  have f276 := fa0.ext E271
  have f277 := fa1.ext E271
  have Z278 : n0 ≤ h271.size := (Nat.le_trans Z0 E271.1)
  have K279 : Keep h0 h271 [] := (K0.ext E271)
  have f280 : Fld Z h271 b271 "com/example/greylag/greylag/model/Bundle" "namespace" "Ljava/lang/String;" .null := D271 (Or.inr (hw _ (List.mem_of_getElem? (i := 34) rfl))) (ty := (.object "java/lang/String")) (by decide)
  have f281 : Fld Z h271 b271 "com/example/greylag/greylag/model/Bundle" "lower" "J" (.long (0 : Int64)) := D271 (Or.inr (hw _ (List.mem_of_getElem? (i := 36) rfl))) (ty := .long) (by decide)
  have f282 : Fld Z h271 b271 "com/example/greylag/greylag/model/Bundle" "upper" "J" (.long (0 : Int64)) := D271 (Or.inr (hw _ (List.mem_of_getElem? (i := 38) rfl))) (ty := .long) (by decide)
  refine OFin.of (S' := T271.setTop (mkF m 140 #[.val (.int p0), .val (.int p1), .val (.long q2), .second, .val (.long q3), .second, .val (.long q4), .second, .val (.int p5), .val (.int (0 : Int32)), .val (.int cA0), .val (.int cA1), .val (.int i12), .val (.int (1 : Int32)), .val (.int cB0), .val (.int cB1), .val (.long j16), .second, .val (.long j18), .second, .val (.int i20), .unset, .unset, .unset, .unset, .unset] [(.ref b271)])) (fun t ht => st271 t ht) ?_
  refine OFin.of (S' := T271.setTop (mkF m 147 #[.val (.int p0), .val (.int p1), .val (.long q2), .second, .val (.long q3), .second, .val (.long q4), .second, .val (.int p5), .val (.int (0 : Int32)), .val (.int cA0), .val (.int cA1), .val (.int i12), .val (.int (1 : Int32)), .val (.int cB0), .val (.int cB1), .val (.long j16), .second, .val (.long j18), .second, .val (.int i20), .unset, .unset, .unset, .unset, .unset] [(.int cA1), (.int cA0), (.int (0 : Int32)), (.ref b271), (.ref b271)])) (fun t ht => ?_) ?_
  · refine XS.dup X271.here hx rfl (hb hby at_140) rfl rfl ?_
    show Steps p.tables e below (T271.setTop (mkF m 141 _ [(.ref b271), (.ref b271)])) _
    refine XS.iload X271.here hx rfl (hb hby at_141) rfl ?_
    show Steps p.tables e below (T271.setTop (mkF m 143 _ [(.int (0 : Int32)), (.ref b271), (.ref b271)])) _
    refine XS.iload X271.here hx rfl (hb hby at_143) rfl ?_
    show Steps p.tables e below (T271.setTop (mkF m 145 _ [(.int cA0), (.int (0 : Int32)), (.ref b271), (.ref b271)])) _
    refine XS.iload X271.here hx rfl (hb hby at_145) rfl ?_
    exact ht
  obtain ⟨_, _, ⟨T283, L283, k283, n283⟩, -, X283, Sq283, gr283, ⟨Lc283, hQ283, l283, y283, z283, CH283⟩, st283⟩ := callSS X271 hx (y := (⟨"com/example/greylag/greylag/model/BundleEqualsPinLaw", "str", "(ICC)Ljava/lang/String;"⟩ : MethodName)) hown (mvT hZ (hw _ (List.mem_of_getElem? (i := 3) rfl))) (mvT hZ (hw _ (List.mem_of_getElem? (i := 4) rfl))) (mvT hZ (hw _ (List.mem_of_getElem? (i := 5) rfl))) (mvT hZ (hw _ (List.mem_of_getElem? (i := 6) rfl))) (by decide) (backOfSH (s := s) (vm0 := s.vm) (W := 2) (rmSt0 l Z _ hw [] cA0 cA1 b271 h271 n0 Z278 A271) hZ (hw _ (List.mem_of_getElem? (i := 6) rfl)) (hw _ (List.mem_of_getElem? (i := 5) rfl)) (by decide) (by decide) hEL hR275.1) (g := (mkF m 147 #[.val (.int p0), .val (.int p1), .val (.long q2), .second, .val (.long q3), .second, .val (.long q4), .second, .val (.int p5), .val (.int (0 : Int32)), .val (.int cA0), .val (.int cA1), .val (.int i12), .val (.int (1 : Int32)), .val (.int cB0), .val (.int cB1), .val (.long j16), .second, .val (.long j18), .second, .val (.int i20), .unset, .unset, .unset, .unset, .unset] [(.int cA1), (.int cA0), (.int (0 : Int32)), (.ref b271), (.ref b271)])) rfl (by rw [hml]; rfl) (argsL := [(.int (0 : Int32)), (.int cA0), (.int cA1)]) (rest := [(.ref b271), (.ref b271)]) (lenOf pd_9 rfl) rfl (by show 2 * 0 + _ ≤ _; exact Nat.le_of_eq rfl) (hb hby at_147) (fun _ _ => ⟨rfl, e271, (by decide : 1 + 6 ≤ _), (by decide : 3 + 12 ≤ _)⟩)
  dsimp only [Pt.U, Pt.locs, Pt.cells, Pt.slots] at X283 l283 y283 z283 st283 hQ283 Sq283 gr283 CH283
  subst l283 y283 z283
  have hZ283 : Z.Warmed39 (s.setVm T283.vm).vm := State.Warmed39.trans (t := s.setVm s.vm) hZ Sq283.1
  have hown283 : (s.setVm T283.vm).vm.findClass "com/example/greylag/greylag/model/BundleEqualsPinLaw" = some m.cls := by rw [show (s.setVm T283.vm).vm = T283.vm from rfl, Sq283.1.alike.findClass]; exact hown
  have S283 : s.Since T283.vm T283.heap.size := State.Since.trans (s := s) (vm₁ := s.vm) ((State.WarmedH.refl s).since h271.size) Sq283 (Nat.le_trans (Nat.le_refl _) (by rw [← e271]; exact gr283))
  obtain ⟨rfl, Nq283, Kq283, Es283, t283, kb283, f283a, f283b, f283c, nt283⟩ := hQ283
  have N284 := Fr.app N0 Nq283
  obtain ⟨b283, gq283⟩ : ∃ z, z = h271.size := ⟨_, rfl⟩
  rw [← gq283] at Es283 f283a f283b st283
  have g285 : n0 ≤ b283 := (Nat.le_trans Z278 (Nat.le_of_eq gq283.symm))
  have sz286 : h0.size ≤ b283 := (Nat.le_trans K279.1 (Nat.le_of_eq gq283.symm))
  have ne287 : b271 ≠ b283 := (Nat.ne_of_lt (Nat.lt_of_lt_of_le A271.lt (Nat.le_of_eq gq283.symm)))
  have hA288 := CH283
  have hR289 := hR275.trans hA288
  have f290 := (own_staKeep f276 Kq283 own_sn0)
  have f291 := (own_staKeep f277 Kq283 own_sn0)
  have f292 := (A271.keep Kq283)
  have f293 := (f280.keep Kq283 nin0)
  have f294 := (f281.keep Kq283 nin0)
  have f295 := (f282.keep Kq283 nin0)
  have Z296 : n0 ≤ T283.heap.size := (Nat.le_trans Z278 Kq283.1)
  have K297 : Keep h0 T283.heap [] := (K279.trans Kq283 all0)
  refine OFin.to (S' := T283.setTop (mkF m 150 #[.val (.int p0), .val (.int p1), .val (.long q2), .second, .val (.long q3), .second, .val (.long q4), .second, .val (.int p5), .val (.int (0 : Int32)), .val (.int cA0), .val (.int cA1), .val (.int i12), .val (.int (1 : Int32)), .val (.int cB0), .val (.int cB1), .val (.long j16), .second, .val (.long j18), .second, .val (.int i20), .unset, .unset, .unset, .unset, .unset] [(.ref b283), (.ref b271), (.ref b271)])) st283 ?_
  refine OFin.of (S' := T283.setTop (mkF m 153 #[.val (.int p0), .val (.int p1), .val (.long q2), .second, .val (.long q3), .second, .val (.long q4), .second, .val (.int p5), .val (.int (0 : Int32)), .val (.int cA0), .val (.int cA1), .val (.int i12), .val (.int (1 : Int32)), .val (.int cB0), .val (.int cB1), .val (.long j16), .second, .val (.long j18), .second, .val (.int i20), .unset, .unset, .unset, .unset, .unset] [(.long q3), (.long q2), (.ref b283), (.ref b271), (.ref b271)])) (fun t ht => ?_) ?_
  · refine XS.lloadN X283.here hx rfl (hb hby at_150) rfl ?_
    show Steps p.tables e below (T283.setTop (mkF m 151 _ [(.long q2), (.ref b283), (.ref b271), (.ref b271)])) _
    refine XS.lload X283.here hx rfl (hb hby at_151) rfl ?_
    exact ht
  obtain ⟨_, _, ⟨T298, L298, k298, n298⟩, -, X298, ⟨Lc298, hQ298, l298, y298, z298⟩, st298⟩ := X283.specialBack hx (y := (⟨"com/example/greylag/greylag/model/Bundle", "<init>", "(Ljava/lang/String;JJ)V"⟩ : MethodName)) rfl hown283 (mvT hZ283 (hw _ (List.mem_of_getElem? (i := 29) rfl))) (mvT hZ283 (hw _ (List.mem_of_getElem? (i := 30) rfl))) (mvT hZ283 (hw _ (List.mem_of_getElem? (i := 31) rfl))) (by decide) (backOf (W := 1) (rmIni l Z _ hw [] b271 b283 q2 q3 T283.heap n0 Z296 f292 f293 f294 f295 g272) hZ283 (hw _ (List.mem_of_getElem? (i := 31) rfl)) (hw _ (List.mem_of_getElem? (i := 2) rfl)) (by decide) (by decide)) (g := (mkF m 153 #[.val (.int p0), .val (.int p1), .val (.long q2), .second, .val (.long q3), .second, .val (.long q4), .second, .val (.int p5), .val (.int (0 : Int32)), .val (.int cA0), .val (.int cA1), .val (.int i12), .val (.int (1 : Int32)), .val (.int cB0), .val (.int cB1), .val (.long j16), .second, .val (.long j18), .second, .val (.int i20), .unset, .unset, .unset, .unset, .unset] [(.long q3), (.long q2), (.ref b283), (.ref b271), (.ref b271)])) rfl (by rw [hml]; rfl) (Steps.refl _) (a := b271) (argsL := [(.ref b283), (.long q2), (.long q3)]) (rest := [(.ref b271)]) (lenOf pd_10 rfl) rfl (by show 2 * 0 + _ ≤ _; exact Nat.le_of_eq rfl) (hb hby at_153) (fun _ _ => ⟨rfl, (rfl : T283.heap = T283.heap), (by decide : 7 + 0 ≤ _), (by decide : 15 + 0 ≤ _)⟩)
  dsimp only [Pt.U, Pt.locs, Pt.cells, Pt.slots] at X298 l298 y298 z298 st298 hQ298
  subst l298 y298 z298
  obtain ⟨rfl, Nq298, Kq298, f299, f300, f301⟩ := hQ298
  have N302 := Fr.app N284 Nq298
  have hA303 := CHr.keep Kq298 (sfS (Safe.exa hZ283.alike f292 (by decide) (by decide)) sf0) hR289.1
  have hR304 := hR289.trans hA303
  have f305 := (own_staKeep f290 Kq298 (own_snS f292 own_sn0))
  have f306 := (own_staKeep f291 Kq298 (own_snS f292 own_sn0))
  have f307 := (f292.keep Kq298)
  have f308 := (Es283.keep Kq298)
  have f309 := (f283a.keep Kq298 (ninS (Ne.symm ne287) nin0))
  have f310 := (f283b.keep Kq298 (ninS (Ne.symm ne287) nin0))
  have f311 := (f283c.keep Kq298 (ninS (Ne.symm nt283) nin0))
  have Z312 : n0 ≤ T298.heap.size := (Nat.le_trans Z296 Kq298.1)
  have K313 : Keep h0 T298.heap [] := (K297.trans Kq298 (allS (Or.inr sz273) all0))
  have kk314 : T283.heap.size ≤ T298.heap.size := (Nat.le_trans (Nat.le_refl _) Kq298.1)
  refine OFin.to (S' := T298.setTop (mkF m 156 #[.val (.int p0), .val (.int p1), .val (.long q2), .second, .val (.long q3), .second, .val (.long q4), .second, .val (.int p5), .val (.int (0 : Int32)), .val (.int cA0), .val (.int cA1), .val (.int i12), .val (.int (1 : Int32)), .val (.int cB0), .val (.int cB1), .val (.long j16), .second, .val (.long j18), .second, .val (.int i20), .unset, .unset, .unset, .unset, .unset] [(.ref b271)])) st298 ?_
  refine OFin.of (S' := T298.setTop (mkF m 158 #[.val (.int p0), .val (.int p1), .val (.long q2), .second, .val (.long q3), .second, .val (.long q4), .second, .val (.int p5), .val (.int (0 : Int32)), .val (.int cA0), .val (.int cA1), .val (.int i12), .val (.int (1 : Int32)), .val (.int cB0), .val (.int cB1), .val (.long j16), .second, .val (.long j18), .second, .val (.int i20), .val (.ref b271), .unset, .unset, .unset, .unset] [])) (fun t ht => ?_) ?_
  · refine XS.astore X298.here hx rfl (hb hby at_156) rfl rfl (l' := #[.val (.int p0), .val (.int p1), .val (.long q2), .second, .val (.long q3), .second, .val (.long q4), .second, .val (.int p5), .val (.int (0 : Int32)), .val (.int cA0), .val (.int cA1), .val (.int i12), .val (.int (1 : Int32)), .val (.int cB0), .val (.int cB1), .val (.long j16), .second, .val (.long j18), .second, .val (.int i20), .val (.ref b271), .unset, .unset, .unset, .unset]) rfl ?_
    exact ht
  obtain ⟨T315, h315, X315, e315, E315, A315, D315, -, st315⟩ := newO X298 hx hZ283 hown283 (hw _ (List.mem_of_getElem? (i := 0) rfl)) (hw _ (List.mem_of_getElem? (i := 1) rfl)) (hw _ (List.mem_of_getElem? (i := 2) rfl)) (rfl : T298.heap = T298.heap) (g := (mkF m 158 #[.val (.int p0), .val (.int p1), .val (.long q2), .second, .val (.long q3), .second, .val (.long q4), .second, .val (.int p5), .val (.int (0 : Int32)), .val (.int cA0), .val (.int cA1), .val (.int i12), .val (.int (1 : Int32)), .val (.int cB0), .val (.int cB1), .val (.long j16), .second, .val (.long j18), .second, .val (.int i20), .val (.ref b271), .unset, .unset, .unset, .unset] [])) rfl (hb hby at_158) (by decide) (by decide)
  obtain ⟨b315, gq315⟩ : ∃ z, z = T298.heap.size := ⟨_, rfl⟩
  rw [← gq315] at A315 D315 st315
  have g316 : n0 ≤ b315 := (Nat.le_trans Z312 (Nat.le_of_eq gq315.symm))
  have sz317 : h0.size ≤ b315 := (Nat.le_trans K313.1 (Nat.le_of_eq gq315.symm))
  have ne318 : b271 ≠ b315 := (Nat.ne_of_lt (Nat.lt_of_lt_of_le f307.lt (Nat.le_of_eq gq315.symm)))
  have ne319 : b283 ≠ b315 := (Nat.ne_of_lt (Nat.lt_of_lt_of_le f308.lt (Nat.le_of_eq gq315.symm)))
  have ne320 : t283 ≠ b315 := (Nat.ne_of_lt (Nat.lt_of_lt_of_le f311.lt (Nat.le_of_eq gq315.symm)))
  have hA321 := CHr.ext E315 hR304.1
  have hR322 := hR304.trans hA321
  have f323 := f305.ext E315
  have f324 := f306.ext E315
  have f325 := f307.ext E315
  have f326 := f308.ext E315
  have f327 := f309.ext E315
  have f328 := f310.ext E315
  have f329 := f311.ext E315
  have f330 := f299.ext E315
  have f331 := f300.ext E315
  have f332 := f301.ext E315
  have Z333 : n0 ≤ h315.size := (Nat.le_trans Z312 E315.1)
  have K334 : Keep h0 h315 [] := (K313.ext E315)
  have kk335 : T283.heap.size ≤ h315.size := (Nat.le_trans kk314 E315.1)
  have f336 : Fld Z h315 b315 "com/example/greylag/greylag/model/Bundle" "namespace" "Ljava/lang/String;" .null := D315 (Or.inr (hw _ (List.mem_of_getElem? (i := 34) rfl))) (ty := (.object "java/lang/String")) (by decide)
  have f337 : Fld Z h315 b315 "com/example/greylag/greylag/model/Bundle" "lower" "J" (.long (0 : Int64)) := D315 (Or.inr (hw _ (List.mem_of_getElem? (i := 36) rfl))) (ty := .long) (by decide)
  have f338 : Fld Z h315 b315 "com/example/greylag/greylag/model/Bundle" "upper" "J" (.long (0 : Int64)) := D315 (Or.inr (hw _ (List.mem_of_getElem? (i := 38) rfl))) (ty := .long) (by decide)
  refine OFin.of (S' := T315.setTop (mkF m 161 #[.val (.int p0), .val (.int p1), .val (.long q2), .second, .val (.long q3), .second, .val (.long q4), .second, .val (.int p5), .val (.int (0 : Int32)), .val (.int cA0), .val (.int cA1), .val (.int i12), .val (.int (1 : Int32)), .val (.int cB0), .val (.int cB1), .val (.long j16), .second, .val (.long j18), .second, .val (.int i20), .val (.ref b271), .unset, .unset, .unset, .unset] [(.ref b315)])) (fun t ht => st315 t ht) ?_
  refine OFin.of (S' := T315.setTop (mkF m 168 #[.val (.int p0), .val (.int p1), .val (.long q2), .second, .val (.long q3), .second, .val (.long q4), .second, .val (.int p5), .val (.int (0 : Int32)), .val (.int cA0), .val (.int cA1), .val (.int i12), .val (.int (1 : Int32)), .val (.int cB0), .val (.int cB1), .val (.long j16), .second, .val (.long j18), .second, .val (.int i20), .val (.ref b271), .unset, .unset, .unset, .unset] [(.int cB1), (.int cB0), (.int (1 : Int32)), (.ref b315), (.ref b315)])) (fun t ht => ?_) ?_
  · refine XS.dup X315.here hx rfl (hb hby at_161) rfl rfl ?_
    show Steps p.tables e below (T315.setTop (mkF m 162 _ [(.ref b315), (.ref b315)])) _
    refine XS.iload X315.here hx rfl (hb hby at_162) rfl ?_
    show Steps p.tables e below (T315.setTop (mkF m 164 _ [(.int (1 : Int32)), (.ref b315), (.ref b315)])) _
    refine XS.iload X315.here hx rfl (hb hby at_164) rfl ?_
    show Steps p.tables e below (T315.setTop (mkF m 166 _ [(.int cB0), (.int (1 : Int32)), (.ref b315), (.ref b315)])) _
    refine XS.iload X315.here hx rfl (hb hby at_166) rfl ?_
    exact ht
  obtain ⟨_, _, ⟨T339, L339, k339, n339⟩, -, X339, ⟨Lc339, hQ339, l339, y339, z339⟩, st339⟩ := Jvm.LawKit.callS X315 hx (y := (⟨"com/example/greylag/greylag/model/BundleEqualsPinLaw", "str", "(ICC)Ljava/lang/String;"⟩ : MethodName)) hown283 (mvT hZ283 (hw _ (List.mem_of_getElem? (i := 3) rfl))) (mvT hZ283 (hw _ (List.mem_of_getElem? (i := 4) rfl))) (mvT hZ283 (hw _ (List.mem_of_getElem? (i := 5) rfl))) (mvT hZ283 (hw _ (List.mem_of_getElem? (i := 6) rfl))) (by decide) (backOf (W := 2) (rmSt1 l Z _ hw [] cB0 cB1 b315 cs h315 n0 Z333 A315 f323 hcs (own_hpc okB0)) hZ283 (hw _ (List.mem_of_getElem? (i := 6) rfl)) (hw _ (List.mem_of_getElem? (i := 5) rfl)) (by decide) (by decide)) (g := (mkF m 168 #[.val (.int p0), .val (.int p1), .val (.long q2), .second, .val (.long q3), .second, .val (.long q4), .second, .val (.int p5), .val (.int (0 : Int32)), .val (.int cA0), .val (.int cA1), .val (.int i12), .val (.int (1 : Int32)), .val (.int cB0), .val (.int cB1), .val (.long j16), .second, .val (.long j18), .second, .val (.int i20), .val (.ref b271), .unset, .unset, .unset, .unset] [(.int cB1), (.int cB0), (.int (1 : Int32)), (.ref b315), (.ref b315)])) rfl (by rw [hml]; rfl) (argsL := [(.int (1 : Int32)), (.int cB0), (.int cB1)]) (rest := [(.ref b315), (.ref b315)]) (lenOf pd_9 rfl) rfl (by show 2 * 0 + _ ≤ _; exact Nat.le_of_eq rfl) (hb hby at_168) (fun _ _ => ⟨rfl, e315, (by decide : 8 + 3 ≤ _), (by decide : 18 + 6 ≤ _)⟩)
  dsimp only [Pt.U, Pt.locs, Pt.cells, Pt.slots] at X339 l339 y339 z339 st339 hQ339
  subst l339 y339 z339
  obtain ⟨rfl, Nq339, Kq339, Es339, t339, kb339, f339a, f339b, f339c, nt339⟩ := hQ339
  have N340 := Fr.app N302 Nq339
  obtain ⟨b339, gq339⟩ : ∃ z, z = h315.size := ⟨_, rfl⟩
  rw [← gq339] at Es339 f339a f339b st339
  have g341 : n0 ≤ b339 := (Nat.le_trans Z333 (Nat.le_of_eq gq339.symm))
  have sz342 : h0.size ≤ b339 := (Nat.le_trans K334.1 (Nat.le_of_eq gq339.symm))
  have ne343 : b271 ≠ b339 := (Nat.ne_of_lt (Nat.lt_of_lt_of_le f325.lt (Nat.le_of_eq gq339.symm)))
  have ne344 : b283 ≠ b339 := (Nat.ne_of_lt (Nat.lt_of_lt_of_le f326.lt (Nat.le_of_eq gq339.symm)))
  have ne345 : t283 ≠ b339 := (Nat.ne_of_lt (Nat.lt_of_lt_of_le f329.lt (Nat.le_of_eq gq339.symm)))
  have ne346 : b315 ≠ b339 := (Nat.ne_of_lt (Nat.lt_of_lt_of_le A315.lt (Nat.le_of_eq gq339.symm)))
  have hA347 := CHr.keep Kq339 sf0 hR322.1
  have hR348 := hR322.trans hA347
  have f349 := (own_staKeep f323 Kq339 own_sn0)
  have f350 := (own_staKeep f324 Kq339 own_sn0)
  have f351 := (f325.keep Kq339)
  have f352 := (f326.keep Kq339)
  have f353 := (f327.keep Kq339 nin0)
  have f354 := (f328.keep Kq339 nin0)
  have f355 := (f329.keep Kq339 nin0)
  have f356 := (f330.keep Kq339 nin0)
  have f357 := (f331.keep Kq339 nin0)
  have f358 := (f332.keep Kq339 nin0)
  have f359 := (A315.keep Kq339)
  have f360 := (f336.keep Kq339 nin0)
  have f361 := (f337.keep Kq339 nin0)
  have f362 := (f338.keep Kq339 nin0)
  have Z363 : n0 ≤ T339.heap.size := (Nat.le_trans Z333 Kq339.1)
  have K364 : Keep h0 T339.heap [] := (K334.trans Kq339 all0)
  have kk365 : T283.heap.size ≤ T339.heap.size := (Nat.le_trans kk335 Kq339.1)
  refine OFin.of (S' := T339.setTop (mkF m 171 #[.val (.int p0), .val (.int p1), .val (.long q2), .second, .val (.long q3), .second, .val (.long q4), .second, .val (.int p5), .val (.int (0 : Int32)), .val (.int cA0), .val (.int cA1), .val (.int i12), .val (.int (1 : Int32)), .val (.int cB0), .val (.int cB1), .val (.long j16), .second, .val (.long j18), .second, .val (.int i20), .val (.ref b271), .unset, .unset, .unset, .unset] [(.ref b339), (.ref b315), (.ref b315)])) (fun t ht => st339 t ht) ?_
  refine OFin.of (S' := T339.setTop (mkF m 175 #[.val (.int p0), .val (.int p1), .val (.long q2), .second, .val (.long q3), .second, .val (.long q4), .second, .val (.int p5), .val (.int (0 : Int32)), .val (.int cA0), .val (.int cA1), .val (.int i12), .val (.int (1 : Int32)), .val (.int cB0), .val (.int cB1), .val (.long j16), .second, .val (.long j18), .second, .val (.int i20), .val (.ref b271), .unset, .unset, .unset, .unset] [(.long j18), (.long j16), (.ref b339), (.ref b315), (.ref b315)])) (fun t ht => ?_) ?_
  · refine XS.lload X339.here hx rfl (hb hby at_171) rfl ?_
    show Steps p.tables e below (T339.setTop (mkF m 173 _ [(.long j16), (.ref b339), (.ref b315), (.ref b315)])) _
    refine XS.lload X339.here hx rfl (hb hby at_173) rfl ?_
    exact ht
  obtain ⟨_, _, ⟨T366, L366, k366, n366⟩, -, X366, ⟨Lc366, hQ366, l366, y366, z366⟩, st366⟩ := X339.specialBack hx (y := (⟨"com/example/greylag/greylag/model/Bundle", "<init>", "(Ljava/lang/String;JJ)V"⟩ : MethodName)) rfl hown283 (mvT hZ283 (hw _ (List.mem_of_getElem? (i := 29) rfl))) (mvT hZ283 (hw _ (List.mem_of_getElem? (i := 30) rfl))) (mvT hZ283 (hw _ (List.mem_of_getElem? (i := 31) rfl))) (by decide) (backOf (W := 1) (rmIni l Z _ hw [] b315 b339 j16 j18 T339.heap n0 Z363 f359 f360 f361 f362 g316) hZ283 (hw _ (List.mem_of_getElem? (i := 31) rfl)) (hw _ (List.mem_of_getElem? (i := 2) rfl)) (by decide) (by decide)) (g := (mkF m 175 #[.val (.int p0), .val (.int p1), .val (.long q2), .second, .val (.long q3), .second, .val (.long q4), .second, .val (.int p5), .val (.int (0 : Int32)), .val (.int cA0), .val (.int cA1), .val (.int i12), .val (.int (1 : Int32)), .val (.int cB0), .val (.int cB1), .val (.long j16), .second, .val (.long j18), .second, .val (.int i20), .val (.ref b271), .unset, .unset, .unset, .unset] [(.long j18), (.long j16), (.ref b339), (.ref b315), (.ref b315)])) rfl (by rw [hml]; rfl) (Steps.refl _) (a := b315) (argsL := [(.ref b339), (.long j16), (.long j18)]) (rest := [(.ref b315)]) (lenOf pd_10 rfl) rfl (by show 2 * 0 + _ ≤ _; exact Nat.le_of_eq rfl) (hb hby at_175) (fun _ _ => ⟨rfl, (rfl : T339.heap = T339.heap), (by decide : 11 + 0 ≤ _), (by decide : 24 + 0 ≤ _)⟩)
  dsimp only [Pt.U, Pt.locs, Pt.cells, Pt.slots] at X366 l366 y366 z366 st366 hQ366
  subst l366 y366 z366
  obtain ⟨rfl, Nq366, Kq366, f367, f368, f369⟩ := hQ366
  have N370 := Fr.app N340 Nq366
  have hA371 := CHr.keep Kq366 (sfS (Safe.exa hZ283.alike f359 (by decide) (by decide)) sf0) hR348.1
  have hR372 := hR348.trans hA371
  have f373 := (own_staKeep f349 Kq366 (own_snS f359 own_sn0))
  have f374 := (own_staKeep f350 Kq366 (own_snS f359 own_sn0))
  have f375 := (f351.keep Kq366)
  have f376 := (f352.keep Kq366)
  have f377 := (f353.keep Kq366 (ninS ne319 nin0))
  have f378 := (f354.keep Kq366 (ninS ne319 nin0))
  have f379 := (f355.keep Kq366 (ninS ne320 nin0))
  have f380 := (f356.keep Kq366 (ninS ne318 nin0))
  have f381 := (f357.keep Kq366 (ninS ne318 nin0))
  have f382 := (f358.keep Kq366 (ninS ne318 nin0))
  have f383 := (f359.keep Kq366)
  have f384 := (Es339.keep Kq366)
  have f385 := (f339a.keep Kq366 (ninS (Ne.symm ne346) nin0))
  have f386 := (f339b.keep Kq366 (ninS (Ne.symm ne346) nin0))
  have f387 := (f339c.keep Kq366 (ninS (Ne.symm nt339) nin0))
  have Z388 : n0 ≤ T366.heap.size := (Nat.le_trans Z363 Kq366.1)
  have K389 : Keep h0 T366.heap [] := (K364.trans Kq366 (allS (Or.inr sz317) all0))
  have kk390 : T283.heap.size ≤ T366.heap.size := (Nat.le_trans kk365 Kq366.1)
  refine OFin.to (S' := T366.setTop (mkF m 178 #[.val (.int p0), .val (.int p1), .val (.long q2), .second, .val (.long q3), .second, .val (.long q4), .second, .val (.int p5), .val (.int (0 : Int32)), .val (.int cA0), .val (.int cA1), .val (.int i12), .val (.int (1 : Int32)), .val (.int cB0), .val (.int cB1), .val (.long j16), .second, .val (.long j18), .second, .val (.int i20), .val (.ref b271), .unset, .unset, .unset, .unset] [(.ref b315)])) st366 ?_
  refine OFin.of (S' := T366.setTop (mkF m 181 #[.val (.int p0), .val (.int p1), .val (.long q2), .second, .val (.long q3), .second, .val (.long q4), .second, .val (.int p5), .val (.int (0 : Int32)), .val (.int cA0), .val (.int cA1), .val (.int i12), .val (.int (1 : Int32)), .val (.int cB0), .val (.int cB1), .val (.long j16), .second, .val (.long j18), .second, .val (.int i20), .val (.ref b271), .val (.ref b315), .unset, .unset, .unset] [(.long q2)])) (fun t ht => ?_) ?_
  · refine XS.astore X366.here hx rfl (hb hby at_178) rfl rfl (l' := #[.val (.int p0), .val (.int p1), .val (.long q2), .second, .val (.long q3), .second, .val (.long q4), .second, .val (.int p5), .val (.int (0 : Int32)), .val (.int cA0), .val (.int cA1), .val (.int i12), .val (.int (1 : Int32)), .val (.int cB0), .val (.int cB1), .val (.long j16), .second, .val (.long j18), .second, .val (.int i20), .val (.ref b271), .val (.ref b315), .unset, .unset, .unset]) rfl ?_
    show Steps p.tables e below (T366.setTop (mkF m 180 #[.val (.int p0), .val (.int p1), .val (.long q2), .second, .val (.long q3), .second, .val (.long q4), .second, .val (.int p5), .val (.int (0 : Int32)), .val (.int cA0), .val (.int cA1), .val (.int i12), .val (.int (1 : Int32)), .val (.int cB0), .val (.int cB1), .val (.long j16), .second, .val (.long j18), .second, .val (.int i20), .val (.ref b271), .val (.ref b315), .unset, .unset, .unset] [])) _
    refine XS.lloadN X366.here hx rfl (hb hby at_180) rfl ?_
    exact ht
  obtain ⟨_, _, ⟨T391, L391, k391, n391⟩, -, X391, ⟨Lc391, hQ391, l391, y391, z391⟩, st391⟩ := Jvm.LawKit.callS X366 hx (y := (⟨"java/lang/Long", "valueOf", "(J)Ljava/lang/Long;"⟩ : MethodName)) hown283 (mvT hZ283 (hw _ (List.mem_of_getElem? (i := 39) rfl))) (mvT hZ283 (hw _ (List.mem_of_getElem? (i := 40) rfl))) (mvT hZ283 (hw _ (List.mem_of_getElem? (i := 41) rfl))) (mvT hZ283 (hw _ (List.mem_of_getElem? (i := 42) rfl))) (by decide) (backOf (W := 0) (rmVo l Z _ hw [] q2 ac T366.heap n0 Z388 f374 (hLC.keep K389)) hZ283 (hw _ (List.mem_of_getElem? (i := 42) rfl)) (hw _ (List.mem_of_getElem? (i := 41) rfl)) (by decide) (by decide)) (g := (mkF m 181 #[.val (.int p0), .val (.int p1), .val (.long q2), .second, .val (.long q3), .second, .val (.long q4), .second, .val (.int p5), .val (.int (0 : Int32)), .val (.int cA0), .val (.int cA1), .val (.int i12), .val (.int (1 : Int32)), .val (.int cB0), .val (.int cB1), .val (.long j16), .second, .val (.long j18), .second, .val (.int i20), .val (.ref b271), .val (.ref b315), .unset, .unset, .unset] [(.long q2)])) rfl (by rw [hml]; rfl) (argsL := [(.long q2)]) (rest := []) (lenOf pd_11 rfl) rfl (by show 2 * 0 + _ ≤ _; exact Nat.le_of_eq rfl) (hb hby at_181) (fun _ _ => ⟨rfl, (rfl : T366.heap = T366.heap), (by decide : 11 + 1 ≤ _), (by decide : 24 + 1 ≤ _)⟩)
  dsimp only [Pt.U, Pt.locs, Pt.cells, Pt.slots] at X391 l391 y391 z391 st391 hQ391
  subst l391 y391 z391
  obtain ⟨r391, rfl, Nq391, Kq391, Er391⟩ := hQ391
  have N392 := Fr.app N370 Nq391
  have f393 := (own_staKeep f373 Kq391 own_sn0)
  have f394 := (own_staKeep f374 Kq391 own_sn0)
  have f395 := (f375.keep Kq391)
  have f396 := (f376.keep Kq391)
  have f397 := (f377.keep Kq391 nin0)
  have f398 := (f378.keep Kq391 nin0)
  have f399 := (f379.keep Kq391 nin0)
  have f400 := (f380.keep Kq391 nin0)
  have f401 := (f381.keep Kq391 nin0)
  have f402 := (f382.keep Kq391 nin0)
  have f403 := (f383.keep Kq391)
  have f404 := (f384.keep Kq391)
  have f405 := (f385.keep Kq391 nin0)
  have f406 := (f386.keep Kq391 nin0)
  have f407 := (f387.keep Kq391 nin0)
  have f408 := (f367.keep Kq391 nin0)
  have f409 := (f368.keep Kq391 nin0)
  have f410 := (f369.keep Kq391 nin0)
  have Z411 : n0 ≤ T391.heap.size := (Nat.le_trans Z388 Kq391.1)
  have K412 : Keep h0 T391.heap [] := (K389.trans Kq391 all0)
  have kk413 : T283.heap.size ≤ T391.heap.size := (Nat.le_trans kk390 Kq391.1)
  refine OFin.of (S' := T391.setTop (mkF m 184 #[.val (.int p0), .val (.int p1), .val (.long q2), .second, .val (.long q3), .second, .val (.long q4), .second, .val (.int p5), .val (.int (0 : Int32)), .val (.int cA0), .val (.int cA1), .val (.int i12), .val (.int (1 : Int32)), .val (.int cB0), .val (.int cB1), .val (.long j16), .second, .val (.long j18), .second, .val (.int i20), .val (.ref b271), .val (.ref b315), .unset, .unset, .unset] [(.ref r391)])) (fun t ht => st391 t ht) ?_
  refine OFin.of (S' := T391.setTop (mkF m 186 #[.val (.int p0), .val (.int p1), .val (.long q2), .second, .val (.long q3), .second, .val (.long q4), .second, .val (.int p5), .val (.int (0 : Int32)), .val (.int cA0), .val (.int cA1), .val (.int i12), .val (.int (1 : Int32)), .val (.int cB0), .val (.int cB1), .val (.long j16), .second, .val (.long j18), .second, .val (.int i20), .val (.ref b271), .val (.ref b315), .val (.ref r391), .unset, .unset] [])) (fun t ht => ?_) ?_
  · refine XS.astore X391.here hx rfl (hb hby at_184) rfl rfl (l' := #[.val (.int p0), .val (.int p1), .val (.long q2), .second, .val (.long q3), .second, .val (.long q4), .second, .val (.int p5), .val (.int (0 : Int32)), .val (.int cA0), .val (.int cA1), .val (.int i12), .val (.int (1 : Int32)), .val (.int cB0), .val (.int cB1), .val (.long j16), .second, .val (.long j18), .second, .val (.int i20), .val (.ref b271), .val (.ref b315), .val (.ref r391), .unset, .unset]) rfl ?_
    exact ht
  exact segT (s := s) (vm1 := T283.vm) Z _ hw hx hby hlk hret hml hown283 hZ283 n0 p0 p1 q2 q3 q4 p5 (0 : Int32) cA0 cA1 i12 (1 : Int32) cB0 cB1 j16 j18 i20 b271 b315 r391 b283 b339 (0 : Int32) (0 : Int32) (X391.more (by decide) (by decide)) (rfl : T391.heap = T391.heap) Z411 N392 f395 f403 f396 f404 Er391 f400 f401 f402 f408 f409 f410 (rmEqG l Z _ hw [] b283 b339 t283 t339 cs (0 : Int32) T391.heap n0 Z411 f404 f397 f405 f398 f406 f393 hcs ne344 (Or.inl rfl) (rmLeN l Z _ hw [] t283 t339 kb283 kb339 _ _ _ _ T391.heap n0 Z411 f399 f407 (by decide))) (rmEqG l Z _ hw [] b339 b283 t339 t283 cs (0 : Int32) T391.heap n0 Z411 f396 f405 f397 f406 f398 f393 hcs (Ne.symm ne344) (Or.inl rfl) (rmLeN l Z _ hw [] t339 t283 kb339 kb283 _ _ _ _ T391.heap n0 Z411 f407 f399 (by decide))) (own_ez (by decide)) (own_ez (by decide)) S283 kk413 hQ
set_option maxRecDepth 65536 in
set_option maxHeartbeats 40000000 in
theorem seg02 {p : Program} {l : Launch} {e : Env} {s : State} {m : MethodId} {args : Array Value} {below : List Frame} {meth : Method} {c : Code} (Z : State) (a0 : Array Value) (hw : ∀ d ∈ tables_1, d.before a0 Z = true) (hx : p.tables.exec = Jvm.exec) (hby : c.code = code) (hlk : meth.locks = false) (hret : meth.sig.returnType = some .boolean) (hml : c.maxLocals = 26) (hown : s.vm.findClass "com/example/greylag/greylag/model/BundleEqualsPinLaw" = some m.cls) (hZ : Z.Warmed39 s.vm) {Q : Option Value → Heap → List Loc → Prop} (n0 : Nat) (p0 : Int32) (p1 : Int32) (q2 : Int64) (q3 : Int64) (q4 : Int64) (p5 : Int32) (cA0 : Int32) (cA1 : Int32) (i12 : Int32) (cB0 : Int32) (cB1 : Int32) (j16 : Int64) (j18 : Int64) (i20 : Int32) (cs : Int32) (ac : Addr) {T0 : State} {locs : List Loc} {h0 : Heap} (X0 : Stand p l e room_1 s m args below meth c T0 locs 0 0) (e0 : T0.heap = h0) (Z0 : n0 ≤ h0.size) (N0 : Fr n0 locs) (fa0 : Sta Z h0 "java/lang/String" "COMPACT_STRINGS" "Z" (.int cs)) (fa1 : Sta Z h0 "java/lang/Long$LongCache" "cache" "[Ljava/lang/Long;" (.ref ac)) (hcs : ¬ cs = (0 : Int32)) (hLC : OwnLC Z h0 ac) (okA0 : OwnOk cA0) (okA1 : OwnOk cA1) (okB0 : OwnOk cB0) (okB1 : OwnOk cB1) (hC0 : CHv Z consts_1 s.vm h0) (hQ : ∀ (h' : Heap) (L : List Loc), Fr n0 L → Q (some (.int (1 : Int32))) h' L) :
    OFin p e below (KPostW s Q room_1.cells room_1.slots) (T0.setTop (mkF m 137 #[.val (.int p0), .val (.int p1), .val (.long q2), .second, .val (.long q3), .second, .val (.long q4), .second, .val (.int p5), .val (.int (0 : Int32)), .val (.int cA0), .val (.int cA1), .val (.int i12), .val (.int (2 : Int32)), .val (.int cB0), .val (.int cB1), .val (.long j16), .second, .val (.long j18), .second, .val (.int i20), .unset, .unset, .unset, .unset, .unset] [])) := by
  have K0 : Keep h0 h0 [] := Keep.refl _ _
  have hR0 : CHr Z consts_1 s.vm h0 s.vm h0 := CHr.refl hC0
  have hEL := own_EW hw
  obtain ⟨T414, h414, X414, e414, E414, A414, D414, -, st414⟩ := newO X0 hx hZ hown (hw _ (List.mem_of_getElem? (i := 0) rfl)) (hw _ (List.mem_of_getElem? (i := 1) rfl)) (hw _ (List.mem_of_getElem? (i := 2) rfl)) e0 (g := (mkF m 137 #[.val (.int p0), .val (.int p1), .val (.long q2), .second, .val (.long q3), .second, .val (.long q4), .second, .val (.int p5), .val (.int (0 : Int32)), .val (.int cA0), .val (.int cA1), .val (.int i12), .val (.int (2 : Int32)), .val (.int cB0), .val (.int cB1), .val (.long j16), .second, .val (.long j18), .second, .val (.int i20), .unset, .unset, .unset, .unset, .unset] [])) rfl (hb hby at_137) (by decide) (by decide)
  obtain ⟨b414, gq414⟩ : ∃ z, z = h0.size := ⟨_, rfl⟩
  rw [← gq414] at A414 D414 st414
  have g415 : n0 ≤ b414 := (Nat.le_trans Z0 (Nat.le_of_eq gq414.symm))
  have sz416 : h0.size ≤ b414 := (Nat.le_trans K0.1 (Nat.le_of_eq gq414.symm))
  have hA417 := CHr.ext E414 hR0.1
  have hR418 := hR0.trans hA417
  have f419 := fa0.ext E414
  have f420 := fa1.ext E414
  have Z421 : n0 ≤ h414.size := (Nat.le_trans Z0 E414.1)
  have K422 : Keep h0 h414 [] := (K0.ext E414)
  have f423 : Fld Z h414 b414 "com/example/greylag/greylag/model/Bundle" "namespace" "Ljava/lang/String;" .null := D414 (Or.inr (hw _ (List.mem_of_getElem? (i := 34) rfl))) (ty := (.object "java/lang/String")) (by decide)
  have f424 : Fld Z h414 b414 "com/example/greylag/greylag/model/Bundle" "lower" "J" (.long (0 : Int64)) := D414 (Or.inr (hw _ (List.mem_of_getElem? (i := 36) rfl))) (ty := .long) (by decide)
  have f425 : Fld Z h414 b414 "com/example/greylag/greylag/model/Bundle" "upper" "J" (.long (0 : Int64)) := D414 (Or.inr (hw _ (List.mem_of_getElem? (i := 38) rfl))) (ty := .long) (by decide)
  refine OFin.of (S' := T414.setTop (mkF m 140 #[.val (.int p0), .val (.int p1), .val (.long q2), .second, .val (.long q3), .second, .val (.long q4), .second, .val (.int p5), .val (.int (0 : Int32)), .val (.int cA0), .val (.int cA1), .val (.int i12), .val (.int (2 : Int32)), .val (.int cB0), .val (.int cB1), .val (.long j16), .second, .val (.long j18), .second, .val (.int i20), .unset, .unset, .unset, .unset, .unset] [(.ref b414)])) (fun t ht => st414 t ht) ?_
  refine OFin.of (S' := T414.setTop (mkF m 147 #[.val (.int p0), .val (.int p1), .val (.long q2), .second, .val (.long q3), .second, .val (.long q4), .second, .val (.int p5), .val (.int (0 : Int32)), .val (.int cA0), .val (.int cA1), .val (.int i12), .val (.int (2 : Int32)), .val (.int cB0), .val (.int cB1), .val (.long j16), .second, .val (.long j18), .second, .val (.int i20), .unset, .unset, .unset, .unset, .unset] [(.int cA1), (.int cA0), (.int (0 : Int32)), (.ref b414), (.ref b414)])) (fun t ht => ?_) ?_
  · refine XS.dup X414.here hx rfl (hb hby at_140) rfl rfl ?_
    show Steps p.tables e below (T414.setTop (mkF m 141 _ [(.ref b414), (.ref b414)])) _
    refine XS.iload X414.here hx rfl (hb hby at_141) rfl ?_
    show Steps p.tables e below (T414.setTop (mkF m 143 _ [(.int (0 : Int32)), (.ref b414), (.ref b414)])) _
    refine XS.iload X414.here hx rfl (hb hby at_143) rfl ?_
    show Steps p.tables e below (T414.setTop (mkF m 145 _ [(.int cA0), (.int (0 : Int32)), (.ref b414), (.ref b414)])) _
    refine XS.iload X414.here hx rfl (hb hby at_145) rfl ?_
    exact ht
  obtain ⟨_, _, ⟨T426, L426, k426, n426⟩, -, X426, Sq426, gr426, ⟨Lc426, hQ426, l426, y426, z426, CH426⟩, st426⟩ := callSS X414 hx (y := (⟨"com/example/greylag/greylag/model/BundleEqualsPinLaw", "str", "(ICC)Ljava/lang/String;"⟩ : MethodName)) hown (mvT hZ (hw _ (List.mem_of_getElem? (i := 3) rfl))) (mvT hZ (hw _ (List.mem_of_getElem? (i := 4) rfl))) (mvT hZ (hw _ (List.mem_of_getElem? (i := 5) rfl))) (mvT hZ (hw _ (List.mem_of_getElem? (i := 6) rfl))) (by decide) (backOfSH (s := s) (vm0 := s.vm) (W := 2) (rmSt0 l Z _ hw [] cA0 cA1 b414 h414 n0 Z421 A414) hZ (hw _ (List.mem_of_getElem? (i := 6) rfl)) (hw _ (List.mem_of_getElem? (i := 5) rfl)) (by decide) (by decide) hEL hR418.1) (g := (mkF m 147 #[.val (.int p0), .val (.int p1), .val (.long q2), .second, .val (.long q3), .second, .val (.long q4), .second, .val (.int p5), .val (.int (0 : Int32)), .val (.int cA0), .val (.int cA1), .val (.int i12), .val (.int (2 : Int32)), .val (.int cB0), .val (.int cB1), .val (.long j16), .second, .val (.long j18), .second, .val (.int i20), .unset, .unset, .unset, .unset, .unset] [(.int cA1), (.int cA0), (.int (0 : Int32)), (.ref b414), (.ref b414)])) rfl (by rw [hml]; rfl) (argsL := [(.int (0 : Int32)), (.int cA0), (.int cA1)]) (rest := [(.ref b414), (.ref b414)]) (lenOf pd_9 rfl) rfl (by show 2 * 0 + _ ≤ _; exact Nat.le_of_eq rfl) (hb hby at_147) (fun _ _ => ⟨rfl, e414, (by decide : 1 + 6 ≤ _), (by decide : 3 + 12 ≤ _)⟩)
  dsimp only [Pt.U, Pt.locs, Pt.cells, Pt.slots] at X426 l426 y426 z426 st426 hQ426 Sq426 gr426 CH426
  subst l426 y426 z426
  have hZ426 : Z.Warmed39 (s.setVm T426.vm).vm := State.Warmed39.trans (t := s.setVm s.vm) hZ Sq426.1
  have hown426 : (s.setVm T426.vm).vm.findClass "com/example/greylag/greylag/model/BundleEqualsPinLaw" = some m.cls := by rw [show (s.setVm T426.vm).vm = T426.vm from rfl, Sq426.1.alike.findClass]; exact hown
  have S426 : s.Since T426.vm T426.heap.size := State.Since.trans (s := s) (vm₁ := s.vm) ((State.WarmedH.refl s).since h414.size) Sq426 (Nat.le_trans (Nat.le_refl _) (by rw [← e414]; exact gr426))
  obtain ⟨rfl, Nq426, Kq426, Es426, t426, kb426, f426a, f426b, f426c, nt426⟩ := hQ426
  have N427 := Fr.app N0 Nq426
  obtain ⟨b426, gq426⟩ : ∃ z, z = h414.size := ⟨_, rfl⟩
  rw [← gq426] at Es426 f426a f426b st426
  have g428 : n0 ≤ b426 := (Nat.le_trans Z421 (Nat.le_of_eq gq426.symm))
  have sz429 : h0.size ≤ b426 := (Nat.le_trans K422.1 (Nat.le_of_eq gq426.symm))
  have ne430 : b414 ≠ b426 := (Nat.ne_of_lt (Nat.lt_of_lt_of_le A414.lt (Nat.le_of_eq gq426.symm)))
  have hA431 := CH426
  have hR432 := hR418.trans hA431
  have f433 := (own_staKeep f419 Kq426 own_sn0)
  have f434 := (own_staKeep f420 Kq426 own_sn0)
  have f435 := (A414.keep Kq426)
  have f436 := (f423.keep Kq426 nin0)
  have f437 := (f424.keep Kq426 nin0)
  have f438 := (f425.keep Kq426 nin0)
  have Z439 : n0 ≤ T426.heap.size := (Nat.le_trans Z421 Kq426.1)
  have K440 : Keep h0 T426.heap [] := (K422.trans Kq426 all0)
  refine OFin.to (S' := T426.setTop (mkF m 150 #[.val (.int p0), .val (.int p1), .val (.long q2), .second, .val (.long q3), .second, .val (.long q4), .second, .val (.int p5), .val (.int (0 : Int32)), .val (.int cA0), .val (.int cA1), .val (.int i12), .val (.int (2 : Int32)), .val (.int cB0), .val (.int cB1), .val (.long j16), .second, .val (.long j18), .second, .val (.int i20), .unset, .unset, .unset, .unset, .unset] [(.ref b426), (.ref b414), (.ref b414)])) st426 ?_
  refine OFin.of (S' := T426.setTop (mkF m 153 #[.val (.int p0), .val (.int p1), .val (.long q2), .second, .val (.long q3), .second, .val (.long q4), .second, .val (.int p5), .val (.int (0 : Int32)), .val (.int cA0), .val (.int cA1), .val (.int i12), .val (.int (2 : Int32)), .val (.int cB0), .val (.int cB1), .val (.long j16), .second, .val (.long j18), .second, .val (.int i20), .unset, .unset, .unset, .unset, .unset] [(.long q3), (.long q2), (.ref b426), (.ref b414), (.ref b414)])) (fun t ht => ?_) ?_
  · refine XS.lloadN X426.here hx rfl (hb hby at_150) rfl ?_
    show Steps p.tables e below (T426.setTop (mkF m 151 _ [(.long q2), (.ref b426), (.ref b414), (.ref b414)])) _
    refine XS.lload X426.here hx rfl (hb hby at_151) rfl ?_
    exact ht
  obtain ⟨_, _, ⟨T441, L441, k441, n441⟩, -, X441, ⟨Lc441, hQ441, l441, y441, z441⟩, st441⟩ := X426.specialBack hx (y := (⟨"com/example/greylag/greylag/model/Bundle", "<init>", "(Ljava/lang/String;JJ)V"⟩ : MethodName)) rfl hown426 (mvT hZ426 (hw _ (List.mem_of_getElem? (i := 29) rfl))) (mvT hZ426 (hw _ (List.mem_of_getElem? (i := 30) rfl))) (mvT hZ426 (hw _ (List.mem_of_getElem? (i := 31) rfl))) (by decide) (backOf (W := 1) (rmIni l Z _ hw [] b414 b426 q2 q3 T426.heap n0 Z439 f435 f436 f437 f438 g415) hZ426 (hw _ (List.mem_of_getElem? (i := 31) rfl)) (hw _ (List.mem_of_getElem? (i := 2) rfl)) (by decide) (by decide)) (g := (mkF m 153 #[.val (.int p0), .val (.int p1), .val (.long q2), .second, .val (.long q3), .second, .val (.long q4), .second, .val (.int p5), .val (.int (0 : Int32)), .val (.int cA0), .val (.int cA1), .val (.int i12), .val (.int (2 : Int32)), .val (.int cB0), .val (.int cB1), .val (.long j16), .second, .val (.long j18), .second, .val (.int i20), .unset, .unset, .unset, .unset, .unset] [(.long q3), (.long q2), (.ref b426), (.ref b414), (.ref b414)])) rfl (by rw [hml]; rfl) (Steps.refl _) (a := b414) (argsL := [(.ref b426), (.long q2), (.long q3)]) (rest := [(.ref b414)]) (lenOf pd_10 rfl) rfl (by show 2 * 0 + _ ≤ _; exact Nat.le_of_eq rfl) (hb hby at_153) (fun _ _ => ⟨rfl, (rfl : T426.heap = T426.heap), (by decide : 7 + 0 ≤ _), (by decide : 15 + 0 ≤ _)⟩)
  dsimp only [Pt.U, Pt.locs, Pt.cells, Pt.slots] at X441 l441 y441 z441 st441 hQ441
  subst l441 y441 z441
  obtain ⟨rfl, Nq441, Kq441, f442, f443, f444⟩ := hQ441
  have N445 := Fr.app N427 Nq441
  have hA446 := CHr.keep Kq441 (sfS (Safe.exa hZ426.alike f435 (by decide) (by decide)) sf0) hR432.1
  have hR447 := hR432.trans hA446
  have f448 := (own_staKeep f433 Kq441 (own_snS f435 own_sn0))
  have f449 := (own_staKeep f434 Kq441 (own_snS f435 own_sn0))
  have f450 := (f435.keep Kq441)
  have f451 := (Es426.keep Kq441)
  have f452 := (f426a.keep Kq441 (ninS (Ne.symm ne430) nin0))
  have f453 := (f426b.keep Kq441 (ninS (Ne.symm ne430) nin0))
  have f454 := (f426c.keep Kq441 (ninS (Ne.symm nt426) nin0))
  have Z455 : n0 ≤ T441.heap.size := (Nat.le_trans Z439 Kq441.1)
  have K456 : Keep h0 T441.heap [] := (K440.trans Kq441 (allS (Or.inr sz416) all0))
  have kk457 : T426.heap.size ≤ T441.heap.size := (Nat.le_trans (Nat.le_refl _) Kq441.1)
  refine OFin.to (S' := T441.setTop (mkF m 156 #[.val (.int p0), .val (.int p1), .val (.long q2), .second, .val (.long q3), .second, .val (.long q4), .second, .val (.int p5), .val (.int (0 : Int32)), .val (.int cA0), .val (.int cA1), .val (.int i12), .val (.int (2 : Int32)), .val (.int cB0), .val (.int cB1), .val (.long j16), .second, .val (.long j18), .second, .val (.int i20), .unset, .unset, .unset, .unset, .unset] [(.ref b414)])) st441 ?_
  refine OFin.of (S' := T441.setTop (mkF m 158 #[.val (.int p0), .val (.int p1), .val (.long q2), .second, .val (.long q3), .second, .val (.long q4), .second, .val (.int p5), .val (.int (0 : Int32)), .val (.int cA0), .val (.int cA1), .val (.int i12), .val (.int (2 : Int32)), .val (.int cB0), .val (.int cB1), .val (.long j16), .second, .val (.long j18), .second, .val (.int i20), .val (.ref b414), .unset, .unset, .unset, .unset] [])) (fun t ht => ?_) ?_
  · refine XS.astore X441.here hx rfl (hb hby at_156) rfl rfl (l' := #[.val (.int p0), .val (.int p1), .val (.long q2), .second, .val (.long q3), .second, .val (.long q4), .second, .val (.int p5), .val (.int (0 : Int32)), .val (.int cA0), .val (.int cA1), .val (.int i12), .val (.int (2 : Int32)), .val (.int cB0), .val (.int cB1), .val (.long j16), .second, .val (.long j18), .second, .val (.int i20), .val (.ref b414), .unset, .unset, .unset, .unset]) rfl ?_
    exact ht
  obtain ⟨T458, h458, X458, e458, E458, A458, D458, -, st458⟩ := newO X441 hx hZ426 hown426 (hw _ (List.mem_of_getElem? (i := 0) rfl)) (hw _ (List.mem_of_getElem? (i := 1) rfl)) (hw _ (List.mem_of_getElem? (i := 2) rfl)) (rfl : T441.heap = T441.heap) (g := (mkF m 158 #[.val (.int p0), .val (.int p1), .val (.long q2), .second, .val (.long q3), .second, .val (.long q4), .second, .val (.int p5), .val (.int (0 : Int32)), .val (.int cA0), .val (.int cA1), .val (.int i12), .val (.int (2 : Int32)), .val (.int cB0), .val (.int cB1), .val (.long j16), .second, .val (.long j18), .second, .val (.int i20), .val (.ref b414), .unset, .unset, .unset, .unset] [])) rfl (hb hby at_158) (by decide) (by decide)
  obtain ⟨b458, gq458⟩ : ∃ z, z = T441.heap.size := ⟨_, rfl⟩
  rw [← gq458] at A458 D458 st458
  have g459 : n0 ≤ b458 := (Nat.le_trans Z455 (Nat.le_of_eq gq458.symm))
  have sz460 : h0.size ≤ b458 := (Nat.le_trans K456.1 (Nat.le_of_eq gq458.symm))
  have ne461 : b414 ≠ b458 := (Nat.ne_of_lt (Nat.lt_of_lt_of_le f450.lt (Nat.le_of_eq gq458.symm)))
  have ne462 : b426 ≠ b458 := (Nat.ne_of_lt (Nat.lt_of_lt_of_le f451.lt (Nat.le_of_eq gq458.symm)))
  have ne463 : t426 ≠ b458 := (Nat.ne_of_lt (Nat.lt_of_lt_of_le f454.lt (Nat.le_of_eq gq458.symm)))
  have hA464 := CHr.ext E458 hR447.1
  have hR465 := hR447.trans hA464
  have f466 := f448.ext E458
  have f467 := f449.ext E458
  have f468 := f450.ext E458
  have f469 := f451.ext E458
  have f470 := f452.ext E458
  have f471 := f453.ext E458
  have f472 := f454.ext E458
  have f473 := f442.ext E458
  have f474 := f443.ext E458
  have f475 := f444.ext E458
  have Z476 : n0 ≤ h458.size := (Nat.le_trans Z455 E458.1)
  have K477 : Keep h0 h458 [] := (K456.ext E458)
  have kk478 : T426.heap.size ≤ h458.size := (Nat.le_trans kk457 E458.1)
  have f479 : Fld Z h458 b458 "com/example/greylag/greylag/model/Bundle" "namespace" "Ljava/lang/String;" .null := D458 (Or.inr (hw _ (List.mem_of_getElem? (i := 34) rfl))) (ty := (.object "java/lang/String")) (by decide)
  have f480 : Fld Z h458 b458 "com/example/greylag/greylag/model/Bundle" "lower" "J" (.long (0 : Int64)) := D458 (Or.inr (hw _ (List.mem_of_getElem? (i := 36) rfl))) (ty := .long) (by decide)
  have f481 : Fld Z h458 b458 "com/example/greylag/greylag/model/Bundle" "upper" "J" (.long (0 : Int64)) := D458 (Or.inr (hw _ (List.mem_of_getElem? (i := 38) rfl))) (ty := .long) (by decide)
  refine OFin.of (S' := T458.setTop (mkF m 161 #[.val (.int p0), .val (.int p1), .val (.long q2), .second, .val (.long q3), .second, .val (.long q4), .second, .val (.int p5), .val (.int (0 : Int32)), .val (.int cA0), .val (.int cA1), .val (.int i12), .val (.int (2 : Int32)), .val (.int cB0), .val (.int cB1), .val (.long j16), .second, .val (.long j18), .second, .val (.int i20), .val (.ref b414), .unset, .unset, .unset, .unset] [(.ref b458)])) (fun t ht => st458 t ht) ?_
  refine OFin.of (S' := T458.setTop (mkF m 168 #[.val (.int p0), .val (.int p1), .val (.long q2), .second, .val (.long q3), .second, .val (.long q4), .second, .val (.int p5), .val (.int (0 : Int32)), .val (.int cA0), .val (.int cA1), .val (.int i12), .val (.int (2 : Int32)), .val (.int cB0), .val (.int cB1), .val (.long j16), .second, .val (.long j18), .second, .val (.int i20), .val (.ref b414), .unset, .unset, .unset, .unset] [(.int cB1), (.int cB0), (.int (2 : Int32)), (.ref b458), (.ref b458)])) (fun t ht => ?_) ?_
  · refine XS.dup X458.here hx rfl (hb hby at_161) rfl rfl ?_
    show Steps p.tables e below (T458.setTop (mkF m 162 _ [(.ref b458), (.ref b458)])) _
    refine XS.iload X458.here hx rfl (hb hby at_162) rfl ?_
    show Steps p.tables e below (T458.setTop (mkF m 164 _ [(.int (2 : Int32)), (.ref b458), (.ref b458)])) _
    refine XS.iload X458.here hx rfl (hb hby at_164) rfl ?_
    show Steps p.tables e below (T458.setTop (mkF m 166 _ [(.int cB0), (.int (2 : Int32)), (.ref b458), (.ref b458)])) _
    refine XS.iload X458.here hx rfl (hb hby at_166) rfl ?_
    exact ht
  obtain ⟨_, _, ⟨T482, L482, k482, n482⟩, -, X482, ⟨Lc482, hQ482, l482, y482, z482⟩, st482⟩ := Jvm.LawKit.callS X458 hx (y := (⟨"com/example/greylag/greylag/model/BundleEqualsPinLaw", "str", "(ICC)Ljava/lang/String;"⟩ : MethodName)) hown426 (mvT hZ426 (hw _ (List.mem_of_getElem? (i := 3) rfl))) (mvT hZ426 (hw _ (List.mem_of_getElem? (i := 4) rfl))) (mvT hZ426 (hw _ (List.mem_of_getElem? (i := 5) rfl))) (mvT hZ426 (hw _ (List.mem_of_getElem? (i := 6) rfl))) (by decide) (backOf (W := 2) (rmSt2 l Z _ hw [] cB0 cB1 b458 cs h458 n0 Z476 A458 f466 hcs (own_hpc okB0) (own_hpc okB1)) hZ426 (hw _ (List.mem_of_getElem? (i := 6) rfl)) (hw _ (List.mem_of_getElem? (i := 5) rfl)) (by decide) (by decide)) (g := (mkF m 168 #[.val (.int p0), .val (.int p1), .val (.long q2), .second, .val (.long q3), .second, .val (.long q4), .second, .val (.int p5), .val (.int (0 : Int32)), .val (.int cA0), .val (.int cA1), .val (.int i12), .val (.int (2 : Int32)), .val (.int cB0), .val (.int cB1), .val (.long j16), .second, .val (.long j18), .second, .val (.int i20), .val (.ref b414), .unset, .unset, .unset, .unset] [(.int cB1), (.int cB0), (.int (2 : Int32)), (.ref b458), (.ref b458)])) rfl (by rw [hml]; rfl) (argsL := [(.int (2 : Int32)), (.int cB0), (.int cB1)]) (rest := [(.ref b458), (.ref b458)]) (lenOf pd_9 rfl) rfl (by show 2 * 0 + _ ≤ _; exact Nat.le_of_eq rfl) (hb hby at_168) (fun _ _ => ⟨rfl, e458, (by decide : 8 + 3 ≤ _), (by decide : 18 + 8 ≤ _)⟩)
  dsimp only [Pt.U, Pt.locs, Pt.cells, Pt.slots] at X482 l482 y482 z482 st482 hQ482
  subst l482 y482 z482
  obtain ⟨rfl, Nq482, Kq482, Es482, t482, kb482, f482a, f482b, f482c, nt482⟩ := hQ482
  have N483 := Fr.app N445 Nq482
  obtain ⟨b482, gq482⟩ : ∃ z, z = h458.size := ⟨_, rfl⟩
  rw [← gq482] at Es482 f482a f482b st482
  have g484 : n0 ≤ b482 := (Nat.le_trans Z476 (Nat.le_of_eq gq482.symm))
  have sz485 : h0.size ≤ b482 := (Nat.le_trans K477.1 (Nat.le_of_eq gq482.symm))
  have ne486 : b414 ≠ b482 := (Nat.ne_of_lt (Nat.lt_of_lt_of_le f468.lt (Nat.le_of_eq gq482.symm)))
  have ne487 : b426 ≠ b482 := (Nat.ne_of_lt (Nat.lt_of_lt_of_le f469.lt (Nat.le_of_eq gq482.symm)))
  have ne488 : t426 ≠ b482 := (Nat.ne_of_lt (Nat.lt_of_lt_of_le f472.lt (Nat.le_of_eq gq482.symm)))
  have ne489 : b458 ≠ b482 := (Nat.ne_of_lt (Nat.lt_of_lt_of_le A458.lt (Nat.le_of_eq gq482.symm)))
  have hA490 := CHr.keep Kq482 sf0 hR465.1
  have hR491 := hR465.trans hA490
  have f492 := (own_staKeep f466 Kq482 own_sn0)
  have f493 := (own_staKeep f467 Kq482 own_sn0)
  have f494 := (f468.keep Kq482)
  have f495 := (f469.keep Kq482)
  have f496 := (f470.keep Kq482 nin0)
  have f497 := (f471.keep Kq482 nin0)
  have f498 := (f472.keep Kq482 nin0)
  have f499 := (f473.keep Kq482 nin0)
  have f500 := (f474.keep Kq482 nin0)
  have f501 := (f475.keep Kq482 nin0)
  have f502 := (A458.keep Kq482)
  have f503 := (f479.keep Kq482 nin0)
  have f504 := (f480.keep Kq482 nin0)
  have f505 := (f481.keep Kq482 nin0)
  have Z506 : n0 ≤ T482.heap.size := (Nat.le_trans Z476 Kq482.1)
  have K507 : Keep h0 T482.heap [] := (K477.trans Kq482 all0)
  have kk508 : T426.heap.size ≤ T482.heap.size := (Nat.le_trans kk478 Kq482.1)
  refine OFin.of (S' := T482.setTop (mkF m 171 #[.val (.int p0), .val (.int p1), .val (.long q2), .second, .val (.long q3), .second, .val (.long q4), .second, .val (.int p5), .val (.int (0 : Int32)), .val (.int cA0), .val (.int cA1), .val (.int i12), .val (.int (2 : Int32)), .val (.int cB0), .val (.int cB1), .val (.long j16), .second, .val (.long j18), .second, .val (.int i20), .val (.ref b414), .unset, .unset, .unset, .unset] [(.ref b482), (.ref b458), (.ref b458)])) (fun t ht => st482 t ht) ?_
  refine OFin.of (S' := T482.setTop (mkF m 175 #[.val (.int p0), .val (.int p1), .val (.long q2), .second, .val (.long q3), .second, .val (.long q4), .second, .val (.int p5), .val (.int (0 : Int32)), .val (.int cA0), .val (.int cA1), .val (.int i12), .val (.int (2 : Int32)), .val (.int cB0), .val (.int cB1), .val (.long j16), .second, .val (.long j18), .second, .val (.int i20), .val (.ref b414), .unset, .unset, .unset, .unset] [(.long j18), (.long j16), (.ref b482), (.ref b458), (.ref b458)])) (fun t ht => ?_) ?_
  · refine XS.lload X482.here hx rfl (hb hby at_171) rfl ?_
    show Steps p.tables e below (T482.setTop (mkF m 173 _ [(.long j16), (.ref b482), (.ref b458), (.ref b458)])) _
    refine XS.lload X482.here hx rfl (hb hby at_173) rfl ?_
    exact ht
  obtain ⟨_, _, ⟨T509, L509, k509, n509⟩, -, X509, ⟨Lc509, hQ509, l509, y509, z509⟩, st509⟩ := X482.specialBack hx (y := (⟨"com/example/greylag/greylag/model/Bundle", "<init>", "(Ljava/lang/String;JJ)V"⟩ : MethodName)) rfl hown426 (mvT hZ426 (hw _ (List.mem_of_getElem? (i := 29) rfl))) (mvT hZ426 (hw _ (List.mem_of_getElem? (i := 30) rfl))) (mvT hZ426 (hw _ (List.mem_of_getElem? (i := 31) rfl))) (by decide) (backOf (W := 1) (rmIni l Z _ hw [] b458 b482 j16 j18 T482.heap n0 Z506 f502 f503 f504 f505 g459) hZ426 (hw _ (List.mem_of_getElem? (i := 31) rfl)) (hw _ (List.mem_of_getElem? (i := 2) rfl)) (by decide) (by decide)) (g := (mkF m 175 #[.val (.int p0), .val (.int p1), .val (.long q2), .second, .val (.long q3), .second, .val (.long q4), .second, .val (.int p5), .val (.int (0 : Int32)), .val (.int cA0), .val (.int cA1), .val (.int i12), .val (.int (2 : Int32)), .val (.int cB0), .val (.int cB1), .val (.long j16), .second, .val (.long j18), .second, .val (.int i20), .val (.ref b414), .unset, .unset, .unset, .unset] [(.long j18), (.long j16), (.ref b482), (.ref b458), (.ref b458)])) rfl (by rw [hml]; rfl) (Steps.refl _) (a := b458) (argsL := [(.ref b482), (.long j16), (.long j18)]) (rest := [(.ref b458)]) (lenOf pd_10 rfl) rfl (by show 2 * 0 + _ ≤ _; exact Nat.le_of_eq rfl) (hb hby at_175) (fun _ _ => ⟨rfl, (rfl : T482.heap = T482.heap), (by decide : 11 + 0 ≤ _), (by decide : 26 + 0 ≤ _)⟩)
  dsimp only [Pt.U, Pt.locs, Pt.cells, Pt.slots] at X509 l509 y509 z509 st509 hQ509
  subst l509 y509 z509
  obtain ⟨rfl, Nq509, Kq509, f510, f511, f512⟩ := hQ509
  have N513 := Fr.app N483 Nq509
  have hA514 := CHr.keep Kq509 (sfS (Safe.exa hZ426.alike f502 (by decide) (by decide)) sf0) hR491.1
  have hR515 := hR491.trans hA514
  have f516 := (own_staKeep f492 Kq509 (own_snS f502 own_sn0))
  have f517 := (own_staKeep f493 Kq509 (own_snS f502 own_sn0))
  have f518 := (f494.keep Kq509)
  have f519 := (f495.keep Kq509)
  have f520 := (f496.keep Kq509 (ninS ne462 nin0))
  have f521 := (f497.keep Kq509 (ninS ne462 nin0))
  have f522 := (f498.keep Kq509 (ninS ne463 nin0))
  have f523 := (f499.keep Kq509 (ninS ne461 nin0))
  have f524 := (f500.keep Kq509 (ninS ne461 nin0))
  have f525 := (f501.keep Kq509 (ninS ne461 nin0))
  have f526 := (f502.keep Kq509)
  have f527 := (Es482.keep Kq509)
  have f528 := (f482a.keep Kq509 (ninS (Ne.symm ne489) nin0))
  have f529 := (f482b.keep Kq509 (ninS (Ne.symm ne489) nin0))
  have f530 := (f482c.keep Kq509 (ninS (Ne.symm nt482) nin0))
  have Z531 : n0 ≤ T509.heap.size := (Nat.le_trans Z506 Kq509.1)
  have K532 : Keep h0 T509.heap [] := (K507.trans Kq509 (allS (Or.inr sz460) all0))
  have kk533 : T426.heap.size ≤ T509.heap.size := (Nat.le_trans kk508 Kq509.1)
  refine OFin.to (S' := T509.setTop (mkF m 178 #[.val (.int p0), .val (.int p1), .val (.long q2), .second, .val (.long q3), .second, .val (.long q4), .second, .val (.int p5), .val (.int (0 : Int32)), .val (.int cA0), .val (.int cA1), .val (.int i12), .val (.int (2 : Int32)), .val (.int cB0), .val (.int cB1), .val (.long j16), .second, .val (.long j18), .second, .val (.int i20), .val (.ref b414), .unset, .unset, .unset, .unset] [(.ref b458)])) st509 ?_
  refine OFin.of (S' := T509.setTop (mkF m 181 #[.val (.int p0), .val (.int p1), .val (.long q2), .second, .val (.long q3), .second, .val (.long q4), .second, .val (.int p5), .val (.int (0 : Int32)), .val (.int cA0), .val (.int cA1), .val (.int i12), .val (.int (2 : Int32)), .val (.int cB0), .val (.int cB1), .val (.long j16), .second, .val (.long j18), .second, .val (.int i20), .val (.ref b414), .val (.ref b458), .unset, .unset, .unset] [(.long q2)])) (fun t ht => ?_) ?_
  · refine XS.astore X509.here hx rfl (hb hby at_178) rfl rfl (l' := #[.val (.int p0), .val (.int p1), .val (.long q2), .second, .val (.long q3), .second, .val (.long q4), .second, .val (.int p5), .val (.int (0 : Int32)), .val (.int cA0), .val (.int cA1), .val (.int i12), .val (.int (2 : Int32)), .val (.int cB0), .val (.int cB1), .val (.long j16), .second, .val (.long j18), .second, .val (.int i20), .val (.ref b414), .val (.ref b458), .unset, .unset, .unset]) rfl ?_
    show Steps p.tables e below (T509.setTop (mkF m 180 #[.val (.int p0), .val (.int p1), .val (.long q2), .second, .val (.long q3), .second, .val (.long q4), .second, .val (.int p5), .val (.int (0 : Int32)), .val (.int cA0), .val (.int cA1), .val (.int i12), .val (.int (2 : Int32)), .val (.int cB0), .val (.int cB1), .val (.long j16), .second, .val (.long j18), .second, .val (.int i20), .val (.ref b414), .val (.ref b458), .unset, .unset, .unset] [])) _
    refine XS.lloadN X509.here hx rfl (hb hby at_180) rfl ?_
    exact ht
  obtain ⟨_, _, ⟨T534, L534, k534, n534⟩, -, X534, ⟨Lc534, hQ534, l534, y534, z534⟩, st534⟩ := Jvm.LawKit.callS X509 hx (y := (⟨"java/lang/Long", "valueOf", "(J)Ljava/lang/Long;"⟩ : MethodName)) hown426 (mvT hZ426 (hw _ (List.mem_of_getElem? (i := 39) rfl))) (mvT hZ426 (hw _ (List.mem_of_getElem? (i := 40) rfl))) (mvT hZ426 (hw _ (List.mem_of_getElem? (i := 41) rfl))) (mvT hZ426 (hw _ (List.mem_of_getElem? (i := 42) rfl))) (by decide) (backOf (W := 0) (rmVo l Z _ hw [] q2 ac T509.heap n0 Z531 f517 (hLC.keep K532)) hZ426 (hw _ (List.mem_of_getElem? (i := 42) rfl)) (hw _ (List.mem_of_getElem? (i := 41) rfl)) (by decide) (by decide)) (g := (mkF m 181 #[.val (.int p0), .val (.int p1), .val (.long q2), .second, .val (.long q3), .second, .val (.long q4), .second, .val (.int p5), .val (.int (0 : Int32)), .val (.int cA0), .val (.int cA1), .val (.int i12), .val (.int (2 : Int32)), .val (.int cB0), .val (.int cB1), .val (.long j16), .second, .val (.long j18), .second, .val (.int i20), .val (.ref b414), .val (.ref b458), .unset, .unset, .unset] [(.long q2)])) rfl (by rw [hml]; rfl) (argsL := [(.long q2)]) (rest := []) (lenOf pd_11 rfl) rfl (by show 2 * 0 + _ ≤ _; exact Nat.le_of_eq rfl) (hb hby at_181) (fun _ _ => ⟨rfl, (rfl : T509.heap = T509.heap), (by decide : 11 + 1 ≤ _), (by decide : 26 + 1 ≤ _)⟩)
  dsimp only [Pt.U, Pt.locs, Pt.cells, Pt.slots] at X534 l534 y534 z534 st534 hQ534
  subst l534 y534 z534
  obtain ⟨r534, rfl, Nq534, Kq534, Er534⟩ := hQ534
  have N535 := Fr.app N513 Nq534
  have f536 := (own_staKeep f516 Kq534 own_sn0)
  have f537 := (own_staKeep f517 Kq534 own_sn0)
  have f538 := (f518.keep Kq534)
  have f539 := (f519.keep Kq534)
  have f540 := (f520.keep Kq534 nin0)
  have f541 := (f521.keep Kq534 nin0)
  have f542 := (f522.keep Kq534 nin0)
  have f543 := (f523.keep Kq534 nin0)
  have f544 := (f524.keep Kq534 nin0)
  have f545 := (f525.keep Kq534 nin0)
  have f546 := (f526.keep Kq534)
  have f547 := (f527.keep Kq534)
  have f548 := (f528.keep Kq534 nin0)
  have f549 := (f529.keep Kq534 nin0)
  have f550 := (f530.keep Kq534 nin0)
  have f551 := (f510.keep Kq534 nin0)
  have f552 := (f511.keep Kq534 nin0)
  have f553 := (f512.keep Kq534 nin0)
  have Z554 : n0 ≤ T534.heap.size := (Nat.le_trans Z531 Kq534.1)
  have K555 : Keep h0 T534.heap [] := (K532.trans Kq534 all0)
  have kk556 : T426.heap.size ≤ T534.heap.size := (Nat.le_trans kk533 Kq534.1)
  refine OFin.of (S' := T534.setTop (mkF m 184 #[.val (.int p0), .val (.int p1), .val (.long q2), .second, .val (.long q3), .second, .val (.long q4), .second, .val (.int p5), .val (.int (0 : Int32)), .val (.int cA0), .val (.int cA1), .val (.int i12), .val (.int (2 : Int32)), .val (.int cB0), .val (.int cB1), .val (.long j16), .second, .val (.long j18), .second, .val (.int i20), .val (.ref b414), .val (.ref b458), .unset, .unset, .unset] [(.ref r534)])) (fun t ht => st534 t ht) ?_
  refine OFin.of (S' := T534.setTop (mkF m 186 #[.val (.int p0), .val (.int p1), .val (.long q2), .second, .val (.long q3), .second, .val (.long q4), .second, .val (.int p5), .val (.int (0 : Int32)), .val (.int cA0), .val (.int cA1), .val (.int i12), .val (.int (2 : Int32)), .val (.int cB0), .val (.int cB1), .val (.long j16), .second, .val (.long j18), .second, .val (.int i20), .val (.ref b414), .val (.ref b458), .val (.ref r534), .unset, .unset] [])) (fun t ht => ?_) ?_
  · refine XS.astore X534.here hx rfl (hb hby at_184) rfl rfl (l' := #[.val (.int p0), .val (.int p1), .val (.long q2), .second, .val (.long q3), .second, .val (.long q4), .second, .val (.int p5), .val (.int (0 : Int32)), .val (.int cA0), .val (.int cA1), .val (.int i12), .val (.int (2 : Int32)), .val (.int cB0), .val (.int cB1), .val (.long j16), .second, .val (.long j18), .second, .val (.int i20), .val (.ref b414), .val (.ref b458), .val (.ref r534), .unset, .unset]) rfl ?_
    exact ht
  exact segT (s := s) (vm1 := T426.vm) Z _ hw hx hby hlk hret hml hown426 hZ426 n0 p0 p1 q2 q3 q4 p5 (0 : Int32) cA0 cA1 i12 (2 : Int32) cB0 cB1 j16 j18 i20 b414 b458 r534 b426 b482 (0 : Int32) (0 : Int32) (X534.more (by decide) (by decide)) (rfl : T534.heap = T534.heap) Z554 N535 f538 f546 f539 f547 Er534 f543 f544 f545 f551 f552 f553 (rmEqG l Z _ hw [] b426 b482 t426 t482 cs (0 : Int32) T534.heap n0 Z554 f547 f540 f548 f541 f549 f536 hcs ne487 (Or.inl rfl) (rmLeN l Z _ hw [] t426 t482 kb426 kb482 _ _ _ _ T534.heap n0 Z554 f542 f550 (by decide))) (rmEqG l Z _ hw [] b482 b426 t482 t426 cs (0 : Int32) T534.heap n0 Z554 f539 f548 f540 f549 f541 f536 hcs (Ne.symm ne487) (Or.inl rfl) (rmLeN l Z _ hw [] t482 t426 kb482 kb426 _ _ _ _ T534.heap n0 Z554 f550 f542 (by decide))) (own_ez (by decide)) (own_ez (by decide)) S426 kk556 hQ
set_option maxRecDepth 65536 in
set_option maxHeartbeats 40000000 in
theorem seg10 {p : Program} {l : Launch} {e : Env} {s : State} {m : MethodId} {args : Array Value} {below : List Frame} {meth : Method} {c : Code} (Z : State) (a0 : Array Value) (hw : ∀ d ∈ tables_1, d.before a0 Z = true) (hx : p.tables.exec = Jvm.exec) (hby : c.code = code) (hlk : meth.locks = false) (hret : meth.sig.returnType = some .boolean) (hml : c.maxLocals = 26) (hown : s.vm.findClass "com/example/greylag/greylag/model/BundleEqualsPinLaw" = some m.cls) (hZ : Z.Warmed39 s.vm) {Q : Option Value → Heap → List Loc → Prop} (n0 : Nat) (p0 : Int32) (p1 : Int32) (q2 : Int64) (q3 : Int64) (q4 : Int64) (p5 : Int32) (cA0 : Int32) (cA1 : Int32) (i12 : Int32) (cB0 : Int32) (cB1 : Int32) (j16 : Int64) (j18 : Int64) (i20 : Int32) (cs : Int32) (ac : Addr) {T0 : State} {locs : List Loc} {h0 : Heap} (X0 : Stand p l e room_1 s m args below meth c T0 locs 0 0) (e0 : T0.heap = h0) (Z0 : n0 ≤ h0.size) (N0 : Fr n0 locs) (fa0 : Sta Z h0 "java/lang/String" "COMPACT_STRINGS" "Z" (.int cs)) (fa1 : Sta Z h0 "java/lang/Long$LongCache" "cache" "[Ljava/lang/Long;" (.ref ac)) (hcs : ¬ cs = (0 : Int32)) (hLC : OwnLC Z h0 ac) (okA0 : OwnOk cA0) (okA1 : OwnOk cA1) (okB0 : OwnOk cB0) (okB1 : OwnOk cB1) (hC0 : CHv Z consts_1 s.vm h0) (hQ : ∀ (h' : Heap) (L : List Loc), Fr n0 L → Q (some (.int (1 : Int32))) h' L) :
    OFin p e below (KPostW s Q room_1.cells room_1.slots) (T0.setTop (mkF m 137 #[.val (.int p0), .val (.int p1), .val (.long q2), .second, .val (.long q3), .second, .val (.long q4), .second, .val (.int p5), .val (.int (1 : Int32)), .val (.int cA0), .val (.int cA1), .val (.int i12), .val (.int (0 : Int32)), .val (.int cB0), .val (.int cB1), .val (.long j16), .second, .val (.long j18), .second, .val (.int i20), .unset, .unset, .unset, .unset, .unset] [])) := by
  have K0 : Keep h0 h0 [] := Keep.refl _ _
  have hR0 : CHr Z consts_1 s.vm h0 s.vm h0 := CHr.refl hC0
  have hEL := own_EW hw
  obtain ⟨T558, h558, X558, e558, E558, A558, D558, -, st558⟩ := newO X0 hx hZ hown (hw _ (List.mem_of_getElem? (i := 0) rfl)) (hw _ (List.mem_of_getElem? (i := 1) rfl)) (hw _ (List.mem_of_getElem? (i := 2) rfl)) e0 (g := (mkF m 137 #[.val (.int p0), .val (.int p1), .val (.long q2), .second, .val (.long q3), .second, .val (.long q4), .second, .val (.int p5), .val (.int (1 : Int32)), .val (.int cA0), .val (.int cA1), .val (.int i12), .val (.int (0 : Int32)), .val (.int cB0), .val (.int cB1), .val (.long j16), .second, .val (.long j18), .second, .val (.int i20), .unset, .unset, .unset, .unset, .unset] [])) rfl (hb hby at_137) (by decide) (by decide)
  obtain ⟨b558, gq558⟩ : ∃ z, z = h0.size := ⟨_, rfl⟩
  rw [← gq558] at A558 D558 st558
  have g559 : n0 ≤ b558 := (Nat.le_trans Z0 (Nat.le_of_eq gq558.symm))
  have sz560 : h0.size ≤ b558 := (Nat.le_trans K0.1 (Nat.le_of_eq gq558.symm))
  have hA561 := CHr.ext E558 hR0.1
  have hR562 := hR0.trans hA561
  have f563 := fa0.ext E558
  have f564 := fa1.ext E558
  have Z565 : n0 ≤ h558.size := (Nat.le_trans Z0 E558.1)
  have K566 : Keep h0 h558 [] := (K0.ext E558)
  have f567 : Fld Z h558 b558 "com/example/greylag/greylag/model/Bundle" "namespace" "Ljava/lang/String;" .null := D558 (Or.inr (hw _ (List.mem_of_getElem? (i := 34) rfl))) (ty := (.object "java/lang/String")) (by decide)
  have f568 : Fld Z h558 b558 "com/example/greylag/greylag/model/Bundle" "lower" "J" (.long (0 : Int64)) := D558 (Or.inr (hw _ (List.mem_of_getElem? (i := 36) rfl))) (ty := .long) (by decide)
  have f569 : Fld Z h558 b558 "com/example/greylag/greylag/model/Bundle" "upper" "J" (.long (0 : Int64)) := D558 (Or.inr (hw _ (List.mem_of_getElem? (i := 38) rfl))) (ty := .long) (by decide)
  refine OFin.of (S' := T558.setTop (mkF m 140 #[.val (.int p0), .val (.int p1), .val (.long q2), .second, .val (.long q3), .second, .val (.long q4), .second, .val (.int p5), .val (.int (1 : Int32)), .val (.int cA0), .val (.int cA1), .val (.int i12), .val (.int (0 : Int32)), .val (.int cB0), .val (.int cB1), .val (.long j16), .second, .val (.long j18), .second, .val (.int i20), .unset, .unset, .unset, .unset, .unset] [(.ref b558)])) (fun t ht => st558 t ht) ?_
  refine OFin.of (S' := T558.setTop (mkF m 147 #[.val (.int p0), .val (.int p1), .val (.long q2), .second, .val (.long q3), .second, .val (.long q4), .second, .val (.int p5), .val (.int (1 : Int32)), .val (.int cA0), .val (.int cA1), .val (.int i12), .val (.int (0 : Int32)), .val (.int cB0), .val (.int cB1), .val (.long j16), .second, .val (.long j18), .second, .val (.int i20), .unset, .unset, .unset, .unset, .unset] [(.int cA1), (.int cA0), (.int (1 : Int32)), (.ref b558), (.ref b558)])) (fun t ht => ?_) ?_
  · refine XS.dup X558.here hx rfl (hb hby at_140) rfl rfl ?_
    show Steps p.tables e below (T558.setTop (mkF m 141 _ [(.ref b558), (.ref b558)])) _
    refine XS.iload X558.here hx rfl (hb hby at_141) rfl ?_
    show Steps p.tables e below (T558.setTop (mkF m 143 _ [(.int (1 : Int32)), (.ref b558), (.ref b558)])) _
    refine XS.iload X558.here hx rfl (hb hby at_143) rfl ?_
    show Steps p.tables e below (T558.setTop (mkF m 145 _ [(.int cA0), (.int (1 : Int32)), (.ref b558), (.ref b558)])) _
    refine XS.iload X558.here hx rfl (hb hby at_145) rfl ?_
    exact ht
  obtain ⟨_, _, ⟨T570, L570, k570, n570⟩, -, X570, ⟨Lc570, hQ570, l570, y570, z570⟩, st570⟩ := Jvm.LawKit.callS X558 hx (y := (⟨"com/example/greylag/greylag/model/BundleEqualsPinLaw", "str", "(ICC)Ljava/lang/String;"⟩ : MethodName)) hown (mvT hZ (hw _ (List.mem_of_getElem? (i := 3) rfl))) (mvT hZ (hw _ (List.mem_of_getElem? (i := 4) rfl))) (mvT hZ (hw _ (List.mem_of_getElem? (i := 5) rfl))) (mvT hZ (hw _ (List.mem_of_getElem? (i := 6) rfl))) (by decide) (backOf (W := 2) (rmSt1 l Z _ hw [] cA0 cA1 b558 cs h558 n0 Z565 A558 f563 hcs (own_hpc okA0)) hZ (hw _ (List.mem_of_getElem? (i := 6) rfl)) (hw _ (List.mem_of_getElem? (i := 5) rfl)) (by decide) (by decide)) (g := (mkF m 147 #[.val (.int p0), .val (.int p1), .val (.long q2), .second, .val (.long q3), .second, .val (.long q4), .second, .val (.int p5), .val (.int (1 : Int32)), .val (.int cA0), .val (.int cA1), .val (.int i12), .val (.int (0 : Int32)), .val (.int cB0), .val (.int cB1), .val (.long j16), .second, .val (.long j18), .second, .val (.int i20), .unset, .unset, .unset, .unset, .unset] [(.int cA1), (.int cA0), (.int (1 : Int32)), (.ref b558), (.ref b558)])) rfl (by rw [hml]; rfl) (argsL := [(.int (1 : Int32)), (.int cA0), (.int cA1)]) (rest := [(.ref b558), (.ref b558)]) (lenOf pd_9 rfl) rfl (by show 2 * 0 + _ ≤ _; exact Nat.le_of_eq rfl) (hb hby at_147) (fun _ _ => ⟨rfl, e558, (by decide : 1 + 3 ≤ _), (by decide : 3 + 6 ≤ _)⟩)
  dsimp only [Pt.U, Pt.locs, Pt.cells, Pt.slots] at X570 l570 y570 z570 st570 hQ570
  subst l570 y570 z570
  obtain ⟨rfl, Nq570, Kq570, Es570, t570, kb570, f570a, f570b, f570c, nt570⟩ := hQ570
  have N571 := Fr.app N0 Nq570
  obtain ⟨b570, gq570⟩ : ∃ z, z = h558.size := ⟨_, rfl⟩
  rw [← gq570] at Es570 f570a f570b st570
  have g572 : n0 ≤ b570 := (Nat.le_trans Z565 (Nat.le_of_eq gq570.symm))
  have sz573 : h0.size ≤ b570 := (Nat.le_trans K566.1 (Nat.le_of_eq gq570.symm))
  have ne574 : b558 ≠ b570 := (Nat.ne_of_lt (Nat.lt_of_lt_of_le A558.lt (Nat.le_of_eq gq570.symm)))
  have hA575 := CHr.keep Kq570 sf0 hR562.1
  have hR576 := hR562.trans hA575
  have f577 := (own_staKeep f563 Kq570 own_sn0)
  have f578 := (own_staKeep f564 Kq570 own_sn0)
  have f579 := (A558.keep Kq570)
  have f580 := (f567.keep Kq570 nin0)
  have f581 := (f568.keep Kq570 nin0)
  have f582 := (f569.keep Kq570 nin0)
  have Z583 : n0 ≤ T570.heap.size := (Nat.le_trans Z565 Kq570.1)
  have K584 : Keep h0 T570.heap [] := (K566.trans Kq570 all0)
  refine OFin.of (S' := T570.setTop (mkF m 150 #[.val (.int p0), .val (.int p1), .val (.long q2), .second, .val (.long q3), .second, .val (.long q4), .second, .val (.int p5), .val (.int (1 : Int32)), .val (.int cA0), .val (.int cA1), .val (.int i12), .val (.int (0 : Int32)), .val (.int cB0), .val (.int cB1), .val (.long j16), .second, .val (.long j18), .second, .val (.int i20), .unset, .unset, .unset, .unset, .unset] [(.ref b570), (.ref b558), (.ref b558)])) (fun t ht => st570 t ht) ?_
  refine OFin.of (S' := T570.setTop (mkF m 153 #[.val (.int p0), .val (.int p1), .val (.long q2), .second, .val (.long q3), .second, .val (.long q4), .second, .val (.int p5), .val (.int (1 : Int32)), .val (.int cA0), .val (.int cA1), .val (.int i12), .val (.int (0 : Int32)), .val (.int cB0), .val (.int cB1), .val (.long j16), .second, .val (.long j18), .second, .val (.int i20), .unset, .unset, .unset, .unset, .unset] [(.long q3), (.long q2), (.ref b570), (.ref b558), (.ref b558)])) (fun t ht => ?_) ?_
  · refine XS.lloadN X570.here hx rfl (hb hby at_150) rfl ?_
    show Steps p.tables e below (T570.setTop (mkF m 151 _ [(.long q2), (.ref b570), (.ref b558), (.ref b558)])) _
    refine XS.lload X570.here hx rfl (hb hby at_151) rfl ?_
    exact ht
  obtain ⟨_, _, ⟨T585, L585, k585, n585⟩, -, X585, ⟨Lc585, hQ585, l585, y585, z585⟩, st585⟩ := X570.specialBack hx (y := (⟨"com/example/greylag/greylag/model/Bundle", "<init>", "(Ljava/lang/String;JJ)V"⟩ : MethodName)) rfl hown (mvT hZ (hw _ (List.mem_of_getElem? (i := 29) rfl))) (mvT hZ (hw _ (List.mem_of_getElem? (i := 30) rfl))) (mvT hZ (hw _ (List.mem_of_getElem? (i := 31) rfl))) (by decide) (backOf (W := 1) (rmIni l Z _ hw [] b558 b570 q2 q3 T570.heap n0 Z583 f579 f580 f581 f582 g559) hZ (hw _ (List.mem_of_getElem? (i := 31) rfl)) (hw _ (List.mem_of_getElem? (i := 2) rfl)) (by decide) (by decide)) (g := (mkF m 153 #[.val (.int p0), .val (.int p1), .val (.long q2), .second, .val (.long q3), .second, .val (.long q4), .second, .val (.int p5), .val (.int (1 : Int32)), .val (.int cA0), .val (.int cA1), .val (.int i12), .val (.int (0 : Int32)), .val (.int cB0), .val (.int cB1), .val (.long j16), .second, .val (.long j18), .second, .val (.int i20), .unset, .unset, .unset, .unset, .unset] [(.long q3), (.long q2), (.ref b570), (.ref b558), (.ref b558)])) rfl (by rw [hml]; rfl) (Steps.refl _) (a := b558) (argsL := [(.ref b570), (.long q2), (.long q3)]) (rest := [(.ref b558)]) (lenOf pd_10 rfl) rfl (by show 2 * 0 + _ ≤ _; exact Nat.le_of_eq rfl) (hb hby at_153) (fun _ _ => ⟨rfl, (rfl : T570.heap = T570.heap), (by decide : 4 + 0 ≤ _), (by decide : 9 + 0 ≤ _)⟩)
  dsimp only [Pt.U, Pt.locs, Pt.cells, Pt.slots] at X585 l585 y585 z585 st585 hQ585
  subst l585 y585 z585
  obtain ⟨rfl, Nq585, Kq585, f586, f587, f588⟩ := hQ585
  have N589 := Fr.app N571 Nq585
  have hA590 := CHr.keep Kq585 (sfS (Safe.exa hZ.alike f579 (by decide) (by decide)) sf0) hR576.1
  have hR591 := hR576.trans hA590
  have f592 := (own_staKeep f577 Kq585 (own_snS f579 own_sn0))
  have f593 := (own_staKeep f578 Kq585 (own_snS f579 own_sn0))
  have f594 := (f579.keep Kq585)
  have f595 := (Es570.keep Kq585)
  have f596 := (f570a.keep Kq585 (ninS (Ne.symm ne574) nin0))
  have f597 := (f570b.keep Kq585 (ninS (Ne.symm ne574) nin0))
  have f598 := (f570c.keep Kq585 (ninS (Ne.symm nt570) nin0))
  have Z599 : n0 ≤ T585.heap.size := (Nat.le_trans Z583 Kq585.1)
  have K600 : Keep h0 T585.heap [] := (K584.trans Kq585 (allS (Or.inr sz560) all0))
  refine OFin.to (S' := T585.setTop (mkF m 156 #[.val (.int p0), .val (.int p1), .val (.long q2), .second, .val (.long q3), .second, .val (.long q4), .second, .val (.int p5), .val (.int (1 : Int32)), .val (.int cA0), .val (.int cA1), .val (.int i12), .val (.int (0 : Int32)), .val (.int cB0), .val (.int cB1), .val (.long j16), .second, .val (.long j18), .second, .val (.int i20), .unset, .unset, .unset, .unset, .unset] [(.ref b558)])) st585 ?_
  refine OFin.of (S' := T585.setTop (mkF m 158 #[.val (.int p0), .val (.int p1), .val (.long q2), .second, .val (.long q3), .second, .val (.long q4), .second, .val (.int p5), .val (.int (1 : Int32)), .val (.int cA0), .val (.int cA1), .val (.int i12), .val (.int (0 : Int32)), .val (.int cB0), .val (.int cB1), .val (.long j16), .second, .val (.long j18), .second, .val (.int i20), .val (.ref b558), .unset, .unset, .unset, .unset] [])) (fun t ht => ?_) ?_
  · refine XS.astore X585.here hx rfl (hb hby at_156) rfl rfl (l' := #[.val (.int p0), .val (.int p1), .val (.long q2), .second, .val (.long q3), .second, .val (.long q4), .second, .val (.int p5), .val (.int (1 : Int32)), .val (.int cA0), .val (.int cA1), .val (.int i12), .val (.int (0 : Int32)), .val (.int cB0), .val (.int cB1), .val (.long j16), .second, .val (.long j18), .second, .val (.int i20), .val (.ref b558), .unset, .unset, .unset, .unset]) rfl ?_
    exact ht
  obtain ⟨T601, h601, X601, e601, E601, A601, D601, -, st601⟩ := newO X585 hx hZ hown (hw _ (List.mem_of_getElem? (i := 0) rfl)) (hw _ (List.mem_of_getElem? (i := 1) rfl)) (hw _ (List.mem_of_getElem? (i := 2) rfl)) (rfl : T585.heap = T585.heap) (g := (mkF m 158 #[.val (.int p0), .val (.int p1), .val (.long q2), .second, .val (.long q3), .second, .val (.long q4), .second, .val (.int p5), .val (.int (1 : Int32)), .val (.int cA0), .val (.int cA1), .val (.int i12), .val (.int (0 : Int32)), .val (.int cB0), .val (.int cB1), .val (.long j16), .second, .val (.long j18), .second, .val (.int i20), .val (.ref b558), .unset, .unset, .unset, .unset] [])) rfl (hb hby at_158) (by decide) (by decide)
  obtain ⟨b601, gq601⟩ : ∃ z, z = T585.heap.size := ⟨_, rfl⟩
  rw [← gq601] at A601 D601 st601
  have g602 : n0 ≤ b601 := (Nat.le_trans Z599 (Nat.le_of_eq gq601.symm))
  have sz603 : h0.size ≤ b601 := (Nat.le_trans K600.1 (Nat.le_of_eq gq601.symm))
  have ne604 : b558 ≠ b601 := (Nat.ne_of_lt (Nat.lt_of_lt_of_le f594.lt (Nat.le_of_eq gq601.symm)))
  have ne605 : b570 ≠ b601 := (Nat.ne_of_lt (Nat.lt_of_lt_of_le f595.lt (Nat.le_of_eq gq601.symm)))
  have ne606 : t570 ≠ b601 := (Nat.ne_of_lt (Nat.lt_of_lt_of_le f598.lt (Nat.le_of_eq gq601.symm)))
  have hA607 := CHr.ext E601 hR591.1
  have hR608 := hR591.trans hA607
  have f609 := f592.ext E601
  have f610 := f593.ext E601
  have f611 := f594.ext E601
  have f612 := f595.ext E601
  have f613 := f596.ext E601
  have f614 := f597.ext E601
  have f615 := f598.ext E601
  have f616 := f586.ext E601
  have f617 := f587.ext E601
  have f618 := f588.ext E601
  have Z619 : n0 ≤ h601.size := (Nat.le_trans Z599 E601.1)
  have K620 : Keep h0 h601 [] := (K600.ext E601)
  have f621 : Fld Z h601 b601 "com/example/greylag/greylag/model/Bundle" "namespace" "Ljava/lang/String;" .null := D601 (Or.inr (hw _ (List.mem_of_getElem? (i := 34) rfl))) (ty := (.object "java/lang/String")) (by decide)
  have f622 : Fld Z h601 b601 "com/example/greylag/greylag/model/Bundle" "lower" "J" (.long (0 : Int64)) := D601 (Or.inr (hw _ (List.mem_of_getElem? (i := 36) rfl))) (ty := .long) (by decide)
  have f623 : Fld Z h601 b601 "com/example/greylag/greylag/model/Bundle" "upper" "J" (.long (0 : Int64)) := D601 (Or.inr (hw _ (List.mem_of_getElem? (i := 38) rfl))) (ty := .long) (by decide)
  refine OFin.of (S' := T601.setTop (mkF m 161 #[.val (.int p0), .val (.int p1), .val (.long q2), .second, .val (.long q3), .second, .val (.long q4), .second, .val (.int p5), .val (.int (1 : Int32)), .val (.int cA0), .val (.int cA1), .val (.int i12), .val (.int (0 : Int32)), .val (.int cB0), .val (.int cB1), .val (.long j16), .second, .val (.long j18), .second, .val (.int i20), .val (.ref b558), .unset, .unset, .unset, .unset] [(.ref b601)])) (fun t ht => st601 t ht) ?_
  refine OFin.of (S' := T601.setTop (mkF m 168 #[.val (.int p0), .val (.int p1), .val (.long q2), .second, .val (.long q3), .second, .val (.long q4), .second, .val (.int p5), .val (.int (1 : Int32)), .val (.int cA0), .val (.int cA1), .val (.int i12), .val (.int (0 : Int32)), .val (.int cB0), .val (.int cB1), .val (.long j16), .second, .val (.long j18), .second, .val (.int i20), .val (.ref b558), .unset, .unset, .unset, .unset] [(.int cB1), (.int cB0), (.int (0 : Int32)), (.ref b601), (.ref b601)])) (fun t ht => ?_) ?_
  · refine XS.dup X601.here hx rfl (hb hby at_161) rfl rfl ?_
    show Steps p.tables e below (T601.setTop (mkF m 162 _ [(.ref b601), (.ref b601)])) _
    refine XS.iload X601.here hx rfl (hb hby at_162) rfl ?_
    show Steps p.tables e below (T601.setTop (mkF m 164 _ [(.int (0 : Int32)), (.ref b601), (.ref b601)])) _
    refine XS.iload X601.here hx rfl (hb hby at_164) rfl ?_
    show Steps p.tables e below (T601.setTop (mkF m 166 _ [(.int cB0), (.int (0 : Int32)), (.ref b601), (.ref b601)])) _
    refine XS.iload X601.here hx rfl (hb hby at_166) rfl ?_
    exact ht
  obtain ⟨_, _, ⟨T624, L624, k624, n624⟩, -, X624, Sq624, gr624, ⟨Lc624, hQ624, l624, y624, z624, CH624⟩, st624⟩ := callSS X601 hx (y := (⟨"com/example/greylag/greylag/model/BundleEqualsPinLaw", "str", "(ICC)Ljava/lang/String;"⟩ : MethodName)) hown (mvT hZ (hw _ (List.mem_of_getElem? (i := 3) rfl))) (mvT hZ (hw _ (List.mem_of_getElem? (i := 4) rfl))) (mvT hZ (hw _ (List.mem_of_getElem? (i := 5) rfl))) (mvT hZ (hw _ (List.mem_of_getElem? (i := 6) rfl))) (by decide) (backOfSH (s := s) (vm0 := s.vm) (W := 2) (rmSt0 l Z _ hw [] cB0 cB1 b601 h601 n0 Z619 A601) hZ (hw _ (List.mem_of_getElem? (i := 6) rfl)) (hw _ (List.mem_of_getElem? (i := 5) rfl)) (by decide) (by decide) hEL hR608.1) (g := (mkF m 168 #[.val (.int p0), .val (.int p1), .val (.long q2), .second, .val (.long q3), .second, .val (.long q4), .second, .val (.int p5), .val (.int (1 : Int32)), .val (.int cA0), .val (.int cA1), .val (.int i12), .val (.int (0 : Int32)), .val (.int cB0), .val (.int cB1), .val (.long j16), .second, .val (.long j18), .second, .val (.int i20), .val (.ref b558), .unset, .unset, .unset, .unset] [(.int cB1), (.int cB0), (.int (0 : Int32)), (.ref b601), (.ref b601)])) rfl (by rw [hml]; rfl) (argsL := [(.int (0 : Int32)), (.int cB0), (.int cB1)]) (rest := [(.ref b601), (.ref b601)]) (lenOf pd_9 rfl) rfl (by show 2 * 0 + _ ≤ _; exact Nat.le_of_eq rfl) (hb hby at_168) (fun _ _ => ⟨rfl, e601, (by decide : 5 + 6 ≤ _), (by decide : 12 + 12 ≤ _)⟩)
  dsimp only [Pt.U, Pt.locs, Pt.cells, Pt.slots] at X624 l624 y624 z624 st624 hQ624 Sq624 gr624 CH624
  subst l624 y624 z624
  have hZ624 : Z.Warmed39 (s.setVm T624.vm).vm := State.Warmed39.trans (t := s.setVm s.vm) hZ Sq624.1
  have hown624 : (s.setVm T624.vm).vm.findClass "com/example/greylag/greylag/model/BundleEqualsPinLaw" = some m.cls := by rw [show (s.setVm T624.vm).vm = T624.vm from rfl, Sq624.1.alike.findClass]; exact hown
  have S624 : s.Since T624.vm T624.heap.size := State.Since.trans (s := s) (vm₁ := s.vm) ((State.WarmedH.refl s).since h601.size) Sq624 (Nat.le_trans (Nat.le_refl _) (by rw [← e601]; exact gr624))
  obtain ⟨rfl, Nq624, Kq624, Es624, t624, kb624, f624a, f624b, f624c, nt624⟩ := hQ624
  have N625 := Fr.app N589 Nq624
  obtain ⟨b624, gq624⟩ : ∃ z, z = h601.size := ⟨_, rfl⟩
  rw [← gq624] at Es624 f624a f624b st624
  have g626 : n0 ≤ b624 := (Nat.le_trans Z619 (Nat.le_of_eq gq624.symm))
  have sz627 : h0.size ≤ b624 := (Nat.le_trans K620.1 (Nat.le_of_eq gq624.symm))
  have ne628 : b558 ≠ b624 := (Nat.ne_of_lt (Nat.lt_of_lt_of_le f611.lt (Nat.le_of_eq gq624.symm)))
  have ne629 : b570 ≠ b624 := (Nat.ne_of_lt (Nat.lt_of_lt_of_le f612.lt (Nat.le_of_eq gq624.symm)))
  have ne630 : t570 ≠ b624 := (Nat.ne_of_lt (Nat.lt_of_lt_of_le f615.lt (Nat.le_of_eq gq624.symm)))
  have ne631 : b601 ≠ b624 := (Nat.ne_of_lt (Nat.lt_of_lt_of_le A601.lt (Nat.le_of_eq gq624.symm)))
  have hA632 := CH624
  have hR633 := hR608.trans hA632
  have f634 := (own_staKeep f609 Kq624 own_sn0)
  have f635 := (own_staKeep f610 Kq624 own_sn0)
  have f636 := (f611.keep Kq624)
  have f637 := (f612.keep Kq624)
  have f638 := (f613.keep Kq624 nin0)
  have f639 := (f614.keep Kq624 nin0)
  have f640 := (f615.keep Kq624 nin0)
  have f641 := (f616.keep Kq624 nin0)
  have f642 := (f617.keep Kq624 nin0)
  have f643 := (f618.keep Kq624 nin0)
  have f644 := (A601.keep Kq624)
  have f645 := (f621.keep Kq624 nin0)
  have f646 := (f622.keep Kq624 nin0)
  have f647 := (f623.keep Kq624 nin0)
  have Z648 : n0 ≤ T624.heap.size := (Nat.le_trans Z619 Kq624.1)
  have K649 : Keep h0 T624.heap [] := (K620.trans Kq624 all0)
  refine OFin.to (S' := T624.setTop (mkF m 171 #[.val (.int p0), .val (.int p1), .val (.long q2), .second, .val (.long q3), .second, .val (.long q4), .second, .val (.int p5), .val (.int (1 : Int32)), .val (.int cA0), .val (.int cA1), .val (.int i12), .val (.int (0 : Int32)), .val (.int cB0), .val (.int cB1), .val (.long j16), .second, .val (.long j18), .second, .val (.int i20), .val (.ref b558), .unset, .unset, .unset, .unset] [(.ref b624), (.ref b601), (.ref b601)])) st624 ?_
  refine OFin.of (S' := T624.setTop (mkF m 175 #[.val (.int p0), .val (.int p1), .val (.long q2), .second, .val (.long q3), .second, .val (.long q4), .second, .val (.int p5), .val (.int (1 : Int32)), .val (.int cA0), .val (.int cA1), .val (.int i12), .val (.int (0 : Int32)), .val (.int cB0), .val (.int cB1), .val (.long j16), .second, .val (.long j18), .second, .val (.int i20), .val (.ref b558), .unset, .unset, .unset, .unset] [(.long j18), (.long j16), (.ref b624), (.ref b601), (.ref b601)])) (fun t ht => ?_) ?_
  · refine XS.lload X624.here hx rfl (hb hby at_171) rfl ?_
    show Steps p.tables e below (T624.setTop (mkF m 173 _ [(.long j16), (.ref b624), (.ref b601), (.ref b601)])) _
    refine XS.lload X624.here hx rfl (hb hby at_173) rfl ?_
    exact ht
  obtain ⟨_, _, ⟨T650, L650, k650, n650⟩, -, X650, ⟨Lc650, hQ650, l650, y650, z650⟩, st650⟩ := X624.specialBack hx (y := (⟨"com/example/greylag/greylag/model/Bundle", "<init>", "(Ljava/lang/String;JJ)V"⟩ : MethodName)) rfl hown624 (mvT hZ624 (hw _ (List.mem_of_getElem? (i := 29) rfl))) (mvT hZ624 (hw _ (List.mem_of_getElem? (i := 30) rfl))) (mvT hZ624 (hw _ (List.mem_of_getElem? (i := 31) rfl))) (by decide) (backOf (W := 1) (rmIni l Z _ hw [] b601 b624 j16 j18 T624.heap n0 Z648 f644 f645 f646 f647 g602) hZ624 (hw _ (List.mem_of_getElem? (i := 31) rfl)) (hw _ (List.mem_of_getElem? (i := 2) rfl)) (by decide) (by decide)) (g := (mkF m 175 #[.val (.int p0), .val (.int p1), .val (.long q2), .second, .val (.long q3), .second, .val (.long q4), .second, .val (.int p5), .val (.int (1 : Int32)), .val (.int cA0), .val (.int cA1), .val (.int i12), .val (.int (0 : Int32)), .val (.int cB0), .val (.int cB1), .val (.long j16), .second, .val (.long j18), .second, .val (.int i20), .val (.ref b558), .unset, .unset, .unset, .unset] [(.long j18), (.long j16), (.ref b624), (.ref b601), (.ref b601)])) rfl (by rw [hml]; rfl) (Steps.refl _) (a := b601) (argsL := [(.ref b624), (.long j16), (.long j18)]) (rest := [(.ref b601)]) (lenOf pd_10 rfl) rfl (by show 2 * 0 + _ ≤ _; exact Nat.le_of_eq rfl) (hb hby at_175) (fun _ _ => ⟨rfl, (rfl : T624.heap = T624.heap), (by decide : 11 + 0 ≤ _), (by decide : 24 + 0 ≤ _)⟩)
  dsimp only [Pt.U, Pt.locs, Pt.cells, Pt.slots] at X650 l650 y650 z650 st650 hQ650
  subst l650 y650 z650
  obtain ⟨rfl, Nq650, Kq650, f651, f652, f653⟩ := hQ650
  have N654 := Fr.app N625 Nq650
  have hA655 := CHr.keep Kq650 (sfS (Safe.exa hZ624.alike f644 (by decide) (by decide)) sf0) hR633.1
  have hR656 := hR633.trans hA655
  have f657 := (own_staKeep f634 Kq650 (own_snS f644 own_sn0))
  have f658 := (own_staKeep f635 Kq650 (own_snS f644 own_sn0))
  have f659 := (f636.keep Kq650)
  have f660 := (f637.keep Kq650)
  have f661 := (f638.keep Kq650 (ninS ne605 nin0))
  have f662 := (f639.keep Kq650 (ninS ne605 nin0))
  have f663 := (f640.keep Kq650 (ninS ne606 nin0))
  have f664 := (f641.keep Kq650 (ninS ne604 nin0))
  have f665 := (f642.keep Kq650 (ninS ne604 nin0))
  have f666 := (f643.keep Kq650 (ninS ne604 nin0))
  have f667 := (f644.keep Kq650)
  have f668 := (Es624.keep Kq650)
  have f669 := (f624a.keep Kq650 (ninS (Ne.symm ne631) nin0))
  have f670 := (f624b.keep Kq650 (ninS (Ne.symm ne631) nin0))
  have f671 := (f624c.keep Kq650 (ninS (Ne.symm nt624) nin0))
  have Z672 : n0 ≤ T650.heap.size := (Nat.le_trans Z648 Kq650.1)
  have K673 : Keep h0 T650.heap [] := (K649.trans Kq650 (allS (Or.inr sz603) all0))
  have kk674 : T624.heap.size ≤ T650.heap.size := (Nat.le_trans (Nat.le_refl _) Kq650.1)
  refine OFin.to (S' := T650.setTop (mkF m 178 #[.val (.int p0), .val (.int p1), .val (.long q2), .second, .val (.long q3), .second, .val (.long q4), .second, .val (.int p5), .val (.int (1 : Int32)), .val (.int cA0), .val (.int cA1), .val (.int i12), .val (.int (0 : Int32)), .val (.int cB0), .val (.int cB1), .val (.long j16), .second, .val (.long j18), .second, .val (.int i20), .val (.ref b558), .unset, .unset, .unset, .unset] [(.ref b601)])) st650 ?_
  refine OFin.of (S' := T650.setTop (mkF m 181 #[.val (.int p0), .val (.int p1), .val (.long q2), .second, .val (.long q3), .second, .val (.long q4), .second, .val (.int p5), .val (.int (1 : Int32)), .val (.int cA0), .val (.int cA1), .val (.int i12), .val (.int (0 : Int32)), .val (.int cB0), .val (.int cB1), .val (.long j16), .second, .val (.long j18), .second, .val (.int i20), .val (.ref b558), .val (.ref b601), .unset, .unset, .unset] [(.long q2)])) (fun t ht => ?_) ?_
  · refine XS.astore X650.here hx rfl (hb hby at_178) rfl rfl (l' := #[.val (.int p0), .val (.int p1), .val (.long q2), .second, .val (.long q3), .second, .val (.long q4), .second, .val (.int p5), .val (.int (1 : Int32)), .val (.int cA0), .val (.int cA1), .val (.int i12), .val (.int (0 : Int32)), .val (.int cB0), .val (.int cB1), .val (.long j16), .second, .val (.long j18), .second, .val (.int i20), .val (.ref b558), .val (.ref b601), .unset, .unset, .unset]) rfl ?_
    show Steps p.tables e below (T650.setTop (mkF m 180 #[.val (.int p0), .val (.int p1), .val (.long q2), .second, .val (.long q3), .second, .val (.long q4), .second, .val (.int p5), .val (.int (1 : Int32)), .val (.int cA0), .val (.int cA1), .val (.int i12), .val (.int (0 : Int32)), .val (.int cB0), .val (.int cB1), .val (.long j16), .second, .val (.long j18), .second, .val (.int i20), .val (.ref b558), .val (.ref b601), .unset, .unset, .unset] [])) _
    refine XS.lloadN X650.here hx rfl (hb hby at_180) rfl ?_
    exact ht
  obtain ⟨_, _, ⟨T675, L675, k675, n675⟩, -, X675, ⟨Lc675, hQ675, l675, y675, z675⟩, st675⟩ := Jvm.LawKit.callS X650 hx (y := (⟨"java/lang/Long", "valueOf", "(J)Ljava/lang/Long;"⟩ : MethodName)) hown624 (mvT hZ624 (hw _ (List.mem_of_getElem? (i := 39) rfl))) (mvT hZ624 (hw _ (List.mem_of_getElem? (i := 40) rfl))) (mvT hZ624 (hw _ (List.mem_of_getElem? (i := 41) rfl))) (mvT hZ624 (hw _ (List.mem_of_getElem? (i := 42) rfl))) (by decide) (backOf (W := 0) (rmVo l Z _ hw [] q2 ac T650.heap n0 Z672 f658 (hLC.keep K673)) hZ624 (hw _ (List.mem_of_getElem? (i := 42) rfl)) (hw _ (List.mem_of_getElem? (i := 41) rfl)) (by decide) (by decide)) (g := (mkF m 181 #[.val (.int p0), .val (.int p1), .val (.long q2), .second, .val (.long q3), .second, .val (.long q4), .second, .val (.int p5), .val (.int (1 : Int32)), .val (.int cA0), .val (.int cA1), .val (.int i12), .val (.int (0 : Int32)), .val (.int cB0), .val (.int cB1), .val (.long j16), .second, .val (.long j18), .second, .val (.int i20), .val (.ref b558), .val (.ref b601), .unset, .unset, .unset] [(.long q2)])) rfl (by rw [hml]; rfl) (argsL := [(.long q2)]) (rest := []) (lenOf pd_11 rfl) rfl (by show 2 * 0 + _ ≤ _; exact Nat.le_of_eq rfl) (hb hby at_181) (fun _ _ => ⟨rfl, (rfl : T650.heap = T650.heap), (by decide : 11 + 1 ≤ _), (by decide : 24 + 1 ≤ _)⟩)
  dsimp only [Pt.U, Pt.locs, Pt.cells, Pt.slots] at X675 l675 y675 z675 st675 hQ675
  subst l675 y675 z675
  obtain ⟨r675, rfl, Nq675, Kq675, Er675⟩ := hQ675
  have N676 := Fr.app N654 Nq675
  have f677 := (own_staKeep f657 Kq675 own_sn0)
  have f678 := (own_staKeep f658 Kq675 own_sn0)
  have f679 := (f659.keep Kq675)
  have f680 := (f660.keep Kq675)
  have f681 := (f661.keep Kq675 nin0)
  have f682 := (f662.keep Kq675 nin0)
  have f683 := (f663.keep Kq675 nin0)
  have f684 := (f664.keep Kq675 nin0)
  have f685 := (f665.keep Kq675 nin0)
  have f686 := (f666.keep Kq675 nin0)
  have f687 := (f667.keep Kq675)
  have f688 := (f668.keep Kq675)
  have f689 := (f669.keep Kq675 nin0)
  have f690 := (f670.keep Kq675 nin0)
  have f691 := (f671.keep Kq675 nin0)
  have f692 := (f651.keep Kq675 nin0)
  have f693 := (f652.keep Kq675 nin0)
  have f694 := (f653.keep Kq675 nin0)
  have Z695 : n0 ≤ T675.heap.size := (Nat.le_trans Z672 Kq675.1)
  have K696 : Keep h0 T675.heap [] := (K673.trans Kq675 all0)
  have kk697 : T624.heap.size ≤ T675.heap.size := (Nat.le_trans kk674 Kq675.1)
  refine OFin.of (S' := T675.setTop (mkF m 184 #[.val (.int p0), .val (.int p1), .val (.long q2), .second, .val (.long q3), .second, .val (.long q4), .second, .val (.int p5), .val (.int (1 : Int32)), .val (.int cA0), .val (.int cA1), .val (.int i12), .val (.int (0 : Int32)), .val (.int cB0), .val (.int cB1), .val (.long j16), .second, .val (.long j18), .second, .val (.int i20), .val (.ref b558), .val (.ref b601), .unset, .unset, .unset] [(.ref r675)])) (fun t ht => st675 t ht) ?_
  refine OFin.of (S' := T675.setTop (mkF m 186 #[.val (.int p0), .val (.int p1), .val (.long q2), .second, .val (.long q3), .second, .val (.long q4), .second, .val (.int p5), .val (.int (1 : Int32)), .val (.int cA0), .val (.int cA1), .val (.int i12), .val (.int (0 : Int32)), .val (.int cB0), .val (.int cB1), .val (.long j16), .second, .val (.long j18), .second, .val (.int i20), .val (.ref b558), .val (.ref b601), .val (.ref r675), .unset, .unset] [])) (fun t ht => ?_) ?_
  · refine XS.astore X675.here hx rfl (hb hby at_184) rfl rfl (l' := #[.val (.int p0), .val (.int p1), .val (.long q2), .second, .val (.long q3), .second, .val (.long q4), .second, .val (.int p5), .val (.int (1 : Int32)), .val (.int cA0), .val (.int cA1), .val (.int i12), .val (.int (0 : Int32)), .val (.int cB0), .val (.int cB1), .val (.long j16), .second, .val (.long j18), .second, .val (.int i20), .val (.ref b558), .val (.ref b601), .val (.ref r675), .unset, .unset]) rfl ?_
    exact ht
  exact segT (s := s) (vm1 := T624.vm) Z _ hw hx hby hlk hret hml hown624 hZ624 n0 p0 p1 q2 q3 q4 p5 (1 : Int32) cA0 cA1 i12 (0 : Int32) cB0 cB1 j16 j18 i20 b558 b601 r675 b570 b624 (0 : Int32) (0 : Int32) (X675.more (by decide) (by decide)) (rfl : T675.heap = T675.heap) Z695 N676 f679 f687 f680 f688 Er675 f684 f685 f686 f692 f693 f694 (rmEqG l Z _ hw [] b570 b624 t570 t624 cs (0 : Int32) T675.heap n0 Z695 f688 f681 f689 f682 f690 f677 hcs ne629 (Or.inl rfl) (rmLeN l Z _ hw [] t570 t624 kb570 kb624 _ _ _ _ T675.heap n0 Z695 f683 f691 (by decide))) (rmEqG l Z _ hw [] b624 b570 t624 t570 cs (0 : Int32) T675.heap n0 Z695 f680 f689 f681 f690 f682 f677 hcs (Ne.symm ne629) (Or.inl rfl) (rmLeN l Z _ hw [] t624 t570 kb624 kb570 _ _ _ _ T675.heap n0 Z695 f691 f683 (by decide))) (own_ez (by decide)) (own_ez (by decide)) S624 kk697 hQ
set_option maxRecDepth 65536 in
set_option maxHeartbeats 40000000 in
theorem seg11 {p : Program} {l : Launch} {e : Env} {s : State} {m : MethodId} {args : Array Value} {below : List Frame} {meth : Method} {c : Code} (Z : State) (a0 : Array Value) (hw : ∀ d ∈ tables_1, d.before a0 Z = true) (hx : p.tables.exec = Jvm.exec) (hby : c.code = code) (hlk : meth.locks = false) (hret : meth.sig.returnType = some .boolean) (hml : c.maxLocals = 26) (hown : s.vm.findClass "com/example/greylag/greylag/model/BundleEqualsPinLaw" = some m.cls) (hZ : Z.Warmed39 s.vm) {Q : Option Value → Heap → List Loc → Prop} (n0 : Nat) (p0 : Int32) (p1 : Int32) (q2 : Int64) (q3 : Int64) (q4 : Int64) (p5 : Int32) (cA0 : Int32) (cA1 : Int32) (i12 : Int32) (cB0 : Int32) (cB1 : Int32) (j16 : Int64) (j18 : Int64) (i20 : Int32) (cs : Int32) (ac : Addr) {T0 : State} {locs : List Loc} {h0 : Heap} (X0 : Stand p l e room_1 s m args below meth c T0 locs 0 0) (e0 : T0.heap = h0) (Z0 : n0 ≤ h0.size) (N0 : Fr n0 locs) (fa0 : Sta Z h0 "java/lang/String" "COMPACT_STRINGS" "Z" (.int cs)) (fa1 : Sta Z h0 "java/lang/Long$LongCache" "cache" "[Ljava/lang/Long;" (.ref ac)) (hcs : ¬ cs = (0 : Int32)) (hLC : OwnLC Z h0 ac) (okA0 : OwnOk cA0) (okA1 : OwnOk cA1) (okB0 : OwnOk cB0) (okB1 : OwnOk cB1) (hC0 : CHv Z consts_1 s.vm h0) (hQ : ∀ (h' : Heap) (L : List Loc), Fr n0 L → Q (some (.int (1 : Int32))) h' L) :
    OFin p e below (KPostW s Q room_1.cells room_1.slots) (T0.setTop (mkF m 137 #[.val (.int p0), .val (.int p1), .val (.long q2), .second, .val (.long q3), .second, .val (.long q4), .second, .val (.int p5), .val (.int (1 : Int32)), .val (.int cA0), .val (.int cA1), .val (.int i12), .val (.int (1 : Int32)), .val (.int cB0), .val (.int cB1), .val (.long j16), .second, .val (.long j18), .second, .val (.int i20), .unset, .unset, .unset, .unset, .unset] [])) := by
  have K0 : Keep h0 h0 [] := Keep.refl _ _
  have hR0 : CHr Z consts_1 s.vm h0 s.vm h0 := CHr.refl hC0
  have hEL := own_EW hw
  obtain ⟨T698, h698, X698, e698, E698, A698, D698, -, st698⟩ := newO X0 hx hZ hown (hw _ (List.mem_of_getElem? (i := 0) rfl)) (hw _ (List.mem_of_getElem? (i := 1) rfl)) (hw _ (List.mem_of_getElem? (i := 2) rfl)) e0 (g := (mkF m 137 #[.val (.int p0), .val (.int p1), .val (.long q2), .second, .val (.long q3), .second, .val (.long q4), .second, .val (.int p5), .val (.int (1 : Int32)), .val (.int cA0), .val (.int cA1), .val (.int i12), .val (.int (1 : Int32)), .val (.int cB0), .val (.int cB1), .val (.long j16), .second, .val (.long j18), .second, .val (.int i20), .unset, .unset, .unset, .unset, .unset] [])) rfl (hb hby at_137) (by decide) (by decide)
  obtain ⟨b698, gq698⟩ : ∃ z, z = h0.size := ⟨_, rfl⟩
  rw [← gq698] at A698 D698 st698
  have g699 : n0 ≤ b698 := (Nat.le_trans Z0 (Nat.le_of_eq gq698.symm))
  have sz700 : h0.size ≤ b698 := (Nat.le_trans K0.1 (Nat.le_of_eq gq698.symm))
  have hA701 := CHr.ext E698 hR0.1
  have hR702 := hR0.trans hA701
  have f703 := fa0.ext E698
  have f704 := fa1.ext E698
  have Z705 : n0 ≤ h698.size := (Nat.le_trans Z0 E698.1)
  have K706 : Keep h0 h698 [] := (K0.ext E698)
  have f707 : Fld Z h698 b698 "com/example/greylag/greylag/model/Bundle" "namespace" "Ljava/lang/String;" .null := D698 (Or.inr (hw _ (List.mem_of_getElem? (i := 34) rfl))) (ty := (.object "java/lang/String")) (by decide)
  have f708 : Fld Z h698 b698 "com/example/greylag/greylag/model/Bundle" "lower" "J" (.long (0 : Int64)) := D698 (Or.inr (hw _ (List.mem_of_getElem? (i := 36) rfl))) (ty := .long) (by decide)
  have f709 : Fld Z h698 b698 "com/example/greylag/greylag/model/Bundle" "upper" "J" (.long (0 : Int64)) := D698 (Or.inr (hw _ (List.mem_of_getElem? (i := 38) rfl))) (ty := .long) (by decide)
  refine OFin.of (S' := T698.setTop (mkF m 140 #[.val (.int p0), .val (.int p1), .val (.long q2), .second, .val (.long q3), .second, .val (.long q4), .second, .val (.int p5), .val (.int (1 : Int32)), .val (.int cA0), .val (.int cA1), .val (.int i12), .val (.int (1 : Int32)), .val (.int cB0), .val (.int cB1), .val (.long j16), .second, .val (.long j18), .second, .val (.int i20), .unset, .unset, .unset, .unset, .unset] [(.ref b698)])) (fun t ht => st698 t ht) ?_
  refine OFin.of (S' := T698.setTop (mkF m 147 #[.val (.int p0), .val (.int p1), .val (.long q2), .second, .val (.long q3), .second, .val (.long q4), .second, .val (.int p5), .val (.int (1 : Int32)), .val (.int cA0), .val (.int cA1), .val (.int i12), .val (.int (1 : Int32)), .val (.int cB0), .val (.int cB1), .val (.long j16), .second, .val (.long j18), .second, .val (.int i20), .unset, .unset, .unset, .unset, .unset] [(.int cA1), (.int cA0), (.int (1 : Int32)), (.ref b698), (.ref b698)])) (fun t ht => ?_) ?_
  · refine XS.dup X698.here hx rfl (hb hby at_140) rfl rfl ?_
    show Steps p.tables e below (T698.setTop (mkF m 141 _ [(.ref b698), (.ref b698)])) _
    refine XS.iload X698.here hx rfl (hb hby at_141) rfl ?_
    show Steps p.tables e below (T698.setTop (mkF m 143 _ [(.int (1 : Int32)), (.ref b698), (.ref b698)])) _
    refine XS.iload X698.here hx rfl (hb hby at_143) rfl ?_
    show Steps p.tables e below (T698.setTop (mkF m 145 _ [(.int cA0), (.int (1 : Int32)), (.ref b698), (.ref b698)])) _
    refine XS.iload X698.here hx rfl (hb hby at_145) rfl ?_
    exact ht
  obtain ⟨_, _, ⟨T710, L710, k710, n710⟩, -, X710, ⟨Lc710, hQ710, l710, y710, z710⟩, st710⟩ := Jvm.LawKit.callS X698 hx (y := (⟨"com/example/greylag/greylag/model/BundleEqualsPinLaw", "str", "(ICC)Ljava/lang/String;"⟩ : MethodName)) hown (mvT hZ (hw _ (List.mem_of_getElem? (i := 3) rfl))) (mvT hZ (hw _ (List.mem_of_getElem? (i := 4) rfl))) (mvT hZ (hw _ (List.mem_of_getElem? (i := 5) rfl))) (mvT hZ (hw _ (List.mem_of_getElem? (i := 6) rfl))) (by decide) (backOf (W := 2) (rmSt1 l Z _ hw [] cA0 cA1 b698 cs h698 n0 Z705 A698 f703 hcs (own_hpc okA0)) hZ (hw _ (List.mem_of_getElem? (i := 6) rfl)) (hw _ (List.mem_of_getElem? (i := 5) rfl)) (by decide) (by decide)) (g := (mkF m 147 #[.val (.int p0), .val (.int p1), .val (.long q2), .second, .val (.long q3), .second, .val (.long q4), .second, .val (.int p5), .val (.int (1 : Int32)), .val (.int cA0), .val (.int cA1), .val (.int i12), .val (.int (1 : Int32)), .val (.int cB0), .val (.int cB1), .val (.long j16), .second, .val (.long j18), .second, .val (.int i20), .unset, .unset, .unset, .unset, .unset] [(.int cA1), (.int cA0), (.int (1 : Int32)), (.ref b698), (.ref b698)])) rfl (by rw [hml]; rfl) (argsL := [(.int (1 : Int32)), (.int cA0), (.int cA1)]) (rest := [(.ref b698), (.ref b698)]) (lenOf pd_9 rfl) rfl (by show 2 * 0 + _ ≤ _; exact Nat.le_of_eq rfl) (hb hby at_147) (fun _ _ => ⟨rfl, e698, (by decide : 1 + 3 ≤ _), (by decide : 3 + 6 ≤ _)⟩)
  dsimp only [Pt.U, Pt.locs, Pt.cells, Pt.slots] at X710 l710 y710 z710 st710 hQ710
  subst l710 y710 z710
  obtain ⟨rfl, Nq710, Kq710, Es710, t710, kb710, f710a, f710b, f710c, nt710⟩ := hQ710
  have N711 := Fr.app N0 Nq710
  obtain ⟨b710, gq710⟩ : ∃ z, z = h698.size := ⟨_, rfl⟩
  rw [← gq710] at Es710 f710a f710b st710
  have g712 : n0 ≤ b710 := (Nat.le_trans Z705 (Nat.le_of_eq gq710.symm))
  have sz713 : h0.size ≤ b710 := (Nat.le_trans K706.1 (Nat.le_of_eq gq710.symm))
  have ne714 : b698 ≠ b710 := (Nat.ne_of_lt (Nat.lt_of_lt_of_le A698.lt (Nat.le_of_eq gq710.symm)))
  have hA715 := CHr.keep Kq710 sf0 hR702.1
  have hR716 := hR702.trans hA715
  have f717 := (own_staKeep f703 Kq710 own_sn0)
  have f718 := (own_staKeep f704 Kq710 own_sn0)
  have f719 := (A698.keep Kq710)
  have f720 := (f707.keep Kq710 nin0)
  have f721 := (f708.keep Kq710 nin0)
  have f722 := (f709.keep Kq710 nin0)
  have Z723 : n0 ≤ T710.heap.size := (Nat.le_trans Z705 Kq710.1)
  have K724 : Keep h0 T710.heap [] := (K706.trans Kq710 all0)
  refine OFin.of (S' := T710.setTop (mkF m 150 #[.val (.int p0), .val (.int p1), .val (.long q2), .second, .val (.long q3), .second, .val (.long q4), .second, .val (.int p5), .val (.int (1 : Int32)), .val (.int cA0), .val (.int cA1), .val (.int i12), .val (.int (1 : Int32)), .val (.int cB0), .val (.int cB1), .val (.long j16), .second, .val (.long j18), .second, .val (.int i20), .unset, .unset, .unset, .unset, .unset] [(.ref b710), (.ref b698), (.ref b698)])) (fun t ht => st710 t ht) ?_
  refine OFin.of (S' := T710.setTop (mkF m 153 #[.val (.int p0), .val (.int p1), .val (.long q2), .second, .val (.long q3), .second, .val (.long q4), .second, .val (.int p5), .val (.int (1 : Int32)), .val (.int cA0), .val (.int cA1), .val (.int i12), .val (.int (1 : Int32)), .val (.int cB0), .val (.int cB1), .val (.long j16), .second, .val (.long j18), .second, .val (.int i20), .unset, .unset, .unset, .unset, .unset] [(.long q3), (.long q2), (.ref b710), (.ref b698), (.ref b698)])) (fun t ht => ?_) ?_
  · refine XS.lloadN X710.here hx rfl (hb hby at_150) rfl ?_
    show Steps p.tables e below (T710.setTop (mkF m 151 _ [(.long q2), (.ref b710), (.ref b698), (.ref b698)])) _
    refine XS.lload X710.here hx rfl (hb hby at_151) rfl ?_
    exact ht
  obtain ⟨_, _, ⟨T725, L725, k725, n725⟩, -, X725, ⟨Lc725, hQ725, l725, y725, z725⟩, st725⟩ := X710.specialBack hx (y := (⟨"com/example/greylag/greylag/model/Bundle", "<init>", "(Ljava/lang/String;JJ)V"⟩ : MethodName)) rfl hown (mvT hZ (hw _ (List.mem_of_getElem? (i := 29) rfl))) (mvT hZ (hw _ (List.mem_of_getElem? (i := 30) rfl))) (mvT hZ (hw _ (List.mem_of_getElem? (i := 31) rfl))) (by decide) (backOf (W := 1) (rmIni l Z _ hw [] b698 b710 q2 q3 T710.heap n0 Z723 f719 f720 f721 f722 g699) hZ (hw _ (List.mem_of_getElem? (i := 31) rfl)) (hw _ (List.mem_of_getElem? (i := 2) rfl)) (by decide) (by decide)) (g := (mkF m 153 #[.val (.int p0), .val (.int p1), .val (.long q2), .second, .val (.long q3), .second, .val (.long q4), .second, .val (.int p5), .val (.int (1 : Int32)), .val (.int cA0), .val (.int cA1), .val (.int i12), .val (.int (1 : Int32)), .val (.int cB0), .val (.int cB1), .val (.long j16), .second, .val (.long j18), .second, .val (.int i20), .unset, .unset, .unset, .unset, .unset] [(.long q3), (.long q2), (.ref b710), (.ref b698), (.ref b698)])) rfl (by rw [hml]; rfl) (Steps.refl _) (a := b698) (argsL := [(.ref b710), (.long q2), (.long q3)]) (rest := [(.ref b698)]) (lenOf pd_10 rfl) rfl (by show 2 * 0 + _ ≤ _; exact Nat.le_of_eq rfl) (hb hby at_153) (fun _ _ => ⟨rfl, (rfl : T710.heap = T710.heap), (by decide : 4 + 0 ≤ _), (by decide : 9 + 0 ≤ _)⟩)
  dsimp only [Pt.U, Pt.locs, Pt.cells, Pt.slots] at X725 l725 y725 z725 st725 hQ725
  subst l725 y725 z725
  obtain ⟨rfl, Nq725, Kq725, f726, f727, f728⟩ := hQ725
  have N729 := Fr.app N711 Nq725
  have hA730 := CHr.keep Kq725 (sfS (Safe.exa hZ.alike f719 (by decide) (by decide)) sf0) hR716.1
  have hR731 := hR716.trans hA730
  have f732 := (own_staKeep f717 Kq725 (own_snS f719 own_sn0))
  have f733 := (own_staKeep f718 Kq725 (own_snS f719 own_sn0))
  have f734 := (f719.keep Kq725)
  have f735 := (Es710.keep Kq725)
  have f736 := (f710a.keep Kq725 (ninS (Ne.symm ne714) nin0))
  have f737 := (f710b.keep Kq725 (ninS (Ne.symm ne714) nin0))
  have f738 := (f710c.keep Kq725 (ninS (Ne.symm nt710) nin0))
  have Z739 : n0 ≤ T725.heap.size := (Nat.le_trans Z723 Kq725.1)
  have K740 : Keep h0 T725.heap [] := (K724.trans Kq725 (allS (Or.inr sz700) all0))
  refine OFin.to (S' := T725.setTop (mkF m 156 #[.val (.int p0), .val (.int p1), .val (.long q2), .second, .val (.long q3), .second, .val (.long q4), .second, .val (.int p5), .val (.int (1 : Int32)), .val (.int cA0), .val (.int cA1), .val (.int i12), .val (.int (1 : Int32)), .val (.int cB0), .val (.int cB1), .val (.long j16), .second, .val (.long j18), .second, .val (.int i20), .unset, .unset, .unset, .unset, .unset] [(.ref b698)])) st725 ?_
  refine OFin.of (S' := T725.setTop (mkF m 158 #[.val (.int p0), .val (.int p1), .val (.long q2), .second, .val (.long q3), .second, .val (.long q4), .second, .val (.int p5), .val (.int (1 : Int32)), .val (.int cA0), .val (.int cA1), .val (.int i12), .val (.int (1 : Int32)), .val (.int cB0), .val (.int cB1), .val (.long j16), .second, .val (.long j18), .second, .val (.int i20), .val (.ref b698), .unset, .unset, .unset, .unset] [])) (fun t ht => ?_) ?_
  · refine XS.astore X725.here hx rfl (hb hby at_156) rfl rfl (l' := #[.val (.int p0), .val (.int p1), .val (.long q2), .second, .val (.long q3), .second, .val (.long q4), .second, .val (.int p5), .val (.int (1 : Int32)), .val (.int cA0), .val (.int cA1), .val (.int i12), .val (.int (1 : Int32)), .val (.int cB0), .val (.int cB1), .val (.long j16), .second, .val (.long j18), .second, .val (.int i20), .val (.ref b698), .unset, .unset, .unset, .unset]) rfl ?_
    exact ht
  obtain ⟨T741, h741, X741, e741, E741, A741, D741, -, st741⟩ := newO X725 hx hZ hown (hw _ (List.mem_of_getElem? (i := 0) rfl)) (hw _ (List.mem_of_getElem? (i := 1) rfl)) (hw _ (List.mem_of_getElem? (i := 2) rfl)) (rfl : T725.heap = T725.heap) (g := (mkF m 158 #[.val (.int p0), .val (.int p1), .val (.long q2), .second, .val (.long q3), .second, .val (.long q4), .second, .val (.int p5), .val (.int (1 : Int32)), .val (.int cA0), .val (.int cA1), .val (.int i12), .val (.int (1 : Int32)), .val (.int cB0), .val (.int cB1), .val (.long j16), .second, .val (.long j18), .second, .val (.int i20), .val (.ref b698), .unset, .unset, .unset, .unset] [])) rfl (hb hby at_158) (by decide) (by decide)
  obtain ⟨b741, gq741⟩ : ∃ z, z = T725.heap.size := ⟨_, rfl⟩
  rw [← gq741] at A741 D741 st741
  have g742 : n0 ≤ b741 := (Nat.le_trans Z739 (Nat.le_of_eq gq741.symm))
  have sz743 : h0.size ≤ b741 := (Nat.le_trans K740.1 (Nat.le_of_eq gq741.symm))
  have ne744 : b698 ≠ b741 := (Nat.ne_of_lt (Nat.lt_of_lt_of_le f734.lt (Nat.le_of_eq gq741.symm)))
  have ne745 : b710 ≠ b741 := (Nat.ne_of_lt (Nat.lt_of_lt_of_le f735.lt (Nat.le_of_eq gq741.symm)))
  have ne746 : t710 ≠ b741 := (Nat.ne_of_lt (Nat.lt_of_lt_of_le f738.lt (Nat.le_of_eq gq741.symm)))
  have hA747 := CHr.ext E741 hR731.1
  have hR748 := hR731.trans hA747
  have f749 := f732.ext E741
  have f750 := f733.ext E741
  have f751 := f734.ext E741
  have f752 := f735.ext E741
  have f753 := f736.ext E741
  have f754 := f737.ext E741
  have f755 := f738.ext E741
  have f756 := f726.ext E741
  have f757 := f727.ext E741
  have f758 := f728.ext E741
  have Z759 : n0 ≤ h741.size := (Nat.le_trans Z739 E741.1)
  have K760 : Keep h0 h741 [] := (K740.ext E741)
  have f761 : Fld Z h741 b741 "com/example/greylag/greylag/model/Bundle" "namespace" "Ljava/lang/String;" .null := D741 (Or.inr (hw _ (List.mem_of_getElem? (i := 34) rfl))) (ty := (.object "java/lang/String")) (by decide)
  have f762 : Fld Z h741 b741 "com/example/greylag/greylag/model/Bundle" "lower" "J" (.long (0 : Int64)) := D741 (Or.inr (hw _ (List.mem_of_getElem? (i := 36) rfl))) (ty := .long) (by decide)
  have f763 : Fld Z h741 b741 "com/example/greylag/greylag/model/Bundle" "upper" "J" (.long (0 : Int64)) := D741 (Or.inr (hw _ (List.mem_of_getElem? (i := 38) rfl))) (ty := .long) (by decide)
  refine OFin.of (S' := T741.setTop (mkF m 161 #[.val (.int p0), .val (.int p1), .val (.long q2), .second, .val (.long q3), .second, .val (.long q4), .second, .val (.int p5), .val (.int (1 : Int32)), .val (.int cA0), .val (.int cA1), .val (.int i12), .val (.int (1 : Int32)), .val (.int cB0), .val (.int cB1), .val (.long j16), .second, .val (.long j18), .second, .val (.int i20), .val (.ref b698), .unset, .unset, .unset, .unset] [(.ref b741)])) (fun t ht => st741 t ht) ?_
  refine OFin.of (S' := T741.setTop (mkF m 168 #[.val (.int p0), .val (.int p1), .val (.long q2), .second, .val (.long q3), .second, .val (.long q4), .second, .val (.int p5), .val (.int (1 : Int32)), .val (.int cA0), .val (.int cA1), .val (.int i12), .val (.int (1 : Int32)), .val (.int cB0), .val (.int cB1), .val (.long j16), .second, .val (.long j18), .second, .val (.int i20), .val (.ref b698), .unset, .unset, .unset, .unset] [(.int cB1), (.int cB0), (.int (1 : Int32)), (.ref b741), (.ref b741)])) (fun t ht => ?_) ?_
  · refine XS.dup X741.here hx rfl (hb hby at_161) rfl rfl ?_
    show Steps p.tables e below (T741.setTop (mkF m 162 _ [(.ref b741), (.ref b741)])) _
    refine XS.iload X741.here hx rfl (hb hby at_162) rfl ?_
    show Steps p.tables e below (T741.setTop (mkF m 164 _ [(.int (1 : Int32)), (.ref b741), (.ref b741)])) _
    refine XS.iload X741.here hx rfl (hb hby at_164) rfl ?_
    show Steps p.tables e below (T741.setTop (mkF m 166 _ [(.int cB0), (.int (1 : Int32)), (.ref b741), (.ref b741)])) _
    refine XS.iload X741.here hx rfl (hb hby at_166) rfl ?_
    exact ht
  obtain ⟨_, _, ⟨T764, L764, k764, n764⟩, -, X764, ⟨Lc764, hQ764, l764, y764, z764⟩, st764⟩ := Jvm.LawKit.callS X741 hx (y := (⟨"com/example/greylag/greylag/model/BundleEqualsPinLaw", "str", "(ICC)Ljava/lang/String;"⟩ : MethodName)) hown (mvT hZ (hw _ (List.mem_of_getElem? (i := 3) rfl))) (mvT hZ (hw _ (List.mem_of_getElem? (i := 4) rfl))) (mvT hZ (hw _ (List.mem_of_getElem? (i := 5) rfl))) (mvT hZ (hw _ (List.mem_of_getElem? (i := 6) rfl))) (by decide) (backOf (W := 2) (rmSt1 l Z _ hw [] cB0 cB1 b741 cs h741 n0 Z759 A741 f749 hcs (own_hpc okB0)) hZ (hw _ (List.mem_of_getElem? (i := 6) rfl)) (hw _ (List.mem_of_getElem? (i := 5) rfl)) (by decide) (by decide)) (g := (mkF m 168 #[.val (.int p0), .val (.int p1), .val (.long q2), .second, .val (.long q3), .second, .val (.long q4), .second, .val (.int p5), .val (.int (1 : Int32)), .val (.int cA0), .val (.int cA1), .val (.int i12), .val (.int (1 : Int32)), .val (.int cB0), .val (.int cB1), .val (.long j16), .second, .val (.long j18), .second, .val (.int i20), .val (.ref b698), .unset, .unset, .unset, .unset] [(.int cB1), (.int cB0), (.int (1 : Int32)), (.ref b741), (.ref b741)])) rfl (by rw [hml]; rfl) (argsL := [(.int (1 : Int32)), (.int cB0), (.int cB1)]) (rest := [(.ref b741), (.ref b741)]) (lenOf pd_9 rfl) rfl (by show 2 * 0 + _ ≤ _; exact Nat.le_of_eq rfl) (hb hby at_168) (fun _ _ => ⟨rfl, e741, (by decide : 5 + 3 ≤ _), (by decide : 12 + 6 ≤ _)⟩)
  dsimp only [Pt.U, Pt.locs, Pt.cells, Pt.slots] at X764 l764 y764 z764 st764 hQ764
  subst l764 y764 z764
  obtain ⟨rfl, Nq764, Kq764, Es764, t764, kb764, f764a, f764b, f764c, nt764⟩ := hQ764
  have N765 := Fr.app N729 Nq764
  obtain ⟨b764, gq764⟩ : ∃ z, z = h741.size := ⟨_, rfl⟩
  rw [← gq764] at Es764 f764a f764b st764
  have g766 : n0 ≤ b764 := (Nat.le_trans Z759 (Nat.le_of_eq gq764.symm))
  have sz767 : h0.size ≤ b764 := (Nat.le_trans K760.1 (Nat.le_of_eq gq764.symm))
  have ne768 : b698 ≠ b764 := (Nat.ne_of_lt (Nat.lt_of_lt_of_le f751.lt (Nat.le_of_eq gq764.symm)))
  have ne769 : b710 ≠ b764 := (Nat.ne_of_lt (Nat.lt_of_lt_of_le f752.lt (Nat.le_of_eq gq764.symm)))
  have ne770 : t710 ≠ b764 := (Nat.ne_of_lt (Nat.lt_of_lt_of_le f755.lt (Nat.le_of_eq gq764.symm)))
  have ne771 : b741 ≠ b764 := (Nat.ne_of_lt (Nat.lt_of_lt_of_le A741.lt (Nat.le_of_eq gq764.symm)))
  have hA772 := CHr.keep Kq764 sf0 hR748.1
  have hR773 := hR748.trans hA772
  have f774 := (own_staKeep f749 Kq764 own_sn0)
  have f775 := (own_staKeep f750 Kq764 own_sn0)
  have f776 := (f751.keep Kq764)
  have f777 := (f752.keep Kq764)
  have f778 := (f753.keep Kq764 nin0)
  have f779 := (f754.keep Kq764 nin0)
  have f780 := (f755.keep Kq764 nin0)
  have f781 := (f756.keep Kq764 nin0)
  have f782 := (f757.keep Kq764 nin0)
  have f783 := (f758.keep Kq764 nin0)
  have f784 := (A741.keep Kq764)
  have f785 := (f761.keep Kq764 nin0)
  have f786 := (f762.keep Kq764 nin0)
  have f787 := (f763.keep Kq764 nin0)
  have Z788 : n0 ≤ T764.heap.size := (Nat.le_trans Z759 Kq764.1)
  have K789 : Keep h0 T764.heap [] := (K760.trans Kq764 all0)
  refine OFin.of (S' := T764.setTop (mkF m 171 #[.val (.int p0), .val (.int p1), .val (.long q2), .second, .val (.long q3), .second, .val (.long q4), .second, .val (.int p5), .val (.int (1 : Int32)), .val (.int cA0), .val (.int cA1), .val (.int i12), .val (.int (1 : Int32)), .val (.int cB0), .val (.int cB1), .val (.long j16), .second, .val (.long j18), .second, .val (.int i20), .val (.ref b698), .unset, .unset, .unset, .unset] [(.ref b764), (.ref b741), (.ref b741)])) (fun t ht => st764 t ht) ?_
  refine OFin.of (S' := T764.setTop (mkF m 175 #[.val (.int p0), .val (.int p1), .val (.long q2), .second, .val (.long q3), .second, .val (.long q4), .second, .val (.int p5), .val (.int (1 : Int32)), .val (.int cA0), .val (.int cA1), .val (.int i12), .val (.int (1 : Int32)), .val (.int cB0), .val (.int cB1), .val (.long j16), .second, .val (.long j18), .second, .val (.int i20), .val (.ref b698), .unset, .unset, .unset, .unset] [(.long j18), (.long j16), (.ref b764), (.ref b741), (.ref b741)])) (fun t ht => ?_) ?_
  · refine XS.lload X764.here hx rfl (hb hby at_171) rfl ?_
    show Steps p.tables e below (T764.setTop (mkF m 173 _ [(.long j16), (.ref b764), (.ref b741), (.ref b741)])) _
    refine XS.lload X764.here hx rfl (hb hby at_173) rfl ?_
    exact ht
  obtain ⟨_, _, ⟨T790, L790, k790, n790⟩, -, X790, ⟨Lc790, hQ790, l790, y790, z790⟩, st790⟩ := X764.specialBack hx (y := (⟨"com/example/greylag/greylag/model/Bundle", "<init>", "(Ljava/lang/String;JJ)V"⟩ : MethodName)) rfl hown (mvT hZ (hw _ (List.mem_of_getElem? (i := 29) rfl))) (mvT hZ (hw _ (List.mem_of_getElem? (i := 30) rfl))) (mvT hZ (hw _ (List.mem_of_getElem? (i := 31) rfl))) (by decide) (backOf (W := 1) (rmIni l Z _ hw [] b741 b764 j16 j18 T764.heap n0 Z788 f784 f785 f786 f787 g742) hZ (hw _ (List.mem_of_getElem? (i := 31) rfl)) (hw _ (List.mem_of_getElem? (i := 2) rfl)) (by decide) (by decide)) (g := (mkF m 175 #[.val (.int p0), .val (.int p1), .val (.long q2), .second, .val (.long q3), .second, .val (.long q4), .second, .val (.int p5), .val (.int (1 : Int32)), .val (.int cA0), .val (.int cA1), .val (.int i12), .val (.int (1 : Int32)), .val (.int cB0), .val (.int cB1), .val (.long j16), .second, .val (.long j18), .second, .val (.int i20), .val (.ref b698), .unset, .unset, .unset, .unset] [(.long j18), (.long j16), (.ref b764), (.ref b741), (.ref b741)])) rfl (by rw [hml]; rfl) (Steps.refl _) (a := b741) (argsL := [(.ref b764), (.long j16), (.long j18)]) (rest := [(.ref b741)]) (lenOf pd_10 rfl) rfl (by show 2 * 0 + _ ≤ _; exact Nat.le_of_eq rfl) (hb hby at_175) (fun _ _ => ⟨rfl, (rfl : T764.heap = T764.heap), (by decide : 8 + 0 ≤ _), (by decide : 18 + 0 ≤ _)⟩)
  dsimp only [Pt.U, Pt.locs, Pt.cells, Pt.slots] at X790 l790 y790 z790 st790 hQ790
  subst l790 y790 z790
  obtain ⟨rfl, Nq790, Kq790, f791, f792, f793⟩ := hQ790
  have N794 := Fr.app N765 Nq790
  have hA795 := CHr.keep Kq790 (sfS (Safe.exa hZ.alike f784 (by decide) (by decide)) sf0) hR773.1
  have hR796 := hR773.trans hA795
  have f797 := (own_staKeep f774 Kq790 (own_snS f784 own_sn0))
  have f798 := (own_staKeep f775 Kq790 (own_snS f784 own_sn0))
  have f799 := (f776.keep Kq790)
  have f800 := (f777.keep Kq790)
  have f801 := (f778.keep Kq790 (ninS ne745 nin0))
  have f802 := (f779.keep Kq790 (ninS ne745 nin0))
  have f803 := (f780.keep Kq790 (ninS ne746 nin0))
  have f804 := (f781.keep Kq790 (ninS ne744 nin0))
  have f805 := (f782.keep Kq790 (ninS ne744 nin0))
  have f806 := (f783.keep Kq790 (ninS ne744 nin0))
  have f807 := (f784.keep Kq790)
  have f808 := (Es764.keep Kq790)
  have f809 := (f764a.keep Kq790 (ninS (Ne.symm ne771) nin0))
  have f810 := (f764b.keep Kq790 (ninS (Ne.symm ne771) nin0))
  have f811 := (f764c.keep Kq790 (ninS (Ne.symm nt764) nin0))
  have Z812 : n0 ≤ T790.heap.size := (Nat.le_trans Z788 Kq790.1)
  have K813 : Keep h0 T790.heap [] := (K789.trans Kq790 (allS (Or.inr sz743) all0))
  refine OFin.to (S' := T790.setTop (mkF m 178 #[.val (.int p0), .val (.int p1), .val (.long q2), .second, .val (.long q3), .second, .val (.long q4), .second, .val (.int p5), .val (.int (1 : Int32)), .val (.int cA0), .val (.int cA1), .val (.int i12), .val (.int (1 : Int32)), .val (.int cB0), .val (.int cB1), .val (.long j16), .second, .val (.long j18), .second, .val (.int i20), .val (.ref b698), .unset, .unset, .unset, .unset] [(.ref b741)])) st790 ?_
  refine OFin.of (S' := T790.setTop (mkF m 181 #[.val (.int p0), .val (.int p1), .val (.long q2), .second, .val (.long q3), .second, .val (.long q4), .second, .val (.int p5), .val (.int (1 : Int32)), .val (.int cA0), .val (.int cA1), .val (.int i12), .val (.int (1 : Int32)), .val (.int cB0), .val (.int cB1), .val (.long j16), .second, .val (.long j18), .second, .val (.int i20), .val (.ref b698), .val (.ref b741), .unset, .unset, .unset] [(.long q2)])) (fun t ht => ?_) ?_
  · refine XS.astore X790.here hx rfl (hb hby at_178) rfl rfl (l' := #[.val (.int p0), .val (.int p1), .val (.long q2), .second, .val (.long q3), .second, .val (.long q4), .second, .val (.int p5), .val (.int (1 : Int32)), .val (.int cA0), .val (.int cA1), .val (.int i12), .val (.int (1 : Int32)), .val (.int cB0), .val (.int cB1), .val (.long j16), .second, .val (.long j18), .second, .val (.int i20), .val (.ref b698), .val (.ref b741), .unset, .unset, .unset]) rfl ?_
    show Steps p.tables e below (T790.setTop (mkF m 180 #[.val (.int p0), .val (.int p1), .val (.long q2), .second, .val (.long q3), .second, .val (.long q4), .second, .val (.int p5), .val (.int (1 : Int32)), .val (.int cA0), .val (.int cA1), .val (.int i12), .val (.int (1 : Int32)), .val (.int cB0), .val (.int cB1), .val (.long j16), .second, .val (.long j18), .second, .val (.int i20), .val (.ref b698), .val (.ref b741), .unset, .unset, .unset] [])) _
    refine XS.lloadN X790.here hx rfl (hb hby at_180) rfl ?_
    exact ht
  obtain ⟨_, _, ⟨T814, L814, k814, n814⟩, -, X814, ⟨Lc814, hQ814, l814, y814, z814⟩, st814⟩ := Jvm.LawKit.callS X790 hx (y := (⟨"java/lang/Long", "valueOf", "(J)Ljava/lang/Long;"⟩ : MethodName)) hown (mvT hZ (hw _ (List.mem_of_getElem? (i := 39) rfl))) (mvT hZ (hw _ (List.mem_of_getElem? (i := 40) rfl))) (mvT hZ (hw _ (List.mem_of_getElem? (i := 41) rfl))) (mvT hZ (hw _ (List.mem_of_getElem? (i := 42) rfl))) (by decide) (backOf (W := 0) (rmVo l Z _ hw [] q2 ac T790.heap n0 Z812 f798 (hLC.keep K813)) hZ (hw _ (List.mem_of_getElem? (i := 42) rfl)) (hw _ (List.mem_of_getElem? (i := 41) rfl)) (by decide) (by decide)) (g := (mkF m 181 #[.val (.int p0), .val (.int p1), .val (.long q2), .second, .val (.long q3), .second, .val (.long q4), .second, .val (.int p5), .val (.int (1 : Int32)), .val (.int cA0), .val (.int cA1), .val (.int i12), .val (.int (1 : Int32)), .val (.int cB0), .val (.int cB1), .val (.long j16), .second, .val (.long j18), .second, .val (.int i20), .val (.ref b698), .val (.ref b741), .unset, .unset, .unset] [(.long q2)])) rfl (by rw [hml]; rfl) (argsL := [(.long q2)]) (rest := []) (lenOf pd_11 rfl) rfl (by show 2 * 0 + _ ≤ _; exact Nat.le_of_eq rfl) (hb hby at_181) (fun _ _ => ⟨rfl, (rfl : T790.heap = T790.heap), (by decide : 8 + 1 ≤ _), (by decide : 18 + 1 ≤ _)⟩)
  dsimp only [Pt.U, Pt.locs, Pt.cells, Pt.slots] at X814 l814 y814 z814 st814 hQ814
  subst l814 y814 z814
  obtain ⟨r814, rfl, Nq814, Kq814, Er814⟩ := hQ814
  have N815 := Fr.app N794 Nq814
  have f816 := (own_staKeep f797 Kq814 own_sn0)
  have f817 := (own_staKeep f798 Kq814 own_sn0)
  have f818 := (f799.keep Kq814)
  have f819 := (f800.keep Kq814)
  have f820 := (f801.keep Kq814 nin0)
  have f821 := (f802.keep Kq814 nin0)
  have f822 := (f803.keep Kq814 nin0)
  have f823 := (f804.keep Kq814 nin0)
  have f824 := (f805.keep Kq814 nin0)
  have f825 := (f806.keep Kq814 nin0)
  have f826 := (f807.keep Kq814)
  have f827 := (f808.keep Kq814)
  have f828 := (f809.keep Kq814 nin0)
  have f829 := (f810.keep Kq814 nin0)
  have f830 := (f811.keep Kq814 nin0)
  have f831 := (f791.keep Kq814 nin0)
  have f832 := (f792.keep Kq814 nin0)
  have f833 := (f793.keep Kq814 nin0)
  have Z834 : n0 ≤ T814.heap.size := (Nat.le_trans Z812 Kq814.1)
  have K835 : Keep h0 T814.heap [] := (K813.trans Kq814 all0)
  refine OFin.of (S' := T814.setTop (mkF m 184 #[.val (.int p0), .val (.int p1), .val (.long q2), .second, .val (.long q3), .second, .val (.long q4), .second, .val (.int p5), .val (.int (1 : Int32)), .val (.int cA0), .val (.int cA1), .val (.int i12), .val (.int (1 : Int32)), .val (.int cB0), .val (.int cB1), .val (.long j16), .second, .val (.long j18), .second, .val (.int i20), .val (.ref b698), .val (.ref b741), .unset, .unset, .unset] [(.ref r814)])) (fun t ht => st814 t ht) ?_
  refine OFin.of (S' := T814.setTop (mkF m 186 #[.val (.int p0), .val (.int p1), .val (.long q2), .second, .val (.long q3), .second, .val (.long q4), .second, .val (.int p5), .val (.int (1 : Int32)), .val (.int cA0), .val (.int cA1), .val (.int i12), .val (.int (1 : Int32)), .val (.int cB0), .val (.int cB1), .val (.long j16), .second, .val (.long j18), .second, .val (.int i20), .val (.ref b698), .val (.ref b741), .val (.ref r814), .unset, .unset] [])) (fun t ht => ?_) ?_
  · refine XS.astore X814.here hx rfl (hb hby at_184) rfl rfl (l' := #[.val (.int p0), .val (.int p1), .val (.long q2), .second, .val (.long q3), .second, .val (.long q4), .second, .val (.int p5), .val (.int (1 : Int32)), .val (.int cA0), .val (.int cA1), .val (.int i12), .val (.int (1 : Int32)), .val (.int cB0), .val (.int cB1), .val (.long j16), .second, .val (.long j18), .second, .val (.int i20), .val (.ref b698), .val (.ref b741), .val (.ref r814), .unset, .unset]) rfl ?_
    exact ht
  exact segT (s := s) (vm1 := s.vm) Z _ hw hx hby hlk hret hml hown hZ n0 p0 p1 q2 q3 q4 p5 (1 : Int32) cA0 cA1 i12 (1 : Int32) cB0 cB1 j16 j18 i20 b698 b741 r814 b710 b764 (own_leq1 (((nar .char cA0).toInt8.toInt32).toInt8.toInt32) (((nar .char cB0).toInt8.toInt32).toInt8.toInt32)) (own_leq1 (((nar .char cB0).toInt8.toInt32).toInt8.toInt32) (((nar .char cA0).toInt8.toInt32).toInt8.toInt32)) (X814.more (by decide) (by decide)) (rfl : T814.heap = T814.heap) Z834 N815 f818 f826 f819 f827 Er814 f823 f824 f825 f831 f832 f833 (rmEqG l Z _ hw [] b710 b764 t710 t764 cs (own_leq1 (((nar .char cA0).toInt8.toInt32).toInt8.toInt32) (((nar .char cB0).toInt8.toInt32).toInt8.toInt32)) T814.heap n0 Z834 f827 f820 f828 f821 f829 f816 hcs ne769 (own_leqv1 (((nar .char cA0).toInt8.toInt32).toInt8.toInt32) (((nar .char cB0).toInt8.toInt32).toInt8.toInt32)) (rmLe11 l Z _ hw [] t710 t764 kb710 kb764 (((nar .char cA0).toInt8.toInt32).toInt8.toInt32) (((nar .char cB0).toInt8.toInt32).toInt8.toInt32) T814.heap n0 Z834 f822 f830)) (rmEqG l Z _ hw [] b764 b710 t764 t710 cs (own_leq1 (((nar .char cB0).toInt8.toInt32).toInt8.toInt32) (((nar .char cA0).toInt8.toInt32).toInt8.toInt32)) T814.heap n0 Z834 f819 f828 f820 f829 f821 f816 hcs (Ne.symm ne769) (own_leqv1 (((nar .char cB0).toInt8.toInt32).toInt8.toInt32) (((nar .char cA0).toInt8.toInt32).toInt8.toInt32)) (rmLe11 l Z _ hw [] t764 t710 kb764 kb710 (((nar .char cB0).toInt8.toInt32).toInt8.toInt32) (((nar .char cA0).toInt8.toInt32).toInt8.toInt32) T814.heap n0 Z834 f830 f822)) (own_e11 okA0 okB0 okA1 okB1) (own_e11r okA0 okB0 okA1 okB1) ((State.WarmedH.refl s).since T814.heap.size) (Nat.le_refl _) hQ
set_option maxRecDepth 65536 in
set_option maxHeartbeats 40000000 in
theorem seg12 {p : Program} {l : Launch} {e : Env} {s : State} {m : MethodId} {args : Array Value} {below : List Frame} {meth : Method} {c : Code} (Z : State) (a0 : Array Value) (hw : ∀ d ∈ tables_1, d.before a0 Z = true) (hx : p.tables.exec = Jvm.exec) (hby : c.code = code) (hlk : meth.locks = false) (hret : meth.sig.returnType = some .boolean) (hml : c.maxLocals = 26) (hown : s.vm.findClass "com/example/greylag/greylag/model/BundleEqualsPinLaw" = some m.cls) (hZ : Z.Warmed39 s.vm) {Q : Option Value → Heap → List Loc → Prop} (n0 : Nat) (p0 : Int32) (p1 : Int32) (q2 : Int64) (q3 : Int64) (q4 : Int64) (p5 : Int32) (cA0 : Int32) (cA1 : Int32) (i12 : Int32) (cB0 : Int32) (cB1 : Int32) (j16 : Int64) (j18 : Int64) (i20 : Int32) (cs : Int32) (ac : Addr) {T0 : State} {locs : List Loc} {h0 : Heap} (X0 : Stand p l e room_1 s m args below meth c T0 locs 0 0) (e0 : T0.heap = h0) (Z0 : n0 ≤ h0.size) (N0 : Fr n0 locs) (fa0 : Sta Z h0 "java/lang/String" "COMPACT_STRINGS" "Z" (.int cs)) (fa1 : Sta Z h0 "java/lang/Long$LongCache" "cache" "[Ljava/lang/Long;" (.ref ac)) (hcs : ¬ cs = (0 : Int32)) (hLC : OwnLC Z h0 ac) (okA0 : OwnOk cA0) (okA1 : OwnOk cA1) (okB0 : OwnOk cB0) (okB1 : OwnOk cB1) (hC0 : CHv Z consts_1 s.vm h0) (hQ : ∀ (h' : Heap) (L : List Loc), Fr n0 L → Q (some (.int (1 : Int32))) h' L) :
    OFin p e below (KPostW s Q room_1.cells room_1.slots) (T0.setTop (mkF m 137 #[.val (.int p0), .val (.int p1), .val (.long q2), .second, .val (.long q3), .second, .val (.long q4), .second, .val (.int p5), .val (.int (1 : Int32)), .val (.int cA0), .val (.int cA1), .val (.int i12), .val (.int (2 : Int32)), .val (.int cB0), .val (.int cB1), .val (.long j16), .second, .val (.long j18), .second, .val (.int i20), .unset, .unset, .unset, .unset, .unset] [])) := by
  have K0 : Keep h0 h0 [] := Keep.refl _ _
  have hR0 : CHr Z consts_1 s.vm h0 s.vm h0 := CHr.refl hC0
  have hEL := own_EW hw
  obtain ⟨T836, h836, X836, e836, E836, A836, D836, -, st836⟩ := newO X0 hx hZ hown (hw _ (List.mem_of_getElem? (i := 0) rfl)) (hw _ (List.mem_of_getElem? (i := 1) rfl)) (hw _ (List.mem_of_getElem? (i := 2) rfl)) e0 (g := (mkF m 137 #[.val (.int p0), .val (.int p1), .val (.long q2), .second, .val (.long q3), .second, .val (.long q4), .second, .val (.int p5), .val (.int (1 : Int32)), .val (.int cA0), .val (.int cA1), .val (.int i12), .val (.int (2 : Int32)), .val (.int cB0), .val (.int cB1), .val (.long j16), .second, .val (.long j18), .second, .val (.int i20), .unset, .unset, .unset, .unset, .unset] [])) rfl (hb hby at_137) (by decide) (by decide)
  obtain ⟨b836, gq836⟩ : ∃ z, z = h0.size := ⟨_, rfl⟩
  rw [← gq836] at A836 D836 st836
  have g837 : n0 ≤ b836 := (Nat.le_trans Z0 (Nat.le_of_eq gq836.symm))
  have sz838 : h0.size ≤ b836 := (Nat.le_trans K0.1 (Nat.le_of_eq gq836.symm))
  have hA839 := CHr.ext E836 hR0.1
  have hR840 := hR0.trans hA839
  have f841 := fa0.ext E836
  have f842 := fa1.ext E836
  have Z843 : n0 ≤ h836.size := (Nat.le_trans Z0 E836.1)
  have K844 : Keep h0 h836 [] := (K0.ext E836)
  have f845 : Fld Z h836 b836 "com/example/greylag/greylag/model/Bundle" "namespace" "Ljava/lang/String;" .null := D836 (Or.inr (hw _ (List.mem_of_getElem? (i := 34) rfl))) (ty := (.object "java/lang/String")) (by decide)
  have f846 : Fld Z h836 b836 "com/example/greylag/greylag/model/Bundle" "lower" "J" (.long (0 : Int64)) := D836 (Or.inr (hw _ (List.mem_of_getElem? (i := 36) rfl))) (ty := .long) (by decide)
  have f847 : Fld Z h836 b836 "com/example/greylag/greylag/model/Bundle" "upper" "J" (.long (0 : Int64)) := D836 (Or.inr (hw _ (List.mem_of_getElem? (i := 38) rfl))) (ty := .long) (by decide)
  refine OFin.of (S' := T836.setTop (mkF m 140 #[.val (.int p0), .val (.int p1), .val (.long q2), .second, .val (.long q3), .second, .val (.long q4), .second, .val (.int p5), .val (.int (1 : Int32)), .val (.int cA0), .val (.int cA1), .val (.int i12), .val (.int (2 : Int32)), .val (.int cB0), .val (.int cB1), .val (.long j16), .second, .val (.long j18), .second, .val (.int i20), .unset, .unset, .unset, .unset, .unset] [(.ref b836)])) (fun t ht => st836 t ht) ?_
  refine OFin.of (S' := T836.setTop (mkF m 147 #[.val (.int p0), .val (.int p1), .val (.long q2), .second, .val (.long q3), .second, .val (.long q4), .second, .val (.int p5), .val (.int (1 : Int32)), .val (.int cA0), .val (.int cA1), .val (.int i12), .val (.int (2 : Int32)), .val (.int cB0), .val (.int cB1), .val (.long j16), .second, .val (.long j18), .second, .val (.int i20), .unset, .unset, .unset, .unset, .unset] [(.int cA1), (.int cA0), (.int (1 : Int32)), (.ref b836), (.ref b836)])) (fun t ht => ?_) ?_
  · refine XS.dup X836.here hx rfl (hb hby at_140) rfl rfl ?_
    show Steps p.tables e below (T836.setTop (mkF m 141 _ [(.ref b836), (.ref b836)])) _
    refine XS.iload X836.here hx rfl (hb hby at_141) rfl ?_
    show Steps p.tables e below (T836.setTop (mkF m 143 _ [(.int (1 : Int32)), (.ref b836), (.ref b836)])) _
    refine XS.iload X836.here hx rfl (hb hby at_143) rfl ?_
    show Steps p.tables e below (T836.setTop (mkF m 145 _ [(.int cA0), (.int (1 : Int32)), (.ref b836), (.ref b836)])) _
    refine XS.iload X836.here hx rfl (hb hby at_145) rfl ?_
    exact ht
  obtain ⟨_, _, ⟨T848, L848, k848, n848⟩, -, X848, ⟨Lc848, hQ848, l848, y848, z848⟩, st848⟩ := Jvm.LawKit.callS X836 hx (y := (⟨"com/example/greylag/greylag/model/BundleEqualsPinLaw", "str", "(ICC)Ljava/lang/String;"⟩ : MethodName)) hown (mvT hZ (hw _ (List.mem_of_getElem? (i := 3) rfl))) (mvT hZ (hw _ (List.mem_of_getElem? (i := 4) rfl))) (mvT hZ (hw _ (List.mem_of_getElem? (i := 5) rfl))) (mvT hZ (hw _ (List.mem_of_getElem? (i := 6) rfl))) (by decide) (backOf (W := 2) (rmSt1 l Z _ hw [] cA0 cA1 b836 cs h836 n0 Z843 A836 f841 hcs (own_hpc okA0)) hZ (hw _ (List.mem_of_getElem? (i := 6) rfl)) (hw _ (List.mem_of_getElem? (i := 5) rfl)) (by decide) (by decide)) (g := (mkF m 147 #[.val (.int p0), .val (.int p1), .val (.long q2), .second, .val (.long q3), .second, .val (.long q4), .second, .val (.int p5), .val (.int (1 : Int32)), .val (.int cA0), .val (.int cA1), .val (.int i12), .val (.int (2 : Int32)), .val (.int cB0), .val (.int cB1), .val (.long j16), .second, .val (.long j18), .second, .val (.int i20), .unset, .unset, .unset, .unset, .unset] [(.int cA1), (.int cA0), (.int (1 : Int32)), (.ref b836), (.ref b836)])) rfl (by rw [hml]; rfl) (argsL := [(.int (1 : Int32)), (.int cA0), (.int cA1)]) (rest := [(.ref b836), (.ref b836)]) (lenOf pd_9 rfl) rfl (by show 2 * 0 + _ ≤ _; exact Nat.le_of_eq rfl) (hb hby at_147) (fun _ _ => ⟨rfl, e836, (by decide : 1 + 3 ≤ _), (by decide : 3 + 6 ≤ _)⟩)
  dsimp only [Pt.U, Pt.locs, Pt.cells, Pt.slots] at X848 l848 y848 z848 st848 hQ848
  subst l848 y848 z848
  obtain ⟨rfl, Nq848, Kq848, Es848, t848, kb848, f848a, f848b, f848c, nt848⟩ := hQ848
  have N849 := Fr.app N0 Nq848
  obtain ⟨b848, gq848⟩ : ∃ z, z = h836.size := ⟨_, rfl⟩
  rw [← gq848] at Es848 f848a f848b st848
  have g850 : n0 ≤ b848 := (Nat.le_trans Z843 (Nat.le_of_eq gq848.symm))
  have sz851 : h0.size ≤ b848 := (Nat.le_trans K844.1 (Nat.le_of_eq gq848.symm))
  have ne852 : b836 ≠ b848 := (Nat.ne_of_lt (Nat.lt_of_lt_of_le A836.lt (Nat.le_of_eq gq848.symm)))
  have hA853 := CHr.keep Kq848 sf0 hR840.1
  have hR854 := hR840.trans hA853
  have f855 := (own_staKeep f841 Kq848 own_sn0)
  have f856 := (own_staKeep f842 Kq848 own_sn0)
  have f857 := (A836.keep Kq848)
  have f858 := (f845.keep Kq848 nin0)
  have f859 := (f846.keep Kq848 nin0)
  have f860 := (f847.keep Kq848 nin0)
  have Z861 : n0 ≤ T848.heap.size := (Nat.le_trans Z843 Kq848.1)
  have K862 : Keep h0 T848.heap [] := (K844.trans Kq848 all0)
  refine OFin.of (S' := T848.setTop (mkF m 150 #[.val (.int p0), .val (.int p1), .val (.long q2), .second, .val (.long q3), .second, .val (.long q4), .second, .val (.int p5), .val (.int (1 : Int32)), .val (.int cA0), .val (.int cA1), .val (.int i12), .val (.int (2 : Int32)), .val (.int cB0), .val (.int cB1), .val (.long j16), .second, .val (.long j18), .second, .val (.int i20), .unset, .unset, .unset, .unset, .unset] [(.ref b848), (.ref b836), (.ref b836)])) (fun t ht => st848 t ht) ?_
  refine OFin.of (S' := T848.setTop (mkF m 153 #[.val (.int p0), .val (.int p1), .val (.long q2), .second, .val (.long q3), .second, .val (.long q4), .second, .val (.int p5), .val (.int (1 : Int32)), .val (.int cA0), .val (.int cA1), .val (.int i12), .val (.int (2 : Int32)), .val (.int cB0), .val (.int cB1), .val (.long j16), .second, .val (.long j18), .second, .val (.int i20), .unset, .unset, .unset, .unset, .unset] [(.long q3), (.long q2), (.ref b848), (.ref b836), (.ref b836)])) (fun t ht => ?_) ?_
  · refine XS.lloadN X848.here hx rfl (hb hby at_150) rfl ?_
    show Steps p.tables e below (T848.setTop (mkF m 151 _ [(.long q2), (.ref b848), (.ref b836), (.ref b836)])) _
    refine XS.lload X848.here hx rfl (hb hby at_151) rfl ?_
    exact ht
  obtain ⟨_, _, ⟨T863, L863, k863, n863⟩, -, X863, ⟨Lc863, hQ863, l863, y863, z863⟩, st863⟩ := X848.specialBack hx (y := (⟨"com/example/greylag/greylag/model/Bundle", "<init>", "(Ljava/lang/String;JJ)V"⟩ : MethodName)) rfl hown (mvT hZ (hw _ (List.mem_of_getElem? (i := 29) rfl))) (mvT hZ (hw _ (List.mem_of_getElem? (i := 30) rfl))) (mvT hZ (hw _ (List.mem_of_getElem? (i := 31) rfl))) (by decide) (backOf (W := 1) (rmIni l Z _ hw [] b836 b848 q2 q3 T848.heap n0 Z861 f857 f858 f859 f860 g837) hZ (hw _ (List.mem_of_getElem? (i := 31) rfl)) (hw _ (List.mem_of_getElem? (i := 2) rfl)) (by decide) (by decide)) (g := (mkF m 153 #[.val (.int p0), .val (.int p1), .val (.long q2), .second, .val (.long q3), .second, .val (.long q4), .second, .val (.int p5), .val (.int (1 : Int32)), .val (.int cA0), .val (.int cA1), .val (.int i12), .val (.int (2 : Int32)), .val (.int cB0), .val (.int cB1), .val (.long j16), .second, .val (.long j18), .second, .val (.int i20), .unset, .unset, .unset, .unset, .unset] [(.long q3), (.long q2), (.ref b848), (.ref b836), (.ref b836)])) rfl (by rw [hml]; rfl) (Steps.refl _) (a := b836) (argsL := [(.ref b848), (.long q2), (.long q3)]) (rest := [(.ref b836)]) (lenOf pd_10 rfl) rfl (by show 2 * 0 + _ ≤ _; exact Nat.le_of_eq rfl) (hb hby at_153) (fun _ _ => ⟨rfl, (rfl : T848.heap = T848.heap), (by decide : 4 + 0 ≤ _), (by decide : 9 + 0 ≤ _)⟩)
  dsimp only [Pt.U, Pt.locs, Pt.cells, Pt.slots] at X863 l863 y863 z863 st863 hQ863
  subst l863 y863 z863
  obtain ⟨rfl, Nq863, Kq863, f864, f865, f866⟩ := hQ863
  have N867 := Fr.app N849 Nq863
  have hA868 := CHr.keep Kq863 (sfS (Safe.exa hZ.alike f857 (by decide) (by decide)) sf0) hR854.1
  have hR869 := hR854.trans hA868
  have f870 := (own_staKeep f855 Kq863 (own_snS f857 own_sn0))
  have f871 := (own_staKeep f856 Kq863 (own_snS f857 own_sn0))
  have f872 := (f857.keep Kq863)
  have f873 := (Es848.keep Kq863)
  have f874 := (f848a.keep Kq863 (ninS (Ne.symm ne852) nin0))
  have f875 := (f848b.keep Kq863 (ninS (Ne.symm ne852) nin0))
  have f876 := (f848c.keep Kq863 (ninS (Ne.symm nt848) nin0))
  have Z877 : n0 ≤ T863.heap.size := (Nat.le_trans Z861 Kq863.1)
  have K878 : Keep h0 T863.heap [] := (K862.trans Kq863 (allS (Or.inr sz838) all0))
  refine OFin.to (S' := T863.setTop (mkF m 156 #[.val (.int p0), .val (.int p1), .val (.long q2), .second, .val (.long q3), .second, .val (.long q4), .second, .val (.int p5), .val (.int (1 : Int32)), .val (.int cA0), .val (.int cA1), .val (.int i12), .val (.int (2 : Int32)), .val (.int cB0), .val (.int cB1), .val (.long j16), .second, .val (.long j18), .second, .val (.int i20), .unset, .unset, .unset, .unset, .unset] [(.ref b836)])) st863 ?_
  refine OFin.of (S' := T863.setTop (mkF m 158 #[.val (.int p0), .val (.int p1), .val (.long q2), .second, .val (.long q3), .second, .val (.long q4), .second, .val (.int p5), .val (.int (1 : Int32)), .val (.int cA0), .val (.int cA1), .val (.int i12), .val (.int (2 : Int32)), .val (.int cB0), .val (.int cB1), .val (.long j16), .second, .val (.long j18), .second, .val (.int i20), .val (.ref b836), .unset, .unset, .unset, .unset] [])) (fun t ht => ?_) ?_
  · refine XS.astore X863.here hx rfl (hb hby at_156) rfl rfl (l' := #[.val (.int p0), .val (.int p1), .val (.long q2), .second, .val (.long q3), .second, .val (.long q4), .second, .val (.int p5), .val (.int (1 : Int32)), .val (.int cA0), .val (.int cA1), .val (.int i12), .val (.int (2 : Int32)), .val (.int cB0), .val (.int cB1), .val (.long j16), .second, .val (.long j18), .second, .val (.int i20), .val (.ref b836), .unset, .unset, .unset, .unset]) rfl ?_
    exact ht
  obtain ⟨T879, h879, X879, e879, E879, A879, D879, -, st879⟩ := newO X863 hx hZ hown (hw _ (List.mem_of_getElem? (i := 0) rfl)) (hw _ (List.mem_of_getElem? (i := 1) rfl)) (hw _ (List.mem_of_getElem? (i := 2) rfl)) (rfl : T863.heap = T863.heap) (g := (mkF m 158 #[.val (.int p0), .val (.int p1), .val (.long q2), .second, .val (.long q3), .second, .val (.long q4), .second, .val (.int p5), .val (.int (1 : Int32)), .val (.int cA0), .val (.int cA1), .val (.int i12), .val (.int (2 : Int32)), .val (.int cB0), .val (.int cB1), .val (.long j16), .second, .val (.long j18), .second, .val (.int i20), .val (.ref b836), .unset, .unset, .unset, .unset] [])) rfl (hb hby at_158) (by decide) (by decide)
  obtain ⟨b879, gq879⟩ : ∃ z, z = T863.heap.size := ⟨_, rfl⟩
  rw [← gq879] at A879 D879 st879
  have g880 : n0 ≤ b879 := (Nat.le_trans Z877 (Nat.le_of_eq gq879.symm))
  have sz881 : h0.size ≤ b879 := (Nat.le_trans K878.1 (Nat.le_of_eq gq879.symm))
  have ne882 : b836 ≠ b879 := (Nat.ne_of_lt (Nat.lt_of_lt_of_le f872.lt (Nat.le_of_eq gq879.symm)))
  have ne883 : b848 ≠ b879 := (Nat.ne_of_lt (Nat.lt_of_lt_of_le f873.lt (Nat.le_of_eq gq879.symm)))
  have ne884 : t848 ≠ b879 := (Nat.ne_of_lt (Nat.lt_of_lt_of_le f876.lt (Nat.le_of_eq gq879.symm)))
  have hA885 := CHr.ext E879 hR869.1
  have hR886 := hR869.trans hA885
  have f887 := f870.ext E879
  have f888 := f871.ext E879
  have f889 := f872.ext E879
  have f890 := f873.ext E879
  have f891 := f874.ext E879
  have f892 := f875.ext E879
  have f893 := f876.ext E879
  have f894 := f864.ext E879
  have f895 := f865.ext E879
  have f896 := f866.ext E879
  have Z897 : n0 ≤ h879.size := (Nat.le_trans Z877 E879.1)
  have K898 : Keep h0 h879 [] := (K878.ext E879)
  have f899 : Fld Z h879 b879 "com/example/greylag/greylag/model/Bundle" "namespace" "Ljava/lang/String;" .null := D879 (Or.inr (hw _ (List.mem_of_getElem? (i := 34) rfl))) (ty := (.object "java/lang/String")) (by decide)
  have f900 : Fld Z h879 b879 "com/example/greylag/greylag/model/Bundle" "lower" "J" (.long (0 : Int64)) := D879 (Or.inr (hw _ (List.mem_of_getElem? (i := 36) rfl))) (ty := .long) (by decide)
  have f901 : Fld Z h879 b879 "com/example/greylag/greylag/model/Bundle" "upper" "J" (.long (0 : Int64)) := D879 (Or.inr (hw _ (List.mem_of_getElem? (i := 38) rfl))) (ty := .long) (by decide)
  refine OFin.of (S' := T879.setTop (mkF m 161 #[.val (.int p0), .val (.int p1), .val (.long q2), .second, .val (.long q3), .second, .val (.long q4), .second, .val (.int p5), .val (.int (1 : Int32)), .val (.int cA0), .val (.int cA1), .val (.int i12), .val (.int (2 : Int32)), .val (.int cB0), .val (.int cB1), .val (.long j16), .second, .val (.long j18), .second, .val (.int i20), .val (.ref b836), .unset, .unset, .unset, .unset] [(.ref b879)])) (fun t ht => st879 t ht) ?_
  refine OFin.of (S' := T879.setTop (mkF m 168 #[.val (.int p0), .val (.int p1), .val (.long q2), .second, .val (.long q3), .second, .val (.long q4), .second, .val (.int p5), .val (.int (1 : Int32)), .val (.int cA0), .val (.int cA1), .val (.int i12), .val (.int (2 : Int32)), .val (.int cB0), .val (.int cB1), .val (.long j16), .second, .val (.long j18), .second, .val (.int i20), .val (.ref b836), .unset, .unset, .unset, .unset] [(.int cB1), (.int cB0), (.int (2 : Int32)), (.ref b879), (.ref b879)])) (fun t ht => ?_) ?_
  · refine XS.dup X879.here hx rfl (hb hby at_161) rfl rfl ?_
    show Steps p.tables e below (T879.setTop (mkF m 162 _ [(.ref b879), (.ref b879)])) _
    refine XS.iload X879.here hx rfl (hb hby at_162) rfl ?_
    show Steps p.tables e below (T879.setTop (mkF m 164 _ [(.int (2 : Int32)), (.ref b879), (.ref b879)])) _
    refine XS.iload X879.here hx rfl (hb hby at_164) rfl ?_
    show Steps p.tables e below (T879.setTop (mkF m 166 _ [(.int cB0), (.int (2 : Int32)), (.ref b879), (.ref b879)])) _
    refine XS.iload X879.here hx rfl (hb hby at_166) rfl ?_
    exact ht
  obtain ⟨_, _, ⟨T902, L902, k902, n902⟩, -, X902, ⟨Lc902, hQ902, l902, y902, z902⟩, st902⟩ := Jvm.LawKit.callS X879 hx (y := (⟨"com/example/greylag/greylag/model/BundleEqualsPinLaw", "str", "(ICC)Ljava/lang/String;"⟩ : MethodName)) hown (mvT hZ (hw _ (List.mem_of_getElem? (i := 3) rfl))) (mvT hZ (hw _ (List.mem_of_getElem? (i := 4) rfl))) (mvT hZ (hw _ (List.mem_of_getElem? (i := 5) rfl))) (mvT hZ (hw _ (List.mem_of_getElem? (i := 6) rfl))) (by decide) (backOf (W := 2) (rmSt2 l Z _ hw [] cB0 cB1 b879 cs h879 n0 Z897 A879 f887 hcs (own_hpc okB0) (own_hpc okB1)) hZ (hw _ (List.mem_of_getElem? (i := 6) rfl)) (hw _ (List.mem_of_getElem? (i := 5) rfl)) (by decide) (by decide)) (g := (mkF m 168 #[.val (.int p0), .val (.int p1), .val (.long q2), .second, .val (.long q3), .second, .val (.long q4), .second, .val (.int p5), .val (.int (1 : Int32)), .val (.int cA0), .val (.int cA1), .val (.int i12), .val (.int (2 : Int32)), .val (.int cB0), .val (.int cB1), .val (.long j16), .second, .val (.long j18), .second, .val (.int i20), .val (.ref b836), .unset, .unset, .unset, .unset] [(.int cB1), (.int cB0), (.int (2 : Int32)), (.ref b879), (.ref b879)])) rfl (by rw [hml]; rfl) (argsL := [(.int (2 : Int32)), (.int cB0), (.int cB1)]) (rest := [(.ref b879), (.ref b879)]) (lenOf pd_9 rfl) rfl (by show 2 * 0 + _ ≤ _; exact Nat.le_of_eq rfl) (hb hby at_168) (fun _ _ => ⟨rfl, e879, (by decide : 5 + 3 ≤ _), (by decide : 12 + 8 ≤ _)⟩)
  dsimp only [Pt.U, Pt.locs, Pt.cells, Pt.slots] at X902 l902 y902 z902 st902 hQ902
  subst l902 y902 z902
  obtain ⟨rfl, Nq902, Kq902, Es902, t902, kb902, f902a, f902b, f902c, nt902⟩ := hQ902
  have N903 := Fr.app N867 Nq902
  obtain ⟨b902, gq902⟩ : ∃ z, z = h879.size := ⟨_, rfl⟩
  rw [← gq902] at Es902 f902a f902b st902
  have g904 : n0 ≤ b902 := (Nat.le_trans Z897 (Nat.le_of_eq gq902.symm))
  have sz905 : h0.size ≤ b902 := (Nat.le_trans K898.1 (Nat.le_of_eq gq902.symm))
  have ne906 : b836 ≠ b902 := (Nat.ne_of_lt (Nat.lt_of_lt_of_le f889.lt (Nat.le_of_eq gq902.symm)))
  have ne907 : b848 ≠ b902 := (Nat.ne_of_lt (Nat.lt_of_lt_of_le f890.lt (Nat.le_of_eq gq902.symm)))
  have ne908 : t848 ≠ b902 := (Nat.ne_of_lt (Nat.lt_of_lt_of_le f893.lt (Nat.le_of_eq gq902.symm)))
  have ne909 : b879 ≠ b902 := (Nat.ne_of_lt (Nat.lt_of_lt_of_le A879.lt (Nat.le_of_eq gq902.symm)))
  have hA910 := CHr.keep Kq902 sf0 hR886.1
  have hR911 := hR886.trans hA910
  have f912 := (own_staKeep f887 Kq902 own_sn0)
  have f913 := (own_staKeep f888 Kq902 own_sn0)
  have f914 := (f889.keep Kq902)
  have f915 := (f890.keep Kq902)
  have f916 := (f891.keep Kq902 nin0)
  have f917 := (f892.keep Kq902 nin0)
  have f918 := (f893.keep Kq902 nin0)
  have f919 := (f894.keep Kq902 nin0)
  have f920 := (f895.keep Kq902 nin0)
  have f921 := (f896.keep Kq902 nin0)
  have f922 := (A879.keep Kq902)
  have f923 := (f899.keep Kq902 nin0)
  have f924 := (f900.keep Kq902 nin0)
  have f925 := (f901.keep Kq902 nin0)
  have Z926 : n0 ≤ T902.heap.size := (Nat.le_trans Z897 Kq902.1)
  have K927 : Keep h0 T902.heap [] := (K898.trans Kq902 all0)
  refine OFin.of (S' := T902.setTop (mkF m 171 #[.val (.int p0), .val (.int p1), .val (.long q2), .second, .val (.long q3), .second, .val (.long q4), .second, .val (.int p5), .val (.int (1 : Int32)), .val (.int cA0), .val (.int cA1), .val (.int i12), .val (.int (2 : Int32)), .val (.int cB0), .val (.int cB1), .val (.long j16), .second, .val (.long j18), .second, .val (.int i20), .val (.ref b836), .unset, .unset, .unset, .unset] [(.ref b902), (.ref b879), (.ref b879)])) (fun t ht => st902 t ht) ?_
  refine OFin.of (S' := T902.setTop (mkF m 175 #[.val (.int p0), .val (.int p1), .val (.long q2), .second, .val (.long q3), .second, .val (.long q4), .second, .val (.int p5), .val (.int (1 : Int32)), .val (.int cA0), .val (.int cA1), .val (.int i12), .val (.int (2 : Int32)), .val (.int cB0), .val (.int cB1), .val (.long j16), .second, .val (.long j18), .second, .val (.int i20), .val (.ref b836), .unset, .unset, .unset, .unset] [(.long j18), (.long j16), (.ref b902), (.ref b879), (.ref b879)])) (fun t ht => ?_) ?_
  · refine XS.lload X902.here hx rfl (hb hby at_171) rfl ?_
    show Steps p.tables e below (T902.setTop (mkF m 173 _ [(.long j16), (.ref b902), (.ref b879), (.ref b879)])) _
    refine XS.lload X902.here hx rfl (hb hby at_173) rfl ?_
    exact ht
  obtain ⟨_, _, ⟨T928, L928, k928, n928⟩, -, X928, ⟨Lc928, hQ928, l928, y928, z928⟩, st928⟩ := X902.specialBack hx (y := (⟨"com/example/greylag/greylag/model/Bundle", "<init>", "(Ljava/lang/String;JJ)V"⟩ : MethodName)) rfl hown (mvT hZ (hw _ (List.mem_of_getElem? (i := 29) rfl))) (mvT hZ (hw _ (List.mem_of_getElem? (i := 30) rfl))) (mvT hZ (hw _ (List.mem_of_getElem? (i := 31) rfl))) (by decide) (backOf (W := 1) (rmIni l Z _ hw [] b879 b902 j16 j18 T902.heap n0 Z926 f922 f923 f924 f925 g880) hZ (hw _ (List.mem_of_getElem? (i := 31) rfl)) (hw _ (List.mem_of_getElem? (i := 2) rfl)) (by decide) (by decide)) (g := (mkF m 175 #[.val (.int p0), .val (.int p1), .val (.long q2), .second, .val (.long q3), .second, .val (.long q4), .second, .val (.int p5), .val (.int (1 : Int32)), .val (.int cA0), .val (.int cA1), .val (.int i12), .val (.int (2 : Int32)), .val (.int cB0), .val (.int cB1), .val (.long j16), .second, .val (.long j18), .second, .val (.int i20), .val (.ref b836), .unset, .unset, .unset, .unset] [(.long j18), (.long j16), (.ref b902), (.ref b879), (.ref b879)])) rfl (by rw [hml]; rfl) (Steps.refl _) (a := b879) (argsL := [(.ref b902), (.long j16), (.long j18)]) (rest := [(.ref b879)]) (lenOf pd_10 rfl) rfl (by show 2 * 0 + _ ≤ _; exact Nat.le_of_eq rfl) (hb hby at_175) (fun _ _ => ⟨rfl, (rfl : T902.heap = T902.heap), (by decide : 8 + 0 ≤ _), (by decide : 20 + 0 ≤ _)⟩)
  dsimp only [Pt.U, Pt.locs, Pt.cells, Pt.slots] at X928 l928 y928 z928 st928 hQ928
  subst l928 y928 z928
  obtain ⟨rfl, Nq928, Kq928, f929, f930, f931⟩ := hQ928
  have N932 := Fr.app N903 Nq928
  have hA933 := CHr.keep Kq928 (sfS (Safe.exa hZ.alike f922 (by decide) (by decide)) sf0) hR911.1
  have hR934 := hR911.trans hA933
  have f935 := (own_staKeep f912 Kq928 (own_snS f922 own_sn0))
  have f936 := (own_staKeep f913 Kq928 (own_snS f922 own_sn0))
  have f937 := (f914.keep Kq928)
  have f938 := (f915.keep Kq928)
  have f939 := (f916.keep Kq928 (ninS ne883 nin0))
  have f940 := (f917.keep Kq928 (ninS ne883 nin0))
  have f941 := (f918.keep Kq928 (ninS ne884 nin0))
  have f942 := (f919.keep Kq928 (ninS ne882 nin0))
  have f943 := (f920.keep Kq928 (ninS ne882 nin0))
  have f944 := (f921.keep Kq928 (ninS ne882 nin0))
  have f945 := (f922.keep Kq928)
  have f946 := (Es902.keep Kq928)
  have f947 := (f902a.keep Kq928 (ninS (Ne.symm ne909) nin0))
  have f948 := (f902b.keep Kq928 (ninS (Ne.symm ne909) nin0))
  have f949 := (f902c.keep Kq928 (ninS (Ne.symm nt902) nin0))
  have Z950 : n0 ≤ T928.heap.size := (Nat.le_trans Z926 Kq928.1)
  have K951 : Keep h0 T928.heap [] := (K927.trans Kq928 (allS (Or.inr sz881) all0))
  refine OFin.to (S' := T928.setTop (mkF m 178 #[.val (.int p0), .val (.int p1), .val (.long q2), .second, .val (.long q3), .second, .val (.long q4), .second, .val (.int p5), .val (.int (1 : Int32)), .val (.int cA0), .val (.int cA1), .val (.int i12), .val (.int (2 : Int32)), .val (.int cB0), .val (.int cB1), .val (.long j16), .second, .val (.long j18), .second, .val (.int i20), .val (.ref b836), .unset, .unset, .unset, .unset] [(.ref b879)])) st928 ?_
  refine OFin.of (S' := T928.setTop (mkF m 181 #[.val (.int p0), .val (.int p1), .val (.long q2), .second, .val (.long q3), .second, .val (.long q4), .second, .val (.int p5), .val (.int (1 : Int32)), .val (.int cA0), .val (.int cA1), .val (.int i12), .val (.int (2 : Int32)), .val (.int cB0), .val (.int cB1), .val (.long j16), .second, .val (.long j18), .second, .val (.int i20), .val (.ref b836), .val (.ref b879), .unset, .unset, .unset] [(.long q2)])) (fun t ht => ?_) ?_
  · refine XS.astore X928.here hx rfl (hb hby at_178) rfl rfl (l' := #[.val (.int p0), .val (.int p1), .val (.long q2), .second, .val (.long q3), .second, .val (.long q4), .second, .val (.int p5), .val (.int (1 : Int32)), .val (.int cA0), .val (.int cA1), .val (.int i12), .val (.int (2 : Int32)), .val (.int cB0), .val (.int cB1), .val (.long j16), .second, .val (.long j18), .second, .val (.int i20), .val (.ref b836), .val (.ref b879), .unset, .unset, .unset]) rfl ?_
    show Steps p.tables e below (T928.setTop (mkF m 180 #[.val (.int p0), .val (.int p1), .val (.long q2), .second, .val (.long q3), .second, .val (.long q4), .second, .val (.int p5), .val (.int (1 : Int32)), .val (.int cA0), .val (.int cA1), .val (.int i12), .val (.int (2 : Int32)), .val (.int cB0), .val (.int cB1), .val (.long j16), .second, .val (.long j18), .second, .val (.int i20), .val (.ref b836), .val (.ref b879), .unset, .unset, .unset] [])) _
    refine XS.lloadN X928.here hx rfl (hb hby at_180) rfl ?_
    exact ht
  obtain ⟨_, _, ⟨T952, L952, k952, n952⟩, -, X952, ⟨Lc952, hQ952, l952, y952, z952⟩, st952⟩ := Jvm.LawKit.callS X928 hx (y := (⟨"java/lang/Long", "valueOf", "(J)Ljava/lang/Long;"⟩ : MethodName)) hown (mvT hZ (hw _ (List.mem_of_getElem? (i := 39) rfl))) (mvT hZ (hw _ (List.mem_of_getElem? (i := 40) rfl))) (mvT hZ (hw _ (List.mem_of_getElem? (i := 41) rfl))) (mvT hZ (hw _ (List.mem_of_getElem? (i := 42) rfl))) (by decide) (backOf (W := 0) (rmVo l Z _ hw [] q2 ac T928.heap n0 Z950 f936 (hLC.keep K951)) hZ (hw _ (List.mem_of_getElem? (i := 42) rfl)) (hw _ (List.mem_of_getElem? (i := 41) rfl)) (by decide) (by decide)) (g := (mkF m 181 #[.val (.int p0), .val (.int p1), .val (.long q2), .second, .val (.long q3), .second, .val (.long q4), .second, .val (.int p5), .val (.int (1 : Int32)), .val (.int cA0), .val (.int cA1), .val (.int i12), .val (.int (2 : Int32)), .val (.int cB0), .val (.int cB1), .val (.long j16), .second, .val (.long j18), .second, .val (.int i20), .val (.ref b836), .val (.ref b879), .unset, .unset, .unset] [(.long q2)])) rfl (by rw [hml]; rfl) (argsL := [(.long q2)]) (rest := []) (lenOf pd_11 rfl) rfl (by show 2 * 0 + _ ≤ _; exact Nat.le_of_eq rfl) (hb hby at_181) (fun _ _ => ⟨rfl, (rfl : T928.heap = T928.heap), (by decide : 8 + 1 ≤ _), (by decide : 20 + 1 ≤ _)⟩)
  dsimp only [Pt.U, Pt.locs, Pt.cells, Pt.slots] at X952 l952 y952 z952 st952 hQ952
  subst l952 y952 z952
  obtain ⟨r952, rfl, Nq952, Kq952, Er952⟩ := hQ952
  have N953 := Fr.app N932 Nq952
  have f954 := (own_staKeep f935 Kq952 own_sn0)
  have f955 := (own_staKeep f936 Kq952 own_sn0)
  have f956 := (f937.keep Kq952)
  have f957 := (f938.keep Kq952)
  have f958 := (f939.keep Kq952 nin0)
  have f959 := (f940.keep Kq952 nin0)
  have f960 := (f941.keep Kq952 nin0)
  have f961 := (f942.keep Kq952 nin0)
  have f962 := (f943.keep Kq952 nin0)
  have f963 := (f944.keep Kq952 nin0)
  have f964 := (f945.keep Kq952)
  have f965 := (f946.keep Kq952)
  have f966 := (f947.keep Kq952 nin0)
  have f967 := (f948.keep Kq952 nin0)
  have f968 := (f949.keep Kq952 nin0)
  have f969 := (f929.keep Kq952 nin0)
  have f970 := (f930.keep Kq952 nin0)
  have f971 := (f931.keep Kq952 nin0)
  have Z972 : n0 ≤ T952.heap.size := (Nat.le_trans Z950 Kq952.1)
  have K973 : Keep h0 T952.heap [] := (K951.trans Kq952 all0)
  refine OFin.of (S' := T952.setTop (mkF m 184 #[.val (.int p0), .val (.int p1), .val (.long q2), .second, .val (.long q3), .second, .val (.long q4), .second, .val (.int p5), .val (.int (1 : Int32)), .val (.int cA0), .val (.int cA1), .val (.int i12), .val (.int (2 : Int32)), .val (.int cB0), .val (.int cB1), .val (.long j16), .second, .val (.long j18), .second, .val (.int i20), .val (.ref b836), .val (.ref b879), .unset, .unset, .unset] [(.ref r952)])) (fun t ht => st952 t ht) ?_
  refine OFin.of (S' := T952.setTop (mkF m 186 #[.val (.int p0), .val (.int p1), .val (.long q2), .second, .val (.long q3), .second, .val (.long q4), .second, .val (.int p5), .val (.int (1 : Int32)), .val (.int cA0), .val (.int cA1), .val (.int i12), .val (.int (2 : Int32)), .val (.int cB0), .val (.int cB1), .val (.long j16), .second, .val (.long j18), .second, .val (.int i20), .val (.ref b836), .val (.ref b879), .val (.ref r952), .unset, .unset] [])) (fun t ht => ?_) ?_
  · refine XS.astore X952.here hx rfl (hb hby at_184) rfl rfl (l' := #[.val (.int p0), .val (.int p1), .val (.long q2), .second, .val (.long q3), .second, .val (.long q4), .second, .val (.int p5), .val (.int (1 : Int32)), .val (.int cA0), .val (.int cA1), .val (.int i12), .val (.int (2 : Int32)), .val (.int cB0), .val (.int cB1), .val (.long j16), .second, .val (.long j18), .second, .val (.int i20), .val (.ref b836), .val (.ref b879), .val (.ref r952), .unset, .unset]) rfl ?_
    exact ht
  exact segT (s := s) (vm1 := s.vm) Z _ hw hx hby hlk hret hml hown hZ n0 p0 p1 q2 q3 q4 p5 (1 : Int32) cA0 cA1 i12 (2 : Int32) cB0 cB1 j16 j18 i20 b836 b879 r952 b848 b902 (0 : Int32) (0 : Int32) (X952.more (by decide) (by decide)) (rfl : T952.heap = T952.heap) Z972 N953 f956 f964 f957 f965 Er952 f961 f962 f963 f969 f970 f971 (rmEqG l Z _ hw [] b848 b902 t848 t902 cs (0 : Int32) T952.heap n0 Z972 f965 f958 f966 f959 f967 f954 hcs ne907 (Or.inl rfl) (rmLeN l Z _ hw [] t848 t902 kb848 kb902 _ _ _ _ T952.heap n0 Z972 f960 f968 (by decide))) (rmEqG l Z _ hw [] b902 b848 t902 t848 cs (0 : Int32) T952.heap n0 Z972 f957 f966 f958 f967 f959 f954 hcs (Ne.symm ne907) (Or.inl rfl) (rmLeN l Z _ hw [] t902 t848 kb902 kb848 _ _ _ _ T952.heap n0 Z972 f968 f960 (by decide))) (own_ez (by decide)) (own_ez (by decide)) ((State.WarmedH.refl s).since T952.heap.size) (Nat.le_refl _) hQ
set_option maxRecDepth 65536 in
set_option maxHeartbeats 40000000 in
theorem seg20 {p : Program} {l : Launch} {e : Env} {s : State} {m : MethodId} {args : Array Value} {below : List Frame} {meth : Method} {c : Code} (Z : State) (a0 : Array Value) (hw : ∀ d ∈ tables_1, d.before a0 Z = true) (hx : p.tables.exec = Jvm.exec) (hby : c.code = code) (hlk : meth.locks = false) (hret : meth.sig.returnType = some .boolean) (hml : c.maxLocals = 26) (hown : s.vm.findClass "com/example/greylag/greylag/model/BundleEqualsPinLaw" = some m.cls) (hZ : Z.Warmed39 s.vm) {Q : Option Value → Heap → List Loc → Prop} (n0 : Nat) (p0 : Int32) (p1 : Int32) (q2 : Int64) (q3 : Int64) (q4 : Int64) (p5 : Int32) (cA0 : Int32) (cA1 : Int32) (i12 : Int32) (cB0 : Int32) (cB1 : Int32) (j16 : Int64) (j18 : Int64) (i20 : Int32) (cs : Int32) (ac : Addr) {T0 : State} {locs : List Loc} {h0 : Heap} (X0 : Stand p l e room_1 s m args below meth c T0 locs 0 0) (e0 : T0.heap = h0) (Z0 : n0 ≤ h0.size) (N0 : Fr n0 locs) (fa0 : Sta Z h0 "java/lang/String" "COMPACT_STRINGS" "Z" (.int cs)) (fa1 : Sta Z h0 "java/lang/Long$LongCache" "cache" "[Ljava/lang/Long;" (.ref ac)) (hcs : ¬ cs = (0 : Int32)) (hLC : OwnLC Z h0 ac) (okA0 : OwnOk cA0) (okA1 : OwnOk cA1) (okB0 : OwnOk cB0) (okB1 : OwnOk cB1) (hC0 : CHv Z consts_1 s.vm h0) (hQ : ∀ (h' : Heap) (L : List Loc), Fr n0 L → Q (some (.int (1 : Int32))) h' L) :
    OFin p e below (KPostW s Q room_1.cells room_1.slots) (T0.setTop (mkF m 137 #[.val (.int p0), .val (.int p1), .val (.long q2), .second, .val (.long q3), .second, .val (.long q4), .second, .val (.int p5), .val (.int (2 : Int32)), .val (.int cA0), .val (.int cA1), .val (.int i12), .val (.int (0 : Int32)), .val (.int cB0), .val (.int cB1), .val (.long j16), .second, .val (.long j18), .second, .val (.int i20), .unset, .unset, .unset, .unset, .unset] [])) := by
  have K0 : Keep h0 h0 [] := Keep.refl _ _
  have hR0 : CHr Z consts_1 s.vm h0 s.vm h0 := CHr.refl hC0
  have hEL := own_EW hw
  obtain ⟨T975, h975, X975, e975, E975, A975, D975, -, st975⟩ := newO X0 hx hZ hown (hw _ (List.mem_of_getElem? (i := 0) rfl)) (hw _ (List.mem_of_getElem? (i := 1) rfl)) (hw _ (List.mem_of_getElem? (i := 2) rfl)) e0 (g := (mkF m 137 #[.val (.int p0), .val (.int p1), .val (.long q2), .second, .val (.long q3), .second, .val (.long q4), .second, .val (.int p5), .val (.int (2 : Int32)), .val (.int cA0), .val (.int cA1), .val (.int i12), .val (.int (0 : Int32)), .val (.int cB0), .val (.int cB1), .val (.long j16), .second, .val (.long j18), .second, .val (.int i20), .unset, .unset, .unset, .unset, .unset] [])) rfl (hb hby at_137) (by decide) (by decide)
  obtain ⟨b975, gq975⟩ : ∃ z, z = h0.size := ⟨_, rfl⟩
  rw [← gq975] at A975 D975 st975
  have g976 : n0 ≤ b975 := (Nat.le_trans Z0 (Nat.le_of_eq gq975.symm))
  have sz977 : h0.size ≤ b975 := (Nat.le_trans K0.1 (Nat.le_of_eq gq975.symm))
  have hA978 := CHr.ext E975 hR0.1
  have hR979 := hR0.trans hA978
  have f980 := fa0.ext E975
  have f981 := fa1.ext E975
  have Z982 : n0 ≤ h975.size := (Nat.le_trans Z0 E975.1)
  have K983 : Keep h0 h975 [] := (K0.ext E975)
  have f984 : Fld Z h975 b975 "com/example/greylag/greylag/model/Bundle" "namespace" "Ljava/lang/String;" .null := D975 (Or.inr (hw _ (List.mem_of_getElem? (i := 34) rfl))) (ty := (.object "java/lang/String")) (by decide)
  have f985 : Fld Z h975 b975 "com/example/greylag/greylag/model/Bundle" "lower" "J" (.long (0 : Int64)) := D975 (Or.inr (hw _ (List.mem_of_getElem? (i := 36) rfl))) (ty := .long) (by decide)
  have f986 : Fld Z h975 b975 "com/example/greylag/greylag/model/Bundle" "upper" "J" (.long (0 : Int64)) := D975 (Or.inr (hw _ (List.mem_of_getElem? (i := 38) rfl))) (ty := .long) (by decide)
  refine OFin.of (S' := T975.setTop (mkF m 140 #[.val (.int p0), .val (.int p1), .val (.long q2), .second, .val (.long q3), .second, .val (.long q4), .second, .val (.int p5), .val (.int (2 : Int32)), .val (.int cA0), .val (.int cA1), .val (.int i12), .val (.int (0 : Int32)), .val (.int cB0), .val (.int cB1), .val (.long j16), .second, .val (.long j18), .second, .val (.int i20), .unset, .unset, .unset, .unset, .unset] [(.ref b975)])) (fun t ht => st975 t ht) ?_
  refine OFin.of (S' := T975.setTop (mkF m 147 #[.val (.int p0), .val (.int p1), .val (.long q2), .second, .val (.long q3), .second, .val (.long q4), .second, .val (.int p5), .val (.int (2 : Int32)), .val (.int cA0), .val (.int cA1), .val (.int i12), .val (.int (0 : Int32)), .val (.int cB0), .val (.int cB1), .val (.long j16), .second, .val (.long j18), .second, .val (.int i20), .unset, .unset, .unset, .unset, .unset] [(.int cA1), (.int cA0), (.int (2 : Int32)), (.ref b975), (.ref b975)])) (fun t ht => ?_) ?_
  · refine XS.dup X975.here hx rfl (hb hby at_140) rfl rfl ?_
    show Steps p.tables e below (T975.setTop (mkF m 141 _ [(.ref b975), (.ref b975)])) _
    refine XS.iload X975.here hx rfl (hb hby at_141) rfl ?_
    show Steps p.tables e below (T975.setTop (mkF m 143 _ [(.int (2 : Int32)), (.ref b975), (.ref b975)])) _
    refine XS.iload X975.here hx rfl (hb hby at_143) rfl ?_
    show Steps p.tables e below (T975.setTop (mkF m 145 _ [(.int cA0), (.int (2 : Int32)), (.ref b975), (.ref b975)])) _
    refine XS.iload X975.here hx rfl (hb hby at_145) rfl ?_
    exact ht
  obtain ⟨_, _, ⟨T987, L987, k987, n987⟩, -, X987, ⟨Lc987, hQ987, l987, y987, z987⟩, st987⟩ := Jvm.LawKit.callS X975 hx (y := (⟨"com/example/greylag/greylag/model/BundleEqualsPinLaw", "str", "(ICC)Ljava/lang/String;"⟩ : MethodName)) hown (mvT hZ (hw _ (List.mem_of_getElem? (i := 3) rfl))) (mvT hZ (hw _ (List.mem_of_getElem? (i := 4) rfl))) (mvT hZ (hw _ (List.mem_of_getElem? (i := 5) rfl))) (mvT hZ (hw _ (List.mem_of_getElem? (i := 6) rfl))) (by decide) (backOf (W := 2) (rmSt2 l Z _ hw [] cA0 cA1 b975 cs h975 n0 Z982 A975 f980 hcs (own_hpc okA0) (own_hpc okA1)) hZ (hw _ (List.mem_of_getElem? (i := 6) rfl)) (hw _ (List.mem_of_getElem? (i := 5) rfl)) (by decide) (by decide)) (g := (mkF m 147 #[.val (.int p0), .val (.int p1), .val (.long q2), .second, .val (.long q3), .second, .val (.long q4), .second, .val (.int p5), .val (.int (2 : Int32)), .val (.int cA0), .val (.int cA1), .val (.int i12), .val (.int (0 : Int32)), .val (.int cB0), .val (.int cB1), .val (.long j16), .second, .val (.long j18), .second, .val (.int i20), .unset, .unset, .unset, .unset, .unset] [(.int cA1), (.int cA0), (.int (2 : Int32)), (.ref b975), (.ref b975)])) rfl (by rw [hml]; rfl) (argsL := [(.int (2 : Int32)), (.int cA0), (.int cA1)]) (rest := [(.ref b975), (.ref b975)]) (lenOf pd_9 rfl) rfl (by show 2 * 0 + _ ≤ _; exact Nat.le_of_eq rfl) (hb hby at_147) (fun _ _ => ⟨rfl, e975, (by decide : 1 + 3 ≤ _), (by decide : 3 + 8 ≤ _)⟩)
  dsimp only [Pt.U, Pt.locs, Pt.cells, Pt.slots] at X987 l987 y987 z987 st987 hQ987
  subst l987 y987 z987
  obtain ⟨rfl, Nq987, Kq987, Es987, t987, kb987, f987a, f987b, f987c, nt987⟩ := hQ987
  have N988 := Fr.app N0 Nq987
  obtain ⟨b987, gq987⟩ : ∃ z, z = h975.size := ⟨_, rfl⟩
  rw [← gq987] at Es987 f987a f987b st987
  have g989 : n0 ≤ b987 := (Nat.le_trans Z982 (Nat.le_of_eq gq987.symm))
  have sz990 : h0.size ≤ b987 := (Nat.le_trans K983.1 (Nat.le_of_eq gq987.symm))
  have ne991 : b975 ≠ b987 := (Nat.ne_of_lt (Nat.lt_of_lt_of_le A975.lt (Nat.le_of_eq gq987.symm)))
  have hA992 := CHr.keep Kq987 sf0 hR979.1
  have hR993 := hR979.trans hA992
  have f994 := (own_staKeep f980 Kq987 own_sn0)
  have f995 := (own_staKeep f981 Kq987 own_sn0)
  have f996 := (A975.keep Kq987)
  have f997 := (f984.keep Kq987 nin0)
  have f998 := (f985.keep Kq987 nin0)
  have f999 := (f986.keep Kq987 nin0)
  have Z1000 : n0 ≤ T987.heap.size := (Nat.le_trans Z982 Kq987.1)
  have K1001 : Keep h0 T987.heap [] := (K983.trans Kq987 all0)
  refine OFin.of (S' := T987.setTop (mkF m 150 #[.val (.int p0), .val (.int p1), .val (.long q2), .second, .val (.long q3), .second, .val (.long q4), .second, .val (.int p5), .val (.int (2 : Int32)), .val (.int cA0), .val (.int cA1), .val (.int i12), .val (.int (0 : Int32)), .val (.int cB0), .val (.int cB1), .val (.long j16), .second, .val (.long j18), .second, .val (.int i20), .unset, .unset, .unset, .unset, .unset] [(.ref b987), (.ref b975), (.ref b975)])) (fun t ht => st987 t ht) ?_
  refine OFin.of (S' := T987.setTop (mkF m 153 #[.val (.int p0), .val (.int p1), .val (.long q2), .second, .val (.long q3), .second, .val (.long q4), .second, .val (.int p5), .val (.int (2 : Int32)), .val (.int cA0), .val (.int cA1), .val (.int i12), .val (.int (0 : Int32)), .val (.int cB0), .val (.int cB1), .val (.long j16), .second, .val (.long j18), .second, .val (.int i20), .unset, .unset, .unset, .unset, .unset] [(.long q3), (.long q2), (.ref b987), (.ref b975), (.ref b975)])) (fun t ht => ?_) ?_
  · refine XS.lloadN X987.here hx rfl (hb hby at_150) rfl ?_
    show Steps p.tables e below (T987.setTop (mkF m 151 _ [(.long q2), (.ref b987), (.ref b975), (.ref b975)])) _
    refine XS.lload X987.here hx rfl (hb hby at_151) rfl ?_
    exact ht
  obtain ⟨_, _, ⟨T1002, L1002, k1002, n1002⟩, -, X1002, ⟨Lc1002, hQ1002, l1002, y1002, z1002⟩, st1002⟩ := X987.specialBack hx (y := (⟨"com/example/greylag/greylag/model/Bundle", "<init>", "(Ljava/lang/String;JJ)V"⟩ : MethodName)) rfl hown (mvT hZ (hw _ (List.mem_of_getElem? (i := 29) rfl))) (mvT hZ (hw _ (List.mem_of_getElem? (i := 30) rfl))) (mvT hZ (hw _ (List.mem_of_getElem? (i := 31) rfl))) (by decide) (backOf (W := 1) (rmIni l Z _ hw [] b975 b987 q2 q3 T987.heap n0 Z1000 f996 f997 f998 f999 g976) hZ (hw _ (List.mem_of_getElem? (i := 31) rfl)) (hw _ (List.mem_of_getElem? (i := 2) rfl)) (by decide) (by decide)) (g := (mkF m 153 #[.val (.int p0), .val (.int p1), .val (.long q2), .second, .val (.long q3), .second, .val (.long q4), .second, .val (.int p5), .val (.int (2 : Int32)), .val (.int cA0), .val (.int cA1), .val (.int i12), .val (.int (0 : Int32)), .val (.int cB0), .val (.int cB1), .val (.long j16), .second, .val (.long j18), .second, .val (.int i20), .unset, .unset, .unset, .unset, .unset] [(.long q3), (.long q2), (.ref b987), (.ref b975), (.ref b975)])) rfl (by rw [hml]; rfl) (Steps.refl _) (a := b975) (argsL := [(.ref b987), (.long q2), (.long q3)]) (rest := [(.ref b975)]) (lenOf pd_10 rfl) rfl (by show 2 * 0 + _ ≤ _; exact Nat.le_of_eq rfl) (hb hby at_153) (fun _ _ => ⟨rfl, (rfl : T987.heap = T987.heap), (by decide : 4 + 0 ≤ _), (by decide : 11 + 0 ≤ _)⟩)
  dsimp only [Pt.U, Pt.locs, Pt.cells, Pt.slots] at X1002 l1002 y1002 z1002 st1002 hQ1002
  subst l1002 y1002 z1002
  obtain ⟨rfl, Nq1002, Kq1002, f1003, f1004, f1005⟩ := hQ1002
  have N1006 := Fr.app N988 Nq1002
  have hA1007 := CHr.keep Kq1002 (sfS (Safe.exa hZ.alike f996 (by decide) (by decide)) sf0) hR993.1
  have hR1008 := hR993.trans hA1007
  have f1009 := (own_staKeep f994 Kq1002 (own_snS f996 own_sn0))
  have f1010 := (own_staKeep f995 Kq1002 (own_snS f996 own_sn0))
  have f1011 := (f996.keep Kq1002)
  have f1012 := (Es987.keep Kq1002)
  have f1013 := (f987a.keep Kq1002 (ninS (Ne.symm ne991) nin0))
  have f1014 := (f987b.keep Kq1002 (ninS (Ne.symm ne991) nin0))
  have f1015 := (f987c.keep Kq1002 (ninS (Ne.symm nt987) nin0))
  have Z1016 : n0 ≤ T1002.heap.size := (Nat.le_trans Z1000 Kq1002.1)
  have K1017 : Keep h0 T1002.heap [] := (K1001.trans Kq1002 (allS (Or.inr sz977) all0))
  refine OFin.to (S' := T1002.setTop (mkF m 156 #[.val (.int p0), .val (.int p1), .val (.long q2), .second, .val (.long q3), .second, .val (.long q4), .second, .val (.int p5), .val (.int (2 : Int32)), .val (.int cA0), .val (.int cA1), .val (.int i12), .val (.int (0 : Int32)), .val (.int cB0), .val (.int cB1), .val (.long j16), .second, .val (.long j18), .second, .val (.int i20), .unset, .unset, .unset, .unset, .unset] [(.ref b975)])) st1002 ?_
  refine OFin.of (S' := T1002.setTop (mkF m 158 #[.val (.int p0), .val (.int p1), .val (.long q2), .second, .val (.long q3), .second, .val (.long q4), .second, .val (.int p5), .val (.int (2 : Int32)), .val (.int cA0), .val (.int cA1), .val (.int i12), .val (.int (0 : Int32)), .val (.int cB0), .val (.int cB1), .val (.long j16), .second, .val (.long j18), .second, .val (.int i20), .val (.ref b975), .unset, .unset, .unset, .unset] [])) (fun t ht => ?_) ?_
  · refine XS.astore X1002.here hx rfl (hb hby at_156) rfl rfl (l' := #[.val (.int p0), .val (.int p1), .val (.long q2), .second, .val (.long q3), .second, .val (.long q4), .second, .val (.int p5), .val (.int (2 : Int32)), .val (.int cA0), .val (.int cA1), .val (.int i12), .val (.int (0 : Int32)), .val (.int cB0), .val (.int cB1), .val (.long j16), .second, .val (.long j18), .second, .val (.int i20), .val (.ref b975), .unset, .unset, .unset, .unset]) rfl ?_
    exact ht
  obtain ⟨T1018, h1018, X1018, e1018, E1018, A1018, D1018, -, st1018⟩ := newO X1002 hx hZ hown (hw _ (List.mem_of_getElem? (i := 0) rfl)) (hw _ (List.mem_of_getElem? (i := 1) rfl)) (hw _ (List.mem_of_getElem? (i := 2) rfl)) (rfl : T1002.heap = T1002.heap) (g := (mkF m 158 #[.val (.int p0), .val (.int p1), .val (.long q2), .second, .val (.long q3), .second, .val (.long q4), .second, .val (.int p5), .val (.int (2 : Int32)), .val (.int cA0), .val (.int cA1), .val (.int i12), .val (.int (0 : Int32)), .val (.int cB0), .val (.int cB1), .val (.long j16), .second, .val (.long j18), .second, .val (.int i20), .val (.ref b975), .unset, .unset, .unset, .unset] [])) rfl (hb hby at_158) (by decide) (by decide)
  obtain ⟨b1018, gq1018⟩ : ∃ z, z = T1002.heap.size := ⟨_, rfl⟩
  rw [← gq1018] at A1018 D1018 st1018
  have g1019 : n0 ≤ b1018 := (Nat.le_trans Z1016 (Nat.le_of_eq gq1018.symm))
  have sz1020 : h0.size ≤ b1018 := (Nat.le_trans K1017.1 (Nat.le_of_eq gq1018.symm))
  have ne1021 : b975 ≠ b1018 := (Nat.ne_of_lt (Nat.lt_of_lt_of_le f1011.lt (Nat.le_of_eq gq1018.symm)))
  have ne1022 : b987 ≠ b1018 := (Nat.ne_of_lt (Nat.lt_of_lt_of_le f1012.lt (Nat.le_of_eq gq1018.symm)))
  have ne1023 : t987 ≠ b1018 := (Nat.ne_of_lt (Nat.lt_of_lt_of_le f1015.lt (Nat.le_of_eq gq1018.symm)))
  have hA1024 := CHr.ext E1018 hR1008.1
  have hR1025 := hR1008.trans hA1024
  have f1026 := f1009.ext E1018
  have f1027 := f1010.ext E1018
  have f1028 := f1011.ext E1018
  have f1029 := f1012.ext E1018
  have f1030 := f1013.ext E1018
  have f1031 := f1014.ext E1018
  have f1032 := f1015.ext E1018
  have f1033 := f1003.ext E1018
  have f1034 := f1004.ext E1018
  have f1035 := f1005.ext E1018
  have Z1036 : n0 ≤ h1018.size := (Nat.le_trans Z1016 E1018.1)
  have K1037 : Keep h0 h1018 [] := (K1017.ext E1018)
  have f1038 : Fld Z h1018 b1018 "com/example/greylag/greylag/model/Bundle" "namespace" "Ljava/lang/String;" .null := D1018 (Or.inr (hw _ (List.mem_of_getElem? (i := 34) rfl))) (ty := (.object "java/lang/String")) (by decide)
  have f1039 : Fld Z h1018 b1018 "com/example/greylag/greylag/model/Bundle" "lower" "J" (.long (0 : Int64)) := D1018 (Or.inr (hw _ (List.mem_of_getElem? (i := 36) rfl))) (ty := .long) (by decide)
  have f1040 : Fld Z h1018 b1018 "com/example/greylag/greylag/model/Bundle" "upper" "J" (.long (0 : Int64)) := D1018 (Or.inr (hw _ (List.mem_of_getElem? (i := 38) rfl))) (ty := .long) (by decide)
  refine OFin.of (S' := T1018.setTop (mkF m 161 #[.val (.int p0), .val (.int p1), .val (.long q2), .second, .val (.long q3), .second, .val (.long q4), .second, .val (.int p5), .val (.int (2 : Int32)), .val (.int cA0), .val (.int cA1), .val (.int i12), .val (.int (0 : Int32)), .val (.int cB0), .val (.int cB1), .val (.long j16), .second, .val (.long j18), .second, .val (.int i20), .val (.ref b975), .unset, .unset, .unset, .unset] [(.ref b1018)])) (fun t ht => st1018 t ht) ?_
  refine OFin.of (S' := T1018.setTop (mkF m 168 #[.val (.int p0), .val (.int p1), .val (.long q2), .second, .val (.long q3), .second, .val (.long q4), .second, .val (.int p5), .val (.int (2 : Int32)), .val (.int cA0), .val (.int cA1), .val (.int i12), .val (.int (0 : Int32)), .val (.int cB0), .val (.int cB1), .val (.long j16), .second, .val (.long j18), .second, .val (.int i20), .val (.ref b975), .unset, .unset, .unset, .unset] [(.int cB1), (.int cB0), (.int (0 : Int32)), (.ref b1018), (.ref b1018)])) (fun t ht => ?_) ?_
  · refine XS.dup X1018.here hx rfl (hb hby at_161) rfl rfl ?_
    show Steps p.tables e below (T1018.setTop (mkF m 162 _ [(.ref b1018), (.ref b1018)])) _
    refine XS.iload X1018.here hx rfl (hb hby at_162) rfl ?_
    show Steps p.tables e below (T1018.setTop (mkF m 164 _ [(.int (0 : Int32)), (.ref b1018), (.ref b1018)])) _
    refine XS.iload X1018.here hx rfl (hb hby at_164) rfl ?_
    show Steps p.tables e below (T1018.setTop (mkF m 166 _ [(.int cB0), (.int (0 : Int32)), (.ref b1018), (.ref b1018)])) _
    refine XS.iload X1018.here hx rfl (hb hby at_166) rfl ?_
    exact ht
  obtain ⟨_, _, ⟨T1041, L1041, k1041, n1041⟩, -, X1041, Sq1041, gr1041, ⟨Lc1041, hQ1041, l1041, y1041, z1041, CH1041⟩, st1041⟩ := callSS X1018 hx (y := (⟨"com/example/greylag/greylag/model/BundleEqualsPinLaw", "str", "(ICC)Ljava/lang/String;"⟩ : MethodName)) hown (mvT hZ (hw _ (List.mem_of_getElem? (i := 3) rfl))) (mvT hZ (hw _ (List.mem_of_getElem? (i := 4) rfl))) (mvT hZ (hw _ (List.mem_of_getElem? (i := 5) rfl))) (mvT hZ (hw _ (List.mem_of_getElem? (i := 6) rfl))) (by decide) (backOfSH (s := s) (vm0 := s.vm) (W := 2) (rmSt0 l Z _ hw [] cB0 cB1 b1018 h1018 n0 Z1036 A1018) hZ (hw _ (List.mem_of_getElem? (i := 6) rfl)) (hw _ (List.mem_of_getElem? (i := 5) rfl)) (by decide) (by decide) hEL hR1025.1) (g := (mkF m 168 #[.val (.int p0), .val (.int p1), .val (.long q2), .second, .val (.long q3), .second, .val (.long q4), .second, .val (.int p5), .val (.int (2 : Int32)), .val (.int cA0), .val (.int cA1), .val (.int i12), .val (.int (0 : Int32)), .val (.int cB0), .val (.int cB1), .val (.long j16), .second, .val (.long j18), .second, .val (.int i20), .val (.ref b975), .unset, .unset, .unset, .unset] [(.int cB1), (.int cB0), (.int (0 : Int32)), (.ref b1018), (.ref b1018)])) rfl (by rw [hml]; rfl) (argsL := [(.int (0 : Int32)), (.int cB0), (.int cB1)]) (rest := [(.ref b1018), (.ref b1018)]) (lenOf pd_9 rfl) rfl (by show 2 * 0 + _ ≤ _; exact Nat.le_of_eq rfl) (hb hby at_168) (fun _ _ => ⟨rfl, e1018, (by decide : 5 + 6 ≤ _), (by decide : 14 + 12 ≤ _)⟩)
  dsimp only [Pt.U, Pt.locs, Pt.cells, Pt.slots] at X1041 l1041 y1041 z1041 st1041 hQ1041 Sq1041 gr1041 CH1041
  subst l1041 y1041 z1041
  have hZ1041 : Z.Warmed39 (s.setVm T1041.vm).vm := State.Warmed39.trans (t := s.setVm s.vm) hZ Sq1041.1
  have hown1041 : (s.setVm T1041.vm).vm.findClass "com/example/greylag/greylag/model/BundleEqualsPinLaw" = some m.cls := by rw [show (s.setVm T1041.vm).vm = T1041.vm from rfl, Sq1041.1.alike.findClass]; exact hown
  have S1041 : s.Since T1041.vm T1041.heap.size := State.Since.trans (s := s) (vm₁ := s.vm) ((State.WarmedH.refl s).since h1018.size) Sq1041 (Nat.le_trans (Nat.le_refl _) (by rw [← e1018]; exact gr1041))
  obtain ⟨rfl, Nq1041, Kq1041, Es1041, t1041, kb1041, f1041a, f1041b, f1041c, nt1041⟩ := hQ1041
  have N1042 := Fr.app N1006 Nq1041
  obtain ⟨b1041, gq1041⟩ : ∃ z, z = h1018.size := ⟨_, rfl⟩
  rw [← gq1041] at Es1041 f1041a f1041b st1041
  have g1043 : n0 ≤ b1041 := (Nat.le_trans Z1036 (Nat.le_of_eq gq1041.symm))
  have sz1044 : h0.size ≤ b1041 := (Nat.le_trans K1037.1 (Nat.le_of_eq gq1041.symm))
  have ne1045 : b975 ≠ b1041 := (Nat.ne_of_lt (Nat.lt_of_lt_of_le f1028.lt (Nat.le_of_eq gq1041.symm)))
  have ne1046 : b987 ≠ b1041 := (Nat.ne_of_lt (Nat.lt_of_lt_of_le f1029.lt (Nat.le_of_eq gq1041.symm)))
  have ne1047 : t987 ≠ b1041 := (Nat.ne_of_lt (Nat.lt_of_lt_of_le f1032.lt (Nat.le_of_eq gq1041.symm)))
  have ne1048 : b1018 ≠ b1041 := (Nat.ne_of_lt (Nat.lt_of_lt_of_le A1018.lt (Nat.le_of_eq gq1041.symm)))
  have hA1049 := CH1041
  have hR1050 := hR1025.trans hA1049
  have f1051 := (own_staKeep f1026 Kq1041 own_sn0)
  have f1052 := (own_staKeep f1027 Kq1041 own_sn0)
  have f1053 := (f1028.keep Kq1041)
  have f1054 := (f1029.keep Kq1041)
  have f1055 := (f1030.keep Kq1041 nin0)
  have f1056 := (f1031.keep Kq1041 nin0)
  have f1057 := (f1032.keep Kq1041 nin0)
  have f1058 := (f1033.keep Kq1041 nin0)
  have f1059 := (f1034.keep Kq1041 nin0)
  have f1060 := (f1035.keep Kq1041 nin0)
  have f1061 := (A1018.keep Kq1041)
  have f1062 := (f1038.keep Kq1041 nin0)
  have f1063 := (f1039.keep Kq1041 nin0)
  have f1064 := (f1040.keep Kq1041 nin0)
  have Z1065 : n0 ≤ T1041.heap.size := (Nat.le_trans Z1036 Kq1041.1)
  have K1066 : Keep h0 T1041.heap [] := (K1037.trans Kq1041 all0)
  refine OFin.to (S' := T1041.setTop (mkF m 171 #[.val (.int p0), .val (.int p1), .val (.long q2), .second, .val (.long q3), .second, .val (.long q4), .second, .val (.int p5), .val (.int (2 : Int32)), .val (.int cA0), .val (.int cA1), .val (.int i12), .val (.int (0 : Int32)), .val (.int cB0), .val (.int cB1), .val (.long j16), .second, .val (.long j18), .second, .val (.int i20), .val (.ref b975), .unset, .unset, .unset, .unset] [(.ref b1041), (.ref b1018), (.ref b1018)])) st1041 ?_
  refine OFin.of (S' := T1041.setTop (mkF m 175 #[.val (.int p0), .val (.int p1), .val (.long q2), .second, .val (.long q3), .second, .val (.long q4), .second, .val (.int p5), .val (.int (2 : Int32)), .val (.int cA0), .val (.int cA1), .val (.int i12), .val (.int (0 : Int32)), .val (.int cB0), .val (.int cB1), .val (.long j16), .second, .val (.long j18), .second, .val (.int i20), .val (.ref b975), .unset, .unset, .unset, .unset] [(.long j18), (.long j16), (.ref b1041), (.ref b1018), (.ref b1018)])) (fun t ht => ?_) ?_
  · refine XS.lload X1041.here hx rfl (hb hby at_171) rfl ?_
    show Steps p.tables e below (T1041.setTop (mkF m 173 _ [(.long j16), (.ref b1041), (.ref b1018), (.ref b1018)])) _
    refine XS.lload X1041.here hx rfl (hb hby at_173) rfl ?_
    exact ht
  obtain ⟨_, _, ⟨T1067, L1067, k1067, n1067⟩, -, X1067, ⟨Lc1067, hQ1067, l1067, y1067, z1067⟩, st1067⟩ := X1041.specialBack hx (y := (⟨"com/example/greylag/greylag/model/Bundle", "<init>", "(Ljava/lang/String;JJ)V"⟩ : MethodName)) rfl hown1041 (mvT hZ1041 (hw _ (List.mem_of_getElem? (i := 29) rfl))) (mvT hZ1041 (hw _ (List.mem_of_getElem? (i := 30) rfl))) (mvT hZ1041 (hw _ (List.mem_of_getElem? (i := 31) rfl))) (by decide) (backOf (W := 1) (rmIni l Z _ hw [] b1018 b1041 j16 j18 T1041.heap n0 Z1065 f1061 f1062 f1063 f1064 g1019) hZ1041 (hw _ (List.mem_of_getElem? (i := 31) rfl)) (hw _ (List.mem_of_getElem? (i := 2) rfl)) (by decide) (by decide)) (g := (mkF m 175 #[.val (.int p0), .val (.int p1), .val (.long q2), .second, .val (.long q3), .second, .val (.long q4), .second, .val (.int p5), .val (.int (2 : Int32)), .val (.int cA0), .val (.int cA1), .val (.int i12), .val (.int (0 : Int32)), .val (.int cB0), .val (.int cB1), .val (.long j16), .second, .val (.long j18), .second, .val (.int i20), .val (.ref b975), .unset, .unset, .unset, .unset] [(.long j18), (.long j16), (.ref b1041), (.ref b1018), (.ref b1018)])) rfl (by rw [hml]; rfl) (Steps.refl _) (a := b1018) (argsL := [(.ref b1041), (.long j16), (.long j18)]) (rest := [(.ref b1018)]) (lenOf pd_10 rfl) rfl (by show 2 * 0 + _ ≤ _; exact Nat.le_of_eq rfl) (hb hby at_175) (fun _ _ => ⟨rfl, (rfl : T1041.heap = T1041.heap), (by decide : 11 + 0 ≤ _), (by decide : 26 + 0 ≤ _)⟩)
  dsimp only [Pt.U, Pt.locs, Pt.cells, Pt.slots] at X1067 l1067 y1067 z1067 st1067 hQ1067
  subst l1067 y1067 z1067
  obtain ⟨rfl, Nq1067, Kq1067, f1068, f1069, f1070⟩ := hQ1067
  have N1071 := Fr.app N1042 Nq1067
  have hA1072 := CHr.keep Kq1067 (sfS (Safe.exa hZ1041.alike f1061 (by decide) (by decide)) sf0) hR1050.1
  have hR1073 := hR1050.trans hA1072
  have f1074 := (own_staKeep f1051 Kq1067 (own_snS f1061 own_sn0))
  have f1075 := (own_staKeep f1052 Kq1067 (own_snS f1061 own_sn0))
  have f1076 := (f1053.keep Kq1067)
  have f1077 := (f1054.keep Kq1067)
  have f1078 := (f1055.keep Kq1067 (ninS ne1022 nin0))
  have f1079 := (f1056.keep Kq1067 (ninS ne1022 nin0))
  have f1080 := (f1057.keep Kq1067 (ninS ne1023 nin0))
  have f1081 := (f1058.keep Kq1067 (ninS ne1021 nin0))
  have f1082 := (f1059.keep Kq1067 (ninS ne1021 nin0))
  have f1083 := (f1060.keep Kq1067 (ninS ne1021 nin0))
  have f1084 := (f1061.keep Kq1067)
  have f1085 := (Es1041.keep Kq1067)
  have f1086 := (f1041a.keep Kq1067 (ninS (Ne.symm ne1048) nin0))
  have f1087 := (f1041b.keep Kq1067 (ninS (Ne.symm ne1048) nin0))
  have f1088 := (f1041c.keep Kq1067 (ninS (Ne.symm nt1041) nin0))
  have Z1089 : n0 ≤ T1067.heap.size := (Nat.le_trans Z1065 Kq1067.1)
  have K1090 : Keep h0 T1067.heap [] := (K1066.trans Kq1067 (allS (Or.inr sz1020) all0))
  have kk1091 : T1041.heap.size ≤ T1067.heap.size := (Nat.le_trans (Nat.le_refl _) Kq1067.1)
  refine OFin.to (S' := T1067.setTop (mkF m 178 #[.val (.int p0), .val (.int p1), .val (.long q2), .second, .val (.long q3), .second, .val (.long q4), .second, .val (.int p5), .val (.int (2 : Int32)), .val (.int cA0), .val (.int cA1), .val (.int i12), .val (.int (0 : Int32)), .val (.int cB0), .val (.int cB1), .val (.long j16), .second, .val (.long j18), .second, .val (.int i20), .val (.ref b975), .unset, .unset, .unset, .unset] [(.ref b1018)])) st1067 ?_
  refine OFin.of (S' := T1067.setTop (mkF m 181 #[.val (.int p0), .val (.int p1), .val (.long q2), .second, .val (.long q3), .second, .val (.long q4), .second, .val (.int p5), .val (.int (2 : Int32)), .val (.int cA0), .val (.int cA1), .val (.int i12), .val (.int (0 : Int32)), .val (.int cB0), .val (.int cB1), .val (.long j16), .second, .val (.long j18), .second, .val (.int i20), .val (.ref b975), .val (.ref b1018), .unset, .unset, .unset] [(.long q2)])) (fun t ht => ?_) ?_
  · refine XS.astore X1067.here hx rfl (hb hby at_178) rfl rfl (l' := #[.val (.int p0), .val (.int p1), .val (.long q2), .second, .val (.long q3), .second, .val (.long q4), .second, .val (.int p5), .val (.int (2 : Int32)), .val (.int cA0), .val (.int cA1), .val (.int i12), .val (.int (0 : Int32)), .val (.int cB0), .val (.int cB1), .val (.long j16), .second, .val (.long j18), .second, .val (.int i20), .val (.ref b975), .val (.ref b1018), .unset, .unset, .unset]) rfl ?_
    show Steps p.tables e below (T1067.setTop (mkF m 180 #[.val (.int p0), .val (.int p1), .val (.long q2), .second, .val (.long q3), .second, .val (.long q4), .second, .val (.int p5), .val (.int (2 : Int32)), .val (.int cA0), .val (.int cA1), .val (.int i12), .val (.int (0 : Int32)), .val (.int cB0), .val (.int cB1), .val (.long j16), .second, .val (.long j18), .second, .val (.int i20), .val (.ref b975), .val (.ref b1018), .unset, .unset, .unset] [])) _
    refine XS.lloadN X1067.here hx rfl (hb hby at_180) rfl ?_
    exact ht
  obtain ⟨_, _, ⟨T1092, L1092, k1092, n1092⟩, -, X1092, ⟨Lc1092, hQ1092, l1092, y1092, z1092⟩, st1092⟩ := Jvm.LawKit.callS X1067 hx (y := (⟨"java/lang/Long", "valueOf", "(J)Ljava/lang/Long;"⟩ : MethodName)) hown1041 (mvT hZ1041 (hw _ (List.mem_of_getElem? (i := 39) rfl))) (mvT hZ1041 (hw _ (List.mem_of_getElem? (i := 40) rfl))) (mvT hZ1041 (hw _ (List.mem_of_getElem? (i := 41) rfl))) (mvT hZ1041 (hw _ (List.mem_of_getElem? (i := 42) rfl))) (by decide) (backOf (W := 0) (rmVo l Z _ hw [] q2 ac T1067.heap n0 Z1089 f1075 (hLC.keep K1090)) hZ1041 (hw _ (List.mem_of_getElem? (i := 42) rfl)) (hw _ (List.mem_of_getElem? (i := 41) rfl)) (by decide) (by decide)) (g := (mkF m 181 #[.val (.int p0), .val (.int p1), .val (.long q2), .second, .val (.long q3), .second, .val (.long q4), .second, .val (.int p5), .val (.int (2 : Int32)), .val (.int cA0), .val (.int cA1), .val (.int i12), .val (.int (0 : Int32)), .val (.int cB0), .val (.int cB1), .val (.long j16), .second, .val (.long j18), .second, .val (.int i20), .val (.ref b975), .val (.ref b1018), .unset, .unset, .unset] [(.long q2)])) rfl (by rw [hml]; rfl) (argsL := [(.long q2)]) (rest := []) (lenOf pd_11 rfl) rfl (by show 2 * 0 + _ ≤ _; exact Nat.le_of_eq rfl) (hb hby at_181) (fun _ _ => ⟨rfl, (rfl : T1067.heap = T1067.heap), (by decide : 11 + 1 ≤ _), (by decide : 26 + 1 ≤ _)⟩)
  dsimp only [Pt.U, Pt.locs, Pt.cells, Pt.slots] at X1092 l1092 y1092 z1092 st1092 hQ1092
  subst l1092 y1092 z1092
  obtain ⟨r1092, rfl, Nq1092, Kq1092, Er1092⟩ := hQ1092
  have N1093 := Fr.app N1071 Nq1092
  have f1094 := (own_staKeep f1074 Kq1092 own_sn0)
  have f1095 := (own_staKeep f1075 Kq1092 own_sn0)
  have f1096 := (f1076.keep Kq1092)
  have f1097 := (f1077.keep Kq1092)
  have f1098 := (f1078.keep Kq1092 nin0)
  have f1099 := (f1079.keep Kq1092 nin0)
  have f1100 := (f1080.keep Kq1092 nin0)
  have f1101 := (f1081.keep Kq1092 nin0)
  have f1102 := (f1082.keep Kq1092 nin0)
  have f1103 := (f1083.keep Kq1092 nin0)
  have f1104 := (f1084.keep Kq1092)
  have f1105 := (f1085.keep Kq1092)
  have f1106 := (f1086.keep Kq1092 nin0)
  have f1107 := (f1087.keep Kq1092 nin0)
  have f1108 := (f1088.keep Kq1092 nin0)
  have f1109 := (f1068.keep Kq1092 nin0)
  have f1110 := (f1069.keep Kq1092 nin0)
  have f1111 := (f1070.keep Kq1092 nin0)
  have Z1112 : n0 ≤ T1092.heap.size := (Nat.le_trans Z1089 Kq1092.1)
  have K1113 : Keep h0 T1092.heap [] := (K1090.trans Kq1092 all0)
  have kk1114 : T1041.heap.size ≤ T1092.heap.size := (Nat.le_trans kk1091 Kq1092.1)
  refine OFin.of (S' := T1092.setTop (mkF m 184 #[.val (.int p0), .val (.int p1), .val (.long q2), .second, .val (.long q3), .second, .val (.long q4), .second, .val (.int p5), .val (.int (2 : Int32)), .val (.int cA0), .val (.int cA1), .val (.int i12), .val (.int (0 : Int32)), .val (.int cB0), .val (.int cB1), .val (.long j16), .second, .val (.long j18), .second, .val (.int i20), .val (.ref b975), .val (.ref b1018), .unset, .unset, .unset] [(.ref r1092)])) (fun t ht => st1092 t ht) ?_
  refine OFin.of (S' := T1092.setTop (mkF m 186 #[.val (.int p0), .val (.int p1), .val (.long q2), .second, .val (.long q3), .second, .val (.long q4), .second, .val (.int p5), .val (.int (2 : Int32)), .val (.int cA0), .val (.int cA1), .val (.int i12), .val (.int (0 : Int32)), .val (.int cB0), .val (.int cB1), .val (.long j16), .second, .val (.long j18), .second, .val (.int i20), .val (.ref b975), .val (.ref b1018), .val (.ref r1092), .unset, .unset] [])) (fun t ht => ?_) ?_
  · refine XS.astore X1092.here hx rfl (hb hby at_184) rfl rfl (l' := #[.val (.int p0), .val (.int p1), .val (.long q2), .second, .val (.long q3), .second, .val (.long q4), .second, .val (.int p5), .val (.int (2 : Int32)), .val (.int cA0), .val (.int cA1), .val (.int i12), .val (.int (0 : Int32)), .val (.int cB0), .val (.int cB1), .val (.long j16), .second, .val (.long j18), .second, .val (.int i20), .val (.ref b975), .val (.ref b1018), .val (.ref r1092), .unset, .unset]) rfl ?_
    exact ht
  exact segT (s := s) (vm1 := T1041.vm) Z _ hw hx hby hlk hret hml hown1041 hZ1041 n0 p0 p1 q2 q3 q4 p5 (2 : Int32) cA0 cA1 i12 (0 : Int32) cB0 cB1 j16 j18 i20 b975 b1018 r1092 b987 b1041 (0 : Int32) (0 : Int32) (X1092.more (by decide) (by decide)) (rfl : T1092.heap = T1092.heap) Z1112 N1093 f1096 f1104 f1097 f1105 Er1092 f1101 f1102 f1103 f1109 f1110 f1111 (rmEqG l Z _ hw [] b987 b1041 t987 t1041 cs (0 : Int32) T1092.heap n0 Z1112 f1105 f1098 f1106 f1099 f1107 f1094 hcs ne1046 (Or.inl rfl) (rmLeN l Z _ hw [] t987 t1041 kb987 kb1041 _ _ _ _ T1092.heap n0 Z1112 f1100 f1108 (by decide))) (rmEqG l Z _ hw [] b1041 b987 t1041 t987 cs (0 : Int32) T1092.heap n0 Z1112 f1097 f1106 f1098 f1107 f1099 f1094 hcs (Ne.symm ne1046) (Or.inl rfl) (rmLeN l Z _ hw [] t1041 t987 kb1041 kb987 _ _ _ _ T1092.heap n0 Z1112 f1108 f1100 (by decide))) (own_ez (by decide)) (own_ez (by decide)) S1041 kk1114 hQ
set_option maxRecDepth 65536 in
set_option maxHeartbeats 40000000 in
theorem seg21 {p : Program} {l : Launch} {e : Env} {s : State} {m : MethodId} {args : Array Value} {below : List Frame} {meth : Method} {c : Code} (Z : State) (a0 : Array Value) (hw : ∀ d ∈ tables_1, d.before a0 Z = true) (hx : p.tables.exec = Jvm.exec) (hby : c.code = code) (hlk : meth.locks = false) (hret : meth.sig.returnType = some .boolean) (hml : c.maxLocals = 26) (hown : s.vm.findClass "com/example/greylag/greylag/model/BundleEqualsPinLaw" = some m.cls) (hZ : Z.Warmed39 s.vm) {Q : Option Value → Heap → List Loc → Prop} (n0 : Nat) (p0 : Int32) (p1 : Int32) (q2 : Int64) (q3 : Int64) (q4 : Int64) (p5 : Int32) (cA0 : Int32) (cA1 : Int32) (i12 : Int32) (cB0 : Int32) (cB1 : Int32) (j16 : Int64) (j18 : Int64) (i20 : Int32) (cs : Int32) (ac : Addr) {T0 : State} {locs : List Loc} {h0 : Heap} (X0 : Stand p l e room_1 s m args below meth c T0 locs 0 0) (e0 : T0.heap = h0) (Z0 : n0 ≤ h0.size) (N0 : Fr n0 locs) (fa0 : Sta Z h0 "java/lang/String" "COMPACT_STRINGS" "Z" (.int cs)) (fa1 : Sta Z h0 "java/lang/Long$LongCache" "cache" "[Ljava/lang/Long;" (.ref ac)) (hcs : ¬ cs = (0 : Int32)) (hLC : OwnLC Z h0 ac) (okA0 : OwnOk cA0) (okA1 : OwnOk cA1) (okB0 : OwnOk cB0) (okB1 : OwnOk cB1) (hC0 : CHv Z consts_1 s.vm h0) (hQ : ∀ (h' : Heap) (L : List Loc), Fr n0 L → Q (some (.int (1 : Int32))) h' L) :
    OFin p e below (KPostW s Q room_1.cells room_1.slots) (T0.setTop (mkF m 137 #[.val (.int p0), .val (.int p1), .val (.long q2), .second, .val (.long q3), .second, .val (.long q4), .second, .val (.int p5), .val (.int (2 : Int32)), .val (.int cA0), .val (.int cA1), .val (.int i12), .val (.int (1 : Int32)), .val (.int cB0), .val (.int cB1), .val (.long j16), .second, .val (.long j18), .second, .val (.int i20), .unset, .unset, .unset, .unset, .unset] [])) := by
  have K0 : Keep h0 h0 [] := Keep.refl _ _
  have hR0 : CHr Z consts_1 s.vm h0 s.vm h0 := CHr.refl hC0
  have hEL := own_EW hw
  obtain ⟨T1115, h1115, X1115, e1115, E1115, A1115, D1115, -, st1115⟩ := newO X0 hx hZ hown (hw _ (List.mem_of_getElem? (i := 0) rfl)) (hw _ (List.mem_of_getElem? (i := 1) rfl)) (hw _ (List.mem_of_getElem? (i := 2) rfl)) e0 (g := (mkF m 137 #[.val (.int p0), .val (.int p1), .val (.long q2), .second, .val (.long q3), .second, .val (.long q4), .second, .val (.int p5), .val (.int (2 : Int32)), .val (.int cA0), .val (.int cA1), .val (.int i12), .val (.int (1 : Int32)), .val (.int cB0), .val (.int cB1), .val (.long j16), .second, .val (.long j18), .second, .val (.int i20), .unset, .unset, .unset, .unset, .unset] [])) rfl (hb hby at_137) (by decide) (by decide)
  obtain ⟨b1115, gq1115⟩ : ∃ z, z = h0.size := ⟨_, rfl⟩
  rw [← gq1115] at A1115 D1115 st1115
  have g1116 : n0 ≤ b1115 := (Nat.le_trans Z0 (Nat.le_of_eq gq1115.symm))
  have sz1117 : h0.size ≤ b1115 := (Nat.le_trans K0.1 (Nat.le_of_eq gq1115.symm))
  have hA1118 := CHr.ext E1115 hR0.1
  have hR1119 := hR0.trans hA1118
  have f1120 := fa0.ext E1115
  have f1121 := fa1.ext E1115
  have Z1122 : n0 ≤ h1115.size := (Nat.le_trans Z0 E1115.1)
  have K1123 : Keep h0 h1115 [] := (K0.ext E1115)
  have f1124 : Fld Z h1115 b1115 "com/example/greylag/greylag/model/Bundle" "namespace" "Ljava/lang/String;" .null := D1115 (Or.inr (hw _ (List.mem_of_getElem? (i := 34) rfl))) (ty := (.object "java/lang/String")) (by decide)
  have f1125 : Fld Z h1115 b1115 "com/example/greylag/greylag/model/Bundle" "lower" "J" (.long (0 : Int64)) := D1115 (Or.inr (hw _ (List.mem_of_getElem? (i := 36) rfl))) (ty := .long) (by decide)
  have f1126 : Fld Z h1115 b1115 "com/example/greylag/greylag/model/Bundle" "upper" "J" (.long (0 : Int64)) := D1115 (Or.inr (hw _ (List.mem_of_getElem? (i := 38) rfl))) (ty := .long) (by decide)
  refine OFin.of (S' := T1115.setTop (mkF m 140 #[.val (.int p0), .val (.int p1), .val (.long q2), .second, .val (.long q3), .second, .val (.long q4), .second, .val (.int p5), .val (.int (2 : Int32)), .val (.int cA0), .val (.int cA1), .val (.int i12), .val (.int (1 : Int32)), .val (.int cB0), .val (.int cB1), .val (.long j16), .second, .val (.long j18), .second, .val (.int i20), .unset, .unset, .unset, .unset, .unset] [(.ref b1115)])) (fun t ht => st1115 t ht) ?_
  refine OFin.of (S' := T1115.setTop (mkF m 147 #[.val (.int p0), .val (.int p1), .val (.long q2), .second, .val (.long q3), .second, .val (.long q4), .second, .val (.int p5), .val (.int (2 : Int32)), .val (.int cA0), .val (.int cA1), .val (.int i12), .val (.int (1 : Int32)), .val (.int cB0), .val (.int cB1), .val (.long j16), .second, .val (.long j18), .second, .val (.int i20), .unset, .unset, .unset, .unset, .unset] [(.int cA1), (.int cA0), (.int (2 : Int32)), (.ref b1115), (.ref b1115)])) (fun t ht => ?_) ?_
  · refine XS.dup X1115.here hx rfl (hb hby at_140) rfl rfl ?_
    show Steps p.tables e below (T1115.setTop (mkF m 141 _ [(.ref b1115), (.ref b1115)])) _
    refine XS.iload X1115.here hx rfl (hb hby at_141) rfl ?_
    show Steps p.tables e below (T1115.setTop (mkF m 143 _ [(.int (2 : Int32)), (.ref b1115), (.ref b1115)])) _
    refine XS.iload X1115.here hx rfl (hb hby at_143) rfl ?_
    show Steps p.tables e below (T1115.setTop (mkF m 145 _ [(.int cA0), (.int (2 : Int32)), (.ref b1115), (.ref b1115)])) _
    refine XS.iload X1115.here hx rfl (hb hby at_145) rfl ?_
    exact ht
  obtain ⟨_, _, ⟨T1127, L1127, k1127, n1127⟩, -, X1127, ⟨Lc1127, hQ1127, l1127, y1127, z1127⟩, st1127⟩ := Jvm.LawKit.callS X1115 hx (y := (⟨"com/example/greylag/greylag/model/BundleEqualsPinLaw", "str", "(ICC)Ljava/lang/String;"⟩ : MethodName)) hown (mvT hZ (hw _ (List.mem_of_getElem? (i := 3) rfl))) (mvT hZ (hw _ (List.mem_of_getElem? (i := 4) rfl))) (mvT hZ (hw _ (List.mem_of_getElem? (i := 5) rfl))) (mvT hZ (hw _ (List.mem_of_getElem? (i := 6) rfl))) (by decide) (backOf (W := 2) (rmSt2 l Z _ hw [] cA0 cA1 b1115 cs h1115 n0 Z1122 A1115 f1120 hcs (own_hpc okA0) (own_hpc okA1)) hZ (hw _ (List.mem_of_getElem? (i := 6) rfl)) (hw _ (List.mem_of_getElem? (i := 5) rfl)) (by decide) (by decide)) (g := (mkF m 147 #[.val (.int p0), .val (.int p1), .val (.long q2), .second, .val (.long q3), .second, .val (.long q4), .second, .val (.int p5), .val (.int (2 : Int32)), .val (.int cA0), .val (.int cA1), .val (.int i12), .val (.int (1 : Int32)), .val (.int cB0), .val (.int cB1), .val (.long j16), .second, .val (.long j18), .second, .val (.int i20), .unset, .unset, .unset, .unset, .unset] [(.int cA1), (.int cA0), (.int (2 : Int32)), (.ref b1115), (.ref b1115)])) rfl (by rw [hml]; rfl) (argsL := [(.int (2 : Int32)), (.int cA0), (.int cA1)]) (rest := [(.ref b1115), (.ref b1115)]) (lenOf pd_9 rfl) rfl (by show 2 * 0 + _ ≤ _; exact Nat.le_of_eq rfl) (hb hby at_147) (fun _ _ => ⟨rfl, e1115, (by decide : 1 + 3 ≤ _), (by decide : 3 + 8 ≤ _)⟩)
  dsimp only [Pt.U, Pt.locs, Pt.cells, Pt.slots] at X1127 l1127 y1127 z1127 st1127 hQ1127
  subst l1127 y1127 z1127
  obtain ⟨rfl, Nq1127, Kq1127, Es1127, t1127, kb1127, f1127a, f1127b, f1127c, nt1127⟩ := hQ1127
  have N1128 := Fr.app N0 Nq1127
  obtain ⟨b1127, gq1127⟩ : ∃ z, z = h1115.size := ⟨_, rfl⟩
  rw [← gq1127] at Es1127 f1127a f1127b st1127
  have g1129 : n0 ≤ b1127 := (Nat.le_trans Z1122 (Nat.le_of_eq gq1127.symm))
  have sz1130 : h0.size ≤ b1127 := (Nat.le_trans K1123.1 (Nat.le_of_eq gq1127.symm))
  have ne1131 : b1115 ≠ b1127 := (Nat.ne_of_lt (Nat.lt_of_lt_of_le A1115.lt (Nat.le_of_eq gq1127.symm)))
  have hA1132 := CHr.keep Kq1127 sf0 hR1119.1
  have hR1133 := hR1119.trans hA1132
  have f1134 := (own_staKeep f1120 Kq1127 own_sn0)
  have f1135 := (own_staKeep f1121 Kq1127 own_sn0)
  have f1136 := (A1115.keep Kq1127)
  have f1137 := (f1124.keep Kq1127 nin0)
  have f1138 := (f1125.keep Kq1127 nin0)
  have f1139 := (f1126.keep Kq1127 nin0)
  have Z1140 : n0 ≤ T1127.heap.size := (Nat.le_trans Z1122 Kq1127.1)
  have K1141 : Keep h0 T1127.heap [] := (K1123.trans Kq1127 all0)
  refine OFin.of (S' := T1127.setTop (mkF m 150 #[.val (.int p0), .val (.int p1), .val (.long q2), .second, .val (.long q3), .second, .val (.long q4), .second, .val (.int p5), .val (.int (2 : Int32)), .val (.int cA0), .val (.int cA1), .val (.int i12), .val (.int (1 : Int32)), .val (.int cB0), .val (.int cB1), .val (.long j16), .second, .val (.long j18), .second, .val (.int i20), .unset, .unset, .unset, .unset, .unset] [(.ref b1127), (.ref b1115), (.ref b1115)])) (fun t ht => st1127 t ht) ?_
  refine OFin.of (S' := T1127.setTop (mkF m 153 #[.val (.int p0), .val (.int p1), .val (.long q2), .second, .val (.long q3), .second, .val (.long q4), .second, .val (.int p5), .val (.int (2 : Int32)), .val (.int cA0), .val (.int cA1), .val (.int i12), .val (.int (1 : Int32)), .val (.int cB0), .val (.int cB1), .val (.long j16), .second, .val (.long j18), .second, .val (.int i20), .unset, .unset, .unset, .unset, .unset] [(.long q3), (.long q2), (.ref b1127), (.ref b1115), (.ref b1115)])) (fun t ht => ?_) ?_
  · refine XS.lloadN X1127.here hx rfl (hb hby at_150) rfl ?_
    show Steps p.tables e below (T1127.setTop (mkF m 151 _ [(.long q2), (.ref b1127), (.ref b1115), (.ref b1115)])) _
    refine XS.lload X1127.here hx rfl (hb hby at_151) rfl ?_
    exact ht
  obtain ⟨_, _, ⟨T1142, L1142, k1142, n1142⟩, -, X1142, ⟨Lc1142, hQ1142, l1142, y1142, z1142⟩, st1142⟩ := X1127.specialBack hx (y := (⟨"com/example/greylag/greylag/model/Bundle", "<init>", "(Ljava/lang/String;JJ)V"⟩ : MethodName)) rfl hown (mvT hZ (hw _ (List.mem_of_getElem? (i := 29) rfl))) (mvT hZ (hw _ (List.mem_of_getElem? (i := 30) rfl))) (mvT hZ (hw _ (List.mem_of_getElem? (i := 31) rfl))) (by decide) (backOf (W := 1) (rmIni l Z _ hw [] b1115 b1127 q2 q3 T1127.heap n0 Z1140 f1136 f1137 f1138 f1139 g1116) hZ (hw _ (List.mem_of_getElem? (i := 31) rfl)) (hw _ (List.mem_of_getElem? (i := 2) rfl)) (by decide) (by decide)) (g := (mkF m 153 #[.val (.int p0), .val (.int p1), .val (.long q2), .second, .val (.long q3), .second, .val (.long q4), .second, .val (.int p5), .val (.int (2 : Int32)), .val (.int cA0), .val (.int cA1), .val (.int i12), .val (.int (1 : Int32)), .val (.int cB0), .val (.int cB1), .val (.long j16), .second, .val (.long j18), .second, .val (.int i20), .unset, .unset, .unset, .unset, .unset] [(.long q3), (.long q2), (.ref b1127), (.ref b1115), (.ref b1115)])) rfl (by rw [hml]; rfl) (Steps.refl _) (a := b1115) (argsL := [(.ref b1127), (.long q2), (.long q3)]) (rest := [(.ref b1115)]) (lenOf pd_10 rfl) rfl (by show 2 * 0 + _ ≤ _; exact Nat.le_of_eq rfl) (hb hby at_153) (fun _ _ => ⟨rfl, (rfl : T1127.heap = T1127.heap), (by decide : 4 + 0 ≤ _), (by decide : 11 + 0 ≤ _)⟩)
  dsimp only [Pt.U, Pt.locs, Pt.cells, Pt.slots] at X1142 l1142 y1142 z1142 st1142 hQ1142
  subst l1142 y1142 z1142
  obtain ⟨rfl, Nq1142, Kq1142, f1143, f1144, f1145⟩ := hQ1142
  have N1146 := Fr.app N1128 Nq1142
  have hA1147 := CHr.keep Kq1142 (sfS (Safe.exa hZ.alike f1136 (by decide) (by decide)) sf0) hR1133.1
  have hR1148 := hR1133.trans hA1147
  have f1149 := (own_staKeep f1134 Kq1142 (own_snS f1136 own_sn0))
  have f1150 := (own_staKeep f1135 Kq1142 (own_snS f1136 own_sn0))
  have f1151 := (f1136.keep Kq1142)
  have f1152 := (Es1127.keep Kq1142)
  have f1153 := (f1127a.keep Kq1142 (ninS (Ne.symm ne1131) nin0))
  have f1154 := (f1127b.keep Kq1142 (ninS (Ne.symm ne1131) nin0))
  have f1155 := (f1127c.keep Kq1142 (ninS (Ne.symm nt1127) nin0))
  have Z1156 : n0 ≤ T1142.heap.size := (Nat.le_trans Z1140 Kq1142.1)
  have K1157 : Keep h0 T1142.heap [] := (K1141.trans Kq1142 (allS (Or.inr sz1117) all0))
  refine OFin.to (S' := T1142.setTop (mkF m 156 #[.val (.int p0), .val (.int p1), .val (.long q2), .second, .val (.long q3), .second, .val (.long q4), .second, .val (.int p5), .val (.int (2 : Int32)), .val (.int cA0), .val (.int cA1), .val (.int i12), .val (.int (1 : Int32)), .val (.int cB0), .val (.int cB1), .val (.long j16), .second, .val (.long j18), .second, .val (.int i20), .unset, .unset, .unset, .unset, .unset] [(.ref b1115)])) st1142 ?_
  refine OFin.of (S' := T1142.setTop (mkF m 158 #[.val (.int p0), .val (.int p1), .val (.long q2), .second, .val (.long q3), .second, .val (.long q4), .second, .val (.int p5), .val (.int (2 : Int32)), .val (.int cA0), .val (.int cA1), .val (.int i12), .val (.int (1 : Int32)), .val (.int cB0), .val (.int cB1), .val (.long j16), .second, .val (.long j18), .second, .val (.int i20), .val (.ref b1115), .unset, .unset, .unset, .unset] [])) (fun t ht => ?_) ?_
  · refine XS.astore X1142.here hx rfl (hb hby at_156) rfl rfl (l' := #[.val (.int p0), .val (.int p1), .val (.long q2), .second, .val (.long q3), .second, .val (.long q4), .second, .val (.int p5), .val (.int (2 : Int32)), .val (.int cA0), .val (.int cA1), .val (.int i12), .val (.int (1 : Int32)), .val (.int cB0), .val (.int cB1), .val (.long j16), .second, .val (.long j18), .second, .val (.int i20), .val (.ref b1115), .unset, .unset, .unset, .unset]) rfl ?_
    exact ht
  obtain ⟨T1158, h1158, X1158, e1158, E1158, A1158, D1158, -, st1158⟩ := newO X1142 hx hZ hown (hw _ (List.mem_of_getElem? (i := 0) rfl)) (hw _ (List.mem_of_getElem? (i := 1) rfl)) (hw _ (List.mem_of_getElem? (i := 2) rfl)) (rfl : T1142.heap = T1142.heap) (g := (mkF m 158 #[.val (.int p0), .val (.int p1), .val (.long q2), .second, .val (.long q3), .second, .val (.long q4), .second, .val (.int p5), .val (.int (2 : Int32)), .val (.int cA0), .val (.int cA1), .val (.int i12), .val (.int (1 : Int32)), .val (.int cB0), .val (.int cB1), .val (.long j16), .second, .val (.long j18), .second, .val (.int i20), .val (.ref b1115), .unset, .unset, .unset, .unset] [])) rfl (hb hby at_158) (by decide) (by decide)
  obtain ⟨b1158, gq1158⟩ : ∃ z, z = T1142.heap.size := ⟨_, rfl⟩
  rw [← gq1158] at A1158 D1158 st1158
  have g1159 : n0 ≤ b1158 := (Nat.le_trans Z1156 (Nat.le_of_eq gq1158.symm))
  have sz1160 : h0.size ≤ b1158 := (Nat.le_trans K1157.1 (Nat.le_of_eq gq1158.symm))
  have ne1161 : b1115 ≠ b1158 := (Nat.ne_of_lt (Nat.lt_of_lt_of_le f1151.lt (Nat.le_of_eq gq1158.symm)))
  have ne1162 : b1127 ≠ b1158 := (Nat.ne_of_lt (Nat.lt_of_lt_of_le f1152.lt (Nat.le_of_eq gq1158.symm)))
  have ne1163 : t1127 ≠ b1158 := (Nat.ne_of_lt (Nat.lt_of_lt_of_le f1155.lt (Nat.le_of_eq gq1158.symm)))
  have hA1164 := CHr.ext E1158 hR1148.1
  have hR1165 := hR1148.trans hA1164
  have f1166 := f1149.ext E1158
  have f1167 := f1150.ext E1158
  have f1168 := f1151.ext E1158
  have f1169 := f1152.ext E1158
  have f1170 := f1153.ext E1158
  have f1171 := f1154.ext E1158
  have f1172 := f1155.ext E1158
  have f1173 := f1143.ext E1158
  have f1174 := f1144.ext E1158
  have f1175 := f1145.ext E1158
  have Z1176 : n0 ≤ h1158.size := (Nat.le_trans Z1156 E1158.1)
  have K1177 : Keep h0 h1158 [] := (K1157.ext E1158)
  have f1178 : Fld Z h1158 b1158 "com/example/greylag/greylag/model/Bundle" "namespace" "Ljava/lang/String;" .null := D1158 (Or.inr (hw _ (List.mem_of_getElem? (i := 34) rfl))) (ty := (.object "java/lang/String")) (by decide)
  have f1179 : Fld Z h1158 b1158 "com/example/greylag/greylag/model/Bundle" "lower" "J" (.long (0 : Int64)) := D1158 (Or.inr (hw _ (List.mem_of_getElem? (i := 36) rfl))) (ty := .long) (by decide)
  have f1180 : Fld Z h1158 b1158 "com/example/greylag/greylag/model/Bundle" "upper" "J" (.long (0 : Int64)) := D1158 (Or.inr (hw _ (List.mem_of_getElem? (i := 38) rfl))) (ty := .long) (by decide)
  refine OFin.of (S' := T1158.setTop (mkF m 161 #[.val (.int p0), .val (.int p1), .val (.long q2), .second, .val (.long q3), .second, .val (.long q4), .second, .val (.int p5), .val (.int (2 : Int32)), .val (.int cA0), .val (.int cA1), .val (.int i12), .val (.int (1 : Int32)), .val (.int cB0), .val (.int cB1), .val (.long j16), .second, .val (.long j18), .second, .val (.int i20), .val (.ref b1115), .unset, .unset, .unset, .unset] [(.ref b1158)])) (fun t ht => st1158 t ht) ?_
  refine OFin.of (S' := T1158.setTop (mkF m 168 #[.val (.int p0), .val (.int p1), .val (.long q2), .second, .val (.long q3), .second, .val (.long q4), .second, .val (.int p5), .val (.int (2 : Int32)), .val (.int cA0), .val (.int cA1), .val (.int i12), .val (.int (1 : Int32)), .val (.int cB0), .val (.int cB1), .val (.long j16), .second, .val (.long j18), .second, .val (.int i20), .val (.ref b1115), .unset, .unset, .unset, .unset] [(.int cB1), (.int cB0), (.int (1 : Int32)), (.ref b1158), (.ref b1158)])) (fun t ht => ?_) ?_
  · refine XS.dup X1158.here hx rfl (hb hby at_161) rfl rfl ?_
    show Steps p.tables e below (T1158.setTop (mkF m 162 _ [(.ref b1158), (.ref b1158)])) _
    refine XS.iload X1158.here hx rfl (hb hby at_162) rfl ?_
    show Steps p.tables e below (T1158.setTop (mkF m 164 _ [(.int (1 : Int32)), (.ref b1158), (.ref b1158)])) _
    refine XS.iload X1158.here hx rfl (hb hby at_164) rfl ?_
    show Steps p.tables e below (T1158.setTop (mkF m 166 _ [(.int cB0), (.int (1 : Int32)), (.ref b1158), (.ref b1158)])) _
    refine XS.iload X1158.here hx rfl (hb hby at_166) rfl ?_
    exact ht
  obtain ⟨_, _, ⟨T1181, L1181, k1181, n1181⟩, -, X1181, ⟨Lc1181, hQ1181, l1181, y1181, z1181⟩, st1181⟩ := Jvm.LawKit.callS X1158 hx (y := (⟨"com/example/greylag/greylag/model/BundleEqualsPinLaw", "str", "(ICC)Ljava/lang/String;"⟩ : MethodName)) hown (mvT hZ (hw _ (List.mem_of_getElem? (i := 3) rfl))) (mvT hZ (hw _ (List.mem_of_getElem? (i := 4) rfl))) (mvT hZ (hw _ (List.mem_of_getElem? (i := 5) rfl))) (mvT hZ (hw _ (List.mem_of_getElem? (i := 6) rfl))) (by decide) (backOf (W := 2) (rmSt1 l Z _ hw [] cB0 cB1 b1158 cs h1158 n0 Z1176 A1158 f1166 hcs (own_hpc okB0)) hZ (hw _ (List.mem_of_getElem? (i := 6) rfl)) (hw _ (List.mem_of_getElem? (i := 5) rfl)) (by decide) (by decide)) (g := (mkF m 168 #[.val (.int p0), .val (.int p1), .val (.long q2), .second, .val (.long q3), .second, .val (.long q4), .second, .val (.int p5), .val (.int (2 : Int32)), .val (.int cA0), .val (.int cA1), .val (.int i12), .val (.int (1 : Int32)), .val (.int cB0), .val (.int cB1), .val (.long j16), .second, .val (.long j18), .second, .val (.int i20), .val (.ref b1115), .unset, .unset, .unset, .unset] [(.int cB1), (.int cB0), (.int (1 : Int32)), (.ref b1158), (.ref b1158)])) rfl (by rw [hml]; rfl) (argsL := [(.int (1 : Int32)), (.int cB0), (.int cB1)]) (rest := [(.ref b1158), (.ref b1158)]) (lenOf pd_9 rfl) rfl (by show 2 * 0 + _ ≤ _; exact Nat.le_of_eq rfl) (hb hby at_168) (fun _ _ => ⟨rfl, e1158, (by decide : 5 + 3 ≤ _), (by decide : 14 + 6 ≤ _)⟩)
  dsimp only [Pt.U, Pt.locs, Pt.cells, Pt.slots] at X1181 l1181 y1181 z1181 st1181 hQ1181
  subst l1181 y1181 z1181
  obtain ⟨rfl, Nq1181, Kq1181, Es1181, t1181, kb1181, f1181a, f1181b, f1181c, nt1181⟩ := hQ1181
  have N1182 := Fr.app N1146 Nq1181
  obtain ⟨b1181, gq1181⟩ : ∃ z, z = h1158.size := ⟨_, rfl⟩
  rw [← gq1181] at Es1181 f1181a f1181b st1181
  have g1183 : n0 ≤ b1181 := (Nat.le_trans Z1176 (Nat.le_of_eq gq1181.symm))
  have sz1184 : h0.size ≤ b1181 := (Nat.le_trans K1177.1 (Nat.le_of_eq gq1181.symm))
  have ne1185 : b1115 ≠ b1181 := (Nat.ne_of_lt (Nat.lt_of_lt_of_le f1168.lt (Nat.le_of_eq gq1181.symm)))
  have ne1186 : b1127 ≠ b1181 := (Nat.ne_of_lt (Nat.lt_of_lt_of_le f1169.lt (Nat.le_of_eq gq1181.symm)))
  have ne1187 : t1127 ≠ b1181 := (Nat.ne_of_lt (Nat.lt_of_lt_of_le f1172.lt (Nat.le_of_eq gq1181.symm)))
  have ne1188 : b1158 ≠ b1181 := (Nat.ne_of_lt (Nat.lt_of_lt_of_le A1158.lt (Nat.le_of_eq gq1181.symm)))
  have hA1189 := CHr.keep Kq1181 sf0 hR1165.1
  have hR1190 := hR1165.trans hA1189
  have f1191 := (own_staKeep f1166 Kq1181 own_sn0)
  have f1192 := (own_staKeep f1167 Kq1181 own_sn0)
  have f1193 := (f1168.keep Kq1181)
  have f1194 := (f1169.keep Kq1181)
  have f1195 := (f1170.keep Kq1181 nin0)
  have f1196 := (f1171.keep Kq1181 nin0)
  have f1197 := (f1172.keep Kq1181 nin0)
  have f1198 := (f1173.keep Kq1181 nin0)
  have f1199 := (f1174.keep Kq1181 nin0)
  have f1200 := (f1175.keep Kq1181 nin0)
  have f1201 := (A1158.keep Kq1181)
  have f1202 := (f1178.keep Kq1181 nin0)
  have f1203 := (f1179.keep Kq1181 nin0)
  have f1204 := (f1180.keep Kq1181 nin0)
  have Z1205 : n0 ≤ T1181.heap.size := (Nat.le_trans Z1176 Kq1181.1)
  have K1206 : Keep h0 T1181.heap [] := (K1177.trans Kq1181 all0)
  refine OFin.of (S' := T1181.setTop (mkF m 171 #[.val (.int p0), .val (.int p1), .val (.long q2), .second, .val (.long q3), .second, .val (.long q4), .second, .val (.int p5), .val (.int (2 : Int32)), .val (.int cA0), .val (.int cA1), .val (.int i12), .val (.int (1 : Int32)), .val (.int cB0), .val (.int cB1), .val (.long j16), .second, .val (.long j18), .second, .val (.int i20), .val (.ref b1115), .unset, .unset, .unset, .unset] [(.ref b1181), (.ref b1158), (.ref b1158)])) (fun t ht => st1181 t ht) ?_
  refine OFin.of (S' := T1181.setTop (mkF m 175 #[.val (.int p0), .val (.int p1), .val (.long q2), .second, .val (.long q3), .second, .val (.long q4), .second, .val (.int p5), .val (.int (2 : Int32)), .val (.int cA0), .val (.int cA1), .val (.int i12), .val (.int (1 : Int32)), .val (.int cB0), .val (.int cB1), .val (.long j16), .second, .val (.long j18), .second, .val (.int i20), .val (.ref b1115), .unset, .unset, .unset, .unset] [(.long j18), (.long j16), (.ref b1181), (.ref b1158), (.ref b1158)])) (fun t ht => ?_) ?_
  · refine XS.lload X1181.here hx rfl (hb hby at_171) rfl ?_
    show Steps p.tables e below (T1181.setTop (mkF m 173 _ [(.long j16), (.ref b1181), (.ref b1158), (.ref b1158)])) _
    refine XS.lload X1181.here hx rfl (hb hby at_173) rfl ?_
    exact ht
  obtain ⟨_, _, ⟨T1207, L1207, k1207, n1207⟩, -, X1207, ⟨Lc1207, hQ1207, l1207, y1207, z1207⟩, st1207⟩ := X1181.specialBack hx (y := (⟨"com/example/greylag/greylag/model/Bundle", "<init>", "(Ljava/lang/String;JJ)V"⟩ : MethodName)) rfl hown (mvT hZ (hw _ (List.mem_of_getElem? (i := 29) rfl))) (mvT hZ (hw _ (List.mem_of_getElem? (i := 30) rfl))) (mvT hZ (hw _ (List.mem_of_getElem? (i := 31) rfl))) (by decide) (backOf (W := 1) (rmIni l Z _ hw [] b1158 b1181 j16 j18 T1181.heap n0 Z1205 f1201 f1202 f1203 f1204 g1159) hZ (hw _ (List.mem_of_getElem? (i := 31) rfl)) (hw _ (List.mem_of_getElem? (i := 2) rfl)) (by decide) (by decide)) (g := (mkF m 175 #[.val (.int p0), .val (.int p1), .val (.long q2), .second, .val (.long q3), .second, .val (.long q4), .second, .val (.int p5), .val (.int (2 : Int32)), .val (.int cA0), .val (.int cA1), .val (.int i12), .val (.int (1 : Int32)), .val (.int cB0), .val (.int cB1), .val (.long j16), .second, .val (.long j18), .second, .val (.int i20), .val (.ref b1115), .unset, .unset, .unset, .unset] [(.long j18), (.long j16), (.ref b1181), (.ref b1158), (.ref b1158)])) rfl (by rw [hml]; rfl) (Steps.refl _) (a := b1158) (argsL := [(.ref b1181), (.long j16), (.long j18)]) (rest := [(.ref b1158)]) (lenOf pd_10 rfl) rfl (by show 2 * 0 + _ ≤ _; exact Nat.le_of_eq rfl) (hb hby at_175) (fun _ _ => ⟨rfl, (rfl : T1181.heap = T1181.heap), (by decide : 8 + 0 ≤ _), (by decide : 20 + 0 ≤ _)⟩)
  dsimp only [Pt.U, Pt.locs, Pt.cells, Pt.slots] at X1207 l1207 y1207 z1207 st1207 hQ1207
  subst l1207 y1207 z1207
  obtain ⟨rfl, Nq1207, Kq1207, f1208, f1209, f1210⟩ := hQ1207
  have N1211 := Fr.app N1182 Nq1207
  have hA1212 := CHr.keep Kq1207 (sfS (Safe.exa hZ.alike f1201 (by decide) (by decide)) sf0) hR1190.1
  have hR1213 := hR1190.trans hA1212
  have f1214 := (own_staKeep f1191 Kq1207 (own_snS f1201 own_sn0))
  have f1215 := (own_staKeep f1192 Kq1207 (own_snS f1201 own_sn0))
  have f1216 := (f1193.keep Kq1207)
  have f1217 := (f1194.keep Kq1207)
  have f1218 := (f1195.keep Kq1207 (ninS ne1162 nin0))
  have f1219 := (f1196.keep Kq1207 (ninS ne1162 nin0))
  have f1220 := (f1197.keep Kq1207 (ninS ne1163 nin0))
  have f1221 := (f1198.keep Kq1207 (ninS ne1161 nin0))
  have f1222 := (f1199.keep Kq1207 (ninS ne1161 nin0))
  have f1223 := (f1200.keep Kq1207 (ninS ne1161 nin0))
  have f1224 := (f1201.keep Kq1207)
  have f1225 := (Es1181.keep Kq1207)
  have f1226 := (f1181a.keep Kq1207 (ninS (Ne.symm ne1188) nin0))
  have f1227 := (f1181b.keep Kq1207 (ninS (Ne.symm ne1188) nin0))
  have f1228 := (f1181c.keep Kq1207 (ninS (Ne.symm nt1181) nin0))
  have Z1229 : n0 ≤ T1207.heap.size := (Nat.le_trans Z1205 Kq1207.1)
  have K1230 : Keep h0 T1207.heap [] := (K1206.trans Kq1207 (allS (Or.inr sz1160) all0))
  refine OFin.to (S' := T1207.setTop (mkF m 178 #[.val (.int p0), .val (.int p1), .val (.long q2), .second, .val (.long q3), .second, .val (.long q4), .second, .val (.int p5), .val (.int (2 : Int32)), .val (.int cA0), .val (.int cA1), .val (.int i12), .val (.int (1 : Int32)), .val (.int cB0), .val (.int cB1), .val (.long j16), .second, .val (.long j18), .second, .val (.int i20), .val (.ref b1115), .unset, .unset, .unset, .unset] [(.ref b1158)])) st1207 ?_
  refine OFin.of (S' := T1207.setTop (mkF m 181 #[.val (.int p0), .val (.int p1), .val (.long q2), .second, .val (.long q3), .second, .val (.long q4), .second, .val (.int p5), .val (.int (2 : Int32)), .val (.int cA0), .val (.int cA1), .val (.int i12), .val (.int (1 : Int32)), .val (.int cB0), .val (.int cB1), .val (.long j16), .second, .val (.long j18), .second, .val (.int i20), .val (.ref b1115), .val (.ref b1158), .unset, .unset, .unset] [(.long q2)])) (fun t ht => ?_) ?_
  · refine XS.astore X1207.here hx rfl (hb hby at_178) rfl rfl (l' := #[.val (.int p0), .val (.int p1), .val (.long q2), .second, .val (.long q3), .second, .val (.long q4), .second, .val (.int p5), .val (.int (2 : Int32)), .val (.int cA0), .val (.int cA1), .val (.int i12), .val (.int (1 : Int32)), .val (.int cB0), .val (.int cB1), .val (.long j16), .second, .val (.long j18), .second, .val (.int i20), .val (.ref b1115), .val (.ref b1158), .unset, .unset, .unset]) rfl ?_
    show Steps p.tables e below (T1207.setTop (mkF m 180 #[.val (.int p0), .val (.int p1), .val (.long q2), .second, .val (.long q3), .second, .val (.long q4), .second, .val (.int p5), .val (.int (2 : Int32)), .val (.int cA0), .val (.int cA1), .val (.int i12), .val (.int (1 : Int32)), .val (.int cB0), .val (.int cB1), .val (.long j16), .second, .val (.long j18), .second, .val (.int i20), .val (.ref b1115), .val (.ref b1158), .unset, .unset, .unset] [])) _
    refine XS.lloadN X1207.here hx rfl (hb hby at_180) rfl ?_
    exact ht
  obtain ⟨_, _, ⟨T1231, L1231, k1231, n1231⟩, -, X1231, ⟨Lc1231, hQ1231, l1231, y1231, z1231⟩, st1231⟩ := Jvm.LawKit.callS X1207 hx (y := (⟨"java/lang/Long", "valueOf", "(J)Ljava/lang/Long;"⟩ : MethodName)) hown (mvT hZ (hw _ (List.mem_of_getElem? (i := 39) rfl))) (mvT hZ (hw _ (List.mem_of_getElem? (i := 40) rfl))) (mvT hZ (hw _ (List.mem_of_getElem? (i := 41) rfl))) (mvT hZ (hw _ (List.mem_of_getElem? (i := 42) rfl))) (by decide) (backOf (W := 0) (rmVo l Z _ hw [] q2 ac T1207.heap n0 Z1229 f1215 (hLC.keep K1230)) hZ (hw _ (List.mem_of_getElem? (i := 42) rfl)) (hw _ (List.mem_of_getElem? (i := 41) rfl)) (by decide) (by decide)) (g := (mkF m 181 #[.val (.int p0), .val (.int p1), .val (.long q2), .second, .val (.long q3), .second, .val (.long q4), .second, .val (.int p5), .val (.int (2 : Int32)), .val (.int cA0), .val (.int cA1), .val (.int i12), .val (.int (1 : Int32)), .val (.int cB0), .val (.int cB1), .val (.long j16), .second, .val (.long j18), .second, .val (.int i20), .val (.ref b1115), .val (.ref b1158), .unset, .unset, .unset] [(.long q2)])) rfl (by rw [hml]; rfl) (argsL := [(.long q2)]) (rest := []) (lenOf pd_11 rfl) rfl (by show 2 * 0 + _ ≤ _; exact Nat.le_of_eq rfl) (hb hby at_181) (fun _ _ => ⟨rfl, (rfl : T1207.heap = T1207.heap), (by decide : 8 + 1 ≤ _), (by decide : 20 + 1 ≤ _)⟩)
  dsimp only [Pt.U, Pt.locs, Pt.cells, Pt.slots] at X1231 l1231 y1231 z1231 st1231 hQ1231
  subst l1231 y1231 z1231
  obtain ⟨r1231, rfl, Nq1231, Kq1231, Er1231⟩ := hQ1231
  have N1232 := Fr.app N1211 Nq1231
  have f1233 := (own_staKeep f1214 Kq1231 own_sn0)
  have f1234 := (own_staKeep f1215 Kq1231 own_sn0)
  have f1235 := (f1216.keep Kq1231)
  have f1236 := (f1217.keep Kq1231)
  have f1237 := (f1218.keep Kq1231 nin0)
  have f1238 := (f1219.keep Kq1231 nin0)
  have f1239 := (f1220.keep Kq1231 nin0)
  have f1240 := (f1221.keep Kq1231 nin0)
  have f1241 := (f1222.keep Kq1231 nin0)
  have f1242 := (f1223.keep Kq1231 nin0)
  have f1243 := (f1224.keep Kq1231)
  have f1244 := (f1225.keep Kq1231)
  have f1245 := (f1226.keep Kq1231 nin0)
  have f1246 := (f1227.keep Kq1231 nin0)
  have f1247 := (f1228.keep Kq1231 nin0)
  have f1248 := (f1208.keep Kq1231 nin0)
  have f1249 := (f1209.keep Kq1231 nin0)
  have f1250 := (f1210.keep Kq1231 nin0)
  have Z1251 : n0 ≤ T1231.heap.size := (Nat.le_trans Z1229 Kq1231.1)
  have K1252 : Keep h0 T1231.heap [] := (K1230.trans Kq1231 all0)
  refine OFin.of (S' := T1231.setTop (mkF m 184 #[.val (.int p0), .val (.int p1), .val (.long q2), .second, .val (.long q3), .second, .val (.long q4), .second, .val (.int p5), .val (.int (2 : Int32)), .val (.int cA0), .val (.int cA1), .val (.int i12), .val (.int (1 : Int32)), .val (.int cB0), .val (.int cB1), .val (.long j16), .second, .val (.long j18), .second, .val (.int i20), .val (.ref b1115), .val (.ref b1158), .unset, .unset, .unset] [(.ref r1231)])) (fun t ht => st1231 t ht) ?_
  refine OFin.of (S' := T1231.setTop (mkF m 186 #[.val (.int p0), .val (.int p1), .val (.long q2), .second, .val (.long q3), .second, .val (.long q4), .second, .val (.int p5), .val (.int (2 : Int32)), .val (.int cA0), .val (.int cA1), .val (.int i12), .val (.int (1 : Int32)), .val (.int cB0), .val (.int cB1), .val (.long j16), .second, .val (.long j18), .second, .val (.int i20), .val (.ref b1115), .val (.ref b1158), .val (.ref r1231), .unset, .unset] [])) (fun t ht => ?_) ?_
  · refine XS.astore X1231.here hx rfl (hb hby at_184) rfl rfl (l' := #[.val (.int p0), .val (.int p1), .val (.long q2), .second, .val (.long q3), .second, .val (.long q4), .second, .val (.int p5), .val (.int (2 : Int32)), .val (.int cA0), .val (.int cA1), .val (.int i12), .val (.int (1 : Int32)), .val (.int cB0), .val (.int cB1), .val (.long j16), .second, .val (.long j18), .second, .val (.int i20), .val (.ref b1115), .val (.ref b1158), .val (.ref r1231), .unset, .unset]) rfl ?_
    exact ht
  exact segT (s := s) (vm1 := s.vm) Z _ hw hx hby hlk hret hml hown hZ n0 p0 p1 q2 q3 q4 p5 (2 : Int32) cA0 cA1 i12 (1 : Int32) cB0 cB1 j16 j18 i20 b1115 b1158 r1231 b1127 b1181 (0 : Int32) (0 : Int32) (X1231.more (by decide) (by decide)) (rfl : T1231.heap = T1231.heap) Z1251 N1232 f1235 f1243 f1236 f1244 Er1231 f1240 f1241 f1242 f1248 f1249 f1250 (rmEqG l Z _ hw [] b1127 b1181 t1127 t1181 cs (0 : Int32) T1231.heap n0 Z1251 f1244 f1237 f1245 f1238 f1246 f1233 hcs ne1186 (Or.inl rfl) (rmLeN l Z _ hw [] t1127 t1181 kb1127 kb1181 _ _ _ _ T1231.heap n0 Z1251 f1239 f1247 (by decide))) (rmEqG l Z _ hw [] b1181 b1127 t1181 t1127 cs (0 : Int32) T1231.heap n0 Z1251 f1236 f1245 f1237 f1246 f1238 f1233 hcs (Ne.symm ne1186) (Or.inl rfl) (rmLeN l Z _ hw [] t1181 t1127 kb1181 kb1127 _ _ _ _ T1231.heap n0 Z1251 f1247 f1239 (by decide))) (own_ez (by decide)) (own_ez (by decide)) ((State.WarmedH.refl s).since T1231.heap.size) (Nat.le_refl _) hQ
set_option maxRecDepth 65536 in
set_option maxHeartbeats 40000000 in
theorem seg22 {p : Program} {l : Launch} {e : Env} {s : State} {m : MethodId} {args : Array Value} {below : List Frame} {meth : Method} {c : Code} (Z : State) (a0 : Array Value) (hw : ∀ d ∈ tables_1, d.before a0 Z = true) (hx : p.tables.exec = Jvm.exec) (hby : c.code = code) (hlk : meth.locks = false) (hret : meth.sig.returnType = some .boolean) (hml : c.maxLocals = 26) (hown : s.vm.findClass "com/example/greylag/greylag/model/BundleEqualsPinLaw" = some m.cls) (hZ : Z.Warmed39 s.vm) {Q : Option Value → Heap → List Loc → Prop} (n0 : Nat) (p0 : Int32) (p1 : Int32) (q2 : Int64) (q3 : Int64) (q4 : Int64) (p5 : Int32) (cA0 : Int32) (cA1 : Int32) (i12 : Int32) (cB0 : Int32) (cB1 : Int32) (j16 : Int64) (j18 : Int64) (i20 : Int32) (cs : Int32) (ac : Addr) {T0 : State} {locs : List Loc} {h0 : Heap} (X0 : Stand p l e room_1 s m args below meth c T0 locs 0 0) (e0 : T0.heap = h0) (Z0 : n0 ≤ h0.size) (N0 : Fr n0 locs) (fa0 : Sta Z h0 "java/lang/String" "COMPACT_STRINGS" "Z" (.int cs)) (fa1 : Sta Z h0 "java/lang/Long$LongCache" "cache" "[Ljava/lang/Long;" (.ref ac)) (hcs : ¬ cs = (0 : Int32)) (hLC : OwnLC Z h0 ac) (okA0 : OwnOk cA0) (okA1 : OwnOk cA1) (okB0 : OwnOk cB0) (okB1 : OwnOk cB1) (hC0 : CHv Z consts_1 s.vm h0) (hQ : ∀ (h' : Heap) (L : List Loc), Fr n0 L → Q (some (.int (1 : Int32))) h' L) :
    OFin p e below (KPostW s Q room_1.cells room_1.slots) (T0.setTop (mkF m 137 #[.val (.int p0), .val (.int p1), .val (.long q2), .second, .val (.long q3), .second, .val (.long q4), .second, .val (.int p5), .val (.int (2 : Int32)), .val (.int cA0), .val (.int cA1), .val (.int i12), .val (.int (2 : Int32)), .val (.int cB0), .val (.int cB1), .val (.long j16), .second, .val (.long j18), .second, .val (.int i20), .unset, .unset, .unset, .unset, .unset] [])) := by
  have K0 : Keep h0 h0 [] := Keep.refl _ _
  have hR0 : CHr Z consts_1 s.vm h0 s.vm h0 := CHr.refl hC0
  have hEL := own_EW hw
  obtain ⟨T1253, h1253, X1253, e1253, E1253, A1253, D1253, -, st1253⟩ := newO X0 hx hZ hown (hw _ (List.mem_of_getElem? (i := 0) rfl)) (hw _ (List.mem_of_getElem? (i := 1) rfl)) (hw _ (List.mem_of_getElem? (i := 2) rfl)) e0 (g := (mkF m 137 #[.val (.int p0), .val (.int p1), .val (.long q2), .second, .val (.long q3), .second, .val (.long q4), .second, .val (.int p5), .val (.int (2 : Int32)), .val (.int cA0), .val (.int cA1), .val (.int i12), .val (.int (2 : Int32)), .val (.int cB0), .val (.int cB1), .val (.long j16), .second, .val (.long j18), .second, .val (.int i20), .unset, .unset, .unset, .unset, .unset] [])) rfl (hb hby at_137) (by decide) (by decide)
  obtain ⟨b1253, gq1253⟩ : ∃ z, z = h0.size := ⟨_, rfl⟩
  rw [← gq1253] at A1253 D1253 st1253
  have g1254 : n0 ≤ b1253 := (Nat.le_trans Z0 (Nat.le_of_eq gq1253.symm))
  have sz1255 : h0.size ≤ b1253 := (Nat.le_trans K0.1 (Nat.le_of_eq gq1253.symm))
  have hA1256 := CHr.ext E1253 hR0.1
  have hR1257 := hR0.trans hA1256
  have f1258 := fa0.ext E1253
  have f1259 := fa1.ext E1253
  have Z1260 : n0 ≤ h1253.size := (Nat.le_trans Z0 E1253.1)
  have K1261 : Keep h0 h1253 [] := (K0.ext E1253)
  have f1262 : Fld Z h1253 b1253 "com/example/greylag/greylag/model/Bundle" "namespace" "Ljava/lang/String;" .null := D1253 (Or.inr (hw _ (List.mem_of_getElem? (i := 34) rfl))) (ty := (.object "java/lang/String")) (by decide)
  have f1263 : Fld Z h1253 b1253 "com/example/greylag/greylag/model/Bundle" "lower" "J" (.long (0 : Int64)) := D1253 (Or.inr (hw _ (List.mem_of_getElem? (i := 36) rfl))) (ty := .long) (by decide)
  have f1264 : Fld Z h1253 b1253 "com/example/greylag/greylag/model/Bundle" "upper" "J" (.long (0 : Int64)) := D1253 (Or.inr (hw _ (List.mem_of_getElem? (i := 38) rfl))) (ty := .long) (by decide)
  refine OFin.of (S' := T1253.setTop (mkF m 140 #[.val (.int p0), .val (.int p1), .val (.long q2), .second, .val (.long q3), .second, .val (.long q4), .second, .val (.int p5), .val (.int (2 : Int32)), .val (.int cA0), .val (.int cA1), .val (.int i12), .val (.int (2 : Int32)), .val (.int cB0), .val (.int cB1), .val (.long j16), .second, .val (.long j18), .second, .val (.int i20), .unset, .unset, .unset, .unset, .unset] [(.ref b1253)])) (fun t ht => st1253 t ht) ?_
  refine OFin.of (S' := T1253.setTop (mkF m 147 #[.val (.int p0), .val (.int p1), .val (.long q2), .second, .val (.long q3), .second, .val (.long q4), .second, .val (.int p5), .val (.int (2 : Int32)), .val (.int cA0), .val (.int cA1), .val (.int i12), .val (.int (2 : Int32)), .val (.int cB0), .val (.int cB1), .val (.long j16), .second, .val (.long j18), .second, .val (.int i20), .unset, .unset, .unset, .unset, .unset] [(.int cA1), (.int cA0), (.int (2 : Int32)), (.ref b1253), (.ref b1253)])) (fun t ht => ?_) ?_
  · refine XS.dup X1253.here hx rfl (hb hby at_140) rfl rfl ?_
    show Steps p.tables e below (T1253.setTop (mkF m 141 _ [(.ref b1253), (.ref b1253)])) _
    refine XS.iload X1253.here hx rfl (hb hby at_141) rfl ?_
    show Steps p.tables e below (T1253.setTop (mkF m 143 _ [(.int (2 : Int32)), (.ref b1253), (.ref b1253)])) _
    refine XS.iload X1253.here hx rfl (hb hby at_143) rfl ?_
    show Steps p.tables e below (T1253.setTop (mkF m 145 _ [(.int cA0), (.int (2 : Int32)), (.ref b1253), (.ref b1253)])) _
    refine XS.iload X1253.here hx rfl (hb hby at_145) rfl ?_
    exact ht
  obtain ⟨_, _, ⟨T1265, L1265, k1265, n1265⟩, -, X1265, ⟨Lc1265, hQ1265, l1265, y1265, z1265⟩, st1265⟩ := Jvm.LawKit.callS X1253 hx (y := (⟨"com/example/greylag/greylag/model/BundleEqualsPinLaw", "str", "(ICC)Ljava/lang/String;"⟩ : MethodName)) hown (mvT hZ (hw _ (List.mem_of_getElem? (i := 3) rfl))) (mvT hZ (hw _ (List.mem_of_getElem? (i := 4) rfl))) (mvT hZ (hw _ (List.mem_of_getElem? (i := 5) rfl))) (mvT hZ (hw _ (List.mem_of_getElem? (i := 6) rfl))) (by decide) (backOf (W := 2) (rmSt2 l Z _ hw [] cA0 cA1 b1253 cs h1253 n0 Z1260 A1253 f1258 hcs (own_hpc okA0) (own_hpc okA1)) hZ (hw _ (List.mem_of_getElem? (i := 6) rfl)) (hw _ (List.mem_of_getElem? (i := 5) rfl)) (by decide) (by decide)) (g := (mkF m 147 #[.val (.int p0), .val (.int p1), .val (.long q2), .second, .val (.long q3), .second, .val (.long q4), .second, .val (.int p5), .val (.int (2 : Int32)), .val (.int cA0), .val (.int cA1), .val (.int i12), .val (.int (2 : Int32)), .val (.int cB0), .val (.int cB1), .val (.long j16), .second, .val (.long j18), .second, .val (.int i20), .unset, .unset, .unset, .unset, .unset] [(.int cA1), (.int cA0), (.int (2 : Int32)), (.ref b1253), (.ref b1253)])) rfl (by rw [hml]; rfl) (argsL := [(.int (2 : Int32)), (.int cA0), (.int cA1)]) (rest := [(.ref b1253), (.ref b1253)]) (lenOf pd_9 rfl) rfl (by show 2 * 0 + _ ≤ _; exact Nat.le_of_eq rfl) (hb hby at_147) (fun _ _ => ⟨rfl, e1253, (by decide : 1 + 3 ≤ _), (by decide : 3 + 8 ≤ _)⟩)
  dsimp only [Pt.U, Pt.locs, Pt.cells, Pt.slots] at X1265 l1265 y1265 z1265 st1265 hQ1265
  subst l1265 y1265 z1265
  obtain ⟨rfl, Nq1265, Kq1265, Es1265, t1265, kb1265, f1265a, f1265b, f1265c, nt1265⟩ := hQ1265
  have N1266 := Fr.app N0 Nq1265
  obtain ⟨b1265, gq1265⟩ : ∃ z, z = h1253.size := ⟨_, rfl⟩
  rw [← gq1265] at Es1265 f1265a f1265b st1265
  have g1267 : n0 ≤ b1265 := (Nat.le_trans Z1260 (Nat.le_of_eq gq1265.symm))
  have sz1268 : h0.size ≤ b1265 := (Nat.le_trans K1261.1 (Nat.le_of_eq gq1265.symm))
  have ne1269 : b1253 ≠ b1265 := (Nat.ne_of_lt (Nat.lt_of_lt_of_le A1253.lt (Nat.le_of_eq gq1265.symm)))
  have hA1270 := CHr.keep Kq1265 sf0 hR1257.1
  have hR1271 := hR1257.trans hA1270
  have f1272 := (own_staKeep f1258 Kq1265 own_sn0)
  have f1273 := (own_staKeep f1259 Kq1265 own_sn0)
  have f1274 := (A1253.keep Kq1265)
  have f1275 := (f1262.keep Kq1265 nin0)
  have f1276 := (f1263.keep Kq1265 nin0)
  have f1277 := (f1264.keep Kq1265 nin0)
  have Z1278 : n0 ≤ T1265.heap.size := (Nat.le_trans Z1260 Kq1265.1)
  have K1279 : Keep h0 T1265.heap [] := (K1261.trans Kq1265 all0)
  refine OFin.of (S' := T1265.setTop (mkF m 150 #[.val (.int p0), .val (.int p1), .val (.long q2), .second, .val (.long q3), .second, .val (.long q4), .second, .val (.int p5), .val (.int (2 : Int32)), .val (.int cA0), .val (.int cA1), .val (.int i12), .val (.int (2 : Int32)), .val (.int cB0), .val (.int cB1), .val (.long j16), .second, .val (.long j18), .second, .val (.int i20), .unset, .unset, .unset, .unset, .unset] [(.ref b1265), (.ref b1253), (.ref b1253)])) (fun t ht => st1265 t ht) ?_
  refine OFin.of (S' := T1265.setTop (mkF m 153 #[.val (.int p0), .val (.int p1), .val (.long q2), .second, .val (.long q3), .second, .val (.long q4), .second, .val (.int p5), .val (.int (2 : Int32)), .val (.int cA0), .val (.int cA1), .val (.int i12), .val (.int (2 : Int32)), .val (.int cB0), .val (.int cB1), .val (.long j16), .second, .val (.long j18), .second, .val (.int i20), .unset, .unset, .unset, .unset, .unset] [(.long q3), (.long q2), (.ref b1265), (.ref b1253), (.ref b1253)])) (fun t ht => ?_) ?_
  · refine XS.lloadN X1265.here hx rfl (hb hby at_150) rfl ?_
    show Steps p.tables e below (T1265.setTop (mkF m 151 _ [(.long q2), (.ref b1265), (.ref b1253), (.ref b1253)])) _
    refine XS.lload X1265.here hx rfl (hb hby at_151) rfl ?_
    exact ht
  obtain ⟨_, _, ⟨T1280, L1280, k1280, n1280⟩, -, X1280, ⟨Lc1280, hQ1280, l1280, y1280, z1280⟩, st1280⟩ := X1265.specialBack hx (y := (⟨"com/example/greylag/greylag/model/Bundle", "<init>", "(Ljava/lang/String;JJ)V"⟩ : MethodName)) rfl hown (mvT hZ (hw _ (List.mem_of_getElem? (i := 29) rfl))) (mvT hZ (hw _ (List.mem_of_getElem? (i := 30) rfl))) (mvT hZ (hw _ (List.mem_of_getElem? (i := 31) rfl))) (by decide) (backOf (W := 1) (rmIni l Z _ hw [] b1253 b1265 q2 q3 T1265.heap n0 Z1278 f1274 f1275 f1276 f1277 g1254) hZ (hw _ (List.mem_of_getElem? (i := 31) rfl)) (hw _ (List.mem_of_getElem? (i := 2) rfl)) (by decide) (by decide)) (g := (mkF m 153 #[.val (.int p0), .val (.int p1), .val (.long q2), .second, .val (.long q3), .second, .val (.long q4), .second, .val (.int p5), .val (.int (2 : Int32)), .val (.int cA0), .val (.int cA1), .val (.int i12), .val (.int (2 : Int32)), .val (.int cB0), .val (.int cB1), .val (.long j16), .second, .val (.long j18), .second, .val (.int i20), .unset, .unset, .unset, .unset, .unset] [(.long q3), (.long q2), (.ref b1265), (.ref b1253), (.ref b1253)])) rfl (by rw [hml]; rfl) (Steps.refl _) (a := b1253) (argsL := [(.ref b1265), (.long q2), (.long q3)]) (rest := [(.ref b1253)]) (lenOf pd_10 rfl) rfl (by show 2 * 0 + _ ≤ _; exact Nat.le_of_eq rfl) (hb hby at_153) (fun _ _ => ⟨rfl, (rfl : T1265.heap = T1265.heap), (by decide : 4 + 0 ≤ _), (by decide : 11 + 0 ≤ _)⟩)
  dsimp only [Pt.U, Pt.locs, Pt.cells, Pt.slots] at X1280 l1280 y1280 z1280 st1280 hQ1280
  subst l1280 y1280 z1280
  obtain ⟨rfl, Nq1280, Kq1280, f1281, f1282, f1283⟩ := hQ1280
  have N1284 := Fr.app N1266 Nq1280
  have hA1285 := CHr.keep Kq1280 (sfS (Safe.exa hZ.alike f1274 (by decide) (by decide)) sf0) hR1271.1
  have hR1286 := hR1271.trans hA1285
  have f1287 := (own_staKeep f1272 Kq1280 (own_snS f1274 own_sn0))
  have f1288 := (own_staKeep f1273 Kq1280 (own_snS f1274 own_sn0))
  have f1289 := (f1274.keep Kq1280)
  have f1290 := (Es1265.keep Kq1280)
  have f1291 := (f1265a.keep Kq1280 (ninS (Ne.symm ne1269) nin0))
  have f1292 := (f1265b.keep Kq1280 (ninS (Ne.symm ne1269) nin0))
  have f1293 := (f1265c.keep Kq1280 (ninS (Ne.symm nt1265) nin0))
  have Z1294 : n0 ≤ T1280.heap.size := (Nat.le_trans Z1278 Kq1280.1)
  have K1295 : Keep h0 T1280.heap [] := (K1279.trans Kq1280 (allS (Or.inr sz1255) all0))
  refine OFin.to (S' := T1280.setTop (mkF m 156 #[.val (.int p0), .val (.int p1), .val (.long q2), .second, .val (.long q3), .second, .val (.long q4), .second, .val (.int p5), .val (.int (2 : Int32)), .val (.int cA0), .val (.int cA1), .val (.int i12), .val (.int (2 : Int32)), .val (.int cB0), .val (.int cB1), .val (.long j16), .second, .val (.long j18), .second, .val (.int i20), .unset, .unset, .unset, .unset, .unset] [(.ref b1253)])) st1280 ?_
  refine OFin.of (S' := T1280.setTop (mkF m 158 #[.val (.int p0), .val (.int p1), .val (.long q2), .second, .val (.long q3), .second, .val (.long q4), .second, .val (.int p5), .val (.int (2 : Int32)), .val (.int cA0), .val (.int cA1), .val (.int i12), .val (.int (2 : Int32)), .val (.int cB0), .val (.int cB1), .val (.long j16), .second, .val (.long j18), .second, .val (.int i20), .val (.ref b1253), .unset, .unset, .unset, .unset] [])) (fun t ht => ?_) ?_
  · refine XS.astore X1280.here hx rfl (hb hby at_156) rfl rfl (l' := #[.val (.int p0), .val (.int p1), .val (.long q2), .second, .val (.long q3), .second, .val (.long q4), .second, .val (.int p5), .val (.int (2 : Int32)), .val (.int cA0), .val (.int cA1), .val (.int i12), .val (.int (2 : Int32)), .val (.int cB0), .val (.int cB1), .val (.long j16), .second, .val (.long j18), .second, .val (.int i20), .val (.ref b1253), .unset, .unset, .unset, .unset]) rfl ?_
    exact ht
  obtain ⟨T1296, h1296, X1296, e1296, E1296, A1296, D1296, -, st1296⟩ := newO X1280 hx hZ hown (hw _ (List.mem_of_getElem? (i := 0) rfl)) (hw _ (List.mem_of_getElem? (i := 1) rfl)) (hw _ (List.mem_of_getElem? (i := 2) rfl)) (rfl : T1280.heap = T1280.heap) (g := (mkF m 158 #[.val (.int p0), .val (.int p1), .val (.long q2), .second, .val (.long q3), .second, .val (.long q4), .second, .val (.int p5), .val (.int (2 : Int32)), .val (.int cA0), .val (.int cA1), .val (.int i12), .val (.int (2 : Int32)), .val (.int cB0), .val (.int cB1), .val (.long j16), .second, .val (.long j18), .second, .val (.int i20), .val (.ref b1253), .unset, .unset, .unset, .unset] [])) rfl (hb hby at_158) (by decide) (by decide)
  obtain ⟨b1296, gq1296⟩ : ∃ z, z = T1280.heap.size := ⟨_, rfl⟩
  rw [← gq1296] at A1296 D1296 st1296
  have g1297 : n0 ≤ b1296 := (Nat.le_trans Z1294 (Nat.le_of_eq gq1296.symm))
  have sz1298 : h0.size ≤ b1296 := (Nat.le_trans K1295.1 (Nat.le_of_eq gq1296.symm))
  have ne1299 : b1253 ≠ b1296 := (Nat.ne_of_lt (Nat.lt_of_lt_of_le f1289.lt (Nat.le_of_eq gq1296.symm)))
  have ne1300 : b1265 ≠ b1296 := (Nat.ne_of_lt (Nat.lt_of_lt_of_le f1290.lt (Nat.le_of_eq gq1296.symm)))
  have ne1301 : t1265 ≠ b1296 := (Nat.ne_of_lt (Nat.lt_of_lt_of_le f1293.lt (Nat.le_of_eq gq1296.symm)))
  have hA1302 := CHr.ext E1296 hR1286.1
  have hR1303 := hR1286.trans hA1302
  have f1304 := f1287.ext E1296
  have f1305 := f1288.ext E1296
  have f1306 := f1289.ext E1296
  have f1307 := f1290.ext E1296
  have f1308 := f1291.ext E1296
  have f1309 := f1292.ext E1296
  have f1310 := f1293.ext E1296
  have f1311 := f1281.ext E1296
  have f1312 := f1282.ext E1296
  have f1313 := f1283.ext E1296
  have Z1314 : n0 ≤ h1296.size := (Nat.le_trans Z1294 E1296.1)
  have K1315 : Keep h0 h1296 [] := (K1295.ext E1296)
  have f1316 : Fld Z h1296 b1296 "com/example/greylag/greylag/model/Bundle" "namespace" "Ljava/lang/String;" .null := D1296 (Or.inr (hw _ (List.mem_of_getElem? (i := 34) rfl))) (ty := (.object "java/lang/String")) (by decide)
  have f1317 : Fld Z h1296 b1296 "com/example/greylag/greylag/model/Bundle" "lower" "J" (.long (0 : Int64)) := D1296 (Or.inr (hw _ (List.mem_of_getElem? (i := 36) rfl))) (ty := .long) (by decide)
  have f1318 : Fld Z h1296 b1296 "com/example/greylag/greylag/model/Bundle" "upper" "J" (.long (0 : Int64)) := D1296 (Or.inr (hw _ (List.mem_of_getElem? (i := 38) rfl))) (ty := .long) (by decide)
  refine OFin.of (S' := T1296.setTop (mkF m 161 #[.val (.int p0), .val (.int p1), .val (.long q2), .second, .val (.long q3), .second, .val (.long q4), .second, .val (.int p5), .val (.int (2 : Int32)), .val (.int cA0), .val (.int cA1), .val (.int i12), .val (.int (2 : Int32)), .val (.int cB0), .val (.int cB1), .val (.long j16), .second, .val (.long j18), .second, .val (.int i20), .val (.ref b1253), .unset, .unset, .unset, .unset] [(.ref b1296)])) (fun t ht => st1296 t ht) ?_
  refine OFin.of (S' := T1296.setTop (mkF m 168 #[.val (.int p0), .val (.int p1), .val (.long q2), .second, .val (.long q3), .second, .val (.long q4), .second, .val (.int p5), .val (.int (2 : Int32)), .val (.int cA0), .val (.int cA1), .val (.int i12), .val (.int (2 : Int32)), .val (.int cB0), .val (.int cB1), .val (.long j16), .second, .val (.long j18), .second, .val (.int i20), .val (.ref b1253), .unset, .unset, .unset, .unset] [(.int cB1), (.int cB0), (.int (2 : Int32)), (.ref b1296), (.ref b1296)])) (fun t ht => ?_) ?_
  · refine XS.dup X1296.here hx rfl (hb hby at_161) rfl rfl ?_
    show Steps p.tables e below (T1296.setTop (mkF m 162 _ [(.ref b1296), (.ref b1296)])) _
    refine XS.iload X1296.here hx rfl (hb hby at_162) rfl ?_
    show Steps p.tables e below (T1296.setTop (mkF m 164 _ [(.int (2 : Int32)), (.ref b1296), (.ref b1296)])) _
    refine XS.iload X1296.here hx rfl (hb hby at_164) rfl ?_
    show Steps p.tables e below (T1296.setTop (mkF m 166 _ [(.int cB0), (.int (2 : Int32)), (.ref b1296), (.ref b1296)])) _
    refine XS.iload X1296.here hx rfl (hb hby at_166) rfl ?_
    exact ht
  obtain ⟨_, _, ⟨T1319, L1319, k1319, n1319⟩, -, X1319, ⟨Lc1319, hQ1319, l1319, y1319, z1319⟩, st1319⟩ := Jvm.LawKit.callS X1296 hx (y := (⟨"com/example/greylag/greylag/model/BundleEqualsPinLaw", "str", "(ICC)Ljava/lang/String;"⟩ : MethodName)) hown (mvT hZ (hw _ (List.mem_of_getElem? (i := 3) rfl))) (mvT hZ (hw _ (List.mem_of_getElem? (i := 4) rfl))) (mvT hZ (hw _ (List.mem_of_getElem? (i := 5) rfl))) (mvT hZ (hw _ (List.mem_of_getElem? (i := 6) rfl))) (by decide) (backOf (W := 2) (rmSt2 l Z _ hw [] cB0 cB1 b1296 cs h1296 n0 Z1314 A1296 f1304 hcs (own_hpc okB0) (own_hpc okB1)) hZ (hw _ (List.mem_of_getElem? (i := 6) rfl)) (hw _ (List.mem_of_getElem? (i := 5) rfl)) (by decide) (by decide)) (g := (mkF m 168 #[.val (.int p0), .val (.int p1), .val (.long q2), .second, .val (.long q3), .second, .val (.long q4), .second, .val (.int p5), .val (.int (2 : Int32)), .val (.int cA0), .val (.int cA1), .val (.int i12), .val (.int (2 : Int32)), .val (.int cB0), .val (.int cB1), .val (.long j16), .second, .val (.long j18), .second, .val (.int i20), .val (.ref b1253), .unset, .unset, .unset, .unset] [(.int cB1), (.int cB0), (.int (2 : Int32)), (.ref b1296), (.ref b1296)])) rfl (by rw [hml]; rfl) (argsL := [(.int (2 : Int32)), (.int cB0), (.int cB1)]) (rest := [(.ref b1296), (.ref b1296)]) (lenOf pd_9 rfl) rfl (by show 2 * 0 + _ ≤ _; exact Nat.le_of_eq rfl) (hb hby at_168) (fun _ _ => ⟨rfl, e1296, (by decide : 5 + 3 ≤ _), (by decide : 14 + 8 ≤ _)⟩)
  dsimp only [Pt.U, Pt.locs, Pt.cells, Pt.slots] at X1319 l1319 y1319 z1319 st1319 hQ1319
  subst l1319 y1319 z1319
  obtain ⟨rfl, Nq1319, Kq1319, Es1319, t1319, kb1319, f1319a, f1319b, f1319c, nt1319⟩ := hQ1319
  have N1320 := Fr.app N1284 Nq1319
  obtain ⟨b1319, gq1319⟩ : ∃ z, z = h1296.size := ⟨_, rfl⟩
  rw [← gq1319] at Es1319 f1319a f1319b st1319
  have g1321 : n0 ≤ b1319 := (Nat.le_trans Z1314 (Nat.le_of_eq gq1319.symm))
  have sz1322 : h0.size ≤ b1319 := (Nat.le_trans K1315.1 (Nat.le_of_eq gq1319.symm))
  have ne1323 : b1253 ≠ b1319 := (Nat.ne_of_lt (Nat.lt_of_lt_of_le f1306.lt (Nat.le_of_eq gq1319.symm)))
  have ne1324 : b1265 ≠ b1319 := (Nat.ne_of_lt (Nat.lt_of_lt_of_le f1307.lt (Nat.le_of_eq gq1319.symm)))
  have ne1325 : t1265 ≠ b1319 := (Nat.ne_of_lt (Nat.lt_of_lt_of_le f1310.lt (Nat.le_of_eq gq1319.symm)))
  have ne1326 : b1296 ≠ b1319 := (Nat.ne_of_lt (Nat.lt_of_lt_of_le A1296.lt (Nat.le_of_eq gq1319.symm)))
  have hA1327 := CHr.keep Kq1319 sf0 hR1303.1
  have hR1328 := hR1303.trans hA1327
  have f1329 := (own_staKeep f1304 Kq1319 own_sn0)
  have f1330 := (own_staKeep f1305 Kq1319 own_sn0)
  have f1331 := (f1306.keep Kq1319)
  have f1332 := (f1307.keep Kq1319)
  have f1333 := (f1308.keep Kq1319 nin0)
  have f1334 := (f1309.keep Kq1319 nin0)
  have f1335 := (f1310.keep Kq1319 nin0)
  have f1336 := (f1311.keep Kq1319 nin0)
  have f1337 := (f1312.keep Kq1319 nin0)
  have f1338 := (f1313.keep Kq1319 nin0)
  have f1339 := (A1296.keep Kq1319)
  have f1340 := (f1316.keep Kq1319 nin0)
  have f1341 := (f1317.keep Kq1319 nin0)
  have f1342 := (f1318.keep Kq1319 nin0)
  have Z1343 : n0 ≤ T1319.heap.size := (Nat.le_trans Z1314 Kq1319.1)
  have K1344 : Keep h0 T1319.heap [] := (K1315.trans Kq1319 all0)
  refine OFin.of (S' := T1319.setTop (mkF m 171 #[.val (.int p0), .val (.int p1), .val (.long q2), .second, .val (.long q3), .second, .val (.long q4), .second, .val (.int p5), .val (.int (2 : Int32)), .val (.int cA0), .val (.int cA1), .val (.int i12), .val (.int (2 : Int32)), .val (.int cB0), .val (.int cB1), .val (.long j16), .second, .val (.long j18), .second, .val (.int i20), .val (.ref b1253), .unset, .unset, .unset, .unset] [(.ref b1319), (.ref b1296), (.ref b1296)])) (fun t ht => st1319 t ht) ?_
  refine OFin.of (S' := T1319.setTop (mkF m 175 #[.val (.int p0), .val (.int p1), .val (.long q2), .second, .val (.long q3), .second, .val (.long q4), .second, .val (.int p5), .val (.int (2 : Int32)), .val (.int cA0), .val (.int cA1), .val (.int i12), .val (.int (2 : Int32)), .val (.int cB0), .val (.int cB1), .val (.long j16), .second, .val (.long j18), .second, .val (.int i20), .val (.ref b1253), .unset, .unset, .unset, .unset] [(.long j18), (.long j16), (.ref b1319), (.ref b1296), (.ref b1296)])) (fun t ht => ?_) ?_
  · refine XS.lload X1319.here hx rfl (hb hby at_171) rfl ?_
    show Steps p.tables e below (T1319.setTop (mkF m 173 _ [(.long j16), (.ref b1319), (.ref b1296), (.ref b1296)])) _
    refine XS.lload X1319.here hx rfl (hb hby at_173) rfl ?_
    exact ht
  obtain ⟨_, _, ⟨T1345, L1345, k1345, n1345⟩, -, X1345, ⟨Lc1345, hQ1345, l1345, y1345, z1345⟩, st1345⟩ := X1319.specialBack hx (y := (⟨"com/example/greylag/greylag/model/Bundle", "<init>", "(Ljava/lang/String;JJ)V"⟩ : MethodName)) rfl hown (mvT hZ (hw _ (List.mem_of_getElem? (i := 29) rfl))) (mvT hZ (hw _ (List.mem_of_getElem? (i := 30) rfl))) (mvT hZ (hw _ (List.mem_of_getElem? (i := 31) rfl))) (by decide) (backOf (W := 1) (rmIni l Z _ hw [] b1296 b1319 j16 j18 T1319.heap n0 Z1343 f1339 f1340 f1341 f1342 g1297) hZ (hw _ (List.mem_of_getElem? (i := 31) rfl)) (hw _ (List.mem_of_getElem? (i := 2) rfl)) (by decide) (by decide)) (g := (mkF m 175 #[.val (.int p0), .val (.int p1), .val (.long q2), .second, .val (.long q3), .second, .val (.long q4), .second, .val (.int p5), .val (.int (2 : Int32)), .val (.int cA0), .val (.int cA1), .val (.int i12), .val (.int (2 : Int32)), .val (.int cB0), .val (.int cB1), .val (.long j16), .second, .val (.long j18), .second, .val (.int i20), .val (.ref b1253), .unset, .unset, .unset, .unset] [(.long j18), (.long j16), (.ref b1319), (.ref b1296), (.ref b1296)])) rfl (by rw [hml]; rfl) (Steps.refl _) (a := b1296) (argsL := [(.ref b1319), (.long j16), (.long j18)]) (rest := [(.ref b1296)]) (lenOf pd_10 rfl) rfl (by show 2 * 0 + _ ≤ _; exact Nat.le_of_eq rfl) (hb hby at_175) (fun _ _ => ⟨rfl, (rfl : T1319.heap = T1319.heap), (by decide : 8 + 0 ≤ _), (by decide : 22 + 0 ≤ _)⟩)
  dsimp only [Pt.U, Pt.locs, Pt.cells, Pt.slots] at X1345 l1345 y1345 z1345 st1345 hQ1345
  subst l1345 y1345 z1345
  obtain ⟨rfl, Nq1345, Kq1345, f1346, f1347, f1348⟩ := hQ1345
  have N1349 := Fr.app N1320 Nq1345
  have hA1350 := CHr.keep Kq1345 (sfS (Safe.exa hZ.alike f1339 (by decide) (by decide)) sf0) hR1328.1
  have hR1351 := hR1328.trans hA1350
  have f1352 := (own_staKeep f1329 Kq1345 (own_snS f1339 own_sn0))
  have f1353 := (own_staKeep f1330 Kq1345 (own_snS f1339 own_sn0))
  have f1354 := (f1331.keep Kq1345)
  have f1355 := (f1332.keep Kq1345)
  have f1356 := (f1333.keep Kq1345 (ninS ne1300 nin0))
  have f1357 := (f1334.keep Kq1345 (ninS ne1300 nin0))
  have f1358 := (f1335.keep Kq1345 (ninS ne1301 nin0))
  have f1359 := (f1336.keep Kq1345 (ninS ne1299 nin0))
  have f1360 := (f1337.keep Kq1345 (ninS ne1299 nin0))
  have f1361 := (f1338.keep Kq1345 (ninS ne1299 nin0))
  have f1362 := (f1339.keep Kq1345)
  have f1363 := (Es1319.keep Kq1345)
  have f1364 := (f1319a.keep Kq1345 (ninS (Ne.symm ne1326) nin0))
  have f1365 := (f1319b.keep Kq1345 (ninS (Ne.symm ne1326) nin0))
  have f1366 := (f1319c.keep Kq1345 (ninS (Ne.symm nt1319) nin0))
  have Z1367 : n0 ≤ T1345.heap.size := (Nat.le_trans Z1343 Kq1345.1)
  have K1368 : Keep h0 T1345.heap [] := (K1344.trans Kq1345 (allS (Or.inr sz1298) all0))
  refine OFin.to (S' := T1345.setTop (mkF m 178 #[.val (.int p0), .val (.int p1), .val (.long q2), .second, .val (.long q3), .second, .val (.long q4), .second, .val (.int p5), .val (.int (2 : Int32)), .val (.int cA0), .val (.int cA1), .val (.int i12), .val (.int (2 : Int32)), .val (.int cB0), .val (.int cB1), .val (.long j16), .second, .val (.long j18), .second, .val (.int i20), .val (.ref b1253), .unset, .unset, .unset, .unset] [(.ref b1296)])) st1345 ?_
  refine OFin.of (S' := T1345.setTop (mkF m 181 #[.val (.int p0), .val (.int p1), .val (.long q2), .second, .val (.long q3), .second, .val (.long q4), .second, .val (.int p5), .val (.int (2 : Int32)), .val (.int cA0), .val (.int cA1), .val (.int i12), .val (.int (2 : Int32)), .val (.int cB0), .val (.int cB1), .val (.long j16), .second, .val (.long j18), .second, .val (.int i20), .val (.ref b1253), .val (.ref b1296), .unset, .unset, .unset] [(.long q2)])) (fun t ht => ?_) ?_
  · refine XS.astore X1345.here hx rfl (hb hby at_178) rfl rfl (l' := #[.val (.int p0), .val (.int p1), .val (.long q2), .second, .val (.long q3), .second, .val (.long q4), .second, .val (.int p5), .val (.int (2 : Int32)), .val (.int cA0), .val (.int cA1), .val (.int i12), .val (.int (2 : Int32)), .val (.int cB0), .val (.int cB1), .val (.long j16), .second, .val (.long j18), .second, .val (.int i20), .val (.ref b1253), .val (.ref b1296), .unset, .unset, .unset]) rfl ?_
    show Steps p.tables e below (T1345.setTop (mkF m 180 #[.val (.int p0), .val (.int p1), .val (.long q2), .second, .val (.long q3), .second, .val (.long q4), .second, .val (.int p5), .val (.int (2 : Int32)), .val (.int cA0), .val (.int cA1), .val (.int i12), .val (.int (2 : Int32)), .val (.int cB0), .val (.int cB1), .val (.long j16), .second, .val (.long j18), .second, .val (.int i20), .val (.ref b1253), .val (.ref b1296), .unset, .unset, .unset] [])) _
    refine XS.lloadN X1345.here hx rfl (hb hby at_180) rfl ?_
    exact ht
  obtain ⟨_, _, ⟨T1369, L1369, k1369, n1369⟩, -, X1369, ⟨Lc1369, hQ1369, l1369, y1369, z1369⟩, st1369⟩ := Jvm.LawKit.callS X1345 hx (y := (⟨"java/lang/Long", "valueOf", "(J)Ljava/lang/Long;"⟩ : MethodName)) hown (mvT hZ (hw _ (List.mem_of_getElem? (i := 39) rfl))) (mvT hZ (hw _ (List.mem_of_getElem? (i := 40) rfl))) (mvT hZ (hw _ (List.mem_of_getElem? (i := 41) rfl))) (mvT hZ (hw _ (List.mem_of_getElem? (i := 42) rfl))) (by decide) (backOf (W := 0) (rmVo l Z _ hw [] q2 ac T1345.heap n0 Z1367 f1353 (hLC.keep K1368)) hZ (hw _ (List.mem_of_getElem? (i := 42) rfl)) (hw _ (List.mem_of_getElem? (i := 41) rfl)) (by decide) (by decide)) (g := (mkF m 181 #[.val (.int p0), .val (.int p1), .val (.long q2), .second, .val (.long q3), .second, .val (.long q4), .second, .val (.int p5), .val (.int (2 : Int32)), .val (.int cA0), .val (.int cA1), .val (.int i12), .val (.int (2 : Int32)), .val (.int cB0), .val (.int cB1), .val (.long j16), .second, .val (.long j18), .second, .val (.int i20), .val (.ref b1253), .val (.ref b1296), .unset, .unset, .unset] [(.long q2)])) rfl (by rw [hml]; rfl) (argsL := [(.long q2)]) (rest := []) (lenOf pd_11 rfl) rfl (by show 2 * 0 + _ ≤ _; exact Nat.le_of_eq rfl) (hb hby at_181) (fun _ _ => ⟨rfl, (rfl : T1345.heap = T1345.heap), (by decide : 8 + 1 ≤ _), (by decide : 22 + 1 ≤ _)⟩)
  dsimp only [Pt.U, Pt.locs, Pt.cells, Pt.slots] at X1369 l1369 y1369 z1369 st1369 hQ1369
  subst l1369 y1369 z1369
  obtain ⟨r1369, rfl, Nq1369, Kq1369, Er1369⟩ := hQ1369
  have N1370 := Fr.app N1349 Nq1369
  have f1371 := (own_staKeep f1352 Kq1369 own_sn0)
  have f1372 := (own_staKeep f1353 Kq1369 own_sn0)
  have f1373 := (f1354.keep Kq1369)
  have f1374 := (f1355.keep Kq1369)
  have f1375 := (f1356.keep Kq1369 nin0)
  have f1376 := (f1357.keep Kq1369 nin0)
  have f1377 := (f1358.keep Kq1369 nin0)
  have f1378 := (f1359.keep Kq1369 nin0)
  have f1379 := (f1360.keep Kq1369 nin0)
  have f1380 := (f1361.keep Kq1369 nin0)
  have f1381 := (f1362.keep Kq1369)
  have f1382 := (f1363.keep Kq1369)
  have f1383 := (f1364.keep Kq1369 nin0)
  have f1384 := (f1365.keep Kq1369 nin0)
  have f1385 := (f1366.keep Kq1369 nin0)
  have f1386 := (f1346.keep Kq1369 nin0)
  have f1387 := (f1347.keep Kq1369 nin0)
  have f1388 := (f1348.keep Kq1369 nin0)
  have Z1389 : n0 ≤ T1369.heap.size := (Nat.le_trans Z1367 Kq1369.1)
  have K1390 : Keep h0 T1369.heap [] := (K1368.trans Kq1369 all0)
  refine OFin.of (S' := T1369.setTop (mkF m 184 #[.val (.int p0), .val (.int p1), .val (.long q2), .second, .val (.long q3), .second, .val (.long q4), .second, .val (.int p5), .val (.int (2 : Int32)), .val (.int cA0), .val (.int cA1), .val (.int i12), .val (.int (2 : Int32)), .val (.int cB0), .val (.int cB1), .val (.long j16), .second, .val (.long j18), .second, .val (.int i20), .val (.ref b1253), .val (.ref b1296), .unset, .unset, .unset] [(.ref r1369)])) (fun t ht => st1369 t ht) ?_
  refine OFin.of (S' := T1369.setTop (mkF m 186 #[.val (.int p0), .val (.int p1), .val (.long q2), .second, .val (.long q3), .second, .val (.long q4), .second, .val (.int p5), .val (.int (2 : Int32)), .val (.int cA0), .val (.int cA1), .val (.int i12), .val (.int (2 : Int32)), .val (.int cB0), .val (.int cB1), .val (.long j16), .second, .val (.long j18), .second, .val (.int i20), .val (.ref b1253), .val (.ref b1296), .val (.ref r1369), .unset, .unset] [])) (fun t ht => ?_) ?_
  · refine XS.astore X1369.here hx rfl (hb hby at_184) rfl rfl (l' := #[.val (.int p0), .val (.int p1), .val (.long q2), .second, .val (.long q3), .second, .val (.long q4), .second, .val (.int p5), .val (.int (2 : Int32)), .val (.int cA0), .val (.int cA1), .val (.int i12), .val (.int (2 : Int32)), .val (.int cB0), .val (.int cB1), .val (.long j16), .second, .val (.long j18), .second, .val (.int i20), .val (.ref b1253), .val (.ref b1296), .val (.ref r1369), .unset, .unset]) rfl ?_
    exact ht
  exact segT (s := s) (vm1 := s.vm) Z _ hw hx hby hlk hret hml hown hZ n0 p0 p1 q2 q3 q4 p5 (2 : Int32) cA0 cA1 i12 (2 : Int32) cB0 cB1 j16 j18 i20 b1253 b1296 r1369 b1265 b1319 (own_leq2 (((nar .char cA0).toInt8.toInt32).toInt8.toInt32) (((nar .char cA1).toInt8.toInt32).toInt8.toInt32) (((nar .char cB0).toInt8.toInt32).toInt8.toInt32) (((nar .char cB1).toInt8.toInt32).toInt8.toInt32)) (own_leq2 (((nar .char cB0).toInt8.toInt32).toInt8.toInt32) (((nar .char cB1).toInt8.toInt32).toInt8.toInt32) (((nar .char cA0).toInt8.toInt32).toInt8.toInt32) (((nar .char cA1).toInt8.toInt32).toInt8.toInt32)) (X1369.more (by decide) (by decide)) (rfl : T1369.heap = T1369.heap) Z1389 N1370 f1373 f1381 f1374 f1382 Er1369 f1378 f1379 f1380 f1386 f1387 f1388 (rmEqG l Z _ hw [] b1265 b1319 t1265 t1319 cs (own_leq2 (((nar .char cA0).toInt8.toInt32).toInt8.toInt32) (((nar .char cA1).toInt8.toInt32).toInt8.toInt32) (((nar .char cB0).toInt8.toInt32).toInt8.toInt32) (((nar .char cB1).toInt8.toInt32).toInt8.toInt32)) T1369.heap n0 Z1389 f1382 f1375 f1383 f1376 f1384 f1371 hcs ne1324 (own_leqv2 (((nar .char cA0).toInt8.toInt32).toInt8.toInt32) (((nar .char cA1).toInt8.toInt32).toInt8.toInt32) (((nar .char cB0).toInt8.toInt32).toInt8.toInt32) (((nar .char cB1).toInt8.toInt32).toInt8.toInt32)) (rmLe22 l Z _ hw [] t1265 t1319 kb1265 kb1319 (((nar .char cA0).toInt8.toInt32).toInt8.toInt32) (((nar .char cA1).toInt8.toInt32).toInt8.toInt32) (((nar .char cB0).toInt8.toInt32).toInt8.toInt32) (((nar .char cB1).toInt8.toInt32).toInt8.toInt32) T1369.heap n0 Z1389 f1377 f1385)) (rmEqG l Z _ hw [] b1319 b1265 t1319 t1265 cs (own_leq2 (((nar .char cB0).toInt8.toInt32).toInt8.toInt32) (((nar .char cB1).toInt8.toInt32).toInt8.toInt32) (((nar .char cA0).toInt8.toInt32).toInt8.toInt32) (((nar .char cA1).toInt8.toInt32).toInt8.toInt32)) T1369.heap n0 Z1389 f1374 f1383 f1375 f1384 f1376 f1371 hcs (Ne.symm ne1324) (own_leqv2 (((nar .char cB0).toInt8.toInt32).toInt8.toInt32) (((nar .char cB1).toInt8.toInt32).toInt8.toInt32) (((nar .char cA0).toInt8.toInt32).toInt8.toInt32) (((nar .char cA1).toInt8.toInt32).toInt8.toInt32)) (rmLe22 l Z _ hw [] t1319 t1265 kb1319 kb1265 (((nar .char cB0).toInt8.toInt32).toInt8.toInt32) (((nar .char cB1).toInt8.toInt32).toInt8.toInt32) (((nar .char cA0).toInt8.toInt32).toInt8.toInt32) (((nar .char cA1).toInt8.toInt32).toInt8.toInt32) T1369.heap n0 Z1389 f1385 f1377)) (own_e22 okA0 okB0 okA1 okB1) (own_e22r okA0 okB0 okA1 okB1) ((State.WarmedH.refl s).since T1369.heap.size) (Nat.le_refl _) hQ
theorem pn0 : plainName "com/example/greylag/greylag/model/BundleEqualsPinLaw" = true := by first | (simp [plainName, overriddenIn]; done) | decide +kernel
theorem ef0 (m : MethodId) (p0 : Int32) (p1 : Int32) (q2 : Int64) (q3 : Int64) (q4 : Int64) (p5 : Int32) : entryFrame m #[(.int p0), (.int p1), (.long q2), (.long q3), (.long q4), (.int p5)] maxLocals = mkF m 0 #[.val (.int p0), .val (.int p1), .val (.long q2), .second, .val (.long q3), .second, .val (.long q4), .second, .val (.int p5), .unset, .unset, .unset, .unset, .unset, .unset, .unset, .unset, .unset, .unset, .unset, .unset, .unset, .unset, .unset, .unset, .unset] [] := by first | (simp [entryFrame, mkF, argsToLocals, Value.category, maxLocals]; done) | rfl
def Q0 (Z : State) (p0 : Int32) (p1 : Int32) (q2 : Int64) (q3 : Int64) (q4 : Int64) (p5 : Int32) (cs : Int32) (ac : Addr) (h0 : Heap) (n0 : Nat) (v : Option Value) (h : Heap) (L : List Loc) : Prop := v = some (.int (1 : Int32)) ∧ Fr n0 L
set_option maxRecDepth 65536 in
set_option maxHeartbeats 40000000 in
theorem rm0 (l : Launch) (Z : State) (a0 : Array Value) (hw : ∀ d ∈ tables_1, d.before a0 Z = true) (ws : List Jvm.Cond) (p0 : Int32) (p1 : Int32) (q2 : Int64) (q3 : Int64) (q4 : Int64) (p5 : Int32) (cs : Int32) (ac : Addr) (h0 : Heap) (n0 : Nat) (Z0 : n0 ≤ h0.size) (Scs : Sta Z h0 "java/lang/String" "COMPACT_STRINGS" "Z" (.int cs)) (Scc : Sta Z h0 "java/lang/Long$LongCache" "cache" "[Ljava/lang/Long;" (.ref ac)) (hcs : ¬ cs = (0 : Int32)) (hLC : OwnLC Z h0 ac) :
    MetFree l x (head1 (Jvm.Cond.code x code maxLocals ret :: ws) room_1) (fun a U => a = #[(.int p0), (.int p1), (.long q2), (.long q3), (.long q4), (.int p5)] ∧ Z.Warmed39 U.vm ∧ U.heap = h0 ∧ CHv Z consts_1 U.vm h0) (fun _ _ _ _ _ => True) (fun _ U o U' => ∃ v L, o = .returned v ∧ Q0 Z p0 p1 q2 q3 q4 p5 cs ac h0 n0 v U'.heap L ∧ ReturnedEndW U o U' L room_1.cells room_1.slots) := by
  refine MetFree.of_bodySF (plainFor_of_name pn0) hisR ?_
  intro p e s m args below meth c s₁ Bd hml0 hP hK
  obtain ⟨rfl, hZ, hh, hC0⟩ := hP
  have hx := Bd.exec
  have hby := Bd.bytes
  have hlk := BodyLoose.notSynchronized Bd
  have hret := Bd.returns
  have hml : c.maxLocals = 26 := hml0
  have hown : s.vm.findClass "com/example/greylag/greylag/model/BundleEqualsPinLaw" = some m.cls := findClass_of_methodNamed Bd.named
  have hnm := (name_of_methodNamed Bd.named Bd.method).1
  have X0 : Stand p l e room_1 s m #[(.int p0), (.int p1), (.long q2), (.long q3), (.long q4), (.int p5)] below meth c s₁ [] 0 0 := Stand.of_body Bd
  have e0 : s₁.heap = h0 := by rw [← hh, Bd.state]; rfl
  have N0 := Fr.nil n0
  show OFin p e below (KPostW s (Q0 Z p0 p1 q2 q3 q4 p5 cs ac h0 n0) room_1.cells room_1.slots) _
  have hR0 : CHr Z consts_1 s.vm h0 s.vm h0 := CHr.refl hC0
  have hEL := own_EW hw
  rw [ef0 m p0 p1 q2 q3 q4 p5]
  have K0 : Keep h0 h0 [] := Keep.refl _ _
  refine OFin.of (S' := s₁.setTop (mkF m 6 #[.val (.int p0), .val (.int p1), .val (.long q2), .second, .val (.long q3), .second, .val (.long q4), .second, .val (.int p5), .unset, .unset, .unset, .unset, .unset, .unset, .unset, .unset, .unset, .unset, .unset, .unset, .unset, .unset, .unset, .unset, .unset] [(.int (((p0.toUInt32 >>> ((16 : Int32) &&& 31).toUInt32).toInt32) % (3 : Int32)))])) (fun t ht => ?_) ?_
  · refine XS.iloadN X0.here hx rfl (hb hby at_0) rfl ?_
    show Steps p.tables e below (s₁.setTop (mkF m 1 _ [(.int p0)])) _
    refine XS.bipush X0.here hx rfl (hb hby at_1) ?_
    show Steps p.tables e below (s₁.setTop (mkF m 3 _ [(.int (16 : Int32)), (.int p0)])) _
    refine XS.iushr X0.here hx rfl (hb hby at_3) rfl ?_
    show Steps p.tables e below (s₁.setTop (mkF m 4 _ [(.int ((p0.toUInt32 >>> ((16 : Int32) &&& 31).toUInt32).toInt32))])) _
    refine XS.iconst X0.here hx rfl (hb hby at_4) ?_
    show Steps p.tables e below (s₁.setTop (mkF m 5 _ [(.int (3 : Int32)), (.int ((p0.toUInt32 >>> ((16 : Int32) &&& 31).toUInt32).toInt32))])) _
    refine iremM X0 hx rfl (hb hby at_5) rfl (by decide) ?_
    exact ht
  obtain ⟨i9, h_i9⟩ : ∃ z : Int32, z = (((p0.toUInt32 >>> ((16 : Int32) &&& 31).toUInt32).toInt32) % (3 : Int32)) := ⟨_, rfl⟩
  rw [← h_i9]
  refine OFin.of (S' := s₁.setTop (mkF m 14 #[.val (.int p0), .val (.int p1), .val (.long q2), .second, .val (.long q3), .second, .val (.long q4), .second, .val (.int p5), .val (.int i9), .unset, .unset, .unset, .unset, .unset, .unset, .unset, .unset, .unset, .unset, .unset, .unset, .unset, .unset, .unset, .unset] [(.int ((p0 &&& (255 : Int32)).toUInt32.toUInt16.toUInt32.toInt32))])) (fun t ht => ?_) ?_
  · refine XS.istore X0.here hx rfl (hb hby at_6) rfl (l' := #[.val (.int p0), .val (.int p1), .val (.long q2), .second, .val (.long q3), .second, .val (.long q4), .second, .val (.int p5), .val (.int i9), .unset, .unset, .unset, .unset, .unset, .unset, .unset, .unset, .unset, .unset, .unset, .unset, .unset, .unset, .unset, .unset]) rfl ?_
    show Steps p.tables e below (s₁.setTop (mkF m 8 #[.val (.int p0), .val (.int p1), .val (.long q2), .second, .val (.long q3), .second, .val (.long q4), .second, .val (.int p5), .val (.int i9), .unset, .unset, .unset, .unset, .unset, .unset, .unset, .unset, .unset, .unset, .unset, .unset, .unset, .unset, .unset, .unset] [])) _
    refine XS.iloadN X0.here hx rfl (hb hby at_8) rfl ?_
    show Steps p.tables e below (s₁.setTop (mkF m 9 _ [(.int p0)])) _
    refine XS.sipush X0.here hx rfl (hb hby at_9) ?_
    show Steps p.tables e below (s₁.setTop (mkF m 12 _ [(.int (255 : Int32)), (.int p0)])) _
    refine XS.iand X0.here hx rfl (hb hby at_12) rfl ?_
    show Steps p.tables e below (s₁.setTop (mkF m 13 _ [(.int (p0 &&& (255 : Int32)))])) _
    refine XS.i2c X0.here hx rfl (hb hby at_13) rfl ?_
    exact ht
  obtain ⟨cA0, h_cA0⟩ : ∃ z : Int32, z = ((p0 &&& (255 : Int32)).toUInt32.toUInt16.toUInt32.toInt32) := ⟨_, rfl⟩
  rw [← h_cA0]
  refine OFin.of (S' := s₁.setTop (mkF m 25 #[.val (.int p0), .val (.int p1), .val (.long q2), .second, .val (.long q3), .second, .val (.long q4), .second, .val (.int p5), .val (.int i9), .val (.int cA0), .unset, .unset, .unset, .unset, .unset, .unset, .unset, .unset, .unset, .unset, .unset, .unset, .unset, .unset, .unset] [(.int ((((p0.toUInt32 >>> ((8 : Int32) &&& 31).toUInt32).toInt32) &&& (255 : Int32)).toUInt32.toUInt16.toUInt32.toInt32))])) (fun t ht => ?_) ?_
  · refine XS.istore X0.here hx rfl (hb hby at_14) rfl (l' := #[.val (.int p0), .val (.int p1), .val (.long q2), .second, .val (.long q3), .second, .val (.long q4), .second, .val (.int p5), .val (.int i9), .val (.int cA0), .unset, .unset, .unset, .unset, .unset, .unset, .unset, .unset, .unset, .unset, .unset, .unset, .unset, .unset, .unset]) rfl ?_
    show Steps p.tables e below (s₁.setTop (mkF m 16 #[.val (.int p0), .val (.int p1), .val (.long q2), .second, .val (.long q3), .second, .val (.long q4), .second, .val (.int p5), .val (.int i9), .val (.int cA0), .unset, .unset, .unset, .unset, .unset, .unset, .unset, .unset, .unset, .unset, .unset, .unset, .unset, .unset, .unset] [])) _
    refine XS.iloadN X0.here hx rfl (hb hby at_16) rfl ?_
    show Steps p.tables e below (s₁.setTop (mkF m 17 _ [(.int p0)])) _
    refine XS.bipush X0.here hx rfl (hb hby at_17) ?_
    show Steps p.tables e below (s₁.setTop (mkF m 19 _ [(.int (8 : Int32)), (.int p0)])) _
    refine XS.iushr X0.here hx rfl (hb hby at_19) rfl ?_
    show Steps p.tables e below (s₁.setTop (mkF m 20 _ [(.int ((p0.toUInt32 >>> ((8 : Int32) &&& 31).toUInt32).toInt32))])) _
    refine XS.sipush X0.here hx rfl (hb hby at_20) ?_
    show Steps p.tables e below (s₁.setTop (mkF m 23 _ [(.int (255 : Int32)), (.int ((p0.toUInt32 >>> ((8 : Int32) &&& 31).toUInt32).toInt32))])) _
    refine XS.iand X0.here hx rfl (hb hby at_23) rfl ?_
    show Steps p.tables e below (s₁.setTop (mkF m 24 _ [(.int (((p0.toUInt32 >>> ((8 : Int32) &&& 31).toUInt32).toInt32) &&& (255 : Int32)))])) _
    refine XS.i2c X0.here hx rfl (hb hby at_24) rfl ?_
    exact ht
  obtain ⟨cA1, h_cA1⟩ : ∃ z : Int32, z = ((((p0.toUInt32 >>> ((8 : Int32) &&& 31).toUInt32).toInt32) &&& (255 : Int32)).toUInt32.toUInt16.toUInt32.toInt32) := ⟨_, rfl⟩
  rw [← h_cA1]
  refine OFin.of (S' := s₁.setTop (mkF m 31 #[.val (.int p0), .val (.int p1), .val (.long q2), .second, .val (.long q3), .second, .val (.long q4), .second, .val (.int p5), .val (.int i9), .val (.int cA0), .val (.int cA1), .unset, .unset, .unset, .unset, .unset, .unset, .unset, .unset, .unset, .unset, .unset, .unset, .unset, .unset] [(.int (p5 &&& (1 : Int32)))])) (fun t ht => ?_) ?_
  · refine XS.istore X0.here hx rfl (hb hby at_25) rfl (l' := #[.val (.int p0), .val (.int p1), .val (.long q2), .second, .val (.long q3), .second, .val (.long q4), .second, .val (.int p5), .val (.int i9), .val (.int cA0), .val (.int cA1), .unset, .unset, .unset, .unset, .unset, .unset, .unset, .unset, .unset, .unset, .unset, .unset, .unset, .unset]) rfl ?_
    show Steps p.tables e below (s₁.setTop (mkF m 27 #[.val (.int p0), .val (.int p1), .val (.long q2), .second, .val (.long q3), .second, .val (.long q4), .second, .val (.int p5), .val (.int i9), .val (.int cA0), .val (.int cA1), .unset, .unset, .unset, .unset, .unset, .unset, .unset, .unset, .unset, .unset, .unset, .unset, .unset, .unset] [])) _
    refine XS.iload X0.here hx rfl (hb hby at_27) rfl ?_
    show Steps p.tables e below (s₁.setTop (mkF m 29 _ [(.int p5)])) _
    refine XS.iconst X0.here hx rfl (hb hby at_29) ?_
    show Steps p.tables e below (s₁.setTop (mkF m 30 _ [(.int (1 : Int32)), (.int p5)])) _
    refine XS.iand X0.here hx rfl (hb hby at_30) rfl ?_
    exact ht
  by_cases hc1 : (p5 &&& (1 : Int32)) = (0 : Int32)
  · refine OFin.of (S' := s₁.setTop (mkF m 57 #[.val (.int p0), .val (.int p1), .val (.long q2), .second, .val (.long q3), .second, .val (.long q4), .second, .val (.int p5), .val (.int i9), .val (.int cA0), .val (.int cA1), .val (.int (0 : Int32)), .unset, .unset, .unset, .unset, .unset, .unset, .unset, .unset, .unset, .unset, .unset, .unset, .unset] [(.int (((p1.toUInt32 >>> ((16 : Int32) &&& 31).toUInt32).toInt32) % (3 : Int32)))])) (fun t ht => ?_) ?_
    · refine XS.ifYes X0.here hx rfl (pc0 := 31) (pc' := 38) rfl (hb hby at_31) rfl ((if0 _ _).trans (teq (hc1 : (p5 &&& (1 : Int32)) = (0 : Int32))).1) (by decide) (by decide) ?_
      show Steps p.tables e below (s₁.setTop (mkF m 38 _ [])) _
      refine XS.iconst X0.here hx rfl (hb hby at_38) ?_
      show Steps p.tables e below (s₁.setTop (mkF m 39 _ [(.int (0 : Int32))])) _
      refine XS.istore X0.here hx rfl (hb hby at_39) rfl (l' := #[.val (.int p0), .val (.int p1), .val (.long q2), .second, .val (.long q3), .second, .val (.long q4), .second, .val (.int p5), .val (.int i9), .val (.int cA0), .val (.int cA1), .val (.int (0 : Int32)), .unset, .unset, .unset, .unset, .unset, .unset, .unset, .unset, .unset, .unset, .unset, .unset, .unset]) rfl ?_
      show Steps p.tables e below (s₁.setTop (mkF m 41 #[.val (.int p0), .val (.int p1), .val (.long q2), .second, .val (.long q3), .second, .val (.long q4), .second, .val (.int p5), .val (.int i9), .val (.int cA0), .val (.int cA1), .val (.int (0 : Int32)), .unset, .unset, .unset, .unset, .unset, .unset, .unset, .unset, .unset, .unset, .unset, .unset, .unset] [])) _
      refine XS.iload X0.here hx rfl (hb hby at_41) rfl ?_
      show Steps p.tables e below (s₁.setTop (mkF m 43 _ [(.int (0 : Int32))])) _
      refine XS.ifYes X0.here hx rfl (pc0 := 43) (pc' := 51) rfl (hb hby at_43) rfl ((if0 _ _).trans (teq (by decide : (0 : Int32) = (0 : Int32))).1) (by decide) (by decide) ?_
      show Steps p.tables e below (s₁.setTop (mkF m 51 _ [])) _
      refine XS.iloadN X0.here hx rfl (hb hby at_51) rfl ?_
      show Steps p.tables e below (s₁.setTop (mkF m 52 _ [(.int p1)])) _
      refine XS.bipush X0.here hx rfl (hb hby at_52) ?_
      show Steps p.tables e below (s₁.setTop (mkF m 54 _ [(.int (16 : Int32)), (.int p1)])) _
      refine XS.iushr X0.here hx rfl (hb hby at_54) rfl ?_
      show Steps p.tables e below (s₁.setTop (mkF m 55 _ [(.int ((p1.toUInt32 >>> ((16 : Int32) &&& 31).toUInt32).toInt32))])) _
      refine XS.iconst X0.here hx rfl (hb hby at_55) ?_
      show Steps p.tables e below (s₁.setTop (mkF m 56 _ [(.int (3 : Int32)), (.int ((p1.toUInt32 >>> ((16 : Int32) &&& 31).toUInt32).toInt32))])) _
      refine iremM X0 hx rfl (hb hby at_56) rfl (by decide) ?_
      exact ht
    obtain ⟨i13, h_i13⟩ : ∃ z : Int32, z = (((p1.toUInt32 >>> ((16 : Int32) &&& 31).toUInt32).toInt32) % (3 : Int32)) := ⟨_, rfl⟩
    rw [← h_i13]
    refine OFin.of (S' := s₁.setTop (mkF m 75 #[.val (.int p0), .val (.int p1), .val (.long q2), .second, .val (.long q3), .second, .val (.long q4), .second, .val (.int p5), .val (.int i9), .val (.int cA0), .val (.int cA1), .val (.int (0 : Int32)), .val (.int i13), .unset, .unset, .unset, .unset, .unset, .unset, .unset, .unset, .unset, .unset, .unset, .unset] [(.int ((p1 &&& (255 : Int32)).toUInt32.toUInt16.toUInt32.toInt32))])) (fun t ht => ?_) ?_
    · refine XS.istore X0.here hx rfl (hb hby at_57) rfl (l' := #[.val (.int p0), .val (.int p1), .val (.long q2), .second, .val (.long q3), .second, .val (.long q4), .second, .val (.int p5), .val (.int i9), .val (.int cA0), .val (.int cA1), .val (.int (0 : Int32)), .val (.int i13), .unset, .unset, .unset, .unset, .unset, .unset, .unset, .unset, .unset, .unset, .unset, .unset]) rfl ?_
      show Steps p.tables e below (s₁.setTop (mkF m 59 #[.val (.int p0), .val (.int p1), .val (.long q2), .second, .val (.long q3), .second, .val (.long q4), .second, .val (.int p5), .val (.int i9), .val (.int cA0), .val (.int cA1), .val (.int (0 : Int32)), .val (.int i13), .unset, .unset, .unset, .unset, .unset, .unset, .unset, .unset, .unset, .unset, .unset, .unset] [])) _
      refine XS.iload X0.here hx rfl (hb hby at_59) rfl ?_
      show Steps p.tables e below (s₁.setTop (mkF m 61 _ [(.int (0 : Int32))])) _
      refine XS.ifYes X0.here hx rfl (pc0 := 61) (pc' := 69) rfl (hb hby at_61) rfl ((if0 _ _).trans (teq (by decide : (0 : Int32) = (0 : Int32))).1) (by decide) (by decide) ?_
      show Steps p.tables e below (s₁.setTop (mkF m 69 _ [])) _
      refine XS.iloadN X0.here hx rfl (hb hby at_69) rfl ?_
      show Steps p.tables e below (s₁.setTop (mkF m 70 _ [(.int p1)])) _
      refine XS.sipush X0.here hx rfl (hb hby at_70) ?_
      show Steps p.tables e below (s₁.setTop (mkF m 73 _ [(.int (255 : Int32)), (.int p1)])) _
      refine XS.iand X0.here hx rfl (hb hby at_73) rfl ?_
      show Steps p.tables e below (s₁.setTop (mkF m 74 _ [(.int (p1 &&& (255 : Int32)))])) _
      refine XS.i2c X0.here hx rfl (hb hby at_74) rfl ?_
      exact ht
    obtain ⟨cB0, h_cB0⟩ : ∃ z : Int32, z = ((p1 &&& (255 : Int32)).toUInt32.toUInt16.toUInt32.toInt32) := ⟨_, rfl⟩
    rw [← h_cB0]
    refine OFin.of (S' := s₁.setTop (mkF m 96 #[.val (.int p0), .val (.int p1), .val (.long q2), .second, .val (.long q3), .second, .val (.long q4), .second, .val (.int p5), .val (.int i9), .val (.int cA0), .val (.int cA1), .val (.int (0 : Int32)), .val (.int i13), .val (.int cB0), .unset, .unset, .unset, .unset, .unset, .unset, .unset, .unset, .unset, .unset, .unset] [(.int ((((p1.toUInt32 >>> ((8 : Int32) &&& 31).toUInt32).toInt32) &&& (255 : Int32)).toUInt32.toUInt16.toUInt32.toInt32))])) (fun t ht => ?_) ?_
    · refine XS.istore X0.here hx rfl (hb hby at_75) rfl (l' := #[.val (.int p0), .val (.int p1), .val (.long q2), .second, .val (.long q3), .second, .val (.long q4), .second, .val (.int p5), .val (.int i9), .val (.int cA0), .val (.int cA1), .val (.int (0 : Int32)), .val (.int i13), .val (.int cB0), .unset, .unset, .unset, .unset, .unset, .unset, .unset, .unset, .unset, .unset, .unset]) rfl ?_
      show Steps p.tables e below (s₁.setTop (mkF m 77 #[.val (.int p0), .val (.int p1), .val (.long q2), .second, .val (.long q3), .second, .val (.long q4), .second, .val (.int p5), .val (.int i9), .val (.int cA0), .val (.int cA1), .val (.int (0 : Int32)), .val (.int i13), .val (.int cB0), .unset, .unset, .unset, .unset, .unset, .unset, .unset, .unset, .unset, .unset, .unset] [])) _
      refine XS.iload X0.here hx rfl (hb hby at_77) rfl ?_
      show Steps p.tables e below (s₁.setTop (mkF m 79 _ [(.int (0 : Int32))])) _
      refine XS.ifYes X0.here hx rfl (pc0 := 79) (pc' := 87) rfl (hb hby at_79) rfl ((if0 _ _).trans (teq (by decide : (0 : Int32) = (0 : Int32))).1) (by decide) (by decide) ?_
      show Steps p.tables e below (s₁.setTop (mkF m 87 _ [])) _
      refine XS.iloadN X0.here hx rfl (hb hby at_87) rfl ?_
      show Steps p.tables e below (s₁.setTop (mkF m 88 _ [(.int p1)])) _
      refine XS.bipush X0.here hx rfl (hb hby at_88) ?_
      show Steps p.tables e below (s₁.setTop (mkF m 90 _ [(.int (8 : Int32)), (.int p1)])) _
      refine XS.iushr X0.here hx rfl (hb hby at_90) rfl ?_
      show Steps p.tables e below (s₁.setTop (mkF m 91 _ [(.int ((p1.toUInt32 >>> ((8 : Int32) &&& 31).toUInt32).toInt32))])) _
      refine XS.sipush X0.here hx rfl (hb hby at_91) ?_
      show Steps p.tables e below (s₁.setTop (mkF m 94 _ [(.int (255 : Int32)), (.int ((p1.toUInt32 >>> ((8 : Int32) &&& 31).toUInt32).toInt32))])) _
      refine XS.iand X0.here hx rfl (hb hby at_94) rfl ?_
      show Steps p.tables e below (s₁.setTop (mkF m 95 _ [(.int (((p1.toUInt32 >>> ((8 : Int32) &&& 31).toUInt32).toInt32) &&& (255 : Int32)))])) _
      refine XS.i2c X0.here hx rfl (hb hby at_95) rfl ?_
      exact ht
    obtain ⟨cB1, h_cB1⟩ : ∃ z : Int32, z = ((((p1.toUInt32 >>> ((8 : Int32) &&& 31).toUInt32).toInt32) &&& (255 : Int32)).toUInt32.toUInt16.toUInt32.toInt32) := ⟨_, rfl⟩
    rw [← h_cB1]
    refine OFin.of (S' := s₁.setTop (mkF m 102 #[.val (.int p0), .val (.int p1), .val (.long q2), .second, .val (.long q3), .second, .val (.long q4), .second, .val (.int p5), .val (.int i9), .val (.int cA0), .val (.int cA1), .val (.int (0 : Int32)), .val (.int i13), .val (.int cB0), .val (.int cB1), .unset, .unset, .unset, .unset, .unset, .unset, .unset, .unset, .unset, .unset] [(.int (p5 &&& (2 : Int32)))])) (fun t ht => ?_) ?_
    · refine XS.istore X0.here hx rfl (hb hby at_96) rfl (l' := #[.val (.int p0), .val (.int p1), .val (.long q2), .second, .val (.long q3), .second, .val (.long q4), .second, .val (.int p5), .val (.int i9), .val (.int cA0), .val (.int cA1), .val (.int (0 : Int32)), .val (.int i13), .val (.int cB0), .val (.int cB1), .unset, .unset, .unset, .unset, .unset, .unset, .unset, .unset, .unset, .unset]) rfl ?_
      show Steps p.tables e below (s₁.setTop (mkF m 98 #[.val (.int p0), .val (.int p1), .val (.long q2), .second, .val (.long q3), .second, .val (.long q4), .second, .val (.int p5), .val (.int i9), .val (.int cA0), .val (.int cA1), .val (.int (0 : Int32)), .val (.int i13), .val (.int cB0), .val (.int cB1), .unset, .unset, .unset, .unset, .unset, .unset, .unset, .unset, .unset, .unset] [])) _
      refine XS.iload X0.here hx rfl (hb hby at_98) rfl ?_
      show Steps p.tables e below (s₁.setTop (mkF m 100 _ [(.int p5)])) _
      refine XS.iconst X0.here hx rfl (hb hby at_100) ?_
      show Steps p.tables e below (s₁.setTop (mkF m 101 _ [(.int (2 : Int32)), (.int p5)])) _
      refine XS.iand X0.here hx rfl (hb hby at_101) rfl ?_
      exact ht
    by_cases hc2 : (p5 &&& (2 : Int32)) = (0 : Int32)
    · refine OFin.of (S' := s₁.setTop (mkF m 117 #[.val (.int p0), .val (.int p1), .val (.long q2), .second, .val (.long q3), .second, .val (.long q4), .second, .val (.int p5), .val (.int i9), .val (.int cA0), .val (.int cA1), .val (.int (0 : Int32)), .val (.int i13), .val (.int cB0), .val (.int cB1), .val (.long q4), .second, .unset, .unset, .unset, .unset, .unset, .unset, .unset, .unset] [(.int (p5 &&& (4 : Int32)))])) (fun t ht => ?_) ?_
      · refine XS.ifYes X0.here hx rfl (pc0 := 102) (pc' := 109) rfl (hb hby at_102) rfl ((if0 _ _).trans (teq (hc2 : (p5 &&& (2 : Int32)) = (0 : Int32))).1) (by decide) (by decide) ?_
        show Steps p.tables e below (s₁.setTop (mkF m 109 _ [])) _
        refine XS.lload X0.here hx rfl (hb hby at_109) rfl ?_
        show Steps p.tables e below (s₁.setTop (mkF m 111 _ [(.long q4)])) _
        refine XS.lstore X0.here hx rfl (hb hby at_111) rfl (l' := #[.val (.int p0), .val (.int p1), .val (.long q2), .second, .val (.long q3), .second, .val (.long q4), .second, .val (.int p5), .val (.int i9), .val (.int cA0), .val (.int cA1), .val (.int (0 : Int32)), .val (.int i13), .val (.int cB0), .val (.int cB1), .val (.long q4), .second, .unset, .unset, .unset, .unset, .unset, .unset, .unset, .unset]) rfl ?_
        show Steps p.tables e below (s₁.setTop (mkF m 113 #[.val (.int p0), .val (.int p1), .val (.long q2), .second, .val (.long q3), .second, .val (.long q4), .second, .val (.int p5), .val (.int i9), .val (.int cA0), .val (.int cA1), .val (.int (0 : Int32)), .val (.int i13), .val (.int cB0), .val (.int cB1), .val (.long q4), .second, .unset, .unset, .unset, .unset, .unset, .unset, .unset, .unset] [])) _
        refine XS.iload X0.here hx rfl (hb hby at_113) rfl ?_
        show Steps p.tables e below (s₁.setTop (mkF m 115 _ [(.int p5)])) _
        refine XS.iconst X0.here hx rfl (hb hby at_115) ?_
        show Steps p.tables e below (s₁.setTop (mkF m 116 _ [(.int (4 : Int32)), (.int p5)])) _
        refine XS.iand X0.here hx rfl (hb hby at_116) rfl ?_
        exact ht
      by_cases hc3 : (p5 &&& (4 : Int32)) = (0 : Int32)
      · refine OFin.of (S' := s₁.setTop (mkF m 135 #[.val (.int p0), .val (.int p1), .val (.long q2), .second, .val (.long q3), .second, .val (.long q4), .second, .val (.int p5), .val (.int i9), .val (.int cA0), .val (.int cA1), .val (.int (0 : Int32)), .val (.int i13), .val (.int cB0), .val (.int cB1), .val (.long q4), .second, .val (.long q4), .second, .unset, .unset, .unset, .unset, .unset, .unset] [(.int (((p5.toUInt32 >>> ((3 : Int32) &&& 31).toUInt32).toInt32) &&& (3 : Int32)))])) (fun t ht => ?_) ?_
        · refine XS.ifYes X0.here hx rfl (pc0 := 117) (pc' := 125) rfl (hb hby at_117) rfl ((if0 _ _).trans (teq (hc3 : (p5 &&& (4 : Int32)) = (0 : Int32))).1) (by decide) (by decide) ?_
          show Steps p.tables e below (s₁.setTop (mkF m 125 _ [])) _
          refine XS.lload X0.here hx rfl (hb hby at_125) rfl ?_
          show Steps p.tables e below (s₁.setTop (mkF m 127 _ [(.long q4)])) _
          refine XS.lstore X0.here hx rfl (hb hby at_127) rfl (l' := #[.val (.int p0), .val (.int p1), .val (.long q2), .second, .val (.long q3), .second, .val (.long q4), .second, .val (.int p5), .val (.int i9), .val (.int cA0), .val (.int cA1), .val (.int (0 : Int32)), .val (.int i13), .val (.int cB0), .val (.int cB1), .val (.long q4), .second, .val (.long q4), .second, .unset, .unset, .unset, .unset, .unset, .unset]) rfl ?_
          show Steps p.tables e below (s₁.setTop (mkF m 129 #[.val (.int p0), .val (.int p1), .val (.long q2), .second, .val (.long q3), .second, .val (.long q4), .second, .val (.int p5), .val (.int i9), .val (.int cA0), .val (.int cA1), .val (.int (0 : Int32)), .val (.int i13), .val (.int cB0), .val (.int cB1), .val (.long q4), .second, .val (.long q4), .second, .unset, .unset, .unset, .unset, .unset, .unset] [])) _
          refine XS.iload X0.here hx rfl (hb hby at_129) rfl ?_
          show Steps p.tables e below (s₁.setTop (mkF m 131 _ [(.int p5)])) _
          refine XS.iconst X0.here hx rfl (hb hby at_131) ?_
          show Steps p.tables e below (s₁.setTop (mkF m 132 _ [(.int (3 : Int32)), (.int p5)])) _
          refine XS.iushr X0.here hx rfl (hb hby at_132) rfl ?_
          show Steps p.tables e below (s₁.setTop (mkF m 133 _ [(.int ((p5.toUInt32 >>> ((3 : Int32) &&& 31).toUInt32).toInt32))])) _
          refine XS.iconst X0.here hx rfl (hb hby at_133) ?_
          show Steps p.tables e below (s₁.setTop (mkF m 134 _ [(.int (3 : Int32)), (.int ((p5.toUInt32 >>> ((3 : Int32) &&& 31).toUInt32).toInt32))])) _
          refine XS.iand X0.here hx rfl (hb hby at_134) rfl ?_
          exact ht
        obtain ⟨i20, h_i20⟩ : ∃ z : Int32, z = (((p5.toUInt32 >>> ((3 : Int32) &&& 31).toUInt32).toInt32) &&& (3 : Int32)) := ⟨_, rfl⟩
        rw [← h_i20]
        refine OFin.of (S' := s₁.setTop (mkF m 137 #[.val (.int p0), .val (.int p1), .val (.long q2), .second, .val (.long q3), .second, .val (.long q4), .second, .val (.int p5), .val (.int i9), .val (.int cA0), .val (.int cA1), .val (.int (0 : Int32)), .val (.int i13), .val (.int cB0), .val (.int cB1), .val (.long q4), .second, .val (.long q4), .second, .val (.int i20), .unset, .unset, .unset, .unset, .unset] [])) (fun t ht => ?_) ?_
        · refine XS.istore X0.here hx rfl (hb hby at_135) rfl (l' := #[.val (.int p0), .val (.int p1), .val (.long q2), .second, .val (.long q3), .second, .val (.long q4), .second, .val (.int p5), .val (.int i9), .val (.int cA0), .val (.int cA1), .val (.int (0 : Int32)), .val (.int i13), .val (.int cB0), .val (.int cB1), .val (.long q4), .second, .val (.long q4), .second, .val (.int i20), .unset, .unset, .unset, .unset, .unset]) rfl ?_
          exact ht
        rcases own_rem3' h_i9 with hq4 | hq4 | hq4
        · rw [hq4]
          rcases own_rem3' h_i13 with hq5 | hq5 | hq5
          · rw [hq5]
            exact seg00 Z _ hw hx hby hlk hret hml hown hZ n0 p0 p1 q2 q3 q4 p5 cA0 cA1 (0 : Int32) cB0 cB1 q4 q4 i20 cs ac (X0.more (by decide) (by decide)) e0 Z0 N0 Scs Scc hcs hLC (own_ok' h_cA0) (own_ok' h_cA1) (own_ok' h_cB0) (own_ok' h_cB1) hC0 (fun _ _ q => ⟨rfl, q⟩)
          · rw [hq5]
            exact seg01 Z _ hw hx hby hlk hret hml hown hZ n0 p0 p1 q2 q3 q4 p5 cA0 cA1 (0 : Int32) cB0 cB1 q4 q4 i20 cs ac (X0.more (by decide) (by decide)) e0 Z0 N0 Scs Scc hcs hLC (own_ok' h_cA0) (own_ok' h_cA1) (own_ok' h_cB0) (own_ok' h_cB1) hC0 (fun _ _ q => ⟨rfl, q⟩)
          · rw [hq5]
            exact seg02 Z _ hw hx hby hlk hret hml hown hZ n0 p0 p1 q2 q3 q4 p5 cA0 cA1 (0 : Int32) cB0 cB1 q4 q4 i20 cs ac (X0.more (by decide) (by decide)) e0 Z0 N0 Scs Scc hcs hLC (own_ok' h_cA0) (own_ok' h_cA1) (own_ok' h_cB0) (own_ok' h_cB1) hC0 (fun _ _ q => ⟨rfl, q⟩)
        · rw [hq4]
          rcases own_rem3' h_i13 with hq557 | hq557 | hq557
          · rw [hq557]
            exact seg10 Z _ hw hx hby hlk hret hml hown hZ n0 p0 p1 q2 q3 q4 p5 cA0 cA1 (0 : Int32) cB0 cB1 q4 q4 i20 cs ac (X0.more (by decide) (by decide)) e0 Z0 N0 Scs Scc hcs hLC (own_ok' h_cA0) (own_ok' h_cA1) (own_ok' h_cB0) (own_ok' h_cB1) hC0 (fun _ _ q => ⟨rfl, q⟩)
          · rw [hq557]
            exact seg11 Z _ hw hx hby hlk hret hml hown hZ n0 p0 p1 q2 q3 q4 p5 cA0 cA1 (0 : Int32) cB0 cB1 q4 q4 i20 cs ac (X0.more (by decide) (by decide)) e0 Z0 N0 Scs Scc hcs hLC (own_ok' h_cA0) (own_ok' h_cA1) (own_ok' h_cB0) (own_ok' h_cB1) hC0 (fun _ _ q => ⟨rfl, q⟩)
          · rw [hq557]
            exact seg12 Z _ hw hx hby hlk hret hml hown hZ n0 p0 p1 q2 q3 q4 p5 cA0 cA1 (0 : Int32) cB0 cB1 q4 q4 i20 cs ac (X0.more (by decide) (by decide)) e0 Z0 N0 Scs Scc hcs hLC (own_ok' h_cA0) (own_ok' h_cA1) (own_ok' h_cB0) (own_ok' h_cB1) hC0 (fun _ _ q => ⟨rfl, q⟩)
        · rw [hq4]
          rcases own_rem3' h_i13 with hq974 | hq974 | hq974
          · rw [hq974]
            exact seg20 Z _ hw hx hby hlk hret hml hown hZ n0 p0 p1 q2 q3 q4 p5 cA0 cA1 (0 : Int32) cB0 cB1 q4 q4 i20 cs ac (X0.more (by decide) (by decide)) e0 Z0 N0 Scs Scc hcs hLC (own_ok' h_cA0) (own_ok' h_cA1) (own_ok' h_cB0) (own_ok' h_cB1) hC0 (fun _ _ q => ⟨rfl, q⟩)
          · rw [hq974]
            exact seg21 Z _ hw hx hby hlk hret hml hown hZ n0 p0 p1 q2 q3 q4 p5 cA0 cA1 (0 : Int32) cB0 cB1 q4 q4 i20 cs ac (X0.more (by decide) (by decide)) e0 Z0 N0 Scs Scc hcs hLC (own_ok' h_cA0) (own_ok' h_cA1) (own_ok' h_cB0) (own_ok' h_cB1) hC0 (fun _ _ q => ⟨rfl, q⟩)
          · rw [hq974]
            exact seg22 Z _ hw hx hby hlk hret hml hown hZ n0 p0 p1 q2 q3 q4 p5 cA0 cA1 (0 : Int32) cB0 cB1 q4 q4 i20 cs ac (X0.more (by decide) (by decide)) e0 Z0 N0 Scs Scc hcs hLC (own_ok' h_cA0) (own_ok' h_cA1) (own_ok' h_cB0) (own_ok' h_cB1) hC0 (fun _ _ q => ⟨rfl, q⟩)
      · refine OFin.of (S' := s₁.setTop (mkF m 135 #[.val (.int p0), .val (.int p1), .val (.long q2), .second, .val (.long q3), .second, .val (.long q4), .second, .val (.int p5), .val (.int i9), .val (.int cA0), .val (.int cA1), .val (.int (0 : Int32)), .val (.int i13), .val (.int cB0), .val (.int cB1), .val (.long q4), .second, .val (.long q3), .second, .unset, .unset, .unset, .unset, .unset, .unset] [(.int (((p5.toUInt32 >>> ((3 : Int32) &&& 31).toUInt32).toInt32) &&& (3 : Int32)))])) (fun t ht => ?_) ?_
        · refine XS.ifNo X0.here hx rfl (hb hby at_117) rfl ((if0 _ _).trans (feq (hc3 : ¬ ((p5 &&& (4 : Int32)) = (0 : Int32)))).1) ?_
          show Steps p.tables e below (s₁.setTop (mkF m 120 _ [])) _
          refine XS.lload X0.here hx rfl (hb hby at_120) rfl ?_
          show Steps p.tables e below (s₁.setTop (mkF m 122 _ [(.long q3)])) _
          refine XS.goto X0.here hx rfl (pc0 := 122) (pc' := 127) rfl (hb hby at_122) (by decide) (by decide) ?_
          show Steps p.tables e below (s₁.setTop (mkF m 127 _ [(.long q3)])) _
          refine XS.lstore X0.here hx rfl (hb hby at_127) rfl (l' := #[.val (.int p0), .val (.int p1), .val (.long q2), .second, .val (.long q3), .second, .val (.long q4), .second, .val (.int p5), .val (.int i9), .val (.int cA0), .val (.int cA1), .val (.int (0 : Int32)), .val (.int i13), .val (.int cB0), .val (.int cB1), .val (.long q4), .second, .val (.long q3), .second, .unset, .unset, .unset, .unset, .unset, .unset]) rfl ?_
          show Steps p.tables e below (s₁.setTop (mkF m 129 #[.val (.int p0), .val (.int p1), .val (.long q2), .second, .val (.long q3), .second, .val (.long q4), .second, .val (.int p5), .val (.int i9), .val (.int cA0), .val (.int cA1), .val (.int (0 : Int32)), .val (.int i13), .val (.int cB0), .val (.int cB1), .val (.long q4), .second, .val (.long q3), .second, .unset, .unset, .unset, .unset, .unset, .unset] [])) _
          refine XS.iload X0.here hx rfl (hb hby at_129) rfl ?_
          show Steps p.tables e below (s₁.setTop (mkF m 131 _ [(.int p5)])) _
          refine XS.iconst X0.here hx rfl (hb hby at_131) ?_
          show Steps p.tables e below (s₁.setTop (mkF m 132 _ [(.int (3 : Int32)), (.int p5)])) _
          refine XS.iushr X0.here hx rfl (hb hby at_132) rfl ?_
          show Steps p.tables e below (s₁.setTop (mkF m 133 _ [(.int ((p5.toUInt32 >>> ((3 : Int32) &&& 31).toUInt32).toInt32))])) _
          refine XS.iconst X0.here hx rfl (hb hby at_133) ?_
          show Steps p.tables e below (s₁.setTop (mkF m 134 _ [(.int (3 : Int32)), (.int ((p5.toUInt32 >>> ((3 : Int32) &&& 31).toUInt32).toInt32))])) _
          refine XS.iand X0.here hx rfl (hb hby at_134) rfl ?_
          exact ht
        obtain ⟨i20, h_i20⟩ : ∃ z : Int32, z = (((p5.toUInt32 >>> ((3 : Int32) &&& 31).toUInt32).toInt32) &&& (3 : Int32)) := ⟨_, rfl⟩
        rw [← h_i20]
        refine OFin.of (S' := s₁.setTop (mkF m 137 #[.val (.int p0), .val (.int p1), .val (.long q2), .second, .val (.long q3), .second, .val (.long q4), .second, .val (.int p5), .val (.int i9), .val (.int cA0), .val (.int cA1), .val (.int (0 : Int32)), .val (.int i13), .val (.int cB0), .val (.int cB1), .val (.long q4), .second, .val (.long q3), .second, .val (.int i20), .unset, .unset, .unset, .unset, .unset] [])) (fun t ht => ?_) ?_
        · refine XS.istore X0.here hx rfl (hb hby at_135) rfl (l' := #[.val (.int p0), .val (.int p1), .val (.long q2), .second, .val (.long q3), .second, .val (.long q4), .second, .val (.int p5), .val (.int i9), .val (.int cA0), .val (.int cA1), .val (.int (0 : Int32)), .val (.int i13), .val (.int cB0), .val (.int cB1), .val (.long q4), .second, .val (.long q3), .second, .val (.int i20), .unset, .unset, .unset, .unset, .unset]) rfl ?_
          exact ht
        rcases own_rem3' h_i9 with hq1391 | hq1391 | hq1391
        · rw [hq1391]
          rcases own_rem3' h_i13 with hq1392 | hq1392 | hq1392
          · rw [hq1392]
            exact seg00 Z _ hw hx hby hlk hret hml hown hZ n0 p0 p1 q2 q3 q4 p5 cA0 cA1 (0 : Int32) cB0 cB1 q4 q3 i20 cs ac (X0.more (by decide) (by decide)) e0 Z0 N0 Scs Scc hcs hLC (own_ok' h_cA0) (own_ok' h_cA1) (own_ok' h_cB0) (own_ok' h_cB1) hC0 (fun _ _ q => ⟨rfl, q⟩)
          · rw [hq1392]
            exact seg01 Z _ hw hx hby hlk hret hml hown hZ n0 p0 p1 q2 q3 q4 p5 cA0 cA1 (0 : Int32) cB0 cB1 q4 q3 i20 cs ac (X0.more (by decide) (by decide)) e0 Z0 N0 Scs Scc hcs hLC (own_ok' h_cA0) (own_ok' h_cA1) (own_ok' h_cB0) (own_ok' h_cB1) hC0 (fun _ _ q => ⟨rfl, q⟩)
          · rw [hq1392]
            exact seg02 Z _ hw hx hby hlk hret hml hown hZ n0 p0 p1 q2 q3 q4 p5 cA0 cA1 (0 : Int32) cB0 cB1 q4 q3 i20 cs ac (X0.more (by decide) (by decide)) e0 Z0 N0 Scs Scc hcs hLC (own_ok' h_cA0) (own_ok' h_cA1) (own_ok' h_cB0) (own_ok' h_cB1) hC0 (fun _ _ q => ⟨rfl, q⟩)
        · rw [hq1391]
          rcases own_rem3' h_i13 with hq1393 | hq1393 | hq1393
          · rw [hq1393]
            exact seg10 Z _ hw hx hby hlk hret hml hown hZ n0 p0 p1 q2 q3 q4 p5 cA0 cA1 (0 : Int32) cB0 cB1 q4 q3 i20 cs ac (X0.more (by decide) (by decide)) e0 Z0 N0 Scs Scc hcs hLC (own_ok' h_cA0) (own_ok' h_cA1) (own_ok' h_cB0) (own_ok' h_cB1) hC0 (fun _ _ q => ⟨rfl, q⟩)
          · rw [hq1393]
            exact seg11 Z _ hw hx hby hlk hret hml hown hZ n0 p0 p1 q2 q3 q4 p5 cA0 cA1 (0 : Int32) cB0 cB1 q4 q3 i20 cs ac (X0.more (by decide) (by decide)) e0 Z0 N0 Scs Scc hcs hLC (own_ok' h_cA0) (own_ok' h_cA1) (own_ok' h_cB0) (own_ok' h_cB1) hC0 (fun _ _ q => ⟨rfl, q⟩)
          · rw [hq1393]
            exact seg12 Z _ hw hx hby hlk hret hml hown hZ n0 p0 p1 q2 q3 q4 p5 cA0 cA1 (0 : Int32) cB0 cB1 q4 q3 i20 cs ac (X0.more (by decide) (by decide)) e0 Z0 N0 Scs Scc hcs hLC (own_ok' h_cA0) (own_ok' h_cA1) (own_ok' h_cB0) (own_ok' h_cB1) hC0 (fun _ _ q => ⟨rfl, q⟩)
        · rw [hq1391]
          rcases own_rem3' h_i13 with hq1394 | hq1394 | hq1394
          · rw [hq1394]
            exact seg20 Z _ hw hx hby hlk hret hml hown hZ n0 p0 p1 q2 q3 q4 p5 cA0 cA1 (0 : Int32) cB0 cB1 q4 q3 i20 cs ac (X0.more (by decide) (by decide)) e0 Z0 N0 Scs Scc hcs hLC (own_ok' h_cA0) (own_ok' h_cA1) (own_ok' h_cB0) (own_ok' h_cB1) hC0 (fun _ _ q => ⟨rfl, q⟩)
          · rw [hq1394]
            exact seg21 Z _ hw hx hby hlk hret hml hown hZ n0 p0 p1 q2 q3 q4 p5 cA0 cA1 (0 : Int32) cB0 cB1 q4 q3 i20 cs ac (X0.more (by decide) (by decide)) e0 Z0 N0 Scs Scc hcs hLC (own_ok' h_cA0) (own_ok' h_cA1) (own_ok' h_cB0) (own_ok' h_cB1) hC0 (fun _ _ q => ⟨rfl, q⟩)
          · rw [hq1394]
            exact seg22 Z _ hw hx hby hlk hret hml hown hZ n0 p0 p1 q2 q3 q4 p5 cA0 cA1 (0 : Int32) cB0 cB1 q4 q3 i20 cs ac (X0.more (by decide) (by decide)) e0 Z0 N0 Scs Scc hcs hLC (own_ok' h_cA0) (own_ok' h_cA1) (own_ok' h_cB0) (own_ok' h_cB1) hC0 (fun _ _ q => ⟨rfl, q⟩)
    · refine OFin.of (S' := s₁.setTop (mkF m 117 #[.val (.int p0), .val (.int p1), .val (.long q2), .second, .val (.long q3), .second, .val (.long q4), .second, .val (.int p5), .val (.int i9), .val (.int cA0), .val (.int cA1), .val (.int (0 : Int32)), .val (.int i13), .val (.int cB0), .val (.int cB1), .val (.long q2), .second, .unset, .unset, .unset, .unset, .unset, .unset, .unset, .unset] [(.int (p5 &&& (4 : Int32)))])) (fun t ht => ?_) ?_
      · refine XS.ifNo X0.here hx rfl (hb hby at_102) rfl ((if0 _ _).trans (feq (hc2 : ¬ ((p5 &&& (2 : Int32)) = (0 : Int32)))).1) ?_
        show Steps p.tables e below (s₁.setTop (mkF m 105 _ [])) _
        refine XS.lloadN X0.here hx rfl (hb hby at_105) rfl ?_
        show Steps p.tables e below (s₁.setTop (mkF m 106 _ [(.long q2)])) _
        refine XS.goto X0.here hx rfl (pc0 := 106) (pc' := 111) rfl (hb hby at_106) (by decide) (by decide) ?_
        show Steps p.tables e below (s₁.setTop (mkF m 111 _ [(.long q2)])) _
        refine XS.lstore X0.here hx rfl (hb hby at_111) rfl (l' := #[.val (.int p0), .val (.int p1), .val (.long q2), .second, .val (.long q3), .second, .val (.long q4), .second, .val (.int p5), .val (.int i9), .val (.int cA0), .val (.int cA1), .val (.int (0 : Int32)), .val (.int i13), .val (.int cB0), .val (.int cB1), .val (.long q2), .second, .unset, .unset, .unset, .unset, .unset, .unset, .unset, .unset]) rfl ?_
        show Steps p.tables e below (s₁.setTop (mkF m 113 #[.val (.int p0), .val (.int p1), .val (.long q2), .second, .val (.long q3), .second, .val (.long q4), .second, .val (.int p5), .val (.int i9), .val (.int cA0), .val (.int cA1), .val (.int (0 : Int32)), .val (.int i13), .val (.int cB0), .val (.int cB1), .val (.long q2), .second, .unset, .unset, .unset, .unset, .unset, .unset, .unset, .unset] [])) _
        refine XS.iload X0.here hx rfl (hb hby at_113) rfl ?_
        show Steps p.tables e below (s₁.setTop (mkF m 115 _ [(.int p5)])) _
        refine XS.iconst X0.here hx rfl (hb hby at_115) ?_
        show Steps p.tables e below (s₁.setTop (mkF m 116 _ [(.int (4 : Int32)), (.int p5)])) _
        refine XS.iand X0.here hx rfl (hb hby at_116) rfl ?_
        exact ht
      by_cases hc1395 : (p5 &&& (4 : Int32)) = (0 : Int32)
      · refine OFin.of (S' := s₁.setTop (mkF m 135 #[.val (.int p0), .val (.int p1), .val (.long q2), .second, .val (.long q3), .second, .val (.long q4), .second, .val (.int p5), .val (.int i9), .val (.int cA0), .val (.int cA1), .val (.int (0 : Int32)), .val (.int i13), .val (.int cB0), .val (.int cB1), .val (.long q2), .second, .val (.long q4), .second, .unset, .unset, .unset, .unset, .unset, .unset] [(.int (((p5.toUInt32 >>> ((3 : Int32) &&& 31).toUInt32).toInt32) &&& (3 : Int32)))])) (fun t ht => ?_) ?_
        · refine XS.ifYes X0.here hx rfl (pc0 := 117) (pc' := 125) rfl (hb hby at_117) rfl ((if0 _ _).trans (teq (hc1395 : (p5 &&& (4 : Int32)) = (0 : Int32))).1) (by decide) (by decide) ?_
          show Steps p.tables e below (s₁.setTop (mkF m 125 _ [])) _
          refine XS.lload X0.here hx rfl (hb hby at_125) rfl ?_
          show Steps p.tables e below (s₁.setTop (mkF m 127 _ [(.long q4)])) _
          refine XS.lstore X0.here hx rfl (hb hby at_127) rfl (l' := #[.val (.int p0), .val (.int p1), .val (.long q2), .second, .val (.long q3), .second, .val (.long q4), .second, .val (.int p5), .val (.int i9), .val (.int cA0), .val (.int cA1), .val (.int (0 : Int32)), .val (.int i13), .val (.int cB0), .val (.int cB1), .val (.long q2), .second, .val (.long q4), .second, .unset, .unset, .unset, .unset, .unset, .unset]) rfl ?_
          show Steps p.tables e below (s₁.setTop (mkF m 129 #[.val (.int p0), .val (.int p1), .val (.long q2), .second, .val (.long q3), .second, .val (.long q4), .second, .val (.int p5), .val (.int i9), .val (.int cA0), .val (.int cA1), .val (.int (0 : Int32)), .val (.int i13), .val (.int cB0), .val (.int cB1), .val (.long q2), .second, .val (.long q4), .second, .unset, .unset, .unset, .unset, .unset, .unset] [])) _
          refine XS.iload X0.here hx rfl (hb hby at_129) rfl ?_
          show Steps p.tables e below (s₁.setTop (mkF m 131 _ [(.int p5)])) _
          refine XS.iconst X0.here hx rfl (hb hby at_131) ?_
          show Steps p.tables e below (s₁.setTop (mkF m 132 _ [(.int (3 : Int32)), (.int p5)])) _
          refine XS.iushr X0.here hx rfl (hb hby at_132) rfl ?_
          show Steps p.tables e below (s₁.setTop (mkF m 133 _ [(.int ((p5.toUInt32 >>> ((3 : Int32) &&& 31).toUInt32).toInt32))])) _
          refine XS.iconst X0.here hx rfl (hb hby at_133) ?_
          show Steps p.tables e below (s₁.setTop (mkF m 134 _ [(.int (3 : Int32)), (.int ((p5.toUInt32 >>> ((3 : Int32) &&& 31).toUInt32).toInt32))])) _
          refine XS.iand X0.here hx rfl (hb hby at_134) rfl ?_
          exact ht
        obtain ⟨i20, h_i20⟩ : ∃ z : Int32, z = (((p5.toUInt32 >>> ((3 : Int32) &&& 31).toUInt32).toInt32) &&& (3 : Int32)) := ⟨_, rfl⟩
        rw [← h_i20]
        refine OFin.of (S' := s₁.setTop (mkF m 137 #[.val (.int p0), .val (.int p1), .val (.long q2), .second, .val (.long q3), .second, .val (.long q4), .second, .val (.int p5), .val (.int i9), .val (.int cA0), .val (.int cA1), .val (.int (0 : Int32)), .val (.int i13), .val (.int cB0), .val (.int cB1), .val (.long q2), .second, .val (.long q4), .second, .val (.int i20), .unset, .unset, .unset, .unset, .unset] [])) (fun t ht => ?_) ?_
        · refine XS.istore X0.here hx rfl (hb hby at_135) rfl (l' := #[.val (.int p0), .val (.int p1), .val (.long q2), .second, .val (.long q3), .second, .val (.long q4), .second, .val (.int p5), .val (.int i9), .val (.int cA0), .val (.int cA1), .val (.int (0 : Int32)), .val (.int i13), .val (.int cB0), .val (.int cB1), .val (.long q2), .second, .val (.long q4), .second, .val (.int i20), .unset, .unset, .unset, .unset, .unset]) rfl ?_
          exact ht
        rcases own_rem3' h_i9 with hq1396 | hq1396 | hq1396
        · rw [hq1396]
          rcases own_rem3' h_i13 with hq1397 | hq1397 | hq1397
          · rw [hq1397]
            exact seg00 Z _ hw hx hby hlk hret hml hown hZ n0 p0 p1 q2 q3 q4 p5 cA0 cA1 (0 : Int32) cB0 cB1 q2 q4 i20 cs ac (X0.more (by decide) (by decide)) e0 Z0 N0 Scs Scc hcs hLC (own_ok' h_cA0) (own_ok' h_cA1) (own_ok' h_cB0) (own_ok' h_cB1) hC0 (fun _ _ q => ⟨rfl, q⟩)
          · rw [hq1397]
            exact seg01 Z _ hw hx hby hlk hret hml hown hZ n0 p0 p1 q2 q3 q4 p5 cA0 cA1 (0 : Int32) cB0 cB1 q2 q4 i20 cs ac (X0.more (by decide) (by decide)) e0 Z0 N0 Scs Scc hcs hLC (own_ok' h_cA0) (own_ok' h_cA1) (own_ok' h_cB0) (own_ok' h_cB1) hC0 (fun _ _ q => ⟨rfl, q⟩)
          · rw [hq1397]
            exact seg02 Z _ hw hx hby hlk hret hml hown hZ n0 p0 p1 q2 q3 q4 p5 cA0 cA1 (0 : Int32) cB0 cB1 q2 q4 i20 cs ac (X0.more (by decide) (by decide)) e0 Z0 N0 Scs Scc hcs hLC (own_ok' h_cA0) (own_ok' h_cA1) (own_ok' h_cB0) (own_ok' h_cB1) hC0 (fun _ _ q => ⟨rfl, q⟩)
        · rw [hq1396]
          rcases own_rem3' h_i13 with hq1398 | hq1398 | hq1398
          · rw [hq1398]
            exact seg10 Z _ hw hx hby hlk hret hml hown hZ n0 p0 p1 q2 q3 q4 p5 cA0 cA1 (0 : Int32) cB0 cB1 q2 q4 i20 cs ac (X0.more (by decide) (by decide)) e0 Z0 N0 Scs Scc hcs hLC (own_ok' h_cA0) (own_ok' h_cA1) (own_ok' h_cB0) (own_ok' h_cB1) hC0 (fun _ _ q => ⟨rfl, q⟩)
          · rw [hq1398]
            exact seg11 Z _ hw hx hby hlk hret hml hown hZ n0 p0 p1 q2 q3 q4 p5 cA0 cA1 (0 : Int32) cB0 cB1 q2 q4 i20 cs ac (X0.more (by decide) (by decide)) e0 Z0 N0 Scs Scc hcs hLC (own_ok' h_cA0) (own_ok' h_cA1) (own_ok' h_cB0) (own_ok' h_cB1) hC0 (fun _ _ q => ⟨rfl, q⟩)
          · rw [hq1398]
            exact seg12 Z _ hw hx hby hlk hret hml hown hZ n0 p0 p1 q2 q3 q4 p5 cA0 cA1 (0 : Int32) cB0 cB1 q2 q4 i20 cs ac (X0.more (by decide) (by decide)) e0 Z0 N0 Scs Scc hcs hLC (own_ok' h_cA0) (own_ok' h_cA1) (own_ok' h_cB0) (own_ok' h_cB1) hC0 (fun _ _ q => ⟨rfl, q⟩)
        · rw [hq1396]
          rcases own_rem3' h_i13 with hq1399 | hq1399 | hq1399
          · rw [hq1399]
            exact seg20 Z _ hw hx hby hlk hret hml hown hZ n0 p0 p1 q2 q3 q4 p5 cA0 cA1 (0 : Int32) cB0 cB1 q2 q4 i20 cs ac (X0.more (by decide) (by decide)) e0 Z0 N0 Scs Scc hcs hLC (own_ok' h_cA0) (own_ok' h_cA1) (own_ok' h_cB0) (own_ok' h_cB1) hC0 (fun _ _ q => ⟨rfl, q⟩)
          · rw [hq1399]
            exact seg21 Z _ hw hx hby hlk hret hml hown hZ n0 p0 p1 q2 q3 q4 p5 cA0 cA1 (0 : Int32) cB0 cB1 q2 q4 i20 cs ac (X0.more (by decide) (by decide)) e0 Z0 N0 Scs Scc hcs hLC (own_ok' h_cA0) (own_ok' h_cA1) (own_ok' h_cB0) (own_ok' h_cB1) hC0 (fun _ _ q => ⟨rfl, q⟩)
          · rw [hq1399]
            exact seg22 Z _ hw hx hby hlk hret hml hown hZ n0 p0 p1 q2 q3 q4 p5 cA0 cA1 (0 : Int32) cB0 cB1 q2 q4 i20 cs ac (X0.more (by decide) (by decide)) e0 Z0 N0 Scs Scc hcs hLC (own_ok' h_cA0) (own_ok' h_cA1) (own_ok' h_cB0) (own_ok' h_cB1) hC0 (fun _ _ q => ⟨rfl, q⟩)
      · refine OFin.of (S' := s₁.setTop (mkF m 135 #[.val (.int p0), .val (.int p1), .val (.long q2), .second, .val (.long q3), .second, .val (.long q4), .second, .val (.int p5), .val (.int i9), .val (.int cA0), .val (.int cA1), .val (.int (0 : Int32)), .val (.int i13), .val (.int cB0), .val (.int cB1), .val (.long q2), .second, .val (.long q3), .second, .unset, .unset, .unset, .unset, .unset, .unset] [(.int (((p5.toUInt32 >>> ((3 : Int32) &&& 31).toUInt32).toInt32) &&& (3 : Int32)))])) (fun t ht => ?_) ?_
        · refine XS.ifNo X0.here hx rfl (hb hby at_117) rfl ((if0 _ _).trans (feq (hc1395 : ¬ ((p5 &&& (4 : Int32)) = (0 : Int32)))).1) ?_
          show Steps p.tables e below (s₁.setTop (mkF m 120 _ [])) _
          refine XS.lload X0.here hx rfl (hb hby at_120) rfl ?_
          show Steps p.tables e below (s₁.setTop (mkF m 122 _ [(.long q3)])) _
          refine XS.goto X0.here hx rfl (pc0 := 122) (pc' := 127) rfl (hb hby at_122) (by decide) (by decide) ?_
          show Steps p.tables e below (s₁.setTop (mkF m 127 _ [(.long q3)])) _
          refine XS.lstore X0.here hx rfl (hb hby at_127) rfl (l' := #[.val (.int p0), .val (.int p1), .val (.long q2), .second, .val (.long q3), .second, .val (.long q4), .second, .val (.int p5), .val (.int i9), .val (.int cA0), .val (.int cA1), .val (.int (0 : Int32)), .val (.int i13), .val (.int cB0), .val (.int cB1), .val (.long q2), .second, .val (.long q3), .second, .unset, .unset, .unset, .unset, .unset, .unset]) rfl ?_
          show Steps p.tables e below (s₁.setTop (mkF m 129 #[.val (.int p0), .val (.int p1), .val (.long q2), .second, .val (.long q3), .second, .val (.long q4), .second, .val (.int p5), .val (.int i9), .val (.int cA0), .val (.int cA1), .val (.int (0 : Int32)), .val (.int i13), .val (.int cB0), .val (.int cB1), .val (.long q2), .second, .val (.long q3), .second, .unset, .unset, .unset, .unset, .unset, .unset] [])) _
          refine XS.iload X0.here hx rfl (hb hby at_129) rfl ?_
          show Steps p.tables e below (s₁.setTop (mkF m 131 _ [(.int p5)])) _
          refine XS.iconst X0.here hx rfl (hb hby at_131) ?_
          show Steps p.tables e below (s₁.setTop (mkF m 132 _ [(.int (3 : Int32)), (.int p5)])) _
          refine XS.iushr X0.here hx rfl (hb hby at_132) rfl ?_
          show Steps p.tables e below (s₁.setTop (mkF m 133 _ [(.int ((p5.toUInt32 >>> ((3 : Int32) &&& 31).toUInt32).toInt32))])) _
          refine XS.iconst X0.here hx rfl (hb hby at_133) ?_
          show Steps p.tables e below (s₁.setTop (mkF m 134 _ [(.int (3 : Int32)), (.int ((p5.toUInt32 >>> ((3 : Int32) &&& 31).toUInt32).toInt32))])) _
          refine XS.iand X0.here hx rfl (hb hby at_134) rfl ?_
          exact ht
        obtain ⟨i20, h_i20⟩ : ∃ z : Int32, z = (((p5.toUInt32 >>> ((3 : Int32) &&& 31).toUInt32).toInt32) &&& (3 : Int32)) := ⟨_, rfl⟩
        rw [← h_i20]
        refine OFin.of (S' := s₁.setTop (mkF m 137 #[.val (.int p0), .val (.int p1), .val (.long q2), .second, .val (.long q3), .second, .val (.long q4), .second, .val (.int p5), .val (.int i9), .val (.int cA0), .val (.int cA1), .val (.int (0 : Int32)), .val (.int i13), .val (.int cB0), .val (.int cB1), .val (.long q2), .second, .val (.long q3), .second, .val (.int i20), .unset, .unset, .unset, .unset, .unset] [])) (fun t ht => ?_) ?_
        · refine XS.istore X0.here hx rfl (hb hby at_135) rfl (l' := #[.val (.int p0), .val (.int p1), .val (.long q2), .second, .val (.long q3), .second, .val (.long q4), .second, .val (.int p5), .val (.int i9), .val (.int cA0), .val (.int cA1), .val (.int (0 : Int32)), .val (.int i13), .val (.int cB0), .val (.int cB1), .val (.long q2), .second, .val (.long q3), .second, .val (.int i20), .unset, .unset, .unset, .unset, .unset]) rfl ?_
          exact ht
        rcases own_rem3' h_i9 with hq1400 | hq1400 | hq1400
        · rw [hq1400]
          rcases own_rem3' h_i13 with hq1401 | hq1401 | hq1401
          · rw [hq1401]
            exact seg00 Z _ hw hx hby hlk hret hml hown hZ n0 p0 p1 q2 q3 q4 p5 cA0 cA1 (0 : Int32) cB0 cB1 q2 q3 i20 cs ac (X0.more (by decide) (by decide)) e0 Z0 N0 Scs Scc hcs hLC (own_ok' h_cA0) (own_ok' h_cA1) (own_ok' h_cB0) (own_ok' h_cB1) hC0 (fun _ _ q => ⟨rfl, q⟩)
          · rw [hq1401]
            exact seg01 Z _ hw hx hby hlk hret hml hown hZ n0 p0 p1 q2 q3 q4 p5 cA0 cA1 (0 : Int32) cB0 cB1 q2 q3 i20 cs ac (X0.more (by decide) (by decide)) e0 Z0 N0 Scs Scc hcs hLC (own_ok' h_cA0) (own_ok' h_cA1) (own_ok' h_cB0) (own_ok' h_cB1) hC0 (fun _ _ q => ⟨rfl, q⟩)
          · rw [hq1401]
            exact seg02 Z _ hw hx hby hlk hret hml hown hZ n0 p0 p1 q2 q3 q4 p5 cA0 cA1 (0 : Int32) cB0 cB1 q2 q3 i20 cs ac (X0.more (by decide) (by decide)) e0 Z0 N0 Scs Scc hcs hLC (own_ok' h_cA0) (own_ok' h_cA1) (own_ok' h_cB0) (own_ok' h_cB1) hC0 (fun _ _ q => ⟨rfl, q⟩)
        · rw [hq1400]
          rcases own_rem3' h_i13 with hq1402 | hq1402 | hq1402
          · rw [hq1402]
            exact seg10 Z _ hw hx hby hlk hret hml hown hZ n0 p0 p1 q2 q3 q4 p5 cA0 cA1 (0 : Int32) cB0 cB1 q2 q3 i20 cs ac (X0.more (by decide) (by decide)) e0 Z0 N0 Scs Scc hcs hLC (own_ok' h_cA0) (own_ok' h_cA1) (own_ok' h_cB0) (own_ok' h_cB1) hC0 (fun _ _ q => ⟨rfl, q⟩)
          · rw [hq1402]
            exact seg11 Z _ hw hx hby hlk hret hml hown hZ n0 p0 p1 q2 q3 q4 p5 cA0 cA1 (0 : Int32) cB0 cB1 q2 q3 i20 cs ac (X0.more (by decide) (by decide)) e0 Z0 N0 Scs Scc hcs hLC (own_ok' h_cA0) (own_ok' h_cA1) (own_ok' h_cB0) (own_ok' h_cB1) hC0 (fun _ _ q => ⟨rfl, q⟩)
          · rw [hq1402]
            exact seg12 Z _ hw hx hby hlk hret hml hown hZ n0 p0 p1 q2 q3 q4 p5 cA0 cA1 (0 : Int32) cB0 cB1 q2 q3 i20 cs ac (X0.more (by decide) (by decide)) e0 Z0 N0 Scs Scc hcs hLC (own_ok' h_cA0) (own_ok' h_cA1) (own_ok' h_cB0) (own_ok' h_cB1) hC0 (fun _ _ q => ⟨rfl, q⟩)
        · rw [hq1400]
          rcases own_rem3' h_i13 with hq1403 | hq1403 | hq1403
          · rw [hq1403]
            exact seg20 Z _ hw hx hby hlk hret hml hown hZ n0 p0 p1 q2 q3 q4 p5 cA0 cA1 (0 : Int32) cB0 cB1 q2 q3 i20 cs ac (X0.more (by decide) (by decide)) e0 Z0 N0 Scs Scc hcs hLC (own_ok' h_cA0) (own_ok' h_cA1) (own_ok' h_cB0) (own_ok' h_cB1) hC0 (fun _ _ q => ⟨rfl, q⟩)
          · rw [hq1403]
            exact seg21 Z _ hw hx hby hlk hret hml hown hZ n0 p0 p1 q2 q3 q4 p5 cA0 cA1 (0 : Int32) cB0 cB1 q2 q3 i20 cs ac (X0.more (by decide) (by decide)) e0 Z0 N0 Scs Scc hcs hLC (own_ok' h_cA0) (own_ok' h_cA1) (own_ok' h_cB0) (own_ok' h_cB1) hC0 (fun _ _ q => ⟨rfl, q⟩)
          · rw [hq1403]
            exact seg22 Z _ hw hx hby hlk hret hml hown hZ n0 p0 p1 q2 q3 q4 p5 cA0 cA1 (0 : Int32) cB0 cB1 q2 q3 i20 cs ac (X0.more (by decide) (by decide)) e0 Z0 N0 Scs Scc hcs hLC (own_ok' h_cA0) (own_ok' h_cA1) (own_ok' h_cB0) (own_ok' h_cB1) hC0 (fun _ _ q => ⟨rfl, q⟩)
  · refine OFin.of (S' := s₁.setTop (mkF m 102 #[.val (.int p0), .val (.int p1), .val (.long q2), .second, .val (.long q3), .second, .val (.long q4), .second, .val (.int p5), .val (.int i9), .val (.int cA0), .val (.int cA1), .val (.int (1 : Int32)), .val (.int i9), .val (.int cA0), .val (.int cA1), .unset, .unset, .unset, .unset, .unset, .unset, .unset, .unset, .unset, .unset] [(.int (p5 &&& (2 : Int32)))])) (fun t ht => ?_) ?_
    · refine XS.ifNo X0.here hx rfl (hb hby at_31) rfl ((if0 _ _).trans (feq (hc1 : ¬ ((p5 &&& (1 : Int32)) = (0 : Int32)))).1) ?_
      show Steps p.tables e below (s₁.setTop (mkF m 34 _ [])) _
      refine XS.iconst X0.here hx rfl (hb hby at_34) ?_
      show Steps p.tables e below (s₁.setTop (mkF m 35 _ [(.int (1 : Int32))])) _
      refine XS.goto X0.here hx rfl (pc0 := 35) (pc' := 39) rfl (hb hby at_35) (by decide) (by decide) ?_
      show Steps p.tables e below (s₁.setTop (mkF m 39 _ [(.int (1 : Int32))])) _
      refine XS.istore X0.here hx rfl (hb hby at_39) rfl (l' := #[.val (.int p0), .val (.int p1), .val (.long q2), .second, .val (.long q3), .second, .val (.long q4), .second, .val (.int p5), .val (.int i9), .val (.int cA0), .val (.int cA1), .val (.int (1 : Int32)), .unset, .unset, .unset, .unset, .unset, .unset, .unset, .unset, .unset, .unset, .unset, .unset, .unset]) rfl ?_
      show Steps p.tables e below (s₁.setTop (mkF m 41 #[.val (.int p0), .val (.int p1), .val (.long q2), .second, .val (.long q3), .second, .val (.long q4), .second, .val (.int p5), .val (.int i9), .val (.int cA0), .val (.int cA1), .val (.int (1 : Int32)), .unset, .unset, .unset, .unset, .unset, .unset, .unset, .unset, .unset, .unset, .unset, .unset, .unset] [])) _
      refine XS.iload X0.here hx rfl (hb hby at_41) rfl ?_
      show Steps p.tables e below (s₁.setTop (mkF m 43 _ [(.int (1 : Int32))])) _
      refine XS.ifNo X0.here hx rfl (hb hby at_43) rfl ((if0 _ _).trans (feq (by decide : ¬ ((1 : Int32) = (0 : Int32)))).1) ?_
      show Steps p.tables e below (s₁.setTop (mkF m 46 _ [])) _
      refine XS.iload X0.here hx rfl (hb hby at_46) rfl ?_
      show Steps p.tables e below (s₁.setTop (mkF m 48 _ [(.int i9)])) _
      refine XS.goto X0.here hx rfl (pc0 := 48) (pc' := 57) rfl (hb hby at_48) (by decide) (by decide) ?_
      show Steps p.tables e below (s₁.setTop (mkF m 57 _ [(.int i9)])) _
      refine XS.istore X0.here hx rfl (hb hby at_57) rfl (l' := #[.val (.int p0), .val (.int p1), .val (.long q2), .second, .val (.long q3), .second, .val (.long q4), .second, .val (.int p5), .val (.int i9), .val (.int cA0), .val (.int cA1), .val (.int (1 : Int32)), .val (.int i9), .unset, .unset, .unset, .unset, .unset, .unset, .unset, .unset, .unset, .unset, .unset, .unset]) rfl ?_
      show Steps p.tables e below (s₁.setTop (mkF m 59 #[.val (.int p0), .val (.int p1), .val (.long q2), .second, .val (.long q3), .second, .val (.long q4), .second, .val (.int p5), .val (.int i9), .val (.int cA0), .val (.int cA1), .val (.int (1 : Int32)), .val (.int i9), .unset, .unset, .unset, .unset, .unset, .unset, .unset, .unset, .unset, .unset, .unset, .unset] [])) _
      refine XS.iload X0.here hx rfl (hb hby at_59) rfl ?_
      show Steps p.tables e below (s₁.setTop (mkF m 61 _ [(.int (1 : Int32))])) _
      refine XS.ifNo X0.here hx rfl (hb hby at_61) rfl ((if0 _ _).trans (feq (by decide : ¬ ((1 : Int32) = (0 : Int32)))).1) ?_
      show Steps p.tables e below (s₁.setTop (mkF m 64 _ [])) _
      refine XS.iload X0.here hx rfl (hb hby at_64) rfl ?_
      show Steps p.tables e below (s₁.setTop (mkF m 66 _ [(.int cA0)])) _
      refine XS.goto X0.here hx rfl (pc0 := 66) (pc' := 75) rfl (hb hby at_66) (by decide) (by decide) ?_
      show Steps p.tables e below (s₁.setTop (mkF m 75 _ [(.int cA0)])) _
      refine XS.istore X0.here hx rfl (hb hby at_75) rfl (l' := #[.val (.int p0), .val (.int p1), .val (.long q2), .second, .val (.long q3), .second, .val (.long q4), .second, .val (.int p5), .val (.int i9), .val (.int cA0), .val (.int cA1), .val (.int (1 : Int32)), .val (.int i9), .val (.int cA0), .unset, .unset, .unset, .unset, .unset, .unset, .unset, .unset, .unset, .unset, .unset]) rfl ?_
      show Steps p.tables e below (s₁.setTop (mkF m 77 #[.val (.int p0), .val (.int p1), .val (.long q2), .second, .val (.long q3), .second, .val (.long q4), .second, .val (.int p5), .val (.int i9), .val (.int cA0), .val (.int cA1), .val (.int (1 : Int32)), .val (.int i9), .val (.int cA0), .unset, .unset, .unset, .unset, .unset, .unset, .unset, .unset, .unset, .unset, .unset] [])) _
      refine XS.iload X0.here hx rfl (hb hby at_77) rfl ?_
      show Steps p.tables e below (s₁.setTop (mkF m 79 _ [(.int (1 : Int32))])) _
      refine XS.ifNo X0.here hx rfl (hb hby at_79) rfl ((if0 _ _).trans (feq (by decide : ¬ ((1 : Int32) = (0 : Int32)))).1) ?_
      show Steps p.tables e below (s₁.setTop (mkF m 82 _ [])) _
      refine XS.iload X0.here hx rfl (hb hby at_82) rfl ?_
      show Steps p.tables e below (s₁.setTop (mkF m 84 _ [(.int cA1)])) _
      refine XS.goto X0.here hx rfl (pc0 := 84) (pc' := 96) rfl (hb hby at_84) (by decide) (by decide) ?_
      show Steps p.tables e below (s₁.setTop (mkF m 96 _ [(.int cA1)])) _
      refine XS.istore X0.here hx rfl (hb hby at_96) rfl (l' := #[.val (.int p0), .val (.int p1), .val (.long q2), .second, .val (.long q3), .second, .val (.long q4), .second, .val (.int p5), .val (.int i9), .val (.int cA0), .val (.int cA1), .val (.int (1 : Int32)), .val (.int i9), .val (.int cA0), .val (.int cA1), .unset, .unset, .unset, .unset, .unset, .unset, .unset, .unset, .unset, .unset]) rfl ?_
      show Steps p.tables e below (s₁.setTop (mkF m 98 #[.val (.int p0), .val (.int p1), .val (.long q2), .second, .val (.long q3), .second, .val (.long q4), .second, .val (.int p5), .val (.int i9), .val (.int cA0), .val (.int cA1), .val (.int (1 : Int32)), .val (.int i9), .val (.int cA0), .val (.int cA1), .unset, .unset, .unset, .unset, .unset, .unset, .unset, .unset, .unset, .unset] [])) _
      refine XS.iload X0.here hx rfl (hb hby at_98) rfl ?_
      show Steps p.tables e below (s₁.setTop (mkF m 100 _ [(.int p5)])) _
      refine XS.iconst X0.here hx rfl (hb hby at_100) ?_
      show Steps p.tables e below (s₁.setTop (mkF m 101 _ [(.int (2 : Int32)), (.int p5)])) _
      refine XS.iand X0.here hx rfl (hb hby at_101) rfl ?_
      exact ht
    by_cases hc1404 : (p5 &&& (2 : Int32)) = (0 : Int32)
    · refine OFin.of (S' := s₁.setTop (mkF m 117 #[.val (.int p0), .val (.int p1), .val (.long q2), .second, .val (.long q3), .second, .val (.long q4), .second, .val (.int p5), .val (.int i9), .val (.int cA0), .val (.int cA1), .val (.int (1 : Int32)), .val (.int i9), .val (.int cA0), .val (.int cA1), .val (.long q4), .second, .unset, .unset, .unset, .unset, .unset, .unset, .unset, .unset] [(.int (p5 &&& (4 : Int32)))])) (fun t ht => ?_) ?_
      · refine XS.ifYes X0.here hx rfl (pc0 := 102) (pc' := 109) rfl (hb hby at_102) rfl ((if0 _ _).trans (teq (hc1404 : (p5 &&& (2 : Int32)) = (0 : Int32))).1) (by decide) (by decide) ?_
        show Steps p.tables e below (s₁.setTop (mkF m 109 _ [])) _
        refine XS.lload X0.here hx rfl (hb hby at_109) rfl ?_
        show Steps p.tables e below (s₁.setTop (mkF m 111 _ [(.long q4)])) _
        refine XS.lstore X0.here hx rfl (hb hby at_111) rfl (l' := #[.val (.int p0), .val (.int p1), .val (.long q2), .second, .val (.long q3), .second, .val (.long q4), .second, .val (.int p5), .val (.int i9), .val (.int cA0), .val (.int cA1), .val (.int (1 : Int32)), .val (.int i9), .val (.int cA0), .val (.int cA1), .val (.long q4), .second, .unset, .unset, .unset, .unset, .unset, .unset, .unset, .unset]) rfl ?_
        show Steps p.tables e below (s₁.setTop (mkF m 113 #[.val (.int p0), .val (.int p1), .val (.long q2), .second, .val (.long q3), .second, .val (.long q4), .second, .val (.int p5), .val (.int i9), .val (.int cA0), .val (.int cA1), .val (.int (1 : Int32)), .val (.int i9), .val (.int cA0), .val (.int cA1), .val (.long q4), .second, .unset, .unset, .unset, .unset, .unset, .unset, .unset, .unset] [])) _
        refine XS.iload X0.here hx rfl (hb hby at_113) rfl ?_
        show Steps p.tables e below (s₁.setTop (mkF m 115 _ [(.int p5)])) _
        refine XS.iconst X0.here hx rfl (hb hby at_115) ?_
        show Steps p.tables e below (s₁.setTop (mkF m 116 _ [(.int (4 : Int32)), (.int p5)])) _
        refine XS.iand X0.here hx rfl (hb hby at_116) rfl ?_
        exact ht
      by_cases hc1405 : (p5 &&& (4 : Int32)) = (0 : Int32)
      · refine OFin.of (S' := s₁.setTop (mkF m 135 #[.val (.int p0), .val (.int p1), .val (.long q2), .second, .val (.long q3), .second, .val (.long q4), .second, .val (.int p5), .val (.int i9), .val (.int cA0), .val (.int cA1), .val (.int (1 : Int32)), .val (.int i9), .val (.int cA0), .val (.int cA1), .val (.long q4), .second, .val (.long q4), .second, .unset, .unset, .unset, .unset, .unset, .unset] [(.int (((p5.toUInt32 >>> ((3 : Int32) &&& 31).toUInt32).toInt32) &&& (3 : Int32)))])) (fun t ht => ?_) ?_
        · refine XS.ifYes X0.here hx rfl (pc0 := 117) (pc' := 125) rfl (hb hby at_117) rfl ((if0 _ _).trans (teq (hc1405 : (p5 &&& (4 : Int32)) = (0 : Int32))).1) (by decide) (by decide) ?_
          show Steps p.tables e below (s₁.setTop (mkF m 125 _ [])) _
          refine XS.lload X0.here hx rfl (hb hby at_125) rfl ?_
          show Steps p.tables e below (s₁.setTop (mkF m 127 _ [(.long q4)])) _
          refine XS.lstore X0.here hx rfl (hb hby at_127) rfl (l' := #[.val (.int p0), .val (.int p1), .val (.long q2), .second, .val (.long q3), .second, .val (.long q4), .second, .val (.int p5), .val (.int i9), .val (.int cA0), .val (.int cA1), .val (.int (1 : Int32)), .val (.int i9), .val (.int cA0), .val (.int cA1), .val (.long q4), .second, .val (.long q4), .second, .unset, .unset, .unset, .unset, .unset, .unset]) rfl ?_
          show Steps p.tables e below (s₁.setTop (mkF m 129 #[.val (.int p0), .val (.int p1), .val (.long q2), .second, .val (.long q3), .second, .val (.long q4), .second, .val (.int p5), .val (.int i9), .val (.int cA0), .val (.int cA1), .val (.int (1 : Int32)), .val (.int i9), .val (.int cA0), .val (.int cA1), .val (.long q4), .second, .val (.long q4), .second, .unset, .unset, .unset, .unset, .unset, .unset] [])) _
          refine XS.iload X0.here hx rfl (hb hby at_129) rfl ?_
          show Steps p.tables e below (s₁.setTop (mkF m 131 _ [(.int p5)])) _
          refine XS.iconst X0.here hx rfl (hb hby at_131) ?_
          show Steps p.tables e below (s₁.setTop (mkF m 132 _ [(.int (3 : Int32)), (.int p5)])) _
          refine XS.iushr X0.here hx rfl (hb hby at_132) rfl ?_
          show Steps p.tables e below (s₁.setTop (mkF m 133 _ [(.int ((p5.toUInt32 >>> ((3 : Int32) &&& 31).toUInt32).toInt32))])) _
          refine XS.iconst X0.here hx rfl (hb hby at_133) ?_
          show Steps p.tables e below (s₁.setTop (mkF m 134 _ [(.int (3 : Int32)), (.int ((p5.toUInt32 >>> ((3 : Int32) &&& 31).toUInt32).toInt32))])) _
          refine XS.iand X0.here hx rfl (hb hby at_134) rfl ?_
          exact ht
        obtain ⟨i20, h_i20⟩ : ∃ z : Int32, z = (((p5.toUInt32 >>> ((3 : Int32) &&& 31).toUInt32).toInt32) &&& (3 : Int32)) := ⟨_, rfl⟩
        rw [← h_i20]
        refine OFin.of (S' := s₁.setTop (mkF m 137 #[.val (.int p0), .val (.int p1), .val (.long q2), .second, .val (.long q3), .second, .val (.long q4), .second, .val (.int p5), .val (.int i9), .val (.int cA0), .val (.int cA1), .val (.int (1 : Int32)), .val (.int i9), .val (.int cA0), .val (.int cA1), .val (.long q4), .second, .val (.long q4), .second, .val (.int i20), .unset, .unset, .unset, .unset, .unset] [])) (fun t ht => ?_) ?_
        · refine XS.istore X0.here hx rfl (hb hby at_135) rfl (l' := #[.val (.int p0), .val (.int p1), .val (.long q2), .second, .val (.long q3), .second, .val (.long q4), .second, .val (.int p5), .val (.int i9), .val (.int cA0), .val (.int cA1), .val (.int (1 : Int32)), .val (.int i9), .val (.int cA0), .val (.int cA1), .val (.long q4), .second, .val (.long q4), .second, .val (.int i20), .unset, .unset, .unset, .unset, .unset]) rfl ?_
          exact ht
        rcases own_rem3' h_i9 with hq1406 | hq1406 | hq1406
        · rw [hq1406]
          exact seg00 Z _ hw hx hby hlk hret hml hown hZ n0 p0 p1 q2 q3 q4 p5 cA0 cA1 (1 : Int32) cA0 cA1 q4 q4 i20 cs ac (X0.more (by decide) (by decide)) e0 Z0 N0 Scs Scc hcs hLC (own_ok' h_cA0) (own_ok' h_cA1) (own_ok' h_cA0) (own_ok' h_cA1) hC0 (fun _ _ q => ⟨rfl, q⟩)
        · rw [hq1406]
          exact seg11 Z _ hw hx hby hlk hret hml hown hZ n0 p0 p1 q2 q3 q4 p5 cA0 cA1 (1 : Int32) cA0 cA1 q4 q4 i20 cs ac (X0.more (by decide) (by decide)) e0 Z0 N0 Scs Scc hcs hLC (own_ok' h_cA0) (own_ok' h_cA1) (own_ok' h_cA0) (own_ok' h_cA1) hC0 (fun _ _ q => ⟨rfl, q⟩)
        · rw [hq1406]
          exact seg22 Z _ hw hx hby hlk hret hml hown hZ n0 p0 p1 q2 q3 q4 p5 cA0 cA1 (1 : Int32) cA0 cA1 q4 q4 i20 cs ac (X0.more (by decide) (by decide)) e0 Z0 N0 Scs Scc hcs hLC (own_ok' h_cA0) (own_ok' h_cA1) (own_ok' h_cA0) (own_ok' h_cA1) hC0 (fun _ _ q => ⟨rfl, q⟩)
      · refine OFin.of (S' := s₁.setTop (mkF m 135 #[.val (.int p0), .val (.int p1), .val (.long q2), .second, .val (.long q3), .second, .val (.long q4), .second, .val (.int p5), .val (.int i9), .val (.int cA0), .val (.int cA1), .val (.int (1 : Int32)), .val (.int i9), .val (.int cA0), .val (.int cA1), .val (.long q4), .second, .val (.long q3), .second, .unset, .unset, .unset, .unset, .unset, .unset] [(.int (((p5.toUInt32 >>> ((3 : Int32) &&& 31).toUInt32).toInt32) &&& (3 : Int32)))])) (fun t ht => ?_) ?_
        · refine XS.ifNo X0.here hx rfl (hb hby at_117) rfl ((if0 _ _).trans (feq (hc1405 : ¬ ((p5 &&& (4 : Int32)) = (0 : Int32)))).1) ?_
          show Steps p.tables e below (s₁.setTop (mkF m 120 _ [])) _
          refine XS.lload X0.here hx rfl (hb hby at_120) rfl ?_
          show Steps p.tables e below (s₁.setTop (mkF m 122 _ [(.long q3)])) _
          refine XS.goto X0.here hx rfl (pc0 := 122) (pc' := 127) rfl (hb hby at_122) (by decide) (by decide) ?_
          show Steps p.tables e below (s₁.setTop (mkF m 127 _ [(.long q3)])) _
          refine XS.lstore X0.here hx rfl (hb hby at_127) rfl (l' := #[.val (.int p0), .val (.int p1), .val (.long q2), .second, .val (.long q3), .second, .val (.long q4), .second, .val (.int p5), .val (.int i9), .val (.int cA0), .val (.int cA1), .val (.int (1 : Int32)), .val (.int i9), .val (.int cA0), .val (.int cA1), .val (.long q4), .second, .val (.long q3), .second, .unset, .unset, .unset, .unset, .unset, .unset]) rfl ?_
          show Steps p.tables e below (s₁.setTop (mkF m 129 #[.val (.int p0), .val (.int p1), .val (.long q2), .second, .val (.long q3), .second, .val (.long q4), .second, .val (.int p5), .val (.int i9), .val (.int cA0), .val (.int cA1), .val (.int (1 : Int32)), .val (.int i9), .val (.int cA0), .val (.int cA1), .val (.long q4), .second, .val (.long q3), .second, .unset, .unset, .unset, .unset, .unset, .unset] [])) _
          refine XS.iload X0.here hx rfl (hb hby at_129) rfl ?_
          show Steps p.tables e below (s₁.setTop (mkF m 131 _ [(.int p5)])) _
          refine XS.iconst X0.here hx rfl (hb hby at_131) ?_
          show Steps p.tables e below (s₁.setTop (mkF m 132 _ [(.int (3 : Int32)), (.int p5)])) _
          refine XS.iushr X0.here hx rfl (hb hby at_132) rfl ?_
          show Steps p.tables e below (s₁.setTop (mkF m 133 _ [(.int ((p5.toUInt32 >>> ((3 : Int32) &&& 31).toUInt32).toInt32))])) _
          refine XS.iconst X0.here hx rfl (hb hby at_133) ?_
          show Steps p.tables e below (s₁.setTop (mkF m 134 _ [(.int (3 : Int32)), (.int ((p5.toUInt32 >>> ((3 : Int32) &&& 31).toUInt32).toInt32))])) _
          refine XS.iand X0.here hx rfl (hb hby at_134) rfl ?_
          exact ht
        obtain ⟨i20, h_i20⟩ : ∃ z : Int32, z = (((p5.toUInt32 >>> ((3 : Int32) &&& 31).toUInt32).toInt32) &&& (3 : Int32)) := ⟨_, rfl⟩
        rw [← h_i20]
        refine OFin.of (S' := s₁.setTop (mkF m 137 #[.val (.int p0), .val (.int p1), .val (.long q2), .second, .val (.long q3), .second, .val (.long q4), .second, .val (.int p5), .val (.int i9), .val (.int cA0), .val (.int cA1), .val (.int (1 : Int32)), .val (.int i9), .val (.int cA0), .val (.int cA1), .val (.long q4), .second, .val (.long q3), .second, .val (.int i20), .unset, .unset, .unset, .unset, .unset] [])) (fun t ht => ?_) ?_
        · refine XS.istore X0.here hx rfl (hb hby at_135) rfl (l' := #[.val (.int p0), .val (.int p1), .val (.long q2), .second, .val (.long q3), .second, .val (.long q4), .second, .val (.int p5), .val (.int i9), .val (.int cA0), .val (.int cA1), .val (.int (1 : Int32)), .val (.int i9), .val (.int cA0), .val (.int cA1), .val (.long q4), .second, .val (.long q3), .second, .val (.int i20), .unset, .unset, .unset, .unset, .unset]) rfl ?_
          exact ht
        rcases own_rem3' h_i9 with hq1407 | hq1407 | hq1407
        · rw [hq1407]
          exact seg00 Z _ hw hx hby hlk hret hml hown hZ n0 p0 p1 q2 q3 q4 p5 cA0 cA1 (1 : Int32) cA0 cA1 q4 q3 i20 cs ac (X0.more (by decide) (by decide)) e0 Z0 N0 Scs Scc hcs hLC (own_ok' h_cA0) (own_ok' h_cA1) (own_ok' h_cA0) (own_ok' h_cA1) hC0 (fun _ _ q => ⟨rfl, q⟩)
        · rw [hq1407]
          exact seg11 Z _ hw hx hby hlk hret hml hown hZ n0 p0 p1 q2 q3 q4 p5 cA0 cA1 (1 : Int32) cA0 cA1 q4 q3 i20 cs ac (X0.more (by decide) (by decide)) e0 Z0 N0 Scs Scc hcs hLC (own_ok' h_cA0) (own_ok' h_cA1) (own_ok' h_cA0) (own_ok' h_cA1) hC0 (fun _ _ q => ⟨rfl, q⟩)
        · rw [hq1407]
          exact seg22 Z _ hw hx hby hlk hret hml hown hZ n0 p0 p1 q2 q3 q4 p5 cA0 cA1 (1 : Int32) cA0 cA1 q4 q3 i20 cs ac (X0.more (by decide) (by decide)) e0 Z0 N0 Scs Scc hcs hLC (own_ok' h_cA0) (own_ok' h_cA1) (own_ok' h_cA0) (own_ok' h_cA1) hC0 (fun _ _ q => ⟨rfl, q⟩)
    · refine OFin.of (S' := s₁.setTop (mkF m 117 #[.val (.int p0), .val (.int p1), .val (.long q2), .second, .val (.long q3), .second, .val (.long q4), .second, .val (.int p5), .val (.int i9), .val (.int cA0), .val (.int cA1), .val (.int (1 : Int32)), .val (.int i9), .val (.int cA0), .val (.int cA1), .val (.long q2), .second, .unset, .unset, .unset, .unset, .unset, .unset, .unset, .unset] [(.int (p5 &&& (4 : Int32)))])) (fun t ht => ?_) ?_
      · refine XS.ifNo X0.here hx rfl (hb hby at_102) rfl ((if0 _ _).trans (feq (hc1404 : ¬ ((p5 &&& (2 : Int32)) = (0 : Int32)))).1) ?_
        show Steps p.tables e below (s₁.setTop (mkF m 105 _ [])) _
        refine XS.lloadN X0.here hx rfl (hb hby at_105) rfl ?_
        show Steps p.tables e below (s₁.setTop (mkF m 106 _ [(.long q2)])) _
        refine XS.goto X0.here hx rfl (pc0 := 106) (pc' := 111) rfl (hb hby at_106) (by decide) (by decide) ?_
        show Steps p.tables e below (s₁.setTop (mkF m 111 _ [(.long q2)])) _
        refine XS.lstore X0.here hx rfl (hb hby at_111) rfl (l' := #[.val (.int p0), .val (.int p1), .val (.long q2), .second, .val (.long q3), .second, .val (.long q4), .second, .val (.int p5), .val (.int i9), .val (.int cA0), .val (.int cA1), .val (.int (1 : Int32)), .val (.int i9), .val (.int cA0), .val (.int cA1), .val (.long q2), .second, .unset, .unset, .unset, .unset, .unset, .unset, .unset, .unset]) rfl ?_
        show Steps p.tables e below (s₁.setTop (mkF m 113 #[.val (.int p0), .val (.int p1), .val (.long q2), .second, .val (.long q3), .second, .val (.long q4), .second, .val (.int p5), .val (.int i9), .val (.int cA0), .val (.int cA1), .val (.int (1 : Int32)), .val (.int i9), .val (.int cA0), .val (.int cA1), .val (.long q2), .second, .unset, .unset, .unset, .unset, .unset, .unset, .unset, .unset] [])) _
        refine XS.iload X0.here hx rfl (hb hby at_113) rfl ?_
        show Steps p.tables e below (s₁.setTop (mkF m 115 _ [(.int p5)])) _
        refine XS.iconst X0.here hx rfl (hb hby at_115) ?_
        show Steps p.tables e below (s₁.setTop (mkF m 116 _ [(.int (4 : Int32)), (.int p5)])) _
        refine XS.iand X0.here hx rfl (hb hby at_116) rfl ?_
        exact ht
      by_cases hc1408 : (p5 &&& (4 : Int32)) = (0 : Int32)
      · refine OFin.of (S' := s₁.setTop (mkF m 135 #[.val (.int p0), .val (.int p1), .val (.long q2), .second, .val (.long q3), .second, .val (.long q4), .second, .val (.int p5), .val (.int i9), .val (.int cA0), .val (.int cA1), .val (.int (1 : Int32)), .val (.int i9), .val (.int cA0), .val (.int cA1), .val (.long q2), .second, .val (.long q4), .second, .unset, .unset, .unset, .unset, .unset, .unset] [(.int (((p5.toUInt32 >>> ((3 : Int32) &&& 31).toUInt32).toInt32) &&& (3 : Int32)))])) (fun t ht => ?_) ?_
        · refine XS.ifYes X0.here hx rfl (pc0 := 117) (pc' := 125) rfl (hb hby at_117) rfl ((if0 _ _).trans (teq (hc1408 : (p5 &&& (4 : Int32)) = (0 : Int32))).1) (by decide) (by decide) ?_
          show Steps p.tables e below (s₁.setTop (mkF m 125 _ [])) _
          refine XS.lload X0.here hx rfl (hb hby at_125) rfl ?_
          show Steps p.tables e below (s₁.setTop (mkF m 127 _ [(.long q4)])) _
          refine XS.lstore X0.here hx rfl (hb hby at_127) rfl (l' := #[.val (.int p0), .val (.int p1), .val (.long q2), .second, .val (.long q3), .second, .val (.long q4), .second, .val (.int p5), .val (.int i9), .val (.int cA0), .val (.int cA1), .val (.int (1 : Int32)), .val (.int i9), .val (.int cA0), .val (.int cA1), .val (.long q2), .second, .val (.long q4), .second, .unset, .unset, .unset, .unset, .unset, .unset]) rfl ?_
          show Steps p.tables e below (s₁.setTop (mkF m 129 #[.val (.int p0), .val (.int p1), .val (.long q2), .second, .val (.long q3), .second, .val (.long q4), .second, .val (.int p5), .val (.int i9), .val (.int cA0), .val (.int cA1), .val (.int (1 : Int32)), .val (.int i9), .val (.int cA0), .val (.int cA1), .val (.long q2), .second, .val (.long q4), .second, .unset, .unset, .unset, .unset, .unset, .unset] [])) _
          refine XS.iload X0.here hx rfl (hb hby at_129) rfl ?_
          show Steps p.tables e below (s₁.setTop (mkF m 131 _ [(.int p5)])) _
          refine XS.iconst X0.here hx rfl (hb hby at_131) ?_
          show Steps p.tables e below (s₁.setTop (mkF m 132 _ [(.int (3 : Int32)), (.int p5)])) _
          refine XS.iushr X0.here hx rfl (hb hby at_132) rfl ?_
          show Steps p.tables e below (s₁.setTop (mkF m 133 _ [(.int ((p5.toUInt32 >>> ((3 : Int32) &&& 31).toUInt32).toInt32))])) _
          refine XS.iconst X0.here hx rfl (hb hby at_133) ?_
          show Steps p.tables e below (s₁.setTop (mkF m 134 _ [(.int (3 : Int32)), (.int ((p5.toUInt32 >>> ((3 : Int32) &&& 31).toUInt32).toInt32))])) _
          refine XS.iand X0.here hx rfl (hb hby at_134) rfl ?_
          exact ht
        obtain ⟨i20, h_i20⟩ : ∃ z : Int32, z = (((p5.toUInt32 >>> ((3 : Int32) &&& 31).toUInt32).toInt32) &&& (3 : Int32)) := ⟨_, rfl⟩
        rw [← h_i20]
        refine OFin.of (S' := s₁.setTop (mkF m 137 #[.val (.int p0), .val (.int p1), .val (.long q2), .second, .val (.long q3), .second, .val (.long q4), .second, .val (.int p5), .val (.int i9), .val (.int cA0), .val (.int cA1), .val (.int (1 : Int32)), .val (.int i9), .val (.int cA0), .val (.int cA1), .val (.long q2), .second, .val (.long q4), .second, .val (.int i20), .unset, .unset, .unset, .unset, .unset] [])) (fun t ht => ?_) ?_
        · refine XS.istore X0.here hx rfl (hb hby at_135) rfl (l' := #[.val (.int p0), .val (.int p1), .val (.long q2), .second, .val (.long q3), .second, .val (.long q4), .second, .val (.int p5), .val (.int i9), .val (.int cA0), .val (.int cA1), .val (.int (1 : Int32)), .val (.int i9), .val (.int cA0), .val (.int cA1), .val (.long q2), .second, .val (.long q4), .second, .val (.int i20), .unset, .unset, .unset, .unset, .unset]) rfl ?_
          exact ht
        rcases own_rem3' h_i9 with hq1409 | hq1409 | hq1409
        · rw [hq1409]
          exact seg00 Z _ hw hx hby hlk hret hml hown hZ n0 p0 p1 q2 q3 q4 p5 cA0 cA1 (1 : Int32) cA0 cA1 q2 q4 i20 cs ac (X0.more (by decide) (by decide)) e0 Z0 N0 Scs Scc hcs hLC (own_ok' h_cA0) (own_ok' h_cA1) (own_ok' h_cA0) (own_ok' h_cA1) hC0 (fun _ _ q => ⟨rfl, q⟩)
        · rw [hq1409]
          exact seg11 Z _ hw hx hby hlk hret hml hown hZ n0 p0 p1 q2 q3 q4 p5 cA0 cA1 (1 : Int32) cA0 cA1 q2 q4 i20 cs ac (X0.more (by decide) (by decide)) e0 Z0 N0 Scs Scc hcs hLC (own_ok' h_cA0) (own_ok' h_cA1) (own_ok' h_cA0) (own_ok' h_cA1) hC0 (fun _ _ q => ⟨rfl, q⟩)
        · rw [hq1409]
          exact seg22 Z _ hw hx hby hlk hret hml hown hZ n0 p0 p1 q2 q3 q4 p5 cA0 cA1 (1 : Int32) cA0 cA1 q2 q4 i20 cs ac (X0.more (by decide) (by decide)) e0 Z0 N0 Scs Scc hcs hLC (own_ok' h_cA0) (own_ok' h_cA1) (own_ok' h_cA0) (own_ok' h_cA1) hC0 (fun _ _ q => ⟨rfl, q⟩)
      · refine OFin.of (S' := s₁.setTop (mkF m 135 #[.val (.int p0), .val (.int p1), .val (.long q2), .second, .val (.long q3), .second, .val (.long q4), .second, .val (.int p5), .val (.int i9), .val (.int cA0), .val (.int cA1), .val (.int (1 : Int32)), .val (.int i9), .val (.int cA0), .val (.int cA1), .val (.long q2), .second, .val (.long q3), .second, .unset, .unset, .unset, .unset, .unset, .unset] [(.int (((p5.toUInt32 >>> ((3 : Int32) &&& 31).toUInt32).toInt32) &&& (3 : Int32)))])) (fun t ht => ?_) ?_
        · refine XS.ifNo X0.here hx rfl (hb hby at_117) rfl ((if0 _ _).trans (feq (hc1408 : ¬ ((p5 &&& (4 : Int32)) = (0 : Int32)))).1) ?_
          show Steps p.tables e below (s₁.setTop (mkF m 120 _ [])) _
          refine XS.lload X0.here hx rfl (hb hby at_120) rfl ?_
          show Steps p.tables e below (s₁.setTop (mkF m 122 _ [(.long q3)])) _
          refine XS.goto X0.here hx rfl (pc0 := 122) (pc' := 127) rfl (hb hby at_122) (by decide) (by decide) ?_
          show Steps p.tables e below (s₁.setTop (mkF m 127 _ [(.long q3)])) _
          refine XS.lstore X0.here hx rfl (hb hby at_127) rfl (l' := #[.val (.int p0), .val (.int p1), .val (.long q2), .second, .val (.long q3), .second, .val (.long q4), .second, .val (.int p5), .val (.int i9), .val (.int cA0), .val (.int cA1), .val (.int (1 : Int32)), .val (.int i9), .val (.int cA0), .val (.int cA1), .val (.long q2), .second, .val (.long q3), .second, .unset, .unset, .unset, .unset, .unset, .unset]) rfl ?_
          show Steps p.tables e below (s₁.setTop (mkF m 129 #[.val (.int p0), .val (.int p1), .val (.long q2), .second, .val (.long q3), .second, .val (.long q4), .second, .val (.int p5), .val (.int i9), .val (.int cA0), .val (.int cA1), .val (.int (1 : Int32)), .val (.int i9), .val (.int cA0), .val (.int cA1), .val (.long q2), .second, .val (.long q3), .second, .unset, .unset, .unset, .unset, .unset, .unset] [])) _
          refine XS.iload X0.here hx rfl (hb hby at_129) rfl ?_
          show Steps p.tables e below (s₁.setTop (mkF m 131 _ [(.int p5)])) _
          refine XS.iconst X0.here hx rfl (hb hby at_131) ?_
          show Steps p.tables e below (s₁.setTop (mkF m 132 _ [(.int (3 : Int32)), (.int p5)])) _
          refine XS.iushr X0.here hx rfl (hb hby at_132) rfl ?_
          show Steps p.tables e below (s₁.setTop (mkF m 133 _ [(.int ((p5.toUInt32 >>> ((3 : Int32) &&& 31).toUInt32).toInt32))])) _
          refine XS.iconst X0.here hx rfl (hb hby at_133) ?_
          show Steps p.tables e below (s₁.setTop (mkF m 134 _ [(.int (3 : Int32)), (.int ((p5.toUInt32 >>> ((3 : Int32) &&& 31).toUInt32).toInt32))])) _
          refine XS.iand X0.here hx rfl (hb hby at_134) rfl ?_
          exact ht
        obtain ⟨i20, h_i20⟩ : ∃ z : Int32, z = (((p5.toUInt32 >>> ((3 : Int32) &&& 31).toUInt32).toInt32) &&& (3 : Int32)) := ⟨_, rfl⟩
        rw [← h_i20]
        refine OFin.of (S' := s₁.setTop (mkF m 137 #[.val (.int p0), .val (.int p1), .val (.long q2), .second, .val (.long q3), .second, .val (.long q4), .second, .val (.int p5), .val (.int i9), .val (.int cA0), .val (.int cA1), .val (.int (1 : Int32)), .val (.int i9), .val (.int cA0), .val (.int cA1), .val (.long q2), .second, .val (.long q3), .second, .val (.int i20), .unset, .unset, .unset, .unset, .unset] [])) (fun t ht => ?_) ?_
        · refine XS.istore X0.here hx rfl (hb hby at_135) rfl (l' := #[.val (.int p0), .val (.int p1), .val (.long q2), .second, .val (.long q3), .second, .val (.long q4), .second, .val (.int p5), .val (.int i9), .val (.int cA0), .val (.int cA1), .val (.int (1 : Int32)), .val (.int i9), .val (.int cA0), .val (.int cA1), .val (.long q2), .second, .val (.long q3), .second, .val (.int i20), .unset, .unset, .unset, .unset, .unset]) rfl ?_
          exact ht
        rcases own_rem3' h_i9 with hq1410 | hq1410 | hq1410
        · rw [hq1410]
          exact seg00 Z _ hw hx hby hlk hret hml hown hZ n0 p0 p1 q2 q3 q4 p5 cA0 cA1 (1 : Int32) cA0 cA1 q2 q3 i20 cs ac (X0.more (by decide) (by decide)) e0 Z0 N0 Scs Scc hcs hLC (own_ok' h_cA0) (own_ok' h_cA1) (own_ok' h_cA0) (own_ok' h_cA1) hC0 (fun _ _ q => ⟨rfl, q⟩)
        · rw [hq1410]
          exact seg11 Z _ hw hx hby hlk hret hml hown hZ n0 p0 p1 q2 q3 q4 p5 cA0 cA1 (1 : Int32) cA0 cA1 q2 q3 i20 cs ac (X0.more (by decide) (by decide)) e0 Z0 N0 Scs Scc hcs hLC (own_ok' h_cA0) (own_ok' h_cA1) (own_ok' h_cA0) (own_ok' h_cA1) hC0 (fun _ _ q => ⟨rfl, q⟩)
        · rw [hq1410]
          exact seg22 Z _ hw hx hby hlk hret hml hown hZ n0 p0 p1 q2 q3 q4 p5 cA0 cA1 (1 : Int32) cA0 cA1 q2 q3 i20 cs ac (X0.more (by decide) (by decide)) e0 Z0 N0 Scs Scc hcs hLC (own_ok' h_cA0) (own_ok' h_cA1) (own_ok' h_cA0) (own_ok' h_cA1) hC0 (fun _ _ q => ⟨rfl, q⟩)
set_option maxRecDepth 65536 in
set_option maxHeartbeats 40000000 in
theorem comes_1 {Post : Tables → Env → Array Value → State → Outcome → State → Prop} (hpost : ∀ tb e args s v u, (limb_1_1.after args s (.returned v) u = true ∧ limb_1_2.after args s (.returned v) u = true ∧ True) → FramedW s (.returned v) u (Jvm.fieldLocs frame_1_writes args s ++ Jvm.arrayLocs frame_1_arrays args s ++ Jvm.staticLocs frame_1_statics s) 32 1152 → Post tb e args s (.returned v) u) :
    ArmFor flags0 classFile x code maxLocals ret World_1 tables_1 room_1 Calls_1 rest_1 Pre_1 Post := by
  intro l hfl _ _ p e ha hc hk s m args below hf hA hF happ hP
  obtain ⟨hcalls, hrest, hpre⟩ := hP
  obtain ⟨-, -, -, hnamed, -, -, -, hat⟩ := (Spec.applies_iff hf).mp happ
  obtain ⟨hg, hn⟩ := and_e (Cond.before_iff.mp (show (Jvm.Cond.and given_1 narrow_1).before args s = true from hpre))
  obtain ⟨gg0, hg0⟩ := and_e hg
  obtain ⟨gg1, hg1⟩ := and_e hg0
  obtain ⟨gg2, hg2⟩ := and_e hg1
  obtain ⟨gg3, hg3⟩ := and_e hg2
  obtain ⟨gg4, hg4⟩ := and_e hg3
  obtain ⟨gg5, hg5⟩ := and_e hg4
  obtain ⟨w0, w1, w2, w3, w4, w5, rfl⟩ : ∃ w0 w1 w2 w3 w4 w5 : Value, args = #[w0, w1, w2, w3, w4, w5] := by
    have hs : args.size = 6 := by simpa [Cond.value, given_1] using gg0
    obtain ⟨L⟩ := args
    match L, hs with
    | [w0, w1, w2, w3, w4, w5], _ => exact ⟨w0, w1, w2, w3, w4, w5, rfl⟩
  have hw := fun d (hd : d ∈ tables_1) => atoms_spec (ws := Jvm.Cond.code x code maxLocals ret :: tables_1) hat d (List.mem_cons_of_mem _ hd)
  have hfit : Fit s := fun {y c} hc i hi => by
    obtain ⟨ha, rfl⟩ := Array.getElem?_eq_some_iff.mp hc
    have q := List.all_eq_true.mp ((Array.all_eq_true_iff_forall_mem.mp hF) _ (Array.getElem_mem ha)) i (List.mem_range.mpr hi)
    simpa [Array.getElem?_eq_getElem hi] using q
  obtain ⟨i0, ei0⟩ := is_v gg1
  obtain rfl : w0 = (.int i0) := Option.some.inj ei0
  obtain ⟨i1, ei1⟩ := is_v gg2
  obtain rfl : w1 = (.int i1) := Option.some.inj ei1
  obtain ⟨i2, ei2⟩ := isL_v gg3
  obtain rfl : w2 = (.long i2) := Option.some.inj ei2
  obtain ⟨i3, ei3⟩ := isL_v gg4
  obtain rfl : w3 = (.long i3) := Option.some.inj ei3
  obtain ⟨i4, ei4⟩ := isL_v gg5
  obtain rfl : w4 = (.long i4) := Option.some.inj ei4
  obtain ⟨i5, ei5⟩ := is_v hg5
  obtain rfl : w5 = (.int i5) := Option.some.inj ei5
  obtain ⟨hsets, hown0⟩ := atoms_of _ (rest_1_c_eq ▸ (show rest_1_c.before _ s = true from hrest))
  have nz := not_v (Cond.before_iff.mp (hsets _ (List.mem_of_getElem? (i := 8) rfl)))
  obtain ⟨cs, ecs⟩ := is_v (Cond.before_iff.mp (hsets _ (List.mem_of_getElem? (i := 7) rfl)))
  have Scs : Sta s s.heap "java/lang/String" "COMPACT_STRINGS" "Z" (.int cs) := Sta.start ecs (Or.inl (hsets _ (List.mem_of_getElem? (i := 6) rfl)))
  have hcs : ¬ (cs = (0 : Int32)) := gotF (Cond.eq_ints ecs (Term.int_eval (0))) nz
  obtain ⟨ac, ea, hLC⟩ := own_cache (fun d hd => hsets d (own_sets6 hd))
  have Scc : Sta s s.heap "java/lang/Long$LongCache" "cache" "[Ljava/lang/Long;" (.ref ac) := Sta.start ea (Or.inl (hsets _ (List.mem_of_getElem? (i := 1) rfl)))
  have hC0 : CHv s consts_1 s.vm s.heap := CHv.start (own_EW hw) (fun p hp => hcalls.1 p hp) (hsets _ (List.mem_of_getElem? (i := 8) rfl)) (hw _ (List.mem_of_getElem? (i := 22) rfl)) (hw _ (List.mem_of_getElem? (i := 8) rfl))
  obtain ⟨n, o, h1, h2, h3, _, L, rfl, ⟨rfl, N⟩, hq⟩ := rm0 l s _ hw tables_1 i0 i1 i2 i3 i4 i5 cs ac s.heap s.heap.size (Nat.le_refl _) Scs Scc hcs hLC p e ha hc hk s m _ below hf ((Spec.applies_iff_loose hf).mp happ).1 ⟨rfl, State.Warmed39.refl s, rfl, hC0⟩ trivial
  refine ⟨n, _, h1, h2, h3, hpost _ _ _ _ _ _ ⟨Cond.after_iff.mpr rfl, Cond.after_iff.mpr (eq_i res_at (Term.int_eval (1)) rfl), trivial⟩ ⟨hq.1, hq.2.1, hq.2.2.1, (hq.2.2.2.sift fun y hy => Or.inr (N y hy)).mono (by decide) (by decide)⟩⟩
theorem main_1_1 : Claimed_1_1 := comes_1 fun _ _ _ _ _ _ h hF => ⟨h.1, hF⟩
theorem main_1_2 : Claimed_1_2 := comes_1 fun _ _ _ _ _ _ h hF => ⟨h.2.1, hF⟩
end Jvm.Pilot.@@N@@
namespace Jvm.Pilot.@@N@@
open Jvm Jvm.ClassFile Sem Op Lib Jvm.Free Jvm.Stand Jvm.Pilot.@@N@@.Jvm.D
/-! MADE BY PROGRAM (witnessworld.py) out of the Statement's table words and the real class files: 24 classes; the members and pool entries that the words name. The judged class is class 1, her method 2. -/
namespace start1
open Jvm.ClassFile
def u (s : String) : CpInfo := .utf8 (stringToUtf16 s)
/-- a pool by its gaps: so many unusable entries, then the entry; so many at the end -/
def gap : Nat → List CpInfo → List CpInfo
  | 0, r => r
  | n + 1, r => .unusable :: gap n r
def poolList (es : List (Nat × CpInfo)) (last : Nat) : List CpInfo := es.foldr (fun e r => gap e.1 (e.2 :: r)) (gap last [])
def pool (es : List (Nat × CpInfo)) (last : Nat) : Array CpInfo := ⟨poolList es last⟩
def fileOf (pool : Array CpInfo) (this : Nat) (attrs : Array Attribute := #[]) (ms : Array MethodInfo := #[]) (fl : Nat := 33) (sup : Nat := 0) (ifs : Array Nat := #[]) (fds : Array FieldInfo := #[]) : ClassFile where
  minorVersion := 0
  majorVersion := 65
  constantPool := pool
  accessFlags := fl
  thisClass := this
  superClass := sup
  interfaces := ifs
  fields := fds
  methods := ms
  attributes := attrs
def plain (name : String) (sup : Option ClassId) : Class where
  name := name
  kind := .ordinary
  loader := none
  accessFlags := 33
  super := sup
  interfaces := #[]
  cf := none
  fields := #[]
  methods := #[]
  instanceTypes := #[]
  staticTypes := #[]
  resolved := #[]
  callSites := []
  init := .initialized
  statics := none
  mirror := none

def pool0 : Array CpInfo := pool [(5, u "<init>"), (0, u "()V"), (1, .class_ 10), (1, u "java/lang/Object")] 113

def k0c0 : Code := { maxStack := 0, maxLocals := 1, code := object_method_1_code, exceptionTable := #[], attributes := #[] }
def k0m0 : Method := { name := "<init>", desc := "()V", sig := { parameters := [], returnType := none }, accessFlags := 1, code := some k0c0 }
/-- java/lang/Object -/
def k0 : Class := { plain "java/lang/Object" none with
  accessFlags := 33
  interfaces := #[]
  cf := some (fileOf pool0 8 #[] #[{ accessFlags := 1, nameIndex := 5, descriptorIndex := 6, attributes := #[] }] 33 0 #[] #[])
  fields := #[]
  methods := #[k0m0]
  instanceTypes := #[]
  staticTypes := #[]
  resolved := Array.replicate 124 none
  statics := none }

def pool1 : Array CpInfo := pool [(2, .class_ 4), (1, u "java/lang/Object"), (0, u "<init>"), (0, u "()V"), (0, .class_ 8), (0, u "java/lang/String"), (0, .methodref 7 10), (0, .nameAndType 5 11), (0, u "([C)V"), (0, .class_ 13), (0, u "com/example/greylag/greylag/model/Bundle"), (0, .methodref 15 16), (0, .class_ 17), (0, .nameAndType 18 19), (0, u "com/example/greylag/greylag/model/BundleEqualsPinLaw"), (0, u "str"), (0, u "(ICC)Ljava/lang/String;"), (0, .methodref 12 21), (0, .nameAndType 5 22), (0, u "(Ljava/lang/String;JJ)V"), (0, .methodref 24 25), (0, .class_ 26), (0, .nameAndType 27 28), (0, u "java/lang/Long"), (0, u "valueOf"), (0, u "(J)Ljava/lang/Long;"), (0, .methodref 12 30), (0, .nameAndType 31 32), (0, u "equals"), (0, u "(Ljava/lang/Object;)Z"), (3, u "law"), (0, u "(IIJJJI)Z")] 2

def k1m0 : Method := { name := "<init>", desc := "()V", sig := { parameters := [], returnType := none }, accessFlags := 1, code := none }
def k1c1 : Code := { maxStack := 6, maxLocals := 3, code := method_2_code, exceptionTable := #[], attributes := #[] }
def k1m1 : Method := { name := "str", desc := "(ICC)Ljava/lang/String;", sig := { parameters := [.int, .char, .char], returnType := some (.object "java/lang/String") }, accessFlags := 10, code := some k1c1 }
def k1c2 : Code := { maxStack := 7, maxLocals := 26, code := code, exceptionTable := #[], attributes := #[] }
def k1m2 : Method := { name := "law", desc := "(IIJJJI)Z", sig := { parameters := [.int, .int, .long, .long, .long, .int], returnType := some .boolean }, accessFlags := 9, code := some k1c2 }
/-- com/example/greylag/greylag/model/BundleEqualsPinLaw -/
def k1 : Class := { plain "com/example/greylag/greylag/model/BundleEqualsPinLaw" (some 0) with
  accessFlags := 49
  interfaces := #[]
  cf := some (fileOf pool1 15 #[] #[{ accessFlags := 1, nameIndex := 5, descriptorIndex := 6, attributes := #[] }, { accessFlags := 10, nameIndex := 18, descriptorIndex := 19, attributes := #[] }, { accessFlags := 9, nameIndex := 36, descriptorIndex := 37, attributes := #[] }] 49 2 #[] #[])
  fields := #[]
  methods := #[k1m0, k1m1, k1m2]
  instanceTypes := #[]
  staticTypes := #[]
  resolved := Array.replicate 40 none
  statics := none }

def pool2 : Array CpInfo := pool [(1, .class_ 2), (0, u "java/lang/Comparable"), (0, .class_ 4), (0, u "java/lang/Object")] 7

/-- java/lang/Comparable -/
def k2 : Class := { plain "java/lang/Comparable" (some 0) with
  accessFlags := 1537
  interfaces := #[]
  cf := some (fileOf pool2 1 #[] #[] 1537 3 #[] #[])
  fields := #[]
  methods := #[]
  instanceTypes := #[]
  staticTypes := #[]
  resolved := Array.replicate 12 none
  statics := none }

def pool3 : Array CpInfo := pool [(1, .methodref 2 3), (0, .class_ 4), (0, .nameAndType 5 6), (0, u "java/lang/Object"), (0, u "<init>"), (0, u "()V"), (0, .fieldref 8 9), (0, .class_ 10), (0, .nameAndType 11 12), (0, u "com/example/greylag/greylag/model/Bundle"), (0, u "namespace"), (0, u "Ljava/lang/String;"), (0, .fieldref 8 14), (0, .nameAndType 15 16), (0, u "lower"), (0, u "J"), (0, .fieldref 8 18), (0, .nameAndType 19 16), (0, u "upper"), (2, u "NAME"), (0, u "Ljava/util/regex/Pattern;"), (34, u "(Ljava/lang/String;JJ)V"), (13, .class_ 74), (1, u "java/lang/String"), (18, .methodref 72 94), (0, .nameAndType 95 96), (0, u "equals"), (0, u "(Ljava/lang/Object;)Z"), (47, .class_ 145), (0, u "java/lang/Comparable")] 42

def k3c0 : Code := { maxStack := 3, maxLocals := 6, code := prog_27_method_1_code, exceptionTable := #[], attributes := #[] }
def k3m0 : Method := { name := "<init>", desc := "(Ljava/lang/String;JJ)V", sig := { parameters := [(.object "java/lang/String"), .long, .long], returnType := none }, accessFlags := 0, code := some k3c0 }
def k3c1 : Code := { maxStack := 4, maxLocals := 3, code := prog_27_method_12_code, exceptionTable := #[], attributes := #[] }
def k3m1 : Method := { name := "equals", desc := "(Ljava/lang/Object;)Z", sig := { parameters := [(.object "java/lang/Object")], returnType := some .boolean }, accessFlags := 1, code := some k3c1 }
/-- com/example/greylag/greylag/model/Bundle -/
def k3 : Class := { plain "com/example/greylag/greylag/model/Bundle" (some 0) with
  accessFlags := 49
  interfaces := #[2]
  cf := some (fileOf pool3 8 #[] #[{ accessFlags := 0, nameIndex := 5, descriptorIndex := 58, attributes := #[] }, { accessFlags := 1, nameIndex := 95, descriptorIndex := 96, attributes := #[] }] 49 2 #[144] #[{ accessFlags := 26, nameIndex := 22, descriptorIndex := 23, attributes := #[] }, { accessFlags := 18, nameIndex := 11, descriptorIndex := 12, attributes := #[] }, { accessFlags := 18, nameIndex := 15, descriptorIndex := 16, attributes := #[] }, { accessFlags := 18, nameIndex := 19, descriptorIndex := 16, attributes := #[] }])
  fields := #[{ name := "NAME", type := (.object "java/util/regex/Pattern"), accessFlags := 26, slot := 0, constantValue := 0 }, { name := "namespace", type := (.object "java/lang/String"), accessFlags := 18, slot := 0, constantValue := 0 }, { name := "lower", type := .long, accessFlags := 18, slot := 1, constantValue := 0 }, { name := "upper", type := .long, accessFlags := 18, slot := 2, constantValue := 0 }]
  methods := #[k3m0, k3m1]
  instanceTypes := #[(.object "java/lang/String"), .long, .long]
  staticTypes := #[(.object "java/util/regex/Pattern")]
  resolved := Array.replicate 188 none
  statics := none }

def pool4 : Array CpInfo := pool [(1, .class_ 2), (0, u "java/io/Serializable"), (0, .class_ 4), (0, u "java/lang/Object")] 2

/-- java/io/Serializable -/
def k4 : Class := { plain "java/io/Serializable" (some 0) with
  accessFlags := 1537
  interfaces := #[]
  cf := some (fileOf pool4 1 #[] #[] 1537 3 #[] #[])
  fields := #[]
  methods := #[]
  instanceTypes := #[]
  staticTypes := #[]
  resolved := Array.replicate 7 none
  statics := none }

def pool5 : Array CpInfo := pool [(2, .class_ 4), (1, u "java/lang/CharSequence"), (42, .class_ 48), (0, u "java/lang/CharSequence$1CodePointIterator"), (10, .class_ 60), (0, u "java/lang/CharSequence$1CharIterator"), (5, .class_ 67), (0, u "java/lang/Object")] 63

/-- java/lang/CharSequence -/
def k5 : Class := { plain "java/lang/CharSequence" (some 0) with
  accessFlags := 1537
  interfaces := #[]
  cf := some (fileOf pool5 2 #[.nestMembers #[47, 59]] #[] 1537 66 #[] #[])
  fields := #[]
  methods := #[]
  instanceTypes := #[]
  staticTypes := #[]
  resolved := Array.replicate 131 none
  statics := none }

def pool6 : Array CpInfo := pool [(1, .class_ 2), (0, u "java/lang/constant/Constable"), (0, .class_ 4), (0, u "java/lang/Object")] 6

/-- java/lang/constant/Constable -/
def k6 : Class := { plain "java/lang/constant/Constable" (some 0) with
  accessFlags := 1537
  interfaces := #[]
  cf := some (fileOf pool6 1 #[] #[] 1537 3 #[] #[])
  fields := #[]
  methods := #[]
  instanceTypes := #[]
  staticTypes := #[]
  resolved := Array.replicate 11 none
  statics := none }

def pool7 : Array CpInfo := pool [(1, .class_ 2), (0, u "java/lang/constant/ConstantDesc"), (0, .class_ 4), (0, u "java/lang/Object")] 32

/-- java/lang/constant/ConstantDesc -/
def k7 : Class := { plain "java/lang/constant/ConstantDesc" (some 0) with
  accessFlags := 1537
  interfaces := #[]
  cf := some (fileOf pool7 1 #[] #[] 1537 3 #[] #[])
  fields := #[]
  methods := #[]
  instanceTypes := #[]
  staticTypes := #[]
  resolved := Array.replicate 37 none
  statics := none }

def pool8 : Array CpInfo := pool [(1, .methodref 2 3), (0, .class_ 4), (0, .nameAndType 5 6), (0, u "java/lang/Object"), (0, u "<init>"), (0, u "()V"), (0, .string 8), (0, u ""), (0, .fieldref 10 11), (0, .class_ 12), (0, .nameAndType 13 14), (0, u "java/lang/String"), (0, u "value"), (0, u "[B"), (0, .fieldref 10 16), (0, .nameAndType 17 18), (0, u "coder"), (0, u "B"), (2, u "hash"), (0, u "I"), (2, u "hashIsZero"), (0, u "Z"), (0, .methodref 10 28), (0, .nameAndType 5 29), (0, u "([CIILjava/lang/Void;)V"), (8, .fieldref 10 39), (0, .nameAndType 40 26), (0, u "COMPACT_STRINGS"), (1, .class_ 44), (1, u "java/lang/StringUTF16"), (0, u "compress"), (1, .methodref 42 48), (0, .nameAndType 49 50), (0, u "coderFromArrayLen"), (0, u "([BI)B"), (56, .class_ 109), (1, u "java/lang/StringLatin1"), (67, .methodref 42 178), (0, .nameAndType 45 179), (0, u "([CII)[B"), (361, .methodref 107 542), (0, .nameAndType 543 544), (0, u "equals"), (0, u "([B[B)Z"), (28, u "(Ljava/lang/Object;)Z"), (1, .class_ 576), (0, u "java/lang/CharSequence"), (22, u "CASE_INSENSITIVE_ORDER"), (0, u "Ljava/util/Comparator;"), (409, u "([C)V"), (90, u "serialPersistentFields"), (0, u "[Ljava/io/ObjectStreamField;"), (0, .class_ 1104), (0, u "java/lang/String$CaseInsensitiveComparator"), (1, .class_ 1107), (0, u "java/io/Serializable"), (0, .class_ 1109), (0, u "java/lang/Comparable"), (0, .class_ 1111), (0, u "java/lang/constant/Constable"), (0, .class_ 1113), (0, u "java/lang/constant/ConstantDesc"), (2, u "serialVersionUID"), (0, u "J"), (3, u "REPL"), (0, u "C"), (2, u "LATIN1"), (1, u "UTF16")] 323

def k8m0 : Method := { name := "<init>", desc := "()V", sig := { parameters := [], returnType := none }, accessFlags := 1, code := none }
def k8c1 : Code := { maxStack := 5, maxLocals := 2, code := jdk_42_method_3_code, exceptionTable := #[], attributes := #[] }
def k8m1 : Method := { name := "<init>", desc := "([C)V", sig := { parameters := [(.array .char)], returnType := none }, accessFlags := 1, code := some k8c1 }
def k8c2 : Code := { maxStack := 2, maxLocals := 3, code := jdk_42_method_66_code, exceptionTable := #[], attributes := #[] }
def k8m2 : Method := { name := "equals", desc := "(Ljava/lang/Object;)Z", sig := { parameters := [(.object "java/lang/Object")], returnType := some .boolean }, accessFlags := 1, code := some k8c2 }
def k8c3 : Code := { maxStack := 4, maxLocals := 6, code := jdk_42_method_149_code, exceptionTable := #[], attributes := #[] }
def k8m3 : Method := { name := "<init>", desc := "([CIILjava/lang/Void;)V", sig := { parameters := [(.array .char), .int, .int, (.object "java/lang/Void")], returnType := none }, accessFlags := 2, code := some k8c3 }
/-- java/lang/String -/
def k8 : Class := { plain "java/lang/String" (some 0) with
  accessFlags := 49
  interfaces := #[4, 2, 5, 6, 7]
  cf := some (fileOf pool8 10 #[.nestMembers #[1103]] #[{ accessFlags := 1, nameIndex := 5, descriptorIndex := 6, attributes := #[] }, { accessFlags := 1, nameIndex := 5, descriptorIndex := 1010, attributes := #[] }, { accessFlags := 1, nameIndex := 543, descriptorIndex := 573, attributes := #[] }, { accessFlags := 2, nameIndex := 5, descriptorIndex := 29, attributes := #[] }] 49 2 #[1106, 1108, 575, 1110, 1112] #[{ accessFlags := 18, nameIndex := 13, descriptorIndex := 14, attributes := #[] }, { accessFlags := 18, nameIndex := 17, descriptorIndex := 18, attributes := #[] }, { accessFlags := 2, nameIndex := 21, descriptorIndex := 22, attributes := #[] }, { accessFlags := 2, nameIndex := 25, descriptorIndex := 26, attributes := #[] }, { accessFlags := 26, nameIndex := 1116, descriptorIndex := 1117, attributes := #[] }, { accessFlags := 24, nameIndex := 40, descriptorIndex := 26, attributes := #[] }, { accessFlags := 26, nameIndex := 1101, descriptorIndex := 1102, attributes := #[] }, { accessFlags := 26, nameIndex := 1121, descriptorIndex := 1122, attributes := #[] }, { accessFlags := 25, nameIndex := 599, descriptorIndex := 600, attributes := #[] }, { accessFlags := 24, nameIndex := 1125, descriptorIndex := 18, attributes := #[] }, { accessFlags := 24, nameIndex := 1127, descriptorIndex := 18, attributes := #[] }])
  fields := #[{ name := "value", type := (.array .byte), accessFlags := 18, slot := 0, constantValue := 0 }, { name := "coder", type := .byte, accessFlags := 18, slot := 1, constantValue := 0 }, { name := "hash", type := .int, accessFlags := 2, slot := 2, constantValue := 0 }, { name := "hashIsZero", type := .boolean, accessFlags := 2, slot := 3, constantValue := 0 }, { name := "serialVersionUID", type := .long, accessFlags := 26, slot := 0, constantValue := 0 }, { name := "COMPACT_STRINGS", type := .boolean, accessFlags := 24, slot := 1, constantValue := 0 }, { name := "serialPersistentFields", type := (.array (.object "java/io/ObjectStreamField")), accessFlags := 26, slot := 2, constantValue := 0 }, { name := "REPL", type := .char, accessFlags := 26, slot := 3, constantValue := 0 }, { name := "CASE_INSENSITIVE_ORDER", type := (.object "java/util/Comparator"), accessFlags := 25, slot := 4, constantValue := 0 }, { name := "LATIN1", type := .byte, accessFlags := 24, slot := 5, constantValue := 0 }, { name := "UTF16", type := .byte, accessFlags := 24, slot := 6, constantValue := 0 }]
  methods := #[k8m0, k8m1, k8m2, k8m3]
  instanceTypes := #[(.array .byte), .byte, .int, .boolean]
  staticTypes := #[.long, .boolean, (.array (.object "java/io/ObjectStreamField")), .char, (.object "java/util/Comparator"), .byte, .byte]
  resolved := Array.replicate 1451 none
  statics := some 0 }

def pool9 : Array CpInfo := pool [(1, .methodref 2 3), (0, .class_ 4), (0, .nameAndType 5 6), (0, u "java/lang/Object"), (0, u "<init>"), (0, u "()V"), (1, .class_ 10), (1, u "java/lang/Number"), (2, .class_ 14), (0, u "java/io/Serializable"), (0, u "serialVersionUID"), (0, u "J")] 20

def k9c0 : Code := { maxStack := 1, maxLocals := 1, code := jdk_18_method_1_code, exceptionTable := #[], attributes := #[] }
def k9m0 : Method := { name := "<init>", desc := "()V", sig := { parameters := [], returnType := none }, accessFlags := 1, code := some k9c0 }
/-- java/lang/Number -/
def k9 : Class := { plain "java/lang/Number" (some 0) with
  accessFlags := 1057
  interfaces := #[4]
  cf := some (fileOf pool9 8 #[] #[{ accessFlags := 1, nameIndex := 5, descriptorIndex := 6, attributes := #[] }] 1057 2 #[13] #[{ accessFlags := 26, nameIndex := 15, descriptorIndex := 16, attributes := #[] }])
  fields := #[{ name := "serialVersionUID", type := .long, accessFlags := 26, slot := 0, constantValue := 0 }]
  methods := #[k9m0]
  instanceTypes := #[]
  staticTypes := #[.long]
  resolved := Array.replicate 37 none
  statics := none }

def pool10 : Array CpInfo := pool [(1, .class_ 2), (0, u "java/lang/Long"), (55, .nameAndType 59 60), (0, u "<init>"), (0, u "()V"), (24, u "valueOf"), (143, u "(J)Ljava/lang/Long;"), (0, .long 18446744073709551488), (1, .long 127), (1, .fieldref 235 236), (0, .class_ 237), (0, .nameAndType 238 239), (0, u "java/lang/Long$LongCache"), (0, u "cache"), (0, u "[Ljava/lang/Long;"), (0, .methodref 1 241), (0, .nameAndType 59 242), (0, u "(J)V"), (27, .methodref 271 58), (0, .class_ 272), (0, u "java/lang/Number"), (0, .fieldref 1 274), (0, .nameAndType 275 276), (0, u "value"), (0, u "J"), (84, u "TYPE"), (0, u "Ljava/lang/Class;"), (0, .class_ 364), (0, u "java/lang/Comparable"), (0, .class_ 366), (0, u "java/lang/constant/Constable"), (0, .class_ 368), (0, u "java/lang/constant/ConstantDesc"), (0, u "MIN_VALUE"), (1, u "MAX_VALUE"), (4, u "SIZE"), (0, u "I"), (1, u "BYTES"), (1, u "serialVersionUID")] 142

def k10c0 : Code := { maxStack := 4, maxLocals := 3, code := jdk_35_method_24_code, exceptionTable := #[], attributes := #[] }
def k10m0 : Method := { name := "valueOf", desc := "(J)Ljava/lang/Long;", sig := { parameters := [.long], returnType := some (.object "java/lang/Long") }, accessFlags := 9, code := some k10c0 }
def k10c1 : Code := { maxStack := 3, maxLocals := 3, code := jdk_35_method_26_code, exceptionTable := #[], attributes := #[] }
def k10m1 : Method := { name := "<init>", desc := "(J)V", sig := { parameters := [.long], returnType := none }, accessFlags := 1, code := some k10c1 }
/-- java/lang/Long -/
def k10 : Class := { plain "java/lang/Long" (some 9) with
  accessFlags := 49
  interfaces := #[2, 6, 7]
  cf := some (fileOf pool10 1 #[.nestMembers #[235]] #[{ accessFlags := 9, nameIndex := 85, descriptorIndex := 229, attributes := #[] }, { accessFlags := 1, nameIndex := 59, descriptorIndex := 242, attributes := #[] }] 49 271 #[363, 365, 367] #[{ accessFlags := 25, nameIndex := 369, descriptorIndex := 276, attributes := #[] }, { accessFlags := 25, nameIndex := 371, descriptorIndex := 276, attributes := #[] }, { accessFlags := 25, nameIndex := 361, descriptorIndex := 362, attributes := #[] }, { accessFlags := 18, nameIndex := 275, descriptorIndex := 276, attributes := #[] }, { accessFlags := 25, nameIndex := 376, descriptorIndex := 377, attributes := #[] }, { accessFlags := 25, nameIndex := 379, descriptorIndex := 377, attributes := #[] }, { accessFlags := 26, nameIndex := 381, descriptorIndex := 276, attributes := #[] }])
  fields := #[{ name := "MIN_VALUE", type := .long, accessFlags := 25, slot := 0, constantValue := 0 }, { name := "MAX_VALUE", type := .long, accessFlags := 25, slot := 1, constantValue := 0 }, { name := "TYPE", type := (.object "java/lang/Class"), accessFlags := 25, slot := 2, constantValue := 0 }, { name := "value", type := .long, accessFlags := 18, slot := 0, constantValue := 0 }, { name := "SIZE", type := .int, accessFlags := 25, slot := 3, constantValue := 0 }, { name := "BYTES", type := .int, accessFlags := 25, slot := 4, constantValue := 0 }, { name := "serialVersionUID", type := .long, accessFlags := 26, slot := 5, constantValue := 0 }]
  methods := #[k10m0, k10m1]
  instanceTypes := #[.long]
  staticTypes := #[.long, .long, (.object "java/lang/Class"), .int, .int, .long]
  resolved := Array.replicate 524 none
  statics := none }

def pool11 : Array CpInfo := pool [(2, .class_ 4), (1, u "java/lang/Object"), (0, u "<init>"), (0, u "()V"), (0, .class_ 8), (0, u "java/lang/Long"), (7, .class_ 18), (1, u "java/lang/Long$LongCache"), (0, u "$assertionsDisabled"), (0, u "Z"), (8, u "archivedCache"), (0, u "[Ljava/lang/Long;"), (7, u "cache")] 24

def k11m0 : Method := { name := "<init>", desc := "()V", sig := { parameters := [], returnType := none }, accessFlags := 2, code := none }
/-- java/lang/Long$LongCache -/
def k11 : Class := { plain "java/lang/Long$LongCache" (some 0) with
  accessFlags := 48
  interfaces := #[]
  cf := some (fileOf pool11 16 #[.nestHost 7] #[{ accessFlags := 2, nameIndex := 5, descriptorIndex := 6, attributes := #[] }] 48 2 #[] #[{ accessFlags := 24, nameIndex := 38, descriptorIndex := 30, attributes := #[] }, { accessFlags := 8, nameIndex := 29, descriptorIndex := 30, attributes := #[] }, { accessFlags := 4120, nameIndex := 19, descriptorIndex := 20, attributes := #[] }])
  fields := #[{ name := "cache", type := (.array (.object "java/lang/Long")), accessFlags := 24, slot := 0, constantValue := 0 }, { name := "archivedCache", type := (.array (.object "java/lang/Long")), accessFlags := 8, slot := 1, constantValue := 0 }, { name := "$assertionsDisabled", type := .boolean, accessFlags := 4120, slot := 2, constantValue := 0 }]
  methods := #[k11m0]
  instanceTypes := #[]
  staticTypes := #[(.array (.object "java/lang/Long")), (.array (.object "java/lang/Long")), .boolean]
  resolved := Array.replicate 63 none
  statics := some 1 }

def pool12 : Array CpInfo := pool [(4, .class_ 6), (1, u "java/lang/Object"), (0, u "<init>"), (0, u "()V"), (5, .class_ 16), (1, u "java/lang/StringLatin1"), (104, u "$assertionsDisabled"), (0, u "Z"), (98, .class_ 223), (1, u "java/lang/StringLatin1$LinesSpliterator"), (57, u "equals"), (0, u "([B[B)Z"), (107, .class_ 391), (0, u "java/lang/StringLatin1$CharsSpliterator")] 3

def k12m0 : Method := { name := "<init>", desc := "()V", sig := { parameters := [], returnType := none }, accessFlags := 0, code := none }
def k12c1 : Code := { maxStack := 3, maxLocals := 3, code := jdk_43_method_13_code, exceptionTable := #[], attributes := #[] }
def k12m1 : Method := { name := "equals", desc := "([B[B)Z", sig := { parameters := [(.array .byte), (.array .byte)], returnType := some .boolean }, accessFlags := 9, code := some k12c1 }
/-- java/lang/StringLatin1 -/
def k12 : Class := { plain "java/lang/StringLatin1" (some 0) with
  accessFlags := 48
  interfaces := #[]
  cf := some (fileOf pool12 14 #[.nestMembers #[390, 221]] #[{ accessFlags := 0, nameIndex := 7, descriptorIndex := 8, attributes := #[] }, { accessFlags := 9, nameIndex := 281, descriptorIndex := 282, attributes := #[] }] 48 4 #[] #[{ accessFlags := 4120, nameIndex := 121, descriptorIndex := 122, attributes := #[] }])
  fields := #[{ name := "$assertionsDisabled", type := .boolean, accessFlags := 4120, slot := 0, constantValue := 0 }]
  methods := #[k12m0, k12m1]
  instanceTypes := #[]
  staticTypes := #[.boolean]
  resolved := Array.replicate 395 none
  statics := none }

def pool13 : Array CpInfo := pool [(6, .class_ 8), (1, u "java/lang/Object"), (0, u "<init>"), (0, u "()V"), (1, .class_ 14), (1, u "java/lang/StringUTF16"), (31, u "$assertionsDisabled"), (0, u "Z"), (13, u "HI_BYTE_SHIFT"), (0, u "I"), (2, u "LO_BYTE_SHIFT"), (49, .methodref 12 116), (0, .nameAndType 117 118), (0, u "compress"), (0, u "([CI[BII)I"), (3, u "([CII)[B"), (138, u "coderFromArrayLen"), (0, u "([BI)B"), (106, .class_ 371), (1, u "java/lang/StringUTF16$LinesSpliterator"), (58, u "MAX_LENGTH"), (196, .class_ 628), (0, u "java/lang/StringUTF16$CodePointsSpliterator"), (0, .class_ 630), (0, u "java/lang/StringUTF16$CharsSpliterator")] 4

def k13m0 : Method := { name := "<init>", desc := "()V", sig := { parameters := [], returnType := none }, accessFlags := 0, code := none }
def k13c1 : Code := { maxStack := 2, maxLocals := 2, code := jdk_52_method_15_code, exceptionTable := #[], attributes := #[] }
def k13m1 : Method := { name := "coderFromArrayLen", desc := "([BI)B", sig := { parameters := [(.array .byte), .int], returnType := some .byte }, accessFlags := 8, code := some k13c1 }
def k13c2 : Code := { maxStack := 5, maxLocals := 6, code := jdk_52_method_16_code, exceptionTable := #[], attributes := #[] }
def k13m2 : Method := { name := "compress", desc := "([CII)[B", sig := { parameters := [(.array .char), .int, .int], returnType := some (.array .byte) }, accessFlags := 9, code := some k13c2 }
def k13c3 : Code := { maxStack := 3, maxLocals := 7, code := jdk_52_method_21_code, exceptionTable := #[], attributes := #[] }
def k13m3 : Method := { name := "compress", desc := "([CI[BII)I", sig := { parameters := [(.array .char), .int, (.array .byte), .int, .int], returnType := some .int }, accessFlags := 9, code := some k13c3 }
/-- java/lang/StringUTF16 -/
def k13 : Class := { plain "java/lang/StringUTF16" (some 0) with
  accessFlags := 48
  interfaces := #[]
  cf := some (fileOf pool13 12 #[.nestMembers #[627, 629, 369]] #[{ accessFlags := 0, nameIndex := 9, descriptorIndex := 10, attributes := #[] }, { accessFlags := 8, nameIndex := 261, descriptorIndex := 262, attributes := #[] }, { accessFlags := 9, nameIndex := 117, descriptorIndex := 122, attributes := #[] }, { accessFlags := 9, nameIndex := 117, descriptorIndex := 118, attributes := #[] }] 48 6 #[] #[{ accessFlags := 26, nameIndex := 61, descriptorIndex := 62, attributes := #[] }, { accessFlags := 26, nameIndex := 65, descriptorIndex := 62, attributes := #[] }, { accessFlags := 24, nameIndex := 430, descriptorIndex := 62, attributes := #[] }, { accessFlags := 4120, nameIndex := 46, descriptorIndex := 47, attributes := #[] }])
  fields := #[{ name := "HI_BYTE_SHIFT", type := .int, accessFlags := 26, slot := 0, constantValue := 0 }, { name := "LO_BYTE_SHIFT", type := .int, accessFlags := 26, slot := 1, constantValue := 0 }, { name := "MAX_LENGTH", type := .int, accessFlags := 24, slot := 2, constantValue := 0 }, { name := "$assertionsDisabled", type := .boolean, accessFlags := 4120, slot := 3, constantValue := 0 }]
  methods := #[k13m0, k13m1, k13m2, k13m3]
  instanceTypes := #[]
  staticTypes := #[.int, .int, .int, .boolean]
  resolved := Array.replicate 635 none
  statics := none }

def pool14 : Array CpInfo := pool [(2, .class_ 4), (1, u "java/lang/Object"), (0, u "<init>"), (0, u "()V"), (17, .class_ 26), (1, u "jdk/internal/util/Preconditions"), (28, .class_ 56), (0, u "jdk/internal/util/Preconditions$4"), (57, .class_ 115), (0, u "jdk/internal/util/Preconditions$1"), (7, u "SIOOBE_FORMATTER"), (0, u "Ljava/util/function/BiFunction;"), (0, .class_ 126), (0, u "jdk/internal/util/Preconditions$2"), (3, u "AIOOBE_FORMATTER"), (0, .class_ 132), (0, u "jdk/internal/util/Preconditions$3"), (3, u "IOOBE_FORMATTER")] 57

def k14m0 : Method := { name := "<init>", desc := "()V", sig := { parameters := [], returnType := none }, accessFlags := 1, code := none }
/-- jdk/internal/util/Preconditions -/
def k14 : Class := { plain "jdk/internal/util/Preconditions" (some 0) with
  accessFlags := 33
  interfaces := #[]
  cf := some (fileOf pool14 24 #[.nestMembers #[55, 131, 125, 114]] #[{ accessFlags := 1, nameIndex := 5, descriptorIndex := 6, attributes := #[] }] 33 2 #[] #[{ accessFlags := 25, nameIndex := 123, descriptorIndex := 124, attributes := #[] }, { accessFlags := 25, nameIndex := 130, descriptorIndex := 124, attributes := #[] }, { accessFlags := 25, nameIndex := 136, descriptorIndex := 124, attributes := #[] }])
  fields := #[{ name := "SIOOBE_FORMATTER", type := (.object "java/util/function/BiFunction"), accessFlags := 25, slot := 0, constantValue := 0 }, { name := "AIOOBE_FORMATTER", type := (.object "java/util/function/BiFunction"), accessFlags := 25, slot := 1, constantValue := 0 }, { name := "IOOBE_FORMATTER", type := (.object "java/util/function/BiFunction"), accessFlags := 25, slot := 2, constantValue := 0 }]
  methods := #[k14m0]
  instanceTypes := #[]
  staticTypes := #[(.object "java/util/function/BiFunction"), (.object "java/util/function/BiFunction"), (.object "java/util/function/BiFunction")]
  resolved := Array.replicate 194 none
  statics := some 2 }

def pool15 : Array CpInfo := pool [(9, u "<init>"), (6, .class_ 18), (1, u "java/lang/Object"), (0, u "()V"), (1, .class_ 23), (1, u "jdk/internal/util/ArraysSupport"), (0, u "LOG2_ARRAY_LONG_INDEX_SCALE"), (0, u "I"), (2, u "U"), (0, u "Ljdk/internal/misc/Unsafe;"), (8, u "BIG_ENDIAN"), (0, u "Z"), (8, u "LOG2_BYTE_BIT_SIZE"), (4, u "LOG2_ARRAY_INT_INDEX_SCALE"), (54, u "JLA"), (0, u "Ljdk/internal/access/JavaLangAccess;"), (11, u "LOG2_ARRAY_BOOLEAN_INDEX_SCALE"), (9, u "LOG2_ARRAY_BYTE_INDEX_SCALE"), (5, u "LOG2_ARRAY_CHAR_INDEX_SCALE"), (5, u "LOG2_ARRAY_SHORT_INDEX_SCALE"), (18, u "LOG2_ARRAY_FLOAT_INDEX_SCALE"), (24, u "LOG2_ARRAY_DOUBLE_INDEX_SCALE"), (89, u "T_BOOLEAN"), (2, u "T_CHAR"), (1, u "T_FLOAT"), (1, u "T_DOUBLE"), (1, u "T_BYTE"), (1, u "T_SHORT"), (1, u "T_INT"), (1, u "T_LONG"), (1, u "SOFT_MAX_ARRAY_LENGTH")] 83

def k15m0 : Method := { name := "<init>", desc := "()V", sig := { parameters := [], returnType := none }, accessFlags := 2, code := none }
/-- jdk/internal/util/ArraysSupport -/
def k15 : Class := { plain "jdk/internal/util/ArraysSupport" (some 0) with
  accessFlags := 33
  interfaces := #[]
  cf := some (fileOf pool15 21 #[] #[{ accessFlags := 2, nameIndex := 9, descriptorIndex := 19, attributes := #[] }] 33 16 #[] #[{ accessFlags := 24, nameIndex := 28, descriptorIndex := 29, attributes := #[] }, { accessFlags := 26, nameIndex := 38, descriptorIndex := 39, attributes := #[] }, { accessFlags := 25, nameIndex := 121, descriptorIndex := 25, attributes := #[] }, { accessFlags := 25, nameIndex := 131, descriptorIndex := 25, attributes := #[] }, { accessFlags := 25, nameIndex := 137, descriptorIndex := 25, attributes := #[] }, { accessFlags := 25, nameIndex := 143, descriptorIndex := 25, attributes := #[] }, { accessFlags := 25, nameIndex := 53, descriptorIndex := 25, attributes := #[] }, { accessFlags := 25, nameIndex := 24, descriptorIndex := 25, attributes := #[] }, { accessFlags := 25, nameIndex := 162, descriptorIndex := 25, attributes := #[] }, { accessFlags := 25, nameIndex := 187, descriptorIndex := 25, attributes := #[] }, { accessFlags := 26, nameIndex := 48, descriptorIndex := 25, attributes := #[] }, { accessFlags := 25, nameIndex := 277, descriptorIndex := 25, attributes := #[] }, { accessFlags := 25, nameIndex := 280, descriptorIndex := 25, attributes := #[] }, { accessFlags := 25, nameIndex := 282, descriptorIndex := 25, attributes := #[] }, { accessFlags := 25, nameIndex := 284, descriptorIndex := 25, attributes := #[] }, { accessFlags := 25, nameIndex := 286, descriptorIndex := 25, attributes := #[] }, { accessFlags := 25, nameIndex := 288, descriptorIndex := 25, attributes := #[] }, { accessFlags := 25, nameIndex := 290, descriptorIndex := 25, attributes := #[] }, { accessFlags := 25, nameIndex := 292, descriptorIndex := 25, attributes := #[] }, { accessFlags := 26, nameIndex := 108, descriptorIndex := 109, attributes := #[] }, { accessFlags := 25, nameIndex := 294, descriptorIndex := 25, attributes := #[] }])
  fields := #[{ name := "U", type := (.object "jdk/internal/misc/Unsafe"), accessFlags := 24, slot := 0, constantValue := 0 }, { name := "BIG_ENDIAN", type := .boolean, accessFlags := 26, slot := 1, constantValue := 0 }, { name := "LOG2_ARRAY_BOOLEAN_INDEX_SCALE", type := .int, accessFlags := 25, slot := 2, constantValue := 0 }, { name := "LOG2_ARRAY_BYTE_INDEX_SCALE", type := .int, accessFlags := 25, slot := 3, constantValue := 0 }, { name := "LOG2_ARRAY_CHAR_INDEX_SCALE", type := .int, accessFlags := 25, slot := 4, constantValue := 0 }, { name := "LOG2_ARRAY_SHORT_INDEX_SCALE", type := .int, accessFlags := 25, slot := 5, constantValue := 0 }, { name := "LOG2_ARRAY_INT_INDEX_SCALE", type := .int, accessFlags := 25, slot := 6, constantValue := 0 }, { name := "LOG2_ARRAY_LONG_INDEX_SCALE", type := .int, accessFlags := 25, slot := 7, constantValue := 0 }, { name := "LOG2_ARRAY_FLOAT_INDEX_SCALE", type := .int, accessFlags := 25, slot := 8, constantValue := 0 }, { name := "LOG2_ARRAY_DOUBLE_INDEX_SCALE", type := .int, accessFlags := 25, slot := 9, constantValue := 0 }, { name := "LOG2_BYTE_BIT_SIZE", type := .int, accessFlags := 26, slot := 10, constantValue := 0 }, { name := "T_BOOLEAN", type := .int, accessFlags := 25, slot := 11, constantValue := 0 }, { name := "T_CHAR", type := .int, accessFlags := 25, slot := 12, constantValue := 0 }, { name := "T_FLOAT", type := .int, accessFlags := 25, slot := 13, constantValue := 0 }, { name := "T_DOUBLE", type := .int, accessFlags := 25, slot := 14, constantValue := 0 }, { name := "T_BYTE", type := .int, accessFlags := 25, slot := 15, constantValue := 0 }, { name := "T_SHORT", type := .int, accessFlags := 25, slot := 16, constantValue := 0 }, { name := "T_INT", type := .int, accessFlags := 25, slot := 17, constantValue := 0 }, { name := "T_LONG", type := .int, accessFlags := 25, slot := 18, constantValue := 0 }, { name := "JLA", type := (.object "jdk/internal/access/JavaLangAccess"), accessFlags := 26, slot := 19, constantValue := 0 }, { name := "SOFT_MAX_ARRAY_LENGTH", type := .int, accessFlags := 25, slot := 20, constantValue := 0 }]
  methods := #[k15m0]
  instanceTypes := #[]
  staticTypes := #[(.object "jdk/internal/misc/Unsafe"), .boolean, .int, .int, .int, .int, .int, .int, .int, .int, .int, .int, .int, .int, .int, .int, .int, .int, .int, (.object "jdk/internal/access/JavaLangAccess"), .int]
  resolved := Array.replicate 378 none
  statics := none }

def pool16 : Array CpInfo := pool [(1, u "java/lang/Cloneable"), (0, .class_ 1), (0, u "java/lang/Object"), (0, .class_ 3)] 3

/-- java/lang/Cloneable -/
def k16 : Class := { plain "java/lang/Cloneable" (some 0) with
  accessFlags := 1537
  interfaces := #[]
  cf := some (fileOf pool16 2 #[] #[] 1537 4 #[] #[])
  fields := #[]
  methods := #[]
  instanceTypes := #[]
  staticTypes := #[]
  resolved := Array.replicate 8 none
  statics := none }

/-- the primitive byte -/
def k17 : Class := { plain "byte" none with kind := .primitive 'B', accessFlags := 0x411 }
/-- [B -/
def k18 : Class := { plain "[B" (some 0) with kind := .array 17 .byte, interfaces := #[16, 4], accessFlags := 1041 }

/-- the primitive char -/
def k19 : Class := { plain "char" none with kind := .primitive 'C', accessFlags := 0x411 }
/-- [C -/
def k20 : Class := { plain "[C" (some 0) with kind := .array 19 .char, interfaces := #[16, 4], accessFlags := 1041 }

/-- the primitive int -/
def k21 : Class := { plain "int" none with kind := .primitive 'I', accessFlags := 0x411 }
/-- [I -/
def k22 : Class := { plain "[I" (some 0) with kind := .array 21 .int, interfaces := #[16, 4], accessFlags := 1041 }

/-- [Ljava/lang/Long; -/
def k23 : Class := { plain "[Ljava/lang/Long;" (some 0) with kind := .array 10 (.object "java/lang/Long"), interfaces := #[16, 4], accessFlags := 1041 }

def heap : Heap := #[{ cls := 8, slots := #[.long 0, .int 1, .null, .int 0, .null, .int 0, .int 0], vm := .statics 8 },
  { cls := 11, slots := #[.ref 3, .null, .int 0], vm := .statics 11 },
  { cls := 14, slots := #[.null, .null, .null], vm := .statics 14 },
  { cls := 23, slots := #[.ref 4, .ref 5, .ref 6, .ref 7, .ref 8, .ref 9, .ref 10, .ref 11, .ref 12, .ref 13, .ref 14, .ref 15, .ref 16, .ref 17, .ref 18, .ref 19, .ref 20, .ref 21, .ref 22, .ref 23, .ref 24, .ref 25, .ref 26, .ref 27, .ref 28, .ref 29, .ref 30, .ref 31, .ref 32, .ref 33, .ref 34, .ref 35, .ref 36, .ref 37, .ref 38, .ref 39, .ref 40, .ref 41, .ref 42, .ref 43, .ref 44, .ref 45, .ref 46, .ref 47, .ref 48, .ref 49, .ref 50, .ref 51, .ref 52, .ref 53, .ref 54, .ref 55, .ref 56, .ref 57, .ref 58, .ref 59, .ref 60, .ref 61, .ref 62, .ref 63, .ref 64, .ref 65, .ref 66, .ref 67, .ref 68, .ref 69, .ref 70, .ref 71, .ref 72, .ref 73, .ref 74, .ref 75, .ref 76, .ref 77, .ref 78, .ref 79, .ref 80, .ref 81, .ref 82, .ref 83, .ref 84, .ref 85, .ref 86, .ref 87, .ref 88, .ref 89, .ref 90, .ref 91, .ref 92, .ref 93, .ref 94, .ref 95, .ref 96, .ref 97, .ref 98, .ref 99, .ref 100, .ref 101, .ref 102, .ref 103, .ref 104, .ref 105, .ref 106, .ref 107, .ref 108, .ref 109, .ref 110, .ref 111, .ref 112, .ref 113, .ref 114, .ref 115, .ref 116, .ref 117, .ref 118, .ref 119, .ref 120, .ref 121, .ref 122, .ref 123, .ref 124, .ref 125, .ref 126, .ref 127, .ref 128, .ref 129, .ref 130, .ref 131, .ref 132, .ref 133, .ref 134, .ref 135, .ref 136, .ref 137, .ref 138, .ref 139, .ref 140, .ref 141, .ref 142, .ref 143, .ref 144, .ref 145, .ref 146, .ref 147, .ref 148, .ref 149, .ref 150, .ref 151, .ref 152, .ref 153, .ref 154, .ref 155, .ref 156, .ref 157, .ref 158, .ref 159, .ref 160, .ref 161, .ref 162, .ref 163, .ref 164, .ref 165, .ref 166, .ref 167, .ref 168, .ref 169, .ref 170, .ref 171, .ref 172, .ref 173, .ref 174, .ref 175, .ref 176, .ref 177, .ref 178, .ref 179, .ref 180, .ref 181, .ref 182, .ref 183, .ref 184, .ref 185, .ref 186, .ref 187, .ref 188, .ref 189, .ref 190, .ref 191, .ref 192, .ref 193, .ref 194, .ref 195, .ref 196, .ref 197, .ref 198, .ref 199, .ref 200, .ref 201, .ref 202, .ref 203, .ref 204, .ref 205, .ref 206, .ref 207, .ref 208, .ref 209, .ref 210, .ref 211, .ref 212, .ref 213, .ref 214, .ref 215, .ref 216, .ref 217, .ref 218, .ref 219, .ref 220, .ref 221, .ref 222, .ref 223, .ref 224, .ref 225, .ref 226, .ref 227, .ref 228, .ref 229, .ref 230, .ref 231, .ref 232, .ref 233, .ref 234, .ref 235, .ref 236, .ref 237, .ref 238, .ref 239, .ref 240, .ref 241, .ref 242, .ref 243, .ref 244, .ref 245, .ref 246, .ref 247, .ref 248, .ref 249, .ref 250, .ref 251, .ref 252, .ref 253, .ref 254, .ref 255, .ref 256, .ref 257, .ref 258, .ref 259], vm := .none },
  { cls := 10, slots := #[.long (-128)], vm := .none },
  { cls := 10, slots := #[.long (-127)], vm := .none },
  { cls := 10, slots := #[.long (-126)], vm := .none },
  { cls := 10, slots := #[.long (-125)], vm := .none },
  { cls := 10, slots := #[.long (-124)], vm := .none },
  { cls := 10, slots := #[.long (-123)], vm := .none },
  { cls := 10, slots := #[.long (-122)], vm := .none },
  { cls := 10, slots := #[.long (-121)], vm := .none },
  { cls := 10, slots := #[.long (-120)], vm := .none },
  { cls := 10, slots := #[.long (-119)], vm := .none },
  { cls := 10, slots := #[.long (-118)], vm := .none },
  { cls := 10, slots := #[.long (-117)], vm := .none },
  { cls := 10, slots := #[.long (-116)], vm := .none },
  { cls := 10, slots := #[.long (-115)], vm := .none },
  { cls := 10, slots := #[.long (-114)], vm := .none },
  { cls := 10, slots := #[.long (-113)], vm := .none },
  { cls := 10, slots := #[.long (-112)], vm := .none },
  { cls := 10, slots := #[.long (-111)], vm := .none },
  { cls := 10, slots := #[.long (-110)], vm := .none },
  { cls := 10, slots := #[.long (-109)], vm := .none },
  { cls := 10, slots := #[.long (-108)], vm := .none },
  { cls := 10, slots := #[.long (-107)], vm := .none },
  { cls := 10, slots := #[.long (-106)], vm := .none },
  { cls := 10, slots := #[.long (-105)], vm := .none },
  { cls := 10, slots := #[.long (-104)], vm := .none },
  { cls := 10, slots := #[.long (-103)], vm := .none },
  { cls := 10, slots := #[.long (-102)], vm := .none },
  { cls := 10, slots := #[.long (-101)], vm := .none },
  { cls := 10, slots := #[.long (-100)], vm := .none },
  { cls := 10, slots := #[.long (-99)], vm := .none },
  { cls := 10, slots := #[.long (-98)], vm := .none },
  { cls := 10, slots := #[.long (-97)], vm := .none },
  { cls := 10, slots := #[.long (-96)], vm := .none },
  { cls := 10, slots := #[.long (-95)], vm := .none },
  { cls := 10, slots := #[.long (-94)], vm := .none },
  { cls := 10, slots := #[.long (-93)], vm := .none },
  { cls := 10, slots := #[.long (-92)], vm := .none },
  { cls := 10, slots := #[.long (-91)], vm := .none },
  { cls := 10, slots := #[.long (-90)], vm := .none },
  { cls := 10, slots := #[.long (-89)], vm := .none },
  { cls := 10, slots := #[.long (-88)], vm := .none },
  { cls := 10, slots := #[.long (-87)], vm := .none },
  { cls := 10, slots := #[.long (-86)], vm := .none },
  { cls := 10, slots := #[.long (-85)], vm := .none },
  { cls := 10, slots := #[.long (-84)], vm := .none },
  { cls := 10, slots := #[.long (-83)], vm := .none },
  { cls := 10, slots := #[.long (-82)], vm := .none },
  { cls := 10, slots := #[.long (-81)], vm := .none },
  { cls := 10, slots := #[.long (-80)], vm := .none },
  { cls := 10, slots := #[.long (-79)], vm := .none },
  { cls := 10, slots := #[.long (-78)], vm := .none },
  { cls := 10, slots := #[.long (-77)], vm := .none },
  { cls := 10, slots := #[.long (-76)], vm := .none },
  { cls := 10, slots := #[.long (-75)], vm := .none },
  { cls := 10, slots := #[.long (-74)], vm := .none },
  { cls := 10, slots := #[.long (-73)], vm := .none },
  { cls := 10, slots := #[.long (-72)], vm := .none },
  { cls := 10, slots := #[.long (-71)], vm := .none },
  { cls := 10, slots := #[.long (-70)], vm := .none },
  { cls := 10, slots := #[.long (-69)], vm := .none },
  { cls := 10, slots := #[.long (-68)], vm := .none },
  { cls := 10, slots := #[.long (-67)], vm := .none },
  { cls := 10, slots := #[.long (-66)], vm := .none },
  { cls := 10, slots := #[.long (-65)], vm := .none },
  { cls := 10, slots := #[.long (-64)], vm := .none },
  { cls := 10, slots := #[.long (-63)], vm := .none },
  { cls := 10, slots := #[.long (-62)], vm := .none },
  { cls := 10, slots := #[.long (-61)], vm := .none },
  { cls := 10, slots := #[.long (-60)], vm := .none },
  { cls := 10, slots := #[.long (-59)], vm := .none },
  { cls := 10, slots := #[.long (-58)], vm := .none },
  { cls := 10, slots := #[.long (-57)], vm := .none },
  { cls := 10, slots := #[.long (-56)], vm := .none },
  { cls := 10, slots := #[.long (-55)], vm := .none },
  { cls := 10, slots := #[.long (-54)], vm := .none },
  { cls := 10, slots := #[.long (-53)], vm := .none },
  { cls := 10, slots := #[.long (-52)], vm := .none },
  { cls := 10, slots := #[.long (-51)], vm := .none },
  { cls := 10, slots := #[.long (-50)], vm := .none },
  { cls := 10, slots := #[.long (-49)], vm := .none },
  { cls := 10, slots := #[.long (-48)], vm := .none },
  { cls := 10, slots := #[.long (-47)], vm := .none },
  { cls := 10, slots := #[.long (-46)], vm := .none },
  { cls := 10, slots := #[.long (-45)], vm := .none },
  { cls := 10, slots := #[.long (-44)], vm := .none },
  { cls := 10, slots := #[.long (-43)], vm := .none },
  { cls := 10, slots := #[.long (-42)], vm := .none },
  { cls := 10, slots := #[.long (-41)], vm := .none },
  { cls := 10, slots := #[.long (-40)], vm := .none },
  { cls := 10, slots := #[.long (-39)], vm := .none },
  { cls := 10, slots := #[.long (-38)], vm := .none },
  { cls := 10, slots := #[.long (-37)], vm := .none },
  { cls := 10, slots := #[.long (-36)], vm := .none },
  { cls := 10, slots := #[.long (-35)], vm := .none },
  { cls := 10, slots := #[.long (-34)], vm := .none },
  { cls := 10, slots := #[.long (-33)], vm := .none },
  { cls := 10, slots := #[.long (-32)], vm := .none },
  { cls := 10, slots := #[.long (-31)], vm := .none },
  { cls := 10, slots := #[.long (-30)], vm := .none },
  { cls := 10, slots := #[.long (-29)], vm := .none },
  { cls := 10, slots := #[.long (-28)], vm := .none },
  { cls := 10, slots := #[.long (-27)], vm := .none },
  { cls := 10, slots := #[.long (-26)], vm := .none },
  { cls := 10, slots := #[.long (-25)], vm := .none },
  { cls := 10, slots := #[.long (-24)], vm := .none },
  { cls := 10, slots := #[.long (-23)], vm := .none },
  { cls := 10, slots := #[.long (-22)], vm := .none },
  { cls := 10, slots := #[.long (-21)], vm := .none },
  { cls := 10, slots := #[.long (-20)], vm := .none },
  { cls := 10, slots := #[.long (-19)], vm := .none },
  { cls := 10, slots := #[.long (-18)], vm := .none },
  { cls := 10, slots := #[.long (-17)], vm := .none },
  { cls := 10, slots := #[.long (-16)], vm := .none },
  { cls := 10, slots := #[.long (-15)], vm := .none },
  { cls := 10, slots := #[.long (-14)], vm := .none },
  { cls := 10, slots := #[.long (-13)], vm := .none },
  { cls := 10, slots := #[.long (-12)], vm := .none },
  { cls := 10, slots := #[.long (-11)], vm := .none },
  { cls := 10, slots := #[.long (-10)], vm := .none },
  { cls := 10, slots := #[.long (-9)], vm := .none },
  { cls := 10, slots := #[.long (-8)], vm := .none },
  { cls := 10, slots := #[.long (-7)], vm := .none },
  { cls := 10, slots := #[.long (-6)], vm := .none },
  { cls := 10, slots := #[.long (-5)], vm := .none },
  { cls := 10, slots := #[.long (-4)], vm := .none },
  { cls := 10, slots := #[.long (-3)], vm := .none },
  { cls := 10, slots := #[.long (-2)], vm := .none },
  { cls := 10, slots := #[.long (-1)], vm := .none },
  { cls := 10, slots := #[.long 0], vm := .none },
  { cls := 10, slots := #[.long 1], vm := .none },
  { cls := 10, slots := #[.long 2], vm := .none },
  { cls := 10, slots := #[.long 3], vm := .none },
  { cls := 10, slots := #[.long 4], vm := .none },
  { cls := 10, slots := #[.long 5], vm := .none },
  { cls := 10, slots := #[.long 6], vm := .none },
  { cls := 10, slots := #[.long 7], vm := .none },
  { cls := 10, slots := #[.long 8], vm := .none },
  { cls := 10, slots := #[.long 9], vm := .none },
  { cls := 10, slots := #[.long 10], vm := .none },
  { cls := 10, slots := #[.long 11], vm := .none },
  { cls := 10, slots := #[.long 12], vm := .none },
  { cls := 10, slots := #[.long 13], vm := .none },
  { cls := 10, slots := #[.long 14], vm := .none },
  { cls := 10, slots := #[.long 15], vm := .none },
  { cls := 10, slots := #[.long 16], vm := .none },
  { cls := 10, slots := #[.long 17], vm := .none },
  { cls := 10, slots := #[.long 18], vm := .none },
  { cls := 10, slots := #[.long 19], vm := .none },
  { cls := 10, slots := #[.long 20], vm := .none },
  { cls := 10, slots := #[.long 21], vm := .none },
  { cls := 10, slots := #[.long 22], vm := .none },
  { cls := 10, slots := #[.long 23], vm := .none },
  { cls := 10, slots := #[.long 24], vm := .none },
  { cls := 10, slots := #[.long 25], vm := .none },
  { cls := 10, slots := #[.long 26], vm := .none },
  { cls := 10, slots := #[.long 27], vm := .none },
  { cls := 10, slots := #[.long 28], vm := .none },
  { cls := 10, slots := #[.long 29], vm := .none },
  { cls := 10, slots := #[.long 30], vm := .none },
  { cls := 10, slots := #[.long 31], vm := .none },
  { cls := 10, slots := #[.long 32], vm := .none },
  { cls := 10, slots := #[.long 33], vm := .none },
  { cls := 10, slots := #[.long 34], vm := .none },
  { cls := 10, slots := #[.long 35], vm := .none },
  { cls := 10, slots := #[.long 36], vm := .none },
  { cls := 10, slots := #[.long 37], vm := .none },
  { cls := 10, slots := #[.long 38], vm := .none },
  { cls := 10, slots := #[.long 39], vm := .none },
  { cls := 10, slots := #[.long 40], vm := .none },
  { cls := 10, slots := #[.long 41], vm := .none },
  { cls := 10, slots := #[.long 42], vm := .none },
  { cls := 10, slots := #[.long 43], vm := .none },
  { cls := 10, slots := #[.long 44], vm := .none },
  { cls := 10, slots := #[.long 45], vm := .none },
  { cls := 10, slots := #[.long 46], vm := .none },
  { cls := 10, slots := #[.long 47], vm := .none },
  { cls := 10, slots := #[.long 48], vm := .none },
  { cls := 10, slots := #[.long 49], vm := .none },
  { cls := 10, slots := #[.long 50], vm := .none },
  { cls := 10, slots := #[.long 51], vm := .none },
  { cls := 10, slots := #[.long 52], vm := .none },
  { cls := 10, slots := #[.long 53], vm := .none },
  { cls := 10, slots := #[.long 54], vm := .none },
  { cls := 10, slots := #[.long 55], vm := .none },
  { cls := 10, slots := #[.long 56], vm := .none },
  { cls := 10, slots := #[.long 57], vm := .none },
  { cls := 10, slots := #[.long 58], vm := .none },
  { cls := 10, slots := #[.long 59], vm := .none },
  { cls := 10, slots := #[.long 60], vm := .none },
  { cls := 10, slots := #[.long 61], vm := .none },
  { cls := 10, slots := #[.long 62], vm := .none },
  { cls := 10, slots := #[.long 63], vm := .none },
  { cls := 10, slots := #[.long 64], vm := .none },
  { cls := 10, slots := #[.long 65], vm := .none },
  { cls := 10, slots := #[.long 66], vm := .none },
  { cls := 10, slots := #[.long 67], vm := .none },
  { cls := 10, slots := #[.long 68], vm := .none },
  { cls := 10, slots := #[.long 69], vm := .none },
  { cls := 10, slots := #[.long 70], vm := .none },
  { cls := 10, slots := #[.long 71], vm := .none },
  { cls := 10, slots := #[.long 72], vm := .none },
  { cls := 10, slots := #[.long 73], vm := .none },
  { cls := 10, slots := #[.long 74], vm := .none },
  { cls := 10, slots := #[.long 75], vm := .none },
  { cls := 10, slots := #[.long 76], vm := .none },
  { cls := 10, slots := #[.long 77], vm := .none },
  { cls := 10, slots := #[.long 78], vm := .none },
  { cls := 10, slots := #[.long 79], vm := .none },
  { cls := 10, slots := #[.long 80], vm := .none },
  { cls := 10, slots := #[.long 81], vm := .none },
  { cls := 10, slots := #[.long 82], vm := .none },
  { cls := 10, slots := #[.long 83], vm := .none },
  { cls := 10, slots := #[.long 84], vm := .none },
  { cls := 10, slots := #[.long 85], vm := .none },
  { cls := 10, slots := #[.long 86], vm := .none },
  { cls := 10, slots := #[.long 87], vm := .none },
  { cls := 10, slots := #[.long 88], vm := .none },
  { cls := 10, slots := #[.long 89], vm := .none },
  { cls := 10, slots := #[.long 90], vm := .none },
  { cls := 10, slots := #[.long 91], vm := .none },
  { cls := 10, slots := #[.long 92], vm := .none },
  { cls := 10, slots := #[.long 93], vm := .none },
  { cls := 10, slots := #[.long 94], vm := .none },
  { cls := 10, slots := #[.long 95], vm := .none },
  { cls := 10, slots := #[.long 96], vm := .none },
  { cls := 10, slots := #[.long 97], vm := .none },
  { cls := 10, slots := #[.long 98], vm := .none },
  { cls := 10, slots := #[.long 99], vm := .none },
  { cls := 10, slots := #[.long 100], vm := .none },
  { cls := 10, slots := #[.long 101], vm := .none },
  { cls := 10, slots := #[.long 102], vm := .none },
  { cls := 10, slots := #[.long 103], vm := .none },
  { cls := 10, slots := #[.long 104], vm := .none },
  { cls := 10, slots := #[.long 105], vm := .none },
  { cls := 10, slots := #[.long 106], vm := .none },
  { cls := 10, slots := #[.long 107], vm := .none },
  { cls := 10, slots := #[.long 108], vm := .none },
  { cls := 10, slots := #[.long 109], vm := .none },
  { cls := 10, slots := #[.long 110], vm := .none },
  { cls := 10, slots := #[.long 111], vm := .none },
  { cls := 10, slots := #[.long 112], vm := .none },
  { cls := 10, slots := #[.long 113], vm := .none },
  { cls := 10, slots := #[.long 114], vm := .none },
  { cls := 10, slots := #[.long 115], vm := .none },
  { cls := 10, slots := #[.long 116], vm := .none },
  { cls := 10, slots := #[.long 117], vm := .none },
  { cls := 10, slots := #[.long 118], vm := .none },
  { cls := 10, slots := #[.long 119], vm := .none },
  { cls := 10, slots := #[.long 120], vm := .none },
  { cls := 10, slots := #[.long 121], vm := .none },
  { cls := 10, slots := #[.long 122], vm := .none },
  { cls := 10, slots := #[.long 123], vm := .none },
  { cls := 10, slots := #[.long 124], vm := .none },
  { cls := 10, slots := #[.long 125], vm := .none },
  { cls := 10, slots := #[.long 126], vm := .none },
  { cls := 10, slots := #[.long 127], vm := .none }]
def classes : Array Class := #[k0, k1, k2, k3, k4, k5, k6, k7, k8, k9, k10, k11, k12, k13, k14, k15, k16, k17, k18, k19, k20, k21, k22, k23]
def interned : List (Array UInt16 × Addr) := []
def slotsUsed : Nat := 525
def theMethod : MethodId := ⟨1, 2⟩
def args0 : Array Value := #[.int 5, .int 5, .long 5, .long 5, .long 5, .int 5]
def aboutOver (below : List Frame) : State where
  vm := { classes := classes, interned := interned.toArray }
  heap := heap
  slotsUsed := slotsUsed
  threads := #[{ frames := .invoking theMethod args0 :: below }]
def below0 : List Frame := [.native { method := ⟨0, 0⟩, args := #[] }]
def about1 : State := aboutOver below0
def p0 : Program := .bare "" "" ""
def e0 : Env := launch0.env 0 0 0
theorem w_frames : about1.frames = Frame.invoking theMethod args0 :: below0 := rfl
set_option maxRecDepth 65536 in
theorem w_args : argsFit about1.vm theMethod args0 = true := by decide +kernel
set_option maxRecDepth 65536 in
theorem w_heap : heapFits about1 = true := by decide +kernel
set_option maxRecDepth 65536 in
theorem w_runnable : about1.curStatus? = some .runnable := by decide +kernel
set_option maxRecDepth 65536 in
theorem w_alone : about1.alone = true := by decide +kernel
set_option maxRecDepth 65536 in
theorem w_named : about1.methodNamed? x = some theMethod := by decide +kernel
set_option maxRecDepth 65536 in
theorem w_hears : about1.hears theMethod below0 = true := by decide +kernel
set_option maxRecDepth 65536 in
theorem w_ripe : about1.ripe theMethod args0 below0 = true := by decide +kernel
theorem w_running : about1.status = .running := rfl
set_option maxRecDepth 65536 in
theorem w_room : about1.hasRoom e0.platform room_1 = true :=
  launch0.hasRoom_least _ room_1 (by decide +kernel) (by decide +kernel) (by decide +kernel) (by decide +kernel) (by decide +kernel) (by decide +kernel)
theorem allAtoms_all (ts : List Jvm.Cond) (a : Array Jvm.Value) (st : Jvm.State) : (allAtoms ts).before a st = ts.all (fun c => c.before a st) := by
  induction ts with
  | nil => rfl
  | cons c t ih =>
    show (Jvm.Cond.and c (allAtoms t)).before a st = _
    rw [Jvm.Cond.before_and, ih, List.all_cons]
def words1 : List Jvm.Cond := Jvm.Cond.code x code maxLocals ret :: tables_1
/-- a 'code' word, met by the world's own term for the bytes: nothing is compared byte by byte -/
theorem code_word {y : MethodName} {bytes : ByteArray} {mx : Nat} {rt : Option FieldType} {a : Array Value} {s : State} {m : MethodId} {meth : Method} {c : Code} (h1 : s.methodNamed? y = some m) (h2 : s.vm.method? m = some meth) (h3 : meth.code = some c) (h4 : c.code = bytes)
    (h5 : (c.maxLocals == mx && c.exceptionTable.isEmpty && decide (c.maxStack ≤ mostOperands) && decide (meth.sig.returnType = rt) && !meth.locks && decide (parseMethodDescriptor y.desc = some meth.sig)) = true) : (Jvm.Cond.code y bytes mx rt).before a s = true := by
  simp only [Bool.and_eq_true, beq_iff_eq, Bool.not_eq_true', decide_eq_true_eq] at h5
  obtain ⟨⟨⟨⟨⟨g1, g2⟩, g3⟩, g4⟩, g5⟩, g6⟩ := h5
  simp [Cond.before, Cond.holds, Cond.value, h1, h2, h3, h4, g1, g2, g3, g4, g5, g6]
def isCode : Jvm.Cond → Bool
  | .code _ _ _ _ => true
  | _ => false
theorem all_split {L : List Jvm.Cond} {P : Jvm.Cond → Bool} (h1 : L.all (fun c => isCode c || P c) = true) (h2 : ∀ c ∈ L.filter isCode, P c = true) : L.all P = true := by
  refine List.all_eq_true.mpr fun c hc => ?_
  have h := List.all_eq_true.mp h1 c hc
  rcases Bool.eq_false_or_eq_true (isCode c) with hi | hi
  · exact h2 c (List.mem_filter.mpr ⟨hc, hi⟩)
  · simpa [hi] using h
set_option maxRecDepth 65536 in
theorem w_c0 : (Jvm.Cond.code x code maxLocals ret).before args0 about1 = true := code_word (m := ⟨1, 2⟩) (meth := k1m2) (c := k1c2) (by decide +kernel) rfl rfl rfl (by decide +kernel)
set_option maxRecDepth 65536 in
theorem w_c1 : (Jvm.Cond.code ({ cls := "com/example/greylag/greylag/model/BundleEqualsPinLaw", name := "str", desc := "(ICC)Ljava/lang/String;" } : Jvm.MethodName) method_2_code (3 : Nat) (Option.some (Jvm.ClassFile.FieldType.object "java/lang/String"))).before args0 about1 = true := code_word (m := ⟨1, 1⟩) (meth := k1m1) (c := k1c1) (by decide +kernel) rfl rfl rfl (by decide +kernel)
set_option maxRecDepth 65536 in
theorem w_c2 : (Jvm.Cond.code ({ cls := "java/lang/String", name := "<init>", desc := "([C)V" } : Jvm.MethodName) jdk_42_method_3_code (2 : Nat) (Option.none : Option Jvm.ClassFile.FieldType)).before args0 about1 = true := code_word (m := ⟨8, 1⟩) (meth := k8m1) (c := k8c1) (by decide +kernel) rfl rfl rfl (by decide +kernel)
set_option maxRecDepth 65536 in
theorem w_c3 : (Jvm.Cond.code ({ cls := "java/lang/String", name := "<init>", desc := "([CIILjava/lang/Void;)V" } : Jvm.MethodName) jdk_42_method_149_code (6 : Nat) (Option.none : Option Jvm.ClassFile.FieldType)).before args0 about1 = true := code_word (m := ⟨8, 3⟩) (meth := k8m3) (c := k8c3) (by decide +kernel) rfl rfl rfl (by decide +kernel)
set_option maxRecDepth 65536 in
theorem w_c4 : (Jvm.Cond.code ({ cls := "java/lang/Object", name := "<init>", desc := "()V" } : Jvm.MethodName) object_method_1_code (1 : Nat) (Option.none : Option Jvm.ClassFile.FieldType)).before args0 about1 = true := code_word (m := ⟨0, 0⟩) (meth := k0m0) (c := k0c0) (by decide +kernel) rfl rfl rfl (by decide +kernel)
set_option maxRecDepth 65536 in
theorem w_c5 : (Jvm.Cond.code ({ cls := "com/example/greylag/greylag/model/Bundle", name := "<init>", desc := "(Ljava/lang/String;JJ)V" } : Jvm.MethodName) prog_27_method_1_code (6 : Nat) (Option.none : Option Jvm.ClassFile.FieldType)).before args0 about1 = true := code_word (m := ⟨3, 0⟩) (meth := k3m0) (c := k3c0) (by decide +kernel) rfl rfl rfl (by decide +kernel)
set_option maxRecDepth 65536 in
theorem w_c6 : (Jvm.Cond.code ({ cls := "java/lang/Long", name := "valueOf", desc := "(J)Ljava/lang/Long;" } : Jvm.MethodName) jdk_35_method_24_code (3 : Nat) (Option.some (Jvm.ClassFile.FieldType.object "java/lang/Long"))).before args0 about1 = true := code_word (m := ⟨10, 0⟩) (meth := k10m0) (c := k10c0) (by decide +kernel) rfl rfl rfl (by decide +kernel)
set_option maxRecDepth 65536 in
theorem w_c7 : (Jvm.Cond.code ({ cls := "com/example/greylag/greylag/model/Bundle", name := "equals", desc := "(Ljava/lang/Object;)Z" } : Jvm.MethodName) prog_27_method_12_code (3 : Nat) (Option.some Jvm.ClassFile.FieldType.boolean)).before args0 about1 = true := code_word (m := ⟨3, 1⟩) (meth := k3m1) (c := k3c1) (by decide +kernel) rfl rfl rfl (by decide +kernel)
set_option maxRecDepth 65536 in
theorem w_c8 : (Jvm.Cond.code ({ cls := "java/lang/String", name := "equals", desc := "(Ljava/lang/Object;)Z" } : Jvm.MethodName) jdk_42_method_66_code (3 : Nat) (Option.some Jvm.ClassFile.FieldType.boolean)).before args0 about1 = true := code_word (m := ⟨8, 2⟩) (meth := k8m2) (c := k8c2) (by decide +kernel) rfl rfl rfl (by decide +kernel)
set_option maxRecDepth 65536 in
theorem w_c9 : (Jvm.Cond.code ({ cls := "java/lang/StringLatin1", name := "equals", desc := "([B[B)Z" } : Jvm.MethodName) jdk_43_method_13_code (3 : Nat) (Option.some Jvm.ClassFile.FieldType.boolean)).before args0 about1 = true := code_word (m := ⟨12, 1⟩) (meth := k12m1) (c := k12c1) (by decide +kernel) rfl rfl rfl (by decide +kernel)
set_option maxRecDepth 65536 in
theorem w_c10 : (Jvm.Cond.code ({ cls := "java/lang/Long", name := "<init>", desc := "(J)V" } : Jvm.MethodName) jdk_35_method_26_code (3 : Nat) (Option.none : Option Jvm.ClassFile.FieldType)).before args0 about1 = true := code_word (m := ⟨10, 1⟩) (meth := k10m1) (c := k10c1) (by decide +kernel) rfl rfl rfl (by decide +kernel)
set_option maxRecDepth 65536 in
theorem w_c11 : (Jvm.Cond.code ({ cls := "java/lang/Number", name := "<init>", desc := "()V" } : Jvm.MethodName) jdk_18_method_1_code (1 : Nat) (Option.none : Option Jvm.ClassFile.FieldType)).before args0 about1 = true := code_word (m := ⟨9, 0⟩) (meth := k9m0) (c := k9c0) (by decide +kernel) rfl rfl rfl (by decide +kernel)
set_option maxRecDepth 65536 in
theorem w_c12 : (Jvm.Cond.code ({ cls := "java/lang/StringUTF16", name := "compress", desc := "([CII)[B" } : Jvm.MethodName) jdk_52_method_16_code (6 : Nat) (Option.some (Jvm.ClassFile.FieldType.array Jvm.ClassFile.FieldType.byte))).before args0 about1 = true := code_word (m := ⟨13, 2⟩) (meth := k13m2) (c := k13c2) (by decide +kernel) rfl rfl rfl (by decide +kernel)
set_option maxRecDepth 65536 in
theorem w_c13 : (Jvm.Cond.code ({ cls := "java/lang/StringUTF16", name := "compress", desc := "([CI[BII)I" } : Jvm.MethodName) jdk_52_method_21_code (7 : Nat) (Option.some Jvm.ClassFile.FieldType.int)).before args0 about1 = true := code_word (m := ⟨13, 3⟩) (meth := k13m3) (c := k13c3) (by decide +kernel) rfl rfl rfl (by decide +kernel)
set_option maxRecDepth 65536 in
theorem w_c14 : (Jvm.Cond.code ({ cls := "java/lang/StringUTF16", name := "coderFromArrayLen", desc := "([BI)B" } : Jvm.MethodName) jdk_52_method_15_code (2 : Nat) (Option.some Jvm.ClassFile.FieldType.byte)).before args0 about1 = true := code_word (m := ⟨13, 1⟩) (meth := k13m1) (c := k13c1) (by decide +kernel) rfl rfl rfl (by decide +kernel)
def codes1 : List Jvm.Cond := [Jvm.Cond.code x code maxLocals ret, Jvm.Cond.code ({ cls := "com/example/greylag/greylag/model/BundleEqualsPinLaw", name := "str", desc := "(ICC)Ljava/lang/String;" } : Jvm.MethodName) method_2_code (3 : Nat) (Option.some (Jvm.ClassFile.FieldType.object "java/lang/String")), Jvm.Cond.code ({ cls := "java/lang/String", name := "<init>", desc := "([C)V" } : Jvm.MethodName) jdk_42_method_3_code (2 : Nat) (Option.none : Option Jvm.ClassFile.FieldType), Jvm.Cond.code ({ cls := "java/lang/String", name := "<init>", desc := "([CIILjava/lang/Void;)V" } : Jvm.MethodName) jdk_42_method_149_code (6 : Nat) (Option.none : Option Jvm.ClassFile.FieldType), Jvm.Cond.code ({ cls := "java/lang/Object", name := "<init>", desc := "()V" } : Jvm.MethodName) object_method_1_code (1 : Nat) (Option.none : Option Jvm.ClassFile.FieldType), Jvm.Cond.code ({ cls := "com/example/greylag/greylag/model/Bundle", name := "<init>", desc := "(Ljava/lang/String;JJ)V" } : Jvm.MethodName) prog_27_method_1_code (6 : Nat) (Option.none : Option Jvm.ClassFile.FieldType), Jvm.Cond.code ({ cls := "java/lang/Long", name := "valueOf", desc := "(J)Ljava/lang/Long;" } : Jvm.MethodName) jdk_35_method_24_code (3 : Nat) (Option.some (Jvm.ClassFile.FieldType.object "java/lang/Long")), Jvm.Cond.code ({ cls := "com/example/greylag/greylag/model/Bundle", name := "equals", desc := "(Ljava/lang/Object;)Z" } : Jvm.MethodName) prog_27_method_12_code (3 : Nat) (Option.some Jvm.ClassFile.FieldType.boolean), Jvm.Cond.code ({ cls := "java/lang/String", name := "equals", desc := "(Ljava/lang/Object;)Z" } : Jvm.MethodName) jdk_42_method_66_code (3 : Nat) (Option.some Jvm.ClassFile.FieldType.boolean), Jvm.Cond.code ({ cls := "java/lang/StringLatin1", name := "equals", desc := "([B[B)Z" } : Jvm.MethodName) jdk_43_method_13_code (3 : Nat) (Option.some Jvm.ClassFile.FieldType.boolean), Jvm.Cond.code ({ cls := "java/lang/Long", name := "<init>", desc := "(J)V" } : Jvm.MethodName) jdk_35_method_26_code (3 : Nat) (Option.none : Option Jvm.ClassFile.FieldType), Jvm.Cond.code ({ cls := "java/lang/Number", name := "<init>", desc := "()V" } : Jvm.MethodName) jdk_18_method_1_code (1 : Nat) (Option.none : Option Jvm.ClassFile.FieldType), Jvm.Cond.code ({ cls := "java/lang/StringUTF16", name := "compress", desc := "([CII)[B" } : Jvm.MethodName) jdk_52_method_16_code (6 : Nat) (Option.some (Jvm.ClassFile.FieldType.array Jvm.ClassFile.FieldType.byte)), Jvm.Cond.code ({ cls := "java/lang/StringUTF16", name := "compress", desc := "([CI[BII)I" } : Jvm.MethodName) jdk_52_method_21_code (7 : Nat) (Option.some Jvm.ClassFile.FieldType.int), Jvm.Cond.code ({ cls := "java/lang/StringUTF16", name := "coderFromArrayLen", desc := "([BI)B" } : Jvm.MethodName) jdk_52_method_15_code (2 : Nat) (Option.some Jvm.ClassFile.FieldType.byte)]
set_option maxRecDepth 65536 in
theorem codes_eq : words1.filter isCode = codes1 := rfl
theorem w_codes : ∀ c ∈ words1.filter isCode, c.before args0 about1 = true := by
  rw [codes_eq]
  intro c hc
  simp only [codes1, List.mem_cons, List.not_mem_nil, or_false] at hc
  rcases hc with rfl | rfl | rfl | rfl | rfl | rfl | rfl | rfl | rfl | rfl | rfl | rfl | rfl | rfl | rfl
  · exact w_c0
  · exact w_c1
  · exact w_c2
  · exact w_c3
  · exact w_c4
  · exact w_c5
  · exact w_c6
  · exact w_c7
  · exact w_c8
  · exact w_c9
  · exact w_c10
  · exact w_c11
  · exact w_c12
  · exact w_c13
  · exact w_c14
set_option maxRecDepth 65536 in
theorem w_t1 : (words1.take 24).all (fun c => isCode c || c.before args0 about1) = true := by decide +kernel
set_option maxRecDepth 65536 in
theorem w_t2 : ((words1.drop 24).take 24).all (fun c => isCode c || c.before args0 about1) = true := by decide +kernel
set_option maxRecDepth 65536 in
theorem w_t3 : (((words1.drop 24).drop 24).take 24).all (fun c => isCode c || c.before args0 about1) = true := by decide +kernel
set_option maxRecDepth 65536 in
theorem w_t4 : (((words1.drop 24).drop 24).drop 24).all (fun c => isCode c || c.before args0 about1) = true := by decide +kernel
theorem w_tables : (allAtoms (Jvm.Cond.code x code maxLocals ret :: tables_1)).before args0 about1 = true := by
  rw [allAtoms_all]
  show words1.all (fun c => c.before args0 about1) = true
  refine all_split ?_ w_codes
  rw [← List.take_append_drop 24 words1, List.all_append, w_t1, ← List.take_append_drop 24 (words1.drop 24), List.all_append, w_t2, ← List.take_append_drop 24 ((words1.drop 24).drop 24), List.all_append, w_t3, w_t4]
  rfl
set_option maxRecDepth 65536 in
theorem w_rest : rest_1_c.before args0 about1 = true := by decide +kernel
set_option maxRecDepth 65536 in
theorem w_case : (Jvm.Cond.and given_1 narrow_1).before args0 about1 = true := by decide +kernel
set_option maxRecDepth 65536 in
theorem w_consts : constsHeld consts_1 about1 := Jvm.Lit.constsHeldB_iff.mp (by decide +kernel)
theorem w_applies : (headSpec (Jvm.Cond.code x code maxLocals ret :: tables_1) room_1).applies x e0.platform about1 = true :=
  (Spec.applies_iff w_frames).mpr ⟨w_running, w_runnable, w_alone, w_named, w_hears, w_ripe, w_room, w_tables⟩
theorem atStart : AtStart classFile x code maxLocals ret World_1 tables_1 room_1 Calls_1 rest_1 Pre_1 launch0 p0 e0 about1 theMethod args0 below0 :=
  ⟨lists_1, trivial, launch0.admits_env _ _ _, launch0.least_env, fairChoices_fair.cas, fairChoices_fair.clock, w_frames, w_args, w_heap, w_applies, ⟨w_consts, trivial⟩, w_rest, w_case⟩
end start1
theorem witness_1 : WitnessClaimed_1 := ⟨start1.p0, start1.e0, start1.about1, start1.theMethod, start1.args0, start1.below0, start1.atStart⟩
end Jvm.Pilot.@@N@@
